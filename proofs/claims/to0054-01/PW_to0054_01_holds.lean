import PyProof.Rows.All
import Wide.All
import OpenK.AllK
import Wide.FinOn
import PyProof.AssignAttr
import PySem.Challenge.RW_to0054_01
set_option autoImplicit false
set_option genInjectivity false
set_option genSizeOf false
set_option compiler.extract_closed false
set_option maxHeartbeats 2000000
set_option linter.unusedVariables false
set_option Elab.async false
set_option maxRecDepth 100000
namespace Mine
open PySem PySem.Spec PySem.Calls PyProof.Rows PySem.W

end Mine
open PySem PySem.W PyProof.Rows
namespace Mine
def pickM {α : Type} (l : List α) : List Nat → List α
  | [] => []
  | i :: is => match l[i]? with
    | some x => x :: pickM l is
    | none => pickM l is
def view01 : Program := { PySem.Challenge.pw_to0054_01 with main := { PySem.Challenge.pw_to0054_01.main with body := pickM PySem.Challenge.pw_to0054_01.main.body [0, 2, 4, 5, 6, 7, 8, 9, 10, 12, 13, 14, 16, 17, 18, 19, 20, 21, 22, 23, 24, 25, 26] } }
theorem said_looks : looksOpen (OpenLaw.row PySem.Challenge.rw_to0054_01).prog = true :=
  look_both (look_both (look_both (look_both (look_both (by decide +kernel) (by decide +kernel)) (by decide +kernel)) (by decide +kernel)) (by decide +kernel)) (by decide +kernel)
theorem said_part : (OpenLaw.row PySem.Challenge.rw_to0054_01).partSaid = true :=
  look_both (look_both (look_both (look_both (look_both (look_both (look_both (look_both (look_both (look_both (look_both (look_both (look_both said_looks (by decide +kernel)) (by decide +kernel)) (by decide +kernel)) (by decide +kernel)) (by decide +kernel)) (by decide +kernel)) (by decide +kernel)) (by decide +kernel)) (by decide +kernel)) (by decide +kernel)) (by decide +kernel)) (by decide +kernel)) (by decide +kernel)
theorem said_row : (OpenLaw.row PySem.Challenge.rw_to0054_01).wellSaid = true := look_both (look_both said_part (by decide +kernel)) (by decide +kernel)
theorem said01 : PySem.Challenge.rw_to0054_01.wellSaid = true :=
  look_both (look_both (look_both (look_both (look_both (look_both (look_both (look_both (look_both (look_both (look_both (look_both (look_both (look_both (look_both (look_both (look_both (look_both said_row (by decide +kernel)) (by decide +kernel)) (by decide +kernel)) (by decide +kernel)) (by decide +kernel)) (by decide +kernel)) (by decide +kernel)) (by decide +kernel)) (by decide +kernel)) (by decide +kernel)) (by decide +kernel)) (by decide +kernel)) (by decide +kernel)) (by decide +kernel)) (by decide +kernel)) (by decide +kernel)) (by decide +kernel)) (by decide +kernel)
end Mine
local macro_rules
  | `(tactic| o_head $H) => `(tactic| (
    refine holds_open (q := Mine.view01) (loose := [PySem.Str.ofString "Whitespace"]) (Xt := fun s => xlAt Mine.view01 ([] : List (PySem.Str × WData)) s && recOk (RowW.records (OpenRow.toRowW (OpenLaw.row PySem.Challenge.rw_to0054_01))) s) (XP := XL Mine.view01 ([] : List (PySem.Str × WData))) (Yf := Hook.obs $H) (Ya := Hook.val $H) (YP := Hook.says $H) (N := 3188) ?hl (Hook.of $H) (Hook.keeps $H) (fun s e => xl_of s (Bool.and_eq_true_iff.mp e).1) XL.keeps (by rfl) (by rfl) (by rfl) (fun s e => recFacts_of (Bool.and_eq_true_iff.mp e).2) (by rfl) (by first | assumption | decide +kernel) (by decide +kernel) ⟨rfl, rfl, rfl, rfl, rfl, by decide +kernel⟩ ?hw ?hc
    (case hl => exact LeftO.of_split "special-get-raises" (fun w => by kernel_rfl))))
local macro_rules
  | `(tactic| o_law) => `(tactic| refine holds_law (l := PySem.Challenge.rw_to0054_01) Mine.said01 fun said => ?_)
set_option maxHeartbeats 8000000 in
open_top hd for PySem.Challenge.rw_to0054_01
namespace Mine
open PySem PySem.Spec PySem.Calls PyProof.Rows PySem.W

/-! # F0 -/

/-! ## values read off a heap, addresses of D left out -/
mutual
inductive Rd (h : Heap) (D : List Addr) : Value → PyData → Prop
  | none : Rd h D .none .none
  | bool (b : Bool) : Rd h D (.bool b) (.bool b)
  | int (i : Int) (t : Tok) : Rd h D (.int i t) (.int i)
  | str (x : Str) (t : Tok) : Rd h D (.str x t) (.str x)
  | list {a : Addr} {vs : Array Value} {n : Nat} {xs : List PyData} : a ∉ D → h.get? a = some { cls := .type "list", data := .seq vs n } → AllRd h D vs.toList xs → Rd h D (.ref a) (.list xs)
  | tuple {a : Addr} {vs : Array Value} {n : Nat} {xs : List PyData} : a ∉ D → h.get? a = some { cls := .type "tuple", data := .seq vs n } → AllRd h D vs.toList xs → Rd h D (.ref a) (.tuple xs)
inductive AllRd (h : Heap) (D : List Addr) : List Value → List PyData → Prop
  | nil : AllRd h D [] []
  | cons {v : Value} {vs : List Value} {d : PyData} {ds : List PyData} : Rd h D v d → AllRd h D vs ds → AllRd h D (v :: vs) (d :: ds)
end

/-- what lies outside D in the first heap lies so in the second, outside D' -/
def Sub (D D' : List Addr) (h h' : Heap) : Prop := ∀ b o, b ∉ D → h.get? b = some o → b ∉ D' ∧ h'.get? b = some o

mutual
theorem Rd.sub {D D' : List Addr} {h h' : Heap} (k : Sub D D' h h') : ∀ {v : Value} {d : PyData}, Rd h D v d → Rd h' D' v d
  | _, _, .none => .none
  | _, _, .bool b => .bool b
  | _, _, .int i t => .int i t
  | _, _, .str x t => .str x t
  | _, _, .list h0 h1 h4 => .list (k _ _ h0 h1).1 (k _ _ h0 h1).2 (AllRd.sub k h4)
  | _, _, .tuple h0 h1 h4 => .tuple (k _ _ h0 h1).1 (k _ _ h0 h1).2 (AllRd.sub k h4)
theorem AllRd.sub {D D' : List Addr} {h h' : Heap} (k : Sub D D' h h') : ∀ {vs : List Value} {ds : List PyData}, AllRd h D vs ds → AllRd h' D' vs ds
  | _, _, .nil => .nil
  | _, _, .cons a b => .cons (Rd.sub k a) (AllRd.sub k b)
end
mutual
theorem Rd.reads {D : List Addr} {h : Heap} : ∀ {v : Value} {d : PyData}, Rd h D v d → ∃ as, Reads h v d as
  | _, _, .none => ⟨_, .none⟩
  | _, _, .bool b => ⟨_, .bool b⟩
  | _, _, .int i t => ⟨_, .int i t⟩
  | _, _, .str x t => ⟨_, .str x t⟩
  | _, _, .list _ h1 h4 => let ⟨_, r⟩ := AllRd.reads h4; ⟨_, .list h1 rfl rfl r⟩
  | _, _, .tuple _ h1 h4 => let ⟨_, r⟩ := AllRd.reads h4; ⟨_, .tuple h1 rfl rfl r⟩
theorem AllRd.reads {D : List Addr} {h : Heap} : ∀ {vs : List Value} {ds : List PyData}, AllRd h D vs ds → ∃ as, ReadsAll h vs ds as
  | _, _, .nil => ⟨_, .nil⟩
  | _, _, .cons a b => let ⟨_, r⟩ := Rd.reads a; let ⟨_, q⟩ := AllRd.reads b; ⟨_, .cons r q⟩
end
section
variable {h : Heap} {D : List Addr}
theorem Rd.int_inv {v : Value} {i : Int} (r : Rd h D v (.int i)) : ∃ t, v = .int i t := by cases r; exact ⟨_, rfl⟩
theorem Rd.bool_inv {v : Value} {b : Bool} (r : Rd h D v (.bool b)) : v = .bool b := by cases r; rfl
theorem Rd.str_inv {v : Value} {x : Str} (r : Rd h D v (.str x)) : ∃ t, v = .str x t := by cases r; exact ⟨_, rfl⟩
theorem Rd.list_inv {v : Value} {xs : List PyData} (r : Rd h D v (.list xs)) : ∃ a vs, v = .ref a ∧ a ∉ D ∧ h.PlainList a vs ∧ AllRd h D vs.toList xs := by
  cases r with | list h0 h1 h4 => exact ⟨_, _, rfl, h0, ⟨_, h1⟩, h4⟩
theorem Rd.tuple_inv {v : Value} {xs : List PyData} (r : Rd h D v (.tuple xs)) : ∃ a vs n, v = .ref a ∧ a ∉ D ∧ h.get? a = some { cls := .type "tuple", data := .seq vs n } ∧ AllRd h D vs.toList xs := by
  cases r with | tuple h0 h1 h4 => exact ⟨_, _, _, rfl, h0, h1, h4⟩
theorem AllRd.length {vs : List Value} {ds : List PyData} (r : AllRd h D vs ds) : vs.length = ds.length := by
  induction vs generalizing ds with
  | nil => cases r; rfl
  | cons v vs ih => cases r with | cons _ b => simp [ih b]
theorem AllRd.get {vs : List Value} {ds : List PyData} (r : AllRd h D vs ds) {i : Nat} {v : Value} (e : vs[i]? = some v) : ∃ d, ds[i]? = some d ∧ Rd h D v d := by
  induction vs generalizing ds i with
  | nil => simp at e
  | cons w vs ih =>
    cases r with
    | cons a b =>
      cases i with
      | zero => simp at e; subst e; exact ⟨_, rfl, a⟩
      | succ i => simpa using ih b (by simpa using e)
theorem AllRd.get' {vs : List Value} {ds : List PyData} (r : AllRd h D vs ds) {i : Nat} {d : PyData} (e : ds[i]? = some d) : ∃ v, vs[i]? = some v ∧ Rd h D v d := by
  induction vs generalizing ds i with
  | nil => cases r; simp at e
  | cons w vs ih =>
    cases r with
    | cons a b =>
      cases i with
      | zero => simp at e; subst e; exact ⟨_, rfl, a⟩
      | succ i => simpa using ih b (by simpa using e)
theorem AllRd.append {vs vs' : List Value} {ds ds' : List PyData} (r : AllRd h D vs ds) (r' : AllRd h D vs' ds') : AllRd h D (vs ++ vs') (ds ++ ds') := by
  induction vs generalizing ds with
  | nil => cases r; exact r'
  | cons w vs ih => cases r with | cons a b => exact AllRd.cons a (ih b)
theorem AllRd.of_get {vs : List Value} {ds : List PyData} (hl : vs.length = ds.length) (k : ∀ (i : Nat) v d, vs[i]? = some v → ds[i]? = some d → Rd h D v d) : AllRd h D vs ds := by
  induction vs generalizing ds with
  | nil => cases ds with | nil => exact .nil | cons _ _ => simp at hl
  | cons v vs ih =>
    cases ds with
    | nil => simp at hl
    | cons d ds => exact .cons (k 0 _ _ rfl rfl) (ih (by simpa using hl) fun i w e h1 h2 => k (i + 1) w e (by simpa using h1) (by simpa using h2))
theorem AllRd.set {vs : List Value} {ds : List PyData} (r : AllRd h D vs ds) (i : Nat) {v : Value} {d : PyData} (q : Rd h D v d) : AllRd h D (vs.set i v) (ds.set i d) := by
  induction vs generalizing ds i with
  | nil => cases r; exact .nil
  | cons w vs ih =>
    cases r with
    | cons a b =>
      cases i with
      | zero => exact .cons q b
      | succ i => exact .cons a (ih b i)
theorem AllRd.reverse {vs : List Value} {ds : List PyData} (r : AllRd h D vs ds) : AllRd h D vs.reverse ds.reverse := by
  induction vs generalizing ds with
  | nil => cases r; exact .nil
  | cons w vs ih => cases r with | cons a b => rw [List.reverse_cons, List.reverse_cons]; exact (ih b).append (.cons a .nil)
theorem AllRd.ints {vs : List Value} {ns : List Int} (r : AllRd h D vs (ns.map .int)) : IntsAre vs ns := by
  induction vs generalizing ns with
  | nil =>
    cases ns with
    | nil => exact .nil
    | cons _ _ => cases r
  | cons w vs ih =>
    cases ns with
    | nil => cases r
    | cons n ns =>
      cases r with
      | cons a b =>
        obtain ⟨t, rfl⟩ := a.int_inv
        exact IntsAre.cons _ _ (ih b)
end

/-- a value of the program's, told: data, or an object of the class at C with just these attributes -/
inductive Tr where
  | d (d : PyData)
  | ob (C : Addr) (fs : List (Str × PyData))
  | rf (a : Addr)

def ObAt (h : Heap) (D : List Addr) (C : Addr) (fs : List (Str × PyData)) (v : Value) : Prop :=
  ∃ a dx es n, v = .ref a ∧ a ∉ D ∧ dx ∉ D ∧ h.get? a = some ⟨.ref C, some dx, .plain, #[]⟩ ∧ h.get? dx = some (dictOf es n) ∧
    (∀ x, (∃ d, fs.lookup x = some d ∧ ∃ v, getL x es = some (some v) ∧ Rd h D v d) ∨ (fs.lookup x = none ∧ getL x es = some none))

def Is (h : Heap) (D : List Addr) (v : Value) : Tr → Prop
  | .d d => Rd h D v d
  | .ob C fs => ObAt h D C fs v
  | .rf a => v = .ref a

theorem Is.sub {D D' : List Addr} {h h' : Heap} (k : Sub D D' h h') {v : Value} {t : Tr} (r : Is h D v t) : Is h' D' v t := by
  cases t with
  | d d => exact Rd.sub k r
  | ob C fs =>
    obtain ⟨a, dx, es, n, e, n1, n2, h1, h2, r⟩ := r
    refine ⟨a, dx, es, n, e, (k _ _ n1 h1).1, (k _ _ n2 h2).1, (k _ _ n1 h1).2, (k _ _ n2 h2).2, fun x => ?_⟩
    rcases r x with ⟨d, l, v, g, q⟩ | q
    · exact .inl ⟨d, l, v, g, q.sub k⟩
    · exact .inr q
  | rf a => exact r

inductive AllIs (h : Heap) (D : List Addr) : List Value → List Tr → Prop
  | nil : AllIs h D [] []
  | cons {v : Value} {vs : List Value} {t : Tr} {ts : List Tr} : Is h D v t → AllIs h D vs ts → AllIs h D (v :: vs) (t :: ts)
theorem AllIs.sub {D D' : List Addr} {h h' : Heap} (k : Sub D D' h h') {vs : List Value} {ts : List Tr} (r : AllIs h D vs ts) : AllIs h' D' vs ts := by
  induction vs generalizing ts with
  | nil => cases r; exact .nil
  | cons v vs ih => cases r with | cons a b => exact .cons (a.sub k) (ih b)
theorem AllIs.length {D : List Addr} {h : Heap} {vs : List Value} {ts : List Tr} (r : AllIs h D vs ts) : vs.length = ts.length := by
  induction vs generalizing ts with
  | nil => cases r; rfl
  | cons v vs ih => cases r with | cons a b => simp [ih b]
theorem AllIs.get {D : List Addr} {h : Heap} {vs : List Value} {ts : List Tr} (r : AllIs h D vs ts) {i : Nat} {v : Value} (e : vs[i]? = some v) : ∃ t, ts[i]? = some t ∧ Is h D v t := by
  induction vs generalizing ts i with
  | nil => simp at e
  | cons w vs ih =>
    cases r with
    | cons a b =>
      cases i with
      | zero => simp at e; subst e; exact ⟨_, rfl, a⟩
      | succ i => simpa using ih b (by simpa using e)
theorem AllIs.all {D : List Addr} {h : Heap} : ∀ {vs : List Value} {ds : List PyData}, AllIs h D vs (ds.map .d) → AllRd h D vs ds
  | [], [], _ => .nil
  | [], _ :: _, r => by cases r
  | _ :: _, [], r => by cases r
  | _ :: _, _ :: _, r => by cases r with | cons a b => exact .cons a b.all

/-! ## the ground -/
structure Tab where
  c : Addr
  P : Addr
  line : Nat
  col : Nat
  qual : Str

structure Gd where
  prog : Program
  w : World
  hG : Heap
  os : OsState
  gens : Array GenState
  K : Frag
  mg : Str → Option Value
  mb : Str → Option Value
  tabs : List Tab
abbrev Gd.T (G : Gd) : List Addr := G.tabs.map (·.P)
abbrev Gd.M (G : Gd) : Model := model G.prog G.w

def TabAt (h : Heap) (q : Tab) : Prop :=
  ∃ ps, h.get? q.P = some (tabObj ps) ∧ (ps = #[] ∨ ∃ c', ps = #[rawInt q.line, rawInt q.col, .ref c'] ∧ h.CodeRec (.ref c') q.qual)

structure Good (G : Gd) (s : Shared) : Prop where
  stays : G.hG.StaysIn s.heap
  tab : ∀ q ∈ G.tabs, TabAt s.heap q
  gens : s.gens = G.gens
  os : s.os = G.os

/-- all outside the tables stands -/
def Keep (G : Gd) (h h' : Heap) : Prop := ∀ b o, b ∉ G.T → h.get? b = some o → h'.get? b = some o
theorem Keep.refl {G : Gd} (h : Heap) : Keep G h h := fun _ _ _ e => e
theorem Keep.trans {G : Gd} {h h' h'' : Heap} (a : Keep G h h') (b : Keep G h' h'') : Keep G h h'' := fun x o n e => b x o n (a x o n e)
theorem Keep.of {G : Gd} {h h' : Heap} (k : ∀ b o, h.get? b = some o → h'.get? b = some o) : Keep G h h' := fun b o _ e => k b o e
def Step (G : Gd) (s s' : Shared) : Prop := Good G s' ∧ Keep G s.heap s'.heap
theorem Step.trans {G : Gd} {s s' s'' : Shared} (a : Step G s s') (b : Step G s' s'') : Step G s s'' := ⟨b.1, a.2.trans b.2⟩
theorem Step.refl {G : Gd} {s : Shared} (g : Good G s) : Step G s s := ⟨g, .refl _⟩
theorem TabAt.keeps {h h' : Heap} {q : Tab} (x : TabAt h q) (k : ∀ b o, h.get? b = some o → h'.get? b = some o) : TabAt h' q := by
  obtain ⟨ps, e, r⟩ := x
  refine ⟨ps, k _ _ e, ?_⟩
  rcases r with r | ⟨c, r, q⟩
  · exact .inl r
  · exact .inr ⟨c, r, q.keeps k⟩
theorem Good.grow {G : Gd} {s : Shared} (g : Good G s) {h' : Heap} {tk : Nat} (k : ∀ b o, s.heap.get? b = some o → h'.get? b = some o) : Good G { s with heap := h', toks := tk } :=
  ⟨fun b o e => k b o (g.stays b o e), fun q hq => (g.tab q hq).keeps k, g.gens, g.os⟩
theorem Step.grow {G : Gd} {s : Shared} (g : Good G s) {h' : Heap} {tk : Nat} (k : ∀ b o, s.heap.get? b = some o → h'.get? b = some o) : Step G s { s with heap := h', toks := tk } := ⟨g.grow k, .of k⟩

/-- what the ground's heap says -/
structure Gr (G : Gd) : Prop where
  X : G.K.In G.hG
  g : G.hG.Ns mainGlobals G.mg
  b : G.hG.Ns builtinsNs G.mb
  nolimit : G.hG.NoLimit
  builtins : ∀ x : Str, x ≠ "__name__" → G.mb x = bootBuiltins x
  code : ∀ q ∈ G.tabs, CodeHd G.hG q.c q.P
  Tno : ∀ a ∈ G.T, G.hG.get? a = none
  tinj : ∀ r ∈ G.tabs, ∀ q ∈ G.tabs, r.P = q.P → r = q
  bmain : ∃ bm ob, G.mg "__builtins__" = some (.ref bm) ∧ bm ≠ builtinsNs ∧ G.hG.get? bm = some ob ∧ ob.cls = .type "module" ∧ ob.dict = some builtinsNs ∧ ob.data = .plain

/-- what a call of f by these arguments gives back, with d frames to spare -/
def Spec (G : Gd) (d : Nat) (f : Value) (args : List Tr) (r : Tr) : Prop :=
  ∀ (A : Around) (s : Shared) (D : List Addr) (vs : List Value), A.handled = none → A.depth + d ≤ recursionLimit → A.units + 8 * d + 80 ≤ cLine → Good G s → (∀ a ∈ G.T, a ∈ D) → (∀ a ∈ D, ∃ o, s.heap.get? a = some o) →
    AllIs s.heap D vs args →
    wpAny G.M A (PySem.call f vs) (fun v s' => Step G s s' ∧ Is s'.heap D v r) (fun _ _ => False) s
theorem Spec.mono {G : Gd} {d d' : Nat} {f : Value} {args : List Tr} {r : Tr} (h : Spec G d f args r) (hd : d ≤ d') : Spec G d' f args r :=
  fun A s D vs h1 h2 h3 => h A s D vs h1 (by (first | lia | omega)) (by (first | lia | omega))


/-! # F1 -/

/-! ## frames -/
structure Cx where
  A : Around
  env : Env
  vars : List Str
  kinds : List NameKind
  M : List Addr
  H : List Addr
  d : Nat

inductive Slot where
  | no
  | v (t : Tr)
  | own (a : Addr) (ts : List PyData)

def owns : List Slot → List Addr
  | [] => []
  | .own a _ :: r => a :: owns r
  | _ :: r => owns r

abbrev hid (X : Cx) (μ : List Slot) : List Addr := owns μ ++ (X.M ++ X.H)

structure WX (G : Gd) (X : Cx) : Prop where
  hand : X.A.handled = none
  depth : X.A.depth + X.d ≤ recursionLimit
  units : X.A.units + 8 * X.d + 80 ≤ cLine
  fk : X.env.scope.kind = .function
  gl : X.env.globals = mainGlobals
  bi : X.env.builtins = builtinsNs
  kind : ∀ (i : Nat) x k, X.vars[i]? = some x → X.kinds[i]? = some k → X.env.kindOf x = some k ∨ (k = .free ∧ X.env.kindOf x = some .cell)
  dbg : ∀ (i : Nat) x, X.vars[i]? = some x → (x == ("__debug__" : Str)) = false ∧ (x == ("__classdict__" : Str)) = false
  inj : ∀ (i j : Nat) x, X.vars[i]? = some x → X.vars[j]? = some x → i = j
  LM : X.env.locals ∈ X.M
  TM : ∀ a ∈ G.T, a ∈ X.M
  Lnew : G.hG.get? X.env.locals = none
  Cnew : ∀ (i : Nat) x c, X.vars[i]? = some x → X.kinds[i]? = some .cell → X.env.cells.lookup x = some c → G.hG.get? c = none
  cellM : ∀ (i : Nat) x c, X.vars[i]? = some x → X.kinds[i]? = some .cell → X.env.cells.lookup x = some c → c ∈ X.M
  cellOf : ∀ (i : Nat) x k, X.vars[i]? = some x → X.kinds[i]? = some k → (k = .cell ∨ k = .free) → (X.env.cells.lookup x).isSome = true
  cinj : ∀ x y c, X.env.cells.lookup x = some c → X.env.cells.lookup y = some c → x = y

theorem WX.kind' {G : Gd} {X : Cx} (w : WX G X) {i : Nat} {x : Str} {k : NameKind} (h1 : X.vars[i]? = some x) (h2 : X.kinds[i]? = some k) (hk : k ≠ .free) : X.env.kindOf x = some k := (w.kind i x k h1 h2).elim id fun q => absurd q.1 hk

def Holds (X : Cx) (h : Heap) (m : Str → Option Value) (x : Str) (v : Value) : NameKind → Prop
  | .local => m x = some v
  | .cell => ∃ c, X.env.cells.lookup x = some c ∧ h.IsCell c (some v)
  | .free => ∃ c, X.env.cells.lookup x = some c ∧ h.IsCell c (some v)
  | _ => False

def SlotAt (X : Cx) (h : Heap) (D : List Addr) (m : Str → Option Value) (x : Str) (k : NameKind) : Slot → Prop
  | .no => True
  | .v t => ∃ v, Holds X h m x v k ∧ Is h D v t
  | .own a _ => Holds X h m x (.ref a) k

structure St (G : Gd) (X : Cx) (μ : List Slot) (s : Shared) : Prop where
  good : Good G s
  dom : ∀ a ∈ hid X μ, ∃ o, s.heap.get? a = some o
  own : (owns μ).Nodup
  new : ∀ a ∈ owns μ, G.hG.get? a = none ∧ a ∉ X.M ++ X.H
  vars : ∃ m, s.heap.Ns X.env.locals m ∧ ∀ (i : Nat) x k sl, X.vars[i]? = some x → X.kinds[i]? = some k → μ[i]? = some sl → SlotAt X s.heap (hid X μ) m x k sl
  lists : ∀ (i : Nat) a ts, μ[i]? = some (.own a ts) → ∃ vs, s.heap.PlainList a vs ∧ AllRd s.heap (hid X μ) vs.toList ts
  cells : ∀ x c, X.env.cells.lookup x = some c → ∃ v, s.heap.IsCell c v

theorem owns_mem {μ : List Slot} {i : Nat} {a : Addr} {ts : List PyData} (e : μ[i]? = some (.own a ts)) : a ∈ owns μ := by
  induction μ generalizing i with
  | nil => simp at e
  | cons sl r ih =>
    cases i with
    | zero => simp at e; subst e; exact .head _
    | succ i =>
      have := ih (by simpa using e)
      cases sl <;> simp only [owns] <;> first | exact this | exact .tail _ this
theorem mem_owns {μ : List Slot} {a : Addr} (h : a ∈ owns μ) : ∃ (i : Nat) (ts : List PyData), μ[i]? = some (.own a ts) := by
  induction μ with
  | nil => cases h
  | cons sl r ih =>
    have tl : a ∈ owns r → ∃ (i : Nat) (ts : List PyData), (sl :: r)[i]? = some (.own a ts) := fun h => let ⟨i, ts, e⟩ := ih h; ⟨i + 1, ts, by simpa using e⟩
    cases sl with
    | no => exact tl h
    | v t => exact tl h
    | own b ts =>
      cases h with
      | head => exact ⟨0, ts, rfl⟩
      | tail _ h => exact tl h

section
variable {G : Gd} {X : Cx} {μ : List Slot} {s s' : Shared}

theorem notT (g : Good G s) {a : Addr} {o : Obj} (e : s.heap.get? a = some o) (hd : ∀ vs, o.data ≠ .fields vs) : a ∉ G.T := fun hm => by
  obtain ⟨q, hq, rfl⟩ := List.mem_map.mp hm
  obtain ⟨ps, e', _⟩ := g.tab q hq
  rw [e] at e'; cases e'
  exact hd ps rfl
theorem Step.get (k : Step G s s') (g : Good G s) {a : Addr} {o : Obj} (e : s.heap.get? a = some o) (hd : ∀ vs, o.data ≠ .fields vs) : s'.heap.get? a = some o := k.2 a o (notT g e hd) e
theorem Step.ns (k : Step G s s') (g : Good G s) {a : Addr} {m : Str → Option Value} (n : s.heap.Ns a m) : s'.heap.Ns a m :=
  let ⟨o, es, ep, e, hd, r⟩ := n; ⟨o, es, ep, k.get g e (fun vs q => by rw [hd] at q; cases q), hd, r⟩
theorem Step.cell (k : Step G s s') (g : Good G s) {c : Addr} {v : Option Value} (n : s.heap.IsCell c v) : s'.heap.IsCell c v :=
  let ⟨o, e, hd⟩ := n; ⟨o, k.get g e (fun vs q => by rw [hd] at q; cases q), hd⟩
theorem Step.list (k : Step G s s') (g : Good G s) {a : Addr} {vs : Array Value} (n : s.heap.PlainList a vs) : s'.heap.PlainList a vs :=
  let ⟨n, e⟩ := n; ⟨n, k.get g e (fun vs q => by cases q)⟩
theorem sub_keep {D : List Addr} {h h' : Heap} (k : Keep G h h') (hT : ∀ a ∈ G.T, a ∈ D) : Sub D D h h' := fun b o n e => ⟨n, k b o (fun q => n (hT b q)) e⟩
theorem WX.TH (w : WX G X) : ∀ a ∈ G.T, a ∈ hid X μ := fun a ha => List.mem_append_right _ (List.mem_append_left _ (w.TM a ha))
theorem Step.dom (k : Step G s s') {D : List Addr} (h : ∀ a ∈ D, ∃ o, s.heap.get? a = some o) : ∀ a ∈ D, ∃ o, s'.heap.get? a = some o := fun a ha => by
  by_cases q : a ∈ G.T
  · obtain ⟨t, ht, rfl⟩ := List.mem_map.mp q
    obtain ⟨ps, e, _⟩ := k.1.tab t ht
    exact ⟨_, e⟩
  · obtain ⟨o, e⟩ := h a ha
    exact ⟨o, k.2 a o q e⟩
theorem Holds.step (k : Step G s s') (g : Good G s) {m : Str → Option Value} {x : Str} {v : Value} {kd : NameKind} (h : Holds X s.heap m x v kd) : Holds X s'.heap m x v kd := by
  cases kd <;> first | exact h | exact h.elim | (obtain ⟨c, e, q⟩ := h; exact ⟨c, e, k.cell g q⟩)
theorem Is.step (w : WX G X) (k : Step G s s') {v : Value} {t : Tr} (h : Is s.heap (hid X μ) v t) : Is s'.heap (hid X μ) v t := h.sub (sub_keep k.2 w.TH)
theorem SlotAt.step (w : WX G X) (k : Step G s s') (g : Good G s) {m : Str → Option Value} {x : Str} {kd : NameKind} {sl : Slot} (h : SlotAt X s.heap (hid X μ) m x kd sl) : SlotAt X s'.heap (hid X μ) m x kd sl := by
  cases sl with
  | no => trivial
  | v t => obtain ⟨v, a, b⟩ := h; exact ⟨v, a.step k g, b.step w k⟩
  | own a ts => exact Holds.step k g h
theorem St.step (w : WX G X) (h : St G X μ s) (k : Step G s s') : St G X μ s' where
  good := k.1
  dom := k.dom h.dom
  own := h.own
  new := h.new
  vars := let ⟨m, n, r⟩ := h.vars; ⟨m, k.ns h.good n, fun i x kd sl h1 h2 h3 => (r i x kd sl h1 h2 h3).step w k h.good⟩
  lists := fun i a ts e => let ⟨vs, l, r⟩ := h.lists i a ts e; ⟨vs, k.list h.good l, r.sub (sub_keep k.2 w.TH)⟩
  cells := fun x c e => let ⟨v, q⟩ := h.cells x c e; ⟨v, k.cell h.good q⟩
end

/-- in this state the expression gives a value that is t -/
def Ev (G : Gd) (X : Cx) (μ : List Slot) (e : Expr) (t : Tr) : Prop :=
  ∀ s, St G X μ s → wpAny G.M X.A (eval e X.env) (fun v s' => Step G s s' ∧ Is s'.heap (hid X μ) v t) (fun _ _ => False) s

/-- the same of a test -/
def Ts (G : Gd) (X : Cx) (μ : List Slot) (e : Expr) (b : Bool) : Prop :=
  ∀ s, St G X μ s → wpAny G.M X.A (isTrue e X.env (eval e X.env)) (fun v s' => Step G s s' ∧ v = b) (fun _ _ => False) s

/-- the state behind, seen from the state ahead -/
structure Mv (G : Gd) (X : Cx) (μ : List Slot) (s : Shared) (μ' : List Slot) (s' : Shared) : Prop where
  st : St G X μ' s'
  keep : ∀ b o, b ∉ owns μ → b ∉ X.M → s.heap.get? b = some o → s'.heap.get? b = some o
  own : ∀ a ∈ owns μ', a ∈ owns μ ∨ s.heap.get? a = none
theorem Mv.trans {G : Gd} {X : Cx} {μ μ' μ'' : List Slot} {s s' s'' : Shared} (a : Mv G X μ s μ' s') (b : Mv G X μ' s' μ'' s'') : Mv G X μ s μ'' s'' where
  st := b.st
  keep := fun x o n1 n2 e => b.keep x o (fun q => by
    rcases a.own x q with q | q
    · exact n1 q
    · rw [e] at q; cases q) n2 (a.keep x o n1 n2 e)
  own := fun x hx => by
    rcases b.own x hx with q | q
    · exact a.own x q
    · by_cases h : x ∈ owns μ
      · exact .inl h
      · by_cases h2 : x ∈ X.M
        · obtain ⟨o, e⟩ := a.st.dom x (List.mem_append_right _ (List.mem_append_left _ h2))
          rw [q] at e; cases e
        · refine .inr ?_
          cases e : s.heap.get? x with
          | none => rfl
          | some o => rw [a.keep x o h h2 e] at q; cases q

theorem Mv.step {G : Gd} {X : Cx} {μ : List Slot} {s s' : Shared} (w : WX G X) (h : St G X μ s) (k : Step G s s') : Mv G X μ s μ s' where
  st := h.step w k
  keep := fun b o _ n2 e => k.2 b o (fun q => n2 (w.TM b q)) e
  own := fun _ ha => .inl ha


/-! # F2 -/

/-! ## operators upon told values -/
/-- room for a built-in step -/
structure Room (G : Gd) (A : Around) (D : List Addr) (s : Shared) : Prop where
  hand : A.handled = none
  units : A.units + 80 ≤ cLine
  good : Good G s
  T : ∀ a ∈ G.T, a ∈ D
  dom : ∀ a ∈ D, ∃ o, s.heap.get? a = some o

def Bin (G : Gd) (op : Operator) (a b t : Tr) : Prop :=
  ∀ A D s va vb, Room G A D s → Is s.heap D va a → Is s.heap D vb b →
    wpAny G.M A (binaryOp op va vb) (fun v s' => Step G s s' ∧ Is s'.heap D v t) (fun _ _ => False) s
def Inp (G : Gd) (op : Operator) (a b t : Tr) : Prop :=
  ∀ A D s va vb, Room G A D s → Is s.heap D va a → Is s.heap D vb b →
    wpAny G.M A (inplaceOp op va vb) (fun v s' => Step G s s' ∧ Is s'.heap D v t) (fun _ _ => False) s
def Cmp (G : Gd) (op : CmpOp) (a b : Tr) (r : Bool) : Prop :=
  ∀ A D s va vb, Room G A D s → Is s.heap D va a → Is s.heap D vb b →
    wpAny G.M A (compareOp op va vb) (fun v s' => Step G s s' ∧ v = .bool r) (fun _ _ => False) s
def Un (G : Gd) (op : UnaryOp) (a t : Tr) : Prop :=
  ∀ A D s va, Room G A D s → Is s.heap D va a →
    wpAny G.M A (unaryOp op va) (fun v s' => Step G s s' ∧ Is s'.heap D v t) (fun _ _ => False) s
def Tru (G : Gd) (a : Tr) (b : Bool) : Prop :=
  ∀ A D s va, Room G A D s → Is s.heap D va a →
    wpAny G.M A (truthy va) (fun v s' => Step G s s' ∧ v = b) (fun _ _ => False) s

section
variable {G : Gd}
abbrev I (i : Int) : Tr := .d (.int i)
abbrev B (b : Bool) : Tr := .d (.bool b)
abbrev S (x : Str) : Tr := .d (.str x)
abbrev L (xs : List PyData) : Tr := .d (.list xs)
abbrev TT (xs : List PyData) : Tr := .d (.tuple xs)

theorem Step.tok {s : Shared} (g : Good G s) (tk : Nat) : Step G s { s with toks := tk } := Step.grow (h' := s.heap) g fun _ _ e => e
theorem Is.int_inv {h : Heap} {D : List Addr} {v : Value} {i : Int} (r : Is h D v (I i)) : ∃ t, v = .int i t := Rd.int_inv r
theorem Is.bool_inv {h : Heap} {D : List Addr} {v : Value} {b : Bool} (r : Is h D v (B b)) : v = .bool b := Rd.bool_inv r
theorem Is.str_inv {h : Heap} {D : List Addr} {v : Value} {x : Str} (r : Is h D v (S x)) : ∃ t, v = .str x t := Rd.str_inv r

/-- |i| takes at most n binary places -/
def Bits (i : Int) (n : Nat) : Prop := i.natAbs < 2 ^ n
theorem Bits.mono {i : Int} {n m : Nat} (h : Bits i n) (hm : n ≤ m) : Bits i m := Nat.lt_of_lt_of_le h (Nat.pow_le_pow_right (by decide) hm)
theorem Bits.intBits {i : Int} {n : Nat} (h : Bits i n) : Builtin.Int.intBits i ≤ n := by
  unfold Builtin.Int.intBits
  split
  · exact Nat.zero_le _
  · rename_i hz
    have hz : i.natAbs ≠ 0 := by simp at hz; (first | lia | omega)
    exact (Nat.log2_lt hz).mpr h
theorem bits_of {i : Int} {n : Nat} (h : Builtin.Int.intBits i ≤ n) : Bits i n := by
  unfold Builtin.Int.intBits at h
  unfold Bits
  split at h
  · rename_i hz; simp at hz; subst hz; simp; exact Nat.two_pow_pos n
  · rename_i hz
    have hz : i.natAbs ≠ 0 := by simp at hz; (first | lia | omega)
    exact (Nat.log2_lt hz).mp h
theorem Bits.mul {a b : Int} {n m : Nat} (ha : Bits a n) (hb : Bits b m) : Bits (a * b) (n + m) := by
  unfold Bits at *
  rw [Int.natAbs_mul, Nat.pow_add]
  exact Nat.mul_lt_mul'' ha hb
theorem Bits.add {a b : Int} {n : Nat} (ha : Bits a n) (hb : Bits b n) : Bits (a + b) (n + 1) := by
  unfold Bits at *
  have := Int.natAbs_add_le a b
  rw [Nat.pow_succ]; (first | lia | omega)
theorem Bits.neg {a : Int} {n : Nat} (ha : Bits a n) : Bits (-a) n := by unfold Bits at *; rwa [Int.natAbs_neg]
theorem Bits.sub {a b : Int} {n : Nat} (ha : Bits a n) (hb : Bits b n) : Bits (a - b) (n + 1) := by rw [Int.sub_eq_add_neg]; exact ha.add hb.neg
theorem Bits.pow {a : Int} {n : Nat} (ha : Bits a n) : ∀ k : Nat, Bits (a ^ k) (n * k + 1)
  | 0 => by simp [Bits]
  | k + 1 => by
    rw [Int.pow_succ, Nat.mul_succ]
    exact ((Bits.pow ha k).mul ha).mono (by (first | lia | omega))
theorem Bits.two (n : Nat) : Bits (2 ^ n) (n + 1) := by
  unfold Bits
  have : ((2 : Int) ^ n).natAbs = 2 ^ n := by rw [Int.natAbs_pow]; rfl
  rw [this]; exact Nat.pow_lt_pow_right (by decide) (by (first | lia | omega))
theorem mulOk {a b : Int} {n m : Nat} (ha : Bits a n) (hb : Bits b m) (h : n + m ≤ 2 ^ 27) : IntMulOk a b := by
  have h1 := ha.intBits
  have h2 := hb.intBits
  unfold IntMulOk Builtin.Int.intTooBig
  simp only [bitsLine]
  simp
  (first | lia | omega)

theorem Bin.add_int (a b : Int) : Bin G .Add (I a) (I b) (I (a + b)) := fun A D s va vb R ha hb => by
  obtain ⟨t, rfl⟩ := ha.int_inv; obtain ⟨u, rfl⟩ := hb.int_inv
  exact PyProof.Rows.add_int ⟨Step.tok R.good _, .int _ _⟩
theorem Bin.sub_int (a b : Int) : Bin G .Sub (I a) (I b) (I (a - b)) := fun A D s va vb R ha hb => by
  obtain ⟨t, rfl⟩ := ha.int_inv; obtain ⟨u, rfl⟩ := hb.int_inv
  exact PyProof.Rows.sub_int' ⟨Step.tok R.good _, .int _ _⟩
theorem Bin.mul_int (a b : Int) (h : IntMulOk a b) : Bin G .Mult (I a) (I b) (I (a * b)) := fun A D s va vb R ha hb => by
  obtain ⟨t, rfl⟩ := ha.int_inv; obtain ⟨u, rfl⟩ := hb.int_inv
  exact PyProof.Rows.mul_int ⟨Step.tok R.good _, .int _ _⟩ h
theorem Bin.and_int (a b : Int) : Bin G .BitAnd (I a) (I b) (I (Builtin.bitAnd a b)) := fun A D s va vb R ha hb => by
  obtain ⟨t, rfl⟩ := ha.int_inv; obtain ⟨u, rfl⟩ := hb.int_inv
  exact PyProof.Rows.and_int ⟨Step.tok R.good _, .int _ _⟩
theorem Bin.or_int (a b : Int) : Bin G .BitOr (I a) (I b) (I (Builtin.bitOr a b)) := fun A D s va vb R ha hb => by
  obtain ⟨t, rfl⟩ := ha.int_inv; obtain ⟨u, rfl⟩ := hb.int_inv
  exact PyProof.Rows.or_int ⟨Step.tok R.good _, .int _ _⟩
theorem Bin.xor_int (a b : Int) : Bin G .BitXor (I a) (I b) (I (Builtin.bitXor a b)) := fun A D s va vb R ha hb => by
  obtain ⟨t, rfl⟩ := ha.int_inv; obtain ⟨u, rfl⟩ := hb.int_inv
  exact PyProof.Rows.xor_int ⟨Step.tok R.good _, .int _ _⟩
theorem Bin.lshift_int (a n : Int) (hn : 0 ≤ n) (h : (Builtin.Int.intBits a : Int) + n ≤ 2 ^ 27) : Bin G .LShift (I a) (I n) (I (a * 2 ^ n.toNat)) := fun A D s va vb R ha hb => by
  obtain ⟨t, rfl⟩ := ha.int_inv; obtain ⟨u, rfl⟩ := hb.int_inv
  exact PyProof.Rows.lshift_int hn h ⟨Step.tok R.good _, .int _ _⟩
theorem Inp.lshift_int (a n : Int) (hn : 0 ≤ n) (h : (Builtin.Int.intBits a : Int) + n ≤ 2 ^ 27) : Inp G .LShift (I a) (I n) (I (a * 2 ^ n.toNat)) := fun A D s va vb R ha hb => by
  obtain ⟨t, rfl⟩ := ha.int_inv; obtain ⟨u, rfl⟩ := hb.int_inv
  exact PyProof.Rows.ilshift_int hn h ⟨Step.tok R.good _, .int _ _⟩
theorem Bin.rshift_int (a n : Int) (hn : 0 ≤ n) : Bin G .RShift (I a) (I n) (I (a.fdiv (2 ^ n.toNat))) := fun A D s va vb R ha hb => by
  obtain ⟨t, rfl⟩ := ha.int_inv; obtain ⟨u, rfl⟩ := hb.int_inv
  exact PyProof.Rows.rshift_int hn ⟨Step.tok R.good _, .int _ _⟩
theorem Inp.rshift_int (a n : Int) (hn : 0 ≤ n) : Inp G .RShift (I a) (I n) (I (a.fdiv (2 ^ n.toNat))) := fun A D s va vb R ha hb => by
  obtain ⟨t, rfl⟩ := ha.int_inv; obtain ⟨u, rfl⟩ := hb.int_inv
  exact PyProof.Rows.irshift_int hn ⟨Step.tok R.good _, .int _ _⟩
theorem Inp.add_int (a b : Int) : Inp G .Add (I a) (I b) (I (a + b)) := fun A D s va vb R ha hb => by
  obtain ⟨t, rfl⟩ := ha.int_inv; obtain ⟨u, rfl⟩ := hb.int_inv
  exact PyProof.Rows.iadd_int ⟨Step.tok R.good _, .int _ _⟩
theorem Inp.sub_int (a b : Int) : Inp G .Sub (I a) (I b) (I (a - b)) := fun A D s va vb R ha hb => by
  obtain ⟨t, rfl⟩ := ha.int_inv; obtain ⟨u, rfl⟩ := hb.int_inv
  exact PyProof.Rows.isub_int ⟨Step.tok R.good _, .int _ _⟩
theorem Bin.pow_int (a n : Int) (hn : 0 ≤ n) (h : (Builtin.Int.intBits a : Int) * n ≤ 2 ^ 27) : Bin G .Pow (I a) (I n) (I (a ^ n.toNat)) := fun A D s va vb R ha hb => by
  obtain ⟨t, rfl⟩ := ha.int_inv; obtain ⟨u, rfl⟩ := hb.int_inv
  exact PyProof.Rows.pow_int hn h ⟨Step.tok R.good _, .int _ _⟩
theorem Bin.mod_int (a b : Int) (hb0 : b ≠ 0) : Bin G .Mod (I a) (I b) (I (a.fmod b)) := fun A D s va vb R ha hb => by
  obtain ⟨t, rfl⟩ := ha.int_inv; obtain ⟨u, rfl⟩ := hb.int_inv
  exact PyProof.Rows.mod_int' hb0 ⟨Step.tok R.good _, .int _ _⟩
theorem Bin.floordiv_int (a b : Int) (hb0 : b ≠ 0) (hp : Builtin.divisionGoesByPylong a b = false) : Bin G .FloorDiv (I a) (I b) (I (a.fdiv b)) := fun A D s va vb R ha hb => by
  obtain ⟨t, rfl⟩ := ha.int_inv; obtain ⟨u, rfl⟩ := hb.int_inv
  exact PyProof.Rows.floordiv_int hb0 ⟨Step.tok R.good _, .int _ _⟩ (.inl hp)
theorem Un.neg_int (a : Int) : Un G .USub (I a) (I (-a)) := fun A D s va R ha => by
  obtain ⟨t, rfl⟩ := ha.int_inv
  exact PyProof.Rows.neg_int ⟨Step.tok R.good _, .int _ _⟩
theorem Un.invert_int (a : Int) : Un G .Invert (I a) (I (Builtin.bitNot a)) := fun A D s va R ha => by
  obtain ⟨t, rfl⟩ := ha.int_inv
  exact PyProof.Rows.invert_int ⟨Step.tok R.good _, .int _ _⟩
theorem Tru.int (a : Int) : Tru G (I a) (a != 0) := fun A D s va R ha => by
  obtain ⟨t, rfl⟩ := ha.int_inv
  exact PyProof.Rows.truthy_int ⟨Step.refl R.good, rfl⟩
theorem Tru.bool (b : Bool) : Tru G (B b) b := fun A D s va R ha => by
  have := ha.bool_inv; subst this
  exact wpAny_truthy_bool ⟨Step.refl R.good, rfl⟩
theorem Cmp.lt_int (a b : Int) : Cmp G .Lt (I a) (I b) (decide (a < b)) := fun A D s va vb R ha hb => by
  obtain ⟨t, rfl⟩ := ha.int_inv; obtain ⟨u, rfl⟩ := hb.int_inv
  exact PyProof.Rows.lt_int ⟨Step.refl R.good, rfl⟩
theorem Cmp.gt_int (a b : Int) : Cmp G .Gt (I a) (I b) (decide (b < a)) := fun A D s va vb R ha hb => by
  obtain ⟨t, rfl⟩ := ha.int_inv; obtain ⟨u, rfl⟩ := hb.int_inv
  exact PyProof.Rows.gt_int ⟨Step.refl R.good, rfl⟩
theorem Cmp.le_int (a b : Int) : Cmp G .LtE (I a) (I b) (decide (a ≤ b)) := fun A D s va vb R ha hb => by
  obtain ⟨t, rfl⟩ := ha.int_inv; obtain ⟨u, rfl⟩ := hb.int_inv
  exact PyProof.Rows.le_int ⟨Step.refl R.good, rfl⟩
theorem Cmp.ge_int (a b : Int) : Cmp G .GtE (I a) (I b) (decide (b ≤ a)) := fun A D s va vb R ha hb => by
  obtain ⟨t, rfl⟩ := ha.int_inv; obtain ⟨u, rfl⟩ := hb.int_inv
  exact PyProof.Rows.ge_int ⟨Step.refl R.good, rfl⟩

/-- data two of which Python compares without a dict or an odd str within -/
theorem Cmp.eq_data (a b : PyData) (ha : SeqAt.shaped a = true) (hb : SeqAt.shaped b = true) : Cmp G .Eq (.d a) (.d b) (PyData.eqv a b) := fun A D s va vb R ra rb => by
  obtain ⟨as, ra⟩ := Rd.reads ra
  obtain ⟨bs, rb⟩ := Rd.reads rb
  exact SeqAt.compareEq_shaped ra rb ha hb (by have := R.units; (first | lia | omega)) ⟨Step.refl R.good, rfl⟩
theorem Cmp.ne_data (a b : PyData) (ha : SeqAt.shaped a = true) (hb : SeqAt.shaped b = true) : Cmp G .NotEq (.d a) (.d b) (!PyData.eqv a b) := fun A D s va vb R ra rb => by
  obtain ⟨as, ra⟩ := Rd.reads ra
  obtain ⟨bs, rb⟩ := Rd.reads rb
  exact SeqAt.compareNe_shaped ra rb ha hb (by have := R.units; (first | lia | omega)) ⟨Step.refl R.good, rfl⟩

/-- a division that CPython makes itself -/
theorem noPylong {x y : Int} (h : Builtin.Int.intBits x ≤ Builtin.Int.intBits y + 4400) : Builtin.divisionGoesByPylong x y = false := by
  unfold Builtin.divisionGoesByPylong
  unfold Builtin.Int.intBits at h
  simp only [Bool.and_eq_false_iff, decide_eq_false_iff_not]
  by_cases hx : (x == 0) = true <;> by_cases hy : (y == 0) = true <;> simp only [hx, hy, if_true, if_false, Bool.false_eq_true] at h ⊢ <;> (first | lia | omega)
theorem noPylong' {x y : Int} (h : Builtin.Int.intBits y ≤ 9000) : Builtin.divisionGoesByPylong x y = false := by
  unfold Builtin.divisionGoesByPylong
  unfold Builtin.Int.intBits at h
  simp only [Bool.and_eq_false_iff, decide_eq_false_iff_not]
  by_cases hx : (x == 0) = true <;> by_cases hy : (y == 0) = true <;> simp only [hx, hy, if_true, if_false, Bool.false_eq_true] at h ⊢ <;> (first | lia | omega)
end

/-! # F3 -/

section
variable {G : Gd} {X : Cx} {μ : List Slot}

theorem St.room (w : WX G X) {s : Shared} (h : St G X μ s) : Room G X.A (hid X μ) s := ⟨w.hand, by have := w.units; (first | lia | omega), h.good, w.TH, h.dom⟩

inductive HV : List Str → List NameKind → Str → Nat → NameKind → Prop
  | here {x : Str} {l : List Str} {k : NameKind} {ks : List NameKind} : HV (x :: l) (k :: ks) x 0 k
  | there {x y : Str} {l : List Str} {k k' : NameKind} {ks : List NameKind} {i : Nat} : HV l ks x i k → HV (y :: l) (k' :: ks) x (i + 1) k
theorem HV.h1 {y0 x : Str} {l : List Str} {k0 k : NameKind} {ks : List NameKind} : HV (y0 :: x :: l) (k0 :: k :: ks) x 1 k := .there (.here)
theorem HV.h2 {y0 y1 x : Str} {l : List Str} {k0 k1 k : NameKind} {ks : List NameKind} : HV (y0 :: y1 :: x :: l) (k0 :: k1 :: k :: ks) x 2 k := .there (.there (.here))
theorem HV.h3 {y0 y1 y2 x : Str} {l : List Str} {k0 k1 k2 k : NameKind} {ks : List NameKind} : HV (y0 :: y1 :: y2 :: x :: l) (k0 :: k1 :: k2 :: k :: ks) x 3 k := .there (.there (.there (.here)))
theorem HV.h4 {y0 y1 y2 y3 x : Str} {l : List Str} {k0 k1 k2 k3 k : NameKind} {ks : List NameKind} : HV (y0 :: y1 :: y2 :: y3 :: x :: l) (k0 :: k1 :: k2 :: k3 :: k :: ks) x 4 k := .there (.there (.there (.there (.here))))
theorem HV.h5 {y0 y1 y2 y3 y4 x : Str} {l : List Str} {k0 k1 k2 k3 k4 k : NameKind} {ks : List NameKind} : HV (y0 :: y1 :: y2 :: y3 :: y4 :: x :: l) (k0 :: k1 :: k2 :: k3 :: k4 :: k :: ks) x 5 k := .there (.there (.there (.there (.there (.here)))))
theorem HV.h6 {y0 y1 y2 y3 y4 y5 x : Str} {l : List Str} {k0 k1 k2 k3 k4 k5 k : NameKind} {ks : List NameKind} : HV (y0 :: y1 :: y2 :: y3 :: y4 :: y5 :: x :: l) (k0 :: k1 :: k2 :: k3 :: k4 :: k5 :: k :: ks) x 6 k := .there (.there (.there (.there (.there (.there (.here))))))
theorem HV.h7 {y0 y1 y2 y3 y4 y5 y6 x : Str} {l : List Str} {k0 k1 k2 k3 k4 k5 k6 k : NameKind} {ks : List NameKind} : HV (y0 :: y1 :: y2 :: y3 :: y4 :: y5 :: y6 :: x :: l) (k0 :: k1 :: k2 :: k3 :: k4 :: k5 :: k6 :: k :: ks) x 7 k := .there (.there (.there (.there (.there (.there (.there (.here)))))))
theorem HV.skip8 {y0 y1 y2 y3 y4 y5 y6 y7 x : Str} {l : List Str} {k0 k1 k2 k3 k4 k5 k6 k7 k : NameKind} {ks : List NameKind} {i : Nat} (h : HV l ks x i k) : HV (y0 :: y1 :: y2 :: y3 :: y4 :: y5 :: y6 :: y7 :: l) (k0 :: k1 :: k2 :: k3 :: k4 :: k5 :: k6 :: k7 :: ks) x (i + 8) k := .there (.there (.there (.there (.there (.there (.there (.there (h))))))))
theorem HV.at {l : List Str} {ks : List NameKind} {x : Str} {i : Nat} {k : NameKind} (h : HV l ks x i k) : l[i]? = some x ∧ ks[i]? = some k := by
  induction h with
  | here => exact ⟨rfl, rfl⟩
  | there _ ih => simpa using ih

theorem load_slot (w : WX G X) {s : Shared} (h : St G X μ s) {x : Str} {i : Nat} {k : NameKind} {sl : Slot} (hv : HV X.vars X.kinds x i k) (hm : μ[i]? = some sl) {Q : Value → Shared → Prop} {E : Value → Shared → Prop}
    (hq : ∀ v m, s.heap.Ns X.env.locals m → SlotAt X s.heap (hid X μ) m x k sl → Holds X s.heap m x v k → Q v s) (hn : sl ≠ .no) : wpAny G.M X.A (loadName X.env x) Q E s := by
  obtain ⟨e1, e2⟩ := hv.at
  obtain ⟨m, n, r⟩ := h.vars
  have sa := r i x k sl e1 e2 hm
  have hk := w.kind i x k e1 e2
  have hd := w.dbg i x e1
  have hold : ∃ v, Holds X s.heap m x v k := by
    cases sl with
    | no => exact absurd rfl hn
    | v t => obtain ⟨v, a, _⟩ := sa; exact ⟨v, a⟩
    | own a ts => exact ⟨_, sa⟩
  obtain ⟨v, hv'⟩ := hold
  cases k with
  | «local» => exact wpAny_loadName_local w.fk (w.kind' e1 e2 (by decide)) n hv' (hq v m n sa hv')
  | cell => obtain ⟨c, ec, ic⟩ := hv'; exact wpAny_loadName_cell w.fk (w.kind' e1 e2 (by decide)) ec ic (hq v m n sa ⟨c, ec, ic⟩)
  | free =>
    obtain ⟨c, ec, ic⟩ := hv'
    rcases hk with hk | ⟨_, hk⟩
    · exact wpAny_loadName_free w.fk hk ec ic (hq v m n sa ⟨c, ec, ic⟩) hd.2
    · exact wpAny_loadName_cell w.fk hk ec ic (hq v m n sa ⟨c, ec, ic⟩)
  | globalImplicit => exact hv'.elim
  | globalExplicit => exact hv'.elim

theorem Holds.fn {s : Shared} {m : Str → Option Value} {x : Str} {v v' : Value} {k : NameKind} (a : Holds X s.heap m x v k) (b : Holds X s.heap m x v' k) : v = v' := by
  cases k with
  | «local» => exact Option.some.inj ((Eq.symm a).trans b)
  | cell => obtain ⟨c, e, o, h1, h2⟩ := a; obtain ⟨c', e', o', h1', h2'⟩ := b; rw [e] at e'; cases e'; rw [h1] at h1'; cases h1'; rw [h2] at h2'; cases h2'; rfl
  | free => obtain ⟨c, e, o, h1, h2⟩ := a; obtain ⟨c', e', o', h1', h2'⟩ := b; rw [e] at e'; cases e'; rw [h1] at h1'; cases h1'; rw [h2] at h2'; cases h2'; rfl
  | globalImplicit => exact a.elim
  | globalExplicit => exact a.elim

theorem Ev.var (w : WX G X) {x : Str} {p : Pos} {i : Nat} {k : NameKind} {t : Tr} (hv : HV X.vars X.kinds x i k) (hm : μ[i]? = some (.v t)) : Ev G X μ (.Name x p) t := fun s h => by
  refine wpAny_Name (load_slot w h hv hm (fun v m n sa ho => ?_) (by intro q; cases q)) (w.dbg i x hv.at.1).1
  obtain ⟨v', a, b⟩ := sa
  cases ho.fn a
  exact ⟨Step.refl h.good, b⟩

theorem Ev.int {i : Int} {k : Nat} {p : Pos} : Ev G X μ (.Constant (.int i) k p) (I i) := fun s h => wpAny_Constant_int ⟨Step.tok h.good _, .int _ _⟩
theorem Ev.str {x : Str} {k : Nat} {p : Pos} : Ev G X μ (.Constant (.str x) k p) (S x) := fun s h => wpAny_Constant_str ⟨Step.tok h.good _, .str _ _⟩
theorem Ev.bool {b : Bool} {k : Nat} {p : Pos} : Ev G X μ (.Constant (.bool b) k p) (B b) := fun s h => wpAny_Constant_bool ⟨Step.refl h.good, .bool _⟩

theorem Ev.bin (w : WX G X) {l r : Expr} {op : Operator} {p : Pos} {a b t : Tr} (hl : Ev G X μ l a) (hr : Ev G X μ r b) (hb : Bin G op a b t) : Ev G X μ (.BinOp l op r p) t := fun s h => by
  refine wpAny_BinOp (wpAny_mono (hl s h) (fun v s₁ h₁ => wpAny_mono (hr s₁ (h.step w h₁.1)) (fun v' s₂ h₂ => ?_) fun _ _ x => x) fun _ _ x => x)
  have st₁ := h.step w h₁.1
  exact wpAny_mono (hb X.A (hid X μ) s₂ v v' ((st₁.step w h₂.1).room w) (h₁.2.step w h₂.1) h₂.2) (fun v'' s₃ h₃ => ⟨(h₁.1.trans h₂.1).trans h₃.1, h₃.2⟩) fun _ _ x => x
theorem Ev.un (w : WX G X) {e : Expr} {op : UnaryOp} {p : Pos} {a t : Tr} (he : Ev G X μ e a) (hu : Un G op a t) : Ev G X μ (.UnaryOp op e p) t := fun s h => by
  refine wpAny_UnaryOp (wpAny_mono (he s h) (fun v s₁ h₁ => ?_) fun _ _ x => x)
  exact wpAny_mono (hu X.A (hid X μ) s₁ v ((h.step w h₁.1).room w) h₁.2) (fun v'' s₃ h₃ => ⟨h₁.1.trans h₃.1, h₃.2⟩) fun _ _ x => x
theorem Ev.cmp (w : WX G X) {l r : Expr} {op : CmpOp} {p : Pos} {a b : Tr} {c : Bool} (hl : Ev G X μ l a) (hr : Ev G X μ r b) (hc : Cmp G op a b c) (hm : behindInMarks op r = false := by with_unfolding_all rfl) :
    Ev G X μ (.Compare l [op] [r] p) (B c) := fun s h => by
  refine wpAny_Compare1 (wpAny_mono (hl s h) (fun v s₁ h₁ => wpAny_mono (hr s₁ (h.step w h₁.1)) (fun v' s₂ h₂ => ?_) fun _ _ x => x) fun _ _ x => x) hm
  have st₁ := h.step w h₁.1
  refine wpAny_mono (hc X.A (hid X μ) s₂ v v' ((st₁.step w h₂.1).room w) (h₁.2.step w h₂.1) h₂.2) (fun v'' s₃ h₃ => ⟨(h₁.1.trans h₂.1).trans h₃.1, ?_⟩) fun _ _ x => x
  rw [h₃.2]; exact .bool _
theorem Ts.cmp (w : WX G X) {l r : Expr} {op : CmpOp} {p : Pos} {a b : Tr} {c : Bool} (hl : Ev G X μ l a) (hr : Ev G X μ r b) (hc : Cmp G op a b c) (hm : behindInMarks op r = false := by with_unfolding_all rfl) :
    Ts G X μ (.Compare l [op] [r] p) c := fun s h => by
  refine wpAny_isTrue_Compare1 (wpAny_mono (hl s h) (fun v s₁ h₁ => wpAny_mono (hr s₁ (h.step w h₁.1)) (fun v' s₂ h₂ => ?_) fun _ _ x => x) fun _ _ x => x) hm
  have st₁ := h.step w h₁.1
  refine wpAny_mono (hc X.A (hid X μ) s₂ v v' ((st₁.step w h₂.1).room w) (h₁.2.step w h₂.1) h₂.2) (fun v'' s₃ h₃ => ?_) fun _ _ x => x
  rw [h₃.2]; exact wpAny_truthy_bool ⟨(h₁.1.trans h₂.1).trans h₃.1, rfl⟩
theorem Ts.val (w : WX G X) {e : Expr} {a : Tr} {b : Bool} (he : Ev G X μ e a) (ht : Tru G a b) (hs : isTrue e X.env (eval e X.env) = (do let v ← eval e X.env; standAt e.pos; holding [v] (truthy v)) := by rfl) : Ts G X μ e b := fun s h => by
  refine wpAny_isTrue_value (wpAny_mono (he s h) (fun v s₁ h₁ => ?_) fun _ _ x => x) hs
  exact wpAny_mono (ht X.A (hid X μ) s₁ v ((h.step w h₁.1).room w) h₁.2) (fun v'' s₃ h₃ => ⟨h₁.1.trans h₃.1, h₃.2⟩) fun _ _ x => x
theorem Ts.not {e : Expr} {p : Pos} {b : Bool} (h : Ts G X μ e b) : Ts G X μ (.UnaryOp .Not e p) (!b) := fun s hs =>
  wpAny_isTrue_Not (wpAny_mono (h s hs) (fun v s' h' => ⟨h'.1, by rw [h'.2]⟩) fun _ _ x => x)

/-- a row of tests -/
def AllTs (G : Gd) (X : Cx) (μ : List Slot) (op : BoolOp) (es : List Expr) (b : Bool) : Prop :=
  ∀ s, St G X μ s → wpAny G.M X.A (allTrue op es X.env) (fun v s' => Step G s s' ∧ v = b) (fun _ _ => False) s
theorem AllTs.or_nil : AllTs G X μ .Or [] false := fun s h => wpAny_allTrue_Or_nil ⟨Step.refl h.good, rfl⟩
theorem AllTs.and_nil : AllTs G X μ .And [] true := fun s h => wpAny_allTrue_And_nil ⟨Step.refl h.good, rfl⟩
theorem AllTs.or_false (w : WX G X) {e : Expr} {es : List Expr} {b : Bool} (h : Ts G X μ e false) (hr : AllTs G X μ .Or es b) : AllTs G X μ .Or (e :: es) b := fun s hs =>
  wpAny_allTrue_Or_cons (wpAny_mono (h s hs) (fun v s' h' => by
    obtain ⟨k, rfl⟩ := h'
    exact wpAny_mono (hr s' (hs.step w k)) (fun v s'' h'' => ⟨k.trans h''.1, h''.2⟩) fun _ _ x => x) fun _ _ x => x)
theorem AllTs.or_true {e : Expr} {es : List Expr} (h : Ts G X μ e true) : AllTs G X μ .Or (e :: es) true := fun s hs =>
  wpAny_allTrue_Or_cons (wpAny_mono (h s hs) (fun v s' h' => by obtain ⟨k, rfl⟩ := h'; exact ⟨k, rfl⟩) fun _ _ x => x)
theorem AllTs.and_true (w : WX G X) {e : Expr} {es : List Expr} {b : Bool} (h : Ts G X μ e true) (hr : AllTs G X μ .And es b) : AllTs G X μ .And (e :: es) b := fun s hs =>
  wpAny_allTrue_And_cons (wpAny_mono (h s hs) (fun v s' h' => by
    obtain ⟨k, rfl⟩ := h'
    exact wpAny_mono (hr s' (hs.step w k)) (fun v s'' h'' => ⟨k.trans h''.1, h''.2⟩) fun _ _ x => x) fun _ _ x => x)
theorem AllTs.and_false {e : Expr} {es : List Expr} (h : Ts G X μ e false) : AllTs G X μ .And (e :: es) false := fun s hs =>
  wpAny_allTrue_And_cons (wpAny_mono (h s hs) (fun v s' h' => by obtain ⟨k, rfl⟩ := h'; exact ⟨k, rfl⟩) fun _ _ x => x)
theorem Ts.boolop {op : BoolOp} {es : List Expr} {p : Pos} {b : Bool} (h : AllTs G X μ op es b) : Ts G X μ (.BoolOp op es p) b := fun s hs => wpAny_isTrue_BoolOp (h s hs)

theorem Ev.ifexp_t (w : WX G X) {c a b : Expr} {p : Pos} {t : Tr} (hc : Ts G X μ c true) (ha : Ev G X μ a t) : Ev G X μ (.IfExp c a b p) t := fun s h =>
  wpAny_IfExp (wpAny_mono (hc s h) (fun v s₁ h₁ => by
    obtain ⟨k, rfl⟩ := h₁
    exact wpAny_mono (ha s₁ (h.step w k)) (fun v s₂ h₂ => ⟨k.trans h₂.1, h₂.2⟩) fun _ _ x => x) fun _ _ x => x)
theorem Ev.ifexp_f (w : WX G X) {c a b : Expr} {p : Pos} {t : Tr} (hc : Ts G X μ c false) (hb : Ev G X μ b t) : Ev G X μ (.IfExp c a b p) t := fun s h =>
  wpAny_IfExp (wpAny_mono (hc s h) (fun v s₁ h₁ => by
    obtain ⟨k, rfl⟩ := h₁
    exact wpAny_mono (hb s₁ (h.step w k)) (fun v s₂ h₂ => ⟨k.trans h₂.1, h₂.2⟩) fun _ _ x => x) fun _ _ x => x)
theorem Ev.or_t (w : WX G X) {a b : Expr} {p : Pos} {t : Tr} (ha : Ev G X μ a t) (ht : Tru G t true) : Ev G X μ (.BoolOp .Or [a, b] p) t := fun s h =>
  wpAny_Or2 (wpAny_mono (ha s h) (fun v s₁ h₁ => wpAny_mono (ht X.A (hid X μ) s₁ v ((h.step w h₁.1).room w) h₁.2) (fun v' s₂ h₂ => by
    obtain ⟨k, rfl⟩ := h₂
    exact ⟨h₁.1.trans k, h₁.2.step w k⟩) fun _ _ x => x) fun _ _ x => x)
theorem Ev.or_f (w : WX G X) {a b : Expr} {p : Pos} {t t' : Tr} (ha : Ev G X μ a t) (ht : Tru G t false) (hb : Ev G X μ b t') : Ev G X μ (.BoolOp .Or [a, b] p) t' := fun s h =>
  wpAny_Or2 (wpAny_mono (ha s h) (fun v s₁ h₁ => wpAny_mono (ht X.A (hid X μ) s₁ v ((h.step w h₁.1).room w) h₁.2) (fun v' s₂ h₂ => by
    obtain ⟨k, rfl⟩ := h₂
    exact wpAny_mono (hb s₂ ((h.step w h₁.1).step w k)) (fun v s₃ h₃ => ⟨(h₁.1.trans k).trans h₃.1, h₃.2⟩) fun _ _ x => x) fun _ _ x => x) fun _ _ x => x)

/-! ## rows of expressions -/
def EvL (G : Gd) (X : Cx) (μ : List Slot) (es : List Expr) (ts : List Tr) : Prop :=
  ∀ s pos, St G X μ s → wpAny G.M X.A (spliced (backTo pos (starEach es X.env))) (fun vs s' => Step G s s' ∧ AllIs s'.heap (hid X μ) vs ts) (fun _ _ => False) s
theorem EvL.nil : EvL G X μ [] [] := fun s pos h => spliced_none ⟨Step.refl h.good, .nil⟩
theorem EvL.cons (w : WX G X) {e : Expr} {es : List Expr} {t : Tr} {ts : List Tr} (he : Ev G X μ e t) (hs : EvL G X μ es ts) (hst : starEach (e :: es) X.env = (false, eval e X.env) :: starEach es X.env := by rfl) : EvL G X μ (e :: es) (t :: ts) := fun s pos h => by
  refine spliced_more (wpAny_mono (he s h) (fun v s₁ h₁ => wpAny_mono (hs s₁ pos (h.step w h₁.1)) (fun vs s₂ h₂ => ?_) fun _ _ x => x) fun _ _ x => x) hst
  exact ⟨h₁.1.trans h₂.1, .cons (h₁.2.step w h₂.1) h₂.2⟩
theorem EvL.length {s : Shared} {vs : List Value} {ts : List Tr} {D : List Addr} (r : AllIs s.heap D vs ts) (n : ts.length ≤ 1000) : vs.length ≤ sizeLine := by
  rw [r.length]; exact Nat.le_trans n (by decide)

theorem fresh_D {s : Shared} {D : List Addr} (dom : ∀ a ∈ D, ∃ o, s.heap.get? a = some o) : s.heap.objs.size ∉ D := fun hm => by
  obtain ⟨o, e⟩ := dom _ hm
  exact Nat.lt_irrefl _ (Heap.lt_size e)
theorem sub_push {D : List Addr} (h : Heap) (o : Obj) : Sub D D h (h.push o) := fun b x n e => ⟨n, Heap.get?_push_of_some _ e⟩
theorem sub_grow {D : List Addr} {h h' : Heap} (k : ∀ b o, h.get? b = some o → h'.get? b = some o) : Sub D D h h' := fun b x n e => ⟨n, k b x e⟩
theorem Step.push {s : Shared} (g : Good G s) (o : Obj) {tk : Nat} : Step G s { s with heap := s.heap.push o, toks := tk } := Step.grow g fun _ _ e => Heap.get?_push_of_some _ e
theorem new_seq {s : Shared} {D : List Addr} (dom : ∀ a ∈ D, ∃ o, s.heap.get? a = some o) {vs : List Value} {ds : List PyData} (r : AllRd s.heap D vs ds) (tup : Bool) :
    Rd (s.heap.push { cls := .type (if tup then "tuple" else "list"), data := .seq vs.toArray }) D (.ref s.heap.objs.size) (if tup then .tuple ds else .list ds) := by
  have r' := r.sub (sub_push (D := D) s.heap { cls := .type (if tup then "tuple" else "list"), data := .seq vs.toArray })
  cases tup
  · exact .list (n := 0) (fresh_D dom) (Heap.get?_push_size _ rfl) (by simpa using r')
  · exact .tuple (n := 0) (fresh_D dom) (Heap.get?_push_size _ rfl) (by simpa using r')

theorem Ev.list (w : WX G X) {es : List Expr} {p : Pos} {ds : List PyData} (h : EvL G X μ es (ds.map .d)) (hn : ds.length ≤ 1000 := by decide) : Ev G X μ (.List es p) (L ds) := fun s hs => by
  refine wpAny_List (wpAny_mono (h s p hs) (fun vs s₁ h₁ => ⟨EvL.length h₁.2 (by simpa using hn), h₁.1.trans (Step.push h₁.1.1 _ (tk := s₁.toks)), ?_⟩) fun _ _ x => x)
  exact new_seq (hs.step w h₁.1).dom h₁.2.all false
theorem Ev.tuple (w : WX G X) {es : List Expr} {k : Nat} {p : Pos} {ds : List PyData} (h : EvL G X μ es (ds.map .d)) (hn : ds.length ≤ 1000 := by decide) : Ev G X μ (.Tuple es k p) (TT ds) := fun s hs => by
  refine wpAny_Tuple (wpAny_mono (h s p hs) (fun vs s₁ h₁ => ⟨EvL.length h₁.2 (by simpa using hn), h₁.1.trans (Step.push h₁.1.1 _ (tk := s₁.toks)), ?_⟩) fun _ _ x => x)
  exact new_seq (hs.step w h₁.1).dom h₁.2.all true

/-! ## names of the top and calls -/
def Kp (G : Gd) (f : Value) : Prop := ∀ h, G.K.In h → ∃ k, (k = Keeper.frame ∨ k = Keeper.machine ∨ k = Keeper.boundFrame) ∧ Looks G.M h (keeperOf f) k
theorem Kp.ref {f : Addr} (h : keepIn G.K (.ref f) = true) : Kp G (.ref f) := fun hp X => keeps_K h hp X
theorem Kp.builtin (id : String) : Kp G (.builtin id) := fun _ _ => ⟨.machine, .inr (.inl rfl), Looks.of_pure rfl⟩
theorem Kp.type (id : String) : Kp G (.type id) := fun _ _ => ⟨.machine, .inr (.inl rfl), Looks.of_pure rfl⟩

/-- the global or built-in name x is v -/
def Nm (G : Gd) (x : Str) (v : Value) : Prop := G.mg x = some v ∨ (G.mg x = none ∧ G.mb x = some v)
theorem nm_load (g : Gr G) (w : WX G X) {x : Str} {v : Value} (hn : Nm G x v) {i : Nat} (hx : HV X.vars X.kinds x i .globalImplicit) {s : Shared} (gs : Good G s) {p : Pos} {Q : Value → Shared → Prop} {E : Value → Shared → Prop} (hq : Q v s) :
    wpAny G.M X.A (eval (.Name x p) X.env) Q E s := by
  have hk := w.kind' hx.at.1 hx.at.2 (by decide)
  have hd := (w.dbg i x hx.at.1).1
  refine Name_function_global w.fk hk ?_ hd
  have ng : s.heap.Ns X.env.globals G.mg := w.gl ▸ g.g.keeps gs.stays
  have nb : s.heap.Ns X.env.builtins G.mb := w.bi ▸ g.b.keeps gs.stays
  rcases hn with hn | ⟨h0, hn⟩
  · exact loadGlobal_global ng hn hq
  · exact loadGlobal_builtin ng h0 nb hn hq
/-- a global that holds an int or a str -/
theorem Ev.glob (g : Gr G) (w : WX G X) {x : Str} {p : Pos} {v : Value} {t : Tr} (hn : Nm G x v) {i : Nat} (hx : HV X.vars X.kinds x i .globalImplicit) (hi : ∀ h D, Is h D v t) : Ev G X μ (.Name x p) t := fun s h =>
  nm_load g w hn hx h.good ⟨Step.refl h.good, hi _ _⟩

theorem starEach_plain (env : Env) (es : List Expr) (pos : Pos) (h : es.all (fun e => !(match e with | .Starred .. => true | _ => false)) = true) : (backTo pos (starEach es env)).any (·.1) = false := by
  induction es with
  | nil => rfl
  | cons e es ih =>
    simp only [List.all_cons, Bool.and_eq_true] at h
    have ih := ih h.2
    cases e <;> first | (exact ih) | (simp at h)

theorem evalArgs_any {M : Model} {A : Around} {E : Value → Shared → Prop} {s : Shared} {env : Env} {f : Value} {pos : Pos} {es : List Expr} {Q : Args → Shared → Prop} (hp : es.all (fun e => !(match e with | .Starred .. => true | _ => false)) = true)
    (h : wpAny M A (spliced (backTo pos (starEach es env))) (fun vs s' => Q ⟨vs, []⟩ s') E s) : wpAny M A (evalArgs f true (backTo pos (starEach es env)) []) Q E s := by
  cases es with
  | nil =>
    unfold evalArgs
    show wpAny M A (spliced [] >>= _) Q E s
    refine wpAny_bind (wpAny_mono h (fun vs s' h' => wpAny_bind (wpAny_pure ?_)) fun _ _ x => x)
    refine wpAny_holding ?_
    exact wpAny_bind (wpAny_pure (wpAny_bind (wpAny_pure (wpAny_pure h'))))
  | cons e es => 
    have : starEach (e :: es) env = (false, eval e env) :: starEach es env := by
      cases e <;> first | rfl | (simp at hp)
    rw [this] at h ⊢
    exact evalArgs_plain h
end

/-! # F4 -/

section
variable {G : Gd} {X : Cx} {μ : List Slot}

abbrev noStar (es : List Expr) : Bool := es.all (fun e => !(match e with | .Starred .. => true | _ => false))

theorem Ev.call (g : Gr G) (w : WX G X) {f : Str} {p pos : Pos} {args : List Expr} {fv : Value} {ts : List Tr} {r : Tr} (hn : Nm G f fv) {i : Nat} (hx : HV X.vars X.kinds f i .globalImplicit) (hk : Kp G fv) (ha : EvL G X μ args ts)
    (hs : Spec G X.d fv ts r) (hp : noStar args = true := by rfl) : Ev G X μ (.Call (.Name f p) args [] pos) r := fun s h => by
  refine Call_Name rfl (nm_load g w hn hx h.good ?_)
  refine callWith_of (P := fun hp => G.K.In hp) (by rw [starEach_plain _ _ _ hp]; rfl) hk ?_
  refine evalArgs_any hp (wpAny_mono (ha s pos h) (fun vs s₁ h₁ => ?_) fun _ _ x => x)
  have st₁ := h.step w h₁.1
  refine ⟨g.X.keeps h₁.1.1.stays, ?_⟩
  exact wpAny_mono (hs X.A s₁ (hid X μ) vs w.hand w.depth w.units h₁.1.1 w.TH st₁.dom h₁.2) (fun v s₂ h₂ => ⟨h₁.1.trans h₂.1, h₂.2⟩) fun _ _ x => x

/-! ## items -/
def isSlice : Expr → Bool
  | .Slice .. => true
  | _ => false
theorem sub_plain {e : Expr} (h : isSlice e = false) : ∀ o v, subscripted e false o v = operate [o, v] (getItem o v) := fun o v => by
  cases e <;> first | rfl | (simp [isSlice] at h)

theorem Ev.sub (w : WX G X) {e i : Expr} {p : Pos} {a b : Tr} {t : Tr} {T id : String} (he : Ev G X μ e a) (hi : Ev G X μ i b) (hl : typeLookup (.type T) "__getitem__" = pure (some (.builtin id)))
    (hT : ∀ (s : Shared) v, Is s.heap (hid X μ) v a → s.TypeIs v T)
    (hg : ∀ s va vb, Room G X.A (hid X μ) s → Is s.heap (hid X μ) va a → Is s.heap (hid X μ) vb b → wpAny G.M X.A (getItem va vb) (fun v s' => Step G s s' ∧ Is s'.heap (hid X μ) v t) (fun _ _ => False) s)
    (hs : isSlice i = false := by rfl) : Ev G X μ (.Subscript e i p) t := fun s h => by
  refine Subscript_ (wpAny_mono (he s h) (fun v s₁ h₁ => wpAny_mono (hi s₁ (h.step w h₁.1)) (fun v' s₂ h₂ => ?_) fun _ _ x => x) fun _ _ x => x)
  have st₁ := h.step w h₁.1
  have i1 := h₁.2.step w h₂.1
  refine tail_any (hT s₂ v i1) hl ?_ (sub_plain hs v v')
  exact wpAny_mono (hg s₂ v v' ((st₁.step w h₂.1).room w) i1 h₂.2) (fun r s₃ h₃ => ⟨(h₁.1.trans h₂.1).trans h₃.1, h₃.2⟩) fun _ _ x => x

theorem Ev.idx_list (w : WX G X) {e i : Expr} {p : Pos} {xs : List PyData} {k : Int} {d : PyData} (he : Ev G X μ e (L xs)) (hi : Ev G X μ i (I k)) (h0 : 0 ≤ k) (h1 : k < 2 ^ 63) (hd : xs[k.toNat]? = some d)
    (hs : isSlice i = false := by rfl) : Ev G X μ (.Subscript e i p) (.d d) := by
  refine Ev.sub w he hi slot_list_getitem.lookup (fun s v r => ?_) (fun s va vb R ra rb => ?_) hs
  · obtain ⟨a, vs, rfl, _, hl, _⟩ := Rd.list_inv r; exact hl.isList.typeIs
  · obtain ⟨a, vs, rfl, _, hl, hr⟩ := Rd.list_inv ra
    obtain ⟨t, rfl⟩ := rb.int_inv
    obtain ⟨v, ev, rv⟩ := hr.get' hd
    exact wpAny_getItem_list hl.isList h0 h1 (by simpa using ev) ⟨Step.refl R.good, rv⟩
theorem Ev.idx_tuple (w : WX G X) {e i : Expr} {p : Pos} {xs : List PyData} {k : Int} {j : Nat} {d : PyData} (he : Ev G X μ e (TT xs)) (hi : Ev G X μ i (I k)) (h0 : -(2 ^ 63) ≤ k) (h1 : k < 2 ^ 63) (hj : seqIndex? k xs.length = some j) (hd : xs[j]? = some d)
    (hs : isSlice i = false := by rfl) : Ev G X μ (.Subscript e i p) (.d d) := by
  refine Ev.sub w he hi slot_tuple_getitem.lookup (fun s v r => ?_) (fun s va vb R ra rb => ?_) hs
  · obtain ⟨a, vs, n, rfl, _, h1, _⟩ := Rd.tuple_inv r; exact ⟨_, h1, rfl⟩
  · obtain ⟨a, vs, n, rfl, _, e1, hr⟩ := Rd.tuple_inv ra
    obtain ⟨t, rfl⟩ := rb.int_inv
    have hlen : vs.size = xs.length := by rw [← hr.length]; simp
    obtain ⟨v, ev, rv⟩ := hr.get' hd
    exact PyProof.Rows.getItem_tuple ⟨_, e1, rfl, n, rfl⟩ h0 h1 (by rw [hlen]; exact hj) (by simpa using ev) ⟨Step.refl R.good, rv⟩
theorem Ev.idx_str (w : WX G X) {e i : Expr} {p : Pos} {x : Str} {k : Int} {c : Nat} (he : Ev G X μ e (S x)) (hi : Ev G X μ i (I k)) (h0 : 0 ≤ k) (h1 : k < 2 ^ 63) (hd : x.cps[k.toNat]? = some c)
    (hs : isSlice i = false := by rfl) : Ev G X μ (.Subscript e i p) (S ⟨#[c]⟩) := by
  refine Ev.sub w he hi F.slot_str_getitem.lookup (fun s v r => ?_) (fun s va vb R ra rb => ?_) hs
  · obtain ⟨t, rfl⟩ := r.str_inv; exact typeIs_str s x t
  · obtain ⟨t, rfl⟩ := ra.str_inv
    obtain ⟨u, rfl⟩ := rb.int_inv
    have hk : k.toNat < x.length := by
      have := Array.getElem?_eq_some_iff.mp hd
      exact this.1
    refine P.getItem_str (by simp; (first | lia | omega)) ?_ ⟨Step.tok R.good _, .str _ _⟩
    have hi : seqIndex? k x.length = some k.toNat := by
      have hneg : ¬ k < 0 := by (first | lia | omega)
      unfold seqIndex?
      simp only [hneg, if_false]
      rw [if_pos (by simp; (first | lia | omega))]
    rw [hi]; exact hd

/-! ## slices -/
def PartOf : Option (Option Int) → Prop := fun _ => True
/-- the part of a slice: no expression, or one that gives an int -/
def EvP (G : Gd) (X : Cx) (μ : List Slot) (e : Option Expr) (k : Option Int) : Prop := match e, k with
  | none, none => True
  | some e, some k => Ev G X μ e (I k)
  | _, _ => False
theorem EvP.run (w : WX G X) {e : Option Expr} {k : Option Int} (h : EvP G X μ e k) {s : Shared} (hs : St G X μ s) {Q : Value → Shared → Prop} (hq : ∀ v s', Step G s s' → IsPart v k → Q v s') :
    wpAny G.M X.A (evalPart e X.env) Q (fun _ _ => False) s := by
  cases e with
  | none => cases k with | none => exact wpAny_pure (hq _ _ (Step.refl hs.good) .none) | some k => exact h.elim
  | some e =>
    cases k with
    | none => exact h.elim
    | some k => exact wpAny_mono (h s hs) (fun v s' h' => by obtain ⟨t, rfl⟩ := h'.2.int_inv; exact hq _ _ h'.1 (.int _ _)) fun _ _ x => x

def pick (xs : List PyData) (lo hi st : Option Int) : List PyData :=
  (sliceRange (sliceBounds lo hi st xs.length).1 (sliceBounds lo hi st xs.length).2.1 (sliceBounds lo hi st xs.length).2.2).filterMap (xs[·]?)
theorem AllRd.filterMap {h : Heap} {D : List Addr} {vs : List Value} {ds : List PyData} (r : AllRd h D vs ds) : ∀ is : List Nat, AllRd h D (is.filterMap (vs[·]?)) (is.filterMap (ds[·]?))
  | [] => .nil
  | i :: is => by
    have ih := AllRd.filterMap r is
    cases hv : vs[i]? with
    | none =>
      have : ds[i]? = none := by
        have := r.length
        rw [List.getElem?_eq_none_iff] at hv ⊢; (first | lia | omega)
      simp only [List.filterMap_cons, hv, this]; exact ih
    | some v =>
      obtain ⟨d, e, q⟩ := r.get hv
      simp only [List.filterMap_cons, hv, e]; exact .cons q ih

theorem Ev.slice_list (w : WX G X) {e : Expr} {lo hi st : Option Expr} {p p' : Pos} {xs : List PyData} {kl kh ks : Option Int} (he : Ev G X μ e (L xs)) (h1 : EvP G X μ lo kl) (h2 : EvP G X μ hi kh) (h3 : EvP G X μ st ks) (h0 : ks ≠ some 0) (hn : xs.length ≤ 100000) :
    Ev G X μ (.Subscript e (.Slice lo hi st p) p') (L (pick xs kl kh ks)) := fun s h => by
  refine Subscript_ (wpAny_mono (he s h) (fun v s₁ k₁ => ?_) fun _ _ x => x)
  have st₁ := h.step w k₁.1
  refine wpAny_Slice (h1.run w st₁ fun vl s₂ k₂ pl => ?_)
  have st₂ := st₁.step w k₂
  refine h2.run w st₂ fun vh s₃ k₃ ph => ?_
  have st₃ := st₂.step w k₃
  refine h3.run w st₃ fun vs s₄ k₄ ps => ?_
  have st₄ := st₃.step w k₄
  have kk := (k₂.trans k₃).trans k₄
  obtain ⟨a, items, rfl, hn1, hl, hr⟩ := Rd.list_inv (k₁.2.step w kk)
  have hlen : items.size = xs.length := by rw [← hr.length]; simp
  have K5 : Step G s₄ { s₄ with heap := s₄.heap.push { cls := .type "slice", data := .fields #[vl, vh, vs] } } := Step.push st₄.good _ (tk := s₄.toks)
  have st₅ := st₄.step w K5
  have hl5 : ({ s₄ with heap := s₄.heap.push { cls := .type "slice", data := .fields #[vl, vh, vs] } } : Shared).heap.PlainList a items := K5.list st₄.good hl
  refine tail_any (ops := match st with | none => [_, _] | some _ => [_, _]) hl5.isList.typeIs slot_list_getitem.lookup ?_ (by cases st <;> rfl)
  refine wpAny_getItem_list_slice hl5.isList (Heap.IsSliceOf.new _ _ _ _) pl ph ps h0 ?_ (by rw [hlen]; exact Nat.le_trans hn (by decide))
  refine ⟨((k₁.1.trans kk).trans K5).trans (Step.push st₅.good _ (tk := s₄.toks)), ?_⟩
  have hp : slicePick items kl kh ks = ((sliceRange (sliceBounds kl kh ks xs.length).1 (sliceBounds kl kh ks xs.length).2.1 (sliceBounds kl kh ks xs.length).2.2).filterMap (items.toList[·]?)).toArray := by
    unfold slicePick; rw [hlen]; simp
  rw [hp]
  exact new_seq (s := { s₄ with heap := s₄.heap.push { cls := .type "slice", data := .fields #[vl, vh, vs] } }) st₅.dom ((hr.sub (sub_push _ _)).filterMap _) false
end

/-! # F5 -/

section
variable {G : Gd}

/-! ## built-ins -/
theorem one_arg {h : Heap} {D : List Addr} {vs : List Value} {t : Tr} (r : AllIs h D vs [t]) : ∃ v, vs = [v] ∧ Is h D v t := by
  cases r with | cons a b => cases b; exact ⟨_, rfl, a⟩
theorem two_args {h : Heap} {D : List Addr} {vs : List Value} {t u : Tr} (r : AllIs h D vs [t, u]) : ∃ v w, vs = [v, w] ∧ Is h D v t ∧ Is h D w u := by
  cases r with | cons a b => cases b with | cons b c => cases c; exact ⟨_, _, rfl, a, b⟩
theorem Spec.len_list (d : Nat) (xs : List PyData) (hn : xs.length < 2 ^ 63) : Spec G d (.builtin "len") [L xs] (I xs.length) := fun A s D vs hh h1 h2 gs hT dom r0 => by
  obtain ⟨v, rfl, r⟩ := one_arg r0
  obtain ⟨a, items, rfl, _, hl, hr⟩ := Rd.list_inv r
  have hlen : items.size = xs.length := by rw [← hr.length]; simp
  refine call_len_list hl.isList (by rw [hlen]; (first | lia | omega)) ?_
  rw [hlen]; exact ⟨Step.tok gs _, .int _ _⟩
theorem Spec.len_str (d : Nat) (x : Str) (hn : x.length < 2 ^ 63) : Spec G d (.builtin "len") [S x] (I x.length) := fun A s D vs hh h1 h2 gs hT dom r0 => by
  obtain ⟨v, rfl, r⟩ := one_arg r0
  obtain ⟨t, rfl⟩ := r.str_inv
  exact P.len_str (by (first | lia | omega)) ⟨Step.tok gs _, .int _ _⟩
theorem ints_items {h : Heap} {D : List Addr} {items : Array Value} {ns : List Int} (hr : AllRd h D items.toList (ns.map .int)) : ∃ xs : Array (Int × Tok), items = intItems xs ∧ ns = xs.toList.map (·.1) := by
  have hi := hr.ints
  have ha : AllInts items := fun v hv => by
    have hv' : v ∈ items.toList := Array.mem_toList_iff.mpr hv
    obtain ⟨i, hi', e⟩ := List.getElem_of_mem hv'
    obtain ⟨d, e2, q⟩ := hr.get (i := i) (v := v) (by rw [← e]; simp [hi'])
    rw [List.getElem?_map] at e2
    cases hn : ns[i]? with
    | none => rw [hn] at e2; cases e2
    | some n => rw [hn] at e2; cases e2; obtain ⟨t, rfl⟩ := q.int_inv; exact ⟨_, _, rfl⟩
  obtain ⟨xs, rfl⟩ := ha.items
  refine ⟨xs, rfl, ?_⟩
  rw [← hi.numsOf, nums_intItems]
theorem Spec.sum (d : Nat) (ns : List Int) : Spec G d (.builtin "sum") [L (ns.map .int)] (I ns.sum) := fun A s D vs hh h1 h2 gs hT dom r0 => by
  obtain ⟨v, rfl, r⟩ := one_arg r0
  obtain ⟨a, items, rfl, _, hl, hr⟩ := Rd.list_inv r
  obtain ⟨xs, rfl, e⟩ := ints_items hr
  refine sum_intListG hh hl.isList fun h' tk t' hk => ?_
  rw [preSum_eq, List.take_of_length_le (by simp), ← e]
  exact ⟨Step.grow gs hk, .int _ _⟩
theorem Spec.max_list (d : Nat) (ns : List Int) (M : Int) (hm : M ∈ ns) (ha : ∀ a ∈ ns, a ≤ M) : Spec G d (.builtin "max") [L (ns.map .int)] (I M) := fun A s D vs hh h1 h2 gs hT dom r0 => by
  obtain ⟨v, rfl, r⟩ := one_arg r0
  obtain ⟨a, items, rfl, _, hl, hr⟩ := Rd.list_inv r
  obtain ⟨xs, rfl, e⟩ := ints_items hr
  have hpos : 0 < xs.size := by
    have := List.length_pos_of_mem hm
    rw [e, List.length_map, Array.length_toList] at this; exact this
  refine max_intList hh hl.isList hpos fun v h' tk hv hk => ?_
  obtain ⟨t, rfl⟩ := intItems_at hv
  obtain ⟨q1, q2⟩ := argBest_gt (numAt xs) (xs.size - 1)
  refine ⟨Step.grow gs hk, ?_⟩
  have hat : ∀ j, j < xs.size → numAt xs j ∈ ns := fun j hj => by
    rw [e]; unfold numAt; simp [hj]; exact ⟨_, Array.getElem_mem hj⟩
  have hM : M = numAt xs (argBest (fun i j => decide (numAt xs i > numAt xs j)) (xs.size - 1)) := by
    apply Int.le_antisymm
    · rw [e] at hm
      obtain ⟨p, hp, rfl⟩ := List.mem_map.mp hm
      obtain ⟨j, hj, ej⟩ := List.getElem_of_mem hp
      have hj' : j < xs.size := by simpa using hj
      have : numAt xs j = p.1 := by unfold numAt; rw [← ej]; simp [hj']
      rw [← this]; exact q2 j (by (first | lia | omega))
    · exact ha _ (hat _ (by (first | lia | omega)))
  rw [hM]; exact Rd.int _ _
theorem Spec.max_two (d : Nat) (a b : Int) : Spec G d (.builtin "max") [I a, I b] (I (max a b)) := fun A s D vs hh h1 h2 gs hT dom r0 => by
  obtain ⟨v, v', rfl, ra, rb⟩ := two_args r0
  obtain ⟨t, rfl⟩ := ra.int_inv
  obtain ⟨u, rfl⟩ := rb.int_inv
  refine max_two_ints hh fun h' tk hk => ⟨Step.grow gs hk, ?_⟩
  split
  · rw [show max a b = b by (first | lia | omega)]; exact Rd.int _ _
  · rw [show max a b = a by (first | lia | omega)]; exact Rd.int _ _
theorem Spec.chr (d : Nat) (i : Int) (h0 : 0 ≤ i) (h1 : i ≤ 0x10FFFF) : Spec G d (.builtin "chr") [I i] (S ⟨#[i.toNat]⟩) := fun A s D vs hh _ h2 gs hT dom r0 => by
  obtain ⟨v, rfl, r⟩ := one_arg r0
  obtain ⟨t, rfl⟩ := r.int_inv
  exact P.chr_of_int (by simp; (first | lia | omega)) ⟨Step.tok gs _, .str _ _⟩
theorem Spec.divmod (d : Nat) (a b : Int) (hb : b ≠ 0) (hp : Builtin.divisionGoesByPylong a b = false) : Spec G d (.builtin "divmod") [I a, I b] (TT [.int (a.fdiv b), .int (a.fmod b)]) := fun A s D vs hh h1 h2 gs hT dom r0 => by
  obtain ⟨v, v', rfl, ra, rb⟩ := two_args r0
  obtain ⟨t, rfl⟩ := ra.int_inv
  obtain ⟨u, rfl⟩ := rb.int_inv
  refine divmod_int hb ⟨Step.push gs _, ?_⟩ (.inl hp)
  exact new_seq (s := s) dom (vs := [.int (a.fdiv b) s.toks, .int (a.fmod b) (s.toks + 1)]) (.cons (.int _ _) (.cons (.int _ _) .nil)) true
theorem Spec.tuple_list (d : Nat) (xs : List PyData) (hn : xs.length ≤ 100000) : Spec G d (.type "tuple") [L xs] (TT xs) := fun A s D vs hh h1 h2 gs hT dom r0 => by
  obtain ⟨v, rfl, r⟩ := one_arg r0
  obtain ⟨a, items, rfl, _, hl, hr⟩ := Rd.list_inv r
  have hlen : items.size = xs.length := by rw [← hr.length]; simp
  refine call_tuple_list hl.isList (fun h' hk => ?_) (by rw [hlen]; exact Nat.le_trans hn (by decide))
  have K := Step.grow (tk := s.toks) gs hk
  refine ⟨K.trans (Step.push K.1 _ (tk := s.toks)), ?_⟩
  have := new_seq (s := { s with heap := h' }) (K.dom dom) (hr.sub (sub_grow hk)) true
  show Rd _ _ _ _
  simpa using this
/-! ## lists upon lists -/
theorem Bin.add_list (xs ys : List PyData) (hn : xs.length + ys.length ≤ 100000) : Bin G .Add (L xs) (L ys) (L (xs ++ ys)) := fun A D s va vb R ra rb => by
  obtain ⟨a, ia, rfl, _, ⟨na, ha⟩, hra⟩ := Rd.list_inv ra
  obtain ⟨b, ib, rfl, _, ⟨nb, hb⟩, hrb⟩ := Rd.list_inv rb
  have e1 : ia.size = xs.length := by rw [← hra.length]; simp
  have e2 : ib.size = ys.length := by rw [← hrb.length]; simp
  refine concat_meets ⟨_, ha, rfl⟩ ⟨_, hb, rfl⟩ noFill_list_add seq_list_add PySem.F.slot_list_add PySem.F.entry_list_add (PySem.F.args_list_add_2 _ _)
    (list_addW a b ia ib na nb none none #[] #[] (by rw [e1, e2]; exact Nat.le_trans hn (by decide))) ⟨ha, hb, ?_⟩
  refine ⟨Step.push R.good _, ?_⟩
  have := new_seq (s := s) R.dom (hra.append hrb) false
  rw [show (ia.toList ++ ib.toList).toArray = ia ++ ib by simp] at this
  exact this
theorem flat_rep {h : Heap} {D : List Addr} {vs : List Value} {ds : List PyData} (r : AllRd h D vs ds) : ∀ n : Nat, AllRd h D (List.replicate n vs).flatten (List.replicate n ds).flatten
  | 0 => .nil
  | n + 1 => by rw [List.replicate_succ, List.replicate_succ, List.flatten_cons, List.flatten_cons]; exact r.append (flat_rep r n)
theorem flat_one (x : PyData) (n : Nat) : (List.replicate n [x]).flatten = List.replicate n x := by
  induction n with
  | zero => rfl
  | succ n ih => rw [List.replicate_succ, List.flatten_cons, ih]; rfl
theorem Bin.mul_list (xs : List PyData) (k : Int) (hlo : -(2 ^ 63 : Int) ≤ k) (hhi : k < 2 ^ 63) (hn : xs.length * k.toNat ≤ 2 ^ 24) : Bin G .Mult (L xs) (I k) (L (List.replicate k.toNat xs).flatten) := fun A D s va vb R ra rb => by
  obtain ⟨a, ⟨ia⟩, rfl, _, ⟨na, ha⟩, hra⟩ := Rd.list_inv ra
  obtain ⟨u, rfl⟩ := rb.int_inv
  have e1 : ia.length = xs.length := by simpa using hra.length
  refine wpAny_binaryOp_repeat_ref (T := "list") (U := "int") (by decide) ⟨_, ha, rfl⟩ (fun s' => typeIs_int s' k u) noFill_list_mul F.fills_int_mul F.slot_int_rmul repeat_list F.slot_int_index.lookup
    (call_meets F.slot_int_rmul (typeIs_int s k u) F.entry_int_rmul (F.args_int_rmul_2 _ _) (lm_int_rmul_list_any k u a ia.toArray na none #[])
      ⟨ha, rfl, ⟨_, ha, rfl⟩, call_meets F.slot_list_mul ⟨_, ha, rfl⟩ F.entry_list_mul (F.args_list_mul_2 _ _)
        (lm_list_mul_any a ia.toArray na none #[] k u (by simp [Builtin.List.listFitsIndex]; (first | lia | omega)) (by simp [e1]; (first | lia | omega)) (by simp [Builtin.List.listTooLong, sizeLine]; rw [e1]; (first | lia | omega)))
        ⟨ha, ?_⟩⟩)
  refine ⟨Step.push R.good _, ?_⟩
  have := new_seq (s := s) R.dom (flat_rep hra k.toNat) false
  rw [listMul_foldl_if]
  exact this
end

/-! # F6 -/

section
variable {G : Gd} {X : Cx} {μ : List Slot}

theorem owns_set {μ : List Slot} {i : Nat} {sl : Slot} : ∀ a ∈ owns (μ.set i sl), a ∈ owns μ ∨ ∃ ts, sl = .own a ts := fun a ha => by
  obtain ⟨j, ts, e⟩ := mem_owns ha
  by_cases h : i = j
  · subst h
    by_cases hl : i < μ.length
    · rw [List.getElem?_set_self hl] at e
      exact .inr ⟨ts, Option.some.inj e⟩
    · rw [List.set_eq_of_length_le (by (first | lia | omega))] at e
      exact .inl (owns_mem e)
  · rw [List.getElem?_set_ne h] at e
    exact .inl (owns_mem e)
theorem owns_set_nodup {μ : List Slot} (h : (owns μ).Nodup) {i : Nat} {sl : Slot} (hs : ∀ a ts, sl = .own a ts → a ∉ owns μ ∨ ∃ ts', μ[i]? = some (.own a ts')) : (owns (μ.set i sl)).Nodup := by
  induction μ generalizing i with
  | nil => simpa using h
  | cons s0 r ih =>
    cases i with
    | zero =>
      have tl : (owns r).Nodup := by cases s0 <;> simp only [owns] at h <;> first | exact h | exact (List.nodup_cons.mp h).2
      cases sl with
      | no => exact tl
      | v t => exact tl
      | own a ts =>
        refine List.nodup_cons.mpr ⟨?_, tl⟩
        rcases hs a ts rfl with q | ⟨ts', q⟩
        · intro hm; apply q; cases s0 <;> simp only [owns] <;> first | exact hm | exact .tail _ hm
        · simp at q; subst q; exact (List.nodup_cons.mp h).1
    | succ i =>
      have tl : (owns r).Nodup := by cases s0 <;> simp only [owns] at h <;> first | exact h | exact (List.nodup_cons.mp h).2
      have ih' := ih tl (i := i) (fun a ts e => by
        rcases hs a ts e with q | ⟨ts', q⟩
        · left; intro hm; apply q; cases s0 <;> simp only [owns] <;> first | exact hm | exact .tail _ hm
        · right; exact ⟨ts', by simpa using q⟩)
      rw [List.set_cons_succ]
      cases s0 with
      | no => exact ih'
      | v t => exact ih'
      | own b tb =>
        refine List.nodup_cons.mpr ⟨fun hm => ?_, ih'⟩
        rcases owns_set b hm with q | ⟨ts, rfl⟩
        · exact (List.nodup_cons.mp h).1 q
        · rcases hs b ts rfl with q | ⟨ts', q⟩
          · exact q (.head _)
          · exact (List.nodup_cons.mp h).1 (owns_mem (i := i) (by simpa using q))

theorem hid_set {i : Nat} {sl : Slot} {b : Addr} (h : b ∈ hid X (μ.set i sl)) : b ∈ hid X μ ∨ ∃ ts, sl = .own b ts := by
  rcases List.mem_append.mp h with h | h
  · rcases owns_set b h with q | q
    · exact .inl (List.mem_append_left _ q)
    · exact .inr q
  · exact .inl (List.mem_append_right _ h)

/-- one slot turned: what is to be shown of the state behind -/
theorem St.upd (w : WX G X) {s s' : Shared} (h : St G X μ s) {i : Nat} {sl : Slot} (gd : Good G s') (hsub : Sub (hid X μ) (hid X (μ.set i sl)) s.heap s'.heap)
    (ownk : ∀ (j : Nat) a ts vs, j ≠ i → μ[j]? = some (.own a ts) → s.heap.PlainList a vs → s'.heap.PlainList a vs)
    (dom : ∀ a ∈ X.M ++ X.H, ∃ o, s'.heap.get? a = some o) (cells : ∀ x c, X.env.cells.lookup x = some c → ∃ v, s'.heap.IsCell c v)
    (hs : ∀ a ts, sl = .own a ts → a ∉ owns μ ∨ ∃ ts', μ[i]? = some (.own a ts')) (hnew : ∀ a ts, sl = .own a ts → G.hG.get? a = none ∧ a ∉ X.M ++ X.H)
    (hl : ∀ a ts, sl = .own a ts → ∃ vs, s'.heap.PlainList a vs ∧ AllRd s'.heap (hid X (μ.set i sl)) vs.toList ts)
    (rest : ∀ m, s.heap.Ns X.env.locals m → ∃ m', s'.heap.Ns X.env.locals m' ∧ (∀ (j : Nat) x k v, j ≠ i → X.vars[j]? = some x → X.kinds[j]? = some k → Holds X s.heap m x v k → Holds X s'.heap m' x v k) ∧
      (∀ x k, X.vars[i]? = some x → X.kinds[i]? = some k → i < μ.length → (∀ sl0, μ[i]? = some sl0 → SlotAt X s.heap (hid X μ) m x k sl0) → SlotAt X s'.heap (hid X (μ.set i sl)) m' x k sl)) : St G X (μ.set i sl) s' := by
  have lists : ∀ (j : Nat) a ts, (μ.set i sl)[j]? = some (.own a ts) → ∃ vs, s'.heap.PlainList a vs ∧ AllRd s'.heap (hid X (μ.set i sl)) vs.toList ts := fun j a ts e => by
    by_cases hj : i = j
    · subst hj
      have hlen : i < μ.length := by
        have := (List.getElem?_eq_some_iff.mp e).1; simpa using this
      rw [List.getElem?_set_self hlen] at e
      exact hl a ts (Option.some.inj e)
    · rw [List.getElem?_set_ne hj] at e
      obtain ⟨vs, q1, q2⟩ := h.lists j a ts e
      exact ⟨vs, ownk j a ts vs (Ne.symm hj) e q1, q2.sub hsub⟩
  refine ⟨gd, fun a ha => ?_, owns_set_nodup h.own hs, fun a ha => (owns_set a ha).elim (h.new a) fun ⟨ts, e⟩ => hnew a ts e, ?_, lists, cells⟩
  · rcases List.mem_append.mp ha with ha | ha
    · obtain ⟨j, ts, e⟩ := mem_owns ha
      obtain ⟨vs, ⟨n, q⟩, _⟩ := lists j a ts e
      exact ⟨_, q⟩
    · exact dom a ha
  · obtain ⟨m, n, r⟩ := h.vars
    obtain ⟨m', n', r1, r2⟩ := rest m n
    refine ⟨m', n', fun j x k sl' e1 e2 e3 => ?_⟩
    by_cases hj : i = j
    · subst hj
      have hlen : i < μ.length := by
        have := (List.getElem?_eq_some_iff.mp e3).1; simpa using this
      rw [List.getElem?_set_self hlen] at e3
      obtain rfl := Option.some.inj e3
      exact r2 x k e1 e2 hlen fun sl0 q => r i x k sl0 e1 e2 q
    · rw [List.getElem?_set_ne hj] at e3
      have q := r j x k sl' e1 e2 e3
      cases sl' with
      | no => trivial
      | v t => obtain ⟨v, a, b⟩ := q; exact ⟨v, r1 j x k v (Ne.symm hj) e1 e2 a, b.sub hsub⟩
      | own a ts => exact r1 j x k _ (Ne.symm hj) e1 e2 q

/-- a value is told by a slot's new content: a frozen one, or a list that none but the slot holds -/
inductive Vl where
  | v (t : Tr)
  | n (ds : List PyData)
def VlAt (h0 h : Heap) (D : List Addr) (v : Value) : Vl → Prop
  | .v t => Is h D v t
  | .n ds => ∃ a vs, v = .ref a ∧ h0.get? a = none ∧ h.PlainList a vs ∧ AllRd h (a :: D) vs.toList ds
def SlOf : Vl → Slot → Prop
  | .v t, sl => sl = .v t
  | .n ds, sl => ∃ a, sl = .own a ds

theorem L_notT {s : Shared} (g : Good G s) {a : Addr} {m : Str → Option Value} (n : s.heap.Ns a m) : a ∉ G.T := by
  obtain ⟨o, es, ep, e, hd, _⟩ := n
  exact notT g e (fun vs q => by rw [hd] at q; cases q)
theorem cell_notT {s : Shared} (g : Good G s) {c : Addr} {v : Option Value} (n : s.heap.IsCell c v) : c ∉ G.T := by
  obtain ⟨o, e, hd⟩ := n
  exact notT g e (fun vs q => by rw [hd] at q; cases q)
theorem Good.but {s : Shared} (g : Good G s) {a : Addr} {h' : Heap} {tk : Nat} (hs : Heap.SameBut a s.heap h') (ha : G.hG.get? a = none) (hT : a ∉ G.T) (hc : ∀ c o vs, s.heap.get? c = some o → o.data = .fields vs → c ≠ a) : Good G { s with heap := h', toks := tk } where
  stays := fun b o e => (hs.2 b (fun q => by rw [q, ha] at e; cases e)).trans (g.stays b o e)
  tab := fun q hq => by
    obtain ⟨ps, e, r⟩ := g.tab q hq
    refine ⟨ps, (hs.2 _ (fun z => hT (z ▸ List.mem_map_of_mem hq))).trans e, ?_⟩
    rcases r with r | ⟨c, r, c', o, vs, t, e1, e2, e3, e4⟩
    · exact .inl r
    · exact .inr ⟨c, r, c', o, vs, t, e1, (hs.2 _ (hc _ _ _ e2 e3)).trans e2, e3, e4⟩
  gens := g.gens
  os := g.os

/-- a name is stored -/
theorem store_slot (w : WX G X) {s0 s : Shared} (h : St G X μ s0) (k : Step G s0 s) {x : Str} {i : Nat} {kd : NameKind} (hv : HV X.vars X.kinds x i kd) (hi : i < μ.length) (hk : kd = .local ∨ kd = .cell)
    {v : Value} {val : Vl} (r : VlAt s0.heap s.heap (hid X μ) v val) {Q : Unit → Shared → Prop} {E : Value → Shared → Prop} (hq : ∀ sl s', SlOf val sl → Mv G X μ s0 (μ.set i sl) s' → Q () s') :
    wpAny G.M X.A (storeName X.env x v) Q E s := by
  obtain ⟨e1, e2⟩ := hv.at
  have h1 := h.step w k
  have hkind := w.kind' e1 e2 (by rcases hk with rfl | rfl <;> decide)
  -- the address at which the store writes, and what it leaves
  have key : ∀ (a : Addr) (h' : Heap) (tk : Nat), a ∈ X.M → G.hG.get? a = none → a ∉ G.T → (∃ o, h'.get? a = some o) → Heap.SameBut a s.heap h' → (∀ o vs, s.heap.get? a = some o → o.data ≠ .fields vs) → (∀ o vs n, s.heap.get? a = some o → o.data ≠ .seq vs n) →
      (∀ x c, X.env.cells.lookup x = some c → ∃ v, h'.IsCell c v) →
      (∀ m, s.heap.Ns X.env.locals m → ∃ m', h'.Ns X.env.locals m' ∧ (∀ (j : Nat) y k' u, j ≠ i → X.vars[j]? = some y → X.kinds[j]? = some k' → Holds X s.heap m y u k' → Holds X h' m' y u k') ∧ Holds X h' m' x v kd) →
      Q () { s with heap := h', toks := tk } := by
    intro a h' tk ha hnew hT hex hs hnf hns hcells hrest
    have gd : Good G { s with heap := h', toks := tk } := Good.but h1.good hs hnew hT fun c o vs q1 q2 q3 => by subst q3; exact hnf o vs q1 q2
    have hh : a ∈ hid X μ := List.mem_append_right _ (List.mem_append_left _ ha)
    have dom' : ∀ b ∈ X.M ++ X.H, ∃ o, h'.get? b = some o := fun b hb => by
      by_cases q : b = a
      · subst q; exact hex
      · obtain ⟨o, e⟩ := h1.dom b (List.mem_append_right _ hb)
        exact ⟨o, (hs.2 b q).trans e⟩
    cases val with
    | v t =>
      have hD : ∀ b, b ∉ hid X μ → b ∉ hid X (μ.set i (.v t)) := fun b n q => (hid_set q).elim n fun ⟨_, e⟩ => by cases e
      have sub : Sub (hid X μ) (hid X (μ.set i (.v t))) s.heap h' := fun b o n e => ⟨hD b n, (hs.2 b (fun q => n (q ▸ hh))).trans e⟩
      refine hq (.v t) _ rfl ⟨?_, fun b o n1 n2 e => ?_, fun b hb => ?_⟩
      · refine h1.upd w gd sub (fun j b ts vs _ _ q => ?_) dom' hcells (by intro b ts e; cases e) (by intro b ts e; cases e) (by intro b ts e; cases e) (fun m n => ?_)
        · obtain ⟨n, q⟩ := q
          exact ⟨n, (hs.2 b (fun z => by subst z; exact hns _ _ _ q rfl)).trans q⟩
        · obtain ⟨m', n', q1, q2⟩ := hrest m n
          refine ⟨m', n', q1, fun y k' f1 f2 _ _ => ?_⟩
          rw [e1] at f1; cases f1; rw [e2] at f2; cases f2
          exact ⟨v, q2, Is.sub sub r⟩
      · exact (hs.2 b (fun q => n2 (q ▸ ha))).trans (k.2 b o (fun q => n2 (w.TM b q)) e)
      · rcases owns_set b hb with q | ⟨_, q⟩
        · exact .inl q
        · cases q
    | n ds =>
      obtain ⟨b0, vs, rfl, hfr, hl, hr⟩ := r
      have hb0 : b0 ∉ hid X μ := fun q => by
        obtain ⟨o, e⟩ := h.dom b0 q
        rw [hfr] at e; cases e
      have hba : b0 ≠ a := fun q => hb0 (q ▸ hh)
      have sub : Sub (hid X μ) (hid X (μ.set i (.own b0 ds))) s0.heap h' := fun b o n e => by
        have hbb : b ≠ b0 := fun q => by rw [q, hfr] at e; cases e
        refine ⟨fun q => (hid_set q).elim n fun ⟨_, e⟩ => hbb (by cases e; rfl), (hs.2 b (fun q => n (q ▸ hh))).trans (k.2 b o (fun q => n (w.TH b q)) e)⟩
      have hl' : h'.PlainList b0 vs := let ⟨n, e⟩ := hl; ⟨n, (hs.2 b0 hba).trans e⟩
      have hr' : AllRd h' (hid X (μ.set i (.own b0 ds))) vs.toList ds := hr.sub fun b o n e => by
        have n1 : b ≠ b0 := fun q => n (q ▸ .head _)
        have n2 : b ∉ hid X μ := fun q => n (.tail _ q)
        exact ⟨fun q => (hid_set q).elim n2 fun ⟨_, e⟩ => n1 (by cases e; rfl), (hs.2 b (fun q => n2 (q ▸ hh))).trans e⟩
      have own' : ∀ a' ts, Slot.own b0 ds = .own a' ts → a' ∉ owns μ ∨ ∃ ts', μ[i]? = some (.own a' ts') := fun a' ts e => by cases e; exact .inl fun q => hb0 (List.mem_append_left _ q)
      refine hq (.own b0 ds) _ ⟨b0, rfl⟩ ⟨?_, fun b o n1 n2 e => ?_, fun b hb => ?_⟩
      · refine h.upd w gd sub (fun j b ts vs _ ej q => ?_) dom' hcells own' (fun a' ts e => ?_) (fun a' ts e => by cases e; exact ⟨vs, hl', hr'⟩) (fun m n => ?_)
        · obtain ⟨n, q⟩ := k.list h.good q
          exact ⟨n, (hs.2 b (fun z => by subst z; exact hns _ _ _ q rfl)).trans q⟩
        · cases e
          refine ⟨?_, fun q => hb0 (List.mem_append_right _ q)⟩
          cases q : G.hG.get? b0 with
          | none => rfl
          | some o => have := h.good.stays _ _ q; rw [hfr] at this; cases this
        · obtain ⟨m', n', q1, q2⟩ := hrest m (k.ns h.good n)
          refine ⟨m', n', fun j y k' u hj f1 f2 q => q1 j y k' u hj f1 f2 (q.step k h.good), fun y k' f1 f2 _ _ => ?_⟩
          rw [e1] at f1; cases f1; rw [e2] at f2; cases f2
          exact q2
      · exact (hs.2 b (fun q => n2 (q ▸ ha))).trans (k.2 b o (fun q => n2 (w.TM b q)) e)
      · rcases owns_set b hb with q | ⟨_, q⟩
        · exact .inl q
        · cases q; exact .inr hfr
  obtain ⟨m, n, _⟩ := h1.vars
  rcases hk with rfl | rfl
  · -- a local
    refine wpAny_storeName_local hkind n (fun h' hn hs => ?_) (by rw [w.fk]; rfl)
    have Ldata : ∀ o, s.heap.get? X.env.locals = some o → ∃ es ep, o.data = .dict es ep := fun o e => by
      obtain ⟨o', es, ep, e', hd, _⟩ := n
      rw [e'] at e; cases e; exact ⟨es, ep, hd⟩
    refine key X.env.locals h' _ w.LM w.Lnew (L_notT h1.good n) (let ⟨o, _, _, e, _⟩ := hn; ⟨o, e⟩) hs (fun o vs e q => ?_) (fun o vs nn e q => ?_) (fun y c e => ?_) fun m2 n2 => ?_
    · obtain ⟨_, _, hd⟩ := Ldata o e; rw [hd] at q; cases q
    · obtain ⟨_, _, hd⟩ := Ldata o e; rw [hd] at q; cases q
    · obtain ⟨u, o, e', hd⟩ := h1.cells y c e
      refine ⟨u, o, (hs.2 c fun q => ?_).trans e', hd⟩
      subst q; obtain ⟨_, _, hd'⟩ := Ldata o e'; rw [hd] at hd'; cases hd'
    · have hmm : m2 = m := by
        funext y
        obtain ⟨o, es, ep, a1, a2, _, a3⟩ := n
        obtain ⟨o', es', ep', b1, b2, _, b3⟩ := n2
        rw [a1] at b1; cases b1; rw [a2] at b2; cases b2
        rw [← a3, ← b3]
      subst hmm
      refine ⟨_, hn, fun j y k' u hj f1 f2 q => ?_, by show (if x = x then some v else _) = _; rw [if_pos rfl]⟩
      cases k' with
      | «local» =>
        show (if y = x then some v else m2 y) = some u
        rw [if_neg (fun z => hj (by subst z; exact w.inj j i _ f1 e1))]; exact q
      | cell => obtain ⟨c, ec, o, e', hd⟩ := q; exact ⟨c, ec, o, (hs.2 c fun z => by subst z; obtain ⟨_, _, hd'⟩ := Ldata o e'; rw [hd] at hd'; cases hd').trans e', hd⟩
      | free => obtain ⟨c, ec, o, e', hd⟩ := q; exact ⟨c, ec, o, (hs.2 c fun z => by subst z; obtain ⟨_, _, hd'⟩ := Ldata o e'; rw [hd] at hd'; cases hd').trans e', hd⟩
      | globalImplicit => exact q.elim
      | globalExplicit => exact q.elim
  · -- a cell
    obtain ⟨c, ec⟩ := Option.isSome_iff_exists.mp (w.cellOf i x .cell e1 e2 (.inl rfl))
    obtain ⟨u0, hc⟩ := h1.cells x c ec
    refine wpAny_storeName_cell w.fk hkind ec hc fun h' hc' hs => ?_
    have cdata : ∀ o, s.heap.get? c = some o → o.data = .cell u0 := fun o e => by
      obtain ⟨o', e', hd⟩ := hc
      rw [e'] at e; cases e; exact hd
    refine key c h' _ (w.cellM i x c e1 e2 ec) (w.Cnew i x c e1 e2 ec) (cell_notT h1.good hc) (let ⟨o, e, _⟩ := hc'; ⟨o, e⟩) hs (fun o vs e q => ?_) (fun o vs nn e q => ?_) (fun y c2 e => ?_) fun m2 n2 => ?_
    · rw [cdata o e] at q; cases q
    · rw [cdata o e] at q; cases q
    · by_cases z : c2 = c
      · subst z; exact ⟨_, hc'⟩
      · obtain ⟨u, o, e', hd⟩ := h1.cells y c2 e
        exact ⟨u, o, (hs.2 c2 z).trans e', hd⟩
    · refine ⟨m2, n2.sameBut hs (fun z => ?_), fun j y k' u hj f1 f2 q => ?_, ⟨c, ec, hc'⟩⟩
      · obtain ⟨o, es, ep, e', hd, _⟩ := n2
        rw [z] at e'; rw [cdata o e'] at hd; cases hd
      · cases k' with
        | «local» => exact q
        | cell =>
          obtain ⟨c2, ec2, o, e', hd⟩ := q
          exact ⟨c2, ec2, o, (hs.2 c2 (fun z => hj (by subst z; have := w.cinj y x _ ec2 ec; subst this; exact w.inj j i _ f1 e1))).trans e', hd⟩
        | free =>
          obtain ⟨c2, ec2, o, e', hd⟩ := q
          exact ⟨c2, ec2, o, (hs.2 c2 (fun z => hj (by subst z; have := w.cinj y x _ ec2 ec; subst this; exact w.inj j i _ f1 e1))).trans e', hd⟩
        | globalImplicit => exact q.elim
        | globalExplicit => exact q.elim
end

/-! # F7 -/

/-! ## statements -/
@[reducible] def Cx.at (X : Cx) (H : List Addr) : Cx := { X with H := H }
theorem WX.at {G : Gd} {X : Cx} (w : WX G X) (H : List Addr) : WX G (X.at H) := ⟨w.hand, w.depth, w.units, w.fk, w.gl, w.bi, w.kind, w.dbg, w.inj, w.LM, w.TM, w.Lnew, w.Cnew, w.cellM, w.cellOf, w.cinj⟩

inductive Out where
  | next (μ : List Slot)
  | brk (μ : List Slot)
  | cont (μ : List Slot)
  | ret (μ : List Slot) (t : Tr)

def End (G : Gd) (X : Cx) (μ : List Slot) (s : Shared) (Q : Out → Prop) : Flow → Shared → Prop
  | .next, s' => ∃ μ', Q (.next μ') ∧ Mv G X μ s μ' s'
  | .brk, s' => ∃ μ', Q (.brk μ') ∧ Mv G X μ s μ' s'
  | .cont, s' => ∃ μ', Q (.cont μ') ∧ Mv G X μ s μ' s'
  | .ret v, s' => ∃ μ' t, Q (.ret μ' t) ∧ Mv G X μ s μ' s' ∧ Is s'.heap X.H v t

def Ex (G : Gd) (X : Cx) (μ : List Slot) (ss : List Stmt) (Q : Out → Prop) : Prop :=
  ∀ s, St G X μ s → wpAny G.M X.A (execs ss X.env) (End G X μ s Q) (fun _ _ => False) s
def Ex1 (G : Gd) (X : Cx) (μ : List Slot) (st : Stmt) (Q : Out → Prop) : Prop :=
  ∀ s, St G X μ s → wpAny G.M X.A (exec st X.env) (End G X μ s Q) (fun _ _ => False) s

theorem End.mv {G : Gd} {X : Cx} {μ μ' : List Slot} {s s' : Shared} {Q : Out → Prop} {f : Flow} {s'' : Shared} (m : Mv G X μ s μ' s') (h : End G X μ' s' Q f s'') : End G X μ s Q f s'' := by
  cases f with
  | next => obtain ⟨ν, q, v⟩ := h; exact ⟨ν, q, m.trans v⟩
  | brk => obtain ⟨ν, q, v⟩ := h; exact ⟨ν, q, m.trans v⟩
  | cont => obtain ⟨ν, q, v⟩ := h; exact ⟨ν, q, m.trans v⟩
  | ret v => obtain ⟨ν, t, q, v, r⟩ := h; exact ⟨ν, t, q, m.trans v, r⟩
theorem End.mono {G : Gd} {X : Cx} {μ : List Slot} {s : Shared} {Q Q' : Out → Prop} (k : ∀ o, Q o → Q' o) {f : Flow} {s'' : Shared} (h : End G X μ s Q f s'') : End G X μ s Q' f s'' := by
  cases f with
  | next => obtain ⟨ν, q, v⟩ := h; exact ⟨ν, k _ q, v⟩
  | brk => obtain ⟨ν, q, v⟩ := h; exact ⟨ν, k _ q, v⟩
  | cont => obtain ⟨ν, q, v⟩ := h; exact ⟨ν, k _ q, v⟩
  | ret v => obtain ⟨ν, t, q, v, r⟩ := h; exact ⟨ν, t, k _ q, v, r⟩

/-- what a row of statements owes, the first of them done -/
@[reducible] def Then (G : Gd) (X : Cx) (rest : List Stmt) (Q : Out → Prop) : Out → Prop
  | .next μ => Ex G X μ rest Q
  | .brk μ => Q (.brk μ)
  | .cont μ => Q (.cont μ)
  | .ret μ t => Q (.ret μ t)

section
variable {G : Gd} {X : Cx} {μ : List Slot} {Q : Out → Prop}

theorem Ex1.mono {st : Stmt} {Q' : Out → Prop} (h : Ex1 G X μ st Q') (k : ∀ o, Q' o → Q o) : Ex1 G X μ st Q := fun s hs => wpAny_mono (h s hs) (fun _ _ e => e.mono k) fun _ _ x => x
theorem Ex.nil (w : WX G X) (h : Q (.next μ)) : Ex G X μ [] Q := fun s hs => wpAny_execs_nil ⟨μ, h, Mv.step w hs (Step.refl hs.good)⟩
theorem Ex.cons {st : Stmt} {rest : List Stmt} (h : Ex1 G X μ st (Then G X rest Q)) : Ex G X μ (st :: rest) Q := fun s hs => by
  refine wpAny_execs_cons (wpAny_mono (h s hs) (fun f s' e => ?_) fun _ _ x => x)
  cases f with
  | next => obtain ⟨ν, q, v⟩ := e; exact wpAny_mono (q s' v.st) (fun f s'' e => e.mv v) fun _ _ x => x
  | brk => exact e
  | cont => exact e
  | ret v => exact e

/-! ## evaluation to a value, frozen or fresh -/
def EvV (G : Gd) (X : Cx) (μ : List Slot) (e : Expr) (vl : Vl) : Prop :=
  ∀ s, St G X μ s → wpAny G.M X.A (eval e X.env) (fun v s' => Step G s s' ∧ VlAt s.heap s'.heap (hid X μ) v vl) (fun _ _ => False) s
theorem Ev.vl {e : Expr} {t : Tr} (h : Ev G X μ e t) : EvV G X μ e (.v t) := h

theorem Ex1.set (w : WX G X) {e : Expr} {x : Str} {p p' : Pos} {i : Nat} {kd : NameKind} {t : Tr} (he : Ev G X μ e t) (hv : HV X.vars X.kinds x i kd) (hi : i < μ.length) (hk : kd = .local ∨ kd = .cell)
    (hs : swapsWith e (some (.Name x p')) p.line X.env = pure false) (hq : Q (.next (μ.set i (.v t)))) : Ex1 G X μ (.Assign [.Name x p'] e p) Q := fun s h => by
  refine wpAny_Assign_Name (wpAny_mono (he s h) (fun v s₁ h₁ => ?_) fun _ _ x => x) hs
  exact store_slot w h h₁.1 hv hi hk (val := .v t) h₁.2 fun sl s' e m => by cases e; exact ⟨_, hq, m⟩
theorem Ex1.setV (w : WX G X) {e : Expr} {x : Str} {p p' : Pos} {i : Nat} {kd : NameKind} {vl : Vl} (he : EvV G X μ e vl) (hv : HV X.vars X.kinds x i kd) (hi : i < μ.length) (hk : kd = .local ∨ kd = .cell)
    (hs : swapsWith e (some (.Name x p')) p.line X.env = pure false) (hq : ∀ sl, SlOf vl sl → Q (.next (μ.set i sl))) : Ex1 G X μ (.Assign [.Name x p'] e p) Q := fun s h => by
  refine wpAny_Assign_Name (wpAny_mono (he s h) (fun v s₁ h₁ => ?_) fun _ _ x => x) hs
  exact store_slot w h h₁.1 hv hi hk h₁.2 fun sl s' e m => ⟨_, hq sl e, m⟩

/-! ## targets -/
def As (G : Gd) (X : Cx) (μ : List Slot) (tgt : Expr) (t : Tr) (P : List Slot → Prop) : Prop :=
  ∀ s v, St G X μ s → Is s.heap (hid X μ) v t → wpAny G.M X.A (assign tgt X.env v) (fun _ s' => ∃ μ', P μ' ∧ Mv G X μ s μ' s') (fun _ _ => False) s
def AsL (G : Gd) (X : Cx) (μ : List Slot) (tgts : List Expr) (ts : List Tr) (P : List Slot → Prop) : Prop :=
  ∀ s vs, St G X μ s → AllIs s.heap (hid X μ) vs ts → wpAny G.M X.A (assignInOrder ((assignEach tgts X.env).map (·.2)) vs) (fun _ s' => ∃ μ', P μ' ∧ Mv G X μ s μ' s') (fun _ _ => False) s
def AsN (G : Gd) (X : Cx) (μ : List Slot) (xs : List Str) (ts : List Tr) (P : List Slot → Prop) : Prop :=
  ∀ s vs, St G X μ s → AllIs s.heap (hid X μ) vs ts → wpAny G.M X.A (assignInOrder (xs.map fun n => bindName X.env n) vs) (fun _ s' => ∃ μ', P μ' ∧ Mv G X μ s μ' s') (fun _ _ => False) s
theorem Mv.sub {μ' : List Slot} {s s' : Shared} (m : Mv G X μ s μ' s') : Sub (hid X μ) (hid X μ') s.heap s'.heap := fun b o n e => by
  refine ⟨fun q => ?_, m.keep b o (fun z => n (List.mem_append_left _ z)) (fun z => n (List.mem_append_right _ (List.mem_append_left _ z))) e⟩
  rcases List.mem_append.mp q with q | q
  · rcases m.own b q with z | z
    · exact n (List.mem_append_left _ z)
    · rw [e] at z; cases z
  · exact n (List.mem_append_right _ q)

theorem As.name (w : WX G X) {x : Str} {p : Pos} {i : Nat} {kd : NameKind} {t : Tr} {P : List Slot → Prop} (hv : HV X.vars X.kinds x i kd) (hi : i < μ.length) (hk : kd = .local ∨ kd = .cell) (hq : P (μ.set i (.v t))) :
    As G X μ (.Name x p) t P := fun s v h r =>
  wpAny_assign_Name (store_slot w h (Step.refl h.good) hv hi hk (val := .v t) r fun sl s' e m => by cases e; exact ⟨_, hq, m⟩)
theorem AsL.nil (w : WX G X) {P : List Slot → Prop} (h : P μ) : AsL G X μ [] [] P := fun s vs hs r => by
  cases r; exact wpAny_assignInOrder_none ⟨μ, h, Mv.step w hs (Step.refl hs.good)⟩
theorem AsL.cons {tgt : Expr} {tgts : List Expr} {t : Tr} {ts : List Tr} {P : List Slot → Prop} (h : As G X μ tgt t fun μ' => AsL G X μ' tgts ts P)
    (he : assignEach (tgt :: tgts) X.env = (false, assign tgt X.env) :: assignEach tgts X.env := by rfl) : AsL G X μ (tgt :: tgts) (t :: ts) P := fun s vs hs r => by
  cases r with
  | cons a b =>
    rw [he]
    refine wpAny_assignInOrder_more (wpAny_mono (h s _ hs a) (fun _ s' q => ?_) fun _ _ x => x)
    obtain ⟨μ', q, m⟩ := q
    exact wpAny_mono (q s' _ m.st (b.sub m.sub)) (fun _ s'' ⟨ν, z, m'⟩ => ⟨ν, z, m.trans m'⟩) fun _ _ x => x
theorem AsN.nil (w : WX G X) {P : List Slot → Prop} (h : P μ) : AsN G X μ [] [] P := fun s vs hs r => by
  cases r; exact wpAny_assignInOrder_none ⟨μ, h, Mv.step w hs (Step.refl hs.good)⟩
theorem AsN.cons (w : WX G X) {x : Str} {xs : List Str} {t : Tr} {ts : List Tr} {i : Nat} {kd : NameKind} {P : List Slot → Prop} (hv : HV X.vars X.kinds x i kd) (hi : i < μ.length) (hk : kd = .local ∨ kd = .cell)
    (h : AsN G X (μ.set i (.v t)) xs ts P) : AsN G X μ (x :: xs) (t :: ts) P := fun s vs hs r => by
  cases r with
  | cons a b =>
    refine wpAny_assignInOrder_more (wpAny_bindName (store_slot w hs (Step.refl hs.good) hv hi hk (val := .v t) a fun sl s' e m => ?_))
    cases e
    exact wpAny_mono (h s' _ m.st (b.sub m.sub)) (fun _ s'' ⟨ν, z, m'⟩ => ⟨ν, z, m.trans m'⟩) fun _ _ x => x
theorem AllIs.of_all {D : List Addr} {h : Heap} : ∀ {vs : List Value} {ds : List PyData}, AllRd h D vs ds → AllIs h D vs (ds.map .d)
  | [], [], _ => .nil
  | [], _ :: _, r => by cases r
  | _ :: _, [], r => by cases r
  | _ :: _, _ :: _, r => by cases r with | cons a b => exact .cons a (AllIs.of_all b)
theorem AllIs.append {h : Heap} {D : List Addr} {vs vs' : List Value} {ds ds' : List Tr} (r : AllIs h D vs ds) (r' : AllIs h D vs' ds') : AllIs h D (vs ++ vs') (ds ++ ds') := by
  induction vs generalizing ds with
  | nil => cases r; exact r'
  | cons w vs ih => cases r with | cons a b => exact AllIs.cons a (ih b)
theorem AllIs.reverse {h : Heap} {D : List Addr} {vs : List Value} {ds : List Tr} (r : AllIs h D vs ds) : AllIs h D vs.reverse ds.reverse := by
  induction vs generalizing ds with
  | nil => cases r; exact .nil
  | cons w vs ih => cases r with | cons a b => rw [List.reverse_cons, List.reverse_cons]; exact (ih b).append (.cons a .nil)

theorem tup_items {s : Shared} {D : List Addr} {v : Value} {ds : List PyData} (r : Is s.heap D v (TT ds)) : ∃ t items, v = .ref t ∧ s.heap.IsTuple t items ∧ AllRd s.heap D items.toList ds ∧ items.size = ds.length := by
  obtain ⟨a, vs, n, rfl, _, e, hr⟩ := Rd.tuple_inv r
  exact ⟨a, vs, rfl, ⟨_, e, rfl, n, rfl⟩, hr, by rw [← hr.length]; simp⟩
theorem extBut_step {s : Shared} (g : Good G s) {h' : Heap} {tk : Nat} (hk : Heap.ExtBut s.heap.objs.size s.heap h') : Step G s { s with heap := h', toks := tk } :=
  Step.grow g fun b o e => hk b o (Nat.ne_of_lt (Heap.lt_size e)) e
theorem As.tuple (w : WX G X) {elts : List Expr} {k : Nat} {p : Pos} {ds : List PyData} {P : List Slot → Prop} (h : AsL G X μ elts (ds.map .d) P)
    (hn : (assignEach elts X.env).length = ds.length := by rfl) (hst : (assignEach elts X.env).findIdx? (·.1) = none := by rfl) : As G X μ (.Tuple elts k p) (TT ds) P := fun s v hs r => by
  obtain ⟨t, items, rfl, ht, hr, hz⟩ := tup_items r
  refine wpAny_assign_Tuple w.hand ht (by rw [hn, hz]) hst fun h' hk => ?_
  have K := extBut_step (tk := s.toks) hs.good hk
  have m := Mv.step w hs K
  exact wpAny_mono (h _ _ m.st (AllIs.of_all (hr.sub (sub_keep K.2 w.TH)))) (fun _ s'' ⟨ν, z, m'⟩ => ⟨ν, z, m.trans m'⟩) fun _ _ x => x
theorem Ex1.unpack (w : WX G X) {elts : List Expr} {k : Nat} {tp p : Pos} {e : Expr} {ds : List PyData} (he : Ev G X μ e (TT ds)) (h : AsL G X μ elts (ds.map .d) fun μ' => Q (.next μ'))
    (hs : swapsWithSole [.Tuple elts k tp] e p.line X.env = pure false) (hw : swappedStores [.Tuple elts k tp] e X.env = pure none)
    (hn : (assignEach elts X.env).length = ds.length := by rfl) (hst : (assignEach elts X.env).findIdx? (·.1) = none := by rfl) : Ex1 G X μ (.Assign [.Tuple elts k tp] e p) Q := fun s h0 => by
  refine Assign_Tuple (wpAny_mono (he s h0) (fun v s₁ h₁ => ?_) fun _ _ x => x) hs hw
  have m := Mv.step w h0 h₁.1
  exact wpAny_mono (As.tuple w h hn hst s₁ v m.st h₁.2) (fun _ s' ⟨ν, z, m'⟩ => ⟨ν, z, m.trans m'⟩) fun _ _ x => x
theorem Ex1.swap (w : WX G X) {elts : List Expr} {k : Nat} {tp p : Pos} {e : Expr} {ds : List PyData} {names : List Str} (he : Ev G X μ e (TT ds)) (h : AsN G X μ names.reverse (ds.map .d).reverse fun μ' => Q (.next μ'))
    (hs : swapsWithSole [.Tuple elts k tp] e p.line X.env = pure false) (hw : swappedStores [.Tuple elts k tp] e X.env = pure (some names)) (hn : names.length = ds.length := by rfl) : Ex1 G X μ (.Assign [.Tuple elts k tp] e p) Q := fun s h0 => by
  refine Assign_Tuple_swapped (names := names) (wpAny_mono (he s h0) (fun v s₁ h₁ => ?_) fun _ _ x => x) hs hw
  obtain ⟨t, items, rfl, ht, hr, hz⟩ := tup_items h₁.2
  rw [show names.length = items.size by rw [hn, hz]]
  refine wpAny_unpackItems_tuple w.hand ht fun h' hk => ?_
  have K := extBut_step (tk := s₁.toks) h₁.1.1 hk
  have m := Mv.step w h0 (h₁.1.trans K)
  exact wpAny_mono (h _ _ m.st (AllIs.of_all (hr.sub (sub_keep K.2 w.TH))).reverse) (fun _ s' ⟨ν, z, m'⟩ => ⟨ν, z, m.trans m'⟩) fun _ _ x => x
theorem Ex1.set3 (w : WX G X) {t1 t2 t3 e : Expr} {p : Pos} {t : Tr} (he : Ev G X μ e t) (h1 : As G X μ t1 t fun μ1 => As G X μ1 t2 t fun μ2 => As G X μ2 t3 t fun μ3 => Q (.next μ3))
    (h2 : (assignEach [t1, t2, t3] X.env).map (·.2) = [assign t1 X.env, assign t2 X.env, assign t3 X.env] := by rfl) (hw : swappedStores [t1, t2, t3] e X.env = pure none := by rfl) : Ex1 G X μ (.Assign [t1, t2, t3] e p) Q := fun s h => by
  refine wpAny_Assign_three (wpAny_mono (he s h) (fun v s₁ h₁ => ?_) fun _ _ x => x) h2 hw
  have m := Mv.step w h h₁.1
  refine wpAny_mono (h1 s₁ v m.st h₁.2) (fun _ s₂ ⟨μ1, q1, m1⟩ => ?_) fun _ _ x => x
  have r1 := h₁.2.sub m1.sub
  refine wpAny_mono (q1 s₂ v m1.st r1) (fun _ s₃ ⟨μ2, q2, m2⟩ => ?_) fun _ _ x => x
  have r2 := r1.sub m2.sub
  exact wpAny_mono (q2 s₃ v m2.st r2) (fun _ s₄ ⟨μ3, q3, m3⟩ => ⟨μ3, q3, ((m.trans m1).trans m2).trans m3⟩) fun _ _ x => x

theorem Ex1.aug (w : WX G X) {x : Str} {p p' : Pos} {op : Operator} {e : Expr} {i : Nat} {kd : NameKind} {a b t : Tr} (hv : HV X.vars X.kinds x i kd) (hm : μ[i]? = some (.v a)) (he : Ev G X μ e b) (ho : Inp G op a b t) (hk : kd = .local ∨ kd = .cell)
    (hq : Q (.next (μ.set i (.v t)))) : Ex1 G X μ (.AugAssign (.Name x p') op e p) Q := fun s h => by
  have hi : i < μ.length := (List.getElem?_eq_some_iff.mp hm).1
  refine wpAny_AugAssign_Name (load_slot w h hv hm (fun v m n sa hold => ?_) (by intro q; cases q))
  obtain ⟨v', q1, q2⟩ := sa
  cases hold.fn q1
  refine wpAny_mono (he s h) (fun v2 s₂ h₂ => ?_) fun _ _ x => x
  have st := h.step w h₂.1
  refine wpAny_mono (ho X.A (hid X μ) s₂ v v2 (st.room w) (q2.step w h₂.1) h₂.2) (fun r s₃ h₃ => ?_) fun _ _ x => x
  exact store_slot w h (h₂.1.trans h₃.1) hv hi hk (val := .v t) h₃.2 fun sl s' e m => by cases e; exact ⟨_, hq, m⟩

theorem Ex1.ite (w : WX G X) {c : Expr} {b : Bool} {body orelse : List Stmt} {p : Pos} (hc : Ts G X μ c b) (h1 : b = true → Ex G X μ body Q) (h2 : b = false → Ex G X μ orelse Q) : Ex1 G X μ (.If c body orelse p) Q := fun s h => by
  refine wpAny_If (wpAny_mono (hc s h) (fun v s₁ h₁ => ?_) fun _ _ x => x)
  obtain ⟨k, rfl⟩ := h₁
  have m := Mv.step w h k
  cases v with
  | true => exact wpAny_mono (h1 rfl s₁ m.st) (fun _ _ e => e.mv m) fun _ _ x => x
  | false => exact wpAny_mono (h2 rfl s₁ m.st) (fun _ _ e => e.mv m) fun _ _ x => x
theorem Ex1.ret (w : WX G X) {e : Expr} {p : Pos} {t : Tr} (he : Ev G X μ e t) (hq : Q (.ret μ t)) : Ex1 G X μ (.Return (some e) p) Q := fun s h =>
  wpAny_Return_some (wpAny_mono (he s h) (fun v s₁ h₁ => ⟨μ, t, hq, Mv.step w h h₁.1, h₁.2.sub fun b o n e => ⟨fun z => n (List.mem_append_right _ (List.mem_append_right _ z)), e⟩⟩) fun _ _ x => x)
theorem Ex1.ret0 (w : WX G X) {p : Pos} (hq : Q (.ret μ (.d .none))) : Ex1 G X μ (.Return none p) Q := fun s h =>
  wpAny_Return_none ⟨μ, _, hq, Mv.step w h (Step.refl h.good), Rd.none⟩
theorem Ex1.brk (w : WX G X) {p : Pos} (hq : Q (.brk μ)) : Ex1 G X μ (.Break p) Q := fun s h => wpAny_Break ⟨μ, hq, Mv.step w h (Step.refl h.good)⟩

/-! ## knowing less -/
inductive Wk : List Slot → List Slot → Prop
  | nil : Wk [] []
  | same {sl : Slot} {r r' : List Slot} : Wk r r' → Wk (sl :: r) (sl :: r')
  | no {sl : Slot} {r r' : List Slot} : Wk r r' → Wk (sl :: r) (.no :: r')
  | frz {a : Addr} {ts : List PyData} {r r' : List Slot} : Wk r r' → Wk (.own a ts :: r) (.v (L ts) :: r')
theorem Wk.refl : ∀ μ : List Slot, Wk μ μ
  | [] => .nil
  | _ :: r => .same (Wk.refl r)
theorem Wk.owns {μ μ' : List Slot} (k : Wk μ μ') : (owns μ').Sublist (owns μ) := by
  induction k with
  | nil => exact List.Sublist.refl _
  | @same sl r r' _ ih => cases sl <;> simp only [Mine.owns] <;> first | exact ih | exact ih.cons_cons _
  | @no sl r r' _ ih => cases sl <;> simp only [Mine.owns] <;> first | exact ih | exact ih.cons _
  | frz _ ih => simp only [Mine.owns]; exact ih.cons _
theorem Wk.at {μ μ' : List Slot} (k : Wk μ μ') (nd : (Mine.owns μ).Nodup) {i : Nat} {sl' : Slot} (e : μ'[i]? = some sl') :
    sl' = .no ∨ μ[i]? = some sl' ∨ ∃ a ts, μ[i]? = some (.own a ts) ∧ sl' = .v (L ts) ∧ a ∉ Mine.owns μ' := by
  induction k generalizing i with
  | nil => simp at e
  | @same sl r r' k ih =>
    have tl : (Mine.owns r).Nodup := by cases sl <;> simp only [Mine.owns] at nd <;> first | exact nd | exact (List.nodup_cons.mp nd).2
    cases i with
    | zero => exact .inr (.inl (by simpa using e))
    | succ i =>
      rcases ih tl (by simpa using e) with q | q | ⟨a, ts, q1, q2, q3⟩
      · exact .inl q
      · exact .inr (.inl (by simpa using q))
      · refine .inr (.inr ⟨a, ts, by simpa using q1, q2, fun z => ?_⟩)
        cases sl with
        | no => exact q3 z
        | v t => exact q3 z
        | own b tb =>
          cases z with
          | head => exact (List.nodup_cons.mp nd).1 (owns_mem q1)
          | tail _ z => exact q3 z
  | @no sl r r' k ih =>
    have tl : (Mine.owns r).Nodup := by cases sl <;> simp only [Mine.owns] at nd <;> first | exact nd | exact (List.nodup_cons.mp nd).2
    cases i with
    | zero => exact .inl (by simpa using e.symm)
    | succ i =>
      rcases ih tl (by simpa using e) with q | q | ⟨a, ts, q1, q2, q3⟩
      · exact .inl q
      · exact .inr (.inl (by simpa using q))
      · exact .inr (.inr ⟨a, ts, by simpa using q1, q2, q3⟩)
  | @frz a0 ts0 r r' k ih =>
    have tl : (Mine.owns r).Nodup := (List.nodup_cons.mp nd).2
    cases i with
    | zero =>
      have e' : Slot.v (L ts0) = sl' := by simpa using e
      exact .inr (.inr ⟨a0, ts0, rfl, e'.symm, fun z => (List.nodup_cons.mp nd).1 (k.owns.subset z)⟩)
    | succ i =>
      rcases ih tl (by simpa using e) with q | q | ⟨a, ts, q1, q2, q3⟩
      · exact .inl q
      · exact .inr (.inl (by simpa using q))
      · exact .inr (.inr ⟨a, ts, by simpa using q1, q2, q3⟩)
theorem Wk.st {μ' : List Slot} {s : Shared} (k : Wk μ μ') (h : St G X μ s) : St G X μ' s := by
  have sub : ∀ b, b ∈ hid X μ' → b ∈ hid X μ := fun b hb => by
    rcases List.mem_append.mp hb with q | q
    · exact List.mem_append_left _ (k.owns.subset q)
    · exact List.mem_append_right _ q
  have S : Sub (hid X μ) (hid X μ') s.heap s.heap := fun b o n e => ⟨fun q => n (sub b q), e⟩
  refine ⟨h.good, fun a ha => h.dom a (sub a ha), h.own.sublist k.owns, fun a ha => h.new a (k.owns.subset ha), ?_, fun i a ts e => ?_, h.cells⟩
  · obtain ⟨m, n, r⟩ := h.vars
    refine ⟨m, n, fun i x kd sl h1 h2 h3 => ?_⟩
    rcases k.at h.own h3 with rfl | q | ⟨a, ts, q1, rfl, q3⟩
    · trivial
    · have z := r i x kd sl h1 h2 q
      cases sl with
      | no => trivial
      | v t => obtain ⟨v, a, b⟩ := z; exact ⟨v, a, b.sub S⟩
      | own a ts => exact z
    · obtain ⟨vs, ⟨n, z1⟩, z2⟩ := h.lists i a ts q1
      refine ⟨.ref a, r i x kd _ h1 h2 q1, Rd.list (fun q => ?_) z1 (z2.sub S)⟩
      rcases List.mem_append.mp q with q | q
      · exact q3 q
      · exact (h.new a (owns_mem q1)).2 q
  · rcases k.at h.own e with q | q | ⟨_, _, _, q, _⟩
    · cases q
    · obtain ⟨vs, z1, z2⟩ := h.lists i a ts q
      exact ⟨vs, z1, z2.sub S⟩
    · cases q
theorem Wk.mv {μ' : List Slot} {s : Shared} (k : Wk μ μ') (h : St G X μ s) : Mv G X μ s μ' s := ⟨k.st h, fun _ _ _ _ e => e, fun a ha => .inl (k.owns.subset ha)⟩
theorem Ex.wk {μ' : List Slot} {ss : List Stmt} (k : Wk μ μ') (h : Ex G X μ' ss Q) : Ex G X μ ss Q := fun s hs =>
  wpAny_mono (h s (k.st hs)) (fun _ _ e => e.mv (k.mv hs)) fun _ _ x => x
end

/-! # F8 -/

/-! ## a call of a function of the program's -/
def okNames (names : List (Str × NameKind)) : Bool := decide ((names.map (·.1)).Nodup) && names.all fun p => !(p.1 == ("__debug__" : Str)) && !(p.1 == ("__classdict__" : Str))
theorem lookup_nodup {α : Type} : ∀ {names : List (Str × α)} (h : (names.map (·.1)).Nodup) {i : Nat} {x : Str} {k : α}, names[i]? = some (x, k) → names.lookup x = some k
  | [], _, i, x, k, e => by simp at e
  | (y, ky) :: r, h, i, x, k, e => by
    simp only [List.map_cons, List.nodup_cons] at h
    rw [List.lookup_cons]
    cases i with
    | zero => simp at e; obtain ⟨rfl, rfl⟩ := e; simp
    | succ i =>
      have e' : r[i]? = some (x, k) := by simpa using e
      have hne : (x == y) = false := by
        rw [beq_eq_false_iff_ne]
        intro q; subst q
        exact h.1 (List.mem_map.mpr ⟨_, List.mem_of_getElem? e', rfl⟩)
      rw [hne]; exact lookup_nodup h.2 e'
theorem bindL_skip {kindOf : Str → Option NameKind} : ∀ (binds : List (Str × Value)) (m : Str → Option Value) {x : Str}, x ∉ binds.map (·.1) → bindL kindOf binds m x = m x
  | [], m, x, _ => rfl
  | (n, v) :: r, m, x, h => by
    simp only [List.map_cons, List.mem_cons, not_or] at h
    unfold bindL
    rw [bindL_skip r _ h.2]
    split
    · simp [h.1]
    · rfl
theorem bindC_skip {kindOf : Str → Option NameKind} : ∀ (binds : List (Str × Value)) (m : Str → Option Value) {x : Str}, x ∉ binds.map (·.1) → bindC kindOf binds m x = m x
  | [], m, x, _ => rfl
  | (n, v) :: r, m, x, h => by
    simp only [List.map_cons, List.mem_cons, not_or] at h
    unfold bindC
    rw [bindC_skip r _ h.2]
    split
    · rfl
    · simp [h.1]
theorem bindL_get {kindOf : Str → Option NameKind} : ∀ (binds : List (Str × Value)) (m : Str → Option Value), (binds.map (·.1)).Nodup → ∀ {i : Nat} {x : Str} {v : Value}, binds[i]? = some (x, v) → kindOf x = some .local → bindL kindOf binds m x = some v
  | [], m, _, i, x, v, e, _ => by simp at e
  | (n, u) :: r, m, h, i, x, v, e, hk => by
    simp only [List.map_cons, List.nodup_cons] at h
    unfold bindL
    cases i with
    | zero => simp at e; obtain ⟨rfl, rfl⟩ := e; rw [bindL_skip r _ h.1, if_pos hk]; simp
    | succ i => exact bindL_get r _ h.2 (by simpa using e) hk
theorem bindC_get {kindOf : Str → Option NameKind} : ∀ (binds : List (Str × Value)) (m : Str → Option Value), (binds.map (·.1)).Nodup → ∀ {i : Nat} {x : Str} {v : Value}, binds[i]? = some (x, v) → kindOf x ≠ some .local → bindC kindOf binds m x = some v
  | [], m, _, i, x, v, e, _ => by simp at e
  | (n, u) :: r, m, h, i, x, v, e, hk => by
    simp only [List.map_cons, List.nodup_cons] at h
    unfold bindC
    cases i with
    | zero => simp at e; obtain ⟨rfl, rfl⟩ := e; rw [bindC_skip r _ h.1, if_neg hk]; simp
    | succ i => exact bindC_get r _ h.2 (by simpa using e) hk
theorem cellsFrom_acc : ∀ (names : List (Str × NameKind)) (n : Nat) (acc : List (Str × Addr)) {x : Str}, (acc.lookup x).isSome = true → ((cellsFrom n names acc).lookup x).isSome = true
  | [], _, _, _, h => h
  | (y, k) :: r, n, acc, x, h => by
    unfold cellsFrom
    split
    · refine cellsFrom_acc r _ _ ?_
      rw [List.lookup_cons]
      split
      · rfl
      · exact h
    · exact cellsFrom_acc r _ _ h
theorem cellsFrom_some : ∀ {names : List (Str × NameKind)} (n : Nat) (acc : List (Str × Addr)) {x : Str}, (x, NameKind.cell) ∈ names → ((cellsFrom n names acc).lookup x).isSome = true
  | (y, k) :: r, n, acc, x, h => by
    unfold cellsFrom
    rcases List.mem_cons.mp h with e | h
    · cases e
      rw [if_pos (by rfl)]
      exact cellsFrom_acc r _ _ (by rw [List.lookup_cons]; simp)
    · split
      · exact cellsFrom_some _ _ h
      · exact cellsFrom_some _ _ h

theorem cellsFrom_nodup : ∀ (names : List (Str × NameKind)) (n : Nat) (acc : List (Str × Addr)), (names.map (·.1)).Nodup → (acc.map (·.1)).Nodup → (∀ x ∈ names.map (·.1), x ∉ acc.map (·.1)) → ((cellsFrom n names acc).map (·.1)).Nodup
  | [], _, _, _, h, _ => h
  | (y, k) :: r, n, acc, h1, h2, h3 => by
    simp only [List.map_cons, List.nodup_cons] at h1
    unfold cellsFrom
    split
    · refine cellsFrom_nodup r _ _ h1.2 (List.nodup_cons.mpr ⟨h3 y (.head _), h2⟩) fun x hx hm => ?_
      rcases List.mem_cons.mp hm with rfl | hm
      · exact h1.1 hx
      · exact h3 x (.tail _ hx) hm
    · exact cellsFrom_nodup r _ _ h1.2 h2 fun x hx => h3 x (.tail _ hx)

/-- the frame of a call -/
@[reducible] def fnCx (G : Gd) (vars : List Str) (kinds : List NameKind) (scope : Scope) (qual : Str) (code : Value) (cells : List (Str × Addr)) (cm : List Addr) (bi : Addr) (A : Around) (f L d : Nat) : Cx where
  A := A.deeper (newEnv scope L mainGlobals cells qual (some f) code none bi)
  env := newEnv scope L mainGlobals cells qual (some f) code none bi
  vars := vars
  kinds := kinds
  M := L :: (cm ++ G.T)
  H := []
  d := d

def Fin (r : Tr) : Out → Prop
  | .ret _ t => t = r
  | .next _ => r = .d .none
  | _ => False

theorem bind_names {ps : List Str} {vals : List Value} (h : ps.length = vals.length) : (ps.zip vals).map (·.1) = ps := by
  rw [List.map_fst_zip (by (first | lia | omega))]

section
variable {G : Gd}
theorem WX.fn {vars : List Str} {kinds : List NameKind} {scope : Scope} {qual : Str} {code : Value} {cells : List (Str × Addr)} {cm : List Addr} {A : Around} {f L d : Nat}
    (hn : okNames scope.names = true) (hv : scope.names.map (·.1) = vars) (hk : scope.names.map (·.2) = kinds) (hkind : scope.kind = .function)
    (hh : A.handled = none) (hd : A.depth + (d + 1) ≤ recursionLimit) (hu : A.units + 8 * (d + 1) + 80 ≤ cLine)
    (hM : ∀ a, a = L ∨ a ∈ cm → G.hG.get? a = none) (hcm : ∀ (i : Nat) x c, scope.names[i]? = some (x, .cell) → cells.lookup x = some c → c ∈ cm) (hc : ∀ (i : Nat) x k, scope.names[i]? = some (x, k) → (k = .cell ∨ k = .free) → (cells.lookup x).isSome = true) (hinj : ∀ x y c, cells.lookup x = some c → cells.lookup y = some c → x = y) (H : List Addr) :
    WX G ((fnCx G vars kinds scope qual code cells cm builtinsNs A f L d).at H) := by
  subst hv hk
  unfold okNames at hn
  rw [Bool.and_eq_true] at hn
  obtain ⟨hn, hdbg⟩ := hn
  have nd := of_decide_eq_true hn
  have pair : ∀ (i : Nat) x k, (scope.names.map (·.1))[i]? = some x → (scope.names.map (·.2))[i]? = some k → scope.names[i]? = some (x, k) := fun i x k h1 h2 => by
    rw [List.getElem?_map] at h1 h2
    cases e : scope.names[i]? with
    | none => rw [e] at h1; cases h1
    | some p => rw [e] at h1 h2; cases h1; cases h2; rfl
  have dbg : ∀ p ∈ scope.names, (p.1 == ("__debug__" : Str)) = false ∧ (p.1 == ("__classdict__" : Str)) = false := fun p hp => by
    have := List.all_eq_true.mp hdbg p hp
    simp only [Bool.and_eq_true, Bool.not_eq_true'] at this
    exact this
  refine ⟨hh, ?_, ?_, hkind, rfl, rfl, fun i x k h1 h2 => .inl (lookup_nodup nd (pair i x k h1 h2)), fun i x h1 => ?_, fun i j x h1 h2 => ?_, .head _, fun a ha => .tail _ (List.mem_append_right _ ha), hM _ (.inl rfl), fun i x c h1 h2 e => hM _ (.inr (hcm i x c (pair i x _ h1 h2) e)), fun i x c h1 h2 e => ?_, fun i x k h1 h2 hk => ?_, hinj⟩
  · show A.depth + 1 + d ≤ _; (first | lia | omega)
  · show A.units + 3 + 8 * d + 80 ≤ _; (first | lia | omega)
  · rw [List.getElem?_map] at h1
    cases e : scope.names[i]? with
    | none => rw [e] at h1; cases h1
    | some p => rw [e] at h1; cases h1; exact dbg p (List.mem_of_getElem? e)
  · exact (List.getElem?_inj (List.getElem?_eq_some_iff.mp h1).1 nd).mp (h1.trans h2.symm)
  · exact .tail _ (List.mem_append_left _ (hcm i x c (pair i x _ h1 h2) e))
  · exact hc i x k (pair i x _ h1 h2) hk

theorem fn_core (g : Gr G) {f : Addr} {oc : Value} {od : Option Addr} {osl : Array (Option Value)} {fd : FuncData} {body : List Stmt} {vars ps : List Str} {kinds : List NameKind} {d : Nat} {ts : List Tr} {nos : List Slot} {cdv : Value} {scope : Scope} {qual : Str} {μ0 : List Slot}
    (ho : G.K.lookup f = some ⟨oc, od, .func fd, osl⟩) (hsc : fd.scope = scope) (hcdv : fd.code = cdv) (hq : fd.qualname = qual) (hcd : codeIn G.K cdv qual = true) (hbody : fd.body = .stmts body) (hclo : fd.closure = []) (hglo : fd.globals = mainGlobals) (hbi : fd.builtins = builtinsNs)
    (hn : okNames scope.names = true) (hv : scope.names.map (·.1) = vars) (hk : scope.names.map (·.2) = kinds)
    (hbind : ∀ vals : List Value, vals.length = ts.length → bindArgs fd ⟨vals, []⟩ = pure (ps.zip vals))
    (hps : vars.take ts.length = ps) (hpk : (kinds.take ts.length).all (fun k => k == .local || k == .cell) = true)
    (hnos : nos.all (fun s => match s with | .no => true | _ => false) = true) (hlen : ps.length = ts.length)
    (hnf : scope.names.all (fun p => p.2 != .free) = true) (hco : scope.isCoroutine = false) (hgen : scope.isGenerator = false) (hkind : scope.kind = .function) (hμ0 : ts.map Slot.v ++ nos = μ0)
    {A : Around} {s : Shared} {D : List Addr} {vs : List Value} {Pv Pe : Value → Shared → Prop} (hh : A.handled = none) (hdp : A.depth + (d + 1) ≤ recursionLimit) (hu : A.units + 8 * (d + 1) + 80 ≤ cLine) (gs : Good G s) (hT : ∀ a ∈ G.T, a ∈ D) (hD : ∀ a ∈ D, ∃ o, s.heap.get? a = some o) (hargs : AllIs s.heap D vs ts)
    (h : ∀ (L : Addr) (cells : List (Str × Addr)) (cm : List Addr), (∀ H, WX G ((fnCx G vars kinds scope (qual ++ ".<locals>.") cdv cells cm builtinsNs A f L d).at H)) → (∀ a ∈ cm, ∃ x, cells.lookup x = some a) → owns μ0 = [] →
      (∀ b, b ∈ (fnCx G vars kinds scope (qual ++ ".<locals>.") cdv cells cm builtinsNs A f L d).M → s.heap.get? b = none ∨ b ∈ G.T) → s.heap.get? L = none →
      ∀ s1, St G ((fnCx G vars kinds scope (qual ++ ".<locals>.") cdv cells cm builtinsNs A f L d).at D) μ0 s1 → s1.gens = s.gens → s1.os = s.os → (∀ b o, s.heap.get? b = some o → s1.heap.get? b = some o) →
      wpAny G.M (fnCx G vars kinds scope (qual ++ ".<locals>.") cdv cells cm builtinsNs A f L d).A (execs body (fnCx G vars kinds scope (qual ++ ".<locals>.") cdv cells cm builtinsNs A f L d).env)
        (fun fl s' => Pv (match fl with | .ret v => v | _ => .none) s')
        (fun e s' => wpAny G.M (fnCx G vars kinds scope (qual ++ ".<locals>.") cdv cells cm builtinsNs A f L d).A (leaving (fnCx G vars kinds scope (qual ++ ".<locals>.") cdv cells cm builtinsNs A f L d).env e) (fun _ s'' => Pe e s'') (fun e' s'' => Pe e' s'') s') s1) :
    wpAny G.M A (PySem.call (.ref f) vs) Pv Pe s := by
  subst hsc hcdv hq hμ0
  have nd : (fd.scope.names.map (·.1)).Nodup := by
    unfold okNames at hn; rw [Bool.and_eq_true] at hn; exact of_decide_eq_true hn.1
  have hvl : vs.length = ts.length := hargs.length
  have XK := g.X.keeps gs.stays
  -- the i-th parameter
  have par : ∀ (i : Nat), i < ts.length → ∃ x k, ps[i]? = some x ∧ vars[i]? = some x ∧ kinds[i]? = some k ∧ fd.scope.names[i]? = some (x, k) ∧ fd.scope.names.lookup x = some k ∧ (k = .local ∨ k = .cell) := fun i hi => by
    have hpi : i < ps.length := by (first | lia | omega)
    have e1 : ps[i]? = some ps[i] := List.getElem?_eq_getElem hpi
    have e2 : vars[i]? = some ps[i] := by
      have q : (vars.take ts.length)[i]? = some ps[i] := by rw [hps]; exact e1
      rw [List.getElem?_take] at q; simpa [hi] using q
    have e2' := e2
    rw [← hv, List.getElem?_map] at e2'
    cases e : fd.scope.names[i]? with
    | none => rw [e] at e2'; cases e2'
    | some p =>
      rw [e] at e2'
      have hx : p.1 = ps[i] := Option.some.inj e2'
      have e3 : kinds[i]? = some p.2 := by rw [← hk, List.getElem?_map, e]; rfl
      have hkk : p.2 = .local ∨ p.2 = .cell := by
        have hm : p.2 ∈ kinds.take ts.length := List.mem_of_getElem? (i := i) (by rw [List.getElem?_take]; simpa [hi] using e3)
        have := List.all_eq_true.mp hpk _ hm
        simpa using this
      refine ⟨ps[i], p.2, e1, e2, e3, by rw [← hx], ?_, hkk⟩
      exact lookup_nodup nd (i := i) (by rw [e, ← hx])
  have bmem : ∀ x ∈ ps.zip vs, ∃ (i : Nat), i < ts.length ∧ ps[i]? = some x.1 ∧ vs[i]? = some x.2 := fun x hx => by
    obtain ⟨i, hi, e⟩ := List.getElem_of_mem hx
    rw [List.getElem_zip] at e
    have hi' : i < ps.length ∧ i < vs.length := by rw [List.length_zip] at hi; (first | lia | omega)
    refine ⟨i, by (first | lia | omega), ?_, ?_⟩
    · rw [List.getElem?_eq_getElem hi'.1, ← e]
    · rw [List.getElem?_eq_getElem hi'.2, ← e]
  refine wpAny_call (codeAny_mono (R := fun r s' => match r with | .ok (.ret v) => Pv v s' | .ok _ => False | .error e => Pe e s') ?_ fun r s' h => by cases r with | ok f => (cases f <;> (first | exact h | exact h.elim)) | error e => exact h)
  refine codeAny_call_cells (fd := fd) (by (first | lia | omega)) (XK _ _ ho) rfl (g.nolimit.keeps gs.stays) (codeRec_of XK hcd) hbody (hbind vs hvl) hclo (fun x hx => ?_) (fun s₁ I => ?_) hco hgen hkind
  · obtain ⟨i, hi, e1, e2⟩ := bmem x hx
    obtain ⟨y, k, q1, _, _, q4, q5, q6⟩ := par i hi
    rw [q1] at e1; cases e1
    rcases q6 with rfl | rfl
    · exact .inl q5
    · exact .inr ⟨q5, cellsFrom_some _ _ (List.mem_of_getElem? q4)⟩
  · have hce : callEnvC fd s.heap.objs.size f = newEnv fd.scope s.heap.objs.size mainGlobals (cellsFrom (s.heap.objs.size + 1) fd.scope.names []) (fd.qualname ++ ".<locals>.") (some f) fd.code none builtinsNs := by
      unfold callEnvC; rw [hglo, hbi]
    rw [hce] at I ⊢
    obtain ⟨h1, tk, rfl⟩ := I.toInCall.same
    have keep := I.toInCall.keep
    have fresh : ∀ a, s.heap.objs.size ≤ a → s.heap.get? a = none := fun a ha => by
      cases e : s.heap.get? a with
      | none => rfl
      | some o => exact absurd (Heap.lt_size e) (Nat.not_lt.mpr ha)
    have above : ∀ a, a ∈ (cellsFrom (s.heap.objs.size + 1) fd.scope.names []).map (·.2) → s.heap.objs.size ≤ a := fun a ha => by
      obtain ⟨p, hp, rfl⟩ := List.mem_map.mp ha
      exact Nat.le_of_lt (I.above p.1 p.2 hp)
    have newM : ∀ a, a = s.heap.objs.size ∨ a ∈ (cellsFrom (s.heap.objs.size + 1) fd.scope.names []).map (·.2) → s.heap.get? a = none := fun a ha => by
      rcases ha with rfl | ha
      · exact fresh _ (Nat.le_refl _)
      · exact fresh _ (above a ha)
    have newG : ∀ a, s.heap.get? a = none → G.hG.get? a = none := fun a ha => by
      cases e : G.hG.get? a with
      | none => rfl
      | some o => rw [gs.stays _ _ e] at ha; cases ha
    have W := fun H => WX.fn (G := G) (qual := fd.qualname ++ ".<locals>.") (code := fd.code) (f := f) (L := s.heap.objs.size) (cm := (cellsFrom (s.heap.objs.size + 1) fd.scope.names []).map (·.2)) hn hv hk hkind hh hdp hu (fun a ha => newG a (newM a ha)) (fun i x c e z => List.mem_map.mpr ⟨_, mem_of_lookup z, rfl⟩) (cells := cellsFrom (s.heap.objs.size + 1) fd.scope.names [])
      (fun i x k e hk => by
        have hm := List.mem_of_getElem? e
        rcases hk with rfl | rfl
        · exact cellsFrom_some _ _ hm
        · have := List.all_eq_true.mp hnf _ hm; simp at this) (fun x y c e1 e2 => name_of_addr I.apart (mem_of_lookup e1) (mem_of_lookup e2)) H
    have MH : ∀ b, b ∈ (fnCx G vars kinds fd.scope (fd.qualname ++ ".<locals>.") fd.code (cellsFrom (s.heap.objs.size + 1) fd.scope.names []) ((cellsFrom (s.heap.objs.size + 1) fd.scope.names []).map (·.2)) builtinsNs A f s.heap.objs.size d).M → s.heap.get? b = none ∨ b ∈ G.T := fun b hb => by
      rcases List.mem_cons.mp hb with rfl | hb
      · exact .inl (newM _ (.inl rfl))
      · rcases List.mem_append.mp hb with hb | hb
        · exact .inl (newM _ (.inr hb))
        · exact .inr hb
    have os : owns (ts.map Slot.v ++ nos) = [] := by
      cases q : owns (ts.map Slot.v ++ nos) with
      | nil => rfl
      | cons a r =>
        obtain ⟨i, tt, e⟩ := mem_owns (q ▸ .head _ : a ∈ owns (ts.map Slot.v ++ nos))
        rcases List.mem_append.mp (List.mem_of_getElem? e) with z | z
        · obtain ⟨t, _, e⟩ := List.mem_map.mp z; cases e
        · have := List.all_eq_true.mp hnos _ z; simp at this
    have K : Step G s { s with heap := h1, toks := tk } := Step.grow gs keep
    have sub : Sub D (hid ((fnCx G vars kinds fd.scope (fd.qualname ++ ".<locals>.") fd.code (cellsFrom (s.heap.objs.size + 1) fd.scope.names []) ((cellsFrom (s.heap.objs.size + 1) fd.scope.names []).map (·.2)) builtinsNs A f s.heap.objs.size d).at D) (ts.map Slot.v ++ nos)) s.heap h1 := fun b o n e => by
      refine ⟨fun q => ?_, keep b o e⟩
      show False
      unfold hid at q
      rw [os] at q
      rcases List.mem_append.mp q with q | q
      · cases q
      · rcases List.mem_append.mp q with q | q
        · rcases MH b q with z | z
          · rw [e] at z; cases z
          · exact n (hT b z)
        · exact n q
    have st : St G ((fnCx G vars kinds fd.scope (fd.qualname ++ ".<locals>.") fd.code (cellsFrom (s.heap.objs.size + 1) fd.scope.names []) ((cellsFrom (s.heap.objs.size + 1) fd.scope.names []).map (·.2)) builtinsNs A f s.heap.objs.size d).at D) (ts.map Slot.v ++ nos) { s with heap := h1, toks := tk } := by
      refine ⟨K.1, fun a ha => ?_, (by rw [os]; exact List.nodup_nil), (by rw [os]; intro a ha; cases ha), ⟨_, I.toInCall.ns, fun i x k sl e1 e2 e3 => ?_⟩, fun i a tt e => ?_, fun x c e => ⟨_, I.cell x c e⟩⟩
      · unfold hid at ha
        rw [os] at ha
        rcases List.mem_append.mp ha with q | q
        · cases q
        · rcases List.mem_append.mp q with q | q
          · rcases List.mem_cons.mp q with rfl | q
            · obtain ⟨o, _, _, e, _⟩ := I.toInCall.ns; exact ⟨o, e⟩
            · rcases List.mem_append.mp q with q | q
              · obtain ⟨p, hp, rfl⟩ := List.mem_map.mp q
                have hl : (cellsFrom (s.heap.objs.size + 1) fd.scope.names []).lookup p.1 = some p.2 := by
                  obtain ⟨i, hi, e⟩ := List.getElem_of_mem hp
                  exact lookup_nodup (cellsFrom_nodup _ _ [] nd List.nodup_nil (by simp)) (i := i) (by rw [List.getElem?_eq_getElem hi, e])
                obtain ⟨o, e, _⟩ := I.cell p.1 p.2 hl
                exact ⟨o, e⟩
              · obtain ⟨t, ht, rfl⟩ := List.mem_map.mp q
                obtain ⟨_, e, _⟩ := K.1.tab t ht
                exact ⟨_, e⟩
          · obtain ⟨o, e⟩ := hD a q; exact ⟨o, keep a o e⟩
      · by_cases hi : i < ts.length
        · rw [List.getElem?_append_left (by simpa using hi), List.getElem?_map] at e3
          have et : ts[i]? = some ts[i] := List.getElem?_eq_getElem hi
          rw [et] at e3; cases e3
          obtain ⟨y, k', q1, q2, q3, q4, q5, q6⟩ := par i hi
          have e1' : vars[i]? = some x := e1
          have e2' : kinds[i]? = some k := e2
          rw [q2] at e1'; cases e1'
          rw [q3] at e2'; cases e2'
          have hiv : i < vs.length := by (first | lia | omega)
          have ev : vs[i]? = some vs[i] := List.getElem?_eq_getElem hiv
          obtain ⟨t, et', ri⟩ := hargs.get ev
          rw [et] at et'; cases et'
          have eb : (ps.zip vs)[i]? = some (x, vs[i]) := by rw [List.getElem?_zip_eq_some]; exact ⟨q1, ev⟩
          have ndp : ((ps.zip vs).map (·.1)).Nodup := by
            rw [bind_names (by (first | lia | omega)), ← hps, ← hv]
            exact nd.sublist (List.take_sublist _ _)
          refine ⟨vs[i], ?_, ri.sub sub⟩
          rcases q6 with rfl | rfl
          · exact bindL_get _ _ ndp eb q5
          · obtain ⟨c, hc⟩ := Option.isSome_iff_exists.mp (cellsFrom_some (s.heap.objs.size + 1) [] (List.mem_of_getElem? q4))
            refine ⟨c, hc, ?_⟩
            have := I.cell x c hc
            rwa [bindC_get _ _ ndp eb (by rw [show (newEnv fd.scope s.heap.objs.size mainGlobals (cellsFrom (s.heap.objs.size + 1) fd.scope.names []) (fd.qualname ++ ".<locals>.") (some f) fd.code none builtinsNs).kindOf x = fd.scope.names.lookup x from rfl, q5]; decide)] at this
        · rw [List.getElem?_append_right (by simpa using hi)] at e3
          have := List.all_eq_true.mp hnos _ (List.mem_of_getElem? e3)
          cases sl <;> first | trivial | (simp at this)
      · have := owns_mem e
        rw [os] at this; cases this
    exact h s.heap.objs.size _ _ W (fun a ha => by
      obtain ⟨p, hp, rfl⟩ := List.mem_map.mp ha
      obtain ⟨i, hi, e⟩ := List.getElem_of_mem hp
      exact ⟨p.1, lookup_nodup (cellsFrom_nodup _ _ [] nd List.nodup_nil (by simp)) (i := i) (by rw [List.getElem?_eq_getElem hi, e])⟩) os MH (newM _ (.inl rfl)) _ st rfl rfl keep

theorem Spec.intro (g : Gr G) {f : Addr} {oc : Value} {od : Option Addr} {osl : Array (Option Value)} {fd : FuncData} {body : List Stmt} {vars ps : List Str} {kinds : List NameKind} {d : Nat} {ts : List Tr} {nos : List Slot} {r : Tr} {cdv : Value} {scope : Scope} {qual : Str} {μ0 : List Slot}
    (ho : G.K.lookup f = some ⟨oc, od, .func fd, osl⟩) (hsc : fd.scope = scope) (hcdv : fd.code = cdv) (hq : fd.qualname = qual) (hcd : codeIn G.K cdv qual = true) (hbody : fd.body = .stmts body) (hclo : fd.closure = []) (hglo : fd.globals = mainGlobals) (hbi : fd.builtins = builtinsNs)
    (hn : okNames scope.names = true) (hv : scope.names.map (·.1) = vars) (hk : scope.names.map (·.2) = kinds)
    (hbind : ∀ vals : List Value, vals.length = ts.length → bindArgs fd ⟨vals, []⟩ = pure (ps.zip vals))
    (hps : vars.take ts.length = ps) (hpk : (kinds.take ts.length).all (fun k => k == .local || k == .cell) = true)
    (hnos : nos.all (fun s => match s with | .no => true | _ => false) = true) (hlen : ps.length = ts.length)
    (hnf : scope.names.all (fun p => p.2 != .free) = true) (hco : scope.isCoroutine = false) (hgen : scope.isGenerator = false) (hkind : scope.kind = .function) (hμ0 : ts.map Slot.v ++ nos = μ0)
    (h : ∀ (A : Around) (L : Addr) (cells : List (Str × Addr)) (cm : List Addr) (H : List Addr), (∀ H, WX G ((fnCx G vars kinds scope (qual ++ ".<locals>.") cdv cells cm builtinsNs A f L d).at H)) → (∀ a ∈ cm, ∃ x, cells.lookup x = some a) →
      Ex G ((fnCx G vars kinds scope (qual ++ ".<locals>.") cdv cells cm builtinsNs A f L d).at H) μ0 body (Fin r)) : Spec G (d + 1) (.ref f) ts r := by
  intro A s D vs hh hdp hu gs hT hD hargs
  refine fn_core g ho hsc hcdv hq hcd hbody hclo hglo hbi hn hv hk hbind hps hpk hnos hlen hnf hco hgen hkind hμ0 hh hdp hu gs hT hD hargs ?_
  intro L cells cm W hcm os MH hL s1 st hg1 ho1 keep
  refine wpAny_mono (h A L cells cm D W hcm s1 st) (fun fl s' e => ?_) fun _ _ x => x.elim
  have fin : ∀ μ', Mv G ((fnCx G vars kinds scope (qual ++ ".<locals>.") cdv cells cm builtinsNs A f L d).at D) μ0 s1 μ' s' → Step G s s' := fun μ' m => by
    refine ⟨m.st.good, fun b o n e => m.keep b o (by rw [os]; exact List.not_mem_nil) (fun q => ?_) (keep b o e)⟩
    rcases MH b q with z | z
    · rw [e] at z; cases z
    · exact n z
  cases fl with
  | next =>
    obtain ⟨μ', q, m⟩ := e
    have q : r = .d .none := q
    subst q
    exact ⟨fin μ' m, Rd.none⟩
  | brk => obtain ⟨μ', q, m⟩ := e; exact q.elim
  | cont => obtain ⟨μ', q, m⟩ := e; exact q.elim
  | ret v =>
    obtain ⟨μ', t, q, m, ri⟩ := e
    have q : t = r := q
    subst q
    exact ⟨fin μ' m, ri⟩
end

/-! # F9 -/

/-! ## loops -/
/-- an iterator that gives these values, its own objects hidden -/
structure ItAt (G : Gd) (A : Around) (D : List Addr) (s0 s : Shared) (it : Value) (items : List Tr) (wr : List Addr) (W : Nat → Heap → Prop) : Prop where
  ex : ∃ I fp P, it = .ref I ∧ Walks G.prog G.w A I fp wr items.length P W ∧ W 0 s.heap ∧ (∀ b ∈ fp, b ∈ wr ∨ (b ∉ D ∧ ∃ o, s.heap.get? b = some o)) ∧
    (∀ i v, P i v → ∃ t, items[i]? = some t ∧ Is s.heap (wr ++ D) v t)
  new : ∀ b ∈ wr, s0.heap.get? b = none
  live : ∀ i h, W i h → ∀ b ∈ wr, (∃ o, h.get? b = some o) ∧ ∀ q, ¬ h.CodeRec (.ref b) q

def It (G : Gd) (X : Cx) (μ : List Slot) (e : Expr) (items : List Tr) : Prop :=
  ∀ s, St G X μ s → wpAny G.M X.A (eval e X.env) (fun v s1 => wpAny G.M X.A (pyIter v) (fun it s2 => Step G s s2 ∧ ∃ wr W, ItAt G X.A (hid X μ) s s2 it items wr W) (fun _ _ => False) s1) (fun _ _ => False) s

section
variable {G : Gd} {X : Cx} {μ : List Slot} {Q : Out → Prop}

theorem Good.hidden {s : Shared} (g : Good G s) {h' : Heap} {tk : Nat} {wr : List Addr} (k : ∀ b o, b ∉ wr → s.heap.get? b = some o → h'.get? b = some o) (hG : ∀ b ∈ wr, G.hG.get? b = none) (hT : ∀ b ∈ wr, b ∉ G.T)
    (hc : ∀ b ∈ wr, ∀ q, ¬ s.heap.CodeRec (.ref b) q) : Good G { s with heap := h', toks := tk } where
  stays := fun b o e => k b o (fun q => by rw [hG b q] at e; cases e) (g.stays b o e)
  tab := fun q hq => by
    obtain ⟨ps, e, r⟩ := g.tab q hq
    refine ⟨ps, k _ _ (fun z => hT _ z (List.mem_map_of_mem hq)) e, ?_⟩
    rcases r with r | ⟨c, r, z⟩
    · exact .inl r
    · refine .inr ⟨c, r, ?_⟩
      obtain ⟨c', o, vs, t, e1, e2, e3, e4⟩ := id z
      refine ⟨c', o, vs, t, e1, k _ _ (fun y => ?_) e2, e3, e4⟩
      cases e1
      exact hc _ y _ z
  gens := g.gens
  os := g.os

/-- a change within hidden objects that no name holds -/
theorem St.hidden {X : Cx} {H1 H2 : List Addr} {s : Shared} (h : St G (X.at H1) μ s) {h' : Heap} {tk : Nat} {wr : List Addr} (k : ∀ b o, b ∉ wr → s.heap.get? b = some o → h'.get? b = some o) (hG : ∀ b ∈ wr, G.hG.get? b = none) (hT : ∀ b ∈ wr, b ∉ G.T)
    (hc : ∀ b ∈ wr, ∀ q, ¬ s.heap.CodeRec (.ref b) q) (hL : X.env.locals ∉ wr) (hcell : ∀ x c, X.env.cells.lookup x = some c → c ∉ wr) (ho : ∀ b ∈ wr, b ∉ owns μ) (hh : ∀ b ∈ wr, b ∈ H1) (h12 : ∀ b ∈ H2, b ∈ H1) (live : ∀ b ∈ hid (X.at H2) μ, ∃ o, h'.get? b = some o) :
    St G (X.at H2) μ { s with heap := h', toks := tk } := by
  have sb : ∀ b, b ∈ hid (X.at H2) μ → b ∈ hid (X.at H1) μ := fun b hb => by
    rcases List.mem_append.mp hb with q | q
    · exact List.mem_append_left _ q
    · rcases List.mem_append.mp q with q | q
      · exact List.mem_append_right _ (List.mem_append_left _ q)
      · exact List.mem_append_right _ (List.mem_append_right _ (h12 b q))
  have S : Sub (hid (X.at H1) μ) (hid (X.at H2) μ) s.heap h' := fun b o n e => ⟨fun q => n (sb b q), k b o (fun q => n (List.mem_append_right _ (List.mem_append_right _ (hh b q)))) e⟩
  have hold : ∀ {m : Str → Option Value} {x : Str} {v : Value} {kd : NameKind}, Holds (X.at H1) s.heap m x v kd → Holds (X.at H2) h' m x v kd := fun {m x v kd} z => by
    cases kd <;> first | exact z | exact z.elim | (obtain ⟨c, e, o, q1, q2⟩ := z; exact ⟨c, e, o, k c o (hcell _ c e) q1, q2⟩)
  refine ⟨h.good.hidden k hG hT hc, live, h.own, fun a ha => ⟨(h.new a ha).1, fun q => (h.new a ha).2 ?_⟩, ?_, fun i a ts e => ?_, fun x c e => ?_⟩
  · rcases List.mem_append.mp q with q | q
    · exact List.mem_append_left _ q
    · exact List.mem_append_right _ (h12 a q)
  · obtain ⟨m, ⟨o, es, ep, e, n⟩, r⟩ := h.vars
    refine ⟨m, ⟨o, es, ep, k _ _ hL e, n⟩, fun i x kd sl h1 h2 h3 => ?_⟩
    have z := r i x kd sl h1 h2 h3
    cases sl with
    | no => trivial
    | v t => obtain ⟨v, a, b⟩ := z; exact ⟨v, hold a, b.sub S⟩
    | own a ts => exact hold z
  · obtain ⟨vs, ⟨n, q⟩, r⟩ := h.lists i a ts e
    exact ⟨vs, ⟨n, k a _ (fun z => ho a z (owns_mem e)) q⟩, r.sub S⟩
  · obtain ⟨v, o, q1, q2⟩ := h.cells x c e
    exact ⟨v, o, k c o (hcell x c e) q1, q2⟩

/-- new objects hidden -/
theorem St.hide (X : Cx) (w : ∀ H, WX G (X.at H)) {H wr : List Addr} {s s2 : Shared} (h : St G (X.at H) μ s) (K : Step G s s2) (new : ∀ b ∈ wr, s.heap.get? b = none) (live : ∀ b ∈ wr, ∃ o, s2.heap.get? b = some o) : St G (X.at (wr ++ H)) μ s2 := by
  have st := h.step (w H) K
  have S : Sub (hid (X.at H) μ) (hid (X.at (wr ++ H)) μ) s.heap s2.heap := fun b o n e => by
    refine ⟨fun q => ?_, K.2 b o (fun q => n ((w H).TH b q)) e⟩
    rcases List.mem_append.mp q with q | q
    · exact n (List.mem_append_left _ q)
    · rcases List.mem_append.mp q with q | q
      · exact n (List.mem_append_right _ (List.mem_append_left _ q))
      · rcases List.mem_append.mp q with q | q
        · rw [new b q] at e; cases e
        · exact n (List.mem_append_right _ (List.mem_append_right _ q))
  refine ⟨K.1, fun a ha => ?_, h.own, fun a ha => ⟨(h.new a ha).1, fun q => ?_⟩, ?_, fun i a ts e => ?_, st.cells⟩
  · rcases List.mem_append.mp ha with q | q
    · exact st.dom a (List.mem_append_left _ q)
    · rcases List.mem_append.mp q with q | q
      · exact st.dom a (List.mem_append_right _ (List.mem_append_left _ q))
      · rcases List.mem_append.mp q with q | q
        · exact live a q
        · exact st.dom a (List.mem_append_right _ (List.mem_append_right _ q))
  · rcases List.mem_append.mp q with q | q
    · exact (h.new a ha).2 (List.mem_append_left _ q)
    · rcases List.mem_append.mp q with q | q
      · obtain ⟨o, e⟩ := h.dom a (List.mem_append_left _ ha)
        rw [new a q] at e; cases e
      · exact (h.new a ha).2 (List.mem_append_right _ q)
  · obtain ⟨m, n, r⟩ := h.vars
    refine ⟨m, K.ns h.good n, fun i x kd sl h1 h2 h3 => ?_⟩
    have z := r i x kd sl h1 h2 h3
    cases sl with
    | no => trivial
    | v t => obtain ⟨v, a, b⟩ := z; exact ⟨v, Holds.step (X := X.at H) K h.good a, b.sub S⟩
    | own a ts => exact Holds.step (X := X.at H) K h.good z
  · obtain ⟨vs, l, r⟩ := h.lists i a ts e
    exact ⟨vs, K.list h.good l, r.sub S⟩

structure Kept (G : Gd) (X : Cx) (μ : List Slot) (s : Shared) (μ' : List Slot) (s' : Shared) : Prop where
  keep : ∀ b o, b ∉ owns μ → b ∉ X.M → s.heap.get? b = some o → s'.heap.get? b = some o
  own : ∀ a ∈ owns μ', a ∈ owns μ ∨ s.heap.get? a = none

theorem Ex1.for (w : ∀ H, WX G (X.at H)) {H : List Addr} {tgt iter : Expr} {body : List Stmt} {p : Pos} {items : List Tr} (hit : It G (X.at H) μ iter items) (Inv : Nat → List Slot → Prop) (h0 : Inv 0 μ)
    (turn : ∀ (i : Nat) (t : Tr) μ' H', items[i]? = some t → Inv i μ' → As G (X.at H') μ' tgt t fun ν => Ex G (X.at H') ν body fun o => match o with
      | .next ν' => Inv (i + 1) ν'
      | .cont ν' => Inv (i + 1) ν'
      | .brk ν' => Q (.next ν')
      | .ret ν' t => Q (.ret ν' t))
    (done : ∀ μ', Inv items.length μ' → Q (.next μ')) (hs : ∀ x, foldedSetIterable iter X.env x = pure x := by intro _; rfl) (ht : ∀ it v, letOwnedTupleGo tgt it v = pure () := by intro _ _; rfl) :
    Ex1 G (X.at H) μ (.For tgt iter body [] p) Q := fun s h => by
  have WH := w H
  refine wpAny_For (wpAny_mono (hit s h) (fun v s₁ h₁ => wpAny_mono h₁ (fun it s₂ h₂ => ?_) fun _ _ x => x.elim) fun _ _ x => x.elim) hs
  obtain ⟨K, wr, W, ⟨⟨I, fp, P, rfl, Wk, W0, hfp, hP⟩, hnew, live⟩⟩ := h₂
  have old : ∀ b ∈ wr, ∀ o, s.heap.get? b = some o → False := fun b hb o e => by rw [hnew b hb] at e; cases e
  have wrM : ∀ b ∈ wr, b ∉ X.M := fun b hb q => by
    obtain ⟨o, e⟩ := h.dom b (List.mem_append_right _ (List.mem_append_left _ q)); exact old b hb o e
  have wrH : ∀ b ∈ wr, b ∉ H := fun b hb q => by
    obtain ⟨o, e⟩ := h.dom b (List.mem_append_right _ (List.mem_append_right _ q)); exact old b hb o e
  have wrG : ∀ b ∈ wr, G.hG.get? b = none := fun b hb => by
    cases e : G.hG.get? b with
    | none => rfl
    | some o => exact (old b hb o (h.good.stays _ _ e)).elim
  have wrT : ∀ b ∈ wr, b ∉ G.T := fun b hb q => wrM b hb (WH.TM b q)
  have wrC : ∀ x c, X.env.cells.lookup x = some c → c ∉ wr := fun x c e q => by
    obtain ⟨v, o, e', _⟩ := h.cells x c e; exact old c q o e'
  have wrL : X.env.locals ∉ wr := fun q => wrM _ q WH.LM
  have st₂ : St G (X.at (wr ++ H)) μ s₂ := St.hide X w h K hnew fun b hb => (live 0 _ W0 b hb).1
  have big : ∀ {ν : List Slot} b, b ∉ hid (X.at (wr ++ H)) ν → b ∉ wr := fun b n q => n (List.mem_append_right _ (List.mem_append_right _ (List.mem_append_left _ q)))
  have small : ∀ {ν : List Slot} b, b ∈ hid (X.at H) ν → b ∈ hid (X.at (wr ++ H)) ν := fun b hb => by
    rcases List.mem_append.mp hb with q | q
    · exact List.mem_append_left _ q
    · rcases List.mem_append.mp q with q | q
      · exact List.mem_append_right _ (List.mem_append_left _ q)
      · exact List.mem_append_right _ (List.mem_append_right _ (List.mem_append_right _ q))
  have bigI : ∀ {ν : List Slot} b, b ∈ hid (X.at (wr ++ H)) ν → b ∈ wr ∨ b ∈ hid (X.at H) ν := fun b hb => by
    rcases List.mem_append.mp hb with q | q
    · exact .inr (List.mem_append_left _ q)
    · rcases List.mem_append.mp q with q | q
      · exact .inr (List.mem_append_right _ (List.mem_append_left _ q))
      · rcases List.mem_append.mp q with q | q
        · exact .inl q
        · exact .inr (List.mem_append_right _ (List.mem_append_right _ q))
  have wO : ∀ {ν : List Slot} {s' : Shared}, St G (X.at (wr ++ H)) ν s' → ∀ b ∈ wr, b ∉ owns ν := fun z b hb q => (z.new b q).2 (List.mem_append_right _ (List.mem_append_left _ hb))
  -- the way out
  have out : ∀ {ν : List Slot} {s' : Shared}, St G (X.at (wr ++ H)) ν s' → Kept G X μ s ν s' → ∀ {h' : Heap} {tk : Nat}, (∀ b o, b ∉ wr → s'.heap.get? b = some o → h'.get? b = some o) → (∀ b ∈ wr, ∀ q, ¬ s'.heap.CodeRec (.ref b) q) → Mv G (X.at H) μ s ν { s' with heap := h', toks := tk } := by
    intro ν s' z kp h' tk hk hc
    refine ⟨z.hidden (wr := wr) hk wrG wrT hc wrL wrC (wO z) (fun b hb => List.mem_append_left _ hb) (fun b hb => List.mem_append_right _ hb) fun b hb => ?_, fun b o n1 n2 e => hk b o (fun q => old b q o e) (kp.keep b o n1 n2 e), kp.own⟩
    obtain ⟨o, e⟩ := z.dom b (small b hb)
    refine ⟨o, hk b o (fun q => ?_) e⟩
    rcases List.mem_append.mp hb with y | y
    · exact wO z b q y
    · rcases List.mem_append.mp y with y | y
      · exact wrM b q y
      · exact wrH b q y
  refine codeAny_forLoop_any (fun n s' => ∃ i μ', i ≤ items.length ∧ n = items.length - i ∧ Inv i μ' ∧ St G (X.at (wr ++ H)) μ' s' ∧ Kept G X μ s μ' s' ∧ W i s'.heap ∧ Sub (hid (X.at (wr ++ H)) μ) (hid (X.at (wr ++ H)) μ') s₂.heap s'.heap) ?_ items.length
    ⟨0, μ, Nat.zero_le _, rfl, h0, st₂, ⟨fun b o _ n2 e => K.2 b o (fun q => n2 (WH.TM b q)) e, fun a ha => .inl ha⟩, W0, fun b o n e => ⟨n, e⟩⟩
  rintro n s' ⟨i, μ', hi, rfl, hI, st, kp, Wi, S0⟩
  rcases Nat.lt_or_ge i items.length with hlt | hge
  · refine Wk.item i s' _ _ hlt Wi fun v h' tk hPv W' hk => ?_
    obtain ⟨t, et, ri⟩ := hP i v hPv
    have st1 : St G (X.at (wr ++ H)) μ' { s' with heap := h', toks := tk } := st.hidden (wr := wr) hk wrG wrT (fun b hb => (live i _ Wi b hb).2) wrL wrC (wO st) (fun b hb => List.mem_append_left _ hb) (fun b hb => hb) fun b hb => by
      by_cases q : b ∈ wr
      · exact (live _ _ W' b q).1
      · obtain ⟨o, e⟩ := st.dom b hb; exact ⟨o, hk b o q e⟩
    have S1 : Sub (hid (X.at (wr ++ H)) μ') (hid (X.at (wr ++ H)) μ') s'.heap h' := fun b o n e => ⟨n, hk b o (big b n) e⟩
    have ri' : Is h' (hid (X.at (wr ++ H)) μ') v t := by
      refine (Is.sub (D' := hid (X.at (wr ++ H)) μ) (fun b o n e => ⟨fun q => ?_, e⟩) ri |>.sub S0).sub S1
      rcases bigI b q with q | q
      · exact n (List.mem_append_left _ q)
      · exact n (List.mem_append_right _ q)
    show wpAny _ _ (letOwnedTupleGo tgt (.ref I) v) _ _ _
    rw [ht]
    refine wpAny_pure (wpAny_mono (turn i t μ' (wr ++ H) et hI _ v st1 ri') (fun _ s4 h4 => ?_) fun _ _ x => x.elim)
    obtain ⟨ν, hν, m1⟩ := h4
    refine wpAny_mono (hν s4 m1.st) (fun f s5 h5 => ?_) fun _ _ x => x.elim
    have next : ∀ ν', Mv G (X.at (wr ++ H)) μ' { s' with heap := h', toks := tk } ν' s5 → Kept G X μ s ν' s5 ∧ W (i + 1) s5.heap ∧ Sub (hid (X.at (wr ++ H)) μ) (hid (X.at (wr ++ H)) ν') s₂.heap s5.heap := fun ν' m => by
      refine ⟨⟨fun b o n1 n2 e => ?_, fun a ha => ?_⟩, ?_, fun b o n e => ?_⟩
      · refine m.keep b o (fun q => ?_) n2 (hk b o (fun q => old b q o e) (kp.keep b o n1 n2 e))
        rcases kp.own b q with z | z
        · exact n1 z
        · rw [e] at z; cases z
      · rcases m.own a ha with z | z
        · exact kp.own a z
        · by_cases y : a ∈ owns μ
          · exact .inl y
          · refine .inr ?_
            cases e : s.heap.get? a with
            | none => rfl
            | some o =>
              have z : h'.get? a = none := z
              by_cases yM : a ∈ X.M
              · obtain ⟨o', e'⟩ := st1.dom a (List.mem_append_right _ (List.mem_append_left _ yM))
                have e' : h'.get? a = some o' := e'
                rw [z] at e'; cases e'
              · rw [hk a o (fun q => old a q o e) (kp.keep a o y yM e)] at z; cases z
      · refine Wk.frame _ _ _ W' fun b hb o e => ?_
        by_cases hbw : b ∈ wr
        · exact m.keep b o (wO st b hbw) (wrM b hbw) e
        · rcases hfp b hb with q | ⟨q, o', e'⟩
          · exact absurd q hbw
          · have nb : b ∉ hid (X.at (wr ++ H)) μ := fun z => by
              rcases bigI b z with z | z
              · exact hbw z
              · exact q z
            have := S0 b o' nb e'
            exact m.keep b o (fun z => this.1 (List.mem_append_left _ z)) (fun z => this.1 (List.mem_append_right _ (List.mem_append_left _ z))) e
      · have z := S0 b o n e
        have z2 := S1 b o z.1 z.2
        exact m.sub b o z2.1 z2.2
    cases f with
    | next =>
      obtain ⟨ν', q, m⟩ := h5
      obtain ⟨k1, k2, k3⟩ := next ν' (m1.trans m)
      exact ⟨items.length - (i + 1), by omega, i + 1, ν', by omega, rfl, q, m.st, k1, k2, k3⟩
    | cont =>
      obtain ⟨ν', q, m⟩ := h5
      obtain ⟨k1, k2, k3⟩ := next ν' (m1.trans m)
      exact ⟨items.length - (i + 1), by omega, i + 1, ν', by omega, rfl, q, m.st, k1, k2, k3⟩
    | brk =>
      obtain ⟨ν', q, m⟩ := h5
      obtain ⟨k1, k2, k3⟩ := next ν' (m1.trans m)
      exact ⟨ν', q, out m.st k1 (fun _ _ _ e => e) fun b hb => (live _ _ k2 b hb).2⟩
    | ret v =>
      obtain ⟨ν', t, q, m, r⟩ := h5
      obtain ⟨k1, k2, k3⟩ := next ν' (m1.trans m)
      exact ⟨ν', t, q, out m.st k1 (fun _ _ _ e => e) fun b hb => (live _ _ k2 b hb).2, r.sub fun b o n e => ⟨fun z => n (List.mem_append_right _ z), e⟩⟩
  · have hin : i = items.length := by omega
    subst hin
    refine Wk.done s' _ _ Wi fun h' tk hk => ?_
    exact wpAny_execs_nil ⟨μ', done μ' hI, out st kp hk fun b hb => (live _ _ Wi b hb).2⟩

theorem Ex1.while (w : WX G X) {test : Expr} {body : List Stmt} {p : Pos} (Inv : Nat → List Slot → Prop) {n0 : Nat} (h0 : Inv n0 μ)
    (turn : ∀ n μ', Inv n μ' → ∃ b, Ts G X μ' test b ∧ (b = true → Ex G X μ' body fun o => match o with
      | .next ν' => ∃ m, m < n ∧ Inv m ν'
      | .cont ν' => ∃ m, m < n ∧ Inv m ν'
      | .brk ν' => Q (.next ν')
      | .ret ν' t => Q (.ret ν' t)) ∧ (b = false → Q (.next μ'))) : Ex1 G X μ (.While test body [] p) Q := fun s h => by
  refine wpAny_While (codeAny_whileLoop (fun n s' => ∃ μ', Inv n μ' ∧ Mv G X μ s μ' s') ?_ n0 ⟨μ, h0, Mv.step w h (Step.refl h.good)⟩)
  rintro n s' ⟨μ', hI, m⟩
  obtain ⟨b, ht, h1, h2⟩ := turn n μ' hI
  refine wpAny_mono (ht s' m.st) (fun v s₁ h₁ => ?_) fun _ _ x => x.elim
  obtain ⟨k, rfl⟩ := h₁
  have m1 := m.trans (Mv.step w m.st k)
  cases v with
  | true =>
    refine wpAny_mono (h1 rfl s₁ m1.st) (fun f s₂ h₂ => ?_) fun _ _ x => x.elim
    cases f with
    | next => obtain ⟨ν, ⟨k, hk, q⟩, m2⟩ := h₂; exact ⟨k, hk, ν, q, m1.trans m2⟩
    | cont => obtain ⟨ν, ⟨k, hk, q⟩, m2⟩ := h₂; exact ⟨k, hk, ν, q, m1.trans m2⟩
    | brk => obtain ⟨ν, q, m2⟩ := h₂; exact ⟨ν, q, m1.trans m2⟩
    | ret v => obtain ⟨ν, t, q, m2, r⟩ := h₂; exact ⟨ν, t, q, m1.trans m2, r⟩
  | false => exact wpAny_execs_nil ⟨μ', h2 rfl, m1⟩

/-! ## what is walked through -/
theorem not_code {h : Heap} {b : Addr} {o : Obj} {vs : Array Value} (e : h.get? b = some o) (hd : o.data = .fields vs) (h1 : ∀ q t, vs[1]? ≠ some (.str q t)) : ∀ q, ¬ h.CodeRec (.ref b) q := fun q ⟨c, o', vs', t, e1, e2, e3, e4⟩ => by
  cases e1
  rw [e] at e2; cases e2
  rw [hd] at e3; cases e3
  exact h1 _ _ e4
theorem Step.fresh {s s' : Shared} (k : Step G s s') {b : Addr} (e : s'.heap.get? b = none) : s.heap.get? b = none := by
  cases z : s.heap.get? b with
  | none => rfl
  | some o =>
    by_cases q : b ∈ G.T
    · obtain ⟨t, ht, rfl⟩ := List.mem_map.mp q
      obtain ⟨ps, e', _⟩ := k.1.tab t ht
      rw [e] at e'; cases e'
    · rw [k.2 b o q z] at e; cases e
theorem size_none (h : Heap) : h.get? h.objs.size = none := by
  cases e : h.get? h.objs.size with
  | none => rfl
  | some o => exact absurd (Heap.lt_size e) (Nat.lt_irrefl _)
theorem It.list (w : WX G X) {e : Expr} {ds : List PyData} (he : Ev G X μ e (L ds)) : It G X μ e (ds.map .d) := fun s h => by
  refine wpAny_mono (he s h) (fun v s₁ h₁ => ?_) fun _ _ x => x
  obtain ⟨a, items, rfl, ha, hl, hr⟩ := Rd.list_inv h₁.2
  have hlen : (ds.map Tr.d).length = items.size := by rw [List.length_map, ← hr.length]; simp
  have hne : a ≠ s₁.heap.objs.size := fun q => by
    obtain ⟨n, e⟩ := hl
    rw [q] at e; exact Nat.lt_irrefl _ (Heap.lt_size e)
  have Wk := Walks.list (prog := G.prog) (w := G.w) w.hand s₁.heap.objs.size a hne items
  rw [← hlen] at Wk
  refine wpAny_pyIter_list hl.isList ⟨h₁.1.trans (Step.push h₁.1.1 _ (tk := s₁.toks)), [s₁.heap.objs.size], _, ⟨⟨_, _, _, rfl, Wk, ⟨⟨_, Heap.get?_push_size _ rfl, rfl, rfl⟩, (hl.isList).push _⟩, ?_, ?_⟩, ?_, ?_⟩⟩
  · intro b hb
    rcases List.mem_cons.mp hb with rfl | hb
    · exact .inl (.head _)
    · simp at hb; subst hb
      obtain ⟨n, e⟩ := hl
      exact .inr ⟨ha, _, Heap.get?_push_of_some _ e⟩
  · intro i v hv
    have hv' : items.toList[i]? = some v := by simpa using hv
    obtain ⟨d, e1, r⟩ := hr.get hv'
    refine ⟨.d d, by rw [List.getElem?_map, e1]; rfl, Rd.sub (fun b o n e => ⟨fun q => ?_, Heap.get?_push_of_some _ e⟩) r⟩
    rcases List.mem_cons.mp q with q | q
    · rw [q] at e; exact Nat.lt_irrefl _ (Heap.lt_size e)
    · exact n q
  · intro b hb
    simp at hb; subst hb
    exact h₁.1.fresh (size_none _)
  · intro i h' hW b hb
    simp at hb; subst hb
    obtain ⟨⟨o, e1, e2, e3⟩, _⟩ := hW
    exact ⟨⟨o, e1⟩, not_code e1 e3 (by intro q t z; simp at z)⟩
end

/-! # F10 -/

section
variable {G : Gd} {X : Cx} {μ : List Slot} {Q : Out → Prop}

/-- a call by name, to any end -/
theorem call_name (g : Gr G) (w : WX G X) {f : Str} {p pos : Pos} {args : List Expr} {fv : Value} {ts : List Tr} {Qv : Value → Shared → Prop} (hn : Nm G f fv) {i : Nat} (hx : HV X.vars X.kinds f i .globalImplicit) (hk : Kp G fv) (ha : EvL G X μ args ts)
    {s : Shared} (h : St G X μ s) (hs : ∀ s₁ vs, Step G s s₁ → AllIs s₁.heap (hid X μ) vs ts → wpAny G.M X.A (PySem.call fv vs) Qv (fun _ _ => False) s₁) (hp : noStar args = true := by rfl) :
    wpAny G.M X.A (eval (.Call (.Name f p) args [] pos) X.env) Qv (fun _ _ => False) s := by
  refine Call_Name rfl (nm_load g w hn hx h.good ?_)
  refine callWith_of (P := fun hp => G.K.In hp) (by rw [starEach_plain _ _ _ hp]; rfl) hk ?_
  refine evalArgs_any hp (wpAny_mono (ha s pos h) (fun vs s₁ h₁ => ?_) fun _ _ x => x)
  exact ⟨g.X.keeps h₁.1.1.stays, hs s₁ vs h₁.1 h₁.2⟩

/-- one new iterator -/
theorem ItAt.one {D : List Addr} {s s1 : Shared} (K : Step G s s1) {A : Around} {o : Obj} {tk : Nat} {items : List Tr} {fp : List Addr} {P : Nat → Value → Prop} {W : Nat → Heap → Prop}
    (Wk : Walks G.prog G.w A s1.heap.objs.size fp [s1.heap.objs.size] items.length P W) (W0 : W 0 (s1.heap.push o)) (hfp : ∀ b ∈ fp, b = s1.heap.objs.size ∨ (b ∉ D ∧ ∃ o, s1.heap.get? b = some o))
    (hP : ∀ i v, P i v → ∃ t, items[i]? = some t ∧ Is s1.heap D v t) (live : ∀ i h, W i h → ∃ o vs, h.get? s1.heap.objs.size = some o ∧ o.data = .fields vs ∧ ∀ q t, vs[1]? ≠ some (.str q t)) :
    Step G s { s1 with heap := s1.heap.push o, toks := tk } ∧ ∃ wr W, ItAt G A D s { s1 with heap := s1.heap.push o, toks := tk } (.ref s1.heap.objs.size) items wr W := by
  refine ⟨K.trans (Step.push K.1 _), [s1.heap.objs.size], W, ⟨_, fp, P, rfl, Wk, W0, fun b hb => ?_, fun i v hv => ?_⟩, fun b hb => ?_, fun i h' hW b hb => ?_⟩
  · rcases hfp b hb with rfl | ⟨q, o', e⟩
    · exact .inl (.head _)
    · exact .inr ⟨q, o', Heap.get?_push_of_some _ e⟩
  · obtain ⟨t, e, r⟩ := hP i v hv
    refine ⟨t, e, r.sub fun b o n e => ⟨fun q => ?_, Heap.get?_push_of_some _ e⟩⟩
    rcases List.mem_cons.mp q with q | q
    · rw [q] at e; exact Nat.lt_irrefl _ (Heap.lt_size e)
    · exact n q
  · simp at hb; subst hb
    exact K.fresh (size_none _)
  · simp at hb; subst hb
    obtain ⟨o, vs, e1, e2, e3⟩ := live i h' hW
    exact ⟨⟨o, e1⟩, not_code e1 e2 e3⟩

theorem It.str (w : WX G X) {e : Expr} {x : Str} (he : Ev G X μ e (S x)) : It G X μ e (x.cps.toList.map fun c => S ⟨#[c]⟩) := fun s h => by
  refine wpAny_mono (he s h) (fun v s₁ h₁ => ?_) fun _ _ x => x
  obtain ⟨t, rfl⟩ := h₁.2.str_inv
  have hl : (x.cps.toList.map fun c => S ⟨#[c]⟩).length = x.cps.size := by simp
  have hP : ∀ i v, SignAt x i v → ∃ t, (x.cps.toList.map fun c => S ⟨#[c]⟩)[i]? = some t ∧ Is s₁.heap (hid X μ) v t := fun i v ⟨c, u, e1, e2⟩ => by
    subst e2
    exact ⟨S ⟨#[c]⟩, by rw [List.getElem?_map, Array.getElem?_toList, e1]; rfl, .str _ _⟩
  cases ha : x.cps.all (· < 128)
  · have Wk := Walks.strWide (prog := G.prog) (w := G.w) w.hand s₁.heap.objs.size x t
    rw [← hl] at Wk
    exact wpAny_pyIter_wide ha (ItAt.one h₁.1 Wk ⟨_, Heap.get?_push_size _ rfl, rfl, rfl⟩ (fun b hb => .inl (by simpa using hb)) hP fun i h' ⟨o, e1, e2, e3⟩ => ⟨o, _, e1, e3, by intro q t z; simp at z⟩)
  · have Wk := Walks.strAscii (prog := G.prog) (w := G.w) w.hand s₁.heap.objs.size x t
    rw [← hl] at Wk
    exact wpAny_pyIter_ascii ha (ItAt.one h₁.1 Wk ⟨_, Heap.get?_push_size _ rfl, rfl, rfl⟩ (fun b hb => .inl (by simpa using hb)) hP fun i h' ⟨o, e1, e2, e3⟩ => ⟨o, _, e1, e3, by intro q t z; simp at z⟩)

def rangeL (a b : Int) : List Int := (List.range (b - a).toNat).map fun i : Nat => a + (i : Int)
theorem rangeL_len (a b : Int) : (rangeL a b).length = (b - a).toNat := by simp [rangeL]
theorem rangeSize1 (a b : Int) : Builtin.Range.rangeSize a b 1 = ((b - a).toNat : Int) := by rw [rangeSize_one]; split <;> omega
theorem It.range_at {s s1 : Shared} (w : WX G X) {a b : Int} {t u v : Tok} {r : Addr} (K : Step G s s1) (hr : IsRange s1.heap r a b 1 t u v) (h1 : -(2 ^ 62) ≤ a) (h2 : a < 2 ^ 62) (h3 : -(2 ^ 62) ≤ b) (h4 : b < 2 ^ 62) :
    wpAny G.M X.A (pyIter (.ref r)) (fun it s2 => Step G s s2 ∧ ∃ wr W, ItAt G X.A (hid X μ) s s2 it ((rangeL a b).map fun i => I i) wr W) (fun _ _ => False) s1 := by
  have Wk := (Walks.range (prog := G.prog) (w := G.w) w.hand s1.heap.objs.size a 1 (b - a).toNat).bound
  have hl : ((rangeL a b).map fun i => I i).length = (b - a).toNat := by simp [rangeL_len]
  rw [← hl] at Wk
  refine wpAny_pyIter_range hr (small_one h1 h2 h3 h4) (ItAt.one (tk := s1.toks) K Wk ?_ (fun b hb => .inl (by simpa using hb)) (fun i v ⟨hi, t, e⟩ => ?_) fun i h' e => ⟨_, _, e, rfl, by intro q t z; simp [rawInt] at z⟩)
  · show _ = _
    rw [Heap.get?_push_size _ rfl]
    simp [rangeL_len, rangeSize1]
  · subst e
    rw [hl] at hi
    refine ⟨I (a + (i : Int)), ?_, by rw [Int.mul_one]; exact .int _ _⟩
    simp [rangeL, hi]
theorem It.range1 (g : Gr G) (w : WX G X) {f : Str} {p pos : Pos} {e : Expr} {b : Int} (hn : Nm G f (.type "range")) {i : Nat} (hx : HV X.vars X.kinds f i .globalImplicit) (he : Ev G X μ e (I b)) (h3 : -(2 ^ 62) ≤ b) (h4 : b < 2 ^ 62)
    (hst : starEach [e] X.env = (false, eval e X.env) :: starEach [] X.env := by rfl) (hp : noStar [e] = true := by rfl) : It G X μ (.Call (.Name f p) [e] [] pos) ((rangeL 0 b).map fun i => I i) := fun s h => by
  refine call_name g w hn hx (Kp.type _) (EvL.cons w he EvL.nil hst) h (fun s₁ vs K r0 => ?_) hp
  obtain ⟨v, rfl, r⟩ := one_arg r0
  obtain ⟨t, rfl⟩ := r.int_inv
  refine call_range_1 ?_
  exact It.range_at w (K.trans (Step.push K.1 _ (tk := s₁.toks + 1 + 1))) (IsRange.new ..) (by omega) (by omega) h3 h4
theorem It.range2 (g : Gr G) (w : WX G X) {f : Str} {p pos : Pos} {e e' : Expr} {a b : Int} (hn : Nm G f (.type "range")) {i : Nat} (hx : HV X.vars X.kinds f i .globalImplicit) (he : Ev G X μ e (I a)) (he' : Ev G X μ e' (I b))
    (h1 : -(2 ^ 62) ≤ a) (h2 : a < 2 ^ 62) (h3 : -(2 ^ 62) ≤ b) (h4 : b < 2 ^ 62) (hst : starEach [e, e'] X.env = (false, eval e X.env) :: starEach [e'] X.env := by rfl) (hst' : starEach [e'] X.env = (false, eval e' X.env) :: starEach [] X.env := by rfl) (hp : noStar [e, e'] = true := by rfl) :
    It G X μ (.Call (.Name f p) [e, e'] [] pos) ((rangeL a b).map fun i => I i) := fun s h => by
  refine call_name g w hn hx (Kp.type _) (EvL.cons w he (EvL.cons w he' EvL.nil hst') hst) h (fun s₁ vs K r0 => ?_) hp
  obtain ⟨v, v', rfl, r, r'⟩ := two_args r0
  obtain ⟨t, rfl⟩ := r.int_inv
  obtain ⟨t', rfl⟩ := r'.int_inv
  refine call_range_2 ?_
  exact It.range_at w (K.trans (Step.push K.1 _ (tk := s₁.toks + 1))) (IsRange.new ..) h1 h2 h3 h4
/-- list(range(..)) -/
theorem It.reversed (g : Gr G) (w : WX G X) {f : Str} {p pos : Pos} {e : Expr} {ds : List PyData} (hn : Nm G f (.type "reversed")) {i : Nat} (hx : HV X.vars X.kinds f i .globalImplicit) (he : Ev G X μ e (L ds))
    (hst : starEach [e] X.env = (false, eval e X.env) :: starEach [] X.env := by rfl) (hp : noStar [e] = true := by rfl) : It G X μ (.Call (.Name f p) [e] [] pos) (ds.reverse.map .d) := fun s h => by
  refine call_name g w hn hx (Kp.type _) (EvL.cons w he EvL.nil hst) h (fun s₁ vs K r0 => ?_) hp
  obtain ⟨v, rfl, r⟩ := one_arg r0
  obtain ⟨a, items, rfl, ha, hl, hr⟩ := Rd.list_inv r
  have hlen : (ds.reverse.map Tr.d).length = items.size := by rw [List.length_map, List.length_reverse, ← hr.length]; simp
  have hne : a ≠ s₁.heap.objs.size := fun q => by
    obtain ⟨n, e⟩ := hl
    rw [q] at e; exact Nat.lt_irrefl _ (Heap.lt_size e)
  have hz : items.size = ds.length := by rw [← hr.length]; simp
  have Wk := (Walks.listRev (prog := G.prog) (w := G.w) w.hand s₁.heap.objs.size a hne items).bound
  rw [← hlen] at Wk
  refine call_reversed_list hl.isList ?_
  have H := ItAt.one (D := hid X μ) (tk := s₁.toks) (o := revObj a ((items.size : Int) - 1)) K Wk ⟨Nat.zero_le _, ⟨_, Heap.get?_push_size _ rfl, rfl, by simp [revObj, hz]⟩, (hl.isList).push _⟩ (fun b hb => ?_) (fun i v hv => ?_) (fun i h' hW => ?_)
  · obtain ⟨K', wr, W, R⟩ := H
    obtain ⟨⟨I, fp, P, q, R2⟩, R3, R4⟩ := R
    cases q
    exact wpAny_pyIter_revIter (i := (items.size : Int) - 1) ⟨_, Heap.get?_push_size _ rfl, rfl, rfl⟩ ⟨K', wr, W, ⟨_, fp, P, rfl, R2⟩, R3, R4⟩
  · simp at hb
    rcases hb with rfl | rfl
    · exact .inl rfl
    · obtain ⟨n, e⟩ := hl; exact .inr ⟨ha, _, e⟩
  · obtain ⟨hi, hv⟩ := hv
    rw [hlen] at hi
    rw [hlen] at hv
    have hv' : items.toList[items.size - 1 - i]? = some v := by simpa using hv
    obtain ⟨d, e1, r⟩ := hr.get hv'
    refine ⟨.d d, ?_, r⟩
    have hdl : ds.length = items.size := by rw [← hr.length]; simp
    rw [List.getElem?_map, List.getElem?_reverse (by omega), hdl, e1]; rfl
  · obtain ⟨_, ⟨o, e1, e2, e3⟩, _⟩ := hW
    exact ⟨o, _, e1, e3, by intro q t z; simp [rawInt] at z⟩
end

/-! # F11 -/

/-! ## the frame of a list comprehension -/
def clo (env : Env) : List (Str × NameKind) → List (Str × Addr) → List (Str × Addr)
  | [], acc => acc
  | (n, k) :: r, acc => if k == .free then clo env r ((n, (env.cells.lookup n).getD 0) :: acc) else clo env r acc
theorem clo_in {env : Env} (N : List (Str × NameKind)) : ∀ (names : List (Str × NameKind)) (acc : List (Str × Addr)), (∀ x, (x, NameKind.free) ∈ names → (env.cells.lookup x).isSome = true) → (∀ p ∈ names, p ∈ N) →
    (∀ x c, acc.lookup x = some c → env.cells.lookup x = some c ∧ (x, NameKind.free) ∈ N) → ∀ x c, (clo env names acc).lookup x = some c → env.cells.lookup x = some c ∧ (x, NameKind.free) ∈ N
  | [], _, _, _, h => h
  | (n, k) :: r, acc, hs, hN, h => by
    unfold clo
    split
    · rename_i hk
      have hk : k = .free := by simpa using hk
      subst hk
      refine clo_in N r _ (fun x hx => hs x (.tail _ hx)) (fun p hp => hN p (.tail _ hp)) fun x c e => ?_
      rw [List.lookup_cons] at e
      split at e
      · rename_i hb
        have := beq_iff_eq.mp hb; subst this
        obtain ⟨c', hc'⟩ := Option.isSome_iff_exists.mp (hs x (.head _))
        rw [hc'] at e ⊢
        exact ⟨e, hN _ (.head _)⟩
      · exact h x c e
    · exact clo_in N r _ (fun x hx => hs x (.tail _ hx)) (fun p hp => hN p (.tail _ hp)) h
theorem clo_get {env : Env} : ∀ (names : List (Str × NameKind)) (acc : List (Str × Addr)) {x : Str}, (∀ x, (x, NameKind.free) ∈ names → (env.cells.lookup x).isSome = true) →
    ((x, NameKind.free) ∈ names ∨ acc.lookup x = env.cells.lookup x) → (clo env names acc).lookup x = env.cells.lookup x
  | [], _, _, _, h => h.elim (fun q => by cases q) id
  | (n, k) :: r, acc, x, hs, h => by
    unfold clo
    split
    · rename_i hk
      have hk : k = .free := by simpa using hk
      subst hk
      refine clo_get r _ (fun x hx => hs x (.tail _ hx)) ?_
      by_cases hx : x = n
      · subst hx
        obtain ⟨c', hc'⟩ := Option.isSome_iff_exists.mp (hs x (.head _))
        right; rw [List.lookup_cons]; simp [hc']
      · rcases h with h | h
        · rcases List.mem_cons.mp h with q | q
          · cases q; exact absurd rfl hx
          · exact .inl q
        · right; rw [List.lookup_cons, show (x == n) = false by simpa using hx]; exact h
    · rename_i hk
      refine clo_get r _ (fun x hx => hs x (.tail _ hx)) (h.imp (fun h => ?_) id)
      rcases List.mem_cons.mp h with q | q
      · cases q; simp at hk
      · exact q
theorem closureFor_eq {scope : Scope} {env : Env} (h : ∀ x, (x, NameKind.free) ∈ scope.names → (env.cells.lookup x).isSome = true) : closureFor scope env = pure (clo env scope.names []) := by
  have key : ∀ (names : List (Str × NameKind)) (acc : List (Str × Addr)), (∀ x, (x, NameKind.free) ∈ names → (env.cells.lookup x).isSome = true) →
      (forIn names acc fun (p : Str × NameKind) (r : List (Str × Addr)) => (if p.2 == .free then (do let c ← cellOf env p.1; pure (ForInStep.yield ((p.1, c) :: r))) else pure (ForInStep.yield r) : Sem _)) = pure (clo env names acc) := by
    intro names
    induction names with
    | nil => intro acc _; rfl
    | cons p r ih =>
      intro acc hs
      obtain ⟨n, k⟩ := p
      rw [List.forIn_cons]
      unfold clo
      cases hk : k == NameKind.free with
      | true =>
        have hk' : k = .free := by simpa using hk
        subst hk'
        obtain ⟨c, hc⟩ := Option.isSome_iff_exists.mp (hs n (.head _))
        simp only [if_true, hc, Option.getD_some, cellOf, pure_bind]
        exact ih _ fun x hx => hs x (.tail _ hx)
      | false =>
        simp only [Bool.false_eq_true, if_false, pure_bind]
        exact ih _ fun x hx => hs x (.tail _ hx)
  have e : closureFor scope env = ((forIn scope.names [] fun (p : Str × NameKind) (r : List (Str × Addr)) => (if p.2 == .free then (do let c ← cellOf env p.1; pure (ForInStep.yield ((p.1, c) :: r))) else pure (ForInStep.yield r) : Sem _)) >>= fun cs => pure cs) := by
    unfold closureFor
    rfl
  rw [e, key scope.names [] h, pure_bind]

theorem cellsFrom_append : ∀ (names : List (Str × NameKind)) (n : Nat) (acc : List (Str × Addr)), cellsFrom n names acc = cellsFrom n names [] ++ acc
  | [], _, _ => rfl
  | (y, k) :: r, n, acc => by
    unfold cellsFrom
    split
    · rw [cellsFrom_append r _ ((y, n) :: acc), cellsFrom_append r _ [(y, n)], List.append_assoc]; rfl
    · exact cellsFrom_append r n acc
theorem cellsFrom_mem : ∀ (names : List (Str × NameKind)) (n : Nat) (acc : List (Str × Addr)) {x : Str} {c : Addr}, (x, c) ∈ cellsFrom n names acc → (x, NameKind.cell) ∈ names ∨ (x, c) ∈ acc
  | [], _, _, _, _, h => .inr h
  | (y, k) :: r, n, acc, x, c, h => by
    unfold cellsFrom at h
    split at h
    · rename_i hk
      have hk : k = .cell := by simpa using hk
      subst hk
      rcases cellsFrom_mem r _ _ h with q | q
      · exact .inl (.tail _ q)
      · rcases List.mem_cons.mp q with q | q
        · cases q; exact .inl (.head _)
        · exact .inr q
    · exact (cellsFrom_mem r _ _ h).imp (fun q => .tail _ q) id

@[reducible] def cpCx (G : Gd) (X : Cx) (vars : List Str) (kinds : List NameKind) (scope : Scope) (cells : List (Str × Addr)) (cm : List Addr) (C : Addr) : Cx where
  A := X.A
  env := compEnvC scope cells C X.env
  vars := vars
  kinds := kinds
  M := C :: (cm ++ G.T)
  H := []
  d := X.d

/-- the outer names as the comprehension's frame has them -/
inductive Cs (X : Cx) (μ : List Slot) : List Str → List NameKind → List Slot → Prop
  | nil : Cs X μ [] [] []
  | no {x : Str} {k : NameKind} {vs : List Str} {ks : List NameKind} {μs : List Slot} : k ≠ .free → Cs X μ vs ks μs → Cs X μ (x :: vs) (k :: ks) (.no :: μs)
  | free {x : Str} {i : Nat} {k : NameKind} {t : Tr} {vs : List Str} {ks : List NameKind} {μs : List Slot} : HV X.vars X.kinds x i k → (k = .cell ∨ k = .free) → μ[i]? = some (.v t) → Cs X μ vs ks μs → Cs X μ (x :: vs) (.free :: ks) (.v t :: μs)
  | hide {x : Str} {i : Nat} {k : NameKind} {vs : List Str} {ks : List NameKind} {μs : List Slot} : HV X.vars X.kinds x i k → (k = .cell ∨ k = .free) → Cs X μ vs ks μs → Cs X μ (x :: vs) (.free :: ks) (.no :: μs)
theorem Cs.at {X : Cx} {μ μc : List Slot} {vs : List Str} {ks : List NameKind} (h : Cs X μ vs ks μc) : ∀ (i : Nat) x k, vs[i]? = some x → ks[i]? = some k →
    (k = .free → ∃ (j : Nat) (k' : NameKind), X.vars[j]? = some x ∧ X.kinds[j]? = some k' ∧ (k' = .cell ∨ k' = .free)) ∧ (∀ sl, μc[i]? = some sl → sl = .no ∨ ∃ (j : Nat) (k' : NameKind) (t : Tr), k = .free ∧ X.vars[j]? = some x ∧ X.kinds[j]? = some k' ∧ (k' = .cell ∨ k' = .free) ∧ μ[j]? = some sl ∧ sl = .v t) := by
  induction h with
  | nil => intro i x k e; simp at e
  | no hk _ ih =>
    intro i x k e1 e2
    cases i with
    | zero => simp at e1 e2; subst e1 e2; exact ⟨fun q => absurd q hk, fun sl q => .inl (by simpa using q.symm)⟩
    | succ i => simpa using ih i x k (by simpa using e1) (by simpa using e2)
  | @free x0 i0 k0 t0 _ _ _ hv hk hm _ ih =>
    intro i x k e1 e2
    cases i with
    | zero => simp at e1 e2; subst e1 e2; exact ⟨fun _ => ⟨_, _, hv.at.1, hv.at.2, hk⟩, fun sl q => by simp at q; subst q; exact .inr ⟨_, _, _, rfl, hv.at.1, hv.at.2, hk, hm, rfl⟩⟩
    | succ i => simpa using ih i x k (by simpa using e1) (by simpa using e2)
  | @hide x0 i0 k0 _ _ _ hv hk _ ih =>
    intro i x k e1 e2
    cases i with
    | zero => simp at e1 e2; subst e1 e2; exact ⟨fun _ => ⟨_, _, hv.at.1, hv.at.2, hk⟩, fun sl q => .inl (by simpa using q.symm)⟩
    | succ i => simpa using ih i x k (by simpa using e1) (by simpa using e2)
theorem Cs.owns {X : Cx} {μ μc : List Slot} {vs : List Str} {ks : List NameKind} (h : Cs X μ vs ks μc) : Mine.owns μc = [] := by
  induction h with
  | nil => rfl
  | no _ _ ih => exact ih
  | free _ _ _ _ ih => exact ih
  | hide _ _ _ ih => exact ih
theorem Cs.len {X : Cx} {μ μc : List Slot} {vs : List Str} {ks : List NameKind} (h : Cs X μ vs ks μc) : vs.length = μc.length ∧ ks.length = μc.length := by
  induction h with
  | nil => exact ⟨rfl, rfl⟩
  | no _ _ ih => simp [ih]
  | free _ _ _ _ ih => simp [ih]
  | hide _ _ _ ih => simp [ih]

section
variable {G : Gd} {X : Cx} {μ : List Slot}
theorem WX.cp (w : WX G X) {vars : List Str} {kinds : List NameKind} {scope : Scope} {cells : List (Str × Addr)} {cm : List Addr} {C : Addr} (hn : okNames scope.names = true) (hv : scope.names.map (·.1) = vars) (hk : scope.names.map (·.2) = kinds) (hkind : scope.kind = .function)
    (hM : ∀ a, a = C ∨ a ∈ cm → G.hG.get? a = none) (hcm : ∀ (i : Nat) x c, scope.names[i]? = some (x, .cell) → cells.lookup x = some c → c ∈ cm) (hc : ∀ (i : Nat) x k, scope.names[i]? = some (x, k) → (k = .cell ∨ k = .free) → (cells.lookup x).isSome = true)
    (hinj : ∀ x y c, cells.lookup x = some c → cells.lookup y = some c → x = y) (H : List Addr) : WX G ((cpCx G X vars kinds scope cells cm C).at H) := by
  subst hv hk
  unfold okNames at hn
  rw [Bool.and_eq_true] at hn
  obtain ⟨hn, hdbg⟩ := hn
  have nd := of_decide_eq_true hn
  have pair : ∀ (i : Nat) x k, (scope.names.map (·.1))[i]? = some x → (scope.names.map (·.2))[i]? = some k → scope.names[i]? = some (x, k) := fun i x k h1 h2 => by
    rw [List.getElem?_map] at h1 h2
    cases e : scope.names[i]? with
    | none => rw [e] at h1; cases h1
    | some p => rw [e] at h1 h2; cases h1; cases h2; rfl
  have dbg : ∀ p ∈ scope.names, (p.1 == ("__debug__" : Str)) = false ∧ (p.1 == ("__classdict__" : Str)) = false := fun p hp => by
    have := List.all_eq_true.mp hdbg p hp
    simp only [Bool.and_eq_true, Bool.not_eq_true'] at this
    exact this
  refine ⟨w.hand, w.depth, w.units, hkind, w.gl, w.bi, fun i x k h1 h2 => ?_, fun i x h1 => ?_, fun i j x h1 h2 => ?_, .head _, fun a ha => .tail _ (List.mem_append_right _ ha), hM _ (.inl rfl), fun i x c h1 h2 e => hM _ (.inr (hcm i x c (pair i x _ h1 h2) e)), fun i x c h1 h2 e => ?_, fun i x k h1 h2 hk => ?_, hinj⟩
  · have e := pair i x k h1 h2
    have nd' : ((relabel scope X.env).names.map (·.1)).Nodup := by
      have : (relabel scope X.env).names.map (·.1) = scope.names.map (·.1) := by
        unfold relabel; rw [List.map_map]; congr 1; funext p; obtain ⟨n, k⟩ := p; simp only [Function.comp]; split <;> rfl
      rw [this]; exact nd
    have e' : (relabel scope X.env).names[i]? = some (if (k == .free && X.env.scope.kind == .function && X.env.kindOf x == some .cell) = true then (x, .cell) else (x, k)) := by
      unfold relabel; rw [List.getElem?_map, e]; rfl
    split at e'
    · rename_i hq
      simp only [Bool.and_eq_true] at hq
      exact .inr ⟨by simpa using hq.1.1, lookup_nodup nd' e'⟩
    · exact .inl (lookup_nodup nd' e')
  · rw [List.getElem?_map] at h1
    cases e : scope.names[i]? with
    | none => rw [e] at h1; cases h1
    | some p => rw [e] at h1; cases h1; exact dbg p (List.mem_of_getElem? e)
  · exact (List.getElem?_inj (List.getElem?_eq_some_iff.mp h1).1 nd).mp (h1.trans h2.symm)
  · exact .tail _ (List.mem_append_left _ (hcm i x c (pair i x _ h1 h2) e))
  · exact hc i x k (pair i x _ h1 h2) hk
end

/-! # F12 -/

section
variable {G : Gd} {X : Cx} {μ : List Slot}

/-- the tests of a comprehension -/
def TsAll (G : Gd) (X : Cx) (μ : List Slot) (ifs : List Expr) (b : Bool) : Prop :=
  ∀ s, St G X μ s → wpAny G.M X.A (forIn ifs true fun c r => if r = true then do let ok ← isTrue c X.env (eval c X.env); pure (ForInStep.yield ok) else pure (ForInStep.yield r))
    (fun v s' => Step G s s' ∧ v = b) (fun _ _ => False) s
theorem TsAll.nil : TsAll G X μ [] true := fun s h => by
  rw [List.forIn_nil]; exact wpAny_pure ⟨Step.refl h.good, rfl⟩
theorem TsAll.one {c : Expr} {b : Bool} (h : Ts G X μ c b) : TsAll G X μ [c] b := fun s hs => by
  rw [List.forIn_cons]
  refine wpAny_bind ?_
  rw [if_pos rfl]
  refine wpAny_bind (wpAny_mono (h s hs) (fun v s' q => wpAny_pure ?_) fun _ _ x => x)
  show wpAny _ _ (forIn [] v _) _ _ _
  rw [List.forIn_nil]
  exact wpAny_pure q

/-- what stands before the turns of a comprehension -/
theorem comp_new {M : Model} {A : Around} {E : Value → Shared → Prop} {s : Shared} {scope : Scope} {globals : Addr} {cl : List (Str × Addr)} {env : Env} {Q : Env → Shared → Prop}
    (h : Q (newEnv scope s.heap.objs.size globals (cellsFrom (s.heap.objs.size + 1) scope.names cl) env.qual none .none (some env) builtinsNs) { s with heap := pushCells (s.heap.push { cls := .type "dict", data := .dict #[] }) scope.names }) :
    wpAny M A (newFunctionEnv scope globals cl [] env.qual none .none (some env)) Q E s := by
  simp only [newFunctionEnv, Option.isSome_some, if_true]
  refine wpAny_bind (wpAny_alloc ?_)
  refine wpAny_bind (wpAny_layCells _ (fun name kind cells => by cases hkc : kind == NameKind.cell <;> simp [hkc]) _ _ _ _ ?_)
  rw [show ({ s with heap := s.heap.push { cls := .type "dict", data := .dict #[] } } : Shared).heap.objs.size = s.heap.objs.size + 1 from Heap.size_push ..]
  refine wpAny_bind ?_
  rw [List.forIn_nil]
  exact wpAny_pure (wpAny_pure h)

theorem comp_core (w : ∀ H, WX G (X.at H)) {H : List Addr} {elt iter : Expr} {x : Str} {px pos : Pos} {ifs : List Expr} {scope : Scope} {items : List Tr} {vars : List Str} {kinds : List NameKind} {μc : List Slot} {i0 : Nat} {kx : NameKind} (f : Nat → Option PyData)
    (hit : It G (X.at H) μ iter items) (hlen : items.length ≤ 100000) (hn : okNames scope.names = true) (hv : scope.names.map (·.1) = vars) (hk : scope.names.map (·.2) = kinds) (hkind : scope.kind = .function)
    (hμ : Cs X μ vars kinds μc) (hx : HV vars kinds x i0 kx) (hkx : kx = .local ∨ kx = .cell)
    (turn : ∀ (C : Addr) (cells : List (Str × Addr)) (cm H' : List Addr), (∀ H, WX G ((cpCx G X vars kinds scope cells cm C).at H)) → ∀ (j : Nat) t, items[j]? = some t →
      match f j with
      | some d => TsAll G ((cpCx G X vars kinds scope cells cm C).at H') (μc.set i0 (.v t)) ifs true ∧ Ev G ((cpCx G X vars kinds scope cells cm C).at H') (μc.set i0 (.v t)) elt (.d d)
      | none => TsAll G ((cpCx G X vars kinds scope cells cm C).at H') (μc.set i0 (.v t)) ifs false)
    {use : Option (Value → Sem Unit)} {Q : Value → Shared → Prop} {s : Shared} {cpos : Pos} (h : St G (X.at H) μ s)
    (fin : ∀ (C : Addr) (D : Addr) s', s.heap.get? C = none → Step G s s' → Is s'.heap (C :: hid (X.at H) μ) (.ref D) (L ((List.range items.length).filterMap f)) → (∃ m, s'.heap.Ns C m) → compPost G.M X.A (fun _ _ => False) use Q (.ref D) C (.ok .next) s')
    (hs : ∀ x, foldedSetIterable iter X.env x = pure x := by intro _; rfl) :
    wpAny G.M X.A (comprehension (.ListComp elt [⟨.Name x px, iter, ifs, 0⟩] scope pos) scope X.env cpos (newList []) false (eval iter X.env) use) Q (fun _ _ => False) s := by
  have WH := w H
  have hn' := hn
  unfold okNames at hn'
  rw [Bool.and_eq_true] at hn'
  have nd := of_decide_eq_true hn'.1
  have pair : ∀ (i : Nat) y k, vars[i]? = some y → kinds[i]? = some k → scope.names[i]? = some (y, k) := fun i y k h1 h2 => by
    rw [← hv, List.getElem?_map] at h1
    rw [← hk, List.getElem?_map] at h2
    cases e : scope.names[i]? with
    | none => rw [e] at h1; cases h1
    | some p => rw [e] at h1 h2; cases h1; cases h2; rfl
  have unpair : ∀ (i : Nat) y k, scope.names[i]? = some (y, k) → vars[i]? = some y ∧ kinds[i]? = some k := fun i y k e => by
    rw [← hv, ← hk, List.getElem?_map, List.getElem?_map, e]; exact ⟨rfl, rfl⟩
  have free : ∀ y, (y, NameKind.free) ∈ scope.names → ∃ c, X.env.cells.lookup y = some c := fun y hy => by
    obtain ⟨i, hi, e⟩ := List.getElem_of_mem hy
    obtain ⟨e1, e2⟩ := unpair i y _ (by rw [List.getElem?_eq_getElem hi, e])
    obtain ⟨j, k', q1, q2, q3⟩ := (hμ.at i y _ e1 e2).1 rfl
    exact Option.isSome_iff_exists.mp (WH.cellOf j y k' q1 q2 q3)
  have hclos : closureFor scope (X.at H).env = pure (clo X.env scope.names []) := closureFor_eq fun y hy => by
    obtain ⟨c, e⟩ := free y hy; rw [show (X.at H).env.cells.lookup y = some c from e]; rfl
  refine wpAny_comprehension_free (env := (X.at H).env) (use := use) rfl hs hclos hkind (fun p hp hl => ?_) (wpAny_mono (hit s h) (fun v s₁ h₁ => wpAny_mono h₁ (fun it s₂ h₂ => ?_) fun _ _ x => x) fun _ _ x => x)
  · obtain ⟨i, hi, e⟩ := List.getElem_of_mem hp
    obtain ⟨n, k⟩ := p
    exact lookup_nodup nd (i := i) (by rw [List.getElem?_eq_getElem hi, e, ← hl])
  obtain ⟨K, wr, W, ⟨⟨I, fp, P, rfl, Wkk, W0, hfp, hP⟩, hnew, live⟩⟩ := h₂
  refine wpAny_newObj_type (hd := by size_fits) (comp_new ?_)
  dsimp only
  have hD : (s₂.heap.push { cls := .type "list", dict := none, data := .seq ([] : List Value).toArray }).objs.size = s₂.heap.objs.size + 1 := Heap.size_push ..
  generalize hD0 : s₂.heap.objs.size = D at hD ⊢
  generalize hH2 : s₂.heap.push { cls := .type "list", dict := none, data := .seq ([] : List Value).toArray } = H2 at hD ⊢
  generalize hC0 : H2.objs.size = C at hD ⊢
  have hH3 : (H2.push { cls := .type "dict", data := .dict #[] }).objs.size = C + 1 := by rw [Heap.size_push, hC0]
  have ok := cellsFrom_ok scope.names (H2.push { cls := .type "dict", data := .dict #[] }) (C + 1) [] ⟨fun _ _ hm => (nomatch hm), List.Pairwise.nil⟩ (by rw [hH3]; exact Nat.le_refl _)
  rw [hH3] at ok
  have hcells : cellsFrom (C + 1) scope.names (clo X.env scope.names []) = cellsFrom (C + 1) scope.names [] ++ clo X.env scope.names [] := cellsFrom_append ..
  generalize hH4 : pushCells (H2.push { cls := .type "dict", data := .dict #[] }) scope.names = H4 at ok ⊢
  have up2 : ∀ b o, s₂.heap.get? b = some o → H2.get? b = some o := fun b o e => hH2 ▸ Heap.get?_push_of_some _ e
  have up4 : ∀ b o, H2.get? b = some o → H4.get? b = some o := fun b o e => hH4 ▸ pushCells_keeps _ _ b o (Heap.get?_push_of_some _ e)
  have up : ∀ b o, s₂.heap.get? b = some o → H4.get? b = some o := fun b o e => up4 b o (up2 b o e)
  generalize hcm : (cellsFrom (C + 1) scope.names []).map (·.2) = cm
  have cmle : ∀ a ∈ cm, C + 1 ≤ a := fun a ha => by
    rw [← hcm] at ha
    obtain ⟨p, hp, rfl⟩ := List.mem_map.mp ha
    exact (ok.empty p.1 p.2 hp).2
  have fresh2 : ∀ a, D ≤ a → s₂.heap.get? a = none := fun a ha => by
    cases e : s₂.heap.get? a with
    | none => rfl
    | some o => exact absurd (Heap.lt_size e) (Nat.not_lt.mpr (hD0 ▸ ha))
  have Dobj : H4.PlainList D #[] := ⟨0, up4 _ _ (by rw [← hH2, ← hD0]; exact Heap.get?_push_size _ rfl)⟩
  have CNs : H4.Ns C (fun _ => none) := by
    have : (H2.push { cls := .type "dict", data := .dict #[] }).Ns C (fun _ => none) := by rw [← hC0]; exact Heap.Ns.new ..
    exact this.keeps fun b o e => hH4 ▸ pushCells_keeps _ _ b o e
  have cellM : ∀ y c, (y, c) ∈ cellsFrom (C + 1) scope.names [] → H4.IsCell c none := fun y c e => (ok.empty y c e).1
  -- the cells
  have fr : ∀ y, (y, NameKind.free) ∈ scope.names → (X.env.cells.lookup y).isSome = true := fun y hy => by obtain ⟨c, e⟩ := free y hy; rw [e]; rfl
  have look : ∀ y c, (cellsFrom (C + 1) scope.names (clo X.env scope.names [])).lookup y = some c → ((y, c) ∈ cellsFrom (C + 1) scope.names [] ∨ X.env.cells.lookup y = some c) := fun y c e => by
    rw [hcells, List.lookup_append] at e
    cases z : (cellsFrom (C + 1) scope.names []).lookup y with
    | some c' => rw [z] at e; cases e; exact .inl (mem_of_lookup z)
    | none =>
      rw [z] at e
      exact .inr (clo_in scope.names scope.names [] fr (fun _ h => h) (fun x c q => by cases q) y c (by simpa using e)).1
  have lookFree : ∀ y, (y, NameKind.free) ∈ scope.names → (cellsFrom (C + 1) scope.names (clo X.env scope.names [])).lookup y = X.env.cells.lookup y := fun y hy => by
    rw [hcells, List.lookup_append]
    have z : (cellsFrom (C + 1) scope.names []).lookup y = none := by
      cases z : (cellsFrom (C + 1) scope.names []).lookup y with
      | none => rfl
      | some c' =>
        rcases cellsFrom_mem _ _ _ (mem_of_lookup z) with q | q
        · obtain ⟨i, hi, e⟩ := List.getElem_of_mem hy
          obtain ⟨i', hi', e'⟩ := List.getElem_of_mem q
          have a1 := lookup_nodup nd (i := i) (x := y) (k := .free) (by rw [List.getElem?_eq_getElem hi, e])
          have a2 := lookup_nodup nd (i := i') (x := y) (k := .cell) (by rw [List.getElem?_eq_getElem hi', e'])
          rw [a1] at a2; cases a2
        · cases q
    rw [z, Option.none_or]
    exact clo_get _ _ fr (.inl hy)
  have lookOwn : ∀ y, (y, NameKind.cell) ∈ scope.names → ∃ c, (cellsFrom (C + 1) scope.names (clo X.env scope.names [])).lookup y = some c ∧ c ∈ cm := fun y hy => by
    obtain ⟨c, e⟩ := Option.isSome_iff_exists.mp (cellsFrom_some (C + 1) [] hy)
    exact ⟨c, by rw [hcells, List.lookup_append, e]; rfl, by rw [← hcm]; exact List.mem_map.mpr ⟨_, mem_of_lookup e, rfl⟩⟩
  have oldCell : ∀ y c, X.env.cells.lookup y = some c → ∃ o, s.heap.get? c = some o := fun y c e => by obtain ⟨v, o, q, _⟩ := h.cells y c e; exact ⟨o, q⟩
  have newG : ∀ a, D ≤ a → G.hG.get? a = none := fun a ha => by
    cases e : G.hG.get? a with
    | none => rfl
    | some o => have := K.1.stays _ _ e; rw [fresh2 a ha] at this; cases this
  have newS : ∀ a, D ≤ a → s.heap.get? a = none := fun a ha => K.fresh (fresh2 a ha)
  generalize hcl : cellsFrom (C + 1) scope.names (clo X.env scope.names []) = cells at look lookFree lookOwn
  have WC : ∀ H, WX G ((cpCx G X vars kinds scope cells cm C).at H) := fun H => WX.cp (w []) hn hv hk hkind (fun a ha => newG a (by rcases ha with rfl | ha; (first | lia | omega); have := cmle a ha; (first | lia | omega)))
    (fun i y c e e2 => by
      obtain ⟨c', q1, q2⟩ := lookOwn y (List.mem_of_getElem? e)
      rw [q1] at e2; cases e2; exact q2)
    (fun i y k e hk' => by
      rcases hk' with rfl | rfl
      · obtain ⟨c', q1, _⟩ := lookOwn y (List.mem_of_getElem? e); rw [q1]; rfl
      · rw [lookFree y (List.mem_of_getElem? e)]; exact fr y (List.mem_of_getElem? e))
    (fun y z c e1 e2 => by
      rcases look y c e1 with q1 | q1 <;> rcases look z c e2 with q2 | q2
      · exact name_of_addr ok.apart q1 q2
      · obtain ⟨o, q⟩ := oldCell z c q2
        have := (ok.empty y c q1).2
        rw [newS c (by (first | lia | omega))] at q; cases q
      · obtain ⟨o, q⟩ := oldCell y c q1
        have := (ok.empty z c q2).2
        rw [newS c (by (first | lia | omega))] at q; cases q
      · exact WH.cinj y z c q1 q2) H
  -- what is hidden from the comprehension
  have wrS : ∀ b ∈ wr, ∃ o, s₂.heap.get? b = some o := fun b hb => (live 0 _ W0 b hb).1
  have wrlt : ∀ b ∈ wr, ¬ D ≤ b := fun b hb q => by obtain ⟨o, e⟩ := wrS b hb; rw [fresh2 b q] at e; cases e
  have slt : ∀ b o, s.heap.get? b = some o → ¬ D ≤ b := fun b o e q => by rw [newS b q] at e; cases e
  have base : ∀ b ∈ hid (X.at H) μ, ∃ o, s.heap.get? b = some o := h.dom
  have Tb : ∀ b ∈ G.T, b ∈ hid (X.at H) μ := WH.TH
  have hO : owns μc = [] := hμ.owns
  have hcD : ∀ b, b ∈ hid ((cpCx G X vars kinds scope cells cm C).at (D :: (wr ++ hid (X.at H) μ))) μc ↔ (b = C ∨ b ∈ cm ∨ b = D ∨ b ∈ wr ∨ b ∈ hid (X.at H) μ) := fun b => by
    show b ∈ owns μc ++ ((C :: (cm ++ G.T)) ++ (D :: (wr ++ hid (X.at H) μ))) ↔ _
    rw [hO]
    have Tb' := Tb
    revert Tb'
    generalize hid (X.at H) μ = BB
    intro Tb'
    simp only [List.nil_append, List.mem_append, List.mem_cons]
    constructor
    · rintro ((q | q | q) | q | q | q)
      · exact .inl q
      · exact .inr (.inl q)
      · exact .inr (.inr (.inr (.inr (Tb' b q))))
      · exact .inr (.inr (.inl q))
      · exact .inr (.inr (.inr (.inl q)))
      · exact .inr (.inr (.inr (.inr q)))
    · rintro (q | q | q | q | q)
      · exact .inl (.inl q)
      · exact .inl (.inr (.inl q))
      · exact .inr (.inl q)
      · exact .inr (.inr (.inl q))
      · exact .inr (.inr (.inr q))
  have cmD : ∀ b ∈ cm, D ≤ b := fun b hb => Nat.le_trans (by (first | lia | omega)) (cmle b hb)
  have CD : D ≤ C := by (first | lia | omega)
  have S04 : Sub (hid (X.at H) μ) (hid ((cpCx G X vars kinds scope cells cm C).at (D :: (wr ++ hid (X.at H) μ))) μc) s.heap H4 := fun b o n e => by
    refine ⟨fun q => ?_, up b o (K.2 b o (fun q => n (Tb b q)) e)⟩
    rcases (hcD b).mp q with q | q | q | q | q
    · exact slt b o e (q ▸ CD)
    · exact slt b o e (cmD b q)
    · exact slt b o e (Nat.le_of_eq q.symm)
    · rw [hnew b q] at e; cases e
    · exact n q
  have st4 : St G ((cpCx G X vars kinds scope cells cm C).at (D :: (wr ++ hid (X.at H) μ))) μc { s₂ with heap := H4, toks := s₂.toks } := by
    have g4 := K.1.grow (tk := s₂.toks) up
    refine ⟨g4, fun a ha => ?_, (by rw [hO]; exact List.nodup_nil), (by rw [hO]; intro a ha; cases ha), ?_, fun i a ts e => ?_, fun y c e => ?_⟩
    · rcases (hcD a).mp ha with q | q | q | q | q
      · obtain ⟨o, _, _, e, _⟩ := CNs; exact ⟨o, q ▸ e⟩
      · rw [← hcm] at q
        obtain ⟨p, hp, rfl⟩ := List.mem_map.mp q
        obtain ⟨o, e, _⟩ := cellM p.1 p.2 hp; exact ⟨o, e⟩
      · obtain ⟨n, e⟩ := Dobj; exact ⟨_, q ▸ e⟩
      · obtain ⟨o, e⟩ := wrS a q; exact ⟨o, up a o e⟩
      · obtain ⟨o, e⟩ := (h.step WH K).dom a q; exact ⟨o, up a o e⟩
    · refine ⟨_, CNs, fun i y k sl e1 e2 e3 => ?_⟩
      rcases (hμ.at i y k e1 e2).2 sl e3 with rfl | ⟨j, k', t, rfl, q1, q2, q3, q4, rfl⟩
      · trivial
      · obtain ⟨m, _, r⟩ := h.vars
        obtain ⟨v, z1, z2⟩ := r j y k' _ q1 q2 q4
        have z : ∃ c, X.env.cells.lookup y = some c ∧ s.heap.IsCell c (some v) := by rcases q3 with rfl | rfl <;> exact z1
        obtain ⟨c, z3, z4⟩ := z
        have ey : (y, NameKind.free) ∈ scope.names := List.mem_of_getElem? (pair i y _ e1 e2)
        refine ⟨v, ⟨c, (lookFree y ey).trans z3, (K.cell h.good z4).keeps up⟩, z2.sub S04⟩
    · have := owns_mem e; rw [hO] at this; cases this
    · rcases look y c e with q | q
      · exact ⟨_, cellM y c q⟩
      · obtain ⟨v, z⟩ := (h.step WH K).cells y c q; exact ⟨v, z.keeps up⟩
  have i0l : i0 < μc.length := by
    have := (List.getElem?_eq_some_iff.mp hx.at.1).1
    rw [← hμ.len.1]; exact this
  have no0 : μc[i0]? = some .no := by
    have e : μc[i0]? = some μc[i0] := List.getElem?_eq_getElem i0l
    rcases (hμ.at i0 x kx hx.at.1 hx.at.2).2 _ e with q | ⟨_, _, _, q, _⟩
    · rw [e, q]
    · rw [q] at hkx; rcases hkx with q | q <;> cases q
  have wk0 : ∀ t, Wk (μc.set i0 (.v t)) μc := fun t => by
    have : ∀ (l : List Slot) (i : Nat), l[i]? = some .no → Wk (l.set i (.v t)) l := by
      intro l
      induction l with
      | nil => intro i e; simp at e
      | cons a r ih =>
        intro i e
        cases i with
        | zero => simp at e; subst e; exact .no (Wk.refl _)
        | succ i => exact .same (ih i (by simpa using e))
    exact this μc i0 no0
  have CneD : C ≠ D := fun q => by
    rw [q] at hD; exact Nat.succ_ne_self D hD.symm
  have Dcm : D ∉ cm := fun q => by
    have := cmle D q
    rw [hD] at this; exact absurd this (by (first | lia | omega))
  -- the turns
  have loop : ∀ s0 : Shared, s0 = { s₂ with heap := H4, toks := s₂.toks } → codeAny G.M X.A (.compLoop (.ListComp elt [⟨.Name x px, iter, ifs, 0⟩] scope pos) 0 (.ref I) (.ref D) (compEnvC scope cells C X.env))
      (compPost G.M X.A (fun _ _ => False) use Q (.ref D) C) s0 := by
    rintro s0 rfl
    refine codeAny_compLoop_tests (fun n s' => ∃ j vs, j ≤ items.length ∧ n = items.length - j ∧ St G ((cpCx G X vars kinds scope cells cm C).at (D :: (wr ++ hid (X.at H) μ))) μc s' ∧ W j s'.heap ∧ s'.heap.PlainList D vs ∧
      AllRd s'.heap (hid ((cpCx G X vars kinds scope cells cm C).at (D :: (wr ++ hid (X.at H) μ))) μc) vs.toList ((List.range j).filterMap f) ∧ vs.size ≤ j ∧
      (∀ b o, b ≠ C → b ∉ cm → b ∉ G.T → b ≠ D → b ∉ wr → s₂.heap.get? b = some o → s'.heap.get? b = some o)) ?_ items.length
      ⟨0, #[], Nat.zero_le _, rfl, st4, ?_, Dobj, .nil, Nat.le_refl _, fun b o _ _ _ _ _ e => up b o e⟩
    · rintro n s' ⟨j, vs, hj, rfl, st, Wj, hl, hr, hsz, kp⟩
      have wrG : ∀ b ∈ wr, G.hG.get? b = none := fun b hb => by
        cases e : G.hG.get? b with
        | none => rfl
        | some o => have := h.good.stays _ _ e; rw [hnew b hb] at this; cases this
      have wrB : ∀ b ∈ wr, b ∉ hid (X.at H) μ := fun b hb q => by obtain ⟨o, e⟩ := base b q; rw [hnew b hb] at e; cases e
      have wrT : ∀ b ∈ wr, b ∉ G.T := fun b hb q => wrB b hb (Tb b q)
      have wrC : C ∉ wr := fun q => wrlt C q CD
      have wrD : D ∉ wr := fun q => wrlt D q (Nat.le_refl _)
      have wrcm : ∀ b ∈ cm, b ∉ wr := fun b hb q => wrlt b q (cmD b hb)
      have wrcell : ∀ y c, cells.lookup y = some c → c ∉ wr := fun y c e q => by
        rcases look y c e with z | z
        · exact wrlt c q (by have := (ok.empty y c z).2; (first | lia | omega))
        · obtain ⟨o, e⟩ := oldCell y c z; rw [hnew c q] at e; cases e
      have TD : ∀ b ∈ G.T, ¬ D ≤ b := fun b hb q => by obtain ⟨o, e⟩ := base b (Tb b hb); exact slt b o e q
      have DT : D ∉ G.T := fun q => TD D q (Nat.le_refl _)
      have hOw : ∀ b, b ∉ owns μc := fun b q => by rw [hO] at q; cases q
      by_cases hlt : j < items.length
      · refine Wkk.item j s' _ _ hlt Wj fun v h' tk hPv W' hk => ?_
        obtain ⟨t, et, ri⟩ := hP j v hPv
        have st1 : St G ((cpCx G X vars kinds scope cells cm C).at (D :: (wr ++ hid (X.at H) μ))) μc { s' with heap := h', toks := tk } := by
          refine St.hidden (wr := wr) st hk wrG wrT (fun b hb => (live j _ Wj b hb).2) wrC wrcell (fun b _ => hOw b) (fun b hb => .tail _ (List.mem_append_left _ hb)) (fun b hb => hb) fun b hb => ?_
          by_cases q : b ∈ wr
          · exact (live _ _ W' b q).1
          · obtain ⟨o, e⟩ := st.dom b hb; exact ⟨o, hk b o q e⟩
        have ri' : Is h' (hid ((cpCx G X vars kinds scope cells cm C).at (D :: (wr ++ hid (X.at H) μ))) μc) v t := ri.sub fun b o n e => by
          have nw : b ∉ wr := fun q => n (List.mem_append_left _ q)
          have nb : b ∉ hid (X.at H) μ := fun q => n (List.mem_append_right _ q)
          have lt : ¬ D ≤ b := fun q => by rw [fresh2 b q] at e; cases e
          refine ⟨fun q => ?_, hk b o nw (kp b o (fun q => lt (q ▸ CD)) (fun q => lt (cmD b q)) (fun q => nb (Tb b q)) (fun q => lt (Nat.le_of_eq q.symm)) nw e)⟩
          rcases (hcD b).mp q with q | q | q | q | q
          · exact lt (q ▸ CD)
          · exact lt (cmD b q)
          · exact lt (Nat.le_of_eq q.symm)
          · exact nw q
          · exact nb q
        show wpAny _ _ (assign (.Name x px) _ v) _ _ _
        refine wpAny_mono (As.name (WC _) (P := fun ν => ν = μc.set i0 (.v t)) hx i0l hkx rfl _ v st1 ri') (fun _ s5 h5 => ?_) fun _ _ x => x.elim
        obtain ⟨_, rfl, m5⟩ := h5
        -- from here on only the frame and the tables change
        have fin : ∀ (s7 : Shared) (h8 : Heap) (tk8 : Nat) (vs8 : Array Value) (w8 : List Addr), (∀ b ∈ w8, b = D) → (Step G s5 s7) → (∀ b o, b ∉ w8 → s7.heap.get? b = some o → h8.get? b = some o) → h8.PlainList D vs8 →
            AllRd h8 (hid ((cpCx G X vars kinds scope cells cm C).at (D :: (wr ++ hid (X.at H) μ))) μc) vs8.toList ((List.range (j + 1)).filterMap f) → vs8.size ≤ j + 1 →
            ∃ m, m < items.length - j ∧ ∃ j vs, j ≤ items.length ∧ m = items.length - j ∧ St G ((cpCx G X vars kinds scope cells cm C).at (D :: (wr ++ hid (X.at H) μ))) μc { s7 with heap := h8, toks := tk8 } ∧ W j h8 ∧ h8.PlainList D vs ∧
              AllRd h8 (hid ((cpCx G X vars kinds scope cells cm C).at (D :: (wr ++ hid (X.at H) μ))) μc) vs.toList ((List.range j).filterMap f) ∧ vs.size ≤ j ∧
              (∀ b o, b ≠ C → b ∉ cm → b ∉ G.T → b ≠ D → b ∉ wr → s₂.heap.get? b = some o → h8.get? b = some o) := by
          intro s7 h8 tk8 vs8 w8 hw8 k7 hk8 hl8 hr8 hz8
          have kept : ∀ b o, b ≠ C → b ∉ cm → b ∉ G.T → b ≠ D → h'.get? b = some o → h8.get? b = some o := fun b o n1 n2 n3 n4 e =>
            hk8 b o (fun q => n4 (hw8 b q)) (k7.2 b o n3 (m5.keep b o (hOw b) (fun q => by
              rcases List.mem_cons.mp q with q | q
              · exact n1 q
              · rcases List.mem_append.mp q with q | q
                · exact n2 q
                · exact n3 q) e))
          refine ⟨items.length - (j + 1), by (first | lia | omega), j + 1, vs8, by (first | lia | omega), rfl, ?_, ?_, hl8, hr8, hz8, fun b o n1 n2 n3 n4 n5 e => kept b o n1 n2 n3 n4 (hk b o n5 (kp b o n1 n2 n3 n4 n5 e))⟩
          · have st7 := (wk0 t).st (m5.st.step (WC _) k7)
            refine St.hidden (wr := w8) st7 hk8 (fun b hb => hw8 b hb ▸ newG D (Nat.le_refl _)) (fun b hb => hw8 b hb ▸ DT) (fun b hb q z => ?_) (fun q => CneD (hw8 _ q)) (fun y c e q => ?_) (fun b _ => hOw b) (fun b hb => hw8 b hb ▸ .head _) (fun b hb => hb) fun b hb => ?_
            · have hl7 : ∃ o vs n, s7.heap.get? D = some o ∧ o.data = .seq vs n := by
                have hl5 : s5.heap.PlainList D vs := by
                  obtain ⟨n, e⟩ := hl
                  refine ⟨n, m5.keep D _ (hOw D) (fun q => ?_) (hk D _ wrD e)⟩
                  rcases List.mem_cons.mp q with q | q
                  · exact CneD q.symm
                  · rcases List.mem_append.mp q with q | q
                    · exact Dcm q
                    · exact DT q
                obtain ⟨n, e⟩ := k7.list m5.st.good hl5
                exact ⟨_, _, _, e, rfl⟩
              obtain ⟨o, vs', n, e1, e2⟩ := hl7
              obtain ⟨c', o', vs'', tt, f1, f2, f3, f4⟩ := z
              cases f1
              rw [hw8 b hb, e1] at f2; cases f2
              rw [e2] at f3; cases f3
            · rw [hw8 c q] at e
              rcases look y D e with z | z
              · have := (ok.empty y D z).2
                rw [hD] at this; exact absurd this (by (first | lia | omega))
              · obtain ⟨o, e⟩ := oldCell y D z; exact slt D o e (Nat.le_refl _)
            · by_cases q : b ∈ w8
              · obtain ⟨n, e⟩ := hl8; exact ⟨_, by rw [hw8 b q]; exact e⟩
              · obtain ⟨o, e⟩ := st7.dom b hb; exact ⟨o, hk8 b o q e⟩
          · refine Wkk.frame _ _ _ W' fun b hb o e => ?_
            have lt : ¬ D ≤ b ∧ b ∉ G.T := by
              rcases hfp b hb with q | ⟨q, o', e'⟩
              · exact ⟨wrlt b q, wrT b q⟩
              · exact ⟨(fun z => by rw [fresh2 b z] at e'; cases e'), fun z => q (Tb b z)⟩
            exact kept b o (fun q => lt.1 (q ▸ CD)) (fun q => lt.1 (cmD b q)) lt.2 (fun q => lt.1 (Nat.le_of_eq q.symm)) e
        have C1 : ∀ b o, b ∉ hid ((cpCx G X vars kinds scope cells cm C).at (D :: (wr ++ hid (X.at H) μ))) μc → s'.heap.get? b = some o → s5.heap.get? b = some o := fun b o n e =>
          m5.keep b o (hOw b) (fun q => n (List.mem_append_right _ (List.mem_append_left _ q))) (hk b o (fun q => n ((hcD b).mpr (.inr (.inr (.inr (.inl q)))))) e)
        have hl5 : s5.heap.PlainList D vs := by
          obtain ⟨n, e⟩ := hl
          refine ⟨n, m5.keep D _ (hOw D) (fun q => ?_) (hk D _ wrD e)⟩
          rcases List.mem_cons.mp q with q | q
          · exact CneD q.symm
          · rcases List.mem_append.mp q with q | q
            · exact Dcm q
            · exact DT q
        have tn := turn C cells cm (D :: (wr ++ hid (X.at H) μ)) WC j t et
        have hid0 : hid ((cpCx G X vars kinds scope cells cm C).at (D :: (wr ++ hid (X.at H) μ))) (μc.set i0 (.v t)) = hid ((cpCx G X vars kinds scope cells cm C).at (D :: (wr ++ hid (X.at H) μ))) μc := by
          unfold hid
          rw [hO]
          have : owns (μc.set i0 (.v t)) = [] := by
            cases q : owns (μc.set i0 (.v t)) with
            | nil => rfl
            | cons a r =>
              rcases owns_set a (q ▸ .head _ : a ∈ owns (μc.set i0 (.v t))) with z | ⟨_, z⟩
              · exact absurd z (hOw a)
              · cases z
          rw [this]
        cases hf : f j with
        | none =>
          rw [hf] at tn
          refine wpAny_mono (tn _ m5.st) (fun okv s6 h6 => ?_) fun _ _ x => x.elim
          obtain ⟨k6, rfl⟩ := h6
          simp only [Bool.false_eq_true, if_false]
          refine fin s6 s6.heap s6.toks vs [] (fun b hb => by cases hb) k6 (fun b o _ e => e) (k6.list m5.st.good hl5) ?_ (by (first | lia | omega))
          rw [List.range_succ, List.filterMap_append]
          simp only [List.filterMap_cons, hf, List.filterMap_nil, List.append_nil]
          exact hr.sub fun b o n e => ⟨n, k6.2 b o (fun q => n ((hcD b).mpr (.inr (.inr (.inr (.inr (Tb b q))))))) (C1 b o n e)⟩
        | some d =>
          rw [hf] at tn
          refine wpAny_mono (tn.1 _ m5.st) (fun okv s6 h6 => ?_) fun _ _ x => x.elim
          obtain ⟨k6, rfl⟩ := h6
          simp only [if_true]
          refine wpAny_mono (tn.2 _ (m5.st.step (WC _) k6)) (fun y s7 h7 => ?_) fun _ _ x => x.elim
          obtain ⟨k7, ry⟩ := h7
          have k57 := k6.trans k7
          rw [hid0] at ry
          refine wpAny_list_append_plain (k57.list m5.st.good hl5) (fun h8 hl8 hs8 => ?_) (by have : vs.size ≤ 100000 := by (first | lia | omega)
                                                                                              exact Nat.le_trans this (by decide))
          have S8 : ∀ b o, b ∉ hid ((cpCx G X vars kinds scope cells cm C).at (D :: (wr ++ hid (X.at H) μ))) μc → s7.heap.get? b = some o → h8.get? b = some o := fun b o n e => (hs8.2 b (fun q => n ((hcD b).mpr (.inr (.inr (.inl q)))))).trans e
          refine fin s7 h8 s7.toks (vs.push y) [D] (fun b hb => by simpa using hb) k57 (fun b o n e => (hs8.2 b (fun q => n (q ▸ .head _))).trans e) hl8 ?_ (by simp; (first | lia | omega))
          rw [List.range_succ, List.filterMap_append]
          simp only [List.filterMap_cons, hf, List.filterMap_nil, Array.toList_push]
          refine AllRd.append (hr.sub fun b o n e => ⟨n, S8 b o n (k57.2 b o (fun q => n ((hcD b).mpr (.inr (.inr (.inr (.inr (Tb b q))))))) (C1 b o n e))⟩) (.cons (Rd.sub (fun b o n e => ⟨n, S8 b o n e⟩) ry) .nil)
      · have hj' : j = items.length := by (first | lia | omega)
        subst hj'
        refine Wkk.done s' _ _ Wj fun h' tk hk => ?_
        obtain ⟨m, n, _⟩ := st.vars
        have n' : h'.Ns C m := by
          obtain ⟨o, es, ep, e, r⟩ := n
          exact ⟨o, es, ep, hk C o wrC e, r⟩
        have g1 : Good G { s' with heap := h', toks := tk } := st.good.hidden hk wrG wrT fun b hb => (live _ _ Wj b hb).2
        refine fin C D _ (newS C CD) ⟨g1, fun b o nT e => ?_⟩ ?_ ⟨m, n'⟩
        · have lt := slt b o e
          have nw : b ∉ wr := fun q => by rw [hnew b q] at e; cases e
          exact hk b o nw (kp b o (fun q => lt (q ▸ CD)) (fun q => lt (cmD b q)) nT (fun q => lt (Nat.le_of_eq q.symm)) nw (K.2 b o nT e))
        · obtain ⟨nn, eD⟩ := hl
          refine Rd.list (fun q => ?_) (hk D _ wrD eD) (hr.sub fun b o n e => ⟨fun q => n ((hcD b).mpr ?_), hk b o (fun q => n ((hcD b).mpr (.inr (.inr (.inr (.inl q)))))) e⟩)
          · rcases List.mem_cons.mp q with q | q
            · exact CneD q.symm
            · obtain ⟨o, e⟩ := base D q
              exact slt D o e (Nat.le_refl _)
          · rcases List.mem_cons.mp q with q | q
            · exact .inl q
            · exact .inr (.inr (.inr (.inr q)))
    · exact Wkk.frame _ _ _ W0 fun b hb o e => up b o e
  have e0 := loop _ rfl
  refine codeAny_compStart_list (by subst hcl; exact loop _ rfl) ?_
  subst hcl
  exact Wkk.self 0 _ _ _ (Wkk.frame _ _ _ W0 fun b hb o e => up b o e) (loop _ rfl)

theorem St.newG {s : Shared} (g : Good G s) {a : Addr} (e : s.heap.get? a = none) : G.hG.get? a = none := by
  cases z : G.hG.get? a with
  | none => rfl
  | some o => have := g.stays _ _ z; rw [e] at this; cases this
theorem Ns.noCode {h : Heap} {a : Addr} {m : Str → Option Value} (n : h.Ns a m) : ∀ q, ¬ h.CodeRec (.ref a) q := fun q ⟨c, o, vs, t, e1, e2, e3, _⟩ => by
  cases e1
  obtain ⟨o', _, _, e', hd, _⟩ := n
  rw [e'] at e2; cases e2; rw [hd] at e3; cases e3

theorem Ev.comp (w : ∀ H, WX G (X.at H)) {H : List Addr} {elt iter : Expr} {x : Str} {px pos : Pos} {ifs : List Expr} {scope : Scope} {items : List Tr} {vars : List Str} {kinds : List NameKind} {μc : List Slot} {i0 : Nat} {kx : NameKind} (f : Nat → Option PyData)
    (hit : It G (X.at H) μ iter items) (hlen : items.length ≤ 100000) (hn : okNames scope.names = true) (hv : scope.names.map (·.1) = vars) (hk : scope.names.map (·.2) = kinds) (hkind : scope.kind = .function)
    (hμ : Cs X μ vars kinds μc) (hx : HV vars kinds x i0 kx) (hkx : kx = .local ∨ kx = .cell)
    (turn : ∀ (C : Addr) (cells : List (Str × Addr)) (cm H' : List Addr), (∀ H, WX G ((cpCx G X vars kinds scope cells cm C).at H)) → ∀ (j : Nat) t, items[j]? = some t →
      match f j with
      | some d => TsAll G ((cpCx G X vars kinds scope cells cm C).at H') (μc.set i0 (.v t)) ifs true ∧ Ev G ((cpCx G X vars kinds scope cells cm C).at H') (μc.set i0 (.v t)) elt (.d d)
      | none => TsAll G ((cpCx G X vars kinds scope cells cm C).at H') (μc.set i0 (.v t)) ifs false)
    (hs : ∀ x, foldedSetIterable iter X.env x = pure x := by intro _; rfl) :
    Ev G (X.at H) μ (.ListComp elt [⟨.Name x px, iter, ifs, 0⟩] scope pos) (L ((List.range items.length).filterMap f)) := fun s h => by
  rw [eval_ListComp]
  refine comp_core w f hit hlen hn hv hk hkind hμ hx hkx turn h (use := none) (fun C D s' hC K R n => ?_) hs
  obtain ⟨m, n⟩ := n
  refine ⟨m, n, fun h' hs' => ?_⟩
  have CT : C ∉ G.T := fun q => by obtain ⟨o, e⟩ := h.dom C ((w H).TH C q); rw [hC] at e; cases e
  have Cb : C ∉ hid (X.at H) μ := fun q => by obtain ⟨o, e⟩ := h.dom C q; rw [hC] at e; cases e
  have g2 : Good G { s' with heap := h', toks := s'.toks } := Good.hidden (wr := [C]) K.1 (fun b o n e => (hs'.2 b (fun q => n (q ▸ .head _))).trans e) (fun b hb => by simp at hb; subst hb; exact St.newG h.good hC) (fun b hb => by simp at hb; subst hb; exact CT) (fun b hb => by simp at hb; subst hb; exact Ns.noCode n)
  refine ⟨⟨g2, fun b o nT e => (hs'.2 b (fun q => by rw [q, hC] at e; cases e)).trans (K.2 b o nT e)⟩, ?_⟩
  refine R.sub fun b o n e => ⟨fun q => n (.tail _ q), (hs'.2 b (fun q => n (q ▸ .head _))).trans e⟩

theorem Ex1.setComp (w : ∀ H, WX G (X.at H)) {H : List Addr} {elt iter : Expr} {x y : Str} {px py pos spos : Pos} {ifs : List Expr} {scope : Scope} {items : List Tr} {vars : List Str} {kinds : List NameKind} {μc : List Slot} {i0 iy : Nat} {kx : NameKind} {Q : Out → Prop} (f : Nat → Option PyData)
    (hit : It G (X.at H) μ iter items) (hlen : items.length ≤ 100000) (hn : okNames scope.names = true) (hv : scope.names.map (·.1) = vars) (hk : scope.names.map (·.2) = kinds) (hkind : scope.kind = .function)
    (hμ : Cs X μ vars kinds μc) (hx : HV vars kinds x i0 kx) (hkx : kx = .local ∨ kx = .cell)
    (turn : ∀ (C : Addr) (cells : List (Str × Addr)) (cm H' : List Addr), (∀ H, WX G ((cpCx G X vars kinds scope cells cm C).at H)) → ∀ (j : Nat) t, items[j]? = some t →
      match f j with
      | some d => TsAll G ((cpCx G X vars kinds scope cells cm C).at H') (μc.set i0 (.v t)) ifs true ∧ Ev G ((cpCx G X vars kinds scope cells cm C).at H') (μc.set i0 (.v t)) elt (.d d)
      | none => TsAll G ((cpCx G X vars kinds scope cells cm C).at H') (μc.set i0 (.v t)) ifs false)
    (hy : HV X.vars X.kinds y iy .local) (hiy : iy < μ.length) (hsw : swapsWith (.ListComp elt [⟨.Name x px, iter, ifs, 0⟩] scope pos) (some (.Name y py)) spos.line X.env = pure true)
    (hq : Q (.next (μ.set iy (.v (L ((List.range items.length).filterMap f)))))) (hs : ∀ x, foldedSetIterable iter X.env x = pure x := by intro _; rfl) :
    Ex1 G (X.at H) μ (.Assign [.Name y py] (.ListComp elt [⟨.Name x px, iter, ifs, 0⟩] scope pos) spos) Q := fun s h => by
  rw [exec_Assign_Name_used _ _ _ _ hsw]
  refine wpAny_bind (wpAny_standAt (wpAny_bind ?_))
  show wpAny _ X.A (do let _ ← comprehension (.ListComp elt [⟨.Name x px, iter, ifs, 0⟩] scope pos) scope X.env _ (newList []) false (eval iter X.env) (some (assign (.Name y py) X.env))) _ _ s
  refine wpAny_bind (wpAny_mono (comp_core (use := some (assign (.Name y py) X.env)) (Q := fun _ s' => Mv G (X.at H) μ s (μ.set iy (.v (L ((List.range items.length).filterMap f)))) s') w f hit hlen hn hv hk hkind hμ hx hkx turn h (fun C D s' hC K R n => ?_) hs)
    (fun _ s' hm => wpAny_pure (wpAny_pure ⟨_, hq, hm⟩)) fun _ _ x => x)
  obtain ⟨mC, n⟩ := n
  have CT : C ∉ G.T := fun q => by obtain ⟨o, e⟩ := h.dom C ((w H).TH C q); rw [hC] at e; cases e
  have Cb : C ∉ hid (X.at H) μ := fun q => by obtain ⟨o, e⟩ := h.dom C q; rw [hC] at e; cases e
  have st1 : St G (X.at ([C] ++ H)) μ s' := St.hide X w h K (fun b hb => by simp at hb; subst hb; exact hC) (fun b hb => by simp at hb; subst hb; obtain ⟨o, _, _, e, _⟩ := n; exact ⟨o, e⟩)
  have inC : ∀ b, b ∈ hid (X.at ([C] ++ H)) μ → b ∈ C :: hid (X.at H) μ := fun b hb => by
    rcases List.mem_append.mp hb with q | q
    · exact .tail _ (List.mem_append_left _ q)
    · rcases List.mem_append.mp q with q | q
      · exact .tail _ (List.mem_append_right _ (List.mem_append_left _ q))
      · rcases List.mem_append.mp q with q | q
        · simp at q; exact q ▸ .head _
        · exact .tail _ (List.mem_append_right _ (List.mem_append_right _ q))
  show wpAny _ X.A (assign (.Name y py) X.env (.ref D)) _ _ _
  refine wpAny_assign_Name (store_slot (X := X.at ([C] ++ H)) (w _) st1 (Step.refl K.1) hy hiy (.inl rfl) (val := .v (L ((List.range items.length).filterMap f))) (R.sub fun b o nb e => ⟨fun q => nb (inC b q), e⟩) fun sl s'' e m => ?_)
  cases e
  have CM : C ∉ X.M := fun q => Cb (List.mem_append_right _ (List.mem_append_left _ q))
  have CO : C ∉ owns μ := fun q => Cb (List.mem_append_left _ q)
  have n' : s''.heap.Ns C mC := by
    obtain ⟨o, es, ep, e, r⟩ := n
    exact ⟨o, es, ep, m.keep C o CO CM e, r⟩
  refine ⟨mC, n', fun h' hs' => ⟨?_, fun b o n1 n2 e => ?_, fun a ha => ?_⟩⟩
  · refine St.hidden (wr := [C]) m.st (fun b o n e => (hs'.2 b (fun q => n (q ▸ .head _))).trans e) (fun b hb => by simp at hb; subst hb; exact St.newG h.good hC) (fun b hb => by simp at hb; subst hb; exact CT) (fun b hb => by simp at hb; subst hb; exact Ns.noCode n')
      (fun q => by simp at q; exact CM (q ▸ (w H).LM)) (fun x c e q => by
        simp at q; subst q
        obtain ⟨v, o, e', _⟩ := h.cells x c e
        rw [hC] at e'; cases e') (fun b hb q => ?_) (fun b hb => List.mem_append_left _ hb) (fun b hb => List.mem_append_right _ hb) fun b hb => ?_
    · simp at hb; subst hb
      rcases owns_set b q with z | ⟨_, z⟩
      · exact CO z
      · cases z
    · obtain ⟨o, e⟩ := m.st.dom b (by
        rcases List.mem_append.mp hb with q | q
        · exact List.mem_append_left _ q
        · rcases List.mem_append.mp q with q | q
          · exact List.mem_append_right _ (List.mem_append_left _ q)
          · exact List.mem_append_right _ (List.mem_append_right _ (List.mem_append_right _ q)))
      refine ⟨o, (hs'.2 b fun q => ?_).trans e⟩
      subst q
      rcases List.mem_append.mp hb with q | q
      · rcases owns_set b q with z | ⟨_, z⟩
        · exact CO z
        · cases z
      · exact Cb (List.mem_append_right _ q)
  · exact (hs'.2 b (fun q => by rw [q, hC] at e; cases e)).trans (m.keep b o n1 n2 (K.2 b o (fun q => n2 ((w H).TM b q)) e))
  · rcases m.own a ha with q | q
    · exact .inl q
    · exact .inr (K.fresh q)
end

/-! # F13 -/

section
variable {G : Gd} {X : Cx} {μ : List Slot}

/-! ## methods of built-in values -/
theorem Ev.meth (w : WX G X) {o : Expr} {name : Str} {apos pos : Pos} {args : List Expr} {a t : Tr} {ts : List Tr} {id : String} {pl : Sem Bool} (ho : Ev G X μ o a) (hargs : EvL G X μ args ts)
    (hm : ∀ (s : Shared) v (Q : Value × List Value → Shared → Prop), Is s.heap (hid X μ) v a → Q (.builtin id, [v]) s → wpAny G.M X.A (getMethod v name pl) Q (fun _ _ => False) s)
    (hc : ∀ (s : Shared) v vs, Room G X.A (hid X μ) s → Is s.heap (hid X μ) v a → AllIs s.heap (hid X μ) vs ts → wpAny G.M X.A (PySem.call (.builtin id) (v :: vs)) (fun r s' => Step G s s' ∧ Is s'.heap (hid X μ) r t) (fun _ _ => False) s)
    (he : eval (.Call (.Attribute o name apos) args [] pos) X.env = (do
      let ov ← eval o X.env
      standAt apos.atName
      let (f, first) ← holding [ov] (getMethod ov name pl)
      callWith pos f first (backTo pos (starEach args X.env)) []) := by rfl) (hp : noStar args = true := by rfl) : Ev G X μ (.Call (.Attribute o name apos) args [] pos) t := fun s h => by
  refine MethodCall_ (wpAny_mono (ho s h) (fun v s₁ h₁ => hm s₁ v _ h₁.2 ?_) fun _ _ x => x) he
  refine callWith_builtin (by rw [starEach_plain _ _ _ hp]) (evalArgs_any hp (wpAny_mono (hargs s₁ pos (h.step w h₁.1)) (fun vs s₂ h₂ => ?_) fun _ _ x => x))
  have st := (h.step w h₁.1).step w h₂.1
  exact wpAny_mono (hc s₂ v vs (st.room w) (h₁.2.step w h₂.1) h₂.2) (fun r s₃ h₃ => ⟨(h₁.1.trans h₂.1).trans h₃.1, h₃.2⟩) fun _ _ x => x

theorem Ev.bit_length (w : WX G X) {o : Expr} {apos pos : Pos} {i : Int} {pl : Sem Bool} (ho : Ev G X μ o (I i))
    (he : eval (.Call (.Attribute o "bit_length" apos) [] [] pos) X.env = (do
      let ov ← eval o X.env
      standAt apos.atName
      let (f, first) ← holding [ov] (getMethod ov "bit_length" pl)
      callWith pos f first (backTo pos (starEach [] X.env)) []) := by rfl) : Ev G X μ (.Call (.Attribute o "bit_length" apos) [] [] pos) (I (Builtin.Int.intBits i)) := by
  refine Ev.meth (id := "int.bit_length") w ho EvL.nil (fun s v Q r hq => ?_) (fun s v vs R r rs => ?_) he
  · obtain ⟨t, rfl⟩ := r.int_inv; exact getMethod_int_bit_length hq
  · obtain ⟨t, rfl⟩ := r.int_inv; cases rs
    exact call_int_bit_length ⟨Step.tok R.good _, .int _ _⟩
theorem Ev.count (w : WX G X) {o e : Expr} {apos pos : Pos} {x y : Str} {pl : Sem Bool} (ho : Ev G X μ o (S x)) (ha : EvL G X μ [e] [S y])
    (he : eval (.Call (.Attribute o "count" apos) [e] [] pos) X.env = (do
      let ov ← eval o X.env
      standAt apos.atName
      let (f, first) ← holding [ov] (getMethod ov "count" pl)
      callWith pos f first (backTo pos (starEach [e] X.env)) []) := by rfl) (hp : noStar [e] = true := by rfl) : Ev G X μ (.Call (.Attribute o "count" apos) [e] [] pos) (I (Txt.count x y)) := by
  refine Ev.meth (id := "str.count") w ho ha (fun s v Q r hq => ?_) (fun s v vs R r rs => ?_) he hp
  · obtain ⟨t, rfl⟩ := r.str_inv; exact GM.count hq
  · obtain ⟨t, rfl⟩ := r.str_inv
    obtain ⟨v, rfl, r'⟩ := one_arg rs
    obtain ⟨u, rfl⟩ := r'.str_inv
    exact SC.count ⟨Step.tok R.good _, .int _ _⟩
theorem strs_items {h : Heap} {D : List Addr} : ∀ {vs : List Value} {xs : List Str}, AllRd h D vs (xs.map .str) → ∃ l : List (Str × Tok), vs = strValues l ∧ l.map (·.1) = xs
  | [], [], _ => ⟨[], rfl, rfl⟩
  | [], _ :: _, r => by cases r
  | _ :: _, [], r => by cases r
  | _ :: _, x :: xs, r => by
    cases r with
    | cons a b =>
      obtain ⟨t, rfl⟩ := Rd.str_inv a
      obtain ⟨l, rfl, rfl⟩ := strs_items b
      exact ⟨(x, t) :: l, rfl, rfl⟩
theorem Ev.join (w : WX G X) {o e : Expr} {apos pos : Pos} {x : Str} {xs : List Str} {pl : Sem Bool} (ho : Ev G X μ o (S x)) (ha : EvL G X μ [e] [L (xs.map .str)]) (hok : JoinOk x xs = true)
    (he : eval (.Call (.Attribute o "join" apos) [e] [] pos) X.env = (do
      let ov ← eval o X.env
      standAt apos.atName
      let (f, first) ← holding [ov] (getMethod ov "join" pl)
      callWith pos f first (backTo pos (starEach [e] X.env)) []) := by rfl) (hp : noStar [e] = true := by rfl) : Ev G X μ (.Call (.Attribute o "join" apos) [e] [] pos) (S (Txt.join x xs)) := by
  refine Ev.meth (id := "str.join") w ho ha (fun s v Q r hq => ?_) (fun s v vs R r rs => ?_) he hp
  · obtain ⟨t, rfl⟩ := r.str_inv; exact GM.join hq
  · obtain ⟨t, rfl⟩ := r.str_inv
    obtain ⟨v, rfl, r'⟩ := one_arg rs
    obtain ⟨a, ⟨items⟩, rfl, _, hl, hr⟩ := Rd.list_inv r'
    obtain ⟨l, e, rfl⟩ := strs_items hr
    have e : items = strValues l := e
    subst e
    exact SC.join hl.isList rfl hok fun t' k => ⟨Step.tok R.good _, .str _ _⟩
theorem PlainList.noDict {h : Heap} {a : Addr} {vs : Array Value} (l : h.PlainList a vs) : h.NoDictAt (.ref a) := let ⟨n, e⟩ := l; ⟨_, e, rfl⟩
theorem Ev.index_strs (w : WX G X) {o e : Expr} {apos pos : Pos} {xs : List Str} {y : Str} {pl : Sem Bool} {j : Nat} (ho : Ev G X μ o (L (xs.map .str))) (ha : EvL G X μ [e] [S y]) (hj : xs[j]? = some y) (hno : ∀ m < j, xs[m]? ≠ some y) (hs : j < 100000)
    (he : eval (.Call (.Attribute o "index" apos) [e] [] pos) X.env = (do
      let ov ← eval o X.env
      standAt apos.atName
      let (f, first) ← holding [ov] (getMethod ov "index" pl)
      callWith pos f first (backTo pos (starEach [e] X.env)) []) := by rfl) (hp : noStar [e] = true := by rfl) : Ev G X μ (.Call (.Attribute o "index" apos) [e] [] pos) (I j) := by
  refine Ev.meth (id := "list.index") w ho ha (fun s v Q r hq => ?_) (fun s v vs R r rs => ?_) he hp
  · obtain ⟨a, items, rfl, _, hl, hr⟩ := Rd.list_inv r
    exact getMethod_list_of PySem.F.slot_list_index PySem.F.type_list_index hl.isList (PlainList.noDict hl) hq
  · obtain ⟨a, ⟨items⟩, rfl, _, hl, hr⟩ := Rd.list_inv r
    obtain ⟨v, rfl, r'⟩ := one_arg rs
    obtain ⟨u, rfl⟩ := r'.str_inv
    obtain ⟨l, e, rfl⟩ := strs_items hr
    have e : items = strValues l := e
    subst e
    obtain ⟨n, e0⟩ := hl
    have hget : ∀ m, (strValues l)[m]? = l[m]?.map (fun p : Str × Tok => Value.str p.1 p.2) := fun m => by
      unfold strValues; rw [List.getElem?_map]
    have hjl : j < (strValues l).toArray.size := by
      have := (List.getElem?_eq_some_iff.mp hj).1
      simpa [strValues] using this
    refine call_meets PySem.F.slot_list_index ⟨_, e0, rfl⟩ PySem.F.entry_list_index (PySem.F.args_list_index_2 _ _)
      (MeetsSeq.list_index a (strValues l).toArray n (.str y u) (fun v => match v with | .str z _ => z == y | _ => false) (fun v hv => ?_) j hjl (by omega) ?_ fun m hm hmj => ?_) ⟨e0, Step.tok R.good _, .int _ _⟩
    · have hv : v ∈ strValues l := by simpa using hv
      unfold strValues at hv
      obtain ⟨p, _, rfl⟩ := List.mem_map.mp hv
      exact eqGives_str _ _ _ _
    · rw [List.getElem?_map] at hj
      cases q : l[j]? with
      | none => rw [q] at hj; cases hj
      | some p =>
        rw [q] at hj; cases hj
        have := hget j
        rw [q] at this
        have h2 : (strValues l).toArray[j] = Value.str p.1 p.2 := by
          have h3 : (strValues l)[j]? = some ((strValues l).toArray[j]) := by simp
          rw [h3] at this; exact Option.some.inj this
        rw [h2]; simp
    · have hm' : m < l.length := by simpa [strValues] using hm
      have q : l[m]? = some l[m] := List.getElem?_eq_getElem hm'
      have h1 := hno m hmj
      rw [List.getElem?_map, q] at h1
      have := hget m
      rw [q] at this
      have h2 : (strValues l).toArray[m] = Value.str l[m].1 l[m].2 := by
        have h3 : (strValues l)[m]? = some ((strValues l).toArray[m]) := by simp
        rw [h3] at this; exact Option.some.inj this
      rw [h2]
      simpa using h1

/-! ## text -/
theorem Bin.add_str (x y : Str) (h : x.length + y.length ≤ 2 ^ 24) : Bin G .Add (S x) (S y) (S (x ++ y)) := fun A D s va vb R ra rb => by
  obtain ⟨t, rfl⟩ := ra.str_inv; obtain ⟨u, rfl⟩ := rb.str_inv
  exact SB.add (fun t' k => ⟨Step.tok R.good _, .str _ _⟩) h
theorem Bin.mul_str (x : Str) (n : Int) (h : MulOk x n) : Bin G .Mult (S x) (I n) (S (Txt.mul x n)) := fun A D s va vb R ra rb => by
  obtain ⟨t, rfl⟩ := ra.str_inv; obtain ⟨u, rfl⟩ := rb.int_inv
  exact SB.mul h fun t' k => ⟨Step.tok R.good _, .str _ _⟩

theorem Ev.slice_str (w : WX G X) {e : Expr} {lo : Option Expr} {hi : Expr} {p p' : Pos} {x : Str} {kl : Option Int} {kh : Int} (he : Ev G X μ e (S x)) (h1 : EvP G X μ lo kl) (h2 : Ev G X μ hi (I kh)) (hn : x.length ≤ 2 ^ 24) :
    Ev G X μ (.Subscript e (.Slice lo (some hi) none p) p') (S (Txt.slice x kl (some kh))) := fun s h => by
  refine Subscript_ (wpAny_mono (he s h) (fun v s₁ k₁ => ?_) fun _ _ x => x)
  have st₁ := h.step w k₁.1
  obtain ⟨t, rfl⟩ := k₁.2.str_inv
  refine wpAny_Slice (h1.run w st₁ fun vl s₂ k₂ pl => ?_)
  have st₂ := st₁.step w k₂
  refine wpAny_mono (h2 s₂ st₂) (fun vh s₃ k₃ => ?_) fun _ _ x => x
  obtain ⟨u, rfl⟩ := k₃.2.int_inv
  have st₃ := st₂.step w k₃.1
  refine EvP.run (e := none) (k := none) w trivial st₃ fun vs s₄ k₄ ps => ?_
  have K := ((k₁.1.trans k₂).trans k₃.1).trans k₄
  cases ps
  have item : ItemOn G.M X.A (fun _ _ => False) (.str x t) (.ref s₄.heap.objs.size) (fun r s' => Step G s s' ∧ Is s'.heap (hid X μ) r (S (Txt.slice x kl (some kh)))) { s₄ with heap := s₄.heap.push { cls := .type "slice", data := .fields #[vl, .int kh u, .none] } } := by
    cases pl with
    | none => exact SBG.sliceItem_ns (Fm := fun s' => Step G s s') (fun s' ob k z => z.trans (Step.push z.1 ob)) K (fun s' t' z => ⟨z, .str _ _⟩) hn
    | int i ui => exact SBG.sliceItem_ss (Fm := fun s' => Step G s s') (fun s' ob k z => z.trans (Step.push z.1 ob)) K (fun s' t' z => ⟨z, .str _ _⟩) hn
  obtain ⟨T, id, hl, hT, hg⟩ := item
  exact tail_any (ops := [_, _]) hT hl hg rfl

/-- text by its code points -/
def st (l : List Nat) : Str := ⟨l.toArray⟩
theorem Cmp.eq_st (a b : List Nat) : Cmp G .Eq (S (st a)) (S (st b)) (decide (a = b)) := fun A D s va vb R ra rb => by
  obtain ⟨t, rfl⟩ := ra.str_inv; obtain ⟨u, rfl⟩ := rb.str_inv
  refine P.eq_str ⟨Step.refl R.good, ?_⟩
  show Value.bool (a == b) = _
  rw [show (a == b) = decide (a = b) by by_cases h : a = b <;> simp [h]]
theorem Cmp.ne_st (a b : List Nat) : Cmp G .NotEq (S (st a)) (S (st b)) (!decide (a = b)) := fun A D s va vb R ra rb => by
  obtain ⟨t, rfl⟩ := ra.str_inv; obtain ⟨u, rfl⟩ := rb.str_inv
  refine P.ne_str ⟨Step.refl R.good, ?_⟩
  show Value.bool (!(a == b)) = _
  rw [show (a == b) = decide (a = b) by by_cases h : a = b <;> simp [h]]

/-! ## membership, identity -/
theorem Cmp.notin_data (d : PyData) (xs : List PyData) (hx : SeqAt.shaped (.list xs) = true) (hd : SeqAt.shaped d = true) : Cmp G .NotIn (.d d) (L xs) (!xs.any fun y => PyData.eqv y d) := fun A D s va vb R ra rb => by
  obtain ⟨as, ra⟩ := Rd.reads ra
  obtain ⟨bs, rb⟩ := Rd.reads rb
  exact SeqAt.notIn_list_reads rb ra (SeqAt.canLay_of_shaped hx) (SeqAt.canLay_of_shaped hd) (room_in_shaped hd (by have := R.units; omega)) ⟨Step.refl R.good, rfl⟩
theorem Cmp.is_bool (a b : Bool) : Cmp G .Is (B a) (B b) (a == b) := fun A D s va vb R ra rb => by
  have := ra.bool_inv; subst this
  have := rb.bool_inv; subst this
  exact PyProof.Rows.is_bool ⟨Step.refl R.good, rfl⟩
theorem Cmp.isnot_bool (a b : Bool) : Cmp G .IsNot (B a) (B b) (a != b) := fun A D s va vb R ra rb => by
  have := ra.bool_inv; subst this
  have := rb.bool_inv; subst this
  exact PyProof.Rows.isnot_bool ⟨Step.refl R.good, rfl⟩
theorem mulOk_small {x : Str} {n : Int} (h1 : -(2 ^ 62) ≤ n) (h2 : n < 2 ^ 62) (h : x.length * n.toNat ≤ 2 ^ 24) : MulOk x n := by
  refine ⟨by simp; omega, fun hn _ => ?_, fun hn _ => ?_⟩
  · have h0 : 0 < n := by omega
    have : (x.length : Int) * n ≤ 2 ^ 63 - 1 := by
      have : ((x.length * n.toNat : Nat) : Int) ≤ 2 ^ 24 := by exact_mod_cast h
      rw [Int.natCast_mul, Int.toNat_of_nonneg (by omega)] at this
      omega
    have := Int.le_ediv_of_mul_le h0 this
    omega
  · simp only [Builtin.Str.tooLong]
    simp [sizeLine]; exact h
end

/-! # F14 -/

section
variable {G : Gd} {X : Cx} {μ : List Slot} {Q : Out → Prop}

/-! ## lists that a name owns -/
def atm : PyData → Bool
  | .none | .bool _ | .int _ | .str _ => true
  | _ => false
theorem Rd.atm {h h' : Heap} {D D' : List Addr} {v : Value} {d : PyData} (ha : atm d = true) (r : Rd h D v d) : Rd h' D' v d := by
  cases r <;> first | (constructor; done) | (cases ha)
theorem AllRd.atm {h h' : Heap} {D D' : List Addr} : ∀ {vs : List Value} {ds : List PyData}, ds.all Mine.atm = true → AllRd h D vs ds → AllRd h' D' vs ds
  | _, _, _, .nil => .nil
  | _, _, ha, .cons a b => by
    simp only [List.all_cons, Bool.and_eq_true] at ha
    exact .cons (a.atm ha.1) (b.atm ha.2)
theorem Ev.thaw {μ' : List Slot} {e : Expr} {d : PyData} (k : Wk μ μ') (ha : atm d = true) (h : Ev G X μ' e (.d d)) : Ev G X μ e (.d d) := fun s hs =>
  wpAny_mono (h s (k.st hs)) (fun v s' q => ⟨q.1, Rd.atm ha q.2⟩) fun _ _ x => x
theorem Ts.thaw {μ' : List Slot} {e : Expr} {b : Bool} (k : Wk μ μ') (h : Ts G X μ' e b) : Ts G X μ e b := fun s hs => h s (k.st hs)
/-- operators that give a new list -/
def BinN (G : Gd) (op : Operator) (a b : Tr) (ds : List PyData) : Prop :=
  ∀ A D s va vb, Room G A D s → Is s.heap D va a → Is s.heap D vb b →
    wpAny G.M A (binaryOp op va vb) (fun v s' => Step G s s' ∧ ∃ c vs, v = .ref c ∧ s.heap.get? c = none ∧ s'.heap.PlainList c vs ∧ AllRd s'.heap D vs.toList ds) (fun _ _ => False) s
theorem BinN.add_list (xs ys : List PyData) (hn : xs.length + ys.length ≤ 100000) : BinN G .Add (L xs) (L ys) (xs ++ ys) := fun A D s va vb R ra rb => by
  obtain ⟨a, ia, rfl, _, ⟨na, ha⟩, hra⟩ := Rd.list_inv ra
  obtain ⟨b, ib, rfl, _, ⟨nb, hb⟩, hrb⟩ := Rd.list_inv rb
  have e1 : ia.size = xs.length := by rw [← hra.length]; simp
  have e2 : ib.size = ys.length := by rw [← hrb.length]; simp
  refine concat_meets ⟨_, ha, rfl⟩ ⟨_, hb, rfl⟩ noFill_list_add seq_list_add PySem.F.slot_list_add PySem.F.entry_list_add (PySem.F.args_list_add_2 _ _)
    (list_addW a b ia ib na nb none none #[] #[] (by rw [e1, e2]; exact Nat.le_trans hn (by decide))) ⟨ha, hb, ?_⟩
  refine ⟨Step.push R.good _, _, _, rfl, size_none _, ⟨0, Heap.get?_push_size _ rfl⟩, ?_⟩
  have := (hra.append hrb).sub (sub_push (D := D) s.heap { cls := .type "list", data := .seq (ia ++ ib) })
  rw [show (ia ++ ib).toList = ia.toList ++ ib.toList by simp]
  exact this
theorem BinN.mul_list (xs : List PyData) (k : Int) (hlo : -(2 ^ 63 : Int) ≤ k) (hhi : k < 2 ^ 63) (hn : xs.length * k.toNat ≤ 2 ^ 24) : BinN G .Mult (L xs) (I k) (List.replicate k.toNat xs).flatten := fun A D s va vb R ra rb => by
  obtain ⟨a, ⟨ia⟩, rfl, _, ⟨na, ha⟩, hra⟩ := Rd.list_inv ra
  obtain ⟨u, rfl⟩ := rb.int_inv
  have e1 : ia.length = xs.length := by simpa using hra.length
  refine wpAny_binaryOp_repeat_ref (T := "list") (U := "int") (by decide) ⟨_, ha, rfl⟩ (fun s' => typeIs_int s' k u) noFill_list_mul F.fills_int_mul F.slot_int_rmul repeat_list F.slot_int_index.lookup
    (call_meets F.slot_int_rmul (typeIs_int s k u) F.entry_int_rmul (F.args_int_rmul_2 _ _) (lm_int_rmul_list_any k u a ia.toArray na none #[])
      ⟨ha, rfl, ⟨_, ha, rfl⟩, call_meets F.slot_list_mul ⟨_, ha, rfl⟩ F.entry_list_mul (F.args_list_mul_2 _ _)
        (lm_list_mul_any a ia.toArray na none #[] k u (by simp [Builtin.List.listFitsIndex]; (first | lia | omega)) (by simp [e1]; (first | lia | omega)) (by simp [Builtin.List.listTooLong, sizeLine]; rw [e1]; (first | lia | omega)))
        ⟨ha, ?_⟩⟩)
  refine ⟨Step.push R.good _, _, _, rfl, size_none _, ⟨0, Heap.get?_push_size _ rfl⟩, ?_⟩
  rw [listMul_foldl_if]
  exact (flat_rep hra k.toNat).sub (sub_push _ _)

theorem EvV.bin {μ' : List Slot} (w : WX G X) (k : Wk μ μ') {l r : Expr} {op : Operator} {p : Pos} {a b : Tr} {ds : List PyData} (hl : Ev G X μ' l a) (hr : Ev G X μ' r b) (hb : BinN G op a b ds) (ha : ds.all atm = true) :
    EvV G X μ (.BinOp l op r p) (.n ds) := fun s h0 => by
  have h := k.st h0
  refine wpAny_BinOp (wpAny_mono (hl s h) (fun v s₁ h₁ => wpAny_mono (hr s₁ (h.step w h₁.1)) (fun v' s₂ h₂ => ?_) fun _ _ x => x) fun _ _ x => x)
  have st₁ := h.step w h₁.1
  refine wpAny_mono (hb X.A (hid X μ') s₂ v v' ((st₁.step w h₂.1).room w) (h₁.2.step w h₂.1) h₂.2) (fun v'' s₃ h₃ => ?_) fun _ _ x => x
  obtain ⟨K, c, vs, rfl, hc, hl, hr⟩ := h₃
  exact ⟨(h₁.1.trans h₂.1).trans K, c, vs, rfl, (h₁.1.trans h₂.1).fresh hc, hl, hr.atm ha⟩
theorem EvV.list (w : WX G X) {es : List Expr} {p : Pos} {ds : List PyData} (h : EvL G X μ es (ds.map .d)) (ha : ds.all atm = true) (hn : ds.length ≤ 1000 := by decide) : EvV G X μ (.List es p) (.n ds) := fun s hs => by
  refine wpAny_List (wpAny_mono (h s p hs) (fun vs s₁ h₁ => ⟨EvL.length h₁.2 (by simpa using hn), h₁.1.trans (Step.push h₁.1.1 _ (tk := s₁.toks)), ?_⟩) fun _ _ x => x)
  exact ⟨_, _, rfl, h₁.1.fresh (size_none _), ⟨0, Heap.get?_push_size _ rfl⟩, by simpa using h₁.2.all.atm ha⟩

theorem owns_inj : ∀ {μ : List Slot} (nd : (owns μ).Nodup) {i j : Nat} {a : Addr} {ts ts' : List PyData}, μ[i]? = some (.own a ts) → μ[j]? = some (.own a ts') → i = j
  | [], _, i, j, a, ts, ts', e, _ => by simp at e
  | sl :: r, nd, i, j, a, ts, ts', e1, e2 => by
    have tl : (owns r).Nodup := by cases sl <;> simp only [owns] at nd <;> first | exact nd | exact (List.nodup_cons.mp nd).2
    cases i with
    | zero =>
      cases j with
      | zero => rfl
      | succ j =>
        have h1 : sl = .own a ts := by simpa using e1
        subst h1
        exact absurd (owns_mem (i := j) (ts := ts') (by simpa using e2)) (List.nodup_cons.mp nd).1
    | succ i =>
      cases j with
      | zero =>
        have h1 : sl = .own a ts' := by simpa using e2
        subst h1
        exact absurd (owns_mem (i := i) (ts := ts) (by simpa using e1)) (List.nodup_cons.mp nd).1
      | succ j => exact congrArg Nat.succ (owns_inj tl (by simpa using e1) (by simpa using e2))

/-- an owned list changed in its place -/
theorem St.mut (w : WX G X) {s : Shared} (h : St G X μ s) {i : Nat} {a : Addr} {ts ts' : List PyData} (e : μ[i]? = some (.own a ts)) {h' : Heap} {tk : Nat} {vs' : Array Value} (hs : Heap.SameBut a s.heap h') (hl : h'.PlainList a vs') (hr : AllRd h' (hid X μ) vs'.toList ts') :
    Mv G X μ s (μ.set i (.own a ts')) { s with heap := h', toks := tk } := by
  have hi : i < μ.length := (List.getElem?_eq_some_iff.mp e).1
  have aO := owns_mem e
  have nM := (h.new a aO).2
  obtain ⟨vs0, ⟨n0, e0⟩, _⟩ := h.lists i a ts e
  have aT : a ∉ G.T := fun q => nM (List.mem_append_left _ (w.TM a q))
  have nL : X.env.locals ≠ a := fun q => nM (List.mem_append_left _ (q ▸ w.LM))
  have ncell : ∀ x c, X.env.cells.lookup x = some c → c ≠ a := fun x c q z => by
    obtain ⟨v, o, e1, e2⟩ := h.cells x c q
    rw [z, e0] at e1; cases e1; cases e2
  have hh : ∀ b, b ∈ hid X (μ.set i (.own a ts')) → b ∈ hid X μ := fun b hb => (hid_set hb).elim id fun ⟨_, q⟩ => by cases q; exact List.mem_append_left _ aO
  have S : Sub (hid X μ) (hid X (μ.set i (.own a ts'))) s.heap h' := fun b o n q => ⟨fun z => n (hh b z), (hs.2 b (fun z => n (z ▸ List.mem_append_left _ aO))).trans q⟩
  have S' : Sub (hid X μ) (hid X (μ.set i (.own a ts'))) h' h' := fun b o n q => ⟨fun z => n (hh b z), q⟩
  have gd : Good G { s with heap := h', toks := tk } := Good.but h.good hs (h.new a aO).1 aT fun c o vs q1 q2 q3 => by
    subst q3; rw [e0] at q1; cases q1; cases q2
  refine ⟨?_, fun b o n1 n2 q => (hs.2 b (fun z => n1 (z ▸ aO))).trans q, fun b hb => ?_⟩
  · refine h.upd w gd S (fun j b tb vs hj ej q => ?_) (fun b hb => ?_) (fun x c q => ?_) (fun b tb q => by cases q; exact .inr ⟨ts, e⟩) (fun b tb q => by cases q; exact h.new a aO) (fun b tb q => by cases q; exact ⟨vs', hl, hr.sub S'⟩) (fun m n => ?_)
    · obtain ⟨k, q⟩ := q
      refine ⟨k, (hs.2 b fun z => ?_).trans q⟩
      subst z
      exact hj (owns_inj h.own ej e)
    · have nb : b ≠ a := fun z => nM (z ▸ hb)
      obtain ⟨o, q⟩ := h.dom b (List.mem_append_right _ hb)
      exact ⟨o, (hs.2 b nb).trans q⟩
    · obtain ⟨v, o, q1, q2⟩ := h.cells x c q
      exact ⟨v, o, (hs.2 c (ncell x c q)).trans q1, q2⟩
    · have hold : ∀ {x : Str} {v : Value} {kd : NameKind}, Holds X s.heap m x v kd → Holds X h' m x v kd := fun {x v kd} z => by
        cases kd <;> first | exact z | exact z.elim | (obtain ⟨c, q, o, q1, q2⟩ := z; exact ⟨c, q, o, (hs.2 c (ncell _ c q)).trans q1, q2⟩)
      obtain ⟨o, es, ep, q, r⟩ := n
      refine ⟨m, ⟨o, es, ep, (hs.2 _ nL).trans q, r⟩, fun j x k v _ _ _ z => hold z, fun x k f1 f2 _ z => ?_⟩
      exact hold (z _ e)
  · rcases owns_set b hb with q | ⟨_, q⟩
    · exact .inl q
    · cases q; exact .inl aO

/-- the name of an owned list -/
theorem name_own (w : WX G X) {s : Shared} (h : St G X μ s) {x : Str} {p : Pos} {i : Nat} {kd : NameKind} {a : Addr} {ts : List PyData} (hv : HV X.vars X.kinds x i kd) (hm : μ[i]? = some (.own a ts)) {Qv : Value → Shared → Prop} {E : Value → Shared → Prop} (hq : Qv (.ref a) s) :
    wpAny G.M X.A (eval (.Name x p) X.env) Qv E s :=
  wpAny_Name (load_slot w h hv hm (fun v m n sa ho => by cases ho.fn sa; exact hq) (by intro q; cases q)) (w.dbg i x hv.at.1).1

theorem Ex1.append (w : WX G X) {x : Str} {p apos cpos pos : Pos} {e : Expr} {i : Nat} {kd : NameKind} {a : Addr} {ts : List PyData} {d : PyData} {pl : Sem Bool} (hv : HV X.vars X.kinds x i kd) (hm : μ[i]? = some (.own a ts)) (ha : EvL G X μ [e] [.d d]) (hn : ts.length ≤ 100000)
    (hq : Q (.next (μ.set i (.own a (ts ++ [d]))))) (hi : interactive X.env = false := by rfl) (hs : swapsWith (.Call (.Attribute (.Name x p) "append" apos) [e] [] cpos) none pos.line X.env = pure false := by rfl)
    (he : eval (.Call (.Attribute (.Name x p) "append" apos) [e] [] cpos) X.env = (do
      let ov ← eval (.Name x p) X.env
      standAt apos.atName
      let (f, first) ← holding [ov] (getMethod ov "append" pl)
      callWith cpos f first (backTo cpos (starEach [e] X.env)) []) := by rfl) (hp : noStar [e] = true := by rfl) : Ex1 G X μ (.Expr (.Call (.Attribute (.Name x p) "append" apos) [e] [] cpos) pos) Q := fun s h => by
  refine wpAny_Expr_any (MethodCall_ (name_own w h hv hm ?_) he) hi hs
  obtain ⟨vs, ⟨n, e0⟩, hr⟩ := h.lists i a ts hm
  refine Calls.getMethod_list_append e0 rfl rfl ?_
  refine callWith_builtin (by rw [starEach_plain _ _ _ hp]) (evalArgs_any hp (wpAny_mono (ha s cpos h) (fun vs' s₂ h₂ => ?_) fun _ _ x => x))
  obtain ⟨v, rfl, rv⟩ := one_arg h₂.2
  have st := h.step w h₂.1
  obtain ⟨vs, hl, hr⟩ := st.lists i a ts hm
  have hz : vs.size = ts.length := by rw [← hr.length]; simp
  refine wpAny_list_append_plain hl (fun h' hl' hs' => ⟨_, hq, (Mv.step w h h₂.1).trans (St.mut w st hm hs' hl' ?_)⟩) (by rw [hz]; exact Nat.le_trans hn (by decide))
  have aO := owns_mem hm
  have S : Sub (hid X μ) (hid X μ) s₂.heap h' := fun b o n q => ⟨n, (hs'.2 b (fun z => n (z ▸ List.mem_append_left _ aO))).trans q⟩
  rw [Array.toList_push]
  exact (hr.sub S).append (.cons (Rd.sub S rv) .nil)

theorem Ex1.reverse (w : WX G X) {x : Str} {p apos cpos pos : Pos} {i : Nat} {kd : NameKind} {a : Addr} {ts : List PyData} {pl : Sem Bool} (hv : HV X.vars X.kinds x i kd) (hm : μ[i]? = some (.own a ts)) (hn : ts.length ≤ 100000)
    (hq : Q (.next (μ.set i (.own a ts.reverse)))) (hi : interactive X.env = false := by rfl) (hs : swapsWith (.Call (.Attribute (.Name x p) "reverse" apos) [] [] cpos) none pos.line X.env = pure false := by rfl)
    (he : eval (.Call (.Attribute (.Name x p) "reverse" apos) [] [] cpos) X.env = (do
      let ov ← eval (.Name x p) X.env
      standAt apos.atName
      let (f, first) ← holding [ov] (getMethod ov "reverse" pl)
      callWith cpos f first (backTo cpos (starEach [] X.env)) []) := by rfl) : Ex1 G X μ (.Expr (.Call (.Attribute (.Name x p) "reverse" apos) [] [] cpos) pos) Q := fun s h => by
  refine wpAny_Expr_any (MethodCall_ (name_own w h hv hm ?_) he) hi hs
  obtain ⟨vs, ⟨n, e0⟩, hr⟩ := h.lists i a ts hm
  have hz : vs.size = ts.length := by rw [← hr.length]; simp
  refine getMethod_list_of PySem.F.slot_list_reverse PySem.F.type_list_reverse (Heap.PlainList.isList ⟨n, e0⟩) ⟨_, e0, rfl⟩ ?_
  refine callWith_method0 (call_meets PySem.F.slot_list_reverse ⟨_, e0, rfl⟩ PySem.F.entry_list_reverse (PySem.F.args_list_reverse_1 _) (AutoListH.list_reverse_list_0 a vs n (by rw [hz]; exact Nat.le_trans hn (by decide))) ⟨e0, _, hq, ?_⟩)
  have hl' : (s.heap.update a (Obj.mapSeq fun x => x.reverse)).PlainList a vs.reverse := by
    have := PySem.IsL.update (l := a) (items := vs) e0 (fun x => x.reverse)
    exact ⟨_, this⟩
  refine St.mut w h hm (Heap.SameBut.update ..) hl' ?_
  have aO := owns_mem hm
  have S : Sub (hid X μ) (hid X μ) s.heap (s.heap.update a (Obj.mapSeq fun x => x.reverse)) := fun b o n q => ⟨n, (Heap.get?_update_ne _ _ _ _ (show b ≠ a from fun z => n (z ▸ List.mem_append_left _ aO))).trans q⟩
  rw [Array.toList_reverse]
  exact (hr.sub S).reverse

theorem set_own (w : WX G X) {s : Shared} (h : St G X μ s) {i : Nat} {a : Addr} {ts : List PyData} (hm : μ[i]? = some (.own a ts)) {k : Int} {t : Tok} {v : Value} {d : PyData} (hv : Is s.heap (hid X μ) v (.d d)) (h0 : 0 ≤ k) (h1 : k < ts.length) (hn : ts.length ≤ 100000)
    {Qv : Unit → Shared → Prop} {E : Value → Shared → Prop} (hq : ∀ s', Mv G X μ s (μ.set i (.own a (ts.set k.toNat d))) s' → Qv () s') : wpAny G.M X.A (setItem (.ref a) (.int k t) v) Qv E s := by
  obtain ⟨vs, ⟨n, e0⟩, hr⟩ := h.lists i a ts hm
  have hz : vs.size = ts.length := by rw [← hr.length]; simp
  refine ki_setAt (n := n) e0 h0 (by (first | lia | omega)) (by (first | lia | omega)) (hq _ ?_)
  have hl' : (s.heap.update a (Obj.mapSeq (·.setIfInBounds k.toNat v))).PlainList a (vs.setIfInBounds k.toNat v) := by
    have := PySem.IsL.update (l := a) (items := vs) e0 (fun x => x.setIfInBounds k.toNat v)
    exact ⟨_, this⟩
  refine St.mut w h hm (Heap.SameBut.update ..) hl' ?_
  have aO := owns_mem hm
  have S : Sub (hid X μ) (hid X μ) s.heap (s.heap.update a (Obj.mapSeq (·.setIfInBounds k.toNat v))) := fun b o n q => ⟨n, (Heap.get?_update_ne _ _ _ _ (show b ≠ a from fun z => n (z ▸ List.mem_append_left _ aO))).trans q⟩
  rw [Array.toList_setIfInBounds]
  exact (hr.sub S).set _ (Rd.sub S hv)

theorem Ex1.setItem (w : WX G X) {x : Str} {p spos pos : Pos} {ie e : Expr} {i : Nat} {kd : NameKind} {a : Addr} {ts : List PyData} {k : Int} {d : PyData} (hv : HV X.vars X.kinds x i kd) (hm : μ[i]? = some (.own a ts)) (he : Ev G X μ e (.d d)) (hi : Ev G X μ ie (I k)) (h0 : 0 ≤ k) (h1 : k < ts.length) (hn : ts.length ≤ 100000)
    (hs : swapsWith e (some (.Subscript (.Name x p) ie spos)) pos.line X.env = pure false) (hq : Q (.next (μ.set i (.own a (ts.set k.toNat d))))) : Ex1 G X μ (.Assign [.Subscript (.Name x p) ie spos] e pos) Q := fun s h => by
  refine wpAny_Assign_Subscript (wpAny_mono (he s h) (fun v s₁ h₁ => ?_) fun _ _ x => x) hs
  have st₁ := h.step w h₁.1
  refine name_own w st₁ hv hm (wpAny_mono (hi s₁ st₁) (fun iv s₂ h₂ => ?_) fun _ _ x => x)
  obtain ⟨t, rfl⟩ := h₂.2.int_inv
  have st₂ := st₁.step w h₂.1
  exact set_own w st₂ hm (h₁.2.step w h₂.1) h0 h1 hn fun s' m => ⟨_, hq, (Mv.step w h (h₁.1.trans h₂.1)).trans m⟩
theorem Ex1.augItem (w : WX G X) {x : Str} {p spos pos : Pos} {op : Operator} {ie e : Expr} {i : Nat} {kd : NameKind} {a : Addr} {ts : List PyData} {k : Int} {d0 d1 d : PyData} (hv : HV X.vars X.kinds x i kd) (hm : μ[i]? = some (.own a ts)) (hi : Ev G X μ ie (I k)) (hg : ts[k.toNat]? = some d0) (he : Ev G X μ e (.d d1)) (ho : Inp G op (.d d0) (.d d1) (.d d)) (h0 : 0 ≤ k) (h1 : k < ts.length) (hn : ts.length ≤ 100000)
    (hst : ∀ ov iv new, augStore ie ov iv new = (do holding [new, ov, iv] (PySem.setItem ov iv new); release [new, ov, iv] []; pure .next) := by intros; rfl) (hq : Q (.next (μ.set i (.own a (ts.set k.toNat d))))) : Ex1 G X μ (.AugAssign (.Subscript (.Name x p) ie spos) op e pos) Q := fun s h => by
  refine wpAny_AugAssign_SubscriptAny (name_own w h hv hm (wpAny_mono (hi s h) (fun iv s₂ h₂ => ?_) fun _ _ x => x)) hst
  obtain ⟨t, rfl⟩ := h₂.2.int_inv
  have st₂ := h.step w h₂.1
  obtain ⟨vs, hl, hr⟩ := st₂.lists i a ts hm
  obtain ⟨v0, ev, rv⟩ := hr.get' hg
  refine wpAny_getItem_list hl.isList h0 (by (first | lia | omega)) (by simpa using ev) ?_
  refine wpAny_mono (he s₂ st₂) (fun v1 s₃ h₃ => ?_) fun _ _ x => x
  have st₃ := st₂.step w h₃.1
  refine wpAny_mono (ho X.A (hid X μ) s₃ v0 v1 (st₃.room w) (Is.step (t := .d d0) w h₃.1 rv) h₃.2) (fun r s₄ h₄ => ?_) fun _ _ x => x
  have st₄ := st₃.step w h₄.1
  exact set_own w st₄ hm h₄.2 h0 h1 hn fun s' m => ⟨_, hq, (Mv.step w h ((h₂.1.trans h₃.1).trans h₄.1)).trans m⟩

inductive DL : List Tr → List PyData → Prop
  | nil : DL [] []
  | cons {d : PyData} {ts : List Tr} {ds : List PyData} : DL ts ds → DL (.d d :: ts) (d :: ds)
theorem DL.eq {ts : List Tr} {ds : List PyData} (h : DL ts ds) : ts = ds.map .d := by
  induction h with
  | nil => rfl
  | cons _ ih => rw [ih]; rfl
theorem Ev.tuple' (w : WX G X) {es : List Expr} {k : Nat} {p : Pos} {ts : List Tr} {ds : List PyData} (h : EvL G X μ es ts) (hd : DL ts ds) (hn : Nat.ble ds.length 1000 = true) : Ev G X μ (.Tuple es k p) (TT ds) := Ev.tuple w (hd.eq ▸ h) (Nat.le_of_ble_eq_true hn)
theorem Ev.list' (w : WX G X) {es : List Expr} {p : Pos} {ts : List Tr} {ds : List PyData} (h : EvL G X μ es ts) (hd : DL ts ds) (hn : Nat.ble ds.length 1000 = true) : Ev G X μ (.List es p) (L ds) := Ev.list w (hd.eq ▸ h) (Nat.le_of_ble_eq_true hn)
end

/-! # F15 -/

/-! ## a function defined within a function -/
def unown : NameKind → NameKind
  | .cell => .free
  | k => k
/-- the frame of the outer function behind the definition: its cells stand still -/
@[reducible] def Cx.still (G : Gd) (X : Cx) (kinds : List NameKind) : Cx := { X with kinds := kinds, M := X.env.locals :: G.T }
abbrev Gd.on (G : Gd) (h : Heap) : Gd := { G with hG := h }

theorem Good.down {G : Gd} {h : Heap} {s : Shared} (g : Good (G.on h) s) (k : G.hG.StaysIn h) : Good G s := ⟨fun b o e => g.stays b o (k b o e), g.tab, g.gens, g.os⟩
theorem Gr.up {G : Gd} {h : Heap} (g : Gr G) (k : G.hG.StaysIn h) (ht : ∀ a ∈ G.T, h.get? a = none) : Gr (G.on h) where
  X := g.X.keeps k
  g := g.g.keeps k
  b := g.b.keeps k
  nolimit := g.nolimit.keeps k
  builtins := g.builtins
  code := fun q hq => (g.code q hq).keeps k
  bmain := let ⟨bm, ob, a1, a2, a3, r⟩ := g.bmain; ⟨bm, ob, a1, a2, k _ _ a3, r⟩
  Tno := ht
  tinj := g.tinj

/-- the table behind a definition -/
theorem tab_def {M : Model} {A : Around} {E : Value → Shared → Prop} {G : Gd} {s : Shared} (g : Gr G) (gs : Good G s) {q : Tab} (hq : q ∈ G.tabs) {env : Env} {name qual : Str} {params : Arguments} {body : List Stmt} {scope : Scope} {pos : Pos} {clos : List (Str × Addr)} {Qv : Value → Shared → Prop}
    (hcl : closureFor scope env = pure clos) (hge0 : env.globals = mainGlobals) (hcode : env.code = .ref q.c) (hl : q.line = pos.line) (hc : q.col = pos.col) (hql : qual = q.qual)
    (h : ∀ (fa c' : Addr) ctv doc pm s', Step G s s' → s.heap.get? fa = none → s'.heap.get? fa = some (fnMade name qual params body scope clos doc pm c' ctv) → s'.heap.CodeRec (.ref c') qual → Qv (.ref fa) s') :
    wpAny M A (makeFunction name qual params (.stmts body) scope env [] [] [] pos pos.line) Qv E s := by
  obtain ⟨ps, hP, htab⟩ := gs.tab q hq
  have hgm : s.heap.Ns mainGlobals G.mg := g.g.keeps gs.stays
  have C := (g.code q hq).keeps gs.stays
  obtain ⟨bm, ob, b1, b2, b3, b4, b5, b6⟩ := g.bmain
  have Pno := g.Tno q.P (List.mem_map_of_mem hq)
  have hgP : mainGlobals ≠ q.P := fun z => by
    obtain ⟨o, _, _, e, _⟩ := g.g
    rw [z, Pno] at e; cases e
  have hbP : bm ≠ q.P := fun z => by rw [z, Pno] at b3; cases b3
  have hbG : bm ≠ mainGlobals := fun z => by
    obtain ⟨o, es, ep, e, hd, _⟩ := g.g
    rw [z, e] at b3; cases b3; rw [hd] at b6; cases b6
  have BA : s.heap.BuiltinsAt G.mg q.P := ⟨bm, ob, b1, b2, hbG, hbP, gs.stays _ _ b3, b4, b5, b6⟩
  rcases htab with rfl | ⟨c', rfl, hrec⟩
  · refine makeFunction_K (mg := G.mg) hcl hge0 hgm hcode C hP trivial rfl hgP BA fun c' ctv doc h' tk hx hge hlt hrec htb => ?_
    have up : ∀ b o, b ≠ q.P → s.heap.get? b = some o → (h'.push (fnMade name qual params body scope clos doc ((G.mg "__name__").getD .none) c' ctv)).get? b = some o := fun b o n e => Heap.get?_push_of_some _ (hx b o n e)
    refine h h'.objs.size c' ctv doc _ _ ⟨⟨fun b o e => up b o (fun z => by rw [z, Pno] at e; cases e) (gs.stays b o e), fun r hr => ?_, gs.gens, gs.os⟩, fun b o n e => up b o (fun z => n (z ▸ List.mem_map_of_mem hq)) e⟩ ?_ (Heap.get?_push_size _ rfl) (hrec.push _)
    · obtain ⟨ps, e, z⟩ := gs.tab r hr
      by_cases hrq : r.P = q.P
      · have := g.tinj r hr q hq hrq
        subst this
        refine ⟨_, Heap.get?_push_of_some _ htb, .inr ⟨c', ?_, hql ▸ hrec.push _⟩⟩
        rw [hl, hc, Array.empty_append]
      · refine ⟨ps, up _ _ hrq e, ?_⟩
        rcases z with z | ⟨c2, z, y⟩
        · exact .inl z
        · refine .inr ⟨c2, z, ?_⟩
          obtain ⟨c3, o, vs, t, f1, f2, f3, f4⟩ := y
          refine ⟨c3, o, vs, t, f1, up _ _ (fun w => ?_) f2, f3, f4⟩
          rw [w, hP] at f2; cases f2; cases f3; simp at f4
    · cases e : s.heap.get? h'.objs.size with
      | none => rfl
      | some o => exact absurd (Heap.lt_size e) (Nat.not_lt.mpr (by (first | lia | omega)))
  · have hf : codeAmong pos (#[rawInt q.line, rawInt q.col, Value.ref c'] : Array Value).toList = some (.ref c') := by
      show (if ((q.line : Int) == pos.line && (q.col : Int) == pos.col) = true then some (Value.ref c') else codeAmong pos []) = _
      rw [hl, hc]; simp
    refine makeFunction_hit (mg := G.mg) hcl hge0 hgm hcode C hP trivial hf BA fun ctv doc h' tk hk hsz => ?_
    have K := Step.grow (tk := tk) gs hk
    refine h h'.objs.size c' ctv doc _ _ (K.trans (Step.push K.1 _ (tk := tk))) ?_ (Heap.get?_push_size _ rfl) (hql ▸ (hrec.keeps hk).push _)
    cases e : s.heap.get? h'.objs.size with
    | none => rfl
    | some o => exact absurd (Heap.lt_size e) (Nat.not_lt.mpr (by (first | lia | omega)))

section
variable {G : Gd} {X : Cx} {μ : List Slot}

/-- a definition, and what follows it up to the return -/
theorem Ex.def (w : WX G X) (g : Gr G) {q : Tab} (hq : q ∈ G.tabs) {name : Str} {params : Arguments} {body : List Stmt} {scope : Scope} {pos : Pos} {rest : List Stmt} {i : Nat} {Q : Out → Prop} (kinds : List NameKind)
    (hcode : X.env.code = .ref q.c) (hl : q.line = pos.line) (hc : q.col = pos.col) (hql : qualnameIn X.env name name = q.qual) (hd0 : params.defaults = []) (hk0 : params.kw_defaults = []) (ha : annTrees params none X.env = [])
    (hfree : ∀ x, (x, NameKind.free) ∈ scope.names → (X.env.cells.lookup x).isSome = true) (hv : HV X.vars X.kinds name i .cell) (hi : i < μ.length) (hk : X.kinds.map unown = kinds) (hM : ∀ a ∈ X.M, a = X.env.locals ∨ a ∈ G.T ∨ ∃ x, X.env.cells.lookup x = some a)
    (h : ∀ (fa c' : Addr) ctv doc pm h1, G.hG.StaysIn h1 → (∀ a ∈ G.T, h1.get? a = none) → h1.get? fa = some (fnMade name q.qual params body scope (clo X.env scope.names []) doc pm c' ctv) → h1.CodeRec (.ref c') q.qual →
      (∀ (j : Nat) x sl, X.vars[j]? = some x → X.kinds[j]? = some .cell → (μ.set i (.v (.rf fa)))[j]? = some sl → sl ≠ .no → ∃ v c, X.env.cells.lookup x = some c ∧ h1.IsCell c (some v) ∧ (∀ a ts, sl = .own a ts → v = .ref a) ∧ (∀ a, sl = .v (.rf a) → v = .ref a)) →
      WX (G.on h1) (X.still G kinds) → Ex (G.on h1) (X.still G kinds) (μ.set i (.v (.rf fa))) rest fun o => ∃ ν t, o = .ret ν t ∧ Q (.ret [] t)) :
    Ex G X μ (.FunctionDef name params body [] none [] scope none name pos :: rest) Q := fun s hs => by
  refine wpAny_execs_cons (nestDef_K hd0 hk0 ha (tab_def g hs.good hq (closureFor_eq hfree) w.gl hcode hl hc hql fun fa c' ctv doc pm s2 K hfa0 hfa hrec => ?_))
  refine store_slot w (hs.step w K) (Step.refl K.1) hv hi (.inr rfl) (val := .v (.rf fa)) rfl fun sl s3 e m => ?_
  cases e
  rw [hql] at hfa hrec
  have mm := (Mv.step w hs K).trans m
  have hfaO : fa ∉ owns μ := fun z => by obtain ⟨o, e⟩ := hs.dom fa (List.mem_append_left _ z); rw [hfa0] at e; cases e
  -- the ground behind the definition
  have st3 := m.st
  have gone : ∀ b o, b ≠ X.env.locals → b ∉ owns μ → b ∉ G.T → s3.heap.get? b = some o → (hideAll s3.heap (X.env.locals :: (owns μ ++ G.T))).get? b = some o := fun b o n1 n2 n3 e => hideAll_get _ e fun z => by
    rcases List.mem_cons.mp z with z | z
    · exact n1 z
    · rcases List.mem_append.mp z with z | z
      · exact n2 z
      · exact n3 z
  have hO : ∀ a, a ∈ owns (μ.set i (.v (.rf fa))) → a ∈ owns μ := fun a ha => (owns_set a ha).elim id fun ⟨_, z⟩ => by cases z
  have Lno := w.Lnew
  have stays : G.hG.StaysIn (hideAll s3.heap (X.env.locals :: (owns μ ++ G.T))) := fun b o e => gone b o (fun z => by rw [z, Lno] at e; cases e) (fun z => by rw [(hs.new b z).1] at e; cases e) (fun z => by rw [g.Tno b z] at e; cases e) (st3.good.stays b o e)
  have Tno : ∀ a ∈ G.T, (hideAll s3.heap (X.env.locals :: (owns μ ++ G.T))).get? a = none := fun a ha => hideAll_none _ (.tail _ (List.mem_append_right _ ha))
  have cellOk : ∀ x c, X.env.cells.lookup x = some c → c ≠ X.env.locals ∧ c ∉ owns μ ∧ c ∉ G.T := fun x c e => by
    obtain ⟨v, q⟩ := st3.cells x c e
    obtain ⟨v', o', e', hd'⟩ := hs.cells x c e
    refine ⟨fun z => ?_, fun z => ?_, cell_notT st3.good q⟩
    · obtain ⟨mm, ⟨o, es, ep, e2, hd, _⟩, _⟩ := hs.vars
      rw [z, e2] at e'; cases e'; rw [hd] at hd'; cases hd'
    · obtain ⟨k, ts, z⟩ := mem_owns z
      obtain ⟨vs, ⟨n, z⟩, _⟩ := hs.lists k c ts z
      rw [z] at e'; cases e'; cases hd'
  have cellIn : ∀ x c v, X.env.cells.lookup x = some c → s3.heap.IsCell c v → (hideAll s3.heap (X.env.locals :: (owns μ ++ G.T))).IsCell c v := fun x c v e ⟨o, q, hd⟩ => by
    obtain ⟨n1, n2, n3⟩ := cellOk x c e
    exact ⟨o, gone c o n1 n2 n3 q, hd⟩
  have hfa3 : s3.heap.get? fa = some (fnMade name q.qual params body scope (clo X.env scope.names []) doc pm c' ctv) := by
    refine m.keep fa _ hfaO (fun z => ?_) hfa
    obtain ⟨o, e⟩ := hs.dom fa (List.mem_append_right _ (List.mem_append_left _ z)); rw [hfa0] at e; cases e
  have faN : fa ≠ X.env.locals ∧ fa ∉ G.T := by
    constructor
    · intro z
      obtain ⟨o, e⟩ := hs.dom fa (List.mem_append_right _ (List.mem_append_left _ (z ▸ w.LM))); rw [hfa0] at e; cases e
    · intro z
      obtain ⟨o, e⟩ := hs.dom fa (List.mem_append_right _ (List.mem_append_left _ (w.TM fa z))); rw [hfa0] at e; cases e
  have hrec3 : (hideAll s3.heap (X.env.locals :: (owns μ ++ G.T))).CodeRec (.ref c') q.qual := by
    obtain ⟨c2, o, vs, t, f1, f2, f3, f4⟩ := hrec
    cases f1
    have n1 : c' ≠ X.env.locals := fun z => by
      obtain ⟨mv, ⟨o', es, ep, e2, hd, _⟩, _⟩ := (hs.step w K).vars
      rw [z, e2] at f2; cases f2; rw [hd] at f3; cases f3
    have n2 : c' ∉ owns μ := fun z => by
      obtain ⟨k, ts, z⟩ := mem_owns z
      obtain ⟨vs', ⟨n, z⟩, _⟩ := (hs.step w K).lists k c' ts z
      rw [z] at f2; cases f2; cases f3
    have n3 : c' ∉ G.T := fun z => by
      obtain ⟨r, hr, e⟩ := List.mem_map.mp z
      obtain ⟨ps, e2, e3⟩ := K.1.tab r hr
      rw [e, f2] at e2; cases e2; cases f3
      rcases e3 with rfl | ⟨_, rfl, _⟩
      · simp at f4
      · simp [rawInt] at f4
    have e3 : s3.heap.get? c' = some o := by
      -- the store writes at a cell
      by_cases hM' : c' ∈ X.M
      · rcases hM c' hM' with z | z | ⟨x, z⟩
        · exact absurd z n1
        · exact absurd z n3
        · obtain ⟨v, o', e', hd⟩ := (hs.step w K).cells x c' z
          rw [f2] at e'; cases e'; rw [hd] at f3; cases f3
      · exact m.keep c' o n2 hM' f2
    exact ⟨c', o, vs, t, rfl, gone c' o n1 n2 n3 e3, f3, f4⟩
  have wX : WX (G.on (hideAll s3.heap (X.env.locals :: (owns μ ++ G.T)))) (X.still G kinds) := by
    have kk : ∀ (j : Nat) k, kinds[j]? = some k → ∃ k0, X.kinds[j]? = some k0 ∧ unown k0 = k := fun j k e => by
      rw [← hk, List.getElem?_map] at e
      cases z : X.kinds[j]? with
      | none => rw [z] at e; cases e
      | some k0 => rw [z] at e; exact ⟨k0, rfl, Option.some.inj e⟩
    refine ⟨w.hand, w.depth, w.units, w.fk, w.gl, w.bi, fun j x k h1 h2 => ?_, w.dbg, w.inj, .head _, fun a ha => .tail _ ha, hideAll_none _ (.head _), fun j x c h1 h2 _ => ?_, fun j x c h1 h2 _ => ?_, fun j x k h1 h2 hk' => ?_, w.cinj⟩
    · obtain ⟨k0, e0, rfl⟩ := kk j k h2
      rcases w.kind j x k0 h1 e0 with z | ⟨rfl, z⟩
      · cases k0 <;> first | exact .inl z | exact .inr ⟨rfl, z⟩
      · exact .inr ⟨rfl, z⟩
    · obtain ⟨k0, e0, z⟩ := kk j _ h2
      cases k0 <;> cases z
    · obtain ⟨k0, e0, z⟩ := kk j _ h2
      cases k0 <;> cases z
    · obtain ⟨k0, e0, rfl⟩ := kk j k h2
      exact w.cellOf j x k0 h1 e0 (by cases k0 <;> first | exact .inl rfl | exact .inr rfl | (rcases hk' with z | z <;> cases z))
  have hidS : ∀ b, b ∈ hid (X.still G kinds) (μ.set i (.v (.rf fa))) → b ∈ hid X (μ.set i (.v (.rf fa))) := fun b hb => by
    rcases List.mem_append.mp hb with z | z
    · exact List.mem_append_left _ z
    · rcases List.mem_append.mp z with z | z
      · refine List.mem_append_right _ (List.mem_append_left _ ?_)
        rcases List.mem_cons.mp z with rfl | z
        · exact w.LM
        · exact w.TM b z
      · exact List.mem_append_right _ (List.mem_append_right _ z)
  have stX : St (G.on (hideAll s3.heap (X.env.locals :: (owns μ ++ G.T)))) (X.still G kinds) (μ.set i (.v (.rf fa))) s3 := by
    have S : Sub (hid X (μ.set i (.v (.rf fa)))) (hid (X.still G kinds) (μ.set i (.v (.rf fa)))) s3.heap s3.heap := fun b o n e => ⟨fun z => n (hidS b z), e⟩
    refine ⟨⟨fun b o e => of_hideAll _ e, st3.good.tab, st3.good.gens, st3.good.os⟩, fun a ha => st3.dom a (hidS a ha), st3.own, fun a ha => ⟨hideAll_none _ (.tail _ (List.mem_append_left _ (hO a ha))), fun z => (st3.new a ha).2 ?_⟩, ?_, fun j a ts e => ?_, st3.cells⟩
    · rcases List.mem_append.mp z with z | z
      · refine List.mem_append_left _ ?_
        rcases List.mem_cons.mp z with rfl | z
        · exact w.LM
        · exact w.TM a z
      · exact List.mem_append_right _ z
    · obtain ⟨mv, n, r⟩ := st3.vars
      refine ⟨mv, n, fun j x k sl h1 h2 h3 => ?_⟩
      have h2 : kinds[j]? = some k := h2
      rw [← hk, List.getElem?_map] at h2
      cases z : X.kinds[j]? with
      | none => rw [z] at h2; cases h2
      | some k0 =>
        rw [z] at h2
        have h2 : unown k0 = k := Option.some.inj h2
        subst h2
        have q := r j x k0 sl h1 z h3
        have hh : ∀ {v : Value}, Holds X s3.heap mv x v k0 → Holds (X.still G kinds) s3.heap mv x v (unown k0) := fun {v} y => by cases k0 <;> exact y
        cases sl with
        | no => trivial
        | v t => obtain ⟨v, a, b⟩ := q; exact ⟨v, hh a, b.sub S⟩
        | own a ts => exact hh q
    · obtain ⟨vs, l, r⟩ := st3.lists j a ts e
      exact ⟨vs, l, r.sub S⟩
  refine wpAny_mono (h fa c' ctv doc pm _ stays Tno (gone fa _ faN.1 hfaO faN.2 hfa3) hrec3 (fun j x sl h1 h2 h3 hno => ?_) wX s3 stX) (fun fl s4 e => ?_) fun _ _ x => x
  · obtain ⟨mv, n, r⟩ := st3.vars
    have q := r j x .cell sl h1 h2 h3
    cases sl with
    | no => exact absurd rfl hno
    | v t =>
      obtain ⟨v, ⟨c, e1, e2⟩, b⟩ := q
      exact ⟨v, c, e1, cellIn x c _ e1 e2, (fun a ts z => by cases z), fun a z => by cases z; exact b⟩
    | own a ts =>
      obtain ⟨c, e1, e2⟩ := q
      exact ⟨.ref a, c, e1, cellIn x c _ e1 e2, (fun a ts z => by cases z; rfl), fun a z => by cases z⟩
  · have fin : ∀ {ν : List Slot}, Mv (G.on (hideAll s3.heap (X.env.locals :: (owns μ ++ G.T)))) (X.still G kinds) (μ.set i (.v (.rf fa))) s3 ν s4 → Mv G X μ s [] s4 := fun {ν} mv => by
      refine ⟨⟨mv.st.good.down stays, fun a ha => ?_, List.nodup_nil, (fun a ha => by cases ha), ?_, (fun j a ts e => by simp at e), mv.st.cells⟩, fun b o n1 n2 e => ?_, fun a ha => by cases ha⟩
      · rcases List.mem_append.mp ha with z | z
        · cases z
        · rcases List.mem_append.mp z with z | z
          · by_cases zL : a = X.env.locals
            · exact mv.st.dom a (List.mem_append_right _ (List.mem_append_left _ (zL ▸ .head _)))
            · by_cases zT : a ∈ G.T
              · exact mv.st.dom a (List.mem_append_right _ (List.mem_append_left _ (.tail _ zT)))
              · obtain ⟨o, e⟩ := st3.dom a (List.mem_append_right _ (List.mem_append_left _ z))
                have zO : a ∉ owns μ := fun y => (hs.new a y).2 (List.mem_append_left _ z)
                exact ⟨o, mv.st.good.stays a o (gone a o zL zO zT e)⟩
          · exact mv.st.dom a (List.mem_append_right _ (List.mem_append_right _ z))
      · obtain ⟨m4, n4, _⟩ := mv.st.vars
        exact ⟨m4, n4, fun j x k sl _ _ e => by simp at e⟩
      · exact mv.st.good.stays b o (gone b o (fun z => n2 (z ▸ w.LM)) n1 (fun z => n2 (w.TM b z)) (mm.keep b o n1 n2 e))
    cases fl with
    | next => obtain ⟨ν, ⟨_, t, z, _⟩, _⟩ := e; cases z
    | brk => obtain ⟨ν, ⟨_, t, z, _⟩, _⟩ := e; cases z
    | cont => obtain ⟨ν, ⟨_, t, z, _⟩, _⟩ := e; cases z
    | ret v =>
      obtain ⟨ν, t, ⟨_, t', z, hq⟩, mv, r⟩ := e
      cases z
      exact ⟨[], t, hq, fin mv, r⟩
end

/-! # F16 -/

/-! ## calls of a closure -/
theorem lookup_mem {α : Type} {l : List (Str × α)} {x : Str} {v : α} (nd : (l.map (·.1)).Nodup) (h : (x, v) ∈ l) : l.lookup x = some v := by
  obtain ⟨i, hi, e⟩ := List.getElem_of_mem h
  exact lookup_nodup nd (i := i) (by rw [List.getElem?_eq_getElem hi, e])
theorem lookup_rev {α : Type} {l : List (Str × α)} {x : Str} {v : α} (nd : (l.map (·.1)).Nodup) (h : (x, v) ∈ l) : l.reverse.lookup x = some v :=
  lookup_mem (by rw [List.map_reverse]; exact (List.reverse_perm _).symm.nodup nd) (List.mem_reverse.mpr h)

section
variable {G : Gd}

theorem clo_core (g : Gr G) {f : Addr} {oc : Value} {od : Option Addr} {osl : Array (Option Value)} {fd : FuncData} {body : List Stmt} {vars ps : List Str} {kinds : List NameKind} {d : Nat} {cdv : Value} {scope : Scope} {qual : Str} {clos : List (Str × Addr)} {μ0 : List Slot} {Q : Out → Prop}
    {A : Around} {s : Shared} {D : List Addr} {vs : List Value} {Pv : Value → Shared → Prop}
    (ho : G.hG.get? f = some ⟨oc, od, .func fd, osl⟩) (hsc : fd.scope = scope) (hcdv : fd.code = cdv) (hq : fd.qualname = qual) (hcd : G.hG.CodeRec cdv qual) (hbody : fd.body = .stmts body) (hclo : fd.closure = clos) (hglo : fd.globals = mainGlobals) (hbi : fd.builtins = builtinsNs)
    (hn : okNames scope.names = true) (hv : scope.names.map (·.1) = vars) (hk : scope.names.map (·.2) = kinds) (hnc : scope.names.all (fun p => p.2 != .cell) = true)
    (hbind : bindArgs fd ⟨vs, []⟩ = pure (ps.zip vs)) (hpl : ps.length = vs.length) (hps : vars.take vs.length = ps) (hpk : (kinds.take vs.length).all (fun k => k == .local) = true)
    (hfr : ∀ x, (x, NameKind.free) ∈ scope.names → (clos.lookup x).isSome = true) (hinj : ∀ x y c, clos.lookup x = some c → clos.lookup y = some c → x = y) (hcel : ∀ x c, clos.lookup x = some c → ∃ v, G.hG.IsCell c v)
    (hco : scope.isCoroutine = false) (hgen : scope.isGenerator = false) (hkind : scope.kind = .function)
    (hh : A.handled = none) (hdp : A.depth + (d + 1) ≤ recursionLimit) (hu : A.units + 8 * (d + 1) + 80 ≤ cLine) (gs : Good G s) (hT : ∀ a ∈ G.T, a ∈ D) (hD : ∀ a ∈ D, ∃ o, s.heap.get? a = some o)
    (hon : (owns μ0).Nodup) (how : ∀ a ∈ owns μ0, G.hG.get? a = none ∧ a ∉ D) (hol : ∀ (j : Nat) a ts, μ0[j]? = some (.own a ts) → ∃ ws, s.heap.PlainList a ws ∧ AllRd s.heap (owns μ0 ++ D) ws.toList ts)
    (hsl : ∀ (j : Nat) x k sl, vars[j]? = some x → kinds[j]? = some k → μ0[j]? = some sl →
      sl = .no ∨ (∃ t v, sl = .v t ∧ Is s.heap (owns μ0 ++ D) v t ∧ ((k = .local ∧ (x, v) ∈ ps.zip vs) ∨ (k = .free ∧ ∃ c, clos.lookup x = some c ∧ G.hG.IsCell c (some v)))) ∨ (∃ a ts, sl = .own a ts ∧ k = .free ∧ ∃ c, clos.lookup x = some c ∧ G.hG.IsCell c (some (.ref a))))
    (h : ∀ (A : Around) (L : Addr) (H : List Addr), (∀ H, WX G ((fnCx G vars kinds scope (qual ++ ".<locals>.") cdv clos [] builtinsNs A f L d).at H)) → Ex G ((fnCx G vars kinds scope (qual ++ ".<locals>.") cdv clos [] builtinsNs A f L d).at H) μ0 body Q)
    (post : ∀ (v : Value) (s' : Shared), Good G s' → (∀ b o, b ∉ G.T → b ∉ owns μ0 → s.heap.get? b = some o → s'.heap.get? b = some o) →
      ((∃ ν t, Q (.ret ν t) ∧ Is s'.heap D v t ∧ ∀ (i : Nat) a ts, μ0[i]? = some (.own a ts) → ∀ ts', ν[i]? = some (.own a ts') → ∃ ws, s'.heap.PlainList a ws ∧ AllRd s'.heap (owns ν ++ D) ws.toList ts') ∨
       (∃ ν, v = .none ∧ Q (.next ν) ∧ ∀ (i : Nat) a ts, μ0[i]? = some (.own a ts) → ∀ ts', ν[i]? = some (.own a ts') → ∃ ws, s'.heap.PlainList a ws ∧ AllRd s'.heap (owns ν ++ D) ws.toList ts')) → Pv v s') 
    (noq : ∀ ν, ¬ Q (.brk ν) ∧ ¬ Q (.cont ν)) :
    wpAny G.M A (PySem.call (.ref f) vs) Pv (fun _ _ => False) s := by
  subst hsc hcdv hq hclo hv hk
  have hn' := hn
  unfold okNames at hn'
  rw [Bool.and_eq_true] at hn'
  have nd := of_decide_eq_true hn'.1
  have hbn : ((ps.zip vs).map (·.1)) = ps := bind_names (by (first | lia | omega))
  have ndp : ((ps.zip vs).map (·.1)).Nodup := by rw [hbn, ← hps]; exact nd.sublist (List.take_sublist _ _)
  have pair : ∀ (i : Nat) y k, (fd.scope.names.map (·.1))[i]? = some y → (fd.scope.names.map (·.2))[i]? = some k → fd.scope.names[i]? = some (y, k) := fun i y k h1 h2 => by
    rw [List.getElem?_map] at h1 h2
    cases e : fd.scope.names[i]? with
    | none => rw [e] at h1; cases h1
    | some p => rw [e] at h1 h2; cases h1; cases h2; rfl
  refine wpAny_call (codeAny_mono (R := fun r s' => match r with | .ok (.ret v) => Pv v s' | .ok _ => False | .error e => False) ?_ fun r s' h => by cases r with | ok f => cases f <;> exact h | error e => exact h)
  refine codeAny_call_def (fd := fd) (body := body) (binds := ps.zip vs) (by (first | lia | omega)) (gs.stays _ _ ho) rfl (g.nolimit.keeps gs.stays) (hcd.keeps gs.stays) hbody (BindsTo.of_eq hbind) (fun x hx => ?_) (fun x hx => ?_) (fun h0 ns keep => ?_) hco hgen hkind
  · have := List.all_eq_true.mp hnc x hx; simpa using this
  · obtain ⟨i, hi, e⟩ := List.getElem_of_mem hx
    rw [List.getElem_zip] at e
    have hi' : i < ps.length ∧ i < vs.length := by rw [List.length_zip] at hi; (first | lia | omega)
    have e1 : (fd.scope.names.map (·.1))[i]? = some x.1 := by
      have q : ((fd.scope.names.map (·.1)).take vs.length)[i]? = some x.1 := by rw [hps, List.getElem?_eq_getElem hi'.1, ← e]
      rw [List.getElem?_take] at q; simpa [hi'.2] using q
    have hlen : i < fd.scope.names.length := by simpa using (List.getElem?_eq_some_iff.mp e1).1
    have e2 : (fd.scope.names.map (·.2))[i]? = some (fd.scope.names[i]).2 := by rw [List.getElem?_map, List.getElem?_eq_getElem hlen]; rfl
    have hkk : (fd.scope.names[i]).2 = .local := by
      have hm : (fd.scope.names[i]).2 ∈ (fd.scope.names.map (·.2)).take vs.length := List.mem_of_getElem? (i := i) (by rw [List.getElem?_take]; simpa [hi'.2] using e2)
      have := List.all_eq_true.mp hpk _ hm
      simpa using this
    exact lookup_nodup nd (pair i _ _ e1 (hkk ▸ e2))
  · have hce : callEnv fd s.heap.objs.size f = newEnv fd.scope s.heap.objs.size mainGlobals fd.closure (fd.qualname ++ ".<locals>.") (some f) fd.code none builtinsNs := by
      unfold callEnv; rw [hglo, hbi]
    rw [hce]
    have K : Step G s { s with heap := h0, toks := s.toks + (ps.zip vs).length } := Step.grow gs keep
    have Lnew : s.heap.get? s.heap.objs.size = none := size_none _
    have W := fun H => WX.fn (G := G) (qual := fd.qualname ++ ".<locals>.") (code := fd.code) (cells := fd.closure) (cm := []) (A := A) (f := f) (L := s.heap.objs.size) (d := d) hn rfl rfl hkind hh hdp hu
      (fun a ha => by
        rcases ha with rfl | ha
        · exact St.newG gs Lnew
        · cases ha)
      (fun i x c e _ => by have := List.all_eq_true.mp hnc _ (List.mem_of_getElem? e); simp at this)
      (fun i x k e hk' => by
        rcases hk' with rfl | rfl
        · have := List.all_eq_true.mp hnc _ (List.mem_of_getElem? e); simp at this
        · exact hfr x (List.mem_of_getElem? e)) hinj H
    have hOD : ∀ b, b ∈ owns μ0 ++ ((s.heap.objs.size :: ([] ++ G.T)) ++ D) → b = s.heap.objs.size ∨ b ∈ owns μ0 ++ D := fun b hb => by
      rcases List.mem_append.mp hb with q | q
      · exact .inr (List.mem_append_left _ q)
      · rcases List.mem_append.mp q with q | q
        · rcases List.mem_cons.mp q with q | q
          · exact .inl q
          · exact .inr (List.mem_append_right _ (hT b q))
        · exact .inr (List.mem_append_right _ q)
    have S : Sub (owns μ0 ++ D) (hid ((fnCx G (fd.scope.names.map (·.1)) (fd.scope.names.map (·.2)) fd.scope (fd.qualname ++ ".<locals>.") fd.code fd.closure [] builtinsNs A f s.heap.objs.size d).at D) μ0) s.heap h0 := fun b o n e => by
      refine ⟨fun q => ?_, keep b o e⟩
      rcases hOD b q with q | q
      · rw [q, Lnew] at e; cases e
      · exact n q
    have st : St G ((fnCx G (fd.scope.names.map (·.1)) (fd.scope.names.map (·.2)) fd.scope (fd.qualname ++ ".<locals>.") fd.code fd.closure [] builtinsNs A f s.heap.objs.size d).at D) μ0 { s with heap := h0, toks := s.toks + (ps.zip vs).length } := by
      refine ⟨K.1, fun a ha => ?_, hon, fun a ha => ⟨(how a ha).1, fun q => ?_⟩, ⟨_, ns, fun j x k sl e1 e2 e3 => ?_⟩, fun j a ts e => ?_, fun x c e => ?_⟩
      · rcases hOD a ha with q | q
        · obtain ⟨o, _, _, e, _⟩ := ns; exact ⟨o, q ▸ e⟩
        · rcases List.mem_append.mp q with q | q
          · obtain ⟨j, ts, e⟩ := mem_owns q
            obtain ⟨ws, ⟨n, e⟩, _⟩ := hol j a ts e
            exact ⟨_, keep _ _ e⟩
          · obtain ⟨o, e⟩ := hD a q; exact ⟨o, keep a o e⟩
      · rcases List.mem_append.mp q with q | q
        · rcases List.mem_cons.mp q with q | q
          · obtain ⟨j, ts, e⟩ := mem_owns ha
            obtain ⟨ws, ⟨n, e⟩, _⟩ := hol j a ts e
            rw [q, Lnew] at e; cases e
          · exact (how a ha).2 (hT a q)
        · exact (how a ha).2 q
      · rcases hsl j x k sl e1 e2 e3 with rfl | ⟨t, v, rfl, r, q⟩ | ⟨a, ts, rfl, rfl, c, z1, z2⟩
        · trivial
        · refine ⟨v, ?_, r.sub S⟩
          rcases q with ⟨rfl, q⟩ | ⟨rfl, c, z1, z2⟩
          · exact lookup_rev ndp q
          · exact ⟨c, z1, z2.keeps fun b o e => keep b o (gs.stays b o e)⟩
        · exact ⟨c, z1, z2.keeps fun b o e => keep b o (gs.stays b o e)⟩
      · obtain ⟨ws, ⟨n, e⟩, r⟩ := hol j a ts e
        exact ⟨ws, ⟨n, keep _ _ e⟩, r.sub S⟩
      · obtain ⟨v, z⟩ := hcel x c e
        exact ⟨v, z.keeps fun b o e => keep b o (gs.stays b o e)⟩
    refine wpAny_mono (h A s.heap.objs.size D W _ st) (fun fl s' e => ?_) fun _ _ x => x.elim
    have fin : ∀ ν, Mv G ((fnCx G (fd.scope.names.map (·.1)) (fd.scope.names.map (·.2)) fd.scope (fd.qualname ++ ".<locals>.") fd.code fd.closure [] builtinsNs A f s.heap.objs.size d).at D) μ0 { s with heap := h0, toks := s.toks + (ps.zip vs).length } ν s' →
        Good G s' ∧ (∀ b o, b ∉ G.T → b ∉ owns μ0 → s.heap.get? b = some o → s'.heap.get? b = some o) ∧ (∀ (i : Nat) a ts, μ0[i]? = some (.own a ts) → ∀ ts', ν[i]? = some (.own a ts') → ∃ ws, s'.heap.PlainList a ws ∧ AllRd s'.heap (owns ν ++ D) ws.toList ts') := fun ν m => by
      refine ⟨m.st.good, fun b o n1 n2 e => m.keep b o n2 (fun q => ?_) (keep b o e), fun i a ts e ts' e' => ?_⟩
      · rcases List.mem_cons.mp q with q | q
        · rw [q, Lnew] at e; cases e
        · exact n1 q
      · obtain ⟨ws, l, r⟩ := m.st.lists i a ts' e'
        refine ⟨ws, l, r.sub fun b o n e => ⟨fun q => n ?_, e⟩⟩
        rcases List.mem_append.mp q with q | q
        · exact List.mem_append_left _ q
        · exact List.mem_append_right _ (List.mem_append_right _ q)
    cases fl with
    | next => obtain ⟨ν, q, m⟩ := e; obtain ⟨f1, f2, f3⟩ := fin ν m; exact post _ s' f1 f2 (.inr ⟨ν, rfl, q, f3⟩)
    | brk => obtain ⟨ν, q, m⟩ := e; exact ((noq ν).1 q).elim
    | cont => obtain ⟨ν, q, m⟩ := e; exact ((noq ν).2 q).elim
    | ret v => obtain ⟨ν, t, q, m, r⟩ := e; obtain ⟨f1, f2, f3⟩ := fin ν m; exact post v s' f1 f2 (.inl ⟨ν, t, q, r, f3⟩)

/-- a call of a closure that reads its free names only -/
def SpecC (G : Gd) (d : Nat) (f : Addr) (fr : List (Value × Tr)) (args : List Tr) (r : Tr) : Prop :=
  ∀ (A : Around) (s : Shared) (D : List Addr) (vs : List Value), A.handled = none → A.depth + d ≤ recursionLimit → A.units + 8 * d + 80 ≤ cLine → Good G s → (∀ a ∈ G.T, a ∈ D) → (∀ a ∈ D, ∃ o, s.heap.get? a = some o) →
    (∀ p ∈ fr, Is s.heap D p.1 p.2) → AllIs s.heap D vs args → wpAny G.M A (PySem.call (.ref f) vs) (fun v s' => Step G s s' ∧ Is s'.heap D v r) (fun _ _ => False) s
/-- a call of a closure that writes to one list -/
def SpecI (G : Gd) (d : Nat) (f : Addr) (fr : List (Value × Tr)) (a : Addr) (args : List Tr) (ts ts' : List PyData) : Prop :=
  ∀ (A : Around) (s : Shared) (D : List Addr) (vs : List Value) (ws : Array Value), A.handled = none → A.depth + d ≤ recursionLimit → A.units + 8 * d + 80 ≤ cLine → Good G s → (∀ a ∈ G.T, a ∈ D) → (∀ a ∈ D, ∃ o, s.heap.get? a = some o) →
    G.hG.get? a = none → a ∉ D → s.heap.PlainList a ws → AllRd s.heap (a :: D) ws.toList ts → (∀ p ∈ fr, Is s.heap (a :: D) p.1 p.2) → AllIs s.heap (a :: D) vs args →
    wpAny G.M A (PySem.call (.ref f) vs) (fun v s' => v = .none ∧ Good G s' ∧ (∀ b o, b ∉ G.T → b ≠ a → s.heap.get? b = some o → s'.heap.get? b = some o) ∧ ∃ ws', s'.heap.PlainList a ws' ∧ AllRd s'.heap (a :: D) ws'.toList ts') (fun _ _ => False) s

theorem SpecC.mono {d d' : Nat} {f : Addr} {fr : List (Value × Tr)} {args : List Tr} {r : Tr} (h : SpecC G d f fr args r) (hd : d ≤ d') : SpecC G d' f fr args r := fun A s D vs h1 h2 h3 => h A s D vs h1 (by (first | lia | omega)) (by (first | lia | omega))
theorem SpecI.mono {d d' : Nat} {f : Addr} {fr : List (Value × Tr)} {a : Addr} {args : List Tr} {ts ts' : List PyData} (h : SpecI G d f fr a args ts ts') (hd : d ≤ d') : SpecI G d' f fr a args ts ts' := fun A s D vs ws h1 h2 h3 => h A s D vs ws h1 (by (first | lia | omega)) (by (first | lia | omega))
variable {X : Cx} {μ : List Slot} {Q : Out → Prop}
/-- the values that a frame's free names hold -/
def Frl (G : Gd) (X : Cx) (μ : List Slot) (fr : List (Value × Tr)) : Prop := ∀ p ∈ fr, ∃ (j : Nat) (y : Str) (c : Addr), HV X.vars X.kinds y j .free ∧ μ[j]? = some (.v p.2) ∧ X.env.cells.lookup y = some c ∧ G.hG.IsCell c (some p.1)
theorem Frl.at {fr : List (Value × Tr)} (h : Frl G X μ fr) {s : Shared} (st : St G X μ s) : ∀ p ∈ fr, Is s.heap (hid X μ) p.1 p.2 := fun p hp => by
  obtain ⟨j, y, c, hv, hm, e1, o, e2, e3⟩ := h p hp
  obtain ⟨m, n, r⟩ := st.vars
  obtain ⟨v, ⟨c', f1, o', f2, f3⟩, q⟩ := r j y .free _ hv.at.1 hv.at.2 hm
  rw [e1] at f1; cases f1
  rw [st.good.stays _ _ e2] at f2; cases f2
  rw [e3] at f3; cases f3
  exact q

theorem callc_any (w : WX G X) {f : Str} {p pos : Pos} {args : List Expr} {i : Nat} {k : NameKind} {fa : Addr} {ts : List Tr} {Qv : Value → Shared → Prop} (hv : HV X.vars X.kinds f i k) (hm : μ[i]? = some (.v (.rf fa))) (hfn : FnAt fa G.hG) (ha : EvL G X μ args ts) {s : Shared} (h : St G X μ s)
    (hs : ∀ s₁ vs, Step G s s₁ → AllIs s₁.heap (hid X μ) vs ts → wpAny G.M X.A (PySem.call (.ref fa) vs) Qv (fun _ _ => False) s₁) (hp : noStar args = true := by rfl) :
    wpAny G.M X.A (eval (.Call (.Name f p) args [] pos) X.env) Qv (fun _ _ => False) s := by
  refine Call_Name rfl (wpAny_Name (load_slot w h hv hm (fun v m n sa ho => ?_) (by intro q; cases q)) (w.dbg i f hv.at.1).1)
  obtain ⟨v', q1, q2⟩ := sa
  cases ho.fn q1
  have q2 : v = .ref fa := q2
  subst q2
  refine callWith_of (P := fun hp => FnAt fa hp) (by rw [starEach_plain _ _ _ hp]; rfl) (fun hp q => keeps_F hp q) ?_
  refine evalArgs_any hp (wpAny_mono (ha s pos h) (fun vs s₁ h₁ => ?_) fun _ _ x => x)
  obtain ⟨oc, od, fd, sl, e⟩ := hfn
  exact ⟨⟨oc, od, fd, sl, h₁.1.1.stays _ _ e⟩, hs s₁ vs h₁.1 h₁.2⟩
theorem Ev.callc (w : WX G X) {f : Str} {p pos : Pos} {args : List Expr} {i : Nat} {k : NameKind} {fa : Addr} {ts : List Tr} {r : Tr} {fr : List (Value × Tr)} (hv : HV X.vars X.kinds f i k) (hm : μ[i]? = some (.v (.rf fa))) (hfn : FnAt fa G.hG) (ha : EvL G X μ args ts) (hfr : Frl G X μ fr)
    (hs : SpecC G X.d fa fr ts r) (hp : noStar args = true := by rfl) : Ev G X μ (.Call (.Name f p) args [] pos) r := fun s h => by
  refine callc_any w hv hm hfn ha h (fun s₁ vs K r => ?_) hp
  have st := h.step w K
  exact wpAny_mono (hs X.A s₁ (hid X μ) vs w.hand w.depth w.units K.1 w.TH st.dom (hfr.at st) r) (fun v s₂ h₂ => ⟨K.trans h₂.1, h₂.2⟩) fun _ _ x => x

theorem St.mut2 (w : WX G X) {s s' : Shared} (h : St G X μ s) {i : Nat} {a : Addr} {ts ts' : List PyData} (e : μ[i]? = some (.own a ts)) (gd : Good G s') (hk : ∀ b o, b ∉ G.T → b ≠ a → s.heap.get? b = some o → s'.heap.get? b = some o) {vs' : Array Value} (hl : s'.heap.PlainList a vs') (hr : AllRd s'.heap (hid X μ) vs'.toList ts') :
    Mv G X μ s (μ.set i (.own a ts')) s' := by
  have hi : i < μ.length := (List.getElem?_eq_some_iff.mp e).1
  have aO := owns_mem e
  have nM := (h.new a aO).2
  obtain ⟨vs0, ⟨n0, e0⟩, _⟩ := h.lists i a ts e
  have nL : X.env.locals ≠ a := fun q => nM (List.mem_append_left _ (q ▸ w.LM))
  have ncell : ∀ x c, X.env.cells.lookup x = some c → c ≠ a ∧ c ∉ G.T := fun x c q => by
    obtain ⟨v, z⟩ := h.cells x c q
    refine ⟨fun z' => ?_, cell_notT h.good z⟩
    obtain ⟨o, e1, e2⟩ := z
    rw [z', e0] at e1; cases e1; cases e2
  have hh : ∀ b, b ∈ hid X (μ.set i (.own a ts')) → b ∈ hid X μ := fun b hb => (hid_set hb).elim id fun ⟨_, q⟩ => by cases q; exact List.mem_append_left _ aO
  have S : Sub (hid X μ) (hid X (μ.set i (.own a ts'))) s.heap s'.heap := fun b o n q => ⟨fun z => n (hh b z), hk b o (fun z => n (w.TH b z)) (fun z => n (z ▸ List.mem_append_left _ aO)) q⟩
  have S' : Sub (hid X μ) (hid X (μ.set i (.own a ts'))) s'.heap s'.heap := fun b o n q => ⟨fun z => n (hh b z), q⟩
  refine ⟨?_, fun b o n1 n2 q => hk b o (fun z => n2 (w.TM b z)) (fun z => n1 (z ▸ aO)) q, fun b hb => ?_⟩
  · refine h.upd w gd S (fun j b tb vs hj ej q => ?_) (fun b hb => ?_) (fun x c q => ?_) (fun b tb q => by cases q; exact .inr ⟨ts, e⟩) (fun b tb q => by cases q; exact h.new a aO) (fun b tb q => by cases q; exact ⟨vs', hl, hr.sub S'⟩) (fun m n => ?_)
    · obtain ⟨k, q⟩ := q
      refine ⟨k, hk b _ (fun z => ?_) (fun z => ?_) q⟩
      · exact (h.new b (owns_mem ej)).2 (List.mem_append_left _ (w.TM b z))
      · subst z; exact hj (owns_inj h.own ej e)
    · by_cases zT : b ∈ G.T
      · obtain ⟨t, ht, rfl⟩ := List.mem_map.mp zT
        obtain ⟨ps, e1, _⟩ := gd.tab t ht
        exact ⟨_, e1⟩
      · have nb : b ≠ a := fun z => nM (z ▸ hb)
        obtain ⟨o, q⟩ := h.dom b (List.mem_append_right _ hb)
        exact ⟨o, hk b o zT nb q⟩
    · obtain ⟨v, o, q1, q2⟩ := h.cells x c q
      exact ⟨v, o, hk c o (ncell x c q).2 (ncell x c q).1 q1, q2⟩
    · have hold : ∀ {x : Str} {v : Value} {kd : NameKind}, Holds X s.heap m x v kd → Holds X s'.heap m x v kd := fun {x v kd} z => by
        cases kd <;> first | exact z | exact z.elim | (obtain ⟨c, q, o, q1, q2⟩ := z; exact ⟨c, q, o, hk c o (ncell _ c q).2 (ncell _ c q).1 q1, q2⟩)
      have nT := L_notT h.good n
      obtain ⟨o, es, ep, q, r⟩ := n
      refine ⟨m, ⟨o, es, ep, hk _ o nT nL q, r⟩, fun j x k v _ _ _ z => hold z, fun x k f1 f2 _ z => ?_⟩
      exact hold (z _ e)
  · rcases owns_set b hb with q | ⟨_, q⟩
    · exact .inl q
    · cases q; exact .inl aO

theorem Ex1.calli (w : WX G X) {f : Str} {p pos epos : Pos} {args : List Expr} {i : Nat} {k : NameKind} {fa : Addr} {targs : List Tr} {fr : List (Value × Tr)} {j : Nat} {a : Addr} {ts ts' : List PyData} (hv : HV X.vars X.kinds f i k) (hm : μ[i]? = some (.v (.rf fa))) (hfn : FnAt fa G.hG) (ha : EvL G X μ args targs) (hfr : Frl G X μ fr)
    (hj : μ[j]? = some (.own a ts)) (ho : owns μ = [a]) (hs : SpecI G X.d fa fr a targs ts ts') (hq : Q (.next (μ.set j (.own a ts')))) (hi : interactive X.env = false := by rfl) (hsw : swapsWith (.Call (.Name f p) args [] pos) none epos.line X.env = pure false := by rfl) (hp : noStar args = true := by rfl) :
    Ex1 G X μ (.Expr (.Call (.Name f p) args [] pos) epos) Q := fun s h => by
  refine wpAny_Expr_any (callc_any w hv hm hfn ha h (fun s₁ vs K r => ?_) hp) hi hsw
  have st := h.step w K
  obtain ⟨ws, hl, hr⟩ := st.lists j a ts hj
  have hhid : hid X μ = a :: (X.M ++ X.H) := by unfold hid; rw [ho]; rfl
  have aO := owns_mem hj
  rw [hhid] at hr r
  refine wpAny_mono (hs X.A s₁ (X.M ++ X.H) vs ws w.hand w.depth w.units K.1 (fun b hb => List.mem_append_left _ (w.TM b hb)) (fun b hb => st.dom b (List.mem_append_right _ hb)) (h.new a aO).1 (h.new a aO).2 hl hr (hhid ▸ hfr.at st) r) (fun v s₂ h₂ => ?_) fun _ _ x => x
  obtain ⟨_, g2, k2, ws', l2, r2⟩ := h₂
  exact ⟨_, hq, (Mv.step w h K).trans (St.mut2 w st hj g2 k2 l2 (hhid ▸ r2))⟩

theorem clo_hfr {env : Env} {N : List (Str × NameKind)} (h : ∀ x, (x, NameKind.free) ∈ N → (env.cells.lookup x).isSome = true) : ∀ x, (x, NameKind.free) ∈ N → ((clo env N []).lookup x).isSome = true := fun x hx => by
  rw [clo_get N [] h (.inl hx)]; exact h x hx
theorem clo_hinj {env : Env} {N : List (Str × NameKind)} (h : ∀ x, (x, NameKind.free) ∈ N → (env.cells.lookup x).isSome = true) (hi : ∀ x y c, env.cells.lookup x = some c → env.cells.lookup y = some c → x = y) :
    ∀ x y c, (clo env N []).lookup x = some c → (clo env N []).lookup y = some c → x = y := fun x y c e1 e2 =>
  hi x y c (clo_in N N [] h (fun _ h => h) (fun _ _ q => by cases q) x c e1).1 (clo_in N N [] h (fun _ h => h) (fun _ _ q => by cases q) y c e2).1
theorem clo_hcel {env : Env} {N : List (Str × NameKind)} {H : Heap} (h : ∀ x, (x, NameKind.free) ∈ N → ∃ c v, env.cells.lookup x = some c ∧ H.IsCell c v) : ∀ x c, (clo env N []).lookup x = some c → ∃ v, H.IsCell c v := fun x c e => by
  have hs : ∀ x, (x, NameKind.free) ∈ N → (env.cells.lookup x).isSome = true := fun x hx => by obtain ⟨c, v, q, _⟩ := h x hx; rw [q]; rfl
  obtain ⟨q1, q2⟩ := clo_in N N [] hs (fun _ h => h) (fun _ _ q => by cases q) x c e
  obtain ⟨c', v, q3, q4⟩ := h x q2
  rw [q1] at q3; cases q3
  exact ⟨v, q4⟩
theorem clo_look {env : Env} {N : List (Str × NameKind)} (h : ∀ x, (x, NameKind.free) ∈ N → (env.cells.lookup x).isSome = true) {x : Str} {c : Addr} (hx : (x, NameKind.free) ∈ N) (e : env.cells.lookup x = some c) : (clo env N []).lookup x = some c := by
  rw [clo_get N [] h (.inl hx)]; exact e
theorem Tru.list (xs : List PyData) (hn : xs.length ≤ 100000) : Tru G (L xs) (xs.length != 0) := fun A D s va R ra => by
  obtain ⟨a, items, rfl, _, hl, hr⟩ := Rd.list_inv ra
  have hz : items.size = xs.length := by rw [← hr.length]; simp
  refine wpAny_truthy_list hl.isList (by rw [hz]; (first | lia | omega)) ⟨Step.tok R.good _, ?_⟩
  show (!(decide (items.size = 0))) = _
  rw [hz]; rfl
end
/-! ## told along a list -/
def Fits3 (P : Str → NameKind → Slot → Prop) : List Str → List NameKind → List Slot → Prop
  | x :: vs, k :: ks, s :: μ => P x k s ∧ Fits3 P vs ks μ
  | _, _, _ => True
theorem Fits3.at {P : Str → NameKind → Slot → Prop} : ∀ {vs : List Str} {ks : List NameKind} {μ : List Slot}, Fits3 P vs ks μ → ∀ (j : Nat) (x : Str) (k : NameKind) (s : Slot), vs[j]? = some x → ks[j]? = some k → μ[j]? = some s → P x k s
  | [], _, _, _, _, _, _, _, e, _, _ => nomatch e
  | _ :: _, [], _, _, _, _, _, _, _, e, _ => nomatch e
  | _ :: _, _ :: _, [], _, _, _, _, _, _, _, e => nomatch e
  | _ :: _, _ :: _, _ :: _, h, 0, _, _, _, e1, e2, e3 => by
    rw [List.getElem?_cons_zero] at e1 e2 e3
    rw [← Option.some.inj e1, ← Option.some.inj e2, ← Option.some.inj e3]; exact h.1
  | _ :: _, _ :: _, _ :: _, h, j + 1, _, _, _, e1, e2, e3 => by
    rw [List.getElem?_cons_succ] at e1 e2 e3
    exact Fits3.at h.2 j _ _ _ e1 e2 e3
def FreeAll (P : Str → Prop) : List (Str × NameKind) → Prop
  | [] => True
  | (x, .free) :: r => P x ∧ FreeAll P r
  | _ :: r => FreeAll P r
theorem FreeAll.mem {P : Str → Prop} : ∀ {l : List (Str × NameKind)}, FreeAll P l → ∀ x, (x, NameKind.free) ∈ l → P x
  | [], _, _, m => nomatch m
  | (y, k) :: r, h, x, m => by
    rcases List.mem_cons.mp m with e | m'
    · cases e; exact h.1
    · clear m
      cases k <;> first | exact FreeAll.mem (l := r) h.2 x m' | exact FreeAll.mem (l := r) h x m'
def OwnAll (P : Addr → List PyData → Prop) : List Slot → Prop
  | [] => True
  | .own a ts :: r => P a ts ∧ OwnAll P r
  | _ :: r => OwnAll P r
theorem OwnAll.at {P : Addr → List PyData → Prop} : ∀ {l : List Slot}, OwnAll P l → ∀ (j : Nat) (a : Addr) (ts : List PyData), l[j]? = some (.own a ts) → P a ts
  | [], _, _, _, _, e => nomatch e
  | s :: r, h, 0, a, ts, e => by
    rw [List.getElem?_cons_zero] at e
    rw [Option.some.inj e] at h; exact h.1
  | s :: r, h, j + 1, a, ts, e => by
    rw [List.getElem?_cons_succ] at e
    cases s <;> first | exact OwnAll.at (l := r) h.2 j a ts e | exact OwnAll.at (l := r) h j a ts e
theorem three_args {h : Heap} {D : List Addr} {vs : List Value} {a b c : Tr} (r : AllIs h D vs [a, b, c]) : ∃ v1 v2 v3, vs = [v1, v2, v3] ∧ Is h D v1 a ∧ Is h D v2 b ∧ Is h D v3 c := by
  cases r with | cons a b => cases b with | cons b c => cases c with | cons c d => cases d; exact ⟨_, _, _, rfl, a, b, c⟩

/-! # M1 -/
theorem arg0 {P : List PySem.Value → Prop} (h : P []) (vals : List PySem.Value) (e : vals.length = 0) : P vals := (List.length_eq_zero_iff.mp e) ▸ h
theorem argS {n : Nat} {P : List PySem.Value → Prop} (h : ∀ a (l : List PySem.Value), l.length = n → P (a :: l)) (vals : List PySem.Value) (e : vals.length = n + 1) : P vals := by
  cases vals with
  | nil => cases e
  | cons a l => exact h a l (Nat.succ.inj e)
theorem arg1 {P : List PySem.Value → Prop} (h : ∀ a, P [a]) : ∀ vals : List PySem.Value, vals.length = 1 → P vals := argS fun a => arg0 (P := fun l => P (a :: l)) (h a)
theorem arg2 {P : List PySem.Value → Prop} (h : ∀ a b, P [a, b]) : ∀ vals : List PySem.Value, vals.length = 2 → P vals := argS fun a => arg1 (P := fun l => P (a :: l)) (h a)
theorem arg3 {P : List PySem.Value → Prop} (h : ∀ a b c, P [a, b, c]) : ∀ vals : List PySem.Value, vals.length = 3 → P vals := argS fun a => arg2 (P := fun l => P (a :: l)) (h a)
theorem arg4 {P : List PySem.Value → Prop} (h : ∀ a b c d, P [a, b, c, d]) : ∀ vals : List PySem.Value, vals.length = 4 → P vals := argS fun a => arg3 (P := fun l => P (a :: l)) (h a)
theorem arg5 {P : List PySem.Value → Prop} (h : ∀ a b c d e, P [a, b, c, d, e]) : ∀ vals : List PySem.Value, vals.length = 5 → P vals := argS fun a => arg4 (P := fun l => P (a :: l)) (h a)
theorem arg6 {P : List PySem.Value → Prop} (h : ∀ a b c d e f, P [a, b, c, d, e, f]) : ∀ vals : List PySem.Value, vals.length = 6 → P vals := argS fun a => arg5 (P := fun l => P (a :: l)) (h a)

theorem and_mask (x : Int) (h : Nat) (hx : 0 ≤ x) : Builtin.bitAnd x (2 ^ h - 1) = x % 2 ^ h := by
  have h2 : (0 : Int) ≤ 2 ^ h - 1 := by have : (0 : Int) < 2 ^ h := Int.pow_pos (by decide); (first | lia | omega)
  rw [bitAnd_pp hx h2]
  obtain ⟨n, rfl⟩ := Int.eq_ofNat_of_zero_le hx
  have e : ((2 : Int) ^ h - 1).toNat = 2 ^ h - 1 := by
    have : ((2 : Int) ^ h) = ((2 ^ h : Nat) : Int) := by simp
    rw [this]
    have : 0 < 2 ^ h := Nat.two_pow_pos h
    (first | lia | omega)
  rw [e, Int.toNat_natCast, Nat.and_two_pow_sub_one_eq_mod]
  simp
theorem or_shift (q r : Int) (h : Nat) (hq : 0 ≤ q) (hr : 0 ≤ r) (hr2 : r < 2 ^ h) : Builtin.bitOr (q * 2 ^ h) r = q * 2 ^ h + r := by
  have hq2 : 0 ≤ q * 2 ^ h := Int.mul_nonneg hq (Int.le_of_lt (Int.pow_pos (by decide)))
  rw [bitOr_and, bitAnd_pp hq2 hr]
  obtain ⟨a, rfl⟩ := Int.eq_ofNat_of_zero_le hq
  obtain ⟨b, rfl⟩ := Int.eq_ofNat_of_zero_le hr
  have hb : b < 2 ^ h := by
    have : ((2 : Int) ^ h) = ((2 ^ h : Nat) : Int) := by simp
    rw [this] at hr2; exact_mod_cast hr2
  have e : ((a : Int) * 2 ^ h).toNat = 2 ^ h * a := by
    have : ((a : Int) * 2 ^ h) = ((2 ^ h * a : Nat) : Int) := by simp [Int.mul_comm]
    rw [this]; exact Int.toNat_natCast _
  have h0 : (2 ^ h * a) &&& b = 0 := by
    have h1 := nat_or_add_and (2 ^ h * a) b
    have h2 := Nat.two_pow_add_eq_or_of_lt hb a
    (first | lia | omega)
  rw [e, Int.toNat_natCast, h0]
  (first | lia | omega)
theorem xor_high (x : Int) (h : Nat) (hx : 0 ≤ x) : Builtin.bitXor x (x / 2 ^ h * 2 ^ h) = x % 2 ^ h := by
  have hp : (0 : Int) < 2 ^ h := Int.pow_pos (by decide)
  have hd := Int.mul_ediv_add_emod x (2 ^ h)
  have hm := Int.emod_nonneg x (Int.ne_of_gt hp)
  have hm2 := Int.emod_lt_of_pos x hp
  have hq : 0 ≤ x / 2 ^ h := Int.ediv_nonneg hx (Int.le_of_lt hp)
  have hq2 : 0 ≤ x / 2 ^ h * 2 ^ h := Int.mul_nonneg hq (Int.le_of_lt hp)
  unfold Builtin.bitXor
  rw [bitOr_and]
  have key : Builtin.bitAnd x (x / 2 ^ h * 2 ^ h) = x / 2 ^ h * 2 ^ h := by
    have e1 : x = Builtin.bitOr (x / 2 ^ h * 2 ^ h) (x % 2 ^ h) := by rw [or_shift _ _ _ hq hm hm2]; rw [Int.mul_comm]; (first | lia | omega)
    rw [bitAnd_pp hx hq2]
    obtain ⟨n, rfl⟩ := Int.eq_ofNat_of_zero_le hx
    have e2 : ((n : Int) / 2 ^ h * 2 ^ h).toNat = 2 ^ h * (n / 2 ^ h) := by
      have : ((n : Int) / 2 ^ h * 2 ^ h) = ((2 ^ h * (n / 2 ^ h) : Nat) : Int) := by simp [Int.mul_comm]
      rw [this]; exact Int.toNat_natCast _
    have e3 : ((n : Int) / 2 ^ h * 2 ^ h) = ((2 ^ h * (n / 2 ^ h) : Nat) : Int) := by simp [Int.mul_comm]
    rw [e2, Int.toNat_natCast, e3]
    congr 1
    have hlt : n % 2 ^ h < 2 ^ h := Nat.mod_lt _ (Nat.two_pow_pos h)
    have h2 := Nat.two_pow_add_eq_or_of_lt hlt (n / 2 ^ h)
    have h3 := Nat.div_add_mod n (2 ^ h)
    have h4 : n = 2 ^ h * (n / 2 ^ h) ||| n % 2 ^ h := by (first | lia | omega)
    apply Nat.eq_of_testBit_eq
    intro i
    rw [Nat.testBit_and]
    generalize hA : 2 ^ h * (n / 2 ^ h) = A at *
    have : n.testBit i = (A.testBit i || (n % 2 ^ h).testBit i) := by
      rw [← Nat.testBit_or, ← h4]
    rw [this]
    cases A.testBit i <;> simp
  rw [key]
  have := hd
  rw [Int.mul_comm] at this
  (first | lia | omega)
theorem fdiv_pow (x : Int) (h : Nat) : x.fdiv (2 ^ h) = x / 2 ^ h := Int.fdiv_eq_ediv_of_nonneg _ (Int.le_of_lt (Int.pow_pos (by decide)))
theorem intBits_eq (x : Int) (n : Nat) : Builtin.Int.intBits x ≤ n ↔ x.natAbs < 2 ^ n := ⟨fun h => bits_of h, fun h => Bits.intBits h⟩

/-- two halves of a digit at a time: the mathematics of the divisions -/
theorem div_step (a b : Int) (hb : 0 < b) (h : Int) (hh : 0 < h) (q1 r1 a1 a0 : Int) (ha : a = a1 * h + a0) (ha0 : 0 ≤ a0) (ha02 : a0 < h) (e1 : a1 = q1 * b + r1) (h1 : 0 ≤ r1) (h2 : r1 < b) : a / b = q1 * h + (r1 * h + a0) / b ∧ a % b = (r1 * h + a0) % b := by
  have e : a = (r1 * h + a0) + b * (q1 * h) := by rw [ha, e1, Int.add_mul, Int.mul_comm b, Int.mul_right_comm]; (first | lia | omega)
  constructor
  · rw [e, Int.add_mul_ediv_left _ _ (Int.ne_of_gt hb)]; (first | lia | omega)
  · rw [e, Int.add_mul_emod_self_left]

/-! # F17 -/

/-! ## objects with a dict -/
section
variable {prog : Program} {w : World} {A : Around} {E : Value → Shared → Prop} {s : Shared} {K : Frag} {x C dx : Addr} {name : Str} {v : Value} {es es' : List DictEntry} {n n' : Nat}
theorem inst_at (hx : s.heap.get? x = some (instObj C dx)) (hdx : s.heap.get? dx = some (dictOf es n)) : InstAt s.heap x (instObj C dx) C (some (dictOf es n)) := ⟨hx, rfl, rfl, hdx⟩
theorem osa_exact {R : Result → Shared → Prop} {tk : Tok} (X : K.In s.heap) (hx : s.heap.get? x = some (instObj C dx)) (hdx : s.heap.get? dx = some (dictOf es n))
    (hp : plainOver K C = true) (ht : takerIn K C name = some none) (hh : hasDictIn K C = true) (hl : (getL name es).isSome = true)
    (e : (putL name (PyData.keyHash w.params name) (.str name s.toks) v es, putN name es n) = (es', n')) (hz : es'.length ≤ 1000)
    (h : ∀ h', h'.get? dx = some (dictOf es' n') → Heap.SameBut dx s.heap h' → R (.ok (.ret .none)) { s with heap := h', toks := s.toks + 1 }) :
    codeAny (model prog w) A (.call (.builtin "object.__setattr__") ⟨[.ref x, .str name tk, v], []⟩) R s := by
  have I := inst_at hx hdx
  obtain ⟨e1, e2⟩ := Prod.mk.inj e
  refine osa_open X I hp ht fun b => ?_
  obtain ⟨cd, hc, hd'⟩ := any_some hh
  have hod : Obj.putName name (PyData.keyHash w.params name) (.str name s.toks) v (dictOf es n) = dictOf es' n' := by rw [putName_dict, e1, e2]
  have D' : (s.heap.update dx (Obj.putName name (PyData.keyHash w.params name) (.str name s.toks) v)).get? dx = some (dictOf es' n') := by
    rw [← hod]
    exact Heap.get?_update_self _ hdx (by rw [hod]; rfl)
  refine wpAny_bind (wpAny_pure (wpAny_bind (wpAny_bind (wpAny_loadPart hx (wpAny_bind ((looks_clsIn X hc).here ?_))))))
  rw [hd']
  refine wpAny_pure (a := some dx) (wpAny_bind (wpAny_pure (wpAny_bind ?_)))
  unfold nsSet
  refine wpAny_bind (wpAny_bind (wpAny_askSetting (wpAny_pure (wpAny_bind (wpAny_mkText (wpAny_bind (wpAny_loadPart hdx ?_)))))))
  dsimp only
  have c : (!es.toArray.any (·.key.isStr name) && es.toArray.any (·.refKey)) = false := by
    rw [← Array.any_toList, ← Array.any_toList]
    unfold getL at hl
    split at hl
    · rename_i en he
      rw [show es.toArray.toList = es from rfl, List.any_eq_true.mpr ⟨en, List.mem_of_find?_eq_some he, List.find?_some he⟩]; rfl
    · split at hl
      · cases hl
      · rename_i z; rw [Bool.not_eq_true] at z; rw [show es.toArray.toList = es from rfl, z, Bool.and_false]
  rw [aRefKeyMayBeTheName_at, c]
  refine wpAny_updatePart hdx ?_
  refine wpAny_bind (wpAny_lookBehind D' ?_ ?_)
  · exact pastItsLine_dict (by rw [List.size_toArray, sizeLine_eq]; (first | lia | omega))
  · exact wpAny_pure (h _ D' (Heap.SameBut.update ..))
theorem set_exact {Q : Unit → Shared → Prop} (X : K.In s.heap) (hx : s.heap.get? x = some (instObj C dx)) (hdx : s.heap.get? dx = some (dictOf es n)) (hs : findIn K (.ref C) "__setattr__" = some (some (.builtin "object.__setattr__")))
    (hp : plainOver K C = true) (ht : takerIn K C name = some none) (hh : hasDictIn K C = true) (hl : (getL name es).isSome = true)
    (e : (putL name (PyData.keyHash w.params name) (.str name (s.toks + 1)) v es, putN name es n) = (es', n')) (hz : es'.length ≤ 1000)
    (h : ∀ h', h'.get? dx = some (dictOf es' n') → Heap.SameBut dx s.heap h' → Q () { s with heap := h', toks := s.toks + 2 }) : wpAny (model prog w) A (setAttr (.ref x) name v) Q E s :=
  set_plain X (inst_at hx hdx) hs (osa_exact (s := { s with toks := s.toks + 1 }) X hx hdx hp ht hh hl e hz fun h' a b => h h' a b)
end

/-- the entries of such a dict, told -/
inductive De (h : Heap) (D : List Addr) : List DictEntry → List (Str × PyData) → Prop
  | nil : De h D [] []
  | cons {x : Str} {tk : Tok} {hs : Int} {v : Value} {d : PyData} {es : List DictEntry} {fs : List (Str × PyData)} : Rd h D v d → De h D es fs → De h D (⟨hs, .str x tk, v⟩ :: es) ((x, d) :: fs)
theorem isStr_str (x y : Str) (tk : Tok) : (Value.str x tk).isStr y = (x == y) := by
  unfold Value.isStr; rfl
theorem De.get {h : Heap} {D : List Addr} {es : List DictEntry} {fs : List (Str × PyData)} (r : De h D es fs) (x : Str) : (∃ d, fs.lookup x = some d ∧ ∃ v, getL x es = some (some v) ∧ Rd h D v d) ∨ (fs.lookup x = none ∧ getL x es = some none) := by
  induction r with
  | nil => exact .inr ⟨rfl, rfl⟩
  | @cons y tk hs v d es fs rv r ih =>
    by_cases hxy : x = y
    · subst hxy
      refine .inl ⟨d, by rw [List.lookup_cons]; simp, v, ?_, rv⟩
      unfold getL
      rw [List.find?_cons_of_pos (by rw [isStr_str]; simp)]
    · have e1 : ((y, d) :: fs).lookup x = fs.lookup x := by rw [List.lookup_cons, show (x == y) = false by simpa using hxy]
      have e2 : getL x (⟨hs, .str y tk, v⟩ :: es) = getL x es := by
        unfold getL
        rw [List.find?_cons_of_neg (by rw [isStr_str]; simpa using fun q => hxy q.symm), List.any_cons]
        rfl
      rw [e1, e2]; exact ih
theorem De.put {h : Heap} {D : List Addr} {es : List DictEntry} {fs : List (Str × PyData)} (r : De h D es fs) {x : Str} (hx : fs.lookup x = none) (hs : Int) (tk : Tok) {v : Value} {d : PyData} (rv : Rd h D v d) : De h D (putL x hs (.str x tk) v es) (fs ++ [(x, d)]) := by
  induction r with
  | nil => exact .cons rv .nil
  | @cons y tk' hs' v' d' es fs rv' r ih =>
    rw [List.lookup_cons] at hx
    have hne : (x == y) = false := by
      cases q : x == y with
      | false => rfl
      | true => rw [q] at hx; cases hx
    rw [hne] at hx
    unfold putL
    rw [if_neg (by rw [isStr_str]; intro q; rw [beq_iff_eq] at q; subst q; simp at hne)]
    exact .cons rv' (ih hx)
theorem De.sub {D D' : List Addr} {h h' : Heap} (k : Sub D D' h h') {es : List DictEntry} {fs : List (Str × PyData)} (r : De h D es fs) : De h' D' es fs := by
  induction r with
  | nil => exact .nil
  | cons a _ ih => exact .cons (a.sub k) ih
theorem De.len {h : Heap} {D : List Addr} {es : List DictEntry} {fs : List (Str × PyData)} (r : De h D es fs) : es.length = fs.length := by
  induction r with
  | nil => rfl
  | cons _ _ ih => simp [ih]
theorem De.ob {h : Heap} {D : List Addr} {es : List DictEntry} {fs : List (Str × PyData)} (r : De h D es fs) {a dx C : Addr} {n : Nat} (h1 : a ∉ D) (h2 : dx ∉ D) (h3 : h.get? a = some (instObj C dx)) (h4 : h.get? dx = some (dictOf es n)) : ObAt h D C fs (.ref a) :=
  ⟨a, dx, es, n, rfl, h1, h2, h3, h4, fun x => r.get x⟩

section
variable {G : Gd} {X : Cx} {μ : List Slot}
theorem ob_inst {h : Heap} {D : List Addr} {C : Addr} {fs : List (Str × PyData)} {v : Value} (r : ObAt h D C fs v) : ∃ a dx es n, v = .ref a ∧ InstAt h a (instObj C dx) C (some (dictOf es n)) ∧
    (∀ x, (∃ d, fs.lookup x = some d ∧ ∃ v, getL x es = some (some v) ∧ Rd h D v d) ∨ (fs.lookup x = none ∧ getL x es = some none)) := by
  obtain ⟨a, dx, es, n, e, _, _, h1, h2, r⟩ := r
  exact ⟨a, dx, es, n, e, ⟨h1, rfl, rfl, h2⟩, r⟩
theorem handed_rd {h : Heap} {D : List Addr} {v : Value} {d : PyData} (r : Rd h D v d) : handedIn v = true := by
  cases r <;> rfl
/-- an attribute of an object -/
theorem Ev.attr (g : Gr G) (w : WX G X) {o : Expr} {name : Str} {pos : Pos} {C : Addr} {fs : List (Str × PyData)} {d : PyData} {attr : Option Value} (ho : Ev G X μ o (.ob C fs)) (hf : fs.lookup name = some d)
    (hga : findIn G.K (.ref C) "__getattribute__" = some (some (.builtin "object.__getattribute__"))) (hh : hasDictIn G.K C = true) (ha : findIn G.K (.ref C) name = some attr) (hn : noGet G.K attr = true)
    (hb : attributeBase o name X.env (eval o X.env) = eval o X.env := by rfl) (ht : ∀ a b, letTemporaryGo o a b = pure () := by intro _ _; rfl) : Ev G X μ (.Attribute o name pos) (.d d) := fun s h => by
  rw [arm_eval_Attribute, hb]
  refine wpAny_bind (wpAny_mono (ho s h) (fun v s₁ h₁ => ?_) fun _ _ x => x)
  obtain ⟨a, dx, es, n, rfl, I, r⟩ := ob_inst h₁.2
  rcases r name with ⟨d', e1, v', e2, rv⟩ | ⟨e1, _⟩
  · rw [hf] at e1; cases e1
    refine wpAny_bind (wpAny_standAt (wpAny_bind (wpAny_holding ?_)))
    refine get_value (g.X.keeps h₁.1.1.stays) I hga (findObj_own hh ha hn e2) (handed_rd rv) ?_
    refine wpAny_bind (wpAny_of_eq (ht _ _) (wpAny_pure ?_))
    exact ⟨h₁.1.trans (Step.tok h₁.1.1 _), rv⟩
  · rw [hf] at e1; cases e1
/-- a method of an object -/
theorem Ev.ometh (g : Gr G) (w : WX G X) {o : Expr} {name : Str} {apos pos : Pos} {args : List Expr} {C f : Addr} {fs : List (Str × PyData)} {ts : List Tr} {r : Tr} {pl : Sem Bool} (ho : Ev G X μ o (.ob C fs)) (hargs : EvL G X μ args ts) (hno : fs.lookup name = none)
    (hga : findIn G.K (.ref C) "__getattribute__" = some (some (.builtin "object.__getattribute__"))) (hgt : findIn G.K (.ref C) "__getattr__" = some none) (hf : findIn G.K (.ref C) name = some (some (.ref f))) (hty : typeIn G.K (.ref f) = some (.type "function")) (hk : Kp G (.ref f))
    (hs : Spec G X.d (.ref f) (.ob C fs :: ts) r)
    (he : eval (.Call (.Attribute o name apos) args [] pos) X.env = (do
      let ov ← eval o X.env
      standAt apos.atName
      let (f, first) ← holding [ov] (getMethod ov name pl)
      callWith pos f first (backTo pos (starEach args X.env)) []) := by rfl) (hp : noStar args = true := by rfl) : Ev G X μ (.Call (.Attribute o name apos) args [] pos) r := fun s h => by
  refine MethodCall_ (wpAny_mono (ho s h) (fun v s₁ h₁ => ?_) fun _ _ x => x) he
  obtain ⟨a, dx, es, n, rfl, I, rr⟩ := ob_inst h₁.2
  have hsh : shadowIn (some (dictOf es n)) name = some false := by
    rcases rr name with ⟨d', e1, _⟩ | ⟨_, e2⟩
    · rw [hno] at e1; cases e1
    · show (lookIn name (dictOf es n)).map _ = _
      rw [lookIn_dict, e2]; rfl
  refine method_fn (g.X.keeps h₁.1.1.stays) I hga hgt hf hty hsh ?_
  refine callWith_of (P := fun hp => G.K.In hp) (by rw [starEach_plain _ _ _ hp]; rfl) hk ?_
  refine evalArgs_any hp (wpAny_mono (hargs s₁ pos (h.step w h₁.1)) (fun vs s₂ h₂ => ?_) fun _ _ x => x)
  have st := (h.step w h₁.1).step w h₂.1
  refine ⟨g.X.keeps h₂.1.1.stays, ?_⟩
  exact wpAny_mono (hs X.A s₂ (hid X μ) (.ref a :: vs) w.hand w.depth w.units h₂.1.1 w.TH st.dom (.cons (h₁.2.step w h₂.1) h₂.2)) (fun v s₃ h₃ => ⟨(h₁.1.trans h₂.1).trans h₃.1, h₃.2⟩) fun _ _ x => x
end

/-! # F18 -/

/-! ## the making of an object: statements that also store attributes of self -/
structure InSt (G : Gd) (X : Cx) (x dx C : Addr) (μ : List Slot) (s : Shared) (fs : List (Str × PyData)) : Prop where
  st : St G X μ s
  hx : s.heap.get? x = some (instObj C dx)
  hd : ∃ es n, s.heap.get? dx = some (dictOf es n) ∧ De s.heap (hid X μ) es fs
/-- where the object lies -/
structure InX (G : Gd) (X : Cx) (x dx : Addr) : Prop where
  dM : dx ∈ X.M
  dT : dx ∉ G.T
  dL : dx ≠ X.env.locals
  dB : G.hG.get? dx = none
  xM : x ∉ X.M
  nc : ∀ (i : Nat), X.kinds[i]? ≠ some .cell
  nce : ∀ y c, X.env.cells.lookup y = some c → False

def ExI (G : Gd) (X : Cx) (x dx C : Addr) (μ : List Slot) (fs : List (Str × PyData)) (ss : List Stmt) (P : List (Str × PyData) → Prop) : Prop :=
  ∀ s, InSt G X x dx C μ s fs → wpAny G.M X.A (execs ss X.env) (fun f s' => f = .next ∧ ∃ ν fs', P fs' ∧ InSt G X x dx C ν s' fs' ∧ (∀ b o, b ∉ owns μ → b ∉ X.M → s.heap.get? b = some o → s'.heap.get? b = some o) ∧ (∀ a ∈ owns ν, a ∈ owns μ ∨ s.heap.get? a = none)) (fun _ _ => False) s

section
variable {G : Gd} {X : Cx} {μ : List Slot} {x dx C : Addr} {fs : List (Str × PyData)} {P : List (Str × PyData) → Prop}
theorem ExI.nil (h : P fs) : ExI G X x dx C μ fs [] P := fun s hs => wpAny_execs_nil ⟨rfl, μ, fs, h, hs, fun _ _ _ _ e => e, fun a ha => .inl ha⟩

theorem ExI.wk {μ' : List Slot} {ss : List Stmt} (k : Wk μ μ') (h : ExI G X x dx C μ' fs ss P) : ExI G X x dx C μ fs ss P := fun s hs => by
  have sub : ∀ b, b ∈ hid X μ' → b ∈ hid X μ := fun b hb => by
    rcases List.mem_append.mp hb with q | q
    · exact List.mem_append_left _ (k.owns.subset q)
    · exact List.mem_append_right _ q
  obtain ⟨es, n, h1, h2⟩ := hs.hd
  refine wpAny_mono (h s ⟨k.st hs.st, hs.hx, es, n, h1, h2.sub fun b o n e => ⟨fun q => n (sub b q), e⟩⟩) (fun f s' e => ?_) fun _ _ z => z
  obtain ⟨e1, ν, fs', e2, e3, e4, e5⟩ := e
  exact ⟨e1, ν, fs', e2, e3, fun b o n1 => e4 b o fun q => n1 (k.owns.subset q), fun a ha => (e5 a ha).imp (fun q => k.owns.subset q) id⟩

theorem InSt.ground (w : WX G X) (ix : InX G X x dx) (g : Gr G) {s : Shared} (h : InSt G X x dx C μ s fs) : ∃ h1 : Heap, G.hG.StaysIn h1 ∧ (∀ a ∈ G.T, h1.get? a = none) ∧ h1.get? x = some (instObj C dx) ∧ (∃ es n, h1.get? dx = some (dictOf es n) ∧ s.heap.get? dx = some (dictOf es n) ∧ De s.heap (hid X μ) es fs) ∧ WX (G.on h1) X ∧ St (G.on h1) X μ s := by
  obtain ⟨es, n, hd, hde⟩ := h.hd
  have xO : x ∉ owns μ := fun z => by
    obtain ⟨i, ts, e⟩ := mem_owns z
    obtain ⟨vs, ⟨k, e⟩, _⟩ := h.st.lists i x ts e
    rw [h.hx] at e; cases e
  have dO : dx ∉ owns μ := fun z => (h.st.new dx z).2 (List.mem_append_left _ ix.dM)
  have gone : ∀ b o, b ≠ X.env.locals → b ∉ owns μ → b ∉ G.T → s.heap.get? b = some o → (hideAll s.heap (X.env.locals :: (owns μ ++ G.T))).get? b = some o := fun b o n1 n2 n3 e => hideAll_get _ e fun z => by
    rcases List.mem_cons.mp z with z | z
    · exact n1 z
    · rcases List.mem_append.mp z with z | z
      · exact n2 z
      · exact n3 z
  refine ⟨hideAll s.heap (X.env.locals :: (owns μ ++ G.T)), fun b o e => gone b o (fun z => by rw [z, w.Lnew] at e; cases e) (fun z => by rw [(h.st.new b z).1] at e; cases e) (fun z => by rw [g.Tno b z] at e; cases e) (h.st.good.stays b o e),
    fun a ha => hideAll_none _ (.tail _ (List.mem_append_right _ ha)), gone x _ (fun z => ix.xM (z ▸ w.LM)) xO (fun z => ix.xM (w.TM x z)) h.hx, ⟨es, n, gone dx _ ix.dL dO ix.dT hd, hd, hde⟩, ?_, ?_⟩
  · exact ⟨w.hand, w.depth, w.units, w.fk, w.gl, w.bi, w.kind, w.dbg, w.inj, w.LM, w.TM, hideAll_none _ (.head _), fun i y c _ e _ => absurd e (ix.nc i), w.cellM, w.cellOf, w.cinj⟩
  · exact ⟨⟨fun b o e => of_hideAll _ e, h.st.good.tab, h.st.good.gens, h.st.good.os⟩, h.st.dom, h.st.own, fun a ha => ⟨hideAll_none _ (.tail _ (List.mem_append_left _ ha)), (h.st.new a ha).2⟩, h.st.vars, h.st.lists, h.st.cells⟩

/-- one plain statement -/
theorem ExI.one (w : WX G X) (ix : InX G X x dx) (g : Gr G) {st : Stmt} {rest : List Stmt} (K : List Slot → Prop)
    (h : ∀ h1 : Heap, G.hG.StaysIn h1 → (∀ a ∈ G.T, h1.get? a = none) → h1.get? x = some (instObj C dx) → (∀ f d, atm d = true → fs.lookup f = some d → ∃ es n v, h1.get? dx = some (dictOf es n) ∧ getL f es = some (some v) ∧ ∀ h D, Rd h D v d) → WX (G.on h1) X →
      Ex1 (G.on h1) X μ st fun o => ∃ ν, o = .next ν ∧ K ν)
    (k : ∀ ν, K ν → ExI G X x dx C ν fs rest P) : ExI G X x dx C μ fs (st :: rest) P := fun s hs => by
  obtain ⟨h1, c1, c2, c3, ⟨es, n, c4, hd, hde⟩, wX, stX⟩ := hs.ground w ix g
  refine wpAny_execs_cons (wpAny_mono (h h1 c1 c2 c3 (fun f d ha hf => ?_) wX s stX) (fun fl s' e => ?_) fun _ _ z => z)
  · rcases hde.get f with ⟨d', e1, v, e2, rv⟩ | ⟨e1, _⟩
    · rw [hf] at e1; cases e1
      exact ⟨es, n, v, c4, e2, fun _ _ => rv.atm ha⟩
    · rw [hf] at e1; cases e1
  · cases fl with
    | next =>
      obtain ⟨ν', ⟨ν, z, hK⟩, m⟩ := e
      cases z
      have S := m.sub
      have hnew : ∀ a ∈ owns ν', G.hG.get? a = none := fun a ha => by
        cases q : G.hG.get? a with
        | none => rfl
        | some o =>
          have := (m.st.new a ha).1
          rw [show (G.on h1).hG.get? a = h1.get? a from rfl, c1 a o q] at this; cases this
      have st' : St G X ν' s' := ⟨m.st.good.down c1, m.st.dom, m.st.own, fun a ha => ⟨hnew a ha, (m.st.new a ha).2⟩, m.st.vars, m.st.lists, m.st.cells⟩
      have i' : InSt G X x dx C ν' s' fs := ⟨st', m.st.good.stays x _ c3, es, n, m.st.good.stays dx _ c4, hde.sub S⟩
      refine wpAny_mono (k ν' hK s' i') (fun f s'' q => ?_) fun _ _ z => z
      obtain ⟨e1, ν2, fs2, p2, i2, k2, o2⟩ := q
      refine ⟨e1, ν2, fs2, p2, i2, fun b o n1 n2 e => k2 b o (fun z => ?_) n2 (m.keep b o n1 n2 e), fun a ha => ?_⟩
      · rcases m.own b z with y | y
        · exact n1 y
        · rw [e] at y; cases y
      · rcases o2 a ha with y | y
        · exact m.own a y
        · by_cases z1 : a ∈ owns μ
          · exact .inl z1
          · refine .inr ?_
            cases q : s.heap.get? a with
            | none => rfl
            | some o =>
              by_cases z2 : a ∈ X.M
              · obtain ⟨o', e'⟩ := st'.dom a (List.mem_append_right _ (List.mem_append_left _ z2))
                rw [y] at e'; cases e'
              · rw [m.keep a o z1 z2 q] at y; cases y
    | brk => obtain ⟨_, ⟨_, z, _⟩, _⟩ := e; cases z
    | cont => obtain ⟨_, ⟨_, z, _⟩, _⟩ := e; cases z
    | ret v => obtain ⟨_, _, ⟨_, z, _⟩, _⟩ := e; cases z

/-- an attribute of self stored -/
theorem ExI.set (w : WX G X) (ix : InX G X x dx) (g : Gr G) {e : Expr} {self name : Str} {p apos pos : Pos} {i : Nat} {kd : NameKind} {rest : List Stmt} {d : PyData}
    (hv : HV X.vars X.kinds self i kd) (hm : μ[i]? = some (.v (.rf x)))
    (he : ∀ h1 : Heap, G.hG.StaysIn h1 → (∀ a ∈ G.T, h1.get? a = none) → WX (G.on h1) X → Ev (G.on h1) X μ e (.d d))
    (hnew : fs.lookup name = none) (hlen : fs.length ≤ 900)
    (hs : findIn G.K (.ref C) "__setattr__" = some (some (.builtin "object.__setattr__"))) (hp : plainOver G.K C = true) (ht : takerIn G.K C name = some none) (hh : hasDictIn G.K C = true)
    (hsw : swapsWith e (some (.Attribute (.Name self p) name apos)) pos.line X.env = pure false)
    (k : ExI G X x dx C μ (fs ++ [(name, d)]) rest P) : ExI G X x dx C μ fs (.Assign [.Attribute (.Name self p) name apos] e pos :: rest) P := fun s hst => by
  obtain ⟨h1, c1, c2, c3, ⟨es, n, c4, hd, hde⟩, wX, stX⟩ := hst.ground w ix g
  refine wpAny_execs_cons (plainObj_wpAny_Assign_Attribute (wpAny_mono (he h1 c1 c2 wX s stX) (fun v s₁ h₁ => ?_) fun _ _ z => z) hsw)
  have st₁ := stX.step wX h₁.1
  refine wpAny_Name (load_slot (G := G.on h1) wX st₁ hv hm (fun u m nn sa ho => ?_) (by intro q; cases q)) (wX.dbg i self hv.at.1).1
  obtain ⟨u', q1, q2⟩ := sa
  cases ho.fn q1
  have q2 : u = .ref x := q2
  subst q2
  have hx1 := h₁.1.1.stays x _ c3
  have hd1 := h₁.1.1.stays dx _ c4
  have hde1 : De s₁.heap (hid X μ) es fs := hde.sub (sub_keep h₁.1.2 wX.TH)
  have hg : getL name es = some none := by
    rcases hde.get name with ⟨d', e1, _⟩ | ⟨_, e2⟩
    · rw [hnew] at e1; cases e1
    · exact e2
  have hput := hde1.put hnew (PyData.keyHash G.w.params name) (s₁.toks + 1) h₁.2
  refine set_exact (prog := G.prog) (w := G.w) (K := G.K) (g.X.keeps (h₁.1.1.down c1).stays) hx1 hd1 hs hp ht hh (by rw [hg]; rfl) rfl (by rw [hput.len]; simp; (first | lia | omega)) fun h' e1 hsb => ?_
  have dO : dx ∉ owns μ := fun z => (hst.st.new dx z).2 (List.mem_append_left _ ix.dM)
  have dH : dx ∈ hid X μ := List.mem_append_right _ (List.mem_append_left _ ix.dM)
  have S : Sub (hid X μ) (hid X μ) s₁.heap h' := fun b o n q => ⟨n, (hsb.2 b (fun z => n (z ▸ dH))).trans q⟩
  have g0 := h₁.1.1.down c1
  have gd : Good G { s₁ with heap := h', toks := s₁.toks + 2 } := Good.but g0 hsb ix.dB ix.dT fun c o vs z1 z2 z3 => by
    subst z3; rw [hd1] at z1; cases z1; cases z2
  have xd : x ≠ dx := fun z => by rw [z, hd1] at hx1; cases hx1
  have st' : St G X μ { s₁ with heap := h', toks := s₁.toks + 2 } := by
    refine ⟨gd, fun a ha => ?_, hst.st.own, hst.st.new, ?_, fun j a ts e => ?_, fun y c e => (ix.nce y c e).elim⟩
    · by_cases z : a = dx
      · subst z; exact ⟨_, e1⟩
      · obtain ⟨o, e⟩ := st₁.dom a ha; exact ⟨o, (hsb.2 a z).trans e⟩
    · obtain ⟨m, ⟨o, es', ep, e, r⟩, rr⟩ := st₁.vars
      refine ⟨m, ⟨o, es', ep, (hsb.2 _ ix.dL.symm).trans e, r⟩, fun j y kd sl q1 q2 q3 => ?_⟩
      have z := rr j y kd sl q1 q2 q3
      have hold : ∀ {u : Value}, Holds X s₁.heap m y u kd → Holds X h' m y u kd := fun {u} z => by
        cases kd <;> first | exact z | exact z.elim | (obtain ⟨c, e, _⟩ := z; exact (ix.nce _ c e).elim)
      cases sl with
      | no => trivial
      | v t => obtain ⟨u, a, b⟩ := z; exact ⟨u, hold a, b.sub S⟩
      | own a ts => exact hold z
    · obtain ⟨vs, ⟨nn, q⟩, r⟩ := st₁.lists j a ts e
      exact ⟨vs, ⟨nn, (hsb.2 a (fun z => dO (z ▸ owns_mem e))).trans q⟩, r.sub S⟩
  have keep : ∀ b o, b ∉ owns μ → b ∉ X.M → s.heap.get? b = some o → h'.get? b = some o := fun b o n1 n2 q => (hsb.2 b (fun z => n2 (z ▸ ix.dM))).trans (h₁.1.2 b o (fun z => n2 (w.TM b z)) q)
  refine wpAny_mono (k _ ⟨st', (hsb.2 x xd).trans hx1, _, _, e1, hput.sub S⟩) (fun f s'' q => ?_) fun _ _ z => z
  obtain ⟨e2, ν2, fs2, p2, i2, k2, o2⟩ := q
  refine ⟨e2, ν2, fs2, p2, i2, fun b o n1 n2 e => k2 b o n1 n2 (keep b o n1 n2 e), fun a ha => ?_⟩
  rcases o2 a ha with y | y
  · exact .inl y
  · by_cases z1 : a ∈ owns μ
    · exact .inl z1
    · refine .inr ?_
      cases q : s.heap.get? a with
      | none => rfl
      | some o =>
        by_cases z2 : a ∈ X.M
        · obtain ⟨o', e'⟩ := st'.dom a (List.mem_append_right _ (List.mem_append_left _ z2))
          rw [y] at e'; cases e'
        · rw [keep a o z1 z2 q] at y; cases y
/-- an attribute of self read, which a statement of ExI.one may do -/
theorem Ev.self (g : Gr G) (w : WX G X) {self name : Str} {p pos : Pos} {i : Nat} {kd : NameKind} {d : PyData} {attr : Option Value} {es : List DictEntry} {n : Nat} {v : Value} (hv : HV X.vars X.kinds self i kd) (hm : μ[i]? = some (.v (.rf x)))
    (hx : G.hG.get? x = some (instObj C dx)) (hd : G.hG.get? dx = some (dictOf es n)) (hl : getL name es = some (some v)) (hr : ∀ h D, Rd h D v d)
    (hga : findIn G.K (.ref C) "__getattribute__" = some (some (.builtin "object.__getattribute__"))) (hh : hasDictIn G.K C = true) (ha : findIn G.K (.ref C) name = some attr) (hn : noGet G.K attr = true) : Ev G X μ (.Attribute (.Name self p) name pos) (.d d) := fun s h => by
  rw [arm_eval_Attribute, show attributeBase (.Name self p) name X.env (eval (.Name self p) X.env) = eval (.Name self p) X.env from rfl]
  refine wpAny_bind (wpAny_Name (load_slot w h hv hm (fun u m nn sa ho => ?_) (by intro q; cases q)) (w.dbg i self hv.at.1).1)
  obtain ⟨u', q1, q2⟩ := sa
  cases ho.fn q1
  have q2 : u = .ref x := q2
  subst q2
  refine wpAny_bind (wpAny_standAt (wpAny_bind (wpAny_holding ?_)))
  refine get_value (g.X.keeps h.good.stays) (inst_at (h.good.stays x _ hx) (h.good.stays dx _ hd)) hga (findObj_own hh ha hn hl) (handed_rd (hr s.heap [])) ?_
  exact wpAny_bind (wpAny_of_eq rfl (wpAny_pure ⟨Step.tok h.good _, hr _ _⟩))
end

/-! # F19 -/

section
variable {G : Gd}
/-- a class called with one argument, whose __init__ sets the attributes -/
theorem Spec.cls (g : Gr G) {C fI : Addr} {oc : Value} {od : Option Addr} {osl : Array (Option Value)} {fd : FuncData} {body : List Stmt} {vars : List Str} {kinds : List NameKind} {d : Nat} {t : Tr} {nos : List Slot} {fs : List (Str × PyData)} {cdv : Value} {scope : Scope} {qual n1 n2 : Str}
    (hm : makesIn G.K C = true) (hi : findIn G.K (.ref C) "__init__" = some (some (.ref fI))) (hf : typeIn G.K (.ref fI) = some (.type "function"))
    (ho : G.K.lookup fI = some ⟨oc, od, .func fd, osl⟩) (hsc : fd.scope = scope) (hcdv : fd.code = cdv) (hq : fd.qualname = qual) (hcd : codeIn G.K cdv qual = true) (hbody : fd.body = .stmts body) (hclo : fd.closure = []) (hglo : fd.globals = mainGlobals) (hbi : fd.builtins = builtinsNs)
    (hn : okNames scope.names = true) (hv : scope.names.map (·.1) = vars) (hk : scope.names.map (·.2) = kinds) (hnc : scope.names.all (fun p => p.2 != .cell && p.2 != .free) = true)
    (hbind : ∀ a b : Value, bindArgs fd ⟨[a, b], []⟩ = pure [(n1, a), (n2, b)]) (hn1 : vars[0]? = some n1) (hn2 : vars[1]? = some n2) (hk1 : kinds[0]? = some .local) (hk2 : kinds[1]? = some .local)
    (hnos : nos.all (fun s => match s with | .no => true | _ => false) = true) (hco : scope.isCoroutine = false) (hgen : scope.isGenerator = false) (hkind : scope.kind = .function)
    (h : ∀ (A : Around) (L x dx : Addr) (H : List Addr), WX G ((fnCx G vars kinds scope (qual ++ ".<locals>.") cdv [] [dx] builtinsNs A fI L d).at H) → InX G ((fnCx G vars kinds scope (qual ++ ".<locals>.") cdv [] [dx] builtinsNs A fI L d).at H) x dx →
      ExI G ((fnCx G vars kinds scope (qual ++ ".<locals>.") cdv [] [dx] builtinsNs A fI L d).at H) x dx C (.v (.rf x) :: .v t :: nos) [] body (fun fs' => fs' = fs)) : Spec G (d + 2) (.ref C) [t] (.ob C fs) := by
  subst hsc hcdv hq hv hk
  intro A s D vs hh hdp hu gs hT hD hargs
  obtain ⟨v, rfl, rv⟩ := one_arg hargs
  have hn' := hn
  unfold okNames at hn'
  rw [Bool.and_eq_true] at hn'
  have nd := of_decide_eq_true hn'.1
  have pair : ∀ (i : Nat) y k, (fd.scope.names.map (·.1))[i]? = some y → (fd.scope.names.map (·.2))[i]? = some k → fd.scope.names[i]? = some (y, k) := fun i y k h1 h2 => by
    rw [List.getElem?_map] at h1 h2
    cases e : fd.scope.names[i]? with
    | none => rw [e] at h1; cases h1
    | some p => rw [e] at h1 h2; cases h1; cases h2; rfl
  have XK := g.X.keeps gs.stays
  refine wpAny_call (codeAny_mono (R := fun r s' => match r with | .ok (.ret v) => Step G s s' ∧ Is s'.heap D v (.ob C fs) | .ok _ => False | .error e => False) ?_ fun r s' h => by cases r with | ok f => cases f <;> exact h | error e => exact h)
  obtain ⟨hp, gn, dr, tk, os⟩ := s
  refine make_core (makes_of XK hm) (looks_findIn XK hi) (fun self => bind_fn XK self hf) (.inl rfl) ?_
  generalize hS : (⟨(hp.push emptyDict).push (instObj C hp.objs.size), gn, dr, tk, os⟩ : Shared) = s1
  have up1 : ∀ b o, hp.get? b = some o → s1.heap.get? b = some o := fun b o e => by rw [← hS]; exact Heap.get?_push_of_some _ (Heap.get?_push_of_some _ e)
  have hsz : (hp.push emptyDict).objs.size = hp.objs.size + 1 := Heap.size_push ..
  have hx1 : s1.heap.get? (hp.objs.size + 1) = some (instObj C hp.objs.size) := by rw [← hS, ← hsz]; exact Heap.get?_push_size _ rfl
  have hd1 : s1.heap.get? hp.objs.size = some (dictOf [] 0) := by rw [← hS]; exact Heap.get?_push_of_some _ (Heap.get?_push_size _ rfl)
  have hsz1 : s1.heap.objs.size = hp.objs.size + 2 := by rw [← hS]; show ((hp.push emptyDict).push _).objs.size = _; rw [Heap.size_push, hsz]
  have K1 : Step G ⟨hp, gn, dr, tk, os⟩ s1 := by
    rw [← hS]
    exact Step.grow gs fun b o e => Heap.get?_push_of_some _ (Heap.get?_push_of_some _ e)
  have fresh : ∀ a, hp.objs.size ≤ a → hp.get? a = none := fun a ha => by
    cases e : hp.get? a with
    | none => rfl
    | some o => exact absurd (Heap.lt_size e) (Nat.not_lt.mpr ha)
  have freshG : ∀ a, hp.objs.size ≤ a → G.hG.get? a = none := fun a ha => St.newG gs (fresh a ha)
  generalize hAU : A.under (.builtin "type.__call__" ⟨[.ref C, v], []⟩) = AU
  have hAh : AU.handled = none := by rw [← hAU]; exact hh
  have hAd : AU.depth = A.depth + 1 := by rw [← hAU]; rfl
  have hAu : AU.units = A.units + 1 := by rw [← hAU]; rfl
  refine codeAny_call_def (fd := fd) (body := body) (binds := [(n1, .ref (hp.objs.size + 1)), (n2, v)]) (by rw [hAd]; (first | lia | omega)) (g.X.keeps K1.1.stays _ _ ho) rfl (g.nolimit.keeps K1.1.stays) (codeRec_of (g.X.keeps K1.1.stays) hcd) hbody (BindsTo.of_eq (hbind _ _)) (fun y hy => ?_) (fun y hy => ?_) (fun h0 ns keep => ?_) hco hgen hkind
  · have := List.all_eq_true.mp hnc y hy
    simp only [Bool.and_eq_true, bne_iff_ne] at this; exact this.1
  · rcases List.mem_cons.mp hy with rfl | hy
    · exact lookup_nodup nd (pair 0 _ _ hn1 hk1)
    · rcases List.mem_cons.mp hy with rfl | hy
      · exact lookup_nodup nd (pair 1 _ _ hn2 hk2)
      · cases hy
  · have hce : callEnv fd s1.heap.objs.size fI = newEnv fd.scope s1.heap.objs.size mainGlobals [] (fd.qualname ++ ".<locals>.") (some fI) fd.code none builtinsNs := by
      unfold callEnv; rw [hglo, hbi, hclo]
    rw [hce]
    have K2 : Step G s1 { s1 with heap := h0, toks := s1.toks + [(n1, Value.ref (hp.objs.size + 1)), (n2, v)].length } := Step.grow K1.1 keep
    have Tlt : ∀ a ∈ D, ¬ hp.objs.size ≤ a := fun a ha q => by obtain ⟨o, e⟩ := hD a ha; have e : hp.get? a = some o := e; rw [fresh a q] at e; cases e
    have W := fun H => WX.fn (G := G) (qual := fd.qualname ++ ".<locals>.") (code := fd.code) (cells := []) (cm := [hp.objs.size]) (A := AU) (f := fI) (L := s1.heap.objs.size) (d := d) hn rfl rfl hkind hAh (by rw [hAd]; (first | lia | omega)) (by rw [hAu]; (first | lia | omega))
      (fun a ha => freshG a (by
        rcases ha with rfl | ha
        · rw [hsz1]; (first | lia | omega)
        · simp at ha; rw [ha]; exact Nat.le_refl _))
      (fun i x c e q => by cases q)
      (fun i x k e hk' => by
        have := List.all_eq_true.mp hnc _ (List.mem_of_getElem? e)
        simp only [Bool.and_eq_true, bne_iff_ne] at this
        rcases hk' with rfl | rfl
        · exact absurd rfl this.1
        · exact absurd rfl this.2) (fun x y c q => by cases q) H
    have ix : InX G ((fnCx G (fd.scope.names.map (·.1)) (fd.scope.names.map (·.2)) fd.scope (fd.qualname ++ ".<locals>.") fd.code [] [hp.objs.size] builtinsNs AU fI s1.heap.objs.size d).at D) (hp.objs.size + 1) hp.objs.size := by
      refine ⟨.tail _ (List.mem_append_left _ (.head _)), fun q => Tlt _ (hT _ q) (Nat.le_refl _), ?_, freshG _ (Nat.le_refl _), fun q => ?_, fun i q => ?_, fun y c q => by cases q⟩
      · show hp.objs.size ≠ s1.heap.objs.size
        rw [hsz1]; (first | lia | omega)
      · rcases List.mem_cons.mp q with q | q
        · rw [hsz1] at q; exact Nat.succ_ne_self _ q.symm
        · rcases List.mem_append.mp q with q | q
          · simp at q
          · exact Tlt _ (hT _ q) (by (first | lia | omega))
      · have q : (fd.scope.names.map (·.2))[i]? = some .cell := q
        rw [List.getElem?_map] at q
        cases e : fd.scope.names[i]? with
        | none => rw [e] at q; cases q
        | some p =>
          rw [e] at q
          have := List.all_eq_true.mp hnc _ (List.mem_of_getElem? e)
          simp only [Bool.and_eq_true, bne_iff_ne] at this
          exact this.1 (Option.some.inj q)
    have os : owns (.v (.rf (hp.objs.size + 1)) :: .v t :: nos) = [] := by
      show owns nos = []
      cases q : owns nos with
      | nil => rfl
      | cons a r =>
        obtain ⟨i, tt, e⟩ := mem_owns (q ▸ .head _ : a ∈ owns nos)
        have := List.all_eq_true.mp hnos _ (List.mem_of_getElem? e); simp at this
    have hidM : ∀ b, b ∈ hid ((fnCx G (fd.scope.names.map (·.1)) (fd.scope.names.map (·.2)) fd.scope (fd.qualname ++ ".<locals>.") fd.code [] [hp.objs.size] builtinsNs AU fI s1.heap.objs.size d).at D) (.v (.rf (hp.objs.size + 1)) :: .v t :: nos) → b = s1.heap.objs.size ∨ b = hp.objs.size ∨ b ∈ D := fun b hb => by
      unfold hid at hb
      rw [os] at hb
      rcases List.mem_append.mp hb with q | q
      · cases q
      · rcases List.mem_append.mp q with q | q
        · rcases List.mem_cons.mp q with q | q
          · exact .inl q
          · rcases List.mem_append.mp q with q | q
            · simp at q; exact .inr (.inl q)
            · exact .inr (.inr (hT b q))
        · exact .inr (.inr q)
    have S : Sub D (hid ((fnCx G (fd.scope.names.map (·.1)) (fd.scope.names.map (·.2)) fd.scope (fd.qualname ++ ".<locals>.") fd.code [] [hp.objs.size] builtinsNs AU fI s1.heap.objs.size d).at D) (.v (.rf (hp.objs.size + 1)) :: .v t :: nos)) hp h0 := fun b o n e => by
      refine ⟨fun q => ?_, keep b o (up1 b o e)⟩
      rcases hidM b q with q | q | q
      · rw [fresh b (by rw [q, hsz1]; (first | lia | omega))] at e; cases e
      · rw [fresh b (Nat.le_of_eq q.symm)] at e; cases e
      · exact n q
    have n12 : n1 ≠ n2 := fun q => by
      have := (List.getElem?_inj (List.getElem?_eq_some_iff.mp hn1).1 nd).mp (hn1.trans (q ▸ hn2).symm)
      (first | lia | omega)
    have nsv : (fun x => [(n1, Value.ref (hp.objs.size + 1)), (n2, v)].reverse.lookup x) n1 = some (.ref (hp.objs.size + 1)) ∧ (fun x => [(n1, Value.ref (hp.objs.size + 1)), (n2, v)].reverse.lookup x) n2 = some v := by
      constructor
      · show List.lookup n1 [(n2, v), (n1, Value.ref (hp.objs.size + 1))] = _
        rw [List.lookup_cons, show (n1 == n2) = false by simpa using n12, List.lookup_cons]; simp
      · show List.lookup n2 [(n2, v), (n1, Value.ref (hp.objs.size + 1))] = _
        rw [List.lookup_cons]; simp
    have st : St G ((fnCx G (fd.scope.names.map (·.1)) (fd.scope.names.map (·.2)) fd.scope (fd.qualname ++ ".<locals>.") fd.code [] [hp.objs.size] builtinsNs AU fI s1.heap.objs.size d).at D) (.v (.rf (hp.objs.size + 1)) :: .v t :: nos) { s1 with heap := h0, toks := s1.toks + [(n1, Value.ref (hp.objs.size + 1)), (n2, v)].length } := by
      refine ⟨K2.1, fun a ha => ?_, (by rw [os]; exact List.nodup_nil), (by rw [os]; intro a ha; cases ha), ⟨_, ns, fun j y k sl e1 e2 e3 => ?_⟩, fun j a ts e => ?_, fun y c e => by cases e⟩
      · rcases hidM a ha with q | q | q
        · obtain ⟨o, _, _, e, _⟩ := ns; exact ⟨o, q ▸ e⟩
        · exact ⟨_, q ▸ keep _ _ hd1⟩
        · obtain ⟨o, e⟩ := hD a q; exact ⟨o, keep a o (up1 a o e)⟩
      · match j with
        | 0 =>
          have e1 : (fd.scope.names.map (·.1))[0]? = some y := e1
          have e2 : (fd.scope.names.map (·.2))[0]? = some k := e2
          rw [hn1] at e1; cases e1
          rw [hk1] at e2; cases e2
          cases e3
          exact ⟨_, nsv.1, rfl⟩
        | 1 =>
          have e1 : (fd.scope.names.map (·.1))[1]? = some y := e1
          have e2 : (fd.scope.names.map (·.2))[1]? = some k := e2
          rw [hn2] at e1; cases e1
          rw [hk2] at e2; cases e2
          cases e3
          exact ⟨_, nsv.2, rv.sub S⟩
        | j + 2 =>
          have e3 : nos[j]? = some sl := e3
          have := List.all_eq_true.mp hnos _ (List.mem_of_getElem? e3)
          cases sl <;> first | trivial | (simp at this)
      · have := owns_mem e
        rw [os] at this; cases this
    refine wpAny_mono (h AU s1.heap.objs.size (hp.objs.size + 1) hp.objs.size D (W D) ix _ ⟨st, keep _ _ hx1, [], 0, keep _ _ hd1, .nil⟩) (fun fl s' e => ?_) fun _ _ z => z.elim
    obtain ⟨rfl, ν, fs', rfl, i', k', o'⟩ := e
    obtain ⟨es, n, hd', hde⟩ := i'.hd
    refine ⟨rfl, ⟨i'.st.good, fun b o nT e => k' b o (by rw [os]; exact List.not_mem_nil) (fun q => ?_) (keep b o (up1 b o e))⟩, ?_⟩
    · have e : hp.get? b = some o := e
      rcases List.mem_cons.mp q with q | q
      · rw [fresh b (by rw [q, hsz1]; (first | lia | omega))] at e; cases e
      · rcases List.mem_append.mp q with q | q
        · simp at q; rw [fresh b (Nat.le_of_eq q.symm)] at e; cases e
        · exact nT q
    · exact De.ob (hde.sub fun b o n e => ⟨fun z => n (List.mem_append_right _ (List.mem_append_right _ z)), e⟩) (fun q => Tlt _ q (by (first | lia | omega))) (fun q => Tlt _ q (Nat.le_refl _)) i'.hx hd'

/-- an attribute of a class -/
theorem Ev.clsattr {X : Cx} {μ : List Slot} (g : Gr G) (w : WX G X) {y name : Str} {p pos : Pos} {C : Addr} {mc v : Value} {t : Tr} {i : Nat} (hn : Nm G y (.ref C)) (hx : HV X.vars X.kinds y i .globalImplicit) (hr : readsIn G.K C mc = true)
    (e : findCls G.K (.ref C) mc name = some (.val v)) (hh : handedIn v = true) (hi : ∀ h D, Is h D v t) : Ev G X μ (.Attribute (.Name y p) name pos) t := fun s h => by
  rw [arm_eval_Attribute, show attributeBase (.Name y p) name X.env (eval (.Name y p) X.env) = eval (.Name y p) X.env from rfl]
  refine wpAny_bind (nm_load g w hn hx h.good ?_)
  refine wpAny_bind (wpAny_standAt (wpAny_bind (wpAny_holding ?_)))
  refine cls_value (g.X.keeps h.good.stays) hr e hh ?_
  exact wpAny_bind (wpAny_of_eq rfl (wpAny_pure ⟨Step.tok h.good _, hi _ _⟩))
end

/-! # F20 -/

section
variable {G : Gd}
theorem Spec.len_tuple (d : Nat) (xs : List PyData) (hn : xs.length < 2 ^ 63) : Spec G d (.builtin "len") [TT xs] (I xs.length) := fun A s D vs hh h1 h2 gs hT dom r0 => by
  obtain ⟨v, rfl, r⟩ := one_arg r0
  obtain ⟨a, vs, n, rfl, _, e, hr⟩ := Rd.tuple_inv r
  have hlen : vs.size = xs.length := by rw [← hr.length]; simp
  refine PyProof.Rows.len_tuple (items := vs) ⟨_, e, rfl, n, rfl⟩ (by rw [hlen]; omega) ?_
  rw [hlen]; exact ⟨Step.tok gs _, .int _ _⟩
end

/-! # F21 -/

section
variable {G : Gd} {X : Cx} {μ : List Slot} {Q : Out → Prop}

/-! ## list(range(..)) -/
def RgE (G : Gd) (X : Cx) (μ : List Slot) (e : Expr) (a b : Int) : Prop :=
  ∀ s, St G X μ s → wpAny G.M X.A (eval e X.env) (fun v s' => Step G s s' ∧ ∃ (r : Addr) (t u z : Tok), v = .ref r ∧ IsRange s'.heap r a b 1 t u z) (fun _ _ => False) s
theorem RgE.one (g : Gr G) (w : WX G X) {f : Str} {p pos : Pos} {e : Expr} {b : Int} (hn : Nm G f (.type "range")) {i : Nat} (hx : HV X.vars X.kinds f i .globalImplicit) (he : Ev G X μ e (I b))
    (hst : starEach [e] X.env = (false, eval e X.env) :: starEach [] X.env := by rfl) (hp : noStar [e] = true := by rfl) : RgE G X μ (.Call (.Name f p) [e] [] pos) 0 b := fun s h => by
  refine call_name g w hn hx (Kp.type _) (EvL.cons w he EvL.nil hst) h (fun s₁ vs K r0 => ?_) hp
  obtain ⟨v, rfl, r⟩ := one_arg r0
  obtain ⟨t, rfl⟩ := r.int_inv
  exact call_range_1 ⟨K.trans (Step.push K.1 _ (tk := s₁.toks + 1 + 1)), _, _, _, _, rfl, IsRange.new ..⟩
theorem Ev.list_range (g : Gr G) (w : WX G X) {f : Str} {p pos : Pos} {e : Expr} {a b : Int} (hn : Nm G f (.type "list")) {i : Nat} (hx : HV X.vars X.kinds f i .globalImplicit) (he : RgE G X μ e a b)
    (h1 : -(2 ^ 62) ≤ a) (h2 : a < 2 ^ 62) (h3 : -(2 ^ 62) ≤ b) (h4 : b < 2 ^ 62) (hlen : (b - a).toNat ≤ 2 ^ 24)
    (hst : starEach [e] X.env = (false, eval e X.env) :: starEach [] X.env := by rfl) (hp : noStar [e] = true := by rfl) : Ev G X μ (.Call (.Name f p) [e] [] pos) (L ((rangeL a b).map .int)) := fun s h => by
  refine Call_Name rfl (nm_load g w hn hx h.good ?_)
  refine callWith_of (P := fun hp => G.K.In hp) (by rw [starEach_plain _ _ _ hp]; rfl) (Kp.type _) ?_
  refine evalArgs_any hp (spliced_more (wpAny_mono (he s h) (fun v s₁ h₁ => spliced_none ?_) fun _ _ x => x) hst)
  obtain ⟨K, r, t, u, z, rfl, hr⟩ := h₁
  refine ⟨g.X.keeps K.1.stays, ?_⟩
  show wpAny G.M X.A (PySem.call (.type "list") [.ref r]) _ _ s₁
  refine call_list_range w.hand hr (small_one h1 h2 h3 h4) (rangeSize1 a b) hlen fun h' tk acc' c' hk hS hacc => ?_
  refine ⟨K.trans (Step.grow K.1 hk), .list (vs := acc') (n := c') (fresh_D (h.step w K).dom) hS (AllRd.of_get (by simp [hacc.1, rangeL_len]) fun i v d e1 e2 => ?_)⟩
  obtain ⟨t, rfl⟩ := hacc.2 i v (by simpa using e1)
  have hi : i < (b - a).toNat := by
    have := (List.getElem?_eq_some_iff.mp e1).1
    rw [Array.length_toList, hacc.1] at this; exact this
  have : d = .int (a + (i : Int)) := by
    unfold rangeL at e2
    simp [hi] at e2
    exact e2.symm
  rw [this, Int.mul_one]
  exact .int _ _

/-! ## new lists through a row of names -/
end

/-! # F22 -/

/-! ## data that compares plainly -/
structure Shp (n : Nat) (d : PyData) : Prop where
  lay : d.canLay0 = true
  dep : d.depth ≤ n
theorem Shp.int {n : Nat} (i : Int) : Shp (n + 1) (.int i) := ⟨by simp [PyData.canLay0], by simp [PyData.depth]⟩
theorem lays {n : Nat} : ∀ {xs : List PyData}, (∀ x ∈ xs, Shp n x) → PyData.canLayAll0 xs = true ∧ PyData.depthAll xs ≤ n
  | [], _ => ⟨by simp [PyData.canLayAll0], by simp [PyData.depthAll]⟩
  | x :: xs, h => by
    have a := h x (.head _)
    have b := lays (xs := xs) fun y hy => h y (.tail _ hy)
    refine ⟨?_, ?_⟩
    · rw [PyData.canLayAll0, a.lay, b.1]; rfl
    · rw [PyData.depthAll]; exact Nat.max_le.mpr ⟨a.dep, b.2⟩
theorem Shp.list {n : Nat} {xs : List PyData} (h : ∀ x ∈ xs, Shp n x) : Shp (n + 1) (.list xs) := ⟨by rw [PyData.canLay0]; exact (lays h).1, by rw [PyData.depth]; have := (lays h).2; (first | lia | omega)⟩
theorem Shp.tuple {n : Nat} {xs : List PyData} (h : ∀ x ∈ xs, Shp n x) : Shp (n + 1) (.tuple xs) := ⟨by rw [PyData.canLay0]; exact (lays h).1, by rw [PyData.depth]; have := (lays h).2; (first | lia | omega)⟩
theorem Shp.shaped {n : Nat} {d : PyData} (h : Shp n d) (hn : n ≤ 64) : SeqAt.shaped d = true := by
  unfold SeqAt.shaped; rw [h.lay]; simp; exact Nat.le_trans h.dep hn
theorem Shp.ints {n : Nat} (l : List Int) : Shp (n + 2) (.list (l.map .int)) := Shp.list fun x hx => by
  obtain ⟨i, _, rfl⟩ := List.mem_map.mp hx; exact Shp.int i
mutual
theorem eqv_self : ∀ d : PyData, d.canLay0 = true → PyData.eqv d d = true
  | .none, _ => rfl
  | .bool b, _ => by simp [PyData.eqv]
  | .int i, _ => by simp [PyData.eqv]
  | .str x, _ => by simp [PyData.eqv]
  | .list xs, h => by rw [PyData.eqv]; exact eqvs_self xs (by rw [PyData.canLay0] at h; exact h)
  | .tuple xs, h => by rw [PyData.eqv]; exact eqvs_self xs (by rw [PyData.canLay0] at h; exact h)
  | .dict _, h => by simp [PyData.canLay0] at h
theorem eqvs_self : ∀ xs : List PyData, PyData.canLayAll0 xs = true → PyData.eqvAll xs xs = true
  | [], _ => by rw [PyData.eqvAll]
  | x :: xs, h => by
    rw [PyData.canLayAll0, Bool.and_eq_true] at h
    rw [PyData.eqvAll, eqv_self x h.1, eqvs_self xs h.2]; rfl
end
theorem eqv_int (a b : Int) : PyData.eqv (.int a) (.int b) = decide (a = b) := by
  show (a == b) = _
  by_cases h : a = b <;> simp [h]
section
variable {G : Gd}
/-- alike data -/
theorem Cmp.eq_same {n : Nat} {d e : PyData} (h : Shp n d) (hn : n ≤ 64) (q : d = e) : Cmp G .Eq (.d d) (.d e) true := by
  subst q
  have := Cmp.eq_data (G := G) d d (h.shaped hn) (h.shaped hn)
  rwa [eqv_self d h.lay] at this
theorem Cmp.ne_same {n : Nat} {d e : PyData} (h : Shp n d) (hn : n ≤ 64) (q : d = e) : Cmp G .NotEq (.d d) (.d e) false := by
  subst q
  have := Cmp.ne_data (G := G) d d (h.shaped hn) (h.shaped hn)
  rwa [eqv_self d h.lay] at this
theorem Cmp.eq_is (a b : Int) : Cmp G .Eq (I a) (I b) (decide (a = b)) := by
  have := Cmp.eq_data (G := G) (.int a) (.int b) rfl rfl
  rwa [eqv_int] at this
theorem Cmp.ne_is (a b : Int) : Cmp G .NotEq (I a) (I b) (!decide (a = b)) := by
  have := Cmp.ne_data (G := G) (.int a) (.int b) rfl rfl
  rwa [eqv_int] at this
end

/-! # F24 -/

/-- every st-th number from the lo-th on -/
def part (ns : List Int) (lo st : Int) : List Int :=
  (sliceRange (sliceBounds (some lo) none (some st) ns.length).1 (sliceBounds (some lo) none (some st) ns.length).2.1 (sliceBounds (some lo) none (some st) ns.length).2.2).filterMap (ns[·]?)
theorem pick_part (ns : List Int) (lo st : Int) : pick (ns.map .int) (some lo) none (some st) = (part ns lo st).map .int := by
  unfold pick part
  rw [List.length_map, List.map_filterMap]
  congr 1
  funext i
  rw [List.getElem?_map]
theorem part_mem {ns : List Int} {lo st v : Int} (h : v ∈ part ns lo st) : v ∈ ns := by
  obtain ⟨i, _, e⟩ := List.mem_filterMap.mp h
  exact List.mem_of_getElem? e
theorem part_len (ns : List Int) (lo st : Int) (h0 : 0 < st) : (part ns lo st).length ≤ ns.length := by
  refine Nat.le_trans (List.length_filterMap_le _ _) ?_
  refine sliceRange_length_le _ _ _ _ (fun _ => ?_) (fun h => ?_)
  · simp only [sliceBounds, Option.getD, if_pos h0]
    refine ⟨by (first | lia | omega), by (first | lia | omega)⟩
  · exact absurd h0 h
theorem Bits.sum {k : Nat} : ∀ {l : List Int} {j : Nat}, (∀ n ∈ l, Bits n k) → l.length ≤ j → l.sum.natAbs ≤ j * 2 ^ k
  | [], j, _, _ => by simp
  | a :: l, j + 1, h, hl => by
    have h1 := h a (.head _)
    have h2 := Bits.sum (l := l) (j := j) (fun n hn => h n (.tail _ hn)) (by simpa using hl)
    unfold Bits at h1
    rw [List.sum_cons, Nat.add_mul]
    have := Int.natAbs_add_le a l.sum
    (first | lia | omega)
theorem Bits.part {ns : List Int} {lo st : Int} {k : Nat} (h0 : 0 < st) (hn : ns.length ≤ 63) (hb : ∀ n ∈ ns, Bits n k) (c : Int) (hc : c.natAbs ≤ 2 ^ k) : Bits ((Mine.part ns lo st).sum + c) (k + 7) := by
  have h1 := Bits.sum (l := Mine.part ns lo st) (j := 63) (fun n h => hb n (part_mem h)) (Nat.le_trans (part_len ns lo st h0) hn)
  have h2 := Int.natAbs_add_le (Mine.part ns lo st).sum c
  have h3 : 0 < 2 ^ k := Nat.two_pow_pos k
  unfold Bits
  rw [Nat.pow_add]
  (first | lia | omega)

/-! # F25 -/

section
variable {G : Gd} {X : Cx} {μ : List Slot} {Q : Out → Prop}
/-- names stored from a row of values, whatever they are -/
theorem Ex1.swapE (w : WX G X) {elts es : List Expr} {k k' : Nat} {tp p p' : Pos} {ts : List Tr} {names : List Str} (he : EvL G X μ es ts) (h : AsN G X μ names.reverse ts.reverse fun μ' => Q (.next μ'))
    (hs : swapsWithSole [.Tuple elts k tp] (.Tuple es k' p') p.line X.env = pure false) (hw : swappedStores [.Tuple elts k tp] (.Tuple es k' p') X.env = pure (some names)) (hn : names.length = ts.length := by rfl) (hz : Nat.ble ts.length 1000 = true := by rfl) :
    Ex1 G X μ (.Assign [.Tuple elts k tp] (.Tuple es k' p') p) Q := fun s h0 => by
  refine Assign_Tuple_swapped (names := names) ?_ hs hw
  refine wpAny_Tuple (wpAny_mono (he s p' h0) (fun vs s₁ h₁ => ?_) fun _ _ x => x)
  have hl := h₁.2.length
  refine ⟨EvL.length h₁.2 (Nat.le_of_ble_eq_true hz), ?_⟩
  have K4 : Step G s { s₁ with heap := s₁.heap.push { cls := .type "tuple", data := .seq vs.toArray } } := h₁.1.trans (Step.push h₁.1.1 _ (tk := s₁.toks))
  rw [show names.length = vs.toArray.size by rw [hn, ← hl]; simp]
  refine wpAny_unpackItems_tuple (items := vs.toArray) w.hand ⟨_, Heap.get?_push_size _ rfl, rfl, 0, rfl⟩ fun h' hk => ?_
  have K5 : Step G { s₁ with heap := s₁.heap.push { cls := .type "tuple", data := .seq vs.toArray } } { s₁ with heap := h' } := extBut_step (tk := s₁.toks) K4.1 hk
  have K := K4.trans K5
  have m := Mv.step w h0 K
  have r : AllIs h' (hid X μ) vs ts := (h₁.2.sub (sub_push _ _)).sub (sub_keep K5.2 w.TH)
  exact wpAny_mono (h _ _ m.st (by simpa using r.reverse)) (fun _ s' ⟨ν, z, m'⟩ => ⟨ν, z, m.trans m'⟩) fun _ _ x => x
theorem Ev.and_t (w : WX G X) {a b : Expr} {p : Pos} {t t' : Tr} (ha : Ev G X μ a t) (ht : Tru G t true) (hb : Ev G X μ b t') : Ev G X μ (.BoolOp .And [a, b] p) t' := fun s h =>
  wpAny_And2 (wpAny_mono (ha s h) (fun v s₁ h₁ => wpAny_mono (ht X.A (hid X μ) s₁ v ((h.step w h₁.1).room w) h₁.2) (fun v' s₂ h₂ => by
    obtain ⟨k, rfl⟩ := h₂
    exact wpAny_mono (hb s₂ ((h.step w h₁.1).step w k)) (fun v s₃ h₃ => ⟨(h₁.1.trans k).trans h₃.1, h₃.2⟩) fun _ _ x => x) fun _ _ x => x) fun _ _ x => x)
/-- a row of tests that goes on to any end -/
theorem and_any (w : WX G X) {a b : Expr} {p : Pos} {t : Tr} {Qv : Value → Shared → Prop} (ha : Ev G X μ a t) (ht : Tru G t true) {s : Shared} (h : St G X μ s) (hb : ∀ s', St G X μ s' → wpAny G.M X.A (eval b X.env) Qv (fun _ _ => False) s') :
    wpAny G.M X.A (eval (.BoolOp .And [a, b] p) X.env) Qv (fun _ _ => False) s :=
  wpAny_And2 (wpAny_mono (ha s h) (fun v s₁ h₁ => wpAny_mono (ht X.A (hid X μ) s₁ v ((h.step w h₁.1).room w) h₁.2) (fun v' s₂ h₂ => by
    obtain ⟨k, rfl⟩ := h₂
    exact hb s₂ ((h.step w h₁.1).step w k)) fun _ _ x => x) fun _ _ x => x)
theorem Spec.max_three (d : Nat) (a b c : Int) : Spec G d (.builtin "max") [I a, I b, I c] (I (max (max a b) c)) := fun A s D vs hh h1 h2 gs hT dom r0 => by
  obtain ⟨v, v', v'', rfl, ra, rb, rc⟩ : ∃ v v' v'', vs = [v, v', v''] ∧ Is s.heap D v (I a) ∧ Is s.heap D v' (I b) ∧ Is s.heap D v'' (I c) := by
    cases r0 with
    | cons x r1 => cases r1 with
      | cons y r2 => cases r2 with
        | cons z r3 => cases r3; exact ⟨_, _, _, rfl, x, y, z⟩
  obtain ⟨t, rfl⟩ := ra.int_inv
  obtain ⟨u, rfl⟩ := rb.int_inv
  obtain ⟨x, rfl⟩ := rc.int_inv
  refine max_three_ints hh fun h' tk hk => ⟨Step.grow gs hk, ?_⟩
  split
  · split
    · rw [show max (max a b) c = c by (first | lia | omega)]; exact Rd.int _ _
    · rw [show max (max a b) c = b by (first | lia | omega)]; exact Rd.int _ _
  · split
    · rw [show max (max a b) c = c by (first | lia | omega)]; exact Rd.int _ _
    · rw [show max (max a b) c = a by (first | lia | omega)]; exact Rd.int _ _
theorem Shp.bool {n : Nat} (b : Bool) : Shp (n + 1) (.bool b) := ⟨by simp [PyData.canLay0], by simp [PyData.depth]⟩
end

/-! # N1 -/
/-! ## digits -/
def dval (n : Nat) : List Int → Int
  | [] => 0
  | d :: r => d + 2 ^ n * dval n r
def digs (n : Nat) : Nat → Int → List Int
  | 0, _ => []
  | k + 1, x => x % 2 ^ n :: digs n k (x / 2 ^ n)
/-! ## halving modulo an odd number -/

/-! # N2 -/

theorem filterMap_cong {α β : Type} {f g : α → Option β} : ∀ {l : List α}, (∀ x ∈ l, f x = g x) → l.filterMap f = l.filterMap g
  | [], _ => rfl
  | a :: l, h => by rw [List.filterMap_cons, List.filterMap_cons, h a (.head _), filterMap_cong fun x hx => h x (.tail _ hx)]
/-! ## rows of blanks and tabs -/
def bump (c : List Int) (b : Nat) : List Int := (c ++ List.replicate (b + 1 - c.length) 0).set b (((c ++ List.replicate (b + 1 - c.length) 0)[b]?).getD 0 + 1)
def wsGo : List Nat → List Int → Nat → Nat → Nat → List Int × Nat × Nat × Nat
  | [], c, b, n, nt => (c, b, n, nt)
  | x :: r, c, b, n, nt => if x = 32 then wsGo r c (b + 1) (n + 1) nt else if x = 9 then wsGo r (bump c b) 0 (n + 1) (nt + 1) else (c, b, n, nt)
def wsLong (c : List Int) (b : Nat) : Int := max ((c.length : Int) - 1) b
def colOf (c : List Int) (b nt : Nat) (t : Int) : Int := (b : Int) + t * (((rangeL t c.length).map fun i => i.fdiv t * (c[i.toNat]?).getD 0).sum + nt)
/-- a lead as an object tells it, small -/
structure Lw (c : List Int) (b nt : Nat) : Prop where
  len : c.length ≤ 50000
  cnt : ∀ v ∈ c, 0 ≤ v ∧ v ≤ 50000
  nt : nt ≤ 50000
  b : b ≤ 50000
theorem Lw.long {c : List Int} {b nt : Nat} (h : Lw c b nt) : 0 ≤ wsLong c b ∧ wsLong c b ≤ 50000 := by
  have := h.len; have := h.b
  exact ⟨Int.le_trans (Int.natCast_nonneg b) (Int.le_max_right _ _), Int.max_le.mpr ⟨by lia, by lia⟩⟩

def lead (runs : List Nat) (b : Nat) (tl : List Nat) : List Nat := (runs.flatMap fun r => List.replicate r 32 ++ [9]) ++ (List.replicate b 32 ++ tl)
def cnt (runs : List Nat) : List Int := runs.foldl bump []

theorem wsGo_blanks (c : List Int) : ∀ (r : Nat) (l : List Nat) (b n nt : Nat), wsGo (List.replicate r 32 ++ l) c b n nt = wsGo l c (b + r) (n + r) nt
  | 0, l, b, n, nt => rfl
  | r + 1, l, b, n, nt => by
    rw [List.replicate_succ, List.cons_append]
    show (if (32 : Nat) = 32 then _ else _) = _
    rw [if_pos rfl, wsGo_blanks c r l (b + 1) (n + 1) nt]
    congr 1 <;> (first | lia | omega)
theorem wsGo_lead {b c0 : Nat} {tl : List Nat} (h32 : c0 ≠ 32) (h9 : c0 ≠ 9) : ∀ (runs : List Nat) (c : List Int) (n nt : Nat),
    wsGo (lead runs b (c0 :: tl)) c 0 n nt = (runs.foldl bump c, b, n + (runs.map (· + 1)).sum + b, nt + runs.length)
  | [], c, n, nt => by
    show wsGo (List.replicate b 32 ++ (c0 :: tl)) c 0 n nt = _
    rw [wsGo_blanks]
    simp [wsGo, h32, h9]
  | r :: runs, c, n, nt => by
    have ih := wsGo_lead (b := b) (tl := tl) h32 h9 runs (bump c r) (n + r + 1) (nt + 1)
    unfold lead at ih ⊢
    rw [List.flatMap_cons, List.append_assoc, List.append_assoc, wsGo_blanks]
    show (if (9 : Nat) = 32 then _ else if (9 : Nat) = 9 then _ else _) = _
    rw [if_neg (by decide), if_pos rfl, Nat.zero_add]
    show wsGo ([] ++ _) (bump c r) 0 (n + r + 1) (nt + 1) = _
    rw [List.nil_append, ih]
    simp; (first | lia | omega)

theorem bump_len (c : List Int) (b : Nat) : (bump c b).length = max c.length (b + 1) := by unfold bump; rw [List.length_set, List.length_append, List.length_replicate, Nat.add_comm, Nat.sub_add_eq_max, Nat.max_comm]
theorem cnt_len : ∀ (runs : List Nat) (c : List Int), (runs.foldl bump c).length = max c.length (runs.foldr (fun r m => max (r + 1) m) 0)
  | [], c => by simp
  | r :: runs, c => by rw [List.foldl_cons, cnt_len runs, bump_len, List.foldr_cons, Nat.max_assoc]

/-- a sum over the places -/
def csum (g : Nat → Int) : List Int → Nat → Int
  | [], _ => 0
  | x :: c, i => g i * x + csum g c (i + 1)
theorem csum_app (g : Nat → Int) : ∀ (c d : List Int) (i : Nat), csum g (c ++ d) i = csum g c i + csum g d (i + c.length)
  | [], d, i => by simp [csum]
  | x :: c, d, i => by
    rw [List.cons_append]
    simp only [csum, csum_app g c d (i + 1), List.length_cons]
    rw [show i + 1 + c.length = i + (c.length + 1) by (first | lia | omega)]; (first | lia | omega)
theorem csum_zero (g : Nat → Int) : ∀ (n i : Nat), csum g (List.replicate n 0) i = 0
  | 0, i => rfl
  | n + 1, i => by rw [List.replicate_succ]; simp [csum, csum_zero g n (i + 1)]
theorem csum_set (g : Nat → Int) : ∀ (c : List Int) (b i : Nat) (v : Int), b < c.length → csum g (c.set b v) i = csum g c i + g (i + b) * (v - (c[b]?).getD 0)
  | [], b, i, v, h => by simp at h
  | x :: c, 0, i, v, h => by simp [csum, Int.mul_sub]; (first | lia | omega)
  | x :: c, b + 1, i, v, h => by
    have := csum_set g c b (i + 1) v (by simpa using h)
    rw [List.set_cons_succ]
    simp only [csum, this, List.getElem?_cons_succ]
    rw [show i + 1 + b = i + (b + 1) by (first | lia | omega)]; (first | lia | omega)
theorem csum_bump (g : Nat → Int) (c : List Int) (b : Nat) : csum g (bump c b) 0 = csum g c 0 + g b := by
  unfold bump
  rw [csum_set g _ _ _ _ (by simp; (first | lia | omega)), csum_app, csum_zero, Nat.zero_add]
  have : ((((c ++ List.replicate (b + 1 - c.length) (0 : Int))[b]?).getD 0 + 1) - ((c ++ List.replicate (b + 1 - c.length) (0 : Int))[b]?).getD 0) = 1 := by (first | lia | omega)
  rw [this]; (first | lia | omega)
theorem csum_cnt (g : Nat → Int) : ∀ (runs : List Nat) (c : List Int), csum g (runs.foldl bump c) 0 = csum g c 0 + (runs.map g).sum
  | [], c => by simp
  | r :: runs, c => by rw [List.foldl_cons, csum_cnt g runs, csum_bump, List.map_cons, List.sum_cons]; (first | lia | omega)
theorem csum_range (g : Nat → Int) : ∀ (c : List Int) (i : Nat), csum g c i = ((List.range c.length).map fun k => g (i + k) * (c[k]?).getD 0).sum
  | [], i => rfl
  | x :: c, i => by
    rw [List.length_cons, List.range_succ_eq_map, List.map_cons, List.sum_cons, List.map_map]
    simp only [csum, csum_range g c (i + 1)]
    congr 2
    apply List.map_congr_left
    intro k _
    simp only [Function.comp, Nat.succ_eq_add_one, List.getElem?_cons_succ]
    rw [show i + (k + 1) = i + 1 + k by (first | lia | omega)]
theorem csum_drop (g : Nat → Int) (t : Nat) (h : ∀ i, i < t → g i = 0) : ∀ (c : List Int), ((List.range c.length).map fun k => g k * (c[k]?).getD 0).sum = ((List.range (c.length - t)).map fun k => g (t + k) * (c[t + k]?).getD 0).sum := fun c => by
  by_cases hl : c.length ≤ t
  · rw [show c.length - t = 0 by (first | lia | omega)]
    have : ∀ n, n ≤ t → ((List.range n).map fun k => g k * (c[k]?).getD 0).sum = 0 := fun n hn => by
      induction n with
      | zero => rfl
      | succ n ih => rw [List.range_succ, List.map_append, List.sum_append, ih (by (first | lia | omega))]; simp [h n (by (first | lia | omega))]
    exact this _ hl
  · have hsplit : List.range c.length = List.range t ++ (List.range (c.length - t)).map (t + ·) := by
      rw [← List.range_add]; congr 1; (first | lia | omega)
    rw [hsplit, List.map_append, List.sum_append, List.map_map]
    have : ∀ n, n ≤ t → ((List.range n).map fun k => g k * (c[k]?).getD 0).sum = 0 := fun n hn => by
      induction n with
      | zero => rfl
      | succ n ih => rw [List.range_succ, List.map_append, List.sum_append, ih (by (first | lia | omega))]; simp [h n (by (first | lia | omega))]
    rw [this t (Nat.le_refl _), Int.zero_add]; rfl
theorem col_sum (c : List Int) (t : Nat) (ht : 1 ≤ t) : ((rangeL t c.length).map fun i => i.fdiv t * (c[i.toNat]?).getD 0).sum = csum (fun i => ((i / t : Nat) : Int)) c 0 := by
  rw [csum_range]
  have e := csum_drop (fun i => ((i / t : Nat) : Int)) t (fun i hi => by simp [Nat.div_eq_of_lt hi]) c
  simp only [Nat.zero_add]
  rw [e]
  unfold rangeL
  rw [List.map_map, show ((c.length : Int) - (t : Int)).toNat = c.length - t by (first | lia | omega)]
  congr 1
  apply List.map_congr_left
  intro k _
  simp only [Function.comp]
  rw [show ((t : Int) + (k : Int)) = ((t + k : Nat) : Int) by (first | lia | omega), Int.toNat_natCast, Int.fdiv_eq_ediv_of_nonneg _ (by (first | lia | omega))]
  rfl
def colL (runs : List Nat) (b t : Nat) : Nat := b + (runs.map fun r => t * (r / t + 1)).sum
theorem sum_cast (g : Nat → Nat) (l : List Nat) : (l.map fun r => ((g r : Nat) : Int)).sum = (((l.map g).sum : Nat) : Int) := by
  induction l with
  | nil => rfl
  | cons a l ih => rw [List.map_cons, List.map_cons, List.sum_cons, List.sum_cons, ih]; (first | lia | omega)
theorem sum_mul (t : Nat) (l : List Nat) : (l.map fun r => t * (r / t + 1)).sum = t * ((l.map fun r => r / t).sum + l.length) := by
  induction l with
  | nil => simp
  | cons a l ih =>
    rw [List.map_cons, List.map_cons, List.sum_cons, List.sum_cons, ih, List.length_cons, ← Nat.mul_add]
    congr 1; (first | lia | omega)
theorem col_lead (runs : List Nat) (b t : Nat) (ht : 1 ≤ t) : colOf (cnt runs) b runs.length (t : Int) = (colL runs b t : Nat) := by
  unfold colOf colL cnt
  rw [col_sum _ t ht, csum_cnt, sum_mul, show csum _ [] 0 = 0 from rfl, Int.zero_add, sum_cast (fun i => i / t)]
  push_cast
  rfl
theorem bump_bound (M : Int) (c : List Int) (b : Nat) (hM : 0 ≤ M) (h : ∀ v ∈ c, 0 ≤ v ∧ v ≤ M) : ∀ v ∈ bump c b, 0 ≤ v ∧ v ≤ M + 1 := by
  have h' : ∀ v ∈ c ++ List.replicate (b + 1 - c.length) (0 : Int), 0 ≤ v ∧ v ≤ M := fun v hv => by
    rcases List.mem_append.mp hv with q | q
    · exact h v q
    · rw [List.eq_of_mem_replicate q]; (first | lia | omega)
  intro v hv
  unfold bump at hv
  rcases List.mem_or_eq_of_mem_set hv with q | q
  · have := h' v q; (first | lia | omega)
  · subst q
    cases e : (c ++ List.replicate (b + 1 - c.length) (0 : Int))[b]? with
    | none => simp; (first | lia | omega)
    | some u => have := h' u (List.mem_of_getElem? e); simp; (first | lia | omega)
theorem cnt_bound : ∀ (runs : List Nat) (c : List Int) (M : Int), 0 ≤ M → (∀ v ∈ c, 0 ≤ v ∧ v ≤ M) → ∀ v ∈ runs.foldl bump c, 0 ≤ v ∧ v ≤ M + runs.length
  | [], c, M, hM, h => fun v hv => by have := h v hv; simp; (first | lia | omega)
  | r :: runs, c, M, hM, h => fun v hv => by
    have := cnt_bound runs (bump c r) (M + 1) (by (first | lia | omega)) (bump_bound M c r hM h) v hv
    rw [List.length_cons]; (first | lia | omega)
theorem cnt_max (runs : List Nat) (m : Nat) (h : ∀ r ∈ runs, r ≤ m) : runs.foldr (fun r m => max (r + 1) m) 0 ≤ m + 1 := by
  induction runs with
  | nil => simp
  | cons r runs ih =>
    rw [List.foldr_cons]
    have a := h r (.head _)
    exact Nat.max_le.mpr ⟨Nat.succ_le_succ a, ih fun x hx => h x (.tail _ hx)⟩
theorem Lw_lead (runs : List Nat) (b : Nat) (hr : ∀ r ∈ runs, r ≤ 40000) (hl : runs.length ≤ 40000) (hb : b ≤ 40000) : Lw (cnt runs) b runs.length where
  len := by
    unfold cnt
    rw [cnt_len]
    have := cnt_max runs 40000 hr
    simp; (first | lia | omega)
  cnt := fun v hv => by
    have := cnt_bound runs [] 0 (by decide) (fun v hv => nomatch hv) v hv
    (first | lia | omega)
  nt := by (first | lia | omega)
  b := by (first | lia | omega)
theorem cast_max (a b : Nat) : ((max a b : Nat) : Int) = max (a : Int) (b : Int) := by
  rw [Nat.max_def, Int.max_def]
  by_cases h : a ≤ b
  · rw [if_pos h, if_pos (Int.ofNat_le.mpr h)]
  · rw [if_neg h, if_neg fun z => h (Int.ofNat_le.mp z)]
theorem long_lead (runs : List Nat) (b : Nat) : wsLong (cnt runs) b = (max (runs.foldr max 0) b : Nat) := by
  unfold wsLong cnt
  rw [cnt_len]
  have : ∀ l : List Nat, (l.foldr (fun r m => max (r + 1) m) 0 = 0 ∧ l = []) ∨ (l.foldr (fun r m => max (r + 1) m) 0 = l.foldr max 0 + 1) := fun l => by
    induction l with
    | nil => exact .inl ⟨rfl, rfl⟩
    | cons a l ih =>
      refine .inr ?_
      rw [List.foldr_cons, List.foldr_cons]
      rcases ih with ⟨h, rfl⟩ | h
      · simp
      · rw [h, ← Nat.succ_eq_add_one, ← Nat.succ_eq_add_one, ← Nat.succ_eq_add_one, Nat.succ_max_succ]
  rcases this runs with ⟨h, rfl⟩ | h
  · simp; (first | lia | omega)
  · rw [h, List.length_nil, Nat.max_eq_right (Nat.zero_le _), cast_max, show ((runs.foldr max 0 + 1 : Nat) : Int) - 1 = ((runs.foldr max 0 : Nat) : Int) by lia]

/-! # N6 -/

/-! ## rows of numbers as polynomials -/
def suf : List Int → List Int
  | [] => []
  | _ :: r => r.sum :: suf r
theorem dval_suf (n : Nat) : ∀ p : List Int, dval n p = p.sum + (2 ^ n - 1) * dval n (suf p)
  | [] => by simp [dval, suf]
  | x :: r => by
    have ih := dval_suf n r
    simp only [dval, suf, List.sum_cons]
    generalize (2 : Int) ^ n = X at *
    generalize dval n (suf r) = D at *
    generalize dval n r = E at *
    subst ih
    generalize r.sum = s
    have e1 : X * (s + (X - 1) * D) = X * s + X * ((X - 1) * D) := Int.mul_add ..
    have e2 : (X - 1) * (s + X * D) = (X - 1) * s + (X - 1) * (X * D) := Int.mul_add ..
    have e3 : X * ((X - 1) * D) = (X - 1) * (X * D) := by rw [← Int.mul_assoc, Int.mul_comm X, Int.mul_assoc]
    have e4 : (X - 1) * s = X * s - s := by rw [Int.sub_mul, Int.one_mul]
    (first | lia | omega)
theorem dval_zeros (n : Nat) : ∀ (p : List Int) (k : Nat), dval n (p ++ List.replicate k 0) = dval n p
  | [], 0 => rfl
  | [], k + 1 => by
    have := dval_zeros n [] k
    rw [List.nil_append] at this ⊢
    rw [List.replicate_succ]; simp only [dval, this]; simp [dval]
  | x :: r, k => by simp only [List.cons_append, dval, dval_zeros n r k]
def padd (h : Int) (p : List Int) : List Int := p.map (· + h)
theorem dval_padd (n : Nat) (h : Int) : ∀ p : List Int, dval n (padd h p) = dval n p + h * dval n (List.replicate p.length 1)
  | [] => by simp [padd, dval]
  | x :: p => by
    have ih := dval_padd n h p
    unfold padd at ih ⊢
    simp only [List.map_cons, dval, ih, List.length_cons, List.replicate_succ, Int.mul_add]
    have e1 : 2 ^ n * (h * dval n (List.replicate p.length 1)) = h * (2 ^ n * dval n (List.replicate p.length 1)) := by
      rw [← Int.mul_assoc, Int.mul_comm (2 ^ n) h, Int.mul_assoc]
    (first | lia | omega)
theorem dval_ones (n : Nat) : ∀ k : Nat, (2 ^ n - 1) * dval n (List.replicate k 1) = 2 ^ (n * k) - 1
  | 0 => by simp [dval]
  | k + 1 => by
    have ih := dval_ones n k
    rw [List.replicate_succ]
    simp only [dval, Int.mul_add, Int.mul_one]
    rw [Nat.mul_succ, Int.pow_add]
    generalize (2 : Int) ^ n = X at *
    have e1 : (X - 1) * (X * dval n (List.replicate k 1)) = X * ((X - 1) * dval n (List.replicate k 1)) := by
      rw [← Int.mul_assoc, Int.mul_comm (X - 1) X, Int.mul_assoc]
    rw [e1, ih, Int.mul_sub, Int.mul_comm X]; (first | lia | omega)

/-! ## what the three numbers make -/
def evenL (a b c o : Nat) : List Nat := [o, o + (a + b), o + (a + c), o + (b + c)]
def oddL (a b c o : Nat) : List Nat := [o + a, o + b, o + c, o + (a + b + c)]
def numL (runs : List Nat) : List Int := runs.foldl (fun d r => d.set r ((d[r]?).getD 0 + 1)) (List.replicate (runs.foldr max 0 + 1) 0)
def throwsL (a b c o : Nat) : List Int :=
  (List.range a).foldl (fun w1 i => (List.range b).foldl (fun w2 j => (List.range c).foldl (fun w3 k => w3.set (o + i + j + k) ((w3[o + i + j + k]?).getD 0 + 1)) w2) w1) (List.replicate (o + (a + b + c) - 2) 0)
def apartZ (l : List Int) (m : Nat) : Int := -(m : Int) * (part l ((m : Int) - 1) (m : Int)).sum
def tri2 (r : List Nat) : Int := (r.map fun r => ((r * (r - 1) / 2 : Nat) : Int)).sum
-- theorem gap_all : ∀ a < 5, ∀ b < 5, ∀ c < 5, ∀ o < 4, gapB .. = true := by decide +kernel   (true: built on 2026-11-19; takes 50 s; to be shown another way)

/-! # P0 -/
set_option compiler.extract_closed false

def tabD : Tab := ⟨114, 110, 112, 4, "_digits2int.<locals>.inner"⟩
def tabI : Tab := ⟨107, 103, 97, 4, "_int2digits.<locals>.inner"⟩
structure Gm (G : Gd) (p : Params) : Prop where
  g : Gr G
  K : G.K = hd.heap_1 p
  tabs : G.tabs = [tabD, tabI]

section
variable {G : Gd} {p : Params}
theorem Gm.nmB (m : Gm G p) {x : Str} {v : Value} (e : nsIn (hd.heap_1 p) mainGlobals x = some none) (b : bootBuiltins x = some v) (hn : x ≠ "__name__") : Nm G x v :=
  .inr ⟨mg_none_of (K := G.K) m.g.X m.g.g (m.K ▸ e), (m.g.builtins x hn).trans b⟩
theorem Gm.nmG (m : Gm G p) {x : Str} {v : Value} (e : nsIn (hd.heap_1 p) mainGlobals x = some (some v)) : Nm G x v := .inl (mg_of (K := G.K) m.g.X m.g.g (m.K ▸ e))
theorem Gm.kp (m : Gm G p) {f : Addr} (e : keepIn (hd.heap_1 p) (.ref f) = true) : Kp G (.ref f) := Kp.ref (m.K ▸ e)

theorem Gm.len (m : Gm G p) : Nm G "len" (.builtin "len") := m.nmB (by kernel_rfl) (by boot_by_name) (by decide)
theorem Gm.divmod (m : Gm G p) : Nm G "divmod" (.builtin "divmod") := m.nmB (by kernel_rfl) (by boot_by_name) (by decide)
theorem Gm.reversed (m : Gm G p) : Nm G "reversed" (.type "reversed") := m.nmB (by kernel_rfl) (by boot_by_name) (by decide)
theorem Gm.div2 (m : Gm G p) : Nm G "_div2n1n" (.ref 94) := m.nmG (by kernel_rfl)
theorem Gm.div3 (m : Gm G p) : Nm G "_div3n2n" (.ref 101) := m.nmG (by kernel_rfl)
theorem Gm.divlim' (p : Params) : ∃ t, nsIn (hd.heap_1 p) mainGlobals "_DIV_LIMIT" = some (some (.int 4000 t)) := ⟨_, by rfl⟩
theorem Gm.kdiv2 (m : Gm G p) : Kp G (.ref 94) := m.kp (by kernel_rfl)
theorem Gm.kdiv3 (m : Gm G p) : Kp G (.ref 101) := m.kp (by kernel_rfl)
end

local macro_rules | `(tactic| walk_at "hv1") => `(tactic| (first
  | with_reducible exact HV.here
  | with_reducible exact HV.h1
  | with_reducible exact HV.h2
  | with_reducible exact HV.h3
  | with_reducible exact HV.h4
  | with_reducible exact HV.h5
  | with_reducible exact HV.h6
  | with_reducible exact HV.h7
  | ((with_reducible apply HV.skip8); walk_at "hv1")))
local macro_rules | `(tactic| walk_at "hv") => `(tactic| first | walk_at "hv1" | ((try dsimp only [Cx.at, fnCx, cpCx, Cx.still]); walk_at "hv1"))
local macro_rules | `(tactic| walk_at "w") => `(tactic| first | assumption | apply_assumption)
local macro_rules | `(tactic| walk_at "side") => `(tactic| first | with_reducible assumption | lia | omega | with_reducible rfl)
local macro_rules | `(tactic| walk_at "bin") => `(tactic| first
  | with_reducible exact Bin.add_int _ _
  | with_reducible exact Bin.sub_int _ _
  | ((with_reducible refine Bin.mul_int _ _ ?_); walk_at "side")
  | with_reducible exact Bin.and_int _ _
  | with_reducible exact Bin.or_int _ _
  | with_reducible exact Bin.xor_int _ _
  | ((with_reducible refine Bin.rshift_int _ _ ?_); walk_at "side")
  | ((with_reducible refine Bin.lshift_int _ _ ?_ ?_) <;> walk_at "side")
  | ((with_reducible refine Bin.mod_int _ _ ?_); walk_at "side")
  | ((with_reducible refine Bin.floordiv_int _ _ ?_ ?_) <;> walk_at "side")
  | ((with_reducible refine Bin.pow_int _ _ ?_ ?_) <;> walk_at "side"))
local macro_rules | `(tactic| walk_at "un") => `(tactic| first
  | with_reducible exact Un.neg_int _
  | with_reducible exact Un.invert_int _)
local macro_rules | `(tactic| walk_at "dl") => `(tactic| first | exact DL.nil | (apply DL.cons; walk_at "dl"))
local macro_rules | `(tactic| walk_at "evl") => `(tactic| first
  | with_reducible exact EvL.nil
  | ((with_reducible refine' EvL.cons ?w ?he ?hs ?hst); (case w => walk_at "w"); (case he => walk_at "ev"); (case hs => walk_at "evl"); (case hst => rfl)))
local macro_rules | `(tactic| walk_at "ev") => `(tactic| first
  | with_reducible exact Ev.int
  | with_reducible exact Ev.str
  | with_reducible exact Ev.bool
  | with_reducible assumption
  | ((with_reducible refine' Ev.var ?w ?hv ?hm); (case w => walk_at "w"); (case hv => walk_at "hv"); (case hm => rfl))
  | ((with_reducible refine' Ev.bin ?w ?hl ?hr ?hb); (case w => walk_at "w"); (case hl => walk_at "ev"); (case hr => walk_at "ev"); (case hb => walk_at "bin"))
  | ((with_reducible refine' Ev.un ?w ?he ?hu); (case w => walk_at "w"); (case he => walk_at "ev"); (case hu => walk_at "un"))
  | ((with_reducible refine' Ev.bit_length ?w ?ho ?he); (case w => walk_at "w"); (case ho => walk_at "ev"); (case he => rfl))
  | ((with_reducible refine' Ev.tuple' ?w ?h ?hd ?hn); (case w => walk_at "w"); (case h => walk_at "evl"); (case hd => walk_at "dl"); (case hn => rfl))
  | ((with_reducible refine' Ev.list' ?w ?h ?hd ?hn); (case w => walk_at "w"); (case h => walk_at "evl"); (case hd => walk_at "dl"); (case hn => rfl)))
/-! # P1 -/

theorem Gm.dlim {G : Gd} {p : Params} (m : Gm G p) {X : Cx} {μ : List Slot} {i : Nat} {ps : Pos} (w : WX G X) (hx : HV X.vars X.kinds "_DIV_LIMIT" i .globalImplicit) : Ev G X μ (.Name "_DIV_LIMIT" ps) (I 4000) := by
  obtain ⟨t, e⟩ := Gm.divlim' p
  exact Ev.glob m.g w (m.nmG e) hx fun _ _ => Rd.int _ _

abbrev DivPre (a b : Int) (n : Nat) : Prop := 0 ≤ a ∧ a < b * 2 ^ n ∧ 2 ^ n ≤ 2 * b ∧ b < 2 ^ n
abbrev Div3Pre (a12 a3 b b1 b2 : Int) (n : Nat) : Prop := 0 ≤ a12 ∧ a12 < b ∧ 0 ≤ a3 ∧ a3 < 2 ^ n ∧ b = b1 * 2 ^ n + b2 ∧ 0 ≤ b2 ∧ b2 < 2 ^ n ∧ 2 ^ n ≤ 2 * b1 ∧ b1 < 2 ^ n

theorem Bits.of_lt {x : Int} {n : Nat} (h0 : 0 ≤ x) (h : x < 2 ^ n) : Bits x n := by
  unfold Bits
  have : (x.natAbs : Int) < ((2 ^ n : Nat) : Int) := by
    rw [Int.natAbs_of_nonneg h0]; simpa using h
  exact_mod_cast this

theorem Ev.int_eq {G : Gd} {X : Cx} {μ : List Slot} {e : Expr} {i j : Int} (h : Ev G X μ e (I i)) (q : i = j) : Ev G X μ e (I j) := q ▸ h
theorem lsh_ok {a : Int} {k : Nat} {n : Int} (h : Bits a k) (hk : (k : Int) + n ≤ 2 ^ 27) : (Builtin.Int.intBits a : Int) + n ≤ 2 ^ 27 := by
  have := h.intBits; (first | lia | omega)
theorem div3_of {G : Gd} {p : Params} (m : Gm G p) (d : Nat) (a12 a3 b b1 b2 : Int) (n : Nat) (h : Div3Pre a12 a3 b b1 b2 n) (hn : n ≤ 2 ^ 24)
    (ih : ∀ a b : Int, DivPre a b n → Spec G d (.ref 94) [I a, I b, I n] (TT [.int (a / b), .int (a % b)])) :
    Spec G (d + 1) (.ref 101) [I a12, I a3, I b, I b1, I b2, I n] (TT [.int ((a12 * 2 ^ n + a3) / b), .int ((a12 * 2 ^ n + a3) % b)]) := by
  have g := m.g
  obtain ⟨h1, h2, h3, h4, h5, h6, h7, h8, h9⟩ := h
  have hp : (0 : Int) < 2 ^ n := Int.pow_pos (by decide)
  generalize hH : (2 : Int) ^ n = H at *
  have hb1 : 0 < b1 := by (first | lia | omega)
  have hb : 0 < b := by
    have := Int.mul_pos hb1 hp
    (first | lia | omega)
  refine Spec.intro m.g (by rw [m.K]; rfl) (by dsimp only) (by dsimp only) (by dsimp only) (by rw [m.K]; rfl) rfl rfl rfl rfl (by decide +kernel) (by dsimp only [List.map]) (by dsimp only [List.map])
    (by exact arg6 fun _ _ _ _ _ _ => rfl) rfl (by rfl) (nos := List.replicate 3 .no) (by rfl) (by rfl) (by rfl) rfl rfl rfl (by dsimp only [List.map, List.replicate, HAppend.hAppend, Append.append, List.append]) ?_
  intro A L cells cm HH w hcm
  have hA : (a12.fdiv (2 ^ (n : Int).toNat)) = a12 / H := by rw [fdiv_pow, Int.toNat_natCast, hH]
  have hT : (2 : Int) ^ (n : Int).toNat = H := by rw [Int.toNat_natCast, hH]
  have hl1 : (Builtin.Int.intBits 1 : Int) + (n : Int) ≤ 2 ^ 27 := lsh_ok (k := 1) (by unfold Bits; decide) (by (first | lia | omega))
  have hl2 : (Builtin.Int.intBits b1 : Int) + (n : Int) ≤ 2 ^ 27 := lsh_ok (k := n) (Bits.of_lt (by (first | lia | omega)) (by rw [hH]; exact h9)) (by (first | lia | omega))
  refine Ex.cons (Ex1.mono (Q' := fun o => ∃ q r : Int, o = .next [.v (I a12), .v (I a3), .v (I b), .v (I b1), .v (I b2), .v (I n), .v (I q), .v (I r), .no] ∧ a12 = q * b1 + r ∧ 0 ≤ q ∧ q ≤ H ∧ 0 ≤ r ∧ r < 2 * H ∧ (a12 * H + a3) - q * b < b) ?_ ?_)
  · refine Ex1.ite (w _) (Ts.cmp (w _) (by walk_at "ev") (by walk_at "ev") (Cmp.eq_data _ _ rfl rfl)) (fun hc => ?_) fun hc => ?_
    · have hc : a12 / H = b1 := by
        have : (PyData.int (a12.fdiv (2 ^ (n : Int).toNat))).eqv (.int b1) = true := hc
        rw [hA] at this
        simpa [PyData.eqv] using this
      have hm1 := Int.mul_ediv_add_emod a12 H
      have hm2 := Int.emod_nonneg a12 (Int.ne_of_gt hp)
      have hm3 := Int.emod_lt_of_pos a12 hp
      rw [hc, Int.mul_comm] at hm1
      refine Ex.cons (Ex1.swap (w _) (names := ["q", "r"]) (ds := [.int (H - 1), .int (a12 - b1 * H + b1)]) (Ev.tuple' (w _) (EvL.cons (w _) (Ev.int_eq (by walk_at "ev") (by rw [hT]; (first | lia | omega))) (EvL.cons (w _) (Ev.int_eq (by walk_at "ev") (by rw [hT])) EvL.nil rfl) rfl) (.cons (.cons .nil)) rfl) ?_ rfl rfl rfl)
      refine AsN.cons (w _) (by walk_at "hv") (Nat.le_of_ble_eq_true rfl) (.inl rfl) (AsN.cons (w _) (by walk_at "hv") (Nat.le_of_ble_eq_true rfl) (.inl rfl) (AsN.nil (w _) ?_))
      dsimp only [Then, List.set]
      refine Ex.nil (w _) ⟨_, _, rfl, ?_, by (first | lia | omega), by (first | lia | omega), by (first | lia | omega), by (first | lia | omega), ?_⟩
      · rw [Int.sub_mul, Int.mul_comm H b1]; (first | lia | omega)
      · have : a12 * H + a3 < b * H := by
          have h1 : (a12 + 1) * H ≤ b * H := Int.mul_le_mul_of_nonneg_right (by (first | lia | omega)) (by (first | lia | omega))
          rw [Int.add_mul] at h1; (first | lia | omega)
        rw [Int.sub_mul, Int.mul_comm H b]; (first | lia | omega)
    · have hc : a12 / H ≠ b1 := by
        have : (PyData.int (a12.fdiv (2 ^ (n : Int).toNat))).eqv (.int b1) = false := hc
        rw [hA] at this
        simpa [PyData.eqv] using this
      have hle : a12 / H ≤ b1 := by
        have : a12 / H < b1 + 1 := Int.ediv_lt_of_lt_mul hp (by rw [Int.add_mul]; (first | lia | omega))
        (first | lia | omega)
      have hlt : a12 < b1 * H := Int.lt_mul_of_ediv_lt hp (by (first | lia | omega))
      have hmod := Int.mul_ediv_add_emod a12 b1
      have hm2 := Int.emod_nonneg a12 (Int.ne_of_gt hb1)
      have hm3 := Int.emod_lt_of_pos a12 hb1
      have hq0 : 0 ≤ a12 / b1 := Int.ediv_nonneg h1 (by (first | lia | omega))
      have hq1 : a12 / b1 < H := Int.ediv_lt_of_lt_mul hb1 (by rw [Int.mul_comm]; exact hlt)
      refine Ex.cons (Ex1.unpack (w _) (Ev.call g (w _) m.div2 (by walk_at "hv") m.kdiv2 (by walk_at "evl") (ih a12 b1 ⟨h1, by rw [hH]; exact hlt, by rw [hH]; exact h8, by rw [hH]; exact h9⟩) rfl) ?_ rfl rfl rfl rfl)
      refine AsL.cons (As.name (w _) (by walk_at "hv") (Nat.le_of_ble_eq_true rfl) (.inl rfl) (AsL.cons (As.name (w _) (by walk_at "hv") (Nat.le_of_ble_eq_true rfl) (.inl rfl) (AsL.nil (w _) ?_)) rfl)) rfl
      dsimp only [Then, List.set]
      refine Ex.nil (w _) ⟨_, _, rfl, by rw [Int.mul_comm]; (first | lia | omega), hq0, by (first | lia | omega), hm2, by (first | lia | omega), ?_⟩
      have e : a12 * H + a3 - a12 / b1 * b = a12 % b1 * H + a3 - a12 / b1 * b2 := by
        rw [h5, Int.mul_add, ← Int.mul_assoc]
        have : a12 * H = (a12 / b1 * b1 + a12 % b1) * H := by rw [Int.mul_comm (a12 / b1)]; rw [hmod]
        rw [this, Int.add_mul]; (first | lia | omega)
      rw [e]
      have h10 : (a12 % b1 + 1) * H ≤ b1 * H := Int.mul_le_mul_of_nonneg_right (by (first | lia | omega)) (by (first | lia | omega))
      rw [Int.add_mul] at h10
      have h11 : 0 ≤ a12 / b1 * b2 := Int.mul_nonneg hq0 h6
      (first | lia | omega)
  · rintro o ⟨q, r, rfl, e1, hq, hq2, hr, hr2, hlt⟩
    dsimp only [Then]
    refine Ex.cons (Ex1.set (w _) (t := I ((a12 * H + a3) - q * b)) ?_ (by walk_at "hv") (Nat.le_of_ble_eq_true rfl) (.inl rfl) rfl ?_)
    · have hrH : Bits r (n + 1) := Bits.of_lt hr (by rw [Int.pow_succ, hH]; (first | lia | omega))
      have hl : (Builtin.Int.intBits r : Int) + (n : Int) ≤ 2 ^ 27 := lsh_ok hrH (by (first | lia | omega))
      have hmul : IntMulOk q b2 := mulOk (n := n + 1) (m := n) (Bits.of_lt hq (by rw [Int.pow_succ, hH]; (first | lia | omega))) (Bits.of_lt h6 (by rw [hH]; exact h7)) (by (first | lia | omega))
      refine Ev.int_eq (by walk_at "ev") ?_
      rw [Int.toNat_natCast, or_shift _ _ _ hr h3 (by rw [hH]; exact h4), hH, h5, Int.mul_add, ← Int.mul_assoc]
      have : a12 * H = (q * b1 + r) * H := by rw [e1]
      rw [this, Int.add_mul]; (first | lia | omega)
    · dsimp only [Then, List.set]
      refine Ex.cons (Ex1.while (w _) (fun k μ' => ∃ q r : Int, μ' = [.v (I a12), .v (I a3), .v (I b), .v (I b1), .v (I b2), .v (I n), .v (I q), .v (I r), .no] ∧ a12 * H + a3 = q * b + r ∧ r < b ∧ k = (-r).toNat) ⟨q, _, rfl, by (first | lia | omega), hlt, rfl⟩ ?_)
      rintro k μ' ⟨q', r', rfl, e2, hr3, rfl⟩
      refine ⟨_, by (first | ((with_reducible refine' Ts.cmp ?wz1 ?hlz1 ?hrz1 ?hcz1 ?hmz1); (case wz1 => walk_at "w"); (case hlz1 => walk_at "ev"); (case hrz1 => walk_at "ev"); (case hcz1 => (first | with_reducible exact Cmp.lt_int _ _ | with_reducible exact Cmp.le_int _ _ | with_reducible exact Cmp.gt_int _ _ | with_reducible exact Cmp.ge_int _ _ | with_reducible exact Cmp.eq_st _ _ | with_reducible exact Cmp.ne_st _ _ | with_reducible exact Cmp.eq_data _ _ rfl rfl | with_reducible exact Cmp.ne_data _ _ rfl rfl)); (case hmz1 => with_unfolding_all rfl)) | ((with_reducible refine' Ts.val ?wz1 ?hez1 ?htz1 ?hsz1); (case wz1 => walk_at "w"); (case hez1 => walk_at "ev"); (case htz1 => first | exact Tru.int _ | exact Tru.bool _); (case hsz1 => rfl))), fun hc => ?_, fun hc => ?_⟩
      · have hc := of_decide_eq_true hc
        (((with_reducible refine' Ex.cons (Ex1.aug ?wz2 ?hvz2 ?hmz2 ?hez2 ?hoz2 ?hkz2 ?hqz2)); (case wz2 => walk_at "w"); (case hvz2 => walk_at "hv"); (case hmz2 => rfl); (case hez2 => walk_at "ev"); (case hoz2 => (first | with_reducible exact Inp.add_int _ _ | with_reducible exact Inp.sub_int _ _ | ((with_reducible refine Inp.rshift_int _ _ ?_); walk_at "side") | ((with_reducible refine Inp.lshift_int _ _ ?_ ?_) <;> walk_at "side"))); (case hkz2 => first | exact .inl rfl | exact .inr rfl); (dsimp only [Then, List.set])))
        (((with_reducible refine' Ex.cons (Ex1.aug ?wz3 ?hvz3 ?hmz3 ?hez3 ?hoz3 ?hkz3 ?hqz3)); (case wz3 => walk_at "w"); (case hvz3 => walk_at "hv"); (case hmz3 => rfl); (case hez3 => walk_at "ev"); (case hoz3 => (first | with_reducible exact Inp.add_int _ _ | with_reducible exact Inp.sub_int _ _ | ((with_reducible refine Inp.rshift_int _ _ ?_); walk_at "side") | ((with_reducible refine Inp.lshift_int _ _ ?_ ?_) <;> walk_at "side"))); (case hkz3 => first | exact .inl rfl | exact .inr rfl); (dsimp only [Then, List.set])))
        refine Ex.nil (w _) ⟨_, ?_, _, _, rfl, ?_, ?_, rfl⟩
        · (first | lia | omega)
        · rw [Int.sub_mul]; (first | lia | omega)
        · (first | lia | omega)
      · have hc := of_decide_eq_false hc
        dsimp only [Then]
        (((with_reducible refine' Ex.cons (Ex1.ret ?wz4 ?hez4 ?hqz4)); (case wz4 => walk_at "w"); (case hez4 => walk_at "ev"); dsimp only [Then]))
        have hd : (a12 * H + a3) / b = q' := by
          rw [e2, Int.add_comm, Int.add_mul_ediv_right _ _ (Int.ne_of_gt hb), Int.ediv_eq_zero_of_lt (by (first | lia | omega)) hr3]; (first | lia | omega)
        have hm : (a12 * H + a3) % b = r' := by
          rw [e2, Int.add_comm, Int.add_mul_emod_self_right, Int.emod_eq_of_lt (by (first | lia | omega)) hr3]
        rw [hd, hm]
        rfl

theorem div2_of {G : Gd} {p : Params} (m : Gm G p) (d : Nat) (a b : Int) (n : Nat) (h : DivPre a b n) (hn : n ≤ 2 ^ 23)
    (ih : ¬ ((Builtin.Int.intBits a : Int) - n ≤ 4000) → ∀ (a12 a3 b b1 b2 : Int) (k : Nat), 2 * k ≤ n + 1 → Div3Pre a12 a3 b b1 b2 k → Spec G d (.ref 101) [I a12, I a3, I b, I b1, I b2, I k] (TT [.int ((a12 * 2 ^ k + a3) / b), .int ((a12 * 2 ^ k + a3) % b)])) :
    Spec G (d + 1) (.ref 94) [I a, I b, I n] (TT [.int (a / b), .int (a % b)]) := by
  have g := m.g
  obtain ⟨h1, h2, h3, h4⟩ := h
  have hb : 0 < b := by
    have : (0 : Int) < 2 ^ n := Int.pow_pos (by decide)
    (first | lia | omega)
  have hbn : Bits b n := Bits.of_lt (by (first | lia | omega)) h4
  have han : Bits a (n + n) := Bits.of_lt h1 (by
    have : b * 2 ^ n < 2 ^ n * 2 ^ n := Int.mul_lt_mul_of_pos_right h4 (Int.pow_pos (by decide))
    rw [Int.pow_add]; (first | lia | omega))
  refine Spec.intro m.g (by rw [m.K]; rfl) (by dsimp only) (by dsimp only) (by dsimp only) (by rw [m.K]; rfl) rfl rfl rfl rfl (by decide +kernel) (by dsimp only [List.map]) (by dsimp only [List.map])
    (by exact arg3 fun _ _ _ => rfl) rfl (by rfl) (nos := List.replicate 11 .no) (by rfl) (by rfl) (by rfl) rfl rfl rfl (by dsimp only [List.map, List.replicate, HAppend.hAppend, Append.append, List.append]) ?_
  intro A L cells cm HH w hcm
  refine Ex.cons (Ex1.ite (w _) (Ts.cmp (w _) (by walk_at "ev") (m.dlim (w _) (by walk_at "hv")) (Cmp.le_int _ _)) (fun hc => ?_) fun hc => ?_)
  · have hc := of_decide_eq_true hc
    have hB : n ≤ Builtin.Int.intBits b + 0 := by
      cases n with
      | zero => exact Nat.zero_le _
      | succ k =>
        have : ¬ Builtin.Int.intBits b ≤ k := fun q => by
          have := bits_of q
          unfold Bits at this
          have e : (b.natAbs : Int) < ((2 ^ k : Nat) : Int) := by exact_mod_cast this
          rw [Int.natAbs_of_nonneg (by (first | lia | omega))] at e
          rw [Int.pow_succ] at h3
          simp at e; (first | lia | omega)
        (first | lia | omega)
    have := Spec.divmod (G := G) d a b (Int.ne_of_gt hb) (noPylong (by (first | lia | omega)))
    rw [Int.fdiv_eq_ediv_of_nonneg _ (by (first | lia | omega)), Int.fmod_eq_emod_of_nonneg _ (by (first | lia | omega))] at this
    refine Ex.cons (Ex1.ret (w _) (Ev.call g (w _) m.divmod (by walk_at "hv") (Kp.builtin _) (by walk_at "evl") this rfl) ?_)
    rfl
  · have hc := of_decide_eq_false hc
    have hn0 : 0 < n := by
      cases n with
      | zero => rw [Int.pow_zero] at h4; (first | lia | omega)
      | succ k => (first | lia | omega)
    refine Ex.nil (w _) ?_
    dsimp only [Then]
    (((with_reducible refine' Ex.cons (Ex1.set ?wz5 ?hez5 ?hvz5 ?hiz5 ?hkz5 ?hsz5 ?hqz5)); (case wz5 => walk_at "w"); (case hez5 => walk_at "ev"); (case hvz5 => walk_at "hv"); (case hiz5 => exact Nat.le_of_ble_eq_true rfl); (case hkz5 => first | exact .inl rfl | exact .inr rfl); (case hsz5 => rfl); (dsimp only [Then, List.set])))
    rw [bitAnd_m1]
    have ih := ih hc
    refine Ex.cons (Ex1.mono (Q' := fun o => ∃ (a' b' : Int) (k e : Nat), o = .next [.v (I a'), .v (I b'), .v (I (2 * (k : Int))), .v (I e), .no, .no, .no, .no, .no, .no, .no, .no, .no, .no] ∧ a' = a * 2 ^ e ∧ b' = b * 2 ^ e ∧ 2 * k = n + e ∧ e ≤ 1) ?_ ?_)
    · refine Ex1.ite (w _) (by (first | ((with_reducible refine' Ts.cmp ?wz6 ?hlz6 ?hrz6 ?hcz6 ?hmz6); (case wz6 => walk_at "w"); (case hlz6 => walk_at "ev"); (case hrz6 => walk_at "ev"); (case hcz6 => (first | with_reducible exact Cmp.lt_int _ _ | with_reducible exact Cmp.le_int _ _ | with_reducible exact Cmp.gt_int _ _ | with_reducible exact Cmp.ge_int _ _ | with_reducible exact Cmp.eq_st _ _ | with_reducible exact Cmp.ne_st _ _ | with_reducible exact Cmp.eq_data _ _ rfl rfl | with_reducible exact Cmp.ne_data _ _ rfl rfl)); (case hmz6 => with_unfolding_all rfl)) | ((with_reducible refine' Ts.val ?wz6 ?hez6 ?htz6 ?hsz6); (case wz6 => walk_at "w"); (case hez6 => walk_at "ev"); (case htz6 => first | exact Tru.int _ | exact Tru.bool _); (case hsz6 => rfl)))) (fun hc => ?_) fun hc => ?_
      · have hc : (n : Int) % 2 ≠ 0 := by simpa using hc
        have l1 : (Builtin.Int.intBits a : Int) + 1 ≤ 2 ^ 27 := lsh_ok han (by (first | lia | omega))
        have l2 : (Builtin.Int.intBits b : Int) + 1 ≤ 2 ^ 27 := lsh_ok hbn (by (first | lia | omega))
        (((with_reducible refine' Ex.cons (Ex1.aug ?wz7 ?hvz7 ?hmz7 ?hez7 ?hoz7 ?hkz7 ?hqz7)); (case wz7 => walk_at "w"); (case hvz7 => walk_at "hv"); (case hmz7 => rfl); (case hez7 => walk_at "ev"); (case hoz7 => (first | with_reducible exact Inp.add_int _ _ | with_reducible exact Inp.sub_int _ _ | ((with_reducible refine Inp.rshift_int _ _ ?_); walk_at "side") | ((with_reducible refine Inp.lshift_int _ _ ?_ ?_) <;> walk_at "side"))); (case hkz7 => first | exact .inl rfl | exact .inr rfl); (dsimp only [Then, List.set])))
        (((with_reducible refine' Ex.cons (Ex1.aug ?wz8 ?hvz8 ?hmz8 ?hez8 ?hoz8 ?hkz8 ?hqz8)); (case wz8 => walk_at "w"); (case hvz8 => walk_at "hv"); (case hmz8 => rfl); (case hez8 => walk_at "ev"); (case hoz8 => (first | with_reducible exact Inp.add_int _ _ | with_reducible exact Inp.sub_int _ _ | ((with_reducible refine Inp.rshift_int _ _ ?_); walk_at "side") | ((with_reducible refine Inp.lshift_int _ _ ?_ ?_) <;> walk_at "side"))); (case hkz8 => first | exact .inl rfl | exact .inr rfl); (dsimp only [Then, List.set])))
        (((with_reducible refine' Ex.cons (Ex1.aug ?wz9 ?hvz9 ?hmz9 ?hez9 ?hoz9 ?hkz9 ?hqz9)); (case wz9 => walk_at "w"); (case hvz9 => walk_at "hv"); (case hmz9 => rfl); (case hez9 => walk_at "ev"); (case hoz9 => (first | with_reducible exact Inp.add_int _ _ | with_reducible exact Inp.sub_int _ _ | ((with_reducible refine Inp.rshift_int _ _ ?_); walk_at "side") | ((with_reducible refine Inp.lshift_int _ _ ?_ ?_) <;> walk_at "side"))); (case hkz9 => first | exact .inl rfl | exact .inr rfl); (dsimp only [Then, List.set])))
        refine Ex.nil (w _) ⟨_, _, (n + 1) / 2, 1, ?_, rfl, rfl, by (first | lia | omega), by (first | lia | omega)⟩
        have e1 : (n : Int) % 2 = ((1 : Nat) : Int) := by (first | lia | omega)
        have e2 : (n : Int) + 1 = 2 * (((n + 1) / 2 : Nat) : Int) := by (first | lia | omega)
        rw [e1, e2]; rfl
      · have hc : (n : Int) % 2 = 0 := by simpa using hc
        refine Ex.nil (w _) ⟨a, b, n / 2, 0, ?_, by simp, by simp, by (first | lia | omega), by (first | lia | omega)⟩
        have e2 : (n : Int) = 2 * ((n / 2 : Nat) : Int) := by (first | lia | omega)
        rw [hc]; conv => lhs; rw [e2]
        rfl
    · rintro o ⟨a', b', k, e, rfl, ea, eb, ek, he⟩
      dsimp only [Then]
      have hp : (0 : Int) < 2 ^ k := Int.pow_pos (by decide)
      have h2e : (0 : Int) < 2 ^ e := Int.pow_pos (by decide)
      have hkk : (2 : Int) ^ (2 * (k : Int)).toNat = 2 ^ k * 2 ^ k := by
        have : (2 * (k : Int)).toNat = k + k := by (first | lia | omega)
        rw [this, Int.pow_add]
      have hkk' : (2 : Int) ^ n * 2 ^ e = 2 ^ k * 2 ^ k := by rw [← Int.pow_add, ← Int.pow_add, show n + e = k + k by (first | lia | omega)]
      have ha0 : 0 ≤ a' := by rw [ea]; exact Int.mul_nonneg h1 (by (first | lia | omega))
      have hb0 : 0 < b' := by rw [eb]; exact Int.mul_pos hb h2e
      have hbK : b' < 2 ^ k * 2 ^ k := by rw [eb, ← hkk']; exact Int.mul_lt_mul_of_pos_right h4 h2e
      have hbK2 : 2 ^ k * 2 ^ k ≤ 2 * b' := by
        rw [eb, ← hkk', ← Int.mul_assoc]; exact Int.mul_le_mul_of_nonneg_right h3 (by (first | lia | omega))
      have hab : a' < b' * (2 ^ k * 2 ^ k) := by
        rw [ea]
        have h5 : a * 2 ^ e < (b * 2 ^ n) * 2 ^ e := Int.mul_lt_mul_of_pos_right h2 h2e
        have h6 : (b * 2 ^ n) * 2 ^ e = b * (2 ^ k * 2 ^ k) := by rw [Int.mul_assoc, hkk']
        have h7 : b * (2 ^ k * 2 ^ k) ≤ b' * (2 ^ k * 2 ^ k) := Int.mul_le_mul_of_nonneg_right (by
          rw [eb]
          have : b * 1 ≤ b * 2 ^ e := Int.mul_le_mul_of_nonneg_left (by (first | lia | omega)) (by (first | lia | omega))
          (first | lia | omega)) (Int.le_of_lt (Int.mul_pos hp hp))
        (first | lia | omega)
      have hTk : (2 : Int) ^ (k : Int).toNat = 2 ^ k := by rw [Int.toNat_natCast]
      have hl1 : (Builtin.Int.intBits 1 : Int) + (k : Int) ≤ 2 ^ 27 := lsh_ok (k := 1) (by unfold Bits; decide) (by (first | lia | omega))
      have hh : (2 * (k : Int)).fdiv (2 ^ (1 : Int).toNat) = k := by
        rw [fdiv_pow]; show 2 * (k : Int) / 2 = k; (first | lia | omega)
      (((with_reducible refine' Ex.cons (Ex1.set ?wz10 ?hez10 ?hvz10 ?hiz10 ?hkz10 ?hsz10 ?hqz10)); (case wz10 => walk_at "w"); (case hez10 => walk_at "ev"); (case hvz10 => walk_at "hv"); (case hiz10 => exact Nat.le_of_ble_eq_true rfl); (case hkz10 => first | exact .inl rfl | exact .inr rfl); (case hsz10 => rfl); (dsimp only [Then, List.set])))
      rw [hh]
      (((with_reducible refine' Ex.cons (Ex1.set ?wz11 ?hez11 ?hvz11 ?hiz11 ?hkz11 ?hsz11 ?hqz11)); (case wz11 => walk_at "w"); (case hez11 => walk_at "ev"); (case hvz11 => walk_at "hv"); (case hiz11 => exact Nat.le_of_ble_eq_true rfl); (case hkz11 => first | exact .inl rfl | exact .inr rfl); (case hsz11 => rfl); (dsimp only [Then, List.set])))
      rw [hTk, Int.one_mul]
      generalize hK : (2 : Int) ^ k = K at *
      have hm1 := Int.mul_ediv_add_emod b' K
      have hm2 := Int.emod_nonneg b' (Int.ne_of_gt hp)
      have hm3 := Int.emod_lt_of_pos b' hp
      have hn1 := Int.mul_ediv_add_emod a' K
      have hn2 := Int.emod_nonneg a' (Int.ne_of_gt hp)
      have hn3 := Int.emod_lt_of_pos a' hp
      have ha1 : 0 ≤ a' / K := Int.ediv_nonneg ha0 (by (first | lia | omega))
      have hn4 := Int.mul_ediv_add_emod (a' / K) K
      have hn5 := Int.emod_nonneg (a' / K) (Int.ne_of_gt hp)
      have hn6 := Int.emod_lt_of_pos (a' / K) hp
      have hdd : a' / K / K = a' / (K * K) := Int.ediv_ediv_of_nonneg (by (first | lia | omega))
      refine Ex.cons (Ex1.swap (w _) (names := ["b1", "b2"]) (ds := [.int (b' / K), .int (b' % K)]) (Ev.tuple' (w _) (EvL.cons (w _) (Ev.int_eq (by walk_at "ev") (by rw [fdiv_pow, hTk])) (EvL.cons (w _) (Ev.int_eq (by walk_at "ev") (by rw [← hK, and_mask _ _ (by (first | lia | omega))])) EvL.nil rfl) rfl) (.cons (.cons .nil)) rfl) ?_ rfl rfl rfl)
      refine AsN.cons (w _) (by walk_at "hv") (Nat.le_of_ble_eq_true rfl) (.inl rfl) (AsN.cons (w _) (by walk_at "hv") (Nat.le_of_ble_eq_true rfl) (.inl rfl) (AsN.nil (w _) ?_))
      dsimp only [Then, List.set]
      have hb1 : b' / K < K := Int.ediv_lt_of_lt_mul hp hbK
      have hb2 : K ≤ 2 * (b' / K) := by
        have : ¬ 2 * (b' / K) + 1 ≤ K := fun q => by
          have h3 : (2 * (b' / K) + 1) * K ≤ K * K := Int.mul_le_mul_of_nonneg_right q (by (first | lia | omega))
          have h4 : (2 * (b' / K) + 1) * K = 2 * (K * (b' / K)) + K := by rw [Int.add_mul, Int.mul_assoc, Int.mul_comm (b' / K)]; (first | lia | omega)
          -- K even, or K = 1
          have h5 : K = 1 ∨ ∃ j, K = 2 * j := by
            rw [← hK]
            cases k with
            | zero => left; rfl
            | succ k => right; exact ⟨2 ^ k, by rw [Int.pow_succ]; (first | lia | omega)⟩
          rcases h5 with h5 | ⟨j, h5⟩
          · rw [h5] at hb1 q hm1 hbK2; (first | lia | omega)
          · have h6 : 2 * (b' / K) + 2 ≤ K := by (first | lia | omega)
            have h7 : (2 * (b' / K) + 2) * K ≤ K * K := Int.mul_le_mul_of_nonneg_right h6 (by (first | lia | omega))
            have h8 : (2 * (b' / K) + 2) * K = 2 * (K * (b' / K)) + 2 * K := by rw [Int.add_mul, Int.mul_assoc, Int.mul_comm (b' / K)]
            (first | lia | omega)
        (first | lia | omega)
      have hA : a' / (K * K) < b' := Int.ediv_lt_of_lt_mul (Int.mul_pos hp hp) hab
      have hA0 : 0 ≤ a' / (K * K) := Int.ediv_nonneg ha0 (Int.le_of_lt (Int.mul_pos hp hp))
      have pre1 : Div3Pre (a' / (K * K)) (a' / K % K) b' (b' / K) (b' % K) k := by
        refine ⟨hA0, hA, hn5, by rw [hK]; exact hn6, by rw [hK, Int.mul_comm]; (first | lia | omega), hm2, by rw [hK]; exact hm3, by rw [hK]; exact hb2, by rw [hK]; exact hb1⟩
      have s1 := ih _ _ _ _ _ k (by (first | lia | omega)) pre1
      have ez : a' / (K * K) * 2 ^ k + a' / K % K = a' / K := by rw [hK, ← hdd, Int.mul_comm]; (first | lia | omega)
      rw [ez] at s1
      refine Ex.cons (Ex1.unpack (w _) (Ev.call g (w _) m.div3 (by walk_at "hv") m.kdiv3
        (EvL.cons (w _) (Ev.int_eq (by walk_at "ev") (by rw [fdiv_pow, hkk])) (EvL.cons (w _) (Ev.int_eq (by walk_at "ev") (by rw [fdiv_pow, hTk, ← hK, and_mask _ _ (by rw [hK]; exact ha1), hK])) (by walk_at "evl") rfl) rfl) s1 rfl) ?_ rfl rfl rfl rfl)
      refine AsL.cons (As.name (w _) (by walk_at "hv") (Nat.le_of_ble_eq_true rfl) (.inl rfl) (AsL.cons (As.name (w _) (by walk_at "hv") (Nat.le_of_ble_eq_true rfl) (.inl rfl) (AsL.nil (w _) ?_)) rfl)) rfl
      dsimp only [Then, List.set]
      have hr0 := Int.emod_nonneg (a' / K) (Int.ne_of_gt hb0)
      have hr1 := Int.emod_lt_of_pos (a' / K) hb0
      have pre2 : Div3Pre (a' / K % b') (a' % K) b' (b' / K) (b' % K) k := by
        refine ⟨hr0, hr1, hn2, by rw [hK]; exact hn3, by rw [hK, Int.mul_comm]; (first | lia | omega), hm2, by rw [hK]; exact hm3, by rw [hK]; exact hb2, by rw [hK]; exact hb1⟩
      have s2 := ih _ _ _ _ _ k (by (first | lia | omega)) pre2
      rw [hK] at s2
      refine Ex.cons (Ex1.unpack (w _) (Ev.call g (w _) m.div3 (by walk_at "hv") m.kdiv3
        (EvL.cons (w _) (by walk_at "ev") (EvL.cons (w _) (Ev.int_eq (by walk_at "ev") (by rw [← hK, and_mask _ _ ha0])) (by walk_at "evl") rfl) rfl) s2 rfl) ?_ rfl rfl rfl rfl)
      refine AsL.cons (As.name (w _) (by walk_at "hv") (Nat.le_of_ble_eq_true rfl) (.inl rfl) (AsL.cons (As.name (w _) (by walk_at "hv") (Nat.le_of_ble_eq_true rfl) (.inl rfl) (AsL.nil (w _) ?_)) rfl)) rfl
      dsimp only [Then, List.set]
      obtain ⟨d1, d2⟩ := div_step a' b' hb0 K hp (a' / K / b') (a' / K % b') (a' / K) (a' % K) (by rw [Int.mul_comm]; (first | lia | omega)) hn2 hn3 (by have := Int.mul_ediv_add_emod (a' / K) b'; rw [Int.mul_comm]; (first | lia | omega)) hr0 hr1
      rw [← d2]
      have hmod : a' % b' = a % b * 2 ^ e := by rw [ea, eb, Int.mul_comm a, Int.mul_comm b, Int.mul_emod_mul_of_pos _ _ h2e, Int.mul_comm]
      have hdiv : a' / b' = a / b := by rw [ea, eb, Int.mul_ediv_mul_of_pos_left _ _ h2e]
      have hq0 : 0 ≤ a' / K / b' := Int.ediv_nonneg ha1 (by (first | lia | omega))
      have hz0 : 0 ≤ a' / K % b' * K + a' % K := by
        have := Int.mul_nonneg hr0 (Int.le_of_lt hp)
        (first | lia | omega)
      have hq2 : 0 ≤ (a' / K % b' * K + a' % K) / b' := Int.ediv_nonneg hz0 (by (first | lia | omega))
      have hq3 : (a' / K % b' * K + a' % K) / b' < K := Int.ediv_lt_of_lt_mul hb0 (by
        have h3 : (a' / K % b' + 1) * K ≤ b' * K := Int.mul_le_mul_of_nonneg_right (by (first | lia | omega)) (by (first | lia | omega))
        rw [Int.add_mul] at h3
        rw [Int.mul_comm K b']; (first | lia | omega))
      have hq4 : a' / K / b' < K := Int.ediv_lt_of_lt_mul hb0 (Int.ediv_lt_of_lt_mul hp (by
        have : K * b' * K = b' * (K * K) := by rw [Int.mul_comm K b', Int.mul_assoc]
        rw [this]; exact hab))
      have hlq : (Builtin.Int.intBits (a' / K / b') : Int) + (k : Int) ≤ 2 ^ 27 := lsh_ok (k := k) (Bits.of_lt hq0 (by rw [hK]; exact hq4)) (by (first | lia | omega))
      refine Ex.cons (Ex1.mono (Q' := fun o => ∃ sl : Slot, o = .next [.v (I a'), .v (I b'), .v (I (2 * (k : Int))), .v (I e), .v (I k), .v (I (K - 1)), .v (I (b' / K)), .v (I (b' % K)), .v (I (a' / K / b')), .v (I (a % b)), .v (I ((a' / K % b' * K + a' % K) / b')), .no, .no, .no]) ?_ ?_)
      · refine Ex1.ite (w _) (by (first | ((with_reducible refine' Ts.cmp ?wz12 ?hlz12 ?hrz12 ?hcz12 ?hmz12); (case wz12 => walk_at "w"); (case hlz12 => walk_at "ev"); (case hrz12 => walk_at "ev"); (case hcz12 => (first | with_reducible exact Cmp.lt_int _ _ | with_reducible exact Cmp.le_int _ _ | with_reducible exact Cmp.gt_int _ _ | with_reducible exact Cmp.ge_int _ _ | with_reducible exact Cmp.eq_st _ _ | with_reducible exact Cmp.ne_st _ _ | with_reducible exact Cmp.eq_data _ _ rfl rfl | with_reducible exact Cmp.ne_data _ _ rfl rfl)); (case hmz12 => with_unfolding_all rfl)) | ((with_reducible refine' Ts.val ?wz12 ?hez12 ?htz12 ?hsz12); (case wz12 => walk_at "w"); (case hez12 => walk_at "ev"); (case htz12 => first | exact Tru.int _ | exact Tru.bool _); (case hsz12 => rfl)))) (fun hc => ?_) fun hc => ?_
        · have he1 : e = 1 := by
            have : ¬ ((e : Int) = 0) := by simpa using hc
            (first | lia | omega)
          (((with_reducible refine' Ex.cons (Ex1.aug ?wz13 ?hvz13 ?hmz13 ?hez13 ?hoz13 ?hkz13 ?hqz13)); (case wz13 => walk_at "w"); (case hvz13 => walk_at "hv"); (case hmz13 => rfl); (case hez13 => walk_at "ev"); (case hoz13 => (first | with_reducible exact Inp.add_int _ _ | with_reducible exact Inp.sub_int _ _ | ((with_reducible refine Inp.rshift_int _ _ ?_); walk_at "side") | ((with_reducible refine Inp.lshift_int _ _ ?_ ?_) <;> walk_at "side"))); (case hkz13 => first | exact .inl rfl | exact .inr rfl); (dsimp only [Then, List.set])))
          refine Ex.nil (w _) ⟨.no, ?_⟩
          have e2 : (a' % b').fdiv (2 ^ (1 : Int).toNat) = a % b := by
            rw [hmod, he1, fdiv_pow]
            show a % b * 2 / 2 = a % b
            (first | lia | omega)
          rw [e2]
        · have he0 : e = 0 := by
            have : (e : Int) = 0 := by simpa using hc
            (first | lia | omega)
          refine Ex.nil (w _) ⟨.no, ?_⟩
          rw [hmod, he0]; simp
      · rintro o ⟨_, rfl⟩
        dsimp only [Then]
        (((with_reducible refine' Ex.cons (Ex1.ret ?wz14 ?hez14 ?hqz14)); (case wz14 => walk_at "w"); (case hez14 => walk_at "ev"); dsimp only [Then]))
        have er : Builtin.bitOr (a' / K / b' * 2 ^ (k : Int).toNat) ((a' / K % b' * K + a' % K) / b') = a / b := by
          rw [Int.toNat_natCast, or_shift _ _ _ hq0 hq2 (by rw [hK]; exact hq3), hK, ← d1, hdiv]
        rw [er]
        rfl

theorem div2_all {G : Gd} {p : Params} (m : Gm G p) : ∀ (k : Nat) (a b : Int) (n : Nat), n ≤ 4000 * 2 ^ k → n ≤ 2 ^ 23 → DivPre a b n → Spec G (2 * k + 1) (.ref 94) [I a, I b, I n] (TT [.int (a / b), .int (a % b)])
  | 0, a, b, n, hk, hn, h => div2_of m 0 a b n h hn fun hc => by
    have han : Builtin.Int.intBits a ≤ n + n := (Bits.of_lt h.1 (by
      have : b * 2 ^ n < 2 ^ n * 2 ^ n := Int.mul_lt_mul_of_pos_right h.2.2.2 (Int.pow_pos (by decide))
      rw [Int.pow_add]; have := h.2.1; (first | lia | omega))).intBits
    (first | lia | omega)
  | k + 1, a, b, n, hk, hn, h => div2_of m (2 * k + 2) a b n h hn fun hc a12 a3 b b1 b2 j hj pre =>
    div3_of m (2 * k + 1) a12 a3 b b1 b2 j pre (by (first | lia | omega)) fun a b pre2 => div2_all m k a b j (by rw [Nat.pow_succ] at hk; (first | lia | omega)) (by (first | lia | omega)) pre2
theorem div2_spec {G : Gd} {p : Params} (m : Gm G p) (a b : Int) (n : Nat) (hn : n ≤ 2 ^ 23) (h : DivPre a b n) : Spec G 25 (.ref 94) [I a, I b, I n] (TT [.int (a / b), .int (a % b)]) := div2_all m 12 a b n (by (first | lia | omega)) hn h

/-! # P2 -/

/-- the number that these digits spell, the least first -/
theorem dval_append (n : Nat) : ∀ a b : List Int, dval n (a ++ b) = dval n a + 2 ^ (n * a.length) * dval n b
  | [], b => by simp [dval]
  | d :: r, b => by
    simp only [List.cons_append, dval, List.length_cons]
    rw [dval_append n r b, Nat.mul_succ, Nat.add_comm, Int.pow_add, Int.mul_add, Int.mul_assoc]; (first | lia | omega)
theorem dval_bnd (n m : Nat) (hn : 0 < n) : ∀ a : List Int, (∀ d ∈ a, Bits d m) → (dval n a).natAbs + 2 ^ m ≤ 2 ^ (m + n * a.length)
  | [], _ => by simp [dval]
  | d :: r, h => by
    have h1 := h d (.head _)
    have h2 := dval_bnd n m hn r fun x hx => h x (.tail _ hx)
    simp only [dval, List.length_cons]
    unfold Bits at h1
    have h3 : (d + 2 ^ n * dval n r).natAbs ≤ d.natAbs + 2 ^ n * (dval n r).natAbs := by
      refine Nat.le_trans (Int.natAbs_add_le _ _) ?_
      rw [Int.natAbs_mul, Int.natAbs_pow]; exact Nat.le_refl _
    have h4 : 2 ^ n * ((dval n r).natAbs + 2 ^ m) ≤ 2 ^ n * 2 ^ (m + n * r.length) := Nat.mul_le_mul_left _ h2
    have h6 : 2 ^ (m + n * (r.length + 1)) = 2 ^ n * 2 ^ (m + n * r.length) := by rw [← Nat.pow_add]; congr 1; rw [Nat.mul_succ]; (first | lia | omega)
    have h7 : 2 ^ 1 ≤ 2 ^ n := Nat.pow_le_pow_right (by decide) hn
    have h8 : 2 ^ 1 * 2 ^ m ≤ 2 ^ n * 2 ^ m := Nat.mul_le_mul_right _ h7
    rw [h6]
    rw [Nat.mul_add] at h4
    (first | lia | omega)
theorem dval_bits (n m : Nat) (hn : 0 < n) (a : List Int) (h : ∀ d ∈ a, Bits d m) : Bits (dval n a) (m + n * a.length) := by
  have := dval_bnd n m hn a h
  have := Nat.two_pow_pos m
  unfold Bits; (first | lia | omega)

theorem dval_split (n : Nat) (ds : List Int) (l m r : Nat) (h1 : l ≤ m) (h2 : m ≤ r) (h3 : r ≤ ds.length) : dval n ((ds.drop l).take (r - l)) = dval n ((ds.drop m).take (r - m)) * 2 ^ ((m - l) * n) + dval n ((ds.drop l).take (m - l)) := by
  have e : (ds.drop l).take (r - l) = (ds.drop l).take (m - l) ++ (ds.drop m).take (r - m) := by
    rw [show r - l = (m - l) + (r - m) by (first | lia | omega), List.take_add, List.drop_drop, show l + (m - l) = m by (first | lia | omega)]
  rw [e, dval_append, List.length_take, List.length_drop, Nat.min_eq_left (by (first | lia | omega)), Nat.mul_comm n, Int.mul_comm]; (first | lia | omega)

theorem d2i_spec {G : Gd} {p : Params} (m : Gm G p) (ds : List Int) (n wd : Nat) (hn : 0 < n) (hw : ∀ d ∈ ds, Bits d wd) (hl : ds.length ≤ 100000) (hb : wd + n * ds.length ≤ 2 ^ 25) : Spec G 40 (.ref 115) [L (ds.map .int), I n] (I (dval n ds)) := by
  have g := m.g
  refine Spec.intro m.g (by rw [m.K]; rfl) (by dsimp only) (by dsimp only) (by dsimp only) (by rw [m.K]; rfl) rfl rfl rfl rfl (by decide +kernel) (by dsimp only [List.map]) (by dsimp only [List.map])
    (by exact arg2 fun _ _ => rfl) rfl (by rfl) (nos := List.replicate 2 .no) (by rfl) (by rfl) (by rfl) rfl rfl rfl (by dsimp only [List.map, List.replicate, HAppend.hAppend, Append.append, List.append]) ?_
  intro A L cells cm HH w hcm
  refine Ex.def (q := tabD) (w _) g (by rw [m.tabs]; exact .head _) [.free, .free, .free, .globalImplicit] rfl rfl rfl (by kernel_rfl) rfl rfl rfl ?_ (by walk_at "hv") (Nat.le_of_ble_eq_true rfl) rfl ?_ ?_
  · exact FreeAll.mem ⟨(w HH).cellOf 0 _ _ rfl rfl (.inl rfl), (w HH).cellOf 2 _ _ rfl rfl (.inl rfl), (w HH).cellOf 1 _ _ rfl rfl (.inl rfl), trivial⟩
  · intro a ha
    rcases List.mem_cons.mp ha with rfl | ha
    · exact .inl rfl
    · rcases List.mem_append.mp ha with ha | ha
      · exact .inr (.inr (hcm a ha))
      · exact .inr (.inl ha)
  · intro fa c' ctv doc pm h1 hst hT hfa hrec hcl wX
    dsimp only [List.set]
    have g1 : Gr (G.on h1) := g.up hst hT
    obtain ⟨vd, cd, ed, icd, _, _⟩ := hcl 0 _ _ rfl rfl rfl (by intro z; cases z)
    obtain ⟨vn, cn, en, icn, _, _⟩ := hcl 1 _ _ rfl rfl rfl (by intro z; cases z)
    obtain ⟨vi, ci, ei, ici, _, hvi⟩ := hcl 2 _ _ rfl rfl rfl (by intro z; cases z)
    cases hvi fa rfl
    have hfs : ∀ x, (x, NameKind.free) ∈ ([("L", .local), ("R", .local), ("mid", .local), ("shift", .local), ("digits", .free), ("inner", .free), ("n", .free)] : List (Str × NameKind)) → ∃ c v, cells.lookup x = some c ∧ h1.IsCell c v := FreeAll.mem ⟨⟨cd, _, ed, icd⟩, ⟨ci, _, ei, ici⟩, ⟨cn, _, en, icn⟩, trivial⟩
    have hfs' : ∀ x, (x, NameKind.free) ∈ ([("L", .local), ("R", .local), ("mid", .local), ("shift", .local), ("digits", .free), ("inner", .free), ("n", .free)] : List (Str × NameKind)) → (cells.lookup x).isSome = true := fun x hx => by
      obtain ⟨c, v, q, _⟩ := hfs x hx; rw [q]; rfl
    have frl : ∀ {X : Cx} {μ : List Slot}, HV X.vars X.kinds "digits" 4 .free → HV X.vars X.kinds "n" 6 .free → HV X.vars X.kinds "inner" 5 .free → X.env.cells = clo ((fnCx G [] [] default default default cells [] 0 A 0 L 0)).env [("L", .local), ("R", .local), ("mid", .local), ("shift", .local), ("digits", .free), ("inner", .free), ("n", .free)] [] →
        μ[4]? = some (.v (.d (.list (ds.map .int)))) → μ[6]? = some (.v (I n)) → μ[5]? = some (.v (.rf fa)) → Frl (G.on h1) X μ [(vd, .d (.list (ds.map .int))), (vn, I n), (.ref fa, .rf fa)] := fun {X μ} q1 q2 q3 hc m1 m2 m3 p hp => by
      have hfs'' : ∀ x, (x, NameKind.free) ∈ ([("L", .local), ("R", .local), ("mid", .local), ("shift", .local), ("digits", .free), ("inner", .free), ("n", .free)] : List (Str × NameKind)) → ((fnCx G [] [] default default default cells [] 0 A 0 L 0).env.cells.lookup x).isSome = true := hfs'
      rcases List.mem_cons.mp hp with rfl | hp
      · exact ⟨4, "digits", cd, q1, m1, by rw [hc]; exact clo_look hfs'' (by simp) ed, icd⟩
      · rcases List.mem_cons.mp hp with rfl | hp
        · exact ⟨6, "n", cn, q2, m2, by rw [hc]; exact clo_look hfs'' (by simp) en, icn⟩
        · rcases List.mem_cons.mp hp with rfl | hp
          · exact ⟨5, "inner", ci, q3, m3, by rw [hc]; exact clo_look hfs'' (by simp) ei, ici⟩
          · cases hp
    have cloE : ∀ (e1 e2 : Env) (N : List (Str × NameKind)) acc, e1.cells = e2.cells → clo e1 N acc = clo e2 N acc := by
      intro e1 e2 N
      induction N with
      | nil => intro acc _; rfl
      | cons a N ih => intro acc e; obtain ⟨x, k⟩ := a; unfold clo; rw [e]; split <;> exact ih _ e
    have step : ∀ (d l r : Nat), l < r → r ≤ ds.length →
        (∀ l' r', l' < r' → r' ≤ ds.length → 2 * (r' - l') ≤ r - l + 1 → 1 < r - l → SpecC (G.on h1) d fa [(vd, .d (.list (ds.map .int))), (vn, I n), (.ref fa, .rf fa)] [I l', I r'] (I (dval n ((ds.drop l').take (r' - l'))))) →
        SpecC (G.on h1) (d + 1) fa [(vd, .d (.list (ds.map .int))), (vn, I n), (.ref fa, .rf fa)] [I l, I r] (I (dval n ((ds.drop l).take (r - l)))) := by
      intro d l r hlr hr ih A s D vs hh hdp hu gs hTD hdom hfr hargs
      obtain ⟨v1, v2, rfl, r1, r2⟩ := two_args hargs
      refine clo_core g1 (d := d) (Q := Fin (I (dval n ((ds.drop l).take (r - l))))) (μ0 := [.v (I l), .v (I r), .no, .no, .v (.d (.list (ds.map .int))), .v (.rf fa), .v (I n)]) (ps := ["L", "R"]) (scope := { kind := .function, names := [("L", .local), ("R", .local), ("mid", .local), ("shift", .local), ("digits", .free), ("inner", .free), ("n", .free)], isGenerator := false, isCoroutine := false }) hfa rfl rfl rfl hrec rfl rfl rfl rfl (by decide +kernel) (by dsimp only [List.map]) (by dsimp only [List.map]) rfl rfl rfl rfl rfl (clo_hfr hfs') (clo_hinj hfs' (w HH).cinj) (clo_hcel hfs) rfl rfl rfl hh (by (first | lia | omega)) (by (first | lia | omega)) gs hTD hdom
        List.nodup_nil (fun a ha => by cases ha) (OwnAll.at trivial) ?_ ?_ (fun v s' g' k' e => ?_) (fun ν => ⟨id, id⟩)
      · exact Fits3.at ⟨.inr (.inl ⟨_, _, rfl, r1, .inl ⟨rfl, .head _⟩⟩), .inr (.inl ⟨_, _, rfl, r2, .inl ⟨rfl, .tail _ (.head _)⟩⟩), .inl rfl, .inl rfl, .inr (.inl ⟨_, _, rfl, hfr _ (.head _), .inr ⟨rfl, cd, clo_look hfs' (by simp) ed, icd⟩⟩),
          .inr (.inl ⟨_, _, rfl, hfr _ (.tail _ (.tail _ (.head _))), .inr ⟨rfl, ci, clo_look hfs' (by simp) ei, ici⟩⟩), .inr (.inl ⟨_, _, rfl, hfr _ (.tail _ (.head _)), .inr ⟨rfl, cn, clo_look hfs' (by simp) en, icn⟩⟩), trivial⟩
      · intro A L' HH' w'
        refine Ex.cons (Ex1.ite (w' _) (Ts.cmp (w' _) (by walk_at "ev") (by walk_at "ev") (Cmp.eq_data _ _ rfl rfl)) (fun hc => ?_) fun hc => ?_)
        · have hc : r = l + 1 := by
            have : ((l : Int) + 1 == (r : Int)) = true := hc
            have := eq_of_beq this; (first | lia | omega)
          subst hc
          have hg : (ds.map PyData.int)[((l : Nat) : Int).toNat]? = some (.int (ds[l]'(by (first | lia | omega)))) := by
            rw [Int.toNat_natCast, List.getElem?_map, List.getElem?_eq_getElem (by (first | lia | omega))]; rfl
          refine Ex.cons (Ex1.ret (w' _) (Ev.idx_list (w' _) (by walk_at "ev") (by walk_at "ev") (by (first | lia | omega)) (by (first | lia | omega)) hg) ?_)
          have e : dval n ((ds.drop l).take (l + 1 - l)) = ds[l]'(by (first | lia | omega)) := by
            rw [show l + 1 - l = 1 by (first | lia | omega), List.drop_eq_getElem_cons (by (first | lia | omega))]
            show ds[l]'(by (first | lia | omega)) + 2 ^ n * 0 = _
            (first | lia | omega)
          rw [e]; rfl
        · have hc : r ≠ l + 1 := fun q => by
            have h2 : ((l : Int) + 1 == (r : Int)) = false := hc
            subst q; simp at h2
          refine Ex.nil (w' _) ?_
          dsimp only [Then]
          (((with_reducible refine' Ex.cons (Ex1.set ?wz15 ?hez15 ?hvz15 ?hiz15 ?hkz15 ?hsz15 ?hqz15)); (case wz15 => walk_at "w"); (case hez15 => walk_at "ev"); (case hvz15 => walk_at "hv"); (case hiz15 => exact Nat.le_of_ble_eq_true rfl); (case hkz15 => first | exact .inl rfl | exact .inr rfl); (case hsz15 => rfl); (dsimp only [Then, List.set])))
          have hm : ((l : Int) + (r : Int)).fdiv (2 ^ (1 : Int).toNat) = (((l + r) / 2 : Nat) : Int) := by
            rw [fdiv_pow]; show ((l : Int) + (r : Int)) / 2 = _; (first | lia | omega)
          rw [hm]
          generalize hM : (l + r) / 2 = mid at *
          have hlm : l < mid := by (first | lia | omega)
          have hmr : mid < r := by (first | lia | omega)
          have hmul : IntMulOk ((mid : Int) - (l : Int)) (n : Int) := mulOk (n := 17) (m := 26) (by unfold Bits; (first | lia | omega)) (by
            have : n * 1 ≤ n * ds.length := Nat.mul_le_mul_left _ (by (first | lia | omega))
            unfold Bits; (first | lia | omega)) (by (first | lia | omega))
          (((with_reducible refine' Ex.cons (Ex1.set ?wz16 ?hez16 ?hvz16 ?hiz16 ?hkz16 ?hsz16 ?hqz16)); (case wz16 => walk_at "w"); (case hez16 => walk_at "ev"); (case hvz16 => walk_at "hv"); (case hiz16 => exact Nat.le_of_ble_eq_true rfl); (case hkz16 => first | exact .inl rfl | exact .inr rfl); (case hsz16 => rfl); (dsimp only [Then, List.set])))
          have hsh : ((mid : Int) - (l : Int)) * (n : Int) = (((mid - l) * n : Nat) : Int) := by
            rw [Int.natCast_mul, Int.natCast_sub (by (first | lia | omega))]
          rw [hsh]
          have s1 := ih mid r hmr hr (by (first | lia | omega)) (by (first | lia | omega))
          have s2 := ih l mid hlm (by (first | lia | omega)) (by (first | lia | omega)) (by (first | lia | omega))
          have hbv : Bits (dval n ((ds.drop mid).take (r - mid))) (wd + n * (r - mid)) := by
            have := dval_bits n wd hn ((ds.drop mid).take (r - mid)) fun d hd => hw d (List.mem_of_mem_drop (List.mem_of_mem_take hd))
            rwa [List.length_take, List.length_drop, Nat.min_eq_left (by (first | lia | omega))] at this
          have hls : (Builtin.Int.intBits (dval n ((ds.drop mid).take (r - mid))) : Int) + (((mid - l) * n : Nat) : Int) ≤ 2 ^ 27 := lsh_ok hbv (by
            have h1 : n * (r - mid) + (mid - l) * n = n * (r - l) := by rw [Nat.mul_comm (mid - l), ← Nat.mul_add]; congr 1; (first | lia | omega)
            have h2 : n * (r - l) ≤ n * ds.length := Nat.mul_le_mul_left _ (by (first | lia | omega))
            (first | lia | omega))
          refine Ex.cons (Ex1.ret (w' _) (Ev.bin (w' _) (Ev.bin (w' _) (Ev.callc (w' _) (by walk_at "hv") rfl ⟨_, _, _, _, hfa⟩ (by walk_at "evl") ?_ s1 rfl) (by walk_at "ev") (by walk_at "bin")) (Ev.callc (w' _) (by walk_at "hv") rfl ⟨_, _, _, _, hfa⟩ (by walk_at "evl") ?_ s2 rfl) (by walk_at "bin")) ?_)
          · exact frl (by walk_at "hv") (by walk_at "hv") (by walk_at "hv") (cloE _ _ _ _ rfl) rfl rfl rfl
          · exact frl (by walk_at "hv") (by walk_at "hv") (by walk_at "hv") (cloE _ _ _ _ rfl) rfl rfl rfl
          · show I _ = I _
            rw [Int.toNat_natCast, ← dval_split n ds l mid r (by (first | lia | omega)) (by (first | lia | omega)) hr]
      · rcases e with ⟨ν, t, q, r, _⟩ | ⟨ν, rfl, q, _⟩
        · have q : t = I _ := q
          subst q
          exact ⟨⟨g', fun b o n e => k' b o n (fun z => by cases z) e⟩, r⟩
        · cases q
    have inner : ∀ (k l r : Nat), l < r → r ≤ ds.length → r - l ≤ 2 ^ k → SpecC (G.on h1) (k + 1) fa [(vd, .d (.list (ds.map .int))), (vn, I n), (.ref fa, .rf fa)] [I l, I r] (I (dval n ((ds.drop l).take (r - l)))) := by
      intro k
      induction k with
      | zero => exact fun l r h1 h2 h3 => step 0 l r h1 h2 fun l' r' _ _ _ h => by (first | lia | omega)
      | succ k ih => exact fun l r h1 h2 h3 => step (k + 1) l r h1 h2 fun l' r' q1 q2 q3 _ => ih l' r' q1 q2 (by rw [Nat.pow_succ] at h3; (first | lia | omega))
    by_cases h0 : ds = []
    · subst h0
      refine Ex.cons (Ex1.ret wX (t := I 0) (Ev.ifexp_f wX (Ts.val wX (by walk_at "ev") (Tru.list [] (by decide)) rfl) (by walk_at "ev")) ⟨_, _, rfl, rfl⟩)
    · have hp : 0 < ds.length := by cases ds with | nil => exact absurd rfl h0 | cons _ _ => simp
      have s0 := inner 17 0 ds.length hp (Nat.le_refl _) (by (first | lia | omega))
      have e0 : dval n ((ds.drop 0).take (ds.length - 0)) = dval n ds := by simp
      rw [e0] at s0
      have s1 : SpecC (G.on h1) 39 fa [(vd, .d (.list (ds.map .int))), (vn, I n), (.ref fa, .rf fa)] [I 0, I ((ds.map PyData.int).length : Nat)] (I (dval n ds)) := by
        rw [List.length_map]; exact s0.mono (by (first | lia | omega))
      have ht : ((ds.map PyData.int).length != 0) = true := by simp; exact h0
      refine Ex.cons (Ex1.ret wX (Ev.ifexp_t wX (ht ▸ Ts.val wX (by walk_at "ev") (Tru.list _ (by simpa using hl)) rfl)
        (Ev.callc wX (by walk_at "hv") rfl ⟨_, _, _, _, hfa⟩ (EvL.cons wX Ev.int (EvL.cons wX (Ev.call g1 wX m.len (by walk_at "hv") (Kp.builtin _) (by walk_at "evl") (Spec.len_list _ _ (by simp; (first | lia | omega))) rfl) EvL.nil rfl) rfl) (fun p hp => ?_) s1 rfl)) ⟨_, _, rfl, rfl⟩)
      rcases List.mem_cons.mp hp with rfl | hp
      · exact ⟨0, "digits", cd, by walk_at "hv", rfl, ed, icd⟩
      · rcases List.mem_cons.mp hp with rfl | hp
        · exact ⟨1, "n", cn, by walk_at "hv", rfl, en, icn⟩
        · rcases List.mem_cons.mp hp with rfl | hp
          · exact ⟨2, "inner", ci, by walk_at "hv", rfl, ei, ici⟩
          · cases hp

/-! # P3 -/
set_option maxHeartbeats 2000000

/-- the first k digits of x, the least first -/
theorem digs_len (n : Nat) : ∀ (k : Nat) (x : Int), (digs n k x).length = k
  | 0, _ => rfl
  | k + 1, x => by simp [digs, digs_len n k]
theorem digs_add (n : Nat) : ∀ (j k : Nat) (x : Int), digs n (j + k) x = digs n j x ++ digs n k (x / 2 ^ (j * n))
  | 0, k, x => by simp [digs]
  | j + 1, k, x => by
    rw [show j + 1 + k = (j + k) + 1 by (first | lia | omega)]
    simp only [digs, List.cons_append]
    rw [digs_add n j k, Int.ediv_ediv_of_nonneg (Int.le_of_lt (Int.pow_pos (by decide))), ← Int.pow_add, Nat.succ_mul, Nat.add_comm n]
theorem mod_div (x a b : Int) (ha : 0 < a) (hb : 0 < b) : x % (a * b) / a = x / a % b := by
  have h1 := Int.mul_ediv_add_emod x a
  have h2 := Int.emod_nonneg x (Int.ne_of_gt ha)
  have h3 := Int.emod_lt_of_pos x ha
  have h4 := Int.mul_ediv_add_emod (x / a) b
  have h5 := Int.emod_nonneg (x / a) (Int.ne_of_gt hb)
  have h6 := Int.emod_lt_of_pos (x / a) hb
  have e : x = (a * (x / a % b) + x % a) + (a * b) * (x / a / b) := by
    have : a * (x / a) = a * (b * (x / a / b)) + a * (x / a % b) := by rw [← Int.mul_add, h4]
    rw [Int.mul_assoc]; (first | lia | omega)
  have h7 : (x / a % b + 1) * a ≤ b * a := Int.mul_le_mul_of_nonneg_right (by (first | lia | omega)) (by (first | lia | omega))
  have h8 : 0 ≤ a * (x / a % b) := Int.mul_nonneg (by (first | lia | omega)) h5
  rw [Int.add_mul, Int.mul_comm _ a, Int.mul_comm b a] at h7
  have h9 : x % (a * b) = a * (x / a % b) + x % a := by
    conv => lhs; rw [e]
    rw [Int.add_mul_emod_self_left, Int.emod_eq_of_lt (by (first | lia | omega)) (by (first | lia | omega))]
  rw [h9, Int.add_comm, Int.add_mul_ediv_left _ _ (Int.ne_of_gt ha), Int.ediv_eq_zero_of_lt h2 h3]; (first | lia | omega)
theorem digs_mod (n : Nat) : ∀ (j : Nat) (x : Int), digs n j (x % 2 ^ (j * n)) = digs n j x
  | 0, x => rfl
  | j + 1, x => by
    have hp : (0 : Int) < 2 ^ n := Int.pow_pos (by decide)
    have hq : (0 : Int) < 2 ^ (j * n) := Int.pow_pos (by decide)
    have e : (2 : Int) ^ ((j + 1) * n) = 2 ^ n * 2 ^ (j * n) := by rw [← Int.pow_add]; congr 1; rw [Nat.succ_mul]; (first | lia | omega)
    simp only [digs]
    have h1 : x % 2 ^ ((j + 1) * n) % 2 ^ n = x % 2 ^ n := by rw [e]; exact Int.emod_emod_of_dvd _ (Int.dvd_mul_right _ _)
    have h2 : x % 2 ^ ((j + 1) * n) / 2 ^ n = x / 2 ^ n % 2 ^ (j * n) := by
      rw [e]; exact mod_div x _ _ hp hq
    rw [h1, h2, digs_mod n j]

/-- the digits l..r of a list, put in place -/
def put (ts : List Int) (l : Nat) (ds : List Int) : List Int := ts.take l ++ ds ++ ts.drop (l + ds.length)
theorem put_len (ts : List Int) (l : Nat) (ds : List Int) (h : l + ds.length ≤ ts.length) : (put ts l ds).length = ts.length := by
  unfold put; simp; (first | lia | omega)
theorem put_one (ts : List Int) (l : Nat) (d : Int) (h : l < ts.length) : ts.set l d = put ts l [d] := by
  unfold put
  rw [List.set_eq_take_append_cons_drop, if_pos h]
  simp
theorem put_put (ts : List Int) (l : Nat) (a b : List Int) (h : l + a.length + b.length ≤ ts.length) : put (put ts l a) (l + a.length) b = put ts l (a ++ b) := by
  unfold put
  have e1 : (ts.take l ++ a ++ ts.drop (l + a.length)).take (l + a.length) = ts.take l ++ a := by
    rw [List.take_append_of_le_length (by simp; (first | lia | omega)), List.take_of_length_le (by simp; (first | lia | omega))]
  have e2 : (ts.take l ++ a ++ ts.drop (l + a.length)).drop (l + a.length + b.length) = ts.drop (l + (a ++ b).length) := by
    rw [List.drop_append]
    have hl : (ts.take l ++ a).length = l + a.length := by simp; (first | lia | omega)
    rw [List.drop_of_length_le (by rw [hl]; (first | lia | omega)), hl, List.nil_append, List.drop_drop]
    congr 1; simp; (first | lia | omega)
  rw [e1, e2]; simp [List.append_assoc]
theorem digs_nonneg (n : Nat) : ∀ (k : Nat) (x : Int), ∀ d ∈ digs n k x, 0 ≤ d ∧ d < 2 ^ n
  | 0, _, d, h => by cases h
  | k + 1, x, d, h => by
    have hp : (0 : Int) < 2 ^ n := Int.pow_pos (by decide)
    rcases List.mem_cons.mp h with rfl | h
    · exact ⟨Int.emod_nonneg _ (Int.ne_of_gt hp), Int.emod_lt_of_pos _ hp⟩
    · exact digs_nonneg n k _ d h
theorem dval_digs (n : Nat) : ∀ (k : Nat) (x : Int), 0 ≤ x → x < 2 ^ (k * n) → dval n (digs n k x) = x
  | 0, x, h0, h1 => by simp at h1; simp [digs, dval]; (first | lia | omega)
  | k + 1, x, h0, h1 => by
    have hp : (0 : Int) < 2 ^ n := Int.pow_pos (by decide)
    simp only [digs, dval]
    have e : (2 : Int) ^ ((k + 1) * n) = 2 ^ (k * n) * 2 ^ n := by rw [← Int.pow_add]; congr 1; rw [Nat.succ_mul]
    rw [dval_digs n k _ (Int.ediv_nonneg h0 (by (first | lia | omega))) (Int.ediv_lt_of_lt_mul hp (by rw [← e]; exact h1))]
    have := Int.mul_ediv_add_emod x (2 ^ n)
    (first | lia | omega)

theorem i2d_spec {G : Gd} {p : Params} (m : Gm G p) (a : Int) (n : Nat) (hn : 0 < n) (ha : 0 ≤ a) (hna : n ≤ 2 ^ 25) (hb : Bits a (2 ^ 25)) (hk : (Builtin.Int.intBits a + n - 1) / n ≤ 100000) :
    Spec G 40 (.ref 108) [I a, I n] (L ((digs n ((Builtin.Int.intBits a + n - 1) / n) a).map .int)) := by
  have g := m.g
  refine Spec.intro m.g (by rw [m.K]; rfl) (by dsimp only) (by dsimp only) (by dsimp only) (by rw [m.K]; rfl) rfl rfl rfl rfl (by decide +kernel) (by dsimp only [List.map]) (by dsimp only [List.map])
    (by exact arg2 fun _ _ => rfl) rfl (by rfl) (nos := List.replicate 3 .no) (by rfl) (by rfl) (by rfl) rfl rfl rfl (by dsimp only [List.map, List.replicate, HAppend.hAppend, Append.append, List.append]) ?_
  intro A L cells cm HH w hcm
  have hn0 : (n : Int) ≠ 0 := by (first | lia | omega)
  have hpy : Builtin.divisionGoesByPylong ((Builtin.Int.intBits a : Int) + (n : Int) - 1) (n : Int) = false := noPylong' (by
    have : Bits (n : Int) 26 := by unfold Bits; (first | lia | omega)
    have := this.intBits; (first | lia | omega))
  generalize hK : (Builtin.Int.intBits a + n - 1) / n = k at *
  have hkv : ((Builtin.Int.intBits a : Int) + (n : Int) - 1).fdiv (n : Int) = (k : Int) := by
    rw [Int.fdiv_eq_ediv_of_nonneg _ (by (first | lia | omega)), ← hK, Int.natCast_ediv]
    congr 1; (first | lia | omega)
  refine Ex.cons (Ex1.setV (w _) (EvV.bin (w _) (Wk.refl _) (a := .d (.list [.int 0])) (b := I k) (ds := (List.replicate k 0).map .int) (by walk_at "ev") (Ev.int_eq (by walk_at "ev") hkv) ?_ ?_) (by walk_at "hv") (Nat.le_of_ble_eq_true rfl) (.inr rfl) rfl ?_)
  · have := BinN.mul_list (G := G) [.int 0] (k : Int) (by (first | lia | omega)) (by (first | lia | omega)) (by simp; (first | lia | omega))
    rw [Int.toNat_natCast, flat_one] at this
    rw [List.map_replicate]; exact this
  · rw [List.all_map]; simp [atm]
  · rintro _ ⟨ad, rfl⟩
    dsimp only [Then, List.set]
    refine Ex.def (q := tabI) (w _) g (by rw [m.tabs]; exact .tail _ (.head _)) [.local, .free, .free, .free, .globalImplicit] rfl rfl rfl (by kernel_rfl) rfl rfl rfl ?_ (by walk_at "hv") (Nat.le_of_ble_eq_true rfl) rfl ?_ ?_
    · exact FreeAll.mem ⟨(w HH).cellOf 2 _ _ rfl rfl (.inl rfl), (w HH).cellOf 3 _ _ rfl rfl (.inl rfl), (w HH).cellOf 1 _ _ rfl rfl (.inl rfl), trivial⟩
    · intro a ha
      rcases List.mem_cons.mp ha with rfl | ha
      · exact .inl rfl
      · rcases List.mem_append.mp ha with ha | ha
        · exact .inr (.inr (hcm a ha))
        · exact .inr (.inl ha)
    intro fa c' ctv doc pm h1 hst hT hfa hrec hcl wX
    dsimp only [List.set]
    have g1 : Gr (G.on h1) := g.up hst hT
    obtain ⟨vn, cn, en, icn, _, _⟩ := hcl 1 _ _ rfl rfl rfl (by intro z; cases z)
    obtain ⟨vd, cd, ed, icd, hvd, _⟩ := hcl 2 _ _ rfl rfl rfl (by intro z; cases z)
    cases hvd ad _ rfl
    obtain ⟨vi, ci, ei, ici, _, hvi⟩ := hcl 3 _ _ rfl rfl rfl (by intro z; cases z)
    cases hvi fa rfl
    have hfs : ∀ x, (x, NameKind.free) ∈ ([("x", .local), ("L", .local), ("R", .local), ("mid", .local), ("shift", .local), ("upper", .local), ("lower", .local), ("a_digits", .free), ("inner", .free), ("n", .free)] : List (Str × NameKind)) → ∃ c v, cells.lookup x = some c ∧ h1.IsCell c v := FreeAll.mem ⟨⟨cd, _, ed, icd⟩, ⟨ci, _, ei, ici⟩, ⟨cn, _, en, icn⟩, trivial⟩
    have hfs' : ∀ x, (x, NameKind.free) ∈ ([("x", .local), ("L", .local), ("R", .local), ("mid", .local), ("shift", .local), ("upper", .local), ("lower", .local), ("a_digits", .free), ("inner", .free), ("n", .free)] : List (Str × NameKind)) → (cells.lookup x).isSome = true := fun x hx => by
      obtain ⟨c, v, q, _⟩ := hfs x hx; rw [q]; rfl
    have cloE : ∀ (e1 e2 : Env) (N : List (Str × NameKind)) acc, e1.cells = e2.cells → clo e1 N acc = clo e2 N acc := by
      intro e1 e2 N
      induction N with
      | nil => intro acc _; rfl
      | cons a N ih => intro acc e; obtain ⟨x, k⟩ := a; unfold clo; rw [e]; split <;> exact ih _ e
    have frl : ∀ {X : Cx} {μ : List Slot}, HV X.vars X.kinds "inner" 8 .free → HV X.vars X.kinds "n" 9 .free → X.env.cells = clo ((fnCx G [] [] default default default cells [] 0 A 0 L 0)).env [("x", .local), ("L", .local), ("R", .local), ("mid", .local), ("shift", .local), ("upper", .local), ("lower", .local), ("a_digits", .free), ("inner", .free), ("n", .free)] [] →
        μ[8]? = some (.v (.rf fa)) → μ[9]? = some (.v (I n)) → Frl (G.on h1) X μ [(.ref fa, .rf fa), (vn, I n)] := fun {X μ} q1 q2 hc m1 m2 p hp => by
      have hfs'' : ∀ x, (x, NameKind.free) ∈ ([("x", .local), ("L", .local), ("R", .local), ("mid", .local), ("shift", .local), ("upper", .local), ("lower", .local), ("a_digits", .free), ("inner", .free), ("n", .free)] : List (Str × NameKind)) → ((fnCx G [] [] default default default cells [] 0 A 0 L 0).env.cells.lookup x).isSome = true := hfs'
      rcases List.mem_cons.mp hp with rfl | hp
      · exact ⟨8, "inner", ci, q1, m1, by rw [hc]; exact clo_look hfs'' (by simp) ei, ici⟩
      · rcases List.mem_cons.mp hp with rfl | hp
        · exact ⟨9, "n", cn, q2, m2, by rw [hc]; exact clo_look hfs'' (by simp) en, icn⟩
        · cases hp
    have step : ∀ (d l r : Nat) (x : Int) (zs : List Int), l < r → r ≤ zs.length → zs.length ≤ 100000 → 0 ≤ x → x < 2 ^ ((r - l) * n) → (r - l) * n ≤ 2 ^ 26 →
        (∀ (x' : Int) (zs' : List Int) l' r', l' < r' → r' ≤ zs'.length → zs'.length ≤ 100000 → 2 * (r' - l') ≤ r - l + 1 → 1 < r - l → 0 ≤ x' → x' < 2 ^ ((r' - l') * n) → (r' - l') * n ≤ 2 ^ 26 → SpecI (G.on h1) d fa [(.ref fa, .rf fa), (vn, I n)] ad [I x', I l', I r'] (zs'.map .int) ((put zs' l' (digs n (r' - l') x')).map .int)) →
        SpecI (G.on h1) (d + 1) fa [(.ref fa, .rf fa), (vn, I n)] ad [I x, I l, I r] (zs.map .int) ((put zs l (digs n (r - l) x)).map .int) := by
      intro d l r x zs hlr hr hz hx0 hx1 hrl ih A s D vs ws hh hdp hu gs hTD hdom hadG hadD hpl hall hfr hargs
      obtain ⟨v1, v2, v3, rfl, r1, r2, r3⟩ := three_args hargs
      refine clo_core g1 (d := d) (Q := fun o => (∃ ν t, o = .ret ν t ∧ t = .d .none ∧ ν[7]? = some (.own ad ((put zs l (digs n (r - l) x)).map .int))) ∨ (∃ ν, o = .next ν ∧ ν[7]? = some (.own ad ((put zs l (digs n (r - l) x)).map .int))))
        (μ0 := [.v (I x), .v (I l), .v (I r), .no, .no, .no, .no, .own ad (zs.map .int), .v (.rf fa), .v (I n)]) (ps := ["x", "L", "R"])
        (scope := { kind := .function, names := [("x", .local), ("L", .local), ("R", .local), ("mid", .local), ("shift", .local), ("upper", .local), ("lower", .local), ("a_digits", .free), ("inner", .free), ("n", .free)], isGenerator := false, isCoroutine := false })
        hfa rfl rfl rfl hrec rfl rfl rfl rfl (by decide +kernel) (by dsimp only [List.map]) (by dsimp only [List.map]) rfl rfl rfl rfl rfl (clo_hfr hfs') (clo_hinj hfs' (w HH).cinj) (clo_hcel hfs) rfl rfl rfl hh (by (first | lia | omega)) (by (first | lia | omega)) gs hTD hdom
        (List.nodup_cons.mpr ⟨List.not_mem_nil, List.nodup_nil⟩) (fun a ha => by rcases List.mem_cons.mp ha with rfl | ha; exact ⟨hadG, hadD⟩; cases ha) (OwnAll.at ⟨⟨ws, hpl, hall⟩, trivial⟩) ?_ ?_ (fun v s' g' k' e => ?_) (fun ν => ⟨fun z => ?_, fun z => ?_⟩)
      · exact Fits3.at ⟨.inr (.inl ⟨_, _, rfl, r1, .inl ⟨rfl, .head _⟩⟩), .inr (.inl ⟨_, _, rfl, r2, .inl ⟨rfl, .tail _ (.head _)⟩⟩), .inr (.inl ⟨_, _, rfl, r3, .inl ⟨rfl, .tail _ (.tail _ (.head _))⟩⟩), .inl rfl, .inl rfl, .inl rfl, .inl rfl,
          .inr (.inr ⟨_, _, rfl, rfl, cd, clo_look hfs' (by simp) ed, icd⟩), .inr (.inl ⟨_, _, rfl, hfr _ (.head _), .inr ⟨rfl, ci, clo_look hfs' (by simp) ei, ici⟩⟩), .inr (.inl ⟨_, _, rfl, hfr _ (.tail _ (.head _)), .inr ⟨rfl, cn, clo_look hfs' (by simp) en, icn⟩⟩), trivial⟩
      · intro A L' HH' w'
        refine Ex.cons (Ex1.ite (w' _) (Ts.cmp (w' _) (by walk_at "ev") (by walk_at "ev") (Cmp.eq_data _ _ rfl rfl)) (fun hc => ?_) fun hc => ?_)
        · have hc : r = l + 1 := by
            have : ((l : Int) + 1 == (r : Int)) = true := hc
            have := eq_of_beq this; (first | lia | omega)
          subst hc
          refine Ex.cons (Ex1.setItem (w' _) (by walk_at "hv") rfl (by walk_at "ev") (by walk_at "ev") (by (first | lia | omega)) (by simp; (first | lia | omega)) (by simp; (first | lia | omega)) rfl ?_)
          dsimp only [Then, List.set]
          refine Ex.cons (Ex1.ret0 (w' _) (.inl ⟨_, _, rfl, rfl, ?_⟩))
          have e : x % 2 ^ n = x := Int.emod_eq_of_lt hx0 (by rw [show l + 1 - l = 1 by (first | lia | omega), Nat.one_mul] at hx1; exact hx1)
          have e2 : put zs l (digs n (l + 1 - l) x) = zs.set l x := by
            rw [show l + 1 - l = 1 by (first | lia | omega), put_one zs l x (by (first | lia | omega))]; simp [digs, e]
          rw [e2, List.map_set, Int.toNat_natCast]; rfl
        · have hc : r ≠ l + 1 := fun q => by
            have h2 : ((l : Int) + 1 == (r : Int)) = false := hc
            subst q; simp at h2
          refine Ex.nil (w' _) ?_
          dsimp only [Then]
          (((with_reducible refine' Ex.cons (Ex1.set ?wz17 ?hez17 ?hvz17 ?hiz17 ?hkz17 ?hsz17 ?hqz17)); (case wz17 => walk_at "w"); (case hez17 => walk_at "ev"); (case hvz17 => walk_at "hv"); (case hiz17 => exact Nat.le_of_ble_eq_true rfl); (case hkz17 => first | exact .inl rfl | exact .inr rfl); (case hsz17 => rfl); (dsimp only [Then, List.set])))
          have hm : ((l : Int) + (r : Int)).fdiv (2 ^ (1 : Int).toNat) = (((l + r) / 2 : Nat) : Int) := by
            rw [fdiv_pow]; show ((l : Int) + (r : Int)) / 2 = _; (first | lia | omega)
          rw [hm]
          generalize hM : (l + r) / 2 = mid at *
          have hlm : l < mid := by (first | lia | omega)
          have hmr : mid < r := by (first | lia | omega)
          have hsz : (mid - l) * n + (r - mid) * n = (r - l) * n := by rw [← Nat.add_mul]; congr 1; (first | lia | omega)
          have hmul : IntMulOk ((mid : Int) - (l : Int)) (n : Int) := mulOk (n := 17) (m := 26) (by unfold Bits; (first | lia | omega)) (by unfold Bits; (first | lia | omega)) (by (first | lia | omega))
          (((with_reducible refine' Ex.cons (Ex1.set ?wz18 ?hez18 ?hvz18 ?hiz18 ?hkz18 ?hsz18 ?hqz18)); (case wz18 => walk_at "w"); (case hez18 => walk_at "ev"); (case hvz18 => walk_at "hv"); (case hiz18 => exact Nat.le_of_ble_eq_true rfl); (case hkz18 => first | exact .inl rfl | exact .inr rfl); (case hsz18 => rfl); (dsimp only [Then, List.set])))
          have hsh : ((mid : Int) - (l : Int)) * (n : Int) = (((mid - l) * n : Nat) : Int) := by
            rw [Int.natCast_mul, Int.natCast_sub (by (first | lia | omega))]
          rw [hsh]
          generalize hSh : (mid - l) * n = sh at *
          have hp : (0 : Int) < 2 ^ sh := Int.pow_pos (by decide)
          (((with_reducible refine' Ex.cons (Ex1.set ?wz19 ?hez19 ?hvz19 ?hiz19 ?hkz19 ?hsz19 ?hqz19)); (case wz19 => walk_at "w"); (case hez19 => walk_at "ev"); (case hvz19 => walk_at "hv"); (case hiz19 => exact Nat.le_of_ble_eq_true rfl); (case hkz19 => first | exact .inl rfl | exact .inr rfl); (case hsz19 => rfl); (dsimp only [Then, List.set])))
          have hup : x.fdiv (2 ^ ((sh : Nat) : Int).toNat) = x / 2 ^ sh := by rw [fdiv_pow, Int.toNat_natCast]
          rw [hup]
          have hu0 : 0 ≤ x / 2 ^ sh := Int.ediv_nonneg hx0 (by (first | lia | omega))
          have hu1 : x / 2 ^ sh < 2 ^ ((r - mid) * n) := Int.ediv_lt_of_lt_mul hp (by rw [← Int.pow_add, Nat.add_comm, hsz]; exact hx1)
          have hls : (Builtin.Int.intBits (x / 2 ^ sh) : Int) + ((sh : Nat) : Int) ≤ 2 ^ 27 := lsh_ok (Bits.of_lt hu0 hu1) (by (first | lia | omega))
          (((with_reducible refine' Ex.cons (Ex1.set ?wz20 ?hez20 ?hvz20 ?hiz20 ?hkz20 ?hsz20 ?hqz20)); (case wz20 => walk_at "w"); (case hez20 => walk_at "ev"); (case hvz20 => walk_at "hv"); (case hiz20 => exact Nat.le_of_ble_eq_true rfl); (case hkz20 => first | exact .inl rfl | exact .inr rfl); (case hsz20 => rfl); (dsimp only [Then, List.set])))
          have hlo : Builtin.bitXor x (x / 2 ^ sh * 2 ^ ((sh : Nat) : Int).toNat) = x % 2 ^ sh := by rw [Int.toNat_natCast]; exact xor_high x sh hx0
          rw [hlo]
          have hl0 := Int.emod_nonneg x (Int.ne_of_gt hp)
          have hl1 := Int.emod_lt_of_pos x hp
          have s1 := ih (x % 2 ^ sh) zs l mid hlm (by (first | lia | omega)) hz (by (first | lia | omega)) (by (first | lia | omega)) hl0 (by rw [hSh]; exact hl1) (by (first | lia | omega))
          rw [← hSh, digs_mod] at s1
          have hp1 : (put zs l (digs n (mid - l) x)).length = zs.length := put_len _ _ _ (by rw [digs_len]; (first | lia | omega))
          have s2 := ih (x / 2 ^ sh) (put zs l (digs n (mid - l) x)) mid r hmr (by (first | lia | omega)) (by (first | lia | omega)) (by (first | lia | omega)) (by (first | lia | omega)) hu0 hu1 (by (first | lia | omega))
          have hpp : put (put zs l (digs n (mid - l) x)) mid (digs n (r - mid) (x / 2 ^ sh)) = put zs l (digs n (r - l) x) := by
            have h1 := put_put zs l (digs n (mid - l) x) (digs n (r - mid) (x / 2 ^ sh)) (by rw [digs_len, digs_len]; (first | lia | omega))
            rw [digs_len, show l + (mid - l) = mid by (first | lia | omega)] at h1
            rw [h1, ← hSh, ← digs_add, show mid - l + (r - mid) = r - l by (first | lia | omega)]
          rw [hpp] at s2
          rw [hSh] at s1
          refine Ex.cons (Ex1.calli (w' _) (by walk_at "hv") rfl ⟨_, _, _, _, hfa⟩ (by walk_at "evl") (frl (by walk_at "hv") (by walk_at "hv") (cloE _ _ _ _ rfl) rfl rfl) (j := 7) rfl rfl s1 ?_ rfl rfl rfl)
          dsimp only [Then, List.set]
          refine Ex.cons (Ex1.calli (w' _) (by walk_at "hv") rfl ⟨_, _, _, _, hfa⟩ (by walk_at "evl") (frl (by walk_at "hv") (by walk_at "hv") (cloE _ _ _ _ rfl) rfl rfl) (j := 7) rfl rfl s2 ?_ rfl rfl rfl)
          dsimp only [Then, List.set]
          exact Ex.nil (w' _) (.inr ⟨_, rfl, rfl⟩)
      · have fin : ∀ ν : List Slot, (∀ (i : Nat) a ts, ([.v (I x), .v (I l), .v (I r), .no, .no, .no, .no, .own ad (zs.map .int), .v (.rf fa), .v (I n)] : List Slot)[i]? = some (.own a ts) → ∀ ts', ν[i]? = some (.own a ts') → ∃ ws, s'.heap.PlainList a ws ∧ AllRd s'.heap (owns ν ++ D) ws.toList ts') →
            ν[7]? = some (.own ad ((put zs l (digs n (r - l) x)).map .int)) → ∃ ws', s'.heap.PlainList ad ws' ∧ AllRd s'.heap (ad :: D) ws'.toList ((put zs l (digs n (r - l) x)).map .int) := fun ν h e => by
          obtain ⟨ws', q1, q2⟩ := h 7 ad _ rfl _ e
          exact ⟨ws', q1, q2.atm (by rw [List.all_map]; simp [atm])⟩
        have kk : ∀ b o, b ∉ (G.on h1).T → b ≠ ad → s.heap.get? b = some o → s'.heap.get? b = some o := fun b o n1 n2 e => k' b o n1 (fun z => by rcases List.mem_cons.mp z with z | z; exact n2 z; cases z) e
        rcases e with ⟨ν, t, q, rr, hl⟩ | ⟨ν, rfl, q, hl⟩
        · rcases q with ⟨_, _, e, rfl, q⟩ | ⟨_, e, _⟩
          · cases e
            cases rr
            exact ⟨rfl, g', kk, fin ν hl q⟩
          · cases e
        · rcases q with ⟨_, _, e, _, _⟩ | ⟨_, e, q⟩
          · cases e
          · cases e
            exact ⟨rfl, g', kk, fin ν hl q⟩
      · rcases z with ⟨_, _, e, _⟩ | ⟨_, e, _⟩ <;> cases e
      · rcases z with ⟨_, _, e, _⟩ | ⟨_, e, _⟩ <;> cases e
    have inner : ∀ (k : Nat) (x : Int) (zs : List Int) (l r : Nat), l < r → r ≤ zs.length → zs.length ≤ 100000 → 0 ≤ x → x < 2 ^ ((r - l) * n) → (r - l) * n ≤ 2 ^ 26 → r - l ≤ 2 ^ k →
        SpecI (G.on h1) (k + 1) fa [(.ref fa, .rf fa), (vn, I n)] ad [I x, I l, I r] (zs.map .int) ((put zs l (digs n (r - l) x)).map .int) := by
      intro k
      induction k with
      | zero => exact fun x zs l r q1 q2 q3 q4 q5 q6 q7 => step 0 l r x zs q1 q2 q3 q4 q5 q6 fun _ _ l' r' _ _ _ _ h => by (first | lia | omega)
      | succ k ih => exact fun x zs l r q1 q2 q3 q4 q5 q6 q7 => step (k + 1) l r x zs q1 q2 q3 q4 q5 q6 fun x' zs' l' r' p1 p2 p3 p4 _ p6 p7 p8 => ih x' zs' l' r' p1 p2 p3 p6 p7 p8 (by rw [Nat.pow_succ] at q7; (first | lia | omega))
    have hkn : Builtin.Int.intBits a ≤ k * n ∧ k * n ≤ Builtin.Int.intBits a + n - 1 := by
      have h1 := Nat.div_add_mod (Builtin.Int.intBits a + n - 1) n
      have h2 := Nat.mod_lt (Builtin.Int.intBits a + n - 1) hn
      rw [hK, Nat.mul_comm] at h1
      (first | lia | omega)
    have hba := hb.intBits
    have ha2 : a < 2 ^ (k * n) := by
      have := (bits_of (Nat.le_refl (Builtin.Int.intBits a))).mono hkn.1
      unfold Bits at this
      have h3 : (a.natAbs : Int) < ((2 ^ (k * n) : Nat) : Int) := by exact_mod_cast this
      rw [Int.natAbs_of_nonneg ha] at h3; simpa using h3
    refine Ex.cons (Ex1.mono (Q' := fun o => o = .next [.v (I a), .v (I n), .own ad ((digs n k a).map .int), .v (.rf fa), .no]) ?_ ?_)
    · refine Ex1.ite wX (by (first | ((with_reducible refine' Ts.cmp ?wz21 ?hlz21 ?hrz21 ?hcz21 ?hmz21); (case wz21 => walk_at "w"); (case hlz21 => walk_at "ev"); (case hrz21 => walk_at "ev"); (case hcz21 => (first | with_reducible exact Cmp.lt_int _ _ | with_reducible exact Cmp.le_int _ _ | with_reducible exact Cmp.gt_int _ _ | with_reducible exact Cmp.ge_int _ _ | with_reducible exact Cmp.eq_st _ _ | with_reducible exact Cmp.ne_st _ _ | with_reducible exact Cmp.eq_data _ _ rfl rfl | with_reducible exact Cmp.ne_data _ _ rfl rfl)); (case hmz21 => with_unfolding_all rfl)) | ((with_reducible refine' Ts.val ?wz21 ?hez21 ?htz21 ?hsz21); (case wz21 => walk_at "w"); (case hez21 => walk_at "ev"); (case htz21 => first | exact Tru.int _ | exact Tru.bool _); (case hsz21 => rfl)))) (fun hc => ?_) fun hc => ?_
      · have hc : a ≠ 0 := by simpa using hc
        have hk0 : 0 < k := by
          rcases Nat.eq_zero_or_pos k with z | z
          · subst z; simp at ha2; (first | lia | omega)
          · exact z
        have s0 := inner 17 a (List.replicate k 0) 0 k hk0 (by simp) (by simp; exact hk) ha (by simpa using ha2) (by simp; (first | lia | omega)) (by (first | lia | omega))
        have e0 : put (List.replicate k 0) 0 (digs n (k - 0) a) = digs n k a := by
          unfold put; simp [digs_len]
        rw [e0] at s0
        have s1 : SpecI (G.on h1) 39 fa [(.ref fa, .rf fa), (vn, I n)] ad [I a, I 0, I (((List.replicate k (0 : Int)).map PyData.int).length : Nat)] ((List.replicate k 0).map .int) ((digs n k a).map .int) := by
          rw [List.length_map, List.length_replicate]; exact s0.mono (by (first | lia | omega))
        refine Ex.cons (Ex1.calli wX (by walk_at "hv") rfl ⟨_, _, _, _, hfa⟩ (EvL.cons wX (by walk_at "ev") (EvL.cons wX Ev.int (EvL.cons wX (Ev.thaw (.same (.same (.frz (.same (.same .nil))))) rfl
          (Ev.call g1 wX m.len (by walk_at "hv") (Kp.builtin _) (by walk_at "evl") (Spec.len_list _ _ (by simp; (first | lia | omega))) rfl)) EvL.nil rfl) rfl) rfl) (fun p hp => ?_) (j := 2) rfl rfl s1 ?_ rfl rfl rfl)
        · rcases List.mem_cons.mp hp with rfl | hp
          · exact ⟨3, "inner", ci, by walk_at "hv", rfl, ei, ici⟩
          · rcases List.mem_cons.mp hp with rfl | hp
            · exact ⟨1, "n", cn, by walk_at "hv", rfl, en, icn⟩
            · cases hp
        · dsimp only [Then, List.set]
          exact Ex.nil wX rfl
      · have hc : a = 0 := by simpa using hc
        subst hc
        have hk0 : k = 0 := by
          rw [← hK, show Builtin.Int.intBits 0 = 0 from rfl]; exact Nat.div_eq_of_lt (by (first | lia | omega))
        subst hk0
        exact Ex.nil wX rfl
    · rintro o rfl
      dsimp only [Then]
      refine Ex.wk (.same (.same (.frz (.same (.same .nil))))) ?_
      refine Ex.cons (Ex1.ret wX (by walk_at "ev") ⟨_, _, rfl, rfl⟩)

/-! # P4 -/

section
variable {G : Gd} {p : Params}
theorem Gm.i2d (m : Gm G p) : Nm G "_int2digits" (.ref 108) := m.nmG (by kernel_rfl)
theorem Gm.d2i (m : Gm G p) : Nm G "_digits2int" (.ref 115) := m.nmG (by kernel_rfl)
theorem Gm.dmp (m : Gm G p) : Nm G "_divmod_pos" (.ref 122) := m.nmG (by kernel_rfl)
theorem Gm.idm (m : Gm G p) : Nm G "int_divmod" (.ref 129) := m.nmG (by kernel_rfl)
theorem Gm.ki2d (m : Gm G p) : Kp G (.ref 108) := m.kp (by kernel_rfl)
theorem Gm.kd2i (m : Gm G p) : Kp G (.ref 115) := m.kp (by kernel_rfl)
theorem Gm.kdmp (m : Gm G p) : Kp G (.ref 122) := m.kp (by kernel_rfl)
theorem Gm.kidm (m : Gm G p) : Kp G (.ref 129) := m.kp (by kernel_rfl)
end

theorem bits_two (b : Int) (hb : 0 < b) : 2 ^ (Builtin.Int.intBits b) ≤ 2 * b ∧ b < 2 ^ (Builtin.Int.intBits b) := by
  have h1 := bits_of (Nat.le_refl (Builtin.Int.intBits b))
  unfold Bits at h1
  have h2 : (b.natAbs : Int) < ((2 ^ (Builtin.Int.intBits b) : Nat) : Int) := by exact_mod_cast h1
  rw [Int.natAbs_of_nonneg (by (first | lia | omega))] at h2
  refine ⟨?_, by simpa using h2⟩
  generalize hn : Builtin.Int.intBits b = n at *
  cases n with
  | zero => simp at h2; (first | lia | omega)
  | succ k =>
    have : ¬ Builtin.Int.intBits b ≤ k := by (first | lia | omega)
    have h3 : ¬ b.natAbs < 2 ^ k := fun q => this ((intBits_eq b k).mpr q)
    have h4 : ((2 ^ k : Nat) : Int) ≤ (b.natAbs : Int) := by exact_mod_cast Nat.not_lt.mp h3
    rw [Int.natAbs_of_nonneg (by (first | lia | omega))] at h4
    have h5 : ((2 ^ k : Nat) : Int) = (2 : Int) ^ k := by simp
    rw [Int.pow_succ]; (first | lia | omega)

theorem dmp_spec {G : Gd} {p : Params} (m : Gm G p) (a b : Int) (ha : 0 ≤ a) (hb : 0 < b) (hba : Bits a (2 ^ 23)) (hbb : Bits b (2 ^ 23)) (hk : (Builtin.Int.intBits a + Builtin.Int.intBits b - 1) / Builtin.Int.intBits b ≤ 100000) :
    Spec G 42 (.ref 122) [I a, I b] (TT [.int (a / b), .int (a % b)]) := by
  have g := m.g
  refine Spec.intro m.g (by rw [m.K]; rfl) (by dsimp only) (by dsimp only) (by dsimp only) (by rw [m.K]; rfl) rfl rfl rfl rfl (by decide +kernel) (by dsimp only [List.map]) (by dsimp only [List.map])
    (by exact arg2 fun _ _ => rfl) rfl (by rfl) (nos := List.replicate 11 .no) (by rfl) (by rfl) (by rfl) rfl rfl rfl (by dsimp only [List.map, List.replicate, HAppend.hAppend, Append.append, List.append]) ?_
  intro A L cells cm HH w hcm
  obtain ⟨hb1, hb2⟩ := bits_two b hb
  have hnb := hbb.intBits
  have hna := hba.intBits
  have hn : 0 < Builtin.Int.intBits b := by
    rcases Nat.eq_zero_or_pos (Builtin.Int.intBits b) with z | z
    · rw [z] at hb2; simp at hb2; (first | lia | omega)
    · exact z
  (((with_reducible refine' Ex.cons (Ex1.set ?wz22 ?hez22 ?hvz22 ?hiz22 ?hkz22 ?hsz22 ?hqz22)); (case wz22 => walk_at "w"); (case hez22 => walk_at "ev"); (case hvz22 => walk_at "hv"); (case hiz22 => exact Nat.le_of_ble_eq_true rfl); (case hkz22 => first | exact .inl rfl | exact .inr rfl); (case hsz22 => rfl); (dsimp only [Then, List.set])))
  have s1 := i2d_spec m a (Builtin.Int.intBits b) hn ha (by (first | lia | omega)) (hba.mono (by (first | lia | omega))) hk
  generalize hN : Builtin.Int.intBits b = n at *
  generalize hK : (Builtin.Int.intBits a + n - 1) / n = k at *
  have hkn : Builtin.Int.intBits a ≤ k * n ∧ k * n ≤ Builtin.Int.intBits a + n - 1 := by
    have h1 := Nat.div_add_mod (Builtin.Int.intBits a + n - 1) n
    have h2 := Nat.mod_lt (Builtin.Int.intBits a + n - 1) hn
    rw [hK, Nat.mul_comm] at h1
    (first | lia | omega)
  have ha2 : a < 2 ^ (k * n) := by
    have := (bits_of (Nat.le_refl (Builtin.Int.intBits a))).mono hkn.1
    unfold Bits at this
    have h3 : (a.natAbs : Int) < ((2 ^ (k * n) : Nat) : Int) := by exact_mod_cast this
    rw [Int.natAbs_of_nonneg ha] at h3; simpa using h3
  have hval := dval_digs n k a ha ha2
  have hlen := digs_len n k a
  have hrng := digs_nonneg n k a
  generalize hds : digs n k a = ds at *
  have hp : (0 : Int) < 2 ^ n := Int.pow_pos (by decide)
  refine Ex.cons (Ex1.set (w _) (Ev.call g (w _) m.i2d (by walk_at "hv") m.ki2d (by walk_at "evl") (s1.mono (d' := 41) (by (first | lia | omega))) rfl) (by walk_at "hv") (Nat.le_of_ble_eq_true rfl) (.inl rfl) rfl ?_)
  dsimp only [Then, List.set]
  (((with_reducible refine' Ex.cons (Ex1.set ?wz23 ?hez23 ?hvz23 ?hiz23 ?hkz23 ?hsz23 ?hqz23)); (case wz23 => walk_at "w"); (case hez23 => walk_at "ev"); (case hvz23 => walk_at "hv"); (case hiz23 => exact Nat.le_of_ble_eq_true rfl); (case hkz23 => first | exact .inl rfl | exact .inr rfl); (case hsz23 => rfl); (dsimp only [Then, List.set])))
  refine Ex.cons (Ex1.setV (w _) (EvV.list (w _) (ds := []) EvL.nil rfl) (by walk_at "hv") (Nat.le_of_ble_eq_true rfl) (.inl rfl) rfl ?_)
  rintro _ ⟨ad, rfl⟩
  dsimp only [Then, List.set]
  refine Ex.cons (Ex1.for w (items := (ds.map PyData.int).reverse.map .d) (It.reversed g (w _) (m.reversed) (by walk_at "hv") (by walk_at "ev") rfl rfl)
    (fun i μ => ∃ (qs : List Int) (s1 s2 : Slot), μ = [.v (I a), .v (I b), .v (I n), .v (.d (.list (ds.map .int))), .v (I (dval n (ds.drop (k - i)) % b)), .own ad (qs.map .int), s1, s2, .no, .no, .no, .no, .no] ∧
      qs.length = i ∧ i ≤ k ∧ dval n qs.reverse = dval n (ds.drop (k - i)) / b ∧ ∀ d ∈ qs, 0 ≤ d ∧ d < 2 ^ n) ?_ ?_ ?_ (by intro _; rfl) (by intro _ _; rfl))
  · refine ⟨[], .no, .no, ?_, rfl, Nat.zero_le _, ?_, fun d hd => by cases hd⟩
    · rw [Nat.sub_zero, List.drop_of_length_le (by (first | lia | omega))]; rfl
    · rw [Nat.sub_zero, List.drop_of_length_le (by (first | lia | omega))]; simp [dval]
  · rintro i t μ' H' hit ⟨qs, s1, s2, rfl, hqs, hik, hqd, hqr⟩
    have hik' : i < k := by
      have := (List.getElem?_eq_some_iff.mp hit).1
      simpa [hlen] using this
    obtain ⟨d, hd⟩ : ∃ d, ds[k - 1 - i]? = some d := ⟨_, List.getElem?_eq_getElem (by (first | lia | omega))⟩
    have ht : t = I d := by
      rw [List.getElem?_map, List.getElem?_reverse (by simp; (first | lia | omega)), List.length_map, hlen, List.getElem?_map, hd] at hit
      simpa using hit.symm
    subst ht
    have hdr := hrng d (List.mem_of_getElem? hd)
    refine As.name (w _) (by walk_at "hv") (Nat.le_of_ble_eq_true rfl) (.inl rfl) ?_
    dsimp only [List.set]
    have hdrop : ds.drop (k - (i + 1)) = d :: ds.drop (k - i) := by
      have h1 : k - (i + 1) = k - 1 - i := by (first | lia | omega)
      rw [h1, List.drop_eq_getElem_cons (by (first | lia | omega))]
      have h2 := List.getElem?_eq_some_iff.mp hd
      rw [h2.2, show k - 1 - i + 1 = k - i by (first | lia | omega)]
    generalize hv : dval n (ds.drop (k - i)) = v at *
    have hv0 : 0 ≤ v := by
      rw [← hv]
      have : ∀ l : List Int, (∀ d ∈ l, 0 ≤ d ∧ d < 2 ^ n) → 0 ≤ dval n l := by
        intro l
        induction l with
        | nil => intro _; exact Int.le_refl _
        | cons x l ih =>
          intro h
          have h1 := (h x (.head _)).1
          have h2 := ih fun d hd => h d (.tail _ hd)
          have h3 := Int.mul_nonneg (Int.le_of_lt hp) h2
          simp only [dval]; (first | lia | omega)
      exact this _ fun d hd => hrng d (List.mem_of_mem_drop hd)
    have hr0 := Int.emod_nonneg v (Int.ne_of_gt hb)
    have hr1 := Int.emod_lt_of_pos v hb
    have hx1 : v % b * 2 ^ n + d < b * 2 ^ n := by
      have h3 : (v % b + 1) * 2 ^ n ≤ b * 2 ^ n := Int.mul_le_mul_of_nonneg_right (by (first | lia | omega)) (by (first | lia | omega))
      rw [Int.add_mul] at h3; (first | lia | omega)
    have hx0 : 0 ≤ v % b * 2 ^ n + d := by
      have := Int.mul_nonneg hr0 (Int.le_of_lt hp); (first | lia | omega)
    have hls : (Builtin.Int.intBits (v % b) : Int) + (n : Int) ≤ 2 ^ 27 := lsh_ok (k := n) (Bits.of_lt hr0 (by (first | lia | omega))) (by (first | lia | omega))
    have s2 := div2_spec m (v % b * 2 ^ n + d) b n (by (first | lia | omega)) ⟨hx0, hx1, hb1, hb2⟩
    obtain ⟨d1, d2⟩ := div_step (v * 2 ^ n + d) b hb (2 ^ n) hp (v / b) (v % b) v d rfl hdr.1 hdr.2 (by have := Int.mul_ediv_add_emod v b; rw [Int.mul_comm]; (first | lia | omega)) hr0 hr1
    have hv' : dval n (ds.drop (k - (i + 1))) = v * 2 ^ n + d := by
      rw [hdrop]; simp only [dval]; rw [hv, Int.mul_comm]; (first | lia | omega)
    have hq0 : 0 ≤ (v % b * 2 ^ n + d) / b := Int.ediv_nonneg hx0 (by (first | lia | omega))
    have hq1 : (v % b * 2 ^ n + d) / b < 2 ^ n := Int.ediv_lt_of_lt_mul hb (by rw [Int.mul_comm (2 ^ n) b]; exact hx1)
    refine Ex.cons (Ex1.unpack (w _) (Ev.call g (w _) m.div2 (by walk_at "hv") m.kdiv2 (EvL.cons (w _) (Ev.int_eq (by walk_at "ev") (by rw [Int.toNat_natCast])) (by walk_at "evl") rfl) (s2.mono (d' := 41) (by (first | lia | omega))) rfl) ?_ rfl rfl rfl rfl)
    refine AsL.cons (As.name (w _) (by walk_at "hv") (Nat.le_of_ble_eq_true rfl) (.inl rfl) (AsL.cons (As.name (w _) (by walk_at "hv") (Nat.le_of_ble_eq_true rfl) (.inl rfl) (AsL.nil (w _) ?_)) rfl)) rfl
    dsimp only [Then, List.set]
    refine Ex.cons (Ex1.append (w _) (by walk_at "hv") rfl (by walk_at "evl") (by simp; (first | lia | omega)) ?_ rfl rfl rfl rfl)
    dsimp only [Then, List.set]
    refine Ex.nil (w _) ⟨qs ++ [(v % b * 2 ^ n + d) / b], .v (I d), .v (I ((v % b * 2 ^ n + d) / b)), ?_, by simp [hqs], by (first | lia | omega), ?_, fun x hx => ?_⟩
    · rw [hv', d2, List.map_append]; rfl
    · rw [List.reverse_append, hv', d1]
      show (v % b * 2 ^ n + d) / b + 2 ^ n * dval n qs.reverse = _
      rw [hqd, Int.mul_comm (2 ^ n) (v / b)]; (first | lia | omega)
    · rcases List.mem_append.mp hx with hx | hx
      · exact hqr x hx
      · simp at hx; subst hx; exact ⟨hq0, hq1⟩
  · rintro μ' ⟨qs, s1, s2, rfl, hqs, hik, hqd, hqr⟩
    have hkk : ((ds.map PyData.int).reverse.map Tr.d).length = k := by simp [hlen]
    rw [hkk] at hqs hqd ⊢
    rw [Nat.sub_self, List.drop_zero, hval] at hqd ⊢
    dsimp only [Then]
    refine Ex.cons (Ex1.reverse (w _) (by walk_at "hv") rfl (by simp; (first | lia | omega)) ?_ rfl rfl rfl)
    dsimp only [Then, List.set]
    rw [← List.map_reverse]
    refine Ex.wk (.same (.same (.same (.same (.same (.frz (Wk.refl _))))))) ?_
    have s3 := d2i_spec m qs.reverse n n hn (fun d hd => (Bits.of_lt (hqr d (List.mem_reverse.mp hd)).1 (hqr d (List.mem_reverse.mp hd)).2)) (by simp; (first | lia | omega)) (by
      rw [List.length_reverse, hqs, Nat.mul_comm]; (first | lia | omega))
    rw [hqd] at s3
    refine Ex.cons (Ex1.set (w _) (Ev.call g (w _) m.d2i (by walk_at "hv") m.kd2i (by walk_at "evl") (s3.mono (d' := 41) (by (first | lia | omega))) rfl) (by walk_at "hv") (Nat.le_of_ble_eq_true rfl) (.inl rfl) rfl ?_)
    dsimp only [Then, List.set]
    (((with_reducible refine' Ex.cons (Ex1.ret ?wz24 ?hez24 ?hqz24)); (case wz24 => walk_at "w"); (case hez24 => walk_at "ev"); dsimp only [Then]))
    rfl

theorem idm_pos {G : Gd} {p : Params} (m : Gm G p) (d : Nat) (a b : Int) (ha : 0 ≤ a) (hb : 0 < b) (hba : Bits a (2 ^ 23)) (hbb : Bits b (2 ^ 23)) (hk : (Builtin.Int.intBits a + Builtin.Int.intBits b - 1) / Builtin.Int.intBits b ≤ 100000) :
    Spec G (d + 43) (.ref 129) [I a, I b] (TT [.int (a / b), .int (a % b)]) := by
  have g := m.g
  refine Spec.intro m.g (by rw [m.K]; rfl) (by dsimp only) (by dsimp only) (by dsimp only) (by rw [m.K]; rfl) rfl rfl rfl rfl (by decide +kernel) (by dsimp only [List.map]) (by dsimp only [List.map])
    (by exact arg2 fun _ _ => rfl) rfl (by rfl) (nos := List.replicate 5 .no) (by rfl) (by rfl) (by rfl) rfl rfl rfl (by dsimp only [List.map, List.replicate, HAppend.hAppend, Append.append, List.append]) ?_
  intro A L cells cm HH w hcm
  refine Ex.cons (Ex1.ite (w _) (Ts.cmp (w _) (by walk_at "ev") (by walk_at "ev") (Cmp.eq_data _ _ rfl rfl)) (fun hc => ?_) fun hc => ?_)
  · have : b = 0 := eq_of_beq (show (b == (0 : Int)) = true from hc)
    (first | lia | omega)
  · refine Ex.cons (Ex1.ite (w _) (by (first | ((with_reducible refine' Ts.cmp ?wz25 ?hlz25 ?hrz25 ?hcz25 ?hmz25); (case wz25 => walk_at "w"); (case hlz25 => walk_at "ev"); (case hrz25 => walk_at "ev"); (case hcz25 => (first | with_reducible exact Cmp.lt_int _ _ | with_reducible exact Cmp.le_int _ _ | with_reducible exact Cmp.gt_int _ _ | with_reducible exact Cmp.ge_int _ _ | with_reducible exact Cmp.eq_st _ _ | with_reducible exact Cmp.ne_st _ _ | with_reducible exact Cmp.eq_data _ _ rfl rfl | with_reducible exact Cmp.ne_data _ _ rfl rfl)); (case hmz25 => with_unfolding_all rfl)) | ((with_reducible refine' Ts.val ?wz25 ?hez25 ?htz25 ?hsz25); (case wz25 => walk_at "w"); (case hez25 => walk_at "ev"); (case htz25 => first | exact Tru.int _ | exact Tru.bool _); (case hsz25 => rfl)))) (fun hc => ?_) fun hc => ?_)
    · have := of_decide_eq_true hc; (first | lia | omega)
    · refine Ex.cons (Ex1.ite (w _) (by (first | ((with_reducible refine' Ts.cmp ?wz26 ?hlz26 ?hrz26 ?hcz26 ?hmz26); (case wz26 => walk_at "w"); (case hlz26 => walk_at "ev"); (case hrz26 => walk_at "ev"); (case hcz26 => (first | with_reducible exact Cmp.lt_int _ _ | with_reducible exact Cmp.le_int _ _ | with_reducible exact Cmp.gt_int _ _ | with_reducible exact Cmp.ge_int _ _ | with_reducible exact Cmp.eq_st _ _ | with_reducible exact Cmp.ne_st _ _ | with_reducible exact Cmp.eq_data _ _ rfl rfl | with_reducible exact Cmp.ne_data _ _ rfl rfl)); (case hmz26 => with_unfolding_all rfl)) | ((with_reducible refine' Ts.val ?wz26 ?hez26 ?htz26 ?hsz26); (case wz26 => walk_at "w"); (case hez26 => walk_at "ev"); (case htz26 => first | exact Tru.int _ | exact Tru.bool _); (case hsz26 => rfl)))) (fun hc => ?_) fun hc => ?_)
      · have := of_decide_eq_true hc; (first | lia | omega)
      · refine Ex.cons (Ex1.ret (w _) (Ev.call g (w _) m.dmp (by walk_at "hv") m.kdmp (by walk_at "evl") ((dmp_spec m a b ha hb hba hbb hk).mono (by show 42 ≤ d + 42; (first | lia | omega))) rfl) ?_)
        rfl
theorem idm_neg {G : Gd} {p : Params} (m : Gm G p) (d : Nat) (a b : Int) (ha : a < 0) (hb : 0 < b) (hba : Bits a (2 ^ 23 - 1)) (hbb : Bits b (2 ^ 23)) (hk : (Builtin.Int.intBits (-a - 1) + Builtin.Int.intBits b - 1) / Builtin.Int.intBits b ≤ 100000) :
    Spec G (d + 44) (.ref 129) [I a, I b] (TT [.int (a / b), .int (a % b)]) := by
  have g := m.g
  refine Spec.intro m.g (by rw [m.K]; rfl) (by dsimp only) (by dsimp only) (by dsimp only) (by rw [m.K]; rfl) rfl rfl rfl rfl (by decide +kernel) (by dsimp only [List.map]) (by dsimp only [List.map])
    (by exact arg2 fun _ _ => rfl) rfl (by rfl) (nos := List.replicate 5 .no) (by rfl) (by rfl) (by rfl) rfl rfl rfl (by dsimp only [List.map, List.replicate, HAppend.hAppend, Append.append, List.append]) ?_
  intro A L cells cm HH w hcm
  refine Ex.cons (Ex1.ite (w _) (Ts.cmp (w _) (by walk_at "ev") (by walk_at "ev") (Cmp.eq_data _ _ rfl rfl)) (fun hc => ?_) fun hc => ?_)
  · have : b = 0 := eq_of_beq (show (b == (0 : Int)) = true from hc)
    (first | lia | omega)
  · refine Ex.cons (Ex1.ite (w _) (by (first | ((with_reducible refine' Ts.cmp ?wz27 ?hlz27 ?hrz27 ?hcz27 ?hmz27); (case wz27 => walk_at "w"); (case hlz27 => walk_at "ev"); (case hrz27 => walk_at "ev"); (case hcz27 => (first | with_reducible exact Cmp.lt_int _ _ | with_reducible exact Cmp.le_int _ _ | with_reducible exact Cmp.gt_int _ _ | with_reducible exact Cmp.ge_int _ _ | with_reducible exact Cmp.eq_st _ _ | with_reducible exact Cmp.ne_st _ _ | with_reducible exact Cmp.eq_data _ _ rfl rfl | with_reducible exact Cmp.ne_data _ _ rfl rfl)); (case hmz27 => with_unfolding_all rfl)) | ((with_reducible refine' Ts.val ?wz27 ?hez27 ?htz27 ?hsz27); (case wz27 => walk_at "w"); (case hez27 => walk_at "ev"); (case htz27 => first | exact Tru.int _ | exact Tru.bool _); (case hsz27 => rfl)))) (fun hc => ?_) fun hc => ?_)
    · have := of_decide_eq_true hc; (first | lia | omega)
    · refine Ex.cons (Ex1.ite (w _) (by (first | ((with_reducible refine' Ts.cmp ?wz28 ?hlz28 ?hrz28 ?hcz28 ?hmz28); (case wz28 => walk_at "w"); (case hlz28 => walk_at "ev"); (case hrz28 => walk_at "ev"); (case hcz28 => (first | with_reducible exact Cmp.lt_int _ _ | with_reducible exact Cmp.le_int _ _ | with_reducible exact Cmp.gt_int _ _ | with_reducible exact Cmp.ge_int _ _ | with_reducible exact Cmp.eq_st _ _ | with_reducible exact Cmp.ne_st _ _ | with_reducible exact Cmp.eq_data _ _ rfl rfl | with_reducible exact Cmp.ne_data _ _ rfl rfl)); (case hmz28 => with_unfolding_all rfl)) | ((with_reducible refine' Ts.val ?wz28 ?hez28 ?htz28 ?hsz28); (case wz28 => walk_at "w"); (case hez28 => walk_at "ev"); (case htz28 => first | exact Tru.int _ | exact Tru.bool _); (case hsz28 => rfl)))) (fun hc => ?_) fun hc => ?_)
      · have hnot : ∀ x : Int, Builtin.bitNot x = -x - 1 := fun _ => rfl
        have hB : Bits (-a - 1) (2 ^ 23) := by
          have h1 := hba.neg
          unfold Bits at h1 ⊢
          have h2 : (2 : Nat) ^ (2 ^ 23 - 1) ≤ 2 ^ (2 ^ 23) := Nat.pow_le_pow_right (by decide) (by (first | lia | omega))
          generalize (2 : Nat) ^ (2 ^ 23) = Z at *
          generalize (2 : Nat) ^ (2 ^ 23 - 1) = Y at *
          (first | lia | omega)
        have s1 := idm_pos m d (-a - 1) b (by (first | lia | omega)) hb hB hbb hk
        refine Ex.cons (Ex1.unpack (w _) (Ev.call g (w _) m.idm (by walk_at "hv") m.kidm (EvL.cons (w _) (Ev.int_eq (by walk_at "ev") (hnot a)) (by walk_at "evl") rfl) s1 rfl) ?_ rfl rfl rfl rfl)
        refine AsL.cons (As.name (w _) (by walk_at "hv") (Nat.le_of_ble_eq_true rfl) (.inl rfl) (AsL.cons (As.name (w _) (by walk_at "hv") (Nat.le_of_ble_eq_true rfl) (.inl rfl) (AsL.nil (w _) ?_)) rfl)) rfl
        dsimp only [Then, List.set]
        (((with_reducible refine' Ex.cons (Ex1.ret ?wz29 ?hez29 ?hqz29)); (case wz29 => walk_at "w"); (case hez29 => walk_at "ev"); dsimp only [Then]))
        have h1 := Int.mul_ediv_add_emod (-a - 1) b
        have h2 := Int.emod_nonneg (-a - 1) (Int.ne_of_gt hb)
        have h3 := Int.emod_lt_of_pos (-a - 1) hb
        have e : a = (b - (-a - 1) % b - 1) + b * (-((-a - 1) / b) - 1) := by
          rw [Int.mul_sub, Int.mul_neg]; (first | lia | omega)
        have hd : a / b = -((-a - 1) / b) - 1 := by
          conv => lhs; rw [e]
          rw [Int.add_mul_ediv_left _ _ (Int.ne_of_gt hb), Int.ediv_eq_zero_of_lt (by (first | lia | omega)) (by (first | lia | omega))]; (first | lia | omega)
        have hm : a % b = b - (-a - 1) % b - 1 := by
          conv => lhs; rw [e]
          rw [Int.add_mul_emod_self_left, Int.emod_eq_of_lt (by (first | lia | omega)) (by (first | lia | omega))]
        rw [hnot, hnot, hd, hm, show b + (-((-a - 1) % b) - 1) = b - (-a - 1) % b - 1 by (first | lia | omega)]
        rfl
      · have := of_decide_eq_false hc; (first | lia | omega)

theorem digit_count {x y : Nat} (hy : 0 < y) (h : x ≤ 99999 * y) : (x + y - 1) / y ≤ 100000 := by
  have : (x + y - 1) / y ≤ (100000 * y) / y := Nat.div_le_div_right (by (first | lia | omega))
  rwa [Nat.mul_div_cancel _ hy] at this
theorem bits_pos {b : Int} (h : b ≠ 0) : 0 < Builtin.Int.intBits b := by
  rcases Nat.eq_zero_or_pos (Builtin.Int.intBits b) with z | z
  · have := bits_of (Nat.le_of_eq z)
    unfold Bits at this; simp at this; exact absurd this h
  · exact z
theorem bits_neg (b : Int) : Builtin.Int.intBits (-b) = Builtin.Int.intBits b := by
  apply Nat.le_antisymm
  · exact (Bits.neg (bits_of (Nat.le_refl _))).intBits
  · have := (Bits.neg (bits_of (Nat.le_refl (Builtin.Int.intBits (-b))))).intBits
    rwa [Int.neg_neg] at this
theorem bits_not {a : Int} (h : a < 0) : Builtin.Int.intBits (-a - 1) ≤ Builtin.Int.intBits a := by
  have := bits_of (Nat.le_refl (Builtin.Int.intBits a))
  refine Bits.intBits ?_
  unfold Bits at this ⊢; (first | lia | omega)
theorem idm_any {G : Gd} {p : Params} (m : Gm G p) (d : Nat) (a b : Int) (hb : 0 < b) (hba : Bits a (2 ^ 23 - 1)) (hbb : Bits b (2 ^ 23 - 1)) (hk : Builtin.Int.intBits a ≤ 99999 * Builtin.Int.intBits b) :
    Spec G (d + 44) (.ref 129) [I a, I b] (TT [.int (a.fdiv b), .int (a.fmod b)]) := by
  rw [Int.fdiv_eq_ediv_of_nonneg _ (by (first | lia | omega)), Int.fmod_eq_emod_of_nonneg _ (by (first | lia | omega))]
  by_cases ha : 0 ≤ a
  · exact (idm_pos m d a b ha hb (hba.mono (by (first | lia | omega))) (hbb.mono (by (first | lia | omega))) (digit_count (bits_pos (by (first | lia | omega))) hk)).mono (by (first | lia | omega))
  · exact idm_neg m d a b (by (first | lia | omega)) hb hba (hbb.mono (by (first | lia | omega))) (digit_count (bits_pos (by (first | lia | omega))) (Nat.le_trans (bits_not (by (first | lia | omega))) hk))
theorem idm_spec {G : Gd} {p : Params} (m : Gm G p) (d : Nat) (a b : Int) (hb : b ≠ 0) (hba : Bits a (2 ^ 23 - 1)) (hbb : Bits b (2 ^ 23 - 1)) (hk : Builtin.Int.intBits a ≤ 99999 * Builtin.Int.intBits b) :
    Spec G (d + 45) (.ref 129) [I a, I b] (TT [.int (a.fdiv b), .int (a.fmod b)]) := by
  by_cases hp : 0 < b
  · exact (idm_any m d a b hp hba hbb hk).mono (by (first | lia | omega))
  have g := m.g
  refine Spec.intro m.g (by rw [m.K]; rfl) (by dsimp only) (by dsimp only) (by dsimp only) (by rw [m.K]; rfl) rfl rfl rfl rfl (by decide +kernel) (by dsimp only [List.map]) (by dsimp only [List.map])
    (by exact arg2 fun _ _ => rfl) rfl (by rfl) (nos := List.replicate 5 .no) (by rfl) (by rfl) (by rfl) rfl rfl rfl (by dsimp only [List.map, List.replicate, HAppend.hAppend, Append.append, List.append]) ?_
  intro A L cells cm HH w hcm
  refine Ex.cons (Ex1.ite (w _) (Ts.cmp (w _) (by walk_at "ev") (by walk_at "ev") (Cmp.eq_data _ _ rfl rfl)) (fun hc => ?_) fun hc => ?_)
  · exact absurd (eq_of_beq (show (b == (0 : Int)) = true from hc)) hb
  · refine Ex.cons (Ex1.ite (w _) (by (first | ((with_reducible refine' Ts.cmp ?wz30 ?hlz30 ?hrz30 ?hcz30 ?hmz30); (case wz30 => walk_at "w"); (case hlz30 => walk_at "ev"); (case hrz30 => walk_at "ev"); (case hcz30 => (first | with_reducible exact Cmp.lt_int _ _ | with_reducible exact Cmp.le_int _ _ | with_reducible exact Cmp.gt_int _ _ | with_reducible exact Cmp.ge_int _ _ | with_reducible exact Cmp.eq_st _ _ | with_reducible exact Cmp.ne_st _ _ | with_reducible exact Cmp.eq_data _ _ rfl rfl | with_reducible exact Cmp.ne_data _ _ rfl rfl)); (case hmz30 => with_unfolding_all rfl)) | ((with_reducible refine' Ts.val ?wz30 ?hez30 ?htz30 ?hsz30); (case wz30 => walk_at "w"); (case hez30 => walk_at "ev"); (case htz30 => first | exact Tru.int _ | exact Tru.bool _); (case hsz30 => rfl)))) (fun hc => ?_) fun hc => ?_)
    · have s1 := idm_any m d (-a) (-b) (by (first | lia | omega)) hba.neg hbb.neg (by rw [bits_neg, bits_neg]; exact hk)
      refine Ex.cons (Ex1.unpack (w _) (Ev.call g (w _) m.idm (by walk_at "hv") m.kidm (by walk_at "evl") s1 rfl) ?_ rfl rfl rfl rfl)
      refine AsL.cons (As.name (w _) (by walk_at "hv") (Nat.le_of_ble_eq_true rfl) (.inl rfl) (AsL.cons (As.name (w _) (by walk_at "hv") (Nat.le_of_ble_eq_true rfl) (.inl rfl) (AsL.nil (w _) ?_)) rfl)) rfl
      dsimp only [Then, List.set]
      (((with_reducible refine' Ex.cons (Ex1.ret ?wz31 ?hez31 ?hqz31)); (case wz31 => walk_at "w"); (case hez31 => walk_at "ev"); dsimp only [Then]))
      have hd : (-a).fdiv (-b) = a.fdiv b := by rw [Int.neg_fdiv_neg]
      have hm : -((-a).fmod (-b)) = a.fmod b := by
        rw [Int.fmod_def, Int.fmod_def, hd, Int.neg_mul]; (first | lia | omega)
      rw [hd, hm]; rfl
    · have := of_decide_eq_false hc; (first | lia | omega)

/-! # P5 -/

theorem st_len (l : List Nat) : (st l).length = l.length := by simp [st, Str.length]
theorem st_app (a b : List Nat) : st a ++ st b = st (a ++ b) := by
  show Str.append (st a) (st b) = _
  simp [Str.append, st]
theorem st_inj {a b : List Nat} : st a = st b ↔ a = b := by simp [st]
theorem st_get (l : List Nat) (i : Nat) : (st l).cps[i]? = l[i]? := by simp [st]
theorem st_slice_to (l : List Nat) (j : Nat) (h : j ≤ l.length) : Txt.slice (st l) none (some (j : Int)) = st (l.take j) := by
  have := StrLaws.sliceText_to (x := st l) (j := (j : Int)) (by simp [st]; (first | lia | omega))
  rw [show Txt.slice = StrLaws.sliceText from rfl, this]
  simp [st]
theorem st_slice (l : List Nat) (i j : Nat) (hij : i ≤ j) (h : j ≤ l.length) : Txt.slice (st l) (some (i : Int)) (some (j : Int)) = st ((l.drop i).take (j - i)) := by
  have := StrLaws.sliceText_plain (x := st l) (i := (i : Int)) (j := (j : Int)) (by simp [st]; (first | lia | omega))
  rw [show Txt.slice = StrLaws.sliceText from rfl, this]
  simp [st]
theorem st_mul1 (c : Nat) (n : Int) : Txt.mul (st [c]) n = st (List.replicate n.toNat c) := by
  have := mul_one_list c n
  have e : (Txt.mul (st [c]) n) = ⟨(Txt.mul (st [c]) n).cps.toList.toArray⟩ := by simp
  rw [e, show st [c] = ⟨#[c]⟩ from rfl, this]; rfl
theorem Ev.str_eq {G : Gd} {X : Cx} {μ : List Slot} {e : Expr} {i j : Str} (h : Ev G X μ e (S i)) (q : i = j) : Ev G X μ e (S j) := q ▸ h
theorem Ev.lit {G : Gd} {X : Cx} {μ : List Slot} {x : Str} {k : Nat} {p : Pos} {l : List Nat} (q : x = st l) : Ev G X μ (.Constant (.str x) k p) (S (st l)) := q ▸ Ev.str

theorem Ts.of {G : Gd} {X : Cx} {μ : List Slot} {e : Expr} {b b' : Bool} (h : Ts G X μ e b) (q : b = b') : Ts G X μ e b' := q ▸ h
theorem p257_spec {G : Gd} {p : Params} (m : Gm G p) (d q c : Nat) (hc : c ≠ 34) (hq : q ≤ 1000) :
    Spec G (d + 1) (.ref 161) [S (st ([50, 53, 55, 32, 34] ++ (List.replicate q 34 ++ [c])))] (S (st (List.replicate (q / 2) 34 ++ if q % 2 = 0 then [c] else []))) := by
  have g := m.g
  generalize hR : [50, 53, 55, 32, 34] ++ (List.replicate q 34 ++ [c]) = R
  have hlen : R.length = q + 6 := by rw [← hR]; simp
  have h3 : R.take 3 = [50, 53, 55] := by rw [← hR]; rfl
  have h5 : (R.drop 3).take 2 = [32, 34] := by rw [← hR]; rfl
  have hget : ∀ j, j < q → R[5 + j]? = some 34 := fun j hj => by
    rw [← hR, List.getElem?_append_right (by simp)]
    show (List.replicate q 34 ++ [c])[5 + j - 5]? = _
    rw [show 5 + j - 5 = j by (first | lia | omega), List.getElem?_append_left (by simpa using hj)]; simp [hj]
  have hgetc : R[5 + q]? = some c := by
    rw [← hR, List.getElem?_append_right (by simp)]
    show (List.replicate q 34 ++ [c])[5 + q - 5]? = _
    rw [show 5 + q - 5 = q by (first | lia | omega), List.getElem?_append_right (by simp)]; simp
  refine Spec.intro m.g (by rw [m.K]; rfl) (by dsimp only) (by dsimp only) (by dsimp only) (by rw [m.K]; rfl) rfl rfl rfl rfl (by decide +kernel) (by dsimp only [List.map]) (by dsimp only [List.map])
    (by exact arg1 fun _ => rfl) rfl (by rfl) (nos := List.replicate 6 .no) (by rfl) (by rfl) (by rfl) rfl rfl rfl (by dsimp only [List.map, List.replicate, HAppend.hAppend, Append.append, List.append]) ?_
  intro A L cells cm HH w hcm
  have hl257 : ∀ {x : Str} {l : List Nat}, x = st l → x = st l := id
  refine Ex.cons (Ex1.ite (w _) (Ts.cmp (w _) (Ev.str_eq (Ev.slice_str (w _) (kl := none) (kh := 3) (by walk_at "ev") trivial (by walk_at "ev") (by rw [st_len]; (first | lia | omega))) ((st_slice_to R 3 (by (first | lia | omega))).trans (by rw [h3]))) (Ev.lit (l := [50, 53, 55]) (by rfl)) (Cmp.ne_st _ _)) (fun hh => ?_) fun hh => ?_)
  · simp at hh
  refine Ex.nil (w _) ?_
  dsimp only [Then]
  refine Ex.cons (Ex1.ite (w _) (Ts.cmp (w _) (Ev.str_eq (Ev.slice_str (w _) (kl := some 3) (kh := 5) (by walk_at "ev") (show Ev _ _ _ _ _ by walk_at "ev") (by walk_at "ev") (by rw [st_len]; (first | lia | omega))) ((st_slice R 3 5 (by (first | lia | omega)) (by (first | lia | omega))).trans (by rw [show 5 - 3 = 2 from rfl, h5]))) (Ev.lit (l := [32, 34]) (by rfl)) (Cmp.ne_st _ _)) (fun hh => ?_) fun hh => ?_)
  · simp at hh
  refine Ex.nil (w _) ?_
  dsimp only [Then]
  refine Ex.cons (Ex1.set (w _) (Ev.lit (l := []) (by rfl)) (by walk_at "hv") (Nat.le_of_ble_eq_true rfl) (.inl rfl) rfl ?_)
  dsimp only [Then, List.set]
  (((with_reducible refine' Ex.cons (Ex1.set ?wz32 ?hez32 ?hvz32 ?hiz32 ?hkz32 ?hsz32 ?hqz32)); (case wz32 => walk_at "w"); (case hez32 => walk_at "ev"); (case hvz32 => walk_at "hv"); (case hiz32 => exact Nat.le_of_ble_eq_true rfl); (case hkz32 => first | exact .inl rfl | exact .inr rfl); (case hsz32 => rfl); (dsimp only [Then, List.set])))
  refine Ex.cons (Ex1.set (w _) (t := I ((q + 6 : Nat) : Int)) (Ev.call g (w _) m.len (by walk_at "hv") (Kp.builtin _) (by walk_at "evl") (by have := Spec.len_str (G := G) d (st R) (by rw [st_len]; (first | lia | omega)); rwa [st_len, hlen] at this) rfl) (by walk_at "hv") (Nat.le_of_ble_eq_true rfl) (.inl rfl) rfl ?_)
  dsimp only [Then, List.set]
  have hres : ∀ j, 2 * j = q → List.replicate j 34 ++ [c] = List.replicate (q / 2) 34 ++ (if q % 2 = 0 then [c] else []) := fun j hj => by
    rw [if_pos (by (first | lia | omega)), show q / 2 = j by (first | lia | omega)]
  have hres' : ∀ j, 2 * j + 1 = q → List.replicate j 34 = List.replicate (q / 2) 34 ++ (if q % 2 = 0 then [c] else []) := fun j hj => by
    rw [if_neg (by (first | lia | omega)), show q / 2 = j by (first | lia | omega), List.append_nil]
  generalize hZ : List.replicate (q / 2) 34 ++ (if q % 2 = 0 then [c] else []) = Z at *
  refine Ex.cons (Ex1.mono (Q' := fun o => ∃ (i : Int) (s : Slot), o = .next [.v (S (st R)), .v (S (st Z)), .v (I i), .v (I ((q + 6 : Nat) : Int)), s, .no, .no]) ?_ ?_)
  · refine Ex1.while (w _) (fun k μ' => (∃ (j : Nat) (s : Slot), μ' = [.v (S (st R)), .v (S (st (List.replicate j 34))), .v (I ((5 + 2 * j : Nat) : Int)), .v (I ((q + 6 : Nat) : Int)), s, .no, .no] ∧ 2 * j ≤ q ∧ k = q + 1 - 2 * j) ∨
      (∃ s : Slot, μ' = [.v (S (st R)), .v (S (st Z)), .v (I ((q + 6 : Nat) : Int)), .v (I ((q + 6 : Nat) : Int)), s, .no, .no] ∧ k = 0)) (n0 := q + 1) (.inl ⟨0, .no, rfl, by (first | lia | omega), by (first | lia | omega)⟩) ?_
    rintro k μ' (⟨j, s, rfl, hj, rfl⟩ | ⟨s, rfl, rfl⟩)
    · refine ⟨true, ?_, fun _ => ?_, fun hf => by cases hf⟩
      · have e : decide (((5 + 2 * j : Nat) : Int) < ((q + 6 : Nat) : Int)) = true := decide_eq_true (by (first | lia | omega))
        exact Ts.of (by (first | ((with_reducible refine' Ts.cmp ?wz33 ?hlz33 ?hrz33 ?hcz33 ?hmz33); (case wz33 => walk_at "w"); (case hlz33 => walk_at "ev"); (case hrz33 => walk_at "ev"); (case hcz33 => (first | with_reducible exact Cmp.lt_int _ _ | with_reducible exact Cmp.le_int _ _ | with_reducible exact Cmp.gt_int _ _ | with_reducible exact Cmp.ge_int _ _ | with_reducible exact Cmp.eq_st _ _ | with_reducible exact Cmp.ne_st _ _ | with_reducible exact Cmp.eq_data _ _ rfl rfl | with_reducible exact Cmp.ne_data _ _ rfl rfl)); (case hmz33 => with_unfolding_all rfl)) | ((with_reducible refine' Ts.val ?wz33 ?hez33 ?htz33 ?hsz33); (case wz33 => walk_at "w"); (case hez33 => walk_at "ev"); (case htz33 => first | exact Tru.int _ | exact Tru.bool _); (case hsz33 => rfl)))) e
      · by_cases hjq : 2 * j = q
        · have g1 : (st R).cps[(((5 + 2 * j : Nat) : Int)).toNat]? = some c := by rw [Int.toNat_natCast, st_get, hjq]; exact hgetc
          refine Ex.cons (Ex1.set (w _) (Ev.idx_str (w _) (by walk_at "ev") (by walk_at "ev") (by (first | lia | omega)) (by (first | lia | omega)) g1) (by walk_at "hv") (Nat.le_of_ble_eq_true rfl) (.inl rfl) rfl ?_)
          dsimp only [Then, List.set]
          (((with_reducible refine' Ex.cons (Ex1.set ?wz34 ?hez34 ?hvz34 ?hiz34 ?hkz34 ?hsz34 ?hqz34)); (case wz34 => walk_at "w"); (case hez34 => walk_at "ev"); (case hvz34 => walk_at "hv"); (case hiz34 => exact Nat.le_of_ble_eq_true rfl); (case hkz34 => first | exact .inl rfl | exact .inr rfl); (case hsz34 => rfl); (dsimp only [Then, List.set])))
          refine Ex.cons (Ex1.ite (w _) (b := false) (by
            have e : decide ([c] = [34]) = false := by simp [hc]
            exact Ts.of (Ts.cmp (w _) (by walk_at "ev") (Ev.lit (l := [34]) (by rfl)) (Cmp.eq_st [c] [34])) e) (fun hf => by cases hf) fun _ => Ex.nil (w _) ?_)
          dsimp only [Then]
          refine Ex.cons (Ex1.set (w _) (t := S (st Z)) (Ev.bin (w _) (by walk_at "ev") (by walk_at "ev") (by
            have := Bin.add_str (G := G) (st (List.replicate j 34)) (st [c]) (by rw [st_len, st_len]; simp; (first | lia | omega))
            rwa [st_app, hres j hjq] at this)) (by walk_at "hv") (Nat.le_of_ble_eq_true rfl) (.inl rfl) rfl ?_)
          dsimp only [Then, List.set]
          refine Ex.nil (w _) ⟨0, by (first | lia | omega), .inr ⟨.v (S ⟨#[c]⟩), ?_, rfl⟩⟩
          have e : ((5 + 2 * j : Nat) : Int) + 1 = ((q + 6 : Nat) : Int) := by (first | lia | omega)
          rw [e]
        · have hlt : 2 * j < q := by (first | lia | omega)
          have g1 : (st R).cps[(((5 + 2 * j : Nat) : Int)).toNat]? = some 34 := by rw [Int.toNat_natCast, st_get]; exact hget _ hlt
          refine Ex.cons (Ex1.set (w _) (Ev.idx_str (w _) (by walk_at "ev") (by walk_at "ev") (by (first | lia | omega)) (by (first | lia | omega)) g1) (by walk_at "hv") (Nat.le_of_ble_eq_true rfl) (.inl rfl) rfl ?_)
          dsimp only [Then, List.set]
          (((with_reducible refine' Ex.cons (Ex1.set ?wz35 ?hez35 ?hvz35 ?hiz35 ?hkz35 ?hsz35 ?hqz35)); (case wz35 => walk_at "w"); (case hez35 => walk_at "ev"); (case hvz35 => walk_at "hv"); (case hiz35 => exact Nat.le_of_ble_eq_true rfl); (case hkz35 => first | exact .inl rfl | exact .inr rfl); (case hsz35 => rfl); (dsimp only [Then, List.set])))
          have e1 : ((5 + 2 * j : Nat) : Int) + 1 = ((5 + (2 * j + 1) : Nat) : Int) := by (first | lia | omega)
          rw [e1]
          have ge : decide (((q + 6 : Nat) : Int) ≤ ((5 + (2 * j + 1) : Nat) : Int)) = false := decide_eq_false (by (first | lia | omega))
          refine Ex.cons (Ex1.mono (Q' := fun o => (2 * j + 1 = q ∧ o = .brk [.v (S (st R)), .v (S (st (List.replicate j 34))), .v (I ((5 + (2 * j + 1) : Nat) : Int)), .v (I ((q + 6 : Nat) : Int)), .v (S ⟨#[34]⟩), .no, .no]) ∨
            (2 * j + 2 ≤ q ∧ o = .next [.v (S (st R)), .v (S (st (List.replicate j 34))), .v (I ((5 + 2 * (j + 1) : Nat) : Int)), .v (I ((q + 6 : Nat) : Int)), .v (S ⟨#[34]⟩), .no, .no])) ?_ ?_)
          · refine Ex1.ite (w _) (b := true) (by
              have e : decide ([34] = [34]) = true := rfl
              exact Ts.of (Ts.cmp (w _) (by walk_at "ev") (Ev.lit (l := [34]) (by rfl)) (Cmp.eq_st [34] [34])) e) (fun _ => ?_) (fun hf => by cases hf)
            by_cases hj2 : 2 * j + 1 = q
            · have g2 : (st R).cps[(((5 + (2 * j + 1) : Nat) : Int)).toNat]? = some c := by rw [Int.toNat_natCast, st_get, hj2]; exact hgetc
              have ne : (!decide ([c] = [34])) = true := by simp [hc]
              refine Ex.cons (Ex1.ite (w _) (b := true) (Ts.boolop (AllTs.or_false (w _) (Ts.of (by (first | ((with_reducible refine' Ts.cmp ?wz36 ?hlz36 ?hrz36 ?hcz36 ?hmz36); (case wz36 => walk_at "w"); (case hlz36 => walk_at "ev"); (case hrz36 => walk_at "ev"); (case hcz36 => (first | with_reducible exact Cmp.lt_int _ _ | with_reducible exact Cmp.le_int _ _ | with_reducible exact Cmp.gt_int _ _ | with_reducible exact Cmp.ge_int _ _ | with_reducible exact Cmp.eq_st _ _ | with_reducible exact Cmp.ne_st _ _ | with_reducible exact Cmp.eq_data _ _ rfl rfl | with_reducible exact Cmp.ne_data _ _ rfl rfl)); (case hmz36 => with_unfolding_all rfl)) | ((with_reducible refine' Ts.val ?wz36 ?hez36 ?htz36 ?hsz36); (case wz36 => walk_at "w"); (case hez36 => walk_at "ev"); (case htz36 => first | exact Tru.int _ | exact Tru.bool _); (case hsz36 => rfl)))) ge) (AllTs.or_true (Ts.of (Ts.cmp (w _) (Ev.idx_str (w _) (by walk_at "ev") (by walk_at "ev") (by (first | lia | omega)) (by (first | lia | omega)) g2) (Ev.lit (l := [34]) (by rfl)) (Cmp.ne_st [c] [34])) ne)))) (fun _ => ?_) (fun hf => by cases hf))
              refine Ex.cons (Ex1.brk (w _) ?_)
              exact .inl ⟨hj2, rfl⟩
            · have g2 : (st R).cps[(((5 + (2 * j + 1) : Nat) : Int)).toNat]? = some 34 := by rw [Int.toNat_natCast, st_get]; exact hget _ (by (first | lia | omega))
              have ne : (!decide (([34] : List Nat) = [34])) = false := rfl
              refine Ex.cons (Ex1.ite (w _) (b := false) (Ts.boolop (AllTs.or_false (w _) (Ts.of (by (first | ((with_reducible refine' Ts.cmp ?wz37 ?hlz37 ?hrz37 ?hcz37 ?hmz37); (case wz37 => walk_at "w"); (case hlz37 => walk_at "ev"); (case hrz37 => walk_at "ev"); (case hcz37 => (first | with_reducible exact Cmp.lt_int _ _ | with_reducible exact Cmp.le_int _ _ | with_reducible exact Cmp.gt_int _ _ | with_reducible exact Cmp.ge_int _ _ | with_reducible exact Cmp.eq_st _ _ | with_reducible exact Cmp.ne_st _ _ | with_reducible exact Cmp.eq_data _ _ rfl rfl | with_reducible exact Cmp.ne_data _ _ rfl rfl)); (case hmz37 => with_unfolding_all rfl)) | ((with_reducible refine' Ts.val ?wz37 ?hez37 ?htz37 ?hsz37); (case wz37 => walk_at "w"); (case hez37 => walk_at "ev"); (case htz37 => first | exact Tru.int _ | exact Tru.bool _); (case hsz37 => rfl)))) ge) (AllTs.or_false (w _) (Ts.of (Ts.cmp (w _) (Ev.idx_str (w _) (by walk_at "ev") (by walk_at "ev") (by (first | lia | omega)) (by (first | lia | omega)) g2) (Ev.lit (l := [34]) (by rfl)) (Cmp.ne_st [34] [34])) ne) AllTs.or_nil))) (fun hf => by cases hf) fun _ => Ex.nil (w _) ?_)
              dsimp only [Then]
              (((with_reducible refine' Ex.cons (Ex1.set ?wz38 ?hez38 ?hvz38 ?hiz38 ?hkz38 ?hsz38 ?hqz38)); (case wz38 => walk_at "w"); (case hez38 => walk_at "ev"); (case hvz38 => walk_at "hv"); (case hiz38 => exact Nat.le_of_ble_eq_true rfl); (case hkz38 => first | exact .inl rfl | exact .inr rfl); (case hsz38 => rfl); (dsimp only [Then, List.set])))
              refine Ex.nil (w _) (.inr ⟨by (first | lia | omega), ?_⟩)
              have e : ((5 + (2 * j + 1) : Nat) : Int) + 1 = ((5 + 2 * (j + 1) : Nat) : Int) := by (first | lia | omega)
              rw [e]
          · rintro o (⟨h1, rfl⟩ | ⟨h1, rfl⟩)
            · dsimp only [Then]
              exact ⟨((5 + (2 * j + 1) : Nat) : Int), .v (S ⟨#[34]⟩), by rw [hres' j h1]⟩
            · dsimp only [Then]
              refine Ex.cons (Ex1.set (w _) (t := S (st (List.replicate (j + 1) 34))) (Ev.bin (w _) (by walk_at "ev") (by walk_at "ev") (by
                have := Bin.add_str (G := G) (st (List.replicate j 34)) (st [34]) (by rw [st_len, st_len]; simp; (first | lia | omega))
                rwa [st_app, ← List.replicate_succ'] at this)) (by walk_at "hv") (Nat.le_of_ble_eq_true rfl) (.inl rfl) rfl ?_)
              dsimp only [Then, List.set]
              exact Ex.nil (w _) ⟨q + 1 - 2 * (j + 1), by (first | lia | omega), .inl ⟨j + 1, _, rfl, by (first | lia | omega), rfl⟩⟩
    · refine ⟨false, ?_, (fun hf => by cases hf), fun _ => ⟨_, s, rfl⟩⟩
      have e : decide (((q + 6 : Nat) : Int) < ((q + 6 : Nat) : Int)) = false := decide_eq_false (by (first | lia | omega))
      exact Ts.of (by (first | ((with_reducible refine' Ts.cmp ?wz39 ?hlz39 ?hrz39 ?hcz39 ?hmz39); (case wz39 => walk_at "w"); (case hlz39 => walk_at "ev"); (case hrz39 => walk_at "ev"); (case hcz39 => (first | with_reducible exact Cmp.lt_int _ _ | with_reducible exact Cmp.le_int _ _ | with_reducible exact Cmp.gt_int _ _ | with_reducible exact Cmp.ge_int _ _ | with_reducible exact Cmp.eq_st _ _ | with_reducible exact Cmp.ne_st _ _ | with_reducible exact Cmp.eq_data _ _ rfl rfl | with_reducible exact Cmp.ne_data _ _ rfl rfl)); (case hmz39 => with_unfolding_all rfl)) | ((with_reducible refine' Ts.val ?wz39 ?hez39 ?htz39 ?hsz39); (case wz39 => walk_at "w"); (case hez39 => walk_at "ev"); (case htz39 => first | exact Tru.int _ | exact Tru.bool _); (case hsz39 => rfl)))) e
  · rintro o ⟨i, s, rfl⟩
    dsimp only [Then]
    (((with_reducible refine' Ex.cons (Ex1.ret ?wz40 ?hez40 ?hqz40)); (case wz40 => walk_at "w"); (case hez40 => walk_at "ev"); dsimp only [Then]))
    rfl

/-! # P6 -/

section
variable (p : Params)
theorem ws_makes : makesIn (hd.heap_1 p) 83 = true := by kernel_rfl
theorem ws_init : findIn (hd.heap_1 p) (.ref 83) "__init__" = some (some (.ref 38)) := by kernel_rfl
theorem ws_init_ty : typeIn (hd.heap_1 p) (.ref 38) = some (.type "function") := by kernel_rfl
theorem ws_setattr : findIn (hd.heap_1 p) (.ref 83) "__setattr__" = some (some (.builtin "object.__setattr__")) := by kernel_rfl
theorem ws_getattribute : findIn (hd.heap_1 p) (.ref 83) "__getattribute__" = some (some (.builtin "object.__getattribute__")) := by kernel_rfl
theorem ws_getattr : findIn (hd.heap_1 p) (.ref 83) "__getattr__" = some none := by kernel_rfl
theorem ws_plain : plainOver (hd.heap_1 p) 83 = true := by kernel_rfl
theorem ws_dict : hasDictIn (hd.heap_1 p) 83 = true := by kernel_rfl
theorem ws_no_raw : findIn (hd.heap_1 p) (.ref 83) "raw" = some none := by kernel_rfl
theorem ws_no_n : findIn (hd.heap_1 p) (.ref 83) "n" = some none := by kernel_rfl
theorem ws_no_nt : findIn (hd.heap_1 p) (.ref 83) "nt" = some none := by kernel_rfl
theorem ws_no_norm : findIn (hd.heap_1 p) (.ref 83) "norm" = some none := by kernel_rfl
theorem ws_no_is : findIn (hd.heap_1 p) (.ref 83) "is_simple" = some none := by kernel_rfl
theorem ws_t_raw : takerIn (hd.heap_1 p) 83 "raw" = some none := by kernel_rfl
theorem ws_t_n : takerIn (hd.heap_1 p) 83 "n" = some none := by kernel_rfl
theorem ws_t_nt : takerIn (hd.heap_1 p) 83 "nt" = some none := by kernel_rfl
theorem ws_t_norm : takerIn (hd.heap_1 p) 83 "norm" = some none := by kernel_rfl
theorem ws_t_is : takerIn (hd.heap_1 p) 83 "is_simple" = some none := by kernel_rfl
theorem ws_name : nsIn (hd.heap_1 p) mainGlobals "Whitespace" = some (some (.ref 83)) := by kernel_rfl
theorem ws_reads : readsIn (hd.heap_1 p) 83 (.type "type") = true := by kernel_rfl
theorem ws_S : ∃ t, findCls (hd.heap_1 p) (.ref 83) (.type "type") "S" = some (.val (.str " " t)) := ⟨_, by rfl⟩
theorem ws_T : ∃ t, findCls (hd.heap_1 p) (.ref 83) (.type "type") "T" = some (.val (.str "\t" t)) := ⟨_, by rfl⟩
theorem ws_long : findIn (hd.heap_1 p) (.ref 83) "longest_run_of_spaces" = some (some (.ref 45)) := by kernel_rfl
theorem ws_indent : findIn (hd.heap_1 p) (.ref 83) "indent_level" = some (some (.ref 52)) := by kernel_rfl
theorem ws_new : findIn (hd.heap_1 p) (.ref 83) "not_equal_witness" = some (some (.ref 66)) := by kernel_rfl
theorem ws_less : findIn (hd.heap_1 p) (.ref 83) "less" = some (some (.ref 73)) := by kernel_rfl
end

def wsFs (l : List Nat) : List (Str × PyData) :=
  [("raw", .str (st l)), ("n", .int ((wsGo l [] 0 0 0).2.2.1 : Nat)), ("nt", .int ((wsGo l [] 0 0 0).2.2.2 : Nat)),
   ("norm", .tuple [.tuple ((wsGo l [] 0 0 0).1.map .int), .int ((wsGo l [] 0 0 0).2.1 : Nat)]), ("is_simple", .bool (decide (((wsGo l [] 0 0 0).1.length : Int) ≤ 1)))]

theorem Gm.tuple {G : Gd} {p : Params} (m : Gm G p) : Nm G "tuple" (.type "tuple") := m.nmB (by kernel_rfl) (by boot_by_name) (by decide)
theorem WX.all {G : Gd} {X : Cx} {HH : List Addr} (w : WX G (X.at HH)) : ∀ H, WX G (X.at H) := fun H => WX.at w H
theorem ws_make {G : Gd} {p : Params} (m : Gm G p) (d : Nat) (l : List Nat) (hl : l.length ≤ 50000) : Spec G (d + 2) (.ref 83) [S (st l)] (.ob 83 (wsFs l)) := by
  have g := m.g
  refine Spec.cls m.g (n1 := "self") (n2 := "ws") (by rw [m.K]; exact ws_makes p) (by rw [m.K]; exact ws_init p) (by rw [m.K]; exact ws_init_ty p) (by rw [m.K]; rfl) (by dsimp only) (by dsimp only) (by dsimp only) (by rw [m.K]; rfl) rfl rfl rfl rfl (by decide +kernel) (by dsimp only [List.map]) (by dsimp only [List.map]) (by rfl)
    (by intro a b; rfl) rfl rfl rfl rfl (nos := List.replicate 10 .no) (by rfl) rfl rfl rfl ?_
  intro A L x dx HH w ix
  dsimp only [List.replicate]
  refine ExI.set w ix g (self := "self") (by walk_at "hv") rfl (fun h1 c1 c2 w1 => by walk_at "ev") rfl (Nat.le_of_ble_eq_true rfl) (by rw [m.K]; exact ws_setattr p) (by rw [m.K]; exact ws_plain p) (by rw [m.K]; exact ws_t_raw p) (by rw [m.K]; exact ws_dict p) rfl ?_
  refine ExI.one w ix g (fun ν => ν = [.v (.rf x), .v (S (st l)), .v (S (st [32])), .v (S (st [9])), .no, .no, .no, .no, .no, .no, .no, .no]) (fun h1 c1 c2 c3 c4 w1 => ?_) ?_
  · have g1 := g.up c1 c2
    obtain ⟨tS, eS⟩ := ws_S p
    obtain ⟨tT, eT⟩ := ws_T p
    have eS : findCls G.K (.ref 83) (.type "type") "S" = some (.val (.str " " tS)) := by rw [m.K]; exact eS
    have eT : findCls G.K (.ref 83) (.type "type") "T" = some (.val (.str "\t" tT)) := by rw [m.K]; exact eT
    have hr : readsIn G.K 83 (.type "type") = true := by rw [m.K]; exact ws_reads p
    refine Ex1.swap w1 (names := ["S", "T"]) (ds := [.str (st [32]), .str (st [9])]) (Ev.tuple' w1 (EvL.cons w1 (Ev.clsattr g1 w1 (m.nmG (ws_name p)) (by walk_at "hv") hr eS rfl (t := S (st [32])) fun h D => show Rd h D (.str (st [32]) tS) (.str (st [32])) from Rd.str _ _) (EvL.cons w1 (Ev.clsattr g1 w1 (m.nmG (ws_name p)) (by walk_at "hv") hr eT rfl (t := S (st [9])) fun h D => show Rd h D (.str (st [9]) tT) (.str (st [9])) from Rd.str _ _) EvL.nil rfl) rfl) (.cons (.cons .nil)) rfl) ?_ rfl rfl rfl
    refine AsN.cons w1 (by walk_at "hv") (Nat.le_of_ble_eq_true rfl) (.inl rfl) (AsN.cons w1 (by walk_at "hv") (Nat.le_of_ble_eq_true rfl) (.inl rfl) (AsN.nil w1 ?_))
    exact ⟨_, rfl, rfl⟩
  rintro _ rfl
  refine ExI.one w ix g (fun ν => ∃ ad, ν = [.v (.rf x), .v (S (st l)), .v (S (st [32])), .v (S (st [9])), .own ad (([] : List Int).map .int), .no, .no, .no, .no, .no, .no, .no]) (fun h1 c1 c2 c3 c4 w1 => ?_) ?_
  · refine Ex1.setV w1 (EvV.list w1 (ds := []) EvL.nil rfl) (by walk_at "hv") (Nat.le_of_ble_eq_true rfl) (.inl rfl) rfl ?_
    rintro _ ⟨ad, rfl⟩
    exact ⟨_, rfl, ad, rfl⟩
  rintro _ ⟨ad, rfl⟩
  refine ExI.one w ix g (fun ν => ν = [.v (.rf x), .v (S (st l)), .v (S (st [32])), .v (S (st [9])), .own ad (([] : List Int).map .int), .v (I 0), .v (I 0), .v (I 0), .no, .no, .no, .no]) (fun h1 c1 c2 c3 c4 w1 => ?_) ?_
  · refine Ex1.set3 w1 (by walk_at "ev") ?_ rfl rfl
    exact As.name w1 (by walk_at "hv") (Nat.le_of_ble_eq_true rfl) (.inl rfl) (As.name w1 (by walk_at "hv") (Nat.le_of_ble_eq_true rfl) (.inl rfl) (As.name w1 (by walk_at "hv") (Nat.le_of_ble_eq_true rfl) (.inl rfl) ⟨_, rfl, rfl⟩))
  rintro _ rfl
  refine ExI.one w ix g (fun ν => ∃ (ad : Addr) (c : List Int) (b n nt : Nat) (s : Slot), ν = [.v (.rf x), .v (S (st l)), .v (S (st [32])), .v (S (st [9])), .own ad (c.map .int), .v (I (b : Int)), .v (I (n : Int)), .v (I (nt : Int)), s, .no, .no, .no] ∧ wsGo l [] 0 0 0 = (c, b, n, nt) ∧ c.length ≤ 50000) (fun h1 c1 c2 c3 c4 w1 => ?_) ?_
  · have g1 := g.up c1 c2
    obtain ⟨es, en, ev, q1, q2, q3⟩ := c4 "raw" (.str (st l)) rfl rfl
    refine Ex1.for (w1.all) (It.str w1 (x := st l) (Ev.self g1 w1 (by walk_at "hv") rfl c3 q1 q2 q3 (by rw [m.K]; exact ws_getattribute p) (by rw [m.K]; exact ws_dict p) (by rw [m.K]; exact ws_no_raw p) rfl))
      (fun i μ => ∃ (ad : Addr) (c : List Int) (b n nt : Nat) (s : Slot), μ = [.v (.rf x), .v (S (st l)), .v (S (st [32])), .v (S (st [9])), .own ad (c.map .int), .v (I (b : Int)), .v (I (n : Int)), .v (I (nt : Int)), s, .no, .no, .no] ∧ wsGo l [] 0 0 0 = wsGo (l.drop i) c b n nt ∧ c.length ≤ i ∧ b ≤ i) ?_ ?_ ?_ (by intro _; rfl) (by intro _ _; rfl)
    · exact ⟨ad, [], 0, 0, 0, .no, rfl, rfl, Nat.le_refl _, Nat.le_refl _⟩
    · rintro i t μ' H' hit ⟨ad, c, b, n, nt, s, rfl, hgo, hcl, hbl⟩
      have w2 := w1.all
      obtain ⟨y, hy⟩ : ∃ y, l[i]? = some y := by
        have := (List.getElem?_eq_some_iff.mp hit).1
        exact ⟨_, List.getElem?_eq_getElem (by simpa [st] using this)⟩
      have hil := (List.getElem?_eq_some_iff.mp hy).1
      have ht : t = S (st [y]) := by
        rw [List.getElem?_map, show (st l).cps.toList = l by simp [st], hy] at hit
        simpa [st] using hit.symm
      subst ht
      have hdrop : l.drop i = y :: l.drop (i + 1) := by
        rw [List.drop_eq_getElem_cons hil]
        rw [(List.getElem?_eq_some_iff.mp hy).2]
      rw [hdrop] at hgo
      refine As.name (w2 _) (by walk_at "hv") (Nat.le_of_ble_eq_true rfl) (.inl rfl) ?_
      dsimp only [List.set]
      refine Ex.cons (Ex1.ite (w2 _) (Ts.cmp (w2 _) (by walk_at "ev") (by walk_at "ev") (Cmp.eq_st [y] [32])) (fun hc => ?_) fun hc => ?_)
      · have e : y = 32 := by simpa using hc
        subst e
        (((with_reducible refine' Ex.cons (Ex1.set ?wz41 ?hez41 ?hvz41 ?hiz41 ?hkz41 ?hsz41 ?hqz41)); (case wz41 => walk_at "w"); (case hez41 => walk_at "ev"); (case hvz41 => walk_at "hv"); (case hiz41 => exact Nat.le_of_ble_eq_true rfl); (case hkz41 => first | exact .inl rfl | exact .inr rfl); (case hsz41 => rfl); (dsimp only [Then, List.set])))
        (((with_reducible refine' Ex.cons (Ex1.set ?wz42 ?hez42 ?hvz42 ?hiz42 ?hkz42 ?hsz42 ?hqz42)); (case wz42 => walk_at "w"); (case hez42 => walk_at "ev"); (case hvz42 => walk_at "hv"); (case hiz42 => exact Nat.le_of_ble_eq_true rfl); (case hkz42 => first | exact .inl rfl | exact .inr rfl); (case hsz42 => rfl); (dsimp only [Then, List.set])))
        refine Ex.nil (w2 _) (Ex.nil (w2 _) ⟨ad, c, b + 1, n + 1, nt, _, rfl, ?_, by (first | lia | omega), by (first | lia | omega)⟩)
        rw [hgo]; rfl
      · have e32 : y ≠ 32 := by simpa using hc
        refine Ex.cons (Ex1.ite (w2 _) (Ts.cmp (w2 _) (by walk_at "ev") (by walk_at "ev") (Cmp.eq_st [y] [9])) (fun hc => ?_) fun hc => ?_)
        · have e : y = 9 := by simpa using hc
          subst e
          (((with_reducible refine' Ex.cons (Ex1.set ?wz43 ?hez43 ?hvz43 ?hiz43 ?hkz43 ?hsz43 ?hqz43)); (case wz43 => walk_at "w"); (case hez43 => walk_at "ev"); (case hvz43 => walk_at "hv"); (case hiz43 => exact Nat.le_of_ble_eq_true rfl); (case hkz43 => first | exact .inl rfl | exact .inr rfl); (case hsz43 => rfl); (dsimp only [Then, List.set])))
          (((with_reducible refine' Ex.cons (Ex1.set ?wz44 ?hez44 ?hvz44 ?hiz44 ?hkz44 ?hsz44 ?hqz44)); (case wz44 => walk_at "w"); (case hez44 => walk_at "ev"); (case hvz44 => walk_at "hv"); (case hiz44 => exact Nat.le_of_ble_eq_true rfl); (case hkz44 => first | exact .inl rfl | exact .inr rfl); (case hsz44 => rfl); (dsimp only [Then, List.set])))
          have hfr : ∀ μ : List Slot, Wk (.v (.rf x) :: .v (S (st l)) :: .v (S (st [32])) :: .v (S (st [9])) :: .own ad (c.map .int) :: μ) (.v (.rf x) :: .v (S (st l)) :: .v (S (st [32])) :: .v (S (st [9])) :: .v (Mine.L (c.map .int)) :: μ) := fun μ => .same (.same (.same (.same (.frz (Wk.refl _)))))
          refine Ex.cons (Ex1.mono (Q' := fun o => ∃ ad' : Addr, o = .next [.v (.rf x), .v (S (st l)), .v (S (st [32])), .v (S (st [9])), .own ad' ((c ++ List.replicate (b + 1 - c.length) 0).map .int), .v (I (b : Int)), .v (I ((n : Int) + 1)), .v (I ((nt : Int) + 1)), .v (S (st [9])), .no, .no, .no]) (Ex1.ite (w2 _) (b := decide ((c.length : Int) ≤ (b : Int))) (Ts.thaw (hfr _) (Ts.cmp (w2 _) (by walk_at "ev") (Ev.int_eq (j := (c.length : Int)) (Ev.call g1 (w2 _) m.len (by walk_at "hv") (Kp.builtin _) (by walk_at "evl") (Spec.len_list (G := G.on h1) d (c.map .int) (by simp; (first | lia | omega))) rfl) (by simp)) (Cmp.ge_int _ _))) (fun hc => ?_) fun hc => ?_) ?_)
          · have hc := of_decide_eq_true hc
            refine Ex.cons (Ex1.setV (w2 _) (EvV.bin (w2 _) (hfr _) (by walk_at "ev") (Ev.bin (w2 _) (by walk_at "ev") (Ev.bin (w2 _) (Ev.bin (w2 _) (by walk_at "ev") (Ev.int_eq (j := (c.length : Int)) (Ev.call g1 (w2 _) m.len (by walk_at "hv") (Kp.builtin _) (by walk_at "evl") (Spec.len_list (G := G.on h1) d (c.map .int) (by simp; (first | lia | omega))) rfl) (by simp)) (by walk_at "bin")) (by walk_at "ev") (by walk_at "bin")) (Bin.mul_list [.int 0] ((b : Int) - (c.length : Int) + 1) (by (first | lia | omega)) (by (first | lia | omega)) (by simp; (first | lia | omega)))) (BinN.add_list _ _ (by rw [flat_one]; simp; (first | lia | omega))) (by simp [atm])) (by walk_at "hv") (Nat.le_of_ble_eq_true rfl) (.inl rfl) rfl ?_)
            rintro _ ⟨ad', rfl⟩
            refine Ex.nil (w2 _) ⟨ad', ?_⟩
            rw [flat_one, List.map_append, List.map_replicate, show ((b : Int) - (c.length : Int) + 1).toNat = b + 1 - c.length by (first | lia | omega)]; rfl
          · have hc := of_decide_eq_false hc
            refine Ex.nil (w2 _) ⟨ad, ?_⟩
            rw [show b + 1 - c.length = 0 by (first | lia | omega)]; simp
          · rintro o ⟨ad', rfl⟩
            dsimp only [Then]
            have hbump : bump c b = (c ++ List.replicate (b + 1 - c.length) 0).set b (((c ++ List.replicate (b + 1 - c.length) 0)[b]?).getD 0 + 1) := rfl
            have hCl : (c ++ List.replicate (b + 1 - c.length) 0).length = max c.length (b + 1) := by simp; (first | lia | omega)
            generalize hC : c ++ List.replicate (b + 1 - c.length) 0 = C at *
            have hfr' : ∀ μ : List Slot, Wk (.v (.rf x) :: .v (S (st l)) :: .v (S (st [32])) :: .v (S (st [9])) :: .own ad' (C.map .int) :: μ) (.v (.rf x) :: .v (S (st l)) :: .v (S (st [32])) :: .v (S (st [9])) :: .v (Mine.L (C.map .int)) :: μ) := fun μ => .same (.same (.same (.same (.frz (Wk.refl _)))))
            obtain ⟨cb, hcb⟩ : ∃ cb, C[b]? = some cb := ⟨_, List.getElem?_eq_getElem (by (first | lia | omega))⟩
            rw [hcb] at hbump
            have hcb' : (C.map PyData.int)[((b : Int)).toNat]? = some (.int cb) := by rw [Int.toNat_natCast, List.getElem?_map, hcb]; rfl
            refine Ex.cons (Ex1.setItem (w2 _) (k := (b : Int)) (d := .int (cb + 1)) (by walk_at "hv") rfl (Ev.thaw (hfr' _) rfl (Ev.bin (w2 _) (Ev.idx_list (w2 _) (by walk_at "ev") (by walk_at "ev") (by (first | lia | omega)) (by (first | lia | omega)) hcb' rfl) (by walk_at "ev") (by walk_at "bin"))) (by walk_at "ev") (by (first | lia | omega)) (by simp; (first | lia | omega)) (by simp; (first | lia | omega)) rfl ?_)
            dsimp only [Then, List.set]
            (((with_reducible refine' Ex.cons (Ex1.set ?wz45 ?hez45 ?hvz45 ?hiz45 ?hkz45 ?hsz45 ?hqz45)); (case wz45 => walk_at "w"); (case hez45 => walk_at "ev"); (case hvz45 => walk_at "hv"); (case hiz45 => exact Nat.le_of_ble_eq_true rfl); (case hkz45 => first | exact .inl rfl | exact .inr rfl); (case hsz45 => rfl); (dsimp only [Then, List.set])))
            refine Ex.nil (w2 _) (Ex.nil (w2 _) (Ex.nil (w2 _) ⟨ad', bump c b, 0, n + 1, nt + 1, .v (S (st [9])), ?_, ?_, ?_, by (first | lia | omega)⟩))
            · rw [hbump, Int.toNat_natCast, List.map_set]; rfl
            · rw [hgo]; rfl
            · rw [hbump]; simp; (first | lia | omega)
        · have e9 : y ≠ 9 := by simpa using hc
          refine Ex.cons (Ex1.brk (w2 _) ?_)
          refine ⟨_, rfl, ad, c, b, n, nt, _, rfl, ?_, by (first | lia | omega)⟩
          rw [hgo]; simp only [wsGo, if_neg e32, if_neg e9]
    · rintro μ' ⟨ad, c, b, n, nt, s, rfl, hgo, hcl, hbl⟩
      have e : ((st l).cps.toList.map fun c => S ⟨#[c]⟩).length = l.length := by simp [st]
      rw [e] at hgo hcl hbl
      refine ⟨_, rfl, ad, c, b, n, nt, s, rfl, ?_, by (first | lia | omega)⟩
      rw [hgo, List.drop_length]; rfl
  rintro _ ⟨ad, c, b, n, nt, s, rfl, hgo, hcl⟩
  have e1 : ((wsGo l [] 0 0 0).1) = c := by rw [hgo]
  have e2 : ((wsGo l [] 0 0 0).2.1) = b := by rw [hgo]
  have e3 : ((wsGo l [] 0 0 0).2.2.1) = n := by rw [hgo]
  have e4 : ((wsGo l [] 0 0 0).2.2.2) = nt := by rw [hgo]
  unfold wsFs
  rw [e1, e2, e3, e4]
  refine ExI.set w ix g (self := "self") (by walk_at "hv") rfl (fun h1 c1 c2 w1 => by walk_at "ev") rfl (Nat.le_of_ble_eq_true rfl) (by rw [m.K]; exact ws_setattr p) (by rw [m.K]; exact ws_plain p) (by rw [m.K]; exact ws_t_n p) (by rw [m.K]; exact ws_dict p) rfl ?_
  refine ExI.set w ix g (self := "self") (by walk_at "hv") rfl (fun h1 c1 c2 w1 => by walk_at "ev") rfl (Nat.le_of_ble_eq_true rfl) (by rw [m.K]; exact ws_setattr p) (by rw [m.K]; exact ws_plain p) (by rw [m.K]; exact ws_t_nt p) (by rw [m.K]; exact ws_dict p) rfl ?_
  refine ExI.wk (.same (.same (.same (.same (.frz (Wk.refl _)))))) ?_
  refine ExI.set w ix g (self := "self") (by walk_at "hv") rfl (fun h1 c1 c2 w1 => Ev.tuple' w1 (EvL.cons w1 (Ev.call (g.up c1 c2) w1 m.tuple (by walk_at "hv") (Kp.type _) (by walk_at "evl") (Spec.tuple_list (G := G.on h1) d (c.map .int) (by simp; (first | lia | omega))) rfl) (by walk_at "evl") rfl) (by walk_at "dl") rfl) rfl (Nat.le_of_ble_eq_true rfl) (by rw [m.K]; exact ws_setattr p) (by rw [m.K]; exact ws_plain p) (by rw [m.K]; exact ws_t_norm p) (by rw [m.K]; exact ws_dict p) rfl ?_
  refine ExI.set w ix g (self := "self") (by walk_at "hv") rfl (fun h1 c1 c2 w1 => Ev.cmp w1 (Ev.int_eq (j := (c.length : Int)) (Ev.call (g.up c1 c2) w1 m.len (by walk_at "hv") (Kp.builtin _) (by walk_at "evl") (Spec.len_list (G := G.on h1) d (c.map .int) (by simp; (first | lia | omega))) rfl) (by simp)) (by walk_at "ev") (Cmp.le_int _ _) rfl) rfl (Nat.le_of_ble_eq_true rfl) (by rw [m.K]; exact ws_setattr p) (by rw [m.K]; exact ws_plain p) (by rw [m.K]; exact ws_t_is p) (by rw [m.K]; exact ws_dict p) rfl ?_
  exact ExI.nil rfl

/-! # P7 -/

def wsF (l : List Nat) (c : List Int) (b n nt : Nat) : List (Str × PyData) :=
  [("raw", .str (st l)), ("n", .int (n : Int)), ("nt", .int (nt : Int)), ("norm", .tuple [.tuple (c.map .int), .int (b : Int)]), ("is_simple", .bool (decide ((c.length : Int) ≤ 1)))]
theorem wsFs_eq {l : List Nat} {c : List Int} {b n nt : Nat} (h : wsGo l [] 0 0 0 = (c, b, n, nt)) : wsFs l = wsF l c b n nt := by unfold wsFs wsF; rw [h]
theorem Gm.max {G : Gd} {p : Params} (m : Gm G p) : Nm G "max" (.builtin "max") := m.nmB (by kernel_rfl) (by boot_by_name) (by decide)
theorem Gm.range {G : Gd} {p : Params} (m : Gm G p) : Nm G "range" (.type "range") := m.nmB (by kernel_rfl) (by boot_by_name) (by decide)

section
variable (p : Params)
theorem ws_long_ty : typeIn (hd.heap_1 p) (.ref 45) = some (.type "function") := by kernel_rfl
theorem ws_indent_ty : typeIn (hd.heap_1 p) (.ref 52) = some (.type "function") := by kernel_rfl
theorem ws_new_ty : typeIn (hd.heap_1 p) (.ref 66) = some (.type "function") := by kernel_rfl
theorem ws_less_ty : typeIn (hd.heap_1 p) (.ref 73) = some (.type "function") := by kernel_rfl
theorem ws_long_kp : keepIn (hd.heap_1 p) (.ref 45) = true := by kernel_rfl
theorem ws_indent_kp : keepIn (hd.heap_1 p) (.ref 52) = true := by kernel_rfl
theorem ws_new_kp : keepIn (hd.heap_1 p) (.ref 66) = true := by kernel_rfl
theorem ws_less_kp : keepIn (hd.heap_1 p) (.ref 73) = true := by kernel_rfl
end
section
variable {G : Gd} {p : Params}
theorem Ev.norm (m : Gm G p) {X : Cx} {μ : List Slot} (w : WX G X) {o : Expr} {pos : Pos} {l : List Nat} {c : List Int} {b n nt : Nat} (ho : Ev G X μ o (.ob 83 (wsF l c b n nt)))
    (hb : attributeBase o "norm" X.env (eval o X.env) = eval o X.env := by rfl) (ht : ∀ a b, letTemporaryGo o a b = pure () := by intro _ _; rfl) :
    Ev G X μ (.Attribute o "norm" pos) (TT [.tuple (c.map .int), .int (b : Int)]) :=
  Ev.attr m.g w ho rfl (by rw [m.K]; exact ws_getattribute p) (by rw [m.K]; exact ws_dict p) (by rw [m.K]; exact ws_no_norm p) rfl hb ht
theorem Ev.nt (m : Gm G p) {X : Cx} {μ : List Slot} (w : WX G X) {o : Expr} {pos : Pos} {l : List Nat} {c : List Int} {b n nt : Nat} (ho : Ev G X μ o (.ob 83 (wsF l c b n nt)))
    (hb : attributeBase o "nt" X.env (eval o X.env) = eval o X.env := by rfl) (ht : ∀ a b, letTemporaryGo o a b = pure () := by intro _ _; rfl) :
    Ev G X μ (.Attribute o "nt" pos) (I (nt : Int)) :=
  Ev.attr m.g w ho rfl (by rw [m.K]; exact ws_getattribute p) (by rw [m.K]; exact ws_dict p) (by rw [m.K]; exact ws_no_nt p) rfl hb ht

theorem long_spec (m : Gm G p) (d : Nat) (l : List Nat) (c : List Int) (b n nt : Nat) (hc : c.length ≤ 50000) : Spec G (d + 1) (.ref 45) [.ob 83 (wsF l c b n nt)] (I (wsLong c b)) := by
  have g := m.g
  refine Spec.intro m.g (by rw [m.K]; rfl) (by dsimp only) (by dsimp only) (by dsimp only) (by rw [m.K]; rfl) rfl rfl rfl rfl (by decide +kernel) (by dsimp only [List.map]) (by dsimp only [List.map])
    (by exact arg1 fun _ => rfl) rfl (by rfl) (nos := List.replicate 2 .no) (by rfl) (by rfl) (by rfl) rfl rfl rfl (by dsimp only [List.map, List.replicate, HAppend.hAppend, Append.append, List.append]) ?_
  intro A L cells cm HH w hcm
  refine Ex.cons (Ex1.unpack (w _) (Ev.norm m (w _) (by walk_at "ev")) ?_ rfl rfl rfl rfl)
  refine AsL.cons (As.name (w _) (by walk_at "hv") (Nat.le_of_ble_eq_true rfl) (.inl rfl) (AsL.cons (As.name (w _) (by walk_at "hv") (Nat.le_of_ble_eq_true rfl) (.inl rfl) (AsL.nil (w _) ?_)) rfl)) rfl
  dsimp only [Then, List.set]
  refine Ex.cons (Ex1.ret (w _) (t := I (wsLong c b)) (Ev.call g (w _) m.max (by walk_at "hv") (Kp.builtin _) (EvL.cons (w _) (Ev.bin (w _) (Ev.int_eq (j := (c.length : Int)) (Ev.call g (w _) m.len (by walk_at "hv") (Kp.builtin _) (by walk_at "evl") (Spec.len_tuple d (c.map .int) (by simp; (first | lia | omega))) rfl) (by simp)) (by walk_at "ev") (by walk_at "bin")) (by walk_at "evl") rfl) (Spec.max_two d _ _) rfl) ?_)
  rfl

theorem sum_bound (l : List Int) (M : Int) (h : ∀ v ∈ l, 0 ≤ v ∧ v ≤ M) : 0 ≤ l.sum ∧ l.sum ≤ M * l.length := by
  induction l with
  | nil => simp
  | cons a l ih =>
    have h1 := h a (.head _)
    have h2 := ih fun v hv => h v (.tail _ hv)
    rw [List.sum_cons, List.length_cons]
    have : M * ((l.length + 1 : Nat) : Int) = M * l.length + M := by rw [Int.natCast_add, Int.mul_add]; simp
    (first | lia | omega)
theorem small_bits {i : Int} {n : Nat} (h0 : 0 ≤ i) (h : i < 2 ^ n) : Bits i n := by
  unfold Bits
  have : ((i.natAbs : Nat) : Int) < ((2 ^ n : Nat) : Int) := by rw [Int.natAbs_of_nonneg h0, Int.natCast_pow]; exact h
  exact_mod_cast this
theorem indent_spec (m : Gm G p) (d : Nat) (l : List Nat) (c : List Int) (b n nt : Nat) (hc : c.length ≤ 50000) (hv : ∀ v ∈ c, 0 ≤ v ∧ v ≤ 50000) (hnt : nt ≤ 50000) (t : Int) (h1 : 1 ≤ t) (h2 : t ≤ 100000) :
    Spec G (d + 1) (.ref 52) [.ob 83 (wsF l c b n nt), I t] (I (colOf c b nt t)) := by
  have g := m.g
  have hterm : ∀ i ∈ rangeL t c.length, 0 ≤ i.fdiv t * (c[i.toNat]?).getD 0 ∧ i.fdiv t * (c[i.toNat]?).getD 0 ≤ 2500000000 := by
    intro i hi
    unfold rangeL at hi
    obtain ⟨k, hk, rfl⟩ := List.mem_map.mp hi
    have hk := List.mem_range.mp hk
    have e1 : 0 ≤ (t + (k : Int)).fdiv t := Int.fdiv_nonneg (by (first | lia | omega)) (by (first | lia | omega))
    have e2 : (t + (k : Int)).fdiv t ≤ 50000 := by
      rw [Int.fdiv_eq_ediv_of_nonneg _ (by (first | lia | omega))]
      exact Int.le_trans (Int.ediv_le_self _ (by (first | lia | omega))) (by (first | lia | omega))
    obtain ⟨v, hv'⟩ : ∃ v, c[(t + (k : Int)).toNat]? = some v := ⟨_, List.getElem?_eq_getElem (by (first | lia | omega))⟩
    rw [hv']
    have hvv := hv v (List.mem_of_getElem? hv')
    refine ⟨Int.mul_nonneg e1 hvv.1, ?_⟩
    exact Int.le_trans (Int.mul_le_mul e2 hvv.2 hvv.1 (by decide)) (by decide)
  have hsum : ∀ k, 0 ≤ (((rangeL t c.length).map fun i => i.fdiv t * (c[i.toNat]?).getD 0).take k).sum ∧ (((rangeL t c.length).map fun i => i.fdiv t * (c[i.toNat]?).getD 0).take k).sum ≤ 2500000000 * 50000 := fun k => by
    have := sum_bound (((rangeL t c.length).map fun i => i.fdiv t * (c[i.toNat]?).getD 0).take k) 2500000000 (fun v hv => by
      obtain ⟨i, hi, rfl⟩ := List.mem_map.mp (List.mem_of_mem_take hv)
      exact hterm i hi)
    have hl : (((rangeL t c.length).map fun i => i.fdiv t * (c[i.toNat]?).getD 0).take k).length ≤ 50000 := by
      rw [List.length_take, List.length_map, rangeL_len]; (first | lia | omega)
    (first | lia | omega)
  refine Spec.intro m.g (by rw [m.K]; rfl) (by dsimp only) (by dsimp only) (by dsimp only) (by rw [m.K]; rfl) rfl rfl rfl rfl (by decide +kernel) (by dsimp only [List.map]) (by dsimp only [List.map])
    (by exact arg2 fun _ _ => rfl) rfl (by rfl) (nos := List.replicate 4 .no) (by rfl) (by rfl) (by rfl) rfl rfl rfl (by dsimp only [List.map, List.replicate, HAppend.hAppend, Append.append, List.append]) ?_
  intro A L cells cm HH w hcm
  refine Ex.cons (Ex1.unpack (w _) (Ev.norm m (w _) (by walk_at "ev")) ?_ rfl rfl rfl rfl)
  refine AsL.cons (As.name (w _) (by walk_at "hv") (Nat.le_of_ble_eq_true rfl) (.inl rfl) (AsL.cons (As.name (w _) (by walk_at "hv") (Nat.le_of_ble_eq_true rfl) (.inl rfl) (AsL.nil (w _) ?_)) rfl)) rfl
  dsimp only [Then, List.set]
  (((with_reducible refine' Ex.cons (Ex1.set ?wz46 ?hez46 ?hvz46 ?hiz46 ?hkz46 ?hsz46 ?hqz46)); (case wz46 => walk_at "w"); (case hez46 => walk_at "ev"); (case hvz46 => walk_at "hv"); (case hiz46 => exact Nat.le_of_ble_eq_true rfl); (case hkz46 => first | exact .inl rfl | exact .inr rfl); (case hsz46 => rfl); (dsimp only [Then, List.set])))
  refine Ex.cons (Ex1.for w (It.range2 g (w _) m.range (by walk_at "hv") (by walk_at "ev") (Ev.int_eq (j := (c.length : Int)) (Ev.call g (w _) m.len (by walk_at "hv") (Kp.builtin _) (by walk_at "evl") (Spec.len_tuple d (c.map .int) (by simp; (first | lia | omega))) rfl) (by simp)) (by (first | lia | omega)) (by (first | lia | omega)) (by (first | lia | omega)) (by (first | lia | omega)) rfl rfl rfl)
    (fun k μ => ∃ s : Slot, μ = [.v (.ob 83 (wsF l c b n nt)), .v (I t), .v (TT (c.map PyData.int)), .v (I (b : Int)), .v (I (((rangeL t c.length).map fun i => i.fdiv t * (c[i.toNat]?).getD 0).take k).sum), s]) ⟨.no, by rw [List.take_zero]; rfl⟩ ?_ ?_ (by intro _; rfl) (by intro _ _; rfl))
  · rintro k tr μ' H' hk ⟨s, rfl⟩
    rw [List.getElem?_map] at hk
    obtain ⟨i, hi, rfl⟩ := Option.map_eq_some_iff.mp hk
    have hmem := List.mem_of_getElem? hi
    have ht := hterm i hmem
    have hib : 0 ≤ i ∧ i < c.length := by
      unfold rangeL at hmem
      obtain ⟨k', hk', e⟩ := List.mem_map.mp hmem
      have hk' := List.mem_range.mp hk'
      (first | lia | omega)
    obtain ⟨v, hv'⟩ : ∃ v, c[i.toNat]? = some v := ⟨_, List.getElem?_eq_getElem (by (first | lia | omega))⟩
    have hvv := hv v (List.mem_of_getElem? hv')
    have hcv : (c.map PyData.int)[i.toNat]? = some (.int v) := by rw [List.getElem?_map, hv']; rfl
    have hfd : 0 ≤ i.fdiv t ∧ i.fdiv t ≤ 50000 := by
      rw [Int.fdiv_eq_ediv_of_nonneg _ (by (first | lia | omega))]
      exact ⟨Int.ediv_nonneg (by (first | lia | omega)) (by (first | lia | omega)), Int.le_trans (Int.ediv_le_self _ (by (first | lia | omega))) (by (first | lia | omega))⟩
    have hmul : IntMulOk (i.fdiv t) v := mulOk (n := 20) (m := 20) (small_bits hfd.1 (by (first | lia | omega))) (small_bits hvv.1 (by (first | lia | omega))) (by decide)
    have hnp : Builtin.divisionGoesByPylong i t = false := noPylong' (Nat.le_trans (Bits.intBits (n := 20) (small_bits (by (first | lia | omega)) (by (first | lia | omega)))) (by decide))
    have htn : t ≠ 0 := by (first | lia | omega)
    refine As.name (w _) (by walk_at "hv") (Nat.le_of_ble_eq_true rfl) (.inl rfl) ?_
    dsimp only [List.set]
    refine Ex.cons (Ex1.set (w _) (Ev.bin (w _) (by walk_at "ev") (Ev.bin (w _) (by walk_at "ev") (Ev.idx_tuple (w _) (by walk_at "ev") (by walk_at "ev") (by (first | lia | omega)) (by (first | lia | omega)) (j := i.toNat) (by unfold seqIndex?; simp; (first | lia | omega)) hcv rfl) (by walk_at "bin")) (by walk_at "bin")) (by walk_at "hv") (Nat.le_of_ble_eq_true rfl) (.inl rfl) rfl ?_)
    dsimp only [Then, List.set]
    refine Ex.nil (w _) ⟨.v (I i), ?_⟩
    rw [List.take_add_one, List.getElem?_map, hi, Option.map_some, hv', List.sum_append]
    simp
  · rintro μ' ⟨s, rfl⟩
    dsimp only [Then]
    rw [List.take_of_length_le (by simp)]
    have hs := hsum (c.length)
    rw [List.take_of_length_le (by rw [List.length_map, rangeL_len]; (first | lia | omega))] at hs
    have hmul : IntMulOk t (((rangeL t c.length).map fun i => i.fdiv t * (c[i.toNat]?).getD 0).sum + nt) := mulOk (n := 20) (m := 60) (small_bits (by (first | lia | omega)) (by (first | lia | omega))) (small_bits (by (first | lia | omega)) (by (first | lia | omega))) (by decide)
    refine Ex.cons (Ex1.ret (w _) (t := I (colOf c b nt t)) (Ev.bin (w _) (by walk_at "ev") (Ev.bin (w _) (by walk_at "ev") (Ev.bin (w _) (by walk_at "ev") (Ev.nt m (w _) (by walk_at "ev")) (Bin.add_int _ _)) (Bin.mul_int _ _ hmul)) (Bin.add_int _ _)) ?_)
    rfl

theorem Ev.long (m : Gm G p) {X : Cx} {μ : List Slot} (w : WX G X) {o : Expr} {apos pos : Pos} {pl : Sem Bool} {l : List Nat} {c : List Int} {b n nt : Nat} (h : Lw c b nt) (hd : 1 ≤ X.d) (ho : Ev G X μ o (.ob 83 (wsF l c b n nt)))
    (he : eval (.Call (.Attribute o "longest_run_of_spaces" apos) [] [] pos) X.env = (do
      let ov ← eval o X.env
      standAt apos.atName
      let (f, first) ← holding [ov] (getMethod ov "longest_run_of_spaces" pl)
      callWith pos f first (backTo pos (starEach [] X.env)) []) := by rfl) : Ev G X μ (.Call (.Attribute o "longest_run_of_spaces" apos) [] [] pos) (I (wsLong c b)) :=
  Ev.ometh m.g w ho EvL.nil rfl (by rw [m.K]; exact ws_getattribute p) (by rw [m.K]; exact ws_getattr p) (by rw [m.K]; exact ws_long p) (by rw [m.K]; exact ws_long_ty p) (m.kp (ws_long_kp p)) ((long_spec m 0 l c b n nt h.len).mono hd) he rfl
theorem Ev.col (m : Gm G p) {X : Cx} {μ : List Slot} (w : WX G X) {o e : Expr} {apos pos : Pos} {pl : Sem Bool} {l : List Nat} {c : List Int} {b n nt : Nat} {t : Int} (h : Lw c b nt) (hd : 1 ≤ X.d) (ho : Ev G X μ o (.ob 83 (wsF l c b n nt))) (hargs : EvL G X μ [e] [I t]) (h1 : 1 ≤ t) (h2 : t ≤ 100000)
    (he : eval (.Call (.Attribute o "indent_level" apos) [e] [] pos) X.env = (do
      let ov ← eval o X.env
      standAt apos.atName
      let (f, first) ← holding [ov] (getMethod ov "indent_level" pl)
      callWith pos f first (backTo pos (starEach [e] X.env)) []) := by rfl) (hp : noStar [e] = true := by rfl) : Ev G X μ (.Call (.Attribute o "indent_level" apos) [e] [] pos) (I (colOf c b nt t)) :=
  Ev.ometh m.g w ho hargs rfl (by rw [m.K]; exact ws_getattribute p) (by rw [m.K]; exact ws_getattr p) (by rw [m.K]; exact ws_indent p) (by rw [m.K]; exact ws_indent_ty p) (m.kp (ws_indent_kp p)) ((indent_spec m 0 l c b n nt h.len h.cnt h.nt t h1 h2).mono hd) he hp

/-- the sizes at which two leads' columns part -/
def wsNew (f g : Int → Int) (N : Int) : List PyData := (rangeL 1 (N + 1)).filterMap fun t => if f t = g t then none else some (.tuple [.int t, .int (f t), .int (g t)])
theorem new_spec (m : Gm G p) (d : Nat) {l1 l2 : List Nat} {c1 c2 : List Int} {b1 b2 n1 n2 t1 t2 : Nat} (h1 : Lw c1 b1 t1) (h2 : Lw c2 b2 t2) :
    Spec G (d + 2) (.ref 66) [.ob 83 (wsF l1 c1 b1 n1 t1), .ob 83 (wsF l2 c2 b2 n2 t2)] (Mine.L (wsNew (colOf c1 b1 t1) (colOf c2 b2 t2) (max (wsLong c1 b1) (wsLong c2 b2) + 1))) := by
  have g := m.g
  have hw1 := h1.long
  have hw2 := h2.long
  generalize hN : max (wsLong c1 b1) (wsLong c2 b2) + 1 = N
  have hN1 : 1 ≤ N ∧ N ≤ 50001 := by (first | lia | omega)
  refine Spec.intro m.g (by rw [m.K]; rfl) (by dsimp only) (by dsimp only) (by dsimp only) (by rw [m.K]; rfl) rfl rfl rfl rfl (by decide +kernel) (by dsimp only [List.map]) (by dsimp only [List.map])
    (by exact arg2 fun _ _ => rfl) rfl (by rfl) (nos := List.replicate 3 .no) (by rfl) (by rfl) (by rfl) rfl rfl rfl (by dsimp only [List.map, List.replicate, HAppend.hAppend, Append.append, List.append]) ?_
  intro A L cells cm HH w hcm
  refine Ex.cons (Ex1.set (w _) (t := I N) (Ev.bin (w _) (Ev.call g (w _) m.max (by walk_at "hv") (Kp.builtin _) (EvL.cons (w _) (Ev.long m (w _) h1 (Nat.le_add_left _ _) (by walk_at "ev") rfl) (EvL.cons (w _) (Ev.long m (w _) h2 (Nat.le_add_left _ _) (by walk_at "ev") rfl) EvL.nil rfl) rfl) (Spec.max_two _ _ _) rfl) (by walk_at "ev") (hN ▸ Bin.add_int _ _)) (by walk_at "hv") (Nat.le_of_ble_eq_true rfl) (.inl rfl) rfl ?_)
  dsimp only [Then, List.set]
  refine Ex.cons (Ex1.setV (w _) (EvV.list (w _) (ds := []) EvL.nil rfl) (by walk_at "hv") (Nat.le_of_ble_eq_true rfl) (.inl rfl) rfl ?_)
  rintro _ ⟨ad, rfl⟩
  dsimp only [Then, List.set]
  generalize hf : (fun t : Int => if colOf c1 b1 t1 t = colOf c2 b2 t2 t then none else some (PyData.tuple [.int t, .int (colOf c1 b1 t1 t), .int (colOf c2 b2 t2 t)])) = f
  refine Ex.cons (Ex1.for w (It.range2 g (w _) m.range (by walk_at "hv") (by walk_at "ev") (by walk_at "ev") (by (first | lia | omega)) (by (first | lia | omega)) (by (first | lia | omega)) (by (first | lia | omega)) rfl rfl rfl)
    (fun k μ => ∃ s : Slot, μ = [.v (.ob 83 (wsF l1 c1 b1 n1 t1)), .v (.ob 83 (wsF l2 c2 b2 n2 t2)), .v (I N), .own ad (((rangeL 1 (N + 1)).take k).filterMap f), s]) ⟨.no, by rw [List.take_zero]; rfl⟩ ?_ ?_ (by intro _; rfl) (by intro _ _; rfl))
  · rintro k tr μ' H' hk ⟨s, rfl⟩
    rw [List.getElem?_map] at hk
    obtain ⟨t, ht, rfl⟩ := Option.map_eq_some_iff.mp hk
    have hmem := List.mem_of_getElem? ht
    have hb : 1 ≤ t ∧ t ≤ N ∧ k < 50001 := by
      have hkk := (List.getElem?_eq_some_iff.mp ht).1
      rw [rangeL_len] at hkk
      unfold rangeL at hmem
      obtain ⟨k', hk', e⟩ := List.mem_map.mp hmem
      have hk' := List.mem_range.mp hk'
      (first | lia | omega)
    have hlen : (((rangeL 1 (N + 1)).take k).filterMap f).length ≤ 100000 := by
      refine Nat.le_trans (List.length_filterMap_le _ _) ?_
      rw [List.length_take]; (first | lia | omega)
    have htk : ((rangeL 1 (N + 1)).take (k + 1)).filterMap f = ((rangeL 1 (N + 1)).take k).filterMap f ++ [t].filterMap f := by
      rw [List.take_add_one, ht, List.filterMap_append]; rfl
    refine As.name (w _) (by walk_at "hv") (Nat.le_of_ble_eq_true rfl) (.inl rfl) ?_
    dsimp only [List.set]
    refine Ex.cons (Ex1.ite (w _) (Ts.cmp (w _) (Ev.col m (w _) h1 (Nat.le_add_left _ _) (by walk_at "ev") (by walk_at "evl") hb.1 (by (first | lia | omega)) rfl rfl) (Ev.col m (w _) h2 (Nat.le_add_left _ _) (by walk_at "ev") (by walk_at "evl") hb.1 (by (first | lia | omega)) rfl rfl) (Cmp.ne_data _ _ rfl rfl)) (fun hc => ?_) fun hc => ?_)
    · have hne : ¬ colOf c1 b1 t1 t = colOf c2 b2 t2 t := by rw [eqv_int] at hc; simpa using hc
      refine Ex.cons (Ex1.append (w _) (by walk_at "hv") rfl (EvL.cons (w _) (Ev.tuple' (w _) (EvL.cons (w _) (by walk_at "ev") (EvL.cons (w _) (Ev.col m (w _) h1 (Nat.le_add_left _ _) (by walk_at "ev") (by walk_at "evl") hb.1 (by (first | lia | omega)) rfl rfl) (EvL.cons (w _) (Ev.col m (w _) h2 (Nat.le_add_left _ _) (by walk_at "ev") (by walk_at "evl") hb.1 (by (first | lia | omega)) rfl rfl) EvL.nil rfl) rfl) rfl) (by walk_at "dl") rfl) EvL.nil rfl) hlen ?_ rfl rfl rfl rfl)
      dsimp only [Then, List.set]
      refine Ex.nil (w _) (Ex.nil (w _) ⟨.v (I t), ?_⟩)
      rw [htk, ← hf]
      simp only [List.filterMap_cons, if_neg hne]; rfl
    · have he : colOf c1 b1 t1 t = colOf c2 b2 t2 t := by rw [eqv_int] at hc; simpa using hc
      refine Ex.nil (w _) (Ex.nil (w _) ⟨.v (I t), ?_⟩)
      rw [htk, ← hf]
      simp only [List.filterMap_cons, if_pos he]; simp
  · rintro μ' ⟨s, rfl⟩
    dsimp only [Then]
    rw [List.take_of_length_le (by simp)]
    refine Ex.wk (.same (.same (.same (.frz (Wk.refl _))))) ?_
    refine Ex.cons (Ex1.ret (w _) (by walk_at "ev") ?_)
    rw [← hf]; rfl

theorem Gm.ws {G : Gd} {p : Params} (m : Gm G p) : Nm G "Whitespace" (.ref 83) := m.nmG (ws_name p)
theorem Gm.kws {G : Gd} {p : Params} (m : Gm G p) : Kp G (.ref 83) := m.kp (by kernel_rfl)
theorem lead_length (runs : List Nat) (b : Nat) (tl : List Nat) : (lead runs b tl).length = (runs.map (· + 1)).sum + b + tl.length := by
  unfold lead
  rw [List.length_append, List.length_append, List.length_replicate, List.length_flatMap]
  have : (runs.map fun r => (List.replicate r 32 ++ [9]).length) = runs.map (· + 1) := List.map_congr_left fun r _ => by simp
  rw [this]; (first | lia | omega)
abbrev lob (runs : List Nat) (b : Nat) (tl : List Nat) : Tr := .ob 83 (wsF (lead runs b tl) (cnt runs) b ((runs.map (· + 1)).sum + b) runs.length)
theorem lead_make (m : Gm G p) (d : Nat) (runs : List Nat) (b c0 : Nat) (tl : List Nat) (h32 : c0 ≠ 32) (h9 : c0 ≠ 9) (hl : (lead runs b (c0 :: tl)).length ≤ 50000) : Spec G (d + 2) (.ref 83) [S (st (lead runs b (c0 :: tl)))] (lob runs b (c0 :: tl)) := by
  have s := ws_make m d (lead runs b (c0 :: tl)) hl
  have e := wsGo_lead (b := b) (tl := tl) h32 h9 runs [] 0 0
  rw [Nat.zero_add, Nat.zero_add] at e
  rwa [wsFs_eq e] at s
/-- the sizes at which two leads' columns part -/
def neL (f g : Nat → Nat) (N : Nat) : List (Nat × Nat × Nat) := (List.range' 1 N).filterMap fun t => if f t = g t then none else some (t, f t, g t)
def tri (x : Nat × Nat × Nat) : PyData := .tuple [.int (x.1 : Nat), .int (x.2.1 : Nat), .int (x.2.2 : Nat)]
theorem wsNew_lead (r1 r2 : List Nat) (b1 b2 N : Nat) : wsNew (colOf (cnt r1) b1 r1.length) (colOf (cnt r2) b2 r2.length) (N : Nat) = (neL (colL r1 b1) (colL r2 b2) N).map tri := by
  unfold wsNew neL rangeL
  rw [List.range'_eq_map_range, List.filterMap_map, List.filterMap_map, List.map_filterMap, show ((N : Int) + 1 - 1).toNat = N by (first | lia | omega)]
  apply filterMap_cong
  intro k _
  simp only [Function.comp]
  rw [show (1 : Int) + (k : Int) = ((1 + k : Nat) : Int) by (first | lia | omega), col_lead r1 b1 _ (by (first | lia | omega)), col_lead r2 b2 _ (by (first | lia | omega))]
  by_cases h : colL r1 b1 (1 + k) = colL r2 b2 (1 + k)
  · rw [if_pos (by rw [h]), if_pos h]; rfl
  · rw [if_neg (by (first | lia | omega)), if_neg h]; rfl
def neN (r1 r2 : List Nat) (b1 b2 : Nat) : Nat := max (max (r1.foldr max 0) b1) (max (r2.foldr max 0) b2) + 1
theorem new_lead (m : Gm G p) (d : Nat) (r1 r2 : List Nat) (b1 b2 : Nat) (t1 t2 : List Nat) (h1 : Lw (cnt r1) b1 r1.length) (h2 : Lw (cnt r2) b2 r2.length) :
    Spec G (d + 2) (.ref 66) [lob r1 b1 t1, lob r2 b2 t2] (Mine.L ((neL (colL r1 b1) (colL r2 b2) (neN r1 r2 b1 b2)).map tri)) := by
  have s := new_spec m d (l1 := lead r1 b1 t1) (l2 := lead r2 b2 t2) (n1 := (r1.map (· + 1)).sum + b1) (n2 := (r2.map (· + 1)).sum + b2) h1 h2
  rw [long_lead, long_lead, show max (((max (r1.foldr max 0) b1 : Nat) : Int)) (((max (r2.foldr max 0) b2 : Nat) : Int)) + 1 = ((neN r1 r2 b1 b2 : Nat) : Int) by unfold neN; (first | lia | omega), wsNew_lead] at s
  exact s
end

/-! # P8 -/

/-! ## a division by nought, refused -/
theorem Gm.zde {G : Gd} {p : Params} (m : Gm G p) : Nm G "ZeroDivisionError" (.type "ZeroDivisionError") := m.nmB (by kernel_rfl) (by boot_by_name) (by decide)
section
variable {G : Gd} {p : Params} {X : Cx} {μ : List Slot}
theorem nm_load' (g : Gr G) (w : WX G X) {A : Around} {x : Str} {v : Value} (hn : Nm G x v) {i : Nat} (hx : HV X.vars X.kinds x i .globalImplicit) {s : Shared} (gs : G.hG.StaysIn s.heap) {p : Pos} {Q : Value → Shared → Prop} {E : Value → Shared → Prop} (hq : Q v s) :
    wpAny G.M A (eval (.Name x p) X.env) Q E s := by
  have hk := w.kind' hx.at.1 hx.at.2 (by decide)
  have hd := (w.dbg i x hx.at.1).1
  refine Name_function_global w.fk hk ?_ hd
  have ng : s.heap.Ns X.env.globals G.mg := w.gl ▸ g.g.keeps gs
  have nb : s.heap.Ns X.env.builtins G.mb := w.bi ▸ g.b.keeps gs
  rcases hn with hn | ⟨h0, hn⟩
  · exact loadGlobal_global ng hn hq
  · exact loadGlobal_builtin ng h0 nb hn hq

/-- the error under way: all but the frames' own rows stands -/
def Fly (G : Gd) (l : List Env) (e : Value) (s : Shared) : Prop :=
  ∃ ea a0 B, e = .ref ea ∧ G.hG.StaysIn B ∧ (∀ q ∈ G.tabs, TabAt B q) ∧ Heap.FlyingW B l ea (.type "ZeroDivisionError") a0 s.heap ∧ s.gens = G.gens ∧ s.os = G.os
theorem ns_frame {h base : Heap} {L : Addr} {m : Str → Option Value} (n : h.Ns L m) (hb : base.get? L = none) {env : Env} (hf : env.frame = some L) (hk : env.scope.kind ≠ .module) {r : List Env} (hr : h.FunFrames base r) : h.FunFrames base (env :: r) :=
  Heap.FunFrames.cons hk hf n hb hr

theorem zero_raise (m : Gm G p) {a : Int} {A : Around} {s : Shared} {D : List Addr} {vs : List Value} {d : Nat} {env0 env1 : Env} {L0 L1 : Addr} {m0 m1 : Str → Option Value}
    (hh : A.handled = none) (hdp : A.depth + (d + 1) ≤ recursionLimit) (hu : A.units + 8 * (d + 1) + 80 ≤ cLine) (gs : Good G s) (hT : ∀ a ∈ G.T, a ∈ D) (hD : ∀ a ∈ D, ∃ o, s.heap.get? a = some o) (hargs : AllIs s.heap D vs [I a, I 0])
    (hA : A.frames = some [env1, env0]) (f0 : env0.frame = some L0) (f1 : env1.frame = some L1) (k0 : env0.scope.kind ≠ .module) (k1 : env1.scope.kind ≠ .module) (n0 : s.heap.Ns L0 m0) (n1 : s.heap.Ns L1 m1) (g0 : G.hG.get? L0 = none) (g1 : G.hG.get? L1 = none) :
    wpAny G.M A (PySem.call (.ref 129) vs) (fun _ _ => False) (fun e s' => Fly G [env1, env0] e s') s := by
  have g := m.g
  refine fn_core m.g (by rw [m.K]; rfl) (by dsimp only) (by dsimp only) (by dsimp only) (by rw [m.K]; rfl) rfl rfl rfl rfl (by decide +kernel) (by dsimp only [List.map]) (by dsimp only [List.map])
    (by exact arg2 fun _ _ => rfl) rfl (by rfl) (nos := List.replicate 5 .no) (by rfl) (by rfl) (by rfl) rfl rfl rfl (by dsimp only [List.map, List.replicate, HAppend.hAppend, Append.append, List.append]) hh hdp hu gs hT hD hargs ?_
  intro L cells cm w hcm os MH hL s1 st hg1 ho1 keep
  refine wpAny_execs_cons ?_
  refine wpAny_If (wpAny_mono ((show Ts G _ _ _ true from Ts.cmp (w D) (by walk_at "ev") (by walk_at "ev") (Cmp.eq_data _ _ rfl rfl)) s1 st) (fun v s2 h2 => ?_) fun _ _ x => x.elim)
  obtain ⟨K2, rfl⟩ := h2
  have st2 := st.step (w D) K2
  refine wpAny_execs_cons ?_
  refine Raise_classB (w D).hand excClass_ZeroDivisionError (by rw [isSubtype_type]; kernel_rfl) (nm_load' g (w D) m.zde (by walk_at "hv") K2.1.stays ⟨rfl, rfl⟩) fun h' e hx => ?_
  obtain ⟨ob, tv, he, hcls, hd⟩ := hx.there
  obtain ⟨mL, nL, _⟩ := st2.vars
  have gL : G.hG.get? L = none := (w D).Lnew
  have N0 : s2.heap.Ns L0 m0 := K2.ns st.good (n0.keeps keep)
  have N1 : s2.heap.Ns L1 m1 := K2.ns st.good (n1.keeps keep)
  have gs2 := K2.1
  have goneT : ∀ a, G.hG.get? a = none → a ∉ G.T → True := fun _ _ _ => trivial
  have sB : G.hG.StaysIn (hideAll s2.heap [L, L1, L0]) := fun b o q => hideAll_get _ (gs2.stays b o q) fun z => by
    rcases List.mem_cons.mp z with rfl | z
    · rw [gL] at q; cases q
    · rcases List.mem_cons.mp z with rfl | z
      · rw [g1] at q; cases q
      · rcases List.mem_cons.mp z with rfl | z
        · rw [g0] at q; cases q
        · cases z
  have tB : ∀ q ∈ G.tabs, TabAt (hideAll s2.heap [L, L1, L0]) q := fun q hq => by
    obtain ⟨ps, e1, r⟩ := gs2.tab q hq
    have hqT : q.P ∈ G.T := List.mem_map.mpr ⟨q, hq, rfl⟩
    refine ⟨ps, hideAll_get _ e1 fun z => ?_, ?_⟩
    · rcases List.mem_cons.mp z with z | z
      · exact L_notT gs2 nL (z ▸ hqT)
      · rcases List.mem_cons.mp z with z | z
        · exact L_notT gs2 N1 (z ▸ hqT)
        · rcases List.mem_cons.mp z with z | z
          · exact L_notT gs2 N0 (z ▸ hqT)
          · cases z
    · rcases r with r | ⟨c', r, z⟩
      · exact .inl r
      · refine .inr ⟨c', r, ?_⟩
        obtain ⟨c, o, vs, t, z1, z2, z3, z4⟩ := z
        refine ⟨c, o, vs, t, z1, hideAll_get _ z2 fun y => ?_, z3, z4⟩
        have nodat : ∀ {L : Addr} {m : Str → Option Value}, s2.heap.Ns L m → c = L → False := fun n y => by
          obtain ⟨o', es, ep, e', hd', _⟩ := n
          rw [← y, z2] at e'; cases e'; rw [z3] at hd'; cases hd'
        rcases List.mem_cons.mp y with y | y
        · exact nodat nL y
        · rcases List.mem_cons.mp y with y | y
          · exact nodat N1 y
          · rcases List.mem_cons.mp y with y | y
            · exact nodat N0 y
            · cases y
  have bL : ∀ b ∈ [L, L1, L0], (hideAll s2.heap [L, L1, L0]).get? b = none := fun b hb => hideAll_none _ hb
  have hen : (hideAll s2.heap [L, L1, L0]).get? e = none := by
    cases q : (hideAll s2.heap [L, L1, L0]).get? e with
    | none => rfl
    | some o => have := of_hideAll _ q; rw [hx.new] at this; cases this
  refine wpAny_leaving_firstW (base := hideAll s2.heap [L, L1, L0]) (a0 := tv) (outer := [env1, env0]) (L := L) (Around.frames_deeper hA) (ns_frame (nL.keeps hx.keeps) (bL _ (.head _)) rfl (fun q => by rw [(w D).fk] at q; cases q) (ns_frame (N1.keeps hx.keeps) (bL _ (.tail _ (.head _))) f1 k1 (ns_frame (N0.keeps hx.keeps) (bL _ (.tail _ (.tail _ (.head _)))) f0 k0 trivial))) rfl he (fun b o q => hx.keeps b o (of_hideAll _ q)) hen hd rfl rfl fun h5 hL => ?_
  obtain ⟨y1, ⟨_, _, y2⟩, y3, _⟩ := hL
  exact ⟨e, tv, _, rfl, sB, tB, ⟨y1, hen, y2, hcls ▸ y3⟩, gs2.gens, gs2.os⟩

theorem EvL.run {s : Shared} (h0 : St G X μ s) {es : List Expr} {ts : List Tr} (h : EvL G X μ es ts) (pos : Pos) : wpAny G.M X.A (spliced (backTo pos (starEach es X.env))) (fun vs s' => Step G s s' ∧ AllIs s'.heap (hid X μ) vs ts) (fun _ _ => False) s := h s pos h0
theorem mono_fly {M : Model} {A : Around} {e : Expr} {env env0 : Env} {Q : Value → Shared → Prop} {E : Value → Shared → Prop} {s : Shared} (h1 : wpAny M A (eval e env) (fun _ _ => False) (fun x s' => Fly G [env, env0] x s') s) (h2 : ∀ x s', Fly G [env, env0] x s' → E x s') : wpAny M A (eval e env) Q E s :=
  wpAny_mono h1 (fun _ _ x => x.elim) h2
theorem refused_law (m : Gm G p) (w : WX G X) (hA : X.A.frames = some [X.env]) (hf : X.env.frame = some X.env.locals) (hX : 2 ≤ X.d) {s : Shared} (h : St G X μ s) {v : Value} {a : Int} (hv : Is s.heap (hid X μ) v (I a)) :
    wpAny G.M X.A (PySem.call (.ref 219) [v]) (fun r s' => r = .bool true ∧ Good G s') (fun _ _ => False) s := by
  have g := m.g
  obtain ⟨d', hd'⟩ : ∃ d', X.d = d' + 2 := ⟨X.d - 2, by (first | lia | omega)⟩
  have wd := w.depth
  have wu := w.units
  refine wpAny_mono (Q := fun r s' => r = .bool true ∧ Good G s') (E := fun _ _ => False) ?_ (fun _ _ x => x) fun _ _ x => x
  refine fn_core (d := d' + 1) m.g (by rw [m.K]; rfl) (by dsimp only) (by dsimp only) (by dsimp only) (by rw [m.K]; rfl) rfl rfl rfl rfl (by decide +kernel) (by dsimp only [List.map]) (by dsimp only [List.map])
    (by exact arg1 fun _ => rfl) rfl (by rfl) (nos := []) (by rfl) (by rfl) (by rfl) rfl rfl rfl (by dsimp only [List.map, List.replicate, HAppend.hAppend, Append.append, List.append]) w.hand (by (first | lia | omega)) (by (first | lia | omega)) h.good w.TH h.dom (AllIs.cons hv .nil) ?_
  intro L cells cm W hcm os MH hL s1 st1 hg1 ho1 keep
  refine wpAny_mono (E := fun _ _ => False) ?_ (fun _ _ x => x) fun _ _ x => x.elim
  refine wpAny_execs_cons ?_
  refine wpAny_Try_except ?_
  refine wpAny_execs_cons (wpAny_Expr_any ?_ rfl rfl)
  obtain ⟨m0, n0, _⟩ := h.vars
  obtain ⟨m1, n1, _⟩ := st1.vars
  refine mono_fly (G := G) (env0 := X.env) (Call_Name rfl (nm_load g (W _) m.idm (by walk_at "hv") st1.good ?_)) (fun e s2 hF => ?_)
  · refine callWith_of (P := fun hp => G.K.In hp) (by rw [starEach_plain _ _ _ (by rfl)]; rfl) m.kidm ?_
    refine evalArgs_any rfl (wpAny_mono (EvL.run st1 (ts := [I a, I 0]) (by walk_at "evl") _) (fun vs s2 h2 => ?_) fun _ _ x => x.elim)
    obtain ⟨K2, r2⟩ := h2
    refine ⟨g.X.keeps K2.1.stays, ?_⟩
    exact zero_raise m (d := d') (W []).hand (W []).depth (W []).units K2.1 (W _).TH (st1.step (W _) K2).dom r2 (Around.frames_deeper hA) hf rfl (fun q => by rw [w.fk] at q; cases q) (fun q => by rw [(W []).fk] at q; cases q)
      (K2.ns st1.good (n0.keeps keep)) (K2.ns st1.good n1) w.Lnew (W []).Lnew
  · obtain ⟨ea, a0, B, rfl, sB, tB, hfl, eg, eo⟩ := hF
    refine wpAny_looks_onW (Around.frames_deeper hA) rfl hfl fun h4 hheld4 hsm4 => ?_
    refine wpAny_landsW hheld4 fun h5 hheld hsm5 => ?_
    obtain ⟨ob, hob, hobc⟩ := hheld.there
    refine wpAny_handleBy_builtin (X := "ZeroDivisionError") (T := "ZeroDivisionError") (b := true) PySem.F.isExc_ZeroDivisionError PySem.F.notTuple_ZeroDivisionError (by rw [isSubtype_type]; kernel_rfl) (nm_load' g (W []) m.zde (by walk_at "hv") (fun b o q => hheld.1 b o (sB b o q)) ⟨rfl, ⟨ob, hob, hobc⟩, ?_⟩)
    refine lands_againW hheld fun h6 hfl6 hsm6 => ?_
    refine wpAny_passesOwnAt PassesOwnAt.never ?_
    refine wpAny_execs_cons (wpAny_Return_some (wpAny_Constant_bool ?_))
    exact ⟨rfl, ⟨fun b o q => hfl6.1 b o (sB b o q), fun q hq => (tB q hq).keeps hfl6.1, eg, eo⟩⟩

/-! ## a run that ends with the refusal -/
def EvZ (G : Gd) (X : Cx) (μ : List Slot) (e : Expr) : Prop := ∀ s, St G X μ s → wpAny G.M X.A (eval e X.env) (fun v s' => v = .bool true ∧ Good G s') (fun _ _ => False) s
def ExZ (G : Gd) (X : Cx) (μ : List Slot) (ss : List Stmt) : Prop := ∀ s, St G X μ s → wpAny G.M X.A (execs ss X.env) (fun fl s' => fl = .ret (.bool true) ∧ Good G s') (fun _ _ => False) s
@[reducible] def ZO (G : Gd) (X : Cx) (rest : List Stmt) : Out → Prop
  | .next ν => ExZ G X ν rest
  | .ret _ t => t = B true
  | _ => False
theorem ExZ.run {s : Shared} (h0 : St G X μ s) {ss : List Stmt} (h : ExZ G X μ ss) : wpAny G.M X.A (execs ss X.env) (fun fl s' => fl = .ret (.bool true) ∧ Good G s') (fun _ _ => False) s := h s h0
theorem ExZ.cons {st : Stmt} {rest : List Stmt} (h : Ex1 G X μ st (ZO G X rest)) : ExZ G X μ (st :: rest) := fun s hs => by
  refine wpAny_execs_cons (wpAny_mono (h s hs) (fun f s' e => ?_) fun _ _ x => x)
  cases f with
  | next => obtain ⟨ν, q, v⟩ := e; exact q s' v.st
  | brk => obtain ⟨ν, q, v⟩ := e; exact q.elim
  | cont => obtain ⟨ν, q, v⟩ := e; exact q.elim
  | ret v =>
    obtain ⟨ν, t, q, m, r⟩ := e
    have q : t = B true := q
    subst q
    exact ⟨congrArg Flow.ret (Is.bool_inv r), m.st.good⟩
theorem ExZ.ret {e : Expr} {p : Pos} {rest : List Stmt} (h : EvZ G X μ e) : ExZ G X μ (.Return (some e) p :: rest) := fun s hs =>
  wpAny_execs_cons (wpAny_Return_some (wpAny_mono (h s hs) (fun v s' e => ⟨congrArg Flow.ret e.1, e.2⟩) fun _ _ x => x))
theorem Gm.refused (m : Gm G p) : Nm G "_law_refused" (.ref 219) := m.nmG (by kernel_rfl)
theorem Gm.krefused (m : Gm G p) : Kp G (.ref 219) := m.kp (by kernel_rfl)
theorem EvZ.refused (m : Gm G p) (w : WX G X) (hA : X.A.frames = some [X.env]) (hf : X.env.frame = some X.env.locals) (hX : 2 ≤ X.d) {q pos : Pos} {e : Expr} {i : Nat} {a : Int} (hx : HV X.vars X.kinds "_law_refused" i .globalImplicit) (he : EvL G X μ [e] [I a]) (hp : noStar [e] = true := by rfl) :
    EvZ G X μ (.Call (.Name "_law_refused" q) [e] [] pos) := fun s h => by
  refine call_name m.g w m.refused hx m.krefused he h (fun s₁ vs K r0 => ?_) hp
  obtain ⟨v, rfl, r⟩ := one_arg r0
  exact refused_law m w hA hf hX (h.step w K) r
end

/-! # A1 -/

theorem Gm.p257 {G : Gd} {p : Params} (m : Gm G p) : Nm G "parse257" (.ref 161) := m.nmG (by kernel_rfl)
theorem Gm.kp257 {G : Gd} {p : Params} (m : Gm G p) : Kp G (.ref 161) := m.kp (by kernel_rfl)
theorem quotes_all : ∀ h < 8, ∀ c < 26, Txt.count (st (List.replicate h 34 ++ [97 + c])) (st [34]) = h ∧ Txt.count (st (List.replicate h 34)) (st [34]) = h := by decide +kernel
def bit3 (q : Nat) : List Nat := [q % 2, q / 2 % 2, q / 2 / 2 % 2]
section
variable {G : Gd} {p : Params}
theorem Ev.rep {X : Cx} {μ : List Slot} (w : WX G X) {e1 : Expr} {k1 : Nat} {q1 q2 : Pos} {x : Str} {c : Nat} {i : Int} (hx : x = st [c]) (h1 : Ev G X μ e1 (I i)) (hi : 0 ≤ i) (hi2 : i ≤ 100000) : Ev G X μ (.BinOp (.Constant (.str x) k1 q1) .Mult e1 q2) (S (st (List.replicate i.toNat c))) := by
  subst hx
  have b := Ev.bin (X := X) (μ := μ) w (Ev.str (k := k1) (p := q1)) h1 (Bin.mul_str (st [c]) i (mulOk_small (by (first | lia | omega)) (by (first | lia | omega)) (by rw [st_len]; simp; (first | lia | omega)))) (p := q2)
  rwa [st_mul1] at b
theorem Ev.cat {X : Cx} {μ : List Slot} (w : WX G X) {e1 e2 : Expr} {q : Pos} {l1 l2 : List Nat} (h1 : Ev G X μ e1 (S (st l1))) (h2 : Ev G X μ e2 (S (st l2))) (hn : l1.length + l2.length ≤ 2 ^ 24) : Ev G X μ (.BinOp e1 .Add e2 q) (S (st (l1 ++ l2))) := by
  have b := Ev.bin (X := X) (μ := μ) w h1 h2 (Bin.add_str (st l1) (st l2) (by rw [st_len, st_len]; exact hn)) (p := q)
  rwa [st_app] at b
theorem Ev.msg {X : Cx} {μ : List Slot} (w : WX G X) {e1 e2 : Expr} {k1 k2 : Nat} {q1 q2 q3 q4 q5 : Pos} {c : Nat} {i : Int} {x1 x2 : Str} (hx1 : x1 = st [50, 53, 55, 32, 34]) (hx2 : x2 = st [34]) (h1 : Ev G X μ e1 (I i)) (h2 : Ev G X μ e2 (S (st [c]))) (hi : 0 ≤ i) (hi2 : i ≤ 100000) :
    Ev G X μ (.BinOp (.BinOp (.Constant (.str x1) k1 q1) .Add (.BinOp (.Constant (.str x2) k2 q2) .Mult e1 q3) q4) .Add e2 q5) (S (st ([50, 53, 55, 32, 34] ++ (List.replicate i.toNat 34 ++ [c])))) := by
  rw [← List.append_assoc]
  exact Ev.cat w (Ev.cat w (Ev.lit hx1) (Ev.rep w hx2 h1 hi hi2) (by simp; (first | lia | omega))) h2 (by simp; (first | lia | omega))

theorem figures_spec (m : Gm G p) (d q c0 : Nat) (hq : q ≤ 7) (hc : c0 < 26) :
    Spec G (d + 2) (.ref 168) [I q, S (st [97 + c0])] (Mine.L ((bit3 q).map fun n => .int (n : Nat))) := by
  have g := m.g
  refine Spec.intro m.g (by rw [m.K]; rfl) (by dsimp only) (by dsimp only) (by dsimp only) (by rw [m.K]; rfl) rfl rfl rfl rfl (by decide +kernel) (by dsimp only [List.map]) (by dsimp only [List.map])
    (by exact arg2 fun _ _ => rfl) rfl (by rfl) (nos := List.replicate 3 .no) (by rfl) (by rfl) (by rfl) rfl rfl rfl (by dsimp only [List.map, List.replicate, HAppend.hAppend, Append.append, List.append]) ?_
  intro A L cells cm HH w hcm
  refine Ex.cons (Ex1.setV (w _) (EvV.list (w _) (ds := []) EvL.nil rfl) (by walk_at "hv") (Nat.le_of_ble_eq_true rfl) (.inl rfl) rfl ?_)
  rintro _ ⟨ad, rfl⟩
  dsimp only [Then, List.set]
  generalize hcc : 97 + c0 = c
  have hc34 : c ≠ 34 := by (first | lia | omega)
  refine Ex.cons (Ex1.for w (It.range1 g (w _) m.range (by walk_at "hv") (by walk_at "ev") (by decide) (by decide) rfl rfl)
    (fun i μ => ∃ s3 s4 : Slot, μ = [.v (I (q / 2 ^ i : Nat)), .v (S (st [c])), .own ad (((bit3 q).take i).map fun n => .int (n : Nat)), s3, s4]) ⟨.no, .no, by simp⟩ ?_ ?_ (by intro _; rfl) (by intro _ _; rfl))
  · rintro i t μ' H' hit ⟨s3, s4, rfl⟩
    rw [List.getElem?_map] at hit
    obtain ⟨t', ht', rfl⟩ := Option.map_eq_some_iff.mp hit
    have hi3 : i < 3 := by
      have := (List.getElem?_eq_some_iff.mp ht').1
      rw [rangeL_len] at this; (first | lia | omega)
    have hz : q / 2 ^ i ≤ 7 := Nat.le_trans (Nat.div_le_self _ _) hq
    have hnx : q / 2 ^ (i + 1) = q / 2 ^ i / 2 := by rw [Nat.pow_succ, Nat.div_div_eq_div_mul]
    have htk : (bit3 q).take (i + 1) = (bit3 q).take i ++ [q / 2 ^ i % 2] := by
      match i, hi3 with
      | 0, _ => simp [bit3]
      | 1, _ => simp [bit3]
      | 2, _ => simp [bit3, Nat.div_div_eq_div_mul]
    rw [hnx, htk, List.map_append]
    generalize q / 2 ^ i = z at *
    refine As.name (w _) (by walk_at "hv") (Nat.le_of_ble_eq_true rfl) (.inl rfl) ?_
    dsimp only [List.set]
    have s1 := p257_spec m d z c hc34 (by (first | lia | omega))
    refine Ex.cons (Ex1.set (w _) (Ev.call g (w _) m.p257 (by walk_at "hv") m.kp257 (EvL.cons (w _) (Ev.msg (w _) (by rfl) (by rfl) (by walk_at "ev") (by walk_at "ev") (by (first | lia | omega)) (by (first | lia | omega))) EvL.nil rfl) (by rw [Int.toNat_natCast]; exact s1) rfl) (by walk_at "hv") (Nat.le_of_ble_eq_true rfl) (.inl rfl) rfl ?_)
    dsimp only [Then, List.set]
    have hq2 := quotes_all (z / 2) (by (first | lia | omega)) c0 hc
    rw [hcc] at hq2
    have hcnt : Txt.count (st (List.replicate (z / 2) 34 ++ if z % 2 = 0 then [c] else [])) (st [34]) = z / 2 := by
      by_cases h : z % 2 = 0
      · rw [if_pos h]; exact hq2.1
      · rw [if_neg h, List.append_nil]; exact hq2.2
    refine Ex.cons (Ex1.set (w _) (t := I (z / 2 : Nat)) (Ev.int_eq (Ev.count (w _) (by walk_at "ev") (EvL.cons (w _) (Ev.lit (l := [34]) (by rfl)) EvL.nil rfl) rfl rfl) (by rw [hcnt]; rfl)) (by walk_at "hv") (Nat.le_of_ble_eq_true rfl) (.inl rfl) rfl ?_)
    dsimp only [Then, List.set]
    refine Ex.cons (Ex1.append (w _) (by walk_at "hv") rfl (EvL.cons (w _) (Ev.index_strs (w _) (j := z % 2) (xs := [st (List.replicate (z / 2) 34 ++ [c]), st (List.replicate (z / 2) 34), st (List.replicate (z / 2) 34 ++ if z % 2 = 0 then [c] else [])])
      (Ev.list' (w _) (EvL.cons (w _) (Ev.cat (w _) (Ev.rep (w _) (c := 34) (by rfl) (by walk_at "ev") (by (first | lia | omega)) (by (first | lia | omega))) (by walk_at "ev") (by simp; (first | lia | omega))) (EvL.cons (w _) (Ev.rep (w _) (c := 34) (by rfl) (by walk_at "ev") (by (first | lia | omega)) (by (first | lia | omega))) (by walk_at "evl") rfl) rfl) (by walk_at "dl") rfl)
      (by walk_at "evl") (by
        by_cases h : z % 2 = 0
        · rw [h]; simp
        · rw [show z % 2 = 1 by (first | lia | omega)]; simp) (by
        intro k hk
        have hk0 : k = 0 := by (first | lia | omega)
        have h1 : z % 2 = 1 := by (first | lia | omega)
        subst hk0
        rw [h1]
        simp only [List.getElem?_cons_zero]
        intro e
        have := st_inj.mp (Option.some.inj e)
        simp at this) (by (first | lia | omega)) rfl rfl) EvL.nil rfl) (by simp; (first | lia | omega)) ?_ rfl rfl rfl rfl)
    dsimp only [Then, List.set]
    exact Ex.nil (w _) ⟨.v (I t'), .v (S (st (List.replicate (z / 2) 34 ++ if z % 2 = 0 then [c] else []))), rfl⟩
  · rintro μ' ⟨s3, s4, rfl⟩
    dsimp only [Then]
    refine Ex.wk (.same (.same (.frz (Wk.refl _)))) ?_
    refine Ex.cons (Ex1.ret (w _) (by walk_at "ev") ?_)
    rfl
end

/-! # A2 -/
local macro_rules | `(tactic| walk_at "cs") => `(tactic| first
  | exact Cs.nil
  | (refine' Cs.free ?h1 ?h2 ?h3 ?h4; (case h1 => walk_at "hv"); (case h2 => first | exact .inl rfl | exact .inr rfl); (case h3 => rfl); (case h4 => walk_at "cs"))
  | (refine' Cs.no ?h1 ?h2; (case h1 => decide); (case h2 => walk_at "cs")))
def nis (l : List Nat) : List PyData := l.map fun n => .int (n : Nat)
theorem nis_len (l : List Nat) : (nis l).length = l.length := by simp [nis]
theorem nis_app (l k : List Nat) : nis (l ++ k) = nis l ++ nis k := by simp [nis]
theorem nis_int (l : List Nat) : nis l = (l.map Int.ofNat).map .int := by simp [nis]
theorem Gm.sum {G : Gd} {p : Params} (m : Gm G p) : Nm G "sum" (.builtin "sum") := m.nmB (by kernel_rfl) (by boot_by_name) (by decide)
theorem range_get2 {a b : Int} {j : Nat} {t : Tr} (h : ((rangeL a b).map fun i => I i)[j]? = some t) : j < (b - a).toNat ∧ t = I (a + (j : Int)) := by
  rw [List.getElem?_map] at h
  obtain ⟨y, hy, rfl⟩ := Option.map_eq_some_iff.mp h
  have hl := (List.getElem?_eq_some_iff.mp hy).1
  rw [rangeL_len] at hl
  unfold rangeL at hy
  rw [List.getElem?_map, List.getElem?_range hl] at hy
  have : a + (j : Int) = y := Option.some.inj hy
  exact ⟨hl, by rw [← this]⟩
theorem fmod_nat (a b : Nat) : ((a : Nat) : Int).fmod (b : Int) = ((a % b : Nat) : Int) := by rw [Int.fmod_eq_emod_of_nonneg _ (by (first | lia | omega))]; rfl
theorem fM_get {α β : Type} (l : List α) (f : α → Option β) : (List.range l.length).filterMap (fun j => l[j]?.bind f) = l.filterMap f := by
  induction l with
  | nil => rfl
  | cons a l ih =>
    rw [List.length_cons, List.range_succ_eq_map, List.filterMap_cons, List.filterMap_map, List.filterMap_cons]
    have : (List.range l.length).filterMap ((fun j => (a :: l)[j]?.bind f) ∘ Nat.succ) = l.filterMap f := by rw [← ih]; rfl
    rw [this]
    rfl
theorem filt_turn {G : Gd} {X : Cx} {μ : List Slot} {ifs : List Expr} {elt : Expr} {q : Bool} {d : PyData} (h1 : TsAll G X μ ifs q) (h2 : Ev G X μ elt (.d d)) :
    match (if q = true then some d else none) with
    | some d => TsAll G X μ ifs true ∧ Ev G X μ elt (.d d)
    | none => TsAll G X μ ifs false := by
  cases q with
  | true => exact ⟨h1, h2⟩
  | false => exact h1
theorem sum_nis (l : List Nat) : ((l.map Int.ofNat).sum : Int) = ((l.sum : Nat) : Int) := by
  induction l with
  | nil => rfl
  | cons a l ih => rw [List.map_cons, List.sum_cons, ih, List.sum_cons]; push_cast; rfl
def bitsP (q a b c : Nat) : List Nat := [q % 2 * a, q / 2 % 2 * b, q / 2 / 2 % 2 * c]
def classN (a b c o kind : Nat) : List Nat := (List.range 8).filterMap fun q => if decide ((bit3 q).sum % 2 = kind) then some (o + (bitsP q a b c).sum) else none
section
variable {G : Gd} {p : Params}
theorem class_spec (m : Gm G p) (d a b c o kind : Nat) (ha : a ≤ 100) (hb : b ≤ 100) (hc : c ≤ 100) :
    Spec G (d + 1) (.ref 173) [Mine.L ((List.range 8).map fun q => .list (nis (bit3 q))), Mine.L (nis [a, b, c]), I o, I kind] (Mine.L (nis (classN a b c o kind))) := by
  have g := m.g
  refine Spec.intro m.g (by rw [m.K]; rfl) (by dsimp only) (by dsimp only) (by dsimp only) (by rw [m.K]; rfl) rfl rfl rfl rfl (by decide +kernel) (by dsimp only [List.map]) (by dsimp only [List.map])
    (by exact arg4 fun _ _ _ _ => rfl) rfl (by rfl) (nos := List.replicate 0 .no) (by rfl) (by rfl) (by rfl) rfl rfl rfl (by dsimp only [List.map, List.replicate, HAppend.hAppend, Append.append, List.append]) ?_
  intro A L cells cm HH w hcm
  have e : nis (classN a b c o kind) = (List.range (((List.range 8).map fun q => PyData.list (nis (bit3 q))).map Tr.d).length).filterMap (fun j => if decide ((bit3 j).sum % 2 = kind) then some (.int ((o + (bitsP j a b c).sum : Nat) : Int)) else none) := by
    rw [List.length_map, List.length_map, List.length_range]
    unfold classN nis
    rw [List.map_filterMap]
    apply filterMap_cong
    intro x _
    by_cases h : decide ((bit3 x).sum % 2 = kind) = true
    · rw [if_pos h, if_pos h]; rfl
    · rw [if_neg h, if_neg h]; rfl
  refine Ex.cons (Ex1.ret (w _) (t := Mine.L (nis (classN a b c o kind))) ?_ rfl)
  rw [e]
  refine Ev.comp (X := fnCx G _ _ _ _ _ _ _ _ _ _ _ _) w _ (It.list (w _) (by walk_at "ev")) (by simp) (by decide +kernel) (by dsimp only [List.map]) (by dsimp only [List.map]) rfl (by walk_at "cs") (by walk_at "hv") (.inr rfl) ?_ (by intro _; rfl)
  intro C cells' cm' H' w' j t ht
  rw [List.getElem?_map, List.getElem?_map] at ht
  obtain ⟨y, hy, rfl⟩ := Option.map_eq_some_iff.mp ht
  obtain ⟨q, hq, rfl⟩ := Option.map_eq_some_iff.mp hy
  have hj8 : j < 8 := by simpa using (List.getElem?_eq_some_iff.mp hq).1
  have hqj : q = j := by rw [List.getElem?_range hj8] at hq; exact (Option.some.inj hq).symm
  subst hqj
  dsimp only [List.set]
  have hfig : (Tr.d (PyData.list (nis (bit3 q)))) = Mine.L (nis (bit3 q)) := rfl
  have bnd : ∀ k : Nat, k < 3 → ∃ u v : Nat, (nis (bit3 q))[k]? = some (.int (u : Nat)) ∧ (nis [a, b, c])[k]? = some (.int (v : Nat)) ∧ u ≤ 1 ∧ v ≤ 100 ∧ (bitsP q a b c)[k]? = some (u * v) := fun k hk => by
    match k, hk with
    | 0, _ => exact ⟨q % 2, a, rfl, rfl, by (first | lia | omega), ha, rfl⟩
    | 1, _ => exact ⟨q / 2 % 2, b, rfl, rfl, by (first | lia | omega), hb, rfl⟩
    | 2, _ => exact ⟨q / 2 / 2 % 2, c, rfl, rfl, by (first | lia | omega), hc, rfl⟩
  refine filt_turn ?_ ?_
  · refine TsAll.one (Ts.of (Ts.cmp (w' _) (Ev.bin (w' _) (Ev.int_eq (j := (((bit3 q).sum : Nat) : Int)) (Ev.call g (w' _) m.sum (by walk_at "hv") (Kp.builtin _) (by walk_at "evl") (by rw [hfig, nis_int]; exact Spec.sum _ _) rfl) (sum_nis _)) (by walk_at "ev") (Bin.mod_int _ _ (by decide))) (by walk_at "ev") (Cmp.eq_is _ _)) ?_)
    have := fmod_nat (bit3 q).sum 2
    rw [show ((2 : Nat) : Int) = 2 from rfl] at this
    rw [this]
    generalize (bit3 q).sum % 2 = z
    rw [Bool.eq_iff_iff]; simp; (first | lia | omega)
  · have e2 : Mine.L ((bitsP q a b c).map fun n => PyData.int (n : Nat)) = Mine.L ((List.range ((rangeL 0 3).map fun i => I i).length).filterMap (fun k => ((bitsP q a b c)[k]?).map fun v => PyData.int (v : Nat))) := by rfl
    refine Ev.int_eq (Ev.bin (w' _) (by walk_at "ev") (Ev.int_eq (j := (((bitsP q a b c).sum : Nat) : Int)) (Ev.call g (w' _) m.sum (by walk_at "hv") (Kp.builtin _) (EvL.cons (w' _) (t := Mine.L (nis (bitsP q a b c))) ?_ EvL.nil rfl) (by rw [nis_int]; exact Spec.sum _ _) rfl) (sum_nis _)) (Bin.add_int _ _)) (by push_cast; rfl)
    show Ev _ _ _ _ (Mine.L ((bitsP q a b c).map fun n => PyData.int (n : Nat)))
    rw [e2]
    refine Ev.comp (X := cpCx G (fnCx G _ _ _ _ _ _ _ _ _ _ _ _) _ _ _ _ _ _) w' _ (It.range1 g (w' _) m.range (by walk_at "hv") (by walk_at "ev") (by decide) (by decide) rfl rfl) (by decide) (by decide +kernel) (by dsimp only [List.map]) (by dsimp only [List.map]) rfl (by walk_at "cs") (by walk_at "hv") (.inl rfl) ?_ (by intro _; rfl)
    intro C2 cells2 cm2 H2 w2 k t2 ht2
    obtain ⟨hk, rfl⟩ := range_get2 ht2
    have hk3 : k < 3 := by (first | lia | omega)
    obtain ⟨u, v, b1, b2, b3, b4, b5⟩ := bnd k hk3
    rw [Int.zero_add]
    simp only [b5, Option.map_some]
    dsimp only [List.set]
    refine ⟨TsAll.nil, Ev.int_eq (Ev.bin (w2 _) (Ev.idx_list (w2 _) (xs := nis (bit3 q)) (by walk_at "ev") (by walk_at "ev") (by (first | lia | omega)) (by (first | lia | omega)) (by rw [Int.toNat_natCast]; exact b1) rfl) (Ev.idx_list (w2 _) (xs := nis [a, b, c]) (by walk_at "ev") (by walk_at "ev") (by (first | lia | omega)) (by (first | lia | omega)) (by rw [Int.toNat_natCast]; exact b2) rfl) (Bin.mul_int _ _ (mulOk (n := 20) (m := 20) (small_bits (by (first | lia | omega)) (by (first | lia | omega))) (small_bits (by (first | lia | omega)) (by (first | lia | omega))) (by decide)))) (by push_cast; rfl)⟩
end

/-! # A3 -/
theorem join_st (ls : List (List Nat)) : (Txt.join (st []) (ls.map st)) = st ls.flatten := by
  show Builtin.Str.glued _ _ = _
  rw [StrLaws.glued_eq_join]
  induction ls with
  | nil => rfl
  | cons a l ih =>
    cases l with
    | nil => show st a = _; simp
    | cons b l =>
      show st a ++ st [] ++ Str.join (st []) ((b :: l).map st) = _
      rw [ih, st_app, st_app]
      simp
theorem joinOk_st (ls : List (List Nat)) (h : ls.flatten.length ≤ 2 ^ 24) : JoinOk (st []) (ls.map st) = true := by
  unfold JoinOk
  have : ∀ (l : List (List Nat)) (k : Nat), ((l.map st).foldl (· + ·.length + (st []).length) k) = k + l.flatten.length := fun l => by
    induction l with
    | nil => intro k; rfl
    | cons a l ih => intro k; rw [List.map_cons, List.foldl_cons, ih]; simp [st, Str.length]; (first | lia | omega)
  rw [List.foldl_toArray, this]
  unfold Builtin.Str.tooLong
  rw [List.length_flatten] at h
  simp [sizeLine_eq]; (first | lia | omega)
theorem nis_get {D : List Nat} {j : Nat} {t : Tr} (h : ((nis D).map Tr.d)[j]? = some t) : ∃ d, D[j]? = some d ∧ t = I (d : Nat) := by
  rw [List.getElem?_map] at h
  obtain ⟨y, hy, rfl⟩ := Option.map_eq_some_iff.mp h
  unfold nis at hy
  rw [List.getElem?_map] at hy
  obtain ⟨d, hd, rfl⟩ := Option.map_eq_some_iff.mp hy
  exact ⟨d, hd, rfl⟩
theorem nis_map (D : List Nat) (f : Nat → PyData) : (List.range ((nis D).map Tr.d).length).filterMap (fun j => (D[j]?).bind fun x => some (f x)) = D.map f := by
  rw [List.length_map, nis_len, fM_get, List.filterMap_eq_map']
section
variable {G : Gd} {p : Params}
theorem lead_spec (m : Gm G p) (d : Nat) (runs : List Nat) (b c : Nat) (tl : List Nat) (hc32 : c ≠ 32) (hc9 : c ≠ 9) (hr : ∀ r ∈ runs, r ≤ 1000) (hl : runs.length ≤ 20) (hb : b ≤ 2000) (ht : tl.length ≤ 5) :
    Spec G (d + 3) (.ref 178) [Mine.L (nis runs), I b, S (st (c :: tl))] (lob runs b (c :: (tl ++ [32, 9]))) := by
  have g := m.g
  have hfl : ∀ l : List Nat, (∀ r ∈ l, r ≤ 1000) → (l.map (· + 1)).sum ≤ 1001 * l.length := fun l h => by
    induction l with
    | nil => simp
    | cons a l ih =>
      have h1 := h a (.head _)
      have h2 := ih fun r hr => h r (.tail _ hr)
      rw [List.map_cons, List.sum_cons, List.length_cons]
      (first | lia | omega)
  have hsum := hfl runs hr
  have hjl : ((runs.map fun r => List.replicate r 32 ++ [9]).flatten).length = (runs.map (· + 1)).sum := by
    rw [List.length_flatten, List.map_map]
    congr 1
    apply List.map_congr_left
    intro r _
    simp [Function.comp]
  refine Spec.intro m.g (by rw [m.K]; rfl) (by dsimp only) (by dsimp only) (by dsimp only) (by rw [m.K]; rfl) rfl rfl rfl rfl (by decide +kernel) (by dsimp only [List.map]) (by dsimp only [List.map])
    (by exact arg3 fun _ _ _ => rfl) rfl (by rfl) (nos := List.replicate 0 .no) (by rfl) (by rfl) (by rfl) rfl rfl rfl (by dsimp only [List.map, List.replicate, HAppend.hAppend, Append.append, List.append]) ?_
  intro A L cells cm HH w hcm
  have hjoin : Txt.join (st []) ((runs.map fun r => List.replicate r 32 ++ [9]).map st) = st (runs.map fun r => List.replicate r 32 ++ [9]).flatten := join_st _
  refine Ex.cons (Ex1.ret (w _) (t := lob runs b (c :: (tl ++ [32, 9]))) (Ev.call g (w _) m.ws (by walk_at "hv") m.kws (EvL.cons (w _) (Ev.str_eq (Ev.cat (w _) (Ev.cat (w _) (Ev.cat (w _) (Ev.str_eq (Ev.join (w _) (x := st []) (xs := (runs.map fun r => List.replicate r 32 ++ [9]).map st) (Ev.lit (by rfl)) (EvL.cons (w _) ?_ EvL.nil rfl) (joinOk_st _ (by rw [hjl]; (first | lia | omega))) rfl rfl) hjoin)
      (Ev.rep (w _) (c := 32) (by rfl) (by walk_at "ev") (by (first | lia | omega)) (by (first | lia | omega))) (by rw [hjl, List.length_replicate]; (first | lia | omega))) (by walk_at "ev") (by rw [List.length_append, hjl, List.length_replicate, List.length_cons]; (first | lia | omega))) (Ev.lit (l := [32, 9]) (by rfl)) (by rw [List.length_append, List.length_append, hjl, List.length_replicate, List.length_cons]; simp only [List.length_cons, List.length_nil]; (first | lia | omega))) (congrArg st (show _ = lead runs b (c :: (tl ++ [32, 9])) by
        unfold lead; rw [Int.toNat_natCast, List.flatMap_def]; simp))) EvL.nil rfl) (lead_make m _ runs b c (tl ++ [32, 9]) hc32 hc9 (by rw [lead_length]; simp only [List.length_cons, List.length_append, List.length_nil]; (first | lia | omega))) rfl) rfl)
  have e : (((runs.map fun r => List.replicate r 32 ++ [9]).map st).map PyData.str) = (List.range ((nis runs).map Tr.d).length).filterMap (fun j => (runs[j]?).bind fun x => some (PyData.str (st (List.replicate x 32 ++ [9])))) := by
    rw [nis_map, List.map_map, List.map_map]; rfl
  rw [e]
  refine Ev.comp (X := fnCx G _ _ _ _ _ _ _ _ _ _ _ _) w _ (It.list (w _) (by walk_at "ev")) (by rw [List.length_map, nis_len]; (first | lia | omega)) (by decide +kernel) (by dsimp only [List.map]) (by dsimp only [List.map]) rfl (by walk_at "cs") (by walk_at "hv") (.inl rfl) ?_ (by intro _; rfl)
  intro C cells' cm' H' w' j t ht
  obtain ⟨r, hr', rfl⟩ := nis_get ht
  have hr1 := hr r (List.mem_of_getElem? hr')
  simp only [hr', Option.bind_some]
  dsimp only [List.set]
  exact ⟨TsAll.nil, Ev.str_eq (Ev.cat (w' _) (Ev.rep (w' _) (c := 32) (by rfl) (by walk_at "ev") (by (first | lia | omega)) (by (first | lia | omega))) (Ev.lit (l := [9]) (by rfl)) (by simp; (first | lia | omega))) (by rw [Int.toNat_natCast])⟩
end

/-! # A4 -/
theorem foldr_max_mem : ∀ {l : List Nat}, l ≠ [] → l.foldr max 0 ∈ l
  | [], h => absurd rfl h
  | [a], _ => by simp
  | a :: b :: l, _ => by
    have ih := foldr_max_mem (l := b :: l) (by simp)
    rw [List.foldr_cons]
    by_cases h : a ≤ (b :: l).foldr max 0
    · rw [Nat.max_eq_right h]; exact .tail _ ih
    · rw [Nat.max_eq_left (by (first | lia | omega))]; exact .head _
theorem le_foldr_max : ∀ {l : List Nat} {a : Nat}, a ∈ l → a ≤ l.foldr max 0
  | _ :: _, _, .head _ => by rw [List.foldr_cons]; (first | lia | omega)
  | b :: l, a, .tail _ h => by have := le_foldr_max h; rw [List.foldr_cons]; (first | lia | omega)
section
variable {G : Gd} {p : Params}
theorem columns_spec (m : Gm G p) (d : Nat) (runs : List Nat) (b top : Nat) (hr : ∀ r ∈ runs, r ≤ 1000) (hl : runs.length ≤ 20) (hb : b ≤ 2000) (ht : top ≤ 5000) :
    Spec G (d + 1) (.ref 202) [Mine.L (nis runs), I b, I top] (Mine.L (nis ((List.range' 1 top).map (colL runs b)))) := by
  have g := m.g
  refine Spec.intro m.g (by rw [m.K]; rfl) (by dsimp only) (by dsimp only) (by dsimp only) (by rw [m.K]; rfl) rfl rfl rfl rfl (by decide +kernel) (by dsimp only [List.map]) (by dsimp only [List.map])
    (by exact arg3 fun _ _ _ => rfl) rfl (by rfl) (nos := List.replicate 0 .no) (by rfl) (by rfl) (by rfl) rfl rfl rfl (by dsimp only [List.map, List.replicate, HAppend.hAppend, Append.append, List.append]) ?_
  intro A L cells cm HH w hcm
  refine Ex.cons (Ex1.ret (w _) (t := Mine.L (nis ((List.range' 1 top).map (colL runs b)))) ?_ rfl)
  have e : nis ((List.range' 1 top).map (colL runs b)) = (List.range ((rangeL 1 ((top : Int) + 1)).map fun i => I i).length).filterMap (fun j => some (.int ((colL runs b (1 + j) : Nat) : Int))) := by
    rw [List.length_map, rangeL_len, show ((top : Int) + 1 - 1).toNat = top by (first | lia | omega), List.filterMap_eq_map', List.range'_eq_map_range]
    unfold nis
    rw [List.map_map, List.map_map]; rfl
  rw [e]
  refine Ev.comp (X := fnCx G _ _ _ _ _ _ _ _ _ _ _ _) w _ (It.range2 g (w _) m.range (by walk_at "hv") (by walk_at "ev") (by walk_at "ev") (by decide) (by decide) (by (first | lia | omega)) (by (first | lia | omega)) rfl rfl rfl) (by rw [List.length_map, rangeL_len]; (first | lia | omega)) (by decide +kernel) (by dsimp only [List.map]) (by dsimp only [List.map]) rfl (by walk_at "cs") (by walk_at "hv") (.inr rfl) ?_ (by intro _; rfl)
  intro C cells' cm' H' w' j t ht
  obtain ⟨hj, rfl⟩ := range_get2 ht
  rw [show (1 : Int) + (j : Int) = ((1 + j : Nat) : Int) by (first | lia | omega)]
  have hs1 : 1 ≤ 1 + j ∧ 1 + j ≤ 5000 := by (first | lia | omega)
  generalize 1 + j = s at hs1
  dsimp only [List.set]
  have hs0 : ((s : Nat) : Int) ≠ 0 := by (first | lia | omega)
  refine ⟨TsAll.nil, Ev.int_eq (Ev.bin (w' _) (Ev.int_eq (j := (((runs.map fun r => s * (r / s + 1)).sum : Nat) : Int)) (Ev.call g (w' _) m.sum (by walk_at "hv") (Kp.builtin _) (EvL.cons (w' _) (t := Mine.L (nis (runs.map fun r => s * (r / s + 1)))) ?_ EvL.nil rfl) (by rw [nis_int]; exact Spec.sum _ _) rfl) (sum_nis _)) (by walk_at "ev") (Bin.add_int _ _)) (by unfold colL; push_cast; (first | lia | omega))⟩
  have e2 : nis (runs.map fun r => s * (r / s + 1)) = (List.range ((nis runs).map Tr.d).length).filterMap (fun j => (runs[j]?).bind fun x => some (.int ((s * (x / s + 1) : Nat) : Int))) := by
    rw [nis_map]; unfold nis; rw [List.map_map]; rfl
  rw [e2]
  refine Ev.comp (X := cpCx G (fnCx G _ _ _ _ _ _ _ _ _ _ _ _) _ _ _ _ _ _) w' _ (It.list (w' _) (by walk_at "ev")) (by rw [List.length_map, nis_len]; (first | lia | omega)) (by decide +kernel) (by dsimp only [List.map]) (by dsimp only [List.map]) rfl (by walk_at "cs") (by walk_at "hv") (.inl rfl) ?_ (by intro _; rfl)
  intro C2 cells2 cm2 H2 w2 k t2 ht2
  obtain ⟨r, hr', rfl⟩ := nis_get ht2
  have hr1 := hr r (List.mem_of_getElem? hr')
  simp only [hr', Option.bind_some]
  dsimp only [List.set]
  have hfd : ((r : Nat) : Int).fdiv (s : Int) = ((r / s : Nat) : Int) := by rw [Int.fdiv_eq_ediv_of_nonneg _ (by (first | lia | omega))]; rfl
  have hdl : r / s ≤ 1000 := Nat.le_trans (Nat.div_le_self _ _) hr1
  have hnp : Builtin.divisionGoesByPylong ((r : Nat) : Int) (s : Int) = false := noPylong' (Nat.le_trans (Bits.intBits (n := 20) (small_bits (by (first | lia | omega)) (by (first | lia | omega)))) (by decide))
  have hmul : IntMulOk ((s : Nat) : Int) (((r : Nat) : Int).fdiv (s : Int) + 1) := by rw [hfd]; generalize r / s = q at hdl; exact mulOk (n := 20) (m := 20) (small_bits (by (first | lia | omega)) (by (first | lia | omega))) (small_bits (by (first | lia | omega)) (by (first | lia | omega))) (by decide)
  exact ⟨TsAll.nil, Ev.int_eq (Ev.bin (w2 _) (by walk_at "ev") (Ev.bin (w2 _) (Ev.bin (w2 _) (by walk_at "ev") (by walk_at "ev") (Bin.floordiv_int _ _ hs0 hnp)) (by walk_at "ev") (Bin.add_int _ _)) (Bin.mul_int _ _ hmul)) (by rw [hfd]; push_cast; rfl)⟩

def numStep (d : List Int) (r : Nat) : List Int := d.set r ((d[r]?).getD 0 + 1)
theorem numL_eq (runs : List Nat) : numL runs = runs.foldl numStep (List.replicate (runs.foldr max 0 + 1) 0) := rfl
theorem numStep_facts : ∀ (l : List Nat) (d : List Int) (M : Int), 0 ≤ M → (∀ v ∈ d, 0 ≤ v ∧ v ≤ M) → (l.foldl numStep d).length = d.length ∧ ∀ v ∈ l.foldl numStep d, 0 ≤ v ∧ v ≤ M + l.length
  | [], d, M, hM, h => ⟨rfl, fun v hv => by have := h v hv; simp; (first | lia | omega)⟩
  | r :: l, d, M, hM, h => by
    have h' : ∀ v ∈ numStep d r, 0 ≤ v ∧ v ≤ M + 1 := fun v hv => by
      unfold numStep at hv
      rcases List.mem_or_eq_of_mem_set hv with q | q
      · have := h v q; (first | lia | omega)
      · subst q
        cases e : d[r]? with
        | none => simp; (first | lia | omega)
        | some u => have := h u (List.mem_of_getElem? e); simp; (first | lia | omega)
    obtain ⟨a, b⟩ := numStep_facts l (numStep d r) (M + 1) (by (first | lia | omega)) h'
    refine ⟨by rw [List.foldl_cons, a]; simp [numStep], fun v hv => ?_⟩
    have := b v hv
    rw [List.length_cons]; (first | lia | omega)
theorem number_spec (m : Gm G p) (d : Nat) (runs : List Nat) (wd : Nat) (hr : ∀ r ∈ runs, r ≤ 100) (hne : runs ≠ []) (hl : runs.length ≤ 20) (hw : 1 ≤ wd ∧ wd ≤ 100) :
    Spec G (d + 41) (.ref 185) [Mine.L (nis runs), I wd] (I (dval wd (numL runs))) := by
  have g := m.g
  have hM := hr _ (foldr_max_mem hne)
  generalize hMM : runs.foldr max 0 = M at hM
  have hle : ∀ r ∈ runs, r ≤ M := fun r h => hMM ▸ le_foldr_max h
  have hfac := fun k => numStep_facts (runs.take k) (List.replicate (M + 1) 0) 0 (by decide) (fun v hv => by rw [List.eq_of_mem_replicate hv]; decide)
  refine Spec.intro m.g (by rw [m.K]; rfl) (by dsimp only) (by dsimp only) (by dsimp only) (by rw [m.K]; rfl) rfl rfl rfl rfl (by decide +kernel) (by dsimp only [List.map]) (by dsimp only [List.map])
    (by exact arg2 fun _ _ => rfl) rfl (by rfl) (nos := List.replicate 2 .no) (by rfl) (by rfl) (by rfl) rfl rfl rfl (by dsimp only [List.map, List.replicate, HAppend.hAppend, Append.append, List.append]) ?_
  intro A L cells cm HH w hcm
  refine Ex.cons (Ex1.setV (w _) (EvV.bin (w _) (Wk.refl _) (Ev.list' (w _) (by walk_at "evl") (by walk_at "dl") rfl) (Ev.bin (w _) (Ev.call g (w _) m.max (by walk_at "hv") (Kp.builtin _) (by walk_at "evl") (by
      rw [nis_int]
      exact Spec.max_list _ (runs.map Int.ofNat) (M : Int) (List.mem_map.mpr ⟨M, hMM ▸ foldr_max_mem hne, rfl⟩) (fun a ha => by
        obtain ⟨r, hr', rfl⟩ := List.mem_map.mp ha
        exact Int.ofNat_le.mpr (hle r hr'))) rfl) (by walk_at "ev") (Bin.add_int _ _)) (BinN.mul_list [.int 0] _ (by (first | lia | omega)) (by (first | lia | omega)) (by simp; (first | lia | omega))) (by rw [flat_one]; simp [atm])) (by walk_at "hv") (Nat.le_of_ble_eq_true rfl) (.inl rfl) rfl ?_)
  rintro _ ⟨ad, rfl⟩
  dsimp only [Then, List.set]
  rw [flat_one, show ((M : Int) + 1).toNat = M + 1 by (first | lia | omega), show List.replicate (M + 1) (PyData.int 0) = (List.replicate (M + 1) (0 : Int)).map .int by rw [List.map_replicate]]
  refine Ex.cons (Ex1.for w (It.list (w _) (by walk_at "ev"))
    (fun i μ => ∃ s3 : Slot, μ = [.v (Mine.L (nis runs)), .v (I wd), .own ad (((runs.take i).foldl numStep (List.replicate (M + 1) (0 : Int))).map .int), s3]) ⟨.no, by rw [List.take_zero]; rfl⟩ ?_ ?_ (by intro _; rfl) (by intro _ _; rfl))
  · rintro i t μ' H' hit ⟨s3, rfl⟩
    obtain ⟨r, hr', rfl⟩ := nis_get hit
    have hrm := hle r (List.mem_of_getElem? hr')
    obtain ⟨f1, f2⟩ := hfac i
    have htk : (runs.take (i + 1)).foldl numStep (List.replicate (M + 1) (0 : Int)) = numStep ((runs.take i).foldl numStep (List.replicate (M + 1) (0 : Int))) r := by
      rw [List.take_add_one, hr', List.foldl_append]; rfl
    rw [htk]
    generalize (runs.take i).foldl numStep (List.replicate (M + 1) (0 : Int)) = D at f1 f2 ⊢
    rw [List.length_replicate] at f1
    refine As.name (w _) (by walk_at "hv") (Nat.le_of_ble_eq_true rfl) (.inl rfl) ?_
    dsimp only [List.set]
    obtain ⟨v, hv⟩ : ∃ v, D[r]? = some v := ⟨_, List.getElem?_eq_getElem (by (first | lia | omega))⟩
    have hv' : (D.map PyData.int)[((r : Nat) : Int).toNat]? = some (.int v) := by rw [Int.toNat_natCast, List.getElem?_map, hv]; rfl
    refine Ex.cons (Ex1.setItem (w _) (k := (r : Int)) (d := .int (v + 1)) (by walk_at "hv") rfl (Ev.thaw (.same (.same (.frz (Wk.refl _)))) rfl (Ev.bin (w _) (Ev.idx_list (w _) (by walk_at "ev") (by walk_at "ev") (by (first | lia | omega)) (by (first | lia | omega)) hv' rfl) (by walk_at "ev") (Bin.add_int _ _))) (by walk_at "ev") (by (first | lia | omega)) (by rw [List.length_map]; (first | lia | omega)) (by rw [List.length_map]; (first | lia | omega)) rfl ?_)
    dsimp only [Then, List.set]
    refine Ex.nil (w _) ⟨.v (I (r : Nat)), ?_⟩
    unfold numStep
    rw [hv, Int.toNat_natCast, List.map_set]
    rfl
  · rintro μ' ⟨s3, rfl⟩
    dsimp only [Then]
    rw [List.take_of_length_le (by rw [List.length_map, nis_len]; exact Nat.le_refl _)]
    obtain ⟨f1, f2⟩ := hfac runs.length
    rw [List.take_length] at f1 f2
    have hn : numL runs = runs.foldl numStep (List.replicate (M + 1) 0) := by rw [numL_eq, hMM]
    rw [hn]
    generalize runs.foldl numStep (List.replicate (M + 1) (0 : Int)) = D at f1 f2 ⊢
    rw [List.length_replicate] at f1
    refine Ex.wk (.same (.same (.frz (Wk.refl _)))) ?_
    refine Ex.cons (Ex1.ret (w _) (Ev.call g (w _) m.d2i (by walk_at "hv") m.kd2i (by walk_at "evl") ((d2i_spec m D wd 10 (by (first | lia | omega)) (fun v hv => small_bits (f2 v hv).1 (by have := (f2 v hv).2; (first | lia | omega))) (by (first | lia | omega)) (by rw [f1]; have : wd * (M + 1) ≤ 100 * 101 := Nat.mul_le_mul hw.2 (by (first | lia | omega)); (first | lia | omega))).mono (show 40 ≤ d + 40 by (first | lia | omega))) rfl) rfl)
end

/-! # A5 -/
theorem digs_of (n : Nat) : ∀ l : List Int, (∀ v ∈ l, 0 ≤ v ∧ v < 2 ^ n) → digs n l.length (dval n l) = l
  | [], _ => rfl
  | x :: r, h => by
    have hx := h x (.head _)
    have hp : (0 : Int) < 2 ^ n := Int.pow_pos (by decide)
    rw [List.length_cons]
    simp only [digs, dval]
    have e1 : (x + 2 ^ n * dval n r) % 2 ^ n = x := by rw [Int.add_mul_emod_self_left]; exact Int.emod_eq_of_lt hx.1 hx.2
    have e2 : (x + 2 ^ n * dval n r) / 2 ^ n = dval n r := by rw [Int.add_mul_ediv_left _ _ (by (first | lia | omega)), Int.ediv_eq_zero_of_lt hx.1 hx.2, Int.zero_add]
    rw [e1, e2, digs_of n r fun v hv => h v (.tail _ hv)]
theorem dval_lt (n : Nat) : ∀ l : List Int, (∀ v ∈ l, 0 ≤ v ∧ v < 2 ^ n) → 0 ≤ dval n l ∧ dval n l < 2 ^ (n * l.length)
  | [], _ => by simp [dval]
  | x :: r, h => by
    have hx := h x (.head _)
    obtain ⟨a, b⟩ := dval_lt n r fun v hv => h v (.tail _ hv)
    have hp : (0 : Int) < 2 ^ n := Int.pow_pos (by decide)
    rw [List.length_cons, Nat.mul_succ, Int.pow_add, Int.mul_comm]
    simp only [dval]
    generalize (2 : Int) ^ n = X at *
    generalize dval n r = D at *
    generalize (2 : Int) ^ (n * r.length) = Y at *
    have h1 := Int.mul_nonneg (Int.le_of_lt hp) a
    have h2 := Int.mul_le_mul_of_nonneg_left (show D ≤ Y - 1 by (first | lia | omega)) (Int.le_of_lt hp)
    rw [Int.mul_sub, Int.mul_one] at h2
    (first | lia | omega)
theorem dval_ge (n : Nat) : ∀ l : List Int, (∀ v ∈ l, 0 ≤ v ∧ v < 2 ^ n) → l ≠ [] → 1 ≤ l.getLastD 0 → 2 ^ (n * (l.length - 1)) ≤ dval n l
  | [], _, h, _ => absurd rfl h
  | [x], h, _, h1 => by simp [dval] at h1 ⊢; exact h1
  | x :: y :: r, h, _, h1 => by
    have hx := h x (.head _)
    have ih := dval_ge n (y :: r) (fun v hv => h v (.tail _ hv)) (by simp) (by simpa using h1)
    have hp : (0 : Int) < 2 ^ n := Int.pow_pos (by decide)
    rw [show (x :: y :: r).length - 1 = (y :: r).length - 1 + 1 by simp, Nat.mul_succ, Int.pow_add, Int.mul_comm]
    have e : dval n (x :: y :: r) = x + 2 ^ n * dval n (y :: r) := rfl
    rw [e]
    have := Int.mul_le_mul_of_nonneg_left ih (Int.le_of_lt hp)
    (first | lia | omega)
theorem dig_cnt (n : Nat) (hn : 0 < n) (l : List Int) (h : ∀ v ∈ l, 0 ≤ v ∧ v < 2 ^ n) (h0 : l ≠ []) (h1 : 1 ≤ l.getLastD 0) : (Builtin.Int.intBits (dval n l) + n - 1) / n = l.length := by
  obtain ⟨a, b⟩ := dval_lt n l h
  have c := dval_ge n l h h0 h1
  have hl : 1 ≤ l.length := List.length_pos_iff.mpr h0
  have e1 : Builtin.Int.intBits (dval n l) ≤ n * l.length := (intBits_eq _ _).mpr (by
    have : (((dval n l).natAbs : Nat) : Int) < ((2 ^ (n * l.length) : Nat) : Int) := by rw [Int.natAbs_of_nonneg a, Int.natCast_pow]; exact b
    exact_mod_cast this)
  have e2 : ¬ Builtin.Int.intBits (dval n l) ≤ n * (l.length - 1) := fun q => by
    have q := (intBits_eq _ _).mp q
    have : (((dval n l).natAbs : Nat) : Int) < ((2 ^ (n * (l.length - 1)) : Nat) : Int) := by exact_mod_cast q
    rw [Int.natAbs_of_nonneg a, Int.natCast_pow] at this
    have c' : ((2 : Nat) : Int) ^ (n * (l.length - 1)) ≤ dval n l := c
    (first | lia | omega)
  obtain ⟨k, hk⟩ : ∃ k, l.length = k + 1 := ⟨l.length - 1, by (first | lia | omega)⟩
  rw [hk] at e1 e2 ⊢
  rw [Nat.add_sub_cancel] at e2
  rw [Nat.mul_succ] at e1
  rw [Nat.div_eq_of_lt_le] <;> (try rw [Nat.mul_comm, Nat.mul_succ]) <;> (try rw [Nat.mul_succ]) <;> (first | lia | omega)
section
variable {G : Gd} {p : Params}
theorem Ev.pow2 {X : Cx} {μ : List Slot} (w : WX G X) {e : Expr} {k : Nat} {q q' : Pos} {n : Int} {n' : Nat} (h : Ev G X μ e (I n)) (hn : n = (n' : Nat)) (hl : n' ≤ 10000) : Ev G X μ (.BinOp (.Constant (.int 2) k q) .Pow e q') (I (2 ^ n')) := by
  subst hn
  have hib2 : Builtin.Int.intBits 2 ≤ 2 := Bits.intBits (n := 2) (small_bits (by decide) (by decide))
  refine Ev.int_eq (Ev.bin w Ev.int h (Bin.pow_int 2 (n' : Int) (by (first | lia | omega)) ?_)) (by rw [Int.toNat_natCast])
  have : (Builtin.Int.intBits 2 : Int) * (n' : Int) ≤ 2 * (n' : Int) := Int.mul_le_mul_of_nonneg_right (by (first | lia | omega)) (by (first | lia | omega))
  (first | lia | omega)
theorem Ev.mulB {X : Cx} {μ : List Slot} (w : WX G X) {e1 e2 : Expr} {q : Pos} {a b : Int} (n k : Nat) (h1 : Ev G X μ e1 (I a)) (h2 : Ev G X μ e2 (I b)) (ha : Bits a n) (hb : Bits b k) (hn : n + k ≤ 2 ^ 27) : Ev G X μ (.BinOp e1 .Mult e2 q) (I (a * b)) :=
  Ev.bin w h1 h2 (Bin.mul_int _ _ (mulOk ha hb hn))
theorem Bits.two1 (n : Nat) : Bits (2 ^ n - 1) (n + 2) := (Bits.two n).sub (small_bits (n := n + 1) (by decide) (by
  have : (2 : Nat) ^ 1 ≤ 2 ^ (n + 1) := Nat.pow_le_pow_right (by decide) (by (first | lia | omega))
  have h2 : ((2 ^ (n + 1) : Nat) : Int) = 2 ^ (n + 1) := by rw [Int.natCast_pow]; rfl
  (first | lia | omega)))
theorem signed_spec (m : Gm G p) (d : Nat) (M : List Int) (wd : Nat) (hM : ∀ v ∈ M, -100 ≤ v ∧ v ≤ 100) (hne : M ≠ []) (hl : M.length ≤ 30) (hw : 8 ≤ wd ∧ wd ≤ 64) :
    Spec G (d + 41) (.ref 190) [I (dval wd M), I wd, I M.length] (Mine.L (M.map .int)) := by
  have g := m.g
  obtain ⟨w1, hw1⟩ : ∃ w1, wd = w1 + 1 := ⟨wd - 1, by (first | lia | omega)⟩
  have hH : (128 : Int) ≤ 2 ^ w1 := by
    have : (2 : Nat) ^ 7 ≤ 2 ^ w1 := Nat.pow_le_pow_right (by decide) (by (first | lia | omega))
    exact_mod_cast this
  have hX : (2 : Int) ^ wd = 2 * 2 ^ w1 := by rw [hw1, Int.pow_succ, Int.mul_comm]
  have hHb : Bits ((2 : Int) ^ w1) 64 := (Bits.two w1).mono (by (first | lia | omega))
  have hpad : ∀ v ∈ padd (2 ^ w1) M, 0 ≤ v ∧ v < 2 ^ wd := fun v hv => by
    obtain ⟨u, hu, rfl⟩ := List.mem_map.mp hv
    have := hM u hu
    rw [hX]; (first | lia | omega)
  have hpl : (padd (2 ^ w1) M).length = M.length := by simp [padd]
  have hpn : padd (2 ^ w1) M ≠ [] := fun q => by have := congrArg List.length q; rw [hpl] at this; exact hne (List.length_eq_zero_iff.mp this)
  have hlast : 1 ≤ (padd (2 ^ w1) M).getLastD 0 := by
    rw [List.getLastD_eq_getLast?, List.getLast?_eq_some_getLast hpn, Option.getD_some]
    obtain ⟨u, hu, e⟩ := List.mem_map.mp (List.getLast_mem hpn)
    have := hM u hu
    rw [← e]; (first | lia | omega)
  have hcnt := dig_cnt wd (by (first | lia | omega)) _ hpad hpn hlast
  have hbd := dval_lt wd _ hpad
  have hwl : wd * M.length ≤ 1920 := Nat.le_trans (Nat.mul_le_mul hw.2 hl) (by decide)
  rw [hpl] at hcnt hbd
  have hsum : dval wd (padd (2 ^ w1) M) = dval wd M + 2 ^ w1 * dval wd (List.replicate M.length 1) := dval_padd wd (2 ^ w1) M
  have hones := dval_ones wd M.length
  have hX1 : (2 : Int) ^ wd - 1 ≠ 0 := by (first | lia | omega)
  have hfd : ((2 : Int) ^ (wd * M.length) - 1).fdiv (2 ^ wd - 1) = dval wd (List.replicate M.length 1) := by
    rw [← hones]; exact Int.mul_fdiv_cancel_left _ hX1
  have hob : Bits (dval wd (List.replicate M.length 1)) 2000 := (dval_bits wd 1 (by (first | lia | omega)) _ (fun v hv => by rw [List.eq_of_mem_replicate hv]; exact small_bits (by decide) (by decide))).mono (by rw [List.length_replicate]; (first | lia | omega))
  have sp := i2d_spec m (dval wd (padd (2 ^ w1) M)) wd (by (first | lia | omega)) hbd.1 (by (first | lia | omega)) ((small_bits hbd.1 hbd.2).mono (by (first | lia | omega))) (by rw [hcnt]; (first | lia | omega))
  rw [hcnt, ← hpl, digs_of wd _ hpad] at sp
  refine Spec.intro m.g (by rw [m.K]; rfl) (by dsimp only) (by dsimp only) (by dsimp only) (by rw [m.K]; rfl) rfl rfl rfl rfl (by decide +kernel) (by dsimp only [List.map]) (by dsimp only [List.map])
    (by exact arg3 fun _ _ _ => rfl) rfl (by rfl) (nos := List.replicate 2 .no) (by rfl) (by rfl) (by rfl) rfl rfl rfl (by dsimp only [List.map, List.replicate, HAppend.hAppend, Append.append, List.append]) ?_
  intro A L cells cm HH w hcm
  refine Ex.cons (Ex1.set (w _) (t := I (2 ^ w1)) (Ev.pow2 (w _) (Ev.bin (w _) (by walk_at "ev") (by walk_at "ev") (Bin.sub_int _ _)) (by (first | lia | omega)) (by (first | lia | omega))) (by walk_at "hv") (Nat.le_of_ble_eq_true rfl) (.inr rfl) rfl ?_)
  dsimp only [Then, List.set]
  refine Ex.cons (Ex1.set (w _) (t := Mine.L ((padd (2 ^ w1) M).map .int)) (Ev.call g (w _) m.i2d (by walk_at "hv") m.ki2d (EvL.cons (w _) (Ev.int_eq (Ev.bin (w _) (by walk_at "ev") (Ev.mulB (w _) 64 2000 (by walk_at "ev") (Ev.int_eq (Ev.bin (w _) (Ev.bin (w _) (Ev.pow2 (w _) (n' := wd * M.length) (Ev.mulB (w _) 20 20 (by walk_at "ev") (by walk_at "ev") (small_bits (by (first | lia | omega)) (by (first | lia | omega))) (small_bits (by (first | lia | omega)) (by (first | lia | omega))) (by decide)) (by push_cast; rfl) (by (first | lia | omega))) (by walk_at "ev") (Bin.sub_int _ _)) (Ev.bin (w _) (Ev.pow2 (w _) (by walk_at "ev") rfl (by (first | lia | omega))) (by walk_at "ev") (Bin.sub_int _ _)) (Bin.floordiv_int _ _ hX1 (noPylong' (Nat.le_trans ((Bits.two1 wd).intBits) (by (first | lia | omega)))))) hfd) hHb hob (by decide)) (Bin.add_int _ _)) hsum.symm) (by walk_at "evl") rfl) (sp.mono (show 40 ≤ d + 40 by (first | lia | omega))) rfl) (by walk_at "hv") (Nat.le_of_ble_eq_true rfl) (.inl rfl) rfl ?_)
  dsimp only [Then, List.set]
  refine Ex.cons (Ex1.ret (w _) (t := Mine.L (M.map .int)) ?_ rfl)
  have e : M.map PyData.int = (List.range (((padd (2 ^ w1) M).map PyData.int).map Tr.d).length).filterMap (fun j => (M[j]?).bind fun x => some (PyData.int x)) := by
    rw [List.length_map, List.length_map, hpl, fM_get, List.filterMap_eq_map']
  rw [e]
  refine Ev.comp (X := fnCx G _ _ _ _ _ _ _ _ _ _ _ _) w _ (It.list (w _) (by walk_at "ev")) (by rw [List.length_map, List.length_map, hpl]; (first | lia | omega)) (by decide +kernel) (by dsimp only [List.map]) (by dsimp only [List.map]) rfl (by walk_at "cs") (by walk_at "hv") (.inl rfl) ?_ (by intro _; rfl)
  intro C cells' cm' H' w' j t ht
  rw [List.getElem?_map, List.getElem?_map] at ht
  obtain ⟨y, hy, rfl⟩ := Option.map_eq_some_iff.mp ht
  obtain ⟨z, hz, rfl⟩ := Option.map_eq_some_iff.mp hy
  unfold padd at hz
  rw [List.getElem?_map] at hz
  obtain ⟨x, hx, rfl⟩ := Option.map_eq_some_iff.mp hz
  simp only [hx, Option.bind_some]
  dsimp only [List.set]
  exact ⟨TsAll.nil, Ev.int_eq (Ev.bin (w' _) (by walk_at "ev") (by walk_at "ev") (Bin.sub_int _ _)) (by (first | lia | omega))⟩
end

/-! # A6 -/
def fold3 (c : Nat) (w : List Int) (s : Nat) : List Int := (List.range c).foldl (fun w k => numStep w (s + k)) w
def fold2 (b c : Nat) (w : List Int) (s : Nat) : List Int := (List.range b).foldl (fun w j => fold3 c w (s + j)) w
def fold1 (a b c : Nat) (w : List Int) (s : Nat) : List Int := (List.range a).foldl (fun w i => fold2 b c w (s + i)) w
theorem throwsL_eq (a b c o : Nat) : throwsL a b c o = fold1 a b c (List.replicate (o + (a + b + c) - 2) 0) o := rfl
theorem foldl_len {f : List Int → Nat → List Int} (h : ∀ w k, (f w k).length = w.length) : ∀ (l : List Nat) (w : List Int), (l.foldl f w).length = w.length
  | [], w => rfl
  | a :: l, w => by rw [List.foldl_cons, foldl_len h l, h]
theorem fold3_len (c : Nat) (w : List Int) (s : Nat) : (fold3 c w s).length = w.length := foldl_len (fun w k => by simp [numStep]) _ _
theorem fold2_len (b c : Nat) (w : List Int) (s : Nat) : (fold2 b c w s).length = w.length := foldl_len (fun w k => fold3_len c w _) _ _
theorem fold1_len (a b c : Nat) (w : List Int) (s : Nat) : (fold1 a b c w s).length = w.length := foldl_len (fun w k => fold2_len b c w _) _ _
theorem fold3_succ (c : Nat) (w : List Int) (s : Nat) : fold3 (c + 1) w s = numStep (fold3 c w s) (s + c) := by unfold fold3; rw [List.range_succ, List.foldl_append]; rfl
theorem fold2_succ (b c : Nat) (w : List Int) (s : Nat) : fold2 (b + 1) c w s = fold3 c (fold2 b c w s) (s + b) := by unfold fold2; rw [List.range_succ, List.foldl_append]; rfl
theorem fold1_succ (a b c : Nat) (w : List Int) (s : Nat) : fold1 (a + 1) b c w s = fold2 b c (fold1 a b c w s) (s + a) := by unfold fold1; rw [List.range_succ, List.foldl_append]; rfl
section
variable {G : Gd} {p : Params}
theorem throws_spec (m : Gm G p) (d a b c o : Nat) (ha : 1 ≤ a ∧ a ≤ 100) (hb : 1 ≤ b ∧ b ≤ 100) (hc : 1 ≤ c ∧ c ≤ 100) (ho : o ≤ 100) :
    Spec G (d + 1) (.ref 197) [Mine.L (nis [a, b, c]), I o] (Mine.L ((throwsL a b c o).map .int)) := by
  have g := m.g
  refine Spec.intro m.g (by rw [m.K]; rfl) (by dsimp only) (by dsimp only) (by dsimp only) (by rw [m.K]; rfl) rfl rfl rfl rfl (by decide +kernel) (by dsimp only [List.map]) (by dsimp only [List.map])
    (by exact arg2 fun _ _ => rfl) rfl (by rfl) (nos := List.replicate 4 .no) (by rfl) (by rfl) (by rfl) rfl rfl rfl (by dsimp only [List.map, List.replicate, HAppend.hAppend, Append.append, List.append]) ?_
  intro A L cells cm HH w hcm
  have hsum : (([a, b, c].map Int.ofNat).sum : Int) = ((a + b + c : Nat) : Int) := by rw [sum_nis]; simp; (first | lia | omega)
  refine Ex.cons (Ex1.setV (w _) (EvV.bin (w _) (Wk.refl _) (Ev.list' (w _) (by walk_at "evl") (by walk_at "dl") rfl) (Ev.int_eq (j := ((o + (a + b + c) - 2 : Nat) : Int)) (Ev.bin (w _) (Ev.bin (w _) (by walk_at "ev") (Ev.int_eq (Ev.call g (w _) m.sum (by walk_at "hv") (Kp.builtin _) (by walk_at "evl") (by rw [nis_int]; exact Spec.sum _ _) rfl) hsum) (Bin.add_int _ _)) (by walk_at "ev") (Bin.sub_int _ _)) (by (first | lia | omega))) (BinN.mul_list [.int 0] _ (by (first | lia | omega)) (by (first | lia | omega)) (by simp; (first | lia | omega))) (by rw [flat_one]; simp [atm])) (by walk_at "hv") (Nat.le_of_ble_eq_true rfl) (.inl rfl) rfl ?_)
  rintro _ ⟨ad, rfl⟩
  dsimp only [Then, List.set]
  generalize hN : o + (a + b + c) - 2 = N
  rw [flat_one, Int.toNat_natCast, show List.replicate N (PyData.int 0) = (List.replicate N (0 : Int)).map .int by rw [List.map_replicate], throwsL_eq, hN]
  have hwl : (List.replicate N (0 : Int)).length = N := List.length_replicate
  generalize List.replicate N (0 : Int) = W at hwl
  have p0 : (nis [a, b, c])[((0 : Int)).toNat]? = some (.int (a : Nat)) := rfl
  have p1 : (nis [a, b, c])[((1 : Int)).toNat]? = some (.int (b : Nat)) := rfl
  have p2' : (nis [a, b, c])[((2 : Int)).toNat]? = some (.int (c : Nat)) := rfl
  refine Ex.cons (Ex1.for w (It.range1 g (w _) m.range (by walk_at "hv") (Ev.idx_list (w _) (by walk_at "ev") (by walk_at "ev") (by decide) (by decide) p0 rfl) (by (first | lia | omega)) (by (first | lia | omega)) rfl rfl)
    (fun i μ => ∃ s3 s4 s5 : Slot, μ = [.v (Mine.L (nis [a, b, c])), .v (I o), .own ad ((fold1 i b c W o).map .int), s3, s4, s5]) ⟨.no, .no, .no, rfl⟩ ?_ ?_ (by intro _; rfl) (by intro _ _; rfl))
  · rintro i t μ' H' hit ⟨s3, s4, s5, rfl⟩
    obtain ⟨hi, rfl⟩ := range_get2 hit
    have hia : i < a := by (first | lia | omega)
    rw [Int.zero_add, fold1_succ]
    have l1 := fold1_len i b c W o
    generalize fold1 i b c W o = W1 at l1
    refine As.name (w _) (by walk_at "hv") (Nat.le_of_ble_eq_true rfl) (.inl rfl) ?_
    dsimp only [List.set]
    refine Ex.cons (Ex1.for w (It.range1 g (w _) m.range (by walk_at "hv") (Ev.idx_list (w _) (by walk_at "ev") (by walk_at "ev") (by decide) (by decide) p1 rfl) (by (first | lia | omega)) (by (first | lia | omega)) rfl rfl)
      (fun j μ => ∃ s4 s5 : Slot, μ = [.v (Mine.L (nis [a, b, c])), .v (I o), .own ad ((fold2 j c W1 (o + i)).map .int), .v (I (i : Nat)), s4, s5]) ⟨s4, s5, rfl⟩ ?_ ?_ (by intro _; rfl) (by intro _ _; rfl))
    · rintro j t2 μ'' H'' hit2 ⟨s4', s5', rfl⟩
      obtain ⟨hj, rfl⟩ := range_get2 hit2
      have hjb : j < b := by (first | lia | omega)
      rw [Int.zero_add, fold2_succ]
      have l2 := fold2_len j c W1 (o + i)
      generalize fold2 j c W1 (o + i) = W2 at l2
      refine As.name (w _) (by walk_at "hv") (Nat.le_of_ble_eq_true rfl) (.inl rfl) ?_
      dsimp only [List.set]
      refine Ex.cons (Ex1.for w (It.range1 g (w _) m.range (by walk_at "hv") (Ev.idx_list (w _) (by walk_at "ev") (by walk_at "ev") (by decide) (by decide) p2' rfl) (by (first | lia | omega)) (by (first | lia | omega)) rfl rfl)
        (fun k μ => ∃ s5 : Slot, μ = [.v (Mine.L (nis [a, b, c])), .v (I o), .own ad ((fold3 k W2 (o + i + j)).map .int), .v (I (i : Nat)), .v (I (j : Nat)), s5]) ⟨s5', rfl⟩ ?_ ?_ (by intro _; rfl) (by intro _ _; rfl))
      · rintro k t3 μ3 H3 hit3 ⟨s5'', rfl⟩
        obtain ⟨hk, rfl⟩ := range_get2 hit3
        have hkc : k < c := by (first | lia | omega)
        rw [Int.zero_add, fold3_succ]
        have l3 := fold3_len k W2 (o + i + j)
        generalize fold3 k W2 (o + i + j) = W3 at l3
        refine As.name (w _) (by walk_at "hv") (Nat.le_of_ble_eq_true rfl) (.inl rfl) ?_
        dsimp only [List.set]
        obtain ⟨v, hv⟩ : ∃ v, W3[o + i + j + k]? = some v := ⟨_, List.getElem?_eq_getElem (by (first | lia | omega))⟩
        have hv' : (W3.map PyData.int)[((o + i + j + k : Nat) : Int).toNat]? = some (.int v) := by rw [Int.toNat_natCast, List.getElem?_map, hv]; rfl
        refine Ex.cons (Ex1.augItem (w _) (k := ((o + i + j + k : Nat) : Int)) (d := .int (v + 1)) (by walk_at "hv") rfl (Ev.int_eq (Ev.bin (w _) (Ev.bin (w _) (Ev.bin (w _) (by walk_at "ev") (by walk_at "ev") (Bin.add_int _ _)) (by walk_at "ev") (Bin.add_int _ _)) (by walk_at "ev") (Bin.add_int _ _)) (by (first | lia | omega))) hv' (by walk_at "ev") (Inp.add_int _ _) (by (first | lia | omega)) (by rw [List.length_map]; (first | lia | omega)) (by rw [List.length_map]; (first | lia | omega)) (by intros; rfl) ?_)
        dsimp only [Then, List.set]
        refine Ex.nil (w _) ⟨.v (I (k : Nat)), ?_⟩
        unfold numStep
        rw [hv, Int.toNat_natCast, List.map_set]
        rfl
      · rintro μ3 ⟨s5'', rfl⟩
        rw [List.length_map, rangeL_len, show ((c : Int) - 0).toNat = c by (first | lia | omega)]
        exact Ex.nil (w _) ⟨_, _, rfl⟩
    · rintro μ'' ⟨s4', s5', rfl⟩
      rw [List.length_map, rangeL_len, show ((b : Int) - 0).toNat = b by (first | lia | omega)]
      exact Ex.nil (w _) ⟨_, _, _, rfl⟩
  · rintro μ' ⟨s3, s4, s5, rfl⟩
    dsimp only [Then]
    rw [List.length_map, rangeL_len, show ((a : Int) - 0).toNat = a by (first | lia | omega)]
    refine Ex.wk (.same (.same (.frz (Wk.refl _)))) ?_
    exact Ex.cons (Ex1.ret (w _) (by walk_at "ev") rfl)
end

/-! # A7 -/
def lessB (f g : Nat → Nat) (N : Nat) : Bool := (List.range' 1 N).all fun t => decide (f t < g t)
theorem lessB_iff {f g : Nat → Nat} {N : Nat} : lessB f g N = true ↔ ∀ t, 1 ≤ t → t ≤ N → f t < g t := by
  unfold lessB
  rw [List.all_eq_true]
  refine ⟨fun h t h1 h2 => of_decide_eq_true (h t (List.mem_range'_1.mpr ⟨h1, by (first | lia | omega)⟩)), fun h t ht => ?_⟩
  have := List.mem_range'_1.mp ht
  exact decide_eq_true (h t this.1 (by (first | lia | omega)))
theorem colL_one (runs : List Nat) (b : Nat) : colL runs b 1 = (runs.map (· + 1)).sum + b := by
  unfold colL
  rw [Nat.add_comm]
  congr 2
  apply List.map_congr_left
  intro r _
  simp
theorem colL_zero : ∀ (runs : List Nat) (b t : Nat), (∀ r ∈ runs, r = 0) → colL runs b t = b + runs.length * t
  | [], b, t, _ => by simp [colL]
  | r :: runs, b, t, h => by
    have hr := h r (.head _)
    have ih := colL_zero runs b t fun x hx => h x (.tail _ hx)
    subst hr
    unfold colL at ih ⊢
    rw [List.map_cons, List.sum_cons, List.length_cons, Nat.add_mul]
    simp only [Nat.zero_div, Nat.zero_add, Nat.mul_one, Nat.one_mul]
    (first | lia | omega)
theorem simple_zero {runs : List Nat} (h : (cnt runs).length ≤ 1) : ∀ r ∈ runs, r = 0 := fun r hr => by
  unfold cnt at h
  rw [cnt_len] at h
  have : ∀ l : List Nat, r ∈ l → r + 1 ≤ l.foldr (fun r m => max (r + 1) m) 0 := fun l hl => by
    induction l with
    | nil => cases hl
    | cons a l ih =>
      rw [List.foldr_cons]
      rcases List.mem_cons.mp hl with rfl | hl
      · (first | lia | omega)
      · have := ih hl; (first | lia | omega)
  have := this runs hr
  simp at h
  (first | lia | omega)
theorem less_simple {r1 r2 : List Nat} {b1 b2 N : Nat} (h1 : ∀ r ∈ r1, r = 0) (h2 : ∀ r ∈ r2, r = 0) (hN : b2 + 1 ≤ N) (hn : colL r1 b1 1 < colL r2 b2 1) : decide (((r1.length : Nat) : Int) ≤ ((r2.length : Nat) : Int)) = lessB (colL r1 b1) (colL r2 b2) N := by
  rw [colL_zero _ _ _ h1, colL_zero _ _ _ h2] at hn
  rw [Bool.eq_iff_iff, lessB_iff, decide_eq_true_eq]
  refine ⟨fun h t t1 t2 => ?_, fun h => ?_⟩
  · rw [colL_zero _ _ _ h1, colL_zero _ _ _ h2]
    obtain ⟨u, rfl⟩ : ∃ u, t = u + 1 := ⟨t - 1, by (first | lia | omega)⟩
    have := Nat.mul_le_mul_right u (show r1.length ≤ r2.length by (first | lia | omega))
    rw [Nat.mul_succ, Nat.mul_succ]
    (first | lia | omega)
  · by_cases hc : r1.length ≤ r2.length
    · (first | lia | omega)
    · have := h N (by (first | lia | omega)) (Nat.le_refl _)
      rw [colL_zero _ _ _ h1, colL_zero _ _ _ h2] at this
      have h3 := Nat.mul_le_mul_right N (show r2.length + 1 ≤ r1.length by (first | lia | omega))
      rw [Nat.add_mul] at h3
      (first | lia | omega)
section
variable {G : Gd} {p : Params}
theorem Ev.wn (m : Gm G p) {X : Cx} {μ : List Slot} (w : WX G X) {o : Expr} {pos : Pos} {l : List Nat} {c : List Int} {b n nt : Nat} (ho : Ev G X μ o (.ob 83 (wsF l c b n nt)))
    (hb : attributeBase o "n" X.env (eval o X.env) = eval o X.env := by rfl) (ht : ∀ a b, letTemporaryGo o a b = pure () := by intro _ _; rfl) :
    Ev G X μ (.Attribute o "n" pos) (I (n : Int)) :=
  Ev.attr m.g w ho rfl (by rw [m.K]; exact ws_getattribute p) (by rw [m.K]; exact ws_dict p) (by rw [m.K]; exact ws_no_n p) rfl hb ht
theorem Ev.wsim (m : Gm G p) {X : Cx} {μ : List Slot} (w : WX G X) {o : Expr} {pos : Pos} {l : List Nat} {c : List Int} {b n nt : Nat} (ho : Ev G X μ o (.ob 83 (wsF l c b n nt)))
    (hb : attributeBase o "is_simple" X.env (eval o X.env) = eval o X.env := by rfl) (ht : ∀ a b, letTemporaryGo o a b = pure () := by intro _ _; rfl) :
    Ev G X μ (.Attribute o "is_simple" pos) (B (decide ((c.length : Int) ≤ 1))) :=
  Ev.attr m.g w ho rfl (by rw [m.K]; exact ws_getattribute p) (by rw [m.K]; exact ws_dict p) (by rw [m.K]; exact ws_no_is p) rfl hb ht
theorem less_spec (m : Gm G p) (d : Nat) (r1 r2 : List Nat) (b1 b2 : Nat) (t1 t2 : List Nat) (h1 : Lw (cnt r1) b1 r1.length) (h2 : Lw (cnt r2) b2 r2.length) :
    Spec G (d + 2) (.ref 73) [lob r1 b1 t1, lob r2 b2 t2] (B (lessB (colL r1 b1) (colL r2 b2) (neN r1 r2 b1 b2))) := by
  have g := m.g
  have hw1 := h1.long
  have hw2 := h2.long
  generalize hN : neN r1 r2 b1 b2 = N
  have hNe : max (wsLong (cnt r1) b1) (wsLong (cnt r2) b2) + 1 = (N : Int) := by rw [long_lead, long_lead, ← hN]; unfold neN; (first | lia | omega)
  have hN1 : 1 ≤ N ∧ N ≤ 50001 := by (first | lia | omega)
  have hNb : b2 + 1 ≤ N := by rw [← hN]; unfold neN; (first | lia | omega)
  refine Spec.intro m.g (by rw [m.K]; rfl) (by dsimp only) (by dsimp only) (by dsimp only) (by rw [m.K]; rfl) rfl rfl rfl rfl (by decide +kernel) (by dsimp only [List.map]) (by dsimp only [List.map])
    (by exact arg2 fun _ _ => rfl) rfl (by rfl) (nos := List.replicate 2 .no) (by rfl) (by rfl) (by rfl) rfl rfl rfl (by dsimp only [List.map, List.replicate, HAppend.hAppend, Append.append, List.append]) ?_
  intro A L cells cm HH w hcm
  refine Ex.cons (Ex1.ite (w _) (Ts.cmp (w _) (Ev.wn m (w _) (by walk_at "ev")) (Ev.wn m (w _) (by walk_at "ev")) (Cmp.ge_int _ _)) (fun hc => ?_) (fun hc => Ex.nil (w _) ?_))
  · have hc := of_decide_eq_true hc
    refine Ex.cons (Ex1.ret (w _) (t := B false) (by walk_at "ev") (show B false = B _ from congrArg B (Eq.symm (Bool.eq_false_iff.mpr fun q => ?_))))
    have := lessB_iff.mp q 1 (Nat.le_refl _) hN1.1
    rw [colL_one, colL_one] at this
    (first | lia | omega)
  · have hc := of_decide_eq_false hc
    have hlt : colL r1 b1 1 < colL r2 b2 1 := by rw [colL_one, colL_one]; (first | lia | omega)
    dsimp only [Then]
    refine Ex.cons (Ex1.ite (w _) (b := decide (((cnt r1).length : Int) ≤ 1) && decide (((cnt r2).length : Int) ≤ 1)) ?_ (fun hs => ?_) (fun hs => Ex.nil (w _) ?_))
    · by_cases q1 : ((cnt r1).length : Int) ≤ 1
      · by_cases q2 : ((cnt r2).length : Int) ≤ 1
        · rw [decide_eq_true q1, decide_eq_true q2]
          exact Ts.boolop (AllTs.and_true (w _) (Ts.val (w _) (Ev.wsim m (w _) (by walk_at "ev")) (by rw [decide_eq_true q1]; exact Tru.bool _) rfl) (AllTs.and_true (w _) (Ts.val (w _) (Ev.wsim m (w _) (by walk_at "ev")) (by rw [decide_eq_true q2]; exact Tru.bool _) rfl) AllTs.and_nil))
        · rw [decide_eq_true q1, decide_eq_false q2]
          exact Ts.boolop (AllTs.and_true (w _) (Ts.val (w _) (Ev.wsim m (w _) (by walk_at "ev")) (by rw [decide_eq_true q1]; exact Tru.bool _) rfl) (AllTs.and_false (Ts.val (w _) (Ev.wsim m (w _) (by walk_at "ev")) (by rw [decide_eq_false q2]; exact Tru.bool _) rfl)))
      · rw [decide_eq_false q1]
        exact Ts.boolop (AllTs.and_false (Ts.val (w _) (Ev.wsim m (w _) (by walk_at "ev")) (by rw [decide_eq_false q1]; exact Tru.bool _) rfl))
    · rw [Bool.and_eq_true] at hs
      have q1 := of_decide_eq_true hs.1
      have q2 := of_decide_eq_true hs.2
      refine Ex.cons (Ex1.ret (w _) (Ev.cmp (w _) (Ev.nt m (w _) (by walk_at "ev")) (Ev.nt m (w _) (by walk_at "ev")) (Cmp.le_int _ _) rfl) (congrArg B (less_simple (simple_zero (by (first | lia | omega))) (simple_zero (by (first | lia | omega))) hNb hlt)))
    · dsimp only [Then]
      refine Ex.cons (Ex1.set (w _) (t := I (N : Nat)) (Ev.int_eq (Ev.bin (w _) (Ev.call g (w _) m.max (by walk_at "hv") (Kp.builtin _) (EvL.cons (w _) (Ev.long m (w _) h1 (Nat.le_add_left _ _) (by walk_at "ev") rfl) (EvL.cons (w _) (Ev.long m (w _) h2 (Nat.le_add_left _ _) (by walk_at "ev") rfl) EvL.nil rfl) rfl) (Spec.max_two _ _ _) rfl) (by walk_at "ev") (Bin.add_int _ _)) hNe) (by walk_at "hv") (Nat.le_of_ble_eq_true rfl) (.inl rfl) rfl ?_)
      dsimp only [Then, List.set]
      refine Ex.cons (Ex1.for w (It.range2 g (w _) m.range (by walk_at "hv") (by walk_at "ev") (by walk_at "ev") (by decide) (by decide) (by (first | lia | omega)) (by (first | lia | omega)) rfl rfl rfl)
        (fun i μ => (∃ s : Slot, μ = [.v (lob r1 b1 t1), .v (lob r2 b2 t2), .v (I (N : Nat)), s]) ∧ ∀ t, 1 ≤ t → t ≤ i + 1 → colL r1 b1 t < colL r2 b2 t) ⟨⟨.no, rfl⟩, fun t h3 h4 => by rw [show t = 1 by (first | lia | omega)]; exact hlt⟩ ?_ ?_ (by intro _; rfl) (by intro _ _; rfl))
      · rintro i t μ' H' hit ⟨⟨s, rfl⟩, hall⟩
        obtain ⟨hi, rfl⟩ := range_get2 hit
        rw [show (2 : Int) + (i : Int) = ((2 + i : Nat) : Int) by (first | lia | omega)]
        refine As.name (w _) (by walk_at "hv") (Nat.le_of_ble_eq_true rfl) (.inl rfl) ?_
        dsimp only [List.set]
        refine Ex.cons (Ex1.ite (w _) (Ts.cmp (w _) (Ev.int_eq (Ev.col m (w _) h1 (Nat.le_add_left _ _) (by walk_at "ev") (by walk_at "evl") (by (first | lia | omega)) (by (first | lia | omega)) rfl rfl) (col_lead _ _ _ (by (first | lia | omega)))) (Ev.int_eq (Ev.col m (w _) h2 (Nat.le_add_left _ _) (by walk_at "ev") (by walk_at "evl") (by (first | lia | omega)) (by (first | lia | omega)) rfl rfl) (col_lead _ _ _ (by (first | lia | omega)))) (Cmp.ge_int _ _)) (fun hc => ?_) (fun hc => ?_))
        · have hc := of_decide_eq_true hc
          refine Ex.cons (Ex1.ret (w _) (t := B false) (by walk_at "ev") (show B false = B _ from congrArg B (Eq.symm (Bool.eq_false_iff.mpr fun q => ?_))))
          have := lessB_iff.mp q (2 + i) (by (first | lia | omega)) (by (first | lia | omega))
          (first | lia | omega)
        · have hc := of_decide_eq_false hc
          refine Ex.nil (w _) (Ex.nil (w _) ⟨⟨.v (I (2 + i : Nat)), rfl⟩, fun t h3 h4 => ?_⟩)
          by_cases ht : t = 2 + i
          · subst ht; (first | lia | omega)
          · exact hall t h3 (by (first | lia | omega))
      · rintro μ' ⟨⟨s, rfl⟩, hall⟩
        dsimp only [Then]
        rw [List.length_map, rangeL_len] at hall
        exact Ex.cons (Ex1.ret (w _) (t := B true) (by walk_at "ev") (congrArg B (lessB_iff.mpr fun t h3 h4 => hall t h3 (by (first | lia | omega))).symm))
end

/-! # A8 -/
theorem Shp.tris {n : Nat} (l : List (Nat × Nat × Nat)) : Shp (n + 3) (.list (l.map tri)) := Shp.list fun x hx => by
  obtain ⟨y, _, rfl⟩ := List.mem_map.mp hx
  exact Shp.tuple fun z hz => by
    rcases List.mem_cons.mp hz with rfl | hz
    · exact Shp.int _
    · rcases List.mem_cons.mp hz with rfl | hz
      · exact Shp.int _
      · rcases List.mem_cons.mp hz with rfl | hz
        · exact Shp.int _
        · cases hz
section
variable {G : Gd} {p : Params}
theorem Ev.new {X : Cx} {μ : List Slot} (m : Gm G p) (w : WX G X) {o e : Expr} {apos pos : Pos} {pl : Sem Bool} {r1 r2 : List Nat} {b1 b2 : Nat} {t1 t2 : List Nat} (h1 : Lw (cnt r1) b1 r1.length) (h2 : Lw (cnt r2) b2 r2.length) (hd : 2 ≤ X.d)
    (ho : Ev G X μ o (lob r1 b1 t1)) (hargs : EvL G X μ [e] [lob r2 b2 t2])
    (he : eval (.Call (.Attribute o "not_equal_witness" apos) [e] [] pos) X.env = (do
      let ov ← eval o X.env
      standAt apos.atName
      let (f, first) ← holding [ov] (getMethod ov "not_equal_witness" pl)
      callWith pos f first (backTo pos (starEach [e] X.env)) []) := by rfl) (hp : noStar [e] = true := by rfl) :
    Ev G X μ (.Call (.Attribute o "not_equal_witness" apos) [e] [] pos) (Mine.L ((neL (colL r1 b1) (colL r2 b2) (neN r1 r2 b1 b2)).map tri)) :=
  Ev.ometh m.g w ho hargs rfl (by rw [m.K]; exact ws_getattribute p) (by rw [m.K]; exact ws_getattr p) (by rw [m.K]; exact ws_new p) (by rw [m.K]; exact ws_new_ty p) (m.kp (ws_new_kp p)) ((new_lead m 0 r1 r2 b1 b2 t1 t2 h1 h2).mono hd) he hp
theorem Ev.less {X : Cx} {μ : List Slot} (m : Gm G p) (w : WX G X) {o e : Expr} {apos pos : Pos} {pl : Sem Bool} {r1 r2 : List Nat} {b1 b2 : Nat} {t1 t2 : List Nat} (h1 : Lw (cnt r1) b1 r1.length) (h2 : Lw (cnt r2) b2 r2.length) (hd : 2 ≤ X.d)
    (ho : Ev G X μ o (lob r1 b1 t1)) (hargs : EvL G X μ [e] [lob r2 b2 t2])
    (he : eval (.Call (.Attribute o "less" apos) [e] [] pos) X.env = (do
      let ov ← eval o X.env
      standAt apos.atName
      let (f, first) ← holding [ov] (getMethod ov "less" pl)
      callWith pos f first (backTo pos (starEach [e] X.env)) []) := by rfl) (hp : noStar [e] = true := by rfl) :
    Ev G X μ (.Call (.Attribute o "less" apos) [e] [] pos) (B (lessB (colL r1 b1) (colL r2 b2) (neN r1 r2 b1 b2))) :=
  Ev.ometh m.g w ho hargs rfl (by rw [m.K]; exact ws_getattribute p) (by rw [m.K]; exact ws_getattr p) (by rw [m.K]; exact ws_less p) (by rw [m.K]; exact ws_less_ty p) (m.kp (ws_less_kp p)) ((less_spec m 0 r1 r2 b1 b2 t1 t2 h1 h2).mono hd) he hp

theorem Ev.cong {X : Cx} {μ : List Slot} {e : Expr} {t t' : Tr} (h : Ev G X μ e t) (q : t = t') : Ev G X μ e t' := q ▸ h
theorem told_spec (m : Gm G p) (d : Nat) (r1 r2 : List Nat) (b1 b2 N : Nat) (t1 t2 : List Nat) (h1 : Lw (cnt r1) b1 r1.length) (h2 : Lw (cnt r2) b2 r2.length) (hN : neN r1 r2 b1 b2 = N) (hN2 : N ≤ 5000) :
    Spec G (d + 3) (.ref 207) [lob r1 b1 t1, lob r2 b2 t2, Mine.L (nis ((List.range' 1 N).map (colL r1 b1))), Mine.L (nis ((List.range' 1 N).map (colL r2 b2)))] (B true) := by
  have g := m.g
  generalize hf : colL r1 b1 = f
  generalize hg : colL r2 b2 = h
  refine Spec.intro m.g (by rw [m.K]; rfl) (by dsimp only) (by dsimp only) (by dsimp only) (by rw [m.K]; rfl) rfl rfl rfl rfl (by decide +kernel) (by dsimp only [List.map]) (by dsimp only [List.map])
    (by exact arg4 fun _ _ _ _ => rfl) rfl (by rfl) (nos := List.replicate 2 .no) (by rfl) (by rfl) (by rfl) rfl rfl rfl (by dsimp only [List.map, List.replicate, HAppend.hAppend, Append.append, List.append]) ?_
  intro A L cells cm HH w hcm
  have hlen : ((List.range' 1 N).map f).length = N := by simp
  have at1 : ∀ (k : Nat → Nat) (j : Nat), j < N → (nis ((List.range' 1 N).map k))[((j : Nat) : Int).toNat]? = some (.int (k (1 + j) : Nat)) := fun k j hj => by
    rw [Int.toNat_natCast]; unfold nis
    rw [List.getElem?_map, List.getElem?_map, List.getElem?_range' hj]; simp
  have evlen : ∀ {H : List Addr} {x : Int}, True := trivial
  have e1 : (List.range ((rangeL 0 (N : Int)).map fun i => I i).length).filterMap (fun j => if (!decide (f (1 + j) = h (1 + j))) = true then some (tri (1 + j, f (1 + j), h (1 + j))) else none) = (neL f h N).map tri := by
    rw [List.length_map, rangeL_len, show ((N : Int) - 0).toNat = N by (first | lia | omega)]
    unfold neL
    rw [List.map_filterMap, List.range'_eq_map_range, List.filterMap_map]
    apply filterMap_cong
    intro j _
    simp only [Function.comp]
    by_cases q : f (1 + j) = h (1 + j)
    · rw [if_pos q, decide_eq_true q]; rfl
    · rw [if_neg q, decide_eq_false q]; rfl
  refine Ex.cons (Ex1.setComp (X := fnCx G _ _ _ _ _ _ _ _ _ _ _ _) w (fun j => if (!decide (f (1 + j) = h (1 + j))) = true then some (tri (1 + j, f (1 + j), h (1 + j))) else none) (It.range1 g (w _) m.range (by walk_at "hv") (Ev.int_eq (j := (N : Int)) (Ev.call g (w _) m.len (by walk_at "hv") (Kp.builtin _) (by walk_at "evl") (Spec.len_list _ (nis ((List.range' 1 N).map f)) (by rw [nis_len, hlen]; (first | lia | omega))) rfl) (by rw [nis_len, hlen])) (by (first | lia | omega)) (by (first | lia | omega)) rfl rfl) (by rw [List.length_map, rangeL_len]; (first | lia | omega)) (by decide +kernel) (by dsimp only [List.map]) (by dsimp only [List.map]) rfl (by walk_at "cs") (by walk_at "hv") (.inl rfl) ?_ (by walk_at "hv") (Nat.le_of_ble_eq_true rfl) rfl ?_ (by intro _; rfl))
  · intro C cells' cm' H' w' j t ht
    obtain ⟨hj, rfl⟩ := range_get2 ht
    have hjN : j < N := by (first | lia | omega)
    rw [Int.zero_add]
    dsimp only [List.set]
    refine filt_turn (TsAll.one (Ts.of (Ts.cmp (w' _) (Ev.idx_list (w' _) (by walk_at "ev") (by walk_at "ev") (by (first | lia | omega)) (by (first | lia | omega)) (at1 f j hjN) rfl) (Ev.idx_list (w' _) (by walk_at "ev") (by walk_at "ev") (by (first | lia | omega)) (by (first | lia | omega)) (at1 h j hjN) rfl) (Cmp.ne_is _ _)) (by
        congr 1
        rw [Bool.eq_iff_iff]; simp; (first | lia | omega)))) ?_
    exact Ev.tuple' (w' _) (EvL.cons (w' _) (Ev.int_eq (j := ((1 + j : Nat) : Int)) (Ev.bin (w' _) (by walk_at "ev") (by walk_at "ev") (Bin.add_int _ _)) (by (first | lia | omega))) (EvL.cons (w' _) (Ev.idx_list (w' _) (by walk_at "ev") (by walk_at "ev") (by (first | lia | omega)) (by (first | lia | omega)) (at1 f j hjN) rfl) (EvL.cons (w' _) (Ev.idx_list (w' _) (by walk_at "ev") (by walk_at "ev") (by (first | lia | omega)) (by (first | lia | omega)) (at1 h j hjN) rfl) EvL.nil rfl) rfl) rfl) (by walk_at "dl") rfl
  rw [e1]
  dsimp only [Then, List.set]
  have e2 : (List.range ((rangeL 0 (N : Int)).map fun i => I i).length).filterMap (fun j => some (PyData.bool (decide (((f (1 + j) : Nat) : Int) < ((h (1 + j) : Nat) : Int))))) = (List.range' 1 N).map fun t => PyData.bool (decide (((f t : Nat) : Int) < ((h t : Nat) : Int))) := by
    rw [List.length_map, rangeL_len, show ((N : Int) - 0).toNat = N by (first | lia | omega), List.filterMap_eq_map', List.range'_eq_map_range, List.map_map]; rfl
  have e3 : (!((List.range' 1 N).map fun t => PyData.bool (decide (((f t : Nat) : Int) < ((h t : Nat) : Int)))).any fun y => PyData.eqv y (.bool false)) = lessB f h N := by
    unfold lessB
    rw [List.any_map, List.not_any_eq_all_not]
    congr 1
    funext t
    simp only [Function.comp]
    rw [show PyData.eqv (.bool (decide (((f t : Nat) : Int) < ((h t : Nat) : Int)))) (.bool false) = ((decide (((f t : Nat) : Int) < ((h t : Nat) : Int))) == false) from by simp [PyData.eqv]]
    rw [Bool.eq_iff_iff]; simp
  refine Ex.cons (Ex1.set (w _) (t := B (lessB f h N)) (e3 ▸ Ev.cmp (w _) (by walk_at "ev") (b := Mine.L ((List.range' 1 N).map fun t => PyData.bool (decide (((f t : Nat) : Int) < ((h t : Nat) : Int))))) ?_ (Cmp.notin_data _ _ ((Shp.list (n := 1) fun x hx => by
      obtain ⟨t, _, rfl⟩ := List.mem_map.mp hx; exact Shp.bool _).shaped (by decide)) rfl) rfl) (by walk_at "hv") (Nat.le_of_ble_eq_true rfl) (.inl rfl) rfl ?_)
  · rw [← e2]
    refine Ev.comp (X := fnCx G _ _ _ _ _ _ _ _ _ _ _ _) w _ (It.range1 g (w _) m.range (by walk_at "hv") (Ev.int_eq (j := (N : Int)) (Ev.call g (w _) m.len (by walk_at "hv") (Kp.builtin _) (by walk_at "evl") (Spec.len_list _ (nis ((List.range' 1 N).map f)) (by rw [nis_len, hlen]; (first | lia | omega))) rfl) (by rw [nis_len, hlen])) (by (first | lia | omega)) (by (first | lia | omega)) rfl rfl) (by rw [List.length_map, rangeL_len]; (first | lia | omega)) (by decide +kernel) (by dsimp only [List.map]) (by dsimp only [List.map]) rfl (by walk_at "cs") (by walk_at "hv") (.inl rfl) ?_ (by intro _; rfl)
    intro C cells' cm' H' w' j t ht
    obtain ⟨hj, rfl⟩ := range_get2 ht
    have hjN : j < N := by (first | lia | omega)
    rw [Int.zero_add]
    dsimp only [List.set]
    exact ⟨TsAll.nil, Ev.cmp (w' _) (Ev.idx_list (w' _) (by walk_at "ev") (by walk_at "ev") (by (first | lia | omega)) (by (first | lia | omega)) (at1 f j hjN) rfl) (Ev.idx_list (w' _) (by walk_at "ev") (by walk_at "ev") (by (first | lia | omega)) (by (first | lia | omega)) (at1 h j hjN) rfl) (Cmp.lt_int _ _) rfl⟩
  dsimp only [Then, List.set]
  refine Ex.cons (Ex1.ret (w _) (t := B true) (Ev.and_t (w _) (t := B true) (Ev.cmp (w _) (Ev.cong (t' := Mine.L ((neL f h N).map tri)) (Ev.new m (w _) h1 h2 (Nat.le_add_left 2 d) (by walk_at "ev") (by walk_at "evl") rfl rfl) (by rw [hf, hg, hN])) (by walk_at "ev") (Cmp.eq_same (Shp.tris (n := 0) _) (by decide) rfl) rfl) (Tru.bool true)
    (Ev.cong (Ev.cmp (w _) (Ev.cong (t' := B (lessB f h N)) (Ev.less m (w _) h1 h2 (Nat.le_add_left 2 d) (by walk_at "ev") (by walk_at "evl") rfl rfl) (by rw [hf, hg, hN])) (by walk_at "ev") (Cmp.is_bool _ _) rfl) (by simp))) rfl)
def cubeS (f g : Int) (runs : List Nat) : Int := (runs.map fun r : Nat => (f * (r : Int) + g) ^ 3).sum
theorem cubes_spec (m : Gm G p) (d : Nat) (runs : List Nat) (f g0 : Int) (hr : ∀ r ∈ runs, r ≤ 1000) (hl : runs.length ≤ 20) (hf : Bits f (2 ^ 20 + 10)) (hg : Bits g0 (2 ^ 20 + 10)) :
    Spec G (d + 1) (.ref 212) [Mine.L (nis runs), I f, I g0] (I (cubeS f g0 runs)) := by
  have g := m.g
  refine Spec.intro m.g (by rw [m.K]; rfl) (by dsimp only) (by dsimp only) (by dsimp only) (by rw [m.K]; rfl) rfl rfl rfl rfl (by decide +kernel) (by dsimp only [List.map]) (by dsimp only [List.map])
    (by exact arg3 fun _ _ _ => rfl) rfl (by rfl) (nos := List.replicate 0 .no) (by rfl) (by rfl) (by rfl) rfl rfl rfl (by dsimp only [List.map, List.replicate, HAppend.hAppend, Append.append, List.append]) ?_
  intro A L cells cm HH w hcm
  have e : ((runs.map fun r : Nat => (f * (r : Int) + g0) ^ 3).map PyData.int) = (List.range ((nis runs).map Tr.d).length).filterMap (fun j => (runs[j]?).bind fun x : Nat => some (PyData.int ((f * (x : Int) + g0) ^ 3))) := by
    rw [nis_map, List.map_map]; rfl
  refine Ex.cons (Ex1.ret (w _) (t := I (cubeS f g0 runs)) (Ev.call g (w _) m.sum (by walk_at "hv") (Kp.builtin _) (EvL.cons (w _) (t := Mine.L ((runs.map fun r : Nat => (f * (r : Int) + g0) ^ 3).map .int)) ?_ EvL.nil rfl) (Spec.sum _ _) rfl) rfl)
  rw [e]
  refine Ev.comp (X := fnCx G _ _ _ _ _ _ _ _ _ _ _ _) w _ (It.list (w _) (by walk_at "ev")) (by rw [List.length_map, nis_len]; (first | lia | omega)) (by decide +kernel) (by dsimp only [List.map]) (by dsimp only [List.map]) rfl (by walk_at "cs") (by walk_at "hv") (.inl rfl) ?_ (by intro _; rfl)
  intro C cells' cm' H' w' j t ht
  obtain ⟨r, hr', rfl⟩ := nis_get ht
  have hr1 := hr r (List.mem_of_getElem? hr')
  simp only [hr', Option.bind_some]
  dsimp only [List.set]
  have hrb : Bits ((r : Nat) : Int) 20 := small_bits (by (first | lia | omega)) (by (first | lia | omega))
  have hb : Bits (f * (r : Int) + g0) (2 ^ 20 + 10 + 20 + 1) := (hf.mul hrb).add (hg.mono (by (first | lia | omega)))
  refine ⟨TsAll.nil, Ev.int_eq (Ev.bin (w' _) (Ev.bin (w' _) (Ev.mulB (w' _) (2 ^ 20 + 10) 20 (by walk_at "ev") (by walk_at "ev") hf hrb (by decide)) (by walk_at "ev") (Bin.add_int _ _)) (by walk_at "ev") (Bin.pow_int _ 3 (by decide) (by
    have := hb.intBits
    have h2 : (Builtin.Int.intBits (f * (r : Int) + g0) : Int) ≤ 2 ^ 20 + 31 := by exact_mod_cast this
    (first | lia | omega)))) rfl⟩
end

/-! # A9 -/
/-! ## the plain law: powers of X = 2 ^ n -/
theorem dval_step (n : Nat) : ∀ (d : List Int) (r : Nat), r < d.length → dval n (numStep d r) = dval n d + 2 ^ (n * r)
  | [], r, h => by simp at h
  | x :: d, 0, h => by simp [numStep, dval]; (first | lia | omega)
  | x :: d, r + 1, h => by
    have ih := dval_step n d r (by simpa using h)
    have e : numStep (x :: d) (r + 1) = x :: numStep d r := by simp [numStep]
    rw [e]
    simp only [dval, ih]
    rw [Int.mul_add, Nat.mul_succ, Int.pow_add, Int.mul_comm (2 ^ (n * r))]
    (first | lia | omega)
def geo (n k : Nat) : Int := dval n (List.replicate k 1)
theorem geo_succ (n : Nat) : ∀ k : Nat, geo n (k + 1) = geo n k + 2 ^ (n * k)
  | 0 => by simp [geo, dval]
  | k + 1 => by
    have ih := geo_succ n k
    unfold geo at ih ⊢
    have e : ∀ j, dval n (List.replicate (j + 1) 1) = 1 + 2 ^ n * dval n (List.replicate j 1) := fun j => by rw [List.replicate_succ]; rfl
    have h := e k
    rw [ih] at h
    rw [e (k + 1), ih, Nat.mul_succ, Int.pow_add, Int.mul_comm (2 ^ (n * k)), Int.mul_add]
    (first | lia | omega)
theorem geo_mul (n k : Nat) : (2 ^ n - 1) * geo n k = 2 ^ (n * k) - 1 := dval_ones n k
theorem pw_add (n s k : Nat) : (2 : Int) ^ (n * (s + k)) = 2 ^ (n * s) * 2 ^ (n * k) := by rw [Nat.mul_add, Int.pow_add]
theorem dval_fold3 (n : Nat) (w : List Int) (s : Nat) : ∀ c : Nat, s + c ≤ w.length → dval n (fold3 c w s) = dval n w + 2 ^ (n * s) * geo n c
  | 0, h => by simp [fold3, geo, dval]
  | c + 1, h => by
    rw [fold3_succ, dval_step n _ _ (by rw [fold3_len]; (first | lia | omega)), dval_fold3 n w s c (by (first | lia | omega)), geo_succ, pw_add, Int.mul_add]; (first | lia | omega)
theorem dval_fold2 (n c : Nat) (w : List Int) (s : Nat) : ∀ b : Nat, s + b + c ≤ w.length + 1 → dval n (fold2 b c w s) = dval n w + 2 ^ (n * s) * geo n b * geo n c
  | 0, h => by simp [fold2, geo, dval]
  | b + 1, h => by
    rw [fold2_succ, dval_fold3 n _ _ c (by rw [fold2_len]; (first | lia | omega)), dval_fold2 n c w s b (by (first | lia | omega)), geo_succ, pw_add, Int.mul_add, Int.add_mul]; (first | lia | omega)
theorem dval_fold1 (n b c : Nat) (w : List Int) (s : Nat) : ∀ a : Nat, s + a + b + c ≤ w.length + 2 → dval n (fold1 a b c w s) = dval n w + 2 ^ (n * s) * geo n a * geo n b * geo n c
  | 0, h => by simp [fold1, geo, dval]
  | a + 1, h => by
    rw [fold1_succ, dval_fold2 n c _ _ b (by rw [fold1_len]; (first | lia | omega)), dval_fold1 n b c w s a (by (first | lia | omega)), geo_succ, pw_add, Int.mul_add, Int.add_mul, Int.add_mul]; (first | lia | omega)
theorem dval_throws (n a b c o : Nat) (h : 3 ≤ a + b + c) : dval n (throwsL a b c o) = 2 ^ (n * o) * geo n a * geo n b * geo n c := by
  rw [throwsL_eq, dval_fold1 n b c _ o a (by rw [List.length_replicate]; (first | lia | omega))]
  have := dval_zeros n [] (o + (a + b + c) - 2)
  rw [List.nil_append] at this
  rw [this]; simp [dval]
theorem dval_num (n : Nat) (runs : List Nat) : dval n (numL runs) = (runs.map fun r => (2 : Int) ^ (n * r)).sum := by
  have key : ∀ (l : List Nat) (d : List Int), (∀ r ∈ l, r < d.length) → dval n (l.foldl numStep d) = dval n d + (l.map fun r => (2 : Int) ^ (n * r)).sum := fun l => by
    induction l with
    | nil => intro d _; simp
    | cons r l ih =>
      intro d h
      rw [List.foldl_cons, ih _ (fun x hx => by have := h x (.tail _ hx); simpa [numStep] using this), dval_step n d r (h r (.head _)), List.map_cons, List.sum_cons]; (first | lia | omega)
  rw [numL_eq, key _ _ (fun r hr => by rw [List.length_replicate]; have := le_foldr_max hr; (first | lia | omega))]
  have := dval_zeros n [] (runs.foldr max 0 + 1)
  rw [List.nil_append] at this
  rw [this]; simp [dval]
/-- the gap: three factors, each divided by X - 1 -/
theorem gap_throws (n a b c o : Nat) (h : 3 ≤ a + b + c) : dval n (numL (evenL a b c o)) - dval n (numL (oddL a b c o)) = -((2 ^ n - 1) * ((2 ^ n - 1) * ((2 ^ n - 1) * dval n (throwsL a b c o)))) := by
  rw [dval_num, dval_num, dval_throws n a b c o h]
  unfold evenL oddL
  simp only [List.map_cons, List.map_nil, List.sum_cons, List.sum_nil, pw_add, Int.add_zero]
  have ga := geo_mul n a
  have gb := geo_mul n b
  have gc := geo_mul n c
  generalize (2 : Int) ^ n - 1 = Y at *
  generalize geo n a = A at *
  generalize geo n b = B' at *
  generalize geo n c = C at *
  generalize (2 : Int) ^ (n * a) = pa at *
  generalize (2 : Int) ^ (n * b) = pb at *
  generalize (2 : Int) ^ (n * c) = pc at *
  generalize (2 : Int) ^ (n * o) = po at *
  have e : Y * (Y * (Y * (po * A * B' * C))) = po * ((Y * A) * ((Y * B') * (Y * C))) := by
    simp only [Int.mul_assoc, Int.mul_left_comm, Int.mul_comm]
  rw [e, ga, gb, gc]
  simp only [Int.mul_sub, Int.sub_mul, Int.mul_one, Int.one_mul, Int.mul_assoc]
  (first | lia | omega)
/-! ## the marks: how many even runs end up to here, less the odd ones -/
def marksD (e d : List Nat) (L : Nat) : List Int := (List.range L).map fun i => ((e.countP (fun r => decide (r ≤ i)) : Nat) : Int) - ((d.countP (fun r => decide (r ≤ i)) : Nat) : Int)
theorem dval_map_sub (n : Nat) (f g : Nat → Int) : ∀ l : List Nat, dval n (l.map fun i => f i - g i) = dval n (l.map f) - dval n (l.map g)
  | [] => by simp [dval]
  | x :: l => by simp only [List.map_cons, dval, dval_map_sub n f g l, Int.mul_sub]; (first | lia | omega)
theorem dval_map_add (n : Nat) (f g : Nat → Int) : ∀ l : List Nat, dval n (l.map fun i => f i + g i) = dval n (l.map f) + dval n (l.map g)
  | [] => by simp [dval]
  | x :: l => by simp only [List.map_cons, dval, dval_map_add n f g l, Int.mul_add]; (first | lia | omega)
theorem geo_from (n r : Nat) : ∀ L : Nat, dval n ((List.range L).map fun i => if r ≤ i then (1 : Int) else 0) = if r ≤ L then geo n L - geo n r else 0
  | 0 => by
    simp only [List.range_zero, List.map_nil, dval]
    by_cases h : r ≤ 0
    · rw [if_pos h, show r = 0 by (first | lia | omega)]; simp [geo, dval]
    · rw [if_neg h]
  | L + 1 => by
    rw [List.range_succ, List.map_append, dval_append, geo_from n r L, List.length_map, List.length_range, geo_succ]
    simp only [List.map_cons, List.map_nil, dval]
    by_cases h : r ≤ L
    · rw [if_pos h, if_pos h, if_pos (by (first | lia | omega))]; simp; (first | lia | omega)
    · rw [if_neg h, if_neg h]
      by_cases h2 : r ≤ L + 1
      · rw [if_pos h2, show r = L + 1 by (first | lia | omega), geo_succ]; simp
      · rw [if_neg h2]; simp
theorem dval_count (n L : Nat) : ∀ e : List Nat, (∀ r ∈ e, r ≤ L) → dval n ((List.range L).map fun i => ((e.countP (fun r => decide (r ≤ i)) : Nat) : Int)) = (e.map fun r => geo n L - geo n r).sum
  | [], _ => by
    simp only [List.countP_nil, List.map_nil, List.sum_nil]
    have : ∀ l : List Nat, dval n (l.map fun _ => ((0 : Nat) : Int)) = 0 := fun l => by
      induction l with
      | nil => rfl
      | cons a l ih => simp only [List.map_cons, dval, ih]; simp
    exact this _
  | r :: e, h => by
    have ih := dval_count n L e fun x hx => h x (.tail _ hx)
    have e1 : (List.range L).map (fun i => (((r :: e).countP (fun r => decide (r ≤ i)) : Nat) : Int)) = (List.range L).map (fun i => (if r ≤ i then (1 : Int) else 0) + ((e.countP (fun r => decide (r ≤ i)) : Nat) : Int)) := by
      apply List.map_congr_left
      intro i _
      rw [List.countP_cons]
      by_cases hri : r ≤ i
      · simp [hri]; (first | lia | omega)
      · simp [hri]
    rw [e1, dval_map_add, geo_from, if_pos (h r (.head _)), ih, List.map_cons, List.sum_cons]
theorem sum_geo (n L : Nat) : ∀ e : List Nat, (2 ^ n - 1) * (e.map fun r => geo n L - geo n r).sum = (e.length : Int) * 2 ^ (n * L) - (e.map fun r => (2 : Int) ^ (n * r)).sum
  | [] => by simp
  | r :: e => by
    rw [List.map_cons, List.sum_cons, List.map_cons, List.sum_cons, Int.mul_add, Int.mul_sub, geo_mul, geo_mul, sum_geo n L e, List.length_cons]
    push_cast
    rw [Int.add_mul]; (first | lia | omega)
theorem marks_dval (n L : Nat) (e d : List Nat) (he : ∀ r ∈ e, r ≤ L) (hd : ∀ r ∈ d, r ≤ L) (hl : e.length = d.length) : (2 ^ n - 1) * dval n (marksD e d L) = dval n (numL d) - dval n (numL e) := by
  unfold marksD
  rw [dval_map_sub, dval_count n L e he, dval_count n L d hd, Int.mul_sub, sum_geo, sum_geo, dval_num, dval_num, hl]; (first | lia | omega)
theorem marks_small (L : Nat) (e d : List Nat) (he : e.length ≤ 50) (hd : d.length ≤ 50) : ∀ v ∈ marksD e d L, -100 ≤ v ∧ v ≤ 100 := fun v hv => by
  obtain ⟨i, _, rfl⟩ := List.mem_map.mp hv
  have h1 := List.countP_le_length (p := fun r => decide (r ≤ i)) (l := e)
  have h2 := List.countP_le_length (p := fun r => decide (r ≤ i)) (l := d)
  (first | lia | omega)
/-! ## columns by the marks -/
theorem part_every (l : List Int) (t : Nat) (ht : 1 ≤ t) : (part l ((t : Int) - 1) (t : Int)).sum = ((List.range (l.length / t)).map fun j => (l[t * (j + 1) - 1]?).getD 0).sum := by
  have ht0 : (0 : Int) < (t : Int) := by (first | lia | omega)
  unfold part
  have e1 : sliceBounds (some ((t : Int) - 1)) none (some (t : Int)) l.length = (min ((t : Int) - 1) l.length, (l.length : Int), (t : Int)) := by
    simp only [sliceBounds, Option.getD, if_pos ht0, if_neg (show ¬ ((t : Int) - 1 < 0) by (first | lia | omega))]
    congr 1
    (first | lia | omega)
  rw [e1]
  show ((sliceRange (min ((t : Int) - 1) l.length) (l.length : Int) (t : Int)).filterMap (l[·]?)).sum = _
  unfold sliceRange
  rw [if_pos ht0]
  by_cases hlt : t ≤ l.length
  · have hm : min ((t : Int) - 1) (l.length : Int) = (t : Int) - 1 := by (first | lia | omega)
    rw [hm, if_pos (by (first | lia | omega))]
    have hc : (((l.length : Int) - ((t : Int) - 1) + (t : Int) - 1) / (t : Int)).toNat = l.length / t := by
      rw [show (l.length : Int) - ((t : Int) - 1) + (t : Int) - 1 = (l.length : Int) by (first | lia | omega)]; rfl
    dsimp only
    rw [hc, List.filterMap_map]
    have key : ∀ k, k ≤ l.length / t → ((List.range k).filterMap ((l[·]?) ∘ fun (k : Nat) => ((t : Int) - 1 + (t : Int) * (k : Int)).toNat)).sum = ((List.range k).map fun j => (l[t * (j + 1) - 1]?).getD 0).sum := fun k hk => by
      induction k with
      | zero => rfl
      | succ k ih =>
        rw [List.range_succ, List.filterMap_append, List.map_append, List.sum_append, List.sum_append, ih (by (first | lia | omega))]
        congr 1
        have hidx : ((t : Int) - 1 + (t : Int) * (k : Int)).toNat = t * (k + 1) - 1 := by
          rw [Nat.mul_succ, ← Int.natCast_mul]; (first | lia | omega)
        have hin : t * (k + 1) - 1 < l.length := by
          have h1 := Nat.mul_le_mul_left t hk
          have h2 := Nat.mul_div_le l.length t
          have h3 : 0 < t * (k + 1) := Nat.mul_pos (by (first | lia | omega)) (by (first | lia | omega))
          (first | lia | omega)
        simp only [List.filterMap_cons, List.filterMap_nil, Function.comp, hidx, List.map_cons, List.map_nil]
        rw [List.getElem?_eq_getElem hin]
        simp
    exact key _ (Nat.le_refl _)
  · have hm : min ((t : Int) - 1) (l.length : Int) = (l.length : Int) := by (first | lia | omega)
    rw [hm, if_neg (by (first | lia | omega)), Nat.div_eq_of_lt (by (first | lia | omega))]
    rfl

/-! # A10 -/
/-! ## whole division told by quotient and rest -/
theorem fdm {a b q r : Int} (hb : 0 < b) (e : a = b * q + r) (h0 : 0 ≤ r) (h1 : r < b) : a.fdiv b = q ∧ a.fmod b = r := by
  have h2 : a.fdiv b = q := by
    rw [Int.fdiv_eq_ediv_of_nonneg _ (by (first | lia | omega)), e, Int.add_comm, Int.add_mul_ediv_left _ _ (by (first | lia | omega)), Int.ediv_eq_zero_of_lt h0 h1]; (first | lia | omega)
  refine ⟨h2, ?_⟩
  rw [Int.fmod_def, h2, e]; (first | lia | omega)
theorem fdm_neg {a b q r : Int} (hb : 0 < b) (e : a = b * q + r) (h0 : 0 ≤ r) (h1 : r < b) : (-a).fdiv (-b) = q ∧ (-a).fmod (-b) = -r := by
  obtain ⟨h2, h3⟩ := fdm hb e h0 h1
  have h4 : (-a).fdiv (-b) = q := by rw [Int.neg_fdiv_neg, h2]
  refine ⟨h4, ?_⟩
  rw [Int.fmod_def, h4, e, Int.neg_mul]; (first | lia | omega)
theorem fdm_mul {b : Int} (q : Int) (hb : b ≠ 0) : (b * q).fdiv b = q ∧ (b * q).fmod b = 0 := by
  have h := Int.mul_fdiv_cancel_left q hb
  exact ⟨h, by rw [Int.fmod_def, h]; (first | lia | omega)⟩
/-! ## the two rows -/
theorem class_even (a b c o : Nat) : classN a b c o 0 = evenL a b c o := by
  simp [classN, evenL, List.range_succ, bit3, bitsP]
theorem class_odd (a b c o : Nat) : classN a b c o 1 = oddL a b c o := by
  simp [classN, oddL, List.range_succ, bit3, bitsP]; (first | lia | omega)
theorem even_le (a b c o : Nat) : ∀ r ∈ evenL a b c o, r ≤ o + (a + b + c) := fun r hr => by
  simp [evenL] at hr; (first | lia | omega)
theorem odd_le (a b c o : Nat) : ∀ r ∈ oddL a b c o, r ≤ o + (a + b + c) := fun r hr => by
  simp [oddL] at hr; (first | lia | omega)
theorem even_max (a b c o : Nat) : (evenL a b c o).foldr max 0 ≤ o + (a + b + c) := by simp [evenL]; (first | lia | omega)
theorem odd_max (a b c o : Nat) : (oddL a b c o).foldr max 0 = o + (a + b + c) := by simp [oddL]; (first | lia | omega)
theorem odd_max' (a b c o : Nat) : (oddL a b c o).reverse.foldr max 0 = o + (a + b + c) := by simp [oddL]; (first | lia | omega)
theorem col_rev (l : List Nat) (b t : Nat) : colL l.reverse b t = colL l b t := by unfold colL; rw [List.map_reverse, List.sum_reverse]
theorem col_push (l : List Nat) (b t : Nat) : colL l b t = colL l 0 t + b := by unfold colL; (first | lia | omega)
/-! ## columns by the marks -/
theorem cnt_from (q : Nat) : ∀ K : Nat, ((List.range K).map fun j => if q ≤ j then (1 : Int) else 0).sum = if q ≤ K then (K : Int) - (q : Int) else 0
  | 0 => by
    simp only [List.range_zero, List.map_nil, List.sum_nil]
    split
    · (first | lia | omega)
    · rfl
  | K + 1 => by
    rw [List.range_succ, List.map_append, List.sum_append, cnt_from q K]
    simp only [List.map_cons, List.map_nil, List.sum_cons, List.sum_nil]
    split <;> split <;> (first | lia | omega)
theorem every_iff {t r j : Nat} (ht : 1 ≤ t) : r ≤ t * (j + 1) - 1 ↔ r / t ≤ j := by
  have h1 : t * (j + 1) = (j + 1) * t := Nat.mul_comm ..
  have h2 : 0 < t * (j + 1) := Nat.mul_pos (by (first | lia | omega)) (by (first | lia | omega))
  have h3 := Nat.div_lt_iff_lt_mul (k := t) (x := r) (y := j + 1) (by (first | lia | omega))
  (first | lia | omega)
theorem cnt_every {t : Nat} (ht : 1 ≤ t) (K : Nat) : ∀ E : List Nat, (∀ r ∈ E, r / t ≤ K) → ((List.range K).map fun j => ((E.countP (fun r => decide (r ≤ t * (j + 1) - 1)) : Nat) : Int)).sum = (E.length : Int) * K - (((E.map fun r => r / t).sum : Nat) : Int)
  | [], _ => by
    have : ∀ l : List Nat, (l.map fun _ => ((0 : Nat) : Int)).sum = 0 := fun l => by
      induction l with
      | nil => rfl
      | cons a l ih => rw [List.map_cons, List.sum_cons, ih]; rfl
    simp only [List.countP_nil, this]; simp
  | r :: E, h => by
    have ih := cnt_every ht K E fun x hx => h x (.tail _ hx)
    have hs : ∀ l : List Nat, (l.map fun j => (((r :: E).countP (fun r => decide (r ≤ t * (j + 1) - 1)) : Nat) : Int)).sum = (l.map fun j => if r / t ≤ j then (1 : Int) else 0).sum + (l.map fun j => ((E.countP (fun r => decide (r ≤ t * (j + 1) - 1)) : Nat) : Int)).sum := fun l => by
      induction l with
      | nil => rfl
      | cons j l ih =>
        rw [List.map_cons, List.sum_cons, ih, List.map_cons, List.sum_cons, List.map_cons, List.sum_cons, List.countP_cons]
        have := every_iff (t := t) (r := r) (j := j) ht
        by_cases hq : r / t ≤ j
        · rw [if_pos hq, if_pos (decide_eq_true (this.mpr hq))]; (first | lia | omega)
        · rw [if_neg hq, if_neg (by simpa using fun z => hq (this.mp z))]; (first | lia | omega)
    rw [hs, ih, cnt_from, if_pos (h r (.head _)), List.length_cons, List.map_cons, List.sum_cons]
    push_cast
    rw [Int.add_mul]; (first | lia | omega)
theorem col_sum4 {E : List Nat} (t : Nat) : ((colL E 0 t : Nat) : Int) = (t : Int) * ((((E.map fun r => r / t).sum : Nat) : Int) + (E.length : Int)) := by
  unfold colL; rw [sum_mul]; push_cast; (first | lia | omega)
/-- what the marks tell at one tab size -/
theorem apart_col {E D : List Nat} {L t : Nat} (hE : ∀ r ∈ E, r ≤ L) (hD : ∀ r ∈ D, r ≤ L) (hl : E.length = D.length) (ht : 1 ≤ t) : ((colL D 0 t : Nat) : Int) + apartZ (marksD E D L) t = ((colL E 0 t : Nat) : Int) := by
  unfold apartZ
  have hml : (marksD E D L).length = L := by unfold marksD; simp
  rw [part_every _ _ ht, hml]
  have hv : ((List.range (L / t)).map fun j => ((marksD E D L)[t * (j + 1) - 1]?).getD 0) = (List.range (L / t)).map fun j => ((E.countP (fun r => decide (r ≤ t * (j + 1) - 1)) : Nat) : Int) - ((D.countP (fun r => decide (r ≤ t * (j + 1) - 1)) : Nat) : Int) := by
    apply List.map_congr_left
    intro j hj
    have hj := List.mem_range.mp hj
    have h1 : t * (j + 1) ≤ t * (L / t) := Nat.mul_le_mul_left t hj
    have h2 := Nat.mul_div_le L t
    have h3 : 0 < t * (j + 1) := Nat.mul_pos (by (first | lia | omega)) (by (first | lia | omega))
    unfold marksD
    rw [List.getElem?_map, List.getElem?_range (by (first | lia | omega))]; rfl
  have hsub : ∀ (f g : Nat → Int) (l : List Nat), (l.map fun j => f j - g j).sum = (l.map f).sum - (l.map g).sum := fun f g l => by
    induction l with
    | nil => rfl
    | cons a l ih => simp only [List.map_cons, List.sum_cons, ih]; (first | lia | omega)
  rw [hv, hsub, cnt_every ht _ E (fun r hr => Nat.div_le_div_right (hE r hr)), cnt_every ht _ D (fun r hr => Nat.div_le_div_right (hD r hr)), col_sum4, col_sum4, hl]
  generalize (D.length : Int) * ((L / t : Nat) : Int) = K
  rw [show ∀ x y : Int, K - x - (K - y) = y - x from fun x y => by (first | lia | omega), Int.neg_mul, Int.mul_sub, Int.mul_add, Int.mul_add]; (first | lia | omega)
theorem col_big {E : List Nat} {L t : Nat} (hE : ∀ r ∈ E, r ≤ L) (ht : L < t) : colL E 0 t = t * E.length := by
  unfold colL
  have : ∀ l : List Nat, (∀ r ∈ l, r ≤ L) → (l.map fun r => t * (r / t + 1)).sum = t * l.length := fun l h => by
    induction l with
    | nil => rfl
    | cons a l ih =>
      have := h a (.head _)
      rw [List.map_cons, List.sum_cons, ih fun x hx => h x (.tail _ hx), Nat.div_eq_of_lt (by (first | lia | omega)), List.length_cons, Nat.mul_add t l.length 1]; (first | lia | omega)
  rw [this E hE]; (first | lia | omega)

/-! # A11 -/
/-! ## the throws -/
theorem dval_0 : ∀ l : List Int, dval 0 l = l.sum
  | [] => rfl
  | x :: l => by simp only [dval, dval_0 l, List.sum_cons, Int.pow_zero, Int.one_mul]
theorem geo_0 : ∀ k : Nat, geo 0 k = (k : Int)
  | 0 => by simp [geo, dval]
  | k + 1 => by rw [geo_succ, geo_0 k]; simp
theorem throws_sum (a b c o : Nat) (h : 3 ≤ a + b + c) : (throwsL a b c o).sum = (a : Int) * b * c := by
  rw [← dval_0, dval_throws 0 a b c o h, geo_0, geo_0, geo_0]; simp
theorem fold3_bd (c : Nat) (w : List Int) (s : Nat) {M : Int} (hM : 0 ≤ M) (h : ∀ v ∈ w, 0 ≤ v ∧ v ≤ M) : ∀ v ∈ fold3 c w s, 0 ≤ v ∧ v ≤ M + c := by
  have e : fold3 c w s = ((List.range c).map (s + ·)).foldl numStep w := by unfold fold3; rw [List.foldl_map]
  have := (numStep_facts ((List.range c).map (s + ·)) w M hM h).2
  rw [← e, List.length_map, List.length_range] at this
  exact this
theorem fold2_bd (c : Nat) (w : List Int) (s : Nat) {M : Int} (hM : 0 ≤ M) (h : ∀ v ∈ w, 0 ≤ v ∧ v ≤ M) : ∀ b : Nat, ∀ v ∈ fold2 b c w s, 0 ≤ v ∧ v ≤ M + b * c
  | 0 => by simpa [fold2] using h
  | b + 1 => by
    have ih := fold2_bd c w s hM h b
    have hbc : (0 : Int) ≤ b * c := by rw [← Int.natCast_mul]; (first | lia | omega)
    rw [fold2_succ]
    have := fold3_bd c (fold2 b c w s) (s + b) (M := M + b * c) (by (first | lia | omega)) ih
    intro v hv
    have := this v hv
    push_cast
    rw [Int.add_mul]; (first | lia | omega)
theorem fold1_bd (b c : Nat) (w : List Int) (s : Nat) {M : Int} (hM : 0 ≤ M) (h : ∀ v ∈ w, 0 ≤ v ∧ v ≤ M) : ∀ a : Nat, ∀ v ∈ fold1 a b c w s, 0 ≤ v ∧ v ≤ M + a * (b * c)
  | 0 => by simpa [fold1] using h
  | a + 1 => by
    have ih := fold1_bd b c w s hM h a
    have hbc : (0 : Int) ≤ a * (b * c) := by rw [← Int.natCast_mul, ← Int.natCast_mul]; (first | lia | omega)
    rw [fold1_succ]
    have := fold2_bd c (fold1 a b c w s) (s + a) (M := M + a * (b * c)) (by (first | lia | omega)) ih b
    intro v hv
    have := this v hv
    push_cast
    rw [Int.add_mul]; (first | lia | omega)
theorem throws_bd (a b c o : Nat) : ∀ v ∈ throwsL a b c o, 0 ≤ v ∧ v ≤ (a : Int) * b * c := by
  rw [throwsL_eq]
  have := fold1_bd b c (List.replicate (o + (a + b + c) - 2) 0) o (M := 0) (by decide) (fun v hv => by rw [List.eq_of_mem_replicate hv]; (first | lia | omega)) a
  intro v hv
  have := this v hv
  rw [Int.mul_assoc]; (first | lia | omega)
theorem throws_len (a b c o : Nat) : (throwsL a b c o).length = o + (a + b + c) - 2 := by rw [throwsL_eq, fold1_len, List.length_replicate]
theorem throws_last (a b c o : Nat) : 1 ≤ (throwsL (a + 1) (b + 1) (c + 1) o).getLastD 0 := by
  have hb := fold2_bd (c + 1) (fold1 a (b + 1) (c + 1) (List.replicate (o + (a + 1 + (b + 1) + (c + 1)) - 2) 0) o) (o + a) (M := (a : Int) * (((b + 1 : Nat) : Int) * ((c + 1 : Nat) : Int))) (by rw [← Int.natCast_mul, ← Int.natCast_mul]; (first | lia | omega))
    (by simpa using fold1_bd (b + 1) (c + 1) (List.replicate (o + (a + 1 + (b + 1) + (c + 1)) - 2) 0) o (M := 0) (by decide) (fun v hv => by rw [List.eq_of_mem_replicate hv]; (first | lia | omega)) a) b
  have hc := fold3_bd c _ (o + a + b) (by rw [← Int.natCast_mul, ← Int.natCast_mul, ← Int.natCast_mul]; (first | lia | omega)) hb
  have hl : (fold3 c (fold2 b (c + 1) (fold1 a (b + 1) (c + 1) (List.replicate (o + (a + 1 + (b + 1) + (c + 1)) - 2) 0) o) (o + a)) (o + a + b)).length = o + a + b + c + 1 := by
    rw [fold3_len, fold2_len, fold1_len, List.length_replicate]; (first | lia | omega)
  rw [throwsL_eq, fold1_succ, fold2_succ, fold3_succ]
  generalize fold3 c (fold2 b (c + 1) (fold1 a (b + 1) (c + 1) (List.replicate (o + (a + 1 + (b + 1) + (c + 1)) - 2) 0) o) (o + a)) (o + a + b) = F at hc hl ⊢
  have hlt : o + a + b + c < F.length := by (first | lia | omega)
  unfold numStep
  rw [List.getLastD_eq_getLast?, List.getLast?_eq_getElem?, List.length_set, hl, Nat.add_sub_cancel, List.getElem?_set_self hlt, List.getElem?_eq_getElem hlt]
  have := hc _ (List.getElem_mem hlt)
  simp only [Option.getD_some]; (first | lia | omega)
/-! ## a row's own number -/
theorem half_even (r : Nat) : 2 * ((r * (r - 1) / 2 : Nat) : Int) = (r : Int) * ((r : Int) - 1) := by
  have h : r * (r - 1) % 2 = 0 := by
    rw [Nat.mul_mod]
    rcases Nat.mod_two_eq_zero_or_one r with q | q
    · rw [q]; simp
    · rw [show (r - 1) % 2 = 0 by (first | lia | omega)]; simp
  have h2 : 2 * (r * (r - 1) / 2) = r * (r - 1) := by (first | lia | omega)
  have h3 : ((r * (r - 1) : Nat) : Int) = (r : Int) * ((r : Int) - 1) := by
    cases r with
    | zero => rfl
    | succ k => push_cast; congr 1; (first | lia | omega)
  (first | lia | omega)
theorem half_fdiv (r : Nat) : ((r : Int) * ((r : Int) - 1)).fdiv 2 = ((r * (r - 1) / 2 : Nat) : Int) := by
  rw [← half_even, Int.mul_fdiv_cancel_left _ (by decide)]
theorem pow_exp (Y : Int) : ∀ r : Nat, ∃ q : Int, (1 + Y) ^ r = 1 + Y * (r : Int) + Y ^ 2 * ((r * (r - 1) / 2 : Nat) : Int) + Y ^ 3 * q
  | 0 => ⟨0, by simp⟩
  | r + 1 => by
    obtain ⟨q, e⟩ := pow_exp Y r
    have h1 := half_even r
    have h2 := half_even (r + 1)
    refine ⟨q + ((r * (r - 1) / 2 : Nat) : Int) + Y * q, ?_⟩
    rw [Int.pow_succ, e]
    generalize ((r * (r - 1) / 2 : Nat) : Int) = t at *
    generalize (((r + 1) * (r + 1 - 1) / 2 : Nat) : Int) = t' at *
    have h3 : t' = t + (r : Int) := by
      have : (((r + 1 : Nat) : Int)) * (((r + 1 : Nat) : Int) - 1) = (r : Int) * ((r : Int) - 1) + 2 * (r : Int) := by push_cast; grind
      (first | lia | omega)
    rw [h3]
    push_cast
    grind
theorem num_exp (n : Nat) {W : Int} (hW : W = 1 - 2 ^ n) (runs : List Nat) : ∃ q : Int, dval n (numL runs) = (runs.length : Int) - W * ((runs.sum : Nat) : Int) + W ^ 2 * tri2 runs + -W ^ 3 * q := by
  rw [dval_num]
  induction runs with
  | nil => exact ⟨0, by simp [tri2]⟩
  | cons r l ih =>
    obtain ⟨q, e⟩ := ih
    obtain ⟨q', e'⟩ := pow_exp (2 ^ n - 1) r
    refine ⟨q + q', ?_⟩
    rw [List.map_cons, List.sum_cons, e, Int.pow_mul, show (2 : Int) ^ n = 1 + (2 ^ n - 1) by (first | lia | omega), e', show (2 : Int) ^ n - 1 = -W by (first | lia | omega), List.length_cons, List.sum_cons]
    unfold tri2
    rw [List.map_cons, List.sum_cons]
    generalize ((r * (r - 1) / 2 : Nat) : Int) = t
    push_cast
    grind
theorem tri_even (a b c o : Nat) (ha : a ≤ 5) (hb : b ≤ 5) (hc : c ≤ 5) (ho : o ≤ 3) : 0 ≤ tri2 (evenL a b c o) ∧ tri2 (evenL a b c o) ≤ 237 := by
  have key : ∀ m : Nat, m ≤ 13 → m * (m - 1) / 2 ≤ 78 := by decide
  have key3 : ∀ m : Nat, m ≤ 3 → m * (m - 1) / 2 ≤ 3 := by decide
  have h1 := key3 o ho
  have h2 := key (o + (a + b)) (by (first | lia | omega))
  have h3 := key (o + (a + c)) (by (first | lia | omega))
  have h4 := key (o + (b + c)) (by (first | lia | omega))
  unfold tri2 evenL
  simp only [List.map_cons, List.map_nil, List.sum_cons, List.sum_nil]
  generalize o * (o - 1) / 2 = x1 at *
  generalize (o + (a + b)) * (o + (a + b) - 1) / 2 = x2 at *
  generalize (o + (a + c)) * (o + (a + c) - 1) / 2 = x3 at *
  generalize (o + (b + c)) * (o + (b + c) - 1) / 2 = x4 at *
  (first | lia | omega)
theorem tri_same (a b c o : Nat) : tri2 (oddL a b c o) = tri2 (evenL a b c o) := by
  unfold tri2 evenL oddL
  simp only [List.map_cons, List.map_nil, List.sum_cons, List.sum_nil]
  have h1 := half_even o
  have h2 := half_even (o + (a + b))
  have h3 := half_even (o + (a + c))
  have h4 := half_even (o + (b + c))
  have h5 := half_even (o + a)
  have h6 := half_even (o + b)
  have h7 := half_even (o + c)
  have h8 := half_even (o + (a + b + c))
  generalize ((o * (o - 1) / 2 : Nat) : Int) = x1 at *
  generalize (((o + (a + b)) * (o + (a + b) - 1) / 2 : Nat) : Int) = x2 at *
  generalize (((o + (a + c)) * (o + (a + c) - 1) / 2 : Nat) : Int) = x3 at *
  generalize (((o + (b + c)) * (o + (b + c) - 1) / 2 : Nat) : Int) = x4 at *
  generalize (((o + a) * (o + a - 1) / 2 : Nat) : Int) = x5 at *
  generalize (((o + b) * (o + b - 1) / 2 : Nat) : Int) = x6 at *
  generalize (((o + c) * (o + c - 1) / 2 : Nat) : Int) = x7 at *
  generalize (((o + (a + b + c)) * (o + (a + b + c) - 1) / 2 : Nat) : Int) = x8 at *
  push_cast at *
  grind
theorem sum_even (a b c o : Nat) : (evenL a b c o).sum = 4 * o + 2 * (a + b + c) := by simp [evenL]; (first | lia | omega)
theorem sum_odd (a b c o : Nat) : (oddL a b c o).sum = 4 * o + 2 * (a + b + c) := by simp [oddL]; (first | lia | omega)
/-! ## the divisions of the law -/
theorem cube_pos {W : Int} (h : W ≤ -255) : 255 ≤ -W ^ 3 ∧ W ^ 4 = -W * -W ^ 3 ∧ W ^ 3 = -(-W ^ 3) ∧ 255 * W ^ 2 ≤ -W ^ 3 ∧ 255 ≤ W ^ 2 ∧ -255 * W ≤ W ^ 2 := by
  have e2 : W ^ 2 = -W * -W := by grind
  have e3 : -W ^ 3 = -W * (-W * -W) := by grind
  have e4 : W ^ 4 = -W * -W ^ 3 := by grind
  have h1 := Int.mul_le_mul_of_nonneg_right (show 255 ≤ -W by (first | lia | omega)) (show 0 ≤ -W by (first | lia | omega))
  have h2 := Int.mul_le_mul_of_nonneg_right (show 255 ≤ -W by (first | lia | omega)) (show 0 ≤ -W * -W by (first | lia | omega))
  refine ⟨by (first | lia | omega), e4, by (first | lia | omega), by (first | lia | omega), by (first | lia | omega), by (first | lia | omega)⟩
theorem sign_facts {W Z V M : Int} (hW : W ≤ -255) (hV : 1 ≤ V ∧ V ≤ 125) (hZ : Z = V + -W * M) {s : Int} (hs : s = 1 ∨ s = -1) :
    ((-s * (W ^ 3 * Z)).fdiv (s * W ^ 4) = M ∧ (-s * (W ^ 3 * Z)).fmod (s * W ^ 4) = s * (-V * W ^ 3)) ∧ ((s * (W ^ 3 * Z)).fdiv (s * W ^ 4) = -1 - M ∧ (s * (W ^ 3 * Z)).fmod (s * W ^ 4) = s * (W ^ 4 - -V * W ^ 3)) := by
  obtain ⟨h1, h2, h3, -, -, -⟩ := cube_pos hW
  have e1 : -(W ^ 3 * Z) = W ^ 4 * M + -V * W ^ 3 := by grind
  have e2 : W ^ 3 * Z = W ^ 4 * (-1 - M) + (W ^ 4 - -V * W ^ 3) := by grind
  have e3 : -V * W ^ 3 = V * -W ^ 3 := by grind
  have g1 : 0 < -V * W ^ 3 := by rw [e3]; exact Int.mul_pos (by (first | lia | omega)) (by (first | lia | omega))
  have g2 : -V * W ^ 3 < W ^ 4 := by rw [e3, h2]; exact Int.mul_lt_mul_of_pos_right (by (first | lia | omega)) (by (first | lia | omega))
  rcases hs with rfl | rfl
  · simp only [Int.one_mul, Int.neg_mul 1]
    exact ⟨fdm (by (first | lia | omega)) e1 (by (first | lia | omega)) g2, fdm (by (first | lia | omega)) e2 (by (first | lia | omega)) (by (first | lia | omega))⟩
  · rw [show - -1 * (W ^ 3 * Z) = W ^ 3 * Z by (first | lia | omega), show -1 * W ^ 4 = -W ^ 4 by (first | lia | omega), show -1 * (-V * W ^ 3) = -(-V * W ^ 3) by (first | lia | omega), show -1 * (W ^ 3 * Z) = -(W ^ 3 * Z) by (first | lia | omega), show -1 * (W ^ 4 - -V * W ^ 3) = -(W ^ 4 - -V * W ^ 3) by (first | lia | omega)]
    have a1 := fdm_neg (by (first | lia | omega)) e1 (by (first | lia | omega)) g2
    have a2 := fdm_neg (by (first | lia | omega)) e2 (by (first | lia | omega)) (by (first | lia | omega))
    rw [Int.neg_neg] at a1
    exact ⟨a1, a2⟩
theorem same_facts {W S1 C2 q N : Int} (hW : W ≤ -255) (hS : 0 ≤ S1 ∧ S1 ≤ 60) (hC : 0 ≤ C2 ∧ C2 ≤ 237) (hN : N = 4 - W * S1 + W ^ 2 * C2 + -W ^ 3 * q) :
    N.fdiv (-W ^ 3) = (N - (4 - W * S1 + W ^ 2 * C2)).fdiv (-W ^ 3) ∧ N.fmod (-W ^ 3) = 4 - W * S1 + W ^ 2 * C2 := by
  obtain ⟨h1, h2, h3, h4, h5, h6⟩ := cube_pos hW
  have a1 := Int.mul_le_mul_of_nonneg_left hC.2 (show 0 ≤ W ^ 2 by (first | lia | omega))
  have a2 := Int.mul_nonneg (show 0 ≤ W ^ 2 by (first | lia | omega)) hC.1
  have a3 := Int.mul_le_mul_of_nonneg_left hS.2 (show 0 ≤ -W by (first | lia | omega))
  have a4 := Int.mul_nonneg (show 0 ≤ -W by (first | lia | omega)) hS.1
  rw [Int.neg_mul] at a3 a4
  have hq : (N - (4 - W * S1 + W ^ 2 * C2)).fdiv (-W ^ 3) = q := by
    rw [show N - (4 - W * S1 + W ^ 2 * C2) = -W ^ 3 * q by (first | lia | omega)]
    exact (fdm_mul q (by (first | lia | omega))).1
  rw [hq]
  exact fdm (by (first | lia | omega)) (by (first | lia | omega)) (by (first | lia | omega)) (by (first | lia | omega))
theorem cubes_val (f g : Int) (a b c o : Nat) : cubeS f g (evenL a b c o) - cubeS f g (oddL a b c o) = f ^ 3 * (-6 * ((a : Int) * b * c)) := by
  unfold cubeS evenL oddL
  simp only [List.map_cons, List.map_nil, List.sum_cons, List.sum_nil]
  push_cast
  generalize (a : Int) = a
  generalize (b : Int) = b
  generalize (c : Int) = c
  generalize (o : Int) = o
  grind

/-! # A12 -/
theorem Gm.chr {G : Gd} {p : Params} (m : Gm G p) : Nm G "chr" (.builtin "chr") := m.nmB (by kernel_rfl) (by boot_by_name) (by decide)
theorem Gm.list {G : Gd} {p : Params} (m : Gm G p) : Nm G "list" (.type "list") := m.nmB (by kernel_rfl) (by boot_by_name) (by decide)
theorem Gm.fig {G : Gd} {p : Params} (m : Gm G p) : Nm G "_law_figures" (.ref 168) := m.nmG (by kernel_rfl)
theorem Gm.kfig {G : Gd} {p : Params} (m : Gm G p) : Kp G (.ref 168) := m.kp (by kernel_rfl)
theorem Gm.class {G : Gd} {p : Params} (m : Gm G p) : Nm G "_law_class" (.ref 173) := m.nmG (by kernel_rfl)
theorem Gm.kclass {G : Gd} {p : Params} (m : Gm G p) : Kp G (.ref 173) := m.kp (by kernel_rfl)
theorem Gm.lead {G : Gd} {p : Params} (m : Gm G p) : Nm G "_law_lead" (.ref 178) := m.nmG (by kernel_rfl)
theorem Gm.klead {G : Gd} {p : Params} (m : Gm G p) : Kp G (.ref 178) := m.kp (by kernel_rfl)
theorem Gm.number {G : Gd} {p : Params} (m : Gm G p) : Nm G "_law_number" (.ref 185) := m.nmG (by kernel_rfl)
theorem Gm.knumber {G : Gd} {p : Params} (m : Gm G p) : Kp G (.ref 185) := m.kp (by kernel_rfl)
theorem Gm.signed {G : Gd} {p : Params} (m : Gm G p) : Nm G "_law_signed" (.ref 190) := m.nmG (by kernel_rfl)
theorem Gm.ksigned {G : Gd} {p : Params} (m : Gm G p) : Kp G (.ref 190) := m.kp (by kernel_rfl)
theorem Gm.throws {G : Gd} {p : Params} (m : Gm G p) : Nm G "_law_throws" (.ref 197) := m.nmG (by kernel_rfl)
theorem Gm.kthrows {G : Gd} {p : Params} (m : Gm G p) : Kp G (.ref 197) := m.kp (by kernel_rfl)
theorem Gm.columns {G : Gd} {p : Params} (m : Gm G p) : Nm G "_law_columns" (.ref 202) := m.nmG (by kernel_rfl)
theorem Gm.kcolumns {G : Gd} {p : Params} (m : Gm G p) : Kp G (.ref 202) := m.kp (by kernel_rfl)
theorem Gm.told {G : Gd} {p : Params} (m : Gm G p) : Nm G "_law_told" (.ref 207) := m.nmG (by kernel_rfl)
theorem Gm.ktold {G : Gd} {p : Params} (m : Gm G p) : Kp G (.ref 207) := m.kp (by kernel_rfl)
theorem Gm.cubes {G : Gd} {p : Params} (m : Gm G p) : Nm G "_law_cubes" (.ref 212) := m.nmG (by kernel_rfl)
theorem Gm.kcubes {G : Gd} {p : Params} (m : Gm G p) : Kp G (.ref 212) := m.kp (by kernel_rfl)
theorem fmod_small (t : Int) (n : Nat) (hn : 0 < n) : ∃ k : Nat, k < n ∧ t.fmod (n : Int) = (k : Nat) := by
  have h1 : 0 ≤ t.fmod (n : Int) := Int.fmod_nonneg_of_pos _ (by lia)
  have h2 : t.fmod (n : Int) < n := Int.fmod_lt_of_pos _ (by lia)
  exact ⟨(t.fmod (n : Int)).toNat, by lia, by lia⟩
abbrev base8 : List Int := [1, 1, 2, 0, 6, 1, 0, 101]
theorem base_get : ∀ j : Nat, j < 8 → (base8.map PyData.int)[j]? = some (.int (base8.getD j 0))
  | 0, _ => rfl
  | 1, _ => rfl
  | 2, _ => rfl
  | 3, _ => rfl
  | 4, _ => rfl
  | 5, _ => rfl
  | 6, _ => rfl
  | 7, _ => rfl
  | n + 8, h => absurd h (by lia)
theorem Ev.modn {G : Gd} {X : Cx} {μ : List Slot} (w : WX G X) {e e' : Expr} {q : Pos} {t b : Int} {k : Nat} (h : Ev G X μ e (I t)) (h' : Ev G X μ e' (I b)) (hb : b ≠ 0) (hk : t.fmod b = (k : Nat)) : Ev G X μ (.BinOp e .Mod e' q) (I (k : Nat)) :=
  Ev.int_eq (Ev.bin w h h' (Bin.mod_int _ _ hb)) hk
theorem spell8 : ∀ j < 8, dval 1 ((bit3 j).map Int.ofNat) = (j : Nat) := by decide
theorem bits8 : ∀ j < 8, ∀ v ∈ (bit3 j).map Int.ofNat, 0 ≤ v ∧ v ≤ 1 := by decide
section
variable {G : Gd} {p : Params}
theorem idm_q (m : Gm G p) (d : Nat) {A B q r : Int} (h : A.fdiv B = q ∧ A.fmod B = r) (h0 : B ≠ 0) (hA : Bits A 9000) (hB : Bits B 9000) : Spec G (d + 45) (.ref 129) [I A, I B] (TT [.int q, .int r]) := by
  have s := idm_spec m d A B h0 (hA.mono (by decide)) (hB.mono (by decide)) (by
    have h1 := hA.intBits
    have h3 : 1 ≤ Builtin.Int.intBits B := Nat.pos_of_ne_zero fun z => by
      have := bits_of (i := B) (n := 0) (by lia)
      unfold Bits at this; simp at this; lia
    lia)
  rwa [h.1, h.2] at s
theorem Shp.pair {n : Nat} (a b : Int) : Shp (n + 2) (.tuple [.int a, .int b]) := Shp.tuple fun z hz => by
  rcases List.mem_cons.mp hz with rfl | hz
  · exact Shp.int _
  · rcases List.mem_cons.mp hz with rfl | hz
    · exact Shp.int _
    · cases hz
end
section
variable {G : Gd} {X : Cx} {μ : List Slot}
theorem Ts.ifexp (w : WX G X) {c a b : Expr} {p : Pos} {q r : Bool} (hc : Ts G X μ c q) (ha : q = true → Ts G X μ a r) (hb : q = false → Ts G X μ b r) : Ts G X μ (.IfExp c a b p) r := fun s h =>
  isTrue_IfExp (wpAny_mono (hc s h) (fun v s₁ h₁ => by
    obtain ⟨k, rfl⟩ := h₁
    cases v with
    | true => exact wpAny_mono (ha rfl s₁ (h.step w k)) (fun v s₂ h₂ => ⟨k.trans h₂.1, h₂.2⟩) fun _ _ x => x
    | false => exact wpAny_mono (hb rfl s₁ (h.step w k)) (fun v s₂ h₂ => ⟨k.trans h₂.1, h₂.2⟩) fun _ _ x => x) fun _ _ x => x)
theorem Ev.reps (w : WX G X) {e1 e2 : Expr} {q : Pos} {x k : Nat} {i : Int} (h1 : Ev G X μ e1 (Mine.L (nis [x]))) (h2 : Ev G X μ e2 (I i)) (hi : i = (k : Nat)) (hk : k ≤ 5000) : Ev G X μ (.BinOp e1 .Mult e2 q) (Mine.L (nis (List.replicate k x))) := by
  subst hi
  have e : Mine.L (List.replicate ((k : Nat) : Int).toNat (nis [x])).flatten = Mine.L (nis (List.replicate k x)) := by
    rw [show nis [x] = [PyData.int (x : Nat)] from rfl, flat_one, Int.toNat_natCast]; unfold nis; rw [List.map_replicate]
  rw [← e]
  exact Ev.bin w h1 h2 (Bin.mul_list _ _ (by lia) (by lia) (by rw [nis_len, Int.toNat_natCast, List.length_singleton]; lia))
theorem Ev.addnis (w : WX G X) {e1 e2 : Expr} {q : Pos} {l1 l2 : List Nat} (h1 : Ev G X μ e1 (Mine.L (nis l1))) (h2 : Ev G X μ e2 (Mine.L (nis l2))) (hn : l1.length + l2.length ≤ 100000) : Ev G X μ (.BinOp e1 .Add e2 q) (Mine.L (nis (l1 ++ l2))) := by
  rw [nis_app]
  exact Ev.bin w h1 h2 (Bin.add_list _ _ (by rw [nis_len, nis_len]; exact hn))
theorem Ev.powk (w : WX G X) {e e' : Expr} {q : Pos} {W K : Int} {n k : Nat} (h : Ev G X μ e (I W)) (h' : Ev G X μ e' (I K)) (hK : K = (k : Nat)) (hW : Bits W n) (hk : n * k ≤ 2 ^ 27) : Ev G X μ (.BinOp e .Pow e' q) (I (W ^ k)) := by
  subst hK
  refine Ev.int_eq (Ev.bin w h h' (Bin.pow_int W (k : Nat) (by lia) ?_)) (by rw [Int.toNat_natCast])
  have := Nat.mul_le_mul_right k hW.intBits
  rw [← Int.natCast_mul]; lia
end
/-! ## all that the law asks of the two rows -/
structure Two (T S1 : Nat) (V : Int) (E D : List Nat) : Prop where
  le1 : ∀ r ∈ E, r ≤ T
  le2 : ∀ r ∈ D, r ≤ T
  n1 : E.length = 4
  n2 : D.length = 4
  m1 : E.foldr max 0 ≤ T
  m2 : D.foldr max 0 = T
  m3 : D.reverse.foldr max 0 = T
  s1 : E.sum = S1
  s2 : D.sum = S1
  tr : tri2 D = tri2 E
  t0 : 0 ≤ tri2 E ∧ tri2 E ≤ 237
  cub : ∀ f g, cubeS f g E - cubeS f g D = f ^ 3 * (-6 * V)
  rev : pick (nis D) none none (some (-1)) = nis D.reverse
theorem pick_rev4 (w x y z : PyData) : pick [w, x, y, z] none none (some (-1)) = [z, y, x, w] := by
  have : sliceRange (sliceBounds none none (some (-1)) 4).1 (sliceBounds none none (some (-1)) 4).2.1 (sliceBounds none none (some (-1)) 4).2.2 = [3, 2, 1, 0] := by decide
  unfold pick
  rw [show [w, x, y, z].length = 4 from rfl, this]; rfl
theorem two (a b c o : Nat) (ha : a ≤ 5) (hb : b ≤ 5) (hc : c ≤ 5) (ho : o ≤ 3) : Two (o + (a + b + c)) (4 * o + 2 * (a + b + c)) ((a : Int) * b * c) (evenL a b c o) (oddL a b c o) :=
  ⟨even_le a b c o, odd_le a b c o, rfl, rfl, even_max a b c o, odd_max a b c o, odd_max' a b c o, sum_even a b c o, sum_odd a b c o, tri_same a b c o, tri_even a b c o ha hb hc ho, fun f g => cubes_val f g a b c o, pick_rev4 _ _ _ _⟩
section
variable {T S1 : Nat} {V : Int} {E D : List Nat}
theorem Two.col (h : Two T S1 V E D) {t : Nat} (ht : 1 ≤ t) : ((colL D 0 t : Nat) : Int) + apartZ (marksD E D T) t = ((colL E 0 t : Nat) : Int) := apart_col h.le1 h.le2 (h.n1.trans h.n2.symm) ht
theorem Two.far (h : Two T S1 V E D) {t : Nat} (ht : T < t) : colL E 0 t = colL D 0 t := by rw [col_big h.le1 ht, col_big h.le2 ht, h.n1, h.n2]
theorem col_le (t : Nat) : ∀ E : List Nat, E.length * t ≤ colL E 0 t ∧ colL E 0 t ≤ E.sum + E.length * t
  | [] => by simp [colL]
  | r :: E => by
    have ih := col_le t E
    have h1 := Nat.mul_div_le r t
    unfold colL at ih ⊢
    rw [List.map_cons, List.sum_cons, List.sum_cons, List.length_cons, Nat.add_mul, Nat.mul_add]; lia
theorem Two.bnd (h : Two T S1 V E D) {t : Nat} (ht : 1 ≤ t) : -(S1 : Int) ≤ apartZ (marksD E D T) t ∧ apartZ (marksD E D T) t ≤ S1 := by
  have h1 := h.col ht
  have h2 := col_le t E
  have h3 := col_le t D
  rw [h.n1, h.s1] at h2
  rw [h.n2, h.s2] at h3
  lia
theorem int_max : ∀ l : List Int, l ≠ [] → ∃ M ∈ l, ∀ v ∈ l, v ≤ M
  | [], h => absurd rfl h
  | [x], _ => ⟨x, .head _, fun v hv => by simp at hv; lia⟩
  | x :: y :: l, _ => by
    obtain ⟨M, hM, hle⟩ := int_max (y :: l) (by simp)
    by_cases q : x ≤ M
    · exact ⟨M, .tail _ hM, fun v hv => by
        rcases List.mem_cons.mp hv with rfl | hv
        · exact q
        · exact hle v hv⟩
    · exact ⟨x, .head _, fun v hv => by
        rcases List.mem_cons.mp hv with rfl | hv
        · lia
        · have := hle v hv; lia⟩
def apL (E D : List Nat) (T : Nat) : List Int := (List.range' 1 T).map fun t => apartZ (marksD E D T) t
theorem apL_get {j : Nat} (hj : j < T) : (apL E D T)[j]? = some (apartZ (marksD E D T) (1 + j : Nat)) := by
  unfold apL; rw [List.getElem?_map, List.getElem?_range' hj]; simp
theorem Two.most (h : Two T S1 V E D) (hT : 1 ≤ T) : ∃ k : Nat, ((k : Nat) : Int) ∈ apL E D T ∧ (∀ v ∈ apL E D T, v ≤ (k : Int)) ∧ k ≤ S1 := by
  obtain ⟨M, hM, hle⟩ := int_max (apL E D T) (fun q => by have := congrArg List.length q; unfold apL at this; simp at this; lia)
  have z : apartZ (marksD E D T) (1 : Nat) = 0 := by
    have h1 := h.col (t := 1) (by decide)
    have h2 := colL_one D 0
    have h3 := colL_one E 0
    have hs : ∀ l : List Nat, (l.map (· + 1)).sum = l.sum + l.length := fun l => by
      induction l with
      | nil => rfl
      | cons a l ih => rw [List.map_cons, List.sum_cons, ih, List.sum_cons, List.length_cons]; lia
    rw [hs, h.s2, h.n2] at h2
    rw [hs, h.s1, h.n1] at h3
    rw [h2, h3] at h1
    lia
  have h0 : 0 ≤ M := by
    have := hle _ (List.mem_of_getElem? (apL_get (E := E) (D := D) (T := T) (j := 0) (by lia)))
    rw [show 1 + 0 = 1 from rfl, z] at this; exact this
  have hb : M ≤ S1 := by
    unfold apL at hM
    obtain ⟨t, ht, rfl⟩ := List.mem_map.mp hM
    exact (h.bnd (by have := List.mem_range'_1.mp ht; lia)).2
  exact ⟨M.toNat, by rw [Int.toNat_of_nonneg h0]; exact hM, by rw [Int.toNat_of_nonneg h0]; exact hle, by lia⟩
theorem Two.less (h : Two T S1 V E D) {k : Nat} (hk : ((k : Nat) : Int) ∈ apL E D T) (hle : ∀ v ∈ apL E D T, v ≤ (k : Int)) (j : Nat) : lessB (colL E 0) (colL D j) (neN E D 0 j) = decide (k < j) := by
  by_cases q : k < j
  · rw [decide_eq_true q, lessB_iff]
    intro t h1 h2
    rw [col_push D j t]
    by_cases ht : t ≤ T
    · have := h.col h1
      have h3 := hle (apartZ (marksD E D T) t) (List.mem_map.mpr ⟨t, List.mem_range'_1.mpr (by lia), rfl⟩)
      lia
    · have := h.far (t := t) (by lia); lia
  · rw [decide_eq_false q, Bool.eq_false_iff]
    intro hl
    obtain ⟨t, ht, e⟩ := List.mem_map.mp hk
    have ht := List.mem_range'_1.mp ht
    have := lessB_iff.mp hl t ht.1 (by unfold neN; rw [h.m2]; lia)
    have h1 := h.col ht.1
    rw [col_push D j t] at this
    lia
theorem Two.here (h : Two T S1 V E D) {top : Nat} {j : Nat} (hj : j < top) (hT : T ≤ top) : ∃ v : Int, (apL E D T ++ List.replicate (top - T) 0)[j]? = some v ∧ ((colL D 0 (1 + j) : Nat) : Int) + v = ((colL E 0 (1 + j) : Nat) : Int) := by
  have hl : (apL E D T).length = T := by unfold apL; simp
  by_cases q : j < T
  · exact ⟨_, by rw [List.getElem?_append_left (by lia), apL_get q], h.col (by lia)⟩
  · refine ⟨0, by rw [List.getElem?_append_right (by lia), List.getElem?_replicate_of_lt (by lia)], ?_⟩
    have := h.far (t := 1 + j) (by lia); lia
theorem Two.there (h : Two T S1 V E D) (pu top : Nat) : (List.range' 1 top).map (colL D.reverse pu) = ((List.range' 1 top).map (colL D 0)).map (· + pu) := by
  rw [List.map_map]
  apply List.map_congr_left
  intro t _
  rw [col_rev, col_push]; rfl
end
/-! ## the numbers -/
theorem below_le {n : Nat} (hn : 8 ≤ n) {W : Int} (hW : W = 1 - 2 ^ n) : W ≤ -255 := by
  have : (2 : Nat) ^ 8 ≤ 2 ^ n := Nat.pow_le_pow_right (by decide) hn
  have h2 : ((2 ^ n : Nat) : Int) = 2 ^ n := by rw [Int.natCast_pow]; rfl
  lia
theorem gap_val {n a b c o : Nat} (h : 3 ≤ a + b + c) (hn : 8 ≤ n) {W : Int} (hW : W = 1 - 2 ^ n) :
    dval n (numL (evenL a b c o)) - dval n (numL (oddL a b c o)) = W ^ 3 * dval n (throwsL a b c o) ∧ W ^ 3 * dval n (throwsL a b c o) = W * dval n (marksD (evenL a b c o) (oddL a b c o) (o + (a + b + c))) := by
  have h1 := gap_throws n a b c o h
  have h2 := marks_dval n (o + (a + b + c)) (evenL a b c o) (oddL a b c o) (even_le a b c o) (odd_le a b c o) rfl
  have h3 := below_le hn hW
  generalize dval n (numL (evenL a b c o)) = NE at *
  generalize dval n (numL (oddL a b c o)) = ND at *
  generalize dval n (throwsL a b c o) = Z at *
  generalize dval n (marksD (evenL a b c o) (oddL a b c o) (o + (a + b + c))) = M at *
  rw [show (2 : Int) ^ n - 1 = -W by lia] at h1 h2
  constructor
  · rw [h1]; grind
  · rw [show W * M = -(-W * M) by rw [Int.neg_mul]; lia, h2, show -(ND - NE) = NE - ND by lia, h1]; grind
theorem throws_digs {n a b c o : Nat} (ha : a < 5) (hb : b < 5) (hc : c < 5) (ho : o ≤ 3) (hn : 8 ≤ n ∧ n ≤ 64) :
    digs n ((Builtin.Int.intBits (dval n (throwsL (a + 1) (b + 1) (c + 1) o)) + n - 1) / n) (dval n (throwsL (a + 1) (b + 1) (c + 1) o)) = throwsL (a + 1) (b + 1) (c + 1) o ∧ 0 ≤ dval n (throwsL (a + 1) (b + 1) (c + 1) o) ∧ Bits (dval n (throwsL (a + 1) (b + 1) (c + 1) o)) 1200 ∧ (Builtin.Int.intBits (dval n (throwsL (a + 1) (b + 1) (c + 1) o)) + n - 1) / n ≤ 100 := by
  have hX : (256 : Int) ≤ 2 ^ n := by
    have : (2 : Nat) ^ 8 ≤ 2 ^ n := Nat.pow_le_pow_right (by decide) hn.1
    exact_mod_cast this
  have hv : (((a + 1 : Nat) : Int) * ((b + 1 : Nat) : Int) * ((c + 1 : Nat) : Int)) ≤ 125 := by
    have h1 : (a + 1) * (b + 1) ≤ 5 * 5 := Nat.mul_le_mul (by lia) (by lia)
    have h2 : (a + 1) * (b + 1) * (c + 1) ≤ 5 * 5 * 5 := Nat.mul_le_mul h1 (by lia)
    rw [← Int.natCast_mul, ← Int.natCast_mul]; lia
  have hd : ∀ v ∈ throwsL (a + 1) (b + 1) (c + 1) o, 0 ≤ v ∧ v < 2 ^ n := fun v hv' => by
    have := throws_bd (a + 1) (b + 1) (c + 1) o v hv'; lia
  have hl := throws_len (a + 1) (b + 1) (c + 1) o
  have hcnt := dig_cnt n (by lia) _ hd (fun q => by have := congrArg List.length q; rw [hl] at this; simp at this; lia) (throws_last a b c o)
  have hlt := dval_lt n _ hd
  have hwl : n * (throwsL (a + 1) (b + 1) (c + 1) o).length ≤ 1200 := Nat.le_trans (Nat.mul_le_mul hn.2 (show _ ≤ 16 by lia)) (by decide)
  rw [hcnt]
  exact ⟨digs_of n _ hd, hlt.1, (small_bits hlt.1 hlt.2).mono hwl, by lia⟩

/-! # A13 -/
/-- a fact that the arithmetic is not to look at -/
def Hid (p : Prop) : Prop := p
def tab8 : List PyData := (List.range 8).map fun q => .list (nis (bit3 q))
theorem tab8_get {j : Nat} {t : Tr} (h : (tab8.map Tr.d)[j]? = some t) : j < 8 ∧ t = Mine.L (nis (bit3 j)) := by
  have hj : j < 8 := (List.getElem?_eq_some_iff.mp h).1
  unfold tab8 at h
  rw [List.getElem?_map, List.getElem?_map, List.getElem?_range hj] at h
  exact ⟨hj, (Option.some.inj h).symm⟩
theorem small63 {j : Nat} (h : j ≤ 100000) : (j : Int) < 2 ^ 63 := by lia
theorem chr_le {j : Nat} (h : j ≤ 1000) : (j : Int) ≤ 0x10FFFF := by lia
theorem rep_len {j : Nat} (h : j ≤ 5) : [1].length + (List.replicate (j - 1) 0).length ≤ 100000 := by rw [List.length_replicate, List.length_singleton]; lia
theorem rep_head {j : Nat} (h : 1 ≤ j) : List.replicate j 0 = 0 :: List.replicate (j - 1) 0 := by
  obtain ⟨i, rfl⟩ : ∃ i, j = i + 1 := ⟨j - 1, by lia⟩
  rfl
theorem b4 {x : Nat} (h : x ≤ 5) : Bits (x : Int) 4 := small_bits (Int.natCast_nonneg _) (by lia)
theorem rep_max (x : Nat) : ∀ j : Nat, (List.replicate (j + 1) x).foldr max 0 = x
  | 0 => Nat.max_zero x
  | j + 1 => by rw [List.replicate_succ, List.foldr_cons, rep_max x j, Nat.max_self]
theorem rep_zero : ∀ j : Nat, (List.replicate j 0).foldr max 0 = 0
  | 0 => rfl
  | j + 1 => rep_max 0 j
theorem small_facts {a ah r0 kk o : Nat} (ra : 1 ≤ a ∧ a ≤ 5) (hah : ah ≤ 1) (hr0 : r0 ≤ 1) (hkk : kk ≤ 4) (ro : o ≤ 3) :
    (∀ r ∈ List.replicate a ah, r ≤ 1000) ∧ (∀ r ∈ r0 :: List.replicate kk 0, r ≤ 1000) ∧ (List.replicate a ah).length ≤ 20 ∧ (r0 :: List.replicate kk 0).length ≤ 20 ∧ neN (List.replicate a ah) (r0 :: List.replicate kk 0) 0 (o + 1 - r0) = 1 + max (max ah r0) (o + 1 - r0) ∧ 1 + max (max ah r0) (o + 1 - r0) ≤ 5000 ∧ 1 + max (max (ah : Int) (r0 : Int)) ((o + 1 - r0 : Nat) : Int) = ((1 + max (max ah r0) (o + 1 - r0) : Nat) : Int) ∧ (o : Int) + 1 - (r0 : Int) = ((o + 1 - r0 : Nat) : Int) := by
  refine ⟨fun r hr => by rw [List.eq_of_mem_replicate hr]; lia, fun r hr => ?_, by rw [List.length_replicate]; lia, by rw [List.length_cons, List.length_replicate]; lia, ?_, ?_, ?_, by lia⟩
  · rcases List.mem_cons.mp hr with rfl | hr
    · lia
    · rw [List.eq_of_mem_replicate hr]; decide
  · obtain ⟨i, rfl⟩ : ∃ i, a = i + 1 := ⟨a - 1, by lia⟩
    unfold neN
    rw [rep_max, List.foldr_cons, rep_zero, Nat.max_zero, Nat.max_zero, Nat.max_assoc, Nat.add_comm]
  · exact Nat.le_trans (Nat.add_le_add_left (Nat.max_le.mpr ⟨Nat.max_le.mpr ⟨Nat.le_trans hah (show 1 ≤ 4 by decide), Nat.le_trans hr0 (show 1 ≤ 4 by decide)⟩, Nat.le_trans (Nat.sub_le (o + 1) r0) (Nat.add_le_add_right ro 1)⟩) 1) (show 1 + 4 ≤ 5000 by decide)
  · rw [Int.natCast_add, cast_max, cast_max]; rfl
section
variable {G : Gd} {p : Params}
theorem small6 {V : Int} (h : 1 ≤ V ∧ V ≤ 125) : Bits (-6 * V) 12 := by unfold Bits; lia
theorem Ev.or1 {X : Cx} {μ : List Slot} (w : WX G X) {e : Expr} {t f : Int} {k : Nat} {q q' : Pos} (h : Ev G X μ e (I t)) (hf : f = if t = 0 then 1 else t) : Ev G X μ (.BoolOp .Or [e, .Constant (.int 1) k q] q') (I f) := by
  by_cases h0 : t = 0
  · rw [hf, if_pos h0]
    exact Ev.or_f w h (by subst h0; exact Tru.int 0) Ev.int
  · rw [hf, if_neg h0]
    refine Ev.or_t w h ?_
    have := Tru.int (G := G) t
    rwa [show (t != 0) = true by simp [h0]] at this
theorem tab8_spec (m : Gm G p) (d : Nat) {j : Nat} (hj : j < 8) : Spec G (d + 60) (.ref 115) [Mine.L (nis (bit3 j)), I 1] (I (j : Nat)) := by
  rw [nis_int, ← spell8 j hj]
  exact (d2i_spec m ((bit3 j).map Int.ofNat) 1 1 (by decide) (fun v hv => small_bits (bits8 j hj v hv).1 (by have := (bits8 j hj v hv).2; lia)) (by simp [bit3]) (by simp [bit3])).mono (by lia)
set_option maxHeartbeats 16000000 in
theorem law_walk (m : Gm G p) {A : Around} {s : Shared} {D0 : List Addr} {vs : List Value} {d : Nat} {ns : List Int}
    (hh : A.handled = none) (hA : A.frames = some []) (hdp : A.depth + (d + 61) ≤ recursionLimit) (hu : A.units + 8 * (d + 61) + 80 ≤ cLine) (gs : Good G s) (hT : ∀ a ∈ G.T, a ∈ D0) (hD : ∀ a ∈ D0, ∃ o, s.heap.get? a = some o) (hargs : AllIs s.heap D0 vs [Mine.L (ns.map .int)])
    (hn : ns.length ≤ 63) (hb : ∀ n ∈ ns, Bits n (2 ^ 20)) :
    wpAny G.M A (PySem.call (.ref 224) vs) (fun v s' => v = .bool true ∧ Good G s') (fun _ _ => False) s := by
  have g := m.g
  have hsm : ∀ (j : Nat) (c : Int), c.natAbs ≤ 200 → Bits ((part ns j 8).sum + c) (2 ^ 20 + 7) := fun j c hc => Bits.part (by decide) hn hb c (Nat.le_trans hc (Nat.le_trans (show 200 ≤ 2 ^ 20 by decide) (Nat.le_of_lt Nat.lt_two_pow_self)))
  have hb5 := hsm 5 1 (by decide)
  have hb6 := hsm 6 0 (by decide)
  obtain ⟨t0, h0⟩ : ∃ t0 : Int, (part ns (0 : Nat) 8).sum + 1 = t0 := ⟨_, rfl⟩
  obtain ⟨t1, h1⟩ : ∃ t1 : Int, (part ns (1 : Nat) 8).sum + 1 = t1 := ⟨_, rfl⟩
  obtain ⟨t2, h2⟩ : ∃ t2 : Int, (part ns (2 : Nat) 8).sum + 2 = t2 := ⟨_, rfl⟩
  obtain ⟨t3, h3⟩ : ∃ t3 : Int, (part ns (3 : Nat) 8).sum + 0 = t3 := ⟨_, rfl⟩
  obtain ⟨t4, h4⟩ : ∃ t4 : Int, (part ns (4 : Nat) 8).sum + 6 = t4 := ⟨_, rfl⟩
  obtain ⟨t5, h5⟩ : ∃ t5 : Int, (part ns (5 : Nat) 8).sum + 1 = t5 := ⟨_, rfl⟩
  obtain ⟨t6, h6⟩ : ∃ t6 : Int, (part ns (6 : Nat) 8).sum + 0 = t6 := ⟨_, rfl⟩
  obtain ⟨t7, h7⟩ : ∃ t7 : Int, (part ns (7 : Nat) 8).sum + 101 = t7 := ⟨_, rfl⟩
  have hts : Hid ((List.range ((rangeL 0 8).map fun i => I i).length).filterMap (fun j => some (PyData.int ((part ns (j : Nat) 8).sum + base8.getD j 0))) = [.int t0, .int t1, .int t2, .int t3, .int t4, .int t5, .int t6, .int t7]) := by
    rw [← h0, ← h1, ← h2, ← h3, ← h4, ← h5, ← h6, ← h7]; rfl
  rw [h5] at hb5
  rw [h6] at hb6
  clear hsm hb h0 h1 h2 h3 h4 h5 h6 h7
  obtain ⟨a0, ha0, ea1⟩ := fmod_small t0 5 (by decide)
  obtain ⟨b0, hb0, eb1⟩ := fmod_small t1 5 (by decide)
  obtain ⟨c0, hc0, ec1⟩ := fmod_small t2 5 (by decide)
  obtain ⟨o, ho, eo1⟩ := fmod_small t3 4 (by decide)
  obtain ⟨w0, hw0, ew1⟩ := fmod_small t4 57 (by decide)
  obtain ⟨l0, hl0, el1⟩ := fmod_small t7 26 (by decide)
  have spf : ∀ j < 8, Spec G (d + 60) (.ref 168) [I (j : Nat), S (st [97 + l0])] (Mine.L (nis (bit3 j))) := fun j hj => (figures_spec m 0 j l0 (by lia) hl0).mono (by lia)
  obtain ⟨a, haa⟩ : ∃ a : Nat, a0 + 1 = a := ⟨_, rfl⟩
  obtain ⟨b, hbb⟩ : ∃ b : Nat, b0 + 1 = b := ⟨_, rfl⟩
  obtain ⟨c, hcc⟩ : ∃ c : Nat, c0 + 1 = c := ⟨_, rfl⟩
  obtain ⟨n, hnn⟩ : ∃ n : Nat, 8 + w0 = n := ⟨_, rfl⟩
  obtain ⟨ch, hch⟩ : ∃ ch : Nat, 97 + l0 = ch := ⟨_, rfl⟩
  have tdg := throws_digs (n := n) ha0 hb0 hc0 (show o ≤ 3 by lia) (by lia)
  rw [haa, hbb, hcc] at tdg
  rw [hch] at spf
  have ea : Hid (1 + t0.fmod 5 = (a : Int)) := by show 1 + t0.fmod 5 = (a : Int); have ea : t0.fmod 5 = (a0 : Nat) := ea1; lia
  have eb : Hid (1 + t1.fmod 5 = (b : Int)) := by show 1 + t1.fmod 5 = (b : Int); have eb : t1.fmod 5 = (b0 : Nat) := eb1; lia
  have ec : Hid (1 + t2.fmod 5 = (c : Int)) := by show 1 + t2.fmod 5 = (c : Int); have ec : t2.fmod 5 = (c0 : Nat) := ec1; lia
  have eo : Hid (t3.fmod 4 = (o : Int)) := eo1
  have ew : Hid (8 + t4.fmod 57 = (n : Int)) := by show 8 + t4.fmod 57 = (n : Int); have ew : t4.fmod 57 = (w0 : Nat) := ew1; lia
  have el : Hid (97 + t7.fmod 26 = (ch : Int)) := by show 97 + t7.fmod 26 = (ch : Int); have el : t7.fmod 26 = (l0 : Nat) := el1; lia
  have ra : 1 ≤ a ∧ a ≤ 5 := by lia
  have rb : 1 ≤ b ∧ b ≤ 5 := by lia
  have rc : 1 ≤ c ∧ c ≤ 5 := by lia
  have ro : o ≤ 3 := by lia
  have rn : 8 ≤ n ∧ n ≤ 64 := by lia
  have rch : ch ≠ 32 ∧ ch ≠ 9 ∧ ch ≤ 1000 := by lia
  clear ea1 eb1 ec1 eo1 ew1 el1 ha0 hb0 hc0 ho hw0 hl0 haa hbb hcc hnn hch a0 b0 c0 w0 l0
  obtain ⟨f, hf0, hfb, hfe⟩ : ∃ f : Int, f ≠ 0 ∧ Bits f (2 ^ 20 + 7) ∧ Hid (f = (if t5 = 0 then 1 else t5)) := by
    by_cases h : t5 = 0
    · exact ⟨1, by decide, (small_bits (n := 7) (by decide) (by decide)).mono (by decide), show _ = _ by rw [if_pos h]⟩
    · exact ⟨t5, h, hb5, show _ = _ by rw [if_neg h]⟩
  clear hb5
  have spe : Spec G (d + 60) (.ref 173) [Mine.L tab8, Mine.L (nis [a, b, c]), I (o : Nat), I 0] (Mine.L (nis (evenL a b c o))) := by
    have := (class_spec m 0 a b c o 0 (by lia) (by lia) (by lia)).mono (show 0 + 1 ≤ d + 60 by lia)
    rwa [class_even] at this
  have spo : Spec G (d + 60) (.ref 173) [Mine.L tab8, Mine.L (nis [a, b, c]), I (o : Nat), I 1] (Mine.L (nis (oddL a b c o))) := by
    have := (class_spec m 0 a b c o 1 (by lia) (by lia) (by lia)).mono (show 0 + 1 ≤ d + 60 by lia)
    rwa [class_odd] at this
  obtain ⟨W, hW⟩ : ∃ W : Int, W = 1 - 2 ^ n := ⟨_, rfl⟩
  have hWn := below_le rn.1 hW
  have tw := two a b c o ra.2 rb.2 rc.2 ro
  have gv := gap_val (n := n) (a := a) (b := b) (c := c) (o := o) (by lia) rn.1 hW
  have tsum := throws_sum a b c o (by lia)
  have spt := (throws_spec m 0 a b c o ⟨by lia, by lia⟩ ⟨by lia, by lia⟩ ⟨by lia, by lia⟩ (by lia)).mono (show 0 + 1 ≤ d + 60 by lia)
  have hV : 1 ≤ (a : Int) * b * c ∧ (a : Int) * b * c ≤ 125 := by
    have h1 : a * b ≤ 5 * 5 := Nat.mul_le_mul (by lia) (by lia)
    have h2 : a * b * c ≤ 5 * 5 * 5 := Nat.mul_le_mul h1 (by lia)
    have h3 : 0 < a * b * c := Nat.mul_pos (Nat.mul_pos (by lia) (by lia)) (by lia)
    rw [← Int.natCast_mul, ← Int.natCast_mul]; lia
  have hT0 : 3 ≤ o + (a + b + c) ∧ o + (a + b + c) ≤ 18 := by lia
  have hS0 : 4 * o + 2 * (a + b + c) ≤ 50 := by lia
  obtain ⟨E, hEE⟩ : ∃ E : List Nat, evenL a b c o = E := ⟨_, rfl⟩
  obtain ⟨D, hDD⟩ : ∃ D : List Nat, oddL a b c o = D := ⟨_, rfl⟩
  obtain ⟨TH, hTH⟩ : ∃ TH : List Int, throwsL a b c o = TH := ⟨_, rfl⟩
  obtain ⟨T, hTT⟩ : ∃ T : Nat, o + (a + b + c) = T := ⟨_, rfl⟩
  obtain ⟨S1, hS1⟩ : ∃ S1 : Nat, 4 * o + 2 * (a + b + c) = S1 := ⟨_, rfl⟩
  obtain ⟨V, hVV⟩ : ∃ V : Int, (a : Int) * b * c = V := ⟨_, rfl⟩
  obtain ⟨NE, hNE⟩ : ∃ NE : Int, dval n (numL E) = NE := ⟨_, rfl⟩
  obtain ⟨ND, hND⟩ : ∃ ND : Int, dval n (numL D) = ND := ⟨_, rfl⟩
  obtain ⟨Z, hZ⟩ : ∃ Z : Int, dval n TH = Z := ⟨_, rfl⟩
  obtain ⟨M, hMM⟩ : ∃ M : List Int, marksD E D T = M := ⟨_, rfl⟩
  obtain ⟨MD, hMD⟩ : ∃ MD : Int, dval n M = MD := ⟨_, rfl⟩
  obtain ⟨GP, hGP⟩ : ∃ GP : Int, W ^ 3 * Z = GP := ⟨_, rfl⟩
  rw [hEE, hDD, hTT, hS1, hVV] at tw
  rw [hEE] at spe
  rw [hDD] at spo
  rw [hEE, hDD, hTH, hTT, hNE, hND, hZ, hMM, hMD, hGP] at gv
  rw [hTH, hVV] at tsum
  rw [hTH] at spt
  rw [hTH, hZ] at tdg
  rw [hVV] at hV
  rw [hTT] at hT0
  rw [hS1] at hS0
  clear hEE hDD hTH hTT hS1
  replace hVV : Hid ((a : Int) * b * c = V) := hVV
  have hEn := tw.n1
  have hDn := tw.n2
  have hml : M.length = T := by rw [← hMM]; unfold marksD; simp
  have hm100 : ∀ v ∈ M, -100 ≤ v ∧ v ≤ 100 := by rw [← hMM]; exact marks_small T E D (by rw [hEn]; decide) (by rw [hDn]; decide)
  have spT : Spec G (d + 60) (.builtin "max") [Mine.L (nis D)] (I (T : Nat)) := by
    rw [nis_int]
    exact Spec.max_list _ (D.map Int.ofNat) (T : Int) (List.mem_map.mpr ⟨T, tw.m2 ▸ foldr_max_mem (fun q => by rw [q] at hDn; cases hDn), rfl⟩) (fun x hx => by
      obtain ⟨r, hr, rfl⟩ := List.mem_map.mp hx
      exact Int.ofNat_le.mpr (tw.le2 r hr))
  have spN : ∀ {R : List Nat}, (∀ r ∈ R, r ≤ T) → R.length = 4 → Spec G (d + 60) (.ref 185) [Mine.L (nis R), I (n : Nat)] (I (dval n (numL R))) := fun {R} h1 h2 => (number_spec m 0 R n (fun r hr => by have := h1 r hr; lia) (fun q => by rw [q] at h2; cases h2) (by lia) ⟨by lia, by lia⟩).mono (by lia)
  have spE := spN tw.le1 hEn
  have spD := spN tw.le2 hDn
  have hNb : ∀ {R : List Nat}, (∀ r ∈ R, r ≤ T) → R.length = 4 → Bits (dval n (numL R)) 1300 := fun {R} h1 h2 => by
    have hf := numStep_facts R (List.replicate (R.foldr max 0 + 1) 0) 0 (by decide) (fun v hv => by rw [List.eq_of_mem_replicate hv]; lia)
    rw [← numL_eq, List.length_replicate] at hf
    have hm : R.foldr max 0 ≤ 18 := Nat.le_trans (h1 _ (foldr_max_mem (l := R) (fun q => by rw [q] at h2; cases h2))) hT0.2
    have h4 : n * (R.foldr max 0 + 1) ≤ 64 * 19 := Nat.mul_le_mul rn.2 (by lia)
    exact (dval_bits n 3 (by lia) _ (fun v hv => small_bits (hf.2 v hv).1 (by have := (hf.2 v hv).2; lia))).mono (by rw [hf.1]; lia)
  have hEb := hNb tw.le1 hEn
  have hDb := hNb tw.le2 hDn
  obtain ⟨qE, hqE⟩ := num_exp n hW E
  obtain ⟨qD, hqD⟩ := num_exp n hW D
  rw [hEn, tw.s1] at hqE
  rw [hDn, tw.s2, tw.tr] at hqD
  rw [hNE] at hqE spE hEb
  rw [hND] at hqD spD hDb
  clear spN hNb hNE hND
  replace hqE : Hid (NE = 4 - W * (S1 : Int) + W ^ 2 * tri2 E + -W ^ 3 * qE) := hqE
  replace hqD : Hid (ND = 4 - W * (S1 : Int) + W ^ 2 * tri2 E + -W ^ 3 * qD) := hqD
  have hW0 : W ≠ 0 := by lia
  have hWb : Bits W 66 := by
    have := (Bits.two1 n).neg.mono (show n + 2 ≤ 66 by lia)
    rwa [show -((2 : Int) ^ n - 1) = W by lia] at this
  have hWk : ∀ k, k ≤ 4 → Bits (W ^ k) 300 := fun k hk => (hWb.pow k).mono (by lia)
  have hGb : Bits GP 1500 := by rw [← hGP]; exact ((hWb.pow 3).mul tdg.2.2.1).mono (by decide)
  have hQ : ∃ Q : Int, Z = V + -W * Q := ⟨dval n (suf TH), by
    have := dval_suf n TH
    rw [hZ, tsum, show (2 : Int) ^ n - 1 = -W by lia] at this
    exact this⟩
  obtain ⟨Q, hQ⟩ := hQ
  replace hW : Hid (1 - 2 ^ n = W) := hW.symm
  obtain ⟨hc1, -, hc3, -, hc5, -⟩ := cube_pos hWn
  have hW3 : W ^ 3 ≠ 0 := by lia
  have hW3n : -W ^ 3 ≠ 0 := by lia
  have hVb : Bits V 8 := small_bits (by lia) (by lia)
  have idm : ∀ {A B q r : Int}, A.fdiv B = q ∧ A.fmod B = r → B ≠ 0 → Bits A 9000 → Bits B 9000 → Spec G (d + 60) (.ref 129) [I A, I B] (TT [.int q, .int r]) := fun h h0 h1 h2 => (idm_q m 0 h h0 h1 h2).mono (by lia)
  have sp1 : Spec G (d + 60) (.ref 129) [I GP, I W] (TT [.int MD, .int 0]) := idm (by rw [gv.2]; exact fdm_mul MD hW0) hW0 (hGb.mono (by decide)) (hWb.mono (by decide))
  have sp2 : Spec G (d + 60) (.ref 190) [I MD, I (n : Nat), I (T : Nat)] (Mine.L (M.map .int)) := by
    have := (signed_spec m 0 M n hm100 (fun q => by rw [q] at hml; simp at hml; lia) (by lia) rn).mono (show 0 + 41 ≤ d + 60 by lia)
    rwa [hml, hMD] at this
  have sp3 : Spec G (d + 60) (.ref 129) [I 0, I W] (TT [.int 0, .int 0]) := idm (by have := fdm_mul 0 hW0; rwa [Int.mul_zero] at this) hW0 (small_bits (by decide) (Int.pow_pos (by decide))) (hWb.mono (by decide))
  have spL : Spec G (d + 60) (.builtin "len") [Mine.L (M.map .int)] (I (T : Nat)) := by
    have := Spec.len_list (G := G) (d + 60) (M.map .int) (by rw [List.length_map, hml]; lia)
    rwa [List.length_map, hml] at this
  have eap : Hid ((List.range ((rangeL 1 ((T : Int) + 1)).map fun i => I i).length).filterMap (fun j => some (PyData.int (apartZ M (1 + j)))) = (apL E D T).map .int) := by
    show _ = _
    rw [List.length_map, rangeL_len, show ((T : Int) + 1 - 1).toNat = T by lia, List.filterMap_eq_map', ← hMM]
    unfold apL
    rw [List.range'_eq_map_range, List.map_map, List.map_map]; rfl
  have hps : ∀ j : Nat, 1 ≤ j → Bits (part M ((j : Int) - 1) (j : Int)).sum 20 := fun j hj => by
    have := Bits.sum (k := 7) (l := part M ((j : Int) - 1) (j : Int)) (j := 18) (fun v hv => by
      have := hm100 v (part_mem hv)
      unfold Bits; lia) (Nat.le_trans (part_len M _ _ (by lia)) (by lia))
    unfold Bits; lia
  clear hm100
  obtain ⟨k, hkm, hkle, hkS⟩ := tw.most (show 1 ≤ T by lia)
  have hless := fun j => tw.less hkm hkle j
  have hal : (apL E D T).length = T := by unfold apL; simp
  obtain ⟨ix, hix, eix⟩ := fmod_small (t7.fdiv 26) T (by lia)
  replace eix : Hid ((t7.fdiv 26).fmod (T : Int) = (ix : Nat)) := eix
  obtain ⟨pu, hpu⟩ : ∃ pu : Nat, max 0 (apartZ M (1 + ix : Nat)) = (pu : Int) := ⟨(max 0 (apartZ M (1 + ix : Nat))).toNat, (Int.toNat_of_nonneg (by lia)).symm⟩
  have hpuS : pu ≤ 50 := by have := tw.bnd (t := 1 + ix) (by lia); rw [hMM] at this; lia
  replace hpu : Hid (max 0 (apartZ M (1 + ix : Nat)) = (pu : Int)) := hpu
  have hget := apL_get (E := E) (D := D) (T := T) (j := ix) hix
  rw [hMM] at hget
  obtain ⟨top, htop⟩ : ∃ top : Nat, 1 + max T pu = top := ⟨_, rfl⟩
  have htp : T < top ∧ pu < top ∧ top ≤ 100 := by lia
  have htopZ : Hid (1 + max (T : Int) (pu : Int) = (top : Int)) := by show 1 + max (T : Int) (pu : Int) = (top : Int); rw [← htop, Int.natCast_add, cast_max]; rfl
  have hhere := fun j (hj : j < top) => tw.here hj (show T ≤ top by lia)
  have hthere := tw.there pu top
  obtain ⟨AL, hAL⟩ : ∃ AL : List Int, apL E D T = AL := ⟨_, rfl⟩
  obtain ⟨R, hR⟩ : ∃ R : List Nat, D.reverse = R := ⟨_, rfl⟩
  obtain ⟨SD, hSD⟩ : ∃ SD : List Nat, (List.range' 1 top).map (colL D 0) = SD := ⟨_, rfl⟩
  obtain ⟨SE, hSE⟩ : ∃ SE : List Nat, (List.range' 1 top).map (colL E 0) = SE := ⟨_, rfl⟩
  rw [hAL] at eap hkm hkle hal hget
  simp only [hAL] at hhere
  rw [hR, hSD] at hthere
  obtain ⟨MV, hMV⟩ : ∃ MV : List Int, AL ++ List.replicate (top - T) 0 = MV := ⟨_, rfl⟩
  obtain ⟨SR, hSR⟩ : ∃ SR : List Nat, (List.range' 1 top).map (colL R pu) = SR := ⟨_, rfl⟩
  simp only [hMV] at hhere
  rw [hSR] at hthere
  have hgix : Hid ((AL.map PyData.int)[((ix : Nat) : Int).toNat]? = some (.int (apartZ M (1 + ix : Nat)))) := by
    show _ = _
    rw [Int.toNat_natCast, List.getElem?_map, hget]; rfl
  have spM : Spec G (d + 60) (.builtin "max") [Mine.L (AL.map .int)] (I (k : Nat)) := Spec.max_list _ AL (k : Int) hkm hkle
  have hmv : Hid (Mine.L (AL.map PyData.int ++ (List.replicate (((top : Nat) : Int) - ((T : Nat) : Int)).toNat [PyData.int 0]).flatten) = Mine.L (MV.map .int)) := by
    show _ = _
    rw [flat_one, ← hMV, List.map_append, List.map_replicate, show (((top : Nat) : Int) - ((T : Nat) : Int)).toNat = top - T by lia]
  have hmvn : Hid ((AL.map PyData.int).length + (List.replicate (((top : Nat) : Int) - ((T : Nat) : Int)).toNat [PyData.int 0]).flatten.length ≤ 100000) := by
    show _ ≤ _
    rw [flat_one, List.length_map, hal, List.length_replicate]; lia
  clear hkm hkle hal hget hMV hAL
  have hE1 : ∀ r ∈ E, r ≤ 1000 := fun r hr => by have := tw.le1 r hr; lia
  have hD1 : ∀ r ∈ D, r ≤ 1000 := fun r hr => by have := tw.le2 r hr; lia
  have hD2 : ∀ r ∈ R, r ≤ 1000 := fun r hr => hD1 r (List.mem_reverse.mp (hR ▸ hr))
  have hRn : R.length = 4 := by rw [← hR, List.length_reverse]; exact hDn
  have hm3 : R.foldr max 0 = T := hR ▸ tw.m3
  have hrev : Hid (pick (nis D) none none (some (-1)) = nis R) := hR ▸ tw.rev
  have spc := fun (R : List Nat) (b N : Nat) (h1 : ∀ r ∈ R, r ≤ 1000) (h2 : R.length ≤ 20) (h3 : b ≤ 2000) (h4 : N ≤ 5000) => (columns_spec m 0 R b N h1 h2 h3 h4).mono (show 0 + 1 ≤ d + 60 by lia)
  have spl := fun (R : List Nat) (b : Nat) (tl : List Nat) (h1 : ∀ r ∈ R, r ≤ 1000) (h2 : R.length ≤ 20) (h3 : b ≤ 2000) (h4 : tl.length ≤ 5) => (lead_spec m 0 R b ch tl rch.1 rch.2.1 h1 h2 h3 h4).mono (show 0 + 3 ≤ d + 60 by lia)
  have spc0 : Spec G (d + 60) (.ref 202) [Mine.L (nis D), I 0, I (top : Nat)] (Mine.L (nis SD)) := hSD ▸ spc D 0 top hD1 (by lia) (by lia) (by lia)
  have spl0 : Spec G (d + 60) (.ref 178) [Mine.L (nis E), I 0, S (st [ch])] (lob E 0 [ch, 32, 9]) := spl E 0 [] hE1 (by lia) (by lia) (by decide)
  have splR : Spec G (d + 60) (.ref 178) [Mine.L (nis R), I (pu : Nat), S (st [ch])] (lob R pu [ch, 32, 9]) := spl R pu [] hD2 (by lia) (by lia) (by decide)
  have splD : ∀ j : Nat, j ≤ k + 1 → Spec G (d + 60) (.ref 178) [Mine.L (nis D), I (j : Nat), S (st [ch])] (lob D j [ch, 32, 9]) := fun j hj => spl D j [] hD1 (by lia) (by lia) (by decide)
  have hLw := fun (R : List Nat) (b : Nat) (h1 : ∀ r ∈ R, r ≤ 1000) (h2 : R.length ≤ 20) (h3 : b ≤ 2000) => Lw_lead R b (fun r hr => by have := h1 r hr; lia) (by lia) (by lia)
  have hLE := hLw E 0 hE1 (by lia) (by lia)
  have hLD : ∀ j : Nat, j ≤ k + 1 → Lw (cnt D) j D.length := fun j hj => hLw D j hD1 (by lia) (by lia)
  have hLR := hLw R pu hD2 (by lia) (by lia)
  have hm1 := tw.m1
  have sp4 : Spec G (d + 60) (.ref 207) [lob E 0 [ch, 32, 9], lob R pu [ch, 32, 9], Mine.L (nis SE), Mine.L (nis SR)] (B true) := by
    have := (told_spec m 0 E R 0 pu top [ch, 32, 9] [ch, 32, 9] hLE hLR (by unfold neN; rw [hm3, Nat.max_zero, Nat.max_eq_right (Nat.le_trans tw.m1 (Nat.le_max_left _ _)), Nat.add_comm]; exact htop) (by lia)).mono (show 0 + 3 ≤ d + 60 by lia)
    rwa [hSE, hSR] at this
  have sp5 : Spec G (d + 60) (.ref 207) [lob R pu [ch, 32, 9], lob E 0 [ch, 32, 9], Mine.L (nis SR), Mine.L (nis SE)] (B true) := by
    have := (told_spec m 0 R E pu 0 top [ch, 32, 9] [ch, 32, 9] hLR hLE (by unfold neN; rw [hm3, Nat.max_zero, Nat.max_eq_left (Nat.le_trans tw.m1 (Nat.le_max_left _ _)), Nat.add_comm]; exact htop) (by lia)).mono (show 0 + 3 ≤ d + 60 by lia)
    rwa [hSE, hSR] at this
  have e1 : Hid ((List.range ((rangeL 0 (top : Int)).map fun i => I i).length).filterMap (fun j => some (PyData.int (colL E 0 (1 + j) : Nat))) = nis SE) := by
    show _ = _
    rw [← hSE, List.length_map, rangeL_len, show ((top : Int) - 0).toNat = top by lia, List.filterMap_eq_map', List.range'_eq_map_range]
    unfold nis
    rw [List.map_map, List.map_map]; rfl
  have e2 : Hid ((List.range ((nis SD).map Tr.d).length).filterMap (fun j => (SD[j]?).bind fun x : Nat => some (PyData.int (x + pu : Nat))) = nis SR) := by
    show _ = _
    rw [nis_map, hthere]; unfold nis; simp only [List.map_map]; rfl
  have hSDl : SD.length = top := by rw [← hSD]; simp
  have hst1 : ∀ j, j < top → (nis SD)[((j : Nat) : Int).toNat]? = some (.int (colL D 0 (1 + j) : Nat)) := fun j hj => by
    rw [Int.toNat_natCast, ← hSD]; unfold nis
    rw [List.getElem?_map, List.getElem?_map, List.getElem?_range' hj]; simp
  clear hSD hSE hSR hR hthere hm1 hm3 hLR htop
  have sp6 : Spec G (d + 60) (.ref 129) [I GP, I (W ^ 3)] (TT [.int Z, .int 0]) := idm (by rw [← hGP]; exact fdm_mul Z hW3) hW3 (hGb.mono (by decide)) ((hWk 3 (by decide)).mono (by decide))
  have spi : Spec G (d + 60) (.ref 108) [I Z, I (n : Nat)] (Mine.L (TH.map .int)) := by
    have := (i2d_spec m Z n (by lia) tdg.2.1 (by lia) (tdg.2.2.1.mono (by decide)) (by have := tdg.2.2.2; lia)).mono (show 40 ≤ d + 60 by lia)
    rwa [tdg.1] at this
  have sp7 : Spec G (d + 60) (.ref 129) [I (-GP), I (W ^ 3)] (TT [.int (-Z), .int 0]) := idm (by have := fdm_mul (-Z) hW3; rwa [Int.mul_neg, hGP] at this) hW3 (hGb.neg.mono (by decide)) ((hWk 3 (by decide)).mono (by decide))
  have hZV : (Z - V).fdiv (-W) = Q := by
    rw [show Z - V = -W * Q by lia]; exact (fdm_mul Q (by lia)).1
  have hnW : Builtin.divisionGoesByPylong (Z - V) (-W) = false := noPylong' (Nat.le_trans hWb.neg.intBits (by decide))
  have hRb : Bits (-V * W ^ 3) (8 + 300) := hVb.neg.mul (hWk 3 (by decide))
  have h40 : ∀ sg : Int, sg = 1 ∨ sg = -1 → Bits sg 1 ∧ Spec G (d + 60) (.ref 129) [I (-sg * GP), I (sg * W ^ 4)] (TT [.int Q, .int (sg * (-V * W ^ 3))]) ∧ Spec G (d + 60) (.ref 129) [I (sg * GP), I (sg * W ^ 4)] (TT [.int (-1 - Q), .int (sg * (W ^ 4 - -V * W ^ 3))]) := fun sg hsg => by
    have hsb : Bits sg 1 := by rcases hsg with rfl | rfl <;> (unfold Bits; decide)
    have sf := sign_facts hWn hV hQ hsg
    rw [hGP] at sf
    have h40 : sg * W ^ 4 ≠ 0 := Int.mul_ne_zero (by rcases hsg with rfl | rfl <;> decide) (by rw [show W ^ 4 = W ^ 3 * W from Int.pow_succ ..]; exact Int.mul_ne_zero hW3 hW0)
    have hb3 : Bits (sg * W ^ 4) (1 + 300) := hsb.mul (hWk 4 (by decide))
    exact ⟨hsb, idm sf.1 h40 ((hsb.neg.mul hGb).mono (by decide)) (hb3.mono (by decide)), idm sf.2 h40 ((hsb.mul hGb).mono (by decide)) (hb3.mono (by decide))⟩
  have ht0 := tw.t0
  have hs1 : Spec G (d + 60) (.builtin "sum") [Mine.L (nis E)] (I (S1 : Nat)) := by
    have := Spec.sum (G := G) (d + 60) (E.map Int.ofNat)
    rwa [← nis_int, sum_nis, tw.s1] at this
  have e3 : Hid (((E.map fun r => ((r * (r - 1) / 2 : Nat) : Int)).map PyData.int) = (List.range ((nis E).map Tr.d).length).filterMap (fun j => (E[j]?).bind fun x : Nat => some (PyData.int ((x * (x - 1) / 2 : Nat) : Int)))) := by
    show _ = _
    rw [nis_map, List.map_map]; rfl
  have hS1b : Bits ((S1 : Nat) : Int) 10 := small_bits (by lia) (by lia)
  have hC2b : Bits (tri2 E) 10 := small_bits ht0.1 (by lia)
  have sfE := same_facts (C2 := tri2 E) (S1 := ((S1 : Nat) : Int)) hWn ⟨by lia, by lia⟩ ht0 hqE
  have sfD := same_facts (C2 := tri2 E) (S1 := ((S1 : Nat) : Int)) hWn ⟨by lia, by lia⟩ ht0 hqD
  obtain ⟨SM, hSM⟩ : ∃ SM : Int, 4 - W * ((S1 : Nat) : Int) + W ^ 2 * tri2 E = SM := ⟨_, rfl⟩
  rw [hSM] at sfE sfD
  replace hSM : Hid (4 - W * ((S1 : Nat) : Int) + W ^ 2 * tri2 E = SM) := hSM
  have hnW3 : ∀ x : Int, Builtin.divisionGoesByPylong x (-W ^ 3) = false := fun x => noPylong' (Nat.le_trans (hWk 3 (by decide)).neg.intBits (by decide))
  have sp8 : ∀ {N : Int}, (N.fdiv (-W ^ 3) = (N - SM).fdiv (-W ^ 3) ∧ N.fmod (-W ^ 3) = SM) → Bits N 1300 → Spec G (d + 60) (.ref 129) [I N, I (-W ^ 3)] (TT [.int ((N - SM).fdiv (-W ^ 3)), .int SM]) := fun h hb => idm h hW3n (hb.mono (by decide)) ((hWk 3 (by decide)).neg.mono (by decide))
  have spcu := fun (R : List Nat) (h1 : ∀ r ∈ R, r ≤ 1000) (h2 : R.length ≤ 20) => (cubes_spec m 0 R f t6 h1 h2 (hfb.mono (by decide)) (hb6.mono (by decide))).mono (show 0 + 1 ≤ d + 60 by lia)
  have sce := spcu E hE1 (by lia)
  have scd := spcu D hD1 (by lia)
  have hcub := tw.cub f t6
  have hf3 : f ^ 3 ≠ 0 := Int.pow_ne_zero hf0
  have hf3b := hfb.pow 3
  have hb6V : Bits (-6 * V) 12 := small6 hV
  have sp9 : Spec G (d + 60) (.ref 129) [I (f ^ 3 * (-6 * V)), I (f ^ 3)] (TT [.int (-6 * V), .int 0]) := by
    have sp9 := idm_spec m 0 (f ^ 3 * (-6 * V)) (f ^ 3) hf3 ((hf3b.mul hb6V).mono (by decide)) (hf3b.mono (by decide)) (by
      have hs : Bits (f ^ 3) (Builtin.Int.intBits (f ^ 3)) := bits_of (Nat.le_refl _)
      have h1 := (hs.mul hb6V).intBits
      have h3 : 1 ≤ Builtin.Int.intBits (f ^ 3) := Nat.pos_of_ne_zero fun z => by
        have := bits_of (i := f ^ 3) (n := 0) (by lia)
        unfold Bits at this; rw [Nat.pow_zero, Nat.lt_one_iff, Int.natAbs_eq_zero] at this; exact hf3 this
      lia)
    rw [(fdm_mul (-6 * V) hf3).1, (fdm_mul (-6 * V) hf3).2] at sp9
    exact sp9.mono (by lia)
  have hnp26 : Builtin.divisionGoesByPylong t7 26 = false := noPylong' (Nat.le_trans (Bits.intBits (i := 26) (n := 10) (small_bits (by decide) (by decide))) (by decide))
  clear tdg tsum spcu hf3 hf3b hb6V idm hqE hqD hb6
  have hsmall : ∀ ah r0 kk : Nat, ah ≤ 1 → r0 ≤ 1 → kk ≤ 4 → ∃ sm : List Nat, List.replicate a ah = sm ∧ ∃ bl sz : Nat, (o : Int) + 1 - (r0 : Int) = (bl : Int) ∧ 1 + max (max (ah : Int) (r0 : Int)) (bl : Int) = (sz : Int) ∧ Spec G (d + 60) (.ref 178) [Mine.L (nis sm), I 0, S (st [ch, ch])] (lob sm 0 [ch, ch, 32, 9]) ∧ Spec G (d + 60) (.ref 178) [Mine.L (nis (r0 :: List.replicate kk 0)), I (bl : Nat), S (st [ch])] (lob (r0 :: List.replicate kk 0) bl [ch, 32, 9]) ∧ Spec G (d + 60) (.ref 202) [Mine.L (nis sm), I 0, I (sz : Nat)] (Mine.L (nis ((List.range' 1 sz).map (colL sm 0)))) ∧ Spec G (d + 60) (.ref 202) [Mine.L (nis (r0 :: List.replicate kk 0)), I (bl : Nat), I (sz : Nat)] (Mine.L (nis ((List.range' 1 sz).map (colL (r0 :: List.replicate kk 0) bl)))) ∧ Spec G (d + 60) (.ref 207) [lob sm 0 [ch, ch, 32, 9], lob (r0 :: List.replicate kk 0) bl [ch, 32, 9], Mine.L (nis ((List.range' 1 sz).map (colL sm 0))), Mine.L (nis ((List.range' 1 sz).map (colL (r0 :: List.replicate kk 0) bl)))] (B true) := fun ah r0 kk hah hr0 hkk => by
    obtain ⟨q1, q2, q3, q4, q6, q7, q8, q9⟩ := small_facts (a := a) (ah := ah) (r0 := r0) (kk := kk) (o := o) ra hah hr0 hkk ro
    have hbl : o + 1 - r0 ≤ 10 := by lia
    exact ⟨_, rfl, o + 1 - r0, 1 + max (max ah r0) (o + 1 - r0), q9, q8, spl _ 0 [ch] q1 q3 (by decide) (Nat.le_of_ble_eq_true rfl), spl _ _ [] q2 q4 (Nat.le_trans hbl (by decide)) (by decide), spc _ 0 _ q1 q3 (by decide) q7, spc _ _ _ q2 q4 (Nat.le_trans hbl (by decide)) q7,
      (told_spec m 0 (List.replicate a ah) (r0 :: List.replicate kk 0) 0 _ _ [ch, ch, 32, 9] [ch, 32, 9] (hLw _ 0 q1 q3 (by decide)) (hLw _ _ q2 q4 (Nat.le_trans hbl (by decide))) q6 q7).mono (by lia)⟩
  clear spl spc hLw hD2
  with_reducible refine' wpAny_mono (Q := fun v s' => v = .bool true ∧ Good G s') (E := fun _ _ => False) ?x6 ?x7 ?x8
  case x7 => exact fun _ _ x => x
  case x8 => exact fun _ _ x => x
  refine fn_core (d := d + 60) m.g (by rw [m.K]; rfl) (by dsimp only) (by dsimp only) (by dsimp only) (by rw [m.K]; rfl) rfl rfl rfl rfl (by decide +kernel) (by dsimp only [List.map]) (by dsimp only [List.map])
    (by exact arg1 fun _ => rfl) rfl (by rfl) (nos := List.replicate 43 .no) (by rfl) (by rfl) (by rfl) rfl rfl rfl (by dsimp only [List.map, List.replicate, HAppend.hAppend, Append.append, List.append]) hh hdp hu gs hT hD hargs ?_
  intro LA cells cm w hcm os MH hL s1 st1 hg1 ho1 keep
  with_reducible refine' wpAny_mono (Q := fun fl s' => fl = .ret (.bool true) ∧ Good G s') (E := fun _ _ => False) ?x1 ?x2 ?x3
  case x2 => exact fun fl s' z => ⟨by rw [z.1], z.2⟩
  case x3 => exact fun _ _ x => x.elim
  with_reducible refine' ExZ.run st1 ?x4
  clear st1 keep ho1 hg1 MH os hcm
  with_reducible refine' ExZ.cons ?x5
  with_reducible refine' Ex1.set (t := Mine.L (base8.map .int)) ?k1 ?k2 ?k3 ?k4 ?k5 ?k6 ?k7
  case k1 => exact w _
  case k2 => walk_at "ev"
  case k3 => walk_at "hv"
  case k4 => exact Nat.le_of_ble_eq_true rfl
  case k5 => exact .inr rfl
  case k6 => rfl
  dsimp only [ZO, List.set]
  refine ExZ.cons (Ex1.set (w _) (t := Mine.L [.int t0, .int t1, .int t2, .int t3, .int t4, .int t5, .int t6, .int t7]) (Ev.cong (t := Mine.L ((List.range ((rangeL 0 8).map fun i => I i).length).filterMap (fun j => some (PyData.int ((part ns (j : Nat) 8).sum + base8.getD j 0))))) (by
    refine Ev.comp (X := fnCx G _ _ _ _ _ _ _ _ _ _ _ _) w _ (It.range1 g (w _) m.range (by walk_at "hv") (by walk_at "ev") (by decide) (by decide) rfl rfl) (by decide) (by decide +kernel) (by dsimp only [List.map]) (by dsimp only [List.map]) rfl (by walk_at "cs") (by walk_at "hv") (.inl rfl) ?_ (by intro _; rfl)
    intro C cells' cm' H' w' j t ht
    obtain ⟨hj, rfl⟩ := range_get2 ht
    have hj8 : j < 8 := hj
    dsimp only [List.set]
    rw [Int.zero_add]
    have hps : ∀ {d : Nat} {r : Int}, r = (part ns (j : Nat) 8).sum → Spec G d (.builtin "sum") [Mine.L (pick (ns.map .int) (some (j : Int)) none (some 8))] (I r) := fun h => by rw [h, pick_part]; exact Spec.sum _ _
    exact ⟨TsAll.nil, Ev.bin (w' _) (Ev.call g (w' _) m.sum (by walk_at "hv") (Kp.builtin _) (EvL.cons (w' _) (Ev.slice_list (w' _) (kl := some (j : Int)) (kh := none) (ks := some 8) (by walk_at "ev") (show Ev _ _ _ _ _ by walk_at "ev") trivial (show Ev _ _ _ _ _ by walk_at "ev") (by decide) (by rw [List.length_map]; exact Nat.le_trans hn (by decide))) EvL.nil rfl) (hps rfl) rfl) (Ev.idx_list (w' _) (by walk_at "ev") (by walk_at "ev") (Int.natCast_nonneg _) (small63 (by lia)) (by rw [Int.toNat_natCast]; exact base_get j hj8) rfl) (Bin.add_int _ _)⟩) (congrArg Mine.L hts)) (by walk_at "hv") (Nat.le_of_ble_eq_true rfl) (.inr rfl) rfl ?_)
  dsimp only [ZO, List.set]
  refine ExZ.cons (Ex1.setComp (X := fnCx G _ _ _ _ _ _ _ _ _ _ _ _) w (fun j => (nis [a, b, c])[j]?) (It.range1 g (w _) m.range (by walk_at "hv") (by walk_at "ev") (by decide) (by decide) rfl rfl) (by decide) (by decide +kernel) (by dsimp only [List.map]) (by dsimp only [List.map]) rfl (by walk_at "cs") (by walk_at "hv") (.inl rfl) ?_ (by walk_at "hv") (Nat.le_of_ble_eq_true rfl) rfl ?_ (by intro _; rfl))
  · intro C cells' cm' H' w' j t ht
    obtain ⟨hj, rfl⟩ := range_get2 ht
    have hj3 : j < 3 := hj
    dsimp only [List.set]
    rw [Int.zero_add]
    match j, hj3 with
    | 0, _ => exact ⟨TsAll.nil, Ev.int_eq (Ev.bin (w' _) (by walk_at "ev") (Ev.bin (w' _) (Ev.idx_list (w' _) (by walk_at "ev") (by walk_at "ev") (by decide) (by decide) rfl rfl) (by walk_at "ev") (Bin.mod_int _ _ (by decide))) (Bin.add_int _ _)) ea⟩
    | 1, _ => exact ⟨TsAll.nil, Ev.int_eq (Ev.bin (w' _) (by walk_at "ev") (Ev.bin (w' _) (Ev.idx_list (w' _) (by walk_at "ev") (by walk_at "ev") (by decide) (by decide) rfl rfl) (by walk_at "ev") (Bin.mod_int _ _ (by decide))) (Bin.add_int _ _)) eb⟩
    | 2, _ => exact ⟨TsAll.nil, Ev.int_eq (Ev.bin (w' _) (by walk_at "ev") (Ev.bin (w' _) (Ev.idx_list (w' _) (by walk_at "ev") (by walk_at "ev") (by decide) (by decide) rfl rfl) (by walk_at "ev") (Bin.mod_int _ _ (by decide))) (Bin.add_int _ _)) ec⟩
  rw [show (List.range ((rangeL 0 3).map fun i => I i).length).filterMap (fun j => (nis [a, b, c])[j]?) = nis [a, b, c] from rfl]
  dsimp only [ZO, List.set]
  refine ExZ.cons (Ex1.swap (w _) (names := ["offset", "wide"]) (ds := [.int (o : Nat), .int (n : Nat)]) (Ev.tuple' (w _) (EvL.cons (w _) (Ev.modn (w _) (Ev.idx_list (w _) (by walk_at "ev") (by walk_at "ev") (by decide) (by decide) rfl rfl) (by walk_at "ev") (by decide) eo) (EvL.cons (w _) (Ev.int_eq (Ev.bin (w _) (by walk_at "ev") (Ev.bin (w _) (Ev.idx_list (w _) (by walk_at "ev") (by walk_at "ev") (by decide) (by decide) rfl rfl) (by walk_at "ev") (Bin.mod_int _ _ (by decide))) (Bin.add_int _ _)) ew) EvL.nil rfl) rfl) (.cons (.cons .nil)) rfl) ?_ rfl rfl rfl)
  refine AsN.cons (w _) (by walk_at "hv") (Nat.le_of_ble_eq_true rfl) (.inl rfl) (AsN.cons (w _) (by walk_at "hv") (Nat.le_of_ble_eq_true rfl) (.inl rfl) (AsN.nil (w _) ?_))
  dsimp only [ZO, List.set]
  refine ExZ.cons (Ex1.unpack (w _) (ds := [.int f, .str (st [ch])]) (Ev.tuple' (w _) (EvL.cons (w _) (t := I f) (Ev.or1 (w _) (Ev.idx_list (w _) (by walk_at "ev") (by walk_at "ev") (by decide) (by decide) rfl rfl) hfe) (EvL.cons (w _) (t := S (st [ch])) (Ev.call g (w _) m.chr (by walk_at "hv") (Kp.builtin _) (EvL.cons (w _) (Ev.int_eq (j := (ch : Int)) (Ev.bin (w _) (by walk_at "ev") (Ev.bin (w _) (Ev.idx_list (w _) (by walk_at "ev") (by walk_at "ev") (by decide) (by decide) rfl rfl) (by walk_at "ev") (Bin.mod_int _ _ (by decide))) (Bin.add_int _ _)) el) EvL.nil rfl) (Spec.chr _ _ (Int.natCast_nonneg _) (chr_le rch.2.2)) rfl) EvL.nil rfl) rfl) (.cons (.cons .nil)) rfl) ?_ rfl rfl rfl rfl)
  refine AsL.cons (As.name (w _) (by walk_at "hv") (Nat.le_of_ble_eq_true rfl) (.inl rfl) (AsL.cons (As.name (w _) (by walk_at "hv") (Nat.le_of_ble_eq_true rfl) (.inr rfl) (AsL.nil (w _) ?_)) rfl)) rfl
  dsimp only [ZO, List.set]
  refine ExZ.cons (Ex1.setComp (X := fnCx G _ _ _ _ _ _ _ _ _ _ _ _) w (fun j => some (.list (nis (bit3 j)))) (It.range1 g (w _) m.range (by walk_at "hv") (by walk_at "ev") (by decide) (by decide) rfl rfl) (by decide) (by decide +kernel) (by dsimp only [List.map]) (by dsimp only [List.map]) rfl (by walk_at "cs") (by walk_at "hv") (.inl rfl) ?_ (by walk_at "hv") (Nat.le_of_ble_eq_true rfl) rfl ?_ (by intro _; rfl))
  · intro C cells' cm' H' w' j t ht
    obtain ⟨hj, rfl⟩ := range_get2 ht
    have hj8 : j < 8 := hj
    dsimp only [List.set]
    rw [Int.zero_add]
    exact ⟨TsAll.nil, Ev.call g (w' _) m.fig (by walk_at "hv") m.kfig (by walk_at "evl") (spf j hj8) rfl⟩
  rw [show (List.range ((rangeL 0 8).map fun i => I i).length).filterMap (fun j => some (PyData.list (nis (bit3 j)))) = tab8 from rfl]
  dsimp only [ZO, List.set]
  refine ExZ.cons (Ex1.ite (w _) (b := false) (Ts.cmp (w _) (Ev.comp (X := fnCx G _ _ _ _ _ _ _ _ _ _ _ _) w (fun j => some (.int (j : Nat))) (It.list (w _) (by walk_at "ev")) (by decide) (by decide +kernel) (by dsimp only [List.map]) (by dsimp only [List.map]) rfl (by walk_at "cs") (by walk_at "hv") (.inl rfl) (by
    intro C cells' cm' H' w' j t ht
    obtain ⟨hj, rfl⟩ := tab8_get ht
    dsimp only [List.set]
    exact ⟨TsAll.nil, Ev.call g (w' _) m.d2i (by walk_at "hv") m.kd2i (by walk_at "evl") (tab8_spec m d hj) rfl⟩) (by intro _; rfl)) (Ev.list_range g (w _) m.list (by walk_at "hv") (RgE.one g (w _) m.range (by walk_at "hv") (by walk_at "ev")) (by decide) (by decide) (by decide) (by decide) (by decide)) (Cmp.ne_same (n := 3) (d := .list ((rangeL 0 8).map .int)) (Shp.ints _) (by decide) rfl) rfl) (fun hf => by cases hf) fun _ => Ex.nil (w _) ?_)
  dsimp only [ZO]
  refine ExZ.cons (Ex1.swap (w _) (names := ["even", "odd"]) (ds := [.list (nis E), .list (nis D)]) (Ev.tuple' (w _) (EvL.cons (w _) (Ev.call g (w _) m.class (by walk_at "hv") m.kclass (by walk_at "evl") spe rfl) (EvL.cons (w _) (Ev.call g (w _) m.class (by walk_at "hv") m.kclass (by walk_at "evl") spo rfl) EvL.nil rfl) rfl) (.cons (.cons .nil)) rfl) ?_ rfl rfl rfl)
  refine AsN.cons (w _) (by walk_at "hv") (Nat.le_of_ble_eq_true rfl) (.inl rfl) (AsN.cons (w _) (by walk_at "hv") (Nat.le_of_ble_eq_true rfl) (.inl rfl) (AsN.nil (w _) ?_))
  dsimp only [ZO, List.set]
  refine ExZ.cons (Ex1.set (w _) (t := I (T : Nat)) (Ev.call g (w _) m.max (by walk_at "hv") (Kp.builtin _) (by walk_at "evl") spT rfl) (by walk_at "hv") (Nat.le_of_ble_eq_true rfl) (.inl rfl) rfl ?_)
  dsimp only [ZO, List.set]
  refine ExZ.cons (Ex1.set (w _) (t := I W) (Ev.int_eq (Ev.bin (w _) (by walk_at "ev") (Ev.pow2 (w _) (by walk_at "ev") rfl (Nat.le_trans rn.2 (by decide))) (Bin.sub_int _ _)) hW) (by walk_at "hv") (Nat.le_of_ble_eq_true rfl) (.inl rfl) rfl ?_)
  dsimp only [ZO, List.set]
  refine ExZ.cons (Ex1.set (w _) (t := Mine.L [.int NE, .int ND]) (Ev.list' (w _) (EvL.cons (w _) (Ev.call g (w _) m.number (by walk_at "hv") m.knumber (by walk_at "evl") spE rfl) (EvL.cons (w _) (Ev.call g (w _) m.number (by walk_at "hv") m.knumber (by walk_at "evl") spD rfl) EvL.nil rfl) rfl) (.cons (.cons .nil)) rfl) (by walk_at "hv") (Nat.le_of_ble_eq_true rfl) (.inl rfl) rfl ?_)
  dsimp only [ZO, List.set]
  refine ExZ.cons (Ex1.set (w _) (t := I GP) (Ev.int_eq (Ev.bin (w _) (Ev.idx_list (w _) (by walk_at "ev") (by walk_at "ev") (by decide) (by decide) rfl rfl) (Ev.idx_list (w _) (by walk_at "ev") (by walk_at "ev") (by decide) (by decide) rfl rfl) (Bin.sub_int _ _)) gv.1) (by walk_at "hv") (Nat.le_of_ble_eq_true rfl) (.inl rfl) rfl ?_)
  dsimp only [ZO, List.set]
  refine ExZ.cons (Ex1.unpack (w _) (Ev.call g (w _) m.idm (by walk_at "hv") m.kidm (by walk_at "evl") sp1 rfl) ?_ rfl rfl rfl rfl)
  refine AsL.cons (As.name (w _) (by walk_at "hv") (Nat.le_of_ble_eq_true rfl) (.inl rfl) (AsL.cons (As.name (w _) (by walk_at "hv") (Nat.le_of_ble_eq_true rfl) (.inl rfl) (AsL.nil (w _) ?_)) rfl)) rfl
  dsimp only [ZO, List.set]
  refine ExZ.cons (Ex1.set (w _) (t := Mine.L (M.map .int)) (Ev.call g (w _) m.signed (by walk_at "hv") m.ksigned (by walk_at "evl") sp2 rfl) (by walk_at "hv") (Nat.le_of_ble_eq_true rfl) (.inr rfl) rfl ?_)
  dsimp only [ZO, List.set]
  refine ExZ.cons (Ex1.ite (w _) (b := false) (Ts.boolop (AllTs.or_false (w _) (Ts.cmp (w _) (a := I 0) (b := I 0) (by walk_at "ev") (by walk_at "ev") (Cmp.ne_same (n := 1) (Shp.int _) (by decide) rfl) rfl) (AllTs.or_false (w _) (Ts.cmp (w _) (Ev.call g (w _) m.idm (by walk_at "hv") m.kidm (by walk_at "evl") sp3 rfl) (Ev.tuple' (w _) (by walk_at "evl") (by walk_at "dl") rfl) (Cmp.ne_same (n := 2) (Shp.pair _ _) (by decide) rfl) rfl)
    (AllTs.or_false (w _) (Ts.cmp (w _) (Ev.call g (w _) m.len (by walk_at "hv") (Kp.builtin _) (by walk_at "evl") spL rfl) (by walk_at "ev") (Cmp.ne_same (n := 1) (Shp.int _) (by decide) rfl) rfl) AllTs.or_nil)))) (fun hf => by cases hf) fun _ => Ex.nil (w _) ?_)
  dsimp only [ZO]
  refine ExZ.cons (Ex1.setComp (X := fnCx G _ _ _ _ _ _ _ _ _ _ _ _) w (fun j => some (.int (apartZ M (1 + j)))) (It.range2 g (w _) m.range (by walk_at "hv") (by walk_at "ev") (by walk_at "ev") (by decide) (by decide) (by lia) (by lia) rfl rfl rfl) (by rw [List.length_map, rangeL_len]; lia) (by decide +kernel) (by dsimp only [List.map]) (by dsimp only [List.map]) rfl (by walk_at "cs") (by walk_at "hv") (.inl rfl) ?_ (by walk_at "hv") (Nat.le_of_ble_eq_true rfl) rfl ?_ (by intro _; rfl))
  · intro C cells' cm' H' w' j t ht
    obtain ⟨hj, rfl⟩ := range_get2 ht
    have hjT : 1 + j ≤ 18 := by lia
    dsimp only [List.set]
    rw [show (1 : Int) + (j : Int) = ((1 + j : Nat) : Int) by lia]
    have hpt : ∀ {d : Nat} {r : Int}, r = (part M (((1 + j : Nat) : Int) - 1) ((1 + j : Nat) : Int)).sum → Spec G d (.builtin "sum") [Mine.L (pick (M.map .int) (some (((1 + j : Nat) : Int) - 1)) none (some ((1 + j : Nat) : Int)))] (I r) := fun h => by rw [h, pick_part]; exact Spec.sum _ _
    exact ⟨TsAll.nil, Ev.int_eq (Ev.mulB (w' _) 20 20 (Ev.un (w' _) (by walk_at "ev") (Un.neg_int _)) (Ev.call g (w' _) m.sum (by walk_at "hv") (Kp.builtin _) (EvL.cons (w' _) (Ev.slice_list (w' _) (kl := some (((1 + j : Nat) : Int) - 1)) (kh := none) (ks := some ((1 + j : Nat) : Int)) (by walk_at "ev") (show Ev _ _ _ _ _ from Ev.bin (w' _) (by walk_at "ev") (by walk_at "ev") (Bin.sub_int _ _)) trivial (show Ev _ _ _ _ _ by walk_at "ev") (by intro q; have := Option.some.inj q; lia) (by rw [List.length_map, hml]; lia)) EvL.nil rfl) (hpt rfl) rfl) (small_bits (i := ((1 + j : Nat) : Int)) (n := 20) (by lia) (by lia)).neg (hps (1 + j) (Nat.le_add_right _ _)) (by decide)) rfl⟩
  rw [show (List.range ((rangeL 1 ((T : Int) + 1)).map fun i => I i).length).filterMap (fun j => some (PyData.int (apartZ M (1 + j)))) = AL.map .int from eap]
  dsimp only [ZO, List.set]
  refine ExZ.cons (Ex1.set (w _) (t := I (k : Nat)) (Ev.call g (w _) m.max (by walk_at "hv") (Kp.builtin _) (by walk_at "evl") spM rfl) (by walk_at "hv") (Nat.le_of_ble_eq_true rfl) (.inl rfl) rfl ?_)
  dsimp only [ZO, List.set]
  refine ExZ.cons (Ex1.set (w _) (t := I (pu : Nat)) (Ev.int_eq (Ev.call g (w _) m.max (by walk_at "hv") (Kp.builtin _) (EvL.cons (w _) (by walk_at "ev") (EvL.cons (w _) (Ev.idx_list (w _) (d := .int (apartZ M (1 + ix : Nat))) (by walk_at "ev") (Ev.modn (w _) (Ev.bin (w _) (Ev.idx_list (w _) (by walk_at "ev") (by walk_at "ev") (by decide) (by decide) rfl rfl) (by walk_at "ev") (Bin.floordiv_int _ _ (by decide) hnp26)) (by walk_at "ev") (by lia) eix) (Int.natCast_nonneg _) (small63 (by lia)) hgix rfl) EvL.nil rfl) rfl) (Spec.max_two _ _ _) rfl) hpu) (by walk_at "hv") (Nat.le_of_ble_eq_true rfl) (.inr rfl) rfl ?_)
  dsimp only [ZO, List.set]
  refine ExZ.cons (Ex1.set (w _) (t := I (top : Nat)) (Ev.int_eq (Ev.bin (w _) (by walk_at "ev") (Ev.call g (w _) m.max (by walk_at "hv") (Kp.builtin _) (by walk_at "evl") (Spec.max_two _ _ _) rfl) (Bin.add_int _ _)) htopZ) (by walk_at "hv") (Nat.le_of_ble_eq_true rfl) (.inl rfl) rfl ?_)
  dsimp only [ZO, List.set]
  refine ExZ.cons (Ex1.set (w _) (t := Mine.L (MV.map .int)) (Ev.cong (Ev.bin (w _) (by walk_at "ev") (Ev.bin (w _) (Ev.list' (w _) (by walk_at "evl") (by walk_at "dl") rfl) (Ev.bin (w _) (by walk_at "ev") (by walk_at "ev") (Bin.sub_int _ _)) (Bin.mul_list [.int 0] _ (by lia) (by lia) (by simp; lia))) (Bin.add_list _ _ hmvn)) hmv) (by walk_at "hv") (Nat.le_of_ble_eq_true rfl) (.inr rfl) rfl ?_)
  dsimp only [ZO, List.set]
  refine ExZ.cons (Ex1.set (w _) (t := Mine.L (nis SD)) (Ev.call g (w _) m.columns (by walk_at "hv") m.kcolumns (by walk_at "evl") spc0 rfl) (by walk_at "hv") (Nat.le_of_ble_eq_true rfl) (.inr rfl) rfl ?_)
  dsimp only [ZO, List.set]
  refine ExZ.cons (Ex1.swapE (w _) (names := ["near", "far"]) (ts := [lob E 0 [ch, 32, 9], lob R pu [ch, 32, 9]]) (EvL.cons (w _) (Ev.call g (w _) m.lead (by walk_at "hv") m.klead (by walk_at "evl") spl0 rfl) (EvL.cons (w _) (Ev.call g (w _) m.lead (by walk_at "hv") m.klead (EvL.cons (w _) (t := Mine.L (nis R)) (Ev.cong (Ev.slice_list (w _) (kl := none) (kh := none) (ks := some (-1)) (by walk_at "ev") trivial trivial (show Ev _ _ _ _ _ from Ev.un (w _) (by walk_at "ev") (Un.neg_int 1)) (by decide) (by rw [nis_len, hDn]; decide)) (congrArg Mine.L hrev)) (by walk_at "evl") rfl) splR rfl) EvL.nil rfl) rfl) ?_ rfl rfl rfl rfl)
  refine AsN.cons (w _) (by walk_at "hv") (Nat.le_of_ble_eq_true rfl) (.inl rfl) (AsN.cons (w _) (by walk_at "hv") (Nat.le_of_ble_eq_true rfl) (.inl rfl) (AsN.nil (w _) ?_))
  dsimp only [ZO, List.set]
  refine ExZ.cons (Ex1.swap (w _) (names := ["here", "there"]) (ds := [.list (nis SE), .list (nis SR)]) (Ev.tuple' (w _) (EvL.cons (w _) (t := Mine.L (nis SE)) (Ev.cong (t := Mine.L ((List.range ((rangeL 0 (top : Int)).map fun i => I i).length).filterMap (fun j => some (PyData.int (colL E 0 (1 + j) : Nat))))) (by
    refine Ev.comp (X := fnCx G _ _ _ _ _ _ _ _ _ _ _ _) w _ (It.range1 g (w _) m.range (by walk_at "hv") (by walk_at "ev") (by lia) (by lia) rfl rfl) (by rw [List.length_map, rangeL_len]; lia) (by decide +kernel) (by dsimp only [List.map]) (by dsimp only [List.map]) rfl (by walk_at "cs") (by walk_at "hv") (.inl rfl) ?_ (by intro _; rfl)
    intro C cells' cm' H' w' j t ht
    obtain ⟨hj, rfl⟩ := range_get2 ht
    have hjt : j < top := by lia
    dsimp only [List.set]
    rw [Int.zero_add]
    obtain ⟨v, hv1, hv2⟩ := hhere j hjt
    exact ⟨TsAll.nil, Ev.int_eq (Ev.bin (w' _) (Ev.idx_list (w' _) (by walk_at "ev") (by walk_at "ev") (Int.natCast_nonneg _) (small63 (by lia)) (hst1 j hjt) rfl) (Ev.idx_list (w' _) (d := .int v) (by walk_at "ev") (by walk_at "ev") (Int.natCast_nonneg _) (small63 (by lia)) (by rw [Int.toNat_natCast, List.getElem?_map, hv1]; rfl) rfl) (Bin.add_int _ _)) hv2⟩) (congrArg Mine.L e1)) (EvL.cons (w _) (t := Mine.L (nis SR)) (Ev.cong (t := Mine.L ((List.range ((nis SD).map Tr.d).length).filterMap (fun j => (SD[j]?).bind fun x : Nat => some (PyData.int (x + pu : Nat))))) (by
    refine Ev.comp (X := fnCx G _ _ _ _ _ _ _ _ _ _ _ _) w _ (It.list (w _) (by walk_at "ev")) (by rw [List.length_map, nis_len, hSDl]; lia) (by decide +kernel) (by dsimp only [List.map]) (by dsimp only [List.map]) rfl (by walk_at "cs") (by walk_at "hv") (.inl rfl) ?_ (by intro _; rfl)
    intro C cells' cm' H' w' j t ht
    obtain ⟨r, hr', rfl⟩ := nis_get ht
    simp only [hr', Option.bind_some]
    dsimp only [List.set]
    exact ⟨TsAll.nil, Ev.int_eq (Ev.bin (w' _) (by walk_at "ev") (by walk_at "ev") (Bin.add_int _ _)) (Int.natCast_add _ _).symm⟩) (congrArg Mine.L e2)) EvL.nil rfl) rfl) (.cons (.cons .nil)) rfl) ?_ rfl rfl rfl)
  refine AsN.cons (w _) (by walk_at "hv") (Nat.le_of_ble_eq_true rfl) (.inl rfl) (AsN.cons (w _) (by walk_at "hv") (Nat.le_of_ble_eq_true rfl) (.inl rfl) (AsN.nil (w _) ?_))
  dsimp only [ZO, List.set]
  refine ExZ.cons (Ex1.ite (w _) (b := false) (Ts.of (Ts.not (b := true) (Ts.ifexp (w _) (Ts.cmp (w _) (Ev.bin (w _) (Ev.idx_list (w _) (by walk_at "ev") (by walk_at "ev") (by decide) (by decide) rfl rfl) (by walk_at "ev") (Bin.mod_int _ _ (by decide))) (by walk_at "ev") (Cmp.eq_is _ _) rfl) (fun _ => Ts.val (w _) (Ev.call g (w _) m.told (by walk_at "hv") m.ktold (by walk_at "evl") sp4 rfl) (Tru.bool true) rfl) (fun _ => Ts.val (w _) (Ev.call g (w _) m.told (by walk_at "hv") m.ktold (by walk_at "evl") sp5 rfl) (Tru.bool true) rfl))) rfl) (fun hf => by cases hf) fun _ => Ex.nil (w _) ?_)
  dsimp only [ZO]
  refine ExZ.cons (Ex1.for w (It.list (w _) (ds := [.int (k : Nat), .int ((k : Nat) + 1 : Int)]) (by walk_at "ev"))
    (fun i μ => ∃ s2 : Slot, μ = [.v (Mine.L (ns.map .int)), .v (Mine.L (base8.map .int)), s2, .v (Mine.L [.int t0, .int t1, .int t2, .int t3, .int t4, .int t5, .int t6, .int t7]), .v (Mine.L (nis [a, b, c])), .v (I (o : Nat)), .v (I (n : Nat)), .v (I f), .v (S (st [ch])), .v (Mine.L tab8), .v (Mine.L (nis E)), .v (Mine.L (nis D)), .v (I (T : Nat)), .v (I W), .v (Mine.L [.int NE, .int ND]), .v (I GP), .v (I MD), .v (I 0), .v (Mine.L (M.map .int)), .v (Mine.L (AL.map .int)), .v (I (k : Nat)), .v (I (pu : Nat)), .v (I (top : Nat)), .v (Mine.L (MV.map .int)), .v (Mine.L (nis SD)), .v (lob E 0 [ch, 32, 9]), .v (lob R pu [ch, 32, 9]), .v (Mine.L (nis SE)), .v (Mine.L (nis SR)), .no, .no, .no, .no, .no, .no, .no, .no, .no, .no, .no, .no, .no, .no, .no]) ⟨.no, rfl⟩ ?_ ?_ (by intro _; rfl) (by intro _ _; rfl))
  · rintro i t μ' H' hit ⟨s2, rfl⟩
    obtain ⟨j, hj, rfl⟩ : ∃ j : Nat, j ≤ k + 1 ∧ t = I (j : Nat) := by
      match i, hit with
      | 0, hit => exact ⟨k, Nat.le_succ k, (Option.some.inj hit).symm⟩
      | 1, hit => exact ⟨k + 1, Nat.le_refl _, (Option.some.inj hit).symm⟩
    refine As.name (w _) (by walk_at "hv") (Nat.le_of_ble_eq_true rfl) (.inl rfl) ?_
    dsimp only [List.set]
    refine Ex.cons (Ex1.ite (w _) (b := false) (Ts.of (Ts.cmp (w _) (Ev.less m (w _) hLE (hLD j hj) (Nat.le_trans (show 2 ≤ 60 by decide) (Nat.le_add_left 60 d)) (by walk_at "ev") (EvL.cons (w _) (Ev.call g (w _) m.lead (by walk_at "hv") m.klead (by walk_at "evl") (splD j hj) rfl) EvL.nil rfl) rfl rfl) (Ev.cmp (w _) (by walk_at "ev") (by walk_at "ev") (Cmp.gt_int _ _) rfl) (Cmp.isnot_bool _ _) rfl) (by rw [hless j]; simp)) (fun hf => by cases hf) fun _ => Ex.nil (w _) ?_)
    exact Ex.nil (w _) ⟨.v (I (j : Nat)), rfl⟩
  rintro μ' ⟨s2, rfl⟩
  dsimp only [ZO]
  refine ExZ.cons (Ex1.for w (It.list (w _) (ds := [.int 0, .int 1]) (by walk_at "ev"))
    (fun i μ => ∃ sl : Nat → Slot, μ = [.v (Mine.L (ns.map .int)), .v (Mine.L (base8.map .int)), s2, .v (Mine.L [.int t0, .int t1, .int t2, .int t3, .int t4, .int t5, .int t6, .int t7]), .v (Mine.L (nis [a, b, c])), .v (I (o : Nat)), .v (I (n : Nat)), .v (I f), .v (S (st [ch])), .v (Mine.L tab8), .v (Mine.L (nis E)), .v (Mine.L (nis D)), .v (I (T : Nat)), .v (I W), .v (Mine.L [.int NE, .int ND]), .v (I GP), .v (I MD), .v (I 0), .v (Mine.L (M.map .int)), .v (Mine.L (AL.map .int)), .v (I (k : Nat)), .v (I (pu : Nat)), .v (I (top : Nat)), .v (Mine.L (MV.map .int)), .v (Mine.L (nis SD)), .v (lob E 0 [ch, 32, 9]), .v (lob R pu [ch, 32, 9]), .v (Mine.L (nis SE)), .v (Mine.L (nis SR)), (sl 0), (sl 1), (sl 2), (sl 3), (sl 4), (sl 5), (sl 6), .no, .no, .no, .no, .no, .no, .no, .no]) ⟨fun _ => .no, rfl⟩ ?_ ?_ (by intro _; rfl) (by intro _ _; rfl))
  · rintro i t μ' H' hit ⟨sl, rfl⟩
    obtain ⟨ah, hah, rfl⟩ : ∃ ah : Nat, ah ≤ 1 ∧ t = I (ah : Nat) := by
      match i, hit with
      | 0, hit => exact ⟨0, by decide, (Option.some.inj hit).symm⟩
      | 1, hit => exact ⟨1, by decide, (Option.some.inj hit).symm⟩
    refine As.name (w _) (by walk_at "hv") (Nat.le_of_ble_eq_true rfl) (.inl rfl) ?_
    dsimp only [List.set]
    refine Ex.cons (Ex1.for w (It.list (w _) (ds := [.list (nis (List.replicate b 0)), .list (nis ([1] ++ List.replicate (b - 1) 0)), .list (nis ([1] ++ List.replicate (c - 1) 0))]) (Ev.list' (w _) (EvL.cons (w _) (Ev.reps (w _) (x := 0) (k := b) (by walk_at "ev") (Ev.idx_list (w _) (by walk_at "ev") (by walk_at "ev") (by decide) (by decide) rfl rfl) rfl (by lia)) (EvL.cons (w _) (Ev.addnis (w _) (l1 := [1]) (by walk_at "ev") (Ev.reps (w _) (x := 0) (k := b - 1) (by walk_at "ev") (Ev.bin (w _) (Ev.idx_list (w _) (by walk_at "ev") (by walk_at "ev") (by decide) (by decide) rfl rfl) (by walk_at "ev") (Bin.sub_int _ _)) (by lia) (by lia)) (rep_len rb.2)) (EvL.cons (w _) (Ev.addnis (w _) (l1 := [1]) (by walk_at "ev") (Ev.reps (w _) (x := 0) (k := c - 1) (by walk_at "ev") (Ev.bin (w _) (Ev.idx_list (w _) (by walk_at "ev") (by walk_at "ev") (by decide) (by decide) rfl rfl) (by walk_at "ev") (Bin.sub_int _ _)) (by lia) (by lia)) (rep_len rc.2)) EvL.nil rfl) rfl) rfl) (.cons (.cons (.cons .nil))) rfl))
      (fun i μ => ∃ sl : Nat → Slot, μ = [.v (Mine.L (ns.map .int)), .v (Mine.L (base8.map .int)), s2, .v (Mine.L [.int t0, .int t1, .int t2, .int t3, .int t4, .int t5, .int t6, .int t7]), .v (Mine.L (nis [a, b, c])), .v (I (o : Nat)), .v (I (n : Nat)), .v (I f), .v (S (st [ch])), .v (Mine.L tab8), .v (Mine.L (nis E)), .v (Mine.L (nis D)), .v (I (T : Nat)), .v (I W), .v (Mine.L [.int NE, .int ND]), .v (I GP), .v (I MD), .v (I 0), .v (Mine.L (M.map .int)), .v (Mine.L (AL.map .int)), .v (I (k : Nat)), .v (I (pu : Nat)), .v (I (top : Nat)), .v (Mine.L (MV.map .int)), .v (Mine.L (nis SD)), .v (lob E 0 [ch, 32, 9]), .v (lob R pu [ch, 32, 9]), .v (Mine.L (nis SE)), .v (Mine.L (nis SR)), .v (I (ah : Nat)), (sl 1), (sl 2), (sl 3), (sl 4), (sl 5), (sl 6), .no, .no, .no, .no, .no, .no, .no, .no]) ⟨sl, rfl⟩ ?_ ?_ (by intro _; rfl) (by intro _ _; rfl))
    · rintro i2 t2' μ'' H'' hit2 ⟨sl', rfl⟩
      obtain ⟨r0, kk, hr0, hkk, rfl⟩ : ∃ r0 kk : Nat, r0 ≤ 1 ∧ kk ≤ 4 ∧ t2' = Mine.L (nis (r0 :: List.replicate kk 0)) := by
        match i2, hit2 with
        | 0, hit => exact ⟨0, b - 1, by decide, by lia, by rw [← rep_head rb.1]; exact (Option.some.inj hit).symm⟩
        | 1, hit => exact ⟨1, b - 1, by decide, by lia, (Option.some.inj hit).symm⟩
        | 2, hit => exact ⟨1, c - 1, by decide, by lia, (Option.some.inj hit).symm⟩
      refine As.name (w _) (by walk_at "hv") (Nat.le_of_ble_eq_true rfl) (.inl rfl) ?_
      dsimp only [List.set]
      obtain ⟨sm, hsm2, bl, sz, q9, q8, sl1, sl2, sc1, sc2, st6⟩ := hsmall ah r0 kk hah hr0 hkk
      refine Ex.cons (Ex1.swap (w _) (names := ["small", "blanks"]) (ds := [.list (nis sm), .int (bl : Nat)]) (Ev.tuple' (w _) (EvL.cons (w _) (t := Mine.L (nis sm)) (hsm2 ▸ Ev.reps (w _) (x := ah) (k := a) (by walk_at "ev") (Ev.idx_list (w _) (by walk_at "ev") (by walk_at "ev") (by decide) (by decide) rfl rfl) rfl (by lia)) (EvL.cons (w _) (Ev.int_eq (Ev.bin (w _) (Ev.bin (w _) (by walk_at "ev") (by walk_at "ev") (Bin.add_int _ _)) (Ev.idx_list (w _) (by walk_at "ev") (by walk_at "ev") (by decide) (by decide) rfl rfl) (Bin.sub_int _ _)) q9) EvL.nil rfl) rfl) (.cons (.cons .nil)) rfl) ?_ rfl rfl rfl)
      refine AsN.cons (w _) (by walk_at "hv") (Nat.le_of_ble_eq_true rfl) (.inl rfl) (AsN.cons (w _) (by walk_at "hv") (Nat.le_of_ble_eq_true rfl) (.inl rfl) (AsN.nil (w _) ?_))
      dsimp only [Then, List.set]
      refine Ex.cons (Ex1.set (w _) (t := I (sz : Nat)) (Ev.int_eq (Ev.bin (w _) (by walk_at "ev") (Ev.call g (w _) m.max (by walk_at "hv") (Kp.builtin _) (EvL.cons (w _) (by walk_at "ev") (EvL.cons (w _) (Ev.idx_list (w _) (by walk_at "ev") (by walk_at "ev") (by decide) (by decide) rfl rfl) (EvL.cons (w _) (by walk_at "ev") EvL.nil rfl) rfl) rfl) (Spec.max_three _ _ _ _) rfl) (Bin.add_int _ _)) q8) (by walk_at "hv") (Nat.le_of_ble_eq_true rfl) (.inl rfl) rfl ?_)
      dsimp only [Then, List.set]
      refine Ex.cons (Ex1.swapE (w _) (names := ["one", "other"]) (ts := [lob sm 0 [ch, ch, 32, 9], lob (r0 :: List.replicate kk 0) bl [ch, 32, 9]]) (EvL.cons (w _) (Ev.call g (w _) m.lead (by walk_at "hv") m.klead (EvL.cons (w _) (by walk_at "ev") (EvL.cons (w _) (by walk_at "ev") (EvL.cons (w _) (Ev.str_eq (Ev.cat (w _) (l1 := [ch]) (l2 := [ch]) (by walk_at "ev") (by walk_at "ev") (by simp)) rfl) EvL.nil rfl) rfl) rfl) sl1 rfl) (EvL.cons (w _) (Ev.call g (w _) m.lead (by walk_at "hv") m.klead (by walk_at "evl") sl2 rfl) EvL.nil rfl) rfl) ?_ rfl rfl rfl rfl)
      refine AsN.cons (w _) (by walk_at "hv") (Nat.le_of_ble_eq_true rfl) (.inl rfl) (AsN.cons (w _) (by walk_at "hv") (Nat.le_of_ble_eq_true rfl) (.inl rfl) (AsN.nil (w _) ?_))
      dsimp only [Then, List.set]
      refine Ex.cons (Ex1.ite (w _) (b := false) (Ts.of (Ts.not (b := true) (Ts.val (w _) (Ev.call g (w _) m.told (by walk_at "hv") m.ktold (EvL.cons (w _) (by walk_at "ev") (EvL.cons (w _) (by walk_at "ev") (EvL.cons (w _) (Ev.call g (w _) m.columns (by walk_at "hv") m.kcolumns (by walk_at "evl") sc1 rfl) (EvL.cons (w _) (Ev.call g (w _) m.columns (by walk_at "hv") m.kcolumns (by walk_at "evl") sc2 rfl) EvL.nil rfl) rfl) rfl) rfl) st6 rfl) (Tru.bool true) rfl)) rfl) (fun hf => by cases hf) fun _ => Ex.nil (w _) ?_)
      exact Ex.nil (w _) ⟨fun i => ([.no, .v (Mine.L (nis (r0 :: List.replicate kk 0))), .v (Mine.L (nis sm)), .v (I (bl : Nat)), .v (I (sz : Nat)), .v (lob sm 0 [ch, ch, 32, 9]), .v (lob (r0 :: List.replicate kk 0) bl [ch, 32, 9])] : List Slot).getD i .no, rfl⟩
    · rintro μ'' ⟨sl', rfl⟩
      exact Ex.nil (w _) ⟨fun i => ([.v (I (ah : Nat)), sl' 1, sl' 2, sl' 3, sl' 4, sl' 5, sl' 6] : List Slot).getD i .no, rfl⟩
  rintro μ' ⟨sl, rfl⟩
  dsimp only [ZO]
  refine ExZ.cons (Ex1.unpack (w _) (Ev.call g (w _) m.idm (by walk_at "hv") m.kidm (EvL.cons (w _) (by walk_at "ev") (EvL.cons (w _) (Ev.powk (w _) (K := 3) (k := 3) (by walk_at "ev") (by walk_at "ev") rfl hWb (by decide)) EvL.nil rfl) rfl) sp6 rfl) ?_ rfl rfl rfl rfl)
  refine AsL.cons (As.name (w _) (by walk_at "hv") (Nat.le_of_ble_eq_true rfl) (.inl rfl) (AsL.cons (As.name (w _) (by walk_at "hv") (Nat.le_of_ble_eq_true rfl) (.inl rfl) (AsL.nil (w _) ?_)) rfl)) rfl
  dsimp only [ZO, List.set]
  refine ExZ.cons (Ex1.set (w _) (t := I V) (Ev.int_eq (Ev.mulB (w _) 8 4 (Ev.mulB (w _) 4 4 (Ev.idx_list (w _) (by walk_at "ev") (by walk_at "ev") (by decide) (by decide) rfl rfl) (Ev.idx_list (w _) (by walk_at "ev") (by walk_at "ev") (by decide) (by decide) rfl rfl) (b4 ra.2) (b4 rb.2) (by decide)) (Ev.idx_list (w _) (by walk_at "ev") (by walk_at "ev") (by decide) (by decide) rfl rfl) ((b4 ra.2).mul (b4 rb.2)) (b4 rc.2) (by decide)) hVV) (by walk_at "hv") (Nat.le_of_ble_eq_true rfl) (.inl rfl) rfl ?_)
  dsimp only [ZO, List.set]
  refine ExZ.cons (Ex1.ite (w _) (b := false) (Ts.boolop (AllTs.or_false (w _) (Ts.cmp (w _) (a := I 0) (b := I 0) (by walk_at "ev") (by walk_at "ev") (Cmp.ne_same (n := 1) (Shp.int _) (by decide) rfl) rfl) (AllTs.or_false (w _) (Ts.cmp (w _) (Ev.call g (w _) m.i2d (by walk_at "hv") m.ki2d (by walk_at "evl") spi rfl) (Ev.call g (w _) m.throws (by walk_at "hv") m.kthrows (by walk_at "evl") spt rfl) (Cmp.ne_same (n := 2) (Shp.ints _) (by decide) rfl) rfl) AllTs.or_nil))) (fun hf => by cases hf) fun _ => Ex.nil (w _) ?_)
  dsimp only [ZO]
  refine ExZ.cons (Ex1.ite (w _) (b := false) (Ts.cmp (w _) (Ev.call g (w _) m.idm (by walk_at "hv") m.kidm (EvL.cons (w _) (by walk_at "ev") (EvL.cons (w _) (Ev.powk (w _) (K := 3) (k := 3) (by walk_at "ev") (by walk_at "ev") rfl hWb (by decide)) EvL.nil rfl) rfl) sp7 rfl) (Ev.tuple' (w _) (by walk_at "evl") (by walk_at "dl") rfl) (Cmp.ne_same (n := 2) (Shp.pair _ _) (by decide) rfl) rfl) (fun hf => by cases hf) fun _ => Ex.nil (w _) ?_)
  dsimp only [ZO]
  refine ExZ.cons (Ex1.swap (w _) (names := ["many", "rest"]) (ds := [.int Q, .int (-V * W ^ 3)]) (Ev.tuple' (w _) (EvL.cons (w _) (Ev.int_eq (Ev.bin (w _) (by walk_at "ev") (by walk_at "ev") (Bin.floordiv_int _ _ (by lia) hnW)) hZV) (EvL.cons (w _) (Ev.mulB (w _) 8 300 (Ev.un (w _) (by walk_at "ev") (Un.neg_int _)) (Ev.powk (w _) (K := 3) (k := 3) (by walk_at "ev") (by walk_at "ev") rfl hWb (by decide)) hVb.neg (hWk 3 (by decide)) (by decide)) EvL.nil rfl) rfl) (.cons (.cons .nil)) rfl) ?_ rfl rfl rfl)
  refine AsN.cons (w _) (by walk_at "hv") (Nat.le_of_ble_eq_true rfl) (.inl rfl) (AsN.cons (w _) (by walk_at "hv") (Nat.le_of_ble_eq_true rfl) (.inl rfl) (AsN.nil (w _) ?_))
  dsimp only [ZO, List.set]
  refine ExZ.cons (Ex1.for w (It.list (w _) (ds := [.int 1, .int (-1)]) (by walk_at "ev"))
    (fun i μ => ∃ s40 : Slot, μ = [.v (Mine.L (ns.map .int)), .v (Mine.L (base8.map .int)), s2, .v (Mine.L [.int t0, .int t1, .int t2, .int t3, .int t4, .int t5, .int t6, .int t7]), .v (Mine.L (nis [a, b, c])), .v (I (o : Nat)), .v (I (n : Nat)), .v (I f), .v (S (st [ch])), .v (Mine.L tab8), .v (Mine.L (nis E)), .v (Mine.L (nis D)), .v (I (T : Nat)), .v (I W), .v (Mine.L [.int NE, .int ND]), .v (I GP), .v (I MD), .v (I 0), .v (Mine.L (M.map .int)), .v (Mine.L (AL.map .int)), .v (I (k : Nat)), .v (I (pu : Nat)), .v (I (top : Nat)), .v (Mine.L (MV.map .int)), .v (Mine.L (nis SD)), .v (lob E 0 [ch, 32, 9]), .v (lob R pu [ch, 32, 9]), .v (Mine.L (nis SE)), .v (Mine.L (nis SR)), (sl 0), (sl 1), (sl 2), (sl 3), (sl 4), (sl 5), (sl 6), .v (I Z), .v (I V), .v (I Q), .v (I (-V * W ^ 3)), s40, .no, .no, .no]) ⟨.no, rfl⟩ ?_ ?_ (by intro _; rfl) (by intro _ _; rfl))
  · rintro i t μ' H' hit ⟨s40, rfl⟩
    obtain ⟨sg, ⟨hsb, sa, sb⟩, rfl⟩ : ∃ sg : Int, (Bits sg 1 ∧ Spec G (d + 60) (.ref 129) [I (-sg * GP), I (sg * W ^ 4)] (TT [.int Q, .int (sg * (-V * W ^ 3))]) ∧ Spec G (d + 60) (.ref 129) [I (sg * GP), I (sg * W ^ 4)] (TT [.int (-1 - Q), .int (sg * (W ^ 4 - -V * W ^ 3))])) ∧ t = I sg := by
      match i, hit with
      | 0, hit => exact ⟨_, h40 1 (.inl rfl), (Option.some.inj hit).symm⟩
      | 1, hit => exact ⟨_, h40 (-1) (.inr rfl), (Option.some.inj hit).symm⟩
    refine As.name (w _) (by walk_at "hv") (Nat.le_of_ble_eq_true rfl) (.inl rfl) ?_
    dsimp only [List.set]
    refine Ex.cons (Ex1.ite (w _) (b := false) (Ts.cmp (w _) (Ev.call g (w _) m.idm (by walk_at "hv") m.kidm (EvL.cons (w _) (Ev.mulB (w _) 1 1500 (Ev.un (w _) (by walk_at "ev") (Un.neg_int _)) (by walk_at "ev") hsb.neg hGb (by decide)) (EvL.cons (w _) (Ev.mulB (w _) 1 300 (by walk_at "ev") (Ev.powk (w _) (K := 4) (k := 4) (by walk_at "ev") (by walk_at "ev") rfl hWb (by decide)) hsb (hWk 4 (by decide)) (by decide)) EvL.nil rfl) rfl) sa rfl)
      (Ev.tuple' (w _) (EvL.cons (w _) (by walk_at "ev") (EvL.cons (w _) (Ev.mulB (w _) 1 (8 + 300) (by walk_at "ev") (by walk_at "ev") hsb hRb (by decide)) EvL.nil rfl) rfl) (by walk_at "dl") rfl) (Cmp.ne_same (n := 2) (Shp.pair _ _) (by decide) rfl) rfl) (fun hf => by cases hf) fun _ => Ex.nil (w _) ?_)
    dsimp only [Then]
    refine Ex.cons (Ex1.ite (w _) (b := false) (Ts.cmp (w _) (Ev.call g (w _) m.idm (by walk_at "hv") m.kidm (EvL.cons (w _) (Ev.mulB (w _) 1 1500 (by walk_at "ev") (by walk_at "ev") hsb hGb (by decide)) (EvL.cons (w _) (Ev.mulB (w _) 1 300 (by walk_at "ev") (Ev.powk (w _) (K := 4) (k := 4) (by walk_at "ev") (by walk_at "ev") rfl hWb (by decide)) hsb (hWk 4 (by decide)) (by decide)) EvL.nil rfl) rfl) sb rfl)
      (Ev.tuple' (w _) (EvL.cons (w _) (Ev.bin (w _) (Ev.un (w _) (by walk_at "ev") (Un.neg_int 1)) (by walk_at "ev") (Bin.sub_int _ _)) (EvL.cons (w _) (Ev.mulB (w _) 1 (8 + 300 + 1) (by walk_at "ev") (Ev.bin (w _) (Ev.powk (w _) (K := 4) (k := 4) (by walk_at "ev") (by walk_at "ev") rfl hWb (by decide)) (by walk_at "ev") (Bin.sub_int _ _)) hsb (((hWk 4 (by decide)).mono (by decide)).sub hRb) (by decide)) EvL.nil rfl) rfl) (by walk_at "dl") rfl) (Cmp.ne_same (n := 2) (Shp.pair _ _) (by decide) rfl) rfl) (fun hf => by cases hf) fun _ => Ex.nil (w _) ?_)
    exact Ex.nil (w _) ⟨.v (I sg), rfl⟩
  rintro μ' ⟨s40, rfl⟩
  dsimp only [ZO]
  refine ExZ.cons (Ex1.set (w _) (t := I SM) (Ev.int_eq (Ev.bin (w _) (Ev.bin (w _) (by walk_at "ev") (Ev.mulB (w _) 66 10 (by walk_at "ev") (Ev.call g (w _) m.sum (by walk_at "hv") (Kp.builtin _) (by walk_at "evl") hs1 rfl) hWb hS1b (by decide)) (Bin.sub_int _ _)) (Ev.mulB (w _) 300 10 (Ev.powk (w _) (K := 2) (k := 2) (by walk_at "ev") (by walk_at "ev") rfl hWb (by decide)) (Ev.call g (w _) m.sum (by walk_at "hv") (Kp.builtin _) (r := I (tri2 E)) (EvL.cons (w _) (t := Mine.L ((E.map fun r => ((r * (r - 1) / 2 : Nat) : Int)).map .int)) (Ev.cong (t := Mine.L ((List.range ((nis E).map Tr.d).length).filterMap (fun j => (E[j]?).bind fun x : Nat => some (PyData.int ((x * (x - 1) / 2 : Nat) : Int))))) (by
    refine Ev.comp (X := fnCx G _ _ _ _ _ _ _ _ _ _ _ _) w _ (It.list (w _) (by walk_at "ev")) (by rw [List.length_map, nis_len, hEn]; decide) (by decide +kernel) (by dsimp only [List.map]) (by dsimp only [List.map]) rfl (by walk_at "cs") (by walk_at "hv") (.inl rfl) ?_ (by intro _; rfl)
    intro C cells' cm' H' w' j t ht
    obtain ⟨r, hr', rfl⟩ := nis_get ht
    have hr1 := hE1 r (List.mem_of_getElem? hr')
    simp only [hr', Option.bind_some]
    dsimp only [List.set]
    have hrb : Bits ((r : Nat) : Int) 20 := small_bits (Int.natCast_nonneg _) (by lia)
    exact ⟨TsAll.nil, Ev.int_eq (Ev.bin (w' _) (Ev.mulB (w' _) 20 21 (by walk_at "ev") (Ev.bin (w' _) (by walk_at "ev") (by walk_at "ev") (Bin.sub_int _ _)) hrb (hrb.sub (by unfold Bits; decide)) (by decide)) (by walk_at "ev") (Bin.floordiv_int _ _ (by decide) (noPylong' (Nat.le_trans (Bits.intBits (i := 2) (n := 5) (small_bits (by decide) (by decide))) (by decide))))) (half_fdiv r)⟩) (congrArg Mine.L (Eq.symm e3))) EvL.nil rfl) (Spec.sum _ _) rfl) (hWk 2 (by decide)) hC2b (by decide)) (Bin.add_int _ _)) hSM) (by walk_at "hv") (Nat.le_of_ble_eq_true rfl) (.inl rfl) rfl ?_)
  dsimp only [ZO, List.set]
  refine ExZ.cons (Ex1.for w (It.list (w _) (ds := [.int NE, .int ND]) (by walk_at "ev"))
    (fun i μ => ∃ s42 : Slot, μ = [.v (Mine.L (ns.map .int)), .v (Mine.L (base8.map .int)), s2, .v (Mine.L [.int t0, .int t1, .int t2, .int t3, .int t4, .int t5, .int t6, .int t7]), .v (Mine.L (nis [a, b, c])), .v (I (o : Nat)), .v (I (n : Nat)), .v (I f), .v (S (st [ch])), .v (Mine.L tab8), .v (Mine.L (nis E)), .v (Mine.L (nis D)), .v (I (T : Nat)), .v (I W), .v (Mine.L [.int NE, .int ND]), .v (I GP), .v (I MD), .v (I 0), .v (Mine.L (M.map .int)), .v (Mine.L (AL.map .int)), .v (I (k : Nat)), .v (I (pu : Nat)), .v (I (top : Nat)), .v (Mine.L (MV.map .int)), .v (Mine.L (nis SD)), .v (lob E 0 [ch, 32, 9]), .v (lob R pu [ch, 32, 9]), .v (Mine.L (nis SE)), .v (Mine.L (nis SR)), (sl 0), (sl 1), (sl 2), (sl 3), (sl 4), (sl 5), (sl 6), .v (I Z), .v (I V), .v (I Q), .v (I (-V * W ^ 3)), s40, .v (I SM), s42, .no]) ⟨.no, rfl⟩ ?_ ?_ (by intro _; rfl) (by intro _ _; rfl))
  · rintro i t μ' H' hit ⟨s42, rfl⟩
    obtain ⟨N, sn, rfl⟩ : ∃ N : Int, Spec G (d + 60) (.ref 129) [I N, I (-W ^ 3)] (TT [.int ((N - SM).fdiv (-W ^ 3)), .int SM]) ∧ t = I N := by
      match i, hit with
      | 0, hit => exact ⟨_, sp8 sfE hEb, (Option.some.inj hit).symm⟩
      | 1, hit => exact ⟨_, sp8 sfD hDb, (Option.some.inj hit).symm⟩
    refine As.name (w _) (by walk_at "hv") (Nat.le_of_ble_eq_true rfl) (.inl rfl) ?_
    dsimp only [List.set]
    refine Ex.cons (Ex1.ite (w _) (b := false) (Ts.cmp (w _) (Ev.call g (w _) m.idm (by walk_at "hv") m.kidm (EvL.cons (w _) (by walk_at "ev") (EvL.cons (w _) (Ev.un (w _) (Ev.powk (w _) (K := 3) (k := 3) (by walk_at "ev") (by walk_at "ev") rfl hWb (by decide)) (Un.neg_int _)) EvL.nil rfl) rfl) sn rfl)
      (Ev.tuple' (w _) (EvL.cons (w _) (Ev.bin (w _) (by walk_at "ev") (Ev.un (w _) (Ev.powk (w _) (K := 3) (k := 3) (by walk_at "ev") (by walk_at "ev") rfl hWb (by decide)) (Un.neg_int _)) (Bin.floordiv_int _ _ hW3n (hnW3 _))) (by walk_at "evl") rfl) (by walk_at "dl") rfl) (Cmp.ne_same (n := 2) (Shp.pair _ _) (by decide) rfl) rfl) (fun hf => by cases hf) fun _ => Ex.nil (w _) ?_)
    exact Ex.nil (w _) ⟨.v (I N), rfl⟩
  rintro μ' ⟨s42, rfl⟩
  dsimp only [ZO]
  refine ExZ.cons (Ex1.set (w _) (t := I (f ^ 3 * (-6 * V))) (Ev.int_eq (Ev.bin (w _) (Ev.call g (w _) m.cubes (by walk_at "hv") m.kcubes (EvL.cons (w _) (by walk_at "ev") (EvL.cons (w _) (by walk_at "ev") (EvL.cons (w _) (Ev.idx_list (w _) (by walk_at "ev") (by walk_at "ev") (by decide) (by decide) rfl rfl) EvL.nil rfl) rfl) rfl) sce rfl) (Ev.call g (w _) m.cubes (by walk_at "hv") m.kcubes (EvL.cons (w _) (by walk_at "ev") (EvL.cons (w _) (by walk_at "ev") (EvL.cons (w _) (Ev.idx_list (w _) (by walk_at "ev") (by walk_at "ev") (by decide) (by decide) rfl rfl) EvL.nil rfl) rfl) rfl) scd rfl) (Bin.sub_int _ _)) hcub) (by walk_at "hv") (Nat.le_of_ble_eq_true rfl) (.inl rfl) rfl ?_)
  dsimp only [ZO, List.set]
  exact ExZ.ret fun s h => and_any (w _) (Ev.cmp (w _) (Ev.call g (w _) m.idm (by walk_at "hv") m.kidm (EvL.cons (w _) (by walk_at "ev") (EvL.cons (w _) (Ev.powk (w _) (K := 3) (k := 3) (by walk_at "ev") (by walk_at "ev") rfl hfb (by decide)) EvL.nil rfl) rfl) sp9 rfl)
    (Ev.tuple' (w _) (EvL.cons (w _) (Ev.mulB (w _) 4 8 (Ev.un (w _) (by walk_at "ev") (Un.neg_int 6)) (by walk_at "ev") (by unfold Bits; decide) hVb (by decide)) (by walk_at "evl") rfl) (by walk_at "dl") rfl) (Cmp.eq_same (n := 2) (Shp.pair _ _) (by decide) rfl) rfl) (Tru.bool true) h (EvZ.refused m (w _) (Around.frames_deeper hA) rfl (Nat.le_trans (show 2 ≤ 60 by decide) (Nat.le_add_left 60 d)) (by walk_at "hv") (by walk_at "evl") rfl)
end

/-! # Z9 -/

theorem well_ints {P : Params} {h : Heap} : ∀ {ns : List Int} {vs : List Value}, WellAll P h vs (ofPys (ns.map .int)) → ∀ D : List Addr, AllRd h D vs (ns.map .int)
  | [], _, k, D => by cases k; exact .nil
  | n :: ns, _, k, D => by
    cases k with
    | cons a b => cases a with | int i t => exact .cons (.int _ _) (well_ints b D)
theorem law_end {w : World} {s₁ : Shared} {mg mb : Str → Option Value} {p' : Program} {loose : List Str} {mean mean' : ExcName → Option Value} {cl : Str → Option Addr} {ns : List Int} {a fa : Addr}
    (KX : (hd.heap_1 w.params).In s₁.heap) (T : Top p' loose mean mg mb s₁.heap) (hT9 : TabsAt [(114, 110), (107, 103)] s₁.heap) (hg : s₁.gens = #[]) (hm : mg "law" = some (.ref fa)) (hl : ns.length ≤ 63)
    (hlay : (PyData.list (ns.map .int)).layable0 = true) (wl : Well w.params s₁.heap (.ref a) (ofPy (.list (ns.map .int)))) :
    wpAny (model PySem.Challenge.rw_to0054_01.row.prog w) callerA (PySem.call (.ref fa) [.ref a]) (fun v s' => GoodWG PySem.Challenge.rw_to0054_01.row.claim cl mean' [ofPy (.list (ns.map .int))] s₁ (.ok (.ret v)) s')
      (fun e s' => GoodWG PySem.Challenge.rw_to0054_01.row.claim cl mean' [ofPy (.list (ns.map .int))] s₁ (.error e) s') s₁ := by
  have T' := ghost_top hT9 T
  have C' := ghost_code hT9
  have X' := ghost_K hT9 KX (by kernel_rfl)
  have hfa : fa = 224 := by
    have := mg_of KX T.g (show nsIn (hd.heap_1 w.params) mainGlobals "law" = some (some (.ref 224)) by kernel_rfl)
    rw [hm] at this; cases this; rfl
  subst hfa
  have m : Gm (⟨PySem.Challenge.rw_to0054_01.row.prog, w, ghostOf s₁.heap [(114, 110), (107, 103)], s₁.os, s₁.gens, hd.heap_1 w.params, mg, mb, [tabD, tabI]⟩ : Gd) w.params := by
    refine ⟨⟨X', T'.g, T'.b, T'.nolimit, T'.builtins, fun q hq => ?_, fun b hb => hideAll_none _ hb, fun r hr q hq e => ?_, T'.bmain⟩, rfl, rfl⟩
    · rcases List.mem_cons.mp hq with rfl | hq
      · exact C'.1
      · rcases List.mem_cons.mp hq with rfl | hq
        · exact C'.2.1
        · cases hq
    · rcases List.mem_cons.mp hr with rfl | hr
      · rcases List.mem_cons.mp hq with rfl | hq
        · rfl
        · rcases List.mem_cons.mp hq with rfl | hq
          · cases e
          · cases hq
      · rcases List.mem_cons.mp hr with rfl | hr
        · rcases List.mem_cons.mp hq with rfl | hq
          · cases e
          · rcases List.mem_cons.mp hq with rfl | hq
            · rfl
            · cases hq
        · cases hr
  have t1 := (hT9 (114, 110) (.head _))
  have t2 := (hT9 (107, 103) (.tail _ (.head _)))
  have gs : Good (⟨PySem.Challenge.rw_to0054_01.row.prog, w, ghostOf s₁.heap [(114, 110), (107, 103)], s₁.os, s₁.gens, hd.heap_1 w.params, mg, mb, [tabD, tabI]⟩ : Gd) s₁ := by
    refine ⟨fun b o e => of_hideAll _ e, fun q hq => ?_, rfl, rfl⟩
    rcases List.mem_cons.mp hq with rfl | hq
    · exact ⟨#[], t1.2, .inl rfl⟩
    · rcases List.mem_cons.mp hq with rfl | hq
      · exact ⟨#[], t2.2, .inl rfl⟩
      · cases hq
  have hargs : AllIs s₁.heap [110, 103] [.ref a] [Mine.L (ns.map .int)] := by
    refine .cons ?_ .nil
    have wl' : Well w.params s₁.heap (.ref a) (.list (ofPys (ns.map .int))) := wl
    cases wl' with
    | list e k =>
      refine Rd.list (n := 0) (fun hm => ?_) e (by simpa using well_ints k _)
      rcases List.mem_cons.mp hm with rfl | hm
      · have := t1.2; rw [e] at this; cases this
      · rcases List.mem_cons.mp hm with rfl | hm
        · have := t2.2; rw [e] at this; cases this
        · cases hm
  have walk := law_walk m (A := callerA) (s := s₁) (D0 := [110, 103]) (d := 0) rfl rfl (by decide +kernel) (by decide +kernel) gs (fun b hb => hb) (fun b hb => by
    rcases List.mem_cons.mp hb with rfl | hb
    · exact ⟨_, t1.2⟩
    · rcases List.mem_cons.mp hb with rfl | hb
      · exact ⟨_, t2.2⟩
      · cases hb) hargs hl (fun n hn => bits_of (PyData.bits_item_of_ints hlay hn))
  refine wpAny_mono walk (fun v s' h => ?_) fun _ _ x => x.elim
  obtain ⟨rfl, gd⟩ := h
  have keep : ∀ b o, b ∉ [110, 103] → s₁.heap.get? b = some o → s'.heap.get? b = some o := fun b o hb e => gd.stays b o (ghost_ne e hb)
  have grown : ∀ b o, b ∈ [110, 103] → s₁.heap.get? b = some o → isCodeTable s₁.heap b ∧ o = tabObj #[] ∧ ∃ ps, s'.heap.get? b = some (tabObj ps) := fun b o hb e => by
    rcases List.mem_cons.mp hb with rfl | hb
    · rw [t1.2] at e
      obtain ⟨ps, q, _⟩ := gd.tab tabD (.head _)
      exact ⟨(t1.1.tab t1.2).isCodeTable, (Option.some.inj e).symm, ps, q⟩
    · rcases List.mem_cons.mp hb with rfl | hb
      · rw [t2.2] at e
        obtain ⟨ps, q, _⟩ := gd.tab tabI (.tail _ (.head _))
        exact ⟨(t2.1.tab t2.2).isCodeTable, (Option.some.inj e).symm, ps, q⟩
      · cases hb
  refine ⟨.inl ⟨.bool true, .bool true, [], rfl, fun _ => rfl, ReadsW.bool true, by wrow_post, fun _ => ⟨List.nodup_nil, fun _ h => nomatch h⟩⟩, ⟨fun b o e => ?_, fun b o e => ?_⟩, gd.os, .of_eq (gd.gens.trans hg)⟩
  · by_cases hb : b ∈ [110, 103]
    · obtain ⟨ht, rfl, ps, hP⟩ := grown b o hb e
      exact .inr (.inl ⟨ht, rfl, #[], ps, rfl, by rw [Array.empty_append]; exact hP⟩)
    · exact .inl (keep b o hb e)
  · by_cases hb : b ∈ [110, 103]
    · obtain ⟨_, _, ps, hP⟩ := grown b o hb e
      exact ⟨_, hP⟩
    · exact ⟨o, keep b o hb e⟩
end Mine
open PySem PySem.W PyProof.Rows
set_option maxHeartbeats 8000000 in
theorem PySem.Challenge.cw_to0054_01_holds : PySem.Challenge.rw_to0054_01.Holds := by
  exact hd (by
    k_fill
    intro w s₀ s₁ mg mb G Y fa o pm cd doc dV kV ho hd hcd hD hmg hg args vals as hpre hlay hrd hwl hlo
    have KX := km_in_of Y
    km_tabs Y
    have X := (Ground.X G).1
    have V := (Ground.X G).2
    refine Ground.open G ?_
    intro T B D TE TW
    try (refine guard_noD D (by decide +kernel) ?_; clear D)
    km_lay T hmg ho hd cd
    wrow_args hpre hlay hrd hwl hlo
    rename Well _ _ _ _ => wl
    rename PyData.layable0 _ = true => hly
    refine Mine.law_end KX T hT9 hg hmg ?_ hly wl
    omega)
