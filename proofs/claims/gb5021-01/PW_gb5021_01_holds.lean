import PyProof.Rows.All
import Wide.All
import OpenK.AllK
import Wide.FinOn
import PySem.Challenge.RW_gb5021_01
set_option Elab.async false
set_option linter.all false
namespace Mine
section
open PySem PySem.W PyProof.Rows
set_option maxRecDepth 100000
set_option maxHeartbeats 8000000
open_top hd for PySem.Challenge.rw_gb5021_01
end
section
open PySem PySem.Spec PySem.Calls PyProof.Rows PySem.W
set_option maxRecDepth 100000

/-- pure values -/
inductive PV where
  | none | bool (b : Bool) | int (i : Int) | flt (x : UInt64) | str (s : Str)
  | tup (l : List PV) | list (l : List PV) | rlist (l : List PV) | obj (v : Value)

abbrev Store := String → Option PV
def Store.set (σ : Store) (x : String) (v : PV) : Store := fun y => if y = x then some v else σ y

abbrev Sub (h h' : Heap) : Prop := ∀ b o, h.get? b = some o → h'.get? b = some o
theorem Sub.refl (h : Heap) : Sub h h := fun _ _ e => e
theorem Sub.trans {h₁ h₂ h₃ : Heap} (a : Sub h₁ h₂) (b : Sub h₂ h₃) : Sub h₁ h₃ := fun x o e => b x o (a x o e)

/-- values that never change -/
inductive RepI (mt : Bool) (h : Heap) : PV → Value → Prop
  | none : RepI mt h .none .none
  | bool (b) : RepI mt h (.bool b) (.bool b)
  | int (i t) : RepI mt h (.int i) (.int i t)
  | flt (x t) : RepI mt h (.flt x) (.float x t)
  | str (s t) : RepI mt h (.str s) (.str s t)
  | obj (v) : RepI mt h (.obj v) v
  | tup {a : Addr} {l : List PV} {vs : List Value} : h.IsTuple a vs.toArray → l.length = vs.length → (∀ (i : Nat) (p : PV) (v : Value), l[i]? = some p → vs[i]? = some v → RepI mt h p v) → RepI mt h (.tup l) (.ref a)
  | rlist {a : Addr} {l : List PV} {vs : List Value} : mt = false → h.IsList a vs.toArray → l.length = vs.length → (∀ (i : Nat) (p : PV) (v : Value), l[i]? = some p → vs[i]? = some v → RepI mt h p v) → RepI mt h (.rlist l) (.ref a)

theorem IsTuple.sub {h h' : Heap} {a vs} (x : h.IsTuple a vs) (k : Sub h h') : h'.IsTuple a vs := let ⟨o, ho, r⟩ := x; ⟨o, k a o ho, r⟩
theorem IsList.sub {h h' : Heap} {a vs} (x : h.IsList a vs) (k : Sub h h') : h'.IsList a vs := let ⟨o, ho, r⟩ := x; ⟨o, k a o ho, r⟩
theorem PlainList.sub {h h' : Heap} {a vs} (x : h.PlainList a vs) (k : Sub h h') : h'.PlainList a vs := let ⟨o, ho⟩ := x; ⟨o, k a _ ho⟩

theorem RepI.sub {mt h h' pv v} (r : RepI mt h pv v) (k : Sub h h') : RepI mt h' pv v := by
  induction r with
  | none => exact .none
  | bool b => exact .bool b
  | int i t => exact .int i t
  | flt x t => exact .flt x t
  | str s t => exact .str s t
  | obj v => exact .obj v
  | tup ht hl _ ih => exact .tup (IsTuple.sub ht k) hl ih
  | rlist hm ht hl _ ih => exact .rlist hm (IsList.sub ht k) hl ih

abbrev Reps (mt : Bool) (h : Heap) (l : List PV) (vs : List Value) : Prop := l.length = vs.length ∧ ∀ (i : Nat) (p : PV) (v : Value), l[i]? = some p → vs[i]? = some v → RepI mt h p v
theorem Reps.sub {mt h h' l vs} (r : Reps mt h l vs) (k : Sub h h') : Reps mt h' l vs := ⟨r.1, fun i p v a b => (r.2 i p v a b).sub k⟩

/-- a value's form in the heap; a list of its own kind may change -/
inductive Rep (mt : Bool) (h : Heap) : PV → Value → Prop
  | imm {pv v} : RepI mt h pv v → Rep mt h pv v
  | list {a : Addr} {l : List PV} {vs : List Value} : h.PlainList a vs.toArray → Reps mt h l vs → Rep mt h (.list l) (.ref a)
theorem Rep.sub {mt h h' pv v} (r : Rep mt h pv v) (k : Sub h h') : Rep mt h' pv v := by
  cases r with
  | imm r => exact .imm (r.sub k)
  | list a b => exact .list (PlainList.sub a k) (b.sub k)

section inv
variable {mt : Bool} {h : Heap}
theorem Rep.toNone {v} (r : Rep mt h .none v) : v = .none := by cases r with | imm r => cases r; rfl
theorem Rep.toBool {b v} (r : Rep mt h (.bool b) v) : v = .bool b := by cases r with | imm r => cases r; rfl
theorem Rep.toInt {i v} (r : Rep mt h (.int i) v) : ∃ t, v = .int i t := by cases r with | imm r => cases r; exact ⟨_, rfl⟩
theorem Rep.toFlt {i v} (r : Rep mt h (.flt i) v) : ∃ t, v = .float i t := by cases r with | imm r => cases r; exact ⟨_, rfl⟩
theorem Rep.toStr {i v} (r : Rep mt h (.str i) v) : ∃ t, v = .str i t := by cases r with | imm r => cases r; exact ⟨_, rfl⟩
theorem Rep.toObj {u v} (r : Rep mt h (.obj u) v) : v = u := by cases r with | imm r => cases r; rfl
theorem Rep.toTup {l v} (r : Rep mt h (.tup l) v) : ∃ a vs, v = .ref a ∧ h.IsTuple a (List.toArray vs) ∧ Reps mt h l vs := by
  cases r with | imm r => cases r with | tup a b c => exact ⟨_, _, rfl, a, b, c⟩
theorem Rep.toRlist {l v} (r : Rep mt h (.rlist l) v) : mt = false ∧ ∃ a vs, v = .ref a ∧ h.IsList a (List.toArray vs) ∧ Reps mt h l vs := by
  cases r with | imm r => cases r with | rlist m a b c => exact ⟨m, _, _, rfl, a, b, c⟩
theorem Rep.toList {l v} (r : Rep mt h (.list l) v) : ∃ a vs, v = .ref a ∧ h.PlainList a (List.toArray vs) ∧ Reps mt h l vs := by
  cases r with
  | imm r => cases r
  | list a b => exact ⟨_, _, rfl, a, b⟩
end inv

/-- the value at a name -/
def VarAt (h : Heap) (env : Env) (x : Str) (v : Value) : Prop :=
  (env.kindOf x = some .local ∧ ∃ m, h.Ns env.locals m ∧ m x = some v) ∨ ((env.kindOf x = some .cell ∨ env.kindOf x = some .free) ∧ ∃ c, env.cells.lookup x = some c ∧ h.IsCell c (some v))
theorem VarAt.sub {h h' : Heap} {env x v} (r : VarAt h env x v) (k : Sub h h') : VarAt h' env x v := by
  rcases r with ⟨a, m, b, c⟩ | ⟨a, c, b, d⟩
  · exact .inl ⟨a, m, b.keeps k, c⟩
  · exact .inr ⟨a, c, b, d.keeps k⟩

structure Cx where
  prog : Program
  w : World
  A : Around
  mt : Bool
  B : Heap
  env : Env
  mg : Str → Option Value
  mb : Str → Option Value

structure Cx.Ok (c : Cx) : Prop where
  hh : c.A.handled = none
  hk : c.env.scope.kind = .function
  nl : c.B.NoLimit
  g : c.B.Ns c.env.globals c.mg
  b : c.B.Ns c.env.builtins c.mb
  bt : ∀ x : Str, x ≠ "__name__" → c.mb x = bootBuiltins x

abbrev Cx.M (c : Cx) : Model := model c.prog c.w

def Does {α : Type} (c : Cx) (t : Sem α) (s : Shared) (P : α → Heap → Prop) : Prop :=
  ∀ (Q : α → Shared → Prop) (E : Value → Shared → Prop), (∀ v h' tk, P v h' → Sub s.heap h' → Q v { s with heap := h', toks := tk }) → wpAny c.M c.A t Q E s

structure EInv (c : Cx) (σ : Store) (h : Heap) : Prop where
  base : Sub c.B h
  vars : ∀ x pv, σ x = some pv → ∃ v, VarAt h c.env (Str.ofString x) v ∧ Rep c.mt h pv v
theorem EInv.sub {c σ} {h h' : Heap} (I : EInv c σ h) (k : Sub h h') : EInv c σ h' :=
  ⟨I.base.trans k, fun x pv e => let ⟨v, a, b⟩ := I.vars x pv e; ⟨v, a.sub k, b.sub k⟩⟩

abbrev DE := Store → Option PV
abbrev DT := Store → Option Bool

def SoundE (c : Cx) (e : Expr) (f : DE) : Prop := ∀ σ pv s, f σ = some pv → EInv c σ s.heap → Does c (eval e c.env) s (fun v h' => Rep c.mt h' pv v)
def SoundT (c : Cx) (e : Expr) (f : DT) : Prop := ∀ σ b s, f σ = some b → EInv c σ s.heap → Does c (isTrue e c.env (eval e c.env)) s (fun v _ => v = b)
/-- a new list -/
def SoundN (c : Cx) (e : Expr) (f : Store → Option (List PV)) : Prop := ∀ σ l s, f σ = some l → EInv c σ s.heap →
  Does c (eval e c.env) s (fun v h' => ∃ a vs, v = .ref a ∧ s.heap.get? a = none ∧ h'.PlainList a (List.toArray vs) ∧ Reps c.mt h' l vs)

section
variable {α β : Type} {c : Cx} {s : Shared}
theorem Does.pure {a : α} {P : α → Heap → Prop} (h : P a s.heap) : Does c (Pure.pure a) s P := fun _ _ k => wpAny_pure (k a s.heap s.toks h (Sub.refl _))
theorem Does.mono {t : Sem α} {P P' : α → Heap → Prop} (h : Does c t s P) (k : ∀ v h', Sub s.heap h' → P v h' → P' v h') : Does c t s P' :=
  fun Q E q => h Q E fun v h' tk p u => q v h' tk (k v h' u p) u
theorem Does.bind {m : Sem α} {f : α → Sem β} {P : α → Heap → Prop} {P' : β → Heap → Prop} (h : Does c m s P)
    (k : ∀ v (h' : Heap) tk, P v h' → Sub s.heap h' → Does c (f v) { s with heap := h', toks := tk } P') : Does c (m >>= f) s P' :=
  fun Q E q => wpAny_bind (h _ E fun v h' tk p u => k v h' tk p u Q E fun v' h'' tk' p' u' => q v' h'' tk' p' (u.trans u'))
/-- use in a rule: the goal's own shape -/
theorem Does.use {t : Sem α} {P : α → Heap → Prop} (h : Does c t s P) {Q : α → Shared → Prop} {E : Value → Shared → Prop}
    (k : ∀ v h' tk, P v h' → Sub s.heap h' → Q v { s with heap := h', toks := tk }) : wpAny c.M c.A t Q E s := h Q E k
end

theorem SoundE.congr {c e f g} (h : SoundE c e f) (k : ∀ σ, g σ = f σ) : SoundE c e g := fun σ pv s e' I => h σ pv s (k σ ▸ e') I

/-! names and constants -/
section
variable {c : Cx} (ok : c.Ok)
include ok
theorem load_var {x : Str} {v : Value} {s : Shared} {Q : Value → Shared → Prop} {E : Value → Shared → Prop} (hv : VarAt s.heap c.env x v) (hd' : (x == ("__classdict__" : Str)) = false) (h : Q v s) :
    wpAny c.M c.A (loadName c.env x) Q E s := by
  rcases hv with ⟨a, m, b, d⟩ | ⟨a | a, d, b, e⟩
  · exact wpAny_loadName_local ok.hk a b d h
  · exact wpAny_loadName_cell ok.hk a b e h
  · exact wpAny_loadName_free ok.hk a b e h hd'

theorem SoundE.var (x : String) (pos : Pos) (hd : (Str.ofString x == ("__debug__" : Str)) = false := by decide) (hd' : (Str.ofString x == ("__classdict__" : Str)) = false := by decide) :
    SoundE c (.Name (Str.ofString x) pos) (fun σ => σ x) := by
  intro σ pv s e I Q E k
  obtain ⟨v, a, b⟩ := I.vars x pv e
  exact wpAny_Name (load_var ok a hd' (k v s.heap s.toks b (Sub.refl _))) hd

omit ok in
theorem SoundE.int (i : Int) (k pos) : SoundE c (.Constant (.int i) k pos) (fun _ => some (.int i)) := by
  intro σ pv s e I Q E q; cases e
  exact fun _ _ _ => q _ s.heap _ (.imm (.int i _)) (Sub.refl _)
omit ok in
theorem SoundE.flt (x : UInt64) (k pos) : SoundE c (.Constant (.float x) k pos) (fun _ => some (.flt x)) := by
  intro σ pv s e I Q E q; cases e
  exact fun _ _ _ => q _ s.heap _ (.imm (.flt x _)) (Sub.refl _)
omit ok in
theorem SoundE.str (x : Str) (k pos) : SoundE c (.Constant (.str x) k pos) (fun _ => some (.str x)) := by
  intro σ pv s e I Q E q; cases e
  exact fun _ _ _ => q _ s.heap _ (.imm (.str x _)) (Sub.refl _)
omit ok in
theorem SoundE.bool (x : Bool) (k pos) : SoundE c (.Constant (.bool x) k pos) (fun _ => some (.bool x)) := by
  intro σ pv s e I Q E q; cases e
  exact fun _ _ _ => q _ s.heap _ (.imm (.bool x)) (Sub.refl _)
omit ok in
theorem SoundE.none_ (k pos) : SoundE c (.Constant .none k pos) (fun _ => some .none) := by
  intro σ pv s e I Q E q; cases e
  exact fun _ _ _ => q _ s.heap _ (.imm .none) (Sub.refl _)
end
end
section
open PySem PySem.Spec PySem.Calls PyProof.Rows PySem.W
set_option maxRecDepth 100000

abbrev Small (i : Int) : Prop := i.natAbs < 18446744073709551616
theorem small_mul {a b : Int} (h : Small a) : IntMulOk a b := IntMulOk.of_left (intBits_le_64 (by unfold Small at h; omega) (by unfold Small at h; omega))
theorem small_fits {a : Int} (h : Small a) : a.natAbs < 2 ^ 1023 := Nat.lt_trans h (by decide +kernel)
theorem small_over {a : Int} (h : Small a) : ¬ Flt.Over a := fun o => by
  have := Flt.fin_of_fits (n := a)
  exact absurd (Flt.inf_of_over o) (Float64.ofInt_fits (small_fits h))

def binV (op : Operator) (a b : PV) : Option PV :=
  match op, a, b with
  | .Add, .int a, .int b => some (.int (a + b))
  | .Sub, .int a, .int b => some (.int (a - b))
  | .Mult, .int a, .int b => if Small a then some (.int (a * b)) else none
  | .FloorDiv, .int a, .int b => if b ≠ 0 ∧ b.natAbs < 1073741824 then some (.int (a.fdiv b)) else none
  | .Mod, .int a, .int b => if b ≠ 0 then some (.int (a.fmod b)) else none
  | .Div, .int a, .int b => if Small a ∧ b ≠ 0 then some (.flt (Float64.ofFrac (decide (a < 0) != decide (b < 0)) a.natAbs b.natAbs)) else none
  | .Add, .str a, .str b => if a.length + b.length ≤ 1000 then some (.str (a ++ b)) else none
  | .Add, .flt a, .flt b => some (.flt (Float64.add a b))
  | .Sub, .flt a, .flt b => some (.flt (Float64.sub a b))
  | .Mult, .flt a, .flt b => some (.flt (Float64.mul a b))
  | .Div, .flt a, .flt b => if Float64.isZero b = true then none else some (.flt (Float64.div a b))
  | .Add, .flt a, .int n => if Small n then some (.flt (Float64.add a (Float64.ofInt n))) else none
  | .Sub, .flt a, .int n => if Small n then some (.flt (Float64.sub a (Float64.ofInt n))) else none
  | .Sub, .int n, .flt a => if Small n then some (.flt (Float64.sub (Float64.ofInt n) a)) else none
  | .Mult, .flt a, .int n => if Small n then some (.flt (Float64.mul a (Float64.ofInt n))) else none
  | .Mult, .int n, .flt a => if Small n then some (.flt (Float64.mul (Float64.ofInt n) a)) else none
  | .Div, .flt a, .int n => if Small n ∧ n ≠ 0 then some (.flt (Float64.div a (Float64.ofInt n))) else none
  | .Div, .int n, .flt a => if Small n ∧ ¬ Float64.isZero a = true then some (.flt (Float64.div (Float64.ofInt n) a)) else none
  | _, _, _ => none

section
variable {c : Cx} {s : Shared}
/-- the commonest end: a value made with a new token -/
theorem Does.tok {α : Type} {t : Sem α} {v : α} {P : α → Heap → Prop} (p : P v s.heap) (h : ∀ (Q : α → Shared → Prop) (E : Value → Shared → Prop), (∀ tk, Q v { s with toks := tk }) → wpAny c.M c.A t Q E s) : Does c t s P :=
  fun Q E k => h Q E fun tk => k v s.heap tk p (Sub.refl _)
theorem binV_sound (ok : c.Ok) {op : Operator} {a b r : PV} {va vb : Value} (e : binV op a b = some r) (ha : Rep c.mt s.heap a va) (hb : Rep c.mt s.heap b vb) :
    Does c (binaryOp op va vb) s (fun v h' => Rep c.mt h' r v) := by
  unfold binV at e
  split at e
  · obtain ⟨t, rfl⟩ := ha.toInt; obtain ⟨u, rfl⟩ := hb.toInt; cases e
    exact fun Q E k => add_int (k _ s.heap _ (.imm (.int ..)) (Sub.refl _))
  · obtain ⟨t, rfl⟩ := ha.toInt; obtain ⟨u, rfl⟩ := hb.toInt; cases e
    exact fun Q E k => sub_int (k _ s.heap _ (.imm (.int ..)) (Sub.refl _))
  · obtain ⟨t, rfl⟩ := ha.toInt; obtain ⟨u, rfl⟩ := hb.toInt
    split at e
    · rename_i hs; cases e
      exact fun Q E k => mul_int (k _ s.heap _ (.imm (.int ..)) (Sub.refl _)) (small_mul hs)
    · cases e
  · obtain ⟨t, rfl⟩ := ha.toInt; obtain ⟨u, rfl⟩ := hb.toInt
    split at e
    · rename_i hs; cases e
      exact fun Q E k => floordiv_int hs.1 (k _ s.heap _ (.imm (.int ..)) (Sub.refl _)) (.inl (PyProof.noPylong_small hs.2))
    · cases e
  · obtain ⟨t, rfl⟩ := ha.toInt; obtain ⟨u, rfl⟩ := hb.toInt
    split at e
    · rename_i hs; cases e
      exact fun Q E k => mod_int' hs (k _ s.heap _ (.imm (.int ..)) (Sub.refl _))
    · cases e
  · obtain ⟨t, rfl⟩ := ha.toInt; obtain ⟨u, rfl⟩ := hb.toInt
    split at e
    · rename_i hs; cases e
      exact fun Q E k => Flt.div_ii_fits ok.hh (small_fits hs.1) (fun h => absurd h hs.2) (fun _ _ => k _ s.heap _ (.imm (.flt ..)) (Sub.refl _))
    · cases e
  · obtain ⟨t, rfl⟩ := ha.toStr; obtain ⟨u, rfl⟩ := hb.toStr
    split at e
    · rename_i hs; cases e
      exact fun Q E k => SB.add (fun t' j => k _ s.heap _ (.imm (.str ..)) (Sub.refl _)) (Nat.le_trans hs (by decide +kernel))
    · cases e
  · obtain ⟨t, rfl⟩ := ha.toFlt; obtain ⟨u, rfl⟩ := hb.toFlt; cases e
    exact fun Q E k => add_float (k _ s.heap _ (.imm (.flt ..)) (Sub.refl _))
  · obtain ⟨t, rfl⟩ := ha.toFlt; obtain ⟨u, rfl⟩ := hb.toFlt; cases e
    exact fun Q E k => sub_float (k _ s.heap _ (.imm (.flt ..)) (Sub.refl _))
  · obtain ⟨t, rfl⟩ := ha.toFlt; obtain ⟨u, rfl⟩ := hb.toFlt; cases e
    exact fun Q E k => mul_float (k _ s.heap _ (.imm (.flt ..)) (Sub.refl _))
  · obtain ⟨t, rfl⟩ := ha.toFlt; obtain ⟨u, rfl⟩ := hb.toFlt
    split at e
    · cases e
    · rename_i hs; cases e
      exact fun Q E k => AutoFloatOps.truediv_1 hs (k _ s.heap _ (.imm (.flt ..)) (Sub.refl _))
  · obtain ⟨t, rfl⟩ := ha.toFlt; obtain ⟨u, rfl⟩ := hb.toInt
    split at e
    · rename_i hs; cases e
      exact fun Q E k => add_fi_fits (small_fits hs) (k _ s.heap _ (.imm (.flt ..)) (Sub.refl _))
    · cases e
  · obtain ⟨t, rfl⟩ := ha.toFlt; obtain ⟨u, rfl⟩ := hb.toInt
    split at e
    · rename_i hs; cases e
      exact fun Q E k => sub_fi_fits (small_fits hs) (k _ s.heap _ (.imm (.flt ..)) (Sub.refl _))
    · cases e
  · obtain ⟨t, rfl⟩ := ha.toInt; obtain ⟨u, rfl⟩ := hb.toFlt
    split at e
    · rename_i hs; cases e
      exact fun Q E k => sub_if_fits (small_fits hs) (k _ s.heap _ (.imm (.flt ..)) (Sub.refl _))
    · cases e
  · obtain ⟨t, rfl⟩ := ha.toFlt; obtain ⟨u, rfl⟩ := hb.toInt
    split at e
    · rename_i hs; cases e
      exact fun Q E k => mul_fi_fits (small_fits hs) (k _ s.heap _ (.imm (.flt ..)) (Sub.refl _))
    · cases e
  · obtain ⟨t, rfl⟩ := ha.toInt; obtain ⟨u, rfl⟩ := hb.toFlt
    split at e
    · rename_i hs; cases e
      exact fun Q E k => mul_if_fits (small_fits hs) (k _ s.heap _ (.imm (.flt ..)) (Sub.refl _))
    · cases e
  · obtain ⟨t, rfl⟩ := ha.toFlt; obtain ⟨u, rfl⟩ := hb.toInt
    split at e
    · rename_i hs; cases e
      exact fun Q E k => Flt.truediv_fi ok.hh (fun h => absurd h (small_over hs.1)) (fun h => absurd h hs.2) (fun _ _ => k _ s.heap _ (.imm (.flt ..)) (Sub.refl _))
    · cases e
  · obtain ⟨t, rfl⟩ := ha.toInt; obtain ⟨u, rfl⟩ := hb.toFlt
    split at e
    · rename_i hs; cases e
      exact fun Q E k => Flt.truediv_if ok.hh (fun h => absurd h (small_over hs.1)) (fun _ h => absurd h hs.2) (fun _ _ => k _ s.heap _ (.imm (.flt ..)) (Sub.refl _))
    · cases e
  · cases e

def iaddV (a b : PV) : Option PV :=
  match a, b with
  | .int a, .int b => some (.int (a + b))
  | .flt a, .flt b => some (.flt (Float64.add a b))
  | _, _ => none
theorem iaddV_sound {a b r : PV} {va vb : Value} (e : iaddV a b = some r) (ha : Rep c.mt s.heap a va) (hb : Rep c.mt s.heap b vb) :
    Does c (inplaceOp .Add va vb) s (fun v h' => Rep c.mt h' r v) := by
  unfold iaddV at e
  split at e
  · obtain ⟨t, rfl⟩ := ha.toInt; obtain ⟨u, rfl⟩ := hb.toInt; cases e
    exact fun Q E k => iadd_int (k _ s.heap _ (.imm (.int ..)) (Sub.refl _))
  · obtain ⟨t, rfl⟩ := ha.toFlt; obtain ⟨u, rfl⟩ := hb.toFlt; cases e
    exact fun Q E k => iadd_float (k _ s.heap _ (.imm (.flt ..)) (Sub.refl _))
  · cases e
def idivV (a b : PV) : Option PV :=
  match a, b with
  | .flt a, .flt b => if Float64.isZero b = true then none else some (.flt (Float64.div a b))
  | _, _ => none

/-- comparisons -/
def intsOf : List PV → Option (List Int)
  | [] => some []
  | .int i :: r => (intsOf r).map (i :: ·)
  | _ :: _ => none
theorem ints_are {mt h} : ∀ {l : List PV} {ns : List Int} {vs : List Value}, intsOf l = some ns → Reps mt h l vs → IntsAre vs ns
  | [], ns, vs, e, r => by
    cases e
    have : vs = [] := List.eq_nil_of_length_eq_zero (by have := r.1; simp at this; omega)
    subst this; exact .nil
  | p :: l, ns, vs, e, r => by
    cases vs with
    | nil => have := r.1; simp at this
    | cons v vs =>
      cases p with
      | int i =>
        simp only [intsOf, Option.map_eq_some_iff] at e
        obtain ⟨ns', e', rfl⟩ := e
        have h0 := r.2 0 (.int i) v rfl rfl
        cases h0
        exact .cons _ _ (ints_are e' ⟨by have := r.1; simpa using this, fun i p v a b => r.2 (i + 1) p v (by simpa using a) (by simpa using b)⟩)
      | _ => cases e

def cmpV (op : CmpOp) (a b : PV) : Option Bool :=
  match op, a, b with
  | .Eq, .int a, .int b => some (a == b)
  | .NotEq, .int a, .int b => some (a != b)
  | .Lt, .int a, .int b => some (decide (a < b))
  | .LtE, .int a, .int b => some (decide (a ≤ b))
  | .Gt, .int a, .int b => some (decide (b < a))
  | .GtE, .int a, .int b => some (decide (b ≤ a))
  | .Eq, .str a, .str b => some (a == b)
  | .NotEq, .str a, .str b => some (a != b)
  | .In, .str a, .str b => some (Txt.contains b a)
  | .NotIn, .str a, .str b => some (!Txt.contains b a)
  | .NotIn, .int a, .list l => (intsOf l).map fun ns => !(ns.any (· == a))
  | .LtE, .flt a, .flt b => some (Float64.cmp a b == some .lt || Float64.cmp a b == some .eq)
  | .Lt, .flt a, .int b => some (Float64.cmpInt a b == some .lt)
  | .IsNot, .none, .none => some false
  | .IsNot, .int _, .none => some true
  | .IsNot, .flt _, .none => some true
  | _, _, _ => none

theorem cmpV_sound {op : CmpOp} {a b : PV} {r : Bool} {va vb : Value} (e : cmpV op a b = some r) (ha : Rep c.mt s.heap a va) (hb : Rep c.mt s.heap b vb) :
    Does c (compareOp op va vb) s (fun v _ => v = .bool r) := by
  unfold cmpV at e
  split at e
  · obtain ⟨t, rfl⟩ := ha.toInt; obtain ⟨u, rfl⟩ := hb.toInt; cases e; exact fun Q E k => eq_int (k _ s.heap _ rfl (Sub.refl _))
  · obtain ⟨t, rfl⟩ := ha.toInt; obtain ⟨u, rfl⟩ := hb.toInt; cases e; exact fun Q E k => ne_int (k _ s.heap _ rfl (Sub.refl _))
  · obtain ⟨t, rfl⟩ := ha.toInt; obtain ⟨u, rfl⟩ := hb.toInt; cases e; exact fun Q E k => lt_int (k _ s.heap _ rfl (Sub.refl _))
  · obtain ⟨t, rfl⟩ := ha.toInt; obtain ⟨u, rfl⟩ := hb.toInt; cases e; exact fun Q E k => le_int (k _ s.heap _ rfl (Sub.refl _))
  · obtain ⟨t, rfl⟩ := ha.toInt; obtain ⟨u, rfl⟩ := hb.toInt; cases e; exact fun Q E k => gt_int (k _ s.heap _ rfl (Sub.refl _))
  · obtain ⟨t, rfl⟩ := ha.toInt; obtain ⟨u, rfl⟩ := hb.toInt; cases e; exact fun Q E k => ge_int (k _ s.heap _ rfl (Sub.refl _))
  · obtain ⟨t, rfl⟩ := ha.toStr; obtain ⟨u, rfl⟩ := hb.toStr; cases e; exact fun Q E k => PyProof.Rows.eq_str (k _ s.heap _ rfl (Sub.refl _))
  · obtain ⟨t, rfl⟩ := ha.toStr; obtain ⟨u, rfl⟩ := hb.toStr; cases e; exact fun Q E k => PyProof.Rows.ne_str (k _ s.heap _ rfl (Sub.refl _))
  · obtain ⟨t, rfl⟩ := ha.toStr; obtain ⟨u, rfl⟩ := hb.toStr; cases e; exact fun Q E k => SB.contains (k _ s.heap _ rfl (Sub.refl _))
  · obtain ⟨t, rfl⟩ := ha.toStr; obtain ⟨u, rfl⟩ := hb.toStr; cases e; exact fun Q E k => SB.notContains (k _ s.heap _ rfl (Sub.refl _))
  · obtain ⟨t, rfl⟩ := ha.toInt; obtain ⟨a', vs, rfl, hp, hr⟩ := hb.toList
    simp only [Option.map_eq_some_iff] at e
    obtain ⟨ns, e', rfl⟩ := e
    exact fun Q E k => notin_list_ints hp.isList (ints_are e' hr) (k _ s.heap _ rfl (Sub.refl _))
  · obtain ⟨t, rfl⟩ := ha.toFlt; obtain ⟨u, rfl⟩ := hb.toFlt; cases e; exact fun Q E k => AutoFloatOps.le_0 (k _ s.heap _ rfl (Sub.refl _))
  · obtain ⟨t, rfl⟩ := ha.toFlt; obtain ⟨u, rfl⟩ := hb.toInt; cases e; exact fun Q E k => lt_fi (k _ s.heap _ rfl (Sub.refl _))
  · cases ha.toNone; cases hb.toNone; cases e; exact fun Q E k => wpAny_isNot_self rfl (k _ s.heap _ rfl (Sub.refl _))
  · obtain ⟨t, rfl⟩ := ha.toInt; cases hb.toNone; cases e; exact fun Q E k => wpAny_isNot_other rfl (by intro h; cases h) (k _ s.heap _ rfl (Sub.refl _))
  · obtain ⟨t, rfl⟩ := ha.toFlt; cases hb.toNone; cases e; exact fun Q E k => wpAny_isNot_other rfl (by intro h; cases h) (k _ s.heap _ rfl (Sub.refl _))
  · cases e

/-- truth -/
def truthV : PV → Option Bool
  | .none => some false
  | .bool b => some b
  | .int i => some (i != 0)
  | .str x => if x.length < 1000 then some ((x.length : Int) != 0) else none
  | .list l => if l.length < 1000 then some (!l.isEmpty) else none
  | .tup l => if l.length < 1000 then some (!l.isEmpty) else none
  | .rlist l => if l.length < 1000 then some (!l.isEmpty) else none
  | _ => none
theorem empty_eq {l : List PV} {vs : List Value} (h : l.length = vs.length) : (!vs.toArray.isEmpty) = !l.isEmpty := by
  cases vs with
  | nil => rw [List.eq_nil_of_length_eq_zero h]; rfl
  | cons v vs => cases l with
    | nil => simp at h
    | cons => rfl
theorem truthV_sound {a : PV} {r : Bool} {va : Value} (e : truthV a = some r) (ha : Rep c.mt s.heap a va) : Does c (truthy va) s (fun v _ => v = r) := by
  unfold truthV at e
  split at e
  · cases ha.toNone; cases e; exact fun Q E k => truthy_none (k _ s.heap _ rfl (Sub.refl _))
  · cases ha.toBool; cases e; exact fun Q E k => wpAny_truthy_bool (k _ s.heap _ rfl (Sub.refl _))
  · obtain ⟨t, rfl⟩ := ha.toInt; cases e; exact fun Q E k => PyProof.Rows.truthy_int (k _ s.heap _ rfl (Sub.refl _))
  · obtain ⟨t, rfl⟩ := ha.toStr
    split at e
    · cases e; exact fun Q E k => P.truthy_str (by omega) (k _ s.heap _ rfl (Sub.refl _))
    · cases e
  · obtain ⟨a', vs, rfl, hp, hr⟩ := ha.toList
    split at e
    · cases e
      refine fun Q E k => wpAny_truthy_list hp.isList (by have := hr.1; rw [List.size_toArray]; omega) (k _ s.heap _ ?_ (Sub.refl _))
      exact empty_eq hr.1
    · cases e
  · obtain ⟨a', vs, rfl, hp, hr⟩ := ha.toTup
    split at e
    · cases e
      refine fun Q E k => PyProof.Rows.truthy_tuple hp (by have := hr.1; rw [List.size_toArray]; omega) (k _ s.heap _ ?_ (Sub.refl _))
      exact empty_eq hr.1
    · cases e
  · obtain ⟨_, a', vs, rfl, hp, hr⟩ := ha.toRlist
    split at e
    · cases e
      refine fun Q E k => wpAny_truthy_list hp (by have := hr.1; rw [List.size_toArray]; omega) (k _ s.heap _ ?_ (Sub.refl _))
      exact empty_eq hr.1
    · cases e
  · cases e
end
end
section
open PySem PySem.Spec PySem.Calls PyProof.Rows PySem.W
set_option maxRecDepth 100000

def PV.imm : PV → Bool
  | .list _ => false
  | _ => true
theorem Rep.toI {mt h pv v} (r : Rep mt h pv v) (i : pv.imm = true) : RepI mt h pv v := by
  cases r with
  | imm r => exact r
  | list => cases i

/-- lists of values -/
inductive RepL (mt : Bool) (h : Heap) : List PV → List Value → Prop
  | nil : RepL mt h [] []
  | cons {p v l vs} : Rep mt h p v → RepL mt h l vs → RepL mt h (p :: l) (v :: vs)
theorem RepL.sub {mt h h' l vs} (r : RepL mt h l vs) (k : Sub h h') : RepL mt h' l vs := by
  induction r with
  | nil => exact .nil
  | cons a _ ih => exact .cons (a.sub k) ih
theorem RepL.len {mt h l vs} (r : RepL mt h l vs) : l.length = vs.length := by
  induction r with
  | nil => rfl
  | cons _ _ ih => simp [ih]
theorem RepL.toReps {mt h} : ∀ {l vs}, RepL mt h l vs → l.all PV.imm = true → Reps mt h l vs
  | _, _, .nil, _ => ⟨rfl, fun i p v a => by simp at a⟩
  | _, _, .cons (l := l) (vs := vs) a r, e => by
    simp only [List.all_cons, Bool.and_eq_true] at e
    have q := r.toReps e.2
    refine ⟨by simp [q.1], fun i p v x y => ?_⟩
    cases i with
    | zero => simp at x y; subst x y; exact a.toI e.1
    | succ i => simp at x y; exact q.2 i p v x y
theorem Reps.toL {mt h} : ∀ {l : List PV} {vs : List Value}, Reps mt h l vs → RepL mt h l vs
  | [], [], _ => .nil
  | [], _ :: _, r => by have := r.1; simp at this
  | _ :: _, [], r => by have := r.1; simp at this
  | p :: l, v :: vs, r => .cons (.imm (r.2 0 p v rfl rfl)) (Reps.toL ⟨by have := r.1; simpa using this, fun i p v a b => r.2 (i + 1) p v (by simpa using a) (by simpa using b)⟩)

inductive SoundEs (c : Cx) : List Expr → List DE → Prop
  | nil : SoundEs c [] []
  | cons {e es f fs} (h : SoundE c e f) (r : SoundEs c es fs) (hs : ∀ rest, starEach (e :: rest) c.env = (false, eval e c.env) :: starEach rest c.env := by intro _; rfl) : SoundEs c (e :: es) (f :: fs)
def seqE : List DE → Store → Option (List PV)
  | [], _ => some []
  | f :: fs, σ => (f σ).bind fun v => (seqE fs σ).map (v :: ·)

section
variable {c : Cx} {s : Shared}
theorem spliced_sound {es fs} (hs : SoundEs c es fs) : ∀ {σ pvs s}, seqE fs σ = some pvs → EInv c σ s.heap → Does c (spliced (starEach es c.env)) s (fun vs h' => RepL c.mt h' pvs vs) := by
  induction hs with
  | nil => intro σ pvs s e I; cases e; exact .pure .nil
  | @cons e es f fs h r hs ih =>
    intro σ pvs s e I Q E k
    simp only [seqE, Option.bind_eq_some_iff, Option.map_eq_some_iff] at e
    obtain ⟨v, e1, l, e2, rfl⟩ := e
    rw [hs]
    refine Calls.spliced_cons (h σ v s e1 I _ E fun v' h' tk r' k' => ?_)
    exact ih e2 (I.sub k') _ E fun vs h'' tk' r'' k'' => k _ h'' tk' (.cons (r'.sub k'') r'') (k'.trans k'')
theorem backTo_plain {es fs} (hs : SoundEs c es fs) (pos : Pos) : backTo pos (starEach es c.env) = starEach es c.env ∧ (starEach es c.env).any (·.1) = false := by
  induction hs with
  | nil => exact ⟨rfl, rfl⟩
  | cons h r hs ih =>
    rw [hs]
    refine ⟨?_, by simpa using ih.2⟩
    show (false, _) :: backTo pos (starEach _ c.env) = _
    rw [ih.1]; rfl

theorem evalArgs_list {f : Value} {e : Expr} {es : List Expr} {g fs} (hs : SoundEs c (e :: es) (g :: fs)) {pos : Pos} {Q : Args → Shared → Prop} {E : Value → Shared → Prop}
    (h : wpAny c.M c.A (spliced (starEach (e :: es) c.env)) (fun vs s' => Q ⟨vs, []⟩ s') E s) :
    wpAny c.M c.A (evalArgs f true (backTo pos (starEach (e :: es) c.env)) []) Q E s := by
  rw [(backTo_plain hs pos).1]
  cases hs with
  | cons a r q =>
    rw [q] at h ⊢
    exact Calls.evalArgs_plain h

/-! operators -/
theorem SoundE.bin {l r : Expr} {f g : DE} (ok : c.Ok) (hl : SoundE c l f) (op : Operator) (pos : Pos) (hr : SoundE c r g) :
    SoundE c (.BinOp l op r pos) (fun σ => (f σ).bind fun a => (g σ).bind fun b => binV op a b) := by
  intro σ pv s e I Q E k
  simp only [Option.bind_eq_some_iff] at e
  obtain ⟨a, e1, b, e2, e3⟩ := e
  refine wpAny_BinOp (hl σ a s e1 I _ E fun va h1 tk1 r1 k1 => ?_)
  refine hr σ b _ e2 (I.sub k1) _ E fun vb h2 tk2 r2 k2 => ?_
  exact binV_sound (s := { s with heap := h2, toks := tk2 }) ok e3 (r1.sub k2) r2 _ E fun v h3 tk3 r3 k3 => k v h3 tk3 r3 (k1.trans (k2.trans k3))
theorem SoundE.cmp {l r : Expr} {f g : DE} (hl : SoundE c l f) (op : CmpOp) (pos : Pos) (hr : SoundE c r g) (hm : behindInMarks op r = false := by with_unfolding_all rfl) :
    SoundE c (.Compare l [op] [r] pos) (fun σ => (f σ).bind fun a => (g σ).bind fun b => (cmpV op a b).map .bool) := by
  intro σ pv s e I Q E k
  simp only [Option.bind_eq_some_iff, Option.map_eq_some_iff] at e
  obtain ⟨a, e1, b, e2, r, e3, rfl⟩ := e
  refine wpAny_Compare1 (hl σ a s e1 I _ E fun va h1 tk1 r1 k1 => ?_) hm
  refine hr σ b _ e2 (I.sub k1) _ E fun vb h2 tk2 r2 k2 => ?_
  exact cmpV_sound (s := { s with heap := h2, toks := tk2 }) e3 (r1.sub k2) r2 _ E fun v h3 tk3 r3 k3 => k v h3 tk3 (r3 ▸ .imm (.bool _)) (k1.trans (k2.trans k3))
theorem SoundE.ifexp {t a b : Expr} {f : DT} {g h : DE} (ht : SoundT c t f) (pos : Pos) (ha : SoundE c a g) (hb : SoundE c b h) :
    SoundE c (.IfExp t a b pos) (fun σ => (f σ).bind fun x => if x = true then g σ else h σ) := by
  intro σ pv s e I Q E k
  simp only [Option.bind_eq_some_iff] at e
  obtain ⟨x, e1, e2⟩ := e
  refine wpAny_IfExp (ht σ x s e1 I _ E fun vb h1 tk1 r1 k1 => ?_)
  subst r1
  cases vb with
  | true => exact ha σ pv _ (by simpa using e2) (I.sub k1) _ E fun v h2 tk2 r2 k2 => k v h2 tk2 r2 (k1.trans k2)
  | false => exact hb σ pv _ (by simpa using e2) (I.sub k1) _ E fun v h2 tk2 r2 k2 => k v h2 tk2 r2 (k1.trans k2)

/-! tests -/
theorem SoundT.cmp {l r : Expr} {f g : DE} (hl : SoundE c l f) (op : CmpOp) (pos : Pos) (hr : SoundE c r g) (hm : behindInMarks op r = false := by with_unfolding_all rfl) :
    SoundT c (.Compare l [op] [r] pos) (fun σ => (f σ).bind fun a => (g σ).bind fun b => cmpV op a b) := by
  intro σ pv s e I Q E k
  simp only [Option.bind_eq_some_iff] at e
  obtain ⟨a, e1, b, e2, e3⟩ := e
  refine wpAny_isTrue_Compare1 (hl σ a s e1 I _ E fun va h1 tk1 r1 k1 => ?_) hm
  refine hr σ b _ e2 (I.sub k1) _ E fun vb h2 tk2 r2 k2 => ?_
  refine cmpV_sound (s := { s with heap := h2, toks := tk2 }) e3 (r1.sub k2) r2 _ E fun v h3 tk3 r3 k3 => ?_
  subst r3
  exact wpAny_truthy_bool (k _ h3 tk3 rfl (k1.trans (k2.trans k3)))
theorem SoundT.not {e : Expr} {f : DT} (h : SoundT c e f) (pos : Pos) : SoundT c (.UnaryOp .Not e pos) (fun σ => (f σ).map fun b => !b) := by
  intro σ pv s e1 I Q E k
  simp only [Option.map_eq_some_iff] at e1
  obtain ⟨b, e1, rfl⟩ := e1
  exact wpAny_isTrue_Not (h σ b s e1 I _ E fun v h1 tk1 r1 k1 => k _ h1 tk1 (r1 ▸ rfl) k1)
/-- a test that is a value -/
theorem SoundT.val {e : Expr} {f : DE} (h : SoundE c e f) (hI : isTrue e c.env (eval e c.env) = (do let v ← eval e c.env; standAt e.pos; holding [v] (truthy v)) := by rfl) :
    SoundT c e (fun σ => (f σ).bind truthV) := by
  intro σ b s e1 I Q E k
  simp only [Option.bind_eq_some_iff] at e1
  obtain ⟨v, e1, e2⟩ := e1
  rw [hI]
  refine wpAny_bind (h σ v s e1 I _ E fun v' h1 tk1 r1 k1 => wpAny_bind (wpAny_standAt (wpAny_holding ?_)))
  exact truthV_sound (s := { s with heap := h1, toks := tk1 }) e2 r1 _ E fun v h3 tk3 r3 k3 => k v h3 tk3 r3 (k1.trans k3)
inductive SoundTs (c : Cx) : List Expr → List DT → Prop
  | nil : SoundTs c [] []
  | cons {e es f fs} (h : SoundT c e f) (r : SoundTs c es fs) : SoundTs c (e :: es) (f :: fs)
def andT : List DT → DT
  | [], _ => some true
  | f :: r, σ => (f σ).bind fun b => if b = true then andT r σ else some false
def orT : List DT → DT
  | [], _ => some false
  | f :: r, σ => (f σ).bind fun b => if b = true then some true else orT r σ
theorem SoundT.and {es : List Expr} {fs : List DT} (h : SoundTs c es fs) (pos : Pos) : SoundT c (.BoolOp .And es pos) (andT fs) := by
  suffices ∀ {σ b s}, andT fs σ = some b → EInv c σ s.heap → Does c (allTrue .And es c.env) s (fun v _ => v = b) from fun σ b s e I => this e I
  induction h with
  | nil => intro σ b s e I; cases e; exact .pure rfl
  | @cons e es f fs h r ih =>
    intro σ b s e1 I Q E k
    simp only [andT, Option.bind_eq_some_iff] at e1
    obtain ⟨x, e1, e2⟩ := e1
    show wpAny c.M c.A (do match BoolOp.And, ← isTrue e c.env (eval e c.env) with
      | .And, false => pure false
      | .Or, true => pure true
      | _, _ => allTrue .And es c.env) Q E s
    refine wpAny_bind (h σ x s e1 I _ E fun v h1 tk1 r1 k1 => ?_)
    subst r1
    cases v with
    | false => simp at e2; subst e2; exact wpAny_pure (k _ h1 tk1 rfl k1)
    | true => exact ih (by simpa using e2) (I.sub k1) _ E fun v h2 tk2 r2 k2 => k v h2 tk2 r2 (k1.trans k2)
theorem SoundT.or {es : List Expr} {fs : List DT} (h : SoundTs c es fs) (pos : Pos) : SoundT c (.BoolOp .Or es pos) (orT fs) := by
  suffices ∀ {σ b s}, orT fs σ = some b → EInv c σ s.heap → Does c (allTrue .Or es c.env) s (fun v _ => v = b) from fun σ b s e I => this e I
  induction h with
  | nil => intro σ b s e I; cases e; exact .pure rfl
  | @cons e es f fs h r ih =>
    intro σ b s e1 I Q E k
    simp only [orT, Option.bind_eq_some_iff] at e1
    obtain ⟨x, e1, e2⟩ := e1
    show wpAny c.M c.A (do match BoolOp.Or, ← isTrue e c.env (eval e c.env) with
      | .And, false => pure false
      | .Or, true => pure true
      | _, _ => allTrue .Or es c.env) Q E s
    refine wpAny_bind (h σ x s e1 I _ E fun v h1 tk1 r1 k1 => ?_)
    subst r1
    cases v with
    | true => simp at e2; subst e2; exact wpAny_pure (k _ h1 tk1 rfl k1)
    | false => exact ih (by simpa using e2) (I.sub k1) _ E fun v h2 tk2 r2 k2 => k v h2 tk2 r2 (k1.trans k2)
/-- «a and b and ..» as a value, its parts bools -/
def andE : List DE → DE
  | [], _ => none
  | [f], σ => f σ
  | f :: r, σ => (f σ).bind fun v => (truthV v).bind fun t => if t = true then andE r σ else some v
theorem SoundE.and {es : List Expr} {fs : List DE} (h : SoundEs c es fs) (pos : Pos) : SoundE c (.BoolOp .And es pos) (andE fs) := by
  suffices ∀ {σ b s}, andE fs σ = some b → EInv c σ s.heap → Does c (boolOp pos .And (evalEach es c.env)) s (fun v h' => Rep c.mt h' b v) from fun σ b s e I => this e I
  induction h with
  | nil => intro σ b s e I; cases e
  | @cons e es f fs h r hs ih =>
    intro σ b s e1 I Q E k
    cases r with
    | nil => exact h σ b s e1 I Q E k
    | @cons e' es' f' fs' h' r' hs' =>
      simp only [andE, Option.bind_eq_some_iff] at e1
      obtain ⟨x, e1, y, e2, e3⟩ := e1
      show wpAny c.M c.A (do
        let v ← eval e c.env
        standAt pos
        let t ← holding [v] (truthy v)
        match BoolOp.And, t with
        | .And, false | .Or, true => pure v
        | _, _ => boolOp pos .And (evalEach (e' :: es') c.env)) Q E s
      refine wpAny_bind (h σ x s e1 I _ E fun v h1 tk1 r1 k1 => wpAny_bind (wpAny_standAt (wpAny_bind (wpAny_holding ?_))))
      refine truthV_sound (s := { s with heap := h1, toks := tk1 }) e2 r1 _ E fun t h2 tk2 r2 k2 => ?_
      subst r2
      cases t with
      | false => simp at e3; subst e3; exact wpAny_pure (k _ h2 tk2 (r1.sub k2) (k1.trans k2))
      | true => exact ih (by simpa using e3) (I.sub (k1.trans k2)) _ E fun v h2' tk2 r2 k2' => k v h2' tk2 r2 ((k1.trans k2).trans k2')

/-! displays -/
theorem SoundE.tup {es : List Expr} {fs : List DE} (h : SoundEs c es fs) (n : Nat) (pos : Pos) :
    SoundE c (.Tuple es n pos) (fun σ => (seqE fs σ).bind fun l => if l.all PV.imm = true ∧ l.length < 1000 then some (.tup l) else none) := by
  intro σ pv s e I Q E k
  simp only [Option.bind_eq_some_iff] at e
  obtain ⟨l, e1, e2⟩ := e
  split at e2
  · rename_i hc; cases e2
    show wpAny c.M c.A (do standAt pos; newTuple (← spliced (backTo pos (starEach es c.env)))) Q E s
    rw [(backTo_plain h pos).1]
    refine wpAny_bind (wpAny_standAt (wpAny_bind (spliced_sound h e1 I _ E fun vs h1 tk1 r1 k1 => ?_)))
    have hlen := r1.len
    refine wpAny_newObj_type (k _ _ _ ?_ (k1.trans fun b o e => Heap.get?_push_of_some _ e)) (by show vs.toArray.size ≤ sizeLine; rw [List.size_toArray, sizeLine_eq]; omega)
    exact .imm (.tup ⟨_, Heap.get?_push_size _ rfl, rfl, _, rfl⟩ hlen ((r1.toReps hc.1).sub fun b o e => Heap.get?_push_of_some _ e).2)
  · cases e2
theorem SoundN.list {es : List Expr} {fs : List DE} (h : SoundEs c es fs) (pos : Pos) :
    SoundN c (.List es pos) (fun σ => (seqE fs σ).bind fun l => if l.all PV.imm = true ∧ l.length < 1000 then some l else none) := by
  intro σ pv s e I Q E k
  simp only [Option.bind_eq_some_iff] at e
  obtain ⟨l, e1, e2⟩ := e
  split at e2
  · rename_i hc; cases e2
    show wpAny c.M c.A (do standAt pos; newList (← spliced (backTo pos (starEach es c.env)))) Q E s
    rw [(backTo_plain h pos).1]
    refine wpAny_bind (wpAny_standAt (wpAny_bind (spliced_sound h e1 I _ E fun vs h1 tk1 r1 k1 => ?_)))
    have hlen := r1.len
    refine wpAny_newObj_type (k _ _ _ ?_ (k1.trans fun b o e => Heap.get?_push_of_some _ e)) (by show vs.toArray.size ≤ sizeLine; rw [List.size_toArray, sizeLine_eq]; omega)
    refine ⟨_, vs, rfl, ?_, ⟨_, Heap.get?_push_size _ rfl⟩, (r1.toReps hc.1).sub fun b o e => Heap.get?_push_of_some _ e⟩
    cases hq : s.heap.get? h1.objs.size with
    | none => rfl
    | some o => exact absurd (Heap.lt_size (k1 _ _ hq)) (Nat.lt_irrefl _)
  · cases e2
theorem SoundE.ofN {e : Expr} {f : Store → Option (List PV)} (h : SoundN c e f) : SoundE c e (fun σ => (f σ).map .list) := by
  intro σ pv s e1 I Q E k
  simp only [Option.map_eq_some_iff] at e1
  obtain ⟨l, e1, rfl⟩ := e1
  exact h σ l s e1 I Q E fun v h' tk ⟨a, vs, e2, _, hp, hr⟩ k' => k v h' tk (e2 ▸ .list hp hr) k'
end
end
section
open PySem PySem.Spec PySem.Calls PyProof.Rows PySem.W
set_option maxRecDepth 100000

/-- what a built-in function makes of values -/
def BiOk (c : Cx) (id : String) (bi : List PV → Option PV) : Prop := ∀ s pvs vs r, bi pvs = some r → RepL c.mt s.heap pvs vs → Does c (call (.builtin id) vs) s (fun v h' => Rep c.mt h' r v)

section
variable {c : Cx} {s : Shared}
theorem SoundE.callB (ok : c.Ok) {id : String} {e : Expr} {es : List Expr} {f : DE} {fs : List DE} (x : Str) (np pos : Pos) (hb : bootBuiltins x = some (.builtin id)) (hx : c.env.kindOf x = some .globalImplicit) (hn : c.mg x = none)
    {bi : List PV → Option PV} (hbi : BiOk c id bi) (h : SoundEs c (e :: es) (f :: fs)) (hd : (x == ("__debug__" : Str)) = false := by decide) (hnm : x ≠ "__name__" := by decide) :
    SoundE c (.Call (.Name x np) (e :: es) [] pos) (fun σ => (seqE (f :: fs) σ).bind bi) := by
  intro σ pv s e1 I Q E k
  simp only [Option.bind_eq_some_iff] at e1
  obtain ⟨pvs, e1, e2⟩ := e1
  show wpAny c.M c.A (do callWith pos (← eval (.Name x np) c.env) [] (backTo pos (starEach (e :: es) c.env)) (backToKw pos (keywordEach [] c.env))) Q E s
  refine wpAny_bind (Name_function_global ok.hk hx (loadGlobal_builtin (ok.g.keeps I.base) hn (ok.b.keeps I.base) ((ok.bt x hnm).trans hb) ?_) hd)
  refine Calls.callWith_builtin (by rw [(backTo_plain h pos).1]; exact (backTo_plain h pos).2) (evalArgs_list h (spliced_sound h e1 I _ E fun vs h1 tk1 r1 k1 => ?_))
  exact hbi { s with heap := h1, toks := tk1 } pvs vs pv e2 r1 _ E fun v h2 tk2 r2 k2 => k v h2 tk2 r2 (k1.trans k2)

def lenV : List PV → Option PV
  | [.str x] => if x.length < 1000 then some (.int x.length) else none
  | [.list l] => if l.length < 1000 then some (.int l.length) else none
  | [.tup l] => if l.length < 1000 then some (.int l.length) else none
  | [.rlist l] => if l.length < 1000 then some (.int l.length) else none
  | _ => none
theorem lenV_ok : BiOk c "len" lenV := by
  intro s pvs vs r e h Q E k
  unfold lenV at e
  split at e
  · cases h with | cons a b => cases b; obtain ⟨t, rfl⟩ := a.toStr; split at e
                               · cases e; exact P.len_str (by omega) (k _ s.heap _ (.imm (.int ..)) (Sub.refl _))
                               · cases e
  · cases h with | cons a b => cases b; obtain ⟨t, vs, rfl, hp, hr⟩ := a.toList; split at e
                               · cases e; refine PyProof.Rows.len_list hp.isList (by rw [List.size_toArray, ← hr.1]; omega) (k _ s.heap _ ?_ (Sub.refl _))
                                 rw [List.size_toArray, ← hr.1]; exact .imm (.int ..)
                               · cases e
  · cases h with | cons a b => cases b; obtain ⟨t, vs, rfl, hp, hr⟩ := a.toTup; split at e
                               · cases e; refine PyProof.Rows.len_tuple hp (by rw [List.size_toArray, ← hr.1]; omega) (k _ s.heap _ ?_ (Sub.refl _))
                                 rw [List.size_toArray, ← hr.1]; exact .imm (.int ..)
                               · cases e
  · cases h with | cons a b => cases b; obtain ⟨_, t, vs, rfl, hp, hr⟩ := a.toRlist; split at e
                               · cases e; refine PyProof.Rows.len_list hp (by rw [List.size_toArray, ← hr.1]; omega) (k _ s.heap _ ?_ (Sub.refl _))
                                 rw [List.size_toArray, ← hr.1]; exact .imm (.int ..)
                               · cases e
  · cases e
def maxV : List PV → Option PV
  | [.int a, .int b] => some (.int (if b > a then b else a))
  | _ => none
theorem maxV_ok (ok : c.Ok) : BiOk c "max" maxV := by
  intro s pvs vs r e h Q E k
  unfold maxV at e
  split at e
  · cases h with | cons a b => cases b with | cons b d => cases d; obtain ⟨t, rfl⟩ := a.toInt; obtain ⟨u, rfl⟩ := b.toInt; cases e
                                                          refine max_two_ints ok.hh fun h' tk k' => ?_
                                                          split <;> rename_i hc
                                                          · rw [if_pos hc] at k; exact k _ h' tk (.imm (.int ..)) k'
                                                          · rw [if_neg hc] at k; exact k _ h' tk (.imm (.int ..)) k'
  · cases e
def minV : List PV → Option PV
  | [.int a, .int b] => some (.int (if b < a then b else a))
  | _ => none
theorem minV_ok (ok : c.Ok) : BiOk c "min" minV := by
  intro s pvs vs r e h Q E k
  unfold minV at e
  split at e
  · cases h with | cons a b => cases b with | cons b d => cases d; obtain ⟨t, rfl⟩ := a.toInt; obtain ⟨u, rfl⟩ := b.toInt; cases e
                                                          refine min_two_ints ok.hh fun h' tk k' => ?_
                                                          split <;> rename_i hc
                                                          · rw [if_pos hc] at k; exact k _ h' tk (.imm (.int ..)) k'
                                                          · rw [if_neg hc] at k; exact k _ h' tk (.imm (.int ..)) k'
  · cases e
def absV : List PV → Option PV
  | [.int a] => some (.int (if a < 0 then -a else a))
  | [.flt x] => some (.flt (Float64.abs x))
  | _ => none
theorem absV_ok : BiOk c "abs" absV := by
  intro s pvs vs r e h Q E k
  unfold absV at e
  split at e
  · cases h with | cons a b => cases b; obtain ⟨t, rfl⟩ := a.toInt; cases e; exact PyProof.Rows.call_abs_int fun u tk => k _ s.heap _ (.imm (.int ..)) (Sub.refl _)
  · cases h with | cons a b => cases b; obtain ⟨t, rfl⟩ := a.toFlt; cases e; exact Flt.call_abs_float (k _ s.heap _ (.imm (.flt ..)) (Sub.refl _))
  · cases e
def ordV : List PV → Option PV
  | [.str x] => if x.length = 1 then some (.int (x.cps.getD 0 0 : Nat)) else none
  | _ => none
theorem ordV_ok : BiOk c "ord" ordV := by
  intro s pvs vs r e h Q E k
  unfold ordV at e
  split at e
  · cases h with | cons a b => cases b; obtain ⟨t, rfl⟩ := a.toStr; split at e
                               · rename_i h1; cases e; exact ord_of_one h1 (k _ s.heap _ (.imm (.int ..)) (Sub.refl _))
                               · cases e
  · cases e
/-- any of a list of bools -/
def boolsOf : List PV → Option (List Bool)
  | [] => some []
  | .bool i :: r => (boolsOf r).map (i :: ·)
  | _ :: _ => none
theorem bools_are {mt h} : ∀ {l : List PV} {ns : List Bool} {vs : List Value}, boolsOf l = some ns → Reps mt h l vs → vs = ns.map .bool
  | [], ns, vs, e, r => by
    cases e
    exact List.eq_nil_of_length_eq_zero (by have := r.1; simp at this; omega)
  | p :: l, ns, vs, e, r => by
    cases vs with
    | nil => have := r.1; simp at this
    | cons v vs =>
      cases p with
      | bool i =>
        simp only [boolsOf, Option.map_eq_some_iff] at e
        obtain ⟨ns', e', rfl⟩ := e
        have h0 := r.2 0 (.bool i) v rfl rfl
        cases h0
        have q := bools_are (l := l) (ns := ns') (vs := vs) e' (⟨by have := r.1; simpa using this, fun i p v a b => r.2 (i + 1) p v (by simpa using a) (by simpa using b)⟩ : Reps mt h l vs)
        rw [q]; rfl
      | _ => cases e
def anyV : List PV → Option PV
  | [.list l] => (boolsOf l).map fun bs => .bool (bs.any id)
  | _ => none
theorem anyV_ok (ok : c.Ok) : BiOk c "any" anyV := by
  intro s pvs vs r e h Q E k
  unfold anyV at e
  split at e
  · cases h with
    | cons a b =>
      cases b
      obtain ⟨t, vs, rfl, hp, hr⟩ := a.toList
      simp only [Option.map_eq_some_iff] at e
      obtain ⟨bs, e, rfl⟩ := e
      have hv := bools_are e hr
      subst hv
      have hl := hp.isList
      have hlt : t < s.heap.objs.size := by obtain ⟨_, e, _⟩ := hl; exact Heap.lt_size e
      refine call_any_walk (wpAny_pyIter_list hl ⟨s.heap.objs.size, [s.heap.objs.size, t], [s.heap.objs.size], (bs.map Value.bool).toArray.size, _, _, fun i => bs.getD i false, rfl,
        Walks.list (A := c.A.in1) ok.hh _ _ (Nat.ne_of_lt hlt) (bs.map Value.bool).toArray, ⟨⟨_, Heap.get?_push_size _ rfl, rfl, rfl⟩, hl.push _⟩, ?_, fun h' tk hk => ?_⟩)
      · intro i v s' Q' E' hP hq
        have : bs[i]? = some (match v with | .bool b => b | _ => false) ∧ ∃ b, v = .bool b := by
          simp only [List.getElem?_toArray, List.getElem?_map, Option.map_eq_some_iff] at hP
          obtain ⟨b, hb, rfl⟩ := hP
          exact ⟨hb, b, rfl⟩
        obtain ⟨h1, b, rfl⟩ := this
        refine wpAny_truthy_bool ?_
        have e2 : bs.getD i false = b := by simp [List.getD, h1]
        have hq' : Q' (bs.getD i false) s' := hq
        rw [e2] at hq'; exact hq'
      · have e3 : (List.range (bs.map Value.bool).toArray.size).any (fun i => bs.getD i false) = bs.any id := by
          rw [List.size_toArray, List.length_map]
          rw [Bool.eq_iff_iff]
          simp only [List.any_eq_true, List.mem_range, id]
          constructor
          · rintro ⟨i, hi, hb⟩; exact ⟨bs.getD i false, by rw [List.getD, List.getElem?_eq_getElem hi]; exact List.getElem_mem hi, hb⟩
          · rintro ⟨b, hm, hb⟩; obtain ⟨i, hi, e⟩ := List.getElem_of_mem hm; exact ⟨i, hi, by rw [List.getD, List.getElem?_eq_getElem hi]; simpa [e] using hb⟩
        rw [e3]
        exact k _ h' tk (.imm (.bool _)) fun b o e => hk b o (fun hm => by rcases List.mem_singleton.mp hm with rfl; exact Nat.lt_irrefl _ (Heap.lt_size e)) (Heap.get?_push_of_some _ e)
  · cases e

/-- sorted: a new list -/
def sortI (l : List Int) : List Int := l.mergeSort (fun a b => decide (a ≤ b))
theorem sortI_eq {a b : List Int} (p : a.Perm b) (s : a.Pairwise (· ≤ ·)) : a = sortI b := by
  have h2 : (sortI b).Pairwise (· ≤ ·) := by
    have := List.pairwise_mergeSort (le := fun a b : Int => decide (a ≤ b)) (fun a b c x y => by simp at *; omega) (fun a b => by simp; omega) b
    exact this.imp (by intro a b h; simpa using h)
  exact List.Perm.eq_of_pairwise (le := fun a b : Int => a ≤ b) (fun a b _ _ x y => Int.le_antisymm x y) s h2 (p.trans (List.mergeSort_perm b _).symm)
theorem reps_ints {mt h} : ∀ {ns : List Int} {vs : List Value}, IntsAre vs ns → Reps mt h (ns.map .int) vs
  | _, _, .nil => ⟨rfl, fun i p v a => by simp at a⟩
  | _, _, .cons n t r => by
    have q := reps_ints (mt := mt) (h := h) r
    refine ⟨by simp [q.1.symm], fun i p v x y => ?_⟩
    cases i with
    | zero => simp at x y; subst x y; exact .int ..
    | succ i => simp at x y; exact q.2 i p v (by simpa using x) y
theorem SoundN.sorted (ok : c.Ok) {e : Expr} {f : DE} (np pos : Pos) (hx : c.env.kindOf (Str.ofString "sorted") = some .globalImplicit) (hn : c.mg (Str.ofString "sorted") = none) (h : SoundEs c [e] [f]) :
    SoundN c (.Call (.Name (Str.ofString "sorted") np) [e] [] pos) (fun σ => (f σ).bind fun v => match v with
      | .list l => (intsOf l).bind fun ns => if ns.length < 64 then some ((sortI ns).map .int) else none
      | _ => none) := by
  intro σ l s e1 I Q E k
  simp only [Option.bind_eq_some_iff] at e1
  obtain ⟨v, e1, e2⟩ := e1
  split at e2
  · rename_i l0
    simp only [Option.bind_eq_some_iff] at e2
    obtain ⟨ns, e2, e3⟩ := e2
    split at e3
    · rename_i h64; cases e3
      show wpAny c.M c.A (do callWith pos (← eval (.Name (Str.ofString "sorted") np) c.env) [] (backTo pos (starEach [e] c.env)) (backToKw pos (keywordEach [] c.env))) Q E s
      refine wpAny_bind (Name_function_global ok.hk hx (loadGlobal_builtin (ok.g.keeps I.base) hn (ok.b.keeps I.base) ((ok.bt (Str.ofString "sorted") (by decide)).trans (by rfl)) ?_) (by decide))
      refine Calls.callWith_builtin (id := "sorted") (by rw [(backTo_plain h pos).1]; exact (backTo_plain h pos).2) (evalArgs_list h (spliced_sound h (σ := σ) (pvs := [.list l0]) (by simp [seqE, e1]) I _ E fun vs h1 tk1 r1 k1 => ?_))
      cases r1 with
      | cons a b =>
        cases b
        obtain ⟨t, vs, rfl, hp, hr⟩ := a.toList
        have hI := ints_are e2 hr
        refine sorted_ints hp.isList hI (by rw [hI.length]; exact h64) fun out ns' a1 a2 a3 => ?_
        have hs := sortI_eq a2 a3
        subst hs
        obtain ⟨e', he⟩ := sortedAll_at h1 vs out
        refine k _ _ _ ⟨_, out.toList, rfl, ?_, ⟨e', by rw [Array.toArray_toList]; exact he⟩, reps_ints a1⟩ (k1.trans fun _ _ => sortedAll_old)
        cases hq : s.heap.get? (h1.objs.size + 1) with
        | none => rfl
        | some o => exact absurd (Heap.lt_size (k1 _ _ hq)) (fun h => Nat.lt_irrefl _ (Nat.lt_of_succ_lt h))
    · cases e3
  · cases e2
end
end
section
open PySem PySem.Spec PySem.Calls PyProof.Rows PySem.W PySem.Builtin PySem.Builtin.Str
set_option maxRecDepth 100000

def chr (x : Str) (i : Nat) : Str := ⟨#[x.cps.getD i 0]⟩
theorem charAt_eq {x : Str} {i : Int} (h0 : 0 ≤ i) (h1 : i < x.length) : Txt.charAt x i = some (x.cps.getD i.toNat 0) := by
  unfold Txt.charAt seqIndex?
  have e : (if i < 0 then i + (x.length : Int) else i) = i := if_neg (by omega)
  have hc : (decide (0 ≤ i) && decide (i < (x.length : Int))) = true := by simp [h0, h1]
  simp only [e, hc, if_true, Option.bind_some]
  have hl : i.toNat < x.cps.size := by have : x.length = x.cps.size := rfl; omega
  rw [Array.getElem?_eq_getElem hl]
  simp [Array.getD, hl]
theorem item_eq {x : Str} {i : Int} (h0 : 0 ≤ i) (h1 : i < x.length) : Txt.item x i = chr x i.toNat := by
  unfold Txt.item chr; rw [charAt_eq h0 h1]; rfl

def subV (a b : PV) : Option PV :=
  match a, b with
  | .str x, .int i => if 0 ≤ i ∧ i < x.length ∧ x.length < 1000 then some (.str (chr x i.toNat)) else none
  | .list l, .int i => if 0 ≤ i ∧ l.length < 1000 then l[i.toNat]? else none
  | .rlist l, .int i => if 0 ≤ i ∧ l.length < 1000 then l[i.toNat]? else none
  | _, _ => none

section
variable {c : Cx} {s : Shared}
theorem get_of {mt h} {l : List PV} {vs : List Value} (r : Reps mt h l vs) {i : Nat} {p : PV} (e : l[i]? = some p) : ∃ v, vs.toArray[i]? = some v ∧ RepI mt h p v := by
  have hl : i < vs.length := by have := (List.getElem?_eq_some_iff.mp e).1; rw [r.1] at this; exact this
  exact ⟨vs[i], by simp [hl], r.2 i p _ e (by simp [hl])⟩
theorem SoundE.sub {o i : Expr} {f g : DE} (ho : SoundE c o f) (hi : SoundE c i g) (pos : Pos)
    (hs : ∀ a b, subscripted i false a b = operate [a, b] (getItem a b) := by intro _ _; rfl) (ht : ∀ a r, letTemporaryGo o a r = pure () := by intro _ _; rfl) :
    SoundE c (.Subscript o i pos) (fun σ => (f σ).bind fun a => (g σ).bind fun b => subV a b) := by
  intro σ pv s e I Q E k
  simp only [Option.bind_eq_some_iff] at e
  obtain ⟨a, e1, b, e2, e3⟩ := e
  refine Subscript_ (ho σ a s e1 I _ E fun va h1 tk1 r1 k1 => ?_)
  refine hi σ b _ e2 (I.sub k1) _ E fun vb h2 tk2 r2 k2 => ?_
  have r1' := r1.sub k2
  unfold subV at e3
  split at e3
  · obtain ⟨t, rfl⟩ := r1'.toStr; obtain ⟨u, rfl⟩ := r2.toInt
    split at e3
    · rename_i x i hc; cases e3
      refine subscriptTail_builtin (T := "str") (typeIs_str _ _ _) F.slot_str_getitem.lookup ?_ (hs _ _) (ht _)
      refine SB.getItem (by unfold fitsSsize; simp; omega) (by rw [charAt_eq hc.1 hc.2.1]; rfl) ?_
      rw [item_eq hc.1 hc.2.1]
      exact k _ h2 _ (.imm (.str ..)) (k1.trans k2)
    · cases e3
  · obtain ⟨t, vs, rfl, hp, hr⟩ := r1'.toList; obtain ⟨u, rfl⟩ := r2.toInt
    split at e3
    · rename_i l i hc
      obtain ⟨v, hv, hrv⟩ := get_of hr e3
      have hlt := (List.getElem?_eq_some_iff.mp e3).1
      refine subscriptTail_builtin (T := "list") hp.isList.typeIs slot_list_getitem.lookup ?_ (hs _ _) (ht _)
      exact wpAny_getItem_list hp.isList hc.1 (by omega) hv (k _ h2 _ (.imm hrv) (k1.trans k2))
    · cases e3
  · obtain ⟨_, t, vs, rfl, hp, hr⟩ := r1'.toRlist; obtain ⟨u, rfl⟩ := r2.toInt
    split at e3
    · rename_i l i hc
      obtain ⟨v, hv, hrv⟩ := get_of hr e3
      have hlt := (List.getElem?_eq_some_iff.mp e3).1
      refine subscriptTail_builtin (T := "list") hp.typeIs slot_list_getitem.lookup ?_ (hs _ _) (ht _)
      exact wpAny_getItem_list hp hc.1 (by omega) hv (k _ h2 _ (.imm hrv) (k1.trans k2))
    · cases e3
  · cases e3

/-! slices -/
/-- a slice's part -/
def SoundP (c : Cx) (e : Option Expr) (f : Store → Option (Option Int)) : Prop := ∀ σ p s, f σ = some p → EInv c σ s.heap → Does c (evalPart e c.env) s (fun v _ => match p with | none => v = .none | some i => ∃ t, v = .int i t)
theorem SoundP.no : SoundP c none (fun _ => some none) := by
  intro σ p s e I; cases e
  exact .pure rfl
theorem SoundP.at {e : Expr} {f : DE} (h : SoundE c e f) : SoundP c (some e) (fun σ => (f σ).bind fun v => match v with | .int i => some (some i) | _ => none) := by
  intro σ p s e1 I Q E k
  simp only [Option.bind_eq_some_iff] at e1
  obtain ⟨v, e1, e2⟩ := e1
  split at e2
  · cases e2
    exact h σ _ s e1 I Q E fun v h1 tk1 r1 k1 => k v h1 tk1 r1.toInt k1
  · cases e2
theorem SoundE.sliceStr {o : Expr} {f : DE} {lo hi : Option Expr} {g h : Store → Option (Option Int)} (ho : SoundE c o f) (hl : SoundP c lo g) (hu : SoundP c hi h) (p pos : Pos)
    (ht : ∀ a r, letTemporaryGo o a r = pure () := by intro _ _; rfl) :
    SoundE c (.Subscript o (.Slice lo hi none p) pos) (fun σ => (f σ).bind fun a => (g σ).bind fun l => (h σ).bind fun u => match a with
      | .str x => if x.length < 1000 then some (.str (Txt.slice x l u)) else none
      | _ => none) := by
  intro σ pv s e I Q E k
  simp only [Option.bind_eq_some_iff] at e
  obtain ⟨a, e1, l, e2, u, e3, e4⟩ := e
  split at e4
  · split at e4
    · rename_i x hx; cases e4
      refine wpAny_Subscript_str_slice (ho σ _ s e1 I _ E fun va h1 tk1 r1 k1 => ?_) ht
      refine hl σ l _ e2 (I.sub k1) _ E fun vl h2 tk2 r2 k2 => ?_
      refine hu σ u _ e3 (I.sub (k1.trans k2)) _ E fun vu h3 tk3 r3 k3 => ?_
      obtain ⟨t, rfl⟩ := r1.toStr
      have key : ∀ (lp up : Option (Int × Tok)) , lp.map (·.1) = l → up.map (·.1) = u → vl = partValue lp → vu = partValue up →
          ∃ x' t' l u, Value.str x t = .str x' t' ∧ vl = partValue l ∧ vu = partValue u ∧ (sliceMade x' t' l u none).post Q { s with heap := h3.push { cls := .type "slice", data := .fields #[vl, vu, .none] }, toks := tk3 } := by
        intro lp up el eu q1 q2
        refine ⟨x, t, lp, up, rfl, q1, q2, ?_⟩
        refine post_val_or_str ⟨?_, fun t' j => ?_⟩
        · have := Txt.slice_le x l u
          rw [← el, ← eu] at this
          exact Nat.le_trans this (Nat.le_trans (Nat.le_of_lt hx) (by decide +kernel))
        · have := k (.str (Txt.slice x l u) t') (h3.push { cls := .type "slice", data := .fields #[vl, vu, .none] }) j (.imm (.str ..)) ((k1.trans (k2.trans k3)).trans fun b o e => Heap.get?_push_of_some _ e)
          rw [← el, ← eu] at this
          exact this
      cases l with
      | none =>
        cases u with
        | none => exact key none none rfl rfl r2 r3
        | some j => obtain ⟨tj, r3⟩ := r3; exact key none (some (j, tj)) rfl rfl r2 r3
      | some i =>
        obtain ⟨ti, r2⟩ := r2
        cases u with
        | none => exact key (some (i, ti)) none rfl rfl r2 r3
        | some j => obtain ⟨tj, r3⟩ := r3; exact key (some (i, ti)) (some (j, tj)) rfl rfl r2 r3
    · cases e4
  · cases e4
theorem slicePick_mid (items : Array Value) (a b : Nat) : slicePick items (some (a : Int)) (some (b : Int)) none = ((items.toList.drop a).take (b - a)).toArray := by
  rw [slicePick_plain]
  simp only [Option.elim, clipAt_nat]
  congr 1
  have e : items.size = items.toList.length := by simp
  rw [e]
  generalize items.toList = l
  rcases Nat.le_total a l.length with h | h
  · rw [Nat.min_eq_left h]
    rcases Nat.le_total b l.length with h' | h'
    · rw [Nat.min_eq_left h']
    · rw [Nat.min_eq_right h', List.take_of_length_le (by simp), List.take_of_length_le (by simp; omega)]
  · rw [Nat.min_eq_right h, List.drop_of_length_le (Nat.le_refl _), List.drop_of_length_le h]; simp
theorem IntsAre.dropTake {vs : List Value} {ns : List Int} (hi : IntsAre vs ns) (a b : Nat) : IntsAre ((vs.drop a).take b) ((ns.drop a).take b) := (hi.drop a).take b

/-- script[a:b], a and b written -/
theorem SoundN.sliceMid {o : Expr} {f : DE} (ho : SoundE c o f) (a b : Nat) (n1 n2 : Nat) (p1 p2 p pos : Pos) (ht : ∀ a r, letTemporaryGo o a r = pure () := by intro _ _; rfl) :
    SoundN c (.Subscript o (.Slice (some (.Constant (.int a) n1 p1)) (some (.Constant (.int b) n2 p2)) none p) pos) (fun σ => (f σ).bind fun v => match v with
      | .rlist l => (intsOf l).bind fun ns => if ns.length < 1000 then some (((ns.drop a).take (b - a)).map .int) else none
      | _ => none) := by
  intro σ l s e I Q E k
  simp only [Option.bind_eq_some_iff] at e
  obtain ⟨v, e1, e2⟩ := e
  split at e2
  · rename_i l0
    simp only [Option.bind_eq_some_iff] at e2
    obtain ⟨ns, e2, e3⟩ := e2
    split at e3
    · rename_i hlen; cases e3
      refine wpAny_Subscript_list_slice (ho σ _ s e1 I _ E fun va h1 tk1 r1 k1 => ?_) ht
      refine wpAny_Constant_int (k := n1) (pos := p1) (wpAny_Constant_int (k := n2) (pos := p2) ?_)
      obtain ⟨_, t, vs, rfl, hp, hr⟩ := r1.toRlist
      have hI := ints_are e2 hr
      refine ⟨t, vs.toArray, some (a : Int), some (b : Int), rfl, hp, by rw [List.size_toArray, hI.length]; exact Nat.le_trans (Nat.le_of_lt hlen) (by decide +kernel), .int _ _, .int _ _, ?_⟩
      rw [slicePick_mid]
      refine k _ _ _ ⟨_, (vs.drop a).take (b - a), rfl, ?_, ⟨0, ?_⟩, reps_ints (IntsAre.dropTake hI a (b - a))⟩ (k1.trans fun b o e => Heap.get?_push_of_some _ (Heap.get?_push_of_some _ e))
      · show s.heap.get? (h1.objs.size + 1) = none
        cases hq : s.heap.get? (h1.objs.size + 1) with
        | none => rfl
        | some o => exact absurd (Heap.lt_size (k1 _ _ hq)) (fun h => Nat.lt_irrefl _ (Nat.lt_of_succ_lt h))
      · have := Heap.get?_push_size (h1.push { cls := .type "slice", data := .fields #[.int (a : Int) tk1, .int (b : Int) (tk1 + 1), .none] }) (o := { cls := .type "list", data := .seq ((vs.drop a).take (b - a)).toArray }) rfl
        rw [Heap.size_push] at this
        exact this
    · cases e3
  · cases e2

/-! methods of texts -/
theorem SoundE.meth0 {o : Expr} {f : DE} (ho : SoundE c o f) (name : Str) (apos pos : Pos) (m : PV → Option PV)
    (hm : ∀ s va a r (Q : Value → Shared → Prop) E pos, m a = some r → Rep c.mt s.heap a va → (∀ v tk, Rep c.mt s.heap r v → Q v { s with toks := tk }) → MethodOnS c.prog c.w c.A E name va pos [] Q s)
    (hbase : attributeBase o name c.env (eval o c.env) = eval o c.env := by rfl) (hline : (apos.endLine == pos.line) = true := by rfl) :
    SoundE c (.Call (.Attribute o name apos) [] [] pos) (fun σ => (f σ).bind m) := by
  intro σ pv s e I Q E k
  simp only [Option.bind_eq_some_iff] at e
  obtain ⟨a, e1, e2⟩ := e
  refine Call_method0 hbase hline (ho σ a s e1 I _ E fun va h1 tk1 r1 k1 => ?_)
  exact hm { s with heap := h1, toks := tk1 } va a pv _ E pos e2 r1 fun v tk r => k v h1 tk r k1
def stripV : PV → Option PV
  | .str x => if x.length < 1000 then some (.str (Txt.strip x)) else none
  | _ => none
def upperV : PV → Option PV
  | .str x => if (Txt.upper x).length < 1000 then some (.str (Txt.upper x)) else none
  | _ => none
def lowerV : PV → Option PV
  | .str x => if (Txt.lower x).length < 1000 then some (.str (Txt.lower x)) else none
  | _ => none
def isdigitV : PV → Option PV
  | .str x => some (.bool (Txt.isdigit x))
  | _ => none
theorem SoundE.strip {o : Expr} {f : DE} (ho : SoundE c o f) (apos pos : Pos) (hbase : attributeBase o (Str.ofString "strip") c.env (eval o c.env) = eval o c.env := by rfl) (hline : (apos.endLine == pos.line) = true := by rfl) :
    SoundE c (.Call (.Attribute o (Str.ofString "strip") apos) [] [] pos) (fun σ => (f σ).bind stripV) :=
  .meth0 ho _ apos pos stripV (fun s va a r Q E pos e h k => by
    unfold stripV at e
    split at e
    · obtain ⟨t, rfl⟩ := h.toStr; split at e
      · rename_i hl; cases e; exact SB.strip (fun t' j => k _ j (.imm (.str ..))) (Nat.le_trans (Nat.le_of_lt hl) (by decide +kernel))
      · cases e
    · cases e) hbase hline
theorem short_fit {n : Nat} (h : n < 1000) : tooLong n = false := by
  unfold tooLong; exact decide_eq_false (by have : (1000 : Nat) ≤ sizeLine := by decide +kernel
                                            omega)
theorem SoundE.upper {o : Expr} {f : DE} (ho : SoundE c o f) (apos pos : Pos) (hbase : attributeBase o (Str.ofString "upper") c.env (eval o c.env) = eval o c.env := by rfl) (hline : (apos.endLine == pos.line) = true := by rfl) :
    SoundE c (.Call (.Attribute o (Str.ofString "upper") apos) [] [] pos) (fun σ => (f σ).bind upperV) :=
  .meth0 ho _ apos pos upperV (fun s va a r Q E pos e h k => by
    unfold upperV at e
    split at e
    · obtain ⟨t, rfl⟩ := h.toStr; split at e
      · rename_i hl; cases e; exact SB.upper (short_fit hl) (k _ _ (.imm (.str ..)))
      · cases e
    · cases e) hbase hline
theorem SoundE.lower {o : Expr} {f : DE} (ho : SoundE c o f) (apos pos : Pos) (hbase : attributeBase o (Str.ofString "lower") c.env (eval o c.env) = eval o c.env := by rfl) (hline : (apos.endLine == pos.line) = true := by rfl) :
    SoundE c (.Call (.Attribute o (Str.ofString "lower") apos) [] [] pos) (fun σ => (f σ).bind lowerV) :=
  .meth0 ho _ apos pos lowerV (fun s va a r Q E pos e h k => by
    unfold lowerV at e
    split at e
    · obtain ⟨t, rfl⟩ := h.toStr; split at e
      · rename_i hl; cases e; exact SB.lower (short_fit hl) (k _ _ (.imm (.str ..)))
      · cases e
    · cases e) hbase hline
theorem SoundE.isdigit {o : Expr} {f : DE} (ho : SoundE c o f) (apos pos : Pos) (hbase : attributeBase o (Str.ofString "isdigit") c.env (eval o c.env) = eval o c.env := by rfl) (hline : (apos.endLine == pos.line) = true := by rfl) :
    SoundE c (.Call (.Attribute o (Str.ofString "isdigit") apos) [] [] pos) (fun σ => (f σ).bind isdigitV) :=
  .meth0 ho _ apos pos isdigitV (fun s va a r Q E pos e h k => by
    unfold isdigitV at e
    split at e
    · obtain ⟨t, rfl⟩ := h.toStr; cases e; exact SB.isdigit (k _ _ (.imm (.bool _)))
    · cases e) hbase hline

def strsOf : List PV → Option (List Str)
  | [] => some []
  | .str i :: r => (strsOf r).map (i :: ·)
  | _ :: _ => none
theorem strs_are {mt h} : ∀ {l : List PV} {ns : List Str} {vs : List Value}, strsOf l = some ns → Reps mt h l vs → ∃ q : List (Str × Tok), vs = strValues q ∧ q.map (·.1) = ns
  | [], ns, vs, e, r => by
    cases e
    exact ⟨[], List.eq_nil_of_length_eq_zero (by have := r.1; simp at this; omega), rfl⟩
  | p :: l, ns, vs, e, r => by
    cases vs with
    | nil => have := r.1; simp at this
    | cons v vs =>
      cases p with
      | str i =>
        simp only [strsOf, Option.map_eq_some_iff] at e
        obtain ⟨ns', e', rfl⟩ := e
        have h0 := r.2 0 (.str i) v rfl rfl
        cases h0 with
        | str _ t =>
          obtain ⟨q, rfl, rfl⟩ := strs_are (l := l) (ns := ns') (vs := vs) e' (⟨by have := r.1; simpa using this, fun i p v a b => r.2 (i + 1) p v (by simpa using a) (by simpa using b)⟩ : Reps mt h l vs)
          exact ⟨(i, t) :: q, rfl, rfl⟩
      | _ => cases e
/-- ''.join(a new list of texts) -/
theorem SoundE.join {o a : Expr} {f : DE} {g : Store → Option (List PV)} (ho : SoundE c o f) (ha : SoundN c a g) (apos pos : Pos)
    (hbase : attributeBase o (Str.ofString "join") c.env (eval o c.env) = eval o c.env := by rfl) (hs : starEach [a] c.env = [(false, eval a c.env)] := by rfl) (hline : (apos.endLine == pos.line) = true := by rfl) :
    SoundE c (.Call (.Attribute o (Str.ofString "join") apos) [a] [] pos) (fun σ => (f σ).bind fun x => (g σ).bind fun l => match x with
      | .str x => (strsOf l).bind fun ys => if (ys.map (·.length)).sum + ys.length * x.length ≤ 1000 then some (.str (Txt.join x ys)) else none
      | _ => none) := by
  intro σ pv s e I Q E k
  simp only [Option.bind_eq_some_iff] at e
  obtain ⟨v, e1, l, e2, e3⟩ := e
  split at e3
  · rename_i x
    simp only [Option.bind_eq_some_iff] at e3
    obtain ⟨ys, e3, e4⟩ := e3
    split at e4
    · rename_i hok; cases e4
      refine Call_method1 hbase hs hline (ho σ _ s e1 I _ E fun va h1 tk1 r1 k1 => ?_)
      obtain ⟨t, rfl⟩ := r1.toStr
      refine SB.join (ha σ l _ e2 (I.sub k1) _ E fun vb h2 tk2 r2 k2 => ?_)
      obtain ⟨D, vs, rfl, _, hp, hr⟩ := r2
      obtain ⟨q, rfl, rfl⟩ := strs_are e3 hr
      exact ⟨D, q, rfl, hp.isList, _, rfl, joinOk_of (by omega), fun t' j => k _ h2 j (.imm (.str ..)) (k1.trans k2)⟩
    · cases e4
  · cases e3
end
end
section
open PySem PySem.Spec PySem.Calls PyProof.Rows PySem.W
set_option maxRecDepth 100000

/-! hiding objects -/
open Classical in
noncomputable def hide (h : Heap) (P : Addr → Prop) : Heap := ⟨h.objs.mapIdx fun i o => if P i then ⟨o.cls, o.dict, .freed, o.slots⟩ else o, h.life⟩
theorem hide_get (h : Heap) (P : Addr → Prop) {a : Addr} (n : ¬ P a) : (hide h P).get? a = h.get? a := by
  unfold hide Heap.get?
  simp only [Array.getElem?_mapIdx]
  cases h.objs[a]? with
  | none => rfl
  | some o => simp [n]
theorem hide_none (h : Heap) (P : Addr → Prop) {a : Addr} (n : P a) : (hide h P).get? a = none := by
  unfold hide Heap.get?
  simp only [Array.getElem?_mapIdx]
  cases h.objs[a]? with
  | none => rfl
  | some o => simp [n]
theorem hide_sub (h : Heap) (P : Addr → Prop) : Sub (hide h P) h := fun b o e => by
  by_cases n : P b
  · rw [hide_none h P n] at e; cases e
  · rwa [hide_get h P n] at e

theorem ofString_inj {a b : String} (h : Str.ofString a = Str.ofString b) : a = b := by
  rw [Str.ofString_eq_toList, Str.ofString_eq_toList] at h
  have h1 : a.toList.map Char.toNat = b.toList.map Char.toNat := by
    have := congrArg (fun s : Str => s.cps.toList) h
    simpa using this
  have h2 : a.toList = b.toList := by
    have inj : ∀ (l m : List Char), l.map Char.toNat = m.map Char.toNat → l = m := by
      intro l
      induction l with
      | nil => intro m e; cases m with | nil => rfl | cons => simp at e
      | cons x l ih =>
        intro m e
        cases m with
        | nil => simp at e
        | cons y m =>
          simp only [List.map_cons, List.cons.injEq] at e
          rw [ih m e.2, Char.ext (UInt32.toNat_inj.mp e.1)]
    exact inj _ _ h1
  exact String.toList_injective h2

theorem RepI.off {mt h h' pv v a} (r : RepI mt h pv v) (hs : ∀ b o, b ≠ a → h.get? b = some o → h'.get? b = some o)
    (ha : ∀ o, h.get? a = some o → ∀ xs n, o.data = .seq xs n → o.cls ≠ .type "tuple" ∧ mt = true) : RepI mt h' pv v := by
  induction r with
  | none => exact .none
  | bool b => exact .bool b
  | int i t => exact .int i t
  | flt x t => exact .flt x t
  | str s t => exact .str s t
  | obj v => exact .obj v
  | @tup b l vs ht hl _ ih =>
    obtain ⟨o, ho, hc, n, hd⟩ := ht
    have hb : b ≠ a := fun q => by subst q; exact (ha o ho _ _ hd).1 hc
    exact .tup ⟨o, hs b o hb ho, hc, n, hd⟩ hl ih
  | @rlist b l vs hm ht hl _ ih =>
    obtain ⟨o, ho, hc, n, hd⟩ := ht
    have hb : b ≠ a := fun q => by subst q; rw [(ha o ho _ _ hd).2] at hm; cases hm
    exact .rlist hm ⟨o, hs b o hb ho, hc, n, hd⟩ hl ih
theorem Ns.eq {h : Heap} {L m m'} (a : h.Ns L m) (b : h.Ns L m') : m = m' := by
  obtain ⟨o, es, ep, ho, hd, _, hf⟩ := a
  obtain ⟨o', es', ep', ho', hd', _, hf'⟩ := b
  rw [ho] at ho'; cases ho'
  rw [hd] at hd'; cases hd'
  funext x; rw [← hf, ← hf']

def PV.atom : PV → Bool
  | .tup _ | .list _ | .rlist _ => false
  | _ => true
def PV.flat : PV → Bool
  | .list l => l.all PV.atom
  | p => p.atom
/-- what a function that changes lists may store -/
abbrev FlatOk (mt : Bool) (p : PV) : Prop := mt = true → p.flat = true

/-- what holds between two statements; f: the value at each name -/
structure InvF (c : Cx) (h₀ : Heap) (σ : Store) (f : String → Value) (h : Heap) : Prop where
  base : Sub c.B h₀
  keep : Sub h₀ h
  ns : ∃ m, h.Ns c.env.locals m
  freshL : h₀.get? c.env.locals = none
  cells : ∀ x a, c.env.cells.lookup x = some a → h₀.get? a = none ∧ ∃ v, h.IsCell a v
  apart : ∀ x y a, c.env.cells.lookup x = some a → c.env.cells.lookup y = some a → x = y
  vars : ∀ x pv, σ x = some pv → VarAt h c.env (Str.ofString x) (f x) ∧ Rep c.mt h pv (f x)
  own : ∀ x y l l', x ≠ y → σ x = some (.list l) → σ y = some (.list l') → f x ≠ f y
  fresh : ∀ x l a, σ x = some (.list l) → f x = .ref a → h₀.get? a = none ∧ c.mt = true
  flat : ∀ x pv, σ x = some pv → FlatOk c.mt pv
def Inv (c : Cx) (h₀ : Heap) (σ : Store) (h : Heap) : Prop := ∃ f, InvF c h₀ σ f h

section
variable {c : Cx} {h₀ h h' : Heap} {σ : Store} {f : String → Value}
theorem InvF.toE (I : InvF c h₀ σ f h) : EInv c σ h := ⟨I.base.trans I.keep, fun x pv e => ⟨_, (I.vars x pv e).1, (I.vars x pv e).2⟩⟩
theorem Inv.toE (I : Inv c h₀ σ h) : EInv c σ h := let ⟨_, I⟩ := I; I.toE
theorem InvF.sub (I : InvF c h₀ σ f h) (k : Sub h h') : InvF c h₀ σ f h' where
  base := I.base
  keep := I.keep.trans k
  ns := let ⟨m, n⟩ := I.ns; ⟨m, n.keeps k⟩
  freshL := I.freshL
  cells := fun x a e => let ⟨n, v, q⟩ := I.cells x a e; ⟨n, v, q.keeps k⟩
  apart := I.apart
  vars := fun x pv e => ⟨(I.vars x pv e).1.sub k, (I.vars x pv e).2.sub k⟩
  own := I.own
  fresh := I.fresh
  flat := I.flat
theorem Inv.sub (I : Inv c h₀ σ h) (k : Sub h h') : Inv c h₀ σ h' := let ⟨f, I⟩ := I; ⟨f, I.sub k⟩

def fset (f : String → Value) (x : String) (v : Value) : String → Value := fun y => if y = x then v else f y

theorem cell_not {h : Heap} {L m a v} (n : h.Ns L m) (c : h.IsCell a v) : a ≠ L := fun e => by
  subst e
  obtain ⟨o, es, ep, ho, hd, _⟩ := n
  obtain ⟨o', ho', hd'⟩ := c
  rw [ho] at ho'; cases ho'
  rw [hd] at hd'; cases hd'

/-- a name is stored -/
theorem InvF.store {s : Shared} (ok : c.Ok) (I : InvF c h₀ σ f s.heap) {x : String} {pv : PV} {v : Value} (r : Rep c.mt s.heap pv v) (hfl : FlatOk c.mt pv)
    (hn : pv.imm = true ∨ (c.mt = true ∧ ∃ a, v = .ref a ∧ h₀.get? a = none ∧ ∀ y l', y ≠ x → σ y = some (.list l') → f y ≠ v))
    (hx : c.env.kindOf (Str.ofString x) = some .local ∨ (c.env.kindOf (Str.ofString x) = some .cell ∧ ∃ a, c.env.cells.lookup (Str.ofString x) = some a))
    {Q : Unit → Shared → Prop} {E : Value → Shared → Prop} (k : ∀ h' tk, InvF c h₀ (σ.set x pv) (fset f x v) h' → (∀ b o, (b ≠ c.env.locals ∧ ∀ y, c.env.cells.lookup y ≠ some b) → s.heap.get? b = some o → h'.get? b = some o) → Q () { s with heap := h', toks := tk }) :
    wpAny c.M c.A (storeName c.env (Str.ofString x) v) Q E s := by
  obtain ⟨m, hns⟩ := I.ns
  -- what both ways share
  have common : ∀ (h' : Heap) (a : Addr), (∀ b o, b ≠ a → s.heap.get? b = some o → h'.get? b = some o) → h₀.get? a = none → (∀ o, s.heap.get? a = some o → ∀ xs n, o.data ≠ .seq xs n) →
      (∃ m', h'.Ns c.env.locals m') → (∀ y b, c.env.cells.lookup y = some b → ∃ v, h'.IsCell b v) →
      VarAt h' c.env (Str.ofString x) v → (∀ y u, y ≠ x → VarAt s.heap c.env (Str.ofString y) u → VarAt h' c.env (Str.ofString y) u) → InvF c h₀ (σ.set x pv) (fset f x v) h' := by
    intro h' a hs ha hseq hns' hcells hvx hvy
    have rep : ∀ {p u}, Rep c.mt s.heap p u → Rep c.mt h' p u := by
      intro p u r
      cases r with
      | imm r => exact .imm (r.off hs fun o ho xs n hd => absurd hd (hseq o ho xs n))
      | @list b l vs hp hr =>
        obtain ⟨n, hp⟩ := hp
        have hb : b ≠ a := fun q => by subst q; exact hseq _ hp _ _ rfl
        exact .list ⟨n, hs b _ hb hp⟩ ⟨hr.1, fun i p v x y => (hr.2 i p v x y).off hs fun o ho xs n hd => absurd hd (hseq o ho xs n)⟩
    refine ⟨I.base, fun b o e => hs b o (fun q => by subst q; rw [ha] at e; cases e) (I.keep b o e), hns', I.freshL, fun y b e => ⟨(I.cells y b e).1, hcells y b e⟩, I.apart, ?_, ?_, ?_, fun y p e => by
        by_cases hy : y = x
        · subst hy
          simp only [Store.set, if_true] at e
          cases e; exact hfl
        · simp only [Store.set, if_neg hy] at e
          exact I.flat y p e⟩
    · intro y p e
      by_cases hy : y = x
      · subst hy
        simp only [Store.set, if_true] at e
        cases e
        simp only [fset, if_true]
        exact ⟨hvx, rep r⟩
      · simp only [Store.set, if_neg hy] at e
        simp only [fset, if_neg hy]
        exact ⟨hvy y _ hy (I.vars y p e).1, rep (I.vars y p e).2⟩
    · intro y z l l' hyz e1 e2
      by_cases hy : y = x
      · subst hy
        have hz : z ≠ y := fun q => hyz q.symm
        simp only [Store.set, if_true] at e1
        simp only [Store.set, if_neg hz] at e2
        simp only [fset, if_true, if_neg hz]
        cases e1
        rcases hn with hn | ⟨_, a, rfl, _, hn⟩
        · cases hn
        · exact fun q => hn z l' hz e2 q.symm
      · by_cases hz : z = x
        · subst hz
          simp only [Store.set, if_true] at e2
          simp only [Store.set, if_neg hy] at e1
          simp only [fset, if_true, if_neg hy]
          cases e2
          rcases hn with hn | ⟨_, a, rfl, _, hn⟩
          · cases hn
          · exact hn y l hy e1
        · simp only [Store.set, if_neg hy] at e1
          simp only [Store.set, if_neg hz] at e2
          simp only [fset, if_neg hy, if_neg hz]
          exact I.own y z l l' hyz e1 e2
    · intro y l b e1 e2
      by_cases hy : y = x
      · subst hy
        simp only [Store.set, if_true] at e1
        simp only [fset, if_true] at e2
        cases e1
        rcases hn with hn | ⟨hm, a, rfl, hn, _⟩
        · cases hn
        · cases e2; exact ⟨hn, hm⟩
      · simp only [Store.set, if_neg hy] at e1
        simp only [fset, if_neg hy] at e2
        exact I.fresh y l b e1 e2
  rcases hx with hx | ⟨hx, a, hc⟩
  · refine wpAny_storeName_local hx hns (fun h' hn' hs => ?_) (by rw [ok.hk]; rfl)
    have hs' : ∀ b o, b ≠ c.env.locals → s.heap.get? b = some o → h'.get? b = some o := fun b o hb e => (hs.2 b hb).trans e
    refine k h' _ (common h' c.env.locals hs' I.freshL ?_ ⟨_, hn'⟩ ?_ (.inl ⟨hx, _, hn', by simp⟩) ?_) (fun b o hb e => hs' b o hb.1 e)
    · intro o ho xs n hd
      obtain ⟨o', es, ep, ho', hd', _⟩ := hns
      rw [ho] at ho'; cases ho'; rw [hd] at hd'; cases hd'
    · intro y b e
      obtain ⟨_, u, q⟩ := I.cells y b e
      exact ⟨u, q.sameBut hs (cell_not hns q)⟩
    · intro y u hy q
      rcases q with ⟨a, m', b, d⟩ | ⟨a, d, b, e⟩
      · have := Ns.eq b hns; subst this
        exact .inl ⟨a, _, hn', by rw [if_neg (fun q => hy (ofString_inj q))]; exact d⟩
      · exact .inr ⟨a, d, b, e.sameBut hs (cell_not hns e)⟩
  · obtain ⟨ha, u, hu⟩ := I.cells _ a hc
    refine wpAny_storeName_cell ok.hk hx hc hu fun h' hv hs => ?_
    have hs' : ∀ b o, b ≠ a → s.heap.get? b = some o → h'.get? b = some o := fun b o hb e => (hs.2 b hb).trans e
    refine k h' s.toks (common h' a hs' ha ?_ ⟨_, hns.sameBut hs (cell_not hns hu).symm⟩ ?_ (.inr ⟨.inl hx, a, hc, hv⟩) ?_) (fun b o hb e => hs' b o (fun q => hb.2 _ (q ▸ hc)) e)
    · intro o ho xs n hd
      obtain ⟨o', ho', hd'⟩ := hu
      rw [ho] at ho'; cases ho'; rw [hd] at hd'; cases hd'
    · intro y b e
      by_cases hb : b = a
      · subst hb; exact ⟨_, hv⟩
      · obtain ⟨_, u, q⟩ := I.cells y b e
        exact ⟨u, q.sameBut hs hb⟩
    · intro y u' hy q
      rcases q with ⟨b, m', d, e⟩ | ⟨b, d, e, g⟩
      · exact .inl ⟨b, m', d.sameBut hs (cell_not d hu).symm, e⟩
      · have hda : d ≠ a := fun q => by subst q; exact hy (ofString_inj (I.apart _ _ _ e hc))
        exact .inr ⟨b, d, e, g.sameBut hs hda⟩
end
end
section
open PySem PySem.Spec PySem.Calls PyProof.Rows PySem.W
set_option maxRecDepth 100000

inductive Fl where
  | next | brk | cont | ret (v : PV)
inductive FlRep (mt : Bool) (h : Heap) : Fl → Flow → Prop
  | next : FlRep mt h .next .next
  | brk : FlRep mt h .brk .brk
  | cont : FlRep mt h .cont .cont
  | ret {p v} : Rep mt h p v → FlRep mt h (.ret p) (.ret v)
abbrev DS := Store → Option (Store × Fl)

def SoundB (c : Cx) (t : Sem Flow) (f : DS) : Prop := ∀ h₀ σ σ' fl s (Q : Flow → Shared → Prop) (E : Value → Shared → Prop), f σ = some (σ', fl) → Inv c h₀ σ s.heap →
  (∀ fw h' tk, Inv c h₀ σ' h' → FlRep c.mt h' fl fw → Q fw { s with heap := h', toks := tk }) → wpAny c.M c.A t Q E s
abbrev SoundS (c : Cx) (st : Stmt) (f : DS) : Prop := SoundB c (exec st c.env) f
abbrev SoundSs (c : Cx) (sts : List Stmt) (f : DS) : Prop := SoundB c (execs sts c.env) f

def seqS (f g : DS) : DS := fun σ => match f σ with
  | some (σ', .next) => g σ'
  | o => o
def skipS : DS := fun σ => some (σ, .next)

section
variable {c : Cx} {s : Shared}
theorem SoundSs.nil : SoundSs c [] skipS := by
  intro h₀ σ σ' fl s Q E e I k
  cases e
  exact wpAny_execs_nil (k .next s.heap s.toks I .next)
theorem SoundSs.cons {st : Stmt} {sts : List Stmt} {f g : DS} (h : SoundS c st f) (r : SoundSs c sts g) : SoundSs c (st :: sts) (seqS f g) := by
  intro h₀ σ σ' fl s Q E e I k
  refine wpAny_execs_cons ?_
  unfold seqS at e
  cases hf : f σ with
  | none => rw [hf] at e; cases e
  | some p =>
    obtain ⟨σ1, fl1⟩ := p
    rw [hf] at e
    refine h h₀ σ σ1 fl1 s _ E hf I fun fw h' tk I' r' => ?_
    cases r' with
    | next => exact r h₀ σ1 σ' fl { s with heap := h', toks := tk } Q E e I' k
    | brk => cases e; exact k _ _ _ I' .brk
    | cont => cases e; exact k _ _ _ I' .cont
    | ret r' => cases e; exact k _ _ _ I' (.ret r')

theorem SoundS.brk (pos : Pos) : SoundS c (.Break pos) (fun σ => some (σ, .brk)) := by
  intro h₀ σ σ' fl s Q E e I k; cases e
  exact wpAny_Break (k _ s.heap s.toks I .brk)
theorem SoundS.cont (pos : Pos) : SoundS c (.Continue pos) (fun σ => some (σ, .cont)) := by
  intro h₀ σ σ' fl s Q E e I k; cases e
  exact wpAny_Continue (k _ s.heap s.toks I .cont)
theorem SoundS.ret {e : Expr} {f : DE} (h : SoundE c e f) (pos : Pos) : SoundS c (.Return (some e) pos) (fun σ => (f σ).map fun v => (σ, .ret v)) := by
  intro h₀ σ σ' fl s Q E e1 I k
  simp only [Option.map_eq_some_iff] at e1
  obtain ⟨v, e1, e2⟩ := e1
  cases e2
  exact wpAny_Return_some (h σ v s e1 I.toE _ E fun v h' tk r k' => k _ h' tk (I.sub k') (.ret r))
theorem SoundS.iff {t : Expr} {a b : List Stmt} {f : DT} {g h : DS} (ht : SoundT c t f) (pos : Pos) (ha : SoundSs c a g) (hb : SoundSs c b h) :
    SoundS c (.If t a b pos) (fun σ => (f σ).bind fun x => if x = true then g σ else h σ) := by
  intro h₀ σ σ' fl s Q E e I k
  simp only [Option.bind_eq_some_iff] at e
  obtain ⟨x, e1, e2⟩ := e
  refine wpAny_If (ht σ x s e1 I.toE _ E fun vb h1 tk1 r1 k1 => ?_)
  subst r1
  cases vb with
  | true => exact ha h₀ σ σ' fl _ Q E (by simpa using e2) (I.sub k1) k
  | false => exact hb h₀ σ σ' fl _ Q E (by simpa using e2) (I.sub k1) k

/-- a name that may be stored -/
def Stor (c : Cx) (x : String) : Prop := c.env.kindOf (Str.ofString x) = some .local ∨ (c.env.kindOf (Str.ofString x) = some .cell ∧ ∃ a, c.env.cells.lookup (Str.ofString x) = some a)

theorem Inv.store {h₀ σ s} (ok : c.Ok) (I : Inv c h₀ σ (Shared.heap s)) {x : String} {pv : PV} {v : Value} (r : Rep c.mt s.heap pv v) (hn : pv.imm = true) (hfl : FlatOk c.mt pv) (hx : Stor c x)
    {Q : Unit → Shared → Prop} {E : Value → Shared → Prop} (k : ∀ h' tk, Inv c h₀ (σ.set x pv) h' → Q () { s with heap := h', toks := tk }) : wpAny c.M c.A (storeName c.env (Str.ofString x) v) Q E s :=
  let ⟨_, I⟩ := I; I.store ok r hfl (.inl hn) hx fun h' tk I' _ => k h' tk ⟨_, I'⟩
/-- a list that was made since h -/
theorem Inv.storeNew {h₀ σ s h} (ok : c.Ok) (hm : c.mt = true) (I : Inv c h₀ σ h) (k' : Sub h (Shared.heap s)) {x : String} {l : List PV} {a : Addr} {vs : List Value} (hp : s.heap.PlainList a vs.toArray) (hr : Reps c.mt s.heap l vs) (hn : h.get? a = none) (hfl : l.all PV.atom = true) (hx : Stor c x)
    {Q : Unit → Shared → Prop} {E : Value → Shared → Prop} (k : ∀ h' tk, Inv c h₀ (σ.set x (.list l)) h' → Q () { s with heap := h', toks := tk }) : wpAny c.M c.A (storeName c.env (Str.ofString x) (.ref a)) Q E s := by
  obtain ⟨f, I⟩ := I
  refine (I.sub k').store ok (.list hp hr) (fun _ => hfl) (.inr ⟨hm, a, rfl, ?_, fun y l' _ e q => ?_⟩) hx fun h' tk I' _ => k h' tk ⟨_, I'⟩
  · cases q : h₀.get? a with
    | none => rfl
    | some o => rw [I.keep _ _ q] at hn; cases hn
  · obtain ⟨b, vs', e', ⟨n, hp'⟩, _⟩ := (I.vars y _ e).2.toList
    rw [q] at e'; cases e'; rw [hp'] at hn; cases hn

theorem SoundS.assign (ok : c.Ok) {mt : Bool} (hmt : c.mt = mt) {e : Expr} {f : DE} (x : String) (px : Pos) (h : SoundE c e f) (pos : Pos) (hx : Stor c x) (hs : swapsWith e (some (.Name (Str.ofString x) px)) pos.line c.env = pure false := by rfl) :
    SoundS c (.Assign [.Name (Str.ofString x) px] e pos) (fun σ => (f σ).bind fun v => if v.imm = true ∧ FlatOk mt v then some (σ.set x v, .next) else none) := by
  subst hmt
  intro h₀ σ σ' fl s Q E e1 I k
  simp only [Option.bind_eq_some_iff] at e1
  obtain ⟨v, e1, e2⟩ := e1
  split at e2
  · rename_i hi; cases e2
    exact wpAny_Assign_Name (h σ v s e1 I.toE _ E fun v' h1 tk1 r1 k1 => Inv.store (s := { s with heap := h1, toks := tk1 }) ok (I.sub k1) r1 hi.1 hi.2 hx fun h' tk I' => k _ h' tk I' .next) hs
  · cases e2
theorem SoundS.assignN (ok : c.Ok) (hm : c.mt = true) {e : Expr} {f : Store → Option (List PV)} (x : String) (px : Pos) (h : SoundN c e f) (pos : Pos) (hx : Stor c x) (hs : swapsWith e (some (.Name (Str.ofString x) px)) pos.line c.env = pure false := by rfl) :
    SoundS c (.Assign [.Name (Str.ofString x) px] e pos) (fun σ => (f σ).bind fun l => if l.all PV.atom = true then some (σ.set x (.list l), .next) else none) := by
  intro h₀ σ σ' fl s Q E e1 I k
  simp only [Option.bind_eq_some_iff] at e1
  obtain ⟨l, e1, e2⟩ := e1
  split at e2
  · rename_i hfl; cases e2
    refine wpAny_Assign_Name (h σ l s e1 I.toE _ E fun v' h1 tk1 r1 k1 => ?_) hs
    obtain ⟨a, vs, rfl, hn, hp, hr⟩ := r1
    exact Inv.storeNew (s := { s with heap := h1, toks := tk1 }) ok hm I k1 hp hr hn hfl hx fun h' tk I' => k _ h' tk I' .next
  · cases e2
theorem SoundS.aug (ok : c.Ok) {mt : Bool} (hmt : c.mt = mt) {e : Expr} {f : DE} (x : String) (px : Pos) (h : SoundE c e f) (pos : Pos) (hx : Stor c x) (hd' : (Str.ofString x == ("__classdict__" : Str)) = false := by decide) :
    SoundS c (.AugAssign (.Name (Str.ofString x) px) .Add e pos) (fun σ => (σ x).bind fun a => (f σ).bind fun b => (iaddV a b).bind fun v => if v.imm = true ∧ FlatOk mt v then some (σ.set x v, .next) else none) := by
  subst hmt
  intro h₀ σ σ' fl s Q E e1 I k
  simp only [Option.bind_eq_some_iff] at e1
  obtain ⟨a, e1, b, e2, v, e3, e4⟩ := e1
  split at e4
  · rename_i hi; cases e4
    obtain ⟨va, hva, ra⟩ := I.toE.vars x a e1
    refine wpAny_AugAssign_Name (load_var ok hva hd' (h σ b s e2 I.toE _ E fun vb h1 tk1 r1 k1 => ?_))
    refine iaddV_sound (s := { s with heap := h1, toks := tk1 }) e3 (ra.sub k1) r1 _ E fun vr h2 tk2 r2 k2 => ?_
    exact Inv.store (s := { s with heap := h2, toks := tk2 }) ok (I.sub (k1.trans k2)) r2 hi.1 hi.2 hx fun h' tk I' => k _ h' tk I' .next
  · cases e4
theorem SoundS.augDiv (ok : c.Ok) : True := trivial

/-! a, b = (e1, e2) -/
def setAll (σ : Store) : List String → List PV → Store
  | x :: xs, v :: vs => setAll (σ.set x v) xs vs
  | _, _ => σ
inductive Tgts : List Expr → List String → Prop
  | nil : Tgts [] []
  | cons {es xs} (x : String) (p : Pos) : Tgts es xs → Tgts (.Name (Str.ofString x) p :: es) (x :: xs)
theorem Tgts.each {es xs} (t : Tgts es xs) : assignEach es c.env = es.map (fun e => (false, PySem.assign e c.env)) := by
  induction t with
  | nil => rfl
  | cons x p _ ih =>
    show (false, PySem.assign (.Name (Str.ofString x) p) c.env) :: assignEach _ c.env = _
    rw [ih]; rfl
theorem Tgts.len {es xs} (t : Tgts es xs) : es.length = xs.length := by
  induction t with
  | nil => rfl
  | cons x p _ ih => simp [ih]
theorem inOrder {es xs} (t : Tgts es xs) (ok : c.Ok) (hx : ∀ x ∈ xs, Stor c x) : ∀ {h₀ σ l vs s} {Q : Unit → Shared → Prop} {E : Value → Shared → Prop}, Inv c h₀ σ (Shared.heap s) → RepL c.mt s.heap l vs → l.all PV.imm = true → (c.mt = true → l.all PV.flat = true) → l.length = xs.length →
    (∀ h' tk, Inv c h₀ (setAll σ xs l) h' → Q () { s with heap := h', toks := tk }) → wpAny c.M c.A (assignInOrder (es.map (fun e => PySem.assign e c.env)) vs) Q E s := by
  induction t with
  | nil => intro h₀ σ l vs s Q E I r hi hfl hl k; cases l with
    | nil => cases vs <;> exact wpAny_pure (k s.heap s.toks I)
    | cons => simp at hl
  | @cons es xs x p t ih =>
    intro h₀ σ l vs s Q E I r hi hfl hl k
    cases l with
    | nil => simp at hl
    | cons v l =>
      cases r with
      | @cons _ u _ us a b =>
        simp only [List.all_cons, Bool.and_eq_true] at hi hfl
        show wpAny c.M c.A (do holding us (PySem.assign (.Name (Str.ofString x) p) c.env u); assignInOrder (es.map (fun e => PySem.assign e c.env)) us) Q E s
        obtain ⟨f, I⟩ := I
        refine wpAny_bind (wpAny_holding (wpAny_assign_Name (I.store ok a (fun m => (hfl m).1) (.inl hi.1) (hx x (List.mem_cons_self)) fun h' tk I' hs => ?_)))
        refine ih (fun y hy => hx y (List.mem_cons_of_mem _ hy)) (s := { s with heap := h', toks := tk }) ⟨_, I'⟩ ?_ hi.2 (fun m => (hfl m).2) (by simpa using hl) k
        -- the values stay
        have stay : ∀ {l us}, RepL c.mt s.heap l us → l.all PV.imm = true → RepL c.mt h' l us := by
          intro l us r hi
          induction r with
          | nil => exact .nil
          | cons a _ ih =>
            simp only [List.all_cons, Bool.and_eq_true] at hi
            refine .cons (.imm ?_) (ih hi.2)
            have q := a.toI hi.1
            clear a ih hi
            induction q with
            | none => exact .none
            | bool b => exact .bool b
            | int i t => exact .int i t
            | flt x t => exact .flt x t
            | str s t => exact .str s t
            | obj v => exact .obj v
            | @tup b l vs ht hl _ ih =>
              obtain ⟨o, ho, hc, n, hd⟩ := ht
              refine .tup ⟨o, hs b o ⟨?_, ?_⟩ ho, hc, n, hd⟩ hl ih
              · rintro rfl
                obtain ⟨m, o', es, ep, ho', hd', _⟩ := I.ns
                rw [ho] at ho'; cases ho'; rw [hd] at hd'; cases hd'
              · intro y hy
                obtain ⟨_, u, o', ho', hd'⟩ := I.cells y b hy
                rw [ho] at ho'; cases ho'; rw [hd] at hd'; cases hd'
            | @rlist b l vs hm ht hl _ ih =>
              obtain ⟨o, ho, hc, n, hd⟩ := ht
              refine .rlist hm ⟨o, hs b o ⟨?_, ?_⟩ ho, hc, n, hd⟩ hl ih
              · rintro rfl
                obtain ⟨m, o', es, ep, ho', hd', _⟩ := I.ns
                rw [ho] at ho'; cases ho'; rw [hd] at hd'; cases hd'
              · intro y hy
                obtain ⟨_, u, o', ho', hd'⟩ := I.cells y b hy
                rw [ho] at ho'; cases ho'; rw [hd] at hd'; cases hd'
        exact stay b hi.2
theorem findIdx_none {es : List Expr} : (es.map (fun e => (false, PySem.assign e c.env))).findIdx? (·.1) = none := by
  induction es with
  | nil => rfl
  | cons e es ih => simp [List.findIdx?_cons, ih]
/-- unpacking a tuple of values -/
theorem unpack_tup (ok : c.Ok) {l : List PV} {v : Value} {n : Nat} {s : Shared} {Q : List Value → Shared → Prop} {E : Value → Shared → Prop} (r : Rep c.mt s.heap (.tup l) v) (hn : n = l.length)
    (k : ∀ h' vs, Sub s.heap h' → RepL c.mt h' l vs → Q vs { s with heap := h' }) : wpAny c.M c.A (unpackItems v n none) Q E s := by
  obtain ⟨a, vs, rfl, ht, hr⟩ := r.toTup
  have hn' : n = vs.toArray.size := by rw [List.size_toArray, ← hr.1]; exact hn
  subst hn'
  refine unpackItems_tuple ok.hh ht fun h' he => ?_
  have kk : Sub s.heap h' := fun b o e => he b o (Nat.ne_of_lt (Heap.lt_size e)) e
  exact k h' _ kk (Reps.toL (hr.sub kk))
theorem SoundS.assignTup (ok : c.Ok) {mt : Bool} (hmt : c.mt = mt) {es : List Expr} {xs : List String} (t : Tgts es xs) {e : Expr} {f : DE} (h : SoundE c e f) (k1 : Nat) (tpos pos : Pos) (hx : ∀ x ∈ xs, Stor c x)
    (hs : swapsWithSole [.Tuple es k1 tpos] e pos.line c.env = pure false := by rfl) (hw : swappedStores [.Tuple es k1 tpos] e c.env = pure none := by rfl) :
    SoundS c (.Assign [.Tuple es k1 tpos] e pos) (fun σ => (f σ).bind fun v => match v with
      | .tup l => if l.all PV.imm = true ∧ (mt = true → l.all PV.flat = true) ∧ l.length = xs.length then some (setAll σ xs l, .next) else none
      | _ => none) := by
  subst hmt
  intro h₀ σ σ' fl s Q E e1 I k
  simp only [Option.bind_eq_some_iff] at e1
  obtain ⟨v, e1, e2⟩ := e1
  split at e2
  · rename_i l
    split at e2
    · rename_i hc; cases e2
      refine Assign_Tuple (h σ _ s e1 I.toE _ E fun v' h1 tk1 r1 k1' => ?_) hs hw
      show wpAny c.M c.A (do standAt tpos; unpack v' (assignEach es c.env)) _ E _
      refine wpAny_bind (wpAny_standAt ?_)
      unfold unpack
      rw [t.each]
      refine wpAny_bind (wpAny_holding ?_)
      rw [findIdx_none]
      refine unpack_tup (s := { s with heap := h1, toks := tk1 }) ok r1 (by rw [List.length_map, t.len, hc.2.2]) fun h2 vs k2 r2 => ?_
      rw [List.map_map]
      exact inOrder t ok hx (s := { s with heap := h2, toks := tk1 }) (I.sub (k1'.trans k2)) r2 hc.1 hc.2.1 hc.2.2 fun h' tk I' => k _ h' tk I' .next
    · cases e2
  · cases e2
end
end
section
open PySem PySem.Spec PySem.Calls PyProof.Rows PySem.W
set_option maxRecDepth 100000

section
variable {c : Cx} {s : Shared}
/-- a list of a name is changed -/
theorem InvF.mutate {h₀ h h' : Heap} {σ : Store} {f : String → Value} (I : InvF c h₀ σ f h) {x : String} {l l' : List PV} {a : Addr} {vs' : List Value} (e : σ x = some (.list l)) (ef : f x = .ref a)
    (hs : ∀ b o, b ≠ a → h.get? b = some o → h'.get? b = some o) (hp : h'.PlainList a vs'.toArray) (hr : Reps c.mt h l' vs') (hfl : l'.all PV.atom = true) : InvF c h₀ (σ.set x (.list l')) f h' := by
  obtain ⟨b, vs, e', hp0, hr0⟩ := (I.vars x _ e).2.toList
  rw [ef] at e'; cases e'
  obtain ⟨hfr, hm⟩ := I.fresh x l a e ef
  obtain ⟨n0, hp0⟩ := hp0
  obtain ⟨m, hns⟩ := I.ns
  have hL : c.env.locals ≠ a := by
    rintro rfl
    obtain ⟨o', es, ep, ho', hd', _⟩ := hns
    rw [hp0] at ho'; cases ho'; cases hd'
  have hcell : ∀ b v, h.IsCell b v → b ≠ a := by
    rintro b v ⟨o', ho', hd'⟩ rfl
    rw [hp0] at ho'; cases ho'; cases hd'
  have hns' : ∀ m, h.Ns c.env.locals m → h'.Ns c.env.locals m := fun m q => q.at' fun o e => hs _ o hL e
  have rep : ∀ {p u}, RepI c.mt h p u → RepI c.mt h' p u := fun r => r.off hs fun o ho xs n hd => by
    rw [hp0] at ho; cases ho; exact ⟨fun q => absurd (Value.type.inj q) (by decide), hm⟩
  refine ⟨I.base, fun b o e => hs b o (fun q => by subst q; rw [hfr] at e; cases e) (I.keep b o e), ⟨m, hns' m hns⟩, I.freshL, fun y b e => ?_, I.apart, ?_, ?_, ?_, fun y p e => by
        by_cases hy : y = x
        · subst hy
          simp only [Store.set, if_true] at e
          cases e; exact fun _ => hfl
        · simp only [Store.set, if_neg hy] at e
          exact I.flat y p e⟩
  · obtain ⟨q1, v, o, ho, hd⟩ := I.cells y b e
    exact ⟨q1, v, o, hs b o (hcell b v ⟨o, ho, hd⟩) ho, hd⟩
  · intro y p e1
    have va : ∀ {u}, VarAt h c.env (Str.ofString y) u → VarAt h' c.env (Str.ofString y) u := by
      rintro u (⟨q1, m', q2, q3⟩ | ⟨q1, d, q2, o, ho, hd⟩)
      · exact .inl ⟨q1, m', hns' m' q2, q3⟩
      · exact .inr ⟨q1, d, q2, o, hs d o (hcell d _ ⟨o, ho, hd⟩) ho, hd⟩
    by_cases hy : y = x
    · subst hy
      simp only [Store.set, if_true] at e1
      cases e1
      refine ⟨va (I.vars y _ e).1, ?_⟩
      rw [ef]
      exact .list hp ⟨hr.1, fun i p v q1 q2 => rep (hr.2 i p v q1 q2)⟩
    · simp only [Store.set, if_neg hy] at e1
      refine ⟨va (I.vars y _ e1).1, ?_⟩
      have r := (I.vars y _ e1).2
      generalize hfy : f y = u at r
      cases r with
      | imm r => exact .imm (rep r)
      | @list d l2 vs2 hp2 hr2 =>
        obtain ⟨n, hp2⟩ := hp2
        have hd : d ≠ a := by
          rintro rfl
          exact I.own y x _ _ hy e1 e (by rw [hfy, ef])
        exact .list ⟨n, hs d _ hd hp2⟩ ⟨hr2.1, fun i p v q1 q2 => rep (hr2.2 i p v q1 q2)⟩
  · intro y z l1 l2 hyz e1 e2
    have q : ∀ y l1, (σ.set x (.list l')) y = some (.list l1) → ∃ l0, σ y = some (.list l0) := fun y l1 e1 => by
      by_cases hy : y = x
      · subst hy; exact ⟨_, e⟩
      · simp only [Store.set, if_neg hy] at e1; exact ⟨_, e1⟩
    obtain ⟨_, e1⟩ := q y l1 e1
    obtain ⟨_, e2⟩ := q z l2 e2
    exact I.own y z _ _ hyz e1 e2
  · intro y l1 b e1 e2
    by_cases hy : y = x
    · subst hy; exact I.fresh y l b e e2
    · simp only [Store.set, if_neg hy] at e1; exact I.fresh y l1 b e1 e2

theorem atom_imm {p : PV} (h : p.atom = true) : p.imm = true := by cases p <;> first | rfl | cases h
theorem flat_list {c h₀ σ f h} (I : InvF c h₀ σ f h) {x l a} (e : σ x = some (.list l)) (ef : f x = .ref a) : l.all PV.atom = true := I.flat x _ e (I.fresh x l a e ef).2
theorem isL {h : Heap} {a : Addr} {vs : Array Value} (p : h.PlainList a vs) : ∃ n, IsL h a vs n := p
theorem update_plain {h : Heap} {a : Addr} {vs : Array Value} (p : h.PlainList a vs) (f : Array Value → Array Value) : (h.update a (Obj.mapSeq f)).PlainList a (f vs) :=
  let ⟨_, p⟩ := p; ⟨_, IsL.update (n := _) p f⟩

/-! x.append(e), x.remove(e) -/
theorem SoundS.append (ok : c.Ok) {e : Expr} {f : DE} (x : String) (px apos cpos pos : Pos) (h : SoundE c e f)
    (hd : (Str.ofString x == ("__debug__" : Str)) = false := by decide) (hd' : (Str.ofString x == ("__classdict__" : Str)) = false := by decide)
    (hbase : attributeBase (.Name (Str.ofString x) px) (Str.ofString "append") c.env (eval (.Name (Str.ofString x) px) c.env) = eval (.Name (Str.ofString x) px) c.env := by rfl) (hst : starEach [e] c.env = [(false, eval e c.env)] := by rfl) (hline : (apos.endLine == cpos.line) = true := by rfl)
    (hi : interactive c.env = false := by rfl) (hs : swapsWith (.Call (.Attribute (.Name (Str.ofString x) px) (Str.ofString "append") apos) [e] [] cpos) none pos.line c.env = pure false := by rfl) :
    SoundS c (.Expr (.Call (.Attribute (.Name (Str.ofString x) px) (Str.ofString "append") apos) [e] [] cpos) pos) (fun σ => match σ x with
      | some (.list l) => (f σ).bind fun v => if v.atom = true ∧ l.length < 1000 then some (σ.set x (.list (l ++ [v])), .next) else none
      | _ => none) := by
  intro h₀ σ σ' fl s Q E e1 I k
  dsimp only at e1
  split at e1
  · rename_i l hx
    simp only [Option.bind_eq_some_iff] at e1
    obtain ⟨v, e1, e2⟩ := e1
    split at e2
    · rename_i hc; cases e2
      obtain ⟨g, I⟩ := I
      obtain ⟨hv, r⟩ := I.vars x _ hx
      obtain ⟨a, vs, ea, hp, hr⟩ := r.toList
      rw [ea] at hv
      have hlen := hr.1
      refine wpAny_Expr (Call_method1 hbase hst hline (wpAny_Name (load_var ok hv hd' ?_) hd)) hi hs
      refine ⟨"list", _, F.plainAttrs_list, F.slot_list_append, F.type_list_append, hp.isList.typeIs, ?_, ?_⟩
      · intro b eb; cases eb; obtain ⟨n, hp⟩ := hp; exact ⟨_, hp, rfl⟩
      · refine P.append_list (h σ v s e1 I.toE _ E fun v' h1 tk1 r1 k1 => ?_)
        have hp1 := PlainList.sub hp k1
        obtain ⟨n, hn⟩ := hp1
        refine ⟨_, n, by rw [List.size_toArray, ← hlen]; exact Nat.le_trans (Nat.le_of_lt hc.2) (by decide +kernel), hn, ?_⟩
        refine k .next _ tk1 ⟨g, (I.sub k1).mutate (vs' := vs ++ [v']) hx ea (fun b o hb e => (Heap.get?_update_other h1 _ (Ne.symm hb)).trans e) ?_ ?_ (by rw [List.all_append, flat_list I hx ea]; simpa using hc.1)⟩ .next
        · have := update_plain (PlainList.sub hp k1) (fun xs => xs.push v')
          simpa using this
        · have hr1 := hr.sub k1
          refine ⟨by simp [hlen], fun i p u q1 q2 => ?_⟩
          by_cases hi : i < l.length
          · rw [List.getElem?_append_left hi] at q1
            rw [List.getElem?_append_left (by omega)] at q2
            exact hr1.2 i p u q1 q2
          · rw [List.getElem?_append_right (by omega)] at q1
            rw [List.getElem?_append_right (by omega), ← hlen] at q2
            cases hj : i - l.length with
            | zero => rw [hj] at q1 q2; simp at q1 q2; subst q1 q2; exact r1.toI (atom_imm hc.1)
            | succ j => rw [hj] at q1; simp at q1
    · cases e2
  · cases e1

theorem erase_idx {ns : List Int} {k : Int} (h : k ∈ ns) : ns.erase k = ns.eraseIdx (ns.idxOf k) := List.erase_eq_eraseIdx_of_idxOf rfl
theorem before_idx : ∀ {ns : List Int} {k : Int} {m : Nat} (hm : m < ns.length), m < ns.idxOf k → (ns[m] == k) = false
  | [], _, _, hm, _ => by simp at hm
  | x :: ns, k, m, hm, h => by
    rw [List.idxOf_cons] at h
    cases hx : x == k with
    | true => rw [hx] at h; simp at h
    | false =>
      rw [hx] at h
      cases m with
      | zero => exact hx
      | succ m => exact before_idx (ns := ns) (by simpa using hm) (by simpa using h)
theorem ints_get : ∀ {vs : List Value} {ns : List Int}, IntsAre vs ns → ∀ (j : Nat) (hj : j < ns.length), ∃ t, vs[j]? = some (.int ns[j] t)
  | _, _, .nil, j, hj => by simp at hj
  | _, _, .cons n t r, j, hj => by
    cases j with
    | zero => exact ⟨t, rfl⟩
    | succ j => simpa using ints_get r j (by simpa using hj)
def isK (k : Int) : Value → Bool
  | .int i _ => i == k
  | _ => false
theorem SoundS.remove (ok : c.Ok) {e : Expr} {f : DE} (x : String) (px apos cpos pos : Pos) (h : SoundE c e f)
    (hd : (Str.ofString x == ("__debug__" : Str)) = false := by decide) (hd' : (Str.ofString x == ("__classdict__" : Str)) = false := by decide)
    (hbase : attributeBase (.Name (Str.ofString x) px) (Str.ofString "remove") c.env (eval (.Name (Str.ofString x) px) c.env) = eval (.Name (Str.ofString x) px) c.env := by rfl) (hst : starEach [e] c.env = [(false, eval e c.env)] := by rfl) (hline : (apos.endLine == cpos.line) = true := by rfl)
    (hi : interactive c.env = false := by rfl) (hs : swapsWith (.Call (.Attribute (.Name (Str.ofString x) px) (Str.ofString "remove") apos) [e] [] cpos) none pos.line c.env = pure false := by rfl) :
    SoundS c (.Expr (.Call (.Attribute (.Name (Str.ofString x) px) (Str.ofString "remove") apos) [e] [] cpos) pos) (fun σ => match σ x with
      | some (.list l) => (f σ).bind fun v => match v with
        | .int k => (intsOf l).bind fun ns => if k ∈ ns ∧ ns.length < 1000 then some (σ.set x (.list ((ns.erase k).map .int)), .next) else none
        | _ => none
      | _ => none) := by
  intro h₀ σ σ' fl s Q E e1 I k
  dsimp only at e1
  split at e1
  · rename_i l hx
    simp only [Option.bind_eq_some_iff] at e1
    obtain ⟨v, e1, e2⟩ := e1
    split at e2
    · rename_i i
      simp only [Option.bind_eq_some_iff] at e2
      obtain ⟨ns, e2, e3⟩ := e2
      split at e3
      · rename_i hc; cases e3
        obtain ⟨g, I⟩ := I
        obtain ⟨hv, r⟩ := I.vars x _ hx
        obtain ⟨a, vs, ea, hp, hr⟩ := r.toList
        rw [ea] at hv
        have hI := ints_are e2 hr
        have hlen : vs.length = ns.length := hI.length
        refine wpAny_Expr (Call_method1 hbase hst hline (wpAny_Name (load_var ok hv hd' ?_) hd)) hi hs
        refine ⟨"list", _, F.plainAttrs_list, F.slot_list_remove, F.type_list_remove, hp.isList.typeIs, ?_, ?_⟩
        · intro b eb; cases eb; obtain ⟨n, hp⟩ := hp; exact ⟨_, hp, rfl⟩
        · refine P.remove_list (h σ _ s e1 I.toE _ E fun v' h1 tk1 r1 k1 => ?_)
          obtain ⟨t, rfl⟩ := r1.toInt
          have hp1 := PlainList.sub hp k1
          obtain ⟨n, hn⟩ := hp1
          have hj : ns.idxOf i < ns.length := List.idxOf_lt_length_of_mem hc.1
          refine ⟨_, n, isK i, ns.idxOf i, by rw [List.size_toArray, hlen]; exact hj, by rw [List.size_toArray, hlen]; exact Nat.le_trans (Nat.le_of_lt hc.2) (by decide +kernel), hn, ?_, ?_, ?_, ?_⟩
          · intro y hy
            obtain ⟨j, hj, rfl⟩ := List.getElem_of_mem (by simpa using hy : y ∈ vs)
            obtain ⟨u, hu⟩ := ints_get hI j (by omega)
            rw [List.getElem?_eq_getElem hj] at hu
            rw [Option.some.inj hu]
            exact MeetsSeq.EqGives.int _ _ _ _
          · obtain ⟨u, hu⟩ := ints_get hI _ hj
            have hu' : vs.toArray[ns.idxOf i]'(by rw [List.size_toArray, hlen]; exact hj) = .int ns[ns.idxOf i] u := by
              rw [List.getElem?_eq_getElem (by rw [hlen]; exact hj)] at hu
              simpa using Option.some.inj hu
            rw [hu']
            show (ns[ns.idxOf i] == i) = true
            rw [List.getElem_idxOf]; simp
          · intro m hm hlt
            obtain ⟨u, hu⟩ := ints_get hI m (by rw [List.size_toArray] at hm; omega)
            have hu' : vs.toArray[m] = .int (ns[m]'(by rw [List.size_toArray] at hm; omega)) u := by
              rw [List.getElem?_eq_getElem (by rw [List.size_toArray] at hm; exact hm)] at hu
              simpa using Option.some.inj hu
            rw [hu']
            exact before_idx _ hlt
          · have hsz : vs.toArray.eraseIdxIfInBounds (ns.idxOf i) = (vs.eraseIdx (ns.idxOf i)).toArray := by
              simp [Array.eraseIdxIfInBounds, hlen, hj]
            refine k .next _ tk1 ⟨g, (I.sub k1).mutate (vs' := vs.eraseIdx (ns.idxOf i)) hx ea (fun b o hb e => (Heap.get?_update_other h1 _ (Ne.symm hb)).trans e) ?_ ?_ (by simp [PV.atom])⟩ .next
            · have := update_plain (PlainList.sub hp k1) (fun xs => xs.eraseIdxIfInBounds (ns.idxOf i))
              rw [hsz] at this
              exact this
            · have er : ∀ {vs : List Value} {ns : List Int}, IntsAre vs ns → ∀ j, IntsAre (vs.eraseIdx j) (ns.eraseIdx j) := by
                intro vs ns hI
                induction hI with
                | nil => intro j; exact .nil
                | cons n t r ih =>
                  intro j
                  cases j with
                  | zero => exact r
                  | succ j => exact .cons _ _ (ih j)
              rw [erase_idx hc.1]
              exact reps_ints (er hI _)
      · cases e3
    · cases e2
  · cases e1

theorem all_set {l : List PV} (h : l.all PV.atom = true) {v : PV} (hv : v.atom = true) {i : Nat} : (l.set i v).all PV.atom = true := by
  rw [List.all_eq_true] at h ⊢
  intro p hp
  rcases List.mem_or_eq_of_mem_set hp with q | q
  · exact h p q
  · subst q; exact hv
/-! x[i] = e -/
theorem SoundS.setItem (ok : c.Ok) {e i : Expr} {f g : DE} (x : String) (px ip pos : Pos) (h : SoundE c e f) (hi : SoundE c i g)
    (hd : (Str.ofString x == ("__debug__" : Str)) = false := by decide) (hd' : (Str.ofString x == ("__classdict__" : Str)) = false := by decide)
    (hs : swapsWith e (some (.Subscript (.Name (Str.ofString x) px) i ip)) pos.line c.env = pure false := by rfl) :
    SoundS c (.Assign [.Subscript (.Name (Str.ofString x) px) i ip] e pos) (fun σ => (f σ).bind fun v => (g σ).bind fun j => match σ x, j with
      | some (.list l), .int j => if v.atom = true ∧ 0 ≤ j ∧ j < l.length ∧ l.length < 1000 then some (σ.set x (.list (l.set j.toNat v)), .next) else none
      | _, _ => none) := by
  intro h₀ σ σ' fl s Q E e1 I k
  simp only [Option.bind_eq_some_iff] at e1
  obtain ⟨v, e1, j, e2, e3⟩ := e1
  split at e3
  · rename_i l j hx
    split at e3
    · rename_i hc; cases e3
      obtain ⟨gg, I⟩ := I
      refine wpAny_Assign_Subscript (h σ v s e1 I.toE _ E fun vv h1 tk1 r1 k1 => ?_) hs
      obtain ⟨hv, r⟩ := (I.sub k1).vars x _ hx
      obtain ⟨a, vs, ea, hp, hr⟩ := r.toList
      rw [ea] at hv
      refine wpAny_Name (load_var ok hv hd' (hi σ _ { s with heap := h1, toks := tk1 } e2 (I.sub k1).toE _ E fun vj h2 tk2 r2 k2 => ?_)) hd
      obtain ⟨t, rfl⟩ := r2.toInt
      obtain ⟨n, hn⟩ := PlainList.sub hp k2
      have hlen := hr.1
      refine ki_setAt hn hc.2.1 (by omega) (by rw [List.size_toArray]; omega) ?_
      refine k .next _ tk2 ⟨gg, (I.sub (k1.trans k2)).mutate (vs' := vs.set j.toNat vv) hx ea (fun b o hb e => (Heap.get?_update_other h2 _ (Ne.symm hb)).trans e) ?_ ?_ (all_set (flat_list I hx ea) hc.1)⟩ .next
      · have := update_plain (PlainList.sub hp k2) (fun xs => xs.setIfInBounds j.toNat vv)
        simpa using this
      · have hr2 := hr.sub k2
        refine ⟨by simp [hlen], fun i p u q1 q2 => ?_⟩
        by_cases hij : j.toNat = i
        · subst hij
          rw [List.getElem?_set_self (by omega)] at q1
          rw [List.getElem?_set_self (by omega)] at q2
          cases q1; cases q2
          exact (r1.sub k2).toI (atom_imm hc.1)
        · rw [List.getElem?_set_ne hij] at q1 q2
          exact hr2.2 i p u q1 q2
    · cases e3
  · cases e3
end
end
section
open PySem PySem.Spec PySem.Calls PyProof.Rows PySem.W
set_option maxRecDepth 100000

/-- an object that only an iterator holds -/
def WrOk (mt : Bool) (h : Heap) (b : Addr) : Prop := ∃ o, h.get? b = some o ∧ (∀ es ep, o.data ≠ .dict es ep) ∧ (∀ v, o.data ≠ .cell v) ∧ o.cls ≠ .type "list" ∧ (mt = false → ∀ xs n, o.data ≠ .seq xs n)

structure Cursor (c : Cx) (hs : Heap) (tg : Expr) (it : Value) (l : List PV) (fp wr : List Addr) (St : Nat → Heap → Prop) : Prop where
  frame : ∀ i h h', St i h → (∀ b ∈ fp, ∀ o, h.get? b = some o → h'.get? b = some o) → St i h'
  sub : ∀ b ∈ wr, b ∈ fp
  new : ∀ b ∈ fp, hs.get? b = none
  live : ∀ i h, St i h → ∀ b ∈ fp, ∃ o, h.get? b = some o
  kind : ∀ i h, St i h → ∀ b ∈ wr, WrOk c.mt h b
  item : ∀ i (s : Shared) (Q : Value → Shared → Prop) (E : Value → Shared → Prop), i < l.length → St i s.heap →
    (∀ p v h' tk, l[i]? = some p → RepI c.mt h' p v → St (i + 1) h' → (∀ b o, b ∉ wr → s.heap.get? b = some o → h'.get? b = some o) → Q v { s with heap := h', toks := tk }) →
    wpAny c.M c.A (pyNext it) (fun r s₁ => match r with | none => False | some v => wpAny c.M c.A (letOwnedTupleGo tg it v) (fun _ s₂ => Q v s₂) E s₁) E s
  done : ∀ (s : Shared) (Q : Option Value → Shared → Prop) (E : Value → Shared → Prop), St l.length s.heap →
    (∀ h' tk, (∀ b o, b ∉ wr → s.heap.get? b = some o → h'.get? b = some o) → Q none { s with heap := h', toks := tk }) → wpAny c.M c.A (pyNext it) Q E s
  self : ∀ i (s : Shared) (Q : Value → Shared → Prop) (E : Value → Shared → Prop), St i s.heap → Q it s → wpAny c.M c.A (pyIter it) Q E s

def SoundIter (c : Cx) (tg : Expr) (e : Expr) (f : Store → Option (List PV)) : Prop := ∀ σ l s, f σ = some l → EInv c σ s.heap → ∀ (Q : Value → Shared → Prop) (E : Value → Shared → Prop),
  (∀ it h' tk fp wr St, Cursor c s.heap tg it l fp wr St → St 0 h' → Sub s.heap h' → Q it { s with heap := h', toks := tk }) →
  wpAny c.M c.A (eval e c.env) (fun xv s₁ => wpAny c.M c.A (pyIter xv) Q E s₁) E s

def SoundTg (c : Cx) (tg : Expr) (bind : PV → Store → Option Store) : Prop := ∀ h₀ σ σ' f p v s (Q : Unit → Shared → Prop) (E : Value → Shared → Prop), bind p σ = some σ' → InvF c h₀ σ f (Shared.heap s) → RepI c.mt s.heap p v →
  (∀ f' h' tk, InvF c h₀ σ' f' h' → (∀ y l, σ' y = some (.list l) → ∃ l0, σ y = some (.list l0) ∧ f' y = f y) → (∀ b o, (b ≠ c.env.locals ∧ ∀ y, c.env.cells.lookup y ≠ some b) → s.heap.get? b = some o → h'.get? b = some o) → Q () { s with heap := h', toks := tk }) →
  wpAny c.M c.A (PySem.assign tg c.env v) Q E s

def loopS (bind : PV → Store → Option Store) (g : DS) : List PV → DS
  | [], σ => some (σ, .next)
  | v :: r, σ => (bind v σ).bind fun σ1 => match g σ1 with
    | some (σ', .next) => loopS bind g r σ'
    | some (σ', .cont) => loopS bind g r σ'
    | some (σ', .brk) => some (σ', .next)
    | some (σ', .ret v) => some (σ', .ret v)
    | none => none

section
variable {c : Cx}
/-- own objects: the frame, the cells, the lists of the names -/
def Own (c : Cx) (σ : Store) (f : String → Value) (b : Addr) : Prop := b = c.env.locals ∨ (∃ y, c.env.cells.lookup y = some b) ∨ ∃ y l, σ y = some (.list l) ∧ f y = .ref b
theorem InvF.rebase {h₀ h : Heap} {σ : Store} {f : String → Value} (I : InvF c h₀ σ f h) : InvF c (hide h (Own c σ f)) σ f h where
  base := fun b o e => by
    have e0 := I.base b o e
    have : ¬ Own c σ f b := by
      rintro (rfl | ⟨y, q⟩ | ⟨y, l, q1, q2⟩)
      · rw [I.freshL] at e0; cases e0
      · rw [(I.cells y b q).1] at e0; cases e0
      · rw [(I.fresh y l b q1 q2).1] at e0; cases e0
    rw [hide_get _ _ this]; exact I.keep b o e0
  keep := hide_sub _ _
  ns := I.ns
  freshL := hide_none _ _ (.inl rfl)
  cells := fun x a e => ⟨hide_none _ _ (.inr (.inl ⟨x, e⟩)), (I.cells x a e).2⟩
  apart := I.apart
  vars := I.vars
  own := I.own
  fresh := fun x l a e1 e2 => ⟨hide_none _ _ (.inr (.inr ⟨x, l, e1, e2⟩)), (I.fresh x l a e1 e2).2⟩
  flat := I.flat
theorem InvF.weaken {h₀ hg h : Heap} {σ : Store} {f : String → Value} (I : InvF c hg σ f h) (k : Sub h₀ hg) (hb : Sub c.B h₀) : InvF c h₀ σ f h where
  base := hb
  keep := k.trans I.keep
  ns := I.ns
  freshL := by cases q : h₀.get? c.env.locals with
    | none => rfl
    | some o => have := k _ _ q; rw [I.freshL] at this; cases this
  cells := fun x a e => ⟨(by
    cases q : h₀.get? a with
    | none => rfl
    | some o => have := k _ _ q; rw [(I.cells x a e).1] at this; cases this), (I.cells x a e).2⟩
  apart := I.apart
  vars := I.vars
  own := I.own
  fresh := fun x l a e1 e2 => ⟨(by
    cases q : h₀.get? a with
    | none => rfl
    | some o => have := k _ _ q; rw [(I.fresh x l a e1 e2).1] at this; cases this), (I.fresh x l a e1 e2).2⟩
  flat := I.flat
theorem sub_rebase {h₀ h : Heap} {σ : Store} {f : String → Value} (I : InvF c h₀ σ f h) : Sub h₀ (hide h (Own c σ f)) := fun b o e => by
  have : ¬ Own c σ f b := by
    rintro (rfl | ⟨y, q⟩ | ⟨y, l, q1, q2⟩)
    · rw [I.freshL] at e; cases e
    · rw [(I.cells y b q).1] at e; cases e
    · rw [(I.fresh y l b q1 q2).1] at e; cases e
  rw [hide_get _ _ this]; exact I.keep b o e
/-- an iterator's step leaves all that stands -/
theorem InvF.wr {h₀ h h' : Heap} {σ : Store} {f : String → Value} {wr : List Addr} (I : InvF c h₀ σ f h) (hk : ∀ b o, b ∉ wr → h.get? b = some o → h'.get? b = some o) (hw : ∀ b ∈ wr, WrOk c.mt h b) (h0 : ∀ b ∈ wr, h₀.get? b = none) : InvF c h₀ σ f h' := by
  have nd : ∀ {a m}, h.Ns a m → a ∉ wr := by
    rintro a m ⟨o, es, ep, ho, hd, _⟩ q
    obtain ⟨o', ho', w1, _⟩ := hw a q
    rw [ho] at ho'; cases ho'; exact w1 _ _ hd
  have nc : ∀ {a v}, h.IsCell a v → a ∉ wr := by
    rintro a v ⟨o, ho, hd⟩ q
    obtain ⟨o', ho', _, w2, _⟩ := hw a q
    rw [ho] at ho'; cases ho'; exact w2 _ hd
  have ns' : ∀ {a m}, h.Ns a m → h'.Ns a m := fun q => q.at' fun o e => hk _ o (nd q) e
  have cell' : ∀ {a v}, h.IsCell a v → h'.IsCell a v := fun {a v} q => by
    have := nc q
    obtain ⟨o, ho, hd⟩ := q
    exact ⟨o, hk a o this ho, hd⟩
  have repA : ∀ {p u}, p.atom = true → RepI c.mt h p u → RepI c.mt h' p u := by
    intro p u ha r
    cases r with
    | none => exact .none
    | bool b => exact .bool b
    | int i t => exact .int i t
    | flt x t => exact .flt x t
    | str s t => exact .str s t
    | obj => exact .obj _
    | tup => cases ha
    | rlist => cases ha
  have repI : ∀ {p u}, c.mt = false → RepI c.mt h p u → RepI c.mt h' p u := by
    intro p u hm r
    induction r with
    | none => exact .none
    | bool b => exact .bool b
    | int i t => exact .int i t
    | flt x t => exact .flt x t
    | str s t => exact .str s t
    | obj v => exact .obj v
    | @tup a l vs ht hl _ ih =>
      obtain ⟨o, ho, hc, n, hd⟩ := ht
      refine .tup ⟨o, hk a o (fun q => ?_) ho, hc, n, hd⟩ hl ih
      obtain ⟨o', ho', _, _, _, w⟩ := hw a q
      rw [ho] at ho'; cases ho'; exact w hm _ _ hd
    | @rlist a l vs hm' ht hl _ ih =>
      obtain ⟨o, ho, hc, n, hd⟩ := ht
      refine .rlist hm' ⟨o, hk a o (fun q => ?_) ho, hc, n, hd⟩ hl ih
      obtain ⟨o', ho', _, _, _, w⟩ := hw a q
      rw [ho] at ho'; cases ho'; exact w hm _ _ hd
  have rep : ∀ {p u}, FlatOk c.mt p → Rep c.mt h p u → Rep c.mt h' p u := by
    intro p u hf r
    cases hm : c.mt with
    | false =>
      rw [hm] at r
      cases r with
      | imm r => exact .imm (hm ▸ repI hm (hm ▸ r))
      | @list a l vs hp hr =>
        obtain ⟨n, hp⟩ := hp
        have : a ∉ wr := fun q => by
          obtain ⟨o', ho', _, _, w, _⟩ := hw a q
          rw [hp] at ho'; cases ho'; exact w rfl
        exact .list ⟨n, hk a _ this hp⟩ ⟨hr.1, fun i p v a b => hm ▸ repI hm (hm ▸ hr.2 i p v a b)⟩
    | true =>
      have hf := hf hm
      rw [hm] at r
      cases r with
      | @imm p u r =>
        have : p.atom = true := by cases p <;> first | rfl | exact hf | cases r
        exact .imm (hm ▸ repA this (hm ▸ r))
      | @list a l vs hp hr =>
        obtain ⟨n, hp⟩ := hp
        have : a ∉ wr := fun q => by
          obtain ⟨o', ho', _, _, w, _⟩ := hw a q
          rw [hp] at ho'; cases ho'; exact w rfl
        refine .list ⟨n, hk a _ this hp⟩ ⟨hr.1, fun i p v a b => hm ▸ repA ?_ (hm ▸ hr.2 i p v a b)⟩
        exact List.all_eq_true.mp hf p (List.mem_of_getElem? a)
  refine ⟨I.base, fun b o e => hk b o (fun q => by rw [h0 b q] at e; cases e) (I.keep b o e), let ⟨m, q⟩ := I.ns; ⟨m, ns' q⟩, I.freshL, fun y b e => ⟨(I.cells y b e).1, let ⟨v, q⟩ := (I.cells y b e).2; ⟨v, cell' q⟩⟩, I.apart, fun y p e => ⟨?_, rep (I.flat y p e) (I.vars y p e).2⟩, I.own, I.fresh, I.flat⟩
  rcases (I.vars y p e).1 with ⟨a, m, b, d⟩ | ⟨a, d, b, e⟩
  · exact .inl ⟨a, m, ns' b, d⟩
  · exact .inr ⟨a, d, b, cell' e⟩

theorem SoundS.for {tg iter : Expr} {body : List Stmt} {f : Store → Option (List PV)} {bind : PV → Store → Option Store} {g : DS} (hi : SoundIter c tg iter f) (ht : SoundTg c tg bind) (hb : SoundSs c body g) (pos : Pos)
    (hs : ∀ x, foldedSetIterable iter c.env x = pure x := by intro _; rfl) :
    SoundS c (.For tg iter body [] pos) (fun σ => (f σ).bind fun l => loopS bind g l σ) := by
  intro h₀ σ σ' fl s Q E e I k
  simp only [Option.bind_eq_some_iff] at e
  obtain ⟨l, e1, e2⟩ := e
  refine wpAny_For (hi σ l s e1 I.toE _ E fun it h1 tk1 fp wr St W st0 k1 => ?_) hs
  obtain ⟨f0, I⟩ := I
  -- the frame, the cells and the names' lists are no iterator's
  obtain ⟨mL, nsL⟩ := I.ns
  have hLs : ∀ b ∈ fp, b ≠ c.env.locals := by
    rintro b hb rfl
    obtain ⟨o, _, _, ho, _⟩ := nsL
    rw [W.new _ hb] at ho; cases ho
  have hCs : ∀ b ∈ fp, ∀ y, c.env.cells.lookup y ≠ some b := by
    intro b hb y q
    obtain ⟨_, _, o, ho, _⟩ := I.cells y b q
    rw [W.new _ hb] at ho; cases ho
  have h0 : ∀ b ∈ wr, h₀.get? b = none := fun b hb => by
    cases q : h₀.get? b with
    | none => rfl
    | some o => have := I.keep _ _ q; rw [W.new _ (W.sub _ hb)] at this; cases this
  have start : ∀ b ∈ fp, ∀ y l', σ y = some (.list l') → f0 y ≠ .ref b := by
    intro b hb y l' e q
    obtain ⟨a, vs, ea, ⟨n, hp⟩, _⟩ := (I.vars y _ e).2.toList
    rw [q] at ea; cases ea
    rw [W.new _ hb] at hp; cases hp
  refine codeAny_forLoop_any
    (fun m s' => ∃ h' tk i σi ff, s' = { s with heap := h', toks := tk } ∧ St i h' ∧ InvF c h₀ σi ff h' ∧ (∀ b ∈ fp, ∀ y l', σi y = some (.list l') → ff y ≠ .ref b) ∧ i ≤ l.length ∧ m = l.length + 1 - i ∧ loopS bind g (l.drop i) σi = some (σ', fl)) ?_ (l.length + 1)
    ⟨h1, tk1, 0, σ, f0, rfl, st0, I.sub k1, start, Nat.zero_le _, rfl, by simpa using e2⟩
  rintro m s' ⟨h', tk, i, σi, ff, rfl, hst, Ii, hoff, hil, rfl, hrun⟩
  by_cases hlt : i < l.length
  · rw [List.drop_eq_getElem_cons hlt] at hrun
    simp only [loopS, Option.bind_eq_some_iff] at hrun
    obtain ⟨σ1, eb, hrun⟩ := hrun
    refine wpAny_mono (W.item i { s with heap := h', toks := tk } (fun v s₂ => ∃ h₂ tk₂ p, s₂ = { s with heap := h₂, toks := tk₂ } ∧ l[i]? = some p ∧ RepI c.mt h₂ p v ∧ St (i + 1) h₂ ∧ (∀ b o, b ∉ wr → h'.get? b = some o → h₂.get? b = some o)) _ hlt hst fun p v h₂ tk₂ a b d e => ⟨h₂, tk₂, p, rfl, a, b, d, e⟩) (fun r s₁ hr => ?_) fun _ _ x => x
    cases r with
    | none => exact hr.elim
    | some v =>
      refine wpAny_mono hr (fun _ s₂ hr => ?_) fun _ _ x => x
      obtain ⟨h₂, tk₂, p, rfl, hp, hrep, hst₂, hk₂⟩ := hr
      have I₂ : InvF c h₀ σi ff h₂ := Ii.wr hk₂ (W.kind i h' hst) h0
      have ep : p = l[i] := by rw [List.getElem?_eq_getElem hlt] at hp; exact (Option.some.inj hp).symm
      subst ep
      refine ht h₀ σi σ1 ff _ v { s with heap := h₂, toks := tk₂ } _ _ eb I₂ hrep fun f₃ h₃ tk₃ I₃ hl₃ hk₃ => ?_
      have hst₃ : St (i + 1) h₃ := W.frame _ _ _ hst₂ fun b hb o e => hk₃ b o ⟨hLs b hb, hCs b hb⟩ e
      have hoff₃ : ∀ b ∈ fp, ∀ y l', σ1 y = some (.list l') → f₃ y ≠ .ref b := fun b hb y l' e q => by
        obtain ⟨l0, e0, ef⟩ := hl₃ y l' e
        exact hoff b hb y l0 e0 (by rw [← ef]; exact q)
      have notown : ∀ b ∈ fp, ¬ Own c σ1 f₃ b := by
        rintro b hb (q | ⟨y, q⟩ | ⟨y, l', q1, q2⟩)
        · exact hLs b hb q
        · exact hCs b hb y q
        · exact hoff₃ b hb y l' q1 q2
      have livefp : ∀ b ∈ fp, ∃ o, (hide h₃ (Own c σ1 f₃)).get? b = some o := fun b hb => by
        rw [hide_get _ _ (notown b hb)]; exact W.live _ _ hst₃ b hb
      cases hg : g σ1 with
      | none => rw [hg] at hrun; cases hrun
      | some q =>
        obtain ⟨σ2, fl2⟩ := q
        rw [hg] at hrun
        refine hb (hide h₃ (Own c σ1 f₃)) σ1 σ2 fl2 { s with heap := h₃, toks := tk₃ } _ _ hg ⟨f₃, I₃.rebase⟩ fun fw h₄ tk₄ I₄ r₄ => ?_
        obtain ⟨f₄, I₄⟩ := I₄
        have J₄ : InvF c h₀ σ2 f₄ h₄ := I₄.weaken (sub_rebase I₃) I₃.base
        have hst₄ : St (i + 1) h₄ := W.frame _ _ _ hst₃ fun b hb o e => I₄.keep b o (by rw [hide_get _ _ (notown b hb)]; exact e)
        have hoff₄ : ∀ b ∈ fp, ∀ y l', σ2 y = some (.list l') → f₄ y ≠ .ref b := fun b hb y l' e q => by
          obtain ⟨o, ho⟩ := livefp b hb
          rw [(I₄.fresh y l' b e q).1] at ho; cases ho
        cases r₄ with
        | next => exact ⟨l.length + 1 - (i + 1), by omega, h₄, tk₄, i + 1, σ2, f₄, rfl, hst₄, J₄, hoff₄, hlt, rfl, hrun⟩
        | cont => exact ⟨l.length + 1 - (i + 1), by omega, h₄, tk₄, i + 1, σ2, f₄, rfl, hst₄, J₄, hoff₄, hlt, rfl, hrun⟩
        | brk => cases hrun; exact k .next h₄ tk₄ ⟨f₄, J₄⟩ .next
        | ret r => cases hrun; exact k _ h₄ tk₄ ⟨f₄, J₄⟩ (.ret r)
  · have hin : i = l.length := by omega
    subst hin
    rw [List.drop_length] at hrun
    cases hrun
    refine W.done _ _ _ hst fun h₂ tk₂ hk₂ => wpAny_execs_nil ?_
    exact k .next h₂ tk₂ ⟨ff, Ii.wr hk₂ (W.kind _ _ hst) h0⟩ .next
end
end
section
open PySem PySem.Spec PySem.Calls PyProof.Rows PySem.W
set_option maxRecDepth 100000

section
variable {c : Cx}
/-! targets -/
def bindN (mt : Bool) (x : String) : PV → Store → Option Store := fun p σ => if p.imm = true ∧ FlatOk mt p then some (σ.set x p) else none
def bind2 (mt : Bool) (x y : String) : PV → Store → Option Store
  | .tup [p, q], σ => if p.imm = true ∧ q.imm = true ∧ FlatOk mt p ∧ FlatOk mt q then some ((σ.set x p).set y q) else none
  | _, _ => none
theorem SoundTg.name (ok : c.Ok) {mt : Bool} (hmt : c.mt = mt) (x : String) (px : Pos) (hx : Stor c x) : SoundTg c (.Name (Str.ofString x) px) (bindN mt x) := by
  subst hmt
  intro h₀ σ σ' f p v s Q E e I r k
  unfold bindN at e
  split at e
  · rename_i hc; cases e
    refine wpAny_assign_Name (I.store ok (.imm r) hc.2 (.inl hc.1) hx fun h' tk I' hs => k _ h' tk I' (fun y l ey => ?_) hs)
    by_cases hy : y = x
    · subst hy
      simp only [Store.set, if_true] at ey
      cases ey; cases hc.1
    · simp only [Store.set, if_neg hy] at ey
      exact ⟨l, ey, by simp only [fset, if_neg hy]⟩
  · cases e
theorem SoundTg.pair (ok : c.Ok) {mt : Bool} (hmt : c.mt = mt) (x y : String) (px py p : Pos) (n : Nat) (hx : Stor c x) (hy : Stor c y) : SoundTg c (.Tuple [.Name (Str.ofString x) px, .Name (Str.ofString y) py] n p) (bind2 mt x y) := by
  subst hmt
  intro h₀ σ σ' f pv v s Q E e I r k
  unfold bind2 at e
  split at e
  · rename_i a b
    split at e
    · rename_i hc; cases e
      show wpAny c.M c.A (do standAt p; unpack v (assignEach [.Name (Str.ofString x) px, .Name (Str.ofString y) py] c.env)) Q E s
      refine wpAny_bind (wpAny_standAt ?_)
      unfold unpack
      rw [((Tgts.nil.cons y py).cons x px).each]
      refine wpAny_bind (wpAny_holding ?_)
      rw [findIdx_none]
      refine unpack_tup ok (.imm r) rfl fun h2 vs k2 r2 => ?_
      cases r2 with
      | @cons _ va _ vs' ra r2 =>
        cases r2 with
        | @cons _ vb _ vs'' rb r2 =>
          cases r2
          show wpAny c.M c.A (do holding [vb] (PySem.assign (.Name (Str.ofString x) px) c.env va); assignInOrder [PySem.assign (.Name (Str.ofString y) py) c.env] [vb]) Q E _
          refine wpAny_bind (wpAny_holding (SoundTg.name ok rfl x px hx h₀ σ (σ.set x a) f a va { s with heap := h2 } _ _ (by unfold bindN; rw [if_pos ⟨hc.1, hc.2.2.1⟩]) (I.sub k2) (ra.toI hc.1) fun f3 h3 tk3 I3 l3 k3 => ?_))
          have rb3 : RepI c.mt h3 b vb := by
            have q := rb.toI hc.2.1
            have key : ∀ {p u}, RepI c.mt h2 p u → RepI c.mt h3 p u := by
              intro p u q
              induction q with
              | none => exact .none
              | bool b => exact .bool b
              | int i t => exact .int i t
              | flt x t => exact .flt x t
              | str s t => exact .str s t
              | obj v => exact .obj v
              | @tup b l vs ht hl _ ih =>
                obtain ⟨o, ho, hc, n, hd⟩ := ht
                refine .tup ⟨o, k3 b o ⟨?_, ?_⟩ ho, hc, n, hd⟩ hl ih
                · rintro rfl
                  obtain ⟨m, o', es, ep, ho', hd', _⟩ := (I.sub k2).ns
                  rw [ho] at ho'; cases ho'; rw [hd] at hd'; cases hd'
                · intro y hy
                  obtain ⟨_, u, o', ho', hd'⟩ := (I.sub k2).cells y b hy
                  rw [ho] at ho'; cases ho'; rw [hd] at hd'; cases hd'
              | @rlist b l vs hm ht hl _ ih =>
                obtain ⟨o, ho, hc, n, hd⟩ := ht
                refine .rlist hm ⟨o, k3 b o ⟨?_, ?_⟩ ho, hc, n, hd⟩ hl ih
                · rintro rfl
                  obtain ⟨m, o', es, ep, ho', hd', _⟩ := (I.sub k2).ns
                  rw [ho] at ho'; cases ho'; rw [hd] at hd'; cases hd'
                · intro y hy
                  obtain ⟨_, u, o', ho', hd'⟩ := (I.sub k2).cells y b hy
                  rw [ho] at ho'; cases ho'; rw [hd] at hd'; cases hd'
            exact key q
          show wpAny c.M c.A (do holding [] (PySem.assign (.Name (Str.ofString y) py) c.env vb); assignInOrder [] []) Q E _
          refine wpAny_bind (wpAny_holding (SoundTg.name ok rfl y py hy h₀ (σ.set x a) ((σ.set x a).set y b) f3 b vb { s with heap := h3, toks := tk3 } _ _ (by unfold bindN; rw [if_pos ⟨hc.2.1, hc.2.2.2⟩]) I3 rb3 fun f4 h4 tk4 I4 l4 k4 => ?_))
          refine wpAny_pure (k f4 h4 tk4 I4 (fun z l ez => ?_) fun b o hb e => k4 b o hb (k3 b o hb (k2 b o e)))
          obtain ⟨l0, e0, q0⟩ := l4 z l ez
          obtain ⟨l1, e1, q1⟩ := l3 z l0 e0
          exact ⟨l1, e1, q0.trans q1⟩
    · cases e
  · cases e

/-! iterators -/
theorem cursor_of {hs : Heap} {x : Str} {px : Pos} {I : Addr} {l : List PV} {fp wr : List Addr} {P : Nat → Value → Prop} {St : Nat → Heap → Prop} (W : Walks c.prog c.w c.A I fp wr l.length P St)
    (new : ∀ b ∈ fp, hs.get? b = none) (live : ∀ i h, St i h → ∀ b ∈ fp, ∃ o, h.get? b = some o) (kind : ∀ i h, St i h → ∀ b ∈ wr, WrOk c.mt h b)
    (hP : ∀ i v, P i v → ∀ p, l[i]? = some p → ∀ h, RepI c.mt h p v) : Cursor c hs (.Name x px) (.ref I) l fp wr St where
  frame := W.frame
  sub := W.sub
  new := new
  live := live
  kind := kind
  item := fun i s Q E hi st k => W.item i s _ E hi st fun v h' tk hp st' hk => wpAny_of_eq (a := ()) rfl (by
    obtain ⟨p, hl⟩ : ∃ p, l[i]? = some p := ⟨_, List.getElem?_eq_getElem hi⟩
    exact k p v h' tk hl (hP i v hp p hl h') st' hk)
  done := fun s Q E st k => W.done s Q E st k
  self := fun i s Q E st k => W.self i s Q E st k

def rangeL (a b : Int) : List PV := (List.range (b - a).toNat).map fun (i : Nat) => .int (a + i)
theorem iter_range {s : Shared} (ok : c.Ok) {x : Str} {px : Pos} {r : Addr} {a b : Int} {t u v : Tok} (hs : Heap) (hk : Sub hs s.heap) (hr : IsRange s.heap r a b 1 t u v) (ha : -1000 ≤ a ∧ a < 1000) (hb : -1000 ≤ b ∧ b < 1000)
    {Q : Value → Shared → Prop} {E : Value → Shared → Prop} (k : ∀ it h' tk fp wr St, Cursor c hs (.Name x px) it (rangeL a b) fp wr St → St 0 h' → Sub s.heap h' → Q it { s with heap := h', toks := tk }) :
    wpAny c.M c.A (pyIter (.ref r)) Q E s := by
  refine wpAny_pyIter_range hr (small_one (by omega) (by omega) (by omega) (by omega)) ?_
  have hn : Builtin.Range.rangeSize a b 1 = ((b - a).toNat : Int) := by rw [rangeSize_one]; split <;> omega
  rw [hn]
  have W := Walks.range (prog := c.prog) (w := c.w) ok.hh s.heap.objs.size a 1 (b - a).toNat
  have hl : (rangeL a b).length = (b - a).toNat := by simp [rangeL]
  rw [← hl] at W
  refine k _ _ s.toks _ _ _ (cursor_of W ?_ ?_ ?_ ?_) ?_ fun _ _ e => Heap.get?_push_of_some _ e
  · intro b hb
    rw [List.mem_singleton.mp hb]
    cases q : hs.get? s.heap.objs.size with
    | none => rfl
    | some o => exact absurd (Heap.lt_size (hk _ _ q)) (Nat.lt_irrefl _)
  · intro i h st b hb
    rw [List.mem_singleton.mp hb]; exact ⟨_, st⟩
  · intro i h st b hb
    rw [List.mem_singleton.mp hb]
    exact ⟨_, st, fun _ _ q => (nomatch q), fun _ q => (nomatch q), fun q => absurd (Value.type.inj q) (by decide), fun _ _ _ q => (nomatch q)⟩
  · rintro i v ⟨t, rfl⟩ p hp h
    simp only [rangeL, List.getElem?_map, Option.map_eq_some_iff] at hp
    obtain ⟨j, hj, rfl⟩ := hp
    have : j = i := by
      rw [List.getElem?_eq_some_iff] at hj
      obtain ⟨h1, h2⟩ := hj
      simpa using h2.symm
    subst this
    rw [Int.mul_one]; exact .int _ _
  · show IsRangeIter _ _ _ _ _
    rw [hl]
    simpa using (Heap.get?_push_size s.heap (o := { cls := .type "range_iterator", data := .fields #[rawInt a, rawInt ((b - a).toNat : Int), rawInt 1] }) rfl)
theorem SoundIter.range1 (ok : c.Ok) {x : Str} {px : Pos} {e : Expr} {f : DE} (np pos : Pos) (hx : c.env.kindOf (Str.ofString "range") = some .globalImplicit) (hn : c.mg (Str.ofString "range") = none) (h : SoundE c e f)
    (hst : starEach [e] c.env = [(false, eval e c.env)] := by rfl) :
    SoundIter c (.Name x px) (.Call (.Name (Str.ofString "range") np) [e] [] pos) (fun σ => (f σ).bind fun v => match v with
      | .int n => if -1000 ≤ n ∧ n < 1000 then some (rangeL 0 n) else none
      | _ => none) := by
  intro σ l s e1 I Q E k
  simp only [Option.bind_eq_some_iff] at e1
  obtain ⟨v, e1, e2⟩ := e1
  split at e2
  · rename_i n
    split at e2
    · rename_i hc; cases e2
      show wpAny c.M c.A (do callWith pos (← eval (.Name (Str.ofString "range") np) c.env) [] (backTo pos (starEach [e] c.env)) (backToKw pos (keywordEach [] c.env))) _ E s
      rw [hst]
      refine wpAny_bind (Name_function_global ok.hk hx (loadGlobal_builtin (ok.g.keeps I.base) hn (ok.b.keeps I.base) ((ok.bt (Str.ofString "range") (by decide)).trans (show bootBuiltins (Str.ofString "range") = some (.type "range") by rfl)) ?_) (by decide))
      refine PySem.callWith_type1 (h σ _ s e1 I _ E fun v' h1 tk1 r1 k1 => ?_)
      obtain ⟨t, rfl⟩ := r1.toInt
      refine call_range_1 ?_
      refine iter_range (x := x) (px := px) (s := { s with heap := _, toks := _ }) ok s.heap (k1.trans fun _ _ e => Heap.get?_push_of_some _ e) (IsRange.new _ _ _ _ _ _ _) (by omega) hc fun it h' tk fp wr St W st kk => ?_
      exact k it h' tk fp wr St W st ((k1.trans fun _ _ e => Heap.get?_push_of_some _ e).trans kk)
    · cases e2
  · cases e2
theorem SoundIter.range2 (ok : c.Ok) {x : Str} {px : Pos} {e e' : Expr} {f g : DE} (np pos : Pos) (hx : c.env.kindOf (Str.ofString "range") = some .globalImplicit) (hn : c.mg (Str.ofString "range") = none) (h : SoundEs c [e, e'] [f, g]) :
    SoundIter c (.Name x px) (.Call (.Name (Str.ofString "range") np) [e, e'] [] pos) (fun σ => (f σ).bind fun v => (g σ).bind fun u => match v, u with
      | .int a, .int b => if (-1000 ≤ a ∧ a < 1000) ∧ (-1000 ≤ b ∧ b < 1000) then some (rangeL a b) else none
      | _, _ => none) := by
  intro σ l s e1 I Q E k
  simp only [Option.bind_eq_some_iff] at e1
  obtain ⟨v, e1, u, e2, e3⟩ := e1
  split at e3
  · rename_i a b
    split at e3
    · rename_i hc; cases e3
      show wpAny c.M c.A (do callWith pos (← eval (.Name (Str.ofString "range") np) c.env) [] (backTo pos (starEach [e, e'] c.env)) (backToKw pos (keywordEach [] c.env))) _ E s
      refine wpAny_bind (Name_function_global ok.hk hx (loadGlobal_builtin (ok.g.keeps I.base) hn (ok.b.keeps I.base) ((ok.bt (Str.ofString "range") (by decide)).trans (show bootBuiltins (Str.ofString "range") = some (.type "range") by rfl)) ?_) (by decide))
      refine PySem.callWith_type (by rw [(backTo_plain h pos).1]; exact (backTo_plain h pos).2) (evalArgs_list h (spliced_sound h (σ := σ) (pvs := [.int a, .int b]) (by simp [seqE, e1, e2]) I _ E fun vs h1 tk1 r1 k1 => ?_))
      cases r1 with
      | cons ra r1 =>
        cases r1 with
        | cons rb r1 =>
          cases r1
          obtain ⟨t, rfl⟩ := ra.toInt
          obtain ⟨t', rfl⟩ := rb.toInt
          refine call_range_2 ?_
          refine iter_range (x := x) (px := px) (s := { s with heap := _, toks := _ }) ok s.heap (k1.trans fun _ _ e => Heap.get?_push_of_some _ e) (IsRange.new _ _ _ _ _ _ _) hc.1 hc.2 fun it h' tk fp wr St W st kk => ?_
          exact k it h' tk fp wr St W st ((k1.trans fun _ _ e => Heap.get?_push_of_some _ e).trans kk)
    · cases e3
  · cases e3
/-- a new list of atoms -/
theorem SoundIter.new (ok : c.Ok) {x : Str} {px : Pos} {e : Expr} {f : Store → Option (List PV)} (h : SoundN c e f) :
    SoundIter c (.Name x px) e (fun σ => (f σ).bind fun l => if l.all PV.atom = true then some l else none) := by
  intro σ l s e1 I Q E k
  simp only [Option.bind_eq_some_iff] at e1
  obtain ⟨l', e1, e2⟩ := e1
  split at e2
  · rename_i ha; cases e2
    refine h σ _ s e1 I _ E fun v h1 tk1 r1 k1 => ?_
    obtain ⟨a, vs, rfl, hn, hp, hr⟩ := r1
    have hl := hp.isList
    have hlt : a < h1.objs.size := by obtain ⟨_, hp⟩ := hp; exact Heap.lt_size hp
    refine wpAny_pyIter_list hl ?_
    have W := Walks.list (prog := c.prog) (w := c.w) ok.hh h1.objs.size a (Nat.ne_of_lt hlt) vs.toArray
    have hsz : vs.toArray.size = l.length := by rw [List.size_toArray]; exact hr.1.symm
    rw [hsz] at W
    refine k _ _ tk1 _ _ _ (cursor_of W ?_ ?_ ?_ ?_) ?_ (k1.trans fun _ _ e => Heap.get?_push_of_some _ e)
    · intro b hb
      rcases List.mem_cons.mp hb with rfl | hb
      · cases q : s.heap.get? h1.objs.size with
        | none => rfl
        | some o => exact absurd (Heap.lt_size (k1 _ _ q)) (Nat.lt_irrefl _)
      · rw [List.mem_singleton.mp hb]; exact hn
    · rintro i h ⟨⟨o, ho, _⟩, ⟨o', ho', _⟩⟩ b hb
      rcases List.mem_cons.mp hb with rfl | hb
      · exact ⟨o, ho⟩
      · rw [List.mem_singleton.mp hb]; exact ⟨o', ho'⟩
    · rintro i h ⟨⟨o, ho, hc, hd⟩, _⟩ b hb
      rw [List.mem_singleton.mp hb]
      exact ⟨o, ho, (fun _ _ q => by rw [hd] at q; cases q), (fun _ q => by rw [hd] at q; cases q), (fun q => by rw [hc] at q; exact absurd (Value.type.inj q) (by decide)), (fun _ _ _ q => by rw [hd] at q; cases q)⟩
    · intro i v hv p hp h
      have r := hr.2 i p v hp (by simpa using hv)
      have hpa := List.all_eq_true.mp ha p (List.mem_of_getElem? hp)
      cases r with
      | none => exact .none
      | bool b => exact .bool b
      | int i t => exact .int i t
      | flt x t => exact .flt x t
      | str s t => exact .str s t
      | obj => exact .obj _
      | tup => cases hpa
      | rlist => cases hpa
    · exact ⟨⟨_, Heap.get?_push_size _ rfl, rfl, rfl⟩, hl.push _⟩
  · cases e2
end
end
section
open PySem PySem.Spec PySem.Calls PyProof.Rows PySem.W
set_option maxRecDepth 100000

section
variable {c : Cx}
theorem cursorT_of {hs : Heap} {elts : List Expr} {k : Nat} {pos : Pos} {I : Addr} {l : List PV} {fp wr : List Addr} {Pt : Nat → Array Value → Prop} {St : Nat → Heap → Prop} {Mid : Nat → Addr → Heap → Prop} (W : WalksU c.prog c.w c.A I fp wr l.length Pt St Mid)
    (new : ∀ b ∈ fp, hs.get? b = none) (live : ∀ i h, St i h → ∀ b ∈ fp, ∃ o, h.get? b = some o) (kind : ∀ i h, St i h → ∀ b ∈ wr, WrOk c.mt h b)
    (hP : ∀ i vals, Pt i vals → ∀ p, l[i]? = some p → ∃ ps : List PV, p = .tup ps ∧ ps.length = vals.size ∧ ∀ (j : Nat) (q : PV) (v : Value), ps[j]? = some q → vals[j]? = some v → ∀ h, RepI c.mt h q v) : Cursor c hs (.Tuple elts k pos) (.ref I) l fp wr St where
  frame := W.frame
  sub := W.sub
  new := new
  live := live
  kind := kind
  item := fun i s Q E hi st kk => W.item i s _ E hi st fun T vals h' tk hp hT hMid hk => W.go elts k pos i T { s with heap := h', toks := tk } _ E hMid fun h'' st'' hk'' => by
    obtain ⟨p, hl⟩ : ∃ p, l[i]? = some p := ⟨_, List.getElem?_eq_getElem hi⟩
    obtain ⟨ps, rfl, hlen, hrep⟩ := hP i vals hp p hl
    have hT'' : h''.IsTuple T vals := by
      obtain ⟨o, ho, r⟩ := hT
      exact ⟨o, hk'' T o (W.apart _ _ _ hMid) ho, r⟩
    refine kk (.tup ps) (.ref T) h'' tk hl (.tup (vs := vals.toList) (by simpa using hT'') (by simpa using hlen) fun j q v a b => hrep j q v a (by simpa using b) h'') st'' fun b o hb e => hk'' b o hb (hk b o hb e)
  done := fun s Q E st k => W.done s Q E st k
  self := fun i s Q E st k => W.self i s Q E st k

theorem strDraws (hh : c.A.handled = none) (it : Addr) (x : Str) (t : Tok) : Draws c.prog c.w c.A.in1 it [it] x.cps.size (fun i v => ∃ d u, x.cps[i]? = some d ∧ v = .str ⟨#[d]⟩ u) (fun i h => h.IsStrIter it (strIterType x) x t i) := by
  unfold strIterType
  cases x.cps.all (· < 128) with
  | true => exact Draws.strAscii (A := c.A.in1) hh it x t
  | false => exact Draws.strWide (A := c.A.in1) hh it x t
theorem strIter_ne (x : Str) : strIterType x ≠ "list" := by unfold strIterType; split <;> decide
def enumL (x : Str) : List PV := (List.range x.length).map fun (i : Nat) => .tup [.int i, .str (chr x i)]
theorem sign_chr {x : Str} {i d : Nat} (h : x.cps[i]? = some d) : (⟨#[d]⟩ : Str) = chr x i := by
  unfold chr
  obtain ⟨hi, e⟩ := Array.getElem?_eq_some_iff.mp h
  simp [Array.getD, hi, e]
theorem callee_type {x : Str} {T : String} {s : Shared} {np : Pos} {σ : Store} (ok : c.Ok) (I : EInv c σ s.heap) (hb : bootBuiltins x = some (.type T)) (hx : c.env.kindOf x = some .globalImplicit) (hn : c.mg x = none) (hd : (x == ("__debug__" : Str)) = false) (hnm : x ≠ "__name__")
    {Q : Value → Shared → Prop} {E : Value → Shared → Prop} (k : Q (.type T) s) : wpAny c.M c.A (eval (.Name x np) c.env) Q E s :=
  Name_function_global ok.hk hx (loadGlobal_builtin (ok.g.keeps I.base) hn (ok.b.keeps I.base) ((ok.bt x hnm).trans hb) k) hd
theorem get_none {h h' : Heap} {a : Addr} (k : Sub h h') (ha : h'.objs.size ≤ a) : h.get? a = none := by
  cases q : h.get? a with
  | none => rfl
  | some o => exact absurd (Heap.lt_size (k _ _ q)) (Nat.not_lt.mpr ha)
theorem SoundIter.enum (ok : c.Ok) {elts : List Expr} {n : Nat} {tp : Pos} {e : Expr} {f : DE} (np pos : Pos) (hx : c.env.kindOf (Str.ofString "enumerate") = some .globalImplicit) (hn : c.mg (Str.ofString "enumerate") = none) (h : SoundE c e f)
    (hst : starEach [e] c.env = [(false, eval e c.env)] := by rfl) :
    SoundIter c (.Tuple elts n tp) (.Call (.Name (Str.ofString "enumerate") np) [e] [] pos) (fun σ => (f σ).bind fun v => match v with
      | .str x => some (enumL x)
      | _ => none) := by
  intro σ l s e1 I Q E k
  simp only [Option.bind_eq_some_iff] at e1
  obtain ⟨v, e1, e2⟩ := e1
  split at e2
  · rename_i x; cases e2
    show wpAny c.M c.A (do callWith pos (← eval (.Name (Str.ofString "enumerate") np) c.env) [] (backTo pos (starEach [e] c.env)) (backToKw pos (keywordEach [] c.env))) _ E s
    rw [hst]
    refine wpAny_bind (callee_type ok I boot_enumerate hx hn (by decide) (by decide) ?_)
    refine PySem.callWith_type1 (h σ _ s e1 I _ E fun v' h1 tk1 r1 k1 => ?_)
    obtain ⟨t, rfl⟩ := r1.toStr
    refine call_enumerate_str fun h2 he hit hsz hk => wpAny_pyIter_enum he ?_
    have D := strDraws (c := c) ok.hh h1.objs.size x t
    have W := (WalksT.enumerateD D (h1.objs.size + 1) (Nat.succ_ne_self _) (by simp) (by simp)).toU
    have hl : (enumL x).length = x.cps.size := by simp [enumL, Str.length]
    rw [← hl] at W
    refine k _ h2 tk1 _ _ _ (cursorT_of W ?_ ?_ ?_ ?_) ⟨⟨_, he⟩, hit⟩ (k1.trans hk)
    · intro b hb
      rcases List.mem_cons.mp hb with rfl | hb
      · exact get_none k1 (Nat.le_succ _)
      · rw [List.mem_singleton.mp hb]; exact get_none k1 (Nat.le_refl _)
    · rintro i h ⟨⟨old, he⟩, ⟨o, ho, _⟩⟩ b hb
      rcases List.mem_cons.mp hb with rfl | hb
      · exact ⟨_, he⟩
      · rw [List.mem_singleton.mp hb]; exact ⟨o, ho⟩
    · rintro i h ⟨⟨old, he⟩, ⟨o, ho, hc, hd⟩⟩ b hb
      rcases List.mem_cons.mp hb with rfl | hb
      · exact ⟨_, he, (fun _ _ q => nomatch q), (fun _ q => nomatch q), (fun q => absurd (Value.type.inj q) (by decide)), (fun _ _ _ q => nomatch q)⟩
      · rw [List.mem_singleton.mp hb]
        exact ⟨o, ho, (fun _ _ q => by rw [hd] at q; cases q), (fun _ q => by rw [hd] at q; cases q), (fun q => by rw [hc] at q; exact strIter_ne x (Value.type.inj q)), (fun _ _ _ q => by rw [hd] at q; cases q)⟩
    · rintro i vals ⟨u, y, ⟨d, u', hd, rfl⟩, rfl⟩ p hp
      simp only [enumL, List.getElem?_map, Option.map_eq_some_iff] at hp
      obtain ⟨j, hj, rfl⟩ := hp
      have : j = i := by
        rw [List.getElem?_eq_some_iff] at hj
        obtain ⟨h1, h2⟩ := hj
        simpa using h2.symm
      subst this
      refine ⟨_, rfl, rfl, fun m q v a b h => ?_⟩
      rw [sign_chr hd] at b
      match m with
      | 0 => simp at a b; subst a b; exact .int _ _
      | 1 => simp at a b; subst a b; exact .str _ _
      | m + 2 => simp at a
  · cases e2

/-! zip of two texts -/
structure ZA (z TI TO i1 i2 : Addr) : Prop where
  a1 : TI ≠ z
  a2 : TO ≠ z
  a3 : i1 ≠ z
  a4 : i2 ≠ z
  a5 : TI ≠ TO
  a6 : TI ≠ i1
  a7 : TI ≠ i2
  a8 : TO ≠ i1
  a9 : TO ≠ i2
  a10 : i1 ≠ i2
section
variable {prog : Program} {w : World} {A : Around} {E : Value → Shared → Prop} {s : Shared} {n1 n2 : Nat} {P1 P2 : Nat → Value → Prop} {S1 S2 : Nat → Heap → Prop} {z TI TO i1 i2 : Addr} {k : Nat} {a b : Value}
theorem zipS_item {Q : Value → Shared → Prop} (D1 : Draws prog w A i1 [i1] n1 P1 S1) (D2 : Draws prog w A i2 [i2] n2 P2 S2) (D : ZA z TI TO i1 i2)
    (hz : IsZip s.heap z TI TO .none) (hTI : IsPair s.heap TI (.ref i1) (.ref i2)) (hTO : IsPair s.heap TO a b) (h1 : S1 k s.heap) (h2 : S2 k s.heap) (hk1 : k < n1) (hk2 : k < n2)
    (hQ : ∀ h' tk x y, P1 k x → P2 k y → IsZip h' z TI TO (rawInt s.heap.objs.size) → IsPair h' TO x y → S1 (k + 1) h' → S2 (k + 1) h' → IsPair h' s.heap.objs.size x y →
      (∀ c o, c ≠ z → c ≠ TO → c ≠ i1 → c ≠ i2 → s.heap.get? c = some o → h'.get? c = some o) → Q (.ref s.heap.objs.size) { s with heap := h', toks := tk }) :
    wpAny (model prog w) A (Builtin.«zip.__next__» ⟨[.ref z], []⟩) (fun fin s' => ∃ v, fin = .done (.ret v) ∧ Q v s') E s := by
  have f1 : ∀ {i h h'}, S1 i h → (∀ o, h.get? i1 = some o → h'.get? i1 = some o) → S1 i h' := fun st q => D1.frame _ _ _ st fun b hb o e => by rw [List.mem_singleton.mp hb] at e ⊢; exact q o e
  have f2 : ∀ {i h h'}, S2 i h → (∀ o, h.get? i2 = some o → h'.get? i2 = some o) → S2 i h' := fun st q => D2.frame _ _ _ st fun b hb o e => by rw [List.mem_singleton.mp hb] at e ⊢; exact q o e
  show wpAny _ _ (field (.ref z) 2 >>= _) _ _ _
  refine wpAny_bind (wpAny_field hz rfl (x := .bool false) rfl ?_)
  show wpAny _ _ (field (.ref z) 3 >>= _) _ _ _
  refine wpAny_bind (wpAny_field hz rfl (x := .ref TI) rfl ?_)
  refine wpAny_bind (wpAny_seqItems hTI rfl ?_)
  show wpAny _ _ (Builtin.SmallTypes.ownedTupleIsFree (.ref z) >>= _) _ _ _
  refine wpAny_bind ?_
  unfold Builtin.SmallTypes.ownedTupleIsFree
  refine wpAny_bind (wpAny_field hz rfl (x := .none) rfl (wpAny_pure ?_))
  simp only [if_true]
  refine wpAny_bind (wpAny_rule ?_)
  refine wpAny_bind (wpAny_field hz rfl (x := .ref TO) rfl ?_)
  refine wpAny_bind (wpAny_setField_rec hz (by simp) fun g1 hz₁ hs₁ => ?_)
  replace hz₁ : IsZip g1 z TI TO .ellipsis := hz₁
  refine wpAny_bind ?_
  simp only [List.zipIdx_cons, List.zipIdx_nil, List.forIn_cons, List.forIn_nil]
  refine wpAny_bind (wpAny_bind (wpAny_onRaise ?_))
  show wpAny _ _ (Builtin.SmallTypes.nextOf (.ref i1) >>= _) _ _ _
  refine wpAny_bind (D1.item k _ _ _ hk1 (f1 h1 fun o e => hs₁.extBut _ _ D.a3 e) fun x g2 t2 px st1 hs₂ => wpAny_pure ?_)
  have hTO₂ : IsPair g2 TO a b := hs₂.extBut _ _ D.a8 (hs₁.extBut _ _ D.a2 hTO)
  refine wpAny_bind (wpAny_seqItems hTO₂ rfl ?_)
  refine wpAny_bind (wpAny_updateSeq_pair hTO₂ fun g3 hTO₃ hs₃ => ?_)
  replace hTO₃ : IsPair g3 TO x b := hTO₃
  refine wpAny_bind (wpAny_letGo (wpAny_pure ?_))
  refine wpAny_bind (wpAny_bind (wpAny_onRaise ?_))
  show wpAny _ _ (Builtin.SmallTypes.nextOf (.ref i2) >>= _) _ _ _
  refine wpAny_bind (D2.item k _ _ _ hk2 (f2 h2 fun o e => hs₃.extBut _ _ D.a9.symm (hs₂.extBut _ _ D.a10.symm (hs₁.extBut _ _ D.a4 e))) fun y g4 t4 py st2 hs₄ => wpAny_pure ?_)
  have hTO₄ : IsPair g4 TO x b := hs₄.extBut _ _ D.a9 hTO₃
  refine wpAny_bind (wpAny_seqItems hTO₄ rfl ?_)
  refine wpAny_bind (wpAny_updateSeq_pair hTO₄ fun g5 hTO₅ hs₅ => ?_)
  replace hTO₅ : IsPair g5 TO x y := hTO₅
  refine wpAny_bind (wpAny_letGo (wpAny_pure (wpAny_pure ?_)))
  refine wpAny_bind (wpAny_seqItems hTO₅ rfl ?_)
  refine wpAny_bind (wpAny_newTuple ?_)
  have hsz : g5.objs.size = s.heap.objs.size := by rw [hs₅.1, hs₄.1, hs₃.1, hs₂.1, hs₁.1]
  have hz₅ : IsZip g5 z TI TO .ellipsis := hs₅.extBut _ _ D.a2.symm (hs₄.extBut _ _ D.a4.symm (hs₃.extBut _ _ D.a2.symm (hs₂.extBut _ _ D.a3.symm hz₁)))
  have hk₅ : ∀ c o, c ≠ z → c ≠ TO → c ≠ i1 → c ≠ i2 → s.heap.get? c = some o → g5.get? c = some o := fun c o c1 c2 c3 c4 e =>
    hs₅.extBut _ _ c2 (hs₄.extBut _ _ c4 (hs₃.extBut _ _ c2 (hs₂.extBut _ _ c3 (hs₁.extBut _ _ c1 e))))
  have h1₅ : S1 (k + 1) g5 := f1 st1 fun o e => hs₅.extBut _ _ D.a8.symm (hs₄.extBut _ _ D.a10 (hs₃.extBut _ _ D.a8.symm e))
  have h2₅ : S2 (k + 1) g5 := f2 st2 fun o e => hs₅.extBut _ _ D.a9.symm e
  have hzlt : z < g5.objs.size := Heap.lt_size hz₅
  show wpAny _ _ (Builtin.SmallTypes.ownedTupleHandOut (.ref z) (.ref g5.objs.size) >>= _) _ _ _
  refine wpAny_bind ?_
  unfold Builtin.SmallTypes.ownedTupleHandOut
  have hz₆ : IsZip (g5.push { cls := .type "tuple", data := .seq #[x, y] }) z TI TO .ellipsis := Heap.get?_push_of_some _ hz₅
  refine wpAny_bind (wpAny_setField_rec hz₆ (by simp) fun g7 hz₇ hs₇ => ?_)
  replace hz₇ : IsZip g7 z TI TO (rawInt g5.objs.size) := hz₇
  refine wpAny_setField_rec hz₇ (by simp) fun g8 hz₈ hs₈ => ?_
  replace hz₈ : IsZip g8 z TI TO (rawInt g5.objs.size) := hz₈
  have up : ∀ c o, c ≠ z → g5.get? c = some o → g8.get? c = some o := fun c o c1 e => hs₈.extBut _ _ c1 (hs₇.extBut _ _ c1 (Heap.get?_push_of_some _ e))
  have hT₈ : IsPair g8 g5.objs.size x y := hs₈.extBut _ _ (Nat.ne_of_gt hzlt) (hs₇.extBut _ _ (Nat.ne_of_gt hzlt) (Heap.get?_push_size _ rfl))
  rw [hsz] at hz₈ hT₈
  refine wpAny_pure ⟨_, rfl, ?_⟩
  show Q (.ref g5.objs.size) _
  rw [hsz]
  exact hQ g8 _ x y px py hz₈ (up _ _ D.a2 hTO₅) (f1 h1₅ fun o e => up _ o D.a3 e) (f2 h2₅ fun o e => up _ o D.a4 e) hT₈ fun c o c1 c2 c3 c4 e => up c o c1 (hk₅ c o c1 c2 c3 c4 e)

theorem zipS_end {Q : Fin → Shared → Prop} (D1 : Draws prog w A i1 [i1] n1 P1 S1) (D2 : Draws prog w A i2 [i2] n2 P2 S2) (D : ZA z TI TO i1 i2)
    (hz : IsZip s.heap z TI TO .none) (hTI : IsPair s.heap TI (.ref i1) (.ref i2)) (hTO : IsPair s.heap TO a b) (h1 : S1 k s.heap) (h2 : S2 k s.heap) (hend : k = n1 ∨ (k < n1 ∧ k = n2))
    (hE : ∀ h' tk e, (∀ c o, c ≠ z → c ≠ TO → c ≠ i1 → c ≠ i2 → s.heap.get? c = some o → h'.get? c = some o) → (∃ o, h'.get? e = some o ∧ o.cls = .type "StopIteration") → E (.ref e) { s with heap := h', toks := tk }) :
    wpAny (model prog w) A (Builtin.«zip.__next__» ⟨[.ref z], []⟩) Q E s := by
  have f1 : ∀ {i h h'}, S1 i h → (∀ o, h.get? i1 = some o → h'.get? i1 = some o) → S1 i h' := fun st q => D1.frame _ _ _ st fun b hb o e => by rw [List.mem_singleton.mp hb] at e ⊢; exact q o e
  have f2 : ∀ {i h h'}, S2 i h → (∀ o, h.get? i2 = some o → h'.get? i2 = some o) → S2 i h' := fun st q => D2.frame _ _ _ st fun b hb o e => by rw [List.mem_singleton.mp hb] at e ⊢; exact q o e
  show wpAny _ _ (field (.ref z) 2 >>= _) _ _ _
  refine wpAny_bind (wpAny_field hz rfl (x := .bool false) rfl ?_)
  show wpAny _ _ (field (.ref z) 3 >>= _) _ _ _
  refine wpAny_bind (wpAny_field hz rfl (x := .ref TI) rfl ?_)
  refine wpAny_bind (wpAny_seqItems hTI rfl ?_)
  show wpAny _ _ (Builtin.SmallTypes.ownedTupleIsFree (.ref z) >>= _) _ _ _
  refine wpAny_bind ?_
  unfold Builtin.SmallTypes.ownedTupleIsFree
  refine wpAny_bind (wpAny_field hz rfl (x := .none) rfl (wpAny_pure ?_))
  simp only [if_true]
  refine wpAny_bind (wpAny_rule ?_)
  refine wpAny_bind (wpAny_field hz rfl (x := .ref TO) rfl ?_)
  refine wpAny_bind (wpAny_setField_rec hz (by simp) fun g1 hz₁ hs₁ => ?_)
  replace hz₁ : IsZip g1 z TI TO .ellipsis := hz₁
  refine wpAny_bind ?_
  simp only [List.zipIdx_cons, List.zipIdx_nil, List.forIn_cons, List.forIn_nil]
  refine wpAny_bind (wpAny_bind (wpAny_onRaise ?_))
  show wpAny _ _ (Builtin.SmallTypes.nextOf (.ref i1) >>= _) _ _ _
  rcases hend with rfl | ⟨hlt, rfl⟩
  · refine wpAny_bind (D1.done _ _ _ (f1 h1 fun o e => hs₁.extBut _ _ D.a3 e) fun g2 e hs₂ he => ?_)
    obtain ⟨oe, hoe, hce⟩ := he
    have hz₂ : IsZip g2 z TI TO .ellipsis := hs₂ _ _ D.a3.symm hz₁
    have hez : e ≠ z := fun x => by subst x; rw [hz₂] at hoe; cases hoe; simp at hce
    refine wpAny_setField_rec hz₂ (by simp) fun g3 _ hs₃ => hE g3 _ e (fun c o c1 _ c3 _ x => hs₃.extBut _ _ c1 (hs₂ _ _ c3 (hs₁.extBut _ _ c1 x))) ⟨oe, hs₃.extBut _ _ hez hoe, hce⟩
  · refine wpAny_bind (D1.item k _ _ _ hlt (f1 h1 fun o e => hs₁.extBut _ _ D.a3 e) fun x g2 t2 px st1 hs₂ => wpAny_pure ?_)
    have hTO₂ : IsPair g2 TO a b := hs₂.extBut _ _ D.a8 (hs₁.extBut _ _ D.a2 hTO)
    refine wpAny_bind (wpAny_seqItems hTO₂ rfl ?_)
    refine wpAny_bind (wpAny_updateSeq_pair hTO₂ fun g3 hTO₃ hs₃ => ?_)
    refine wpAny_bind (wpAny_letGo (wpAny_pure ?_))
    refine wpAny_bind (wpAny_bind (wpAny_onRaise ?_))
    show wpAny _ _ (Builtin.SmallTypes.nextOf (.ref i2) >>= _) _ _ _
    refine wpAny_bind (D2.done _ _ _ (f2 h2 fun o e => hs₃.extBut _ _ D.a9.symm (hs₂.extBut _ _ D.a10.symm (hs₁.extBut _ _ D.a4 e))) fun g4 e hs₄ he => ?_)
    obtain ⟨oe, hoe, hce⟩ := he
    have hz₄ : IsZip g4 z TI TO .ellipsis := hs₄ _ _ D.a4.symm (hs₃.extBut _ _ D.a2.symm (hs₂.extBut _ _ D.a3.symm hz₁))
    have hez : e ≠ z := fun x => by subst x; rw [hz₄] at hoe; cases hoe; simp at hce
    refine wpAny_setField_rec hz₄ (by simp) fun g5 _ hs₅ => hE g5 _ e (fun c o c1 c2 c3 c4 x => hs₅.extBut _ _ c1 (hs₄ _ _ c4 (hs₃.extBut _ _ c2 (hs₂.extBut _ _ c3 (hs₁.extBut _ _ c1 x))))) ⟨oe, hs₅.extBut _ _ hez hoe, hce⟩
end
section
variable {prog : Program} {w : World} {A : Around} {n1 n2 : Nat} {P1 P2 : Nat → Value → Prop} {S1 S2 : Nat → Heap → Prop} {z TI TO i1 i2 : Addr}
theorem walksZip (D1 : Draws prog w A.in1 i1 [i1] n1 P1 S1) (D2 : Draws prog w A.in1 i2 [i2] n2 P2 S2) (D : ZA z TI TO i1 i2) :
    WalksT prog w A z [z, TI, TO, i1, i2] [z, TO, i1, i2] (min n1 n2) (fun i vals => ∃ x y, P1 i x ∧ P2 i y ∧ vals = #[x, y])
      (fun i h => IsZip h z TI TO .none ∧ IsPair h TI (.ref i1) (.ref i2) ∧ (∃ a b, IsPair h TO a b) ∧ S1 i h ∧ S2 i h)
      (fun i T h => IsZip h z TI TO (rawInt T) ∧ IsPair h TI (.ref i1) (.ref i2) ∧ (∃ a b, IsPair h TO a b) ∧ S1 (i + 1) h ∧ S2 (i + 1) h ∧ T ≠ z ∧ T ≠ TO ∧ T ≠ i1 ∧ T ≠ i2) where
  sub := fun c hc => by simp at hc ⊢; rcases hc with rfl | rfl | rfl | rfl <;> simp
  frame := fun i h h' hst hk => by
    obtain ⟨hz, hTI, ⟨a, b, hTO⟩, h1, h2⟩ := hst
    exact ⟨hk z (by simp) _ hz, hk TI (by simp) _ hTI, ⟨a, b, hk TO (by simp) _ hTO⟩,
      D1.frame _ _ _ h1 fun b hb o e => hk b (by rw [List.mem_singleton.mp hb]; simp) o e, D2.frame _ _ _ h2 fun b hb o e => hk b (by rw [List.mem_singleton.mp hb]; simp) o e⟩
  item := fun i s Q E hi hst hQ => by
    obtain ⟨hz, hTI, ⟨a, b, hTO⟩, h1, h2⟩ := hst
    have lt : ∀ {c o}, s.heap.get? c = some o → s.heap.objs.size ≠ c := fun e => Nat.ne_of_gt (Heap.lt_size e)
    have hT : s.TypeIs (.ref z) "zip" := ⟨_, hz, rfl⟩
    unfold pyNext
    refine wpAny_bind (wpAny_attempt (wpAny_callSpecial?_slot (name := Str.ofString "__next__") hT F.slot_zip_next
      (wpAny_call_entry F.slot_zip_next hT F.entry_zip_next
        (zipS_item D1 D2 D hz hTI hTO h1 h2 (Nat.lt_of_lt_of_le hi (Nat.min_le_left ..)) (Nat.lt_of_lt_of_le hi (Nat.min_le_right ..)) fun h' tk x y px py a1 a2 a3 a4 a5 a6 => wpAny_pure ?_) (F.args_zip_next_1 _))))
    refine hQ s.heap.objs.size #[x, y] h' tk ⟨x, y, px, py, rfl⟩ (Nat.le_refl _) ⟨_, a5, rfl, _, rfl⟩ ⟨a1, a6 _ _ D.a1 D.a5 D.a6 D.a7 hTI, ⟨_, _, a2⟩, a3, a4, lt hz, lt hTO, ?_, ?_⟩
      fun c o hc e => a6 c o (fun x => hc (by simp [x])) (fun x => hc (by simp [x])) (fun x => hc (by simp [x])) (fun x => hc (by simp [x])) e
    · obtain ⟨_, e⟩ := D1.live _ _ h1; exact lt e
    · obtain ⟨_, e⟩ := D2.live _ _ h2; exact lt e
  go := fun elts k pos i T s Q E hm hQ => by
    obtain ⟨hz, hTI, ⟨a, b, hTO⟩, h1, h2, _⟩ := hm
    refine wpAny_letOwnedTupleGo_zip hz fun h' hz' hs' => hQ h' ⟨hz', hs'.extBut _ _ D.a1 hTI, ⟨a, b, hs'.extBut _ _ D.a2 hTO⟩,
      D1.frame _ _ _ h1 fun b hb o e => by rw [List.mem_singleton.mp hb] at e ⊢; exact hs'.extBut _ _ D.a3 e,
      D2.frame _ _ _ h2 fun b hb o e => by rw [List.mem_singleton.mp hb] at e ⊢; exact hs'.extBut _ _ D.a4 e⟩ fun c o hc e => hs'.extBut _ _ (fun x => hc (by simp [x])) e
  apart := fun i T h hm hT => by
    obtain ⟨_, _, _, _, _, t1, t2, t3, t4⟩ := hm
    simp at hT
    rcases hT with rfl | rfl | rfl | rfl
    · exact t1 rfl
    · exact t2 rfl
    · exact t3 rfl
    · exact t4 rfl
  done := fun s Q E hst hQ => by
    obtain ⟨hz, hTI, ⟨a, b, hTO⟩, h1, h2⟩ := hst
    have hT : s.TypeIs (.ref z) "zip" := ⟨_, hz, rfl⟩
    unfold pyNext
    refine wpAny_bind (wpAny_attempt (wpAny_callSpecial?_slot (name := Str.ofString "__next__") hT F.slot_zip_next
      (wpAny_call_entry F.slot_zip_next hT F.entry_zip_next (zipS_end D1 D2 D hz hTI hTO h1 h2 (by omega) fun h' tk e hk he => ?_) (F.args_zip_next_1 _))))
    obtain ⟨o, ho, hc⟩ := he
    refine wpAny_bind (wpAny_isInstance (T := "StopIteration") (b := true) ⟨o, ho, hc⟩ isSubtype_stop ?_)
    exact wpAny_pure (hQ _ _ fun c o hc e => hk c o (fun x => hc (by simp [x])) (fun x => hc (by simp [x])) (fun x => hc (by simp [x])) (fun x => hc (by simp [x])) e)
  self := fun i s Q E hst h => wpAny_pyIter_zip hst.1 h
end
end
end
section
open PySem PySem.Spec PySem.Calls PyProof.Rows PySem.W
set_option maxRecDepth 100000

/-- a walk whose list may be old -/
structure Cur (c : Cx) (hs : Heap) (tg : Expr) (it : Value) (l : List PV) (fp wr : List Addr) (St : Nat → Heap → Prop) : Prop where
  frame : ∀ i h h', St i h → (∀ b ∈ fp, ∀ o, h.get? b = some o → h'.get? b = some o) → St i h'
  sub : ∀ b ∈ wr, b ∈ fp
  new : ∀ b ∈ wr, hs.get? b = none
  live : ∀ i h, St i h → ∀ b ∈ fp, ∃ o, h.get? b = some o
  item : ∀ i (s : Shared) (Q : Value → Shared → Prop) (E : Value → Shared → Prop), i < l.length → St i s.heap →
    (∀ p v h' tk, l[i]? = some p → RepI c.mt h' p v → St (i + 1) h' → (∀ b o, b ∉ wr → s.heap.get? b = some o → h'.get? b = some o) → Q v { s with heap := h', toks := tk }) →
    wpAny c.M c.A (pyNext it) (fun r s₁ => match r with | none => False | some v => wpAny c.M c.A (letOwnedTupleGo tg it v) (fun _ s₂ => Q v s₂) E s₁) E s
  done : ∀ (s : Shared) (Q : Option Value → Shared → Prop) (E : Value → Shared → Prop), St l.length s.heap →
    (∀ h' tk, (∀ b o, b ∉ wr → s.heap.get? b = some o → h'.get? b = some o) → Q none { s with heap := h', toks := tk }) → wpAny c.M c.A (pyNext it) Q E s
  self : ∀ i (s : Shared) (Q : Value → Shared → Prop) (E : Value → Shared → Prop), St i s.heap → Q it s → wpAny c.M c.A (pyIter it) Q E s
theorem Cursor.toCur {c hs tg it l fp wr St} (W : Cursor c hs tg it l fp wr St) : Cur c hs tg it l fp wr St := ⟨W.frame, W.sub, fun b hb => W.new b (W.sub b hb), W.live, W.item, W.done, W.self⟩
def SoundCur (c : Cx) (tg : Expr) (e : Expr) (f : Store → Option (List PV)) : Prop := ∀ σ l s, f σ = some l → EInv c σ s.heap → ∀ (Q : Value → Shared → Prop) (E : Value → Shared → Prop),
  (∀ it h' tk fp wr St, Cur c s.heap tg it l fp wr St → St 0 h' → Sub s.heap h' → Q it { s with heap := h', toks := tk }) →
  wpAny c.M c.A (eval e c.env) (fun xv s₁ => wpAny c.M c.A (pyIter xv) Q E s₁) E s
theorem SoundIter.cur {c tg e f} (h : SoundIter c tg e f) : SoundCur c tg e f := fun σ l s e1 I Q E k => h σ l s e1 I Q E fun it h' tk fp wr St W => k it h' tk fp wr St W.toCur

/-- the context of a comprehension -/
def Cx.comp (c : Cx) (scope : Scope) (cl : List (Str × Addr)) (C : Addr) : Cx := { c with env := compEnvC scope cl C c.env }

abbrev Binds := List (String × PV)
def setL (σ : Store) : Binds → Store
  | [] => σ
  | (x, p) :: r => setL (σ.set x p) r
def CompTg (c : Cx) (tg : Expr) (tgb : PV → Option Binds) : Prop := ∀ p v bs m s (Q : Unit → Shared → Prop) (E : Value → Shared → Prop), tgb p = some bs → RepI c.mt s.heap p v → s.heap.Ns c.env.locals m →
  (∀ h' tk m', h'.Ns c.env.locals m' → (∀ b o, b ≠ c.env.locals → s.heap.get? b = some o → h'.get? b = some o) →
    (∀ (σ : Store) x pv, setL σ bs x = some pv → σ x = some pv ∨ (c.env.kindOf (Str.ofString x) = some .local ∧ ∃ v', m' (Str.ofString x) = some v' ∧ ∀ h, RepI c.mt h pv v')) → Q () { s with heap := h', toks := tk }) →
  wpAny c.M c.A (PySem.assign tg c.env v) Q E s
inductive SoundIfs (c : Cx) : List Expr → DT → Prop
  | nil : SoundIfs c [] (fun _ => some true)
  | one {e t} (h : SoundT c e t) : SoundIfs c [e] t
theorem SoundIfs.run {c ifs t} (h : SoundIfs c ifs t) {σ b s} (e : t σ = some b) (I : EInv c σ (Shared.heap s)) :
    Does c (forIn ifs true fun cc r => if r = true then do let ok ← isTrue cc c.env (eval cc c.env); pure (ForInStep.yield ok) else pure (ForInStep.yield r)) s (fun v _ => v = b) := by
  cases h with
  | nil => cases e; exact fun Q E k => wpAny_tests_nil (k _ _ _ rfl (Sub.refl _))
  | one h => exact fun Q E k => wpAny_tests_one (h σ b s e I Q E k)

def compL (σ : Store) (tgb : PV → Option Binds) (t : DT) (g : DE) : List PV → Option (List PV)
  | [] => some []
  | v :: r => (tgb v).bind fun bs => (t (setL σ bs)).bind fun b => if b = true then (g (setL σ bs)).bind fun y => if y.atom = true then (compL σ tgb t g r).map (y :: ·) else none else compL σ tgb t g r

theorem RepI.atomAny {mt h p v} (r : RepI mt h p v) (a : p.atom = true) : ∀ h', RepI mt h' p v := by
  intro h'
  cases r with
  | none => exact .none
  | bool b => exact .bool b
  | int i t => exact .int i t
  | flt x t => exact .flt x t
  | str s t => exact .str s t
  | obj => exact .obj _
  | tup => cases a
  | rlist => cases a
/-- a target that is a name -/
def cb1 (x : String) : PV → Option Binds := fun p => if p.atom = true then some [(x, p)] else none
def cb2 (x y : String) : PV → Option Binds
  | .tup [p, q] => if p.atom = true ∧ q.atom = true then some [(x, p), (y, q)] else none
  | _ => none
section
variable {c : Cx}
theorem CompTg.name (hk : c.env.scope.kind = .function) (x : String) (px : Pos) (hx : c.env.kindOf (Str.ofString x) = some .local) : CompTg c (.Name (Str.ofString x) px) (cb1 x) := by
  intro p v bs m s Q E e r hn k
  unfold cb1 at e
  split at e
  · rename_i ha; cases e
    refine wpAny_assign_Name (wpAny_storeName_local hx hn (fun h' hn' hs => ?_) (by rw [hk]; rfl))
    refine k h' _ _ hn' (fun b o hb e => (hs.2 b hb).trans e) fun σ y pv e => ?_
    simp only [setL, Store.set] at e
    split at e
    · rename_i hy; subst hy; cases e
      exact .inr ⟨hx, v, by simp, r.atomAny ha⟩
    · exact .inl e
  · cases e
theorem CompTg.pair (hk : c.env.scope.kind = .function) (hh : c.A.handled = none) (x y : String) (px py tp : Pos) (n : Nat) (hx : c.env.kindOf (Str.ofString x) = some .local) (hy : c.env.kindOf (Str.ofString y) = some .local) (hxy : x ≠ y) :
    CompTg c (.Tuple [.Name (Str.ofString x) px, .Name (Str.ofString y) py] n tp) (cb2 x y) := by
  intro pv v bs m s Q E e r hn k
  unfold cb2 at e
  split at e
  · rename_i p q
    split at e
    · rename_i hc; cases e
      obtain ⟨a, vs, rfl, ht, hr⟩ := (Rep.imm r).toTup
      show wpAny c.M c.A (do standAt tp; unpack (.ref a) (assignEach [.Name (Str.ofString x) px, .Name (Str.ofString y) py] c.env)) Q E s
      refine wpAny_bind (wpAny_standAt ?_)
      unfold unpack
      rw [((Tgts.nil.cons y py).cons x px).each]
      refine wpAny_bind (wpAny_holding ?_)
      rw [findIdx_none]
      have hsz : vs.toArray.size = 2 := by rw [List.size_toArray, ← hr.1]; rfl
      show wpAny c.M c.A (unpackItems (.ref a) 2 none) _ E s
      rw [← hsz]
      refine unpackItems_tuple hh ht fun h' he => ?_
      obtain ⟨va, vb, rfl⟩ : ∃ va vb, vs = [va, vb] := by
        match vs, hr.1 with
        | [va, vb], _ => exact ⟨va, vb, rfl⟩
      have ra := (hr.2 0 p va rfl rfl).atomAny hc.1
      have rb := (hr.2 1 q vb rfl rfl).atomAny hc.2
      have kk : ∀ b o, s.heap.get? b = some o → h'.get? b = some o := fun b o e => he b o (Nat.ne_of_lt (Heap.lt_size e)) e
      show wpAny c.M c.A (do holding [vb] (PySem.assign (.Name (Str.ofString x) px) c.env va); assignInOrder [PySem.assign (.Name (Str.ofString y) py) c.env] [vb]) Q E _
      refine wpAny_bind (wpAny_holding (wpAny_assign_Name (wpAny_storeName_local hx (hn.keeps kk) (fun h2 hn2 hs2 => ?_) (by rw [hk]; rfl))))
      show wpAny c.M c.A (do holding [] (PySem.assign (.Name (Str.ofString y) py) c.env vb); assignInOrder [] []) Q E _
      refine wpAny_bind (wpAny_holding (wpAny_assign_Name (wpAny_storeName_local hy hn2 (fun h3 hn3 hs3 => ?_) (by rw [hk]; rfl))))
      refine wpAny_pure (k h3 _ _ hn3 (fun b o hb e => (hs3.2 b hb).trans ((hs2.2 b hb).trans (kk b o e))) fun σ z pv e => ?_)
      simp only [setL, Store.set] at e
      split at e
      · rename_i hz; subst hz; cases e
        exact .inr ⟨hy, vb, by simp, rb⟩
      · rename_i hzy
        split at e
        · rename_i hz; subst hz; cases e
          refine .inr ⟨hx, va, ?_, ra⟩
          have : Str.ofString z ≠ Str.ofString y := fun q => hxy (ofString_inj q)
          simp [this]
        · exact .inl e
    · cases e
  · cases e
end

section
variable {c : Cx}
theorem codeAny_compLoop_gen {prog : Program} {w : World} {A : Around} {R : Result → Shared → Prop} {s : Shared} {elt target iter : Expr} {ifs : List Expr} {scope : Scope} {pos : Pos} {it acc : Value} {env : Env} (I : Nat → Shared → Prop)
    (turn : ∀ n s, I n s → wpAny (model prog w) A (pyNext it) (fun r s₁ => match r with
      | none => R (.ok .next) s₁
      | some v => wpAny (model prog w) A (letOwnedTupleGo target it v) (fun _ s₁' => wpAny (model prog w) A (PySem.assign target env v) (fun _ s₂ =>
          wpAny (model prog w) A (forIn ifs true fun c r => if r = true then do let ok ← isTrue c env (eval c env); pure (ForInStep.yield ok) else pure (ForInStep.yield r)) (fun ok s₃ =>
            if ok = true then wpAny (model prog w) A (eval elt env) (fun x s₄ =>
              wpAny (model prog w) A (call (.builtin "list.append") [acc, x]) (fun _ s₅ => ∃ m, m < n ∧ I m s₅) (notedBy (model prog w) A env fun e s' => R (.error e) s') s₄) (notedBy (model prog w) A env fun e s' => R (.error e) s') s₃
            else ∃ m, m < n ∧ I m s₃) (notedBy (model prog w) A env fun e s' => R (.error e) s') s₂) (notedBy (model prog w) A env fun e s' => R (.error e) s') s₁') (notedBy (model prog w) A env fun e s' => R (.error e) s') s₁) (notedBy (model prog w) A env fun e s' => R (.error e) s') s)
    (n : Nat) (h : I n s) :
    codeAny (model prog w) A (.compLoop (.ListComp elt [⟨target, iter, ifs, 0⟩] scope pos) 0 it acc env) R s := by
  refine codeAny_loop rfl I (fun n s hI => ?_) n h
  show wpAny _ A ((compTurn (.ListComp elt [⟨target, iter, ifs, 0⟩] scope pos) 0 it acc env).onRaise (fun x => do noteFrame x env; theTreesLotGoes x)) _ _ s
  refine wpAny_noted ?_
  rw [compTurn_list]
  refine wpAny_bind (wpAny_standAt (wpAny_bind (wpAny_mono (turn n s hI) (fun r s₁ h₁ => ?_) fun _ _ h' => h')))
  cases r with
  | none => exact wpAny_pure h₁
  | some v =>
    refine wpAny_bind (wpAny_mono h₁ (fun _ s₁' h₁' => ?_) fun _ _ h' => h')
    refine wpAny_bind (wpAny_mono h₁' (fun _ s₂ h₂ => wpAny_bind (wpAny_mono h₂ (fun ok s₃ h₃ => ?_) fun _ _ h' => h')) fun _ _ h' => h')
    cases ok with
    | false => exact wpAny_pure ⟨rfl, h₃⟩
    | true =>
      exact wpAny_bind (wpAny_bind (wpAny_mono h₃ (fun x s₄ h₄ => wpAny_bind (wpAny_mono h₄ (fun _ s₅ h₅ => wpAny_pure (wpAny_pure ⟨rfl, h₅⟩)) fun _ _ h' => h')) fun _ _ h' => h'))

theorem comp_block (ok : c.Ok) {elt target iter : Expr} {ifs : List Expr} {scope : Scope} {cl : List (Str × Addr)} {pos : Pos} {tgb : PV → Option Binds} {t : DT} {g : DE} {σ : Store} {hs : Heap} {s₂ : Shared} {it : Value} {l ys : List PV} {fp wr : List Addr} {St : Nat → Heap → Prop} {E : Value → Shared → Prop}
    (hcell : ∀ y ∈ scope.names, y.2 ≠ .cell) (hkind : scope.kind = .function)
    (htg : ∀ C, CompTg (c.comp scope cl C) target tgb) (ht : ∀ C, SoundIfs (c.comp scope cl C) ifs t) (he : ∀ C, SoundE (c.comp scope cl C) elt g)
    (W : Cur c hs target it l fp wr St) (st : St 0 s₂.heap) (k0 : Sub hs s₂.heap) (hB : Sub c.B hs)
    (hσ : ∀ C h', Sub hs h' → ∀ x pv, σ x = some pv → ∃ v, VarAt h' (c.comp scope cl C).env (Str.ofString x) v ∧ Rep c.mt h' pv v) (hl : l.length < 1000) (hrun : compL σ tgb t g l = some ys)
    {RR : Value → Addr → Result → Shared → Prop}
    (hRR : ∀ D C h' tk m' vs, s₂.heap.get? D = none → s₂.heap.get? C = none → D ≠ C → h'.Ns C m' → h'.PlainList D (List.toArray vs) → Reps c.mt h' ys vs → Sub hs h' → RR (.ref D) C (.ok .next) { s₂ with heap := h', toks := tk }) :
    wpAny c.M c.A (newList []) (fun acc s₃ => wpAny c.M c.A (newFunctionEnv scope c.env.globals cl [] c.env.qual none .none (some c.env)) (fun cenv s₄ =>
      codeAny c.M c.A (.compStart (.ListComp elt [⟨target, iter, ifs, 0⟩] scope pos) 0 it acc { cenv with scope := relabel scope c.env }) (RR acc cenv.locals) s₄) E s₃) E s₂ := by
  refine wpAny_newObj_type (wpAny_newFunctionEnv hcell (by intro y hy; simp at hy) (fun h₁ hns₁ hsb₁ => ?_) hkind)
  dsimp only at hns₁ hsb₁ ⊢
  generalize hH2 : s₂.heap.push { cls := .type "list", dict := none, data := .seq ([] : List Value).toArray } = H2 at hns₁ hsb₁ ⊢
  have hC : H2.objs.size = s₂.heap.objs.size + 1 := by rw [← hH2, Heap.size_push]
  have hDC : s₂.heap.objs.size ≠ H2.objs.size := by rw [hC]; exact Nat.ne_of_lt (Nat.lt_succ_self _)
  have below : ∀ b, b < s₂.heap.objs.size → b ≠ H2.objs.size ∧ b ≠ s₂.heap.objs.size := fun b hb => ⟨by rw [hC]; exact Nat.ne_of_lt (Nat.lt_succ_of_lt hb), Nat.ne_of_lt hb⟩
  have hfp : ∀ b ∈ fp, b < s₂.heap.objs.size := fun b hb => let ⟨o, ho⟩ := W.live _ _ st b hb; Heap.lt_size ho
  have hDf : s₂.heap.objs.size ∉ fp := fun hm => Nat.lt_irrefl _ (hfp _ hm)
  have hCf : H2.objs.size ∉ fp := fun hm => by have := hfp _ hm; rw [hC] at this; exact Nat.lt_irrefl _ (Nat.lt_of_succ_lt this)
  have hDw : s₂.heap.objs.size ∉ wr := fun h => hDf (W.sub _ h)
  have hCw : H2.objs.size ∉ wr := fun h => hCf (W.sub _ h)
  have old : ∀ b o, s₂.heap.get? b = some o → h₁.get? b = some o := fun b o e => hsb₁.extBut b o (below b (Heap.lt_size e)).1 (Heap.get?_push_of_some _ (hH2 ▸ Heap.get?_push_of_some _ e))
  have hacc : h₁.PlainList s₂.heap.objs.size #[] := ⟨_, hsb₁.extBut _ _ hDC (Heap.get?_push_of_some _ (hH2 ▸ Heap.get?_push_size _ rfl))⟩
  have hst₁ : St 0 h₁ := W.frame _ _ _ st fun b _ o e => old b o e
  have fresh : ∀ a, s₂.heap.objs.size ≤ a → s₂.heap.get? a = none := fun a ha => by
    cases e : s₂.heap.get? a with
    | none => rfl
    | some o' => exact absurd (Heap.lt_size e) (Nat.not_lt.mpr ha)
  have hsC : ∀ b o, hs.get? b = some o → b ≠ H2.objs.size ∧ b ≠ s₂.heap.objs.size ∧ b ∉ wr := fun b o e => ⟨(below b (Heap.lt_size (k0 b o e))).1, (below b (Heap.lt_size (k0 b o e))).2, fun q => by rw [W.new b q] at e; cases e⟩
  have loop : ∀ s₃ : Shared, s₃ = { s₂ with heap := h₁, toks := s₂.toks + ([] : List (Str × Value)).length } →
      codeAny c.M c.A (.compLoop (.ListComp elt [⟨target, iter, ifs, 0⟩] scope pos) 0 it (.ref s₂.heap.objs.size) (compEnvC scope cl H2.objs.size c.env))
        (RR (.ref s₂.heap.objs.size) H2.objs.size) s₃ := by
    rintro s₃ rfl
    refine codeAny_compLoop_gen
      (fun k s' => ∃ h' tk i m' done vs, s' = { s₂ with heap := h', toks := tk } ∧ St i h' ∧ h'.PlainList s₂.heap.objs.size (List.toArray vs) ∧ Reps c.mt h' done vs ∧ h'.Ns H2.objs.size m' ∧ Sub hs h' ∧ i ≤ l.length ∧ k = l.length + 1 - i ∧
        done.length ≤ i ∧ done.all PV.atom = true ∧ (compL σ tgb t g (l.drop i)).map (done ++ ·) = some ys) ?_ (l.length + 1)
      ⟨h₁, _, 0, _, [], [], rfl, hst₁, hacc, ⟨rfl, fun i p v a => by simp at a⟩, hns₁, k0.trans old, Nat.zero_le _, rfl, Nat.le_refl _, rfl, by simp [hrun]⟩
    rintro k s' ⟨h', tk, i, m', done, vs, rfl, hst, hD, hR, hN, hsub, hil, rfl, hdl, hda, hcomp⟩
    by_cases hlt : i < l.length
    · rw [List.drop_eq_getElem_cons hlt] at hcomp
      simp only [compL, Option.map_eq_some_iff, Option.bind_eq_some_iff] at hcomp
      obtain ⟨rest, ⟨bs, e1, b, e2, e3⟩, hys⟩ := hcomp
      refine wpAny_mono (W.item i { s₂ with heap := h', toks := tk } (fun v s₃ => ∃ h₂ tk₂ p, s₃ = { s₂ with heap := h₂, toks := tk₂ } ∧ l[i]? = some p ∧ RepI c.mt h₂ p v ∧ St (i + 1) h₂ ∧ (∀ b o, b ∉ wr → h'.get? b = some o → h₂.get? b = some o)) _ hlt hst fun p v h₂ tk₂ a b d e => ⟨h₂, tk₂, p, rfl, a, b, d, e⟩) (fun r s₁ hr => ?_) fun _ _ x => x
      cases r with
      | none => exact hr.elim
      | some v =>
        refine wpAny_mono hr (fun _ s₃ hr => ?_) fun _ _ x => x
        obtain ⟨h₂, tk₂, p, rfl, hp, hrep, hst₂, hk₂⟩ := hr
        have ep : p = l[i] := by rw [List.getElem?_eq_getElem hlt] at hp; exact (Option.some.inj hp).symm
        subst ep
        have hsub₂ : Sub hs h₂ := fun b o e => hk₂ b o (hsC b o e).2.2 (hsub b o e)
        have hD₂ : h₂.PlainList s₂.heap.objs.size (List.toArray vs) := let ⟨n, q⟩ := hD; ⟨n, hk₂ _ _ hDw q⟩
        refine htg H2.objs.size l[i] v bs m' { s₂ with heap := h₂, toks := tk₂ } _ _ e1 hrep (hN.at' fun o e => hk₂ _ o hCw e) fun h₃ tk₃ m₃ hN₃ hk₃ hv₃ => ?_
        have hsub₃ : Sub hs h₃ := fun b o e => hk₃ b o (hsC b o e).1 (hsub₂ b o e)
        have hst₃ : St (i + 1) h₃ := W.frame _ _ _ hst₂ fun b hb o e => hk₃ b o (fun q => hCf ((show b = H2.objs.size from q) ▸ hb)) e
        have hD₃ : h₃.PlainList s₂.heap.objs.size (List.toArray vs) := let ⟨n, q⟩ := hD₂; ⟨n, hk₃ _ _ hDC q⟩
        have I₃ : EInv (c.comp scope cl H2.objs.size) (setL σ bs) h₃ := ⟨hB.trans hsub₃, fun x pv e => by
          rcases hv₃ σ x pv e with q | ⟨q1, v', q2, q3⟩
          · exact hσ _ h₃ hsub₃ x pv q
          · exact ⟨v', .inl ⟨q1, m₃, hN₃, q2⟩, .imm (q3 h₃)⟩⟩
        have hRany : ∀ h'', Reps c.mt h'' done vs := fun h'' => ⟨hR.1, fun j p v a b => (hR.2 j p v a b).atomAny (List.all_eq_true.mp hda p (List.mem_of_getElem? a)) h''⟩
        refine (ht H2.objs.size).run (s := { s₂ with heap := h₃, toks := tk₃ }) e2 I₃ _ _ fun vb h₄ tk₄ r₄ k₄ => ?_
        subst r₄
        have hD₄ : h₄.PlainList s₂.heap.objs.size (List.toArray vs) := let ⟨n, q⟩ := hD₃; ⟨n, k₄ _ _ q⟩
        have hst₄ : St (i + 1) h₄ := W.frame _ _ _ hst₃ fun b _ o e => k₄ b o e
        cases vb with
        | false =>
          simp only [Bool.false_eq_true, if_false] at e3 ⊢
          exact ⟨l.length + 1 - (i + 1), by omega, h₄, tk₄, i + 1, m₃, done, vs, rfl, hst₄, hD₄, hRany h₄, hN₃.keeps k₄, hsub₃.trans k₄, hlt, rfl, by omega, hda, by rw [e3]; simpa using hys⟩
        | true =>
          simp only [if_true] at e3 ⊢
          rw [Option.bind_eq_some_iff] at e3
          obtain ⟨y, e4, e5⟩ := e3
          split at e5
          · rename_i hya
            rw [Option.map_eq_some_iff] at e5
            obtain ⟨rest', e6, rfl⟩ := e5
            refine (he H2.objs.size) _ y { s₂ with heap := h₄, toks := tk₄ } e4 (I₃.sub k₄) _ _ fun vy h₅ tk₅ r₅ k₅ => ?_
            obtain ⟨n5, hp5⟩ : h₅.PlainList s₂.heap.objs.size (List.toArray vs) := let ⟨n, q⟩ := hD₄; ⟨n, k₅ _ _ q⟩
            have hvl : vs.toArray.size ≤ sizeLine := by
              have := hR.1; rw [List.size_toArray]
              have : (1000 : Nat) ≤ sizeLine := by decide +kernel
              omega
            refine wpAny_list_append_plain (hsz := hvl) ⟨n5, hp5⟩ fun h₆ hl₆ hs₆ => ?_
            have hy' : RepI c.mt h₅ y vy := r₅.toI (atom_imm hya)
            refine ⟨l.length + 1 - (i + 1), by omega, h₆, tk₅, i + 1, m₃, done ++ [y], vs ++ [vy], rfl, W.frame _ _ _ hst₄ (fun b hb o e => hs₆.extBut b o (fun h => hDf (h ▸ hb)) (k₅ b o e)), by simpa using hl₆, ?_, ((hN₃.keeps k₄).keeps k₅).sameBut hs₆ (Ne.symm hDC),
              fun b o e => hs₆.extBut b o (hsC b o e).2.1 (k₅ b o (k₄ b o (hsub₃ b o e))), hlt, rfl, by rw [List.length_append]; simpa using hdl, by rw [List.all_append, hda]; simpa using hya, ?_⟩
            · refine ⟨by simp [hR.1], fun j p v a b => ?_⟩
              by_cases hj : j < done.length
              · rw [List.getElem?_append_left hj] at a
                rw [List.getElem?_append_left (by rw [← hR.1]; exact hj)] at b
                exact (hRany h₆).2 j p v a b
              · rw [List.getElem?_append_right (by omega)] at a
                rw [List.getElem?_append_right (by rw [← hR.1]; omega), ← hR.1] at b
                cases hq : j - done.length with
                | zero => rw [hq] at a b; simp at a b; subst a b; exact hy'.atomAny hya h₆
                | succ n => rw [hq] at a; simp at a
            · rw [e6]; rw [← hys]; simp
          · cases e5
    · have hin : i = l.length := by omega
      subst hin
      rw [List.drop_length] at hcomp
      simp only [compL, Option.map_some, List.append_nil, Option.some.injEq] at hcomp
      subst hcomp
      refine W.done _ _ _ hst fun h₂ tk₂ hk₂ => ?_
      refine hRR _ _ h₂ tk₂ m' vs (fresh _ (Nat.le_refl _)) (fresh _ (by rw [hC]; exact Nat.le_succ _)) hDC (hN.at' fun o e => hk₂ _ o hCw e) (let ⟨n, q⟩ := hD; ⟨n, hk₂ _ _ hDw q⟩) ⟨hR.1, fun j p v a b => (hR.2 j p v a b).atomAny (List.all_eq_true.mp hda p (List.mem_of_getElem? a)) h₂⟩ fun b o e => hk₂ b o (hsC b o e).2.2 (hsub b o e)
  exact codeAny_compStart_list (loop _ rfl) (W.self 0 _ _ _ hst₁ (loop _ rfl))
end
end
section
open PySem PySem.Spec PySem.Calls PyProof.Rows PySem.W
set_option maxRecDepth 100000

theorem compL_atoms {σ tgb t g} : ∀ {l ys}, compL σ tgb t g l = some ys → ys.all PV.atom = true
  | [], ys, e => by cases e; rfl
  | v :: r, ys, e => by
    simp only [compL, Option.bind_eq_some_iff] at e
    obtain ⟨bs, _, b, _, e⟩ := e
    split at e
    · rw [Option.bind_eq_some_iff] at e
      obtain ⟨y, _, e⟩ := e
      split at e
      · rename_i hy
        rw [Option.map_eq_some_iff] at e
        obtain ⟨r', e, rfl⟩ := e
        simp [hy, compL_atoms e]
      · cases e
    · exact compL_atoms e

def capS (caps : List String) (σ : Store) : Store := fun x => if caps.contains x = true then σ x else none
def CapOk (c : Cx) (scope : Scope) (cl : List (Str × Addr)) (x : String) : Prop :=
  (∀ C, (compEnvC scope cl C c.env).kindOf (Str.ofString x) = some .cell ∨ (compEnvC scope cl C c.env).kindOf (Str.ofString x) = some .free) ∧ (c.env.kindOf (Str.ofString x) = some .cell ∨ c.env.kindOf (Str.ofString x) = some .free) ∧
  cl.lookup (Str.ofString x) = c.env.cells.lookup (Str.ofString x)
theorem caps_var {c : Cx} {scope cl caps} (hc : ∀ x ∈ caps, CapOk c scope cl x) {σ : Store} {h : Heap} (I : EInv c σ h) : ∀ C h', Sub h h' → ∀ x pv, capS caps σ x = some pv → ∃ v, VarAt h' (c.comp scope cl C).env (Str.ofString x) v ∧ Rep c.mt h' pv v := by
  intro C h' k x pv e
  unfold capS at e
  split at e
  · rename_i hx
    have hx : x ∈ caps := by simpa using hx
    obtain ⟨v, hv, r⟩ := I.vars x pv e
    obtain ⟨a1, a2, a3⟩ := hc x hx
    refine ⟨v, ?_, r.sub k⟩
    rcases hv with ⟨b1, _⟩ | ⟨_, d, b2, b3⟩
    · rcases a2 with a2 | a2 <;> · rw [b1] at a2; cases a2
    · exact .inr ⟨a1 C, d, by show cl.lookup _ = some d; rw [a3, b2], b3.keeps k⟩
  · cases e

section
variable {c : Cx}
theorem get_none' {h h' : Heap} {a : Addr} (k : Sub h h') (ha : h'.get? a = none) : h.get? a = none := by
  cases q : h.get? a with
  | none => rfl
  | some o => rw [k _ _ q] at ha; cases ha
theorem SoundN.comp (ok : c.Ok) {elt target iter : Expr} {ifs : List Expr} {scope : Scope} {pos : Pos} {f : Store → Option (List PV)} (caps : List String) (cl : List (Str × Addr)) (hclos : closureFor scope c.env = pure cl) {tgb : PV → Option Binds} {t : DT} {g : DE}
    (hi : SoundCur c target iter f) (htg : ∀ C, CompTg (c.comp scope cl C) target tgb) (ht : ∀ C, SoundIfs (c.comp scope cl C) ifs t) (he : ∀ C, SoundE (c.comp scope cl C) elt g)
    (hcaps : ∀ x ∈ caps, CapOk c scope cl x) (hcell : ∀ y ∈ scope.names, y.2 ≠ .cell) (hkind : scope.kind = .function)
    (hnames : ∀ y ∈ scope.names, y.2 = .local → scope.names.lookup y.1 = some .local) (hs : ∀ x, foldedSetIterable iter c.env x = pure x := by intro _; rfl) :
    SoundN c (.ListComp elt [⟨target, iter, ifs, 0⟩] scope pos) (fun σ => (f σ).bind fun l => if l.length < 1000 then compL (capS caps σ) tgb t g l else none) := by
  intro σ ys s e I Q E k
  rw [Option.bind_eq_some_iff] at e
  obtain ⟨l, e1, e2⟩ := e
  split at e2
  · rename_i hl
    rw [eval_ListComp]
    refine wpAny_comprehension_free (use := none) rfl hs hclos hkind hnames (wpAny_mono (hi σ l s e1 I _ E fun it h' tk fp wr St W st k1 => ?_) (fun xv s₁ h₁ => h₁) fun _ _ e => e)
    refine comp_block (hs := s.heap) (RR := fun acc C => compPost c.M c.A E none Q acc C) ok hcell hkind htg ht he W st k1 I.base (caps_var hcaps I) hl e2 ?_
    intro D C h' tk m' vs hD hC hDC hN hp hr hsub
    refine ⟨m', hN, fun h'' hs'' => ?_⟩
    refine k _ h'' tk ⟨D, vs, rfl, get_none' k1 hD, let ⟨n, q⟩ := hp; ⟨n, hs''.extBut _ _ hDC q⟩, ⟨hr.1, fun j p v a b => (hr.2 j p v a b).atomAny (List.all_eq_true.mp (compL_atoms e2) p (List.mem_of_getElem? a)) h''⟩⟩ fun b o e => ?_
    exact hs''.extBut b o (fun q => by subst q; rw [get_none' k1 hC] at e; cases e) (hsub b o e)
  · cases e2

/-- a comprehension's names are let go -/
theorem InvF.but {h₀ h h' : Heap} {σ : Store} {f : String → Value} {C : Addr} (I : InvF c h₀ σ f h) (hk : ∀ b o, b ≠ C → h.get? b = some o → h'.get? b = some o) (hN : ∃ o es ep, h.get? C = some o ∧ o.data = .dict es ep) (h0 : h₀.get? C = none) (hL : C ≠ c.env.locals) : InvF c h₀ σ f h' := by
  have hcell : ∀ b v, h.IsCell b v → b ≠ C := by
    rintro b v ⟨o, ho, hd⟩ rfl
    obtain ⟨o', es, ep, ho', hd'⟩ := hN
    rw [ho] at ho'; cases ho'; rw [hd] at hd'; cases hd'
  have ns' : ∀ m, h.Ns c.env.locals m → h'.Ns c.env.locals m := fun m q => q.at' fun o e => hk _ o (Ne.symm hL) e
  have cell' : ∀ {b v}, h.IsCell b v → h'.IsCell b v := fun {b v} q => by
    have := hcell b v q
    obtain ⟨o, ho, hd⟩ := q
    exact ⟨o, hk b o this ho, hd⟩
  have hseq : ∀ o, h.get? C = some o → ∀ xs n, o.data ≠ .seq xs n := by
    intro o ho xs n hd
    obtain ⟨o', es, ep, ho', hd'⟩ := hN
    rw [ho] at ho'; cases ho'; rw [hd] at hd'; cases hd'
  have repI : ∀ {p u}, RepI c.mt h p u → RepI c.mt h' p u := fun r => r.off hk fun o ho xs n hd => absurd hd (hseq o ho xs n)
  refine ⟨I.base, fun b o e => hk b o (fun q => by subst q; rw [h0] at e; cases e) (I.keep b o e), let ⟨m, q⟩ := I.ns; ⟨m, ns' m q⟩, I.freshL, fun y b e => ⟨(I.cells y b e).1, let ⟨v, q⟩ := (I.cells y b e).2; ⟨v, cell' q⟩⟩, I.apart, fun y p e => ⟨?_, ?_⟩, I.own, I.fresh, I.flat⟩
  · rcases (I.vars y p e).1 with ⟨a, m, b, d⟩ | ⟨a, d, b, e⟩
    · exact .inl ⟨a, m, ns' m b, d⟩
    · exact .inr ⟨a, d, b, cell' e⟩
  · have r := (I.vars y p e).2
    generalize f y = u at r
    cases r with
    | imm r => exact .imm (repI r)
    | @list a l vs hp hr =>
      obtain ⟨n, hp⟩ := hp
      have : a ≠ C := fun q => by subst q; exact hseq _ hp _ _ rfl
      exact .list ⟨n, hk a _ this hp⟩ ⟨hr.1, fun i p v a b => repI (hr.2 i p v a b)⟩

theorem SoundS.assignComp (ok : c.Ok) (hm : c.mt = true) {elt target iter : Expr} {ifs : List Expr} {scope : Scope} {pos spos : Pos} {f : Store → Option (List PV)} (y : String) (py : Pos) (caps : List String) (cl : List (Str × Addr)) (hclos : closureFor scope c.env = pure cl) {tgb : PV → Option Binds} {t : DT} {g : DE}
    (hi : SoundCur c target iter f) (htg : ∀ C, CompTg (c.comp scope cl C) target tgb) (ht : ∀ C, SoundIfs (c.comp scope cl C) ifs t) (he : ∀ C, SoundE (c.comp scope cl C) elt g)
    (hsw : swapsWith (.ListComp elt [⟨target, iter, ifs, 0⟩] scope pos) (some (.Name (Str.ofString y) py)) spos.line c.env = pure true) (hy : c.env.kindOf (Str.ofString y) = some .local)
    (hcaps : ∀ x ∈ caps, CapOk c scope cl x) (hcell : ∀ y ∈ scope.names, y.2 ≠ .cell) (hkind : scope.kind = .function)
    (hnames : ∀ y ∈ scope.names, y.2 = .local → scope.names.lookup y.1 = some .local) (hs : ∀ x, foldedSetIterable iter c.env x = pure x := by intro _; rfl) :
    SoundS c (.Assign [.Name (Str.ofString y) py] (.ListComp elt [⟨target, iter, ifs, 0⟩] scope pos) spos) (fun σ => (f σ).bind fun l => if l.length < 1000 then (compL (capS caps σ) tgb t g l).map fun ys => (σ.set y (.list ys), .next) else none) := by
  intro h₀ σ σ' fl s Q E e I k
  rw [Option.bind_eq_some_iff] at e
  obtain ⟨l, e1, e2⟩ := e
  split at e2
  · rename_i hl
    rw [Option.map_eq_some_iff] at e2
    obtain ⟨ys, e2, e3⟩ := e2
    cases e3
    rw [exec_Assign_Name_used _ _ _ _ hsw]
    refine wpAny_bind (wpAny_standAt (wpAny_bind ?_))
    show wpAny _ c.A (do let _ ← comprehension (.ListComp elt [⟨target, iter, ifs, 0⟩] scope pos) scope c.env _ (newList []) false (eval iter c.env) (some (PySem.assign (.Name (Str.ofString y) py) c.env))) _ _ s
    refine wpAny_bind (wpAny_mono (wpAny_comprehension_free (use := some (PySem.assign (.Name (Str.ofString y) py) c.env)) (Q := fun _ s' => Q .next s') rfl hs hclos hkind hnames
      (wpAny_mono (hi σ l s e1 I.toE _ E fun it h' tk fp wr St W st k1 => ?_) (fun xv s₁ h₁ => h₁) fun _ _ e => e)) (fun _ s' hq => wpAny_pure (wpAny_pure hq)) fun _ _ e => e)
    refine comp_block (hs := s.heap) (RR := fun acc C => compPost c.M c.A E (some (PySem.assign (.Name (Str.ofString y) py) c.env)) (fun _ s' => Q .next s') acc C) ok hcell hkind htg ht he W st k1 I.toE.base (caps_var hcaps I.toE) hl e2 ?_
    intro D C h' tk m' vs hD hC hDC hN hp hr hsub
    obtain ⟨ff, I⟩ := I
    have hC0 := get_none' k1 hC
    have hD0 := get_none' k1 hD
    have hCL : C ≠ c.env.locals := by
      rintro rfl
      obtain ⟨m, o, _, _, ho, _⟩ := I.ns
      rw [hC0] at ho; cases ho
    have hCc : ∀ y, c.env.cells.lookup y ≠ some C := by
      intro y q
      obtain ⟨_, _, o, ho, _⟩ := I.cells y C q
      rw [hC0] at ho; cases ho
    have h0C : h₀.get? C = none := get_none' I.keep hC0
    show wpAny c.M c.A (PySem.assign (.Name (Str.ofString y) py) c.env (.ref D)) _ _ _
    refine wpAny_assign_Name ((I.sub hsub).store (s := { s with heap := h', toks := tk }) ok (.list hp hr) (fun _ => compL_atoms e2) (.inr ⟨hm, D, rfl, get_none' I.keep hD0, fun z l' _ e q => ?_⟩) (.inl hy) fun h2 tk2 I2 hk2 => ?_)
    · obtain ⟨b, vs', e', ⟨n, hp'⟩, _⟩ := (I.vars z _ e).2.toList
      rw [q] at e'; cases e'; rw [hp'] at hD0; cases hD0
    · have hN2 : h2.Ns C m' := hN.at' fun o e => hk2 _ o ⟨hCL, hCc⟩ e
      refine ⟨m', hN2, fun h3 hs3 => ?_⟩
      exact k .next h3 _ ⟨_, I2.but (fun b o hb e => hs3.extBut b o hb e) (let ⟨o, es, ep, ho, hd, _⟩ := hN2; ⟨o, es, ep, ho, hd⟩) h0C hCL⟩ .next
  · cases e2

/-! walks of what stands at a name -/
theorem cur_list (ok : c.Ok) {s : Shared} {hs : Heap} {x : Str} {px : Pos} {a : Addr} {l : List PV} {vs : List Value} (k0 : Sub hs s.heap) (hl : s.heap.IsList a vs.toArray) (hr : Reps c.mt s.heap l vs) (hat : l.all PV.atom = true)
    {Q : Value → Shared → Prop} {E : Value → Shared → Prop} (k : ∀ it h' tk fp wr St, Cur c hs (.Name x px) it l fp wr St → St 0 h' → Sub s.heap h' → Q it { s with heap := h', toks := tk }) :
    wpAny c.M c.A (pyIter (.ref a)) Q E s := by
  have hlt : a < s.heap.objs.size := by obtain ⟨_, hp, _⟩ := hl; exact Heap.lt_size hp
  refine wpAny_pyIter_list hl ?_
  have W := Walks.list (prog := c.prog) (w := c.w) ok.hh s.heap.objs.size a (Nat.ne_of_lt hlt) vs.toArray
  have hsz : vs.toArray.size = l.length := by rw [List.size_toArray]; exact hr.1.symm
  rw [hsz] at W
  refine k _ _ s.toks _ _ _ ⟨W.frame, W.sub, ?_, ?_, fun i s' Q E hi st kk => W.item i s' _ E hi st fun v h' tk hp st' hk => wpAny_of_eq (a := ()) rfl ?_, fun s Q E st k => W.done s Q E st k, fun i s Q E st k => W.self i s Q E st k⟩ ⟨⟨_, Heap.get?_push_size _ rfl, rfl, rfl⟩, hl.push _⟩ fun _ _ e => Heap.get?_push_of_some _ e
  · intro b hb
    rw [List.mem_singleton.mp hb]
    exact get_none k0 (Nat.le_refl _)
  · rintro i h ⟨⟨o, ho, _⟩, ⟨o', ho', _⟩⟩ b hb
    rcases List.mem_cons.mp hb with rfl | hb
    · exact ⟨o, ho⟩
    · rw [List.mem_singleton.mp hb]; exact ⟨o', ho'⟩
  · obtain ⟨p, hlp⟩ : ∃ p, l[i]? = some p := ⟨_, List.getElem?_eq_getElem hi⟩
    exact kk p v h' tk hlp ((hr.2 i p v hlp (by simpa using hp)).atomAny (List.all_eq_true.mp hat p (List.mem_of_getElem? hlp)) _) st' hk
theorem SoundCur.list (ok : c.Ok) {x : Str} {px : Pos} {e : Expr} {f : DE} (h : SoundE c e f) :
    SoundCur c (.Name x px) e (fun σ => (f σ).bind fun v => match v with
      | .list l => if l.all PV.atom = true then some l else none
      | _ => none) := by
  intro σ l s e1 I Q E k
  simp only [Option.bind_eq_some_iff] at e1
  obtain ⟨v, e1, e2⟩ := e1
  split at e2
  · split at e2
    · rename_i l' ha; cases e2
      refine h σ _ s e1 I _ E fun v h1 tk1 r1 k1 => ?_
      obtain ⟨a, vs, rfl, hp, hr⟩ := r1.toList
      exact cur_list (s := { s with heap := h1, toks := tk1 }) ok k1 hp.isList hr ha fun it h' tk fp wr St W st kk => k it h' tk fp wr St W st (k1.trans kk)
    · cases e2
  · cases e2
/-- pairs of atoms, of a list that is read -/
def pairs : List PV → Bool
  | [] => true
  | .tup [p, q] :: r => p.atom && q.atom && pairs r
  | _ => false
theorem pairs_at : ∀ {l : List PV} {i : Nat} {p : PV}, pairs l = true → l[i]? = some p → ∃ a b, p = .tup [a, b] ∧ a.atom = true ∧ b.atom = true
  | [], i, p, _, e => by simp at e
  | v :: r, i, p, h, e => by
    unfold pairs at h
    split at h
    · rename_i q; cases q
    · rename_i a b r' q; cases q
      simp only [Bool.and_eq_true] at h
      cases i with
      | zero => simp at e; subst e; exact ⟨a, b, rfl, h.1.1, h.1.2⟩
      | succ i => exact pairs_at h.2 (by simpa using e)
    · cases h
def refsOf : List Value → List Addr
  | [] => []
  | .ref b :: r => b :: refsOf r
  | _ :: r => refsOf r
theorem refsOf_mem {b : Addr} : ∀ {vs : List Value} {i : Nat}, vs[i]? = some (.ref b) → b ∈ refsOf vs
  | [], i, e => by simp at e
  | v :: r, i, e => by
    cases i with
    | zero => simp at e; subst e; simp [refsOf]
    | succ i =>
      have := refsOf_mem (vs := r) (i := i) (by simpa using e)
      cases v <;> first | exact List.mem_cons_of_mem _ this | exact this
theorem refsOf_at {b : Addr} (vs : List Value) : b ∈ refsOf vs → ∃ i : Nat, vs[i]? = some (.ref b) := by
  induction vs with
  | nil => intro e; simp [refsOf] at e
  | cons v r ih =>
    intro e
    have key : b ∈ refsOf r → ∃ i : Nat, (v :: r)[i]? = some (.ref b) := fun e => let ⟨i, q⟩ := ih e; ⟨i + 1, by simpa using q⟩
    cases v
    case ref d =>
      rcases List.mem_cons.mp (show b ∈ d :: refsOf r from e) with rfl | e
      · exact ⟨0, rfl⟩
      · exact key e
    all_goals exact key e
theorem SoundCur.pairs (ok : c.Ok) {elts : List Expr} {n : Nat} {tp : Pos} {e : Expr} {f : DE} (h : SoundE c e f) :
    SoundCur c (.Tuple elts n tp) e (fun σ => (f σ).bind fun v => match v with
      | .rlist l => if Mine.pairs l = true then some l else none
      | _ => none) := by
  intro σ l s e1 I Q E k
  simp only [Option.bind_eq_some_iff] at e1
  obtain ⟨v, e1, e2⟩ := e1
  split at e2
  · split at e2
    · rename_i l' hpr; cases e2
      refine h σ _ s e1 I _ E fun v h1 tk1 r1 k1 => ?_
      obtain ⟨_, a, vs, rfl, hl, hr⟩ := r1.toRlist
      have hlt : a < h1.objs.size := by obtain ⟨_, hp, _⟩ := hl; exact Heap.lt_size hp
      refine wpAny_pyIter_list hl ?_
      have W := Walks.list (prog := c.prog) (w := c.w) ok.hh h1.objs.size a (Nat.ne_of_lt hlt) vs.toArray
      have hsz : vs.toArray.size = l.length := by rw [List.size_toArray]; exact hr.1.symm
      rw [hsz] at W
      have move : ∀ {h h'}, (∀ b ∈ refsOf vs, ∀ o, h.get? b = some o → h'.get? b = some o) → Reps c.mt h l vs → Reps c.mt h' l vs := fun {h h'} q r => ⟨r.1, fun i p v a b => by
        obtain ⟨x, y, rfl, hx, hy⟩ := pairs_at hpr a
        obtain ⟨d, ws, rfl, ht, hw⟩ := (Rep.imm (r.2 i _ v a b)).toTup
        obtain ⟨o, ho, hc⟩ := ht
        refine .tup ⟨o, q d (refsOf_mem b) o ho, hc⟩ hw.1 fun j p v a b => (hw.2 j p v a b).atomAny ?_ h'
        match j with
        | 0 => simp at a; subst a; exact hx
        | 1 => simp at a; subst a; exact hy
        | j + 2 => simp at a⟩
      have wne : ∀ b ∈ refsOf vs, b ≠ h1.objs.size := fun b hb => by
        obtain ⟨i, q⟩ := refsOf_at _ hb
        have hi : i < l.length := by rw [hr.1]; exact (List.getElem?_eq_some_iff.mp q).1
        have r := hr.2 i _ _ (List.getElem?_eq_getElem hi) q
        obtain ⟨x, y, e', _, _⟩ := pairs_at hpr (List.getElem?_eq_getElem hi)
        rw [e'] at r
        obtain ⟨d, ws, e'', ht, _⟩ := (Rep.imm r).toTup
        cases e''
        obtain ⟨o, ho, _⟩ := ht
        exact Nat.ne_of_lt (Heap.lt_size ho)
      refine k _ _ tk1 (([h1.objs.size, a] : List Addr) ++ refsOf vs) [h1.objs.size] (fun i h => (h.IsListIter h1.objs.size a i ∧ h.IsList a vs.toArray) ∧ Reps c.mt h l vs)
        ⟨fun i h h' st q => ⟨W.frame i h h' st.1 fun b hb o e => q b (List.mem_append_left _ hb) o e, move (fun b hb o e => q b (List.mem_append_right _ hb) o e) st.2⟩,
          fun b hb => List.mem_append_left _ (W.sub b hb), ?_, ?_, fun i s' Q E hi st kk => ?_, fun s Q E st k => W.done s Q E st.1 k, fun i s Q E st k => W.self i s Q E st.1 k⟩ ⟨⟨⟨_, Heap.get?_push_size _ rfl, rfl, rfl⟩, hl.push _⟩, hr.sub fun _ _ e => Heap.get?_push_of_some _ e⟩ (k1.trans fun _ _ e => Heap.get?_push_of_some _ e)
      · intro b hb
        rw [List.mem_singleton.mp hb]
        exact get_none k1 (Nat.le_refl _)
      · rintro i h ⟨⟨⟨o, ho, _⟩, ⟨o', ho', _⟩⟩, r⟩ b hb
        rcases List.mem_append.mp hb with hb | hb
        · rcases List.mem_cons.mp hb with rfl | hb
          · exact ⟨o, ho⟩
          · rw [List.mem_singleton.mp hb]; exact ⟨o', ho'⟩
        · obtain ⟨i, q⟩ := refsOf_at _ hb
          have hi : i < l.length := by rw [hr.1]; exact (List.getElem?_eq_some_iff.mp q).1
          have r := r.2 i _ _ (List.getElem?_eq_getElem hi) q
          obtain ⟨x, y, e', _, _⟩ := pairs_at hpr (List.getElem?_eq_getElem hi)
          rw [e'] at r
          obtain ⟨d, ws, e'', ht, _⟩ := (Rep.imm r).toTup
          cases e''
          obtain ⟨o, ho, _⟩ := ht
          exact ⟨o, ho⟩
      · refine W.item i s' _ E hi st.1 fun v h' tk hp st' hk => ?_
        obtain ⟨p, hlp⟩ : ∃ p, l[i]? = some p := ⟨_, List.getElem?_eq_getElem hi⟩
        have hR' : Reps c.mt h' l vs := move (fun b hb o e => hk b o (fun q => wne b hb (List.mem_singleton.mp q)) e) st.2
        have rp := hR'.2 i p v hlp (by simpa using hp)
        obtain ⟨x, y, rfl, hx, hy⟩ := pairs_at hpr hlp
        obtain ⟨T, ws, rfl, _, _⟩ := (Rep.imm rp).toTup
        exact wpAny_letOwnedTupleGo_listiter (s := { s' with heap := h', toks := tk }) st'.1 (kk _ _ h' tk hlp rp ⟨st', hR'⟩ hk)
    · cases e2
  · cases e2
/-- signs of a text -/
def charsL (x : Str) : List PV := (List.range x.length).map fun (i : Nat) => .str (chr x i)
theorem SoundCur.str (ok : c.Ok) {x : Str} {px : Pos} {e : Expr} {f : DE} (h : SoundE c e f) :
    SoundCur c (.Name x px) e (fun σ => (f σ).bind fun v => match v with
      | .str y => some (charsL y)
      | _ => none) := by
  intro σ l s e1 I Q E k
  simp only [Option.bind_eq_some_iff] at e1
  obtain ⟨v, e1, e2⟩ := e1
  split at e2
  · rename_i y; cases e2
    refine h σ _ s e1 I _ E fun v h1 tk1 r1 k1 => ?_
    obtain ⟨t, rfl⟩ := r1.toStr
    refine wpAny_pyIter_strU ?_
    have W : Walks c.prog c.w c.A h1.objs.size [h1.objs.size] [h1.objs.size] y.cps.size (SignAt y) (fun i h => h.IsStrIter h1.objs.size (strIterType y) y t i) := by
      unfold strIterType
      cases y.cps.all (· < 128) with
      | true => exact Walks.strAscii ok.hh _ y t
      | false => exact Walks.strWide ok.hh _ y t
    have hl : (charsL y).length = y.cps.size := by simp [charsL, Str.length]
    rw [← hl] at W
    refine k _ _ tk1 _ _ _ (Cursor.toCur (cursor_of W ?_ ?_ ?_ ?_)) ⟨_, Heap.get?_push_size _ rfl, rfl, rfl⟩ (k1.trans fun _ _ e => Heap.get?_push_of_some _ e)
    · intro b hb
      rw [List.mem_singleton.mp hb]; exact get_none k1 (Nat.le_refl _)
    · rintro i h ⟨o, ho, _⟩ b hb
      rw [List.mem_singleton.mp hb]; exact ⟨o, ho⟩
    · rintro i h ⟨o, ho, hc, hd⟩ b hb
      rw [List.mem_singleton.mp hb]
      exact ⟨o, ho, (fun _ _ q => by rw [hd] at q; cases q), (fun _ q => by rw [hd] at q; cases q), (fun q => by rw [hc] at q; exact strIter_ne y (Value.type.inj q)), (fun _ _ _ q => by rw [hd] at q; cases q)⟩
    · rintro i v ⟨d, u, hd, rfl⟩ p hp h
      simp only [charsL, List.getElem?_map, Option.map_eq_some_iff] at hp
      obtain ⟨j, hj, rfl⟩ := hp
      have : j = i := by
        rw [List.getElem?_eq_some_iff] at hj
        obtain ⟨h1, h2⟩ := hj
        simpa using h2.symm
      subst this
      rw [sign_chr hd]; exact .str _ _
  · cases e2
end
end
section
open PySem PySem.Spec PySem.Calls PyProof.Rows PySem.W
set_option maxRecDepth 100000

/-! zip of two texts -/
abbrev sIt (x : Str) (t : Tok) : Obj := { cls := .type (strIterType x), data := .fields #[.str x t, .int 0 0] }
abbrev zS1 (h : Heap) (x : Str) (t : Tok) : Heap := h.push (sIt x t)
abbrev zS2 (h : Heap) (x y : Str) (t u : Tok) : Heap := (zS1 h x t).push (sIt y u)
abbrev zS3 (h : Heap) (x y : Str) (t u : Tok) : Heap := (zS2 h x y t u).push { cls := .type "tuple", data := .seq #[.ref h.objs.size, .ref (zS1 h x t).objs.size] }
abbrev zS4 (h : Heap) (x y : Str) (t u : Tok) : Heap := (zS3 h x y t u).push { cls := .type "tuple", data := .seq #[.none, .none] }
abbrev zS5 (h : Heap) (x y : Str) (t u : Tok) : Heap := (zS4 h x y t u).push { cls := .type "zip", data := .fields #[.none, .bool false, .bool false, .ref (zS2 h x y t u).objs.size, .ref (zS3 h x y t u).objs.size] }
set_option maxHeartbeats 1000000 in
theorem meets_zip_newS (x y : Str) (t u : Tok) :
    Meets (Builtin.«zip.__new__» ⟨[.type "zip", .str x t, .str y u], []⟩) (fun _ R s =>
      R (.ok (.ret (.ref (zS4 s.heap x y t u).objs.size))) { s with heap := zS5 s.heap x y t u }) :=
  .of_wp fun prog w A R s h => by
    obtain ⟨hp, g, d, tk, os⟩ := s
    have hsub := sub_zip
    wp_walk using wpAny_pyIter_strU
    exact ⟨_, rfl, h⟩
section
variable {prog : Program} {w : World} {A : Around} {E : Value → Shared → Prop} {s : Shared}
theorem call_zip_2S {x y : Str} {t u : Tok} {Q : Value → Shared → Prop}
    (h : ∀ h', IsZip h' (s.heap.objs.size + 4) (s.heap.objs.size + 2) (s.heap.objs.size + 3) .none → IsPair h' (s.heap.objs.size + 2) (.ref s.heap.objs.size) (.ref (s.heap.objs.size + 1)) →
      IsPair h' (s.heap.objs.size + 3) .none .none → h'.IsStrIter s.heap.objs.size (strIterType x) x t 0 → h'.IsStrIter (s.heap.objs.size + 1) (strIterType y) y u 0 →
      (∀ c o, s.heap.get? c = some o → h'.get? c = some o) → Q (.ref (s.heap.objs.size + 4)) { s with heap := h' }) :
    wpAny (model prog w) A (call (.type "zip") [.str x t, .str y u]) Q E s := by
  refine callType_new F.called_zip (by decide) (F.typeCall_zip_2 _ _) (F.newCall_zip_2 _ _) (fun obj => F.args_object_init_3 obj _ _) F.entry_zip_new
    (meets_zip_newS x y t u) ?_
  have z1 : (zS1 s.heap x t).objs.size = s.heap.objs.size + 1 := Heap.size_push ..
  have z2 : (zS2 s.heap x y t u).objs.size = s.heap.objs.size + 2 := by rw [Heap.size_push, z1]
  have z3 : (zS3 s.heap x y t u).objs.size = s.heap.objs.size + 3 := by rw [Heap.size_push, z2]
  have z4 : (zS4 s.heap x y t u).objs.size = s.heap.objs.size + 4 := by rw [Heap.size_push, z3]
  have g5 : (zS5 s.heap x y t u).get? (zS4 s.heap x y t u).objs.size = some _ := Heap.get?_push_size _ rfl
  have g4 : (zS5 s.heap x y t u).get? (zS3 s.heap x y t u).objs.size = some _ := Heap.get?_push_of_some _ (Heap.get?_push_size _ rfl)
  have g3 : (zS5 s.heap x y t u).get? (zS2 s.heap x y t u).objs.size = some _ := Heap.get?_push_of_some _ (Heap.get?_push_of_some _ (Heap.get?_push_size _ rfl))
  have g2 : (zS5 s.heap x y t u).get? (zS1 s.heap x t).objs.size = some _ := Heap.get?_push_of_some _ (Heap.get?_push_of_some _ (Heap.get?_push_of_some _ (Heap.get?_push_size _ rfl)))
  have g1 : (zS5 s.heap x y t u).get? s.heap.objs.size = some _ := Heap.get?_push_of_some _ (Heap.get?_push_of_some _ (Heap.get?_push_of_some _ (Heap.get?_push_of_some _ (Heap.get?_push_size _ rfl))))
  show _ ∧ _
  rw [z2, z3, z4] at g5
  rw [z1, z2] at g3
  rw [z3] at g4
  rw [z1] at g2
  rw [z4]
  exact ⟨⟨_, g5, rfl⟩, h _ g5 g3 g4 ⟨_, g1, rfl, rfl⟩ ⟨_, g2, rfl, rfl⟩ fun c o x =>
    Heap.get?_push_of_some _ (Heap.get?_push_of_some _ (Heap.get?_push_of_some _ (Heap.get?_push_of_some _ (Heap.get?_push_of_some _ x))))⟩
end
def zipL (x y : Str) : List PV := (List.range (min x.length y.length)).map fun (i : Nat) => .tup [.str (chr x i), .str (chr y i)]
section
variable {c : Cx}
theorem SoundIter.zip (ok : c.Ok) (hm : c.mt = true) {elts : List Expr} {n : Nat} {tp : Pos} {e e' : Expr} {f g : DE} (np pos : Pos) (hx : c.env.kindOf (Str.ofString "zip") = some .globalImplicit) (hn : c.mg (Str.ofString "zip") = none) (h : SoundEs c [e, e'] [f, g]) :
    SoundIter c (.Tuple elts n tp) (.Call (.Name (Str.ofString "zip") np) [e, e'] [] pos) (fun σ => (f σ).bind fun v => (g σ).bind fun u => match v, u with
      | .str x, .str y => some (zipL x y)
      | _, _ => none) := by
  intro σ l s e1 I Q E k
  simp only [Option.bind_eq_some_iff] at e1
  obtain ⟨v, e1, u, e2, e3⟩ := e1
  split at e3
  · rename_i x y; cases e3
    show wpAny c.M c.A (do callWith pos (← eval (.Name (Str.ofString "zip") np) c.env) [] (backTo pos (starEach [e, e'] c.env)) (backToKw pos (keywordEach [] c.env))) _ E s
    refine wpAny_bind (callee_type ok I (show bootBuiltins (Str.ofString "zip") = some (.type "zip") by rfl) hx hn (by decide) (by decide) ?_)
    refine PySem.callWith_type (by rw [(backTo_plain h pos).1]; exact (backTo_plain h pos).2) (evalArgs_list h (spliced_sound h (σ := σ) (pvs := [.str x, .str y]) (by simp [seqE, e1, e2]) I _ E fun vs h1 tk1 r1 k1 => ?_))
    cases r1 with
    | cons ra r1 =>
      cases r1 with
      | cons rb r1 =>
        cases r1
        obtain ⟨t, rfl⟩ := ra.toStr
        obtain ⟨t', rfl⟩ := rb.toStr
        refine call_zip_2S fun h2 hz hTI hTO hi1 hi2 hk => wpAny_pyIter_zip hz ?_
        have D1 := strDraws (c := c) ok.hh h1.objs.size x t
        have D2 := strDraws (c := c) ok.hh (h1.objs.size + 1) y t'
        have ap : ZA (h1.objs.size + 4) (h1.objs.size + 2) (h1.objs.size + 3) h1.objs.size (h1.objs.size + 1) := by
          constructor <;> · show (_ : Nat) ≠ _; omega
        have W := (walksZip D1 D2 ap).toU
        have hl : (zipL x y).length = min x.cps.size y.cps.size := by simp [zipL, Str.length]
        rw [← hl] at W
        refine k _ h2 tk1 _ _ _ (cursorT_of W ?_ ?_ ?_ ?_) ⟨hz, hTI, ⟨_, _, hTO⟩, hi1, hi2⟩ (k1.trans hk)
        · intro b hb
          simp only [List.mem_cons, List.not_mem_nil, or_false] at hb
          rcases hb with rfl | rfl | rfl | rfl | rfl
          · exact get_none k1 (Nat.le_add_right _ _)
          · exact get_none k1 (Nat.le_add_right _ _)
          · exact get_none k1 (Nat.le_add_right _ _)
          · exact get_none k1 (Nat.le_refl _)
          · exact get_none k1 (Nat.le_add_right _ _)
        · rintro i h ⟨hz, hTI, ⟨a, b, hTO⟩, ⟨o1, ho1, _⟩, ⟨o2, ho2, _⟩⟩ d hb
          simp only [List.mem_cons, List.not_mem_nil, or_false] at hb
          rcases hb with rfl | rfl | rfl | rfl | rfl
          · exact ⟨_, hz⟩
          · exact ⟨_, hTI⟩
          · exact ⟨_, hTO⟩
          · exact ⟨_, ho1⟩
          · exact ⟨_, ho2⟩
        · rintro i h ⟨hz, hTI, ⟨a, b, hTO⟩, ⟨o1, ho1, hc1, hd1⟩, ⟨o2, ho2, hc2, hd2⟩⟩ d hb
          simp only [List.mem_cons, List.not_mem_nil, or_false] at hb
          rcases hb with rfl | rfl | rfl | rfl
          · exact ⟨_, hz, (fun _ _ q => nomatch q), (fun _ q => nomatch q), (fun q => absurd (Value.type.inj q) (by decide)), (fun _ _ _ q => nomatch q)⟩
          · exact ⟨_, hTO, (fun _ _ q => nomatch q), (fun _ q => nomatch q), (fun q => absurd (Value.type.inj q) (by decide)), (fun q => by rw [hm] at q; cases q)⟩
          · exact ⟨o1, ho1, (fun _ _ q => by rw [hd1] at q; cases q), (fun _ q => by rw [hd1] at q; cases q), (fun q => by rw [hc1] at q; exact strIter_ne x (Value.type.inj q)), (fun _ _ _ q => by rw [hd1] at q; cases q)⟩
          · exact ⟨o2, ho2, (fun _ _ q => by rw [hd2] at q; cases q), (fun _ q => by rw [hd2] at q; cases q), (fun q => by rw [hc2] at q; exact strIter_ne y (Value.type.inj q)), (fun _ _ _ q => by rw [hd2] at q; cases q)⟩
        · rintro i vals ⟨_, _, ⟨d1, u1, hd1, rfl⟩, ⟨d2, u2, hd2, rfl⟩, rfl⟩ p hp
          simp only [zipL, List.getElem?_map, Option.map_eq_some_iff] at hp
          obtain ⟨j, hj, rfl⟩ := hp
          have : j = i := by
            rw [List.getElem?_eq_some_iff] at hj
            obtain ⟨h1, h2⟩ := hj
            simpa using h2.symm
          subst this
          refine ⟨_, rfl, rfl, fun m q v a b h => ?_⟩
          rw [sign_chr hd1, sign_chr hd2] at b
          match m with
          | 0 => simp at a b; subst a b; exact .str _ _
          | 1 => simp at a b; subst a b; exact .str _ _
          | m + 2 => simp at a
  · cases e3

/-! stores in other orders -/
inductive Acts (c : Cx) : List (Value → Sem Unit) → List String → Prop
  | nil : Acts c [] []
  | cons {as xs} (x : String) {a : Value → Sem Unit} (h : ∀ v s (Q : Unit → Shared → Prop) (E : Value → Shared → Prop), wpAny c.M c.A (storeName c.env (Str.ofString x) v) Q E s → wpAny c.M c.A (a v) Q E s) (r : Acts c as xs) : Acts c (a :: as) (x :: xs)
theorem RepI.stays {h₀ σ f} {h h' : Heap} (I : InvF c h₀ σ f h) (hs : ∀ b o, (b ≠ c.env.locals ∧ ∀ y, c.env.cells.lookup y ≠ some b) → h.get? b = some o → h'.get? b = some o) {p u} (q : RepI c.mt h p u) : RepI c.mt h' p u := by
  induction q with
  | none => exact .none
  | bool b => exact .bool b
  | int i t => exact .int i t
  | flt x t => exact .flt x t
  | str s t => exact .str s t
  | obj v => exact .obj v
  | @tup b l vs ht hl _ ih =>
    obtain ⟨o, ho, hc, n, hd⟩ := ht
    refine .tup ⟨o, hs b o ⟨?_, ?_⟩ ho, hc, n, hd⟩ hl ih
    · rintro rfl
      obtain ⟨m, o', es, ep, ho', hd', _⟩ := I.ns
      rw [ho] at ho'; cases ho'; rw [hd] at hd'; cases hd'
    · intro y hy
      obtain ⟨_, u, o', ho', hd'⟩ := I.cells y b hy
      rw [ho] at ho'; cases ho'; rw [hd] at hd'; cases hd'
  | @rlist b l vs hm ht hl _ ih =>
    obtain ⟨o, ho, hc, n, hd⟩ := ht
    refine .rlist hm ⟨o, hs b o ⟨?_, ?_⟩ ho, hc, n, hd⟩ hl ih
    · rintro rfl
      obtain ⟨m, o', es, ep, ho', hd', _⟩ := I.ns
      rw [ho] at ho'; cases ho'; rw [hd] at hd'; cases hd'
    · intro y hy
      obtain ⟨_, u, o', ho', hd'⟩ := I.cells y b hy
      rw [ho] at ho'; cases ho'; rw [hd] at hd'; cases hd'
theorem inOrderA {as xs} (t : Acts c as xs) (ok : c.Ok) (hx : ∀ x ∈ xs, Stor c x) : ∀ {h₀ σ l vs s} {Q : Unit → Shared → Prop} {E : Value → Shared → Prop}, Inv c h₀ σ (Shared.heap s) → RepL c.mt s.heap l vs → l.all PV.imm = true → (c.mt = true → l.all PV.flat = true) → l.length = xs.length →
    (∀ h' tk, Inv c h₀ (setAll σ xs l) h' → Q () { s with heap := h', toks := tk }) → wpAny c.M c.A (assignInOrder as vs) Q E s := by
  induction t with
  | nil => intro h₀ σ l vs s Q E I r hi hfl hl k; cases l with
    | nil => cases vs <;> exact wpAny_pure (k s.heap s.toks I)
    | cons => simp at hl
  | @cons as xs x a ha t ih =>
    intro h₀ σ l vs s Q E I r hi hfl hl k
    cases l with
    | nil => simp at hl
    | cons v l =>
      cases r with
      | @cons _ u _ us ra rb =>
        simp only [List.all_cons, Bool.and_eq_true] at hi hfl
        show wpAny c.M c.A (do holding us (a u); assignInOrder as us) Q E s
        obtain ⟨f, I⟩ := I
        refine wpAny_bind (wpAny_holding (ha _ _ _ _ (I.store ok ra (fun m => (hfl m).1) (.inl hi.1) (hx x (List.mem_cons_self)) fun h' tk I' hs => ?_)))
        refine ih (fun y hy => hx y (List.mem_cons_of_mem _ hy)) (s := { s with heap := h', toks := tk }) ⟨_, I'⟩ ?_ hi.2 (fun m => (hfl m).2) (by simpa using hl) k
        have stay : ∀ {l us}, RepL c.mt s.heap l us → l.all PV.imm = true → RepL c.mt h' l us := by
          intro l us r hi
          induction r with
          | nil => exact .nil
          | cons a _ ih =>
            simp only [List.all_cons, Bool.and_eq_true] at hi
            exact .cons (.imm (RepI.stays I hs (a.toI hi.1))) (ih hi.2)
        exact stay rb hi.2
theorem RepL.snoc {mt h} {l : List PV} {vs : List Value} {p v} (r : RepL mt h l vs) (a : Rep mt h p v) : RepL mt h (l ++ [p]) (vs ++ [v]) := by
  induction r with
  | nil => exact .cons a .nil
  | cons b _ ih => exact .cons b ih
theorem RepL.rev {mt h} {l : List PV} {vs : List Value} (r : RepL mt h l vs) : RepL mt h l.reverse vs.reverse := by
  induction r with
  | nil => exact .nil
  | cons b _ ih => rw [List.reverse_cons, List.reverse_cons]; exact ih.snoc b
theorem acts_bind (xs : List String) : Acts c ((xs.map Str.ofString).map fun n => bindName c.env n) xs := by
  induction xs with
  | nil => exact .nil
  | cons x xs ih => exact .cons x (fun v s Q E h => bindName_ h) ih
/-- the names of one line, all local: stored from the right -/
theorem SoundS.assignSwap (ok : c.Ok) {mt : Bool} (hmt : c.mt = mt) {es : List Expr} {xs : List String} (_ : Tgts es xs) {e : Expr} {f : DE} (h : SoundE c e f) (k1 : Nat) (tpos pos : Pos) (hx : ∀ x ∈ xs, Stor c x)
    (hw : swappedStores [.Tuple es k1 tpos] e c.env = pure (some (xs.map Str.ofString)))
    (hs : swapsWithSole [.Tuple es k1 tpos] e pos.line c.env = pure false := by rfl) :
    SoundS c (.Assign [.Tuple es k1 tpos] e pos) (fun σ => (f σ).bind fun v => match v with
      | .tup l => if l.all PV.imm = true ∧ (mt = true → l.all PV.flat = true) ∧ l.length = xs.length then some (setAll σ xs.reverse l.reverse, .next) else none
      | _ => none) := by
  subst hmt
  intro h₀ σ σ' fl s Q E e1 I k
  simp only [Option.bind_eq_some_iff] at e1
  obtain ⟨v, e1, e2⟩ := e1
  split at e2
  · rename_i l
    split at e2
    · rename_i hc; cases e2
      refine Assign_Tuple_swapped (names := xs.map Str.ofString) (h σ _ s e1 I.toE _ E fun v' h1 tk1 r1 k1' => ?_) hs hw
      refine unpack_tup (s := { s with heap := h1, toks := tk1 }) ok r1 (by rw [List.length_map, hc.2.2]) fun h2 vs k2 r2 => ?_
      rw [← List.map_reverse]
      exact inOrderA (acts_bind xs.reverse) ok (fun x hm => hx x (List.mem_reverse.mp hm)) (s := { s with heap := h2, toks := tk1 }) (I.sub (k1'.trans k2)) r2.rev (by rw [List.all_reverse]; exact hc.1) (fun m => by rw [List.all_reverse]; exact hc.2.1 m) (by simp [hc.2.2]) fun h' tk I' => k _ h' tk I' .next
    · cases e2
  · cases e2
end
end
section
open PySem PySem.Spec PySem.Calls PyProof.Rows PySem.W
set_option maxRecDepth 100000

section
variable {c : Cx}
theorem SoundE.globStr (ok : c.Ok) (x : Str) (pos : Pos) {t : Str} {u : Tok} (hx : c.env.kindOf x = some .globalImplicit) (hv : c.mg x = some (.str t u)) (hd : (x == ("__debug__" : Str)) = false := by decide) :
    SoundE c (.Name x pos) (fun _ => some (.str t)) := by
  intro σ pv s e I Q E k; cases e
  exact Name_function_global ok.hk hx (loadGlobal_global (ok.g.keeps I.base) hv (k _ s.heap s.toks (.imm (.str ..)) (Sub.refl _))) hd

/-! a op b op c -/
def chainV (op1 op2 : CmpOp) (a b : PV) (r : Option PV) : Option PV := (cmpV op1 a b).bind fun t => if t = true then r.bind fun d => (cmpV op2 b d).map .bool else some (.bool false)
theorem SoundE.chain {l r1 r2 : Expr} {f g h : DE} (hl : SoundE c l f) (op1 op2 : CmpOp) (pos : Pos) (h1 : SoundE c r1 g) (h2 : SoundE c r2 h) (hm : lastMarks [op1, op2] [r1, r2] = false := by with_unfolding_all rfl)
    (he : evalEach ([] : List Expr) c.env = [] := by rfl) :
    SoundE c (.Compare l [op1, op2] [r1, r2] pos) (fun σ => (f σ).bind fun a => (g σ).bind fun b => chainV op1 op2 a b (h σ)) := by
  intro σ pv s e I Q E k
  simp only [Option.bind_eq_some_iff] at e
  obtain ⟨a, e1, b, e2, e3⟩ := e
  refine Compare_chain (hl σ a s e1 I _ E fun va h1' tk1 r1' k1 => ?_) hm
  rw [he]
  refine chain_link ?_
  refine h1 σ b _ e2 (I.sub k1) _ E fun vb h2' tk2 r2' k2 => ?_
  unfold chainV at e3
  simp only [Option.bind_eq_some_iff] at e3
  obtain ⟨t, e3, e4⟩ := e3
  refine cmpV_sound (s := { s with heap := h2', toks := tk2 }) e3 (r1'.sub k2) r2' _ E fun v h3 tk3 r3 k3 => ?_
  subst r3
  refine wpAny_truthy_bool ?_
  cases t with
  | false => simp at e4; subst e4; exact k _ h3 tk3 (.imm (.bool _)) (k1.trans (k2.trans k3))
  | true =>
    simp only [if_true, Option.bind_eq_some_iff, Option.map_eq_some_iff] at e4 ⊢
    obtain ⟨d, e4, r, e5, rfl⟩ := e4
    refine chain_last (h2 σ d { s with heap := h3, toks := tk3 } e4 (I.sub (k1.trans (k2.trans k3))) _ E fun vd h4 tk4 r4 k4 => ?_)
    exact cmpV_sound (s := { s with heap := h4, toks := tk4 }) e5 (r2'.sub (k3.trans k4)) r4 _ E fun v h5 tk5 r5 k5 => k v h5 tk5 (r5 ▸ .imm (.bool _)) (k1.trans (k2.trans (k3.trans (k4.trans k5))))

/-! while -/
def whileS (t : DT) (g : DS) : Nat → DS
  | 0, _ => none
  | n + 1, σ => (t σ).bind fun b => if b = true then (match g σ with
      | some (σ', .next) => whileS t g n σ'
      | some (σ', .cont) => whileS t g n σ'
      | some (σ', .brk) => some (σ', .next)
      | some (σ', .ret v) => some (σ', .ret v)
      | none => none) else some (σ, .next)
theorem SoundS.while (n : Nat) {test : Expr} {body : List Stmt} {t : DT} {g : DS} (ht : SoundT c test t) (hb : SoundSs c body g) (pos : Pos) : SoundS c (.While test body [] pos) (whileS t g n) := by
  intro h₀ σ σ' fl s Q E e I k
  refine wpAny_While ?_
  refine codeAny_whileLoop (fun m s' => ∃ h' tk σi, s' = { s with heap := h', toks := tk } ∧ Inv c h₀ σi h' ∧ whileS t g m σi = some (σ', fl)) ?_ n ⟨s.heap, s.toks, σ, rfl, I, e⟩
  rintro m s' ⟨h', tk, σi, rfl, Ii, ei⟩
  cases m with
  | zero => cases ei
  | succ m =>
    simp only [whileS, Option.bind_eq_some_iff] at ei
    obtain ⟨b, e1, e2⟩ := ei
    refine ht σi b { s with heap := h', toks := tk } e1 Ii.toE _ _ fun vb h1 tk1 r1 k1 => ?_
    subst r1
    cases vb with
    | false =>
      simp only [Bool.false_eq_true, if_false] at e2 ⊢
      cases e2
      exact wpAny_execs_nil (k .next h1 tk1 (Ii.sub k1) .next)
    | true =>
      simp only [if_true] at e2 ⊢
      cases hg : g σi with
      | none => rw [hg] at e2; cases e2
      | some q =>
        obtain ⟨σ2, fl2⟩ := q
        rw [hg] at e2
        refine hb h₀ σi σ2 fl2 { s with heap := h1, toks := tk1 } _ _ hg (Ii.sub k1) fun fw h2 tk2 I2 r2 => ?_
        cases r2 with
        | next => exact ⟨m, Nat.lt_succ_self m, h2, tk2, σ2, rfl, I2, e2⟩
        | cont => exact ⟨m, Nat.lt_succ_self m, h2, tk2, σ2, rfl, I2, e2⟩
        | brk => cases e2; exact k .next h2 tk2 I2 .next
        | ret r => cases e2; exact k _ h2 tk2 I2 (.ret r)

/-! a = b = e -/
theorem SoundS.assign2 (ok : c.Ok) {e : Expr} {f : DE} (x y : String) (px py : Pos) (h : SoundE c e f) (pos : Pos) (hx : Stor c x) (hy : Stor c y)
    (he : (assignEach [.Name (Str.ofString x) px, .Name (Str.ofString y) py] c.env).map (·.2) = [PySem.assign (.Name (Str.ofString x) px) c.env, PySem.assign (.Name (Str.ofString y) py) c.env] := by rfl)
    (hw : swappedStores [.Name (Str.ofString x) px, .Name (Str.ofString y) py] e c.env = pure none := by rfl) :
    SoundS c (.Assign [.Name (Str.ofString x) px, .Name (Str.ofString y) py] e pos) (fun σ => (f σ).bind fun v => if v.atom = true then some ((σ.set x v).set y v, .next) else none) := by
  intro h₀ σ σ' fl s Q E e1 I k
  simp only [Option.bind_eq_some_iff] at e1
  obtain ⟨v, e1, e2⟩ := e1
  split at e2
  · rename_i hi; cases e2
    have hfl : FlatOk c.mt v := fun _ => by cases v <;> first | exact hi | rfl | cases hi
    refine wpAny_Assign_two (h σ v s e1 I.toE _ E fun v' h1 tk1 r1 k1 => ?_) he hw
    have r1' := (r1.toI (atom_imm hi)).atomAny hi
    refine wpAny_assign_Name (Inv.store (s := { s with heap := h1, toks := tk1 }) ok (I.sub k1) r1 (atom_imm hi) hfl hx fun h2 tk2 I2 => ?_)
    exact wpAny_assign_Name (Inv.store (s := { s with heap := h2, toks := tk2 }) ok I2 (.imm (r1' h2)) (atom_imm hi) hfl hy fun h3 tk3 I3 => k _ h3 tk3 I3 .next)
  · cases e2

/-! [p] * n -/
theorem fold_rep (v : Value) : ∀ (n : Nat) (a : List Value), List.foldl (fun (x1 x2 : Array Value) => x1 ++ x2) a.toArray (List.replicate n #[v]) = (a ++ List.replicate n v).toArray
  | 0, a => by simp
  | n + 1, a => by
    rw [List.replicate_succ, List.foldl_cons]
    have : a.toArray ++ #[v] = (a ++ [v]).toArray := by simp
    rw [this, fold_rep v n, List.replicate_succ]; simp
theorem SoundN.rep {l r : Expr} {f : Store → Option (List PV)} {g : DE} (hl : SoundN c l f) (hr : SoundE c r g) (pos : Pos) :
    SoundN c (.BinOp l .Mult r pos) (fun σ => (f σ).bind fun a => (g σ).bind fun b => match a, b with
      | [p], .int n => if p.atom = true ∧ -1000 ≤ n ∧ n < 1000 then some (List.replicate n.toNat p) else none
      | _, _ => none) := by
  intro σ l s e I Q E k
  simp only [Option.bind_eq_some_iff] at e
  obtain ⟨a, e1, b, e2, e3⟩ := e
  split at e3
  · rename_i p n
    split at e3
    · rename_i hc; cases e3
      refine wpAny_BinOp (hl σ _ s e1 I _ E fun va h1 tk1 r1 k1 => ?_)
      refine hr σ _ _ e2 (I.sub k1) _ E fun vb h2 tk2 r2 k2 => ?_
      obtain ⟨a, vs, rfl, _, hp, hrp⟩ := r1
      obtain ⟨u, rfl⟩ := r2.toInt
      obtain ⟨v, rfl⟩ : ∃ v, vs = [v] := by
        match vs, hrp.1 with
        | [v], _ => exact ⟨v, rfl⟩
      obtain ⟨kk, hp2⟩ := PlainList.sub hp k2
      have rv := (hrp.2 0 p v rfl rfl).atomAny hc.1
      refine wpAny_binaryOp_repeat_ref (T := "list") (U := "int") (by decide) ⟨_, hp2, rfl⟩ (fun s' => typeIs_int s' n u) noFill_list_mul F.fills_int_mul F.slot_int_rmul repeat_list F.slot_int_index.lookup
        (call_meets F.slot_int_rmul (typeIs_int _ n u) F.entry_int_rmul (F.args_int_rmul_2 _ _) (int___rmul___int_list n u a _ kk)
          ⟨hp2, rfl, ⟨_, hp2, rfl⟩, call_meets F.slot_list_mul ⟨_, hp2, rfl⟩ F.entry_list_mul (F.args_list_mul_2 _ _)
            (AutoListH.list___mul___list_int_3 a _ kk n u (by simp [Builtin.List.listFitsIndex]; omega) (by simp; omega) (by simp [Builtin.List.listTooLong, sizeLine]; omega)) ⟨hp2, ?_⟩⟩)
      refine k _ _ _ ⟨_, List.replicate n.toNat v, rfl, get_none (k1.trans k2) (Nat.le_refl _), ?_, ?_⟩ ((k1.trans k2).trans fun b o e => Heap.get?_push_of_some _ e)
      · refine ⟨0, ?_⟩
        have := fold_rep v n.toNat []
        simp only [List.nil_append] at this
        rw [← this]
        exact Heap.get?_push_size _ rfl
      · refine ⟨by simp, fun i q w a b => ?_⟩
        rw [List.getElem?_replicate] at a b
        split at a
        · cases a; rename_i hi; rw [if_pos hi] at b; cases b; exact rv _
        · cases a
    · cases e3
  · cases e3

/-! a, b = (new, new) -/
theorem SoundS.assign2N (ok : c.Ok) (hm : c.mt = true) {e1 e2 : Expr} {f g : Store → Option (List PV)} (x y : String) (px py : Pos) (h1 : SoundN c e1 f) (h2 : SoundN c e2 g) (k1 k2 : Nat) (tp vp pos : Pos) (hx : Stor c x) (hy : Stor c y) (hxy : x ≠ y)
    (hst : starEach [e1, e2] c.env = [(false, eval e1 c.env), (false, eval e2 c.env)] := by rfl)
    (hbt : backTo vp [(false, eval e1 c.env), (false, eval e2 c.env)] = [(false, eval e1 c.env), (false, eval e2 c.env)] := by rfl)
    (hs : swapsWithSole [.Tuple [.Name (Str.ofString x) px, .Name (Str.ofString y) py] k1 tp] (.Tuple [e1, e2] k2 vp) pos.line c.env = pure false := by rfl)
    (hw : swappedStores [.Tuple [.Name (Str.ofString x) px, .Name (Str.ofString y) py] k1 tp] (.Tuple [e1, e2] k2 vp) c.env = pure none := by rfl) :
    SoundS c (.Assign [.Tuple [.Name (Str.ofString x) px, .Name (Str.ofString y) py] k1 tp] (.Tuple [e1, e2] k2 vp) pos) (fun σ => (f σ).bind fun a => (g σ).bind fun b => if a.all PV.atom = true ∧ b.all PV.atom = true then some ((σ.set x (.list a)).set y (.list b), .next) else none) := by
  intro h₀ σ σ' fl s Q E ee I k
  simp only [Option.bind_eq_some_iff] at ee
  obtain ⟨la, ea, lb, eb, ee⟩ := ee
  split at ee
  · rename_i hc; cases ee
    refine Assign_Tuple ?_ hs hw
    show wpAny c.M c.A (do standAt vp; newTuple (← spliced (backTo vp (starEach [e1, e2] c.env)))) _ E s
    rw [hst, hbt]
    refine wpAny_bind (wpAny_standAt (wpAny_bind ?_))
    refine Calls.spliced_cons (h1 σ _ s ea I.toE _ E fun v1 g1 t1 r1 s1 => ?_)
    obtain ⟨a1, vs1, rfl, n1, p1, q1⟩ := r1
    refine Calls.spliced_cons (h2 σ _ { s with heap := g1, toks := t1 } eb (I.sub s1).toE _ E fun v2 g2 t2 r2 s2 => ?_)
    obtain ⟨a2, vs2, rfl, n2, p2, q2⟩ := r2
    show wpAny c.M c.A (pure []) _ E _
    refine wpAny_pure ?_
    show wpAny c.M c.A (newTuple [.ref a1, .ref a2]) _ E _
    refine wpAny_newObj_type ?_ (by show (2 : Nat) ≤ sizeLine; decide +kernel)
    show wpAny c.M c.A (do standAt tp; unpack (.ref g2.objs.size) (assignEach [.Name (Str.ofString x) px, .Name (Str.ofString y) py] c.env)) _ E _
    refine wpAny_bind (wpAny_standAt ?_)
    unfold unpack
    rw [((Tgts.nil.cons y py).cons x px).each]
    refine wpAny_bind (wpAny_holding ?_)
    rw [findIdx_none]
    generalize hG : g2.push { cls := .type "tuple", data := .seq ([.ref a1, .ref a2] : List Value).toArray } = G
    have kG : Sub g2 G := hG ▸ fun b o e => Heap.get?_push_of_some _ e
    have hT : G.IsTuple g2.objs.size ([.ref a1, .ref a2] : List Value).toArray := hG ▸ ⟨_, Heap.get?_push_size _ rfl, rfl, _, rfl⟩
    show wpAny c.M c.A (unpackItems (.ref g2.objs.size) 2 none) _ E _
    refine unpackItems_tuple (items := ([.ref a1, .ref a2] : List Value).toArray) ok.hh hT fun g3 he => ?_
    have k3 : Sub G g3 := fun b o e => he b o (Nat.ne_of_lt (Heap.lt_size e)) e
    obtain ⟨ff, I⟩ := I
    have old : Sub s.heap g3 := s1.trans (s2.trans (kG.trans k3))
    have I3 := I.sub old
    have P1 := PlainList.sub p1 (s2.trans (kG.trans k3))
    have P2 := PlainList.sub p2 (kG.trans k3)
    have Q1 := q1.sub (s2.trans (kG.trans k3))
    have n2' : s.heap.get? a2 = none := get_none' s1 n2
    have h12 : a1 ≠ a2 := by
      rintro rfl
      obtain ⟨n, p⟩ := p1; rw [p] at n2; cases n2
    have notList : ∀ {a} (_ : s.heap.get? a = none) (z : String) (l : List PV), σ z = some (.list l) → ff z ≠ .ref a := by
      intro a hn z l e q
      obtain ⟨b, vs', e', ⟨n, hp⟩, _⟩ := (I.vars z _ e).2.toList
      rw [q] at e'; cases e'; rw [hp] at hn; cases hn
    show wpAny c.M c.A (do holding [.ref a2] (PySem.assign (.Name (Str.ofString x) px) c.env (.ref a1)); assignInOrder [PySem.assign (.Name (Str.ofString y) py) c.env] [.ref a2]) _ E _
    refine wpAny_bind (wpAny_holding (wpAny_assign_Name (I3.store (s := { s with heap := g3, toks := t2 }) ok (.list P1 Q1) (fun _ => hc.1) (.inr ⟨hm, a1, rfl, get_none' I.keep n1, fun z l hz e => notList n1 z l e⟩) hx fun g4 t4 I4 hs4 => ?_)))
    have own2 : a2 ≠ c.env.locals ∧ ∀ z, c.env.cells.lookup z ≠ some a2 := by
      refine ⟨?_, fun z q => ?_⟩
      · rintro rfl
        obtain ⟨m, o, _, _, ho, _⟩ := I.ns
        rw [n2'] at ho; cases ho
      · obtain ⟨_, _, o, ho, _⟩ := I.cells z a2 q
        rw [n2'] at ho; cases ho
    have P2' : g4.PlainList a2 vs2.toArray := let ⟨n, p⟩ := P2; ⟨n, hs4 _ _ own2 p⟩
    show wpAny c.M c.A (do holding [] (PySem.assign (.Name (Str.ofString y) py) c.env (.ref a2)); assignInOrder [] []) _ E _
    refine wpAny_bind (wpAny_holding (wpAny_assign_Name (I4.store (s := { s with heap := g4, toks := t4 }) ok (.list P2' ⟨q2.1, fun i p v a b => (q2.2 i p v a b).atomAny (List.all_eq_true.mp hc.2 p (List.mem_of_getElem? a)) g4⟩) (fun _ => hc.2) (.inr ⟨hm, a2, rfl, get_none' I.keep n2', fun z l hz e => ?_⟩) hy fun g5 t5 I5 hs5 => ?_)))
    · by_cases hzx : z = x
      · subst hzx
        simp only [fset, if_true]
        exact fun q => h12 (Value.ref.inj q)
      · simp only [Store.set, if_neg hzx] at e
        simp only [fset, if_neg hzx]
        exact notList n2' z l e
    · exact wpAny_pure (k _ g5 t5 ⟨_, I5⟩ .next)
  · cases ee
end
end
section
open PySem PySem.Spec PySem.Calls PyProof.Rows PySem.W
set_option maxRecDepth 100000

/-- a callee's context -/
def Cx.callee (c : Cx) (A : Around) (mt : Bool) (h : Heap) (fd : FuncData) (f : Addr) : Cx :=
  { prog := c.prog, w := c.w, A := A.deeper (callEnvC fd h.objs.size f), mt := mt, B := h, env := callEnvC fd h.objs.size f, mg := c.mg, mb := c.mb }
theorem Cx.callee_ok {c : Cx} (ok : c.Ok) {A : Around} (hA : A.handled = none) {mt h fd f} (k : Sub c.B h) (hg : c.env.globals = fd.globals) (hb : c.env.builtins = fd.builtins) (hk : fd.scope.kind = .function) : (c.callee A mt h fd f).Ok where
  hh := hA
  hk := hk
  nl := ok.nl.keeps k
  g := by have := ok.g.keeps k; rw [hg] at this; exact this
  b := by have := ok.b.keeps k; rw [hb] at this; exact this
  bt := ok.bt

def Par (kindOf : Str → Option NameKind) (mt : Bool) (h : Heap) (σ : Store) (m cm : Str → Option Value) : Prop :=
  ∀ x pv, σ x = some pv → pv.imm = true ∧ FlatOk mt pv ∧ ∃ v, Rep mt h pv v ∧ ((kindOf (Str.ofString x) = some .local ∧ m (Str.ofString x) = some v) ∨ (kindOf (Str.ofString x) = some .cell ∧ cm (Str.ofString x) = some v))
theorem par_all {kindOf mt h} : ∀ {xs : List String} {pvs : List PV} {vs : List Value} {σ m cm}, RepL mt h pvs vs → pvs.length = xs.length → pvs.all PV.imm = true → (mt = true → pvs.all PV.flat = true) →
    (∀ x ∈ xs, kindOf (Str.ofString x) = some .local ∨ kindOf (Str.ofString x) = some .cell) → Par kindOf mt h σ m cm →
    Par kindOf mt h (setAll σ xs pvs) (bindL kindOf ((xs.map Str.ofString).zip vs) m) (bindC kindOf ((xs.map Str.ofString).zip vs) cm)
  | [], [], _, σ, m, cm, .nil, _, _, _, _, P => P
  | [], _ :: _, _, _, _, _, _, e, _, _, _, _ => by simp at e
  | _ :: _, [], _, _, _, _, _, e, _, _, _, _ => by simp at e
  | x :: xs, p :: pvs, v :: vs, σ, m, cm, .cons a r, e, hi, hf, hk, P => by
    simp only [List.all_cons, Bool.and_eq_true] at hi hf
    show Par kindOf mt h (setAll (σ.set x p) xs pvs) (bindL kindOf ((xs.map Str.ofString).zip vs) (if kindOf (Str.ofString x) = some .local then fun y => if y = Str.ofString x then some v else m y else m))
      (bindC kindOf ((xs.map Str.ofString).zip vs) (if kindOf (Str.ofString x) = some .local then cm else fun y => if y = Str.ofString x then some v else cm y))
    refine par_all r (by simpa using e) hi.2 (fun m => (hf m).2) (fun y hy => hk y (List.mem_cons_of_mem _ hy)) fun y pv ey => ?_
    by_cases hy : y = x
    · subst hy
      simp only [Store.set, if_true] at ey
      cases ey
      refine ⟨hi.1, fun m => (hf m).1, v, a, ?_⟩
      rcases hk y List.mem_cons_self with q | q
      · refine .inl ⟨q, ?_⟩
        simp [q]
      · refine .inr ⟨q, ?_⟩
        simp [q]
    · simp only [Store.set, if_neg hy] at ey
      obtain ⟨a1, a2, u, a3, a4⟩ := P y pv ey
      have hne : Str.ofString y ≠ Str.ofString x := fun q => hy (ofString_inj q)
      refine ⟨a1, a2, u, a3, ?_⟩
      rcases a4 with ⟨q1, q2⟩ | ⟨q1, q2⟩
      · refine .inl ⟨q1, ?_⟩
        show (if kindOf (Str.ofString x) = some .local then _ else _ : Str → Option Value) (Str.ofString y) = some u
        split
        · simp [hne, q2]
        · exact q2
      · refine .inr ⟨q1, ?_⟩
        show (if kindOf (Str.ofString x) = some .local then _ else _ : Str → Option Value) (Str.ofString y) = some u
        split
        · exact q2
        · simp [hne, q2]

/-- a call that runs to its end -/
def CodeDoes (c : Cx) (A : Around) (f : Value) (args : Args) (s : Shared) (P : Value → Heap → Prop) : Prop :=
  ∀ (R : Result → Shared → Prop), (∀ v h' tk, P v h' → Sub s.heap h' → R (.ok (.ret v)) { s with heap := h', toks := tk }) → codeAny c.M A (.call f args) R s
theorem CodeDoes.does {c : Cx} {f : Value} {pos : List Value} {kw : List (Str × Value)} {s : Shared} {P : Value → Heap → Prop} (h : CodeDoes c c.A f ⟨pos, kw⟩ s P) : Does c (call f pos kw) s P :=
  fun Q E k => wpAny_call (h _ fun v h' tk p u => k v h' tk p u)
/-- a call's values at the parameters -/
def BindV (c : Cx) (fd : FuncData) (args : Args) (s : Shared) (xs : List String) (mt : Bool) (pvs : List PV) : Prop :=
  ∀ (A : Around) (Q : List (Str × Value) → Shared → Prop) (E : Value → Shared → Prop), (∀ h' ws, Sub s.heap h' → RepL mt h' pvs ws → Q ((xs.map Str.ofString).zip ws) { s with heap := h' }) → wpAny c.M A (bindArgs fd args) Q E s
theorem BindV.plain {c : Cx} {fd : FuncData} {vs : List Value} {s : Shared} {xs : List String} {mt : Bool} {pvs : List PV} (hbind : bindArgs fd ⟨vs, []⟩ = pure ((xs.map Str.ofString).zip vs)) (hr : RepL mt s.heap pvs vs) : BindV c fd ⟨vs, []⟩ s xs mt pvs := by
  intro A Q E k
  rw [hbind]
  exact wpAny_pure (k s.heap vs (Sub.refl _) hr)

structure FnOk (c : Cx) (fd : FuncData) (xs : List String) : Prop where
  hclo : fd.closure = []
  hkind : ∀ x ∈ xs, fd.scope.names.lookup (Str.ofString x) = some .local ∨ (fd.scope.names.lookup (Str.ofString x) = some .cell ∧ ∀ n, ((cellsFrom n fd.scope.names []).lookup (Str.ofString x)).isSome = true)
  hg : c.env.globals = fd.globals
  hb : c.env.builtins = fd.builtins
  hk : fd.scope.kind = .function
  hco : fd.scope.isCoroutine = false
  hgen : fd.scope.isGenerator = false

theorem call_code {c : Cx} (ok : c.Ok) {A : Around} (hroom : A.depth < recursionLimit) {f : Addr} {o : Obj} {fd : FuncData} (mt : Bool) (xs : List String) (F : FnOk c fd xs) {den : DS} {s : Shared} {pvs : List PV} {args : Args} {r : PV} {σ' : Store}
    (ho : s.heap.get? f = some o) (hdata : o.data = .func fd) (hB : Sub c.B s.heap) (hcd : s.heap.CodeRec fd.code fd.qualname) {body : List Stmt} (hbody : fd.body = .stmts body)
    (hbind : BindV c fd args s xs mt pvs)
    (hden : ∀ h', Sub s.heap h' → SoundSs (c.callee A mt h' fd f) body den) (hlen : pvs.length = xs.length) (hi : pvs.all PV.imm = true) (hf : mt = true → pvs.all PV.flat = true)
    (hrun : den (setAll (fun _ => none) xs pvs) = some (σ', .ret r)) :
    CodeDoes c A (.ref f) args s (fun v h' => Rep mt h' r v) := by
  intro R k
  obtain ⟨hclo, hkind, hg, hb, hk, hco, hgen⟩ := F
  refine codeAny_call_function hroom ho hdata hco hgen hbody hcd (hbind _ _ _ fun h0 vs hsub hr => ?_)
  have hvl : vs.length = xs.length := hr.len.symm.trans hlen
  rw [hclo]
  refine wpAny_newFunctionEnv_cells hk ?_ fun env he s₁ X => ?_
  · intro p hp
    have hm : p.1 ∈ xs.map Str.ofString := (List.of_mem_zip hp).1
    obtain ⟨x, hx, e⟩ := List.mem_map.mp hm
    rw [← e]
    rcases hkind x hx with q | ⟨q1, q2⟩
    · exact .inl q
    · exact .inr ⟨q1, q2 _⟩
  · subst he
    refine ⟨(ok.nl.keeps (hB.trans hsub)).keeps X.toInCall.keep, codeAny_func ?_⟩
    obtain ⟨h₁, tk, rfl, hk1⟩ := X.done
    replace hk1 : ∀ b o, h0.get? b = some o → h₁.get? b = some o := hk1
    have hns := X.toInCall.ns
    have kd : ∀ x, (callEnvC fd h0.objs.size f).kindOf x = fd.scope.names.lookup x := fun _ => rfl
    have P := par_all (kindOf := (callEnvC fd h0.objs.size f).kindOf) (xs := xs) (σ := fun _ => none) (m := fun _ => none) (cm := fun _ => none) hr hlen hi hf (fun x hx => by
      rw [kd]
      rcases hkind x hx with q | ⟨q1, q2⟩
      · exact .inl q
      · exact .inr q1) (fun x pv e => by cases e)
    have fresh : ∀ b, h0.objs.size ≤ b → h0.get? b = none := fun b hb => by
      cases q : h0.get? b with
      | none => rfl
      | some o => exact absurd (Heap.lt_size q) (Nat.not_lt.mpr hb)
    have hI : ∀ x pv, setAll (fun _ => none) xs pvs x = some pv → ∃ v, VarAt h₁ (callEnvC fd h0.objs.size f) (Str.ofString x) v ∧ Rep mt h₁ pv v := by
      intro x pv e
      obtain ⟨_, _, v, q1, q2⟩ := P x pv e
      refine ⟨v, ?_, q1.sub hk1⟩
      rcases q2 with ⟨q2, q3⟩ | ⟨q2, q3⟩
      · exact .inl ⟨q2, _, hns, q3⟩
      · have hx : ∃ a, (callEnvC fd h0.objs.size f).cells.lookup (Str.ofString x) = some a := by
          -- the name is a parameter that is a cell
          have : x ∈ xs ∨ x ∉ xs := Classical.em _
          rcases this with hx | hx
          · rcases hkind x hx with q | ⟨_, q⟩
            · rw [kd] at q2; rw [q] at q2; cases q2
            · exact Option.isSome_iff_exists.mp (q _)
          · exfalso
            have none_of : ∀ (xs : List String) (pvs : List PV) (σ : Store), x ∉ xs → setAll σ xs pvs x = σ x := by
              intro xs
              induction xs with
              | nil => intro pvs σ _; cases pvs <;> rfl
              | cons y ys ih =>
                intro pvs σ h
                cases pvs with
                | nil => rfl
                | cons p ps =>
                  show setAll (σ.set y p) ys ps x = σ x
                  rw [ih ps _ (fun q => h (List.mem_cons_of_mem _ q))]
                  simp only [Store.set]
                  rw [if_neg (fun q => h (by rw [q]; exact List.mem_cons_self))]
            rw [none_of xs pvs _ hx] at e; cases e
        obtain ⟨a, ha⟩ := hx
        exact .inr ⟨.inl q2, a, ha, q3 ▸ X.cell _ a ha⟩
    have hch : ∃ g : String → Value, ∀ x pv, setAll (fun _ => none) xs pvs x = some pv → VarAt h₁ (callEnvC fd h0.objs.size f) (Str.ofString x) (g x) ∧ Rep mt h₁ pv (g x) := by
      have : ∀ x, ∃ v, ∀ pv, setAll (fun _ => none) xs pvs x = some pv → VarAt h₁ (callEnvC fd h0.objs.size f) (Str.ofString x) v ∧ Rep mt h₁ pv v := by
        intro x
        cases e : setAll (fun _ => none) xs pvs x with
        | none => exact ⟨.none, fun pv q => by cases q⟩
        | some pv => obtain ⟨v, h⟩ := hI x pv e; exact ⟨v, fun pv' q => by cases q; exact h⟩
      exact ⟨fun x => (this x).choose, fun x => (this x).choose_spec⟩
    obtain ⟨g, hg'⟩ := hch
    have I : Inv (c.callee A mt h0 fd f) h0 (setAll (fun _ => none) xs pvs) h₁ := ⟨g, {
      base := Sub.refl _
      keep := hk1
      ns := ⟨_, hns⟩
      freshL := fresh _ (Nat.le_refl _)
      cells := fun x a e => ⟨fresh _ (Nat.le_of_lt (X.above x a (mem_of_lookup e))), _, X.cell x a e⟩
      apart := fun x y a e1 e2 => name_of_addr X.apart (mem_of_lookup e1) (mem_of_lookup e2)
      vars := hg'
      own := fun x y l l' _ e _ => by have := (P x _ e).1; cases this
      fresh := fun x l a e _ => by have := (P x _ e).1; cases this
      flat := fun x pv e => (P x pv e).2.1 }⟩
    refine hden h0 hsub h0 _ σ' (.ret r) { s with heap := h₁, toks := tk } _ _ hrun I fun fw h' tk' I' r' => ?_
    cases r' with
    | ret r' => exact k _ h' tk' r' (hsub.trans (let ⟨_, q⟩ := I'; q.keep))

/-! what a function gives back -/
def PV.out : PV → PV
  | .list l => .rlist l
  | p => p
theorem RepI.toF {h p v} (r : RepI true h p v) : RepI false h p v := by
  induction r with
  | none => exact .none
  | bool b => exact .bool b
  | int i t => exact .int i t
  | flt x t => exact .flt x t
  | str s t => exact .str s t
  | obj v => exact .obj v
  | tup ht hl _ ih => exact .tup ht hl ih
  | rlist hm => cases hm
theorem Rep.out {h p v} (r : Rep true h p v) : Rep false h p.out v := by
  cases r with
  | imm r =>
    have q := r.toF
    cases p with
    | list l => cases r
    | _ => exact .imm q
  | list hp hr => exact .imm (.rlist rfl hp.isList hr.1 fun i p v a b => (hr.2 i p v a b).toF)
end
section
open PySem PySem.Spec PySem.Calls PyProof.Rows PySem.W
set_option maxRecDepth 100000

theorem InstAt.sub {h h' : Heap} {x C : Addr} {ox : Obj} {od : Option Obj} (I : InstAt h x ox C od) (k : Sub h h') : InstAt h' x ox C od := by
  obtain ⟨a, b, d, e⟩ := I
  refine ⟨k _ _ a, b, d, ?_⟩
  cases q : ox.dict with
  | none => rw [q] at e; cases od <;> exact e
  | some dx => rw [q] at e; cases od with
    | none => exact e
    | some o => exact k _ _ e

section
variable {M : Model} {A : Around} {E : Value → Shared → Prop} {s : Shared}
theorem callWith_all {P : Heap → Prop} {pos : Pos} {f : Value} {first : List Value} {args : List (Bool × Sem Value)} {Q : Value → Shared → Prop} (hk : ∀ h, P h → ∃ k, Looks M h (keeperOf f) k)
    (h : wpAny M A (evalArgs f true args []) (fun a s₁ => P s₁.heap ∧ wpAny M A (call f (first ++ a.pos) a.kw) Q E s₁) E s) : wpAny M A (callWith pos f first args []) Q E s := by
  unfold callWith
  refine wpAny_bind (wpAny_holding (wpAny_mono h (fun a s₁ h₁ => wpAny_bind (wpAny_standAt ?_)) fun _ _ y => y))
  obtain ⟨k, L⟩ := hk _ h₁.1
  have tail : ∀ {t : Sem Value}, wpAny M A t Q E s₁ → wpAny M A (t >>= fun r => holding [r] point >>= fun _ => pure r) Q E s₁ :=
    fun ht => wpAny_bind (wpAny_mono ht (fun r s₂ hr => wpAny_bind (wpAny_holding (wpAny_point (wpAny_pure hr)))) fun _ _ y => y)
  have marked (mk : Value) : wpAny M A (callMarked mk f (first ++ a.pos) a.kw) Q E s₁ := by unfold callMarked; exact Calls.wpAny_keep h₁.2
  generalize (args.any (·.1) || ([] : List (Option Str × Sem Value)).any (·.1.isNone)) = st
  refine wpAny_bind (L.here ?_)
  cases k <;> cases st <;> dsimp only <;> first
    | exact tail (marked _)
    | exact tail h₁.2
    | exact tail (wpAny_operateT h₁.2)
    | (split <;> first | exact tail h₁.2 | exact tail (marked _) | exact tail (wpAny_operateT h₁.2))
theorem keeps_of {K : Frag} {f : Value} (hk : keepIn K f = true) (h : Heap) (X : K.In h) : ∃ k, Looks M h (keeperOf f) k := let ⟨k, _, b⟩ := keeps_K (M := M) hk h X; ⟨k, b⟩

theorem notIter_tuple {a : Addr} {items : Array Value} {Q : Bool → Shared → Prop} (ht : s.heap.IsTuple a items) (h : Q false s) : wpAny M A (notIterableAtAll (.ref a)) Q E s := by
  unfold notIterableAtAll
  refine wpAny_bind (wpAny_specialOf (let ⟨o, ho, hc, _⟩ := ht; ⟨o, ho, hc⟩ : s.TypeIs (.ref a) "tuple") F.slot_tuple_iter.lookup ?_)
  exact wpAny_pure h
end
section
variable {prog : Program} {w : World} {A : Around} {E : Value → Shared → Prop} {s : Shared}
/-- f( *x ) -/
theorem evalArgs_star {f : Value} {x : Sem Value} {Q : Args → Shared → Prop}
    (h : wpAny (model prog w) A x (fun v s₁ => ∃ a vs, v = .ref a ∧ s₁.heap.IsTuple a (List.toArray vs) ∧ vs.length ≤ 1000 ∧ ∀ h', Sub s₁.heap h' → Q ⟨vs, []⟩ { s₁ with heap := h' }) E s) :
    wpAny (model prog w) A (evalArgs f true [(true, x)] []) Q E s := by
  unfold evalArgs
  refine wpAny_bind (wpAny_mono h (fun v s₁ h₁ => wpAny_bind (wpAny_pure ?_)) fun _ _ y => y)
  obtain ⟨a, vs, rfl, ht, hl, k⟩ := h₁
  refine wpAny_holding ?_
  show wpAny (model prog w) A (if (([] : List (Option Str × Sem Value)).all fun x => x.1.isSome) = true then _ else _) Q E s₁
  rw [if_pos (by rfl)]
  refine wpAny_bind (wpAny_evalAll_nil ?_)
  refine wpAny_bind (wpAny_bind (notIter_tuple ht ?_))
  dsimp only
  rw [if_neg (by decide)]
  obtain ⟨o, ho, hc, n, hd⟩ := ht
  refine wpAny_holding (wpAny_collect_seq a (.inr rfl) ho hc hd (fun h' hk => wpAny_pure ?_) (by rw [List.size_toArray]; exact Nat.le_trans hl (by decide +kernel)))
  exact k h' hk
end

section
variable {c : Cx}
open Classical in
/-- a value that may be called -/
def Callee (c : Cx) (v : Value) (first : List Value) (h : Heap) (spec : List PV → Option PV) : Prop := ∀ s : Shared, Sub h s.heap → (∃ k, Looks c.M s.heap (keeperOf v) k) ∧
  ∀ pvs vs r, spec pvs = some r → RepL c.mt s.heap pvs vs → CodeDoes c c.A v ⟨first ++ vs, []⟩ s (fun u h' => Rep c.mt h' r u)
theorem Callee.sub {v first h h' spec} (C : Callee c v first h spec) (k : Sub h h') : Callee c v first h' spec := fun s q => C s (k.trans q)

/-- the call itself -/
theorem callWith_sound {v : Value} {first : List Value} {spec : List PV → Option PV} {e : Expr} {es : List Expr} {g : DE} {fs : List DE} {σ : Store} {pvs : List PV} {pv : PV} {pos : Pos} {s : Shared} (C : Callee c v first s.heap spec)
    (h : SoundEs c (e :: es) (g :: fs)) (e1 : seqE (g :: fs) σ = some pvs) (e2 : spec pvs = some pv) (I : EInv c σ s.heap) :
    Does c (callWith pos v first (backTo pos (starEach (e :: es) c.env)) []) s (fun u h' => Rep c.mt h' pv u) := by
  intro Q E k
  refine callWith_all (P := fun h' => Sub s.heap h') (fun h' q => (C { s with heap := h' } q).1) (evalArgs_list h (spliced_sound h e1 I _ E fun vs h1 tk1 r1 k1 => ⟨k1, ?_⟩))
  exact ((C { s with heap := h1, toks := tk1 } k1).2 pvs vs pv e2 r1).does _ E fun u h2 tk2 r2 k2 => k u h2 tk2 r2 (k1.trans k2)
theorem callWith_star {v : Value} {first : List Value} {spec : List PV → Option PV} (ok : c.Ok) (q : String) (pq p' : Pos) {σ : Store} {pvs : List PV} {pv : PV} {pos : Pos} {s : Shared} (C : Callee c v first s.heap spec)
    (e1 : σ q = some (.tup pvs)) (hl : pvs.length ≤ 1000) (e2 : spec pvs = some pv) (I : EInv c σ s.heap) (hd : (Str.ofString q == ("__debug__" : Str)) = false := by decide) (hd' : (Str.ofString q == ("__classdict__" : Str)) = false := by decide) :
    Does c (callWith pos v first (backTo pos (starEach [.Starred (.Name (Str.ofString q) pq) p'] c.env)) []) s (fun u h' => Rep c.mt h' pv u) := by
  intro Q E k
  refine callWith_all (P := fun h' => Sub s.heap h') (fun h' q => (C { s with heap := h' } q).1) ?_
  show wpAny c.M c.A (evalArgs v true [(true, do let v ← eval (.Name (Str.ofString q) pq) c.env; standAt pos; pure v)] []) _ E s
  refine evalArgs_star (wpAny_bind (SoundE.var ok q pq hd hd' σ _ s e1 I _ E fun u h1 tk1 r1 k1 => wpAny_bind (wpAny_standAt (wpAny_pure ?_))))
  obtain ⟨a, vs, rfl, ht, hr⟩ := r1.toTup
  refine ⟨a, vs, rfl, ht, by rw [← hr.1]; exact hl, fun h2 k2 => ⟨k1.trans k2, ?_⟩⟩
  exact ((C { s with heap := h2, toks := tk1 } (k1.trans k2)).2 pvs vs pv e2 (Reps.toL (hr.sub k2))).does _ E fun u h3 tk3 r3 k3 => k u h3 tk3 r3 (k1.trans (k2.trans k3))

/-! f(..) for a function of the module -/
theorem SoundE.callF (ok : c.Ok) {w : Value} {e : Expr} {es : List Expr} {f : DE} {fs : List DE} (x : Str) (np pos : Pos) (hx : c.env.kindOf x = some .globalImplicit) (hn : c.mg x = some w)
    {spec : List PV → Option PV} (C : Callee c w [] c.B spec) (h : SoundEs c (e :: es) (f :: fs)) (hd : (x == ("__debug__" : Str)) = false := by decide) :
    SoundE c (.Call (.Name x np) (e :: es) [] pos) (fun σ => (seqE (f :: fs) σ).bind spec) := by
  intro σ pv s e1 I Q E k
  rw [Option.bind_eq_some_iff] at e1
  obtain ⟨pvs, e1, e2⟩ := e1
  show wpAny c.M c.A (do callWith pos (← eval (.Name x np) c.env) [] (backTo pos (starEach (e :: es) c.env)) (backToKw pos (keywordEach [] c.env))) Q E s
  refine wpAny_bind (Name_function_global ok.hk hx (loadGlobal_global (ok.g.keeps I.base) hn ?_) hd)
  exact callWith_sound (C.sub I.base) h e1 e2 I Q E k
open Classical in
/-- v(..) for an object at a name -/
theorem SoundE.callO (ok : c.Ok) {w : Value} {e : Expr} {es : List Expr} {f : DE} {fs : List DE} (v : String) (np pos : Pos) {spec : List PV → Option PV} (C : Callee c w [] c.B spec) (h : SoundEs c (e :: es) (f :: fs))
    (hd : (Str.ofString v == ("__debug__" : Str)) = false := by decide) (hd' : (Str.ofString v == ("__classdict__" : Str)) = false := by decide) :
    SoundE c (.Call (.Name (Str.ofString v) np) (e :: es) [] pos) (fun σ => if σ v = some (.obj w) then (seqE (f :: fs) σ).bind spec else none) := by
  intro σ pv s e1 I Q E k
  dsimp only at e1
  split at e1
  · rename_i hv
    rw [Option.bind_eq_some_iff] at e1
    obtain ⟨pvs, e1, e2⟩ := e1
    show wpAny c.M c.A (do callWith pos (← eval (.Name (Str.ofString v) np) c.env) [] (backTo pos (starEach (e :: es) c.env)) (backToKw pos (keywordEach [] c.env))) Q E s
    refine wpAny_bind (SoundE.var ok v np hd hd' σ _ s hv I _ E fun u h1 tk1 r1 k1 => ?_)
    cases r1.toObj
    exact callWith_sound (s := { s with heap := h1, toks := tk1 }) (C.sub (I.base.trans k1)) h e1 e2 (I.sub k1) Q E fun u h2 tk2 r2 k2 => k u h2 tk2 r2 (k1.trans k2)
  · cases e1
open Classical in
theorem SoundE.callOstar (ok : c.Ok) {w : Value} (v q : String) (np pq p' pos : Pos) {spec : List PV → Option PV} (C : Callee c w [] c.B spec)
    (hd : (Str.ofString v == ("__debug__" : Str)) = false := by decide) (hd' : (Str.ofString v == ("__classdict__" : Str)) = false := by decide) (hq : (Str.ofString q == ("__debug__" : Str)) = false := by decide) (hq' : (Str.ofString q == ("__classdict__" : Str)) = false := by decide) :
    SoundE c (.Call (.Name (Str.ofString v) np) [.Starred (.Name (Str.ofString q) pq) p'] [] pos) (fun σ => if σ v = some (.obj w) then (match σ q with | some (.tup l) => if l.length ≤ 1000 then spec l else none | _ => none) else none) := by
  intro σ pv s e1 I Q E k
  dsimp only at e1
  split at e1
  · rename_i hv
    split at e1
    · rename_i l hl
      split at e1
      · rename_i hlen
        show wpAny c.M c.A (do callWith pos (← eval (.Name (Str.ofString v) np) c.env) [] (backTo pos (starEach [.Starred (.Name (Str.ofString q) pq) p'] c.env)) (backToKw pos (keywordEach [] c.env))) Q E s
        refine wpAny_bind (SoundE.var ok v np hd hd' σ _ s hv I _ E fun u h1 tk1 r1 k1 => ?_)
        cases r1.toObj
        exact callWith_star (s := { s with heap := h1, toks := tk1 }) ok q pq p' (C.sub (I.base.trans k1)) hl hlen e1 (I.sub k1) hq hq' Q E fun u h2 tk2 r2 k2 => k u h2 tk2 r2 (k1.trans k2)
      · cases e1
    · cases e1
  · cases e1

/-- what a name of an object gives for a call -/
def GetM (c : Cx) (x : Value) (name : Str) (f : Value) (first : List Value) : Prop := ∀ (pl : Sem Bool) (s : Shared) (Q : Value × List Value → Shared → Prop) (E : Value → Shared → Prop), Sub c.B s.heap → (∀ tk, Q (f, first) { s with toks := tk }) → wpAny c.M c.A (getMethod x name pl) Q E s
/-- .. and alone -/
def GetA (c : Cx) (x : Value) (name : Str) (P : Value → Heap → Prop) : Prop := ∀ (s : Shared), Sub c.B s.heap → Does c (getAttr x name true) s P
open Classical in
theorem SoundE.meth (ok : c.Ok) {w f : Value} {first : List Value} {e : Expr} {es : List Expr} {g : DE} {fs : List DE} (v : String) (name : Str) (np apos pos : Pos) {spec : List PV → Option PV} (G : GetM c w name f first) (C : Callee c f first c.B spec) (h : SoundEs c (e :: es) (g :: fs)) {pl : Sem Bool}
    (he : eval (.Call (.Attribute (.Name (Str.ofString v) np) name apos) (e :: es) [] pos) c.env = (do
      let ov ← eval (.Name (Str.ofString v) np) c.env
      standAt apos.atName
      let (f, first) ← holding [ov] (getMethod ov name pl)
      callWith pos f first (backTo pos (starEach (e :: es) c.env)) []) := by rfl)
    (hd : (Str.ofString v == ("__debug__" : Str)) = false := by decide) (hd' : (Str.ofString v == ("__classdict__" : Str)) = false := by decide) :
    SoundE c (.Call (.Attribute (.Name (Str.ofString v) np) name apos) (e :: es) [] pos) (fun σ => if σ v = some (.obj w) then (seqE (g :: fs) σ).bind spec else none) := by
  intro σ pv s e1 I Q E k
  dsimp only at e1
  split at e1
  · rename_i hv
    rw [Option.bind_eq_some_iff] at e1
    obtain ⟨pvs, e1, e2⟩ := e1
    refine MethodCall_ (pl := pl) (SoundE.var ok v np hd hd' σ _ s hv I _ E fun u h1 tk1 r1 k1 => ?_) he
    cases r1.toObj
    refine G pl { s with heap := h1, toks := tk1 } _ E (I.base.trans k1) fun tk2 => ?_
    exact callWith_sound (s := { s with heap := h1, toks := tk2 }) (C.sub (I.base.trans k1)) h e1 e2 (I.sub k1) Q E fun u h2 tk2 r2 k2 => k u h2 tk2 r2 (k1.trans k2)
  · cases e1
open Classical in
theorem SoundE.methStar (ok : c.Ok) {w : Value} (v q : String) (name : Str) (np apos pq p' pos : Pos) {spec : List PV → Option PV} (G : GetA c w name (fun f h' => Callee c f [] h' spec))
    (hbase : attributeBase (.Name (Str.ofString v) np) name c.env (eval (.Name (Str.ofString v) np) c.env) = eval (.Name (Str.ofString v) np) c.env := by rfl)
    (hd : (Str.ofString v == ("__debug__" : Str)) = false := by decide) (hd' : (Str.ofString v == ("__classdict__" : Str)) = false := by decide) (hq : (Str.ofString q == ("__debug__" : Str)) = false := by decide) (hq' : (Str.ofString q == ("__classdict__" : Str)) = false := by decide) :
    SoundE c (.Call (.Attribute (.Name (Str.ofString v) np) name apos) [.Starred (.Name (Str.ofString q) pq) p'] [] pos) (fun σ => if σ v = some (.obj w) then (match σ q with | some (.tup l) => if l.length ≤ 1000 then spec l else none | _ => none) else none) := by
  intro σ pv s e1 I Q E k
  dsimp only at e1
  split at e1
  · rename_i hv
    split at e1
    · rename_i l hl
      split at e1
      · rename_i hlen
        rw [arm_eval_Call, hbase]
        refine wpAny_bind (SoundE.var ok v np hd hd' σ _ s hv I _ E fun u h1 tk1 r1 k1 => ?_)
        cases r1.toObj
        refine wpAny_bind (wpAny_standAt ?_)
        unfold methodCall
        have hform : methodCallForm ([Expr.Starred (.Name (Str.ofString q) pq) p'].length + ([] : List Keyword).length) (backTo pos (starEach [.Starred (.Name (Str.ofString q) pq) p'] c.env)) (backToKw pos (keywordEach [] c.env)) = false := by rfl
        rw [hform]
        refine wpAny_bind (wpAny_holding ?_)
        show wpAny c.M c.A (do pure (← getAttr w name true, ([] : List Value))) _ E _
        refine wpAny_bind (G { s with heap := h1, toks := tk1 } (I.base.trans k1) _ E fun f h2 tk2 C k2 => wpAny_pure ?_)
        refine wpAny_bind (wpAny_of_eq (a := pos) rfl ?_)
        exact callWith_star (s := { s with heap := h2, toks := tk2 }) ok q pq p' C hl hlen e1 (I.sub (k1.trans k2)) hq hq' Q E fun u h3 tk3 r3 k3 => k u h3 tk3 r3 (k1.trans (k2.trans k3))
      · cases e1
    · cases e1
  · cases e1
open Classical in
theorem SoundE.attr (ok : c.Ok) {w : Value} {p : PV} (v : String) (name : Str) (np pos : Pos) (G : GetA c w name (fun u h' => Rep c.mt h' p u))
    (hbase : attributeBase (.Name (Str.ofString v) np) name c.env (eval (.Name (Str.ofString v) np) c.env) = eval (.Name (Str.ofString v) np) c.env := by rfl) (ht : ∀ a r, letTemporaryGo (.Name (Str.ofString v) np) a r = pure () := by intro _ _; rfl)
    (hd : (Str.ofString v == ("__debug__" : Str)) = false := by decide) (hd' : (Str.ofString v == ("__classdict__" : Str)) = false := by decide) :
    SoundE c (.Attribute (.Name (Str.ofString v) np) name pos) (fun σ => if σ v = some (.obj w) then some p else none) := by
  intro σ pv s e1 I Q E k
  dsimp only at e1
  split at e1
  · rename_i hv
    cases e1
    show wpAny c.M c.A (do
      let o ← attributeBase (.Name (Str.ofString v) np) name c.env (eval (.Name (Str.ofString v) np) c.env)
      standAt pos.atName
      let r ← holding [o] (getAttr o name true)
      letTemporaryGo (.Name (Str.ofString v) np) o r
      pure r) Q E s
    rw [hbase]
    refine wpAny_bind (SoundE.var ok v np hd hd' σ _ s hv I _ E fun u h1 tk1 r1 k1 => ?_)
    cases r1.toObj
    refine wpAny_bind (wpAny_standAt (wpAny_bind (wpAny_holding (G { s with heap := h1, toks := tk1 } (I.base.trans k1) _ E fun r h2 tk2 r2 k2 => wpAny_bind ?_))))
    rw [ht]
    exact wpAny_pure (wpAny_pure (k r h2 tk2 r2 (k1.trans k2)))
  · cases e1
end
end
section
open PySem PySem.Spec PySem.Calls PyProof.Rows PySem.W
set_option maxRecDepth 100000

section
variable {c : Cx} {K : Frag} {x C f : Addr} {ox od : Obj} {name : Str} {spec : List PV → Option PV}
theorem GetM.fn (X : K.In c.B) (I : InstAt c.B x ox C (some od)) (hga : findIn K (.ref C) "__getattribute__" = some (some (.builtin "object.__getattribute__"))) (hk : findIn K (.ref C) "__getattr__" = some none)
    (hf : findIn K (.ref C) name = some (some (.ref f))) (ht : typeIn K (.ref f) = some (.type "function")) (hs : shadowIn (some od) name = some false) : GetM c (.ref x) name (.ref f) [.ref x] := by
  intro pl s Q E k q
  exact method_fn (X.keeps k) (InstAt.sub I k) hga hk hf ht hs (q s.toks)
theorem getAttr_sm {p : Addr} {rest : List Value} {v : Value} {expr : Bool} {A : Around} {s : Shared} {Q : Value → Shared → Prop} {E : Value → Shared → Prop} (X : K.In s.heap) (I : InstAt s.heap x ox C (some od)) (hga : findIn K (.ref C) "__getattribute__" = some (some (.builtin "object.__getattribute__"))) (hk : findIn K (.ref C) "__getattr__" = some none)
    (hf : findObj K C (some od) name = some (.bind (.builtin "staticmethod.__get__") (.ref p))) (hp : recIn K p "staticmethod" = some (v :: rest)) (hh : handedIn v = true) (q : ∀ tk, Q v { s with toks := tk }) :
    wpAny c.M A (getAttr (.ref x) name expr) Q E s :=
  get_bind X I hga hf hk (wpAny_call (sm_get (s := { s with toks := s.toks + 1 }) X hp (handed_on hh (q _))))
theorem GetM.sm {p : Addr} {rest : List Value} {v : Value} (X : K.In c.B) (I : InstAt c.B x ox C (some od)) (hga : findIn K (.ref C) "__getattribute__" = some (some (.builtin "object.__getattribute__"))) (hk : findIn K (.ref C) "__getattr__" = some none)
    (hf0 : findIn K (.ref C) name = some (some (.ref p))) (ht : (typeIn K (.ref p)).any (fun t => t != .type "function" && t != .type "method_descriptor" && t != .type "wrapper_descriptor") = true)
    (hf : findObj K C (some od) name = some (.bind (.builtin "staticmethod.__get__") (.ref p))) (hp : recIn K p "staticmethod" = some (v :: rest)) (hh : handedIn v = true) : GetM c (.ref x) name v [] := by
  intro pl s Q E k q
  exact method_usual (X.keeps k) (InstAt.sub I k) hga hk hf0 ht (getAttr_sm (X.keeps k) (InstAt.sub I k) hga hk hf hp hh q)
theorem GetA.sm {p : Addr} {rest : List Value} {v : Value} (X : K.In c.B) (I : InstAt c.B x ox C (some od)) (hga : findIn K (.ref C) "__getattribute__" = some (some (.builtin "object.__getattribute__"))) (hk : findIn K (.ref C) "__getattr__" = some none)
    (hf : findObj K C (some od) name = some (.bind (.builtin "staticmethod.__get__") (.ref p))) (hp : recIn K p "staticmethod" = some (v :: rest)) (hh : handedIn v = true) (hc : Callee c v [] c.B spec) : GetA c (.ref x) name (fun f h' => Callee c f [] h' spec) := by
  intro s k Q E q
  exact getAttr_sm (X.keeps k) (InstAt.sub I k) hga hk hf hp hh fun tk => q v s.heap tk (hc.sub k) (Sub.refl _)
theorem GetA.val {v : Value} {p : PV} (X : K.In c.B) (I : InstAt c.B x ox C (some od)) (hga : findIn K (.ref C) "__getattribute__" = some (some (.builtin "object.__getattribute__")))
    (hf : findObj K C (some od) name = some (.value v)) (hh : handedIn v = true) (hr : Rep c.mt c.B p v) : GetA c (.ref x) name (fun u h' => Rep c.mt h' p u) := by
  intro s k Q E q
  exact get_value (X.keeps k) (InstAt.sub I k) hga hf hh (q v s.heap _ (hr.sub k) (Sub.refl _))

/-- a function that runs -/
def Runs (c : Cx) (f : Value) (first : List Value) (h : Heap) (spec : List PV → Option PV) : Prop := ∀ s : Shared, Sub h s.heap →
  ∀ pvs vs r, spec pvs = some r → RepL c.mt s.heap pvs vs → CodeDoes c c.A f ⟨first ++ vs, []⟩ s (fun u h' => Rep c.mt h' r u)
theorem Runs.callee {first : List Value} {h : Heap} (X : K.In h) (hk : keepIn K (.ref f) = true) (R : Runs c (.ref f) first h spec) : Callee c (.ref f) first h spec :=
  fun s k => ⟨keeps_of hk s.heap (X.keeps k), R s k⟩
theorem Runs.bound {q : Addr} {h : Heap} (X : K.In h) (hq : h.get? q = some (methodObj (.ref f) (.ref x))) (hf : fnIn K f = true) (R : Runs c (.ref f) [.ref x] h spec) : Callee c (.ref q) [] h spec := by
  intro s k
  refine ⟨let ⟨k', _, b⟩ := keeps_M (M := c.M) hf s.heap (⟨k _ _ hq, X.keeps k⟩ : MethP K q f (.ref x) s.heap); ⟨k', b⟩, fun pvs vs r e hr R' kk => ?_⟩
  exact method_call (k _ _ hq) (R s k pvs vs r e hr R' kk)
theorem Runs.inst {h : Heap} (X : K.In h) (I : InstAt h x ox C (some od)) (hd : ox.data = .plain) (hs : findIn K (.ref C) "__call__" = some (some (.ref f))) (hf : isFn K (.ref f) = true) (hfn : fnIn K f = true) (R : Runs c (.ref f) [.ref x] h spec) : Callee c (.ref x) [] h spec := by
  intro s k
  refine ⟨⟨_, kco_keeper (InstAt.sub I k) hd⟩, fun pvs vs r e hr R' kk => ?_⟩
  exact kco_code (X.keeps k) (InstAt.sub I k) hd hs hf hfn (R s k pvs vs r e hr R' kk)
theorem GetA.fn (X : K.In c.B) (I : InstAt c.B x ox C (some od)) (hga : findIn K (.ref C) "__getattribute__" = some (some (.builtin "object.__getattribute__"))) (hk : findIn K (.ref C) "__getattr__" = some none)
    (hf : findObj K C (some od) name = some (.bind (.builtin "function.__get__") (.ref f))) (ht : typeIn K (.ref f) = some (.type "function")) (hfn : fnIn K f = true) (R : Runs c (.ref f) [.ref x] c.B spec) : GetA c (.ref x) name (fun u h' => Callee c u [] h' spec) := by
  intro s k Q E q
  refine get_bind (X.keeps k) (InstAt.sub I k) hga hf hk (wpAny_call (fn_get (s := { s with toks := s.toks + 1 }) (X.keeps k) ht (handed_on rfl ?_)))
  have kk : Sub s.heap (s.heap.push (methodObj (.ref f) (.ref x))) := fun b o e => Heap.get?_push_of_some _ e
  exact q _ _ _ (Runs.bound (X.keeps (k.trans kk)) (Heap.get?_push_size _ rfl) hfn fun s' k' => R s' ((k.trans kk).trans k')) kk
end
end
section
open PySem PySem.Spec PySem.Calls PyProof.Rows PySem.W
set_option maxRecDepth 100000

/-! set( a tuple of two texts ) -/
section
variable {prog : Program} {w : World} {A : Around} {R : Result → Shared → Prop} {I S : Addr} {fp wr : List Addr} {n : Nat} {P : Nat → Value → Prop} {St : Nat → Heap → Prop} {s : Shared}
theorem setLoop_item (W : Walks prog w A.in1 I fp wr n P St) (hSf : S ∉ fp) {i : Nat} {k : Str} (hv : ∀ v, P i v → ∃ t, v = .str k t) (hi : i < n) (st : St i s.heap) {Sf : Str → Bool} {m : Nat}
    (hS : s.heap.SetOf (strKind prog w) S Sf m) (hroom : m + 1 < scanBound)
    (next : ∀ h' tk, St (i + 1) h' → h'.SetOf (strKind prog w) S (fun k' => Sf k' || decide (k' = k)) (if Sf k then m else m + 1) → (∀ b o, b ∉ S :: wr → s.heap.get? b = some o → h'.get? b = some o) →
      codeAny (model prog w) A (.builtin "set.update.loop" ⟨[.ref S, .ref I], []⟩) R { s with heap := h', toks := tk }) :
    codeAny (model prog w) A (.builtin "set.update.loop" ⟨[.ref S, .ref I], []⟩) R s := by
  have hSw : S ∉ wr := fun h => hSf (W.sub _ h)
  refine codeAny_builtin PyProof.Rows.F.entry_set_update_loop ?_
  rw [Around.under_plainId PyProof.Rows.F.plain_set_update_loop _]
  show wpAny _ A.in1 (pyNext (.ref I) >>= _) _ _ s
  refine wpAny_bind (W.item i s _ _ hi st fun v h1 tk1 hP st1 hk1 => ?_)
  obtain ⟨t, rfl⟩ := hv v hP
  have hS1 : h1.SetOf (strKind prog w) S Sf m := let ⟨o, es, ep, tb, ho, rest⟩ := hS; ⟨o, es, ep, tb, hk1 S o hSw ho, rest⟩
  show wpAny _ A.in1 (holding [Value.str k t] (setAdd S (.str k t)) >>= _) _ _ _
  refine wpAny_bind (wpAny_holding ?_)
  unfold setAdd
  refine wpAny_holding (wpAny_bind ((strKind prog w).pyHash (k := k) (strKind_is _ _ _ _) ?_))
  refine wpAny_setAddHashed_of (knd := strKind prog w) (s := { s with heap := h1, toks := tk1 + 1 }) (strKind_is _ _ _ _) rfl hS1 hroom fun h2 hsb hS2 => ?_
  refine wpAny_pure ⟨plainId_quiet PyProof.Rows.F.plain_set_update_loop _, next h2 _ (W.frame _ _ _ st1 fun b hb o e => ?_) hS2 fun b o hb e => ?_⟩
  · rw [hsb.2 b (fun q : b = S => hSf (q ▸ hb))]; exact e
  · rw [hsb.2 b (fun q : b = S => hb (q ▸ List.mem_cons_self))]
    exact hk1 b o (fun q => hb (List.mem_cons_of_mem _ q)) e
theorem setLoop_done (W : Walks prog w A.in1 I fp wr n P St) (st : St n s.heap)
    (next : ∀ h' tk, (∀ b o, b ∉ wr → s.heap.get? b = some o → h'.get? b = some o) → R (.ok (.ret .none)) { s with heap := h', toks := tk }) :
    codeAny (model prog w) A (.builtin "set.update.loop" ⟨[.ref S, .ref I], []⟩) R s := by
  refine codeAny_builtin PyProof.Rows.F.entry_set_update_loop ?_
  rw [Around.under_plainId PyProof.Rows.F.plain_set_update_loop _]
  show wpAny _ A.in1 (pyNext (.ref I) >>= _) _ _ s
  exact wpAny_bind (W.done s _ _ st fun h' tk hk => wpAny_pure (next h' tk hk))
end

abbrev newSet (led : Bool) : Obj := { cls := .type "set", dict := none, data := .set #[] 0 (.fresh 0 0 led) }
abbrev tupIt (T : Addr) : Obj := { cls := .type "tuple_iterator", data := .fields #[.ref T, .int 0 0] }
/-- the set's own __init__ -/
theorem setInit_two {prog : Program} {w : World} {A : Around} {s : Shared} {T : Addr} {a b : Str} {t u : Tok} {led : Bool} {E : Value → Shared → Prop} (hh : A.handled = none) (hT : s.heap.IsTuple T #[.str a t, .str b u]) {P : Heap → Prop}
    (h : ∀ h' : Heap, h'.SetOf (strKind prog w) s.heap.objs.size (fun k => (k == a) || (k == b)) (if a = b then 1 else 2) → (∀ d o, d < s.heap.objs.size → s.heap.get? d = some o → h'.get? d = some o) → P h') :
    wpAny (model prog w) A.in1 (Builtin.«set.__init__» ⟨[.ref s.heap.objs.size, .ref T], []⟩)
      (fun fin s' => ∃ r, fin = .done (.ret r) ∧ r = .none ∧ ∃ h' tk, s' = { s with heap := h', toks := tk } ∧ P h') E { s with heap := s.heap.push (newSet led) } := by
  obtain ⟨hp, g, d, tk, os⟩ := s
  have hS : (hp.push (newSet led)).get? hp.objs.size = some (newSet led) := Heap.get?_push_size _ rfl
  have hTy : Shared.TypeIs ⟨hp.push (newSet led), g, d, tk, os⟩ (.ref hp.objs.size) "set" := ⟨_, hS, rfl⟩
  obtain ⟨oT, hoT, hcT, nT, hdT⟩ := hT
  obtain ⟨ocls, odict, odata, oslots⟩ := oT
  simp only at hcT hdT
  subst hcT; subst hdT
  have hoT' : (hp.push (newSet led)).get? T = some { cls := .type "tuple", dict := odict, data := .seq #[.str a t, .str b u] nT, slots := oslots } := Heap.get?_push_of_some _ hoT
  have hs1 := F.sub_tuple_set
  have hs2 := F.sub_tuple_frozenset
  have hne : (Value.type "tuple" == Value.type "dict") = false := by decide
  have hT1 : (hp.push (newSet led)).IsTuple T #[.str a t, .str b u] := ⟨_, hoT', rfl, nT, rfl⟩
  unfold Builtin.«set.__init__» noKeywords Builtin.Frozenset.updateFrom
  generalize hPI : pyIter = PI
  wp_walk
  subst hPI
  refine wpAny_pyIter_tuple hT1 ?_
  refine wpAny_bind (wpAny_runValue ?_)
  have hlT : T < hp.objs.size := Heap.lt_size hoT
  have hh3 : A.in1.in1.handled = none := by simp [hh]
  have hsz : (hp.push (newSet led)).objs.size = hp.objs.size + 1 := Heap.size_push ..
  have hneI : T ≠ (hp.push (newSet led)).objs.size := by rw [hsz]; exact Nat.ne_of_lt (Nat.lt_succ_of_lt hlT)
  have hSf : hp.objs.size ∉ [(hp.push (newSet led)).objs.size, T] := by
    rw [hsz]; simp only [List.mem_cons, List.not_mem_nil, or_false, not_or]
    exact ⟨Nat.ne_of_lt (Nat.lt_succ_self _), Nat.ne_of_gt hlT⟩
  have W := Walks.tuple (prog := prog) (w := w) (A := A.in1.in1) hh3 (hp.push (newSet led)).objs.size T hneI #[.str a t, .str b u]
  have S0 : ((hp.push (newSet led)).push (tupIt T)).SetOf (strKind prog w) hp.objs.size (fun _ => false) 0 :=
    (setObjOf_fresh (knd := strKind prog w) led).setOf (Heap.get?_push_of_some _ hS) (by unfold scanBound; omega)
  refine setLoop_item W hSf (i := 0) (k := a) (fun v hv => ⟨t, by simpa using hv.symm⟩) (by simp) (s := ⟨_, g, d, tk, os⟩) ⟨⟨_, Heap.get?_push_size _ rfl, rfl, rfl⟩, hT1.push _⟩ S0 (by unfold scanBound; omega) fun h1 tk1 st1 S1 k1 => ?_
  refine setLoop_item W hSf (i := 1) (k := b) (fun v hv => ⟨u, by simpa using hv.symm⟩) (by simp) st1 S1 (by unfold scanBound; simp) fun h2 tk2 st2 S2 k2 => ?_
  refine setLoop_done W st2 fun h3 tk3 k3 => ?_
  show wpAny _ _ (pure _) _ _ _
  refine wpAny_pure ?_
  show wpAny _ _ (ret Value.none) _ _ _
  refine wpAny_pure ⟨_, rfl, rfl, h3, tk3, rfl, h h3 ?_ fun b' o hb e => ?_⟩
  · have e : h3.SetOf (strKind prog w) hp.objs.size (fun k' => (false || decide (k' = a)) || decide (k' = b)) (if (false || decide (b = a)) = true then (if false = true then 0 else 0 + 1) else (if false = true then 0 else 0 + 1) + 1) := by
      obtain ⟨o, es, ep, tb, ho, rest⟩ := S2
      refine ⟨o, es, ep, tb, k3 _ o ?_ ho, rest⟩
      rw [hsz]; simp
    refine SetOf_congr e (fun k => ?_) ?_
    · by_cases h1 : k = a <;> by_cases h2 : k = b <;> simp [h1, h2]
    · by_cases h1 : b = a
      · subst h1; simp
      · have : ¬ a = b := fun q => h1 q.symm
        simp [h1, this]
  · have n1 : b' ≠ hp.objs.size := Nat.ne_of_lt hb
    have n2 : b' ≠ (hp.push (newSet led)).objs.size := by rw [hsz]; exact Nat.ne_of_lt (Nat.lt_succ_of_lt hb)
    have q0 : ((hp.push (newSet led)).push (tupIt T)).get? b' = some o := Heap.get?_push_of_some _ (Heap.get?_push_of_some _ e)
    have n3 : b' ∉ [hp.objs.size, (hp.push (newSet led)).objs.size] := by
      simp only [List.mem_cons, List.not_mem_nil, or_false, not_or]; exact ⟨n1, n2⟩
    exact k3 b' o (fun q => n2 (List.mem_singleton.mp q)) (k2 b' o n3 (k1 b' o n3 q0))

theorem setNew_two {prog : Program} {w : World} {A : Around} {E : Value → Shared → Prop} {s : Shared} {T : Addr} {a b : Str} {t u : Tok} {Q : Value → Shared → Prop} (hh : A.handled = none) (hT : s.heap.IsTuple T #[.str a t, .str b u])
    (h : ∀ (h' : Heap) (tk : Nat), h'.SetOf (strKind prog w) s.heap.objs.size (fun k => (k == a) || (k == b)) (if a = b then 1 else 2) → (∀ d o, d < s.heap.objs.size → s.heap.get? d = some o → h'.get? d = some o) → Q (.ref s.heap.objs.size) { s with heap := h', toks := tk }) :
    wpAny (model prog w) A (call (.type "set") [.ref T]) Q E s := by
  obtain ⟨c, tl, hmro⟩ := F.called_set.mro
  have hmade := F.called_set.made
  have hsub := F.called_set.sub
  refine wpAny_call (codeAny_of_tree ?_)
  show wpAny _ _ (callAny (.type "set") _) _ _ _
  refine wpAny_pure ⟨Code.quiet_builtin _ (by decide +kernel), codeAny_builtin F.entry_type_call ?_⟩
  rw [Around.under_plain (weight_type_call_type "set" [.ref T] []) rfl]
  have h1 := F.called_set.notType
  have h2 := F.called_set.canCreate
  have hct := F.typeCall_set_1 (.ref T)
  repeat (any_goals (first | assumption | wp_step))
  refine codeAny_mono (code_set_new_1 (.ref T) (E := E) (Q₁ := fun obj s₁ => ∃ led : Bool, obj = .ref s.heap.objs.size ∧ s₁ = { s with heap := s.heap.push (newSet led) }) fun led => ⟨led, rfl, rfl⟩) fun r s₁ hr => ?_
  cases r with
  | error e => exact hr
  | ok fl =>
    cases fl with
    | ret obj =>
      obtain ⟨led, rfl, rfl⟩ := hr
      have hS : (s.heap.push (newSet led)).get? s.heap.objs.size = some (newSet led) := Heap.get?_push_size _ rfl
      have hTy : Shared.TypeIs { s with heap := s.heap.push (newSet led) } (.ref s.heap.objs.size) "set" := ⟨_, hS, rfl⟩
      have hli := F.called_set.init.lookup
      have hbi := F.called_set.init.bind (.ref s.heap.objs.size)
      repeat (any_goals (first | assumption | wp_step))
      refine codeAny_mono (codeAny_call_builtin (R := wants (fun r s₂ => r = .none ∧ ∃ h' tk, s₂ = { s with heap := h', toks := tk } ∧
          (h'.SetOf (strKind prog w) s.heap.objs.size (fun k => (k == a) || (k == b)) (if a = b then 1 else 2) ∧ (∀ d o, d < s.heap.objs.size → s.heap.get? d = some o → h'.get? d = some o))) E) F.called_set.init.plain F.entry_set_init (check_set_init_1 hTy ?_)) fun r₂ s₂ hr₂ => ?_
      · have q := setInit_two (prog := prog) (w := w) (A := A.in1) (led := led) (E := E) (P := fun h' => h'.SetOf (strKind prog w) s.heap.objs.size (fun k => (k == a) || (k == b)) (if a = b then 1 else 2) ∧ (∀ d o, d < s.heap.objs.size → s.heap.get? d = some o → h'.get? d = some o)) (by simp [hh]) hT (fun h' x y => ⟨x, y⟩)
        refine wpAny_mono q (fun fin s' hf => ?_) fun _ _ z => z
        obtain ⟨r, rfl, hf⟩ := hf
        exact hf
      · cases r₂ with
        | error e => exact hr₂
        | ok fl₂ =>
          cases fl₂ with
          | ret r =>
            obtain ⟨rfl, h', tk, rfl, hS', hk'⟩ := hr₂
            repeat (any_goals (first | assumption | wp_step))
            exact h _ _ hS' hk'
          | _ => exact hr₂.elim
    | _ => exact hr.elim
end
section
open PySem PySem.Spec PySem.Calls PyProof.Rows PySem.W
set_option maxRecDepth 100000

section
variable {c : Cx}
/-- all of a tuple of texts -/
def allV : List PV → Option PV
  | [.tup l] => (strsOf l).bind fun xs => if xs.all (fun x => decide (x.length < 1000)) = true then some (.bool (xs.all fun x => (x.length : Int) != 0)) else none
  | _ => none
/-- the loop of all() over texts: their truth draws -/
theorem allLoop {R : Result → Shared → Prop} {I : Addr} {fp wr : List Addr} {St : Nat → Heap → Prop} (q : List (Str × Tok)) (hq : ∀ p ∈ q, p.1.length < 1000) {A : Around}
    (W : Walks c.prog c.w A.in1 I fp wr q.length (fun i v => (strValues q).toArray[i]? = some v) St) : ∀ (k i : Nat) (s : Shared), q.length - i = k → i ≤ q.length → St i s.heap →
    (∀ h' tk, (∀ b o, b ∉ wr → s.heap.get? b = some o → h'.get? b = some o) → R (.ok (.ret (.bool ((q.drop i).all fun p => (p.1.length : Int) != 0)))) { s with heap := h', toks := tk }) →
    codeAny c.M A (.builtin "all.loop" ⟨[.ref I], []⟩) R s := by
  intro k
  induction k with
  | zero =>
    intro i s hk hi hst hR
    have hin : i = q.length := by omega
    subst hin
    refine codeAny_builtin PySem.F.entry_all_loop ?_
    rw [Around.under_plainId PySem.F.plain_all_loop _]
    show wpAny _ A.in1 (pyNext (.ref I) >>= _) _ _ s
    refine wpAny_bind (W.done s _ _ hst fun h' tk hk' => wpAny_bind (wpAny_rule (wpAny_pure ?_)))
    have := hR h' tk hk'
    rw [List.drop_length] at this
    exact this
  | succ k ih =>
    intro i s hk hi hst hR
    have hlt : i < q.length := by omega
    refine codeAny_builtin PySem.F.entry_all_loop ?_
    rw [Around.under_plainId PySem.F.plain_all_loop _]
    show wpAny _ A.in1 (pyNext (.ref I) >>= _) _ _ s
    refine wpAny_bind (W.item i s _ _ hlt hst fun v h' tk hP hst' hk' => ?_)
    have hv : v = .str q[i].1 q[i].2 := by
      simp only [strValues, List.getElem?_toArray, List.getElem?_map, Option.map_eq_some_iff] at hP
      obtain ⟨p, hp, rfl⟩ := hP
      rw [List.getElem?_eq_getElem hlt] at hp
      cases hp; rfl
    subst hv
    refine wpAny_bind (wpAny_holding (P.truthy_str (by have := hq q[i] (List.getElem_mem hlt); omega) ?_))
    refine wpAny_bind (wpAny_letGo ?_)
    cases hb : ((q[i].1.length : Int) != 0) with
    | true =>
      simp only [if_true]
      refine wpAny_pure ⟨plainId_quiet PySem.F.plain_all_loop _, ih (i + 1) _ (by omega) hlt hst' fun h'' tk'' hk'' => ?_⟩
      have := hR h'' tk'' fun b o hbw e => hk'' b o hbw (hk' b o hbw e)
      rw [List.drop_eq_getElem_cons hlt, List.all_cons, hb, Bool.true_and] at this
      exact this
    | false =>
      simp only [Bool.false_eq_true, if_false]
      refine wpAny_bind (wpAny_rule (wpAny_pure ?_))
      have := hR h' (tk + 1 + 1) hk'
      rw [List.drop_eq_getElem_cons hlt, List.all_cons, hb, Bool.false_and] at this
      exact this
theorem allV_ok (ok : c.Ok) : BiOk c "all" allV := by
  intro s pvs vs r e h Q E k
  unfold allV at e
  split at e
  · cases h with
    | cons a b =>
      cases b
      obtain ⟨t, vs, rfl, hp, hr⟩ := a.toTup
      simp only [Option.bind_eq_some_iff] at e
      obtain ⟨xs, e, e2⟩ := e
      split at e2
      · rename_i hlen; cases e2
        obtain ⟨q, rfl, rfl⟩ := strs_are e hr
        have hlt : t < s.heap.objs.size := by obtain ⟨_, e, _⟩ := hp; exact Heap.lt_size e
        have hql : ∀ p ∈ q, p.1.length < 1000 := fun p hp => by
          have := List.all_eq_true.mp hlen p.1 (List.mem_map_of_mem hp)
          simpa using this
        refine PySem.call_function_tree PySem.F.kind_all PySem.F.plain_all PySem.F.entry_all (PySem.F.args_all1 _) ?_
        unfold Builtin.«all»
        refine wpAny_bind (m := oneArg "all" _) (wpAny_pure ?_)
        refine wpAny_bind (wpAny_pyIter_tuple hp ?_)
        have W := Walks.tuple (prog := c.prog) (w := c.w) (A := c.A.in1) ok.hh s.heap.objs.size t (Nat.ne_of_lt hlt) (strValues q).toArray
        have hsz : (strValues q).toArray.size = q.length := by simp [strValues]
        rw [hsz] at W
        refine wpAny_pure ⟨plainId_quiet PySem.F.plain_all_loop _, allLoop q hql W q.length 0 _ rfl (Nat.zero_le _) ⟨⟨_, Heap.get?_push_size _ rfl, rfl, rfl⟩, Heap.IsTuple.at hp fun o e => Heap.get?_push_of_some _ e⟩ fun h' tk hk => ?_⟩
        have e3 : ((q.drop 0).all fun p => (p.1.length : Int) != 0) = (q.map (·.1)).all fun x => (x.length : Int) != 0 := by simp [List.all_map]; rfl
        rw [e3]
        exact k _ h' tk (.imm (.bool _)) fun b o e => hk b o (fun hm => by rcases List.mem_singleton.mp hm with rfl; exact Nat.lt_irrefl _ (Heap.lt_size e)) (Heap.get?_push_of_some _ e)
      · cases e2
  · cases e

/-- len(set(x)) for a tuple of two texts -/
theorem SoundE.lenSet (ok : c.Ok) (q : String) (np np' pq pos pos' : Pos) (hx : c.env.kindOf (Str.ofString "len") = some .globalImplicit) (hn : c.mg (Str.ofString "len") = none) (hx' : c.env.kindOf (Str.ofString "set") = some .globalImplicit) (hn' : c.mg (Str.ofString "set") = none)
    (hd : (Str.ofString q == ("__debug__" : Str)) = false := by decide) (hd' : (Str.ofString q == ("__classdict__" : Str)) = false := by decide)
    (hst : starEach [.Call (.Name (Str.ofString "set") np') [.Name (Str.ofString q) pq] [] pos'] c.env = [(false, eval (.Call (.Name (Str.ofString "set") np') [.Name (Str.ofString q) pq] [] pos') c.env)] := by rfl)
    (hst' : starEach [.Name (Str.ofString q) pq] c.env = [(false, eval (.Name (Str.ofString q) pq) c.env)] := by rfl) :
    SoundE c (.Call (.Name (Str.ofString "len") np) [.Call (.Name (Str.ofString "set") np') [.Name (Str.ofString q) pq] [] pos'] [] pos) (fun σ => match σ q with
      | some (.tup [.str a, .str b]) => some (.int (if a = b then 1 else 2))
      | _ => none) := by
  intro σ pv s e I Q E k
  dsimp only at e
  split at e
  · rename_i a b hq; cases e
    show wpAny c.M c.A (do callWith pos (← eval (.Name (Str.ofString "len") np) c.env) [] (backTo pos (starEach [.Call (.Name (Str.ofString "set") np') [.Name (Str.ofString q) pq] [] pos'] c.env)) (backToKw pos (keywordEach [] c.env))) Q E s
    rw [hst]
    refine wpAny_bind (Name_function_global ok.hk hx (loadGlobal_builtin (ok.g.keeps I.base) hn (ok.b.keeps I.base) ((ok.bt (Str.ofString "len") (by decide)).trans (show bootBuiltins (Str.ofString "len") = some (.builtin "len") by rfl)) ?_) (by decide))
    refine Calls.callWith_builtin (by rfl) (Calls.evalArgs_plain ?_)
    refine Calls.spliced_cons ?_
    show wpAny c.M c.A (do callWith pos' (← eval (.Name (Str.ofString "set") np') c.env) [] (backTo pos' (starEach [.Name (Str.ofString q) pq] c.env)) (backToKw pos' (keywordEach [] c.env))) _ E s
    rw [hst']
    refine wpAny_bind (callee_type ok I (show bootBuiltins (Str.ofString "set") = some (.type "set") by rfl) hx' hn' (by decide) (by decide) ?_)
    refine PySem.callWith_type1 (SoundE.var ok q pq hd hd' σ _ s hq I _ E fun v h1 tk1 r1 k1 => ?_)
    obtain ⟨T, vs, rfl, hT, hr⟩ := r1.toTup
    obtain ⟨va, vb, rfl⟩ : ∃ va vb, vs = [va, vb] := by
      match vs, hr.1 with
      | [va, vb], _ => exact ⟨va, vb, rfl⟩
    obtain ⟨t, rfl⟩ := (Rep.imm (hr.2 0 _ va rfl rfl)).toStr
    obtain ⟨u, rfl⟩ := (Rep.imm (hr.2 1 _ vb rfl rfl)).toStr
    refine setNew_two ok.hh hT fun h2 tk2 hS hk => ?_
    show wpAny c.M c.A (pure []) _ E _
    refine wpAny_pure ?_
    obtain ⟨o, es, ep, tb, ho, hex, hd, _, _, _, hf, hn⟩ := hS
    refine call_len_set ho hex hd hf (by rw [hn]; split <;> decide) ?_
    rw [hn]
    have e1 : (((if a = b then 1 else 2 : Nat)) : Int) = if a = b then 1 else 2 := by split <;> rfl
    rw [e1]
    exact k _ h2 _ (.imm (.int ..)) (k1.trans fun d o e => hk d o (Heap.lt_size e) e)
  · cases e

/-- try: a body that raises nothing -/
theorem SoundS.try {body : List Stmt} {h0 : ExceptHandler} {hs : List ExceptHandler} {f : DS} (hb : SoundSs c body f) (pos : Pos) :
    SoundS c (.Try body (h0 :: hs) [] [] pos) f := by
  intro h₀ σ σ' fl s Q E e I k
  refine wpAny_Try_except (hb h₀ σ σ' fl s _ _ e I fun fw h' tk I' r' => ?_)
  cases r' with
  | next => exact wpAny_execs_nil (k _ h' tk I' .next)
  | brk => exact k _ h' tk I' .brk
  | cont => exact k _ h' tk I' .cont
  | ret r => exact k _ h' tk I' (.ret r)
end
end
section
open PySem PySem.Spec PySem.Calls PyProof.Rows PySem.W
set_option maxRecDepth 100000

/-! a dict keyed by pairs of texts, that is only read -/
abbrev TabK (c : Cx) : HeapKind c.prog c.w (List Str) := tupleKind (PySem.strKind c.prog c.w)
section
variable {c : Cx}
theorem tab_sub {h h' : Heap} {d : Addr} {xs : List (List Str × Addr × Value)} (T : h.DictOfH (TabK c) d xs) (k : Sub h h') : h'.DictOfH (TabK c) d xs := by
  obtain ⟨o, es, ep, ho, a, b, e, hk, n⟩ := T
  refine ⟨o, es, ep, k _ _ ho, a, b, e, fun x hx => ?_, n⟩
  obtain ⟨o', it, n', ho', r⟩ := hk x hx
  exact ⟨o', it, n', k _ _ ho', r⟩
theorem key_of {h : Heap} {a b : Str} {v : Value} (r : Rep c.mt h (.tup [.str a, .str b]) v) : ∃ t, v = .ref t ∧ (TabK c).is h [a, b] t := by
  obtain ⟨t, vs, rfl, ⟨o, ho, hc, n, hd⟩, hr⟩ := r.toTup
  obtain ⟨va, vb, rfl⟩ : ∃ va vb, vs = [va, vb] := by
    match vs, hr.1 with
    | [va, vb], _ => exact ⟨va, vb, rfl⟩
  obtain ⟨t1, rfl⟩ := (Rep.imm (hr.2 0 _ va rfl rfl)).toStr
  obtain ⟨t2, rfl⟩ := (Rep.imm (hr.2 1 _ vb rfl rfl)).toStr
  exact ⟨t, rfl, o, _, n, ho, hc, hd, .cons (strKind_is _ _ _ _) (.cons (strKind_is _ _ _ _) .nil)⟩

/-- what the dict says -/
structure Tab (c : Cx) (h : Heap) (d : Addr) (f : Str → Str → Bool) : Prop where
  no : (d == sysModules) = false
  at_ : ∃ xs, h.DictOfH (TabK c) d xs ∧ (∀ a b, (atKey xs [a, b]).isSome = f a b) ∧ ∀ k p, atKey xs k = some p → ∃ t, p.2 = .int 3 t
theorem Tab.sub {h h' : Heap} {d f} (T : Tab c h d f) (k : Sub h h') : Tab c h' d f := let ⟨a, xs, b, e, g⟩ := T; ⟨a, xs, tab_sub b k, e, g⟩
open Classical in
theorem SoundT.notinTab (ok : c.Ok) (hu : c.A.units + 1 < cLine) {d : Addr} {tab : Str → Str → Bool} (T : Tab c c.B d tab) {l : Expr} {f : DE} (hl : SoundE c l f) (v : String) (pv pos : Pos)
    (hm : behindInMarks .NotIn (.Name (Str.ofString v) pv) = false := by with_unfolding_all rfl) (hd : (Str.ofString v == ("__debug__" : Str)) = false := by decide) (hd' : (Str.ofString v == ("__classdict__" : Str)) = false := by decide) :
    SoundT c (.Compare l [.NotIn] [.Name (Str.ofString v) pv] pos) (fun σ => (f σ).bind fun a => match a with
      | .tup [.str a, .str b] => if σ v = some (.obj (.ref d)) then some (!tab a b) else none
      | _ => none) := by
  intro σ r s e I Q E k
  rw [Option.bind_eq_some_iff] at e
  obtain ⟨p, e1, e2⟩ := e
  split at e2
  · rename_i a b
    split at e2
    · rename_i hv; cases e2
      refine wpAny_isTrue_Compare1 (hl σ _ s e1 I _ E fun va h1 tk1 r1 k1 => ?_) hm
      refine SoundE.var ok v pv hd hd' σ _ { s with heap := h1, toks := tk1 } hv (I.sub k1) _ E fun vb h2 tk2 r2 k2 => ?_
      cases r2.toObj
      obtain ⟨t, rfl, hk⟩ := key_of (r1.sub k2)
      obtain ⟨no, xs, hD, hf, _⟩ := T
      refine wpAny_notIn_heap (knd := TabK c) (s := { s with heap := h2, toks := tk2 }) (tupleKind_room_in1 hu) hk no (tab_sub hD (I.base.trans (k1.trans k2))) ?_
      rw [hf a b]
      exact wpAny_truthy_bool (k _ h2 _ rfl (k1.trans k2))
    · cases e2
  · cases e2
open Classical in
theorem SoundE.itemTab (ok : c.Ok) (hu : c.A.units + 1 < cLine) {d : Addr} {tab : Str → Str → Bool} (T : Tab c c.B d tab) {i : Expr} {f : DE} (hi : SoundE c i f) (v : String) (pv pos : Pos)
    (hs : ∀ a b, subscripted i false a b = operate [a, b] (getItem a b) := by intro _ _; rfl) (ht : ∀ a r, letTemporaryGo (.Name (Str.ofString v) pv) a r = pure () := by intro _ _; rfl)
    (hd : (Str.ofString v == ("__debug__" : Str)) = false := by decide) (hd' : (Str.ofString v == ("__classdict__" : Str)) = false := by decide) :
    SoundE c (.Subscript (.Name (Str.ofString v) pv) i pos) (fun σ => if σ v = some (.obj (.ref d)) then (f σ).bind fun a => match a with
      | .tup [.str a, .str b] => if tab a b = true then some (.int 3) else none
      | _ => none else none) := by
  intro σ r s e I Q E k
  dsimp only at e
  split at e
  · rename_i hv
    rw [Option.bind_eq_some_iff] at e
    obtain ⟨p, e1, e2⟩ := e
    split at e2
    · rename_i a b
      split at e2
      · rename_i htab; cases e2
        refine Subscript_ (SoundE.var ok v pv hd hd' σ _ s hv I _ E fun va h1 tk1 r1 k1 => ?_)
        cases r1.toObj
        refine hi σ _ { s with heap := h1, toks := tk1 } e1 (I.sub k1) _ E fun vb h2 tk2 r2 k2 => ?_
        obtain ⟨t, rfl, hk⟩ := key_of r2
        obtain ⟨no, xs, hD, hf, hv3⟩ := T
        have hD2 := tab_sub hD (I.base.trans (k1.trans k2))
        obtain ⟨p, hp⟩ := Option.isSome_iff_exists.mp ((hf a b).trans htab)
        obtain ⟨t3, h3⟩ := hv3 _ _ hp
        refine subscriptTail_builtin (s := { s with heap := h2, toks := tk2 }) hD2.typeIs slot_dict_getitem.lookup (wpAny_getItem_heap (knd := TabK c) (tupleKind_room_in1 hu) hk hD2 hp ?_) (hs _ _) (ht _)
        rw [h3]
        exact k _ h2 _ (.imm (.int ..)) (k1.trans k2)
      · cases e2
    · cases e2
  · cases e
end
end
section
open PySem PySem.Spec PySem.Calls PyProof.Rows PySem.W
set_option maxRecDepth 100000

section
variable {c : Cx}
abbrev Ent := List Str × Addr × Value
theorem has_stored {xs : List Ent} {k k' : List Str} {a : Addr} {v : Value} : (∃ x ∈ storedH xs k a v, x.1 = k') ↔ (k' = k ∨ ∃ x ∈ xs, x.1 = k') := by
  unfold storedH
  split
  · rename_i h
    have hk : ∃ x ∈ xs, x.1 = k := by
      unfold atKey at h
      rw [Option.isSome_map, List.find?_isSome] at h
      obtain ⟨x, hx, e⟩ := h
      exact ⟨x, hx, by simpa using e⟩
    constructor
    · rintro ⟨x, hx, e⟩
      obtain ⟨y, hy, rfl⟩ := List.mem_map.mp hx
      refine .inr ⟨y, hy, ?_⟩
      rw [← e]; unfold putAt; split <;> rfl
    · rintro (e | ⟨y, hy, e⟩)
      · subst e
        obtain ⟨y, hy, e⟩ := hk
        exact ⟨putAt k' v y, List.mem_map_of_mem hy, by rw [← e]; unfold putAt; split <;> rfl⟩
      · exact ⟨putAt k v y, List.mem_map_of_mem hy, by rw [← e]; unfold putAt; split <;> rfl⟩
  · constructor
    · rintro ⟨x, hx, e⟩
      rcases List.mem_append.mp hx with hx | hx
      · exact .inr ⟨x, hx, e⟩
      · rw [List.mem_singleton.mp hx] at e; exact .inl e.symm
    · rintro (e | ⟨y, hy, e⟩)
      · exact ⟨_, List.mem_append_right _ (List.mem_singleton.mpr rfl), e.symm⟩
      · exact ⟨y, List.mem_append_left _ hy, e⟩
theorem three_stored {xs : List Ent} {k : List Str} {a : Addr} {v : Value} (h : ∀ x ∈ xs, ∃ t, x.2.2 = .int 3 t) (hv : ∃ t, v = .int 3 t) : ∀ x ∈ storedH xs k a v, ∃ t, x.2.2 = .int 3 t := by
  unfold storedH
  split
  · intro x hx
    obtain ⟨y, hy, rfl⟩ := List.mem_map.mp hx
    unfold putAt; split
    · exact hv
    · exact h y hy
  · intro x hx
    rcases List.mem_append.mp hx with hx | hx
    · exact h x hx
    · rw [List.mem_singleton.mp hx]; exact hv
theorem length_stored {xs : List Ent} {k : List Str} {a : Addr} {v : Value} : (storedH xs k a v).length ≤ xs.length + 1 := by
  unfold storedH; split <;> simp
theorem at_has {xs : List Ent} {k : List Str} : (atKey xs k).isSome = true ↔ ∃ x ∈ xs, x.1 = k := by
  unfold atKey
  rw [Option.isSome_map, List.find?_isSome]
  simp
theorem at_three {xs : List Ent} {k : List Str} {p : Addr × Value} (h : ∀ x ∈ xs, ∃ t, x.2.2 = .int 3 t) (e : atKey xs k = some p) : ∃ t, p.2 = .int 3 t := by
  unfold atKey at e
  rw [Option.map_eq_some_iff] at e
  obtain ⟨x, hx, rfl⟩ := e
  exact h x (List.mem_of_find?_eq_some hx)

/-- adjwt[key] = 3 -/
theorem tab_set (ok : c.Ok) (hu : c.A.units + 1 < cLine) {h₀ : Heap} {σ : Store} {f : String → Value} {s : Shared} (I : InvF c h₀ σ f s.heap) {d : Addr} {xs : List Ent} (hD : s.heap.DictOfH (TabK c) d xs) (hl : xs.length < 1000) (h0 : h₀.get? d = none) (hL : d ≠ c.env.locals)
    {v : String} (hv : σ v = some (.obj (.ref d))) {i : Expr} {g : DE} (hi : SoundE c i g) {a b : Str} (hg : g σ = some (.tup [.str a, .str b])) (k : Nat) (pc pv pi pos : Pos)
    (hs : swapsWith (.Constant (.int 3) k pc) (some (.Subscript (.Name (Str.ofString v) pv) i pi)) pos.line c.env = pure false)
    (hd : (Str.ofString v == ("__debug__" : Str)) = false) (hd' : (Str.ofString v == ("__classdict__" : Str)) = false)
    {Q : Flow → Shared → Prop} {E : Value → Shared → Prop}
    (q : ∀ h' tk xs', InvF c h₀ σ f h' → h'.DictOfH (TabK c) d xs' → xs'.length ≤ xs.length + 1 → (∀ k', (∃ x ∈ xs', x.1 = k') ↔ (k' = [a, b] ∨ ∃ x ∈ xs, x.1 = k')) → ((∀ x ∈ xs, ∃ t, x.2.2 = .int 3 t) → ∀ x ∈ xs', ∃ t, x.2.2 = .int 3 t) →
      (∀ e o, e ≠ d → s.heap.get? e = some o → h'.get? e = some o) → Q .next { s with heap := h', toks := tk }) :
    wpAny c.M c.A (exec (.Assign [.Subscript (.Name (Str.ofString v) pv) i pi] (.Constant (.int 3) k pc) pos) c.env) Q E s := by
  refine wpAny_Assign_Subscript (SoundE.int 3 k pc σ _ s rfl I.toE _ E fun vv h1 tk1 r1 k1 => ?_) hs
  obtain ⟨t, rfl⟩ := r1.toInt
  have I1 := I.sub k1
  refine SoundE.var ok v pv hd hd' σ _ { s with heap := h1, toks := tk1 } hv I1.toE _ E fun va h2 tk2 r2 k2 => ?_
  cases r2.toObj
  have I2 := I1.sub k2
  refine hi σ _ { s with heap := h2, toks := tk2 } hg I2.toE _ E fun vb h3 tk3 r3 k3 => ?_
  have I3 := I2.sub k3
  obtain ⟨ta, rfl, hk⟩ := key_of r3
  have kk : Sub s.heap h3 := k1.trans (k2.trans k3)
  have hD3 := tab_sub hD kk
  refine wpAny_setItem_heap (hsz := by have : (1000 : Nat) ≤ sizeLine := by decide +kernel
                                       omega) (knd := TabK c) (s := { s with heap := h3, toks := tk3 }) (tupleKind_room_in1 hu) hk hD3 fun h4 hD4 hs4 => ?_
  refine q h4 _ _ (I3.but (fun e o hne he => hs4.extBut e o hne he) ?_ h0 hL) hD4 length_stored (fun k' => has_stored) (fun h3' => three_stored h3' ⟨_, rfl⟩) fun e o hne he => hs4.extBut e o hne (kk _ _ he)
  obtain ⟨o, es, ep, ho, _, hdat, _⟩ := hD3
  exact ⟨o, es, ep, ho, hdat⟩
end
end
section
open PySem PySem.Spec PySem.Calls PyProof.Rows PySem.W
set_option maxRecDepth 100000

/-! constants of the module -/
def listO (f : Value → Option PV) : List Value → Option (List PV)
  | [] => some []
  | v :: r => (f v).bind fun p => (listO f r).map (p :: ·)
def pvIn (K : Frag) : Nat → Value → Option PV
  | _, .str s _ => some (.str s)
  | _, .int i _ => some (.int i)
  | n + 1, .ref a => match K.lookup a with
    | some ⟨c, _, .seq items _, _⟩ => if c == .type "tuple" then (listO (pvIn K n) items.toList).map .tup else none
    | _ => none
  | _, _ => none
theorem pvIn_rep {K : Frag} {h : Heap} (X : K.In h) {mt : Bool} : ∀ (n : Nat) (v : Value) (p : PV), pvIn K n v = some p → RepI mt h p v := by
  intro n
  induction n with
  | zero =>
    intro v p e
    cases v <;> simp only [pvIn, Option.some.injEq, reduceCtorEq] at e
    · subst e; exact .int _ _
    · subst e; exact .str _ _
  | succ n ih =>
    intro v p e
    have lst : ∀ (vs : List Value) (ps : List PV), listO (pvIn K n) vs = some ps → Reps mt h ps vs := by
      intro vs
      induction vs with
      | nil => intro ps e; cases e; exact ⟨rfl, fun i p v a => by simp at a⟩
      | cons v vs ihl =>
        intro ps e
        simp only [listO, Option.bind_eq_some_iff, Option.map_eq_some_iff] at e
        obtain ⟨q, e1, qs, e2, rfl⟩ := e
        have r := ihl qs e2
        refine ⟨by simp [r.1], fun i p v a b => ?_⟩
        cases i with
        | zero => simp at a b; subst a b; exact ih _ _ e1
        | succ i => simp at a b; exact r.2 i p v a b
    cases v
    case ref a =>
      simp only [pvIn] at e
      split at e
      · rename_i c d items ep sl ho
        split at e
        · rename_i hc
          rw [Option.map_eq_some_iff] at e
          obtain ⟨ps, e, rfl⟩ := e
          have r := lst _ _ e
          refine .tup (vs := items.toList) ⟨_, X _ _ ho, by simpa using hc, _, by simp; rfl⟩ r.1 r.2
        · cases e
      · cases e
    case str s t => simp only [pvIn, Option.some.injEq] at e; subst e; exact .str _ _
    case int s t => simp only [pvIn, Option.some.injEq] at e; subst e; exact .int _ _
    all_goals simp [pvIn] at e

section
variable {c : Cx}
theorem InvF.forget {h₀ h : Heap} {σ σ' : Store} {f : String → Value} (I : InvF c h₀ σ' f h) (k : ∀ x pv, σ x = some pv → σ' x = some pv) : InvF c h₀ σ f h where
  base := I.base
  keep := I.keep
  ns := I.ns
  freshL := I.freshL
  cells := I.cells
  apart := I.apart
  vars := fun x pv e => I.vars x pv (k x pv e)
  own := fun x y l l' n e e' => I.own x y l l' n (k _ _ e) (k _ _ e')
  fresh := fun x l a e e' => I.fresh x l a (k _ _ e) e'
  flat := fun x pv e => I.flat x pv (k _ _ e)
theorem go_tupleiter {prog : Program} {w : World} {A : Around} {E : Value → Shared → Prop} {s : Shared} {elts : List Expr} {x1} {pos : Pos} {I l T : Addr} {i : Nat} {Q : Unit → Shared → Prop} (hit : s.heap.IsTupleIter I l i) (hQ : Q () s) :
    wpAny (model prog w) A (letOwnedTupleGo (.Tuple elts x1 pos) (.ref I) (.ref T)) Q E s := by
  obtain ⟨o, ho, hc, hd⟩ := hit
  unfold letOwnedTupleGo
  refine wpAny_bind (wpAny_load ho ?_)
  rw [hc, hd]
  dsimp only
  rw [if_neg (by simp)]
  exact wpAny_pure hQ
theorem tab_frame {h₀ h h' : Heap} {σ : Store} {f : String → Value} (I : InvF c h₀ σ f h) {d : Addr} {xs : List Ent} (T : h.DictOfH (TabK c) d xs) (hL : d ≠ c.env.locals) (hk : ∀ b o, (b ≠ c.env.locals ∧ ∀ y, c.env.cells.lookup y ≠ some b) → h.get? b = some o → h'.get? b = some o) : h'.DictOfH (TabK c) d xs := by
  obtain ⟨o, es, ep, ho, a, b, e, hkk, nn⟩ := T
  refine ⟨o, es, ep, hk _ _ ⟨hL, fun y q => ?_⟩ ho, a, b, e, fun z hz => ?_, nn⟩
  · obtain ⟨_, u, o', ho', hd'⟩ := I.cells y d q
    rw [ho] at ho'; cases ho'; rw [b] at hd'; cases hd'
  · obtain ⟨o', it, n', ho', hc', hd', r⟩ := hkk z hz
    refine ⟨o', it, n', hk _ _ ⟨?_, fun y q => ?_⟩ ho', hc', hd', r⟩
    · intro q
      obtain ⟨m, o2, _, _, ho2, hd2, _⟩ := I.ns
      rw [q] at ho'; rw [ho'] at ho2; cases ho2; rw [hd'] at hd2; cases hd2
    · obtain ⟨_, u, o2, ho2, hd2⟩ := I.cells y _ q
      rw [ho'] at ho2; cases ho2; rw [hd'] at hd2; cases hd2
abbrev pairPV (p : Str × Str) : PV := .tup [.str p.1, .str p.2]
def pairTab (prs : List (Str × Str)) (a b : Str) : Bool := prs.any fun p => (decide (p.1 = a) && decide (p.2 = b)) || (decide (p.2 = a) && decide (p.1 = b))
theorem tab_for (ok : c.Ok) (hm : c.mt = true) (hu : c.A.units + 1 < cLine) {h₀ : Heap} {σ : Store} {f : String → Value} {s : Shared} (I : InvF c h₀ σ f s.heap) {d ax : Addr} (hno : (d == sysModules) = false) (hD : s.heap.DictOfH (TabK c) d []) (h0 : h₀.get? d = none) (hL : d ≠ c.env.locals)
    {v x y : String} (hv : σ v = some (.obj (.ref d))) (hx : σ x = none) (hy : σ y = none) (hxy : x ≠ y) (hvx : v ≠ x) (hvy : v ≠ y) (sx : Stor c x) (sy : Stor c y)
    {iter : Expr} (hi : ∀ s : Shared, EInv c σ s.heap → Does c (eval iter c.env) s (fun u _ => u = .ref ax)) {prs : List (Str × Str)} (hrep : RepI c.mt c.B (.tup (prs.map pairPV)) (.ref ax)) (hpl : prs.length ≤ 400)
    {e1 e2 : Expr} {g1 g2 : DE} (s1 : SoundE c e1 g1) (s2 : SoundE c e2 g2) (q1 : ∀ (σ : Store) a b, σ x = some (.str a) → σ y = some (.str b) → g1 σ = some (.tup [.str a, .str b])) (q2 : ∀ (σ : Store) a b, σ x = some (.str a) → σ y = some (.str b) → g2 σ = some (.tup [.str b, .str a]))
    (k1 k2 n : Nat) (pc1 pv1 pi1 pos1 pc2 pv2 pi2 pos2 px py tp pos : Pos)
    (w1 : swapsWith (.Constant (.int 3) k1 pc1) (some (.Subscript (.Name (Str.ofString v) pv1) e1 pi1)) pos1.line c.env = pure false) (w2 : swapsWith (.Constant (.int 3) k2 pc2) (some (.Subscript (.Name (Str.ofString v) pv2) e2 pi2)) pos2.line c.env = pure false)
    (hd : (Str.ofString v == ("__debug__" : Str)) = false) (hd' : (Str.ofString v == ("__classdict__" : Str)) = false) (hfs : ∀ x, foldedSetIterable iter c.env x = pure x)
    {Q : Flow → Shared → Prop} {E : Value → Shared → Prop}
    (k : ∀ h' tk f', InvF c h₀ σ f' h' → Tab c h' d (pairTab prs) → Q .next { s with heap := h', toks := tk }) :
    wpAny c.M c.A (exec (.For (.Tuple [.Name (Str.ofString x) px, .Name (Str.ofString y) py] n tp) iter
      [.Assign [.Subscript (.Name (Str.ofString v) pv1) e1 pi1] (.Constant (.int 3) k1 pc1) pos1, .Assign [.Subscript (.Name (Str.ofString v) pv2) e2 pi2] (.Constant (.int 3) k2 pc2) pos2] [] pos) c.env) Q E s := by
  obtain ⟨_, vs, hax, htB, hrB⟩ := (Rep.imm hrep).toTup
  cases hax
  refine wpAny_For (hi s I.toE _ E fun u h1 tk1 r1 kk1 => ?_) hfs
  subst r1
  have I1 := I.sub kk1
  have ht1 : h1.IsTuple ax vs.toArray := IsTuple.sub htB (I1.base.trans I1.keep)
  refine wpAny_pyIter_tuple ht1 ?_
  have hlt : ax < h1.objs.size := by obtain ⟨_, e, _⟩ := ht1; exact Heap.lt_size e
  have W := Walks.tuple (prog := c.prog) (w := c.w) ok.hh h1.objs.size ax (Nat.ne_of_lt hlt) vs.toArray
  have hsz : vs.toArray.size = prs.length := by rw [List.size_toArray, ← hrB.1, List.length_map]
  rw [hsz] at W
  have kk2 : Sub h1 (h1.push (tupIt ax)) := fun b o e => Heap.get?_push_of_some _ e
  have hIL : h1.objs.size ≠ c.env.locals := by
    obtain ⟨m, o, _, _, ho, _⟩ := I1.ns
    exact Nat.ne_of_gt (Heap.lt_size ho)
  have hIC : ∀ z, c.env.cells.lookup z ≠ some h1.objs.size := by
    intro z q
    obtain ⟨_, _, o, ho, _⟩ := I1.cells z _ q
    exact absurd (Heap.lt_size ho) (Nat.lt_irrefl _)
  have hD1 := tab_sub hD (kk1.trans kk2)
  have hId : h1.objs.size ≠ d := by
    obtain ⟨o, _, _, ho, _⟩ := tab_sub hD kk1
    exact Nat.ne_of_gt (Heap.lt_size ho)
  have h0I : h₀.get? h1.objs.size = none := get_none' I1.keep (get_none (Sub.refl h1) (Nat.le_refl _))
  refine codeAny_forLoop_any
    (fun m s' => ∃ h' tk i fi xs, s' = { s with heap := h', toks := tk } ∧ (h'.IsTupleIter h1.objs.size ax i ∧ h'.IsTuple ax vs.toArray) ∧ InvF c h₀ σ fi h' ∧ h'.DictOfH (TabK c) d xs ∧ xs.length ≤ 2 * i ∧
      (∀ k', (∃ e ∈ xs, e.1 = k') ↔ ∃ p ∈ prs.take i, k' = [p.1, p.2] ∨ k' = [p.2, p.1]) ∧ (∀ e ∈ xs, ∃ t, e.2.2 = .int 3 t) ∧ i ≤ prs.length ∧ m = prs.length + 1 - i) ?_ (prs.length + 1)
    ⟨_, tk1, 0, f, [], rfl, ⟨⟨_, Heap.get?_push_size _ rfl, rfl, rfl⟩, IsTuple.sub ht1 kk2⟩, I1.sub kk2, hD1, Nat.le_refl _, fun k' => by simp, fun e he => by simp at he, Nat.zero_le _, rfl⟩
  rintro m s' ⟨h', tk, i, fi, xs, rfl, hst, Ii, hDi, hxl, hhas, h3, hil, rfl⟩
  by_cases hlt' : i < prs.length
  · refine W.item i { s with heap := h', toks := tk } _ _ hlt' hst fun u h2 tk2 hu2 st2 hk2 => ?_
    -- the item
    have hpi : (prs.map pairPV)[i]? = some (pairPV prs[i]) := by simp [hlt']
    have rB := hrB.2 i _ u hpi (by simpa using hu2)
    have wro : WrOk c.mt h' h1.objs.size := by
      obtain ⟨o, ho, hc, hdat⟩ := hst.1
      exact ⟨o, ho, (fun _ _ q => by rw [hdat] at q; cases q), (fun _ q => by rw [hdat] at q; cases q), (fun q => by rw [hc] at q; exact absurd (Value.type.inj q) (by decide)), (fun _ _ _ q => by rw [hdat] at q; cases q)⟩
    have I2 : InvF c h₀ σ fi h2 := Ii.wr hk2 (fun b hb => by rw [List.mem_singleton.mp hb]; exact wro) (fun b hb => by rw [List.mem_singleton.mp hb]; exact h0I)
    have hD2 : h2.DictOfH (TabK c) d xs := by
      obtain ⟨o, es, ep, ho, a, b, e, hk, nn⟩ := hDi
      refine ⟨o, es, ep, hk2 _ _ (fun q => hId (List.mem_singleton.mp q).symm) ho, a, b, e, fun z hz => ?_, nn⟩
      obtain ⟨o', it, n', ho', hc', r⟩ := hk z hz
      refine ⟨o', it, n', hk2 _ _ (fun q => ?_) ho', hc', r⟩
      rw [List.mem_singleton.mp q] at ho'
      obtain ⟨o2, ho2, hc2, _⟩ := hst.1
      rw [ho'] at ho2; cases ho2
      rw [hc'] at hc2; exact absurd (Value.type.inj hc2) (by decide)
    have r2 : RepI c.mt h2 (pairPV prs[i]) u := rB.sub (I2.base.trans I2.keep)
    obtain ⟨T, ws, hT, _, _⟩ := (Rep.imm r2).toTup
    subst hT
    refine go_tupleiter (s := { s with heap := h2, toks := tk2 }) st2.1 ?_
    have eb : bind2 true x y (pairPV prs[i]) σ = some ((σ.set x (.str prs[i].1)).set y (.str prs[i].2)) := by
      simp [bind2, pairPV, PV.imm, FlatOk, PV.flat, PV.atom]
    refine SoundTg.pair ok hm x y px py tp n sx sy h₀ σ _ fi _ _ { s with heap := h2, toks := tk2 } _ _ eb I2 r2 fun f3 h3' tk3 I3 hl3 hk3 => ?_
    have hD3 := tab_frame I2 hD2 hL hk3
    have e0 : ((σ.set x (.str prs[i].1)).set y (.str prs[i].2)) v = some (.obj (.ref d)) := by simp [Store.set, hvx, hvy, hv]
    have ex : ((σ.set x (.str prs[i].1)).set y (.str prs[i].2)) x = some (.str prs[i].1) := by simp [Store.set, hxy]
    have ey : ((σ.set x (.str prs[i].1)).set y (.str prs[i].2)) y = some (.str prs[i].2) := by simp [Store.set]
    refine wpAny_execs_cons (tab_set ok hu (s := { s with heap := h3', toks := tk3 }) I3 hD3 (by omega) h0 hL e0 s1 (q1 _ _ _ ex ey) k1 pc1 pv1 pi1 pos1 w1 hd hd' fun h4 tk4 xs4 I4 hD4 hl4 hh4 h34 hk4 => ?_)
    refine wpAny_execs_cons (tab_set ok hu (s := { s with heap := h4, toks := tk4 }) I4 hD4 (by omega) h0 hL e0 s2 (q2 _ _ _ ex ey) k2 pc2 pv2 pi2 pos2 w2 hd hd' fun h5 tk5 xs5 I5 hD5 hl5 hh5 h35 hk5 => ?_)
    refine wpAny_execs_nil ?_
    refine ⟨prs.length + 1 - (i + 1), by omega, h5, tk5, i + 1, f3, xs5, rfl, ⟨?_, ?_⟩, I5.forget fun z pv ez => ?_, hD5, by omega, fun k' => ?_, h35 (h34 h3), hlt', rfl⟩
    · exact st2.1.at fun o e => hk5 _ o hId (hk4 _ o hId (hk3 _ o ⟨hIL, hIC⟩ e))
    · exact IsTuple.sub htB (I5.base.trans I5.keep)
    · have n1 : z ≠ x := fun q => by rw [q, hx] at ez; cases ez
      have n2 : z ≠ y := fun q => by rw [q, hy] at ez; cases ez
      simp [Store.set, n1, n2, ez]
    · rw [hh5, hh4, hhas, List.take_add_one, List.getElem?_eq_getElem hlt']
      simp only [Option.toList, List.mem_append, List.mem_singleton]
      constructor
      · rintro (q | q | ⟨p, hp, q⟩)
        · exact ⟨_, .inr rfl, .inr q⟩
        · exact ⟨_, .inr rfl, .inl q⟩
        · exact ⟨p, .inl hp, q⟩
      · rintro ⟨p, hp | rfl, q⟩
        · exact .inr (.inr ⟨p, hp, q⟩)
        · rcases q with q | q
          · exact .inr (.inl q)
          · exact .inl q
  · have hin : i = prs.length := by omega
    subst hin
    have wro : WrOk c.mt h' h1.objs.size := by
      obtain ⟨o, ho, hc, hdat⟩ := hst.1
      exact ⟨o, ho, (fun _ _ q => by rw [hdat] at q; cases q), (fun _ q => by rw [hdat] at q; cases q), (fun q => by rw [hc] at q; exact absurd (Value.type.inj q) (by decide)), (fun _ _ _ q => by rw [hdat] at q; cases q)⟩
    refine W.done _ _ _ hst fun h2 tk2 hk2 => wpAny_execs_nil ?_
    have I2 : InvF c h₀ σ fi h2 := Ii.wr hk2 (fun b hb => by rw [List.mem_singleton.mp hb]; exact wro) (fun b hb => by rw [List.mem_singleton.mp hb]; exact h0I)
    have hD2 : h2.DictOfH (TabK c) d xs := by
      obtain ⟨o, es, ep, ho, a, b, e, hk, nn⟩ := hDi
      refine ⟨o, es, ep, hk2 _ _ (fun q => hId (List.mem_singleton.mp q).symm) ho, a, b, e, fun z hz => ?_, nn⟩
      obtain ⟨o', it, n', ho', hc', r⟩ := hk z hz
      refine ⟨o', it, n', hk2 _ _ (fun q => ?_) ho', hc', r⟩
      rw [List.mem_singleton.mp q] at ho'
      obtain ⟨o2, ho2, hc2, _⟩ := hst.1
      rw [ho'] at ho2; cases ho2
      rw [hc'] at hc2; exact absurd (Value.type.inj hc2) (by decide)
    refine k h2 tk2 fi I2 ⟨hno, xs, hD2, fun a b => ?_, fun k' p e => at_three h3 e⟩
    rw [Bool.eq_iff_iff, at_has, hhas]
    simp only [pairTab, List.take_length, List.any_eq_true, Bool.or_eq_true, Bool.and_eq_true, decide_eq_true_eq]
    constructor
    · rintro ⟨p, hp, q | q⟩
      · simp only [List.cons.injEq, and_true] at q; exact ⟨p, hp, .inl ⟨q.1.symm, q.2.symm⟩⟩
      · simp only [List.cons.injEq, and_true] at q; exact ⟨p, hp, .inr ⟨q.1.symm, q.2.symm⟩⟩
    · rintro ⟨p, hp, ⟨q1, q2⟩ | ⟨q1, q2⟩⟩
      · exact ⟨p, hp, .inl (by rw [q1, q2])⟩
      · exact ⟨p, hp, .inr (by rw [q1, q2])⟩
end
end
section
open PySem PySem.Spec PySem.Calls PyProof.Rows PySem.W
set_option maxRecDepth 100000

section
variable {c : Cx}
/-- a context upon a larger base -/
def Cx.on (c : Cx) (B : Heap) : Cx := { c with B := B }
theorem Cx.Ok.on {B : Heap} (ok : c.Ok) (k : Sub c.B B) : (c.on B).Ok := ⟨ok.hh, ok.hk, ok.nl.keeps k, ok.g.keeps k, ok.b.keeps k, ok.bt⟩
theorem InvF.on {hh h : Heap} {σ : Store} {f : String → Value} (I : InvF c hh σ f h) : InvF (c.on hh) hh σ f h := ⟨Sub.refl _, I.keep, I.ns, I.freshL, I.cells, I.apart, I.vars, I.own, I.fresh, I.flat⟩
theorem Tab.hide {h₀ h : Heap} {σ : Store} {f : String → Value} (I : InvF c h₀ σ f h) {d : Addr} {t : Str → Str → Bool} (T : Tab c h d t) (hL : d ≠ c.env.locals) : Tab c (hide h (Own c σ f)) d t := by
  obtain ⟨no, xs, ⟨o, es, ep, ho, a, b, e, hkk, nn⟩, hf, h3⟩ := T
  refine ⟨no, xs, ⟨o, es, ep, ?_, a, b, e, fun z hz => ?_, nn⟩, hf, h3⟩
  · rw [hide_get _ _ ?_]; exact ho
    rintro (q | ⟨y, q⟩ | ⟨y, l, q1, q2⟩)
    · exact hL q
    · obtain ⟨_, u, o', ho', hd'⟩ := I.cells y d q
      rw [ho] at ho'; cases ho'; rw [b] at hd'; cases hd'
    · obtain ⟨x, vs, ex, ⟨n, hp⟩, _⟩ := (I.vars y _ q1).2.toList
      rw [q2] at ex; cases ex
      rw [ho] at hp; cases hp; cases b
  · obtain ⟨o', it, n', ho', hc', hd', r⟩ := hkk z hz
    refine ⟨o', it, n', ?_, hc', hd', r⟩
    rw [hide_get _ _ ?_]; exact ho'
    rintro (q | ⟨y, q⟩ | ⟨y, l, q1, q2⟩)
    · obtain ⟨m, o2, _, _, ho2, hd2, _⟩ := I.ns
      rw [q] at ho'; rw [ho'] at ho2; cases ho2; rw [hd'] at hd2; cases hd2
    · obtain ⟨_, u, o2, ho2, hd2⟩ := I.cells y _ q
      rw [ho'] at ho2; cases ho2; rw [hd'] at hd2; cases hd2
    · obtain ⟨x, vs, ex, ⟨n, hp⟩, _⟩ := (I.vars y _ q1).2.toList
      rw [q2] at ex; cases ex
      rw [ho'] at hp; cases hp
      exact absurd (Value.type.inj hc') (by decide)
theorem Tab.on {B h : Heap} {d : Addr} {t : Str → Str → Bool} (T : Tab c h d t) : Tab (c.on B) h d t := ⟨T.1, T.2⟩

/-- a block, and what comes after it -/
def SoundK (c : Cx) (sts rest : List Stmt) (f : DS) : Prop := ∀ h₀ σ σ' fl (s : Shared) (Q : Flow → Shared → Prop) (E : Value → Shared → Prop), f σ = some (σ', fl) → Inv c h₀ σ s.heap →
  (fl = .next → ∀ h' tk, Inv c h₀ σ' h' → wpAny c.M c.A (execs rest c.env) Q E { s with heap := h', toks := tk }) →
  (∀ fw h' tk, Inv c h₀ σ' h' → FlRep c.mt h' fl fw → fl ≠ .next → Q fw { s with heap := h', toks := tk }) → wpAny c.M c.A (execs (sts ++ rest) c.env) Q E s
theorem SoundK.nil {rest} : SoundK c [] rest skipS := by
  intro h₀ σ σ' fl s Q E e I k1 k2
  cases e
  exact k1 rfl s.heap s.toks I
theorem SoundK.cons {st : Stmt} {sts rest : List Stmt} {f g : DS} (h : SoundS c st f) (r : SoundK c sts rest g) : SoundK c (st :: sts) rest (seqS f g) := by
  intro h₀ σ σ' fl s Q E e I k1 k2
  refine wpAny_execs_cons ?_
  unfold seqS at e
  cases hf : f σ with
  | none => rw [hf] at e; cases e
  | some p =>
    obtain ⟨σ1, fl1⟩ := p
    rw [hf] at e
    refine h h₀ σ σ1 fl1 s _ E hf I fun fw h' tk I' r' => ?_
    cases r' with
    | next => exact r h₀ σ1 σ' fl { s with heap := h', toks := tk } Q E e I' k1 k2
    | brk => cases e; exact k2 _ _ _ I' .brk (by intro q; cases q)
    | cont => cases e; exact k2 _ _ _ I' .cont (by intro q; cases q)
    | ret r' => cases e; exact k2 _ _ _ I' (.ret r') (by intro q; cases q)
end
end
section
open PySem PySem.Spec PySem.Calls PyProof.Rows PySem.W
set_option maxRecDepth 100000

section
variable {c : Cx}
/-- v = {} -/
theorem tab_new (ok : c.Ok) {h₀ : Heap} {σ : Store} {f : String → Value} {s : Shared} (I : InvF c h₀ σ f s.heap) (v : String) (px pd pos : Pos) (hv : Stor c v)
    (hs : swapsWith (.Dict [] [] pd) (some (.Name (Str.ofString v) px)) pos.line c.env = pure false)
    {Q : Flow → Shared → Prop} {E : Value → Shared → Prop}
    (k : ∀ h' tk d f', InvF c h₀ (σ.set v (.obj (.ref d))) f' h' → h'.DictOfH (TabK c) d [] → h₀.get? d = none → d ≠ c.env.locals → (d == sysModules) = false → Q .next { s with heap := h', toks := tk }) :
    wpAny c.M c.A (exec (.Assign [.Name (Str.ofString v) px] (.Dict [] [] pd) pos) c.env) Q E s := by
  refine wpAny_Assign_Name (wpAny_Dict_empty ?_) hs
  have kk : Sub s.heap (s.heap.push { cls := .type "dict", data := .dict #[] }) := fun b o e => Heap.get?_push_of_some _ e
  have hL : s.heap.objs.size ≠ c.env.locals := by
    obtain ⟨m, o, _, _, ho, _⟩ := I.ns
    exact Nat.ne_of_gt (Heap.lt_size ho)
  have h0 : h₀.get? s.heap.objs.size = none := get_none' I.keep (get_none (Sub.refl s.heap) (Nat.le_refl _))
  have hD := Heap.DictOfH.new (knd := TabK c) s.heap
  have hbig : (s.heap.objs.size == sysModules) = false := by
    have := modules_low (ok.nl.keeps (I.base.trans I.keep))
    exact beq_eq_false_iff_ne.mpr (Nat.ne_of_gt this)
  have I1 := I.sub kk
  refine InvF.store (s := { s with heap := s.heap.push { cls := .type "dict", data := .dict #[] } }) ok I1 (pv := .obj (.ref s.heap.objs.size)) (.imm (.obj _)) (fun _ => rfl) (.inl rfl) hv fun h' tk I' hk => ?_
  exact k h' tk _ _ I' (tab_frame I1 hD hL hk) h0 hL hbig

theorem eval_attr_eq (ok : c.Ok) {w u : Value} (v : String) (name : Str) (np pos : Pos) (G : GetA c w name (fun r _ => r = u)) {σ : Store} (hv : σ v = some (.obj w))
    (hbase : attributeBase (.Name (Str.ofString v) np) name c.env (eval (.Name (Str.ofString v) np) c.env) = eval (.Name (Str.ofString v) np) c.env) (ht : ∀ a r, letTemporaryGo (.Name (Str.ofString v) np) a r = pure ())
    (hd : (Str.ofString v == ("__debug__" : Str)) = false) (hd' : (Str.ofString v == ("__classdict__" : Str)) = false) :
    ∀ s : Shared, EInv c σ s.heap → Does c (eval (.Attribute (.Name (Str.ofString v) np) name pos) c.env) s (fun r _ => r = u) := by
  intro s I Q E k
  show wpAny c.M c.A (do
    let o ← attributeBase (.Name (Str.ofString v) np) name c.env (eval (.Name (Str.ofString v) np) c.env)
    standAt pos.atName
    let r ← holding [o] (getAttr o name true)
    letTemporaryGo (.Name (Str.ofString v) np) o r
    pure r) Q E s
  rw [hbase]
  refine wpAny_bind (SoundE.var ok v np hd hd' σ _ s hv I _ E fun u h1 tk1 r1 k1 => ?_)
  cases r1.toObj
  refine wpAny_bind (wpAny_standAt (wpAny_bind (wpAny_holding (G { s with heap := h1, toks := tk1 } (I.base.trans k1) _ E fun r h2 tk2 r2 k2 => wpAny_bind ?_))))
  rw [ht]
  exact wpAny_pure (wpAny_pure (k r h2 tk2 r2 (k1.trans k2)))
theorem GetA.eq {K : Frag} {x C : Addr} {ox od : Obj} {name : Str} {v : Value} (X : K.In c.B) (I : InstAt c.B x ox C (some od)) (hga : findIn K (.ref C) "__getattribute__" = some (some (.builtin "object.__getattribute__")))
    (hf : findObj K C (some od) name = some (.value v)) (hh : handedIn v = true) : GetA c (.ref x) name (fun r _ => r = v) := by
  intro s k Q E q
  exact get_value (X.keeps k) (InstAt.sub I k) hga hf hh (q v s.heap _ rfl (Sub.refl _))

open Classical in
noncomputable def joinD (f : DS) (cond : Store → Prop) (suf : Addr → DS) : DS := fun σ => match f σ with
  | some (σ1, .next) => if h : cond σ1 ∧ ∃ r, ∀ d, ∃ σ', suf d (σ1.set "adjwt" (.obj (.ref d))) = some (σ', .ret r) then some (fun _ => none, .ret h.2.choose) else none
  | some (_, .ret v) => some (fun _ => none, .ret v)
  | _ => none


/-- the first n statements of a block -/
def SoundKd (c : Cx) (n : Nat) (sts : List Stmt) (f : DS) : Prop := ∀ h₀ σ σ' fl (s : Shared) (Q : Flow → Shared → Prop) (E : Value → Shared → Prop), f σ = some (σ', fl) → Inv c h₀ σ s.heap →
  (fl = .next → ∀ h' tk, Inv c h₀ σ' h' → wpAny c.M c.A (execs (sts.drop n) c.env) Q E { s with heap := h', toks := tk }) →
  (∀ fw h' tk, Inv c h₀ σ' h' → FlRep c.mt h' fl fw → fl ≠ .next → Q fw { s with heap := h', toks := tk }) → wpAny c.M c.A (execs sts c.env) Q E s
theorem SoundKd.nil {sts} : SoundKd c 0 sts skipS := by
  intro h₀ σ σ' fl s Q E e I k1 k2
  cases e
  exact k1 rfl s.heap s.toks I
theorem SoundKd.cons {n : Nat} {st : Stmt} {sts : List Stmt} {f g : DS} (h : SoundS c st f) (r : SoundKd c n sts g) : SoundKd c (n + 1) (st :: sts) (seqS f g) := by
  intro h₀ σ σ' fl s Q E e I k1 k2
  refine wpAny_execs_cons ?_
  unfold seqS at e
  cases hf : f σ with
  | none => rw [hf] at e; cases e
  | some p =>
    obtain ⟨σ1, fl1⟩ := p
    rw [hf] at e
    refine h h₀ σ σ1 fl1 s _ E hf I fun fw h' tk I' r' => ?_
    cases r' with
    | next => exact r h₀ σ1 σ' fl { s with heap := h', toks := tk } Q E e I' k1 k2
    | brk => cases e; exact k2 _ _ _ I' .brk (by intro q; cases q)
    | cont => cases e; exact k2 _ _ _ I' .cont (by intro q; cases q)
    | ret r' => cases e; exact k2 _ _ _ I' (.ret r') (by intro q; cases q)

theorem join_sound {l : List Stmt} {n n' : Nat} {f : DS} {cond : Store → Prop} {suf : Addr → DS} {tab : Str → Str → Bool}
    (P : SoundKd c n l f)
    (M : ∀ h₀ σ (s : Shared) (Q : Flow → Shared → Prop) (E : Value → Shared → Prop), cond σ → Inv c h₀ σ s.heap →
      (∀ h' tk d f', InvF c h₀ (σ.set "adjwt" (.obj (.ref d))) f' h' → Tab c h' d tab → d ≠ c.env.locals → wpAny c.M c.A (execs (l.drop n') c.env) Q E { s with heap := h', toks := tk }) →
      wpAny c.M c.A (execs (l.drop n) c.env) Q E s)
    (S : ∀ B d, Sub c.B B → Tab (c.on B) B d tab → SoundSs (c.on B) (l.drop n') (suf d)) :
    SoundSs c l (joinD f cond suf) := by
  intro h₀ σ σ' fl s Q E e I k
  unfold joinD at e
  cases hf : f σ with
  | none => rw [hf] at e; cases e
  | some p =>
    obtain ⟨σ1, fl1⟩ := p
    rw [hf] at e
    refine P h₀ σ σ1 fl1 s Q E hf I (fun hn h1 tk1 I1 => ?_) (fun fw h1 tk1 I1 r1 hn => ?_)
    · subst hn
      dsimp only at e
      split at e
      · rename_i hc
        refine M h₀ σ1 { s with heap := h1, toks := tk1 } Q E hc.1 I1 fun h2 tk2 d f2 I2 T2 hL => ?_
        obtain ⟨σ2, e2⟩ := hc.2.choose_spec d
        cases e
        have kb := sub_rebase I2
        have hS := S (hide h2 (Own c _ f2)) d (I2.base.trans kb) (Tab.on (Tab.hide I2 T2 hL))
        refine hS (hide h2 (Own c _ f2)) _ σ2 _ { s with heap := h2, toks := tk2 } Q E e2 ⟨f2, InvF.on (InvF.rebase I2)⟩ fun fw h3 tk3 I3 r3 => ?_
        refine k fw h3 tk3 ?_ r3
        obtain ⟨f3, I3⟩ := I3
        refine ⟨f3, ?_⟩
        have I3' : InvF c (hide h2 (Own c _ f2)) σ2 f3 h3 := ⟨I2.base.trans kb, I3.keep, I3.ns, I3.freshL, I3.cells, I3.apart, I3.vars, I3.own, I3.fresh, I3.flat⟩
        exact (I3'.weaken kb I2.base).forget fun x pv q => by cases q
      · cases e
    · cases fl1 with
      | next => exact absurd rfl hn
      | brk => cases e
      | cont => cases e
      | ret v =>
        cases e
        obtain ⟨f1, I1⟩ := I1
        exact k fw h1 tk1 ⟨f1, I1.forget fun x pv q => by cases q⟩ r1
end
end
section
open PySem PySem.Spec PySem.Calls PyProof.Rows PySem.W
set_option maxRecDepth 100000
set_option maxHeartbeats 8000000

theorem Cx.Ok.comp {c : Cx} (ok : c.Ok) {scope cl C} (hk : scope.kind = .function) : (c.comp scope cl C).Ok := ⟨ok.hh, hk, ok.nl, ok.g, ok.b, ok.bt⟩

theorem len1 {α : Type} : ∀ {l : List α}, 1 = l.length → ∃ v, l = [v]
  | [v], _ => ⟨v, rfl⟩
theorem len2 {α : Type} : ∀ {l : List α}, 2 = l.length → ∃ v u, l = [v, u]
  | [v, u], _ => ⟨v, u, rfl⟩
theorem len3 {α : Type} : ∀ {l : List α}, 3 = l.length → ∃ v u w, l = [v, u, w]
  | [v, u, w], _ => ⟨v, u, w, rfl⟩

structure Env0 (c : Cx) : Prop where
  ok : c.Ok
  X : (hd.heap_39 c.w.params).In c.B
  g : c.env.globals = mainGlobals
  b : c.env.builtins = builtinsNs

def fdAt (K : Frag) (a : Addr) : FuncData := match K.lookup a with
  | some ⟨_, _, .func fd, _⟩ => fd
  | _ => default
def bodyOf (fd : FuncData) : List Stmt := match fd.body with
  | .stmts b => b
  | _ => []
def WalkOf (w : World) (mt : Bool) (Pre : Around → Heap → Prop) (den : DS) (fd : FuncData) : Prop := ∀ prog A B mg mb L f, Cx.Ok ⟨prog, w, A, mt, B, callEnvC fd L f, mg, mb⟩ → (hd.heap_39 w.params).In B → Pre A B → SoundSs ⟨prog, w, A, mt, B, callEnvC fd L f, mg, mb⟩ (bodyOf fd) den
theorem fdAt_of {K : Frag} {a : Addr} (h : fnIn K a = true) : ∃ o, K.lookup a = some o ∧ o.data = .func (fdAt K a) := by
  unfold fnIn at h
  unfold fdAt
  split at h
  · rename_i e; rw [e]; exact ⟨_, rfl, rfl⟩
  · cases h
def FdOk (fd : FuncData) (xs : List String) : Prop := fd.closure = [] ∧ (∀ x ∈ xs, fd.scope.names.lookup (Str.ofString x) = some .local ∨ (fd.scope.names.lookup (Str.ofString x) = some .cell ∧ ∀ n, ((cellsFrom n fd.scope.names []).lookup (Str.ofString x)).isSome = true)) ∧ fd.globals = mainGlobals ∧ fd.builtins = builtinsNs ∧
  fd.scope.kind = .function ∧ fd.scope.isCoroutine = false ∧ fd.scope.isGenerator = false ∧ fd.body = .stmts (bodyOf fd)

/-- all that is known of a function; fd and den stand closed where this is used -/
structure FnData (w : World) (a : Addr) (fd : FuncData) (xs : List String) (mt : Bool) (Pre : Around → Heap → Prop) (den : DS) : Prop where
  look : ∃ o, (hd.heap_39 w.params).lookup a = some o ∧ o.data = .func fd
  ok : FdOk fd xs
  code : codeIn (hd.heap_39 w.params) fd.code fd.qualname = true
  walk : WalkOf w mt Pre den fd
theorem FnData.of {w : World} {a : Addr} {xs : List String} {mt : Bool} {Pre : Around → Heap → Prop} {den : DS} (h1 : fnIn (hd.heap_39 w.params) a = true) (h2 : FdOk (fdAt (hd.heap_39 w.params) a) xs)
    (h3 : codeIn (hd.heap_39 w.params) (fdAt (hd.heap_39 w.params) a).code (fdAt (hd.heap_39 w.params) a).qualname = true) (h4 : WalkOf w mt Pre den (fdAt (hd.heap_39 w.params) a)) : FnData w a (fdAt (hd.heap_39 w.params) a) xs mt Pre den := ⟨fdAt_of h1, h2, h3, h4⟩

theorem run_fn {c : Cx} (e0 : Env0 c) {A : Around} (hA : A.handled = none) (hroom : A.depth < recursionLimit) {a : Addr} {fd : FuncData} {mt : Bool} {xs : List String} {Pre : Around → Heap → Prop} {den : DS} (D : FnData c.w a fd xs mt Pre den)
    {s : Shared} (k : Sub c.B s.heap) {pvs : List PV} {args : Args} {r : PV} {σ' : Store}
    (hbind : BindV c fd args s xs mt pvs) (hpre : ∀ (h : Heap) (L : Addr), Sub s.heap h → Pre (A.deeper (callEnvC fd L a)) h)
    (hlen : pvs.length = xs.length) (hi : pvs.all PV.imm = true) (hf : mt = true → pvs.all PV.flat = true) (hrun : den (setAll (fun _ => none) xs pvs) = some (σ', .ret r)) :
    CodeDoes c A (.ref a) args s (fun v h' => Rep mt h' r v) := by
  obtain ⟨⟨o, ho, hdat⟩, ⟨f1, f2, f3, f4, f5, f6, f7, f8⟩, hcode, W⟩ := D
  have X := e0.X.keeps k
  exact call_code e0.ok hroom mt xs ⟨f1, f2, e0.g.trans f3.symm, e0.b.trans f4.symm, f5, f6, f7⟩ (X _ _ ho) hdat k (codeRec_of X hcode) f8 hbind
    (fun h' k' => W c.prog _ h' c.mg c.mb _ a (Cx.callee_ok e0.ok hA (k.trans k') (e0.g.trans f3.symm) (e0.b.trans f4.symm) f5) (X.keeps k') (hpre h' _ k')) hlen hi hf hrun

theorem BindV.star {c : Cx} {fd : FuncData} {vs front rest : List Value} {s : Shared} {xs : List String} {mt : Bool} {fp rp : List PV} (hbind : bindArgs fd ⟨vs, []⟩ = (newTuple rest >>= fun t => pure ((xs.map Str.ofString).zip (front ++ [t]))))
    (hf : RepL mt s.heap fp front) (hr : RepL mt s.heap rp rest) (hi : rp.all PV.imm = true) (hl : rp.length < 1000) : BindV c fd ⟨vs, []⟩ s xs mt (fp ++ [.tup rp]) := by
  intro A Q E k
  rw [hbind]
  have hlen := hr.len
  refine wpAny_bind (wpAny_newTuple ?_)
  have kk : Sub s.heap (s.heap.push { cls := .type "tuple", data := .seq rest.toArray }) := fun b o e => Heap.get?_push_of_some _ e
  exact wpAny_pure (k _ _ kk ((hf.sub kk).snoc (.imm (.tup ⟨_, Heap.get?_push_size _ rfl, rfl, _, rfl⟩ hlen ((hr.toReps hi).sub kk).2))))
/-- values of a kind that no heap touches -/
theorem RepL.atoms {mt h} : ∀ {l : List PV} {vs : List Value}, RepL mt h l vs → l.all PV.atom = true → ∀ mt' h', RepL mt' h' l vs
  | _, _, .nil, _, _, _ => .nil
  | p :: _, _, .cons a r, e, mt', h' => by
    simp only [List.all_cons, Bool.and_eq_true] at e
    refine .cons ?_ (r.atoms e.2 mt' h')
    have q := a.toI (atom_imm e.1)
    cases q with
    | none => exact .imm .none
    | bool b => exact .imm (.bool b)
    | int i t => exact .imm (.int i t)
    | flt x t => exact .imm (.flt x t)
    | str s t => exact .imm (.str s t)
    | obj => exact .imm (.obj _)
    | tup => exact (Bool.false_ne_true e.1).elim
    | rlist => exact (Bool.false_ne_true e.1).elim
theorem Rep.atoms {mt h p v} (r : Rep mt h p v) (e : p.atom = true) : ∀ mt' h', Rep mt' h' p v := fun mt' h' => by
  have := (RepL.cons r .nil).atoms (by simp [e]) mt' h'
  cases this with
  | cons a _ => exact a
theorem CodeDoes.mono {c A f args s P P'} (h : CodeDoes c A f args s P) (k : ∀ v h', P v h' → P' v h') : CodeDoes c A f args s P' := fun R q => h R fun v h' tk p u => q v h' tk (k v h' p) u
end
section
open PySem PySem.Spec PySem.Calls PyProof.Rows PySem.W
set_option maxRecDepth 100000
set_option maxHeartbeats 8000000
/-! what writes the walks -/
local macro_rules | `(tactic| walk_at "mOk") => `(tactic| first | with_reducible assumption | exact Cx.Ok.comp (by with_reducible assumption) rfl)
local macro_rules | `(tactic| walk_at "mNo") => `(tactic| exact mg_none_of (by with_reducible assumption) (Cx.Ok.g (by with_reducible assumption)) (by rfl))
local macro_rules | `(tactic| walk_at "mSt") => `(tactic| first | exact Or.inl rfl | exact Or.inr ⟨rfl, _, rfl⟩)
local macro_rules | `(tactic| walk_at "mSts") => `(tactic| first | exact List.forall_mem_nil _ | exact List.forall_mem_cons.mpr ⟨by walk_at "mSt", by walk_at "mSts"⟩)
local macro_rules | `(tactic| walk_at "mEs") => `(tactic| first | (with_reducible exact SoundEs.nil) | exact SoundEs.cons (by walk_at "mE") (by walk_at "mEs") (by intro _; rfl))
local macro_rules | `(tactic| walk_at "mTs") => `(tactic| first | (with_reducible exact SoundTs.nil) | exact SoundTs.cons (by walk_at "mT") (by walk_at "mTs"))
local macro_rules | `(tactic| walk_at "mP") => `(tactic| first | (with_reducible exact SoundP.no) | exact SoundP.at (by walk_at "mE"))
local macro_rules | `(tactic| walk_at "mE") => `(tactic| first
  | ((with_reducible show SoundE _ (Expr.Constant (Const.int _) _ _) _); exact SoundE.int _ _ _)
  | ((with_reducible show SoundE _ (Expr.Constant (Const.str _) _ _) _); exact SoundE.str _ _ _)
  | ((with_reducible show SoundE _ (Expr.Constant (Const.float _) _ _) _); exact SoundE.flt _ _ _)
  | ((with_reducible show SoundE _ (Expr.Constant (Const.bool _) _ _) _); exact SoundE.bool _ _ _)
  | ((with_reducible show SoundE _ (Expr.Constant Const.none _ _) _); exact SoundE.none_ _ _)
  | ((with_reducible show SoundE _ (Expr.Name _ _) _); first | exact SoundE.var (by walk_at "mOk") _ _)
  | ((with_reducible show SoundE _ (Expr.BinOp _ _ _ _) _); exact SoundE.bin (by walk_at "mOk") (by walk_at "mE") _ _ (by walk_at "mE"))
  | ((with_reducible show SoundE _ (Expr.Compare _ [_] [_] _) _); exact SoundE.cmp (by walk_at "mE") _ _ (by walk_at "mE"))
  | ((with_reducible show SoundE _ (Expr.Compare _ [_, _] [_, _] _) _); exact SoundE.chain (by walk_at "mE") _ _ _ (by walk_at "mE") (by walk_at "mE"))
  | ((with_reducible show SoundE _ (Expr.IfExp _ _ _ _) _); exact SoundE.ifexp (by walk_at "mT") _ (by walk_at "mE") (by walk_at "mE"))
  | ((with_reducible show SoundE _ (Expr.Tuple _ _ _) _); exact SoundE.tup (by walk_at "mEs") _ _)
  | ((with_reducible show SoundE _ (Expr.Subscript _ (Expr.Slice _ _ none _) _) _); exact SoundE.sliceStr (by walk_at "mE") (by walk_at "mP") (by walk_at "mP") _ _)
  | ((with_reducible show SoundE _ (Expr.Subscript _ _ _) _); exact SoundE.sub (by walk_at "mE") (by walk_at "mE") _)
  | ((with_reducible show SoundE _ (Expr.Call (Expr.Name (Str.ofString "len") _) _ _ _) _); exact SoundE.callB (by walk_at "mOk") (Str.ofString "len") _ _ (id := "len") (by rfl) (by rfl) (by walk_at "mNo") lenV_ok (by walk_at "mEs"))
  | ((with_reducible show SoundE _ (Expr.Call (Expr.Name (Str.ofString "max") _) _ _ _) _); exact SoundE.callB (by walk_at "mOk") (Str.ofString "max") _ _ (id := "max") (by rfl) (by rfl) (by walk_at "mNo") (maxV_ok (by walk_at "mOk")) (by walk_at "mEs"))
  | ((with_reducible show SoundE _ (Expr.Call (Expr.Name (Str.ofString "min") _) _ _ _) _); exact SoundE.callB (by walk_at "mOk") (Str.ofString "min") _ _ (id := "min") (by rfl) (by rfl) (by walk_at "mNo") (minV_ok (by walk_at "mOk")) (by walk_at "mEs"))
  | ((with_reducible show SoundE _ (Expr.Call (Expr.Name (Str.ofString "abs") _) _ _ _) _); exact SoundE.callB (by walk_at "mOk") (Str.ofString "abs") _ _ (id := "abs") (by rfl) (by rfl) (by walk_at "mNo") absV_ok (by walk_at "mEs"))
  | ((with_reducible show SoundE _ (Expr.Call (Expr.Name (Str.ofString "ord") _) _ _ _) _); exact SoundE.callB (by walk_at "mOk") (Str.ofString "ord") _ _ (id := "ord") (by rfl) (by rfl) (by walk_at "mNo") ordV_ok (by walk_at "mEs"))
  | ((with_reducible show SoundE _ (Expr.Call (Expr.Name (Str.ofString "any") _) _ _ _) _); exact SoundE.callB (by walk_at "mOk") (Str.ofString "any") _ _ (id := "any") (by rfl) (by rfl) (by walk_at "mNo") (anyV_ok (by walk_at "mOk")) (by walk_at "mEs"))
  | ((with_reducible show SoundE _ (Expr.Call (Expr.Attribute _ (Str.ofString "strip") _) _ _ _) _); exact SoundE.strip (by walk_at "mE") _ _)
  | ((with_reducible show SoundE _ (Expr.Call (Expr.Attribute _ (Str.ofString "upper") _) _ _ _) _); exact SoundE.upper (by walk_at "mE") _ _)
  | ((with_reducible show SoundE _ (Expr.Call (Expr.Attribute _ (Str.ofString "lower") _) _ _ _) _); exact SoundE.lower (by walk_at "mE") _ _)
  | ((with_reducible show SoundE _ (Expr.Call (Expr.Attribute _ (Str.ofString "isdigit") _) _ _ _) _); exact SoundE.isdigit (by walk_at "mE") _ _)
  | ((with_reducible show SoundE _ (Expr.Call (Expr.Attribute _ (Str.ofString "join") _) _ _ _) _); exact SoundE.join (by walk_at "mE") (by walk_at "mN") _ _)
  | ((with_reducible show SoundE _ (Expr.BoolOp BoolOp.And _ _) _); exact SoundE.and (by walk_at "mEs") _)
  | walk_at "mX"
  | exact SoundE.ofN (by walk_at "mN"))
local macro_rules | `(tactic| walk_at "mT") => `(tactic| first
  | ((with_reducible show SoundT _ (Expr.Compare _ [_] [_] _) _); exact SoundT.cmp (by walk_at "mE") _ _ (by walk_at "mE"))
  | ((with_reducible show SoundT _ (Expr.UnaryOp UnaryOp.Not _ _) _); exact SoundT.not (by walk_at "mT") _)
  | ((with_reducible show SoundT _ (Expr.BoolOp BoolOp.And _ _) _); exact SoundT.and (by walk_at "mTs") _)
  | ((with_reducible show SoundT _ (Expr.BoolOp BoolOp.Or _ _) _); exact SoundT.or (by walk_at "mTs") _)
  | exact SoundT.val (by walk_at "mE"))
local macro_rules | `(tactic| walk_at "mN") => `(tactic| first
  | ((with_reducible show SoundN _ (Expr.List _ _) _); exact SoundN.list (by walk_at "mEs") _)
  | ((with_reducible show SoundN _ (Expr.BinOp _ Operator.Mult _ _) _); exact SoundN.rep (by walk_at "mN") (by walk_at "mE") _)
  | ((with_reducible show SoundN _ (Expr.Call (Expr.Name (Str.ofString "sorted") _) _ _ _) _); exact SoundN.sorted (by walk_at "mOk") _ _ (by rfl) (by walk_at "mNo") (by walk_at "mEs"))
  | ((with_reducible show SoundN _ (Expr.Subscript _ (Expr.Slice _ _ none _) _) _); exact SoundN.sliceMid (by walk_at "mE") _ _ _ _ _ _ _ _)
  | ((with_reducible show SoundN _ (Expr.ListComp _ _ _ _) _); walk_at "mCo"))
local macro_rules | `(tactic| walk_at "mTgC") => `(tactic| first
  | exact CompTg.name rfl _ _ (by rfl)
  | exact CompTg.pair rfl (Cx.Ok.hh (by walk_at "mOk")) _ _ _ _ _ _ (by rfl) (by rfl) (by decide))
local macro_rules | `(tactic| walk_at "mIfs") => `(tactic| first | (with_reducible exact SoundIfs.nil) | exact SoundIfs.one (by walk_at "mT"))
local macro_rules | `(tactic| walk_at "mCur") => `(tactic| first
  | ((with_reducible show SoundCur _ _ (Expr.Call (Expr.Name (Str.ofString "range") _) [_] _ _) _); exact SoundIter.cur (SoundIter.range1 (by walk_at "mOk") _ _ (by rfl) (by walk_at "mNo") (by walk_at "mE")))
  | ((with_reducible show SoundCur _ _ (Expr.Subscript _ _ _) _); exact SoundIter.cur (SoundIter.new (by walk_at "mOk") (by walk_at "mN")))
  | walk_at "mCurX")
local macro_rules | `(tactic| walk_at "mCaps") => `(tactic| first | exact List.forall_mem_nil _ | exact List.forall_mem_cons.mpr ⟨⟨fun C => by first | exact Or.inl rfl | exact Or.inr rfl, by first | exact Or.inl rfl | exact Or.inr rfl, rfl⟩, by walk_at "mCaps"⟩)
local macro_rules | `(tactic| walk_at "mIt") => `(tactic| first
  | ((with_reducible show SoundIter _ _ (Expr.Call (Expr.Name (Str.ofString "range") _) [_] _ _) _); exact SoundIter.range1 (by walk_at "mOk") _ _ (by rfl) (by walk_at "mNo") (by walk_at "mE"))
  | ((with_reducible show SoundIter _ _ (Expr.Call (Expr.Name (Str.ofString "range") _) [_, _] _ _) _); exact SoundIter.range2 (by walk_at "mOk") _ _ (by rfl) (by walk_at "mNo") (by walk_at "mEs"))
  | ((with_reducible show SoundIter _ _ (Expr.Call (Expr.Name (Str.ofString "enumerate") _) _ _ _) _); exact SoundIter.enum (by walk_at "mOk") _ _ (by rfl) (by walk_at "mNo") (by walk_at "mE"))
  | ((with_reducible show SoundIter _ _ (Expr.Call (Expr.Name (Str.ofString "zip") _) _ _ _) _); exact SoundIter.zip (by walk_at "mOk") rfl _ _ (by rfl) (by walk_at "mNo") (by walk_at "mEs"))
  | exact SoundIter.new (by walk_at "mOk") (by walk_at "mN"))
local macro_rules | `(tactic| walk_at "mTg") => `(tactic| first
  | exact SoundTg.name (by walk_at "mOk") (mt := false) rfl _ _ (by walk_at "mSt")
  | exact SoundTg.pair (by walk_at "mOk") (mt := false) rfl _ _ _ _ _ _ (by walk_at "mSt") (by walk_at "mSt"))
local macro_rules | `(tactic| walk_at "mSs") => `(tactic| first | (with_reducible exact SoundSs.nil) | exact SoundSs.cons (by walk_at "mS") (by walk_at "mSs"))
local macro_rules | `(tactic| walk_at "mSsD") => `(tactic| first | (with_reducible exact SoundSs.nil) | exact SoundSs.cons (by walk_at "mS") (by walk_at "mSsD"))
local macro_rules | `(tactic| walk_at "mS") => `(tactic| first
  | ((with_reducible show SoundS _ (Stmt.Break _) _); exact SoundS.brk _)
  | ((with_reducible show SoundS _ (Stmt.Continue _) _); exact SoundS.cont _)
  | ((with_reducible show SoundS _ (Stmt.Return _ _) _); exact SoundS.ret (by walk_at "mE") _)
  | ((with_reducible show SoundS _ (Stmt.If _ _ _ _) _); exact SoundS.iff (by walk_at "mT") _ (by walk_at "mSs") (by walk_at "mSs"))
  | ((with_reducible show SoundS _ (Stmt.Assign [Expr.Tuple [_, _] _ _] (Expr.Tuple [Expr.List _ _, Expr.List _ _] _ _) _) _); exact SoundS.assign2N (by walk_at "mOk") rfl _ _ _ _ (by walk_at "mN") (by walk_at "mN") _ _ _ _ _ (by walk_at "mSt") (by walk_at "mSt") (by decide))
  | ((with_reducible show SoundS _ (Stmt.Assign [Expr.Tuple [_, _] _ _] _ _) _); first | exact SoundS.assignSwap (by walk_at "mOk") (mt := false) rfl (Tgts.cons _ _ (Tgts.cons _ _ Tgts.nil)) (by walk_at "mE") _ _ _ (by walk_at "mSts") (by rfl) | exact SoundS.assignTup (by walk_at "mOk") (mt := false) rfl (Tgts.cons _ _ (Tgts.cons _ _ Tgts.nil)) (by walk_at "mE") _ _ _ (by walk_at "mSts"))
  | ((with_reducible show SoundS _ (Stmt.Assign [Expr.Tuple [_, _, _] _ _] _ _) _); first | exact SoundS.assignSwap (by walk_at "mOk") (mt := false) rfl (Tgts.cons _ _ (Tgts.cons _ _ (Tgts.cons _ _ Tgts.nil))) (by walk_at "mE") _ _ _ (by walk_at "mSts") (by rfl) | exact SoundS.assignTup (by walk_at "mOk") (mt := false) rfl (Tgts.cons _ _ (Tgts.cons _ _ (Tgts.cons _ _ Tgts.nil))) (by walk_at "mE") _ _ _ (by walk_at "mSts"))
  | ((with_reducible show SoundS _ (Stmt.Assign [_, _] _ _) _); exact SoundS.assign2 (by walk_at "mOk") _ _ _ _ (by walk_at "mE") _ (by walk_at "mSt") (by walk_at "mSt"))
  | ((with_reducible show SoundS _ (Stmt.Assign [Expr.Subscript _ _ _] _ _) _); exact SoundS.setItem (by walk_at "mOk") _ _ _ _ (by walk_at "mE") (by walk_at "mE"))
  | ((with_reducible show SoundS _ (Stmt.Assign [Expr.Name _ _] (Expr.ListComp _ _ _ _) _) _); walk_at "mCoS")
  | ((with_reducible show SoundS _ (Stmt.Assign [Expr.Name _ _] (Expr.BinOp (Expr.List _ _) _ _ _) _) _); exact SoundS.assignN (by walk_at "mOk") rfl _ _ (by walk_at "mN") _ (by walk_at "mSt"))
  | ((with_reducible show SoundS _ (Stmt.Assign [Expr.Name _ _] (Expr.Call (Expr.Name (Str.ofString "sorted") _) _ _ _) _) _); exact SoundS.assignN (by walk_at "mOk") rfl _ _ (by walk_at "mN") _ (by walk_at "mSt"))
  | ((with_reducible show SoundS _ (Stmt.Assign [Expr.Name _ _] _ _) _); exact SoundS.assign (by walk_at "mOk") (mt := false) rfl _ _ (by walk_at "mE") _ (by walk_at "mSt"))
  | ((with_reducible show SoundS _ (Stmt.AugAssign _ _ _ _) _); exact SoundS.aug (by walk_at "mOk") (mt := false) rfl _ _ (by walk_at "mE") _ (by walk_at "mSt"))
  | ((with_reducible show SoundS _ (Stmt.Expr (Expr.Call (Expr.Attribute _ (Str.ofString "append") _) _ _ _) _) _); exact SoundS.append (by walk_at "mOk") _ _ _ _ _ (by walk_at "mE"))
  | ((with_reducible show SoundS _ (Stmt.Expr (Expr.Call (Expr.Attribute _ (Str.ofString "remove") _) _ _ _) _) _); exact SoundS.remove (by walk_at "mOk") _ _ _ _ _ (by walk_at "mE"))
  | ((with_reducible show SoundS _ (Stmt.For _ _ _ _ _) _); exact SoundS.for (by walk_at "mIt") (by walk_at "mTg") (by walk_at "mSs") _)
  | ((with_reducible show SoundS _ (Stmt.While _ _ _ _) _); exact SoundS.while 20 (by walk_at "mT") (by walk_at "mSs") _))

local macro_rules | `(tactic| walk_at "mX") => `(tactic| fail)
local macro_rules | `(tactic| walk_at "mCurX") => `(tactic| fail)
local macro_rules | `(tactic| walk_at "mCo") => `(tactic| fail)
local macro_rules | `(tactic| walk_at "mCoS") => `(tactic| fail)
noncomputable def inRangePack (w : World) : (den : DS) ×' WalkOf w false (fun _ _ => True) den (fdAt (hd.heap_39 w.params) 246) := by
  apply PSigma.mk
  conv => arg 5; whnf
  intro prog A B mg mb L f ok X _
  conv => arg 2; whnf
  walk_at "mSsD"
noncomputable def maximumPack (w : World) : (den : DS) ×' WalkOf w false (fun _ _ => True) den (fdAt (hd.heap_39 w.params) 239) := by
  apply PSigma.mk
  conv => arg 5; whnf
  intro prog A B mg mb L f ok X _
  conv => arg 2; whnf
  walk_at "mSsD"
end
section
open PySem PySem.Spec PySem.Calls PyProof.Rows PySem.W
set_option maxRecDepth 100000
set_option maxHeartbeats 8000000

def inRangeSpec : List PV → Option PV
  | [.str x] => if x.length = 1 then some (.bool (decide ((0 : Int) < x.cps.getD 0 0) && decide ((x.cps.getD 0 0 : Int) < 91))) else none
  | _ => none
theorem inRange_run (w : World) (x : Str) (h : x.length = 1) : ∃ σ', (inRangePack w).1 (setAll (fun _ => none) ["char"] [.str x]) = some (σ', .ret (.bool (decide ((0 : Int) < x.cps.getD 0 0) && decide ((x.cps.getD 0 0 : Int) < 91)))) := by
  unfold inRangePack
  dsimp only
  simp only [setAll, Store.set, seqS, seqE, Option.bind_some, Option.map_some, ordV, h, if_true, chainV, cmpV]
  generalize ((x.cps.getD 0 0 : Nat) : Int) = n
  by_cases h0 : 0 < n
  · simp [h0]
  · simp [h0]
theorem inRange_data (w : World) : ∃ fd den, FnData w 246 fd ["char"] false (fun _ _ => True) den ∧ (∀ v, bindArgs fd ⟨[v], []⟩ = pure ((["char"].map Str.ofString).zip [v])) ∧
    (∀ x : Str, x.length = 1 → ∃ σ', den (setAll (fun _ => none) ["char"] [.str x]) = some (σ', .ret (.bool (decide ((0 : Int) < x.cps.getD 0 0) && decide ((x.cps.getD 0 0 : Int) < 91))))) :=
  ⟨fdAt (hd.heap_39 w.params) 246, (inRangePack w).1, FnData.of (by rfl) ⟨by rfl, List.forall_mem_cons.mpr ⟨.inl (by rfl), List.forall_mem_nil _⟩, by rfl, by rfl, by rfl, by rfl, by rfl, by rfl⟩ (by rfl) (inRangePack w).2, fun v => by kernel_rfl, inRange_run w⟩
theorem inRange_runs {c : Cx} (e0 : Env0 c) (hA : c.A.handled = none) (hroom : c.A.depth < recursionLimit) : Runs c (.ref 246) [] c.B inRangeSpec := by
  intro s k pvs vs r e hr
  unfold inRangeSpec at e
  split at e
  · split at e
    · rename_i x hx; cases e
      obtain ⟨v, rfl⟩ := len1 hr.len
      obtain ⟨fd, den, D, hbind, hrun⟩ := inRange_data c.w
      obtain ⟨σ', hrun⟩ := hrun x hx
      have hb : BindV c fd ⟨[v], []⟩ s ["char"] false [.str x] := BindV.plain (hbind v) (hr.atoms (by rfl) false s.heap)
      have hR := run_fn e0 hA hroom D k hb (fun _ _ _ => trivial) rfl (by rfl) (fun h => nomatch h) hrun
      exact hR.mono fun v h' q => q.atoms (by rfl) _ _
    · cases e
  · cases e
theorem maximum_run (w : World) (a b : PV) : ∃ σ', (maximumPack w).1 (setAll (fun _ => none) ["self", "sequences"] [a, b]) = some (σ', .ret (.int 1)) := ⟨_, rfl⟩
def maximumSpec : List PV → Option PV
  | [.str _, .str _] => some (.int 1)
  | _ => none
theorem maximum_data (w : World) : ∃ fd den, FnData w 239 fd ["self", "sequences"] false (fun _ _ => True) den ∧ (∀ x v u, bindArgs fd ⟨[x, v, u], []⟩ = (newTuple [v, u] >>= fun t => pure ((["self", "sequences"].map Str.ofString).zip ([x] ++ [t])))) ∧
    (∀ a b, ∃ σ', den (setAll (fun _ => none) ["self", "sequences"] [a, b]) = some (σ', .ret (.int 1))) :=
  ⟨fdAt (hd.heap_39 w.params) 239, (maximumPack w).1, FnData.of (by rfl) ⟨by rfl, List.forall_mem_cons.mpr ⟨.inl (by rfl), List.forall_mem_cons.mpr ⟨.inl (by rfl), List.forall_mem_nil _⟩⟩, by rfl, by rfl, by rfl, by rfl, by rfl, by rfl⟩ (by rfl) (maximumPack w).2, fun x v u => by kernel_rfl, maximum_run w⟩
theorem maximum_runs {c : Cx} (e0 : Env0 c) (hA : c.A.handled = none) (hroom : c.A.depth < recursionLimit) (x : Addr) : Runs c (.ref 239) [.ref x] c.B maximumSpec := by
  intro s k pvs vs r e hr
  unfold maximumSpec at e
  split at e
  · rename_i a b
    cases e
    obtain ⟨v, u, rfl⟩ := len2 hr.len
    obtain ⟨fd, den, D, hbind, hrun⟩ := maximum_data c.w
    obtain ⟨σ', hrun⟩ := hrun (.obj (.ref x)) (.tup [.str a, .str b])
    have hb : BindV c fd ⟨[.ref x, v, u], []⟩ s ["self", "sequences"] false [.obj (.ref x), .tup [.str a, .str b]] :=
      BindV.star (fp := [.obj (.ref x)]) (front := [.ref x]) (rest := [v, u]) (rp := [.str a, .str b]) (hbind (.ref x) v u) (.cons (.imm (.obj _)) .nil) (hr.atoms (by rfl) false s.heap) (by rfl) (by simp)
    have hR := run_fn e0 hA hroom D k hb (fun _ _ _ => trivial) rfl (by rfl) (fun h => nomatch h) hrun
    exact hR.mono fun v h' q => q.atoms (by rfl) _ _
  · cases e
end
section
open PySem PySem.Spec PySem.Calls PyProof.Rows PySem.W
set_option maxRecDepth 100000
set_option maxHeartbeats 8000000
/-! what writes the walks -/
local macro_rules | `(tactic| walk_at "mOk") => `(tactic| first | with_reducible assumption | exact Cx.Ok.comp (by with_reducible assumption) rfl)
local macro_rules | `(tactic| walk_at "mNo") => `(tactic| exact mg_none_of (by with_reducible assumption) (Cx.Ok.g (by with_reducible assumption)) (by rfl))
local macro_rules | `(tactic| walk_at "mSt") => `(tactic| first | exact Or.inl rfl | exact Or.inr ⟨rfl, _, rfl⟩)
local macro_rules | `(tactic| walk_at "mSts") => `(tactic| first | exact List.forall_mem_nil _ | exact List.forall_mem_cons.mpr ⟨by walk_at "mSt", by walk_at "mSts"⟩)
local macro_rules | `(tactic| walk_at "mEs") => `(tactic| first | (with_reducible exact SoundEs.nil) | exact SoundEs.cons (by walk_at "mE") (by walk_at "mEs") (by intro _; rfl))
local macro_rules | `(tactic| walk_at "mTs") => `(tactic| first | (with_reducible exact SoundTs.nil) | exact SoundTs.cons (by walk_at "mT") (by walk_at "mTs"))
local macro_rules | `(tactic| walk_at "mP") => `(tactic| first | (with_reducible exact SoundP.no) | exact SoundP.at (by walk_at "mE"))
local macro_rules | `(tactic| walk_at "mE") => `(tactic| first
  | ((with_reducible show SoundE _ (Expr.Constant (Const.int _) _ _) _); exact SoundE.int _ _ _)
  | ((with_reducible show SoundE _ (Expr.Constant (Const.str _) _ _) _); exact SoundE.str _ _ _)
  | ((with_reducible show SoundE _ (Expr.Constant (Const.float _) _ _) _); exact SoundE.flt _ _ _)
  | ((with_reducible show SoundE _ (Expr.Constant (Const.bool _) _ _) _); exact SoundE.bool _ _ _)
  | ((with_reducible show SoundE _ (Expr.Constant Const.none _ _) _); exact SoundE.none_ _ _)
  | ((with_reducible show SoundE _ (Expr.Name _ _) _); first | exact SoundE.var (by walk_at "mOk") _ _)
  | ((with_reducible show SoundE _ (Expr.BinOp _ _ _ _) _); exact SoundE.bin (by walk_at "mOk") (by walk_at "mE") _ _ (by walk_at "mE"))
  | ((with_reducible show SoundE _ (Expr.Compare _ [_] [_] _) _); exact SoundE.cmp (by walk_at "mE") _ _ (by walk_at "mE"))
  | ((with_reducible show SoundE _ (Expr.Compare _ [_, _] [_, _] _) _); exact SoundE.chain (by walk_at "mE") _ _ _ (by walk_at "mE") (by walk_at "mE"))
  | ((with_reducible show SoundE _ (Expr.IfExp _ _ _ _) _); exact SoundE.ifexp (by walk_at "mT") _ (by walk_at "mE") (by walk_at "mE"))
  | ((with_reducible show SoundE _ (Expr.Tuple _ _ _) _); exact SoundE.tup (by walk_at "mEs") _ _)
  | ((with_reducible show SoundE _ (Expr.Subscript _ (Expr.Slice _ _ none _) _) _); exact SoundE.sliceStr (by walk_at "mE") (by walk_at "mP") (by walk_at "mP") _ _)
  | ((with_reducible show SoundE _ (Expr.Subscript _ _ _) _); exact SoundE.sub (by walk_at "mE") (by walk_at "mE") _)
  | ((with_reducible show SoundE _ (Expr.Call (Expr.Name (Str.ofString "len") _) [Expr.Call (Expr.Name (Str.ofString "set") _) _ _ _] _ _) _); exact SoundE.lenSet (by walk_at "mOk") _ _ _ _ _ _ (by rfl) (by walk_at "mNo") (by rfl) (by walk_at "mNo"))
  | ((with_reducible show SoundE _ (Expr.Call (Expr.Name (Str.ofString "all") _) _ _ _) _); exact SoundE.callB (by walk_at "mOk") (Str.ofString "all") _ _ (id := "all") (by rfl) (by rfl) (by walk_at "mNo") (allV_ok (by walk_at "mOk")) (by walk_at "mEs"))
  | ((with_reducible show SoundE _ (Expr.Call (Expr.Name (Str.ofString "len") _) _ _ _) _); exact SoundE.callB (by walk_at "mOk") (Str.ofString "len") _ _ (id := "len") (by rfl) (by rfl) (by walk_at "mNo") lenV_ok (by walk_at "mEs"))
  | ((with_reducible show SoundE _ (Expr.Call (Expr.Name (Str.ofString "max") _) _ _ _) _); exact SoundE.callB (by walk_at "mOk") (Str.ofString "max") _ _ (id := "max") (by rfl) (by rfl) (by walk_at "mNo") (maxV_ok (by walk_at "mOk")) (by walk_at "mEs"))
  | ((with_reducible show SoundE _ (Expr.Call (Expr.Name (Str.ofString "min") _) _ _ _) _); exact SoundE.callB (by walk_at "mOk") (Str.ofString "min") _ _ (id := "min") (by rfl) (by rfl) (by walk_at "mNo") (minV_ok (by walk_at "mOk")) (by walk_at "mEs"))
  | ((with_reducible show SoundE _ (Expr.Call (Expr.Name (Str.ofString "abs") _) _ _ _) _); exact SoundE.callB (by walk_at "mOk") (Str.ofString "abs") _ _ (id := "abs") (by rfl) (by rfl) (by walk_at "mNo") absV_ok (by walk_at "mEs"))
  | ((with_reducible show SoundE _ (Expr.Call (Expr.Name (Str.ofString "ord") _) _ _ _) _); exact SoundE.callB (by walk_at "mOk") (Str.ofString "ord") _ _ (id := "ord") (by rfl) (by rfl) (by walk_at "mNo") ordV_ok (by walk_at "mEs"))
  | ((with_reducible show SoundE _ (Expr.Call (Expr.Name (Str.ofString "any") _) _ _ _) _); exact SoundE.callB (by walk_at "mOk") (Str.ofString "any") _ _ (id := "any") (by rfl) (by rfl) (by walk_at "mNo") (anyV_ok (by walk_at "mOk")) (by walk_at "mEs"))
  | ((with_reducible show SoundE _ (Expr.Call (Expr.Attribute _ (Str.ofString "strip") _) _ _ _) _); exact SoundE.strip (by walk_at "mE") _ _)
  | ((with_reducible show SoundE _ (Expr.Call (Expr.Attribute _ (Str.ofString "upper") _) _ _ _) _); exact SoundE.upper (by walk_at "mE") _ _)
  | ((with_reducible show SoundE _ (Expr.Call (Expr.Attribute _ (Str.ofString "lower") _) _ _ _) _); exact SoundE.lower (by walk_at "mE") _ _)
  | ((with_reducible show SoundE _ (Expr.Call (Expr.Attribute _ (Str.ofString "isdigit") _) _ _ _) _); exact SoundE.isdigit (by walk_at "mE") _ _)
  | ((with_reducible show SoundE _ (Expr.Call (Expr.Attribute _ (Str.ofString "join") _) _ _ _) _); exact SoundE.join (by walk_at "mE") (by walk_at "mN") _ _)
  | ((with_reducible show SoundE _ (Expr.BoolOp BoolOp.And _ _) _); exact SoundE.and (by walk_at "mEs") _)
  | walk_at "mX"
  | exact SoundE.ofN (by walk_at "mN"))
local macro_rules | `(tactic| walk_at "mT") => `(tactic| first
  | ((with_reducible show SoundT _ (Expr.Compare _ [_] [_] _) _); exact SoundT.cmp (by walk_at "mE") _ _ (by walk_at "mE"))
  | ((with_reducible show SoundT _ (Expr.UnaryOp UnaryOp.Not _ _) _); exact SoundT.not (by walk_at "mT") _)
  | ((with_reducible show SoundT _ (Expr.BoolOp BoolOp.And _ _) _); exact SoundT.and (by walk_at "mTs") _)
  | ((with_reducible show SoundT _ (Expr.BoolOp BoolOp.Or _ _) _); exact SoundT.or (by walk_at "mTs") _)
  | exact SoundT.val (by walk_at "mE"))
local macro_rules | `(tactic| walk_at "mN") => `(tactic| first
  | ((with_reducible show SoundN _ (Expr.List _ _) _); exact SoundN.list (by walk_at "mEs") _)
  | ((with_reducible show SoundN _ (Expr.BinOp _ Operator.Mult _ _) _); exact SoundN.rep (by walk_at "mN") (by walk_at "mE") _)
  | ((with_reducible show SoundN _ (Expr.Call (Expr.Name (Str.ofString "sorted") _) _ _ _) _); exact SoundN.sorted (by walk_at "mOk") _ _ (by rfl) (by walk_at "mNo") (by walk_at "mEs"))
  | ((with_reducible show SoundN _ (Expr.Subscript _ (Expr.Slice _ _ none _) _) _); exact SoundN.sliceMid (by walk_at "mE") _ _ _ _ _ _ _ _)
  | ((with_reducible show SoundN _ (Expr.ListComp _ _ _ _) _); walk_at "mCo"))
local macro_rules | `(tactic| walk_at "mTgC") => `(tactic| first
  | exact CompTg.name rfl _ _ (by rfl)
  | exact CompTg.pair rfl (Cx.Ok.hh (by walk_at "mOk")) _ _ _ _ _ _ (by rfl) (by rfl) (by decide))
local macro_rules | `(tactic| walk_at "mIfs") => `(tactic| first | (with_reducible exact SoundIfs.nil) | exact SoundIfs.one (by walk_at "mT"))
local macro_rules | `(tactic| walk_at "mCur") => `(tactic| first
  | ((with_reducible show SoundCur _ _ (Expr.Call (Expr.Name (Str.ofString "range") _) [_] _ _) _); exact SoundIter.cur (SoundIter.range1 (by walk_at "mOk") _ _ (by rfl) (by walk_at "mNo") (by walk_at "mE")))
  | ((with_reducible show SoundCur _ _ (Expr.Subscript _ _ _) _); exact SoundIter.cur (SoundIter.new (by walk_at "mOk") (by walk_at "mN")))
  | walk_at "mCurX")
local macro_rules | `(tactic| walk_at "mCaps") => `(tactic| first | exact List.forall_mem_nil _ | exact List.forall_mem_cons.mpr ⟨⟨fun C => by first | exact Or.inl rfl | exact Or.inr rfl, by first | exact Or.inl rfl | exact Or.inr rfl, rfl⟩, by walk_at "mCaps"⟩)
local macro_rules | `(tactic| walk_at "mIt") => `(tactic| first
  | ((with_reducible show SoundIter _ _ (Expr.Call (Expr.Name (Str.ofString "range") _) [_] _ _) _); exact SoundIter.range1 (by walk_at "mOk") _ _ (by rfl) (by walk_at "mNo") (by walk_at "mE"))
  | ((with_reducible show SoundIter _ _ (Expr.Call (Expr.Name (Str.ofString "range") _) [_, _] _ _) _); exact SoundIter.range2 (by walk_at "mOk") _ _ (by rfl) (by walk_at "mNo") (by walk_at "mEs"))
  | ((with_reducible show SoundIter _ _ (Expr.Call (Expr.Name (Str.ofString "enumerate") _) _ _ _) _); exact SoundIter.enum (by walk_at "mOk") _ _ (by rfl) (by walk_at "mNo") (by walk_at "mE"))
  | ((with_reducible show SoundIter _ _ (Expr.Call (Expr.Name (Str.ofString "zip") _) _ _ _) _); exact SoundIter.zip (by walk_at "mOk") rfl _ _ (by rfl) (by walk_at "mNo") (by walk_at "mEs"))
  | exact SoundIter.new (by walk_at "mOk") (by walk_at "mN"))
local macro_rules | `(tactic| walk_at "mTg") => `(tactic| first
  | exact SoundTg.name (by walk_at "mOk") (mt := false) rfl _ _ (by walk_at "mSt")
  | exact SoundTg.pair (by walk_at "mOk") (mt := false) rfl _ _ _ _ _ _ (by walk_at "mSt") (by walk_at "mSt"))
local macro_rules | `(tactic| walk_at "mSs") => `(tactic| first | (with_reducible exact SoundSs.nil) | exact SoundSs.cons (by walk_at "mS") (by walk_at "mSs"))
local macro_rules | `(tactic| walk_at "mSsD") => `(tactic| first | (with_reducible exact SoundSs.nil) | exact SoundSs.cons (by walk_at "mS") (by walk_at "mSsD"))
local macro_rules | `(tactic| walk_at "mS") => `(tactic| first
  | ((with_reducible show SoundS _ (Stmt.Break _) _); exact SoundS.brk _)
  | ((with_reducible show SoundS _ (Stmt.Continue _) _); exact SoundS.cont _)
  | ((with_reducible show SoundS _ (Stmt.Return _ _) _); exact SoundS.ret (by walk_at "mE") _)
  | ((with_reducible show SoundS _ (Stmt.If _ _ _ _) _); exact SoundS.iff (by walk_at "mT") _ (by walk_at "mSs") (by walk_at "mSs"))
  | ((with_reducible show SoundS _ (Stmt.Assign [Expr.Tuple [_, _] _ _] (Expr.Tuple [Expr.List _ _, Expr.List _ _] _ _) _) _); exact SoundS.assign2N (by walk_at "mOk") rfl _ _ _ _ (by walk_at "mN") (by walk_at "mN") _ _ _ _ _ (by walk_at "mSt") (by walk_at "mSt") (by decide))
  | ((with_reducible show SoundS _ (Stmt.Assign [Expr.Tuple [_, _] _ _] _ _) _); first | exact SoundS.assignSwap (by walk_at "mOk") (mt := false) rfl (Tgts.cons _ _ (Tgts.cons _ _ Tgts.nil)) (by walk_at "mE") _ _ _ (by walk_at "mSts") (by rfl) | exact SoundS.assignTup (by walk_at "mOk") (mt := false) rfl (Tgts.cons _ _ (Tgts.cons _ _ Tgts.nil)) (by walk_at "mE") _ _ _ (by walk_at "mSts"))
  | ((with_reducible show SoundS _ (Stmt.Assign [Expr.Tuple [_, _, _] _ _] _ _) _); first | exact SoundS.assignSwap (by walk_at "mOk") (mt := false) rfl (Tgts.cons _ _ (Tgts.cons _ _ (Tgts.cons _ _ Tgts.nil))) (by walk_at "mE") _ _ _ (by walk_at "mSts") (by rfl) | exact SoundS.assignTup (by walk_at "mOk") (mt := false) rfl (Tgts.cons _ _ (Tgts.cons _ _ (Tgts.cons _ _ Tgts.nil))) (by walk_at "mE") _ _ _ (by walk_at "mSts"))
  | ((with_reducible show SoundS _ (Stmt.Assign [_, _] _ _) _); exact SoundS.assign2 (by walk_at "mOk") _ _ _ _ (by walk_at "mE") _ (by walk_at "mSt") (by walk_at "mSt"))
  | ((with_reducible show SoundS _ (Stmt.Assign [Expr.Subscript _ _ _] _ _) _); exact SoundS.setItem (by walk_at "mOk") _ _ _ _ (by walk_at "mE") (by walk_at "mE"))
  | ((with_reducible show SoundS _ (Stmt.Assign [Expr.Name _ _] (Expr.ListComp _ _ _ _) _) _); walk_at "mCoS")
  | ((with_reducible show SoundS _ (Stmt.Assign [Expr.Name _ _] (Expr.BinOp (Expr.List _ _) _ _ _) _) _); exact SoundS.assignN (by walk_at "mOk") rfl _ _ (by walk_at "mN") _ (by walk_at "mSt"))
  | ((with_reducible show SoundS _ (Stmt.Assign [Expr.Name _ _] (Expr.Call (Expr.Name (Str.ofString "sorted") _) _ _ _) _) _); exact SoundS.assignN (by walk_at "mOk") rfl _ _ (by walk_at "mN") _ (by walk_at "mSt"))
  | ((with_reducible show SoundS _ (Stmt.Assign [Expr.Name _ _] _ _) _); exact SoundS.assign (by walk_at "mOk") (mt := false) rfl _ _ (by walk_at "mE") _ (by walk_at "mSt"))
  | ((with_reducible show SoundS _ (Stmt.AugAssign _ _ _ _) _); exact SoundS.aug (by walk_at "mOk") (mt := false) rfl _ _ (by walk_at "mE") _ (by walk_at "mSt"))
  | ((with_reducible show SoundS _ (Stmt.Expr (Expr.Call (Expr.Attribute _ (Str.ofString "append") _) _ _ _) _) _); exact SoundS.append (by walk_at "mOk") _ _ _ _ _ (by walk_at "mE"))
  | ((with_reducible show SoundS _ (Stmt.Expr (Expr.Call (Expr.Attribute _ (Str.ofString "remove") _) _ _ _) _) _); exact SoundS.remove (by walk_at "mOk") _ _ _ _ _ (by walk_at "mE"))
  | ((with_reducible show SoundS _ (Stmt.For _ _ _ _ _) _); exact SoundS.for (by walk_at "mIt") (by walk_at "mTg") (by walk_at "mSs") _)
  | ((with_reducible show SoundS _ (Stmt.Try _ (_ :: _) [] [] _) _); exact SoundS.try (by walk_at "mSs") _)
  | ((with_reducible show SoundS _ (Stmt.While _ _ _ _) _); exact SoundS.while 20 (by walk_at "mT") (by walk_at "mSs") _))

local macro_rules | `(tactic| walk_at "mX") => `(tactic| first
  | ((with_reducible show SoundE _ (Expr.Call (Expr.Attribute (Expr.Name _ _) _ _) [Expr.Starred _ _] _ _) _); exact SoundE.methStar (by walk_at "mOk") _ _ _ _ _ _ _ _ (by with_reducible assumption))
  | ((with_reducible show SoundE _ (Expr.Call (Expr.Name _ _) [Expr.Starred _ _] _ _) _); exact SoundE.callOstar (by walk_at "mOk") _ _ _ _ _ _ (by with_reducible assumption)))
local macro_rules | `(tactic| walk_at "mCurX") => `(tactic| fail)
local macro_rules | `(tactic| walk_at "mCo") => `(tactic| fail)
local macro_rules | `(tactic| walk_at "mCoS") => `(tactic| fail)
noncomputable def identPack (w : World) : (den : DS) ×' WalkOf w false (fun _ _ => True) den (fdAt (hd.heap_39 w.params) 95) := by
  apply PSigma.mk
  conv => arg 5; whnf
  intro prog A B mg mb L f ok X _
  conv => arg 2; whnf
  walk_at "mSsD"
theorem ident_run (w : World) (a b : Str) : ∃ σ', (identPack w).1 (setAll (fun _ => none) ["elements"] [.tup [.str a, .str b]]) = some (σ', .ret (.bool (decide (a = b)))) := by
  unfold identPack
  dsimp only
  simp only [setAll, Store.set, seqS, if_true, Option.bind_some, Option.map_some, cmpV]
  by_cases h : a = b
  · simp [h]
  · simp [h]
def identSpec : List PV → Option PV
  | [.str a, .str b] => some (.bool (decide (a = b)))
  | _ => none
theorem ident_data (w : World) : ∃ fd den, FnData w 95 fd ["elements"] false (fun _ _ => True) den ∧ (∀ v u, bindArgs fd ⟨[v, u], []⟩ = (newTuple [v, u] >>= fun t => pure ((["elements"].map Str.ofString).zip ([] ++ [t])))) ∧
    (∀ a b, ∃ σ', den (setAll (fun _ => none) ["elements"] [.tup [.str a, .str b]]) = some (σ', .ret (.bool (decide (a = b))))) :=
  ⟨fdAt (hd.heap_39 w.params) 95, (identPack w).1, FnData.of (by rfl) ⟨by rfl, List.forall_mem_cons.mpr ⟨.inl (by rfl), List.forall_mem_nil _⟩, by rfl, by rfl, by rfl, by rfl, by rfl, by rfl⟩ (by rfl) (identPack w).2, fun v u => by kernel_rfl, ident_run w⟩
theorem ident_runs {c : Cx} (e0 : Env0 c) (hA : c.A.handled = none) (hroom : c.A.depth < recursionLimit) : Runs c (.ref 95) [] c.B identSpec := by
  intro s k pvs vs r e hr
  unfold identSpec at e
  split at e
  · rename_i a b
    cases e
    obtain ⟨v, u, rfl⟩ := len2 hr.len
    obtain ⟨fd, den, D, hbind, hrun⟩ := ident_data c.w
    obtain ⟨σ', hrun⟩ := hrun a b
    have hb : BindV c fd ⟨[v, u], []⟩ s ["elements"] false [.tup [.str a, .str b]] :=
      BindV.star (fp := []) (front := []) (rest := [v, u]) (rp := [.str a, .str b]) (hbind v u) .nil (hr.atoms (by rfl) false s.heap) (by rfl) (by simp)
    have hR := run_fn e0 hA hroom D k hb (fun _ _ _ => trivial) rfl (by rfl) (fun h => nomatch h) hrun
    exact hR.mono fun v h' q => q.atoms (by rfl) _ _
  · cases e
abbrev insDict (b : Bool) (h1 : Int) (t1 : Tok) (h2 : Int) (t2 : Tok) (n : Nat) : Obj := dictOf [⟨h1, .str (Str.ofString "long_strings") t1, .bool b⟩, ⟨h2, .str (Str.ofString "external") t2, .bool true⟩] n
/-- an instance of the class -/
def Ins (B : Heap) (x : Addr) (b : Bool) : Prop := ∃ ox h1 t1 h2 t2 n, InstAt B x ox 259 (some (insDict b h1 t1 h2 t2 n)) ∧ ox.data = .plain
theorem Ins.sub {B B' x b} (I : Ins B x b) (k : Sub B B') : Ins B' x b := let ⟨ox, h1, t1, h2, t2, n, i, d⟩ := I; ⟨ox, h1, t1, h2, t2, n, InstAt.sub i k, d⟩
theorem ident_get {c : Cx} (e0 : Env0 c) (hA : c.A.handled = none) (hroom : c.A.depth < recursionLimit) {x : Addr} {b : Bool} (I : Ins c.B x b) : GetA c (.ref x) (Str.ofString "_ident") (fun f h' => Callee c f [] h' identSpec) := by
  obtain ⟨ox, h1, t1, h2, t2, n, I, _⟩ := I
  exact GetA.sm e0.X I (by rfl) (by rfl) (by rfl) (by rfl) (by rfl) (Runs.callee e0.X (by rfl) (ident_runs e0 hA hroom))
end
section
open PySem PySem.Spec PySem.Calls PyProof.Rows PySem.W
set_option maxRecDepth 100000
set_option maxHeartbeats 8000000
/-! what writes the walks -/
local macro_rules | `(tactic| walk_at "mOk") => `(tactic| first | with_reducible assumption | exact Cx.Ok.comp (by with_reducible assumption) rfl)
local macro_rules | `(tactic| walk_at "mNo") => `(tactic| exact mg_none_of (by with_reducible assumption) (Cx.Ok.g (by with_reducible assumption)) (by rfl))
local macro_rules | `(tactic| walk_at "mSt") => `(tactic| first | exact Or.inl rfl | exact Or.inr ⟨rfl, _, rfl⟩)
local macro_rules | `(tactic| walk_at "mSts") => `(tactic| first | exact List.forall_mem_nil _ | exact List.forall_mem_cons.mpr ⟨by walk_at "mSt", by walk_at "mSts"⟩)
local macro_rules | `(tactic| walk_at "mEs") => `(tactic| first | (with_reducible exact SoundEs.nil) | exact SoundEs.cons (by walk_at "mE") (by walk_at "mEs") (by intro _; rfl))
local macro_rules | `(tactic| walk_at "mTs") => `(tactic| first | (with_reducible exact SoundTs.nil) | exact SoundTs.cons (by walk_at "mT") (by walk_at "mTs"))
local macro_rules | `(tactic| walk_at "mP") => `(tactic| first | (with_reducible exact SoundP.no) | exact SoundP.at (by walk_at "mE"))
local macro_rules | `(tactic| walk_at "mE") => `(tactic| first
  | ((with_reducible show SoundE _ (Expr.Constant (Const.int _) _ _) _); exact SoundE.int _ _ _)
  | ((with_reducible show SoundE _ (Expr.Constant (Const.str _) _ _) _); exact SoundE.str _ _ _)
  | ((with_reducible show SoundE _ (Expr.Constant (Const.float _) _ _) _); exact SoundE.flt _ _ _)
  | ((with_reducible show SoundE _ (Expr.Constant (Const.bool _) _ _) _); exact SoundE.bool _ _ _)
  | ((with_reducible show SoundE _ (Expr.Constant Const.none _ _) _); exact SoundE.none_ _ _)
  | ((with_reducible show SoundE _ (Expr.Name _ _) _); first | exact SoundE.var (by walk_at "mOk") _ _)
  | ((with_reducible show SoundE _ (Expr.BinOp _ _ _ _) _); exact SoundE.bin (by walk_at "mOk") (by walk_at "mE") _ _ (by walk_at "mE"))
  | ((with_reducible show SoundE _ (Expr.Compare _ [_] [_] _) _); exact SoundE.cmp (by walk_at "mE") _ _ (by walk_at "mE"))
  | ((with_reducible show SoundE _ (Expr.Compare _ [_, _] [_, _] _) _); exact SoundE.chain (by walk_at "mE") _ _ _ (by walk_at "mE") (by walk_at "mE"))
  | ((with_reducible show SoundE _ (Expr.IfExp _ _ _ _) _); exact SoundE.ifexp (by walk_at "mT") _ (by walk_at "mE") (by walk_at "mE"))
  | ((with_reducible show SoundE _ (Expr.Tuple _ _ _) _); exact SoundE.tup (by walk_at "mEs") _ _)
  | ((with_reducible show SoundE _ (Expr.Subscript _ (Expr.Slice _ _ none _) _) _); exact SoundE.sliceStr (by walk_at "mE") (by walk_at "mP") (by walk_at "mP") _ _)
  | ((with_reducible show SoundE _ (Expr.Subscript _ _ _) _); exact SoundE.sub (by walk_at "mE") (by walk_at "mE") _)
  | ((with_reducible show SoundE _ (Expr.Call (Expr.Name (Str.ofString "len") _) [Expr.Call (Expr.Name (Str.ofString "set") _) _ _ _] _ _) _); exact SoundE.lenSet (by walk_at "mOk") _ _ _ _ _ _ (by rfl) (by walk_at "mNo") (by rfl) (by walk_at "mNo"))
  | ((with_reducible show SoundE _ (Expr.Call (Expr.Name (Str.ofString "all") _) _ _ _) _); exact SoundE.callB (by walk_at "mOk") (Str.ofString "all") _ _ (id := "all") (by rfl) (by rfl) (by walk_at "mNo") (allV_ok (by walk_at "mOk")) (by walk_at "mEs"))
  | ((with_reducible show SoundE _ (Expr.Call (Expr.Name (Str.ofString "len") _) _ _ _) _); exact SoundE.callB (by walk_at "mOk") (Str.ofString "len") _ _ (id := "len") (by rfl) (by rfl) (by walk_at "mNo") lenV_ok (by walk_at "mEs"))
  | ((with_reducible show SoundE _ (Expr.Call (Expr.Name (Str.ofString "max") _) _ _ _) _); exact SoundE.callB (by walk_at "mOk") (Str.ofString "max") _ _ (id := "max") (by rfl) (by rfl) (by walk_at "mNo") (maxV_ok (by walk_at "mOk")) (by walk_at "mEs"))
  | ((with_reducible show SoundE _ (Expr.Call (Expr.Name (Str.ofString "min") _) _ _ _) _); exact SoundE.callB (by walk_at "mOk") (Str.ofString "min") _ _ (id := "min") (by rfl) (by rfl) (by walk_at "mNo") (minV_ok (by walk_at "mOk")) (by walk_at "mEs"))
  | ((with_reducible show SoundE _ (Expr.Call (Expr.Name (Str.ofString "abs") _) _ _ _) _); exact SoundE.callB (by walk_at "mOk") (Str.ofString "abs") _ _ (id := "abs") (by rfl) (by rfl) (by walk_at "mNo") absV_ok (by walk_at "mEs"))
  | ((with_reducible show SoundE _ (Expr.Call (Expr.Name (Str.ofString "ord") _) _ _ _) _); exact SoundE.callB (by walk_at "mOk") (Str.ofString "ord") _ _ (id := "ord") (by rfl) (by rfl) (by walk_at "mNo") ordV_ok (by walk_at "mEs"))
  | ((with_reducible show SoundE _ (Expr.Call (Expr.Name (Str.ofString "any") _) _ _ _) _); exact SoundE.callB (by walk_at "mOk") (Str.ofString "any") _ _ (id := "any") (by rfl) (by rfl) (by walk_at "mNo") (anyV_ok (by walk_at "mOk")) (by walk_at "mEs"))
  | ((with_reducible show SoundE _ (Expr.Call (Expr.Attribute _ (Str.ofString "strip") _) _ _ _) _); exact SoundE.strip (by walk_at "mE") _ _)
  | ((with_reducible show SoundE _ (Expr.Call (Expr.Attribute _ (Str.ofString "upper") _) _ _ _) _); exact SoundE.upper (by walk_at "mE") _ _)
  | ((with_reducible show SoundE _ (Expr.Call (Expr.Attribute _ (Str.ofString "lower") _) _ _ _) _); exact SoundE.lower (by walk_at "mE") _ _)
  | ((with_reducible show SoundE _ (Expr.Call (Expr.Attribute _ (Str.ofString "isdigit") _) _ _ _) _); exact SoundE.isdigit (by walk_at "mE") _ _)
  | ((with_reducible show SoundE _ (Expr.Call (Expr.Attribute _ (Str.ofString "join") _) _ _ _) _); exact SoundE.join (by walk_at "mE") (by walk_at "mN") _ _)
  | ((with_reducible show SoundE _ (Expr.BoolOp BoolOp.And _ _) _); exact SoundE.and (by walk_at "mEs") _)
  | walk_at "mX"
  | exact SoundE.ofN (by walk_at "mN"))
local macro_rules | `(tactic| walk_at "mT") => `(tactic| first
  | ((with_reducible show SoundT _ (Expr.Compare _ [_] [_] _) _); exact SoundT.cmp (by walk_at "mE") _ _ (by walk_at "mE"))
  | ((with_reducible show SoundT _ (Expr.UnaryOp UnaryOp.Not _ _) _); exact SoundT.not (by walk_at "mT") _)
  | ((with_reducible show SoundT _ (Expr.BoolOp BoolOp.And _ _) _); exact SoundT.and (by walk_at "mTs") _)
  | ((with_reducible show SoundT _ (Expr.BoolOp BoolOp.Or _ _) _); exact SoundT.or (by walk_at "mTs") _)
  | exact SoundT.val (by walk_at "mE"))
local macro_rules | `(tactic| walk_at "mN") => `(tactic| first
  | ((with_reducible show SoundN _ (Expr.List _ _) _); exact SoundN.list (by walk_at "mEs") _)
  | ((with_reducible show SoundN _ (Expr.BinOp _ Operator.Mult _ _) _); exact SoundN.rep (by walk_at "mN") (by walk_at "mE") _)
  | ((with_reducible show SoundN _ (Expr.Call (Expr.Name (Str.ofString "sorted") _) _ _ _) _); exact SoundN.sorted (by walk_at "mOk") _ _ (by rfl) (by walk_at "mNo") (by walk_at "mEs"))
  | ((with_reducible show SoundN _ (Expr.Subscript _ (Expr.Slice _ _ none _) _) _); exact SoundN.sliceMid (by walk_at "mE") _ _ _ _ _ _ _ _)
  | ((with_reducible show SoundN _ (Expr.ListComp _ _ _ _) _); walk_at "mCo"))
local macro_rules | `(tactic| walk_at "mTgC") => `(tactic| first
  | exact CompTg.name rfl _ _ (by rfl)
  | exact CompTg.pair rfl (Cx.Ok.hh (by walk_at "mOk")) _ _ _ _ _ _ (by rfl) (by rfl) (by decide))
local macro_rules | `(tactic| walk_at "mIfs") => `(tactic| first | (with_reducible exact SoundIfs.nil) | exact SoundIfs.one (by walk_at "mT"))
local macro_rules | `(tactic| walk_at "mCur") => `(tactic| first
  | ((with_reducible show SoundCur _ _ (Expr.Call (Expr.Name (Str.ofString "range") _) [_] _ _) _); exact SoundIter.cur (SoundIter.range1 (by walk_at "mOk") _ _ (by rfl) (by walk_at "mNo") (by walk_at "mE")))
  | ((with_reducible show SoundCur _ _ (Expr.Subscript _ _ _) _); exact SoundIter.cur (SoundIter.new (by walk_at "mOk") (by walk_at "mN")))
  | walk_at "mCurX")
local macro_rules | `(tactic| walk_at "mCaps") => `(tactic| first | exact List.forall_mem_nil _ | exact List.forall_mem_cons.mpr ⟨⟨fun C => by first | exact Or.inl rfl | exact Or.inr rfl, by first | exact Or.inl rfl | exact Or.inr rfl, rfl⟩, by walk_at "mCaps"⟩)
local macro_rules | `(tactic| walk_at "mIt") => `(tactic| first
  | ((with_reducible show SoundIter _ _ (Expr.Call (Expr.Name (Str.ofString "range") _) [_] _ _) _); exact SoundIter.range1 (by walk_at "mOk") _ _ (by rfl) (by walk_at "mNo") (by walk_at "mE"))
  | ((with_reducible show SoundIter _ _ (Expr.Call (Expr.Name (Str.ofString "range") _) [_, _] _ _) _); exact SoundIter.range2 (by walk_at "mOk") _ _ (by rfl) (by walk_at "mNo") (by walk_at "mEs"))
  | ((with_reducible show SoundIter _ _ (Expr.Call (Expr.Name (Str.ofString "enumerate") _) _ _ _) _); exact SoundIter.enum (by walk_at "mOk") _ _ (by rfl) (by walk_at "mNo") (by walk_at "mE"))
  | ((with_reducible show SoundIter _ _ (Expr.Call (Expr.Name (Str.ofString "zip") _) _ _ _) _); exact SoundIter.zip (by walk_at "mOk") rfl _ _ (by rfl) (by walk_at "mNo") (by walk_at "mEs"))
  | exact SoundIter.new (by walk_at "mOk") (by walk_at "mN"))
local macro_rules | `(tactic| walk_at "mTg") => `(tactic| first
  | exact SoundTg.name (by walk_at "mOk") (mt := false) rfl _ _ (by walk_at "mSt")
  | exact SoundTg.pair (by walk_at "mOk") (mt := false) rfl _ _ _ _ _ _ (by walk_at "mSt") (by walk_at "mSt"))
local macro_rules | `(tactic| walk_at "mSs") => `(tactic| first | (with_reducible exact SoundSs.nil) | exact SoundSs.cons (by walk_at "mS") (by walk_at "mSs"))
local macro_rules | `(tactic| walk_at "mSsD") => `(tactic| first | (with_reducible exact SoundSs.nil) | exact SoundSs.cons (by walk_at "mS") (by walk_at "mSsD"))
local macro_rules | `(tactic| walk_at "mS") => `(tactic| first
  | ((with_reducible show SoundS _ (Stmt.Break _) _); exact SoundS.brk _)
  | ((with_reducible show SoundS _ (Stmt.Continue _) _); exact SoundS.cont _)
  | ((with_reducible show SoundS _ (Stmt.Return _ _) _); exact SoundS.ret (by walk_at "mE") _)
  | ((with_reducible show SoundS _ (Stmt.If _ _ _ _) _); exact SoundS.iff (by walk_at "mT") _ (by walk_at "mSs") (by walk_at "mSs"))
  | ((with_reducible show SoundS _ (Stmt.Assign [Expr.Tuple [_, _] _ _] (Expr.Tuple [Expr.List _ _, Expr.List _ _] _ _) _) _); exact SoundS.assign2N (by walk_at "mOk") rfl _ _ _ _ (by walk_at "mN") (by walk_at "mN") _ _ _ _ _ (by walk_at "mSt") (by walk_at "mSt") (by decide))
  | ((with_reducible show SoundS _ (Stmt.Assign [Expr.Tuple [_, _] _ _] _ _) _); first | exact SoundS.assignSwap (by walk_at "mOk") (mt := false) rfl (Tgts.cons _ _ (Tgts.cons _ _ Tgts.nil)) (by walk_at "mE") _ _ _ (by walk_at "mSts") (by rfl) | exact SoundS.assignTup (by walk_at "mOk") (mt := false) rfl (Tgts.cons _ _ (Tgts.cons _ _ Tgts.nil)) (by walk_at "mE") _ _ _ (by walk_at "mSts"))
  | ((with_reducible show SoundS _ (Stmt.Assign [Expr.Tuple [_, _, _] _ _] _ _) _); first | exact SoundS.assignSwap (by walk_at "mOk") (mt := false) rfl (Tgts.cons _ _ (Tgts.cons _ _ (Tgts.cons _ _ Tgts.nil))) (by walk_at "mE") _ _ _ (by walk_at "mSts") (by rfl) | exact SoundS.assignTup (by walk_at "mOk") (mt := false) rfl (Tgts.cons _ _ (Tgts.cons _ _ (Tgts.cons _ _ Tgts.nil))) (by walk_at "mE") _ _ _ (by walk_at "mSts"))
  | ((with_reducible show SoundS _ (Stmt.Assign [_, _] _ _) _); exact SoundS.assign2 (by walk_at "mOk") _ _ _ _ (by walk_at "mE") _ (by walk_at "mSt") (by walk_at "mSt"))
  | ((with_reducible show SoundS _ (Stmt.Assign [Expr.Subscript _ _ _] _ _) _); exact SoundS.setItem (by walk_at "mOk") _ _ _ _ (by walk_at "mE") (by walk_at "mE"))
  | ((with_reducible show SoundS _ (Stmt.Assign [Expr.Name _ _] (Expr.ListComp _ _ _ _) _) _); walk_at "mCoS")
  | ((with_reducible show SoundS _ (Stmt.Assign [Expr.Name _ _] (Expr.BinOp (Expr.List _ _) _ _ _) _) _); exact SoundS.assignN (by walk_at "mOk") rfl _ _ (by walk_at "mN") _ (by walk_at "mSt"))
  | ((with_reducible show SoundS _ (Stmt.Assign [Expr.Name _ _] (Expr.Call (Expr.Name (Str.ofString "sorted") _) _ _ _) _) _); exact SoundS.assignN (by walk_at "mOk") rfl _ _ (by walk_at "mN") _ (by walk_at "mSt"))
  | ((with_reducible show SoundS _ (Stmt.Assign [Expr.Name _ _] _ _) _); exact SoundS.assign (by walk_at "mOk") (mt := false) rfl _ _ (by walk_at "mE") _ (by walk_at "mSt"))
  | ((with_reducible show SoundS _ (Stmt.AugAssign _ _ _ _) _); exact SoundS.aug (by walk_at "mOk") (mt := false) rfl _ _ (by walk_at "mE") _ (by walk_at "mSt"))
  | ((with_reducible show SoundS _ (Stmt.Expr (Expr.Call (Expr.Attribute _ (Str.ofString "append") _) _ _ _) _) _); exact SoundS.append (by walk_at "mOk") _ _ _ _ _ (by walk_at "mE"))
  | ((with_reducible show SoundS _ (Stmt.Expr (Expr.Call (Expr.Attribute _ (Str.ofString "remove") _) _ _ _) _) _); exact SoundS.remove (by walk_at "mOk") _ _ _ _ _ (by walk_at "mE"))
  | ((with_reducible show SoundS _ (Stmt.For _ _ _ _ _) _); exact SoundS.for (by walk_at "mIt") (by walk_at "mTg") (by walk_at "mSs") _)
  | ((with_reducible show SoundS _ (Stmt.Try _ (_ :: _) [] [] _) _); exact SoundS.try (by walk_at "mSs") _)
  | ((with_reducible show SoundS _ (Stmt.While _ _ _ _) _); exact SoundS.while 20 (by walk_at "mT") (by walk_at "mSs") _))

local macro_rules | `(tactic| walk_at "mX") => `(tactic| first
  | ((with_reducible show SoundE _ (Expr.Call (Expr.Attribute (Expr.Name _ _) _ _) [Expr.Starred _ _] _ _) _); exact SoundE.methStar (by walk_at "mOk") _ _ _ _ _ _ _ _ (by with_reducible assumption))
  | ((with_reducible show SoundE _ (Expr.Call (Expr.Name _ _) [Expr.Starred _ _] _ _) _); exact SoundE.callOstar (by walk_at "mOk") _ _ _ _ _ _ (by with_reducible assumption)))
local macro_rules | `(tactic| walk_at "mCurX") => `(tactic| fail)
local macro_rules | `(tactic| walk_at "mCo") => `(tactic| fail)
local macro_rules | `(tactic| walk_at "mCoS") => `(tactic| fail)
theorem maximum_get {c : Cx} (e0 : Env0 c) (hA : c.A.handled = none) (hroom : c.A.depth < recursionLimit) {x : Addr} {b : Bool} (I : Ins c.B x b) : GetA c (.ref x) (Str.ofString "maximum") (fun f h' => Callee c f [] h' maximumSpec) := by
  obtain ⟨ox, h1, t1, h2, t2, n, I, _⟩ := I
  exact GetA.fn e0.X I (by rfl) (by rfl) (by rfl) (by rfl) (by rfl) (maximum_runs e0 hA hroom x)
noncomputable def quickPack (w : World) (x : Addr) (b : Bool) : (den : DS) ×' WalkOf w false (fun A B => A.depth < recursionLimit ∧ Ins B x b) den (fdAt (hd.heap_39 w.params) 175) := by
  apply PSigma.mk
  conv => arg 5; whnf
  intro prog A B mg mb L f ok X pre
  have e0 := Env0.mk ok X (by rfl) (by rfl)
  have g1 := ident_get e0 ok.hh pre.1 pre.2
  have g2 := maximum_get e0 ok.hh pre.1 pre.2
  conv => arg 2; whnf
  walk_at "mSsD"
def quickSpec : List PV → Option PV
  | [.str a, .str b] => if a.length < 1000 ∧ b.length < 1000 then some (if a = b then .int 1 else if a.length = 0 ∨ b.length = 0 then .int 0 else .none) else none
  | _ => none
theorem quick_run (w : World) (x : Addr) (bb : Bool) (a b : Str) (ha : a.length < 1000) (hb : b.length < 1000) : ∃ σ', (quickPack w x bb).1 (setAll (fun _ => none) ["self", "sequences"] [.obj (.ref x), .tup [.str a, .str b]]) = some (σ', .ret (if a = b then .int 1 else if a.length = 0 ∨ b.length = 0 then .int 0 else .none)) := by
  unfold quickPack
  dsimp only
  by_cases h : a = b
  · subst h
    simp [setAll, Store.set, seqS, skipS, seqE, truthV, lenV, allV, strsOf, cmpV, identSpec, maximumSpec, ha]
  · by_cases h1 : a.length = 0
    · simp [setAll, Store.set, seqS, skipS, seqE, truthV, lenV, allV, strsOf, cmpV, identSpec, maximumSpec, ha, hb, h, h1]
    · by_cases h2 : b.length = 0
      · simp [setAll, Store.set, seqS, skipS, seqE, truthV, lenV, allV, strsOf, cmpV, identSpec, maximumSpec, ha, hb, h, h1, h2]
      · simp [setAll, Store.set, seqS, skipS, seqE, truthV, lenV, allV, strsOf, cmpV, identSpec, maximumSpec, ha, hb, h, h1, h2]
theorem quick_data (w : World) (x : Addr) (bb : Bool) : ∃ fd den, FnData w 175 fd ["self", "sequences"] false (fun A B => A.depth < recursionLimit ∧ Ins B x bb) den ∧ (∀ x v u, bindArgs fd ⟨[x, v, u], []⟩ = (newTuple [v, u] >>= fun t => pure ((["self", "sequences"].map Str.ofString).zip ([x] ++ [t])))) ∧
    (∀ a b : Str, a.length < 1000 → b.length < 1000 → ∃ σ', den (setAll (fun _ => none) ["self", "sequences"] [.obj (.ref x), .tup [.str a, .str b]]) = some (σ', .ret (if a = b then .int 1 else if a.length = 0 ∨ b.length = 0 then .int 0 else .none))) :=
  ⟨fdAt (hd.heap_39 w.params) 175, (quickPack w x bb).1, FnData.of (by rfl) ⟨by rfl, List.forall_mem_cons.mpr ⟨.inl (by rfl), List.forall_mem_cons.mpr ⟨.inl (by rfl), List.forall_mem_nil _⟩⟩, by rfl, by rfl, by rfl, by rfl, by rfl, by rfl⟩ (by rfl) (quickPack w x bb).2, fun x v u => by kernel_rfl, quick_run w x bb⟩
theorem quick_runs {c : Cx} (e0 : Env0 c) (hA : c.A.handled = none) (hroom : c.A.depth + 1 < recursionLimit) {x : Addr} {b : Bool} (I : Ins c.B x b) : Runs c (.ref 175) [.ref x] c.B quickSpec := by
  intro s k pvs vs r e hr
  unfold quickSpec at e
  split at e
  · rename_i a b'
    split at e
    · rename_i hlen
      cases e
      obtain ⟨v, u, rfl⟩ := len2 hr.len
      obtain ⟨fd, den, D, hbind, hrun⟩ := quick_data c.w x b
      obtain ⟨σ', hrun⟩ := hrun a b' hlen.1 hlen.2
      have hb : BindV c fd ⟨[.ref x, v, u], []⟩ s ["self", "sequences"] false [.obj (.ref x), .tup [.str a, .str b']] :=
        BindV.star (fp := [.obj (.ref x)]) (front := [.ref x]) (rest := [v, u]) (rp := [.str a, .str b']) (hbind (.ref x) v u) (.cons (.imm (.obj _)) .nil) (hr.atoms (by rfl) false s.heap) (by rfl) (by simp)
      have hR := run_fn e0 hA (Nat.lt_of_succ_lt hroom) D k hb (fun h L q => ⟨hroom, I.sub (k.trans q)⟩) rfl (by rfl) (fun h => nomatch h) hrun
      exact hR.mono fun v h' q => q.atoms (by (repeat (first | rfl | split))) _ _
    · cases e
  · cases e
theorem quick_get {c : Cx} (e0 : Env0 c) {x : Addr} {b : Bool} (I : Ins c.B x b) : GetM c (.ref x) (Str.ofString "quick_answer") (.ref 175) [.ref x] := by
  obtain ⟨ox, h1, t1, h2, t2, n, I, _⟩ := I
  exact GetM.fn e0.X I (by rfl) (by rfl) (by rfl) (by rfl) (by rfl)
theorem quick_callee {c : Cx} (e0 : Env0 c) (hA : c.A.handled = none) (hroom : c.A.depth + 1 < recursionLimit) {x : Addr} {b : Bool} (I : Ins c.B x b) : Callee c (.ref 175) [.ref x] c.B quickSpec :=
  Runs.callee e0.X (by rfl) (quick_runs e0 hA hroom I)
theorem inRange_get {c : Cx} (e0 : Env0 c) {x : Addr} {b : Bool} (I : Ins c.B x b) : GetM c (.ref x) (Str.ofString "_in_range") (.ref 246) [] := by
  obtain ⟨ox, h1, t1, h2, t2, n, I, _⟩ := I
  exact GetM.sm e0.X I (by rfl) (by rfl) (by rfl) (by rfl) (by rfl) (by rfl) (by rfl)
theorem inRange_callee {c : Cx} (e0 : Env0 c) (hA : c.A.handled = none) (hroom : c.A.depth < recursionLimit) : Callee c (.ref 246) [] c.B inRangeSpec :=
  Runs.callee e0.X (by rfl) (inRange_runs e0 hA hroom)
theorem long_get {c : Cx} (e0 : Env0 c) {x : Addr} {b : Bool} (I : Ins c.B x b) : GetA c (.ref x) (Str.ofString "long_strings") (fun u h' => Rep c.mt h' (.bool b) u) := by
  obtain ⟨ox, h1, t1, h2, t2, n, I, _⟩ := I
  exact GetA.val e0.X I (by rfl) (v := .bool b) (by rfl) (by rfl) (.imm (.bool b))
end
section
open PySem PySem.Spec PySem.Calls PyProof.Rows PySem.W
set_option maxRecDepth 100000
set_option maxHeartbeats 8000000
/-! what writes the walks -/
local macro_rules | `(tactic| walk_at "mOk") => `(tactic| first | with_reducible assumption | exact Cx.Ok.comp (by with_reducible assumption) rfl)
local macro_rules | `(tactic| walk_at "mNo") => `(tactic| exact mg_none_of (by with_reducible assumption) (Cx.Ok.g (by with_reducible assumption)) (by rfl))
local macro_rules | `(tactic| walk_at "mSt") => `(tactic| first | exact Or.inl rfl | exact Or.inr ⟨rfl, _, rfl⟩)
local macro_rules | `(tactic| walk_at "mSts") => `(tactic| first | exact List.forall_mem_nil _ | exact List.forall_mem_cons.mpr ⟨by walk_at "mSt", by walk_at "mSts"⟩)
local macro_rules | `(tactic| walk_at "mEs") => `(tactic| first | (with_reducible exact SoundEs.nil) | exact SoundEs.cons (by walk_at "mE") (by walk_at "mEs") (by intro _; rfl))
local macro_rules | `(tactic| walk_at "mTs") => `(tactic| first | (with_reducible exact SoundTs.nil) | exact SoundTs.cons (by walk_at "mT") (by walk_at "mTs"))
local macro_rules | `(tactic| walk_at "mP") => `(tactic| first | (with_reducible exact SoundP.no) | exact SoundP.at (by walk_at "mE"))
local macro_rules | `(tactic| walk_at "mE") => `(tactic| first
  | walk_at "mX0"
  | ((with_reducible show SoundE _ (Expr.Constant (Const.int _) _ _) _); exact SoundE.int _ _ _)
  | ((with_reducible show SoundE _ (Expr.Constant (Const.str _) _ _) _); exact SoundE.str _ _ _)
  | ((with_reducible show SoundE _ (Expr.Constant (Const.float _) _ _) _); exact SoundE.flt _ _ _)
  | ((with_reducible show SoundE _ (Expr.Constant (Const.bool _) _ _) _); exact SoundE.bool _ _ _)
  | ((with_reducible show SoundE _ (Expr.Constant Const.none _ _) _); exact SoundE.none_ _ _)
  | ((with_reducible show SoundE _ (Expr.Name _ _) _); first | exact SoundE.var (by walk_at "mOk") _ _)
  | ((with_reducible show SoundE _ (Expr.BinOp _ _ _ _) _); exact SoundE.bin (by walk_at "mOk") (by walk_at "mE") _ _ (by walk_at "mE"))
  | ((with_reducible show SoundE _ (Expr.Compare _ [_] [_] _) _); exact SoundE.cmp (by walk_at "mE") _ _ (by walk_at "mE"))
  | ((with_reducible show SoundE _ (Expr.Compare _ [_, _] [_, _] _) _); exact SoundE.chain (by walk_at "mE") _ _ _ (by walk_at "mE") (by walk_at "mE"))
  | ((with_reducible show SoundE _ (Expr.IfExp _ _ _ _) _); exact SoundE.ifexp (by walk_at "mT") _ (by walk_at "mE") (by walk_at "mE"))
  | ((with_reducible show SoundE _ (Expr.Tuple _ _ _) _); exact SoundE.tup (by walk_at "mEs") _ _)
  | ((with_reducible show SoundE _ (Expr.Subscript _ (Expr.Slice _ _ none _) _) _); exact SoundE.sliceStr (by walk_at "mE") (by walk_at "mP") (by walk_at "mP") _ _)
  | ((with_reducible show SoundE _ (Expr.Subscript _ _ _) _); exact SoundE.sub (by walk_at "mE") (by walk_at "mE") _)
  | ((with_reducible show SoundE _ (Expr.Call (Expr.Name (Str.ofString "len") _) [Expr.Call (Expr.Name (Str.ofString "set") _) _ _ _] _ _) _); exact SoundE.lenSet (by walk_at "mOk") _ _ _ _ _ _ (by rfl) (by walk_at "mNo") (by rfl) (by walk_at "mNo"))
  | ((with_reducible show SoundE _ (Expr.Call (Expr.Name (Str.ofString "all") _) _ _ _) _); exact SoundE.callB (by walk_at "mOk") (Str.ofString "all") _ _ (id := "all") (by rfl) (by rfl) (by walk_at "mNo") (allV_ok (by walk_at "mOk")) (by walk_at "mEs"))
  | ((with_reducible show SoundE _ (Expr.Call (Expr.Name (Str.ofString "len") _) _ _ _) _); exact SoundE.callB (by walk_at "mOk") (Str.ofString "len") _ _ (id := "len") (by rfl) (by rfl) (by walk_at "mNo") lenV_ok (by walk_at "mEs"))
  | ((with_reducible show SoundE _ (Expr.Call (Expr.Name (Str.ofString "max") _) _ _ _) _); exact SoundE.callB (by walk_at "mOk") (Str.ofString "max") _ _ (id := "max") (by rfl) (by rfl) (by walk_at "mNo") (maxV_ok (by walk_at "mOk")) (by walk_at "mEs"))
  | ((with_reducible show SoundE _ (Expr.Call (Expr.Name (Str.ofString "min") _) _ _ _) _); exact SoundE.callB (by walk_at "mOk") (Str.ofString "min") _ _ (id := "min") (by rfl) (by rfl) (by walk_at "mNo") (minV_ok (by walk_at "mOk")) (by walk_at "mEs"))
  | ((with_reducible show SoundE _ (Expr.Call (Expr.Name (Str.ofString "abs") _) _ _ _) _); exact SoundE.callB (by walk_at "mOk") (Str.ofString "abs") _ _ (id := "abs") (by rfl) (by rfl) (by walk_at "mNo") absV_ok (by walk_at "mEs"))
  | ((with_reducible show SoundE _ (Expr.Call (Expr.Name (Str.ofString "ord") _) _ _ _) _); exact SoundE.callB (by walk_at "mOk") (Str.ofString "ord") _ _ (id := "ord") (by rfl) (by rfl) (by walk_at "mNo") ordV_ok (by walk_at "mEs"))
  | ((with_reducible show SoundE _ (Expr.Call (Expr.Name (Str.ofString "any") _) _ _ _) _); exact SoundE.callB (by walk_at "mOk") (Str.ofString "any") _ _ (id := "any") (by rfl) (by rfl) (by walk_at "mNo") (anyV_ok (by walk_at "mOk")) (by walk_at "mEs"))
  | ((with_reducible show SoundE _ (Expr.Call (Expr.Attribute _ (Str.ofString "strip") _) _ _ _) _); exact SoundE.strip (by walk_at "mE") _ _)
  | ((with_reducible show SoundE _ (Expr.Call (Expr.Attribute _ (Str.ofString "upper") _) _ _ _) _); exact SoundE.upper (by walk_at "mE") _ _)
  | ((with_reducible show SoundE _ (Expr.Call (Expr.Attribute _ (Str.ofString "lower") _) _ _ _) _); exact SoundE.lower (by walk_at "mE") _ _)
  | ((with_reducible show SoundE _ (Expr.Call (Expr.Attribute _ (Str.ofString "isdigit") _) _ _ _) _); exact SoundE.isdigit (by walk_at "mE") _ _)
  | ((with_reducible show SoundE _ (Expr.Call (Expr.Attribute _ (Str.ofString "join") _) _ _ _) _); exact SoundE.join (by walk_at "mE") (by walk_at "mN") _ _)
  | ((with_reducible show SoundE _ (Expr.BoolOp BoolOp.And _ _) _); exact SoundE.and (by walk_at "mEs") _)
  | walk_at "mX"
  | exact SoundE.ofN (by walk_at "mN"))
local macro_rules | `(tactic| walk_at "mT") => `(tactic| first
  | walk_at "mXT"
  | ((with_reducible show SoundT _ (Expr.Compare _ [_] [_] _) _); exact SoundT.cmp (by walk_at "mE") _ _ (by walk_at "mE"))
  | ((with_reducible show SoundT _ (Expr.UnaryOp UnaryOp.Not _ _) _); exact SoundT.not (by walk_at "mT") _)
  | ((with_reducible show SoundT _ (Expr.BoolOp BoolOp.And _ _) _); exact SoundT.and (by walk_at "mTs") _)
  | ((with_reducible show SoundT _ (Expr.BoolOp BoolOp.Or _ _) _); exact SoundT.or (by walk_at "mTs") _)
  | exact SoundT.val (by walk_at "mE"))
local macro_rules | `(tactic| walk_at "mN") => `(tactic| first
  | ((with_reducible show SoundN _ (Expr.List _ _) _); exact SoundN.list (by walk_at "mEs") _)
  | ((with_reducible show SoundN _ (Expr.BinOp _ Operator.Mult _ _) _); exact SoundN.rep (by walk_at "mN") (by walk_at "mE") _)
  | ((with_reducible show SoundN _ (Expr.Call (Expr.Name (Str.ofString "sorted") _) _ _ _) _); exact SoundN.sorted (by walk_at "mOk") _ _ (by rfl) (by walk_at "mNo") (by walk_at "mEs"))
  | ((with_reducible show SoundN _ (Expr.Subscript _ (Expr.Slice _ _ none _) _) _); exact SoundN.sliceMid (by walk_at "mE") _ _ _ _ _ _ _ _)
  | ((with_reducible show SoundN _ (Expr.ListComp _ _ _ _) _); walk_at "mCo"))
local macro_rules | `(tactic| walk_at "mTgC") => `(tactic| first
  | exact CompTg.name rfl _ _ (by rfl)
  | exact CompTg.pair rfl (Cx.Ok.hh (by walk_at "mOk")) _ _ _ _ _ _ (by rfl) (by rfl) (by decide))
local macro_rules | `(tactic| walk_at "mIfs") => `(tactic| first | (with_reducible exact SoundIfs.nil) | exact SoundIfs.one (by walk_at "mT"))
local macro_rules | `(tactic| walk_at "mCur") => `(tactic| first
  | ((with_reducible show SoundCur _ _ (Expr.Call (Expr.Name (Str.ofString "range") _) [_] _ _) _); exact SoundIter.cur (SoundIter.range1 (by walk_at "mOk") _ _ (by rfl) (by walk_at "mNo") (by walk_at "mE")))
  | ((with_reducible show SoundCur _ _ (Expr.Subscript _ _ _) _); exact SoundIter.cur (SoundIter.new (by walk_at "mOk") (by walk_at "mN")))
  | walk_at "mCurX")
local macro_rules | `(tactic| walk_at "mCaps") => `(tactic| first | exact List.forall_mem_nil _ | exact List.forall_mem_cons.mpr ⟨⟨fun C => by first | exact Or.inl rfl | exact Or.inr rfl, by first | exact Or.inl rfl | exact Or.inr rfl, rfl⟩, by walk_at "mCaps"⟩)
local macro_rules | `(tactic| walk_at "mIt") => `(tactic| first
  | ((with_reducible show SoundIter _ _ (Expr.Call (Expr.Name (Str.ofString "range") _) [_] _ _) _); exact SoundIter.range1 (by walk_at "mOk") _ _ (by rfl) (by walk_at "mNo") (by walk_at "mE"))
  | ((with_reducible show SoundIter _ _ (Expr.Call (Expr.Name (Str.ofString "range") _) [_, _] _ _) _); exact SoundIter.range2 (by walk_at "mOk") _ _ (by rfl) (by walk_at "mNo") (by walk_at "mEs"))
  | ((with_reducible show SoundIter _ _ (Expr.Call (Expr.Name (Str.ofString "enumerate") _) _ _ _) _); exact SoundIter.enum (by walk_at "mOk") _ _ (by rfl) (by walk_at "mNo") (by walk_at "mE"))
  | ((with_reducible show SoundIter _ _ (Expr.Call (Expr.Name (Str.ofString "zip") _) _ _ _) _); exact SoundIter.zip (by walk_at "mOk") rfl _ _ (by rfl) (by walk_at "mNo") (by walk_at "mEs"))
  | exact SoundIter.new (by walk_at "mOk") (by walk_at "mN"))
local macro_rules | `(tactic| walk_at "mTg") => `(tactic| first
  | exact SoundTg.name (by walk_at "mOk") (mt := true) rfl _ _ (by walk_at "mSt")
  | exact SoundTg.pair (by walk_at "mOk") (mt := true) rfl _ _ _ _ _ _ (by walk_at "mSt") (by walk_at "mSt"))
local macro_rules | `(tactic| walk_at "mSs") => `(tactic| first | (with_reducible exact SoundSs.nil) | exact SoundSs.cons (by walk_at "mS") (by walk_at "mSs"))
local macro_rules | `(tactic| walk_at "mSsD") => `(tactic| first | (with_reducible exact SoundSs.nil) | exact SoundSs.cons (by walk_at "mS") (by walk_at "mSsD"))
local macro_rules | `(tactic| walk_at "mS") => `(tactic| first
  | ((with_reducible show SoundS _ (Stmt.Break _) _); exact SoundS.brk _)
  | ((with_reducible show SoundS _ (Stmt.Continue _) _); exact SoundS.cont _)
  | ((with_reducible show SoundS _ (Stmt.Return _ _) _); exact SoundS.ret (by walk_at "mE") _)
  | ((with_reducible show SoundS _ (Stmt.If _ _ _ _) _); exact SoundS.iff (by walk_at "mT") _ (by walk_at "mSs") (by walk_at "mSs"))
  | ((with_reducible show SoundS _ (Stmt.Assign [Expr.Tuple [_, _] _ _] (Expr.Tuple [Expr.List _ _, Expr.List _ _] _ _) _) _); exact SoundS.assign2N (by walk_at "mOk") rfl _ _ _ _ (by walk_at "mN") (by walk_at "mN") _ _ _ _ _ (by walk_at "mSt") (by walk_at "mSt") (by decide))
  | ((with_reducible show SoundS _ (Stmt.Assign [Expr.Tuple [_, _] _ _] _ _) _); first | exact SoundS.assignSwap (by walk_at "mOk") (mt := true) rfl (Tgts.cons _ _ (Tgts.cons _ _ Tgts.nil)) (by walk_at "mE") _ _ _ (by walk_at "mSts") (by rfl) | exact SoundS.assignTup (by walk_at "mOk") (mt := true) rfl (Tgts.cons _ _ (Tgts.cons _ _ Tgts.nil)) (by walk_at "mE") _ _ _ (by walk_at "mSts"))
  | ((with_reducible show SoundS _ (Stmt.Assign [Expr.Tuple [_, _, _] _ _] _ _) _); first | exact SoundS.assignSwap (by walk_at "mOk") (mt := true) rfl (Tgts.cons _ _ (Tgts.cons _ _ (Tgts.cons _ _ Tgts.nil))) (by walk_at "mE") _ _ _ (by walk_at "mSts") (by rfl) | exact SoundS.assignTup (by walk_at "mOk") (mt := true) rfl (Tgts.cons _ _ (Tgts.cons _ _ (Tgts.cons _ _ Tgts.nil))) (by walk_at "mE") _ _ _ (by walk_at "mSts"))
  | ((with_reducible show SoundS _ (Stmt.Assign [_, _] _ _) _); exact SoundS.assign2 (by walk_at "mOk") _ _ _ _ (by walk_at "mE") _ (by walk_at "mSt") (by walk_at "mSt"))
  | ((with_reducible show SoundS _ (Stmt.Assign [Expr.Subscript _ _ _] _ _) _); exact SoundS.setItem (by walk_at "mOk") _ _ _ _ (by walk_at "mE") (by walk_at "mE"))
  | ((with_reducible show SoundS _ (Stmt.Assign [Expr.Name _ _] (Expr.ListComp _ _ _ _) _) _); walk_at "mCoS")
  | ((with_reducible show SoundS _ (Stmt.Assign [Expr.Name _ _] (Expr.BinOp (Expr.List _ _) _ _ _) _) _); exact SoundS.assignN (by walk_at "mOk") rfl _ _ (by walk_at "mN") _ (by walk_at "mSt"))
  | ((with_reducible show SoundS _ (Stmt.Assign [Expr.Name _ _] (Expr.Call (Expr.Name (Str.ofString "sorted") _) _ _ _) _) _); exact SoundS.assignN (by walk_at "mOk") rfl _ _ (by walk_at "mN") _ (by walk_at "mSt"))
  | ((with_reducible show SoundS _ (Stmt.Assign [Expr.Name _ _] _ _) _); exact SoundS.assign (by walk_at "mOk") (mt := true) rfl _ _ (by walk_at "mE") _ (by walk_at "mSt"))
  | ((with_reducible show SoundS _ (Stmt.AugAssign _ _ _ _) _); exact SoundS.aug (by walk_at "mOk") (mt := true) rfl _ _ (by walk_at "mE") _ (by walk_at "mSt"))
  | ((with_reducible show SoundS _ (Stmt.Expr (Expr.Call (Expr.Attribute _ (Str.ofString "append") _) _ _ _) _) _); exact SoundS.append (by walk_at "mOk") _ _ _ _ _ (by walk_at "mE"))
  | ((with_reducible show SoundS _ (Stmt.Expr (Expr.Call (Expr.Attribute _ (Str.ofString "remove") _) _ _ _) _) _); exact SoundS.remove (by walk_at "mOk") _ _ _ _ _ (by walk_at "mE"))
  | ((with_reducible show SoundS _ (Stmt.For _ _ _ _ _) _); exact SoundS.for (by walk_at "mIt") (by walk_at "mTg") (by walk_at "mSs") _)
  | ((with_reducible show SoundS _ (Stmt.Try _ (_ :: _) [] [] _) _); exact SoundS.try (by walk_at "mSs") _)
  | ((with_reducible show SoundS _ (Stmt.While _ _ _ _) _); exact SoundS.while 20 (by walk_at "mT") (by walk_at "mSs") _))

local macro_rules | `(tactic| walk_at "mX0") => `(tactic| first
  | ((with_reducible show SoundE _ (Expr.Subscript (Expr.Name (Str.ofString "adjwt") _) _ _) _); exact SoundE.itemTab (by walk_at "mOk") (by with_reducible assumption) (by with_reducible assumption) (by walk_at "mE") _ _ _)
  | ((with_reducible show SoundE _ (Expr.Attribute (Expr.Name _ _) _ _) _); exact SoundE.attr (by walk_at "mOk") _ _ _ _ (by with_reducible assumption))
  | ((with_reducible show SoundE _ (Expr.Call (Expr.Attribute (Expr.Name (Str.ofString "self") _) _ _) (_ :: _) _ _) _); exact SoundE.meth (by walk_at "mOk") _ _ _ _ _ (by with_reducible assumption) (by with_reducible assumption) (by walk_at "mEs")))
local macro_rules | `(tactic| walk_at "mXT") => `(tactic|
  ((with_reducible show SoundT _ (Expr.Compare _ [CmpOp.NotIn] [Expr.Name (Str.ofString "adjwt") _] _) _); exact SoundT.notinTab (by walk_at "mOk") (by with_reducible assumption) (by with_reducible assumption) (by walk_at "mE") _ _ _))
local macro_rules | `(tactic| walk_at "mCurX") => `(tactic| fail)
local macro_rules | `(tactic| walk_at "mCo") => `(tactic| fail)
local macro_rules | `(tactic| walk_at "mCoS") => `(tactic| fail)
def WalkSuf (w : World) (n : Nat) (x : Addr) (b : Bool) (d : Addr) (tab : Str → Str → Bool) (den : DS) (fd : FuncData) : Prop := ∀ prog A B mg mb L f, Cx.Ok ⟨prog, w, A, true, B, callEnvC fd L f, mg, mb⟩ → (hd.heap_39 w.params).In B → A.depth + 1 < recursionLimit → A.units + 1 < cLine → Ins B x b →
  Tab ⟨prog, w, A, true, B, callEnvC fd L f, mg, mb⟩ B d tab → SoundSs ⟨prog, w, A, true, B, callEnvC fd L f, mg, mb⟩ ((bodyOf fd).drop n) den
noncomputable def callSuf (w : World) (x : Addr) (b : Bool) (d : Addr) (tab : Str → Str → Bool) : (den : DS) ×' WalkSuf w 8 x b d tab den (fdAt (hd.heap_39 w.params) 256) := by
  apply PSigma.mk
  conv => arg 8; whnf
  intro prog A B mg mb L f ok X hroom hu ins T
  have e0 := Env0.mk ok X (by rfl) (by rfl)
  have g1 := inRange_get e0 ins
  have g2 := inRange_callee e0 ok.hh (Nat.lt_of_succ_lt hroom)
  have g3 := long_get e0 ins
  conv => arg 2; whnf
  walk_at "mSsD"
end
section
open PySem PySem.Spec PySem.Calls PyProof.Rows PySem.W
set_option maxRecDepth 100000
set_option maxHeartbeats 8000000
/-! what writes the walks -/
local macro_rules | `(tactic| walk_at "mOk") => `(tactic| first | with_reducible assumption | exact Cx.Ok.comp (by with_reducible assumption) rfl)
local macro_rules | `(tactic| walk_at "mNo") => `(tactic| exact mg_none_of (by with_reducible assumption) (Cx.Ok.g (by with_reducible assumption)) (by rfl))
local macro_rules | `(tactic| walk_at "mSt") => `(tactic| first | exact Or.inl rfl | exact Or.inr ⟨rfl, _, rfl⟩)
local macro_rules | `(tactic| walk_at "mSts") => `(tactic| first | exact List.forall_mem_nil _ | exact List.forall_mem_cons.mpr ⟨by walk_at "mSt", by walk_at "mSts"⟩)
local macro_rules | `(tactic| walk_at "mEs") => `(tactic| first | (with_reducible exact SoundEs.nil) | exact SoundEs.cons (by walk_at "mE") (by walk_at "mEs") (by intro _; rfl))
local macro_rules | `(tactic| walk_at "mTs") => `(tactic| first | (with_reducible exact SoundTs.nil) | exact SoundTs.cons (by walk_at "mT") (by walk_at "mTs"))
local macro_rules | `(tactic| walk_at "mP") => `(tactic| first | (with_reducible exact SoundP.no) | exact SoundP.at (by walk_at "mE"))
local macro_rules | `(tactic| walk_at "mE") => `(tactic| first
  | walk_at "mX0"
  | ((with_reducible show SoundE _ (Expr.Constant (Const.int _) _ _) _); exact SoundE.int _ _ _)
  | ((with_reducible show SoundE _ (Expr.Constant (Const.str _) _ _) _); exact SoundE.str _ _ _)
  | ((with_reducible show SoundE _ (Expr.Constant (Const.float _) _ _) _); exact SoundE.flt _ _ _)
  | ((with_reducible show SoundE _ (Expr.Constant (Const.bool _) _ _) _); exact SoundE.bool _ _ _)
  | ((with_reducible show SoundE _ (Expr.Constant Const.none _ _) _); exact SoundE.none_ _ _)
  | ((with_reducible show SoundE _ (Expr.Name _ _) _); first | exact SoundE.var (by walk_at "mOk") _ _)
  | ((with_reducible show SoundE _ (Expr.BinOp _ _ _ _) _); exact SoundE.bin (by walk_at "mOk") (by walk_at "mE") _ _ (by walk_at "mE"))
  | ((with_reducible show SoundE _ (Expr.Compare _ [_] [_] _) _); exact SoundE.cmp (by walk_at "mE") _ _ (by walk_at "mE"))
  | ((with_reducible show SoundE _ (Expr.Compare _ [_, _] [_, _] _) _); exact SoundE.chain (by walk_at "mE") _ _ _ (by walk_at "mE") (by walk_at "mE"))
  | ((with_reducible show SoundE _ (Expr.IfExp _ _ _ _) _); exact SoundE.ifexp (by walk_at "mT") _ (by walk_at "mE") (by walk_at "mE"))
  | ((with_reducible show SoundE _ (Expr.Tuple _ _ _) _); exact SoundE.tup (by walk_at "mEs") _ _)
  | ((with_reducible show SoundE _ (Expr.Subscript _ (Expr.Slice _ _ none _) _) _); exact SoundE.sliceStr (by walk_at "mE") (by walk_at "mP") (by walk_at "mP") _ _)
  | ((with_reducible show SoundE _ (Expr.Subscript _ _ _) _); exact SoundE.sub (by walk_at "mE") (by walk_at "mE") _)
  | ((with_reducible show SoundE _ (Expr.Call (Expr.Name (Str.ofString "len") _) [Expr.Call (Expr.Name (Str.ofString "set") _) _ _ _] _ _) _); exact SoundE.lenSet (by walk_at "mOk") _ _ _ _ _ _ (by rfl) (by walk_at "mNo") (by rfl) (by walk_at "mNo"))
  | ((with_reducible show SoundE _ (Expr.Call (Expr.Name (Str.ofString "all") _) _ _ _) _); exact SoundE.callB (by walk_at "mOk") (Str.ofString "all") _ _ (id := "all") (by rfl) (by rfl) (by walk_at "mNo") (allV_ok (by walk_at "mOk")) (by walk_at "mEs"))
  | ((with_reducible show SoundE _ (Expr.Call (Expr.Name (Str.ofString "len") _) _ _ _) _); exact SoundE.callB (by walk_at "mOk") (Str.ofString "len") _ _ (id := "len") (by rfl) (by rfl) (by walk_at "mNo") lenV_ok (by walk_at "mEs"))
  | ((with_reducible show SoundE _ (Expr.Call (Expr.Name (Str.ofString "max") _) _ _ _) _); exact SoundE.callB (by walk_at "mOk") (Str.ofString "max") _ _ (id := "max") (by rfl) (by rfl) (by walk_at "mNo") (maxV_ok (by walk_at "mOk")) (by walk_at "mEs"))
  | ((with_reducible show SoundE _ (Expr.Call (Expr.Name (Str.ofString "min") _) _ _ _) _); exact SoundE.callB (by walk_at "mOk") (Str.ofString "min") _ _ (id := "min") (by rfl) (by rfl) (by walk_at "mNo") (minV_ok (by walk_at "mOk")) (by walk_at "mEs"))
  | ((with_reducible show SoundE _ (Expr.Call (Expr.Name (Str.ofString "abs") _) _ _ _) _); exact SoundE.callB (by walk_at "mOk") (Str.ofString "abs") _ _ (id := "abs") (by rfl) (by rfl) (by walk_at "mNo") absV_ok (by walk_at "mEs"))
  | ((with_reducible show SoundE _ (Expr.Call (Expr.Name (Str.ofString "ord") _) _ _ _) _); exact SoundE.callB (by walk_at "mOk") (Str.ofString "ord") _ _ (id := "ord") (by rfl) (by rfl) (by walk_at "mNo") ordV_ok (by walk_at "mEs"))
  | ((with_reducible show SoundE _ (Expr.Call (Expr.Name (Str.ofString "any") _) _ _ _) _); exact SoundE.callB (by walk_at "mOk") (Str.ofString "any") _ _ (id := "any") (by rfl) (by rfl) (by walk_at "mNo") (anyV_ok (by walk_at "mOk")) (by walk_at "mEs"))
  | ((with_reducible show SoundE _ (Expr.Call (Expr.Attribute _ (Str.ofString "strip") _) _ _ _) _); exact SoundE.strip (by walk_at "mE") _ _)
  | ((with_reducible show SoundE _ (Expr.Call (Expr.Attribute _ (Str.ofString "upper") _) _ _ _) _); exact SoundE.upper (by walk_at "mE") _ _)
  | ((with_reducible show SoundE _ (Expr.Call (Expr.Attribute _ (Str.ofString "lower") _) _ _ _) _); exact SoundE.lower (by walk_at "mE") _ _)
  | ((with_reducible show SoundE _ (Expr.Call (Expr.Attribute _ (Str.ofString "isdigit") _) _ _ _) _); exact SoundE.isdigit (by walk_at "mE") _ _)
  | ((with_reducible show SoundE _ (Expr.Call (Expr.Attribute _ (Str.ofString "join") _) _ _ _) _); exact SoundE.join (by walk_at "mE") (by walk_at "mN") _ _)
  | ((with_reducible show SoundE _ (Expr.BoolOp BoolOp.And _ _) _); exact SoundE.and (by walk_at "mEs") _)
  | walk_at "mX"
  | exact SoundE.ofN (by walk_at "mN"))
local macro_rules | `(tactic| walk_at "mT") => `(tactic| first
  | walk_at "mXT"
  | ((with_reducible show SoundT _ (Expr.Compare _ [_] [_] _) _); exact SoundT.cmp (by walk_at "mE") _ _ (by walk_at "mE"))
  | ((with_reducible show SoundT _ (Expr.UnaryOp UnaryOp.Not _ _) _); exact SoundT.not (by walk_at "mT") _)
  | ((with_reducible show SoundT _ (Expr.BoolOp BoolOp.And _ _) _); exact SoundT.and (by walk_at "mTs") _)
  | ((with_reducible show SoundT _ (Expr.BoolOp BoolOp.Or _ _) _); exact SoundT.or (by walk_at "mTs") _)
  | exact SoundT.val (by walk_at "mE"))
local macro_rules | `(tactic| walk_at "mN") => `(tactic| first
  | ((with_reducible show SoundN _ (Expr.List _ _) _); exact SoundN.list (by walk_at "mEs") _)
  | ((with_reducible show SoundN _ (Expr.BinOp _ Operator.Mult _ _) _); exact SoundN.rep (by walk_at "mN") (by walk_at "mE") _)
  | ((with_reducible show SoundN _ (Expr.Call (Expr.Name (Str.ofString "sorted") _) _ _ _) _); exact SoundN.sorted (by walk_at "mOk") _ _ (by rfl) (by walk_at "mNo") (by walk_at "mEs"))
  | ((with_reducible show SoundN _ (Expr.Subscript _ (Expr.Slice _ _ none _) _) _); exact SoundN.sliceMid (by walk_at "mE") _ _ _ _ _ _ _ _)
  | ((with_reducible show SoundN _ (Expr.ListComp _ _ _ _) _); walk_at "mCo"))
local macro_rules | `(tactic| walk_at "mTgC") => `(tactic| first
  | exact CompTg.name rfl _ _ (by rfl)
  | exact CompTg.pair rfl (Cx.Ok.hh (by walk_at "mOk")) _ _ _ _ _ _ (by rfl) (by rfl) (by decide))
local macro_rules | `(tactic| walk_at "mIfs") => `(tactic| first | (with_reducible exact SoundIfs.nil) | exact SoundIfs.one (by walk_at "mT"))
local macro_rules | `(tactic| walk_at "mCur") => `(tactic| first
  | ((with_reducible show SoundCur _ _ (Expr.Call (Expr.Name (Str.ofString "range") _) [_] _ _) _); exact SoundIter.cur (SoundIter.range1 (by walk_at "mOk") _ _ (by rfl) (by walk_at "mNo") (by walk_at "mE")))
  | ((with_reducible show SoundCur _ _ (Expr.Subscript _ _ _) _); exact SoundIter.cur (SoundIter.new (by walk_at "mOk") (by walk_at "mN")))
  | walk_at "mCurX")
local macro_rules | `(tactic| walk_at "mCaps") => `(tactic| first | exact List.forall_mem_nil _ | exact List.forall_mem_cons.mpr ⟨⟨fun C => by first | exact Or.inl rfl | exact Or.inr rfl, by first | exact Or.inl rfl | exact Or.inr rfl, rfl⟩, by walk_at "mCaps"⟩)
local macro_rules | `(tactic| walk_at "mIt") => `(tactic| first
  | ((with_reducible show SoundIter _ _ (Expr.Call (Expr.Name (Str.ofString "range") _) [_] _ _) _); exact SoundIter.range1 (by walk_at "mOk") _ _ (by rfl) (by walk_at "mNo") (by walk_at "mE"))
  | ((with_reducible show SoundIter _ _ (Expr.Call (Expr.Name (Str.ofString "range") _) [_, _] _ _) _); exact SoundIter.range2 (by walk_at "mOk") _ _ (by rfl) (by walk_at "mNo") (by walk_at "mEs"))
  | ((with_reducible show SoundIter _ _ (Expr.Call (Expr.Name (Str.ofString "enumerate") _) _ _ _) _); exact SoundIter.enum (by walk_at "mOk") _ _ (by rfl) (by walk_at "mNo") (by walk_at "mE"))
  | ((with_reducible show SoundIter _ _ (Expr.Call (Expr.Name (Str.ofString "zip") _) _ _ _) _); exact SoundIter.zip (by walk_at "mOk") rfl _ _ (by rfl) (by walk_at "mNo") (by walk_at "mEs"))
  | exact SoundIter.new (by walk_at "mOk") (by walk_at "mN"))
local macro_rules | `(tactic| walk_at "mTg") => `(tactic| first
  | exact SoundTg.name (by walk_at "mOk") (mt := true) rfl _ _ (by walk_at "mSt")
  | exact SoundTg.pair (by walk_at "mOk") (mt := true) rfl _ _ _ _ _ _ (by walk_at "mSt") (by walk_at "mSt"))
local macro_rules | `(tactic| walk_at "mSs") => `(tactic| first | (with_reducible exact SoundSs.nil) | exact SoundSs.cons (by walk_at "mS") (by walk_at "mSs"))
local macro_rules | `(tactic| walk_at "mSsD") => `(tactic| first | (with_reducible exact SoundSs.nil) | exact SoundSs.cons (by walk_at "mS") (by walk_at "mSsD"))
local macro_rules | `(tactic| walk_at "mS") => `(tactic| first
  | ((with_reducible show SoundS _ (Stmt.Break _) _); exact SoundS.brk _)
  | ((with_reducible show SoundS _ (Stmt.Continue _) _); exact SoundS.cont _)
  | ((with_reducible show SoundS _ (Stmt.Return _ _) _); exact SoundS.ret (by walk_at "mE") _)
  | ((with_reducible show SoundS _ (Stmt.If _ _ _ _) _); exact SoundS.iff (by walk_at "mT") _ (by walk_at "mSs") (by walk_at "mSs"))
  | ((with_reducible show SoundS _ (Stmt.Assign [Expr.Tuple [_, _] _ _] (Expr.Tuple [Expr.List _ _, Expr.List _ _] _ _) _) _); exact SoundS.assign2N (by walk_at "mOk") rfl _ _ _ _ (by walk_at "mN") (by walk_at "mN") _ _ _ _ _ (by walk_at "mSt") (by walk_at "mSt") (by decide))
  | ((with_reducible show SoundS _ (Stmt.Assign [Expr.Tuple [_, _] _ _] _ _) _); first | exact SoundS.assignSwap (by walk_at "mOk") (mt := true) rfl (Tgts.cons _ _ (Tgts.cons _ _ Tgts.nil)) (by walk_at "mE") _ _ _ (by walk_at "mSts") (by rfl) | exact SoundS.assignTup (by walk_at "mOk") (mt := true) rfl (Tgts.cons _ _ (Tgts.cons _ _ Tgts.nil)) (by walk_at "mE") _ _ _ (by walk_at "mSts"))
  | ((with_reducible show SoundS _ (Stmt.Assign [Expr.Tuple [_, _, _] _ _] _ _) _); first | exact SoundS.assignSwap (by walk_at "mOk") (mt := true) rfl (Tgts.cons _ _ (Tgts.cons _ _ (Tgts.cons _ _ Tgts.nil))) (by walk_at "mE") _ _ _ (by walk_at "mSts") (by rfl) | exact SoundS.assignTup (by walk_at "mOk") (mt := true) rfl (Tgts.cons _ _ (Tgts.cons _ _ (Tgts.cons _ _ Tgts.nil))) (by walk_at "mE") _ _ _ (by walk_at "mSts"))
  | ((with_reducible show SoundS _ (Stmt.Assign [_, _] _ _) _); exact SoundS.assign2 (by walk_at "mOk") _ _ _ _ (by walk_at "mE") _ (by walk_at "mSt") (by walk_at "mSt"))
  | ((with_reducible show SoundS _ (Stmt.Assign [Expr.Subscript _ _ _] _ _) _); exact SoundS.setItem (by walk_at "mOk") _ _ _ _ (by walk_at "mE") (by walk_at "mE"))
  | ((with_reducible show SoundS _ (Stmt.Assign [Expr.Name _ _] (Expr.ListComp _ _ _ _) _) _); walk_at "mCoS")
  | ((with_reducible show SoundS _ (Stmt.Assign [Expr.Name _ _] (Expr.BinOp (Expr.List _ _) _ _ _) _) _); exact SoundS.assignN (by walk_at "mOk") rfl _ _ (by walk_at "mN") _ (by walk_at "mSt"))
  | ((with_reducible show SoundS _ (Stmt.Assign [Expr.Name _ _] (Expr.Call (Expr.Name (Str.ofString "sorted") _) _ _ _) _) _); exact SoundS.assignN (by walk_at "mOk") rfl _ _ (by walk_at "mN") _ (by walk_at "mSt"))
  | ((with_reducible show SoundS _ (Stmt.Assign [Expr.Name _ _] _ _) _); exact SoundS.assign (by walk_at "mOk") (mt := true) rfl _ _ (by walk_at "mE") _ (by walk_at "mSt"))
  | ((with_reducible show SoundS _ (Stmt.AugAssign _ _ _ _) _); exact SoundS.aug (by walk_at "mOk") (mt := true) rfl _ _ (by walk_at "mE") _ (by walk_at "mSt"))
  | ((with_reducible show SoundS _ (Stmt.Expr (Expr.Call (Expr.Attribute _ (Str.ofString "append") _) _ _ _) _) _); exact SoundS.append (by walk_at "mOk") _ _ _ _ _ (by walk_at "mE"))
  | ((with_reducible show SoundS _ (Stmt.Expr (Expr.Call (Expr.Attribute _ (Str.ofString "remove") _) _ _ _) _) _); exact SoundS.remove (by walk_at "mOk") _ _ _ _ _ (by walk_at "mE"))
  | ((with_reducible show SoundS _ (Stmt.For _ _ _ _ _) _); exact SoundS.for (by walk_at "mIt") (by walk_at "mTg") (by walk_at "mSs") _)
  | ((with_reducible show SoundS _ (Stmt.Try _ (_ :: _) [] [] _) _); exact SoundS.try (by walk_at "mSs") _)
  | ((with_reducible show SoundS _ (Stmt.While _ _ _ _) _); exact SoundS.while 20 (by walk_at "mT") (by walk_at "mSs") _))
local macro_rules | `(tactic| walk_at "mX0") => `(tactic| first
  | ((with_reducible show SoundE _ (Expr.Subscript (Expr.Name (Str.ofString "adjwt") _) _ _) _); exact SoundE.itemTab (by walk_at "mOk") (by with_reducible assumption) (by with_reducible assumption) (by walk_at "mE") _ _ _)
  | ((with_reducible show SoundE _ (Expr.Attribute (Expr.Name _ _) _ _) _); exact SoundE.attr (by walk_at "mOk") _ _ _ _ (by with_reducible assumption))
  | ((with_reducible show SoundE _ (Expr.Call (Expr.Attribute (Expr.Name (Str.ofString "self") _) _ _) (_ :: _) _ _) _); exact SoundE.meth (by walk_at "mOk") _ _ _ _ _ (by with_reducible assumption) (by with_reducible assumption) (by walk_at "mEs")))
local macro_rules | `(tactic| walk_at "mXT") => `(tactic|
  ((with_reducible show SoundT _ (Expr.Compare _ [CmpOp.NotIn] [Expr.Name (Str.ofString "adjwt") _] _) _); exact SoundT.notinTab (by walk_at "mOk") (by with_reducible assumption) (by with_reducible assumption) (by walk_at "mE") _ _ _))
local macro_rules | `(tactic| walk_at "mCurX") => `(tactic| fail)
local macro_rules | `(tactic| walk_at "mCo") => `(tactic| fail)
local macro_rules | `(tactic| walk_at "mCoS") => `(tactic| fail)

local macro_rules | `(tactic| walk_at "mKs") => `(tactic| first | (with_reducible exact SoundKd.nil) | exact SoundKd.cons (by walk_at "mS") (by walk_at "mKs"))
def WalkPre (w : World) (n : Nat) (x : Addr) (b : Bool) (den : DS) (fd : FuncData) : Prop := ∀ prog A B mg mb L f, Cx.Ok ⟨prog, w, A, true, B, callEnvC fd L f, mg, mb⟩ → (hd.heap_39 w.params).In B → A.depth + 1 < recursionLimit → Ins B x b →
  SoundKd ⟨prog, w, A, true, B, callEnvC fd L f, mg, mb⟩ n (bodyOf fd) den
noncomputable def callPre (w : World) (x : Addr) (b : Bool) : (den : DS) ×' WalkPre w 6 x b den (fdAt (hd.heap_39 w.params) 256) := by
  apply PSigma.mk
  conv => arg 6; whnf
  intro prog A B mg mb L f ok X hroom ins
  have e0 := Env0.mk ok X (by rfl) (by rfl)
  have g1 := quick_get e0 ins
  have g2 := quick_callee e0 ok.hh hroom ins
  conv => arg 3; whnf
  walk_at "mKs"
end
section
open PySem PySem.Spec PySem.Calls PyProof.Rows PySem.W
set_option maxRecDepth 100000
set_option maxHeartbeats 8000000
/-! what writes the walks -/
local macro_rules | `(tactic| walk_at "mOk") => `(tactic| first | with_reducible assumption | exact Cx.Ok.comp (by with_reducible assumption) rfl)
local macro_rules | `(tactic| walk_at "mNo") => `(tactic| exact mg_none_of (by with_reducible assumption) (Cx.Ok.g (by with_reducible assumption)) (by rfl))
local macro_rules | `(tactic| walk_at "mSt") => `(tactic| first | exact Or.inl rfl | exact Or.inr ⟨rfl, _, rfl⟩)
local macro_rules | `(tactic| walk_at "mSts") => `(tactic| first | exact List.forall_mem_nil _ | exact List.forall_mem_cons.mpr ⟨by walk_at "mSt", by walk_at "mSts"⟩)
local macro_rules | `(tactic| walk_at "mEs") => `(tactic| first | (with_reducible exact SoundEs.nil) | exact SoundEs.cons (by walk_at "mE") (by walk_at "mEs") (by intro _; rfl))
local macro_rules | `(tactic| walk_at "mTs") => `(tactic| first | (with_reducible exact SoundTs.nil) | exact SoundTs.cons (by walk_at "mT") (by walk_at "mTs"))
local macro_rules | `(tactic| walk_at "mP") => `(tactic| first | (with_reducible exact SoundP.no) | exact SoundP.at (by walk_at "mE"))
local macro_rules | `(tactic| walk_at "mE") => `(tactic| first
  | walk_at "mX0"
  | ((with_reducible show SoundE _ (Expr.Constant (Const.int _) _ _) _); exact SoundE.int _ _ _)
  | ((with_reducible show SoundE _ (Expr.Constant (Const.str _) _ _) _); exact SoundE.str _ _ _)
  | ((with_reducible show SoundE _ (Expr.Constant (Const.float _) _ _) _); exact SoundE.flt _ _ _)
  | ((with_reducible show SoundE _ (Expr.Constant (Const.bool _) _ _) _); exact SoundE.bool _ _ _)
  | ((with_reducible show SoundE _ (Expr.Constant Const.none _ _) _); exact SoundE.none_ _ _)
  | ((with_reducible show SoundE _ (Expr.Name _ _) _); first | exact SoundE.var (by walk_at "mOk") _ _)
  | ((with_reducible show SoundE _ (Expr.BinOp _ _ _ _) _); exact SoundE.bin (by walk_at "mOk") (by walk_at "mE") _ _ (by walk_at "mE"))
  | ((with_reducible show SoundE _ (Expr.Compare _ [_] [_] _) _); exact SoundE.cmp (by walk_at "mE") _ _ (by walk_at "mE"))
  | ((with_reducible show SoundE _ (Expr.Compare _ [_, _] [_, _] _) _); exact SoundE.chain (by walk_at "mE") _ _ _ (by walk_at "mE") (by walk_at "mE"))
  | ((with_reducible show SoundE _ (Expr.IfExp _ _ _ _) _); exact SoundE.ifexp (by walk_at "mT") _ (by walk_at "mE") (by walk_at "mE"))
  | ((with_reducible show SoundE _ (Expr.Tuple _ _ _) _); exact SoundE.tup (by walk_at "mEs") _ _)
  | ((with_reducible show SoundE _ (Expr.Subscript _ (Expr.Slice _ _ none _) _) _); exact SoundE.sliceStr (by walk_at "mE") (by walk_at "mP") (by walk_at "mP") _ _)
  | ((with_reducible show SoundE _ (Expr.Subscript _ _ _) _); exact SoundE.sub (by walk_at "mE") (by walk_at "mE") _)
  | ((with_reducible show SoundE _ (Expr.Call (Expr.Name (Str.ofString "len") _) [Expr.Call (Expr.Name (Str.ofString "set") _) _ _ _] _ _) _); exact SoundE.lenSet (by walk_at "mOk") _ _ _ _ _ _ (by rfl) (by walk_at "mNo") (by rfl) (by walk_at "mNo"))
  | ((with_reducible show SoundE _ (Expr.Call (Expr.Name (Str.ofString "all") _) _ _ _) _); exact SoundE.callB (by walk_at "mOk") (Str.ofString "all") _ _ (id := "all") (by rfl) (by rfl) (by walk_at "mNo") (allV_ok (by walk_at "mOk")) (by walk_at "mEs"))
  | ((with_reducible show SoundE _ (Expr.Call (Expr.Name (Str.ofString "len") _) _ _ _) _); exact SoundE.callB (by walk_at "mOk") (Str.ofString "len") _ _ (id := "len") (by rfl) (by rfl) (by walk_at "mNo") lenV_ok (by walk_at "mEs"))
  | ((with_reducible show SoundE _ (Expr.Call (Expr.Name (Str.ofString "max") _) _ _ _) _); exact SoundE.callB (by walk_at "mOk") (Str.ofString "max") _ _ (id := "max") (by rfl) (by rfl) (by walk_at "mNo") (maxV_ok (by walk_at "mOk")) (by walk_at "mEs"))
  | ((with_reducible show SoundE _ (Expr.Call (Expr.Name (Str.ofString "min") _) _ _ _) _); exact SoundE.callB (by walk_at "mOk") (Str.ofString "min") _ _ (id := "min") (by rfl) (by rfl) (by walk_at "mNo") (minV_ok (by walk_at "mOk")) (by walk_at "mEs"))
  | ((with_reducible show SoundE _ (Expr.Call (Expr.Name (Str.ofString "abs") _) _ _ _) _); exact SoundE.callB (by walk_at "mOk") (Str.ofString "abs") _ _ (id := "abs") (by rfl) (by rfl) (by walk_at "mNo") absV_ok (by walk_at "mEs"))
  | ((with_reducible show SoundE _ (Expr.Call (Expr.Name (Str.ofString "ord") _) _ _ _) _); exact SoundE.callB (by walk_at "mOk") (Str.ofString "ord") _ _ (id := "ord") (by rfl) (by rfl) (by walk_at "mNo") ordV_ok (by walk_at "mEs"))
  | ((with_reducible show SoundE _ (Expr.Call (Expr.Name (Str.ofString "any") _) _ _ _) _); exact SoundE.callB (by walk_at "mOk") (Str.ofString "any") _ _ (id := "any") (by rfl) (by rfl) (by walk_at "mNo") (anyV_ok (by walk_at "mOk")) (by walk_at "mEs"))
  | ((with_reducible show SoundE _ (Expr.Call (Expr.Attribute _ (Str.ofString "strip") _) _ _ _) _); exact SoundE.strip (by walk_at "mE") _ _)
  | ((with_reducible show SoundE _ (Expr.Call (Expr.Attribute _ (Str.ofString "upper") _) _ _ _) _); exact SoundE.upper (by walk_at "mE") _ _)
  | ((with_reducible show SoundE _ (Expr.Call (Expr.Attribute _ (Str.ofString "lower") _) _ _ _) _); exact SoundE.lower (by walk_at "mE") _ _)
  | ((with_reducible show SoundE _ (Expr.Call (Expr.Attribute _ (Str.ofString "isdigit") _) _ _ _) _); exact SoundE.isdigit (by walk_at "mE") _ _)
  | ((with_reducible show SoundE _ (Expr.Call (Expr.Attribute _ (Str.ofString "join") _) _ _ _) _); exact SoundE.join (by walk_at "mE") (by walk_at "mN") _ _)
  | ((with_reducible show SoundE _ (Expr.BoolOp BoolOp.And _ _) _); exact SoundE.and (by walk_at "mEs") _)
  | walk_at "mX"
  | exact SoundE.ofN (by walk_at "mN"))
local macro_rules | `(tactic| walk_at "mT") => `(tactic| first
  | walk_at "mXT"
  | ((with_reducible show SoundT _ (Expr.Compare _ [_] [_] _) _); exact SoundT.cmp (by walk_at "mE") _ _ (by walk_at "mE"))
  | ((with_reducible show SoundT _ (Expr.UnaryOp UnaryOp.Not _ _) _); exact SoundT.not (by walk_at "mT") _)
  | ((with_reducible show SoundT _ (Expr.BoolOp BoolOp.And _ _) _); exact SoundT.and (by walk_at "mTs") _)
  | ((with_reducible show SoundT _ (Expr.BoolOp BoolOp.Or _ _) _); exact SoundT.or (by walk_at "mTs") _)
  | exact SoundT.val (by walk_at "mE"))
local macro_rules | `(tactic| walk_at "mN") => `(tactic| first
  | ((with_reducible show SoundN _ (Expr.List _ _) _); exact SoundN.list (by walk_at "mEs") _)
  | ((with_reducible show SoundN _ (Expr.BinOp _ Operator.Mult _ _) _); exact SoundN.rep (by walk_at "mN") (by walk_at "mE") _)
  | ((with_reducible show SoundN _ (Expr.Call (Expr.Name (Str.ofString "sorted") _) _ _ _) _); exact SoundN.sorted (by walk_at "mOk") _ _ (by rfl) (by walk_at "mNo") (by walk_at "mEs"))
  | ((with_reducible show SoundN _ (Expr.Subscript _ (Expr.Slice _ _ none _) _) _); exact SoundN.sliceMid (by walk_at "mE") _ _ _ _ _ _ _ _)
  | ((with_reducible show SoundN _ (Expr.ListComp _ _ _ _) _); walk_at "mCo"))
local macro_rules | `(tactic| walk_at "mTgC") => `(tactic| first
  | exact CompTg.name rfl _ _ (by rfl)
  | exact CompTg.pair rfl (Cx.Ok.hh (by walk_at "mOk")) _ _ _ _ _ _ (by rfl) (by rfl) (by decide))
local macro_rules | `(tactic| walk_at "mIfs") => `(tactic| first | (with_reducible exact SoundIfs.nil) | exact SoundIfs.one (by walk_at "mT"))
local macro_rules | `(tactic| walk_at "mCur") => `(tactic| first
  | ((with_reducible show SoundCur _ _ (Expr.Call (Expr.Name (Str.ofString "range") _) [_] _ _) _); exact SoundIter.cur (SoundIter.range1 (by walk_at "mOk") _ _ (by rfl) (by walk_at "mNo") (by walk_at "mE")))
  | ((with_reducible show SoundCur _ _ (Expr.Subscript _ _ _) _); exact SoundIter.cur (SoundIter.new (by walk_at "mOk") (by walk_at "mN")))
  | walk_at "mCurX")
local macro_rules | `(tactic| walk_at "mCaps") => `(tactic| first | exact List.forall_mem_nil _ | exact List.forall_mem_cons.mpr ⟨⟨fun C => by first | exact Or.inl rfl | exact Or.inr rfl, by first | exact Or.inl rfl | exact Or.inr rfl, rfl⟩, by walk_at "mCaps"⟩)
local macro_rules | `(tactic| walk_at "mIt") => `(tactic| first
  | ((with_reducible show SoundIter _ _ (Expr.Call (Expr.Name (Str.ofString "range") _) [_] _ _) _); exact SoundIter.range1 (by walk_at "mOk") _ _ (by rfl) (by walk_at "mNo") (by walk_at "mE"))
  | ((with_reducible show SoundIter _ _ (Expr.Call (Expr.Name (Str.ofString "range") _) [_, _] _ _) _); exact SoundIter.range2 (by walk_at "mOk") _ _ (by rfl) (by walk_at "mNo") (by walk_at "mEs"))
  | ((with_reducible show SoundIter _ _ (Expr.Call (Expr.Name (Str.ofString "enumerate") _) _ _ _) _); exact SoundIter.enum (by walk_at "mOk") _ _ (by rfl) (by walk_at "mNo") (by walk_at "mE"))
  | ((with_reducible show SoundIter _ _ (Expr.Call (Expr.Name (Str.ofString "zip") _) _ _ _) _); exact SoundIter.zip (by walk_at "mOk") rfl _ _ (by rfl) (by walk_at "mNo") (by walk_at "mEs"))
  | exact SoundIter.new (by walk_at "mOk") (by walk_at "mN"))
local macro_rules | `(tactic| walk_at "mTg") => `(tactic| first
  | exact SoundTg.name (by walk_at "mOk") (mt := true) rfl _ _ (by walk_at "mSt")
  | exact SoundTg.pair (by walk_at "mOk") (mt := true) rfl _ _ _ _ _ _ (by walk_at "mSt") (by walk_at "mSt"))
local macro_rules | `(tactic| walk_at "mSs") => `(tactic| first | (with_reducible exact SoundSs.nil) | exact SoundSs.cons (by walk_at "mS") (by walk_at "mSs"))
local macro_rules | `(tactic| walk_at "mSsD") => `(tactic| first | (with_reducible exact SoundSs.nil) | exact SoundSs.cons (by walk_at "mS") (by walk_at "mSsD"))
local macro_rules | `(tactic| walk_at "mS") => `(tactic| first
  | ((with_reducible show SoundS _ (Stmt.Break _) _); exact SoundS.brk _)
  | ((with_reducible show SoundS _ (Stmt.Continue _) _); exact SoundS.cont _)
  | ((with_reducible show SoundS _ (Stmt.Return _ _) _); exact SoundS.ret (by walk_at "mE") _)
  | ((with_reducible show SoundS _ (Stmt.If _ _ _ _) _); exact SoundS.iff (by walk_at "mT") _ (by walk_at "mSs") (by walk_at "mSs"))
  | ((with_reducible show SoundS _ (Stmt.Assign [Expr.Tuple [_, _] _ _] (Expr.Tuple [Expr.List _ _, Expr.List _ _] _ _) _) _); exact SoundS.assign2N (by walk_at "mOk") rfl _ _ _ _ (by walk_at "mN") (by walk_at "mN") _ _ _ _ _ (by walk_at "mSt") (by walk_at "mSt") (by decide))
  | ((with_reducible show SoundS _ (Stmt.Assign [Expr.Tuple [_, _] _ _] _ _) _); first | exact SoundS.assignSwap (by walk_at "mOk") (mt := true) rfl (Tgts.cons _ _ (Tgts.cons _ _ Tgts.nil)) (by walk_at "mE") _ _ _ (by walk_at "mSts") (by rfl) | exact SoundS.assignTup (by walk_at "mOk") (mt := true) rfl (Tgts.cons _ _ (Tgts.cons _ _ Tgts.nil)) (by walk_at "mE") _ _ _ (by walk_at "mSts"))
  | ((with_reducible show SoundS _ (Stmt.Assign [Expr.Tuple [_, _, _] _ _] _ _) _); first | exact SoundS.assignSwap (by walk_at "mOk") (mt := true) rfl (Tgts.cons _ _ (Tgts.cons _ _ (Tgts.cons _ _ Tgts.nil))) (by walk_at "mE") _ _ _ (by walk_at "mSts") (by rfl) | exact SoundS.assignTup (by walk_at "mOk") (mt := true) rfl (Tgts.cons _ _ (Tgts.cons _ _ (Tgts.cons _ _ Tgts.nil))) (by walk_at "mE") _ _ _ (by walk_at "mSts"))
  | ((with_reducible show SoundS _ (Stmt.Assign [_, _] _ _) _); exact SoundS.assign2 (by walk_at "mOk") _ _ _ _ (by walk_at "mE") _ (by walk_at "mSt") (by walk_at "mSt"))
  | ((with_reducible show SoundS _ (Stmt.Assign [Expr.Subscript _ _ _] _ _) _); exact SoundS.setItem (by walk_at "mOk") _ _ _ _ (by walk_at "mE") (by walk_at "mE"))
  | ((with_reducible show SoundS _ (Stmt.Assign [Expr.Name _ _] (Expr.ListComp _ _ _ _) _) _); walk_at "mCoS")
  | ((with_reducible show SoundS _ (Stmt.Assign [Expr.Name _ _] (Expr.BinOp (Expr.List _ _) _ _ _) _) _); exact SoundS.assignN (by walk_at "mOk") rfl _ _ (by walk_at "mN") _ (by walk_at "mSt"))
  | ((with_reducible show SoundS _ (Stmt.Assign [Expr.Name _ _] (Expr.Call (Expr.Name (Str.ofString "sorted") _) _ _ _) _) _); exact SoundS.assignN (by walk_at "mOk") rfl _ _ (by walk_at "mN") _ (by walk_at "mSt"))
  | ((with_reducible show SoundS _ (Stmt.Assign [Expr.Name _ _] _ _) _); exact SoundS.assign (by walk_at "mOk") (mt := true) rfl _ _ (by walk_at "mE") _ (by walk_at "mSt"))
  | ((with_reducible show SoundS _ (Stmt.AugAssign _ _ _ _) _); exact SoundS.aug (by walk_at "mOk") (mt := true) rfl _ _ (by walk_at "mE") _ (by walk_at "mSt"))
  | ((with_reducible show SoundS _ (Stmt.Expr (Expr.Call (Expr.Attribute _ (Str.ofString "append") _) _ _ _) _) _); exact SoundS.append (by walk_at "mOk") _ _ _ _ _ (by walk_at "mE"))
  | ((with_reducible show SoundS _ (Stmt.Expr (Expr.Call (Expr.Attribute _ (Str.ofString "remove") _) _ _ _) _) _); exact SoundS.remove (by walk_at "mOk") _ _ _ _ _ (by walk_at "mE"))
  | ((with_reducible show SoundS _ (Stmt.For _ _ _ _ _) _); exact SoundS.for (by walk_at "mIt") (by walk_at "mTg") (by walk_at "mSs") _)
  | ((with_reducible show SoundS _ (Stmt.Try _ (_ :: _) [] [] _) _); exact SoundS.try (by walk_at "mSs") _)
  | ((with_reducible show SoundS _ (Stmt.While _ _ _ _) _); exact SoundS.while 20 (by walk_at "mT") (by walk_at "mSs") _))
local macro_rules | `(tactic| walk_at "mX0") => `(tactic| first
  | ((with_reducible show SoundE _ (Expr.Subscript (Expr.Name (Str.ofString "adjwt") _) _ _) _); exact SoundE.itemTab (by walk_at "mOk") (by with_reducible assumption) (by with_reducible assumption) (by walk_at "mE") _ _ _)
  | ((with_reducible show SoundE _ (Expr.Attribute (Expr.Name _ _) _ _) _); exact SoundE.attr (by walk_at "mOk") _ _ _ _ (by with_reducible assumption))
  | ((with_reducible show SoundE _ (Expr.Call (Expr.Attribute (Expr.Name (Str.ofString "self") _) _ _) (_ :: _) _ _) _); exact SoundE.meth (by walk_at "mOk") _ _ _ _ _ (by with_reducible assumption) (by with_reducible assumption) (by walk_at "mEs")))
local macro_rules | `(tactic| walk_at "mXT") => `(tactic|
  ((with_reducible show SoundT _ (Expr.Compare _ [CmpOp.NotIn] [Expr.Name (Str.ofString "adjwt") _] _) _); exact SoundT.notinTab (by walk_at "mOk") (by with_reducible assumption) (by with_reducible assumption) (by walk_at "mE") _ _ _))
local macro_rules | `(tactic| walk_at "mCurX") => `(tactic| fail)
local macro_rules | `(tactic| walk_at "mCo") => `(tactic| fail)
local macro_rules | `(tactic| walk_at "mCoS") => `(tactic| fail)

def spPairs : List (Str × Str) := [("A", "E"), ("A", "I"), ("A", "O"), ("A", "U"), ("B", "V"), ("E", "I"), ("E", "O"), ("E", "U"), ("I", "O"), ("I", "U"), ("O", "U"), ("I", "Y"), ("E", "Y"), ("C", "G"), ("E", "F"), ("W", "U"), ("W", "V"), ("X", "K"), ("S", "Z"), ("X", "S"), ("Q", "C"), ("U", "V"), ("M", "N"), ("L", "I"), ("Q", "O"), ("P", "R"), ("I", "J"), ("2", "Z"), ("5", "S"), ("8", "B"), ("1", "I"), ("1", "L"), ("0", "O"), ("0", "Q"), ("C", "K"), ("G", "J")].map fun p => (Str.ofString p.1, Str.ofString p.2)
theorem sp_get {c : Cx} (e0 : Env0 c) {x : Addr} {b : Bool} (I : Ins c.B x b) : ∃ ax, GetA c (.ref x) (Str.ofString "sp_mx") (fun r _ => r = .ref ax) ∧ RepI c.mt c.B (.tup (spPairs.map pairPV)) (.ref ax) := by
  obtain ⟨ox, h1, t1, h2, t2, n, I, _⟩ := I
  exact ⟨_, GetA.eq e0.X I (by rfl) (v := .ref _) (by rfl) (by rfl), pvIn_rep e0.X 2 _ _ (by rfl)⟩
end
section
open PySem PySem.Spec PySem.Calls PyProof.Rows PySem.W
set_option maxRecDepth 100000
set_option maxHeartbeats 8000000
/-! what writes the walks -/
local macro_rules | `(tactic| walk_at "mOk") => `(tactic| first | with_reducible assumption | exact Cx.Ok.comp (by with_reducible assumption) rfl)
local macro_rules | `(tactic| walk_at "mNo") => `(tactic| exact mg_none_of (by with_reducible assumption) (Cx.Ok.g (by with_reducible assumption)) (by rfl))
local macro_rules | `(tactic| walk_at "mSt") => `(tactic| first | exact Or.inl rfl | exact Or.inr ⟨rfl, _, rfl⟩)
local macro_rules | `(tactic| walk_at "mSts") => `(tactic| first | exact List.forall_mem_nil _ | exact List.forall_mem_cons.mpr ⟨by walk_at "mSt", by walk_at "mSts"⟩)
local macro_rules | `(tactic| walk_at "mEs") => `(tactic| first | (with_reducible exact SoundEs.nil) | exact SoundEs.cons (by walk_at "mE") (by walk_at "mEs") (by intro _; rfl))
local macro_rules | `(tactic| walk_at "mTs") => `(tactic| first | (with_reducible exact SoundTs.nil) | exact SoundTs.cons (by walk_at "mT") (by walk_at "mTs"))
local macro_rules | `(tactic| walk_at "mP") => `(tactic| first | (with_reducible exact SoundP.no) | exact SoundP.at (by walk_at "mE"))
local macro_rules | `(tactic| walk_at "mE") => `(tactic| first
  | walk_at "mX0"
  | ((with_reducible show SoundE _ (Expr.Constant (Const.int _) _ _) _); exact SoundE.int _ _ _)
  | ((with_reducible show SoundE _ (Expr.Constant (Const.str _) _ _) _); exact SoundE.str _ _ _)
  | ((with_reducible show SoundE _ (Expr.Constant (Const.float _) _ _) _); exact SoundE.flt _ _ _)
  | ((with_reducible show SoundE _ (Expr.Constant (Const.bool _) _ _) _); exact SoundE.bool _ _ _)
  | ((with_reducible show SoundE _ (Expr.Constant Const.none _ _) _); exact SoundE.none_ _ _)
  | ((with_reducible show SoundE _ (Expr.Name _ _) _); first | exact SoundE.var (by walk_at "mOk") _ _)
  | ((with_reducible show SoundE _ (Expr.BinOp _ _ _ _) _); exact SoundE.bin (by walk_at "mOk") (by walk_at "mE") _ _ (by walk_at "mE"))
  | ((with_reducible show SoundE _ (Expr.Compare _ [_] [_] _) _); exact SoundE.cmp (by walk_at "mE") _ _ (by walk_at "mE"))
  | ((with_reducible show SoundE _ (Expr.Compare _ [_, _] [_, _] _) _); exact SoundE.chain (by walk_at "mE") _ _ _ (by walk_at "mE") (by walk_at "mE"))
  | ((with_reducible show SoundE _ (Expr.IfExp _ _ _ _) _); exact SoundE.ifexp (by walk_at "mT") _ (by walk_at "mE") (by walk_at "mE"))
  | ((with_reducible show SoundE _ (Expr.Tuple _ _ _) _); exact SoundE.tup (by walk_at "mEs") _ _)
  | ((with_reducible show SoundE _ (Expr.Subscript _ (Expr.Slice _ _ none _) _) _); exact SoundE.sliceStr (by walk_at "mE") (by walk_at "mP") (by walk_at "mP") _ _)
  | ((with_reducible show SoundE _ (Expr.Subscript _ _ _) _); exact SoundE.sub (by walk_at "mE") (by walk_at "mE") _)
  | ((with_reducible show SoundE _ (Expr.Call (Expr.Name (Str.ofString "len") _) [Expr.Call (Expr.Name (Str.ofString "set") _) _ _ _] _ _) _); exact SoundE.lenSet (by walk_at "mOk") _ _ _ _ _ _ (by rfl) (by walk_at "mNo") (by rfl) (by walk_at "mNo"))
  | ((with_reducible show SoundE _ (Expr.Call (Expr.Name (Str.ofString "all") _) _ _ _) _); exact SoundE.callB (by walk_at "mOk") (Str.ofString "all") _ _ (id := "all") (by rfl) (by rfl) (by walk_at "mNo") (allV_ok (by walk_at "mOk")) (by walk_at "mEs"))
  | ((with_reducible show SoundE _ (Expr.Call (Expr.Name (Str.ofString "len") _) _ _ _) _); exact SoundE.callB (by walk_at "mOk") (Str.ofString "len") _ _ (id := "len") (by rfl) (by rfl) (by walk_at "mNo") lenV_ok (by walk_at "mEs"))
  | ((with_reducible show SoundE _ (Expr.Call (Expr.Name (Str.ofString "max") _) _ _ _) _); exact SoundE.callB (by walk_at "mOk") (Str.ofString "max") _ _ (id := "max") (by rfl) (by rfl) (by walk_at "mNo") (maxV_ok (by walk_at "mOk")) (by walk_at "mEs"))
  | ((with_reducible show SoundE _ (Expr.Call (Expr.Name (Str.ofString "min") _) _ _ _) _); exact SoundE.callB (by walk_at "mOk") (Str.ofString "min") _ _ (id := "min") (by rfl) (by rfl) (by walk_at "mNo") (minV_ok (by walk_at "mOk")) (by walk_at "mEs"))
  | ((with_reducible show SoundE _ (Expr.Call (Expr.Name (Str.ofString "abs") _) _ _ _) _); exact SoundE.callB (by walk_at "mOk") (Str.ofString "abs") _ _ (id := "abs") (by rfl) (by rfl) (by walk_at "mNo") absV_ok (by walk_at "mEs"))
  | ((with_reducible show SoundE _ (Expr.Call (Expr.Name (Str.ofString "ord") _) _ _ _) _); exact SoundE.callB (by walk_at "mOk") (Str.ofString "ord") _ _ (id := "ord") (by rfl) (by rfl) (by walk_at "mNo") ordV_ok (by walk_at "mEs"))
  | ((with_reducible show SoundE _ (Expr.Call (Expr.Name (Str.ofString "any") _) _ _ _) _); exact SoundE.callB (by walk_at "mOk") (Str.ofString "any") _ _ (id := "any") (by rfl) (by rfl) (by walk_at "mNo") (anyV_ok (by walk_at "mOk")) (by walk_at "mEs"))
  | ((with_reducible show SoundE _ (Expr.Call (Expr.Attribute _ (Str.ofString "strip") _) _ _ _) _); exact SoundE.strip (by walk_at "mE") _ _)
  | ((with_reducible show SoundE _ (Expr.Call (Expr.Attribute _ (Str.ofString "upper") _) _ _ _) _); exact SoundE.upper (by walk_at "mE") _ _)
  | ((with_reducible show SoundE _ (Expr.Call (Expr.Attribute _ (Str.ofString "lower") _) _ _ _) _); exact SoundE.lower (by walk_at "mE") _ _)
  | ((with_reducible show SoundE _ (Expr.Call (Expr.Attribute _ (Str.ofString "isdigit") _) _ _ _) _); exact SoundE.isdigit (by walk_at "mE") _ _)
  | ((with_reducible show SoundE _ (Expr.Call (Expr.Attribute _ (Str.ofString "join") _) _ _ _) _); exact SoundE.join (by walk_at "mE") (by walk_at "mN") _ _)
  | ((with_reducible show SoundE _ (Expr.BoolOp BoolOp.And _ _) _); exact SoundE.and (by walk_at "mEs") _)
  | walk_at "mX"
  | exact SoundE.ofN (by walk_at "mN"))
local macro_rules | `(tactic| walk_at "mT") => `(tactic| first
  | walk_at "mXT"
  | ((with_reducible show SoundT _ (Expr.Compare _ [_] [_] _) _); exact SoundT.cmp (by walk_at "mE") _ _ (by walk_at "mE"))
  | ((with_reducible show SoundT _ (Expr.UnaryOp UnaryOp.Not _ _) _); exact SoundT.not (by walk_at "mT") _)
  | ((with_reducible show SoundT _ (Expr.BoolOp BoolOp.And _ _) _); exact SoundT.and (by walk_at "mTs") _)
  | ((with_reducible show SoundT _ (Expr.BoolOp BoolOp.Or _ _) _); exact SoundT.or (by walk_at "mTs") _)
  | exact SoundT.val (by walk_at "mE"))
local macro_rules | `(tactic| walk_at "mN") => `(tactic| first
  | ((with_reducible show SoundN _ (Expr.List _ _) _); exact SoundN.list (by walk_at "mEs") _)
  | ((with_reducible show SoundN _ (Expr.BinOp _ Operator.Mult _ _) _); exact SoundN.rep (by walk_at "mN") (by walk_at "mE") _)
  | ((with_reducible show SoundN _ (Expr.Call (Expr.Name (Str.ofString "sorted") _) _ _ _) _); exact SoundN.sorted (by walk_at "mOk") _ _ (by rfl) (by walk_at "mNo") (by walk_at "mEs"))
  | ((with_reducible show SoundN _ (Expr.Subscript _ (Expr.Slice _ _ none _) _) _); exact SoundN.sliceMid (by walk_at "mE") _ _ _ _ _ _ _ _)
  | ((with_reducible show SoundN _ (Expr.ListComp _ _ _ _) _); walk_at "mCo"))
local macro_rules | `(tactic| walk_at "mTgC") => `(tactic| first
  | exact CompTg.name rfl _ _ (by rfl)
  | exact CompTg.pair rfl (Cx.Ok.hh (by walk_at "mOk")) _ _ _ _ _ _ (by rfl) (by rfl) (by decide))
local macro_rules | `(tactic| walk_at "mIfs") => `(tactic| first | (with_reducible exact SoundIfs.nil) | exact SoundIfs.one (by walk_at "mT"))
local macro_rules | `(tactic| walk_at "mCur") => `(tactic| first
  | ((with_reducible show SoundCur _ _ (Expr.Call (Expr.Name (Str.ofString "range") _) [_] _ _) _); exact SoundIter.cur (SoundIter.range1 (by walk_at "mOk") _ _ (by rfl) (by walk_at "mNo") (by walk_at "mE")))
  | ((with_reducible show SoundCur _ _ (Expr.Subscript _ _ _) _); exact SoundIter.cur (SoundIter.new (by walk_at "mOk") (by walk_at "mN")))
  | walk_at "mCurX")
local macro_rules | `(tactic| walk_at "mCaps") => `(tactic| first | exact List.forall_mem_nil _ | exact List.forall_mem_cons.mpr ⟨⟨fun C => by first | exact Or.inl rfl | exact Or.inr rfl, by first | exact Or.inl rfl | exact Or.inr rfl, rfl⟩, by walk_at "mCaps"⟩)
local macro_rules | `(tactic| walk_at "mIt") => `(tactic| first
  | ((with_reducible show SoundIter _ _ (Expr.Call (Expr.Name (Str.ofString "range") _) [_] _ _) _); exact SoundIter.range1 (by walk_at "mOk") _ _ (by rfl) (by walk_at "mNo") (by walk_at "mE"))
  | ((with_reducible show SoundIter _ _ (Expr.Call (Expr.Name (Str.ofString "range") _) [_, _] _ _) _); exact SoundIter.range2 (by walk_at "mOk") _ _ (by rfl) (by walk_at "mNo") (by walk_at "mEs"))
  | ((with_reducible show SoundIter _ _ (Expr.Call (Expr.Name (Str.ofString "enumerate") _) _ _ _) _); exact SoundIter.enum (by walk_at "mOk") _ _ (by rfl) (by walk_at "mNo") (by walk_at "mE"))
  | ((with_reducible show SoundIter _ _ (Expr.Call (Expr.Name (Str.ofString "zip") _) _ _ _) _); exact SoundIter.zip (by walk_at "mOk") rfl _ _ (by rfl) (by walk_at "mNo") (by walk_at "mEs"))
  | exact SoundIter.new (by walk_at "mOk") (by walk_at "mN"))
local macro_rules | `(tactic| walk_at "mTg") => `(tactic| first
  | exact SoundTg.name (by walk_at "mOk") (mt := true) rfl _ _ (by walk_at "mSt")
  | exact SoundTg.pair (by walk_at "mOk") (mt := true) rfl _ _ _ _ _ _ (by walk_at "mSt") (by walk_at "mSt"))
local macro_rules | `(tactic| walk_at "mSs") => `(tactic| first | (with_reducible exact SoundSs.nil) | exact SoundSs.cons (by walk_at "mS") (by walk_at "mSs"))
local macro_rules | `(tactic| walk_at "mSsD") => `(tactic| first | (with_reducible exact SoundSs.nil) | exact SoundSs.cons (by walk_at "mS") (by walk_at "mSsD"))
local macro_rules | `(tactic| walk_at "mS") => `(tactic| first
  | ((with_reducible show SoundS _ (Stmt.Break _) _); exact SoundS.brk _)
  | ((with_reducible show SoundS _ (Stmt.Continue _) _); exact SoundS.cont _)
  | ((with_reducible show SoundS _ (Stmt.Return _ _) _); exact SoundS.ret (by walk_at "mE") _)
  | ((with_reducible show SoundS _ (Stmt.If _ _ _ _) _); exact SoundS.iff (by walk_at "mT") _ (by walk_at "mSs") (by walk_at "mSs"))
  | ((with_reducible show SoundS _ (Stmt.Assign [Expr.Tuple [_, _] _ _] (Expr.Tuple [Expr.List _ _, Expr.List _ _] _ _) _) _); exact SoundS.assign2N (by walk_at "mOk") rfl _ _ _ _ (by walk_at "mN") (by walk_at "mN") _ _ _ _ _ (by walk_at "mSt") (by walk_at "mSt") (by decide))
  | ((with_reducible show SoundS _ (Stmt.Assign [Expr.Tuple [_, _] _ _] _ _) _); first | exact SoundS.assignSwap (by walk_at "mOk") (mt := true) rfl (Tgts.cons _ _ (Tgts.cons _ _ Tgts.nil)) (by walk_at "mE") _ _ _ (by walk_at "mSts") (by rfl) | exact SoundS.assignTup (by walk_at "mOk") (mt := true) rfl (Tgts.cons _ _ (Tgts.cons _ _ Tgts.nil)) (by walk_at "mE") _ _ _ (by walk_at "mSts"))
  | ((with_reducible show SoundS _ (Stmt.Assign [Expr.Tuple [_, _, _] _ _] _ _) _); first | exact SoundS.assignSwap (by walk_at "mOk") (mt := true) rfl (Tgts.cons _ _ (Tgts.cons _ _ (Tgts.cons _ _ Tgts.nil))) (by walk_at "mE") _ _ _ (by walk_at "mSts") (by rfl) | exact SoundS.assignTup (by walk_at "mOk") (mt := true) rfl (Tgts.cons _ _ (Tgts.cons _ _ (Tgts.cons _ _ Tgts.nil))) (by walk_at "mE") _ _ _ (by walk_at "mSts"))
  | ((with_reducible show SoundS _ (Stmt.Assign [_, _] _ _) _); exact SoundS.assign2 (by walk_at "mOk") _ _ _ _ (by walk_at "mE") _ (by walk_at "mSt") (by walk_at "mSt"))
  | ((with_reducible show SoundS _ (Stmt.Assign [Expr.Subscript _ _ _] _ _) _); exact SoundS.setItem (by walk_at "mOk") _ _ _ _ (by walk_at "mE") (by walk_at "mE"))
  | ((with_reducible show SoundS _ (Stmt.Assign [Expr.Name _ _] (Expr.ListComp _ _ _ _) _) _); walk_at "mCoS")
  | ((with_reducible show SoundS _ (Stmt.Assign [Expr.Name _ _] (Expr.BinOp (Expr.List _ _) _ _ _) _) _); exact SoundS.assignN (by walk_at "mOk") rfl _ _ (by walk_at "mN") _ (by walk_at "mSt"))
  | ((with_reducible show SoundS _ (Stmt.Assign [Expr.Name _ _] (Expr.Call (Expr.Name (Str.ofString "sorted") _) _ _ _) _) _); exact SoundS.assignN (by walk_at "mOk") rfl _ _ (by walk_at "mN") _ (by walk_at "mSt"))
  | ((with_reducible show SoundS _ (Stmt.Assign [Expr.Name _ _] _ _) _); exact SoundS.assign (by walk_at "mOk") (mt := true) rfl _ _ (by walk_at "mE") _ (by walk_at "mSt"))
  | ((with_reducible show SoundS _ (Stmt.AugAssign _ _ _ _) _); exact SoundS.aug (by walk_at "mOk") (mt := true) rfl _ _ (by walk_at "mE") _ (by walk_at "mSt"))
  | ((with_reducible show SoundS _ (Stmt.Expr (Expr.Call (Expr.Attribute _ (Str.ofString "append") _) _ _ _) _) _); exact SoundS.append (by walk_at "mOk") _ _ _ _ _ (by walk_at "mE"))
  | ((with_reducible show SoundS _ (Stmt.Expr (Expr.Call (Expr.Attribute _ (Str.ofString "remove") _) _ _ _) _) _); exact SoundS.remove (by walk_at "mOk") _ _ _ _ _ (by walk_at "mE"))
  | ((with_reducible show SoundS _ (Stmt.For _ _ _ _ _) _); exact SoundS.for (by walk_at "mIt") (by walk_at "mTg") (by walk_at "mSs") _)
  | ((with_reducible show SoundS _ (Stmt.Try _ (_ :: _) [] [] _) _); exact SoundS.try (by walk_at "mSs") _)
  | ((with_reducible show SoundS _ (Stmt.While _ _ _ _) _); exact SoundS.while 20 (by walk_at "mT") (by walk_at "mSs") _))
local macro_rules | `(tactic| walk_at "mX0") => `(tactic| first
  | ((with_reducible show SoundE _ (Expr.Subscript (Expr.Name (Str.ofString "adjwt") _) _ _) _); exact SoundE.itemTab (by walk_at "mOk") (by with_reducible assumption) (by with_reducible assumption) (by walk_at "mE") _ _ _)
  | ((with_reducible show SoundE _ (Expr.Attribute (Expr.Name _ _) _ _) _); exact SoundE.attr (by walk_at "mOk") _ _ _ _ (by with_reducible assumption))
  | ((with_reducible show SoundE _ (Expr.Call (Expr.Attribute (Expr.Name (Str.ofString "self") _) _ _) (_ :: _) _ _) _); exact SoundE.meth (by walk_at "mOk") _ _ _ _ _ (by with_reducible assumption) (by with_reducible assumption) (by walk_at "mEs")))
local macro_rules | `(tactic| walk_at "mXT") => `(tactic|
  ((with_reducible show SoundT _ (Expr.Compare _ [CmpOp.NotIn] [Expr.Name (Str.ofString "adjwt") _] _) _); exact SoundT.notinTab (by walk_at "mOk") (by with_reducible assumption) (by with_reducible assumption) (by walk_at "mE") _ _ _))
local macro_rules | `(tactic| walk_at "mCurX") => `(tactic| fail)
local macro_rules | `(tactic| walk_at "mCo") => `(tactic| fail)
local macro_rules | `(tactic| walk_at "mCoS") => `(tactic| fail)

def WalkMid (w : World) (x : Addr) (b : Bool) (fd : FuncData) : Prop := ∀ prog A B mg mb L f, Cx.Ok ⟨prog, w, A, true, B, callEnvC fd L f, mg, mb⟩ → (hd.heap_39 w.params).In B → A.units + 1 < cLine → Ins B x b →
  ∀ h₀ σ (s : Shared) (Q : Flow → Shared → Prop) (E : Value → Shared → Prop), (σ "self" = some (.obj (.ref x)) ∧ σ "c1" = none ∧ σ "c2" = none) → Inv ⟨prog, w, A, true, B, callEnvC fd L f, mg, mb⟩ h₀ σ s.heap →
      (∀ h' tk d f', InvF ⟨prog, w, A, true, B, callEnvC fd L f, mg, mb⟩ h₀ (σ.set "adjwt" (.obj (.ref d))) f' h' → Tab ⟨prog, w, A, true, B, callEnvC fd L f, mg, mb⟩ h' d (pairTab spPairs) → d ≠ L → wpAny (model prog w) A (execs ((bodyOf fd).drop 8) (callEnvC fd L f)) Q E { s with heap := h', toks := tk }) →
      wpAny (model prog w) A (execs ((bodyOf fd).drop 6) (callEnvC fd L f)) Q E s
theorem callMid (w : World) (x : Addr) (b : Bool) : WalkMid w x b (fdAt (hd.heap_39 w.params) 256) := by
  conv => arg 4; whnf
  intro prog A B mg mb L f ok X hu ins
  have e0 := Env0.mk ok X (by rfl) (by rfl)
  obtain ⟨ax, g1, hrep⟩ := sp_get e0 ins
  intro h₀ σ s Q E hc I k
  obtain ⟨f0, I⟩ := I
  conv => arg 3; arg 1; whnf
  refine wpAny_execs_cons (tab_new ok I "adjwt" _ _ _ (by walk_at "mSt") (by rfl) fun h1 tk1 d f1 I1 D1 n1 n2 n3 => ?_)
  have hself : (σ.set "adjwt" (.obj (.ref d))) "self" = some (.obj (.ref x)) := by simp [Store.set, hc.1]
  refine wpAny_execs_cons (tab_for (s := { s with heap := h1, toks := tk1 }) ok rfl hu I1 n3 D1 n1 n2 (v := "adjwt") (x := "c1") (y := "c2") (by simp [Store.set]) (by simp [Store.set, hc.2.1]) (by simp [Store.set, hc.2.2]) (by decide) (by decide) (by decide) (by walk_at "mSt") (by walk_at "mSt")
    (eval_attr_eq ok _ _ _ _ g1 hself (by rfl) (by intro _ _; rfl) (by decide) (by decide)) hrep (by decide)
    (SoundE.tup (SoundEs.cons (SoundE.var ok _ _) (SoundEs.cons (SoundE.var ok _ _) SoundEs.nil)) _ _) (SoundE.tup (SoundEs.cons (SoundE.var ok _ _) (SoundEs.cons (SoundE.var ok _ _) SoundEs.nil)) _ _)
    (fun σ a b ha hb => by simp [seqE, ha, hb, PV.imm]) (fun σ a b ha hb => by simp [seqE, ha, hb, PV.imm])
    _ _ _ _ _ _ _ _ _ _ _ _ _ _ _ (by rfl) (by rfl) (by decide) (by decide) (by intro _; rfl) fun h2 tk2 f2 I2 T2 => ?_)
  exact k h2 tk2 d f2 I2 T2 n2
end
section
open PySem PySem.Spec PySem.Calls PyProof.Rows PySem.W
set_option maxRecDepth 100000
set_option maxHeartbeats 8000000
def callCond (x : Addr) (σ : Store) : Prop := σ "self" = some (.obj (.ref x)) ∧ σ "c1" = none ∧ σ "c2" = none
noncomputable def callDen (w : World) (x : Addr) (b : Bool) : DS := joinD (callPre w x b).1 (callCond x) (fun d => (callSuf w x b d (pairTab spPairs)).1)
theorem call_walk (w : World) (x : Addr) (b : Bool) : WalkOf w true (fun A B => (A.depth + 1 < recursionLimit ∧ A.units + 1 < cLine) ∧ Ins B x b) (callDen w x b) (fdAt (hd.heap_39 w.params) 256) := by
  intro prog A B mg mb L f ok X pre
  exact join_sound (n := 6) (n' := 8) ((callPre w x b).2 prog A B mg mb L f ok X pre.1.1 pre.2) (callMid w x b prog A B mg mb L f ok X pre.1.2 pre.2)
    fun B' d k T => (callSuf w x b d (pairTab spPairs)).2 prog A B' mg mb L f (ok.on k) (X.keeps k) pre.1.1 pre.1.2 (pre.2.sub k) T
/-- what a run gives back -/
def retOf (den : DS) (xs : List String) (pvs : List PV) : Option PV := match den (setAll (fun _ => none) xs pvs) with
  | some (_, .ret r) => if r.atom = true then some r else none
  | _ => none
theorem retOf_run {den xs pvs r} (h : retOf den xs pvs = some r) : r.atom = true ∧ ∃ σ', den (setAll (fun _ => none) xs pvs) = some (σ', .ret r) := by
  unfold retOf at h
  split at h
  · rename_i e
    split at h
    · rename_i ha; cases h; exact ⟨ha, _, e⟩
    · cases h
  · cases h
noncomputable def callSpec (w : World) (x : Addr) (b : Bool) : List PV → Option PV
  | [.str s, .str t] => retOf (callDen w x b) ["self", "s1", "s2"] [.obj (.ref x), .str s, .str t]
  | _ => none
theorem call_data (w : World) (x : Addr) (b : Bool) : ∃ fd den, den = callDen w x b ∧ FnData w 256 fd ["self", "s1", "s2"] true (fun A B => (A.depth + 1 < recursionLimit ∧ A.units + 1 < cLine) ∧ Ins B x b) den ∧ (∀ x v u, bindArgs fd ⟨[x, v, u], []⟩ = pure ((["self", "s1", "s2"].map Str.ofString).zip [x, v, u])) :=
  ⟨fdAt (hd.heap_39 w.params) 256, callDen w x b, rfl, FnData.of (by rfl) ⟨by rfl, List.forall_mem_cons.mpr ⟨.inl (by rfl), List.forall_mem_cons.mpr ⟨.inl (by rfl), List.forall_mem_cons.mpr ⟨.inl (by rfl), List.forall_mem_nil _⟩⟩⟩, by rfl, by rfl, by rfl, by rfl, by rfl, by rfl⟩ (by rfl) (call_walk w x b), fun x v u => by kernel_rfl⟩
/-- room for a call in a call -/
def Room (A : Around) (k : Nat) : Prop := A.depth + k < recursionLimit ∧ ∀ env : Env, (A.deeper env).units + 1 < cLine
theorem call_runs {c : Cx} (e0 : Env0 c) (hA : c.A.handled = none) (hroom : c.A.depth + 2 < recursionLimit) (hu : ∀ env, (c.A.deeper env).units + 1 < cLine) {x : Addr} {b : Bool} (I : Ins c.B x b) : Runs c (.ref 256) [.ref x] c.B (callSpec c.w x b) := by
  intro s k pvs vs r e hr
  unfold callSpec at e
  split at e
  · rename_i a b'
    obtain ⟨ha, σ', hrun⟩ := retOf_run e
    obtain ⟨v, u, rfl⟩ := len2 hr.len
    obtain ⟨fd, den, hden, D, hbind⟩ := call_data c.w x b
    rw [← hden] at hrun
    have hb : BindV c fd ⟨[.ref x, v, u], []⟩ s ["self", "s1", "s2"] true [.obj (.ref x), .str a, .str b'] :=
      BindV.plain (hbind (.ref x) v u) (.cons (.imm (.obj _)) (hr.atoms (by rfl) true s.heap))
    have hR := run_fn e0 hA (by omega) D k hb (fun h L q => ⟨⟨by show c.A.depth + 1 + 1 < _; omega, hu _⟩, I.sub (k.trans q)⟩) rfl (by rfl) (fun _ => by rfl) hrun
    exact hR.mono fun v h' q => q.atoms ha _ _
  · cases e
theorem call_inst {c : Cx} {w : World} (hw : c.w = w) (e0 : Env0 c) (hA : c.A.handled = none) (hroom : c.A.depth + 2 < recursionLimit) (hu : ∀ env, (c.A.deeper env).units + 1 < cLine) {x : Addr} {b : Bool} (I : Ins c.B x b) : Callee c (.ref x) [] c.B (callSpec w x b) := by
  subst hw
  have R := call_runs e0 hA hroom hu I
  obtain ⟨ox, h1, t1, h2, t2, n, I, hp⟩ := I
  exact Runs.inst e0.X I hp (by rfl) (by rfl) (by rfl) R
end
section
open PySem PySem.Spec PySem.Calls PyProof.Rows PySem.W
set_option maxRecDepth 100000
set_option maxHeartbeats 8000000
/-! what writes the walks -/
local macro_rules | `(tactic| walk_at "mOk") => `(tactic| first | with_reducible assumption | exact Cx.Ok.comp (by with_reducible assumption) rfl)
local macro_rules | `(tactic| walk_at "mNo") => `(tactic| exact mg_none_of (by with_reducible assumption) (Cx.Ok.g (by with_reducible assumption)) (by rfl))
local macro_rules | `(tactic| walk_at "mSt") => `(tactic| first | exact Or.inl rfl | exact Or.inr ⟨rfl, _, rfl⟩)
local macro_rules | `(tactic| walk_at "mSts") => `(tactic| first | exact List.forall_mem_nil _ | exact List.forall_mem_cons.mpr ⟨by walk_at "mSt", by walk_at "mSts"⟩)
local macro_rules | `(tactic| walk_at "mEs") => `(tactic| first | (with_reducible exact SoundEs.nil) | exact SoundEs.cons (by walk_at "mE") (by walk_at "mEs") (by intro _; rfl))
local macro_rules | `(tactic| walk_at "mTs") => `(tactic| first | (with_reducible exact SoundTs.nil) | exact SoundTs.cons (by walk_at "mT") (by walk_at "mTs"))
local macro_rules | `(tactic| walk_at "mP") => `(tactic| first | (with_reducible exact SoundP.no) | exact SoundP.at (by walk_at "mE"))
local macro_rules | `(tactic| walk_at "mE") => `(tactic| first
  | walk_at "mX0"
  | ((with_reducible show SoundE _ (Expr.Constant (Const.int _) _ _) _); exact SoundE.int _ _ _)
  | ((with_reducible show SoundE _ (Expr.Constant (Const.str _) _ _) _); exact SoundE.str _ _ _)
  | ((with_reducible show SoundE _ (Expr.Constant (Const.float _) _ _) _); exact SoundE.flt _ _ _)
  | ((with_reducible show SoundE _ (Expr.Constant (Const.bool _) _ _) _); exact SoundE.bool _ _ _)
  | ((with_reducible show SoundE _ (Expr.Constant Const.none _ _) _); exact SoundE.none_ _ _)
  | ((with_reducible show SoundE _ (Expr.Name _ _) _); first | exact SoundE.var (by walk_at "mOk") _ _)
  | ((with_reducible show SoundE _ (Expr.BinOp _ _ _ _) _); exact SoundE.bin (by walk_at "mOk") (by walk_at "mE") _ _ (by walk_at "mE"))
  | ((with_reducible show SoundE _ (Expr.Compare _ [_] [_] _) _); exact SoundE.cmp (by walk_at "mE") _ _ (by walk_at "mE"))
  | ((with_reducible show SoundE _ (Expr.Compare _ [_, _] [_, _] _) _); exact SoundE.chain (by walk_at "mE") _ _ _ (by walk_at "mE") (by walk_at "mE"))
  | ((with_reducible show SoundE _ (Expr.IfExp _ _ _ _) _); exact SoundE.ifexp (by walk_at "mT") _ (by walk_at "mE") (by walk_at "mE"))
  | ((with_reducible show SoundE _ (Expr.Tuple _ _ _) _); exact SoundE.tup (by walk_at "mEs") _ _)
  | ((with_reducible show SoundE _ (Expr.Subscript _ (Expr.Slice _ _ none _) _) _); exact SoundE.sliceStr (by walk_at "mE") (by walk_at "mP") (by walk_at "mP") _ _)
  | ((with_reducible show SoundE _ (Expr.Subscript _ _ _) _); exact SoundE.sub (by walk_at "mE") (by walk_at "mE") _)
  | ((with_reducible show SoundE _ (Expr.Call (Expr.Name (Str.ofString "len") _) [Expr.Call (Expr.Name (Str.ofString "set") _) _ _ _] _ _) _); exact SoundE.lenSet (by walk_at "mOk") _ _ _ _ _ _ (by rfl) (by walk_at "mNo") (by rfl) (by walk_at "mNo"))
  | ((with_reducible show SoundE _ (Expr.Call (Expr.Name (Str.ofString "all") _) _ _ _) _); exact SoundE.callB (by walk_at "mOk") (Str.ofString "all") _ _ (id := "all") (by rfl) (by rfl) (by walk_at "mNo") (allV_ok (by walk_at "mOk")) (by walk_at "mEs"))
  | ((with_reducible show SoundE _ (Expr.Call (Expr.Name (Str.ofString "len") _) _ _ _) _); exact SoundE.callB (by walk_at "mOk") (Str.ofString "len") _ _ (id := "len") (by rfl) (by rfl) (by walk_at "mNo") lenV_ok (by walk_at "mEs"))
  | ((with_reducible show SoundE _ (Expr.Call (Expr.Name (Str.ofString "max") _) _ _ _) _); exact SoundE.callB (by walk_at "mOk") (Str.ofString "max") _ _ (id := "max") (by rfl) (by rfl) (by walk_at "mNo") (maxV_ok (by walk_at "mOk")) (by walk_at "mEs"))
  | ((with_reducible show SoundE _ (Expr.Call (Expr.Name (Str.ofString "min") _) _ _ _) _); exact SoundE.callB (by walk_at "mOk") (Str.ofString "min") _ _ (id := "min") (by rfl) (by rfl) (by walk_at "mNo") (minV_ok (by walk_at "mOk")) (by walk_at "mEs"))
  | ((with_reducible show SoundE _ (Expr.Call (Expr.Name (Str.ofString "abs") _) _ _ _) _); exact SoundE.callB (by walk_at "mOk") (Str.ofString "abs") _ _ (id := "abs") (by rfl) (by rfl) (by walk_at "mNo") absV_ok (by walk_at "mEs"))
  | ((with_reducible show SoundE _ (Expr.Call (Expr.Name (Str.ofString "ord") _) _ _ _) _); exact SoundE.callB (by walk_at "mOk") (Str.ofString "ord") _ _ (id := "ord") (by rfl) (by rfl) (by walk_at "mNo") ordV_ok (by walk_at "mEs"))
  | ((with_reducible show SoundE _ (Expr.Call (Expr.Name (Str.ofString "any") _) _ _ _) _); exact SoundE.callB (by walk_at "mOk") (Str.ofString "any") _ _ (id := "any") (by rfl) (by rfl) (by walk_at "mNo") (anyV_ok (by walk_at "mOk")) (by walk_at "mEs"))
  | ((with_reducible show SoundE _ (Expr.Call (Expr.Attribute _ (Str.ofString "strip") _) _ _ _) _); exact SoundE.strip (by walk_at "mE") _ _)
  | ((with_reducible show SoundE _ (Expr.Call (Expr.Attribute _ (Str.ofString "upper") _) _ _ _) _); exact SoundE.upper (by walk_at "mE") _ _)
  | ((with_reducible show SoundE _ (Expr.Call (Expr.Attribute _ (Str.ofString "lower") _) _ _ _) _); exact SoundE.lower (by walk_at "mE") _ _)
  | ((with_reducible show SoundE _ (Expr.Call (Expr.Attribute _ (Str.ofString "isdigit") _) _ _ _) _); exact SoundE.isdigit (by walk_at "mE") _ _)
  | ((with_reducible show SoundE _ (Expr.Call (Expr.Attribute _ (Str.ofString "join") _) _ _ _) _); exact SoundE.join (by walk_at "mE") (by walk_at "mN") _ _)
  | ((with_reducible show SoundE _ (Expr.BoolOp BoolOp.And _ _) _); exact SoundE.and (by walk_at "mEs") _)
  | walk_at "mX"
  | exact SoundE.ofN (by walk_at "mN"))
local macro_rules | `(tactic| walk_at "mT") => `(tactic| first
  | walk_at "mXT"
  | ((with_reducible show SoundT _ (Expr.Compare _ [_] [_] _) _); exact SoundT.cmp (by walk_at "mE") _ _ (by walk_at "mE"))
  | ((with_reducible show SoundT _ (Expr.UnaryOp UnaryOp.Not _ _) _); exact SoundT.not (by walk_at "mT") _)
  | ((with_reducible show SoundT _ (Expr.BoolOp BoolOp.And _ _) _); exact SoundT.and (by walk_at "mTs") _)
  | ((with_reducible show SoundT _ (Expr.BoolOp BoolOp.Or _ _) _); exact SoundT.or (by walk_at "mTs") _)
  | exact SoundT.val (by walk_at "mE"))
local macro_rules | `(tactic| walk_at "mN") => `(tactic| first
  | ((with_reducible show SoundN _ (Expr.List _ _) _); exact SoundN.list (by walk_at "mEs") _)
  | ((with_reducible show SoundN _ (Expr.BinOp _ Operator.Mult _ _) _); exact SoundN.rep (by walk_at "mN") (by walk_at "mE") _)
  | ((with_reducible show SoundN _ (Expr.Call (Expr.Name (Str.ofString "sorted") _) _ _ _) _); exact SoundN.sorted (by walk_at "mOk") _ _ (by rfl) (by walk_at "mNo") (by walk_at "mEs"))
  | ((with_reducible show SoundN _ (Expr.Subscript _ (Expr.Slice _ _ none _) _) _); exact SoundN.sliceMid (by walk_at "mE") _ _ _ _ _ _ _ _)
  | ((with_reducible show SoundN _ (Expr.ListComp _ _ _ _) _); walk_at "mCo"))
local macro_rules | `(tactic| walk_at "mTgC") => `(tactic| first
  | exact CompTg.name rfl _ _ (by rfl)
  | exact CompTg.pair rfl (Cx.Ok.hh (by walk_at "mOk")) _ _ _ _ _ _ (by rfl) (by rfl) (by decide))
local macro_rules | `(tactic| walk_at "mIfs") => `(tactic| first | (with_reducible exact SoundIfs.nil) | exact SoundIfs.one (by walk_at "mT"))
local macro_rules | `(tactic| walk_at "mCur") => `(tactic| first
  | ((with_reducible show SoundCur _ _ (Expr.Call (Expr.Name (Str.ofString "range") _) [_] _ _) _); exact SoundIter.cur (SoundIter.range1 (by walk_at "mOk") _ _ (by rfl) (by walk_at "mNo") (by walk_at "mE")))
  | ((with_reducible show SoundCur _ _ (Expr.Subscript _ _ _) _); exact SoundIter.cur (SoundIter.new (by walk_at "mOk") (by walk_at "mN")))
  | walk_at "mCurX")
local macro_rules | `(tactic| walk_at "mCaps") => `(tactic| first | exact List.forall_mem_nil _ | exact List.forall_mem_cons.mpr ⟨⟨fun C => by first | exact Or.inl rfl | exact Or.inr rfl, by first | exact Or.inl rfl | exact Or.inr rfl, rfl⟩, by walk_at "mCaps"⟩)
local macro_rules | `(tactic| walk_at "mIt") => `(tactic| first
  | ((with_reducible show SoundIter _ _ (Expr.Call (Expr.Name (Str.ofString "range") _) [_] _ _) _); exact SoundIter.range1 (by walk_at "mOk") _ _ (by rfl) (by walk_at "mNo") (by walk_at "mE"))
  | ((with_reducible show SoundIter _ _ (Expr.Call (Expr.Name (Str.ofString "range") _) [_, _] _ _) _); exact SoundIter.range2 (by walk_at "mOk") _ _ (by rfl) (by walk_at "mNo") (by walk_at "mEs"))
  | ((with_reducible show SoundIter _ _ (Expr.Call (Expr.Name (Str.ofString "enumerate") _) _ _ _) _); exact SoundIter.enum (by walk_at "mOk") _ _ (by rfl) (by walk_at "mNo") (by walk_at "mE"))
  | ((with_reducible show SoundIter _ _ (Expr.Call (Expr.Name (Str.ofString "zip") _) _ _ _) _); exact SoundIter.zip (by walk_at "mOk") rfl _ _ (by rfl) (by walk_at "mNo") (by walk_at "mEs"))
  | exact SoundIter.new (by walk_at "mOk") (by walk_at "mN"))
local macro_rules | `(tactic| walk_at "mTg") => `(tactic| first
  | exact SoundTg.name (by walk_at "mOk") (mt := false) rfl _ _ (by walk_at "mSt")
  | exact SoundTg.pair (by walk_at "mOk") (mt := false) rfl _ _ _ _ _ _ (by walk_at "mSt") (by walk_at "mSt"))
local macro_rules | `(tactic| walk_at "mSs") => `(tactic| first | (with_reducible exact SoundSs.nil) | exact SoundSs.cons (by walk_at "mS") (by walk_at "mSs"))
local macro_rules | `(tactic| walk_at "mSsD") => `(tactic| first | (with_reducible exact SoundSs.nil) | exact SoundSs.cons (by walk_at "mS") (by walk_at "mSsD"))
local macro_rules | `(tactic| walk_at "mS") => `(tactic| first
  | ((with_reducible show SoundS _ (Stmt.Break _) _); exact SoundS.brk _)
  | ((with_reducible show SoundS _ (Stmt.Continue _) _); exact SoundS.cont _)
  | ((with_reducible show SoundS _ (Stmt.Return _ _) _); exact SoundS.ret (by walk_at "mE") _)
  | ((with_reducible show SoundS _ (Stmt.If _ _ _ _) _); exact SoundS.iff (by walk_at "mT") _ (by walk_at "mSs") (by walk_at "mSs"))
  | ((with_reducible show SoundS _ (Stmt.Assign [Expr.Tuple [_, _] _ _] (Expr.Tuple [Expr.List _ _, Expr.List _ _] _ _) _) _); exact SoundS.assign2N (by walk_at "mOk") rfl _ _ _ _ (by walk_at "mN") (by walk_at "mN") _ _ _ _ _ (by walk_at "mSt") (by walk_at "mSt") (by decide))
  | ((with_reducible show SoundS _ (Stmt.Assign [Expr.Tuple [_, _] _ _] _ _) _); first | exact SoundS.assignSwap (by walk_at "mOk") (mt := false) rfl (Tgts.cons _ _ (Tgts.cons _ _ Tgts.nil)) (by walk_at "mE") _ _ _ (by walk_at "mSts") (by rfl) | exact SoundS.assignTup (by walk_at "mOk") (mt := false) rfl (Tgts.cons _ _ (Tgts.cons _ _ Tgts.nil)) (by walk_at "mE") _ _ _ (by walk_at "mSts"))
  | ((with_reducible show SoundS _ (Stmt.Assign [Expr.Tuple [_, _, _] _ _] _ _) _); first | exact SoundS.assignSwap (by walk_at "mOk") (mt := false) rfl (Tgts.cons _ _ (Tgts.cons _ _ (Tgts.cons _ _ Tgts.nil))) (by walk_at "mE") _ _ _ (by walk_at "mSts") (by rfl) | exact SoundS.assignTup (by walk_at "mOk") (mt := false) rfl (Tgts.cons _ _ (Tgts.cons _ _ (Tgts.cons _ _ Tgts.nil))) (by walk_at "mE") _ _ _ (by walk_at "mSts"))
  | ((with_reducible show SoundS _ (Stmt.Assign [_, _] _ _) _); exact SoundS.assign2 (by walk_at "mOk") _ _ _ _ (by walk_at "mE") _ (by walk_at "mSt") (by walk_at "mSt"))
  | ((with_reducible show SoundS _ (Stmt.Assign [Expr.Subscript _ _ _] _ _) _); exact SoundS.setItem (by walk_at "mOk") _ _ _ _ (by walk_at "mE") (by walk_at "mE"))
  | ((with_reducible show SoundS _ (Stmt.Assign [Expr.Name _ _] (Expr.ListComp _ _ _ _) _) _); walk_at "mCoS")
  | ((with_reducible show SoundS _ (Stmt.Assign [Expr.Name _ _] (Expr.BinOp (Expr.List _ _) _ _ _) _) _); exact SoundS.assignN (by walk_at "mOk") rfl _ _ (by walk_at "mN") _ (by walk_at "mSt"))
  | ((with_reducible show SoundS _ (Stmt.Assign [Expr.Name _ _] (Expr.Call (Expr.Name (Str.ofString "sorted") _) _ _ _) _) _); exact SoundS.assignN (by walk_at "mOk") rfl _ _ (by walk_at "mN") _ (by walk_at "mSt"))
  | ((with_reducible show SoundS _ (Stmt.Assign [Expr.Name _ _] _ _) _); exact SoundS.assign (by walk_at "mOk") (mt := false) rfl _ _ (by walk_at "mE") _ (by walk_at "mSt"))
  | ((with_reducible show SoundS _ (Stmt.AugAssign _ _ _ _) _); exact SoundS.aug (by walk_at "mOk") (mt := false) rfl _ _ (by walk_at "mE") _ (by walk_at "mSt"))
  | ((with_reducible show SoundS _ (Stmt.Expr (Expr.Call (Expr.Attribute _ (Str.ofString "append") _) _ _ _) _) _); exact SoundS.append (by walk_at "mOk") _ _ _ _ _ (by walk_at "mE"))
  | ((with_reducible show SoundS _ (Stmt.Expr (Expr.Call (Expr.Attribute _ (Str.ofString "remove") _) _ _ _) _) _); exact SoundS.remove (by walk_at "mOk") _ _ _ _ _ (by walk_at "mE"))
  | ((with_reducible show SoundS _ (Stmt.For _ _ _ _ _) _); exact SoundS.for (by walk_at "mIt") (by walk_at "mTg") (by walk_at "mSs") _)
  | ((with_reducible show SoundS _ (Stmt.Try _ (_ :: _) [] [] _) _); exact SoundS.try (by walk_at "mSs") _)
  | ((with_reducible show SoundS _ (Stmt.While _ _ _ _) _); exact SoundS.while 20 (by walk_at "mT") (by walk_at "mSs") _))

local macro_rules | `(tactic| walk_at "mX") => `(tactic| first
  | ((with_reducible show SoundE _ (Expr.Call (Expr.Attribute (Expr.Name _ _) _ _) [Expr.Starred _ _] _ _) _); exact SoundE.methStar (by walk_at "mOk") _ _ _ _ _ _ _ _ (by with_reducible assumption))
  | ((with_reducible show SoundE _ (Expr.Call (Expr.Name _ _) [Expr.Starred _ _] _ _) _); exact SoundE.callOstar (by walk_at "mOk") _ _ _ _ _ _ (by with_reducible assumption)))
local macro_rules | `(tactic| walk_at "mCurX") => `(tactic| exact SoundCur.pairs (by walk_at "mOk") (by walk_at "mE"))
local macro_rules | `(tactic| walk_at "mCo") => `(tactic| exact SoundN.comp (by walk_at "mOk") ["told"] _ (by rfl) (by walk_at "mCur") (by intro C; walk_at "mTgC") (by intro C; walk_at "mIfs") (by intro C; walk_at "mE") (by walk_at "mCaps") (by decide) rfl (by decide))
local macro_rules | `(tactic| walk_at "mCoS") => `(tactic| fail)
noncomputable def similarPack (w : World) (x : Addr) (b : Bool) : (den : DS) ×' WalkOf w false (fun A B => (A.depth + 2 < recursionLimit ∧ ∀ env, (A.deeper env).units + 1 < cLine) ∧ Ins B x b) den (fdAt (hd.heap_39 w.params) 168) := by
  apply PSigma.mk
  conv => arg 5; whnf
  intro prog A B mg mb L f ok X pre
  have e0 := Env0.mk ok X (by rfl) (by rfl)
  have g1 := call_inst (w := w) rfl e0 ok.hh pre.1.1 pre.1.2 pre.2
  conv => arg 2; whnf
  walk_at "mSsD"
noncomputable def similarSpec (w : World) (x : Addr) (b : Bool) : List PV → Option PV
  | [.str s, .str t] => callSpec w x b [.str s, .str t]
  | _ => none
theorem callSpec_atom {w : World} {x : Addr} {b : Bool} {s t : Str} {r : PV} (h : callSpec w x b [.str s, .str t] = some r) : r.atom = true := (retOf_run h).1
theorem similar_run (w : World) (x : Addr) (b : Bool) (s t : Str) (r : PV) (h : callSpec w x b [.str s, .str t] = some r) : ∃ σ', (similarPack w x b).1 (setAll (fun _ => none) ["self", "sequences"] [.obj (.ref x), .tup [.str s, .str t]]) = some (σ', .ret r) := by
  unfold similarPack
  dsimp only
  simp [setAll, Store.set, seqS, h]
theorem similar_data (w : World) (x : Addr) (bb : Bool) : ∃ fd den, FnData w 168 fd ["self", "sequences"] false (fun A B => (A.depth + 2 < recursionLimit ∧ ∀ env, (A.deeper env).units + 1 < cLine) ∧ Ins B x bb) den ∧ (∀ x v u, bindArgs fd ⟨[x, v, u], []⟩ = (newTuple [v, u] >>= fun t => pure ((["self", "sequences"].map Str.ofString).zip ([x] ++ [t])))) ∧
    (∀ (s t : Str) (r : PV), callSpec w x bb [.str s, .str t] = some r → ∃ σ', den (setAll (fun _ => none) ["self", "sequences"] [.obj (.ref x), .tup [.str s, .str t]]) = some (σ', .ret r)) :=
  ⟨fdAt (hd.heap_39 w.params) 168, (similarPack w x bb).1, FnData.of (by rfl) ⟨by rfl, List.forall_mem_cons.mpr ⟨.inl (by rfl), List.forall_mem_cons.mpr ⟨.inl (by rfl), List.forall_mem_nil _⟩⟩, by rfl, by rfl, by rfl, by rfl, by rfl, by rfl⟩ (by rfl) (similarPack w x bb).2, fun x v u => by kernel_rfl, similar_run w x bb⟩
theorem similar_runs {c : Cx} (e0 : Env0 c) (hA : c.A.handled = none) (hroom : c.A.depth + 3 < recursionLimit) (hu : ∀ env env', ((c.A.deeper env).deeper env').units + 1 < cLine) {x : Addr} {b : Bool} (I : Ins c.B x b) : Runs c (.ref 168) [.ref x] c.B (similarSpec c.w x b) := by
  intro s k pvs vs r e hr
  unfold similarSpec at e
  split at e
  · rename_i a b'
    obtain ⟨v, u, rfl⟩ := len2 hr.len
    obtain ⟨fd, den, D, hbind, hrun⟩ := similar_data c.w x b
    obtain ⟨σ', hrun⟩ := hrun a b' r e
    have hb : BindV c fd ⟨[.ref x, v, u], []⟩ s ["self", "sequences"] false [.obj (.ref x), .tup [.str a, .str b']] :=
      BindV.star (fp := [.obj (.ref x)]) (front := [.ref x]) (rest := [v, u]) (rp := [.str a, .str b']) (hbind (.ref x) v u) (.cons (.imm (.obj _)) .nil) (hr.atoms (by rfl) false s.heap) (by rfl) (by simp)
    have hR := run_fn e0 hA (by omega) D k hb (fun h L q => ⟨⟨by show c.A.depth + 1 + 2 < _; omega, hu _⟩, I.sub (k.trans q)⟩) rfl (by rfl) (fun h => nomatch h) hrun
    exact hR.mono fun v h' q => q.atoms (callSpec_atom e) _ _
  · cases e
theorem similar_get {c : Cx} {w : World} (hw : c.w = w) (e0 : Env0 c) (hA : c.A.handled = none) (hroom : c.A.depth + 3 < recursionLimit) (hu : ∀ env env', ((c.A.deeper env).deeper env').units + 1 < cLine) {x : Addr} {b : Bool} (I : Ins c.B x b) : GetA c (.ref x) (Str.ofString "similarity") (fun f h' => Callee c f [] h' (similarSpec w x b)) := by
  subst hw
  have R := similar_runs e0 hA hroom hu I
  obtain ⟨ox, h1, t1, h2, t2, n, I, _⟩ := I
  exact GetA.fn e0.X I (by rfl) (by rfl) (by rfl) (by rfl) (by rfl) R
noncomputable def distPack (w : World) (x : Addr) (b : Bool) : (den : DS) ×' WalkOf w false (fun A B => (A.depth + 3 < recursionLimit ∧ ∀ env env', ((A.deeper env).deeper env').units + 1 < cLine) ∧ Ins B x b) den (fdAt (hd.heap_39 w.params) 161) := by
  apply PSigma.mk
  conv => arg 5; whnf
  intro prog A B mg mb L f ok X pre
  have e0 := Env0.mk ok X (by rfl) (by rfl)
  have g1 := maximum_get e0 ok.hh (by have := pre.1.1; show A.depth < _; omega) pre.2
  have g2 := similar_get (w := w) rfl e0 ok.hh pre.1.1 pre.1.2 pre.2
  conv => arg 2; whnf
  walk_at "mSsD"
noncomputable def distSpec (w : World) (x : Addr) (b : Bool) : List PV → Option PV
  | [.str s, .str t] => (callSpec w x b [.str s, .str t]).bind fun r => (binV .Sub (.int 1) r).bind fun d => if d.atom = true then some d else none
  | _ => none
theorem dist_run (w : World) (x : Addr) (b : Bool) (s t : Str) (r d : PV) (h : callSpec w x b [.str s, .str t] = some r) (h2 : binV .Sub (.int 1) r = some d) : ∃ σ', (distPack w x b).1 (setAll (fun _ => none) ["self", "sequences"] [.obj (.ref x), .tup [.str s, .str t]]) = some (σ', .ret d) := by
  unfold distPack
  dsimp only
  simp [setAll, Store.set, seqS, similarSpec, maximumSpec, h, h2]
theorem dist_data (w : World) (x : Addr) (bb : Bool) : ∃ fd den, FnData w 161 fd ["self", "sequences"] false (fun A B => (A.depth + 3 < recursionLimit ∧ ∀ env env', ((A.deeper env).deeper env').units + 1 < cLine) ∧ Ins B x bb) den ∧ (∀ x v u, bindArgs fd ⟨[x, v, u], []⟩ = (newTuple [v, u] >>= fun t => pure ((["self", "sequences"].map Str.ofString).zip ([x] ++ [t])))) ∧
    (∀ (s t : Str) (r d : PV), callSpec w x bb [.str s, .str t] = some r → binV .Sub (.int 1) r = some d → ∃ σ', den (setAll (fun _ => none) ["self", "sequences"] [.obj (.ref x), .tup [.str s, .str t]]) = some (σ', .ret d)) :=
  ⟨fdAt (hd.heap_39 w.params) 161, (distPack w x bb).1, FnData.of (by rfl) ⟨by rfl, List.forall_mem_cons.mpr ⟨.inl (by rfl), List.forall_mem_cons.mpr ⟨.inl (by rfl), List.forall_mem_nil _⟩⟩, by rfl, by rfl, by rfl, by rfl, by rfl, by rfl⟩ (by rfl) (distPack w x bb).2, fun x v u => by kernel_rfl, dist_run w x bb⟩
theorem dist_runs {c : Cx} (e0 : Env0 c) (hA : c.A.handled = none) (hroom : c.A.depth + 4 < recursionLimit) (hu : ∀ env env' env'', (((c.A.deeper env).deeper env').deeper env'').units + 1 < cLine) {x : Addr} {b : Bool} (I : Ins c.B x b) : Runs c (.ref 161) [.ref x] c.B (distSpec c.w x b) := by
  intro s k pvs vs r e hr
  unfold distSpec at e
  split at e
  · rename_i a b'
    simp only [Option.bind_eq_some_iff] at e
    obtain ⟨q, e1, d, e2, e3⟩ := e
    split at e3
    · rename_i hat
      cases e3
      obtain ⟨v, u, rfl⟩ := len2 hr.len
      obtain ⟨fd, den, D, hbind, hrun⟩ := dist_data c.w x b
      obtain ⟨σ', hrun⟩ := hrun a b' q r e1 e2
      have hb : BindV c fd ⟨[.ref x, v, u], []⟩ s ["self", "sequences"] false [.obj (.ref x), .tup [.str a, .str b']] :=
        BindV.star (fp := [.obj (.ref x)]) (front := [.ref x]) (rest := [v, u]) (rp := [.str a, .str b']) (hbind (.ref x) v u) (.cons (.imm (.obj _)) .nil) (hr.atoms (by rfl) false s.heap) (by rfl) (by simp)
      have hR := run_fn e0 hA (by omega) D k hb (fun h L q => ⟨⟨by show c.A.depth + 1 + 3 < _; omega, hu _⟩, I.sub (k.trans q)⟩) rfl (by rfl) (fun h => nomatch h) hrun
      exact hR.mono fun v h' q => q.atoms hat _ _
    · cases e3
  · cases e
theorem dist_get {c : Cx} (e0 : Env0 c) {x : Addr} {b : Bool} (I : Ins c.B x b) : GetM c (.ref x) (Str.ofString "distance") (.ref 161) [.ref x] := by
  obtain ⟨ox, h1, t1, h2, t2, n, I, _⟩ := I
  exact GetM.fn e0.X I (by rfl) (by rfl) (by rfl) (by rfl) (by rfl)
theorem dist_callee {c : Cx} {w : World} (hw : c.w = w) (e0 : Env0 c) (hA : c.A.handled = none) (hroom : c.A.depth + 4 < recursionLimit) (hu : ∀ env env' env'', (((c.A.deeper env).deeper env').deeper env'').units + 1 < cLine) {x : Addr} {b : Bool} (I : Ins c.B x b) : Callee c (.ref 161) [.ref x] c.B (distSpec w x b) :=
  hw ▸ Runs.callee e0.X (by rfl) (dist_runs e0 hA hroom hu I)
noncomputable def fitsPack (w : World) : (den : DS) ×' WalkOf w false (fun _ _ => True) den (fdAt (hd.heap_39 w.params) 271) := by
  apply PSigma.mk
  conv => arg 5; whnf
  intro prog A B mg mb L f ok X _
  conv => arg 2; whnf
  walk_at "mSsD"
end
section
open PySem PySem.Spec PySem.Calls PyProof.Rows PySem.W
set_option maxRecDepth 100000
set_option maxHeartbeats 8000000
abbrev initBinds (x : Value) (b : Bool) : List (Str × Value) := [(Str.ofString "self", x), (Str.ofString "long_strings", .bool b), (Str.ofString "external", .bool true)]
def kwFor (b : Bool) : List (Str × Value) := if b = true then [(Str.ofString "long_strings", .bool true)] else []
def InitBinds (w : World) (fd : FuncData) : Prop := ∀ (s : Shared) (_ : (hd.heap_39 w.params).In s.heap) (x : Value) (b : Bool), BindsTo s fd ⟨[x], kwFor b⟩ (initBinds x b)
theorem init_binds (w : World) : InitBinds w (fdAt (hd.heap_39 w.params) 232) := by
  conv => arg 2; whnf
  intro s X x b
  cases b
  · exact binds_K X (by with_reducible rfl) (by rfl) (by rfl) (by rfl) (by rfl)
  · exact binds_K X (by with_reducible rfl) (by rfl) (by rfl) (by rfl) (by rfl)
def InitWalk (w : World) (fd : FuncData) : Prop := ∀ (prog : Program) (A : Around) (h₀ : Heap) (L f x dx : Addr) (b : Bool) (m : Str → Option Value) (s : Shared) (Q : Flow → Shared → Prop) (E : Value → Shared → Prop), (hd.heap_39 w.params).In h₀ → Fr h₀ L s.heap m → m (Str.ofString "self") = some (.ref x) → m (Str.ofString "long_strings") = some (.bool b) → m (Str.ofString "external") = some (.bool true) →
  News h₀ L s.heap [(x, instObj 259 dx), (dx, emptyDict)] → dx < x → (∀ h' tk, Sub h₀ h' → (∃ ox h1 t1 h2 t2 n, InstAt h' x ox 259 (some (insDict b h1 t1 h2 t2 n)) ∧ ox.data = .plain ∧ ox.dict = some dx) → Q .next { s with heap := h', toks := tk }) →
  wpAny (model prog w) A (execs (bodyOf fd) (callEnv fd L f)) Q E s
theorem init_walk (w : World) : InitWalk w (fdAt (hd.heap_39 w.params) 232) := by
  conv => arg 2; whnf
  intro prog A h₀ L f x dx b m s Q E X F m1 m2 m3 N hlt k
  conv => arg 3; arg 1; whnf
  refine wpAny_execs_cons (plainObj_wpAny_Assign_Attribute (wpAny_Name (wpAny_loadName_local rfl (by rfl) F.ns m2 ?_) (by decide)) (by rfl))
  refine wpAny_Name (wpAny_loadName_local rfl (by rfl) F.ns m1 ?_) (by decide)
  refine set_dict (es := []) (n := 0) F X N (InstAt.of_news N (.head _) (.tail _ (.head _))) rfl (by rfl) (by rfl) (by rfl) (by rfl) (by rfl) rfl (.tail (Nat.ne_of_gt hlt) (.head (fun p hp => by cases hp))) (by show 1 ≤ 1000; decide) fun h1 F1 N1 => ?_
  refine wpAny_execs_cons (plainObj_wpAny_Assign_Attribute (wpAny_Name (wpAny_loadName_local rfl (by rfl) F1.ns m3 ?_) (by decide)) (by rfl))
  refine wpAny_Name (wpAny_loadName_local rfl (by rfl) F1.ns m1 ?_) (by decide)
  refine set_dict F1 X N1 (InstAt.of_news N1 (.head _) (.tail _ (.head _))) rfl (by rfl) (by rfl) (by rfl) (by rfl) (by rfl) rfl (.tail (Nat.ne_of_gt hlt) (.head (fun p hp => by cases hp))) (by show 2 ≤ 1000; decide) fun h2 F2 N2 => ?_
  refine wpAny_execs_nil (k h2 _ F2.keep ⟨_, _, _, _, _, _, InstAt.of_news N2 (.head _) (.tail _ (.head _)), rfl, rfl⟩)
def InitFacts (w : World) (fd : FuncData) : Prop := fd.body = .stmts (bodyOf fd) ∧ (∀ x ∈ fd.scope.names, x.2 ≠ .cell) ∧ (∀ x b, ∀ y ∈ initBinds x b, fd.scope.names.lookup y.1 = some .local) ∧ fd.scope.isCoroutine = false ∧ fd.scope.isGenerator = false ∧ fd.scope.kind = .function ∧
  codeIn (hd.heap_39 w.params) fd.code fd.qualname = true
theorem init_facts (w : World) : InitFacts w (fdAt (hd.heap_39 w.params) 232) := by
  conv => arg 2; whnf
  refine ⟨rfl, by decide, fun x b y hy => ?_, rfl, rfl, rfl, by rfl⟩
  rcases List.mem_cons.mp hy with rfl | hy
  · rfl
  rcases List.mem_cons.mp hy with rfl | hy
  · rfl
  rcases List.mem_cons.mp hy with rfl | hy
  · rfl
  cases hy
/-- a new instance -/
def InsN (h h' : Heap) (x : Addr) (b : Bool) : Prop := ∃ ox dx h1 t1 h2 t2 n, InstAt h' x ox 259 (some (insDict b h1 t1 h2 t2 n)) ∧ ox.data = .plain ∧ ox.dict = some dx ∧ h.get? x = none ∧ h.get? dx = none
structure InitData (w : World) (fd : FuncData) : Prop where
  look : ∃ o, (hd.heap_39 w.params).lookup 232 = some o ∧ o.data = .func fd
  facts : InitFacts w fd
  binds : InitBinds w fd
  walk : InitWalk w fd
theorem init_data (w : World) : ∃ fd, InitData w fd := ⟨_, fdAt_of (by rfl), init_facts w, init_binds w, init_walk w⟩
theorem make_run {c : Cx} (e0 : Env0 c) {A : Around} (b : Bool) (hroom : (A.under (.builtin "type.__call__" ⟨.ref 259 :: [], kwFor b⟩)).depth < recursionLimit) {s : Shared} (k : Sub c.B s.heap) {R : Result → Shared → Prop}
    (next : ∀ x h' tk, Sub s.heap h' → InsN s.heap h' x b → R (.ok (.ret (.ref x))) { s with heap := h', toks := tk }) : codeAny c.M A (.call (.ref 259) ⟨[], kwFor b⟩) R s := by
  obtain ⟨hh, g, d, t, os⟩ := s
  have X : (hd.heap_39 c.w.params).In hh := e0.X.keeps k
  obtain ⟨fd, ⟨o, ho, hdat⟩, ⟨f1, f2, f3, f4, f5, f6, f7⟩, hb, hw⟩ := init_data c.w
  have hfi : findIn (hd.heap_39 c.w.params) (.ref 259) "__init__" = some (some (.ref 232)) := by rfl
  have hty : typeIn (hd.heap_39 c.w.params) (.ref 232) = some (.type "function") := by rfl
  refine make_core (makes_of X (by rfl)) (looks_findIn X hfi) (fun self => bind_fn X self hty) (.inl rfl) ?_
  have kk : Sub hh ((hh.push emptyDict).push (instObj 259 hh.objs.size)) := fun b o e => Heap.get?_push_of_some _ (Heap.get?_push_of_some _ e)
  have X2 := X.keeps kk
  refine codeAny_call_def (fd := fd) (body := bodyOf fd) (binds := initBinds (.ref (hh.objs.size + 1)) b) hroom (X2 _ _ ho) hdat ((e0.ok.nl.keeps k).keeps kk) (codeRec_of X2 f7) f1 (hb _ X2 _ b) f2 (f3 _ b) (fun h₁ hns hk₁ => ?_) f4 f5 f6
  have hx : ((hh.push emptyDict).push (instObj 259 hh.objs.size)).get? (hh.objs.size + 1) = some (instObj 259 hh.objs.size) := by
    have := Heap.get?_push_size (hh.push emptyDict) (o := instObj 259 hh.objs.size) rfl
    rwa [Heap.size_push] at this
  have hdx : ((hh.push emptyDict).push (instObj 259 hh.objs.size)).get? hh.objs.size = some emptyDict := Heap.get?_push_of_some _ (Heap.get?_push_size _ rfl)
  have hsz : ((hh.push emptyDict).push (instObj 259 hh.objs.size)).objs.size = hh.objs.size + 2 := by rw [Heap.size_push, Heap.size_push]
  refine hw c.prog _ hh _ 232 (hh.objs.size + 1) hh.objs.size b _ _ _ _ X ⟨hns, fun b o e => hk₁ b o (kk b o e), by rw [hsz]; omega⟩ (by rfl) (by rfl) (by rfl) ?_ (Nat.lt_succ_self _) fun h' tk hs ⟨ox, h1, t1, h2, t2, n, i1, i2, i3⟩ => ⟨rfl, next _ h' tk hs ⟨ox, _, h1, t1, h2, t2, n, i1, i2, i3, get_none (Sub.refl hh) (Nat.le_succ _), get_none (Sub.refl hh) (Nat.le_refl _)⟩⟩
  intro p hp
  rcases List.mem_cons.mp hp with rfl | hp
  · refine ⟨hk₁ _ _ hx, by show hh.objs.size + 1 ≠ _; rw [hsz]; omega, get_none (Sub.refl hh) (Nat.le_succ _)⟩
  rcases List.mem_cons.mp hp with rfl | hp
  · refine ⟨hk₁ _ _ hdx, by show hh.objs.size ≠ _; rw [hsz]; omega, get_none (Sub.refl hh) (Nat.le_refl _)⟩
  cases hp
theorem make_does {c : Cx} (e0 : Env0 c) (b : Bool) (hroom : (c.A.under (.builtin "type.__call__" ⟨.ref 259 :: [], kwFor b⟩)).depth < recursionLimit) {s : Shared} (k : Sub c.B s.heap) :
    Does c (call (.ref 259) [] (kwFor b)) s (fun v h' => ∃ x, v = .ref x ∧ InsN s.heap h' x b) := by
  refine CodeDoes.does (c := c) fun R q => ?_
  exact make_run e0 b hroom k fun x h' tk hs hi => q _ h' tk ⟨x, rfl, hi⟩ hs
theorem call_kw {c : Cx} (e0 : Env0 c) (b : Bool) (hroom : (c.A.under (.builtin "type.__call__" ⟨.ref 259 :: [], kwFor b⟩)).depth < recursionLimit) {s : Shared} (k : Sub c.B s.heap) (np pos kp kp' : Pos) (n : Nat)
    (hx : c.env.kindOf (Str.ofString "StrCmp95") = some .globalImplicit) :
    Does c (eval (.Call (.Name (Str.ofString "StrCmp95") np) [] (if b = true then [⟨some (Str.ofString "long_strings"), .Constant (.bool true) n kp, kp'⟩] else []) pos) c.env) s (fun v h' => ∃ x, v = .ref x ∧ InsN s.heap h' x b) := by
  intro Q E q
  have hmg : c.mg (Str.ofString "StrCmp95") = some (.ref 259) := mg_of e0.X (e0.g ▸ e0.ok.g) (by rfl)
  show wpAny c.M c.A (do callWith pos (← eval (.Name (Str.ofString "StrCmp95") np) c.env) [] (backTo pos (starEach [] c.env)) (backToKw pos (keywordEach _ c.env))) Q E s
  refine wpAny_bind (Name_function_global e0.ok.hk hx (loadGlobal_global (e0.ok.g.keeps k) hmg ?_) (by decide))
  have M := make_does e0 b hroom k Q E q
  cases b
  · exact callWith_K0 (e0.X.keeps k) (by rfl) M
  · refine callWith_KW0 (e0.X.keeps k) (by rfl) rfl ?_
    have hc : ∀ (Q : Value → Shared → Prop), Q (.bool true) s → wpAny c.M c.A (eval (.Constant (.bool true) n kp) c.env) Q E s := fun Q q => fun _ _ _ => q
    exact kwAll_cons (hc _ (kwAll_nil ⟨e0.X.keeps k, M⟩))
theorem call_new {c : Cx} (e0 : Env0 c) (b : Bool) (hroom : ∀ b, (c.A.under (.builtin "type.__call__" ⟨.ref 259 :: [], kwFor b⟩)).depth < recursionLimit) {s : Shared} {σ : Store} (I : EInv c σ s.heap) (t : String) (ht : σ t = some (.bool b)) (pt np pos np' pos' kp kp' ip : Pos) (n : Nat)
    (hx : c.env.kindOf (Str.ofString "StrCmp95") = some .globalImplicit) (hd1 : (Str.ofString t == ("__debug__" : Str)) = false) (hd1' : (Str.ofString t == ("__classdict__" : Str)) = false) :
    Does c (eval (.IfExp (.Name (Str.ofString t) pt) (.Call (.Name (Str.ofString "StrCmp95") np) [] [⟨some (Str.ofString "long_strings"), .Constant (.bool true) n kp, kp'⟩] pos) (.Call (.Name (Str.ofString "StrCmp95") np') [] [] pos') ip) c.env) s (fun v h' => ∃ x, v = .ref x ∧ InsN s.heap h' x b) := by
  intro Q E q
  refine wpAny_IfExp (SoundT.val (SoundE.var e0.ok t pt hd1 hd1') (by rfl) σ b s (by simp [ht, truthV]) I _ E fun vb h1 tk1 r1 k1 => ?_)
  subst r1
  have sub' : ∀ {h' x b}, InsN h1 h' x b → InsN s.heap h' x b := fun ⟨ox, dx, a1, a2, a3, a4, a5, a6, a7, a8, a9, a10⟩ => ⟨ox, dx, a1, a2, a3, a4, a5, a6, a7, a8, get_none' k1 a9, get_none' k1 a10⟩
  cases vb with
  | true => exact call_kw e0 true (hroom _) (s := { s with heap := h1, toks := tk1 }) (I.base.trans k1) np pos kp kp' n hx _ E fun v h2 tk2 ⟨x, r1, r2⟩ k2 => q v h2 tk2 ⟨x, r1, sub' r2⟩ (k1.trans k2)
  | false => exact call_kw e0 false (hroom _) (s := { s with heap := h1, toks := tk1 }) (I.base.trans k1) np' pos' kp kp' n hx _ E fun v h2 tk2 ⟨x, r1, r2⟩ k2 => q v h2 tk2 ⟨x, r1, sub' r2⟩ (k1.trans k2)
theorem plain_stmt {c : Cx} (e0 : Env0 c) (b : Bool) (hroom : ∀ b, (c.A.under (.builtin "type.__call__" ⟨.ref 259 :: [], kwFor b⟩)).depth < recursionLimit) {h₀ : Heap} {σ : Store} {f : String → Value} {s : Shared} (I : InvF c h₀ σ f s.heap) (v t : String) (ht : σ t = some (.bool b)) (hv : Stor c v) (px pt np pos np' pos' kp kp' ip sp : Pos) (n : Nat)
    (hx : c.env.kindOf (Str.ofString "StrCmp95") = some .globalImplicit) (hd1 : (Str.ofString t == ("__debug__" : Str)) = false) (hd1' : (Str.ofString t == ("__classdict__" : Str)) = false)
    (hs : swapsWith (.IfExp (.Name (Str.ofString t) pt) (.Call (.Name (Str.ofString "StrCmp95") np) [] [⟨some (Str.ofString "long_strings"), .Constant (.bool true) n kp, kp'⟩] pos) (.Call (.Name (Str.ofString "StrCmp95") np') [] [] pos') ip) (some (.Name (Str.ofString v) px)) sp.line c.env = pure false)
    {Q : Flow → Shared → Prop} {E : Value → Shared → Prop}
    (k : ∀ h' tk x f', InvF c h₀ (σ.set v (.obj (.ref x))) f' h' → Ins (hide h' (Own c (σ.set v (.obj (.ref x))) f')) x b → Q .next { s with heap := h', toks := tk }) :
    wpAny c.M c.A (exec (.Assign [.Name (Str.ofString v) px] (.IfExp (.Name (Str.ofString t) pt) (.Call (.Name (Str.ofString "StrCmp95") np) [] [⟨some (Str.ofString "long_strings"), .Constant (.bool true) n kp, kp'⟩] pos) (.Call (.Name (Str.ofString "StrCmp95") np') [] [] pos') ip) sp) c.env) Q E s := by
  refine wpAny_Assign_Name (call_new e0 b hroom I.toE t ht pt np pos np' pos' kp kp' ip n hx hd1 hd1' _ E fun u h1 tk1 ⟨x, r1, r2⟩ k1 => ?_) hs
  subst r1
  have I1 := I.sub k1
  refine InvF.store (s := { s with heap := h1, toks := tk1 }) e0.ok I1 (pv := .obj (.ref x)) (.imm (.obj _)) (fun _ => rfl) (.inl rfl) hv fun h' tk I' hk => ?_
  refine k h' tk x _ I' ?_
  obtain ⟨ox, dx, a1, a2, a3, a4, a5, ⟨b1, b2, b3, b4⟩, a7, a8, a9, a10⟩ := r2
  have own : ∀ e, s.heap.get? e = none → ¬ Own c (σ.set v (.obj (.ref x))) (fset f v (.ref x)) e := by
    rintro e he (q | ⟨y, q⟩ | ⟨y, l, q1, q2⟩)
    · obtain ⟨m, o, _, _, ho, _⟩ := I.ns
      rw [q, ho] at he; cases he
    · obtain ⟨_, u, o, ho, _⟩ := I.cells y e q
      rw [ho] at he; cases he
    · simp only [Store.set] at q1
      split at q1
      · cases q1
      · rename_i hne
        simp only [fset, if_neg hne] at q2
        obtain ⟨e', vs, ex, ⟨n, hp⟩, _⟩ := (I.vars y _ q1).2.toList
        rw [q2] at ex; cases ex
        rw [he] at hp; cases hp
  have nl : ∀ e, s.heap.get? e = none → e ≠ c.env.locals ∧ ∀ y, c.env.cells.lookup y ≠ some e := fun e he => ⟨fun q => own e he (.inl q), fun y q => own e he (.inr (.inl ⟨y, q⟩))⟩
  refine ⟨ox, a1, a2, a3, a4, a5, ⟨?_, b2, b3, ?_⟩, a7⟩
  · rw [hide_get _ _ (own x a9)]; exact hk x ox (nl x a9) b1
  · rw [a8] at b4 ⊢
    dsimp only at b4 ⊢
    rw [hide_get _ _ (own dx a10)]; exact hk dx _ (nl dx a10) b4

open Classical in
noncomputable def joinG (v : String) (f : DS) (cond : Store → Prop) (suf : Addr → DS) : DS := fun σ => match f σ with
  | some (σ1, .next) => if h : cond σ1 ∧ ∃ r, ∀ d, ∃ σ', suf d (σ1.set v (.obj (.ref d))) = some (σ', .ret r) then some (fun _ => none, .ret h.2.choose) else none
  | some (_, .ret v) => some (fun _ => none, .ret v)
  | _ => none

theorem join_gen {c : Cx} {l : List Stmt} {n n' : Nat} {f : DS} (v : String) {cond : Store → Prop} {suf : Addr → DS} {Pd : Heap → Addr → Prop}
    (P : SoundKd c n l f)
    (M : ∀ h₀ σ (s : Shared) (Q : Flow → Shared → Prop) (E : Value → Shared → Prop), cond σ → Inv c h₀ σ s.heap →
      (∀ h' tk d f', InvF c h₀ (σ.set v (.obj (.ref d))) f' h' → Pd (hide h' (Own c (σ.set v (.obj (.ref d))) f')) d → wpAny c.M c.A (execs (l.drop n') c.env) Q E { s with heap := h', toks := tk }) →
      wpAny c.M c.A (execs (l.drop n) c.env) Q E s)
    (S : ∀ B d, Sub c.B B → Pd B d → SoundSs (c.on B) (l.drop n') (suf d)) :
    SoundSs c l (joinG v f cond suf) := by
  intro h₀ σ σ' fl s Q E e I k
  unfold joinG at e
  cases hf : f σ with
  | none => rw [hf] at e; cases e
  | some p =>
    obtain ⟨σ1, fl1⟩ := p
    rw [hf] at e
    refine P h₀ σ σ1 fl1 s Q E hf I (fun hn h1 tk1 I1 => ?_) (fun fw h1 tk1 I1 r1 hn => ?_)
    · subst hn
      dsimp only at e
      split at e
      · rename_i hc
        refine M h₀ σ1 { s with heap := h1, toks := tk1 } Q E hc.1 I1 fun h2 tk2 d f2 I2 T2 => ?_
        obtain ⟨σ2, e2⟩ := hc.2.choose_spec d
        cases e
        have kb := sub_rebase I2
        have hS := S (hide h2 (Own c _ f2)) d (I2.base.trans kb) T2
        refine hS (hide h2 (Own c _ f2)) _ σ2 _ { s with heap := h2, toks := tk2 } Q E e2 ⟨f2, InvF.on (InvF.rebase I2)⟩ fun fw h3 tk3 I3 r3 => ?_
        refine k fw h3 tk3 ?_ r3
        obtain ⟨f3, I3⟩ := I3
        refine ⟨f3, ?_⟩
        have I3' : InvF c (hide h2 (Own c _ f2)) σ2 f3 h3 := ⟨I2.base.trans kb, I3.keep, I3.ns, I3.freshL, I3.cells, I3.apart, I3.vars, I3.own, I3.fresh, I3.flat⟩
        exact (I3'.weaken kb I2.base).forget fun x pv q => by cases q
      · cases e
    · cases fl1 with
      | next => exact absurd rfl hn
      | brk => cases e
      | cont => cases e
      | ret v =>
        cases e
        obtain ⟨f1, I1⟩ := I1
        exact k fw h1 tk1 ⟨f1, I1.forget fun x pv q => by cases q⟩ r1
/-- two new lists of bools that differ -/
theorem SoundT.neBools {c : Cx} (hu : c.A.units + 64 < cLine) {l r : Expr} {f g : Store → Option (List PV)} (hl : SoundN c l f) (pos : Pos) (hr : SoundN c r g) (hm : behindInMarks .NotEq r = false := by with_unfolding_all rfl) :
    SoundT c (.Compare l [.NotEq] [r] pos) (fun σ => (f σ).bind fun a => (g σ).bind fun b => (boolsOf a).bind fun xs => (boolsOf b).bind fun ys =>
      if (PyData.list (xs.map .bool)).layable0 = true ∧ (PyData.list (ys.map .bool)).layable0 = true then some (!PyData.eqv (.list (xs.map .bool)) (.list (ys.map .bool))) else none) := by
  intro σ r s e I Q E k
  simp only [Option.bind_eq_some_iff] at e
  obtain ⟨a, e1, b, e2, xs, e3, ys, e4, e5⟩ := e
  split at e5
  · rename_i hlay
    cases e5
    refine wpAny_isTrue_Compare1 (hl σ a s e1 I _ E fun va h1 tk1 ⟨p, vs, r1, _, r2, r3⟩ k1 => ?_) hm
    refine hr σ b { s with heap := h1, toks := tk1 } e2 (I.sub k1) _ E fun vb h2 tk2 ⟨q, us, r4, _, r5, r6⟩ k2 => ?_
    subst r1; subst r4
    have reads : ∀ {h : Heap} {a : Addr} {l : List PV} {vs : List Value} {xs : List Bool}, h.PlainList a vs.toArray → boolsOf l = some xs → Reps c.mt h l vs → ∃ as, Reads h (.ref a) (.list (xs.map .bool)) as := by
      intro h a l vs xs hp hb hr
      have := bools_are hb hr
      subst this
      obtain ⟨n, hp⟩ := hp
      have all : ∀ xs : List Bool, ReadsAll h (xs.map .bool) (xs.map .bool) [] := by
        intro xs
        induction xs with
        | nil => exact .nil
        | cons x xs ih => exact .cons (as := []) (.bool x) ih
      exact ⟨_, .list hp rfl rfl (all xs)⟩
    obtain ⟨as, ra⟩ := reads r2 e3 r3
    obtain ⟨bs, rb⟩ := reads r5 e4 r6
    refine SeqAt.compareNe_layable (s := { s with heap := h2, toks := tk2 }) (Reads.keeps k2 ra) rb hlay.1 hlay.2 hu ?_
    exact wpAny_truthy_bool (k _ h2 tk2 rfl (k1.trans k2))
  · cases e5
end
section
open PySem PySem.Spec PySem.Calls PyProof.Rows PySem.W
set_option maxRecDepth 100000
set_option maxHeartbeats 8000000
/-! what writes the walks -/
local macro_rules | `(tactic| walk_at "mOk") => `(tactic| first | with_reducible assumption | exact Cx.Ok.comp (by with_reducible assumption) rfl)
local macro_rules | `(tactic| walk_at "mNo") => `(tactic| exact mg_none_of (by with_reducible assumption) (Cx.Ok.g (by with_reducible assumption)) (by rfl))
local macro_rules | `(tactic| walk_at "mSt") => `(tactic| first | exact Or.inl rfl | exact Or.inr ⟨rfl, _, rfl⟩)
local macro_rules | `(tactic| walk_at "mSts") => `(tactic| first | exact List.forall_mem_nil _ | exact List.forall_mem_cons.mpr ⟨by walk_at "mSt", by walk_at "mSts"⟩)
local macro_rules | `(tactic| walk_at "mEs") => `(tactic| first | (with_reducible exact SoundEs.nil) | exact SoundEs.cons (by walk_at "mE") (by walk_at "mEs") (by intro _; rfl))
local macro_rules | `(tactic| walk_at "mTs") => `(tactic| first | (with_reducible exact SoundTs.nil) | exact SoundTs.cons (by walk_at "mT") (by walk_at "mTs"))
local macro_rules | `(tactic| walk_at "mP") => `(tactic| first | (with_reducible exact SoundP.no) | exact SoundP.at (by walk_at "mE"))
local macro_rules | `(tactic| walk_at "mE") => `(tactic| first
  | walk_at "mX0"
  | ((with_reducible show SoundE _ (Expr.Constant (Const.int _) _ _) _); exact SoundE.int _ _ _)
  | ((with_reducible show SoundE _ (Expr.Constant (Const.str _) _ _) _); exact SoundE.str _ _ _)
  | ((with_reducible show SoundE _ (Expr.Constant (Const.float _) _ _) _); exact SoundE.flt _ _ _)
  | ((with_reducible show SoundE _ (Expr.Constant (Const.bool _) _ _) _); exact SoundE.bool _ _ _)
  | ((with_reducible show SoundE _ (Expr.Constant Const.none _ _) _); exact SoundE.none_ _ _)
  | ((with_reducible show SoundE _ (Expr.Name _ _) _); first | exact SoundE.var (by walk_at "mOk") _ _)
  | ((with_reducible show SoundE _ (Expr.BinOp _ _ _ _) _); exact SoundE.bin (by walk_at "mOk") (by walk_at "mE") _ _ (by walk_at "mE"))
  | ((with_reducible show SoundE _ (Expr.Compare _ [_] [_] _) _); exact SoundE.cmp (by walk_at "mE") _ _ (by walk_at "mE"))
  | ((with_reducible show SoundE _ (Expr.Compare _ [_, _] [_, _] _) _); exact SoundE.chain (by walk_at "mE") _ _ _ (by walk_at "mE") (by walk_at "mE"))
  | ((with_reducible show SoundE _ (Expr.IfExp _ _ _ _) _); exact SoundE.ifexp (by walk_at "mT") _ (by walk_at "mE") (by walk_at "mE"))
  | ((with_reducible show SoundE _ (Expr.Tuple _ _ _) _); exact SoundE.tup (by walk_at "mEs") _ _)
  | ((with_reducible show SoundE _ (Expr.Subscript _ (Expr.Slice _ _ none _) _) _); exact SoundE.sliceStr (by walk_at "mE") (by walk_at "mP") (by walk_at "mP") _ _)
  | ((with_reducible show SoundE _ (Expr.Subscript _ _ _) _); exact SoundE.sub (by walk_at "mE") (by walk_at "mE") _)
  | ((with_reducible show SoundE _ (Expr.Call (Expr.Name (Str.ofString "len") _) [Expr.Call (Expr.Name (Str.ofString "set") _) _ _ _] _ _) _); exact SoundE.lenSet (by walk_at "mOk") _ _ _ _ _ _ (by rfl) (by walk_at "mNo") (by rfl) (by walk_at "mNo"))
  | ((with_reducible show SoundE _ (Expr.Call (Expr.Name (Str.ofString "all") _) _ _ _) _); exact SoundE.callB (by walk_at "mOk") (Str.ofString "all") _ _ (id := "all") (by rfl) (by rfl) (by walk_at "mNo") (allV_ok (by walk_at "mOk")) (by walk_at "mEs"))
  | ((with_reducible show SoundE _ (Expr.Call (Expr.Name (Str.ofString "len") _) _ _ _) _); exact SoundE.callB (by walk_at "mOk") (Str.ofString "len") _ _ (id := "len") (by rfl) (by rfl) (by walk_at "mNo") lenV_ok (by walk_at "mEs"))
  | ((with_reducible show SoundE _ (Expr.Call (Expr.Name (Str.ofString "max") _) _ _ _) _); exact SoundE.callB (by walk_at "mOk") (Str.ofString "max") _ _ (id := "max") (by rfl) (by rfl) (by walk_at "mNo") (maxV_ok (by walk_at "mOk")) (by walk_at "mEs"))
  | ((with_reducible show SoundE _ (Expr.Call (Expr.Name (Str.ofString "min") _) _ _ _) _); exact SoundE.callB (by walk_at "mOk") (Str.ofString "min") _ _ (id := "min") (by rfl) (by rfl) (by walk_at "mNo") (minV_ok (by walk_at "mOk")) (by walk_at "mEs"))
  | ((with_reducible show SoundE _ (Expr.Call (Expr.Name (Str.ofString "abs") _) _ _ _) _); exact SoundE.callB (by walk_at "mOk") (Str.ofString "abs") _ _ (id := "abs") (by rfl) (by rfl) (by walk_at "mNo") absV_ok (by walk_at "mEs"))
  | ((with_reducible show SoundE _ (Expr.Call (Expr.Name (Str.ofString "ord") _) _ _ _) _); exact SoundE.callB (by walk_at "mOk") (Str.ofString "ord") _ _ (id := "ord") (by rfl) (by rfl) (by walk_at "mNo") ordV_ok (by walk_at "mEs"))
  | ((with_reducible show SoundE _ (Expr.Call (Expr.Name (Str.ofString "any") _) _ _ _) _); exact SoundE.callB (by walk_at "mOk") (Str.ofString "any") _ _ (id := "any") (by rfl) (by rfl) (by walk_at "mNo") (anyV_ok (by walk_at "mOk")) (by walk_at "mEs"))
  | ((with_reducible show SoundE _ (Expr.Call (Expr.Attribute _ (Str.ofString "strip") _) _ _ _) _); exact SoundE.strip (by walk_at "mE") _ _)
  | ((with_reducible show SoundE _ (Expr.Call (Expr.Attribute _ (Str.ofString "upper") _) _ _ _) _); exact SoundE.upper (by walk_at "mE") _ _)
  | ((with_reducible show SoundE _ (Expr.Call (Expr.Attribute _ (Str.ofString "lower") _) _ _ _) _); exact SoundE.lower (by walk_at "mE") _ _)
  | ((with_reducible show SoundE _ (Expr.Call (Expr.Attribute _ (Str.ofString "isdigit") _) _ _ _) _); exact SoundE.isdigit (by walk_at "mE") _ _)
  | ((with_reducible show SoundE _ (Expr.Call (Expr.Attribute _ (Str.ofString "join") _) _ _ _) _); exact SoundE.join (by walk_at "mE") (by walk_at "mN") _ _)
  | ((with_reducible show SoundE _ (Expr.BoolOp BoolOp.And _ _) _); exact SoundE.and (by walk_at "mEs") _)
  | walk_at "mX"
  | exact SoundE.ofN (by walk_at "mN"))
local macro_rules | `(tactic| walk_at "mT") => `(tactic| first
  | walk_at "mXT"
  | ((with_reducible show SoundT _ (Expr.Compare _ [_] [_] _) _); exact SoundT.cmp (by walk_at "mE") _ _ (by walk_at "mE"))
  | ((with_reducible show SoundT _ (Expr.UnaryOp UnaryOp.Not _ _) _); exact SoundT.not (by walk_at "mT") _)
  | ((with_reducible show SoundT _ (Expr.BoolOp BoolOp.And _ _) _); exact SoundT.and (by walk_at "mTs") _)
  | ((with_reducible show SoundT _ (Expr.BoolOp BoolOp.Or _ _) _); exact SoundT.or (by walk_at "mTs") _)
  | exact SoundT.val (by walk_at "mE"))
local macro_rules | `(tactic| walk_at "mN") => `(tactic| first
  | ((with_reducible show SoundN _ (Expr.List _ _) _); exact SoundN.list (by walk_at "mEs") _)
  | ((with_reducible show SoundN _ (Expr.BinOp _ Operator.Mult _ _) _); exact SoundN.rep (by walk_at "mN") (by walk_at "mE") _)
  | ((with_reducible show SoundN _ (Expr.Call (Expr.Name (Str.ofString "sorted") _) _ _ _) _); exact SoundN.sorted (by walk_at "mOk") _ _ (by rfl) (by walk_at "mNo") (by walk_at "mEs"))
  | ((with_reducible show SoundN _ (Expr.Subscript _ (Expr.Slice _ _ none _) _) _); exact SoundN.sliceMid (by walk_at "mE") _ _ _ _ _ _ _ _)
  | ((with_reducible show SoundN _ (Expr.ListComp _ _ _ _) _); walk_at "mCo"))
local macro_rules | `(tactic| walk_at "mTgC") => `(tactic| first
  | exact CompTg.name rfl _ _ (by rfl)
  | exact CompTg.pair rfl (Cx.Ok.hh (by walk_at "mOk")) _ _ _ _ _ _ (by rfl) (by rfl) (by decide))
local macro_rules | `(tactic| walk_at "mIfs") => `(tactic| first | (with_reducible exact SoundIfs.nil) | exact SoundIfs.one (by walk_at "mT"))
local macro_rules | `(tactic| walk_at "mCur") => `(tactic| first
  | ((with_reducible show SoundCur _ _ (Expr.Call (Expr.Name (Str.ofString "range") _) [_] _ _) _); exact SoundIter.cur (SoundIter.range1 (by walk_at "mOk") _ _ (by rfl) (by walk_at "mNo") (by walk_at "mE")))
  | ((with_reducible show SoundCur _ _ (Expr.Subscript _ _ _) _); exact SoundIter.cur (SoundIter.new (by walk_at "mOk") (by walk_at "mN")))
  | walk_at "mCurX")
local macro_rules | `(tactic| walk_at "mCaps") => `(tactic| first | exact List.forall_mem_nil _ | exact List.forall_mem_cons.mpr ⟨⟨fun C => by first | exact Or.inl rfl | exact Or.inr rfl, by first | exact Or.inl rfl | exact Or.inr rfl, rfl⟩, by walk_at "mCaps"⟩)
local macro_rules | `(tactic| walk_at "mIt") => `(tactic| first
  | ((with_reducible show SoundIter _ _ (Expr.Call (Expr.Name (Str.ofString "range") _) [_] _ _) _); exact SoundIter.range1 (by walk_at "mOk") _ _ (by rfl) (by walk_at "mNo") (by walk_at "mE"))
  | ((with_reducible show SoundIter _ _ (Expr.Call (Expr.Name (Str.ofString "range") _) [_, _] _ _) _); exact SoundIter.range2 (by walk_at "mOk") _ _ (by rfl) (by walk_at "mNo") (by walk_at "mEs"))
  | ((with_reducible show SoundIter _ _ (Expr.Call (Expr.Name (Str.ofString "enumerate") _) _ _ _) _); exact SoundIter.enum (by walk_at "mOk") _ _ (by rfl) (by walk_at "mNo") (by walk_at "mE"))
  | ((with_reducible show SoundIter _ _ (Expr.Call (Expr.Name (Str.ofString "zip") _) _ _ _) _); exact SoundIter.zip (by walk_at "mOk") rfl _ _ (by rfl) (by walk_at "mNo") (by walk_at "mEs"))
  | exact SoundIter.new (by walk_at "mOk") (by walk_at "mN"))
local macro_rules | `(tactic| walk_at "mTg") => `(tactic| first
  | exact SoundTg.name (by walk_at "mOk") (mt := true) rfl _ _ (by walk_at "mSt")
  | exact SoundTg.pair (by walk_at "mOk") (mt := true) rfl _ _ _ _ _ _ (by walk_at "mSt") (by walk_at "mSt"))
local macro_rules | `(tactic| walk_at "mSs") => `(tactic| first | (with_reducible exact SoundSs.nil) | exact SoundSs.cons (by walk_at "mS") (by walk_at "mSs"))
local macro_rules | `(tactic| walk_at "mSsD") => `(tactic| first | (with_reducible exact SoundSs.nil) | exact SoundSs.cons (by walk_at "mS") (by walk_at "mSsD"))
local macro_rules | `(tactic| walk_at "mS") => `(tactic| first
  | ((with_reducible show SoundS _ (Stmt.Break _) _); exact SoundS.brk _)
  | ((with_reducible show SoundS _ (Stmt.Continue _) _); exact SoundS.cont _)
  | ((with_reducible show SoundS _ (Stmt.Return _ _) _); exact SoundS.ret (by walk_at "mE") _)
  | ((with_reducible show SoundS _ (Stmt.If _ _ _ _) _); exact SoundS.iff (by walk_at "mT") _ (by walk_at "mSs") (by walk_at "mSs"))
  | ((with_reducible show SoundS _ (Stmt.Assign [Expr.Tuple [_, _] _ _] (Expr.Tuple [Expr.List _ _, Expr.List _ _] _ _) _) _); exact SoundS.assign2N (by walk_at "mOk") rfl _ _ _ _ (by walk_at "mN") (by walk_at "mN") _ _ _ _ _ (by walk_at "mSt") (by walk_at "mSt") (by decide))
  | ((with_reducible show SoundS _ (Stmt.Assign [Expr.Tuple [_, _] _ _] _ _) _); first | exact SoundS.assignSwap (by walk_at "mOk") (mt := true) rfl (Tgts.cons _ _ (Tgts.cons _ _ Tgts.nil)) (by walk_at "mE") _ _ _ (by walk_at "mSts") (by rfl) | exact SoundS.assignTup (by walk_at "mOk") (mt := true) rfl (Tgts.cons _ _ (Tgts.cons _ _ Tgts.nil)) (by walk_at "mE") _ _ _ (by walk_at "mSts"))
  | ((with_reducible show SoundS _ (Stmt.Assign [Expr.Tuple [_, _, _] _ _] _ _) _); first | exact SoundS.assignSwap (by walk_at "mOk") (mt := true) rfl (Tgts.cons _ _ (Tgts.cons _ _ (Tgts.cons _ _ Tgts.nil))) (by walk_at "mE") _ _ _ (by walk_at "mSts") (by rfl) | exact SoundS.assignTup (by walk_at "mOk") (mt := true) rfl (Tgts.cons _ _ (Tgts.cons _ _ (Tgts.cons _ _ Tgts.nil))) (by walk_at "mE") _ _ _ (by walk_at "mSts"))
  | ((with_reducible show SoundS _ (Stmt.Assign [_, _] _ _) _); exact SoundS.assign2 (by walk_at "mOk") _ _ _ _ (by walk_at "mE") _ (by walk_at "mSt") (by walk_at "mSt"))
  | ((with_reducible show SoundS _ (Stmt.Assign [Expr.Subscript _ _ _] _ _) _); exact SoundS.setItem (by walk_at "mOk") _ _ _ _ (by walk_at "mE") (by walk_at "mE"))
  | ((with_reducible show SoundS _ (Stmt.Assign [Expr.Name _ _] (Expr.ListComp _ _ _ _) _) _); walk_at "mCoS")
  | ((with_reducible show SoundS _ (Stmt.Assign [Expr.Name _ _] (Expr.BinOp (Expr.List _ _) _ _ _) _) _); exact SoundS.assignN (by walk_at "mOk") rfl _ _ (by walk_at "mN") _ (by walk_at "mSt"))
  | ((with_reducible show SoundS _ (Stmt.Assign [Expr.Name _ _] (Expr.Call (Expr.Name (Str.ofString "sorted") _) _ _ _) _) _); exact SoundS.assignN (by walk_at "mOk") rfl _ _ (by walk_at "mN") _ (by walk_at "mSt"))
  | ((with_reducible show SoundS _ (Stmt.Assign [Expr.Name _ _] _ _) _); exact SoundS.assign (by walk_at "mOk") (mt := true) rfl _ _ (by walk_at "mE") _ (by walk_at "mSt"))
  | ((with_reducible show SoundS _ (Stmt.AugAssign _ _ _ _) _); exact SoundS.aug (by walk_at "mOk") (mt := true) rfl _ _ (by walk_at "mE") _ (by walk_at "mSt"))
  | ((with_reducible show SoundS _ (Stmt.Expr (Expr.Call (Expr.Attribute _ (Str.ofString "append") _) _ _ _) _) _); exact SoundS.append (by walk_at "mOk") _ _ _ _ _ (by walk_at "mE"))
  | ((with_reducible show SoundS _ (Stmt.Expr (Expr.Call (Expr.Attribute _ (Str.ofString "remove") _) _ _ _) _) _); exact SoundS.remove (by walk_at "mOk") _ _ _ _ _ (by walk_at "mE"))
  | ((with_reducible show SoundS _ (Stmt.For _ _ _ _ _) _); exact SoundS.for (by walk_at "mIt") (by walk_at "mTg") (by walk_at "mSs") _)
  | ((with_reducible show SoundS _ (Stmt.Try _ (_ :: _) [] [] _) _); exact SoundS.try (by walk_at "mSs") _)
  | ((with_reducible show SoundS _ (Stmt.While _ _ _ _) _); exact SoundS.while 20 (by walk_at "mT") (by walk_at "mSs") _))

local macro_rules | `(tactic| walk_at "mX0") => `(tactic| ((with_reducible show SoundE _ (Expr.Name (Str.ofString "_law_alike") _) _); exact SoundE.globStr (by walk_at "mOk") _ _ (by rfl) (mg_of (by with_reducible assumption) (Cx.Ok.g (by with_reducible assumption)) (by rfl))))
local macro_rules | `(tactic| walk_at "mX") => `(tactic| fail)
local macro_rules | `(tactic| walk_at "mCurX") => `(tactic| exact SoundCur.list (by walk_at "mOk") (by walk_at "mE"))
local macro_rules | `(tactic| walk_at "mCo") => `(tactic| first
  | exact SoundN.comp (by walk_at "mOk") ["first", "mine", "second", "theirs"] _ (by rfl) (by walk_at "mCur") (by intro C; walk_at "mTgC") (by intro C; walk_at "mIfs") (by intro C; walk_at "mE") (by walk_at "mCaps") (by decide) rfl (by decide))
local macro_rules | `(tactic| walk_at "mCoS") => `(tactic| first
  | exact SoundS.assignComp (by walk_at "mOk") rfl _ _ ["i", "reach", "second", "first"] _ (by rfl) (by walk_at "mCur") (by intro C; walk_at "mTgC") (by intro C; walk_at "mIfs") (by intro C; walk_at "mE") (by rfl) (by rfl) (by walk_at "mCaps") (by decide) rfl (by decide)
  | exact SoundS.assignComp (by walk_at "mOk") rfl _ _ ["i", "second", "first"] _ (by rfl) (by walk_at "mCur") (by intro C; walk_at "mTgC") (by intro C; walk_at "mIfs") (by intro C; walk_at "mE") (by rfl) (by rfl) (by walk_at "mCaps") (by decide) rfl (by decide)
  | exact SoundS.assignComp (by walk_at "mOk") rfl _ _ [] _ (by rfl) (by walk_at "mCur") (by intro C; walk_at "mTgC") (by intro C; walk_at "mIfs") (by intro C; walk_at "mE") (by rfl) (by rfl) (by walk_at "mCaps") (by decide) rfl (by decide))
noncomputable def duesPack (w : World) : (den : DS) ×' WalkOf w true (fun _ _ => True) den (fdAt (hd.heap_39 w.params) 266) := by
  apply PSigma.mk
  conv => arg 5; whnf
  intro prog A B mg mb L f ok X _
  conv => arg 2; whnf
  walk_at "mSsD"
end
section
open PySem PySem.Spec PySem.Calls PyProof.Rows PySem.W
set_option maxRecDepth 100000
set_option maxHeartbeats 8000000
/-- what a run that changes lists gives back -/
def retOut (den : DS) (xs : List String) (pvs : List PV) : Option PV := match den (setAll (fun _ => none) xs pvs) with
  | some (_, .ret r) => some r.out
  | _ => none
theorem retOut_run {den xs pvs r} (h : retOut den xs pvs = some r) : ∃ σ' q, q.out = r ∧ den (setAll (fun _ => none) xs pvs) = some (σ', .ret q) := by
  unfold retOut at h
  split at h
  · rename_i e; cases h; exact ⟨_, _, rfl, e⟩
  · cases h
noncomputable def duesSpec (w : World) : List PV → Option PV
  | [.str s, .str t, .bool b] => retOut (duesPack w).1 ["first", "second", "stretch"] [.str s, .str t, .bool b]
  | _ => none
theorem dues_data (w : World) : ∃ fd den, den = (duesPack w).1 ∧ FnData w 266 fd ["first", "second", "stretch"] true (fun _ _ => True) den ∧ (∀ x v u, bindArgs fd ⟨[x, v, u], []⟩ = pure ((["first", "second", "stretch"].map Str.ofString).zip [x, v, u])) :=
  ⟨fdAt (hd.heap_39 w.params) 266, (duesPack w).1, rfl, FnData.of (by rfl) ⟨by rfl, List.forall_mem_cons.mpr ⟨.inr ⟨by rfl, fun n => by rfl⟩, List.forall_mem_cons.mpr ⟨.inr ⟨by rfl, fun n => by rfl⟩, List.forall_mem_cons.mpr ⟨.inl (by rfl), List.forall_mem_nil _⟩⟩⟩, by rfl, by rfl, by rfl, by rfl, by rfl, by rfl⟩ (by rfl) (duesPack w).2, fun x v u => by kernel_rfl⟩
theorem dues_runs {c : Cx} {w : World} (hw : c.w = w) (hm : c.mt = false) (e0 : Env0 c) (hA : c.A.handled = none) (hroom : c.A.depth < recursionLimit) : Runs c (.ref 266) [] c.B (duesSpec w) := by
  subst hw
  intro s k pvs vs r e hr
  unfold duesSpec at e
  split at e
  · rename_i a b' st
    obtain ⟨σ', q, hq, hrun⟩ := retOut_run e
    subst hq
    obtain ⟨v, u, z, rfl⟩ := len3 hr.len
    obtain ⟨fd, den, hden, D, hbind⟩ := dues_data c.w
    rw [← hden] at hrun
    have hb : BindV c fd ⟨[v, u, z], []⟩ s ["first", "second", "stretch"] true [.str a, .str b', .bool st] :=
      BindV.plain (hbind v u z) (hr.atoms (by rfl) true s.heap)
    have hR := run_fn e0 hA hroom D k hb (fun _ _ _ => trivial) rfl (by rfl) (fun _ => by rfl) hrun
    exact hR.mono fun v h' q => hm ▸ q.out
  · cases e
theorem dues_callee {c : Cx} {w : World} (hw : c.w = w) (hm : c.mt = false) (e0 : Env0 c) (hA : c.A.handled = none) (hroom : c.A.depth < recursionLimit) : Callee c (.ref 266) [] c.B (duesSpec w) :=
  Runs.callee e0.X (by rfl) (dues_runs hw hm e0 hA hroom)
noncomputable def fitsSpec (w : World) : List PV → Option PV
  | [t, .rlist l] => if t.atom = true ∧ Mine.pairs l = true then retOf (fitsPack w).1 ["told", "dues"] [t, .rlist l] else none
  | _ => none
theorem fits_data (w : World) : ∃ fd den, den = (fitsPack w).1 ∧ FnData w 271 fd ["told", "dues"] false (fun _ _ => True) den ∧ (∀ v u, bindArgs fd ⟨[v, u], []⟩ = pure ((["told", "dues"].map Str.ofString).zip [v, u])) :=
  ⟨fdAt (hd.heap_39 w.params) 271, (fitsPack w).1, rfl, FnData.of (by rfl) ⟨by rfl, List.forall_mem_cons.mpr ⟨.inr ⟨by rfl, fun n => by rfl⟩, List.forall_mem_cons.mpr ⟨.inl (by rfl), List.forall_mem_nil _⟩⟩, by rfl, by rfl, by rfl, by rfl, by rfl, by rfl⟩ (by rfl) (fitsPack w).2, fun v u => by kernel_rfl⟩
theorem fits_runs {c : Cx} {w : World} (hw : c.w = w) (hm : c.mt = false) (e0 : Env0 c) (hA : c.A.handled = none) (hroom : c.A.depth < recursionLimit) : Runs c (.ref 271) [] c.B (fitsSpec w) := by
  subst hw
  intro s k pvs vs r e hr
  unfold fitsSpec at e
  split at e
  · rename_i t l
    split at e
    · rename_i hat
      obtain ⟨ha, σ', hrun⟩ := retOf_run e
      obtain ⟨v, u, rfl⟩ := len2 hr.len
      obtain ⟨fd, den, hden, D, hbind⟩ := fits_data c.w
      rw [← hden] at hrun
      have hb : BindV c fd ⟨[v, u], []⟩ s ["told", "dues"] false [t, .rlist l] :=
        BindV.plain (hbind v u) (hm ▸ hr)
      have hR := run_fn e0 hA hroom D k hb (fun _ _ _ => trivial) rfl (by rw [List.all_cons, atom_imm hat.1]; rfl) (fun h => nomatch h) hrun
      exact hR.mono fun v h' q => q.atoms ha _ _
    · cases e
  · cases e
theorem fits_callee {c : Cx} {w : World} (hw : c.w = w) (hm : c.mt = false) (e0 : Env0 c) (hA : c.A.handled = none) (hroom : c.A.depth < recursionLimit) : Callee c (.ref 271) [] c.B (fitsSpec w) :=
  Runs.callee e0.X (by rfl) (fits_runs hw hm e0 hA hroom)
end
section
open PySem PySem.Spec PySem.Calls PyProof.Rows PySem.W
set_option maxRecDepth 100000
set_option maxHeartbeats 8000000
/-! what writes the walks -/
local macro_rules | `(tactic| walk_at "mOk") => `(tactic| first | with_reducible assumption | exact Cx.Ok.comp (by with_reducible assumption) rfl)
local macro_rules | `(tactic| walk_at "mNo") => `(tactic| exact mg_none_of (by with_reducible assumption) (Cx.Ok.g (by with_reducible assumption)) (by rfl))
local macro_rules | `(tactic| walk_at "mSt") => `(tactic| first | exact Or.inl rfl | exact Or.inr ⟨rfl, _, rfl⟩)
local macro_rules | `(tactic| walk_at "mSts") => `(tactic| first | exact List.forall_mem_nil _ | exact List.forall_mem_cons.mpr ⟨by walk_at "mSt", by walk_at "mSts"⟩)
local macro_rules | `(tactic| walk_at "mEs") => `(tactic| first | (with_reducible exact SoundEs.nil) | exact SoundEs.cons (by walk_at "mE") (by walk_at "mEs") (by intro _; rfl))
local macro_rules | `(tactic| walk_at "mTs") => `(tactic| first | (with_reducible exact SoundTs.nil) | exact SoundTs.cons (by walk_at "mT") (by walk_at "mTs"))
local macro_rules | `(tactic| walk_at "mP") => `(tactic| first | (with_reducible exact SoundP.no) | exact SoundP.at (by walk_at "mE"))
local macro_rules | `(tactic| walk_at "mE") => `(tactic| first
  | walk_at "mX0"
  | ((with_reducible show SoundE _ (Expr.Constant (Const.int _) _ _) _); exact SoundE.int _ _ _)
  | ((with_reducible show SoundE _ (Expr.Constant (Const.str _) _ _) _); exact SoundE.str _ _ _)
  | ((with_reducible show SoundE _ (Expr.Constant (Const.float _) _ _) _); exact SoundE.flt _ _ _)
  | ((with_reducible show SoundE _ (Expr.Constant (Const.bool _) _ _) _); exact SoundE.bool _ _ _)
  | ((with_reducible show SoundE _ (Expr.Constant Const.none _ _) _); exact SoundE.none_ _ _)
  | ((with_reducible show SoundE _ (Expr.Name _ _) _); first | exact SoundE.var (by walk_at "mOk") _ _)
  | ((with_reducible show SoundE _ (Expr.BinOp _ _ _ _) _); exact SoundE.bin (by walk_at "mOk") (by walk_at "mE") _ _ (by walk_at "mE"))
  | ((with_reducible show SoundE _ (Expr.Compare _ [_] [_] _) _); exact SoundE.cmp (by walk_at "mE") _ _ (by walk_at "mE"))
  | ((with_reducible show SoundE _ (Expr.Compare _ [_, _] [_, _] _) _); exact SoundE.chain (by walk_at "mE") _ _ _ (by walk_at "mE") (by walk_at "mE"))
  | ((with_reducible show SoundE _ (Expr.IfExp _ _ _ _) _); exact SoundE.ifexp (by walk_at "mT") _ (by walk_at "mE") (by walk_at "mE"))
  | ((with_reducible show SoundE _ (Expr.Tuple _ _ _) _); exact SoundE.tup (by walk_at "mEs") _ _)
  | ((with_reducible show SoundE _ (Expr.Subscript _ (Expr.Slice _ _ none _) _) _); exact SoundE.sliceStr (by walk_at "mE") (by walk_at "mP") (by walk_at "mP") _ _)
  | ((with_reducible show SoundE _ (Expr.Subscript _ _ _) _); exact SoundE.sub (by walk_at "mE") (by walk_at "mE") _)
  | ((with_reducible show SoundE _ (Expr.Call (Expr.Name (Str.ofString "len") _) [Expr.Call (Expr.Name (Str.ofString "set") _) _ _ _] _ _) _); exact SoundE.lenSet (by walk_at "mOk") _ _ _ _ _ _ (by rfl) (by walk_at "mNo") (by rfl) (by walk_at "mNo"))
  | ((with_reducible show SoundE _ (Expr.Call (Expr.Name (Str.ofString "all") _) _ _ _) _); exact SoundE.callB (by walk_at "mOk") (Str.ofString "all") _ _ (id := "all") (by rfl) (by rfl) (by walk_at "mNo") (allV_ok (by walk_at "mOk")) (by walk_at "mEs"))
  | ((with_reducible show SoundE _ (Expr.Call (Expr.Name (Str.ofString "len") _) _ _ _) _); exact SoundE.callB (by walk_at "mOk") (Str.ofString "len") _ _ (id := "len") (by rfl) (by rfl) (by walk_at "mNo") lenV_ok (by walk_at "mEs"))
  | ((with_reducible show SoundE _ (Expr.Call (Expr.Name (Str.ofString "max") _) _ _ _) _); exact SoundE.callB (by walk_at "mOk") (Str.ofString "max") _ _ (id := "max") (by rfl) (by rfl) (by walk_at "mNo") (maxV_ok (by walk_at "mOk")) (by walk_at "mEs"))
  | ((with_reducible show SoundE _ (Expr.Call (Expr.Name (Str.ofString "min") _) _ _ _) _); exact SoundE.callB (by walk_at "mOk") (Str.ofString "min") _ _ (id := "min") (by rfl) (by rfl) (by walk_at "mNo") (minV_ok (by walk_at "mOk")) (by walk_at "mEs"))
  | ((with_reducible show SoundE _ (Expr.Call (Expr.Name (Str.ofString "abs") _) _ _ _) _); exact SoundE.callB (by walk_at "mOk") (Str.ofString "abs") _ _ (id := "abs") (by rfl) (by rfl) (by walk_at "mNo") absV_ok (by walk_at "mEs"))
  | ((with_reducible show SoundE _ (Expr.Call (Expr.Name (Str.ofString "ord") _) _ _ _) _); exact SoundE.callB (by walk_at "mOk") (Str.ofString "ord") _ _ (id := "ord") (by rfl) (by rfl) (by walk_at "mNo") ordV_ok (by walk_at "mEs"))
  | ((with_reducible show SoundE _ (Expr.Call (Expr.Name (Str.ofString "any") _) _ _ _) _); exact SoundE.callB (by walk_at "mOk") (Str.ofString "any") _ _ (id := "any") (by rfl) (by rfl) (by walk_at "mNo") (anyV_ok (by walk_at "mOk")) (by walk_at "mEs"))
  | ((with_reducible show SoundE _ (Expr.Call (Expr.Attribute _ (Str.ofString "strip") _) _ _ _) _); exact SoundE.strip (by walk_at "mE") _ _)
  | ((with_reducible show SoundE _ (Expr.Call (Expr.Attribute _ (Str.ofString "upper") _) _ _ _) _); exact SoundE.upper (by walk_at "mE") _ _)
  | ((with_reducible show SoundE _ (Expr.Call (Expr.Attribute _ (Str.ofString "lower") _) _ _ _) _); exact SoundE.lower (by walk_at "mE") _ _)
  | ((with_reducible show SoundE _ (Expr.Call (Expr.Attribute _ (Str.ofString "isdigit") _) _ _ _) _); exact SoundE.isdigit (by walk_at "mE") _ _)
  | ((with_reducible show SoundE _ (Expr.Call (Expr.Attribute _ (Str.ofString "join") _) _ _ _) _); exact SoundE.join (by walk_at "mE") (by walk_at "mN") _ _)
  | ((with_reducible show SoundE _ (Expr.BoolOp BoolOp.And _ _) _); exact SoundE.and (by walk_at "mEs") _)
  | walk_at "mX"
  | exact SoundE.ofN (by walk_at "mN"))
local macro_rules | `(tactic| walk_at "mT") => `(tactic| first
  | walk_at "mXT"
  | ((with_reducible show SoundT _ (Expr.Compare _ [_] [_] _) _); exact SoundT.cmp (by walk_at "mE") _ _ (by walk_at "mE"))
  | ((with_reducible show SoundT _ (Expr.UnaryOp UnaryOp.Not _ _) _); exact SoundT.not (by walk_at "mT") _)
  | ((with_reducible show SoundT _ (Expr.BoolOp BoolOp.And _ _) _); exact SoundT.and (by walk_at "mTs") _)
  | ((with_reducible show SoundT _ (Expr.BoolOp BoolOp.Or _ _) _); exact SoundT.or (by walk_at "mTs") _)
  | exact SoundT.val (by walk_at "mE"))
local macro_rules | `(tactic| walk_at "mN") => `(tactic| first
  | ((with_reducible show SoundN _ (Expr.List _ _) _); exact SoundN.list (by walk_at "mEs") _)
  | ((with_reducible show SoundN _ (Expr.BinOp _ Operator.Mult _ _) _); exact SoundN.rep (by walk_at "mN") (by walk_at "mE") _)
  | ((with_reducible show SoundN _ (Expr.Call (Expr.Name (Str.ofString "sorted") _) _ _ _) _); exact SoundN.sorted (by walk_at "mOk") _ _ (by rfl) (by walk_at "mNo") (by walk_at "mEs"))
  | ((with_reducible show SoundN _ (Expr.Subscript _ (Expr.Slice _ _ none _) _) _); exact SoundN.sliceMid (by walk_at "mE") _ _ _ _ _ _ _ _)
  | ((with_reducible show SoundN _ (Expr.ListComp _ _ _ _) _); walk_at "mCo"))
local macro_rules | `(tactic| walk_at "mTgC") => `(tactic| first
  | exact CompTg.name rfl _ _ (by rfl)
  | exact CompTg.pair rfl (Cx.Ok.hh (by walk_at "mOk")) _ _ _ _ _ _ (by rfl) (by rfl) (by decide))
local macro_rules | `(tactic| walk_at "mIfs") => `(tactic| first | (with_reducible exact SoundIfs.nil) | exact SoundIfs.one (by walk_at "mT"))
local macro_rules | `(tactic| walk_at "mCur") => `(tactic| first
  | ((with_reducible show SoundCur _ _ (Expr.Call (Expr.Name (Str.ofString "range") _) [_] _ _) _); exact SoundIter.cur (SoundIter.range1 (by walk_at "mOk") _ _ (by rfl) (by walk_at "mNo") (by walk_at "mE")))
  | ((with_reducible show SoundCur _ _ (Expr.Subscript _ _ _) _); exact SoundIter.cur (SoundIter.new (by walk_at "mOk") (by walk_at "mN")))
  | walk_at "mCurX")
local macro_rules | `(tactic| walk_at "mCaps") => `(tactic| first | exact List.forall_mem_nil _ | exact List.forall_mem_cons.mpr ⟨⟨fun C => by first | exact Or.inl rfl | exact Or.inr rfl, by first | exact Or.inl rfl | exact Or.inr rfl, rfl⟩, by walk_at "mCaps"⟩)
local macro_rules | `(tactic| walk_at "mIt") => `(tactic| first
  | ((with_reducible show SoundIter _ _ (Expr.Call (Expr.Name (Str.ofString "range") _) [_] _ _) _); exact SoundIter.range1 (by walk_at "mOk") _ _ (by rfl) (by walk_at "mNo") (by walk_at "mE"))
  | ((with_reducible show SoundIter _ _ (Expr.Call (Expr.Name (Str.ofString "range") _) [_, _] _ _) _); exact SoundIter.range2 (by walk_at "mOk") _ _ (by rfl) (by walk_at "mNo") (by walk_at "mEs"))
  | ((with_reducible show SoundIter _ _ (Expr.Call (Expr.Name (Str.ofString "enumerate") _) _ _ _) _); exact SoundIter.enum (by walk_at "mOk") _ _ (by rfl) (by walk_at "mNo") (by walk_at "mE"))
  | ((with_reducible show SoundIter _ _ (Expr.Call (Expr.Name (Str.ofString "zip") _) _ _ _) _); exact SoundIter.zip (by walk_at "mOk") rfl _ _ (by rfl) (by walk_at "mNo") (by walk_at "mEs"))
  | exact SoundIter.new (by walk_at "mOk") (by walk_at "mN"))
local macro_rules | `(tactic| walk_at "mTg") => `(tactic| first
  | exact SoundTg.name (by walk_at "mOk") (mt := false) rfl _ _ (by walk_at "mSt")
  | exact SoundTg.pair (by walk_at "mOk") (mt := false) rfl _ _ _ _ _ _ (by walk_at "mSt") (by walk_at "mSt"))
local macro_rules | `(tactic| walk_at "mSs") => `(tactic| first | (with_reducible exact SoundSs.nil) | exact SoundSs.cons (by walk_at "mS") (by walk_at "mSs"))
local macro_rules | `(tactic| walk_at "mSsD") => `(tactic| first | (with_reducible exact SoundSs.nil) | exact SoundSs.cons (by walk_at "mS") (by walk_at "mSsD"))
local macro_rules | `(tactic| walk_at "mS") => `(tactic| first
  | ((with_reducible show SoundS _ (Stmt.Break _) _); exact SoundS.brk _)
  | ((with_reducible show SoundS _ (Stmt.Continue _) _); exact SoundS.cont _)
  | ((with_reducible show SoundS _ (Stmt.Return _ _) _); exact SoundS.ret (by walk_at "mE") _)
  | ((with_reducible show SoundS _ (Stmt.If _ _ _ _) _); exact SoundS.iff (by walk_at "mT") _ (by walk_at "mSs") (by walk_at "mSs"))
  | ((with_reducible show SoundS _ (Stmt.Assign [Expr.Tuple [_, _] _ _] (Expr.Tuple [Expr.List _ _, Expr.List _ _] _ _) _) _); exact SoundS.assign2N (by walk_at "mOk") rfl _ _ _ _ (by walk_at "mN") (by walk_at "mN") _ _ _ _ _ (by walk_at "mSt") (by walk_at "mSt") (by decide))
  | ((with_reducible show SoundS _ (Stmt.Assign [Expr.Tuple [_, _] _ _] _ _) _); first | exact SoundS.assignSwap (by walk_at "mOk") (mt := false) rfl (Tgts.cons _ _ (Tgts.cons _ _ Tgts.nil)) (by walk_at "mE") _ _ _ (by walk_at "mSts") (by rfl) | exact SoundS.assignTup (by walk_at "mOk") (mt := false) rfl (Tgts.cons _ _ (Tgts.cons _ _ Tgts.nil)) (by walk_at "mE") _ _ _ (by walk_at "mSts"))
  | ((with_reducible show SoundS _ (Stmt.Assign [Expr.Tuple [_, _, _] _ _] _ _) _); first | exact SoundS.assignSwap (by walk_at "mOk") (mt := false) rfl (Tgts.cons _ _ (Tgts.cons _ _ (Tgts.cons _ _ Tgts.nil))) (by walk_at "mE") _ _ _ (by walk_at "mSts") (by rfl) | exact SoundS.assignTup (by walk_at "mOk") (mt := false) rfl (Tgts.cons _ _ (Tgts.cons _ _ (Tgts.cons _ _ Tgts.nil))) (by walk_at "mE") _ _ _ (by walk_at "mSts"))
  | ((with_reducible show SoundS _ (Stmt.Assign [_, _] _ _) _); exact SoundS.assign2 (by walk_at "mOk") _ _ _ _ (by walk_at "mE") _ (by walk_at "mSt") (by walk_at "mSt"))
  | ((with_reducible show SoundS _ (Stmt.Assign [Expr.Subscript _ _ _] _ _) _); exact SoundS.setItem (by walk_at "mOk") _ _ _ _ (by walk_at "mE") (by walk_at "mE"))
  | ((with_reducible show SoundS _ (Stmt.Assign [Expr.Name _ _] (Expr.ListComp _ _ _ _) _) _); walk_at "mCoS")
  | ((with_reducible show SoundS _ (Stmt.Assign [Expr.Name _ _] (Expr.BinOp (Expr.List _ _) _ _ _) _) _); exact SoundS.assignN (by walk_at "mOk") rfl _ _ (by walk_at "mN") _ (by walk_at "mSt"))
  | ((with_reducible show SoundS _ (Stmt.Assign [Expr.Name _ _] (Expr.Call (Expr.Name (Str.ofString "sorted") _) _ _ _) _) _); exact SoundS.assignN (by walk_at "mOk") rfl _ _ (by walk_at "mN") _ (by walk_at "mSt"))
  | ((with_reducible show SoundS _ (Stmt.Assign [Expr.Name _ _] _ _) _); exact SoundS.assign (by walk_at "mOk") (mt := false) rfl _ _ (by walk_at "mE") _ (by walk_at "mSt"))
  | ((with_reducible show SoundS _ (Stmt.AugAssign _ _ _ _) _); exact SoundS.aug (by walk_at "mOk") (mt := false) rfl _ _ (by walk_at "mE") _ (by walk_at "mSt"))
  | ((with_reducible show SoundS _ (Stmt.Expr (Expr.Call (Expr.Attribute _ (Str.ofString "append") _) _ _ _) _) _); exact SoundS.append (by walk_at "mOk") _ _ _ _ _ (by walk_at "mE"))
  | ((with_reducible show SoundS _ (Stmt.Expr (Expr.Call (Expr.Attribute _ (Str.ofString "remove") _) _ _ _) _) _); exact SoundS.remove (by walk_at "mOk") _ _ _ _ _ (by walk_at "mE"))
  | ((with_reducible show SoundS _ (Stmt.For _ _ _ _ _) _); exact SoundS.for (by walk_at "mIt") (by walk_at "mTg") (by walk_at "mSs") _)
  | ((with_reducible show SoundS _ (Stmt.Try _ (_ :: _) [] [] _) _); exact SoundS.try (by walk_at "mSs") _)
  | ((with_reducible show SoundS _ (Stmt.While _ _ _ _) _); exact SoundS.while 20 (by walk_at "mT") (by walk_at "mSs") _))

local macro_rules | `(tactic| walk_at "mX0") => `(tactic| first
  | ((with_reducible show SoundE _ (Expr.Name (Str.ofString "_law_alike") _) _); exact SoundE.globStr (by walk_at "mOk") _ _ (by rfl) (mg_of (by with_reducible assumption) (Cx.Ok.g (by with_reducible assumption)) (by rfl)))
  | ((with_reducible show SoundE _ (Expr.Call (Expr.Name (Str.ofString "_law_dues") _) _ _ _) _); exact SoundE.callF (by walk_at "mOk") _ _ _ (by rfl) (mg_of (by with_reducible assumption) (Cx.Ok.g (by with_reducible assumption)) (by rfl)) (by with_reducible assumption) (by walk_at "mEs")))
local macro_rules | `(tactic| walk_at "mX") => `(tactic| fail)
local macro_rules | `(tactic| walk_at "mCurX") => `(tactic| fail)
local macro_rules | `(tactic| walk_at "mCo") => `(tactic| first
  | exact SoundN.comp (by walk_at "mOk") ["letters", "script"] _ (by rfl) (by walk_at "mCur") (by intro C; walk_at "mTgC") (by intro C; walk_at "mIfs") (by intro C; walk_at "mE") (by walk_at "mCaps") (by decide) rfl (by decide)
  | exact SoundN.comp (by walk_at "mOk") ["letters"] _ (by rfl) (by walk_at "mCur") (by intro C; walk_at "mTgC") (by intro C; walk_at "mIfs") (by intro C; walk_at "mE") (by walk_at "mCaps") (by decide) rfl (by decide))
local macro_rules | `(tactic| walk_at "mCoS") => `(tactic| fail)
local macro_rules | `(tactic| walk_at "mKs") => `(tactic| first | (with_reducible exact SoundKd.nil) | exact SoundKd.cons (by walk_at "mS") (by walk_at "mKs"))
def LawPre (w : World) (n : Nat) (den : DS) (fd : FuncData) : Prop := ∀ prog A B mg mb L f, Cx.Ok ⟨prog, w, A, false, B, callEnvC fd L f, mg, mb⟩ → (hd.heap_39 w.params).In B → A.depth < recursionLimit →
  SoundKd ⟨prog, w, A, false, B, callEnvC fd L f, mg, mb⟩ n (bodyOf fd) den
noncomputable def lawPre (w : World) : (den : DS) ×' LawPre w 12 den (fdAt (hd.heap_39 w.params) 276) := by
  apply PSigma.mk
  conv => arg 4; whnf
  intro prog A B mg mb L f ok X hroom
  have e0 := Env0.mk ok X (by rfl) (by rfl)
  have g1 := dues_callee (w := w) rfl rfl e0 ok.hh hroom
  conv => arg 3; whnf
  walk_at "mKs"
end
section
open PySem PySem.Spec PySem.Calls PyProof.Rows PySem.W
set_option maxRecDepth 100000
set_option maxHeartbeats 8000000
/-! what writes the walks -/
local macro_rules | `(tactic| walk_at "mOk") => `(tactic| first | with_reducible assumption | exact Cx.Ok.comp (by with_reducible assumption) rfl)
local macro_rules | `(tactic| walk_at "mNo") => `(tactic| exact mg_none_of (by with_reducible assumption) (Cx.Ok.g (by with_reducible assumption)) (by rfl))
local macro_rules | `(tactic| walk_at "mSt") => `(tactic| first | exact Or.inl rfl | exact Or.inr ⟨rfl, _, rfl⟩)
local macro_rules | `(tactic| walk_at "mSts") => `(tactic| first | exact List.forall_mem_nil _ | exact List.forall_mem_cons.mpr ⟨by walk_at "mSt", by walk_at "mSts"⟩)
local macro_rules | `(tactic| walk_at "mEs") => `(tactic| first | (with_reducible exact SoundEs.nil) | exact SoundEs.cons (by walk_at "mE") (by walk_at "mEs") (by intro _; rfl))
local macro_rules | `(tactic| walk_at "mTs") => `(tactic| first | (with_reducible exact SoundTs.nil) | exact SoundTs.cons (by walk_at "mT") (by walk_at "mTs"))
local macro_rules | `(tactic| walk_at "mP") => `(tactic| first | (with_reducible exact SoundP.no) | exact SoundP.at (by walk_at "mE"))
local macro_rules | `(tactic| walk_at "mE") => `(tactic| first
  | walk_at "mX0"
  | ((with_reducible show SoundE _ (Expr.Constant (Const.int _) _ _) _); exact SoundE.int _ _ _)
  | ((with_reducible show SoundE _ (Expr.Constant (Const.str _) _ _) _); exact SoundE.str _ _ _)
  | ((with_reducible show SoundE _ (Expr.Constant (Const.float _) _ _) _); exact SoundE.flt _ _ _)
  | ((with_reducible show SoundE _ (Expr.Constant (Const.bool _) _ _) _); exact SoundE.bool _ _ _)
  | ((with_reducible show SoundE _ (Expr.Constant Const.none _ _) _); exact SoundE.none_ _ _)
  | ((with_reducible show SoundE _ (Expr.Name _ _) _); first | exact SoundE.var (by walk_at "mOk") _ _)
  | ((with_reducible show SoundE _ (Expr.BinOp _ _ _ _) _); exact SoundE.bin (by walk_at "mOk") (by walk_at "mE") _ _ (by walk_at "mE"))
  | ((with_reducible show SoundE _ (Expr.Compare _ [_] [_] _) _); exact SoundE.cmp (by walk_at "mE") _ _ (by walk_at "mE"))
  | ((with_reducible show SoundE _ (Expr.Compare _ [_, _] [_, _] _) _); exact SoundE.chain (by walk_at "mE") _ _ _ (by walk_at "mE") (by walk_at "mE"))
  | ((with_reducible show SoundE _ (Expr.IfExp _ _ _ _) _); exact SoundE.ifexp (by walk_at "mT") _ (by walk_at "mE") (by walk_at "mE"))
  | ((with_reducible show SoundE _ (Expr.Tuple _ _ _) _); exact SoundE.tup (by walk_at "mEs") _ _)
  | ((with_reducible show SoundE _ (Expr.Subscript _ (Expr.Slice _ _ none _) _) _); exact SoundE.sliceStr (by walk_at "mE") (by walk_at "mP") (by walk_at "mP") _ _)
  | ((with_reducible show SoundE _ (Expr.Subscript _ _ _) _); exact SoundE.sub (by walk_at "mE") (by walk_at "mE") _)
  | ((with_reducible show SoundE _ (Expr.Call (Expr.Name (Str.ofString "len") _) [Expr.Call (Expr.Name (Str.ofString "set") _) _ _ _] _ _) _); exact SoundE.lenSet (by walk_at "mOk") _ _ _ _ _ _ (by rfl) (by walk_at "mNo") (by rfl) (by walk_at "mNo"))
  | ((with_reducible show SoundE _ (Expr.Call (Expr.Name (Str.ofString "all") _) _ _ _) _); exact SoundE.callB (by walk_at "mOk") (Str.ofString "all") _ _ (id := "all") (by rfl) (by rfl) (by walk_at "mNo") (allV_ok (by walk_at "mOk")) (by walk_at "mEs"))
  | ((with_reducible show SoundE _ (Expr.Call (Expr.Name (Str.ofString "len") _) _ _ _) _); exact SoundE.callB (by walk_at "mOk") (Str.ofString "len") _ _ (id := "len") (by rfl) (by rfl) (by walk_at "mNo") lenV_ok (by walk_at "mEs"))
  | ((with_reducible show SoundE _ (Expr.Call (Expr.Name (Str.ofString "max") _) _ _ _) _); exact SoundE.callB (by walk_at "mOk") (Str.ofString "max") _ _ (id := "max") (by rfl) (by rfl) (by walk_at "mNo") (maxV_ok (by walk_at "mOk")) (by walk_at "mEs"))
  | ((with_reducible show SoundE _ (Expr.Call (Expr.Name (Str.ofString "min") _) _ _ _) _); exact SoundE.callB (by walk_at "mOk") (Str.ofString "min") _ _ (id := "min") (by rfl) (by rfl) (by walk_at "mNo") (minV_ok (by walk_at "mOk")) (by walk_at "mEs"))
  | ((with_reducible show SoundE _ (Expr.Call (Expr.Name (Str.ofString "abs") _) _ _ _) _); exact SoundE.callB (by walk_at "mOk") (Str.ofString "abs") _ _ (id := "abs") (by rfl) (by rfl) (by walk_at "mNo") absV_ok (by walk_at "mEs"))
  | ((with_reducible show SoundE _ (Expr.Call (Expr.Name (Str.ofString "ord") _) _ _ _) _); exact SoundE.callB (by walk_at "mOk") (Str.ofString "ord") _ _ (id := "ord") (by rfl) (by rfl) (by walk_at "mNo") ordV_ok (by walk_at "mEs"))
  | ((with_reducible show SoundE _ (Expr.Call (Expr.Name (Str.ofString "any") _) _ _ _) _); exact SoundE.callB (by walk_at "mOk") (Str.ofString "any") _ _ (id := "any") (by rfl) (by rfl) (by walk_at "mNo") (anyV_ok (by walk_at "mOk")) (by walk_at "mEs"))
  | ((with_reducible show SoundE _ (Expr.Call (Expr.Attribute _ (Str.ofString "strip") _) _ _ _) _); exact SoundE.strip (by walk_at "mE") _ _)
  | ((with_reducible show SoundE _ (Expr.Call (Expr.Attribute _ (Str.ofString "upper") _) _ _ _) _); exact SoundE.upper (by walk_at "mE") _ _)
  | ((with_reducible show SoundE _ (Expr.Call (Expr.Attribute _ (Str.ofString "lower") _) _ _ _) _); exact SoundE.lower (by walk_at "mE") _ _)
  | ((with_reducible show SoundE _ (Expr.Call (Expr.Attribute _ (Str.ofString "isdigit") _) _ _ _) _); exact SoundE.isdigit (by walk_at "mE") _ _)
  | ((with_reducible show SoundE _ (Expr.Call (Expr.Attribute _ (Str.ofString "join") _) _ _ _) _); exact SoundE.join (by walk_at "mE") (by walk_at "mN") _ _)
  | ((with_reducible show SoundE _ (Expr.BoolOp BoolOp.And _ _) _); exact SoundE.and (by walk_at "mEs") _)
  | walk_at "mX"
  | exact SoundE.ofN (by walk_at "mN"))
local macro_rules | `(tactic| walk_at "mT") => `(tactic| first
  | walk_at "mXT"
  | ((with_reducible show SoundT _ (Expr.Compare _ [_] [_] _) _); exact SoundT.cmp (by walk_at "mE") _ _ (by walk_at "mE"))
  | ((with_reducible show SoundT _ (Expr.UnaryOp UnaryOp.Not _ _) _); exact SoundT.not (by walk_at "mT") _)
  | ((with_reducible show SoundT _ (Expr.BoolOp BoolOp.And _ _) _); exact SoundT.and (by walk_at "mTs") _)
  | ((with_reducible show SoundT _ (Expr.BoolOp BoolOp.Or _ _) _); exact SoundT.or (by walk_at "mTs") _)
  | exact SoundT.val (by walk_at "mE"))
local macro_rules | `(tactic| walk_at "mN") => `(tactic| first
  | ((with_reducible show SoundN _ (Expr.List _ _) _); exact SoundN.list (by walk_at "mEs") _)
  | ((with_reducible show SoundN _ (Expr.BinOp _ Operator.Mult _ _) _); exact SoundN.rep (by walk_at "mN") (by walk_at "mE") _)
  | ((with_reducible show SoundN _ (Expr.Call (Expr.Name (Str.ofString "sorted") _) _ _ _) _); exact SoundN.sorted (by walk_at "mOk") _ _ (by rfl) (by walk_at "mNo") (by walk_at "mEs"))
  | ((with_reducible show SoundN _ (Expr.Subscript _ (Expr.Slice _ _ none _) _) _); exact SoundN.sliceMid (by walk_at "mE") _ _ _ _ _ _ _ _)
  | ((with_reducible show SoundN _ (Expr.ListComp _ _ _ _) _); walk_at "mCo"))
local macro_rules | `(tactic| walk_at "mTgC") => `(tactic| first
  | exact CompTg.name rfl _ _ (by rfl)
  | exact CompTg.pair rfl (Cx.Ok.hh (by walk_at "mOk")) _ _ _ _ _ _ (by rfl) (by rfl) (by decide))
local macro_rules | `(tactic| walk_at "mIfs") => `(tactic| first | (with_reducible exact SoundIfs.nil) | exact SoundIfs.one (by walk_at "mT"))
local macro_rules | `(tactic| walk_at "mCur") => `(tactic| first
  | ((with_reducible show SoundCur _ _ (Expr.Call (Expr.Name (Str.ofString "range") _) [_] _ _) _); exact SoundIter.cur (SoundIter.range1 (by walk_at "mOk") _ _ (by rfl) (by walk_at "mNo") (by walk_at "mE")))
  | ((with_reducible show SoundCur _ _ (Expr.Subscript _ _ _) _); exact SoundIter.cur (SoundIter.new (by walk_at "mOk") (by walk_at "mN")))
  | walk_at "mCurX")
local macro_rules | `(tactic| walk_at "mCaps") => `(tactic| first | exact List.forall_mem_nil _ | exact List.forall_mem_cons.mpr ⟨⟨fun C => by first | exact Or.inl rfl | exact Or.inr rfl, by first | exact Or.inl rfl | exact Or.inr rfl, rfl⟩, by walk_at "mCaps"⟩)
local macro_rules | `(tactic| walk_at "mIt") => `(tactic| first
  | ((with_reducible show SoundIter _ _ (Expr.Call (Expr.Name (Str.ofString "range") _) [_] _ _) _); exact SoundIter.range1 (by walk_at "mOk") _ _ (by rfl) (by walk_at "mNo") (by walk_at "mE"))
  | ((with_reducible show SoundIter _ _ (Expr.Call (Expr.Name (Str.ofString "range") _) [_, _] _ _) _); exact SoundIter.range2 (by walk_at "mOk") _ _ (by rfl) (by walk_at "mNo") (by walk_at "mEs"))
  | ((with_reducible show SoundIter _ _ (Expr.Call (Expr.Name (Str.ofString "enumerate") _) _ _ _) _); exact SoundIter.enum (by walk_at "mOk") _ _ (by rfl) (by walk_at "mNo") (by walk_at "mE"))
  | ((with_reducible show SoundIter _ _ (Expr.Call (Expr.Name (Str.ofString "zip") _) _ _ _) _); exact SoundIter.zip (by walk_at "mOk") rfl _ _ (by rfl) (by walk_at "mNo") (by walk_at "mEs"))
  | exact SoundIter.new (by walk_at "mOk") (by walk_at "mN"))
local macro_rules | `(tactic| walk_at "mTg") => `(tactic| first
  | exact SoundTg.name (by walk_at "mOk") (mt := false) rfl _ _ (by walk_at "mSt")
  | exact SoundTg.pair (by walk_at "mOk") (mt := false) rfl _ _ _ _ _ _ (by walk_at "mSt") (by walk_at "mSt"))
local macro_rules | `(tactic| walk_at "mSs") => `(tactic| first | (with_reducible exact SoundSs.nil) | exact SoundSs.cons (by walk_at "mS") (by walk_at "mSs"))
local macro_rules | `(tactic| walk_at "mSsD") => `(tactic| first | (with_reducible exact SoundSs.nil) | exact SoundSs.cons (by walk_at "mS") (by walk_at "mSsD"))
local macro_rules | `(tactic| walk_at "mS") => `(tactic| first
  | ((with_reducible show SoundS _ (Stmt.Break _) _); exact SoundS.brk _)
  | ((with_reducible show SoundS _ (Stmt.Continue _) _); exact SoundS.cont _)
  | ((with_reducible show SoundS _ (Stmt.Return _ _) _); exact SoundS.ret (by walk_at "mE") _)
  | ((with_reducible show SoundS _ (Stmt.If _ _ _ _) _); exact SoundS.iff (by walk_at "mT") _ (by walk_at "mSs") (by walk_at "mSs"))
  | ((with_reducible show SoundS _ (Stmt.Assign [Expr.Tuple [_, _] _ _] (Expr.Tuple [Expr.List _ _, Expr.List _ _] _ _) _) _); exact SoundS.assign2N (by walk_at "mOk") rfl _ _ _ _ (by walk_at "mN") (by walk_at "mN") _ _ _ _ _ (by walk_at "mSt") (by walk_at "mSt") (by decide))
  | ((with_reducible show SoundS _ (Stmt.Assign [Expr.Tuple [_, _] _ _] _ _) _); first | exact SoundS.assignSwap (by walk_at "mOk") (mt := false) rfl (Tgts.cons _ _ (Tgts.cons _ _ Tgts.nil)) (by walk_at "mE") _ _ _ (by walk_at "mSts") (by rfl) | exact SoundS.assignTup (by walk_at "mOk") (mt := false) rfl (Tgts.cons _ _ (Tgts.cons _ _ Tgts.nil)) (by walk_at "mE") _ _ _ (by walk_at "mSts"))
  | ((with_reducible show SoundS _ (Stmt.Assign [Expr.Tuple [_, _, _] _ _] _ _) _); first | exact SoundS.assignSwap (by walk_at "mOk") (mt := false) rfl (Tgts.cons _ _ (Tgts.cons _ _ (Tgts.cons _ _ Tgts.nil))) (by walk_at "mE") _ _ _ (by walk_at "mSts") (by rfl) | exact SoundS.assignTup (by walk_at "mOk") (mt := false) rfl (Tgts.cons _ _ (Tgts.cons _ _ (Tgts.cons _ _ Tgts.nil))) (by walk_at "mE") _ _ _ (by walk_at "mSts"))
  | ((with_reducible show SoundS _ (Stmt.Assign [_, _] _ _) _); exact SoundS.assign2 (by walk_at "mOk") _ _ _ _ (by walk_at "mE") _ (by walk_at "mSt") (by walk_at "mSt"))
  | ((with_reducible show SoundS _ (Stmt.Assign [Expr.Subscript _ _ _] _ _) _); exact SoundS.setItem (by walk_at "mOk") _ _ _ _ (by walk_at "mE") (by walk_at "mE"))
  | ((with_reducible show SoundS _ (Stmt.Assign [Expr.Name _ _] (Expr.ListComp _ _ _ _) _) _); walk_at "mCoS")
  | ((with_reducible show SoundS _ (Stmt.Assign [Expr.Name _ _] (Expr.BinOp (Expr.List _ _) _ _ _) _) _); exact SoundS.assignN (by walk_at "mOk") rfl _ _ (by walk_at "mN") _ (by walk_at "mSt"))
  | ((with_reducible show SoundS _ (Stmt.Assign [Expr.Name _ _] (Expr.Call (Expr.Name (Str.ofString "sorted") _) _ _ _) _) _); exact SoundS.assignN (by walk_at "mOk") rfl _ _ (by walk_at "mN") _ (by walk_at "mSt"))
  | ((with_reducible show SoundS _ (Stmt.Assign [Expr.Name _ _] _ _) _); exact SoundS.assign (by walk_at "mOk") (mt := false) rfl _ _ (by walk_at "mE") _ (by walk_at "mSt"))
  | ((with_reducible show SoundS _ (Stmt.AugAssign _ _ _ _) _); exact SoundS.aug (by walk_at "mOk") (mt := false) rfl _ _ (by walk_at "mE") _ (by walk_at "mSt"))
  | ((with_reducible show SoundS _ (Stmt.Expr (Expr.Call (Expr.Attribute _ (Str.ofString "append") _) _ _ _) _) _); exact SoundS.append (by walk_at "mOk") _ _ _ _ _ (by walk_at "mE"))
  | ((with_reducible show SoundS _ (Stmt.Expr (Expr.Call (Expr.Attribute _ (Str.ofString "remove") _) _ _ _) _) _); exact SoundS.remove (by walk_at "mOk") _ _ _ _ _ (by walk_at "mE"))
  | ((with_reducible show SoundS _ (Stmt.For _ _ _ _ _) _); exact SoundS.for (by walk_at "mIt") (by walk_at "mTg") (by walk_at "mSs") _)
  | ((with_reducible show SoundS _ (Stmt.Try _ (_ :: _) [] [] _) _); exact SoundS.try (by walk_at "mSs") _)
  | ((with_reducible show SoundS _ (Stmt.While _ _ _ _) _); exact SoundS.while 20 (by walk_at "mT") (by walk_at "mSs") _))

local macro_rules | `(tactic| walk_at "mX0") => `(tactic| first
  | ((with_reducible show SoundE _ (Expr.Call (Expr.Name (Str.ofString "_law_fits") _) _ _ _) _); exact SoundE.callF (by walk_at "mOk") _ _ _ (by rfl) (mg_of (by with_reducible assumption) (Cx.Ok.g (by with_reducible assumption)) (by rfl)) (by with_reducible assumption) (by walk_at "mEs"))
  | ((with_reducible show SoundE _ (Expr.Call (Expr.Name (Str.ofString "plain") _) _ _ _) _); exact SoundE.callO (by walk_at "mOk") _ _ _ (by with_reducible assumption) (by walk_at "mEs"))
  | ((with_reducible show SoundE _ (Expr.Call (Expr.Attribute (Expr.Name (Str.ofString "plain") _) _ _) (_ :: _) _ _) _); exact SoundE.meth (by walk_at "mOk") _ _ _ _ _ (by first | with_reducible assumption | assumption) (by first | with_reducible assumption | assumption) (by walk_at "mEs")))
local macro_rules | `(tactic| walk_at "mX") => `(tactic| fail)
local macro_rules | `(tactic| walk_at "mXT") => `(tactic| ((with_reducible show SoundT _ (Expr.Compare (Expr.ListComp _ _ _ _) [CmpOp.NotEq] [_] _) _); exact SoundT.neBools (by with_reducible assumption) (by walk_at "mN") _ (by walk_at "mN")))
local macro_rules | `(tactic| walk_at "mCurX") => `(tactic| exact SoundCur.str (by walk_at "mOk") (by walk_at "mE"))
local macro_rules | `(tactic| walk_at "mCo") => `(tactic| first
  | exact SoundN.comp (by walk_at "mOk") ["plain"] _ (by rfl) (by walk_at "mCur") (by intro C; walk_at "mTgC") (by intro C; walk_at "mIfs") (by intro C; walk_at "mE") (by walk_at "mCaps") (by decide) rfl (by decide))
local macro_rules | `(tactic| walk_at "mCoS") => `(tactic| fail)
abbrev LawRoom (A : Around) : Prop := (A.depth + 4 < recursionLimit ∧ A.units + 64 < cLine) ∧ (∀ env, (A.deeper env).units + 1 < cLine) ∧ (∀ env env' env'', (((A.deeper env).deeper env').deeper env'').units + 1 < cLine) ∧ ∀ b, (A.under (.builtin "type.__call__" ⟨.ref 259 :: [], kwFor b⟩)).depth < recursionLimit
def LawSuf (w : World) (n : Nat) (x : Addr) (b : Bool) (den : DS) (fd : FuncData) : Prop := ∀ prog A B mg mb L f, Cx.Ok ⟨prog, w, A, false, B, callEnvC fd L f, mg, mb⟩ → (hd.heap_39 w.params).In B → LawRoom A → Ins B x b →
  SoundSs ⟨prog, w, A, false, B, callEnvC fd L f, mg, mb⟩ ((bodyOf fd).drop n) den
noncomputable def lawSuf (w : World) (x : Addr) (b : Bool) : (den : DS) ×' LawSuf w 13 x b den (fdAt (hd.heap_39 w.params) 276) := by
  apply PSigma.mk
  conv => arg 6; whnf
  intro prog A B mg mb L f ok X hroom ins
  have e0 := Env0.mk ok X (by rfl) (by rfl)
  have hu := hroom.1.2
  have g1 := fits_callee (w := w) rfl rfl e0 ok.hh (Nat.lt_of_le_of_lt (Nat.le_add_right _ 4) hroom.1.1)
  have g2 := inRange_get e0 ins
  have g3 := inRange_callee e0 ok.hh (Nat.lt_of_le_of_lt (Nat.le_add_right _ 4) hroom.1.1)
  have g4 := dist_get e0 ins
  have g5 := dist_callee (w := w) rfl e0 ok.hh hroom.1.1 hroom.2.2.1 ins
  have g6 := call_inst (w := w) rfl e0 ok.hh (Nat.lt_of_le_of_lt (Nat.add_le_add_left (by decide) _) hroom.1.1) hroom.2.1 ins
  conv => arg 2; whnf
  walk_at "mSsD"
end
section
open PySem PySem.Spec PySem.Calls PyProof.Rows PySem.W
set_option maxRecDepth 100000
set_option maxHeartbeats 8000000
def LawMid (w : World) (b : Bool) (fd : FuncData) : Prop := ∀ prog A B mg mb L f, Cx.Ok ⟨prog, w, A, false, B, callEnvC fd L f, mg, mb⟩ → (hd.heap_39 w.params).In B → LawRoom A →
  ∀ h₀ σ (s : Shared) (Q : Flow → Shared → Prop) (E : Value → Shared → Prop), σ "stretch" = some (.bool b) → Inv ⟨prog, w, A, false, B, callEnvC fd L f, mg, mb⟩ h₀ σ s.heap →
      (∀ h' tk d f', InvF ⟨prog, w, A, false, B, callEnvC fd L f, mg, mb⟩ h₀ (σ.set "plain" (.obj (.ref d))) f' h' → Ins (hide h' (Own ⟨prog, w, A, false, B, callEnvC fd L f, mg, mb⟩ (σ.set "plain" (.obj (.ref d))) f')) d b → wpAny (model prog w) A (execs ((bodyOf fd).drop 13) (callEnvC fd L f)) Q E { s with heap := h', toks := tk }) →
      wpAny (model prog w) A (execs ((bodyOf fd).drop 12) (callEnvC fd L f)) Q E s
theorem lawMid (w : World) (b : Bool) : LawMid w b (fdAt (hd.heap_39 w.params) 276) := by
  conv => arg 3; whnf
  intro prog A B mg mb L f ok X hroom h₀ σ s Q E hc I k
  have e0 := Env0.mk ok X (by rfl) (by rfl)
  obtain ⟨f0, I⟩ := I
  conv => arg 3; arg 1; whnf
  refine wpAny_execs_cons (plain_stmt e0 b hroom.2.2.2 I "plain" "stretch" hc (Or.inr ⟨rfl, _, rfl⟩) _ _ _ _ _ _ _ _ _ _ _ (by rfl) (by decide) (by decide) (by rfl) fun h1 tk1 x f1 I1 n1 => ?_)
  exact k h1 tk1 x f1 I1 n1
noncomputable def lawDen (w : World) (b : Bool) : DS := joinG "plain" (lawPre w).1 (fun σ => σ "stretch" = some (.bool b)) (fun x => (lawSuf w x b).1)
theorem law_walk (w : World) (b : Bool) : WalkOf w false (fun A _ => LawRoom A) (lawDen w b) (fdAt (hd.heap_39 w.params) 276) := by
  intro prog A B mg mb L f ok X pre
  exact join_gen (n := 12) (n' := 13) "plain" (Pd := fun B x => Ins B x b) ((lawPre w).2 prog A B mg mb L f ok X (Nat.lt_of_le_of_lt (Nat.le_add_right _ 4) pre.1.1)) (lawMid w b prog A B mg mb L f ok X pre)
    fun B' d k T => (lawSuf w d b).2 prog A B' mg mb L f (ok.on k) (X.keeps k) pre T
theorem law_data (w : World) (b : Bool) : ∃ fd den, den = lawDen w b ∧ FnData w 276 fd ["script"] false (fun A _ => LawRoom A) den ∧ (∀ v, bindArgs fd ⟨[v], []⟩ = pure ((["script"].map Str.ofString).zip [v])) :=
  ⟨fdAt (hd.heap_39 w.params) 276, lawDen w b, rfl, FnData.of (by rfl) ⟨by rfl, List.forall_mem_cons.mpr ⟨.inr ⟨by rfl, fun n => by rfl⟩, List.forall_mem_nil _⟩, by rfl, by rfl, by rfl, by rfl, by rfl, by rfl⟩ (by rfl) (law_walk w b), fun v => by kernel_rfl⟩
theorem law_does {prog : Program} {w : World} {mg mb : Str → Option Value} {s : Shared} (X : (hd.heap_39 w.params).In s.heap) (nl : s.heap.NoLimit) (g : s.heap.Ns mainGlobals mg) (hb : s.heap.Ns builtinsNs mb) (bt : ∀ x : Str, x ≠ "__name__" → mb x = bootBuiltins x)
    {a : Addr} {vs : List Value} {ns : List Int} (hl : s.heap.IsList a vs.toArray) (hi : IntsAre vs ns) (b : Bool) {σ' : Store} (hrun : lawDen w b (setAll (fun _ => none) ["script"] [.rlist (ns.map .int)]) = some (σ', .ret (.bool true)))
    {R : Result → Shared → Prop} (k : ∀ h' tk, Sub s.heap h' → R (.ok (.ret (.bool true))) { s with heap := h', toks := tk }) :
    codeAny (model prog w) callerA (.call (.ref 276) ⟨[.ref a], []⟩) R s := by
  obtain ⟨fd, den, hden, D, hbind⟩ := law_data w b
  rw [← hden] at hrun
  have hg := D.ok
  obtain ⟨f1, f2, f3, f4, f5, f6, f7, f8⟩ := hg
  have ok : Cx.Ok ⟨prog, w, callerA, false, s.heap, callEnvC fd 0 276, mg, mb⟩ := ⟨rfl, f5, nl, by show s.heap.Ns fd.globals mg; rw [f3]; exact g, by show s.heap.Ns fd.builtins mb; rw [f4]; exact hb, bt⟩
  have e0 : Env0 ⟨prog, w, callerA, false, s.heap, callEnvC fd 0 276, mg, mb⟩ := ⟨ok, X, f3, f4⟩
  have hr : Reps false s.heap (ns.map .int) vs := reps_ints hi
  have hbv : BindV ⟨prog, w, callerA, false, s.heap, callEnvC fd 0 276, mg, mb⟩ fd ⟨[.ref a], []⟩ s ["script"] false [.rlist (ns.map .int)] :=
    BindV.plain (hbind (.ref a)) (.cons (.imm (.rlist rfl hl hr.1 hr.2)) .nil)
  have hroom : ∀ (h : Heap) (L : Addr), Sub s.heap h → LawRoom (callerA.deeper (callEnvC fd L 276)) := by
    intro h L _
    refine ⟨⟨?_, ?_⟩, ?_, ?_, ?_⟩
    · show 1 + claimMargin + 1 + 4 < recursionLimit; decide
    · show 4 + _ + 64 < cLine; decide
    · intro env; show 4 + _ + _ + 1 < cLine; decide
    · intro e1 e2 e3; show 4 + _ + _ + _ + _ + 1 < cLine; decide
    · intro b; show 1 + claimMargin + 1 + _ < recursionLimit; cases b <;> decide
  have hR := run_fn (c := ⟨prog, w, callerA, false, s.heap, callEnvC fd 0 276, mg, mb⟩) e0 (A := callerA) rfl (by decide) D (Sub.refl _) hbv hroom rfl (by rfl) (fun h => nomatch h) hrun
  refine hR R fun v h' tk r kk => ?_
  cases r.toBool
  exact k h' tk kk
end
section
open PySem PySem.Spec PySem.Calls PyProof.Rows PySem.W
set_option maxRecDepth 100000

/-! running the pure readings -/
def Ex (f : DS) (σ : Store) (P : Store → Fl → Prop) : Prop := ∃ σ' fl, f σ = some (σ', fl) ∧ P σ' fl
theorem Ex.seq {f g : DS} {σ σ1 : Store} {P} (h : f σ = some (σ1, .next)) (k : Ex g σ1 P) : Ex (seqS f g) σ P := by
  obtain ⟨σ', fl, e, p⟩ := k
  exact ⟨σ', fl, by unfold seqS; rw [h]; exact e, p⟩
theorem Ex.seqN {f g : DS} {σ : Store} {P Q} (h : Ex f σ Q) (k : ∀ σ1 fl, Q σ1 fl → fl = .next ∧ Ex g σ1 P) : Ex (seqS f g) σ P := by
  obtain ⟨σ1, fl, e, q⟩ := h
  obtain ⟨rfl, k⟩ := k σ1 fl q
  exact Ex.seq e k
theorem Ex.ret {f g : DS} {σ σ1 : Store} {v : PV} {P} (h : f σ = some (σ1, .ret v)) (k : P σ1 (.ret v)) : Ex (seqS f g) σ P :=
  ⟨σ1, .ret v, by unfold seqS; rw [h], k⟩
theorem Ex.skip {σ : Store} {P : Store → Fl → Prop} (k : P σ .next) : Ex skipS σ P := ⟨σ, .next, rfl, k⟩
theorem Ex.of {f : DS} {σ σ1 : Store} {fl} {P : Store → Fl → Prop} (h : f σ = some (σ1, fl)) (k : P σ1 fl) : Ex f σ P := ⟨σ1, fl, h, k⟩
theorem Ex.mono {f : DS} {σ : Store} {P Q : Store → Fl → Prop} (h : Ex f σ P) (k : ∀ σ' fl, P σ' fl → Q σ' fl) : Ex f σ Q := let ⟨a, b, c, d⟩ := h; ⟨a, b, c, k _ _ d⟩

theorem set_get (σ : Store) (x : String) (v : PV) (y : String) : (σ.set x v) y = if y = x then some v else σ y := rfl

theorem loop_ix {bind : PV → Store → Option Store} {g : DS} : ∀ (l : List PV) (R : Nat → Store → Prop)
    (_ : ∀ k (hk : k < l.length) σ, R k σ → ∃ σ1, bind l[k] σ = some σ1 ∧ Ex g σ1 (fun σ' fl => (fl = .next ∨ fl = .cont) ∧ R (k + 1) σ')) {σ : Store} (_ : R 0 σ), ∃ σ', loopS bind g l σ = some (σ', .next) ∧ R l.length σ'
  | [], R, _, σ, h => ⟨σ, rfl, h⟩
  | v :: l, R, st, σ, h => by
    obtain ⟨σ1, e1, σ', fl, e2, e3, e4⟩ := st 0 (Nat.zero_lt_succ _) σ h
    have ih := loop_ix l (fun k => R (k + 1)) (fun k hk σ hr => by
      have := st (k + 1) (Nat.succ_lt_succ hk) σ hr
      simpa using this) e4
    obtain ⟨σ2, e5, e6⟩ := ih
    refine ⟨σ2, ?_, e6⟩
    have e1' : bind v σ = some σ1 := e1
    unfold loopS
    rw [e1', Option.bind_some, e2]
    rcases e3 with rfl | rfl <;> exact e5
/-- a search: the first that fits -/
theorem loop_find {bind : PV → Store → Option Store} {g : DS} {p : PV → Bool} {R : Store → Prop} {T : PV → Store → Prop} : ∀ (l : List PV)
    (_ : ∀ v ∈ l, p v = false → ∀ σ, R σ → ∃ σ1, bind v σ = some σ1 ∧ Ex g σ1 (fun σ' fl => (fl = .next ∨ fl = .cont) ∧ R σ'))
    (_ : ∀ v ∈ l, p v = true → ∀ σ, R σ → ∃ σ1, bind v σ = some σ1 ∧ Ex g σ1 (fun σ' fl => fl = .brk ∧ T v σ')) {σ : Store} (_ : R σ),
    ∃ σ', loopS bind g l σ = some (σ', .next) ∧ (match l.find? p with | some v => T v σ' | none => R σ')
  | [], _, _, σ, h => ⟨σ, rfl, h⟩
  | v :: l, s1, s2, σ, h => by
    cases hp : p v with
    | true =>
      obtain ⟨σ1, e1, σ', fl, e2, rfl, e4⟩ := s2 v List.mem_cons_self hp σ h
      refine ⟨σ', ?_, ?_⟩
      · unfold loopS; rw [e1, Option.bind_some, e2]
      · rw [List.find?_cons_of_pos hp]; exact e4
    | false =>
      obtain ⟨σ1, e1, σ', fl, e2, e3, e4⟩ := s1 v List.mem_cons_self hp σ h
      obtain ⟨σ2, e5, e6⟩ := loop_find l (fun u hu => s1 u (List.mem_cons_of_mem _ hu)) (fun u hu => s2 u (List.mem_cons_of_mem _ hu)) e4
      refine ⟨σ2, ?_, ?_⟩
      · unfold loopS
        rw [e1, Option.bind_some, e2]
        rcases e3 with rfl | rfl <;> exact e5
      · rw [List.find?_cons_of_neg (by simp [set_get, hp])]; exact e6

/-- a comprehension over iL that keeps some -/
abbrev iL (l : List Nat) : List PV := l.map fun (j : Nat) => .int j
theorem compL_filter {σ : Store} {x : String} {t : DT} {p : Nat → Bool} : ∀ {l : List Nat} (_ : ∀ j ∈ l, t (σ.set x (.int (j : Nat))) = some (p j)),
    compL σ (cb1 x) t (fun σ => σ x) (iL l) = some (iL (l.filter p))
  | [], _ => rfl
  | j :: l, h => by
    have ih := compL_filter (l := l) fun k hk => h k (List.mem_cons_of_mem _ hk)
    have hj := h j List.mem_cons_self
    show compL σ (cb1 x) t (fun σ => σ x) (.int (j : Nat) :: iL l) = _
    simp only [compL, cb1, PV.atom, if_true, Option.bind_some, setL, hj]
    cases hp : p j with
    | true => simp [set_get, ih, List.filter_cons, hp, PV.atom]
    | false => simp [set_get, ih, List.filter_cons, hp]
theorem rangeL_ints (n : Nat) : rangeL 0 n = iL (List.range n) := by simp [set_get, rangeL, iL]
theorem rangeL_from (a b : Nat) : rangeL a b = iL (List.range' a (b - a)) := by
  simp only [rangeL, iL, List.range'_eq_map_range, List.map_map]
  have : ((b : Int) - a).toNat = b - a := by omega
  rw [this]
  apply List.map_congr_left
  intro k _
  simp [set_get]
theorem intsOf_ints : ∀ l : List Nat, intsOf (iL l) = some (l.map fun (j : Nat) => (j : Int))
  | [] => rfl
  | j :: l => by show intsOf (.int (j : Nat) :: iL l) = _; simp [set_get, intsOf, intsOf_ints l]
theorem ints_atoms (l : List Nat) : (iL l).all PV.atom = true := by simp [set_get, iL, PV.atom]
theorem ints_len (l : List Nat) : (iL l).length = l.length := by simp [set_get, iL]
theorem erase_cast (l : List Nat) (j : Nat) : ((l.map fun (j : Nat) => (j : Int)).erase (j : Int)).map .int = iL (l.erase j) := by
  induction l with
  | nil => rfl
  | cons a l ih =>
    by_cases h : a = j
    · subst h; simp [set_get, iL]
    · have : (a : Int) ≠ j := by omega
      rw [List.map_cons, List.erase_cons_tail (by simpa using this), List.erase_cons_tail (by simpa using h), List.map_cons, ih]; rfl

/-! signs -/
abbrev ch (x : Str) (i : Nat) : Nat := x.cps.getD i 0
theorem Str.eqOf {a b : Str} (h : a.cps = b.cps) : a = b := by cases a; cases b; cases h; rfl
theorem str_beq (a b : Str) : (a == b) = decide (a = b) := by
  by_cases h : a = b
  · subst h; simp [set_get]
  · simp [set_get, h]
theorem chr_inj (x y : Str) (i j : Nat) : chr x i = chr y j ↔ ch x i = ch y j := by
  unfold chr ch
  constructor
  · intro h
    have := congrArg (fun s : Str => s.cps.getD 0 0) h
    simpa using this
  · intro h; rw [h]
theorem chr_beq (x y : Str) (i j : Nat) : (chr x i == chr y j) = (ch x i == ch y j) := by
  rw [Bool.eq_iff_iff, beq_iff_eq, beq_iff_eq, chr_inj]
theorem subV_str {x : Str} {i : Nat} (h : i < x.length) (h2 : x.length < 1000) : subV (.str x) (.int (i : Nat)) = some (.str (chr x i)) := by
  simp [set_get, subV, h, h2]
theorem subV_ints {l : List Nat} {i : Nat} (h : i < l.length) (h2 : l.length < 1000) : subV (.list (iL l)) (.int (i : Nat)) = some (.int (l[i] : Nat)) := by
  simp [set_get, subV, iL, h, h2]
theorem Ex.loop {f : DS} {σ : Store} {bind : PV → Store → Option Store} {g : DS} {l : List PV} {P : Store → Fl → Prop} (hf : f σ = loopS bind g l σ) (h : ∃ σ', loopS bind g l σ = some (σ', .next) ∧ P σ' .next) : Ex f σ P :=
  let ⟨σ', a, b⟩ := h; ⟨σ', .next, hf.trans a, b⟩
theorem Ex.eq {f g : DS} {σ : Store} {P : Store → Fl → Prop} (hf : f σ = g σ) (h : Ex g σ P) : Ex f σ P := let ⟨σ', fl, a, b⟩ := h; ⟨σ', fl, hf.trans a, b⟩
theorem filter_all (l : List Nat) : l.filter (fun _ => true) = l := List.filter_eq_self.mpr fun _ _ => rfl
theorem Ex.iteT {T : DT} {G H : DS} {σ : Store} {P} (h : T σ = some true) (k : Ex G σ P) : Ex (fun σ => (T σ).bind fun x => if x = true then G σ else H σ) σ P := let ⟨σ', fl, a, b⟩ := k; ⟨σ', fl, by show (T σ).bind _ = _; rw [h, Option.bind_some, if_pos rfl]; exact a, b⟩
theorem Ex.iteF {T : DT} {G H : DS} {σ : Store} {P} (h : T σ = some false) (k : Ex H σ P) : Ex (fun σ => (T σ).bind fun x => if x = true then G σ else H σ) σ P := let ⟨σ', fl, a, b⟩ := k; ⟨σ', fl, by show (T σ).bind _ = _; rw [h, Option.bind_some, if_neg (by decide)]; exact a, b⟩
end
section
open PySem PySem.Spec PySem.Calls PyProof.Rows PySem.W
set_option maxRecDepth 100000

/-! what is reckoned -/
def near (r i j : Nat) : Bool := decide (i ≤ j + r) && decide (j ≤ i + r)
structure MS where
  free : List Nat
  mine : List Nat
  theirs : List Nat
def hit (s t : Str) (r i : Nat) (j : Nat) : Bool := near r i j && (ch t j == ch s i)
def mstep (s t : Str) (r : Nat) (x : MS) (i : Nat) : MS := match x.free.find? (hit s t r i) with
  | some j => ⟨x.free.erase j, x.mine ++ [i], x.theirs ++ [j]⟩
  | none => x
def mat (s t : Str) (r n k : Nat) : MS := (List.range k).foldl (mstep s t r) ⟨List.range n, [], []⟩
theorem mat_zero (s t r n) : mat s t r n 0 = ⟨List.range n, [], []⟩ := rfl
theorem mat_succ (s t r n k) : mat s t r n (k + 1) = mstep s t r (mat s t r n k) k := by
  unfold mat; rw [List.range_succ, List.foldl_append]; rfl
/-- what always holds of it -/
structure MatOk (n k : Nat) (x : MS) : Prop where
  free : x.free = (List.range n).filter (fun j => decide (j ∉ x.theirs))
  nodup : x.theirs.Nodup
  lt : ∀ j ∈ x.theirs, j < n
  len : x.mine.length = x.theirs.length
  sorted : x.mine.Pairwise (· < ·)
  below : ∀ i ∈ x.mine, i < k
theorem mat_ok (s t : Str) (r n : Nat) : ∀ k, MatOk n k (mat s t r n k)
  | 0 => ⟨by rw [mat_zero]; exact (List.filter_eq_self.mpr (fun j _ => by simp [set_get])).symm, List.nodup_nil, (fun _ h => nomatch h), rfl, List.Pairwise.nil, fun _ h => nomatch h⟩
  | k + 1 => by
    have ih := mat_ok s t r n k
    rw [mat_succ]
    unfold mstep
    split
    · rename_i j hj
      have hm := List.mem_of_find?_eq_some hj
      rw [ih.free, List.mem_filter] at hm
      have hn : j ∉ (mat s t r n k).theirs := by simpa using hm.2
      refine ⟨?_, ?_, ?_, ?_, ?_, ?_⟩
      · show (mat s t r n k).free.erase j = _
        rw [ih.free, List.Nodup.erase_eq_filter (List.nodup_range.filter _), List.filter_filter]
        apply List.filter_congr
        intro i hi
        rw [Bool.eq_iff_iff]
        simp only [Bool.and_eq_true, bne_iff_ne, decide_eq_true_eq, List.mem_append, List.mem_singleton, not_or, ne_eq]
        exact And.comm
      · show ((mat s t r n k).theirs ++ [j]).Nodup
        rw [List.nodup_append]
        exact ⟨ih.nodup, by simp [set_get], fun a ha b hb => by rw [List.mem_singleton] at hb; subst hb; exact fun q => hn (q ▸ ha)⟩
      · intro i hi
        rcases List.mem_append.mp hi with hi | hi
        · exact ih.lt i hi
        · rw [List.mem_singleton.mp hi]; exact List.mem_range.mp hm.1
      · show ((mat s t r n k).mine ++ [k]).length = ((mat s t r n k).theirs ++ [j]).length
        simp [set_get, ih.len]
      · show ((mat s t r n k).mine ++ [k]).Pairwise _
        rw [List.pairwise_append]
        exact ⟨ih.sorted, List.pairwise_singleton _ _, fun a ha b hb => by rw [List.mem_singleton.mp hb]; exact ih.below a ha⟩
      · intro i hi
        rcases List.mem_append.mp hi with hi | hi
        · exact Nat.lt_succ_of_lt (ih.below i hi)
        · rw [List.mem_singleton.mp hi]; exact Nat.lt_succ_self k
    · exact ⟨ih.free, ih.nodup, ih.lt, ih.len, ih.sorted, fun i hi => Nat.lt_succ_of_lt (ih.below i hi)⟩
theorem MatOk.mine_len {n k x} (h : MatOk n k x) : x.mine.length ≤ k := by
  have hnd : x.mine.Nodup := h.sorted.imp (fun q => Nat.ne_of_lt q)
  have := List.Nodup.length_le_of_subset hnd (l₂ := List.range k) (fun i hi => List.mem_range.mpr (h.below i hi))
  simpa using this
theorem MatOk.theirs_len {n k x} (h : MatOk n k x) : x.theirs.length ≤ n := by
  have := List.Nodup.length_le_of_subset h.nodup (l₂ := List.range n) (fun i hi => List.mem_range.mpr (h.lt i hi))
  simpa using this
theorem MatOk.free_lt {n k x} (h : MatOk n k x) : ∀ j ∈ x.free, j < n := by
  intro j hj; rw [h.free, List.mem_filter] at hj; exact List.mem_range.mp hj.1

def alikeText : Str := Str.ofString "AE AI AO AU BV EI EO EU IO IU OU IY EY CG EF WU WV XK SZ XS QC UV MN LI QO PR IJ 2Z 5S 8B 1I 1L 0O 0Q CK GJ"
def lalike (a b : Nat) : Bool := Txt.contains alikeText ⟨#[a, b]⟩ || Txt.contains alikeText ⟨#[b, a]⟩
structure SS where
  free : List Nat
  u : Nat
def sstep (s t : Str) (mine : List Nat) (x : SS) (i : Nat) : SS := if i ∈ mine then x else match x.free.find? (fun j => lalike (ch s i) (ch t j)) with
  | some j => ⟨x.free.erase j, x.u + 1⟩
  | none => x
def sim (s t : Str) (x : MS) (k : Nat) : SS := (List.range k).foldl (sstep s t x.mine) ⟨x.free, 0⟩
theorem sim_succ (s t x k) : sim s t x (k + 1) = sstep s t x.mine (sim s t x k) k := by
  unfold sim; rw [List.range_succ, List.foldl_append]; rfl
theorem sim_u (s t x) : ∀ k, (sim s t x k).u ≤ k ∧ (∀ j ∈ (sim s t x k).free, j ∈ x.free) ∧ ((sim s t x k).free.length ≤ x.free.length)
  | 0 => ⟨Nat.le_refl _, fun _ h => h, Nat.le_refl _⟩
  | k + 1 => by
    have ih := sim_u s t x k
    rw [sim_succ]
    unfold sstep
    split
    · exact ⟨Nat.le_succ_of_le ih.1, ih.2⟩
    · split
      · exact ⟨Nat.succ_le_succ ih.1, fun j hj => ih.2.1 j (List.mem_of_mem_erase hj), Nat.le_trans (List.length_erase_le) ih.2.2⟩
      · exact ⟨Nat.le_succ_of_le ih.1, ih.2⟩
/-- places at which the rows differ -/
def diffs (s t : Str) (mine th : List Nat) : Nat := ((List.range mine.length).filter (fun k => ch s (mine.getD k 0) != ch t (th.getD k 0))).length
def digitsText : Str := Str.ofString "0123456789"
def isDig (a : Nat) : Bool := Txt.contains digitsText ⟨#[a]⟩
def sameFrom (s t : Str) (lim : Nat) : Nat → Nat → Nat
  | 0, k => k
  | f + 1, k => if k < lim ∧ ch s k = ch t k ∧ isDig (ch s k) = false then sameFrom s t lim f (k + 1) else k
theorem sameFrom_le (s t lim) : ∀ f k, k ≤ sameFrom s t lim f k ∧ (k ≤ lim → sameFrom s t lim f k ≤ lim)
  | 0, k => ⟨Nat.le_refl _, fun h => h⟩
  | f + 1, k => by
    unfold sameFrom
    split
    · rename_i h
      have ih := sameFrom_le s t lim f (k + 1)
      exact ⟨Nat.le_trans (Nat.le_succ k) ih.1, fun _ => ih.2 h.1⟩
    · exact ⟨Nat.le_refl _, fun h => h⟩
def topI (m n p u t : Nat) : Int := (10 * (p : Int) + 3 * u) * ((m : Int) + n) * p + 10 * (m : Int) * n * ((p : Int) - t)
def underI (m n p : Nat) : Int := 30 * (m : Int) * n * p
def highI (m n p u t same : Nat) : Int := 10 * topI m n p u t + (same : Int) * (underI m n p - topI m n p u t)
def lowI (m n p : Nat) : Int := 10 * underI m n p
def allOf (m n same : Nat) : Int := (m : Int) + n - 2 * (same : Int) + 2
def moreI (p same : Nat) : Int := (p : Int) - same - 1
def lastI (m n p u t same : Nat) (long : Bool) : Int × Int :=
  if long = true then (highI m n p u t same * allOf m n same + (lowI m n p - highI m n p u t same) * moreI p same, lowI m n p * allOf m n same) else (highI m n p u t same, lowI m n p)
def duesF (m n p u t same : Nat) (long : Bool) : List (Int × Int) :=
  if 10 * topI m n p u t < 7 * underI m n p then [(topI m n p u t, underI m n p)]
  else if 10 * topI m n p u t = 7 * underI m n p then [(topI m n p u t, underI m n p), lastI m n p u t same long]
  else [lastI m n p u t same long]
structure Reck where
  p : Nat
  u : Nat
  t : Nat
  same : Nat
  long : Bool
def shortOf (s t : Str) : Nat := min s.length t.length
def reachOf (s t : Str) : Nat := max s.length t.length / 2 - 1
def matOf (s t : Str) : MS := mat s t (reachOf s t) t.length s.length
def sortedN (n : Nat) (l : List Nat) : List Nat := (List.range n).filter (fun j => decide (j ∈ l))
def reck (s t : Str) (b : Bool) : Reck :=
  let p := (matOf s t).mine.length
  let same := sameFrom s t (min (shortOf s t) 4) 4 0
  { p := p
    u := if shortOf s t > p then (sim s t (matOf s t) s.length).u else 0
    t := diffs s t (matOf s t).mine (sortedN t.length (matOf s t).theirs) / 2
    same := same
    long := b && decide (shortOf s t > 4) && decide (p > same + 1) && decide (2 * p ≥ shortOf s t + same) && !isDig (ch s 0) }
def duesR (s t : Str) (b : Bool) : List (Int × Int) :=
  if s = t then [(1, 1)] else if s.length = 0 ∨ t.length = 0 then [(0, 1)] else
  if (reck s t b).p = 0 then [(0, 1)] else duesF s.length t.length (reck s t b).p (reck s t b).u (reck s t b).t (reck s t b).same (reck s t b).long
theorem sorted_theirs {n k x} (h : MatOk n k x) : (sortI (x.theirs.map fun (j : Nat) => (j : Int))).map PV.int = iL (sortedN n x.theirs) := by
  have hp : (sortedN n x.theirs).Perm x.theirs := by
    refine (List.perm_ext_iff_of_nodup (List.nodup_range.filter _) h.nodup).mpr fun j => ?_
    rw [List.mem_filter, List.mem_range, decide_eq_true_eq]
    exact ⟨fun q => q.2, fun q => ⟨h.lt j q, q⟩⟩
  have hs : ((sortedN n x.theirs).map fun (j : Nat) => (j : Int)).Pairwise (· ≤ ·) := by
    rw [List.pairwise_map]
    exact ((List.pairwise_lt_range (n := n)).filter _).imp fun q => by omega
  rw [← sortI_eq (hp.map _) hs]
  simp [set_get, iL, sortedN]
theorem sortedN_len {n k x} (h : MatOk n k x) : (sortedN n x.theirs).length = x.mine.length := by
  rw [h.len]
  refine List.Perm.length_eq ((List.perm_ext_iff_of_nodup (List.nodup_range.filter _) h.nodup).mpr fun j => ?_)
  rw [List.mem_filter, List.mem_range, decide_eq_true_eq]
  exact ⟨fun q => q.2, fun q => ⟨h.lt j q, q⟩⟩
theorem sortedN_lt {n : Nat} {l : List Nat} : ∀ j ∈ sortedN n l, j < n := by
  intro j hj; unfold sortedN at hj; rw [List.mem_filter] at hj; exact List.mem_range.mp hj.1
end
section
open PySem PySem.Spec PySem.Calls PyProof.Rows PySem.W
set_option maxRecDepth 100000
set_option maxHeartbeats 8000000
theorem natAbs_mul_le {a b : Int} {A B : Nat} (ha : a.natAbs ≤ A) (hb : b.natAbs ≤ B) : (a * b).natAbs ≤ A * B := by rw [Int.natAbs_mul]; exact Nat.mul_le_mul ha hb
theorem small_of {a : Int} {A : Nat} (h : a.natAbs ≤ A) (hA : A < 18446744073709551616) : Small a := Nat.lt_of_le_of_lt h hA
def pvPairs (l : List (Int × Int)) : List PV := l.map fun q => .tup [.int q.1, .int q.2]
abbrev Ret (v : PV) : Store → Fl → Prop := fun _ fl => fl = .ret v

theorem hit_eq {s t : Str} {r i j : Nat} : (decide ((if (i : Int) - (j : Int) < 0 then -((i : Int) - (j : Int)) else (i : Int) - (j : Int)) ≤ (r : Int)) && (ch t j == ch s i)) = hit s t r i j := by
  unfold hit near
  congr 1
  rw [Bool.eq_iff_iff]
  simp only [decide_eq_true_eq, Bool.and_eq_true]
  split <;> omega

theorem chr_add (s t : Str) (i j : Nat) : chr s i ++ chr t j = ⟨#[ch s i, ch t j]⟩ := rfl
theorem binV_mul {a b : Int} (h : Small a) : binV .Mult (.int a) (.int b) = some (.int (a * b)) := by simp only [binV]; rw [if_pos h]
theorem binV_add (a b : Int) : binV .Add (.int a) (.int b) = some (.int (a + b)) := rfl
theorem binV_sub (a b : Int) : binV .Sub (.int a) (.int b) = some (.int (a - b)) := rfl
theorem notin_eq (l : List Nat) (k : Nat) : cmpV .NotIn (.int (k : Nat)) (.list (iL l)) = some (decide (k ∉ l)) := by
  simp only [cmpV, intsOf_ints, Option.map_some]
  congr 1
  rw [Bool.eq_iff_iff]
  simp only [Bool.not_eq_true', List.any_eq_false, List.mem_map, beq_iff_eq, decide_eq_true_eq]
  constructor
  · intro h q; exact h k ⟨k, q, rfl⟩ rfl
  · rintro h _ ⟨a, ha, rfl⟩ q; have : a = k := by omega
    subst this; exact h ha
theorem while_same (s t : Str) (lim : Nat) (hs : lim ≤ s.length) (ht : lim ≤ t.length) (a1 : s.length < 1000) (a2 : t.length < 1000) {tt : DT} {g : DS} (σ0 : Store)
    (htt : ∀ σ (k : Nat), (∀ y, y ≠ "same" → σ y = σ0 y) → σ "same" = some (.int (k : Nat)) → k ≤ lim → tt σ = some (decide (k < lim ∧ ch s k = ch t k ∧ isDig (ch s k) = false)))
    (hg : ∀ σ (k : Nat), σ "same" = some (.int (k : Nat)) → g σ = some (σ.set "same" (.int (k + 1 : Nat)), .next)) : ∀ (f n k : Nat) (σ : Store), lim ≤ k + f → f < n → k ≤ lim → (∀ y, y ≠ "same" → σ y = σ0 y) → σ "same" = some (.int (k : Nat)) →
    Ex (whileS tt g n) σ (fun σ' fl => fl = .next ∧ (∀ y, y ≠ "same" → σ' y = σ0 y) ∧ σ' "same" = some (.int (sameFrom s t lim f k : Nat)))
  | f, 0, k, σ, _, h, _, _, _ => absurd h (Nat.not_lt_zero _)
  | 0, n + 1, k, σ, h1, h2, h3, h4, h5 => by
    have e := htt σ k h4 h5 h3
    rw [decide_eq_false (by omega)] at e
    exact Ex.of (σ1 := σ) (fl := .next) (by unfold whileS; rw [e]; rfl) ⟨rfl, h4, h5⟩
  | f + 1, n + 1, k, σ, h1, h2, h3, h4, h5 => by
    have e := htt σ k h4 h5 h3
    unfold sameFrom
    split
    · rename_i hc
      rw [decide_eq_true hc] at e
      have ih := while_same s t lim hs ht a1 a2 σ0 htt hg f n (k + 1) (σ.set "same" (.int (k + 1 : Nat))) (by omega) (by omega) (by omega) (fun y hy => by simp [set_get, hy, h4]) (by simp [set_get])
      obtain ⟨σ', fl, a, b⟩ := ih
      refine ⟨σ', fl, ?_, b⟩
      unfold whileS
      rw [e, Option.bind_some, if_pos rfl, hg σ k h5]
      exact a
    · rename_i hc
      rw [decide_eq_false hc] at e
      exact Ex.of (σ1 := σ) (fl := .next) (by unfold whileS; rw [e]; rfl) ⟨rfl, h4, h5⟩
theorem dues_ret (w : World) (s t : Str) (b : Bool) (hs : s.length ≤ 10) (ht : t.length ≤ 10) (σ : Store) (h1 : σ "first" = some (.str s)) (h2 : σ "second" = some (.str t)) (h3 : σ "stretch" = some (.bool b)) :
    Ex (duesPack w).1 σ (Ret (.list (pvPairs (duesR s t b)))) := by
  unfold duesPack
  dsimp only
  unfold duesR
  by_cases hst : s = t
  · subst hst
    refine Ex.ret (σ1 := σ) (v := .list [.tup [.int 1, .int 1]]) ?_ (by simp [set_get, Ret, pvPairs])
    simp [set_get, h1, h2, cmpV, seqS, seqE, PV.imm]
  rw [if_neg hst]
  refine Ex.seq (σ1 := σ) (by simp [set_get, h1, h2, cmpV, hst, skipS]) ?_
  by_cases h0 : s.length = 0 ∨ t.length = 0
  · rw [if_pos h0]
    refine Ex.ret (σ1 := σ) (v := .list [.tup [.int 0, .int 1]]) ?_ (by simp [set_get, Ret, pvPairs])
    have e0 : ∀ x : Str, x.length = 0 → x = Str.ofString "" := fun x hx => by
      apply Str.eqOf
      show x.cps = #[]
      exact Array.eq_empty_of_size_eq_zero hx
    rcases h0 with h0 | h0
    · simp [set_get, h1, h2, cmpV, orT, seqS, seqE, PV.imm, e0 s h0]
    · simp [set_get, h1, h2, cmpV, orT, seqS, seqE, PV.imm, e0 t h0]
  rw [if_neg h0]
  have hs0 : s.length ≠ 0 := fun q => h0 (.inl q)
  have ht0 : t.length ≠ 0 := fun q => h0 (.inr q)
  have ne0 : ∀ x : Str, x.length ≠ 0 → x ≠ Str.ofString "" := fun x hx q => hx (by rw [q]; rfl)
  refine Ex.seq (σ1 := σ) (by simp [set_get, h1, h2, cmpV, orT, ne0 s hs0, ne0 t ht0, skipS]) ?_
  refine Ex.seq (σ1 := (σ.set "n" (.int t.length)).set "m" (.int s.length)) ?_ ?_
  · have a1 : s.length < 1000 := by omega
    have a2 : t.length < 1000 := by omega
    simp [set_get, h1, h2, seqE, lenV, PV.imm, PV.flat, PV.atom, setAll, a1, a2]
  have a1 : s.length < 1000 := by omega
  have a2 : t.length < 1000 := by omega
  have hmin : (if (t.length : Int) < (s.length : Int) then (t.length : Int) else (s.length : Int)) = ((shortOf s t : Nat) : Int) := by unfold shortOf; split <;> omega
  have hreach : (if (0 : Int) < ((if (s.length : Int) < (t.length : Int) then (t.length : Int) else (s.length : Int)).fdiv 2 - 1) then ((if (s.length : Int) < (t.length : Int) then (t.length : Int) else (s.length : Int)).fdiv 2 - 1) else 0) = ((reachOf s t : Nat) : Int) := by
    rw [Int.fdiv_eq_ediv_of_nonneg _ (by decide)]
    unfold reachOf; split <;> split <;> omega
  refine Ex.seq (σ1 := ((((σ.set "n" (.int t.length)).set "m" (.int s.length)).set "short" (.int (shortOf s t : Nat))).set "reach" (.int (reachOf s t : Nat)))) ?_ ?_
  · simp at hmin hreach
    simp [set_get, seqE, minV, maxV, binV, PV.imm, PV.flat, PV.atom, setAll, hmin, hreach]
  have hn : (-1000 : Int) ≤ (t.length : Int) ∧ (t.length : Int) < 1000 := by omega
  refine Ex.seq (σ1 := (((((σ.set "n" (.int t.length)).set "m" (.int s.length)).set "short" (.int (shortOf s t : Nat))).set "reach" (.int (reachOf s t : Nat))).set "free" (.list (iL (List.range t.length))))) ?_ ?_
  · have hc := compL_filter (σ := capS [] ((((σ.set "n" (.int t.length)).set "m" (.int s.length)).set "short" (.int (shortOf s t : Nat))).set "reach" (.int (reachOf s t : Nat)))) (x := "j") (t := fun _ => some true) (p := fun _ => true) (l := List.range t.length) (fun _ _ => rfl)
    simp only [set_get, reduceIte, String.reduceEq, Option.bind_some]
    rw [if_pos hn, Option.bind_some, rangeL_ints, hc, if_pos (by rw [ints_len, List.length_range]; omega), filter_all]
    rfl
  refine Ex.seq (σ1 := (((((((σ.set "n" (.int t.length)).set "m" (.int s.length)).set "short" (.int (shortOf s t : Nat))).set "reach" (.int (reachOf s t : Nat))).set "free" (.list (iL (List.range t.length)))).set "mine" (.list [])).set "theirs" (.list []))) ?_ ?_
  · simp [set_get, seqE]
  -- the names are told apart from the store
  generalize hσ : (((((((σ.set "n" (.int t.length)).set "m" (.int s.length)).set "short" (.int (shortOf s t : Nat))).set "reach" (.int (reachOf s t : Nat))).set "free" (.list (iL (List.range t.length)))).set "mine" (.list [])).set "theirs" (.list [])) = σ1
  have f1 : σ1 "first" = some (.str s) := by subst hσ; simp [set_get, h1]
  have f2 : σ1 "second" = some (.str t) := by subst hσ; simp [set_get, h2]
  have f3 : σ1 "stretch" = some (.bool b) := by subst hσ; simp [set_get, h3]
  have f4 : σ1 "n" = some (.int t.length) := by subst hσ; simp [set_get]
  have f5 : σ1 "m" = some (.int s.length) := by subst hσ; simp [set_get]
  have f6 : σ1 "short" = some (.int (shortOf s t : Nat)) := by subst hσ; simp [set_get]
  have f7 : σ1 "reach" = some (.int (reachOf s t : Nat)) := by subst hσ; simp [set_get]
  have f8 : σ1 "free" = some (.list (iL (List.range t.length))) := by subst hσ; simp [set_get]
  have f9 : σ1 "mine" = some (.list []) := by subst hσ; simp [set_get]
  have f10 : σ1 "theirs" = some (.list []) := by subst hσ; simp [set_get]
  clear hσ h1 h2 h3
  refine Ex.seqN (Q := fun σ' fl => fl = .next ∧ (∀ y, y ≠ "i" → y ≠ "near" → y ≠ "free" → y ≠ "mine" → y ≠ "theirs" → σ' y = σ1 y) ∧ σ' "free" = some (.list (iL (matOf s t).free)) ∧ σ' "mine" = some (.list (iL (matOf s t).mine)) ∧ σ' "theirs" = some (.list (iL (matOf s t).theirs))) ?_ ?_
  · apply Ex.loop (l := iL (List.range s.length))
    · have hm : (-1000 : Int) ≤ (s.length : Int) ∧ (s.length : Int) < 1000 := by omega
      simp only [f5, Option.bind_some]
      rw [if_pos hm, Option.bind_some, rangeL_ints]
    refine (loop_ix (iL (List.range s.length)) (fun k σ' => (∀ y, y ≠ "i" → y ≠ "near" → y ≠ "free" → y ≠ "mine" → y ≠ "theirs" → σ' y = σ1 y) ∧ σ' "free" = some (.list (iL (mat s t (reachOf s t) t.length k).free)) ∧ σ' "mine" = some (.list (iL (mat s t (reachOf s t) t.length k).mine)) ∧ σ' "theirs" = some (.list (iL (mat s t (reachOf s t) t.length k).theirs))) ?_ (σ := σ1) ⟨fun _ _ _ _ _ _ => rfl, f8, f9, f10⟩).elim fun σ' h => ⟨σ', h.1, rfl, ?_⟩
    · rintro k hk σ2 ⟨g1, g2, g3, g4⟩
      have hk' : k < s.length := by simpa [iL] using hk
      have M := mat_ok s t (reachOf s t) t.length k
      rw [mat_succ]
      generalize mat s t (reachOf s t) t.length k = x at g2 g3 g4 M ⊢
      have hik : (iL (List.range s.length))[k] = .int (k : Nat) := by simp [set_get, iL]
      rw [hik]
      refine ⟨σ2.set "i" (.int (k : Nat)), by simp [set_get, bindN, PV.imm, PV.flat, PV.atom, FlatOk], ?_⟩
      have q1 : σ2 "first" = some (.str s) := by rw [g1 _ (by decide) (by decide) (by decide) (by decide) (by decide)]; exact f1
      have q2 : σ2 "second" = some (.str t) := by rw [g1 _ (by decide) (by decide) (by decide) (by decide) (by decide)]; exact f2
      have q3 : σ2 "reach" = some (.int (reachOf s t : Nat)) := by rw [g1 _ (by decide) (by decide) (by decide) (by decide) (by decide)]; exact f7
      have hfl : x.free.length ≤ t.length := by rw [M.free]; exact Nat.le_trans (List.length_filter_le _ _) (by simp [set_get])
      have hml := M.mine_len
      have htl := M.theirs_len
      refine Ex.seq (σ1 := (σ2.set "i" (.int (k : Nat))).set "near" (.list (iL (x.free.filter (hit s t (reachOf s t) k))))) ?_ ?_
      · simp only [set_get, reduceIte, String.reduceEq, g2, Option.bind_some]
        rw [if_pos (ints_atoms _), Option.bind_some, if_pos (by rw [ints_len]; omega), compL_filter (p := hit s t (reachOf s t) k)]
        · rfl
        · intro j hj
          have hj' := M.free_lt j hj
          rw [← hit_eq]
          have e1 := subV_str hk' a1
          have e2 := subV_str hj' a2
          simp [set_get, andT, capS, seqE, q1, q2, q3, binV, absV, cmpV, e1, e2, chr_beq]
          generalize (if (k : Int) - (j : Int) < 0 then -((k : Int) - j) else (k : Int) - j) = z
          by_cases z1 : z ≤ (reachOf s t : Int) <;> simp [set_get, z1]
          by_cases z2 : t.cps[j]?.getD 0 = s.cps[k]?.getD 0 <;> simp [set_get, z2]
      unfold mstep
      rw [← List.head?_filter]
      have hnf : (x.free.filter (hit s t (reachOf s t) k)).length ≤ x.free.length := List.length_filter_le _ _
      have hsub : ∀ j ∈ x.free.filter (hit s t (reachOf s t) k), j ∈ x.free := fun j hj => (List.mem_filter.mp hj).1
      generalize x.free.filter (hit s t (reachOf s t) k) = nr at hnf hsub ⊢
      cases nr with
      | nil =>
        refine Ex.seq (σ1 := (σ2.set "i" (.int (k : Nat))).set "near" (.list (iL []))) (by simp [set_get, truthV, skipS]) (Ex.skip ⟨.inl rfl, ?_⟩)
        simp only [List.head?_nil]
        refine ⟨fun y y1 y2 y3 y4 y5 => ?_, ?_, ?_, ?_⟩ <;> simp_all [set_get]
      | cons j nr =>
        have hj := hsub j List.mem_cons_self
        refine Ex.seq (σ1 := ((((σ2.set "i" (.int (k : Nat))).set "near" (.list (iL (j :: nr)))).set "free" (.list (iL (x.free.erase j)))).set "mine" (.list (iL (x.mine ++ [k])))).set "theirs" (.list (iL (x.theirs ++ [j])))) ?_ (Ex.skip ⟨.inl rfl, ?_⟩)
        · have e3 : (j : Int) ∈ x.free.map fun (j : Nat) => (j : Int) := List.mem_map_of_mem hj
          have l1 : nr.length + 1 < 1000 := by simp only [List.length_cons] at hnf; omega
          have l2 : x.mine.length < 1000 := by omega
          have l3 : x.theirs.length < 1000 := by omega
          have l4 : x.free.length < 1000 := by omega
          have hex : ∃ a, a ∈ x.free ∧ (a : Int) = j := ⟨j, hj, rfl⟩
          simp [set_get, truthV, seqS, skipS, subV, g2, g3, g4, l1, l2, l3, l4, PV.atom, intsOf_ints, hex, erase_cast]
        · simp only [List.head?_cons]
          refine ⟨fun y y1 y2 y3 y4 y5 => ?_, ?_, ?_, ?_⟩ <;> simp_all [set_get]
    · have := h.2; rw [ints_len, List.length_range] at this; exact this
  rintro σ2 fl ⟨rfl, g1, g2, g3, g4⟩
  refine ⟨rfl, ?_⟩
  have M : MatOk t.length s.length (matOf s t) := mat_ok s t (reachOf s t) t.length s.length
  have k1 : σ2 "first" = some (.str s) := by rw [g1 _ (by decide) (by decide) (by decide) (by decide) (by decide)]; exact f1
  have k2 : σ2 "second" = some (.str t) := by rw [g1 _ (by decide) (by decide) (by decide) (by decide) (by decide)]; exact f2
  have k3 : σ2 "stretch" = some (.bool b) := by rw [g1 _ (by decide) (by decide) (by decide) (by decide) (by decide)]; exact f3
  have k4 : σ2 "n" = some (.int t.length) := by rw [g1 _ (by decide) (by decide) (by decide) (by decide) (by decide)]; exact f4
  have k5 : σ2 "m" = some (.int s.length) := by rw [g1 _ (by decide) (by decide) (by decide) (by decide) (by decide)]; exact f5
  have k6 : σ2 "short" = some (.int (shortOf s t : Nat)) := by rw [g1 _ (by decide) (by decide) (by decide) (by decide) (by decide)]; exact f6
  clear f1 f2 f3 f4 f5 f6 f7 f8 f9 f10 g1 σ1
  have hml := M.mine_len
  have htl := M.theirs_len
  have hfl : (matOf s t).free.length ≤ t.length := by rw [M.free]; exact Nat.le_trans (List.length_filter_le _ _) (by simp [set_get])
  have hp : (reck s t b).p = (matOf s t).mine.length := rfl
  have hu : (reck s t b).u = if shortOf s t > (matOf s t).mine.length then (sim s t (matOf s t) s.length).u else 0 := rfl
  have ht' : (reck s t b).t = diffs s t (matOf s t).mine (sortedN t.length (matOf s t).theirs) / 2 := rfl
  have hsame : (reck s t b).same = sameFrom s t (min (shortOf s t) 4) 4 0 := rfl
  have hlong : (reck s t b).long = (b && decide (shortOf s t > 4) && decide ((reck s t b).p > (reck s t b).same + 1) && decide (2 * (reck s t b).p ≥ shortOf s t + (reck s t b).same) && !isDig (ch s 0)) := rfl
  generalize hx : matOf s t = x at *
  have p1 : x.mine.length < 1000 := by omega
  refine Ex.seq (σ1 := σ2.set "p" (.int x.mine.length)) (by simp [set_get, seqE, lenV, g3, p1, PV.imm, PV.flat, PV.atom, FlatOk]) ?_
  by_cases hp0 : (reck s t b).p = 0
  · rw [if_pos hp0]
    rw [hp] at hp0
    refine Ex.ret (σ1 := σ2.set "p" (.int x.mine.length)) (v := .list [.tup [.int 0, .int 1]]) ?_ (by simp [set_get, Ret, pvPairs])
    simp [set_get, cmpV, seqS, seqE, PV.imm, hp0]
  rw [if_neg hp0]
  have hp0' : ¬ x.mine.length = 0 := hp ▸ hp0
  have hp0'' : ¬ x.mine = [] := fun q => hp0' (by rw [q]; rfl)
  refine Ex.seq (σ1 := σ2.set "p" (.int x.mine.length)) (by simp [set_get, cmpV, skipS, hp0'']) ?_
  have hso := sorted_theirs M
  refine Ex.seq (σ1 := (σ2.set "p" (.int x.mine.length)).set "theirs" (.list (iL (sortedN t.length x.theirs)))) ?_ ?_
  · have l1 : x.theirs.length < 64 := by omega
    simp only [set_get, reduceIte, String.reduceEq, g4, Option.bind_some, intsOf_ints]
    rw [if_pos (by rw [List.length_map]; exact l1), Option.bind_some, hso, if_pos (ints_atoms _)]
  have hthl := sortedN_len M
  have hthlt := sortedN_lt (n := t.length) (l := x.theirs)
  have hmlt := M.below
  generalize hth : sortedN t.length x.theirs = th at hthl hthlt ht' ⊢
  refine Ex.seq (σ1 := ((σ2.set "p" (.int x.mine.length)).set "theirs" (.list (iL th))).set "t" (.int (diffs s t x.mine th / 2 : Nat))) ?_ ?_
  · have hpn : (-1000 : Int) ≤ (x.mine.length : Int) ∧ (x.mine.length : Int) < 1000 := by omega
    have hc : compL (capS ["first", "mine", "second", "theirs"] ((σ2.set "p" (.int x.mine.length)).set "theirs" (.list (iL th)))) (cb1 "k")
        (fun σ => Option.bind (Option.bind (σ "first") fun a => Option.bind (Option.bind (σ "mine") fun a => Option.bind (σ "k") fun b => subV a b) fun b => subV a b) fun a =>
          Option.bind (Option.bind (σ "second") fun a => Option.bind (Option.bind (σ "theirs") fun a => Option.bind (σ "k") fun b => subV a b) fun b => subV a b) fun b => cmpV CmpOp.NotEq a b)
        (fun σ => σ "k") (iL (List.range x.mine.length)) = some (iL ((List.range x.mine.length).filter fun k => ch s (x.mine.getD k 0) != ch t (th.getD k 0))) := by
      refine compL_filter fun k hk => ?_
      have hk' : k < x.mine.length := List.mem_range.mp hk
      have hk2 : k < th.length := by omega
      have e1 := subV_ints hk' p1
      have e2 := subV_ints hk2 (by omega)
      have e3 := subV_str (hmlt _ (List.getElem_mem hk')) a1
      have e4 := subV_str (hthlt _ (List.getElem_mem hk2)) a2
      have d1 : x.mine.getD k 0 = x.mine[k] := by simp [set_get, hk']
      have d2 : th.getD k 0 = th[k] := by simp [set_get, hk2]
      rw [d1, d2]
      simp only [capS, set_get, reduceIte, String.reduceEq, k1, k2, g3, List.contains_cons, List.contains_nil, Bool.or_false, String.reduceBEq, Bool.or_true, Bool.true_or, Option.bind_some, e1, e2, e3, e4, cmpV]
      rw [show (chr s x.mine[k] != chr t th[k]) = !(chr s x.mine[k] == chr t th[k]) from rfl, chr_beq]; rfl
    have hdl : ((List.range x.mine.length).filter fun k => ch s (x.mine.getD k 0) != ch t (th.getD k 0)).length ≤ x.mine.length := Nat.le_trans (List.length_filter_le _ _) (by simp [set_get])
    have hdd : ((List.range x.mine.length).filter fun k => ch s (x.mine.getD k 0) != ch t (th.getD k 0)).length = diffs s t x.mine th := rfl
    generalize (List.range x.mine.length).filter (fun k => ch s (x.mine.getD k 0) != ch t (th.getD k 0)) = dl at hc hdl hdd
    have hdl' : dl.length < 1000 := by omega
    have hfd : ((dl.length : Int)).fdiv 2 = ((diffs s t x.mine th / 2 : Nat) : Int) := by rw [Int.fdiv_eq_ediv_of_nonneg _ (by decide), hdd]; rfl
    simp only [seqE, set_get, reduceIte, String.reduceEq, Option.bind_some, Option.map_some]
    rw [if_pos hpn, Option.bind_some, rangeL_ints, if_pos (by rw [ints_len, List.length_range]; exact p1), hc]
    simp only [Option.map_some, Option.bind_some, lenV, ints_len, if_pos hdl', binV]
    rw [if_pos (by decide), Option.bind_some, hfd, if_pos ⟨rfl, fun _ => rfl⟩]
  refine Ex.seq (σ1 := (((σ2.set "p" (.int x.mine.length)).set "theirs" (.list (iL th))).set "t" (.int (diffs s t x.mine th / 2 : Nat))).set "u" (.int (0 : Nat))) (by simp [set_get, PV.imm, PV.flat, PV.atom, FlatOk]) ?_
  generalize hσ : (((σ2.set "p" (.int x.mine.length)).set "theirs" (.list (iL th))).set "t" (.int (diffs s t x.mine th / 2 : Nat))).set "u" (.int (0 : Nat)) = σ3
  have f1 : σ3 "first" = some (.str s) := by subst hσ; simp [set_get, k1]
  have f2 : σ3 "second" = some (.str t) := by subst hσ; simp [set_get, k2]
  have f3 : σ3 "stretch" = some (.bool b) := by subst hσ; simp [set_get, k3]
  have f4 : σ3 "n" = some (.int t.length) := by subst hσ; simp [set_get, k4]
  have f5 : σ3 "m" = some (.int s.length) := by subst hσ; simp [set_get, k5]
  have f6 : σ3 "short" = some (.int (shortOf s t : Nat)) := by subst hσ; simp [set_get, k6]
  have f7 : σ3 "p" = some (.int (x.mine.length : Nat)) := by subst hσ; simp [set_get]
  have f8 : σ3 "free" = some (.list (iL x.free)) := by subst hσ; simp [set_get, g2]
  have f9 : σ3 "mine" = some (.list (iL x.mine)) := by subst hσ; simp [set_get, g3]
  have f10 : σ3 "t" = some (.int (diffs s t x.mine th / 2 : Nat)) := by subst hσ; simp [set_get]
  have f11 : σ3 "u" = some (.int (0 : Nat)) := by subst hσ; simp [set_get]
  clear hσ k1 k2 k3 k4 k5 k6 g2 g3 g4
  refine Ex.seqN (Q := fun σ' fl => fl = .next ∧ (∀ y, y ≠ "i" → y ≠ "near" → y ≠ "free" → y ≠ "u" → σ' y = σ3 y) ∧ σ' "u" = some (.int ((reck s t b).u : Nat))) ?_ ?_
  · by_cases hsp : shortOf s t > x.mine.length
    · have hsp' : (x.mine.length : Int) < (shortOf s t : Nat) := by omega
      have hm : (-1000 : Int) ≤ (s.length : Int) ∧ (s.length : Int) < 1000 := by omega
      rw [hu, if_pos hsp]
      refine Ex.iteT (by simp only [f6, f7, Option.bind_some, cmpV, hsp', decide_true]) ?_
      refine Ex.seqN (Q := fun σ' fl => fl = .next ∧ (∀ y, y ≠ "i" → y ≠ "near" → y ≠ "free" → y ≠ "u" → σ' y = σ3 y) ∧ σ' "free" = some (.list (iL (sim s t x s.length).free)) ∧ σ' "u" = some (.int ((sim s t x s.length).u : Nat))) ?_ (fun σ' fl ⟨q1, q2, q3, q4⟩ => ⟨q1, Ex.skip ⟨rfl, q2, q4⟩⟩)
      apply Ex.loop (l := iL (List.range s.length))
      · simp only [f5, Option.bind_some]
        rw [if_pos hm, Option.bind_some, rangeL_ints]
      refine (loop_ix (iL (List.range s.length)) (fun k σ' => (∀ y, y ≠ "i" → y ≠ "near" → y ≠ "free" → y ≠ "u" → σ' y = σ3 y) ∧ σ' "free" = some (.list (iL (sim s t x k).free)) ∧ σ' "u" = some (.int ((sim s t x k).u : Nat))) ?_ (σ := σ3) ⟨fun _ _ _ _ _ => rfl, f8, f11⟩).elim fun σ' h => ⟨σ', h.1, rfl, ?_⟩
      · rintro k hk σ4 ⟨g1, g2, g3⟩
        have hk' : k < s.length := by simpa [iL] using hk
        have hik : (iL (List.range s.length))[k] = .int (k : Nat) := by simp [set_get, iL]
        rw [hik, sim_succ]
        have hsu := sim_u s t x k
        generalize sim s t x k = y at g2 g3 hsu ⊢
        refine ⟨σ4.set "i" (.int (k : Nat)), by simp [set_get, bindN, PV.imm, PV.flat, PV.atom, FlatOk], ?_⟩
        have q1 : σ4 "first" = some (.str s) := by rw [g1 _ (by decide) (by decide) (by decide) (by decide)]; exact f1
        have q2 : σ4 "second" = some (.str t) := by rw [g1 _ (by decide) (by decide) (by decide) (by decide)]; exact f2
        have q3 : σ4 "mine" = some (.list (iL x.mine)) := by rw [g1 _ (by decide) (by decide) (by decide) (by decide)]; exact f9
        unfold sstep
        by_cases hkm : k ∈ x.mine
        · rw [if_pos hkm]
          refine Ex.seq (σ1 := σ4.set "i" (.int (k : Nat))) ?_ (Ex.skip ⟨.inl rfl, fun y y1 y2 y3 y4 => by simp [set_get, y1, g1 y y1 y2 y3 y4], by simp [set_get, g2], by simp [set_get, g3]⟩)
          simp only [set_get, reduceIte, String.reduceEq, q3, Option.bind_some, notin_eq, decide_eq_false (not_not_intro hkm)]
          rfl
        rw [if_neg hkm]
        have hyf : y.free.length < 1000 := by omega
        refine Ex.seqN (Q := fun σ' fl => fl = .next ∧ (∀ z, z ≠ "i" → z ≠ "near" → z ≠ "free" → z ≠ "u" → σ' z = σ4 z) ∧ (match y.free.find? (fun j => lalike (ch s k) (ch t j)) with
            | some j => σ' "free" = some (.list (iL (y.free.erase j))) ∧ σ' "u" = some (.int (y.u + 1 : Nat))
            | none => σ' "free" = some (.list (iL y.free)) ∧ σ' "u" = some (.int (y.u : Nat)))) ?_ ?_
        · refine Ex.iteT (by simp only [set_get, reduceIte, String.reduceEq, q3, Option.bind_some, notin_eq, decide_eq_true hkm]) ?_
          refine Ex.seq (σ1 := (σ4.set "i" (.int (k : Nat))).set "near" (.list (iL (y.free.filter fun j => lalike (ch s k) (ch t j))))) ?_ ?_
          · simp only [set_get, reduceIte, String.reduceEq, g2, Option.bind_some]
            rw [if_pos (ints_atoms _), Option.bind_some, if_pos (by rw [ints_len]; exact hyf), compL_filter (p := fun j => lalike (ch s k) (ch t j))]
            · rfl
            · intro j hj
              have hj' := M.free_lt j (hsu.2.1 j hj)
              have e1 := subV_str hk' a1
              have e2 := subV_str hj' a2
              have l1 : (chr s k).length + (chr t j).length ≤ 1000 := by show 1 + 1 ≤ 1000; decide
              have l2 : (chr t j).length + (chr s k).length ≤ 1000 := by show 1 + 1 ≤ 1000; decide
              simp only [orT, capS, set_get, reduceIte, String.reduceEq, q1, q2, List.contains_cons, List.contains_nil, Bool.or_false, String.reduceBEq, Bool.or_true, Bool.true_or, Option.bind_some, e1, e2, binV, cmpV, if_pos l1, if_pos l2, chr_add]
              unfold lalike alikeText
              cases Txt.contains (Str.ofString "AE AI AO AU BV EI EO EU IO IU OU IY EY CG EF WU WV XK SZ XS QC UV MN LI QO PR IJ 2Z 5S 8B 1I 1L 0O 0Q CK GJ") ⟨#[ch s k, ch t j]⟩ <;> cases Txt.contains (Str.ofString "AE AI AO AU BV EI EO EU IO IU OU IY EY CG EF WU WV XK SZ XS QC UV MN LI QO PR IJ 2Z 5S 8B 1I 1L 0O 0Q CK GJ") ⟨#[ch t j, ch s k]⟩ <;> rfl
          rw [← List.head?_filter]
          have hnf : (y.free.filter fun j => lalike (ch s k) (ch t j)).length ≤ y.free.length := List.length_filter_le _ _
          have hsub : ∀ j ∈ y.free.filter (fun j => lalike (ch s k) (ch t j)), j ∈ y.free := fun j hj => (List.mem_filter.mp hj).1
          generalize y.free.filter (fun j => lalike (ch s k) (ch t j)) = nr at hnf hsub ⊢
          cases nr with
          | nil =>
            refine Ex.seq (σ1 := (σ4.set "i" (.int (k : Nat))).set "near" (.list (iL []))) (by simp [set_get, truthV, skipS]) (Ex.skip ⟨rfl, ?_⟩)
            simp only [List.head?_nil]
            refine ⟨fun y y1 y2 y3 y4 => ?_, ?_, ?_⟩ <;> simp_all [set_get]
          | cons j nr =>
            have hj := hsub j List.mem_cons_self
            refine Ex.seq (σ1 := (((σ4.set "i" (.int (k : Nat))).set "near" (.list (iL (j :: nr)))).set "free" (.list (iL (y.free.erase j)))).set "u" (.int (y.u + 1 : Nat))) ?_ (Ex.skip ⟨rfl, ?_⟩)
            · have l1 : nr.length + 1 < 1000 := by simp only [List.length_cons] at hnf; omega
              have hex : ∃ a, a ∈ y.free ∧ (a : Int) = j := ⟨j, hj, rfl⟩
              simp [set_get, truthV, seqS, skipS, subV, g2, g3, l1, hyf, PV.atom, PV.imm, PV.flat, FlatOk, intsOf_ints, hex, erase_cast, iaddV]
            · simp only [List.head?_cons]
              refine ⟨fun y y1 y2 y3 y4 => ?_, ?_, ?_⟩ <;> simp_all [set_get]
        · rintro σ5 fl ⟨rfl, r1, r2⟩
          refine ⟨rfl, Ex.skip ⟨.inl rfl, fun z z1 z2 z3 z4 => by rw [r1 z z1 z2 z3 z4, g1 z z1 z2 z3 z4], ?_⟩⟩
          revert r2
          cases y.free.find? (fun j => lalike (ch s k) (ch t j)) <;> exact fun q => q
      · have := h.2; rw [ints_len, List.length_range] at this; exact this
    · have hsp' : ¬ (x.mine.length : Int) < (shortOf s t : Nat) := by omega
      rw [hu, if_neg hsp]
      exact Ex.of (σ1 := σ3) (fl := .next) (by simp [set_get, f6, f7, cmpV, hsp', skipS]) ⟨rfl, fun _ _ _ _ _ => rfl, f11⟩
  rintro σ4 fl ⟨rfl, g1, g2⟩
  refine ⟨rfl, ?_⟩
  have k1 : σ4 "first" = some (.str s) := by rw [g1 _ (by decide) (by decide) (by decide) (by decide)]; exact f1
  have k2 : σ4 "second" = some (.str t) := by rw [g1 _ (by decide) (by decide) (by decide) (by decide)]; exact f2
  have k3 : σ4 "stretch" = some (.bool b) := by rw [g1 _ (by decide) (by decide) (by decide) (by decide)]; exact f3
  have k4 : σ4 "n" = some (.int t.length) := by rw [g1 _ (by decide) (by decide) (by decide) (by decide)]; exact f4
  have k5 : σ4 "m" = some (.int s.length) := by rw [g1 _ (by decide) (by decide) (by decide) (by decide)]; exact f5
  have k6 : σ4 "short" = some (.int (shortOf s t : Nat)) := by rw [g1 _ (by decide) (by decide) (by decide) (by decide)]; exact f6
  have k7 : σ4 "p" = some (.int ((reck s t b).p : Nat)) := by rw [g1 _ (by decide) (by decide) (by decide) (by decide), hp]; exact f7
  have k8 : σ4 "t" = some (.int ((reck s t b).t : Nat)) := by rw [g1 _ (by decide) (by decide) (by decide) (by decide), ht']; exact f10
  clear f1 f2 f3 f4 f5 f6 f7 f8 f9 f10 f11 g1 σ3
  -- bounds
  have bp : (reck s t b).p ≤ 10 := by rw [hp]; omega
  have bu : (reck s t b).u ≤ 10 := by
    rw [hu]; split
    · exact Nat.le_trans (sim_u s t x s.length).1 hs
    · omega
  have bt : (reck s t b).t ≤ 10 := by
    rw [ht']
    have : diffs s t x.mine th ≤ x.mine.length := Nat.le_trans (List.length_filter_le _ _) (by simp [set_get])
    omega
  have bsame : (reck s t b).same ≤ 4 := by rw [hsame]; exact Nat.le_trans ((sameFrom_le _ _ _ _ _).2 (Nat.zero_le _)) (Nat.min_le_right _ _)
  clear hp hu ht'
  generalize (reck s t b).p = p at *
  generalize (reck s t b).u = u at *
  generalize (reck s t b).t = tr at *
  generalize hm : s.length = m at *
  generalize hn' : t.length = n at *
  have z1 : ((10 : Int) * p + 3 * u).natAbs ≤ 130 := by omega
  have z2 : ((m : Int) + n).natAbs ≤ 20 := by omega
  have z3 : ((p : Int)).natAbs ≤ 10 := by omega
  have z4 : ((10 : Int) * m).natAbs ≤ 100 := by omega
  have z5 : ((n : Int)).natAbs ≤ 10 := by omega
  have z6 : ((p : Int) - tr).natAbs ≤ 20 := by omega
  have z7 := natAbs_mul_le z1 z2
  have z8 := natAbs_mul_le z7 z3
  have z9 := natAbs_mul_le z4 z5
  have z10 := natAbs_mul_le z9 z6
  have z11 : ((30 : Int) * m).natAbs ≤ 300 := by omega
  have z12 := natAbs_mul_le z11 z5
  have z13 := natAbs_mul_le z12 z3
  have ztop : (topI m n p u tr).natAbs ≤ 46000 := by unfold topI; omega
  have zunder : (underI m n p).natAbs ≤ 30000 := by unfold underI; omega
  refine Ex.seq (σ1 := (σ4.set "under" (.int (underI m n p))).set "top" (.int (topI m n p u tr))) ?_ ?_
  · have e1 := binV_mul (a := 10) (b := p) (by decide)
    have e2 := binV_mul (a := 3) (b := u) (by decide)
    have e3 := binV_mul (a := 10 * (p : Int) + 3 * u) (b := (m : Int) + n) (small_of z1 (by decide))
    have e4 := binV_mul (a := (10 * (p : Int) + 3 * u) * ((m : Int) + n)) (b := p) (small_of z7 (by decide))
    have e5 := binV_mul (a := 10) (b := m) (by decide)
    have e6 := binV_mul (a := 10 * (m : Int)) (b := n) (small_of z4 (by decide))
    have e7 := binV_mul (a := 10 * (m : Int) * n) (b := (p : Int) - tr) (small_of z9 (by decide))
    have e8 := binV_mul (a := 30) (b := m) (by decide)
    have e9 := binV_mul (a := 30 * (m : Int)) (b := n) (small_of z11 (by decide))
    have e10 := binV_mul (a := 30 * (m : Int) * n) (b := p) (small_of z12 (by decide))
    simp only [seqE, k4, k5, k7, k8, g2, Option.bind_some, Option.map_some, binV_add, binV_sub, e1, e2, e3, e4, e5, e6, e7, e8, e9, e10]
    rfl
  clear z1 z2 z3 z4 z5 z6 z7 z8 z9 z10 z11 z12 z13
  have e11 := binV_mul (a := 10) (b := topI m n p u tr) (by decide)
  have e12 := binV_mul (a := 7) (b := underI m n p) (by decide)
  unfold duesF
  by_cases hlt : 10 * topI m n p u tr < 7 * underI m n p
  · rw [if_pos hlt]
    refine Ex.ret (σ1 := (σ4.set "under" (.int (underI m n p))).set "top" (.int (topI m n p u tr))) (v := .list [.tup [.int (topI m n p u tr), .int (underI m n p)]]) ?_ (by simp [set_get, Ret, pvPairs])
    simp [set_get, e11, e12, cmpV, hlt, seqS, seqE, PV.imm]
  rw [if_neg hlt]
  refine Ex.seq (σ1 := (σ4.set "under" (.int (underI m n p))).set "top" (.int (topI m n p u tr))) (by simp [set_get, e11, e12, cmpV, hlt, skipS]) ?_
  refine Ex.seq (σ1 := ((σ4.set "under" (.int (underI m n p))).set "top" (.int (topI m n p u tr))).set "same" (.int (0 : Nat))) (by simp [set_get, PV.imm, PV.flat, PV.atom, FlatOk]) ?_
  have hsh : shortOf s t = min m n := by unfold shortOf; rw [hm, hn']
  generalize hσ : ((σ4.set "under" (.int (underI m n p))).set "top" (.int (topI m n p u tr))).set "same" (.int (0 : Nat)) = σ5
  have f1 : σ5 "first" = some (.str s) := by subst hσ; simp [set_get, k1]
  have f2 : σ5 "second" = some (.str t) := by subst hσ; simp [set_get, k2]
  have f3 : σ5 "stretch" = some (.bool b) := by subst hσ; simp [set_get, k3]
  have f4 : σ5 "n" = some (.int n) := by subst hσ; simp [set_get, k4]
  have f5 : σ5 "m" = some (.int m) := by subst hσ; simp [set_get, k5]
  have f6 : σ5 "short" = some (.int (shortOf s t : Nat)) := by subst hσ; simp [set_get, k6]
  have f7 : σ5 "p" = some (.int p) := by subst hσ; simp [set_get, k7]
  have f8 : σ5 "top" = some (.int (topI m n p u tr)) := by subst hσ; simp [set_get]
  have f9 : σ5 "under" = some (.int (underI m n p)) := by subst hσ; simp [set_get]
  have f10 : σ5 "same" = some (.int (0 : Nat)) := by subst hσ; simp [set_get]
  clear hσ k1 k2 k3 k4 k5 k6 k7 k8 g2 σ4
  refine Ex.seqN (Q := fun σ' fl => fl = .next ∧ (∀ y, y ≠ "same" → σ' y = σ5 y) ∧ σ' "same" = some (.int ((reck s t b).same : Nat))) ?_ ?_
  · rw [hsame]
    refine while_same s t (min (shortOf s t) 4) (by omega) (by omega) (by omega) (by omega) σ5 ?_ ?_ 4 20 0 σ5 (by omega) (by decide) (Nat.zero_le _) (fun _ _ => rfl) f10
    · intro σ k h1 h2 hk
      have q1 : σ "first" = some (.str s) := by rw [h1 _ (by decide)]; exact f1
      have q2 : σ "second" = some (.str t) := by rw [h1 _ (by decide)]; exact f2
      have q6 : σ "short" = some (.int (shortOf s t : Nat)) := by rw [h1 _ (by decide)]; exact f6
      have hmn : (if (4 : Int) < ((shortOf s t : Nat) : Int) then (4 : Int) else ((shortOf s t : Nat) : Int)) = ((min (shortOf s t) 4 : Nat) : Int) := by split <;> omega
      simp only [andT, seqE, q1, q2, q6, h2, Option.bind_some, Option.map_some, minV, hmn, cmpV]
      by_cases hkl : k < min (shortOf s t) 4
      · have hkl' : (k : Int) < ((min (shortOf s t) 4 : Nat) : Int) := by omega
        have e1 := subV_str (x := s) (i := k) (by omega) (by omega)
        have e2 := subV_str (x := t) (i := k) (by omega) (by omega)
        simp only [hkl', decide_true, reduceIte, e1, e2, Option.bind_some, chr_beq]
        have hd : Txt.contains (Str.ofString "0123456789") (chr s k) = isDig (ch s k) := rfl
        rw [hd]
        by_cases hc : ch s k = ch t k
        · simp only [hc, beq_self_eq_true, reduceIte, hkl, true_and]
          cases isDig (ch t k) <;> rfl
        · have : (ch s k == ch t k) = false := by simpa using hc
          rw [this, decide_eq_false (fun q => hc q.2.1)]; rfl
      · have hkl' : ¬ (k : Int) < ((min (shortOf s t) 4 : Nat) : Int) := by omega
        simp only [decide_eq_false hkl']
        rw [decide_eq_false (fun q => hkl q.1)]; rfl
    · intro σ k h2
      simp [set_get, h2, iaddV, seqS, skipS, PV.imm, PV.flat, PV.atom, FlatOk]
  rintro σ6 fl ⟨rfl, g1, g2⟩
  refine ⟨rfl, ?_⟩
  have k1 : σ6 "first" = some (.str s) := by rw [g1 _ (by decide)]; exact f1
  have k3 : σ6 "stretch" = some (.bool b) := by rw [g1 _ (by decide)]; exact f3
  have k4 : σ6 "n" = some (.int n) := by rw [g1 _ (by decide)]; exact f4
  have k5 : σ6 "m" = some (.int m) := by rw [g1 _ (by decide)]; exact f5
  have k6 : σ6 "short" = some (.int (shortOf s t : Nat)) := by rw [g1 _ (by decide)]; exact f6
  have k7 : σ6 "p" = some (.int p) := by rw [g1 _ (by decide)]; exact f7
  have k8 : σ6 "top" = some (.int (topI m n p u tr)) := by rw [g1 _ (by decide)]; exact f8
  have k9 : σ6 "under" = some (.int (underI m n p)) := by rw [g1 _ (by decide)]; exact f9
  clear f1 f2 f3 f4 f5 f6 f7 f8 f9 f10 g1 σ5 hsame
  generalize (reck s t b).same = same at *
  generalize (reck s t b).long = long at *
  have y1 : ((same : Int)).natAbs ≤ 4 := by omega
  have y2 : (underI m n p - topI m n p u tr).natAbs ≤ 76000 := by omega
  have y3 := natAbs_mul_le y1 y2
  refine Ex.seq (σ1 := (σ6.set "low" (.int (lowI m n p))).set "high" (.int (highI m n p u tr same))) ?_ ?_
  · have e13 := binV_mul (a := (same : Int)) (b := underI m n p - topI m n p u tr) (small_of y1 (by decide))
    have e14 := binV_mul (a := 10) (b := underI m n p) (by decide)
    simp only [seqE, k8, k9, g2, Option.bind_some, Option.map_some, binV_add, binV_sub, e11, e13, e14]
    rfl
  have yhigh0 : (10 * topI m n p u tr).natAbs ≤ 460000 := by clear y1 y2 y3 zunder; omega
  have yhigh : (highI m n p u tr same).natAbs ≤ 1000000 := by unfold highI; clear y1 y2 zunder ztop; omega
  have ylow : (lowI m n p).natAbs ≤ 300000 := by unfold lowI; clear y1 y2 y3 ztop yhigh yhigh0; omega
  have hd0 : Txt.contains (Str.ofString "0123456789") (chr s 0) = isDig (ch s 0) := rfl
  have e0 : subV (.str s) (.int (0 : Nat)) = some (.str (chr s 0)) := subV_str (x := s) (i := 0) (by omega) (by omega)
  have e15 := binV_mul (a := 2) (b := p) (by decide)
  have e16 := binV_mul (a := 2) (b := same) (by decide)
  have hcond : andT [fun σ => Option.bind (σ "stretch") truthV, fun σ => Option.bind (σ "short") fun a => Option.bind (some (PV.int 4)) fun b => cmpV CmpOp.Gt a b,
      fun σ => Option.bind (σ "p") fun a => Option.bind (Option.bind (σ "same") fun a => Option.bind (some (PV.int 1)) fun b => binV Operator.Add a b) fun b => cmpV CmpOp.Gt a b,
      fun σ => Option.bind (Option.bind (some (PV.int 2)) fun a => Option.bind (σ "p") fun b => binV Operator.Mult a b) fun a => Option.bind (Option.bind (σ "short") fun a => Option.bind (σ "same") fun b => binV Operator.Add a b) fun b => cmpV CmpOp.GtE a b,
      fun σ => Option.bind (Option.bind (σ "first") fun a => Option.bind (some (PV.int 0)) fun b => subV a b) fun a => Option.bind (some (PV.str (Str.ofString "0123456789"))) fun b => cmpV CmpOp.NotIn a b]
      ((σ6.set "low" (.int (lowI m n p))).set "high" (.int (highI m n p u tr same))) = some long := by
    have e0' : subV (.str s) (.int 0) = some (.str (chr s 0)) := e0
    rw [hlong]
    simp only [andT, set_get, reduceIte, String.reduceEq, k1, k3, k6, k7, g2, Option.bind_some, truthV, cmpV, binV_add, e15, e0', hd0]
    have c1 : decide ((4 : Int) < ((shortOf s t : Nat) : Int)) = decide (shortOf s t > 4) := decide_eq_decide.mpr (by omega)
    have c2 : decide ((same : Int) + 1 < (p : Int)) = decide (p > same + 1) := decide_eq_decide.mpr (by omega)
    have c3 : decide (((shortOf s t : Nat) : Int) + (same : Int) ≤ 2 * (p : Int)) = decide (2 * p ≥ shortOf s t + same) := decide_eq_decide.mpr (by omega)
    rw [c1, c2, c3]
    cases b <;> cases decide (shortOf s t > 4) <;> cases decide (p > same + 1) <;> cases decide (2 * p ≥ shortOf s t + same) <;> cases isDig (ch s 0) <;> rfl
  refine Ex.seqN (Q := fun σ' fl => fl = .next ∧ σ' "top" = some (.int (topI m n p u tr)) ∧ σ' "under" = some (.int (underI m n p)) ∧ σ' "high" = some (.int (lastI m n p u tr same long).1) ∧ σ' "low" = some (.int (lastI m n p u tr same long).2)) ?_ ?_
  · cases long with
    | true =>
      refine Ex.iteT hcond ?_
      refine Ex.seq (σ1 := ((((σ6.set "low" (.int (lowI m n p))).set "high" (.int (highI m n p u tr same))).set "all_of" (.int (allOf m n same))).set "more" (.int (moreI p same)))) ?_ ?_
      · simp only [seqE, set_get, reduceIte, String.reduceEq, k4, k5, k7, g2, Option.bind_some, Option.map_some, binV_add, binV_sub, e16]
        rfl
      have w1 := binV_mul (a := highI m n p u tr same) (b := allOf m n same) (small_of yhigh (by decide))
      have w2 := binV_mul (a := lowI m n p - highI m n p u tr same) (b := moreI p same) (small_of (A := 2000000) (by clear y1 y2 y3 ztop zunder yhigh0; omega) (by decide))
      have w3 := binV_mul (a := lowI m n p) (b := allOf m n same) (small_of ylow (by decide))
      refine Ex.seq (σ1 := ((((((σ6.set "low" (.int (lowI m n p))).set "high" (.int (highI m n p u tr same))).set "all_of" (.int (allOf m n same))).set "more" (.int (moreI p same))).set "low" (.int (lastI m n p u tr same true).2)).set "high" (.int (lastI m n p u tr same true).1))) ?_ (Ex.skip ⟨rfl, by simp [set_get, k8], by simp [set_get, k9], by simp [set_get], by simp [set_get]⟩)
      simp only [seqE, set_get, reduceIte, String.reduceEq, Option.bind_some, Option.map_some, binV_add, binV_sub, w1, w2, w3]
      rfl
    | false =>
      exact Ex.iteF hcond (Ex.skip ⟨rfl, by simp [set_get, k8], by simp [set_get, k9], by simp [set_get, lastI], by simp [set_get, lastI]⟩)
  rintro σ7 fl ⟨rfl, r1, r2, r3, r4⟩
  refine ⟨rfl, ?_⟩
  by_cases heq : 10 * topI m n p u tr = 7 * underI m n p
  · rw [if_pos heq]
    refine Ex.ret (σ1 := σ7) (v := .list [.tup [.int (topI m n p u tr), .int (underI m n p)], .tup [.int (lastI m n p u tr same long).1, .int (lastI m n p u tr same long).2]]) ?_ (by simp [set_get, Ret, pvPairs])
    simp [set_get, r1, r2, r3, r4, e11, e12, cmpV, heq, seqE, PV.imm]
  · rw [if_neg heq]
    refine Ex.ret (σ1 := σ7) (v := .list [.tup [.int (lastI m n p u tr same long).1, .int (lastI m n p u tr same long).2]]) ?_ (by simp [set_get, Ret, pvPairs])
    simp [set_get, r1, r2, r3, r4, e11, e12, cmpV, heq, seqE, PV.imm]
theorem dues_spec (w : World) (s t : Str) (b : Bool) (hs : s.length ≤ 10) (ht : t.length ≤ 10) : duesSpec w [.str s, .str t, .bool b] = some (.rlist (pvPairs (duesR s t b))) := by
  obtain ⟨σ', fl, e, rfl⟩ := dues_ret w s t b hs ht (setAll (fun _ => none) ["first", "second", "stretch"] [.str s, .str t, .bool b]) (by simp [set_get, setAll]) (by simp [set_get, setAll]) (by simp [set_get, setAll])
  unfold duesSpec retOut
  dsimp only
  rw [e]
  rfl
end
section
open PySem PySem.Spec PySem.Calls PyProof.Rows PySem.W
set_option maxRecDepth 100000
set_option maxHeartbeats 8000000
theorem loop_brk {bind : PV → Store → Option Store} {g : DS} : ∀ (l : List PV) (R : Nat → Store → Prop) (T : Store → Prop)
    (_ : ∀ k (hk : k < l.length) σ, R k σ → ∃ σ1, bind l[k] σ = some σ1 ∧ Ex g σ1 (fun σ' fl => ((fl = .next ∨ fl = .cont) ∧ R (k + 1) σ') ∨ (fl = .brk ∧ T σ'))) {σ : Store} (_ : R 0 σ), ∃ σ', loopS bind g l σ = some (σ', .next) ∧ (R l.length σ' ∨ T σ')
  | [], R, T, _, σ, h => ⟨σ, rfl, .inl h⟩
  | v :: l, R, T, st, σ, h => by
    obtain ⟨σ1, e1, σ', fl, e2, e3⟩ := st 0 (Nat.zero_lt_succ _) σ h
    have e1' : bind v σ = some σ1 := e1
    rcases e3 with ⟨e3, e4⟩ | ⟨rfl, e4⟩
    · have ih := loop_brk l (fun k => R (k + 1)) T (fun k hk σ hr => by
        have := st (k + 1) (Nat.succ_lt_succ hk) σ hr
        simpa using this) e4
      obtain ⟨σ2, e5, e6⟩ := ih
      refine ⟨σ2, ?_, e6⟩
      unfold loopS
      rw [e1', Option.bind_some, e2]
      rcases e3 with rfl | rfl <;> exact e5
    · refine ⟨σ', ?_, .inr e4⟩
      unfold loopS
      rw [e1', Option.bind_some, e2]
theorem Ex.stop {f g : DS} {σ : Store} {P : Store → Fl → Prop} (h : Ex f σ (fun σ' fl => fl ≠ .next ∧ P σ' fl)) : Ex (seqS f g) σ P := by
  obtain ⟨σ', fl, a, b, c⟩ := h
  refine ⟨σ', fl, ?_, c⟩
  unfold seqS
  rw [a]
  cases fl with
  | next => exact absurd rfl b
  | _ => rfl
/-! rows of flags -/
def flagL (f : Nat → Int) (L : Nat) : List PV := (List.range L).map fun k => .int (f k)
theorem flagL_len (f L) : (flagL f L).length = L := by simp [set_get, flagL]
theorem flagL_rep (L : Nat) : List.replicate L (PV.int 0) = flagL (fun _ => 0) L := by
  unfold flagL
  rw [List.map_const', List.length_range]
theorem flagL_atoms (f L) : (flagL f L).all PV.atom = true := by simp [set_get, flagL, PV.atom]
theorem flagL_congr {f g : Nat → Int} {L : Nat} (h : ∀ k, k < L → f k = g k) : flagL f L = flagL g L := by
  unfold flagL
  exact List.map_congr_left fun k hk => by rw [h k (List.mem_range.mp hk)]
theorem flagL_set (f : Nat → Int) (L j : Nat) (v : Int) : (flagL f L).set j (.int v) = flagL (fun k => if k = j then v else f k) L := by
  apply List.ext_getElem
  · simp [set_get, flagL]
  · intro k h1 h2
    rw [List.getElem_set]
    simp only [flagL, List.getElem_map, List.getElem_range]
    by_cases h : j = k
    · subst h; simp [set_get]
    · have : ¬ k = j := fun q => h q.symm
      simp [set_get, h, this]
theorem subV_flag {f : Nat → Int} {L j : Nat} (h : j < L) (h2 : L < 1000) : subV (.list (flagL f L)) (.int (j : Nat)) = some (.int (f j)) := by
  have : (flagL f L)[j]? = some (.int (f j)) := by simp [set_get, flagL, h]
  simp [set_get, subV, flagL_len, h2, this]
/-! searching -/
theorem range_near : ∀ n, n ≤ 10 → ∀ k, k < 10 → ∀ r, r ≤ 4 → (List.range n).filter (near r k) = List.range' (k - r) (min (k + r + 1) n - (k - r)) := by decide +kernel
theorem find_near {n k r : Nat} (hn : n ≤ 10) (hk : k < 10) (hr : r ≤ 4) (q p : Nat → Bool) : (List.range' (k - r) (min (k + r + 1) n - (k - r))).find? (fun j => q j && p j) = ((List.range n).filter q).find? (fun j => near r k j && p j) := by
  rw [← range_near n hn k hk r hr, List.find?_filter, List.find?_filter]
  congr 1
  funext j
  cases near r k j <;> cases q j <;> simp [set_get]
theorem filter_next {q : Nat → Bool} {x : Nat} {rest : List Nat} : ∀ (len a : Nat), (List.range' a len).filter q = x :: rest → (List.range' a len).find? q = some x ∧ (List.range' (x + 1) (a + len - (x + 1))).filter q = rest ∧ a ≤ x ∧ x < a + len
  | 0, a, h => by simp at h
  | len + 1, a, h => by
    rw [List.range'_succ] at h ⊢
    cases hq : q a with
    | true =>
      rw [List.filter_cons_of_pos hq] at h
      cases h
      refine ⟨by rw [List.find?_cons_of_pos hq], ?_, Nat.le_refl _, by omega⟩
      have : x + (len + 1) - (x + 1) = len := by omega
      rw [this]
    | false =>
      rw [List.filter_cons_of_neg (by simp [set_get, hq])] at h
      obtain ⟨h1, h2, h3, h4⟩ := filter_next len (a + 1) h
      refine ⟨by rw [List.find?_cons_of_neg (by simp [set_get, hq])]; exact h1, ?_, by omega, by omega⟩
      have : a + 1 + len - (x + 1) = a + (len + 1) - (x + 1) := by omega
      rw [this] at h2; exact h2
theorem split_at {q : Nat → Bool} {m k : Nat} (hk : k < m) (hq : q k = true) : (List.range m).filter q = (List.range k).filter q ++ k :: ((List.range' (k + 1) (m - k - 1)).filter q) := by
  have : List.range m = List.range k ++ k :: List.range' (k + 1) (m - k - 1) := by
    have e1 : m = k + ((m - k - 1) + 1) := by omega
    conv => lhs; rw [e1, List.range_eq_range']
    rw [← List.range'_append_1, List.range'_succ, ← List.range_eq_range', Nat.zero_add]
  conv => lhs; rw [this]
  rw [List.filter_append, List.filter_cons_of_pos hq]
theorem sorted_self {m : Nat} {l : List Nat} (hs : l.Pairwise (· < ·)) (hb : ∀ i ∈ l, i < m) : sortedN m l = l := by
  have hnd : l.Nodup := hs.imp (fun q => Nat.ne_of_lt q)
  have hp : (sortedN m l).Perm l := by
    refine (List.perm_ext_iff_of_nodup (List.nodup_range.filter _) hnd).mpr fun j => ?_
    rw [List.mem_filter, List.mem_range, decide_eq_true_eq]
    exact ⟨fun q => q.2, fun q => ⟨hb j q, q⟩⟩
  refine List.Perm.eq_of_pairwise (le := (· < ·)) (fun a b _ _ h1 h2 => by omega) ?_ hs hp
  exact (List.pairwise_lt_range (n := m)).filter _
/-! the length of the beginning -/
def goodTo (s t : Str) (lim k : Nat) : Prop := ∀ j, j < k → j < lim ∧ ch s j = ch t j ∧ isDig (ch s j) = false
theorem goodTo_same (s t lim) : ∀ f k, goodTo s t lim k → lim ≤ k + f → goodTo s t lim (sameFrom s t lim f k) ∧ ¬ (sameFrom s t lim f k < lim ∧ ch s (sameFrom s t lim f k) = ch t (sameFrom s t lim f k) ∧ isDig (ch s (sameFrom s t lim f k)) = false)
  | 0, k, h, hl => ⟨h, fun q => by have := q.1; unfold sameFrom at this; omega⟩
  | f + 1, k, h, hl => by
    unfold sameFrom
    split
    · rename_i hc
      refine goodTo_same s t lim f (k + 1) (fun j hj => ?_) (by omega)
      by_cases hjk : j = k
      · subst hjk; exact hc
      · exact h j (by omega)
    · rename_i hc
      exact ⟨h, hc⟩
theorem same_unique {s t : Str} {lim k : Nat} (hl : lim ≤ 4) (h1 : goodTo s t lim k) (h2 : ¬ (k < lim ∧ ch s k = ch t k ∧ isDig (ch s k) = false)) : k = sameFrom s t lim 4 0 := by
  obtain ⟨g1, g2⟩ := goodTo_same s t lim 4 0 (fun j hj => absurd hj (Nat.not_lt_zero _)) (by omega)
  rcases Nat.lt_trichotomy k (sameFrom s t lim 4 0) with h | h | h
  · exact absurd (g1 k h) h2
  · exact h
  · exact absurd (h1 _ h) g2
end
section
open PySem PySem.Spec PySem.Calls PyProof.Rows PySem.W
set_option maxRecDepth 100000
set_option maxHeartbeats 8000000
structure TextOk (s t : Str) : Prop where
  hs : s.length ≤ 10
  ht : t.length ≤ 10
  s0 : 0 < s.length
  t0 : 0 < t.length
  rs : ∀ i, i < s.length → 0 < ch s i ∧ ch s i < 91
  rt : ∀ j, j < t.length → 0 < ch t j ∧ ch t j < 91
  al : ∀ i j, i < s.length → j < t.length → pairTab spPairs (chr s i) (chr t j) = lalike (ch s i) (ch t j)
  dg : ∀ i, i < s.length → Txt.isdigit (chr s i) = isDig (ch s i)
/-! the figures -/
def numSim (p u : Nat) : UInt64 := Float64.add (Float64.div (Float64.ofInt ((3 * u : Nat) : Int)) 4621819117588971520) (Float64.ofInt (p : Int))
def wgt0 (m n p u t : Nat) : UInt64 :=
  Float64.div (Float64.add (Float64.add (Float64.div (numSim p u) (Float64.ofInt (m : Int))) (Float64.div (numSim p u) (Float64.ofInt (n : Int))))
    (Float64.ofFrac (decide (((p : Int) - t) < 0) != decide ((p : Int) < 0)) ((p : Int) - t).natAbs ((p : Int)).natAbs)) 4613937818241073152
def wgt1 (w : UInt64) (same : Nat) : UInt64 := if same = 0 then w else Float64.add w (Float64.mul (Float64.mul (Float64.ofInt (same : Int)) 4591870180066957722) (Float64.sub 4607182418800017408 w))
def wgt2 (w : UInt64) (m n p same : Nat) : UInt64 := Float64.add w (Float64.mul (Float64.sub 4607182418800017408 w)
    (Float64.ofFrac (decide (((p : Int) - same - 1) < 0) != decide (((m : Int) + n - (same : Int) * 2 + 2) < 0)) ((p : Int) - same - 1).natAbs ((m : Int) + n - (same : Int) * 2 + 2).natAbs))
def atMost7 (w : UInt64) : Bool := Float64.cmp w 4604480259023595110 == some .lt || Float64.cmp w 4604480259023595110 == some .eq
def callF (m n p u t same : Nat) (long : Bool) : UInt64 :=
  if atMost7 (wgt0 m n p u t) = true then wgt0 m n p u t else if long = true then wgt2 (wgt1 (wgt0 m n p u t) same) m n p same else wgt1 (wgt0 m n p u t) same

theorem inr_true {x : Str} {i : Nat} (h : 0 < ch x i ∧ ch x i < 91) : inRangeSpec [.str (chr x i)] = some (.bool true) := by
  show (if (chr x i).length = 1 then some (PV.bool (decide ((0 : Int) < ((ch x i : Nat) : Int)) && decide (((ch x i : Nat) : Int) < 91))) else none) = _
  have hl : (chr x i).length = 1 := rfl
  rw [if_pos hl, decide_eq_true (by omega), decide_eq_true (by omega)]; rfl
theorem suf_ret (w : World) (x : Addr) (b : Bool) (d : Addr) (s t : Str) (O : TextOk s t) (σ : Store) (h1 : σ "s1" = some (.str s)) (h2 : σ "s2" = some (.str t)) (h3 : σ "len_s1" = some (.int s.length)) (h4 : σ "len_s2" = some (.int t.length))
    (h5 : σ "self" = some (.obj (.ref x))) (h6 : σ "adjwt" = some (.obj (.ref d))) :
    Ex (callSuf w x b d (pairTab spPairs)).1 σ (fun _ fl => fl = .ret (if (reck s t b).p = 0 then .flt 0 else .flt (callF s.length t.length (reck s t b).p (reck s t b).u (reck s t b).t (reck s t b).same (reck s t b).long))) := by
  unfold callSuf
  dsimp only
  obtain ⟨hs, ht, s0, t0, rs, rt, al, dg⟩ := O
  have a1 : s.length < 1000 := by omega
  have a2 : t.length < 1000 := by omega
  generalize hL : max s.length t.length = L
  have hr4 : reachOf s t ≤ 4 := by unfold reachOf; omega
  refine Ex.seq (σ1 := (σ.set "search_range" (.int L)).set "minv" (.int (shortOf s t : Nat))) ?_ ?_
  · by_cases hgt : (t.length : Int) < s.length
    · have e1 : L = s.length := by omega
      have e2 : shortOf s t = t.length := by unfold shortOf; omega
      simp [set_get, h3, h4, cmpV, hgt, seqS, skipS, PV.imm, PV.flat, PV.atom, FlatOk, e1, e2]
    · have e1 : L = t.length := by omega
      have e2 : shortOf s t = s.length := by unfold shortOf; omega
      simp [set_get, h3, h4, cmpV, hgt, seqS, skipS, PV.imm, PV.flat, PV.atom, FlatOk, e1, e2]
  have hL10 : L ≤ 10 := by omega
  have hLs : s.length ≤ L := by omega
  have hLt : t.length ≤ L := by omega
  have hrep : ∀ σ' : Store, σ' "search_range" = some (.int L) → ((Option.bind (seqE [fun _ => some (PV.int 0)] σ') fun l => if List.all l PV.imm = true ∧ List.length l < 1000 then some l else none).bind fun a =>
      Option.bind (σ' "search_range") fun b => match a, b with
        | [p], PV.int n => if PV.atom p = true ∧ -1000 ≤ n ∧ n < 1000 then some (List.replicate (Int.toNat n) p) else none
        | _, _ => none) = some (flagL (fun _ => 0) L) := by
    intro σ' h
    have : (-1000 : Int) ≤ (L : Int) ∧ (L : Int) < 1000 := by omega
    simp [set_get, seqE, h, PV.imm, PV.atom, this, flagL_rep]
  refine Ex.seq (σ1 := ((σ.set "search_range" (.int L)).set "minv" (.int (shortOf s t : Nat))).set "s1_flag" (.list (flagL (fun _ => 0) L))) ?_ ?_
  · have := hrep ((σ.set "search_range" (.int L)).set "minv" (.int (shortOf s t : Nat))) (by simp [set_get])
    refine (congrArg (fun o => Option.bind o _) this).trans ?_
    rw [Option.bind_some, if_pos (flagL_atoms _ _)]
  refine Ex.seq (σ1 := (((σ.set "search_range" (.int L)).set "minv" (.int (shortOf s t : Nat))).set "s1_flag" (.list (flagL (fun _ => 0) L))).set "s2_flag" (.list (flagL (fun _ => 0) L))) ?_ ?_
  · have := hrep (((σ.set "search_range" (.int L)).set "minv" (.int (shortOf s t : Nat))).set "s1_flag" (.list (flagL (fun _ => 0) L))) (by simp [set_get])
    refine (congrArg (fun o => Option.bind o _) this).trans ?_
    rw [Option.bind_some, if_pos (flagL_atoms _ _)]
  have hreach : (if (0 : Int) < ((L : Int).fdiv 2 - 1) then ((L : Int).fdiv 2 - 1) else 0) = ((reachOf s t : Nat) : Int) := by
    rw [Int.fdiv_eq_ediv_of_nonneg _ (by decide)]
    unfold reachOf; split <;> omega
  refine Ex.seq (σ1 := ((((σ.set "search_range" (.int L)).set "minv" (.int (shortOf s t : Nat))).set "s1_flag" (.list (flagL (fun _ => 0) L))).set "s2_flag" (.list (flagL (fun _ => 0) L))).set "search_range" (.int (reachOf s t : Nat))) ?_ ?_
  · simp only [seqE, set_get, reduceIte, String.reduceEq, Option.bind_some, Option.map_some, binV, maxV]
    rw [if_pos (by decide)]
    simp only [Option.bind_some, Option.map_some, maxV, gt_iff_lt, hreach]
    rfl
  refine Ex.seq (σ1 := (((((σ.set "search_range" (.int L)).set "minv" (.int (shortOf s t : Nat))).set "s1_flag" (.list (flagL (fun _ => 0) L))).set "s2_flag" (.list (flagL (fun _ => 0) L))).set "search_range" (.int (reachOf s t : Nat))).set "num_com" (.int (0 : Nat))) (by simp [set_get, PV.imm, PV.flat, PV.atom, FlatOk]) ?_
  refine Ex.seq (σ1 := ((((((σ.set "search_range" (.int L)).set "minv" (.int (shortOf s t : Nat))).set "s1_flag" (.list (flagL (fun _ => 0) L))).set "s2_flag" (.list (flagL (fun _ => 0) L))).set "search_range" (.int (reachOf s t : Nat))).set "num_com" (.int (0 : Nat))).set "yl1" (.int ((t.length : Int) - 1))) (by simp [set_get, h4, binV, PV.imm, PV.flat, PV.atom, FlatOk]) ?_
  generalize hσ : (((((((σ.set "search_range" (.int L)).set "minv" (.int (shortOf s t : Nat))).set "s1_flag" (.list (flagL (fun _ => 0) L))).set "s2_flag" (.list (flagL (fun _ => 0) L))).set "search_range" (.int (reachOf s t : Nat))).set "num_com" (.int (0 : Nat))).set "yl1" (.int ((t.length : Int) - 1))) = σ1
  have f1 : σ1 "s1" = some (.str s) := by subst hσ; simp [set_get, h1]
  have f2 : σ1 "s2" = some (.str t) := by subst hσ; simp [set_get, h2]
  have f3 : σ1 "len_s1" = some (.int s.length) := by subst hσ; simp [set_get, h3]
  have f4 : σ1 "len_s2" = some (.int t.length) := by subst hσ; simp [set_get, h4]
  have f5 : σ1 "self" = some (.obj (.ref x)) := by subst hσ; simp [set_get, h5]
  have f6 : σ1 "adjwt" = some (.obj (.ref d)) := by subst hσ; simp [set_get, h6]
  have f7 : σ1 "minv" = some (.int (shortOf s t : Nat)) := by subst hσ; simp [set_get]
  have f8 : σ1 "search_range" = some (.int (reachOf s t : Nat)) := by subst hσ; simp [set_get]
  have f9 : σ1 "s1_flag" = some (.list (flagL (fun _ => 0) L)) := by subst hσ; simp [set_get]
  have f10 : σ1 "s2_flag" = some (.list (flagL (fun _ => 0) L)) := by subst hσ; simp [set_get]
  have f11 : σ1 "num_com" = some (.int (0 : Nat)) := by subst hσ; simp [set_get]
  have f12 : σ1 "yl1" = some (.int ((t.length : Int) - 1)) := by subst hσ; simp [set_get]
  clear hσ h1 h2 h3 h4 h5 h6 hrep
  have henum : ∀ k (hk : k < (enumL s).length), (enumL s)[k] = .tup [.int (k : Nat), .str (chr s k)] := by intro k hk; simp [set_get, enumL]
  have hel : (enumL s).length = s.length := by simp [set_get, enumL]
  refine Ex.seqN (Q := fun σ' fl => fl = .next ∧ (∀ y, y ≠ "i" → y ≠ "sc1" → y ≠ "lowlim" → y ≠ "hilim" → y ≠ "j" → y ≠ "s1_flag" → y ≠ "s2_flag" → y ≠ "num_com" → σ' y = σ1 y) ∧
      σ' "s1_flag" = some (.list (flagL (fun i => if i ∈ (matOf s t).mine then 1 else 0) L)) ∧ σ' "s2_flag" = some (.list (flagL (fun j => if j ∈ (matOf s t).theirs then 1 else 0) L)) ∧ σ' "num_com" = some (.int ((matOf s t).mine.length : Nat))) ?_ ?_
  · apply Ex.loop (l := enumL s)
    · simp only [f1, Option.bind_some]
      rfl
    refine (loop_ix (enumL s) (fun k σ' => (∀ y, y ≠ "i" → y ≠ "sc1" → y ≠ "lowlim" → y ≠ "hilim" → y ≠ "j" → y ≠ "s1_flag" → y ≠ "s2_flag" → y ≠ "num_com" → σ' y = σ1 y) ∧
      σ' "s1_flag" = some (.list (flagL (fun i => if i ∈ (mat s t (reachOf s t) t.length k).mine then 1 else 0) L)) ∧ σ' "s2_flag" = some (.list (flagL (fun j => if j ∈ (mat s t (reachOf s t) t.length k).theirs then 1 else 0) L)) ∧ σ' "num_com" = some (.int ((mat s t (reachOf s t) t.length k).mine.length : Nat))) ?_ (σ := σ1) ⟨fun _ _ _ _ _ _ _ _ _ => rfl, by rw [f9]; rfl, by rw [f10]; rfl, by rw [f11]; rfl⟩).elim fun σ' h => ⟨σ', h.1, rfl, ?_⟩
    · rintro k hk σ2 ⟨g1, g2, g3, g4⟩
      have hk' : k < s.length := by rw [hel] at hk; exact hk
      have M := mat_ok s t (reachOf s t) t.length k
      rw [henum k hk, mat_succ]
      generalize mat s t (reachOf s t) t.length k = y at g2 g3 g4 M ⊢
      have q2 : σ2 "s2" = some (.str t) := by rw [g1 _ (by decide) (by decide) (by decide) (by decide) (by decide) (by decide) (by decide) (by decide)]; exact f2
      have q8 : σ2 "search_range" = some (.int (reachOf s t : Nat)) := by rw [g1 _ (by decide) (by decide) (by decide) (by decide) (by decide) (by decide) (by decide) (by decide)]; exact f8
      have q12 : σ2 "yl1" = some (.int ((t.length : Int) - 1)) := by rw [g1 _ (by decide) (by decide) (by decide) (by decide) (by decide) (by decide) (by decide) (by decide)]; exact f12
      refine ⟨(σ2.set "i" (.int (k : Nat))).set "sc1" (.str (chr s k)), by simp [set_get, bind2, PV.imm, PV.flat, PV.atom, FlatOk], ?_⟩
      have hlo : (if (0 : Int) > (k : Int) - (reachOf s t : Nat) then (0 : Int) else (k : Int) - (reachOf s t : Nat)) = ((k - reachOf s t : Nat) : Int) := by split <;> omega
      have hhi : (if (t.length : Int) - 1 < (k : Int) + (reachOf s t : Nat) then (t.length : Int) - 1 else (k : Int) + (reachOf s t : Nat)) + 1 = ((min (k + reachOf s t + 1) t.length : Nat) : Int) := by split <;> omega
      refine Ex.seq (σ1 := ((σ2.set "i" (.int (k : Nat))).set "sc1" (.str (chr s k))).set "lowlim" (.int (k - reachOf s t : Nat))) ?_ ?_
      · simp only [seqE, set_get, reduceIte, String.reduceEq, q8, Option.bind_some, Option.map_some, binV, maxV]
        rw [hlo]
        rfl
      refine Ex.seq (σ1 := (((σ2.set "i" (.int (k : Nat))).set "sc1" (.str (chr s k))).set "lowlim" (.int (k - reachOf s t : Nat))).set "hilim" (.int (if (t.length : Int) - 1 < (k : Int) + (reachOf s t : Nat) then (t.length : Int) - 1 else (k : Int) + (reachOf s t : Nat)))) ?_ ?_
      · simp only [seqE, set_get, reduceIte, String.reduceEq, q8, q12, Option.bind_some, Option.map_some, binV, minV]
        rfl
      generalize hσ' : (((σ2.set "i" (.int (k : Nat))).set "sc1" (.str (chr s k))).set "lowlim" (.int (k - reachOf s t : Nat))).set "hilim" (.int (if (t.length : Int) - 1 < (k : Int) + (reachOf s t : Nat) then (t.length : Int) - 1 else (k : Int) + (reachOf s t : Nat))) = σ3
      have r1 : ∀ y, y ≠ "i" → y ≠ "sc1" → y ≠ "lowlim" → y ≠ "hilim" → σ3 y = σ2 y := by subst hσ'; intro y y1 y2 y3 y4; simp [set_get, y1, y2, y3, y4]
      have r2 : σ3 "i" = some (.int (k : Nat)) := by subst hσ'; simp [set_get]
      have r3 : σ3 "sc1" = some (.str (chr s k)) := by subst hσ'; simp [set_get]
      have r4 : σ3 "lowlim" = some (.int (k - reachOf s t : Nat)) := by subst hσ'; simp [set_get]
      have r5 : σ3 "hilim" = some (.int (if (t.length : Int) - 1 < (k : Int) + (reachOf s t : Nat) then (t.length : Int) - 1 else (k : Int) + (reachOf s t : Nat))) := by subst hσ'; simp [set_get]
      clear hσ'
      have hb : ((-1000 : Int) ≤ ((k - reachOf s t : Nat) : Int) ∧ ((k - reachOf s t : Nat) : Int) < 1000) ∧ (-1000 : Int) ≤ ((min (k + reachOf s t + 1) t.length : Nat) : Int) ∧ ((min (k + reachOf s t + 1) t.length : Nat) : Int) < 1000 := by omega
      have hmn : min (k + reachOf s t + 1) t.length ≤ t.length := Nat.min_le_right _ _
      have hfind := find_near ht (show k < 10 by omega) hr4 (fun j => decide (j ∉ y.theirs)) (fun j => ch t j == ch s k)
      rw [← M.free] at hfind
      refine Ex.seqN (Q := fun σ' fl => fl = .next ∧ (match y.free.find? (hit s t (reachOf s t) k) with
          | some j => (∀ z, z ≠ "j" → z ≠ "s1_flag" → z ≠ "s2_flag" → z ≠ "num_com" → σ' z = σ3 z) ∧ σ' "s1_flag" = some (.list (flagL (fun i => if i ∈ y.mine ++ [k] then 1 else 0) L)) ∧ σ' "s2_flag" = some (.list (flagL (fun i => if i ∈ y.theirs ++ [j] then 1 else 0) L)) ∧ σ' "num_com" = some (.int ((y.mine ++ [k]).length : Nat))
          | none => ∀ z, z ≠ "j" → σ' z = σ3 z)) ?_ ?_
      · apply Ex.loop (l := iL (List.range' (k - reachOf s t) (min (k + reachOf s t + 1) t.length - (k - reachOf s t))))
        · simp only [r4, r5, Option.bind_some, binV, hhi]
          rw [if_pos hb, Option.bind_some, rangeL_from]
        have hP : (iL (List.range' (k - reachOf s t) (min (k + reachOf s t + 1) t.length - (k - reachOf s t)))).find? (fun v => match v with | .int j => decide (j.toNat ∉ y.theirs) && (ch t j.toNat == ch s k) | _ => false) = (y.free.find? (hit s t (reachOf s t) k)).map fun (j : Nat) => .int j := by
          have : y.free.find? (hit s t (reachOf s t) k) = y.free.find? (fun j => near (reachOf s t) k j && (ch t j == ch s k)) := rfl
          rw [this, ← hfind]
          simp only [iL, List.find?_map]
          congr 1
        have hmem : ∀ v ∈ iL (List.range' (k - reachOf s t) (min (k + reachOf s t + 1) t.length - (k - reachOf s t))), ∃ j : Nat, v = .int (j : Nat) ∧ j < t.length := by
          intro v hv
          obtain ⟨j, hj, rfl⟩ := List.mem_map.mp hv
          rw [List.mem_range'_1] at hj
          exact ⟨j, rfl, by omega⟩
        have htest : ∀ (σ4 : Store) (j : Nat), j < t.length → (∀ z, z ≠ "j" → σ4 z = σ3 z) → σ4 "j" = some (.int (j : Nat)) →
            andT [fun σ => Option.bind (Option.bind (σ "s2_flag") fun a => Option.bind (σ "j") fun b => subV a b) fun a => Option.bind (some (PV.int 0)) fun b => cmpV CmpOp.Eq a b,
              fun σ => Option.bind (Option.bind (σ "s2") fun a => Option.bind (σ "j") fun b => subV a b) fun a => Option.bind (σ "sc1") fun b => cmpV CmpOp.Eq a b] σ4 = some (decide (j ∉ y.theirs) && (ch t j == ch s k)) := by
          intro σ4 j hj hz hjj
          have w2 : σ4 "s2_flag" = some (.list (flagL (fun j => if j ∈ y.theirs then 1 else 0) L)) := by rw [hz _ (by decide), r1 _ (by decide) (by decide) (by decide) (by decide)]; exact g3
          have w3 : σ4 "s2" = some (.str t) := by rw [hz _ (by decide), r1 _ (by decide) (by decide) (by decide) (by decide)]; exact q2
          have w4 : σ4 "sc1" = some (.str (chr s k)) := by rw [hz _ (by decide)]; exact r3
          have e1 := subV_flag (f := fun j => if j ∈ y.theirs then 1 else 0) (L := L) (j := j) (by omega) (by omega)
          have e2 := subV_str hj a2
          simp only [andT, w2, w3, w4, hjj, Option.bind_some, e1, e2, cmpV, chr_beq]
          by_cases hjm : j ∈ y.theirs
          · simp [set_get, hjm]
          · simp only [hjm, if_false, not_false_eq_true, decide_true, Bool.true_and, beq_self_eq_true, reduceIte]
            cases (ch t j == ch s k) <;> rfl
        refine (loop_find (bind := bindN true "j") (R := fun σ' => ∀ z, z ≠ "j" → σ' z = σ3 z) (T := fun v σ' => ∃ j : Nat, v = .int (j : Nat) ∧ (∀ z, z ≠ "j" → z ≠ "s1_flag" → z ≠ "s2_flag" → z ≠ "num_com" → σ' z = σ3 z) ∧ σ' "s1_flag" = some (.list (flagL (fun i => if i ∈ y.mine ++ [k] then 1 else 0) L)) ∧ σ' "s2_flag" = some (.list (flagL (fun i => if i ∈ y.theirs ++ [j] then 1 else 0) L)) ∧ σ' "num_com" = some (.int ((y.mine ++ [k]).length : Nat)))
          (p := fun v => match v with | .int j => decide (j.toNat ∉ y.theirs) && (ch t j.toNat == ch s k) | _ => false) (iL (List.range' (k - reachOf s t) (min (k + reachOf s t + 1) t.length - (k - reachOf s t)))) ?_ ?_ (σ := σ3) (fun _ _ => rfl)).elim fun σ' h => ⟨σ', h.1, rfl, ?_⟩
        · intro v hv hp σ4 hz
          obtain ⟨j, rfl, hj⟩ := hmem v hv
          refine ⟨σ4.set "j" (.int (j : Nat)), by simp [set_get, bindN, PV.imm, PV.flat, PV.atom, FlatOk], ?_⟩
          have hz' : ∀ z, z ≠ "j" → (σ4.set "j" (.int (j : Nat))) z = σ3 z := fun z hzz => by rw [set_get, if_neg hzz]; exact hz z hzz
          have ht0 := htest (σ4.set "j" (.int (j : Nat))) j hj hz' (by simp [set_get])
          rw [show (decide (j ∉ y.theirs) && (ch t j == ch s k)) = false from hp] at ht0
          exact Ex.seqN (Ex.iteF ht0 (Ex.skip (P := fun σ' fl => fl = .next ∧ σ' = σ4.set "j" (.int (j : Nat))) ⟨rfl, rfl⟩)) fun σ' fl q => ⟨q.1, Ex.skip ⟨.inl rfl, by rw [q.2]; exact hz'⟩⟩
        · intro v hv hp σ4 hz
          obtain ⟨j, rfl, hj⟩ := hmem v hv
          refine ⟨σ4.set "j" (.int (j : Nat)), by simp [set_get, bindN, PV.imm, PV.flat, PV.atom, FlatOk], ?_⟩
          have hz' : ∀ z, z ≠ "j" → (σ4.set "j" (.int (j : Nat))) z = σ3 z := fun z hzz => by rw [set_get, if_neg hzz]; exact hz z hzz
          have ht0 := htest (σ4.set "j" (.int (j : Nat))) j hj hz' (by simp [set_get])
          rw [show (decide (j ∉ y.theirs) && (ch t j == ch s k)) = true from hp] at ht0
          have w1 : σ4 "s1_flag" = some (.list (flagL (fun i => if i ∈ y.mine then 1 else 0) L)) := by rw [hz _ (by decide), r1 _ (by decide) (by decide) (by decide) (by decide)]; exact g2
          have w2 : σ4 "s2_flag" = some (.list (flagL (fun j => if j ∈ y.theirs then 1 else 0) L)) := by rw [hz _ (by decide), r1 _ (by decide) (by decide) (by decide) (by decide)]; exact g3
          have w3 : σ4 "num_com" = some (.int (y.mine.length : Nat)) := by rw [hz _ (by decide), r1 _ (by decide) (by decide) (by decide) (by decide)]; exact g4
          have w4 : σ4 "i" = some (.int (k : Nat)) := by rw [hz _ (by decide)]; exact r2
          have e3 : flagL (fun i => if i ∈ y.mine ++ [k] then 1 else 0) L = (flagL (fun i => if i ∈ y.mine then 1 else 0) L).set k (.int 1) := by
            rw [flagL_set]; exact flagL_congr fun i hi => by by_cases h : i = k <;> simp [set_get, h]
          have e4 : flagL (fun i => if i ∈ y.theirs ++ [j] then 1 else 0) L = (flagL (fun i => if i ∈ y.theirs then 1 else 0) L).set j (.int 1) := by
            rw [flagL_set]; exact flagL_congr fun i hi => by by_cases h : i = j <;> simp [set_get, h]
          have l1 : j < L := by omega
          have l2 : k < L := by omega
          have l3 : L < 1000 := by omega
          refine Ex.stop (Ex.iteT ht0 (Ex.of (σ1 := ((((σ4.set "j" (.int (j : Nat))).set "s2_flag" (.list (flagL (fun i => if i ∈ y.theirs ++ [j] then 1 else 0) L))).set "s1_flag" (.list (flagL (fun i => if i ∈ y.mine ++ [k] then 1 else 0) L))).set "num_com" (.int ((y.mine ++ [k]).length : Nat)))) (fl := .brk) ?_ ⟨(fun q => nomatch q), rfl, j, rfl, ?_, ?_, ?_, ?_⟩))
          · simp only [seqS, skipS, set_get, reduceIte, String.reduceEq, w1, w2, w3, w4, Option.bind_some, PV.atom, flagL_len, e3, e4, iaddV]
            rw [if_pos ⟨trivial, by omega, by omega, l3⟩]
            simp only [set_get, reduceIte, String.reduceEq, w1, w4, Option.bind_some, flagL_len]
            rw [if_pos ⟨trivial, by omega, by omega, l3⟩]
            simp [set_get, w3, PV.imm, PV.flat, PV.atom, FlatOk, iaddV]
          · intro z z1 z2 z3 z4
            simp [set_get, z1, z2, z3, z4, hz z z1]
          · simp [set_get]
          · simp [set_get]
          · simp [set_get]
        · have hm := h.2
          rw [hP] at hm
          cases hf : y.free.find? (hit s t (reachOf s t) k) with
          | none => rw [hf] at hm; exact hm
          | some j =>
            rw [hf] at hm
            obtain ⟨j', ej, hm⟩ := hm
            have : j' = j := by have := PV.int.inj ej; omega
            subst this
            exact hm
      · rintro σ4 fl ⟨rfl, hm⟩
        refine ⟨rfl, Ex.skip ⟨.inl rfl, ?_⟩⟩
        unfold mstep
        have w1 : σ3 "s1_flag" = some (.list (flagL (fun i => if i ∈ y.mine then 1 else 0) L)) := by rw [r1 _ (by decide) (by decide) (by decide) (by decide)]; exact g2
        have w2 : σ3 "s2_flag" = some (.list (flagL (fun j => if j ∈ y.theirs then 1 else 0) L)) := by rw [r1 _ (by decide) (by decide) (by decide) (by decide)]; exact g3
        have w3 : σ3 "num_com" = some (.int (y.mine.length : Nat)) := by rw [r1 _ (by decide) (by decide) (by decide) (by decide)]; exact g4
        revert hm
        cases y.free.find? (hit s t (reachOf s t) k) with
        | none => exact fun hm => ⟨fun z z1 z2 z3 z4 z5 z6 z7 z8 => by rw [hm z z5, r1 z z1 z2 z3 z4, g1 z z1 z2 z3 z4 z5 z6 z7 z8], by rw [hm _ (by decide)]; exact w1, by rw [hm _ (by decide)]; exact w2, by rw [hm _ (by decide)]; exact w3⟩
        | some j => exact fun hm => ⟨fun z z1 z2 z3 z4 z5 z6 z7 z8 => by rw [hm.1 z z5 z6 z7 z8, r1 z z1 z2 z3 z4, g1 z z1 z2 z3 z4 z5 z6 z7 z8], hm.2.1, hm.2.2.1, hm.2.2.2⟩
    · have := h.2; rw [hel] at this; exact this
  rintro σ2 fl ⟨rfl, g1, g2, g3, g4⟩
  refine ⟨rfl, ?_⟩
  have M : MatOk t.length s.length (matOf s t) := mat_ok s t (reachOf s t) t.length s.length
  have k1 : σ2 "s1" = some (.str s) := by rw [g1 _ (by decide) (by decide) (by decide) (by decide) (by decide) (by decide) (by decide) (by decide)]; exact f1
  have k2 : σ2 "s2" = some (.str t) := by rw [g1 _ (by decide) (by decide) (by decide) (by decide) (by decide) (by decide) (by decide) (by decide)]; exact f2
  have k3 : σ2 "len_s1" = some (.int s.length) := by rw [g1 _ (by decide) (by decide) (by decide) (by decide) (by decide) (by decide) (by decide) (by decide)]; exact f3
  have k4 : σ2 "len_s2" = some (.int t.length) := by rw [g1 _ (by decide) (by decide) (by decide) (by decide) (by decide) (by decide) (by decide) (by decide)]; exact f4
  have k5 : σ2 "self" = some (.obj (.ref x)) := by rw [g1 _ (by decide) (by decide) (by decide) (by decide) (by decide) (by decide) (by decide) (by decide)]; exact f5
  have k6 : σ2 "adjwt" = some (.obj (.ref d)) := by rw [g1 _ (by decide) (by decide) (by decide) (by decide) (by decide) (by decide) (by decide) (by decide)]; exact f6
  have k7 : σ2 "minv" = some (.int (shortOf s t : Nat)) := by rw [g1 _ (by decide) (by decide) (by decide) (by decide) (by decide) (by decide) (by decide) (by decide)]; exact f7
  clear f1 f2 f3 f4 f5 f6 f7 f8 f9 f10 f11 f12 g1 σ1 hreach
  have hml := M.mine_len
  have hp : (reck s t b).p = (matOf s t).mine.length := rfl
  have hu : (reck s t b).u = if shortOf s t > (matOf s t).mine.length then (sim s t (matOf s t) s.length).u else 0 := rfl
  have ht' : (reck s t b).t = diffs s t (matOf s t).mine (sortedN t.length (matOf s t).theirs) / 2 := rfl
  have hsame : (reck s t b).same = sameFrom s t (min (shortOf s t) 4) 4 0 := rfl
  have hlong : (reck s t b).long = (b && decide (shortOf s t > 4) && decide ((reck s t b).p > (reck s t b).same + 1) && decide (2 * (reck s t b).p ≥ shortOf s t + (reck s t b).same) && !isDig (ch s 0)) := rfl
  generalize hy : matOf s t = y at *
  by_cases hp0 : (reck s t b).p = 0
  · rw [if_pos hp0]
    rw [hp] at hp0
    refine Ex.ret (σ1 := σ2) (v := .flt 0) ?_ rfl
    simp [set_get, cmpV, seqS, g4, hp0]
  rw [if_neg hp0]
  have hp0' : ¬ y.mine.length = 0 := hp ▸ hp0
  have hp0'' : ¬ y.mine = [] := fun q => hp0' (by rw [q]; rfl)
  refine Ex.seq (σ1 := σ2) (by simp [set_get, g4, cmpV, skipS, hp0'']) ?_
  refine Ex.seq (σ1 := (σ2.set "k" (.int 0)).set "n_trans" (.int 0)) (by simp [set_get, PV.atom]) ?_
  have hmine := sorted_self M.sorted M.below
  have hthl := sortedN_len M
  have hthdef : sortedN t.length y.theirs = (List.range t.length).filter (fun j => decide (j ∈ y.theirs)) := rfl
  have hthlt := sortedN_lt (n := t.length) (l := y.theirs)
  generalize hth : sortedN t.length y.theirs = th at hthl hthlt ht' hthdef ⊢
  refine Ex.seqN (Q := fun σ' fl => fl = .next ∧ (∀ z, z ≠ "i" → z ≠ "sc1" → z ≠ "k" → z ≠ "j" → z ≠ "n_trans" → σ' z = σ2 z) ∧ σ' "n_trans" = some (.int (diffs s t y.mine th : Nat))) ?_ ?_
  · apply Ex.loop (l := enumL s)
    · simp only [set_get, reduceIte, String.reduceEq, k1, Option.bind_some]
      rfl
    refine (loop_ix (enumL s) (fun k σ' => (∀ z, z ≠ "i" → z ≠ "sc1" → z ≠ "k" → z ≠ "j" → z ≠ "n_trans" → σ' z = σ2 z) ∧
      (∃ kk : Nat, kk ≤ t.length ∧ σ' "k" = some (.int (kk : Nat)) ∧ (List.range' kk (t.length - kk)).filter (fun j => decide (j ∈ y.theirs)) = th.drop ((List.range k).filter (fun i => decide (i ∈ y.mine))).length) ∧
      σ' "n_trans" = some (.int (((List.range ((List.range k).filter (fun i => decide (i ∈ y.mine))).length).filter (fun c => ch s (y.mine.getD c 0) != ch t (th.getD c 0))).length : Nat))) ?_ (σ := (σ2.set "k" (.int 0)).set "n_trans" (.int 0))
      ⟨fun z z1 z2 z3 z4 z5 => by simp [set_get, z3, z5], ⟨0, Nat.zero_le _, by simp [set_get], by show List.filter _ (List.range' 0 (t.length - 0)) = List.drop 0 th; rw [Nat.sub_zero, ← List.range_eq_range', List.drop_zero]; exact hthdef.symm⟩, by simp [set_get]⟩).elim fun σ' h => ⟨σ', h.1, rfl, h.2.1, ?_⟩
    · rintro k hk σ3 ⟨r1, ⟨kk, hkk, r2, r3⟩, r4⟩
      have hk' : k < s.length := by rw [hel] at hk; exact hk
      rw [henum k hk]
      refine ⟨(σ3.set "i" (.int (k : Nat))).set "sc1" (.str (chr s k)), by simp [set_get, bind2, PV.imm, PV.flat, PV.atom, FlatOk], ?_⟩
      have w1 : σ3 "s1_flag" = some (.list (flagL (fun i => if i ∈ y.mine then 1 else 0) L)) := by rw [r1 _ (by decide) (by decide) (by decide) (by decide) (by decide)]; exact g2
      have w2 : σ3 "s2_flag" = some (.list (flagL (fun j => if j ∈ y.theirs then 1 else 0) L)) := by rw [r1 _ (by decide) (by decide) (by decide) (by decide) (by decide)]; exact g3
      have w3 : σ3 "s2" = some (.str t) := by rw [r1 _ (by decide) (by decide) (by decide) (by decide) (by decide)]; exact k2
      have w4 : σ3 "len_s2" = some (.int t.length) := by rw [r1 _ (by decide) (by decide) (by decide) (by decide) (by decide)]; exact k4
      have e1 := subV_flag (f := fun i => if i ∈ y.mine then 1 else 0) (L := L) (j := k) (by omega) (by omega)
      rw [List.range_succ, List.filter_append]
      by_cases hkm : k ∈ y.mine
      · have hcons : List.filter (fun i => decide (i ∈ y.mine)) [k] = [k] := by simp [set_get, hkm]
        rw [hcons, List.length_append, List.length_singleton]
        have hsplit := split_at (q := fun i => decide (i ∈ y.mine)) hk' (by simp [set_get, hkm])
        rw [show (List.range s.length).filter (fun i => decide (i ∈ y.mine)) = y.mine from hmine] at hsplit
        generalize hc : ((List.range k).filter (fun i => decide (i ∈ y.mine))).length = c at *
        have hcl : c < y.mine.length := by rw [hsplit]; simp [set_get, hc]
        have hmc : y.mine.getD c 0 = k := by
          conv => lhs; rw [hsplit]
          rw [List.getD_eq_getElem?_getD, List.getElem?_append_right (by omega), hc]; simp [set_get]
        refine Ex.seq (σ1 := (σ3.set "i" (.int (k : Nat))).set "sc1" (.str (chr s k))) ?_ ?_
        · simp only [set_get, reduceIte, String.reduceEq, w1, Option.bind_some, e1, if_pos hkm, truthV]
          rfl
        have hctl : c < th.length := by omega
        have hdrop : th.drop c = th[c] :: th.drop (c + 1) := List.drop_eq_getElem_cons hctl
        rw [hdrop] at r3
        obtain ⟨n1, n2, n3, n4⟩ := filter_next _ _ r3
        have htc : th.getD c 0 = th[c] := by simp [set_get, hctl]
        have hjl : th[c] < t.length := hthlt _ (List.getElem_mem hctl)
        generalize th[c] = j at n1 n2 n3 n4 htc hjl
        refine Ex.seqN (Q := fun σ' fl => fl = .next ∧ (∀ z, z ≠ "j" → z ≠ "k" → σ' z = ((σ3.set "i" (.int (k : Nat))).set "sc1" (.str (chr s k))) z) ∧ σ' "j" = some (.int (j : Nat)) ∧ σ' "k" = some (.int (j + 1 : Nat))) ?_ ?_
        · apply Ex.loop (l := iL (List.range' kk (t.length - kk)))
          · have hb : ((-1000 : Int) ≤ (kk : Int) ∧ (kk : Int) < 1000) ∧ (-1000 : Int) ≤ (t.length : Int) ∧ (t.length : Int) < 1000 := by omega
            simp only [set_get, reduceIte, String.reduceEq, r2, w4, Option.bind_some]
            rw [if_pos hb, Option.bind_some, rangeL_from]
          have hP : (iL (List.range' kk (t.length - kk))).find? (fun v => match v with | .int j => decide (j.toNat ∈ y.theirs) | _ => false) = some (.int (j : Nat)) := by
            simp only [iL, List.find?_map]
            rw [show ((fun v => match v with | PV.int j => decide (j.toNat ∈ y.theirs) | _ => false) ∘ fun (j : Nat) => PV.int (j : Int)) = fun j => decide (j ∈ y.theirs) from rfl, n1]
            rfl
          have hmem : ∀ v ∈ iL (List.range' kk (t.length - kk)), ∃ j : Nat, v = .int (j : Nat) ∧ j < t.length := by
            intro v hv
            obtain ⟨j, hj, rfl⟩ := List.mem_map.mp hv
            rw [List.mem_range'_1] at hj
            exact ⟨j, rfl, by omega⟩
          refine (loop_find (bind := bindN true "j") (R := fun σ' => ∀ z, z ≠ "j" → σ' z = ((σ3.set "i" (.int (k : Nat))).set "sc1" (.str (chr s k))) z) (T := fun v σ' => ∃ j : Nat, v = .int (j : Nat) ∧ (∀ z, z ≠ "j" → z ≠ "k" → σ' z = ((σ3.set "i" (.int (k : Nat))).set "sc1" (.str (chr s k))) z) ∧ σ' "j" = some (.int (j : Nat)) ∧ σ' "k" = some (.int (j + 1 : Nat)))
            (p := fun v => match v with | .int j => decide (j.toNat ∈ y.theirs) | _ => false) (iL (List.range' kk (t.length - kk))) ?_ ?_ (σ := (σ3.set "i" (.int (k : Nat))).set "sc1" (.str (chr s k))) (fun _ _ => rfl)).elim fun σ' h => ⟨σ', h.1, rfl, ?_⟩
          · intro v hv hpv σ4 hz
            obtain ⟨i, rfl, hi⟩ := hmem v hv
            refine ⟨σ4.set "j" (.int (i : Nat)), by simp [set_get, bindN, PV.imm, PV.flat, PV.atom, FlatOk], ?_⟩
            have hni : i ∉ y.theirs := by simpa using hpv
            have v2 : σ4 "s2_flag" = some (.list (flagL (fun j => if j ∈ y.theirs then 1 else 0) L)) := by rw [hz _ (by decide)]; simp [set_get, w2]
            have e5 := subV_flag (f := fun i => if i ∈ y.theirs then 1 else 0) (L := L) (j := i) (by omega) (by omega)
            refine Ex.seqN (Q := fun σ' fl => fl = .next ∧ σ' = σ4.set "j" (.int (i : Nat))) (Ex.iteF ?_ (Ex.skip ⟨rfl, rfl⟩)) fun σ' fl q => ⟨q.1, Ex.skip ⟨.inl rfl, by rw [q.2]; intro z hzz; rw [set_get, if_neg hzz]; exact hz z hzz⟩⟩
            simp only [set_get, reduceIte, String.reduceEq, v2, Option.bind_some, e5, if_neg hni, cmpV]
            rfl
          · intro v hv hpv σ4 hz
            obtain ⟨i, rfl, hi⟩ := hmem v hv
            refine ⟨σ4.set "j" (.int (i : Nat)), by simp [set_get, bindN, PV.imm, PV.flat, PV.atom, FlatOk], ?_⟩
            have hni : i ∈ y.theirs := by simpa using hpv
            have v2 : σ4 "s2_flag" = some (.list (flagL (fun j => if j ∈ y.theirs then 1 else 0) L)) := by rw [hz _ (by decide)]; simp [set_get, w2]
            have e5 := subV_flag (f := fun i => if i ∈ y.theirs then 1 else 0) (L := L) (j := i) (by omega) (by omega)
            refine Ex.stop (Ex.iteT ?_ (Ex.of (σ1 := (σ4.set "j" (.int (i : Nat))).set "k" (.int (i + 1 : Nat))) (fl := .brk) (by simp [set_get, seqS, binV, PV.imm, PV.flat, PV.atom, FlatOk]) ⟨(fun q => nomatch q), rfl, i, rfl, fun z z1 z2 => by simp only [set_get, if_neg z1, if_neg z2]; rw [hz z z1]; rfl, by simp [set_get], by simp [set_get]⟩))
            simp only [set_get, reduceIte, String.reduceEq, v2, Option.bind_some, e5, if_pos hni, cmpV]
            rfl
          · have hm := h.2
            rw [hP] at hm
            obtain ⟨i, ei, hm⟩ := hm
            have : i = j := by have := PV.int.inj ei; omega
            subst this
            exact hm
        · rintro σ4 fl ⟨rfl, v1, v2, v3⟩
          refine ⟨rfl, ?_⟩
          have u1 : σ4 "sc1" = some (.str (chr s k)) := by rw [v1 _ (by decide) (by decide)]; simp [set_get]
          have u2 : σ4 "s2" = some (.str t) := by rw [v1 _ (by decide) (by decide)]; simp [set_get, w3]
          have u3 : σ4 "n_trans" = _ := (v1 _ (by decide) (by decide)).trans (by simp only [set_get, reduceIte, String.reduceEq]; exact r4)
          have e6 := subV_str hjl a2
          have hrest : (List.range' (j + 1) (t.length - (j + 1))).filter (fun j => decide (j ∈ y.theirs)) = th.drop (c + 1) := by
            rw [← n2]; congr 2; omega
          rw [List.range_succ, List.filter_append, List.length_append]
          by_cases hne : ch s k = ch t j
          · refine Ex.seqN (Q := fun σ' fl => fl = .next ∧ σ' = σ4) (Ex.iteF ?_ (Ex.skip ⟨rfl, rfl⟩)) fun σ' fl q => ⟨q.1, Ex.skip ⟨.inl rfl, ?_⟩⟩
            · simp only [u1, u2, v2, Option.bind_some, e6, cmpV]
              rw [show (chr s k != chr t j) = !(chr s k == chr t j) from rfl, chr_beq, hne]; simp [set_get]
            · rw [q.2]
              refine ⟨fun z z1 z2 z3 z4 z5 => by rw [v1 z z4 z3]; simp only [set_get, if_neg z1, if_neg z2]; exact r1 z z1 z2 z3 z4 z5, ⟨j + 1, by omega, v3, hrest⟩, ?_⟩
              have : List.filter (fun c => ch s (y.mine.getD c 0) != ch t (th.getD c 0)) [c] = [] := by
                rw [List.filter_cons_of_neg (by rw [hmc, htc, hne]; simp [set_get]), List.filter_nil]
              rw [u3, this]; rfl
          · refine Ex.seqN (Q := fun σ' fl => fl = .next ∧ σ' = σ4.set "n_trans" (.int ((((List.range c).filter (fun c => ch s (y.mine.getD c 0) != ch t (th.getD c 0))).length + 1 : Nat) : Int))) (Ex.iteT ?_ (Ex.of (σ1 := _) (fl := .next) (by simp [set_get, seqS, skipS, u3, iaddV, PV.imm, PV.flat, PV.atom, FlatOk]; rfl) ⟨rfl, by simp [set_get]⟩)) fun σ' fl q => ⟨q.1, Ex.skip ⟨.inl rfl, ?_⟩⟩
            · simp only [u1, u2, v2, Option.bind_some, e6, cmpV]
              rw [show (chr s k != chr t j) = !(chr s k == chr t j) from rfl, chr_beq]; simp only [beq_eq_false_iff_ne.mpr hne]; rfl
            · rw [q.2]
              refine ⟨fun z z1 z2 z3 z4 z5 => by rw [set_get, if_neg z5, v1 z z4 z3]; simp only [set_get, if_neg z1, if_neg z2]; exact r1 z z1 z2 z3 z4 z5, ⟨j + 1, by omega, by simp [set_get, v3], hrest⟩, ?_⟩
              have hne' : ¬ ch s k = ch t j := hne
              simp only [set_get, reduceIte]
              congr 2
              have : List.filter (fun c => ch s (y.mine.getD c 0) != ch t (th.getD c 0)) [c] = [c] := by
                rw [List.filter_cons_of_pos (by rw [hmc, htc]; simpa using hne), List.filter_nil]
              rw [this]; rfl
      · have hcons : List.filter (fun i => decide (i ∈ y.mine)) [k] = [] := by simp [set_get, hkm]
        rw [hcons, List.append_nil]
        refine Ex.stop (Ex.of (σ1 := (σ3.set "i" (.int (k : Nat))).set "sc1" (.str (chr s k))) (fl := .cont) ?_ ⟨(fun q => nomatch q), .inr rfl, fun z z1 z2 z3 z4 z5 => by simp [set_get, z1, z2, r1 z z1 z2 z3 z4 z5], ⟨kk, hkk, by simp [set_get, r2], r3⟩, by simp [set_get, r4]⟩)
        simp only [set_get, reduceIte, String.reduceEq, w1, Option.bind_some, e1, if_neg hkm, truthV]
        rfl
    · have := h.2.2.2
      rw [hel, show (List.range s.length).filter (fun i => decide (i ∈ y.mine)) = y.mine from hmine] at this
      exact this
  rintro σ3 fl ⟨rfl, r1, r2⟩
  refine ⟨rfl, ?_⟩
  have f1 : σ3 "s1" = some (.str s) := by rw [r1 _ (by decide) (by decide) (by decide) (by decide) (by decide)]; exact k1
  have f2 : σ3 "s2" = some (.str t) := by rw [r1 _ (by decide) (by decide) (by decide) (by decide) (by decide)]; exact k2
  have f3 : σ3 "len_s1" = some (.int s.length) := by rw [r1 _ (by decide) (by decide) (by decide) (by decide) (by decide)]; exact k3
  have f4 : σ3 "len_s2" = some (.int t.length) := by rw [r1 _ (by decide) (by decide) (by decide) (by decide) (by decide)]; exact k4
  have f5 : σ3 "self" = some (.obj (.ref x)) := by rw [r1 _ (by decide) (by decide) (by decide) (by decide) (by decide)]; exact k5
  have f6 : σ3 "adjwt" = some (.obj (.ref d)) := by rw [r1 _ (by decide) (by decide) (by decide) (by decide) (by decide)]; exact k6
  have f7 : σ3 "minv" = some (.int (shortOf s t : Nat)) := by rw [r1 _ (by decide) (by decide) (by decide) (by decide) (by decide)]; exact k7
  have f8 : σ3 "s1_flag" = some (.list (flagL (fun i => if i ∈ y.mine then 1 else 0) L)) := by rw [r1 _ (by decide) (by decide) (by decide) (by decide) (by decide)]; exact g2
  have f9 : σ3 "s2_flag" = some (.list (flagL (fun j => if j ∈ y.theirs then 1 else 0) L)) := by rw [r1 _ (by decide) (by decide) (by decide) (by decide) (by decide)]; exact g3
  have f10 : σ3 "num_com" = some (.int (y.mine.length : Nat)) := by rw [r1 _ (by decide) (by decide) (by decide) (by decide) (by decide)]; exact g4
  clear k1 k2 k3 k4 k5 k6 k7 g2 g3 g4 r1
  have hfd : ((diffs s t y.mine th : Nat) : Int).fdiv 2 = ((reck s t b).t : Int) := by rw [Int.fdiv_eq_ediv_of_nonneg _ (by decide), ht']; rfl
  refine Ex.seq (σ1 := σ3.set "n_trans" (.int ((reck s t b).t : Nat))) (by simp [set_get, r2, binV, hfd, PV.imm, PV.flat, PV.atom, FlatOk]) ?_
  refine Ex.seq (σ1 := (σ3.set "n_trans" (.int ((reck s t b).t : Nat))).set "n_simi" (.int (3 * 0 : Nat))) (by simp [set_get, PV.imm, PV.flat, PV.atom, FlatOk]) ?_
  generalize hσ : (σ3.set "n_trans" (.int ((reck s t b).t : Nat))).set "n_simi" (.int (3 * 0 : Nat)) = σ4
  have k1 : σ4 "s1" = some (.str s) := by subst hσ; simp [set_get, f1]
  have k2 : σ4 "s2" = some (.str t) := by subst hσ; simp [set_get, f2]
  have k3 : σ4 "len_s1" = some (.int s.length) := by subst hσ; simp [set_get, f3]
  have k4 : σ4 "len_s2" = some (.int t.length) := by subst hσ; simp [set_get, f4]
  have k5 : σ4 "self" = some (.obj (.ref x)) := by subst hσ; simp [set_get, f5]
  have k6 : σ4 "adjwt" = some (.obj (.ref d)) := by subst hσ; simp [set_get, f6]
  have k7 : σ4 "minv" = some (.int (shortOf s t : Nat)) := by subst hσ; simp [set_get, f7]
  have k8 : σ4 "s1_flag" = some (.list (flagL (fun i => if i ∈ y.mine then 1 else 0) L)) := by subst hσ; simp [set_get, f8]
  have k9 : σ4 "s2_flag" = some (.list (flagL (fun j => if j ∈ y.theirs then 1 else 0) L)) := by subst hσ; simp [set_get, f9]
  have k10 : σ4 "num_com" = some (.int (y.mine.length : Nat)) := by subst hσ; simp [set_get, f10]
  have k11 : σ4 "n_trans" = some (.int ((reck s t b).t : Nat)) := by subst hσ; simp [set_get]
  have k12 : σ4 "n_simi" = some (.int (3 * 0 : Nat)) := by subst hσ; simp [set_get]
  clear hσ f1 f2 f3 f4 f5 f6 f7 f8 f9 f10 r2 σ3
  refine Ex.seqN (Q := fun σ' fl => fl = .next ∧ (∀ z, z ≠ "i" → z ≠ "j" → z ≠ "n_simi" → z ≠ "s2_flag" → σ' z = σ4 z) ∧ σ' "n_simi" = some (.int (3 * (reck s t b).u : Nat))) ?_ ?_
  · by_cases hsp : shortOf s t > y.mine.length
    · have hsp' : (y.mine.length : Int) < (shortOf s t : Nat) := by omega
      have hm : (-1000 : Int) ≤ (s.length : Int) ∧ (s.length : Int) < 1000 := by omega
      have hm2 : (-1000 : Int) ≤ (t.length : Int) ∧ (t.length : Int) < 1000 := by omega
      rw [hu, if_pos hsp]
      refine Ex.iteT (by simp only [k7, k10, Option.bind_some, cmpV, hsp', decide_true]) ?_
      refine Ex.seqN (Q := fun σ' fl => fl = .next ∧ (∀ z, z ≠ "i" → z ≠ "j" → z ≠ "n_simi" → z ≠ "s2_flag" → σ' z = σ4 z) ∧ σ' "n_simi" = some (.int (3 * (sim s t y s.length).u : Nat))) ?_ (fun σ' fl ⟨q1, q2, q3⟩ => ⟨q1, Ex.skip ⟨rfl, q2, q3⟩⟩)
      apply Ex.loop (l := iL (List.range s.length))
      · simp only [k3, Option.bind_some]
        rw [if_pos hm, Option.bind_some, rangeL_ints]
      refine (loop_ix (iL (List.range s.length)) (fun k σ' => (∀ z, z ≠ "i" → z ≠ "j" → z ≠ "n_simi" → z ≠ "s2_flag" → σ' z = σ4 z) ∧ (∃ f2 : Nat → Int, σ' "s2_flag" = some (.list (flagL f2 L)) ∧ (sim s t y k).free = (List.range t.length).filter (fun j => decide (f2 j = 0))) ∧ σ' "n_simi" = some (.int (3 * (sim s t y k).u : Nat))) ?_ (σ := σ4)
        ⟨fun _ _ _ _ _ => rfl, ⟨_, k9, ?_⟩, k12⟩).elim fun σ' h => ⟨σ', h.1, rfl, h.2.1, ?_⟩
      · rintro k hk σ5 ⟨r1, ⟨f2, r2, r3⟩, r4⟩
        have hk' : k < s.length := by simpa [iL] using hk
        have hik : (iL (List.range s.length))[k] = .int (k : Nat) := by simp [set_get, iL]
        rw [hik, sim_succ]
        generalize sim s t y k = ss at r3 r4 ⊢
        refine ⟨σ5.set "i" (.int (k : Nat)), by simp [set_get, bindN, PV.imm, PV.flat, PV.atom, FlatOk], ?_⟩
        have v1 : σ5 "s1" = some (.str s) := by rw [r1 _ (by decide) (by decide) (by decide) (by decide)]; exact k1
        have v2 : σ5 "s2" = some (.str t) := by rw [r1 _ (by decide) (by decide) (by decide) (by decide)]; exact k2
        have v4 : σ5 "len_s2" = some (.int t.length) := by rw [r1 _ (by decide) (by decide) (by decide) (by decide)]; exact k4
        have v5 : σ5 "self" = some (.obj (.ref x)) := by rw [r1 _ (by decide) (by decide) (by decide) (by decide)]; exact k5
        have v6 : σ5 "adjwt" = some (.obj (.ref d)) := by rw [r1 _ (by decide) (by decide) (by decide) (by decide)]; exact k6
        have v8 : σ5 "s1_flag" = some (.list (flagL (fun i => if i ∈ y.mine then 1 else 0) L)) := by rw [r1 _ (by decide) (by decide) (by decide) (by decide)]; exact k8
        have e1 := subV_flag (f := fun i => if i ∈ y.mine then 1 else 0) (L := L) (j := k) (by omega) (by omega)
        have e2 := subV_str hk' a1
        unfold sstep
        by_cases hkm : k ∈ y.mine
        · rw [if_pos hkm]
          refine Ex.stop (Ex.iteT ?_ (Ex.of (σ1 := σ5.set "i" (.int (k : Nat))) (fl := .cont) rfl ⟨(fun q => nomatch q), .inr rfl, fun z z1 z2 z3 z4 => by simp [set_get, z1, r1 z z1 z2 z3 z4], ⟨f2, by simp [set_get, r2], r3⟩, by simp [set_get, r4]⟩))
          simp only [set_get, reduceIte, String.reduceEq, v8, Option.bind_some, e1, if_pos hkm, cmpV]
          rfl
        rw [if_neg hkm]
        refine Ex.seqN (Q := fun σ' fl => fl = .next ∧ σ' = σ5.set "i" (.int (k : Nat))) (Ex.iteF ?_ (Ex.skip ⟨rfl, rfl⟩)) fun σ' fl q => ⟨q.1, ?_⟩
        · simp only [set_get, reduceIte, String.reduceEq, v8, Option.bind_some, e1, if_neg hkm, cmpV]
          rfl
        rw [q.2]
        refine Ex.seqN (Q := fun σ' fl => fl = .next ∧ σ' = σ5.set "i" (.int (k : Nat))) (Ex.iteF ?_ (Ex.skip ⟨rfl, rfl⟩)) fun σ' fl q => ⟨q.1, ?_⟩
        · simp only [set_get, reduceIte, String.reduceEq, v5, v1, seqE, Option.bind_some, Option.map_some, e2, inr_true (rs k hk'), truthV]
          rfl
        rw [q.2]
        clear q
        refine Ex.seqN (Q := fun σ' fl => fl = .next ∧ (match ss.free.find? (fun j => lalike (ch s k) (ch t j)) with
          | some j => (∀ z, z ≠ "j" → z ≠ "n_simi" → z ≠ "s2_flag" → σ' z = (σ5.set "i" (.int (k : Nat))) z) ∧ σ' "n_simi" = some (.int (3 * (ss.u + 1) : Nat)) ∧ σ' "s2_flag" = some (.list (flagL (fun i => if i = j then 2 else f2 i) L))
          | none => ∀ z, z ≠ "j" → σ' z = (σ5.set "i" (.int (k : Nat))) z)) ?_ ?_
        · apply Ex.loop (l := iL (List.range t.length))
          · simp only [set_get, reduceIte, String.reduceEq, v4, Option.bind_some]
            rw [if_pos hm2, Option.bind_some, rangeL_ints]
          have hP : (iL (List.range t.length)).find? (fun v => match v with | .int j => decide (f2 j.toNat = 0) && lalike (ch s k) (ch t j.toNat) | _ => false) = (ss.free.find? (fun j => lalike (ch s k) (ch t j))).map fun (j : Nat) => .int j := by
            rw [r3, List.find?_filter]
            simp only [iL, List.find?_map]
            congr 1
            congr 1
            funext j
            show (decide (f2 j = 0) && lalike (ch s k) (ch t j)) = decide (decide (f2 j = 0) = true ∧ lalike (ch s k) (ch t j) = true)
            by_cases h : f2 j = 0 <;> simp [set_get, h]
          have hmem : ∀ v ∈ iL (List.range t.length), ∃ j : Nat, v = .int (j : Nat) ∧ j < t.length := by
            intro v hv
            obtain ⟨j, hj, rfl⟩ := List.mem_map.mp hv
            exact ⟨j, rfl, List.mem_range.mp hj⟩
          refine (loop_find (bind := bindN true "j") (R := fun σ' => ∀ z, z ≠ "j" → σ' z = (σ5.set "i" (.int (k : Nat))) z) (T := fun v σ' => ∃ j : Nat, v = .int (j : Nat) ∧ (∀ z, z ≠ "j" → z ≠ "n_simi" → z ≠ "s2_flag" → σ' z = (σ5.set "i" (.int (k : Nat))) z) ∧ σ' "n_simi" = some (.int (3 * (ss.u + 1) : Nat)) ∧ σ' "s2_flag" = some (.list (flagL (fun i => if i = j then 2 else f2 i) L)))
            (p := fun v => match v with | .int j => decide (f2 j.toNat = 0) && lalike (ch s k) (ch t j.toNat) | _ => false) (iL (List.range t.length)) ?_ ?_ (σ := σ5.set "i" (.int (k : Nat))) (fun _ _ => rfl)).elim fun σ' h => ⟨σ', h.1, rfl, ?_⟩
          · intro v hv hpv σ6 hz
            obtain ⟨j, rfl, hj⟩ := hmem v hv
            refine ⟨σ6.set "j" (.int (j : Nat)), by simp [set_get, bindN, PV.imm, PV.flat, PV.atom, FlatOk], ?_⟩
            have hz' : ∀ z, z ≠ "j" → (σ6.set "j" (.int (j : Nat))) z = (σ5.set "i" (.int (k : Nat))) z := fun z hzz => by rw [set_get, if_neg hzz]; exact hz z hzz
            have u2 : (σ6.set "j" (.int (j : Nat))) "s2_flag" = some (.list (flagL f2 L)) := by rw [hz' _ (by decide)]; simp [set_get, r2]
            have u3 : (σ6.set "j" (.int (j : Nat))) "j" = some (.int (j : Nat)) := by simp [set_get]
            have u4 : (σ6.set "j" (.int (j : Nat))) "s2" = some (.str t) := by rw [hz' _ (by decide)]; simp [set_get, v2]
            have u5 : (σ6.set "j" (.int (j : Nat))) "self" = some (.obj (.ref x)) := by rw [hz' _ (by decide)]; simp [set_get, v5]
            have u6 : (σ6.set "j" (.int (j : Nat))) "adjwt" = some (.obj (.ref d)) := by rw [hz' _ (by decide)]; simp [set_get, v6]
            have u7 : (σ6.set "j" (.int (j : Nat))) "s1" = some (.str s) := by rw [hz' _ (by decide)]; simp [set_get, v1]
            have u8 : (σ6.set "j" (.int (j : Nat))) "i" = some (.int (k : Nat)) := by rw [hz' _ (by decide)]; simp [set_get]
            generalize σ6.set "j" (.int (j : Nat)) = σ7 at hz' u2 u3 u4 u5 u6 u7 u8 ⊢
            have e3 := subV_flag (f := f2) (L := L) (j := j) (by omega) (by omega)
            have e4 := subV_str hj a2
            have hpv' : (decide (f2 j = 0) && lalike (ch s k) (ch t j)) = false := hpv
            by_cases hf : f2 j = 0
            · have hla : lalike (ch s k) (ch t j) = false := by simpa [hf] using hpv'
              refine Ex.seqN (Q := fun σ' fl => fl = .next ∧ σ' = σ7) (Ex.iteF ?_ (Ex.skip ⟨rfl, rfl⟩)) fun σ' fl q => ⟨q.1, ?_⟩
              · simp only [u2, u3, Option.bind_some, e3, hf, cmpV]; rfl
              rw [q.2]
              refine Ex.seqN (Q := fun σ' fl => fl = .next ∧ σ' = σ7) (Ex.iteF ?_ (Ex.skip ⟨rfl, rfl⟩)) fun σ' fl q => ⟨q.1, ?_⟩
              · simp only [u5, u4, u3, reduceIte, seqE, Option.bind_some, Option.map_some, e4, inr_true (rt j hj), truthV]; rfl
              rw [q.2]
              refine Ex.stop (Ex.iteT ?_ (Ex.of (σ1 := σ7) (fl := .cont) rfl ⟨(fun q => nomatch q), .inr rfl, hz'⟩))
              simp only [u3, u4, u6, u7, u8, seqE, Option.bind_some, Option.map_some, e2, e4, reduceIte]
              rw [if_pos ⟨rfl, (by show 2 < 1000; decide)⟩, Option.bind_some]
              show some (!pairTab spPairs (chr s k) (chr t j)) = _
              rw [al k j hk' hj, hla]; rfl
            · refine Ex.stop (Ex.iteT ?_ (Ex.of (σ1 := σ7) (fl := .cont) rfl ⟨(fun q => nomatch q), .inr rfl, hz'⟩))
              simp only [u2, u3, Option.bind_some, e3, cmpV]
              simp [set_get, hf]
          · intro v hv hpv σ6 hz
            obtain ⟨j, rfl, hj⟩ := hmem v hv
            refine ⟨σ6.set "j" (.int (j : Nat)), by simp [set_get, bindN, PV.imm, PV.flat, PV.atom, FlatOk], ?_⟩
            have hz' : ∀ z, z ≠ "j" → (σ6.set "j" (.int (j : Nat))) z = (σ5.set "i" (.int (k : Nat))) z := fun z hzz => by rw [set_get, if_neg hzz]; exact hz z hzz
            have u2 : (σ6.set "j" (.int (j : Nat))) "s2_flag" = some (.list (flagL f2 L)) := by rw [hz' _ (by decide)]; simp [set_get, r2]
            have u3 : (σ6.set "j" (.int (j : Nat))) "j" = some (.int (j : Nat)) := by simp [set_get]
            have u4 : (σ6.set "j" (.int (j : Nat))) "s2" = some (.str t) := by rw [hz' _ (by decide)]; simp [set_get, v2]
            have u5 : (σ6.set "j" (.int (j : Nat))) "self" = some (.obj (.ref x)) := by rw [hz' _ (by decide)]; simp [set_get, v5]
            have u6 : (σ6.set "j" (.int (j : Nat))) "adjwt" = some (.obj (.ref d)) := by rw [hz' _ (by decide)]; simp [set_get, v6]
            have u7 : (σ6.set "j" (.int (j : Nat))) "s1" = some (.str s) := by rw [hz' _ (by decide)]; simp [set_get, v1]
            have u8 : (σ6.set "j" (.int (j : Nat))) "i" = some (.int (k : Nat)) := by rw [hz' _ (by decide)]; simp [set_get]
            have u9 : (σ6.set "j" (.int (j : Nat))) "n_simi" = some (.int (3 * ss.u : Nat)) := by rw [hz' _ (by decide)]; simp [set_get, r4]
            generalize σ6.set "j" (.int (j : Nat)) = σ7 at hz' u2 u3 u4 u5 u6 u7 u8 u9 ⊢
            have e3 := subV_flag (f := f2) (L := L) (j := j) (by omega) (by omega)
            have e4 := subV_str hj a2
            have hpv' : (decide (f2 j = 0) && lalike (ch s k) (ch t j)) = true := hpv
            have hf : f2 j = 0 := by simp only [Bool.and_eq_true, decide_eq_true_eq] at hpv'; exact hpv'.1
            have hla : lalike (ch s k) (ch t j) = true := by simp only [Bool.and_eq_true, decide_eq_true_eq] at hpv'; exact hpv'.2
            refine Ex.seqN (Q := fun σ' fl => fl = .next ∧ σ' = σ7) (Ex.iteF ?_ (Ex.skip ⟨rfl, rfl⟩)) fun σ' fl q => ⟨q.1, ?_⟩
            · simp only [u2, u3, Option.bind_some, e3, hf, cmpV]; rfl
            rw [q.2]
            refine Ex.seqN (Q := fun σ' fl => fl = .next ∧ σ' = σ7) (Ex.iteF ?_ (Ex.skip ⟨rfl, rfl⟩)) fun σ' fl q => ⟨q.1, ?_⟩
            · simp only [u5, u4, u3, reduceIte, seqE, Option.bind_some, Option.map_some, e4, inr_true (rt j hj), truthV]; rfl
            rw [q.2]
            have htab : pairTab spPairs (chr s k) (chr t j) = true := by rw [al k j hk' hj, hla]
            refine Ex.seqN (Q := fun σ' fl => fl = .next ∧ σ' = σ7) (Ex.iteF ?_ (Ex.skip ⟨rfl, rfl⟩)) fun σ' fl q => ⟨q.1, ?_⟩
            · simp only [u3, u4, u6, u7, u8, seqE, Option.bind_some, Option.map_some, e2, e4, reduceIte]
              rw [if_pos ⟨rfl, (by show 2 < 1000; decide)⟩, Option.bind_some]
              show some (!pairTab spPairs (chr s k) (chr t j)) = _
              rw [htab]; rfl
            rw [q.2]
            refine Ex.seq (σ1 := σ7.set "n_simi" (.int (3 * (ss.u + 1) : Nat))) ?_ ?_
            · simp only [u3, u4, u6, u7, u8, u9, seqE, Option.bind_some, Option.map_some, e2, e4, reduceIte]
              rw [if_pos ⟨rfl, (by show 2 < 1000; decide)⟩, Option.bind_some]
              simp only [htab, reduceIte, Option.bind_some, iaddV]
              rfl
            have e7 : flagL (fun i => if i = j then 2 else f2 i) L = (flagL f2 L).set j (.int 2) := (flagL_set f2 L j 2).symm
            refine Ex.seq (σ1 := (σ7.set "n_simi" (.int (3 * (ss.u + 1) : Nat))).set "s2_flag" (.list (flagL (fun i => if i = j then 2 else f2 i) L))) ?_ ?_
            · simp only [set_get, reduceIte, String.reduceEq, u2, u3, Option.bind_some, flagL_len, PV.atom, e7]
              rw [if_pos ⟨trivial, by omega, by omega, by omega⟩]; rfl
            exact Ex.stop (Ex.of (fl := .brk) rfl ⟨(fun q => nomatch q), rfl, j, rfl, fun z z1 z2 z3 => by simp only [set_get, if_neg z3, if_neg z2]; rw [hz' z z1]; rfl, by simp [set_get], by simp [set_get]⟩)
          · have hm := h.2
            rw [hP] at hm
            cases hf : ss.free.find? (fun j => lalike (ch s k) (ch t j)) with
            | none => rw [hf] at hm; exact hm
            | some j =>
              rw [hf] at hm
              obtain ⟨j', ej, hm⟩ := hm
              have : j' = j := by have := PV.int.inj ej; omega
              subst this
              exact hm
        · rintro σ6 fl ⟨rfl, hm⟩
          refine ⟨rfl, Ex.skip ⟨.inl rfl, ?_⟩⟩
          have hfr : ∀ j, ss.free.find? (fun j => lalike (ch s k) (ch t j)) = some j → ss.free.erase j = (List.range t.length).filter (fun i => decide ((if i = j then 2 else f2 i) = 0)) := by
            intro j hj
            rw [r3, List.Nodup.erase_eq_filter (List.nodup_range.filter _), List.filter_filter]
            apply List.filter_congr
            intro i _
            by_cases h : i = j <;> simp [set_get, h]
          revert hm
          cases hf : ss.free.find? (fun j => lalike (ch s k) (ch t j)) with
          | none => exact fun hm => ⟨fun z z1 z2 z3 z4 => by rw [hm z z2, set_get, if_neg z1]; exact r1 z z1 z2 z3 z4, ⟨f2, by rw [hm _ (by decide)]; simp [set_get, r2], r3⟩, by rw [hm _ (by decide)]; simp [set_get, r4]⟩
          | some j => exact fun hm => ⟨fun z z1 z2 z3 z4 => by rw [hm.1 z z2 z3 z4, set_get, if_neg z1]; exact r1 z z1 z2 z3 z4, ⟨_, hm.2.2, hfr j hf⟩, hm.2.1⟩
      · show y.free = _
        rw [M.free]
        exact List.filter_congr fun j _ => by by_cases h : j ∈ y.theirs <;> simp [set_get, h]
      · have := h.2.2.2; rw [ints_len, List.length_range] at this; exact this
    · have hsp' : ¬ (y.mine.length : Int) < (shortOf s t : Nat) := by omega
      rw [hu, if_neg hsp]
      exact Ex.of (σ1 := σ4) (fl := .next) (by simp [set_get, k7, k10, cmpV, hsp', skipS]) ⟨rfl, fun _ _ _ _ _ => rfl, k12⟩
  rintro σ5 fl ⟨rfl, r1, r2⟩
  refine ⟨rfl, ?_⟩
  have f1 : σ5 "s1" = some (.str s) := by rw [r1 _ (by decide) (by decide) (by decide) (by decide)]; exact k1
  have f2 : σ5 "s2" = some (.str t) := by rw [r1 _ (by decide) (by decide) (by decide) (by decide)]; exact k2
  have f3 : σ5 "len_s1" = some (.int s.length) := by rw [r1 _ (by decide) (by decide) (by decide) (by decide)]; exact k3
  have f4 : σ5 "len_s2" = some (.int t.length) := by rw [r1 _ (by decide) (by decide) (by decide) (by decide)]; exact k4
  have f5 : σ5 "self" = some (.obj (.ref x)) := by rw [r1 _ (by decide) (by decide) (by decide) (by decide)]; exact k5
  have f7 : σ5 "minv" = some (.int (shortOf s t : Nat)) := by rw [r1 _ (by decide) (by decide) (by decide) (by decide)]; exact k7
  have f10 : σ5 "num_com" = some (.int ((reck s t b).p : Nat)) := by rw [r1 _ (by decide) (by decide) (by decide) (by decide), hp]; exact k10
  have f11 : σ5 "n_trans" = some (.int ((reck s t b).t : Nat)) := by rw [r1 _ (by decide) (by decide) (by decide) (by decide)]; exact k11
  clear k1 k2 k3 k4 k5 k6 k7 k8 k9 k10 k11 k12 r1 σ4
  have bp : (reck s t b).p ≤ 10 := by rw [hp]; omega
  have bu : (reck s t b).u ≤ 10 := by
    rw [hu]; split
    · exact Nat.le_trans (sim_u s t y s.length).1 hs
    · omega
  have bt : (reck s t b).t ≤ 10 := by
    rw [ht']
    have : diffs s t y.mine th ≤ y.mine.length := Nat.le_trans (List.length_filter_le _ _) (by simp [set_get])
    omega
  have bsame : (reck s t b).same ≤ 4 := by rw [hsame]; exact Nat.le_trans ((sameFrom_le _ _ _ _ _).2 (Nat.zero_le _)) (Nat.min_le_right _ _)
  clear hp hu ht' hp0' hp0'' hth hthl hthlt hthdef hmine hml M hy
  have hp0i : ((reck s t b).p : Int) ≠ 0 := by omega
  generalize (reck s t b).p = p at *
  generalize (reck s t b).u = u at *
  generalize (reck s t b).t = tr at *
  have hm0 : (s.length : Int) ≠ 0 := by omega
  have hn0 : (t.length : Int) ≠ 0 := by omega
  have sp : Small (p : Int) := by show (p : Int).natAbs < _; omega
  have sm : Small (s.length : Int) := by show (s.length : Int).natAbs < _; omega
  have sn : Small (t.length : Int) := by show (t.length : Int).natAbs < _; omega
  have su : Small ((3 * u : Nat) : Int) := by show ((3 * u : Nat) : Int).natAbs < _; omega
  have spt : Small ((p : Int) - tr) := by show ((p : Int) - tr).natAbs < _; omega
  have z10 : ¬ Float64.isZero 4621819117588971520 = true := by decide +kernel
  have z3 : ¬ Float64.isZero 4613937818241073152 = true := by decide +kernel
  have c1 : binV .Div (.int (3 * u : Nat)) (.flt 4621819117588971520) = some (.flt (Float64.div (Float64.ofInt ((3 * u : Nat) : Int)) 4621819117588971520)) := by simp only [binV]; rw [if_pos ⟨su, z10⟩]
  have c2 : ∀ q, binV .Add (.flt q) (.int (p : Nat)) = some (.flt (Float64.add q (Float64.ofInt (p : Int)))) := fun q => by simp only [binV]; rw [if_pos sp]
  have c3 : ∀ q, binV .Div (.flt q) (.int (s.length : Nat)) = some (.flt (Float64.div q (Float64.ofInt (s.length : Int)))) := fun q => by simp only [binV]; rw [if_pos ⟨sm, hm0⟩]
  have c4 : ∀ q, binV .Div (.flt q) (.int (t.length : Nat)) = some (.flt (Float64.div q (Float64.ofInt (t.length : Int)))) := fun q => by simp only [binV]; rw [if_pos ⟨sn, hn0⟩]
  have c5 : binV .Div (.int ((p : Int) - tr)) (.int (p : Nat)) = some (.flt (Float64.ofFrac (decide (((p : Int) - tr) < 0) != decide ((p : Int) < 0)) ((p : Int) - tr).natAbs ((p : Int)).natAbs)) := by simp only [binV]; rw [if_pos ⟨spt, hp0i⟩]
  have c6 : ∀ q, binV .Div (.flt q) (.flt 4613937818241073152) = some (.flt (Float64.div q 4613937818241073152)) := fun q => by simp only [binV]; rw [if_neg z3]
  have c7 : ∀ q r, binV .Add (.flt q) (.flt r) = some (.flt (Float64.add q r)) := fun _ _ => rfl
  have c8 : ∀ (a b : Int), binV .Sub (.int a) (.int b) = some (.int (a - b)) := fun _ _ => rfl
  have c9 : ∀ (a b : Int), binV .Add (.int a) (.int b) = some (.int (a + b)) := fun _ _ => rfl
  refine Ex.seq (σ1 := σ5.set "num_sim" (.flt (numSim p u))) ?_ ?_
  · simp only [r2, f10, Option.bind_some, c1, c2]; rfl
  refine Ex.seq (σ1 := (σ5.set "num_sim" (.flt (numSim p u))).set "weight" (.flt (Float64.add (Float64.div (numSim p u) (Float64.ofInt (s.length : Int))) (Float64.div (numSim p u) (Float64.ofInt (t.length : Int)))))) ?_ ?_
  · simp only [set_get, reduceIte, String.reduceEq, f3, f4, Option.bind_some, c3, c4, c7]; rfl
  refine Ex.seq (σ1 := ((σ5.set "num_sim" (.flt (numSim p u))).set "weight" (.flt (Float64.add (Float64.div (numSim p u) (Float64.ofInt (s.length : Int))) (Float64.div (numSim p u) (Float64.ofInt (t.length : Int)))))).set "weight" (.flt (Float64.add (Float64.add (Float64.div (numSim p u) (Float64.ofInt (s.length : Int))) (Float64.div (numSim p u) (Float64.ofInt (t.length : Int)))) (Float64.ofFrac (decide (((p : Int) - tr) < 0) != decide ((p : Int) < 0)) ((p : Int) - tr).natAbs ((p : Int)).natAbs)))) ?_ ?_
  · simp only [set_get, reduceIte, String.reduceEq, f10, f11, Option.bind_some, c8, c5, iaddV]; rfl
  refine Ex.seq (σ1 := (((σ5.set "num_sim" (.flt (numSim p u))).set "weight" (.flt (Float64.add (Float64.div (numSim p u) (Float64.ofInt (s.length : Int))) (Float64.div (numSim p u) (Float64.ofInt (t.length : Int)))))).set "weight" (.flt (Float64.add (Float64.add (Float64.div (numSim p u) (Float64.ofInt (s.length : Int))) (Float64.div (numSim p u) (Float64.ofInt (t.length : Int)))) (Float64.ofFrac (decide (((p : Int) - tr) < 0) != decide ((p : Int) < 0)) ((p : Int) - tr).natAbs ((p : Int)).natAbs)))).set "weight" (.flt (wgt0 s.length t.length p u tr))) ?_ ?_
  · simp only [set_get, reduceIte, String.reduceEq, Option.bind_some, c6]; rfl
  unfold callF
  generalize hσ : (((σ5.set "num_sim" (.flt (numSim p u))).set "weight" (.flt (Float64.add (Float64.div (numSim p u) (Float64.ofInt (s.length : Int))) (Float64.div (numSim p u) (Float64.ofInt (t.length : Int)))))).set "weight" (.flt (Float64.add (Float64.add (Float64.div (numSim p u) (Float64.ofInt (s.length : Int))) (Float64.div (numSim p u) (Float64.ofInt (t.length : Int)))) (Float64.ofFrac (decide (((p : Int) - tr) < 0) != decide ((p : Int) < 0)) ((p : Int) - tr).natAbs ((p : Int)).natAbs)))).set "weight" (.flt (wgt0 s.length t.length p u tr)) = σ6
  have k1 : σ6 "s1" = some (.str s) := by subst hσ; simp [set_get, f1]
  have k2 : σ6 "s2" = some (.str t) := by subst hσ; simp [set_get, f2]
  have k3 : σ6 "len_s1" = some (.int s.length) := by subst hσ; simp [set_get, f3]
  have k4 : σ6 "len_s2" = some (.int t.length) := by subst hσ; simp [set_get, f4]
  have k5 : σ6 "self" = some (.obj (.ref x)) := by subst hσ; simp [set_get, f5]
  have k7 : σ6 "minv" = some (.int (shortOf s t : Nat)) := by subst hσ; simp [set_get, f7]
  have k10 : σ6 "num_com" = some (.int (p : Nat)) := by subst hσ; simp [set_get, f10]
  have k11 : σ6 "weight" = some (.flt (wgt0 s.length t.length p u tr)) := by subst hσ; simp [set_get]
  clear hσ f1 f2 f3 f4 f5 f7 f10 f11 r2 σ5 c1 c2 c3 c4 c5 c6
  generalize wgt0 s.length t.length p u tr = w0 at k11 ⊢
  have h7 : cmpV .LtE (.flt w0) (.flt 4604480259023595110) = some (atMost7 w0) := rfl
  cases hle : atMost7 w0 with
  | true =>
    rw [hle] at h7
    exact Ex.stop (Ex.iteT (by simp only [k11, Option.bind_some, h7]) (Ex.of (σ1 := σ6) (fl := .ret (.flt w0)) (by simp [set_get, seqS, k11]) ⟨(fun q => nomatch q), rfl⟩))
  | false =>
  rw [hle] at h7
  refine Ex.seqN (Q := fun σ' fl => fl = .next ∧ σ' = σ6) (Ex.iteF (by simp only [k11, Option.bind_some, h7]) (Ex.skip ⟨rfl, rfl⟩)) fun σ' fl q => ⟨q.1, ?_⟩
  rw [q.2]
  clear q
  have hlim : (if (4 : Int) < ((shortOf s t : Nat) : Int) then (4 : Int) else ((shortOf s t : Nat) : Int)) = ((min (shortOf s t) 4 : Nat) : Int) := by split <;> omega
  refine Ex.seq (σ1 := σ6.set "j" (.int (min (shortOf s t) 4 : Nat))) ?_ ?_
  · simp only [seqE, k7, Option.bind_some, Option.map_some, minV, hlim]; rfl
  refine Ex.seq (σ1 := (σ6.set "j" (.int (min (shortOf s t) 4 : Nat))).set "i" (.int (0 : Nat))) (by simp [set_get, PV.imm, PV.flat, PV.atom, FlatOk]) ?_
  refine Ex.seqN (Q := fun σ' fl => fl = .next ∧ (∀ z, z ≠ "i" → z ≠ "j" → z ≠ "sc1" → z ≠ "sc2" → σ' z = σ6 z) ∧ σ' "i" = some (.int ((reck s t b).same : Nat))) ?_ ?_
  · have hzl : (zipL s t).length = shortOf s t := by simp [set_get, zipL, shortOf]
    have hzi : ∀ k (hk : k < (zipL s t).length), (zipL s t)[k] = .tup [.str (chr s k), .str (chr t k)] := by intro k hk; simp [set_get, zipL]
    apply Ex.loop (l := zipL s t)
    · simp only [set_get, reduceIte, String.reduceEq, k1, k2, Option.bind_some]; rfl
    rw [hsame]
    refine (loop_brk (zipL s t) (fun k σ' => (∀ z, z ≠ "i" → z ≠ "j" → z ≠ "sc1" → z ≠ "sc2" → σ' z = σ6 z) ∧ σ' "j" = some (.int (min (shortOf s t) 4 : Nat)) ∧ σ' "i" = some (.int (k : Nat)) ∧ goodTo s t (min (shortOf s t) 4) k)
      (fun σ' => (∀ z, z ≠ "i" → z ≠ "j" → z ≠ "sc1" → z ≠ "sc2" → σ' z = σ6 z) ∧ ∃ k : Nat, σ' "i" = some (.int (k : Nat)) ∧ goodTo s t (min (shortOf s t) 4) k ∧ ¬ (k < min (shortOf s t) 4 ∧ ch s k = ch t k ∧ isDig (ch s k) = false)) ?_
      (σ := (σ6.set "j" (.int (min (shortOf s t) 4 : Nat))).set "i" (.int (0 : Nat))) ⟨fun z z1 z2 z3 z4 => by simp [set_get, z1, z2], by simp [set_get], by simp [set_get], fun j hj => absurd hj (Nat.not_lt_zero _)⟩).elim fun σ' h => ⟨σ', h.1, rfl, ?_⟩
    · rintro k hk σ7 ⟨r1, r2, r3, r4⟩
      rw [hzi k hk]
      rw [hzl] at hk
      have hks : k < s.length := by unfold shortOf at hk; omega
      have hkt : k < t.length := by unfold shortOf at hk; omega
      refine ⟨(σ7.set "sc1" (.str (chr s k))).set "sc2" (.str (chr t k)), by simp [set_get, bind2, PV.imm, PV.flat, PV.atom, FlatOk], ?_⟩
      have q1 : ((σ7.set "sc1" (.str (chr s k))).set "sc2" (.str (chr t k))) "i" = some (.int (k : Nat)) := by simp [set_get, r3]
      have q2 : ((σ7.set "sc1" (.str (chr s k))).set "sc2" (.str (chr t k))) "j" = some (.int (min (shortOf s t) 4 : Nat)) := by simp [set_get, r2]
      have q3 : ((σ7.set "sc1" (.str (chr s k))).set "sc2" (.str (chr t k))) "sc1" = some (.str (chr s k)) := by simp [set_get]
      have q4 : ((σ7.set "sc1" (.str (chr s k))).set "sc2" (.str (chr t k))) "sc2" = some (.str (chr t k)) := by simp [set_get]
      have q5 : ∀ z, z ≠ "i" → z ≠ "j" → z ≠ "sc1" → z ≠ "sc2" → ((σ7.set "sc1" (.str (chr s k))).set "sc2" (.str (chr t k))) z = σ6 z := fun z z1 z2 z3 z4 => by simp [set_get, z3, z4, r1 z z1 z2 z3 z4]
      generalize (σ7.set "sc1" (.str (chr s k))).set "sc2" (.str (chr t k)) = σ8 at q1 q2 q3 q4 q5 ⊢
      have hdg := dg k hks
      by_cases hl : k < min (shortOf s t) 4
      · have hl' : ¬ ((min (shortOf s t) 4 : Nat) : Int) ≤ (k : Int) := by omega
        refine Ex.seqN (Q := fun σ' fl => fl = .next ∧ σ' = σ8) (Ex.iteF ?_ (Ex.skip ⟨rfl, rfl⟩)) fun σ' fl q => ⟨q.1, ?_⟩
        · simp only [q1, q2, Option.bind_some, cmpV, decide_eq_false hl']
        rw [q.2]; clear q
        by_cases hc : ch s k = ch t k
        · refine Ex.seqN (Q := fun σ' fl => fl = .next ∧ σ' = σ8) (Ex.iteF ?_ (Ex.skip ⟨rfl, rfl⟩)) fun σ' fl q => ⟨q.1, ?_⟩
          · simp only [q3, q4, Option.bind_some, cmpV]
            rw [show (chr s k != chr t k) = !(chr s k == chr t k) from rfl, chr_beq, hc]; simp [set_get]
          rw [q.2]; clear q
          cases hd : isDig (ch s k) with
          | true =>
            rw [hd] at hdg
            refine Ex.stop (Ex.iteT ?_ (Ex.of (σ1 := σ8) (fl := .brk) rfl ⟨(fun q => nomatch q), .inr ⟨rfl, q5, k, q1, r4, fun q => by rw [hd] at q; exact absurd q.2.2 (by decide)⟩⟩))
            simp only [q3, Option.bind_some, isdigitV, hdg, truthV]
          | false =>
            rw [hd] at hdg
            refine Ex.seqN (Q := fun σ' fl => fl = .next ∧ σ' = σ8) (Ex.iteF ?_ (Ex.skip ⟨rfl, rfl⟩)) fun σ' fl q => ⟨q.1, ?_⟩
            · simp only [q3, Option.bind_some, isdigitV, hdg, truthV]
            rw [q.2]; clear q
            refine Ex.seq (σ1 := σ8.set "i" (.int (k + 1 : Nat))) (by simp [set_get, q1, iaddV, PV.imm, PV.flat, PV.atom, FlatOk]) (Ex.skip (.inl ⟨.inl rfl, fun z z1 z2 z3 z4 => by simp [set_get, z1, q5 z z1 z2 z3 z4], by simp [set_get, q2], by simp [set_get], fun j hj => ?_⟩))
            by_cases hjk : j = k
            · subst hjk; exact ⟨hl, hc, hd⟩
            · exact r4 j (by omega)
        · refine Ex.stop (Ex.iteT ?_ (Ex.of (σ1 := σ8) (fl := .brk) rfl ⟨(fun q => nomatch q), .inr ⟨rfl, q5, k, q1, r4, fun q => hc q.2.1⟩⟩))
          simp only [q3, q4, Option.bind_some, cmpV]
          rw [show (chr s k != chr t k) = !(chr s k == chr t k) from rfl, chr_beq]; simp only [beq_eq_false_iff_ne.mpr hc]; rfl
      · have hl' : ((min (shortOf s t) 4 : Nat) : Int) ≤ (k : Int) := by omega
        refine Ex.stop (Ex.iteT ?_ (Ex.of (σ1 := σ8) (fl := .brk) rfl ⟨(fun q => nomatch q), .inr ⟨rfl, q5, k, q1, r4, fun q => hl q.1⟩⟩))
        simp only [q1, q2, Option.bind_some, cmpV, decide_eq_true hl']
    · rcases h.2 with ⟨r1, r2, r3, r4⟩ | ⟨r1, k, r3, r4, r5⟩
      · refine ⟨r1, ?_⟩
        rw [hzl] at r3 r4
        have hq := same_unique (Nat.min_le_right _ _) r4 (fun q => by have := q.1; omega)
        exact r3.trans (congrArg (fun q : Nat => some (PV.int (q : Int))) hq)
      · refine ⟨r1, ?_⟩
        exact r3.trans (congrArg (fun q : Nat => some (PV.int (q : Int))) (same_unique (Nat.min_le_right _ _) r4 r5))
  rintro σ7 fl ⟨rfl, r1, r2⟩
  refine ⟨rfl, ?_⟩
  have f1 : σ7 "s1" = some (.str s) := by rw [r1 _ (by decide) (by decide) (by decide) (by decide)]; exact k1
  have f3 : σ7 "len_s1" = some (.int s.length) := by rw [r1 _ (by decide) (by decide) (by decide) (by decide)]; exact k3
  have f4 : σ7 "len_s2" = some (.int t.length) := by rw [r1 _ (by decide) (by decide) (by decide) (by decide)]; exact k4
  have f5 : σ7 "self" = some (.obj (.ref x)) := by rw [r1 _ (by decide) (by decide) (by decide) (by decide)]; exact k5
  have f7 : σ7 "minv" = some (.int (shortOf s t : Nat)) := by rw [r1 _ (by decide) (by decide) (by decide) (by decide)]; exact k7
  have f10 : σ7 "num_com" = some (.int (p : Nat)) := by rw [r1 _ (by decide) (by decide) (by decide) (by decide)]; exact k10
  have f11 : σ7 "weight" = some (.flt w0) := by rw [r1 _ (by decide) (by decide) (by decide) (by decide)]; exact k11
  clear k1 k2 k3 k4 k5 k7 k10 k11 r1 σ6 hsame
  have ss : Small ((reck s t b).same : Int) := by show ((reck s t b).same : Int).natAbs < _; omega
  generalize (reck s t b).same = same at *
  generalize hlg : (reck s t b).long = long at *
  refine Ex.seqN (Q := fun σ' fl => fl = .next ∧ (∀ z, z ≠ "weight" → σ' z = σ7 z) ∧ σ' "weight" = some (.flt (wgt1 w0 same))) ?_ ?_
  · unfold wgt1
    by_cases h0 : same = 0
    · rw [if_pos h0]
      refine Ex.iteF ?_ (Ex.skip ⟨rfl, fun _ _ => rfl, f11⟩)
      simp [set_get, r2, truthV, h0]
    · rw [if_neg h0]
      refine Ex.iteT ?_ (Ex.of (σ1 := σ7.set "weight" (.flt (Float64.add w0 (Float64.mul (Float64.mul (Float64.ofInt (same : Int)) 4591870180066957722) (Float64.sub 4607182418800017408 w0))))) (fl := .next) ?_ ⟨rfl, fun z hz => by simp [set_get, hz], by simp [set_get]⟩)
      · have : ¬ (same : Int) = 0 := by omega
        simp [set_get, r2, truthV, h0]
      · simp only [seqS, skipS, f11, r2, Option.bind_some, binV]
        rw [if_pos ss]
        rfl
  rintro σ8 fl ⟨rfl, r3, r4⟩
  refine ⟨rfl, ?_⟩
  have k1 : σ8 "s1" = some (.str s) := by rw [r3 _ (by decide)]; exact f1
  have k3 : σ8 "len_s1" = some (.int s.length) := by rw [r3 _ (by decide)]; exact f3
  have k4 : σ8 "len_s2" = some (.int t.length) := by rw [r3 _ (by decide)]; exact f4
  have k5 : σ8 "self" = some (.obj (.ref x)) := by rw [r3 _ (by decide)]; exact f5
  have k7 : σ8 "minv" = some (.int (shortOf s t : Nat)) := by rw [r3 _ (by decide)]; exact f7
  have k10 : σ8 "num_com" = some (.int (p : Nat)) := by rw [r3 _ (by decide)]; exact f10
  have k12 : σ8 "i" = some (.int (same : Nat)) := by rw [r3 _ (by decide)]; exact r2
  clear f1 f3 f4 f5 f7 f10 f11 r2 r3 σ7
  generalize wgt1 w0 same = w1 at r4 ⊢
  have stop : ∀ (v : PV), (σ8 "weight") = some v → Ex (seqS (fun σ => Option.map (fun v => (σ, Fl.ret v)) (σ "weight")) skipS) σ8 (fun _ fl => fl = .ret v) := fun v hv => Ex.ret (σ1 := σ8) (v := v) (by simp [set_get, hv]) rfl
  have hfalse : long = false → (if false = true then w0 else if long = true then wgt2 w1 s.length t.length p same else w1) = w1 := fun h => by rw [h]; rfl
  have fin : long = false → Ex (seqS (fun σ => Option.map (fun v => (σ, Fl.ret v)) (σ "weight")) skipS) σ8 (fun _ fl => fl ≠ .next ∧ fl = .ret (.flt (if false = true then w0 else if long = true then wgt2 w1 s.length t.length p same else w1))) := fun h => by
    rw [hfalse h]; exact (stop _ r4).mono fun _ _ q => ⟨(by rw [q]; exact (fun q => nomatch q)), q⟩
  cases b with
  | false =>
    exact Ex.stop (Ex.iteT (by simp only [k5, reduceIte, Option.bind_some, truthV, Option.map_some]; rfl) (fin (by rw [hlong]; rfl)))
  | true =>
  refine Ex.seqN (Q := fun σ' fl => fl = .next ∧ σ' = σ8) (Ex.iteF (by simp only [k5, reduceIte, Option.bind_some, truthV, Option.map_some]; rfl) (Ex.skip ⟨rfl, rfl⟩)) fun σ' fl q => ⟨q.1, ?_⟩
  rw [q.2]; clear q
  by_cases hsh : shortOf s t > 4
  · have hsh' : ¬ ((shortOf s t : Nat) : Int) ≤ 4 := by omega
    refine Ex.seqN (Q := fun σ' fl => fl = .next ∧ σ' = σ8) (Ex.iteF (by simp only [k7, Option.bind_some, cmpV, decide_eq_false hsh']) (Ex.skip ⟨rfl, rfl⟩)) fun σ' fl q => ⟨q.1, ?_⟩
    rw [q.2]; clear q
    have e2p : binV .Mult (.int 2) (.int (p : Nat)) = some (.int (2 * (p : Int))) := by simp only [binV]; rw [if_pos (by decide)]
    have hor : orT [fun σ => Option.bind (σ "num_com") fun a => Option.bind (Option.bind (σ "i") fun a => Option.bind (some (PV.int 1)) fun b => binV Operator.Add a b) fun b => cmpV CmpOp.LtE a b,
        fun σ => Option.bind (Option.bind (some (PV.int 2)) fun a => Option.bind (σ "num_com") fun b => binV Operator.Mult a b) fun a => Option.bind (Option.bind (σ "minv") fun a => Option.bind (σ "i") fun b => binV Operator.Add a b) fun b => cmpV CmpOp.Lt a b] σ8 = some (!(decide (p > same + 1) && decide (2 * p ≥ shortOf s t + same))) := by
      simp only [orT, k7, k10, k12, Option.bind_some, c9, e2p, cmpV]
      have d1 : decide ((p : Int) ≤ (same : Int) + 1) = !decide (p > same + 1) := by rw [← decide_not]; exact decide_eq_decide.mpr (by omega)
      have d2 : decide (2 * (p : Int) < ((shortOf s t : Nat) : Int) + (same : Int)) = !decide (2 * p ≥ shortOf s t + same) := by rw [← decide_not]; exact decide_eq_decide.mpr (by omega)
      rw [d1, d2]
      cases decide (p > same + 1) <;> cases decide (2 * p ≥ shortOf s t + same) <;> rfl
    cases hpq : (decide (p > same + 1) && decide (2 * p ≥ shortOf s t + same)) with
    | false =>
      rw [hpq] at hor
      refine Ex.stop (Ex.iteT hor (fin ?_))
      rw [hlong, Bool.and_assoc (true && decide (shortOf s t > 4)), hpq]
      simp [set_get]
    | true =>
    rw [hpq] at hor
    refine Ex.seqN (Q := fun σ' fl => fl = .next ∧ σ' = σ8) (Ex.iteF hor (Ex.skip ⟨rfl, rfl⟩)) fun σ' fl q => ⟨q.1, ?_⟩
    rw [q.2]; clear q
    have e0 : subV (.str s) (.int 0) = some (.str (chr s 0)) := subV_str (x := s) (i := 0) s0 a1
    have hdg := dg 0 s0
    cases hd : isDig (ch s 0) with
    | true =>
      rw [hd] at hdg
      refine Ex.stop (Ex.iteT (by simp only [k1, Option.bind_some, e0, isdigitV, hdg, truthV]) (fin ?_))
      rw [hlong, hd]; simp [set_get]
    | false =>
    rw [hd] at hdg
    refine Ex.seqN (Q := fun σ' fl => fl = .next ∧ σ' = σ8) (Ex.iteF (by simp only [k1, Option.bind_some, e0, isdigitV, hdg, truthV]) (Ex.skip ⟨rfl, rfl⟩)) fun σ' fl q => ⟨q.1, ?_⟩
    rw [q.2]; clear q
    have hlt : long = true := by
      rw [hlong, Bool.and_assoc (true && decide (shortOf s t > 4)), hpq, hd, decide_eq_true hsh]; rfl
    have bs2 : 2 * same + 2 ≤ s.length + t.length + 2 := by
      simp only [Bool.and_eq_true, decide_eq_true_eq] at hpq
      unfold shortOf at hsh
      omega
    have sd : Small ((p : Int) - (same : Int) - 1) := by show ((p : Int) - (same : Int) - 1).natAbs < _; omega
    have nz : ((s.length : Int) + (t.length : Int) - (same : Int) * 2 + 2) ≠ 0 := by omega
    have e3 : binV .Mult (.int (same : Nat)) (.int 2) = some (.int ((same : Int) * 2)) := by simp only [binV]; rw [if_pos ss]
    have e4 : binV .Div (.int ((p : Int) - (same : Int) - 1)) (.int ((s.length : Int) + (t.length : Int) - (same : Int) * 2 + 2)) = some (.flt (Float64.ofFrac (decide (((p : Int) - same - 1) < 0) != decide (((s.length : Int) + t.length - (same : Int) * 2 + 2) < 0)) ((p : Int) - same - 1).natAbs ((s.length : Int) + t.length - (same : Int) * 2 + 2).natAbs)) := by
      simp only [binV]; rw [if_pos ⟨sd, nz⟩]
    refine Ex.seq (σ1 := σ8.set "res" (.flt (Float64.ofFrac (decide (((p : Int) - same - 1) < 0) != decide (((s.length : Int) + t.length - (same : Int) * 2 + 2) < 0)) ((p : Int) - same - 1).natAbs ((s.length : Int) + t.length - (same : Int) * 2 + 2).natAbs))) ?_ ?_
    · simp only [k3, k4, k10, k12, Option.bind_some, c8, c9, e3, e4]; rfl
    refine Ex.seq (σ1 := (σ8.set "res" (.flt (Float64.ofFrac (decide (((p : Int) - same - 1) < 0) != decide (((s.length : Int) + t.length - (same : Int) * 2 + 2) < 0)) ((p : Int) - same - 1).natAbs ((s.length : Int) + t.length - (same : Int) * 2 + 2).natAbs))).set "weight" (.flt (wgt2 w1 s.length t.length p same))) ?_ ?_
    · simp only [set_get, reduceIte, String.reduceEq, r4, Option.bind_some, binV, iaddV]; rfl
    refine Ex.ret (σ1 := (σ8.set "res" (.flt (Float64.ofFrac (decide (((p : Int) - same - 1) < 0) != decide (((s.length : Int) + t.length - (same : Int) * 2 + 2) < 0)) ((p : Int) - same - 1).natAbs ((s.length : Int) + t.length - (same : Int) * 2 + 2).natAbs))).set "weight" (.flt (wgt2 w1 s.length t.length p same))) (v := .flt (wgt2 w1 s.length t.length p same)) (by simp [set_get]) ?_
    rw [hlt]; rfl
  · have hsh' : ((shortOf s t : Nat) : Int) ≤ 4 := by omega
    exact Ex.stop (Ex.iteT (by simp only [k7, Option.bind_some, cmpV, decide_eq_true hsh']) (fin (by rw [hlong, decide_eq_false hsh]; rfl)))
end
section
open PySem PySem.Spec PySem.Calls PyProof.Rows PySem.W
set_option maxRecDepth 100000
set_option maxHeartbeats 8000000
def callA (s t : Str) (b : Bool) : PV := if s = t then .int 1 else if s.length = 0 ∨ t.length = 0 then .int 0 else if (reck s t b).p = 0 then .flt 0 else .flt (callF s.length t.length (reck s t b).p (reck s t b).u (reck s t b).t (reck s t b).same (reck s t b).long)
theorem callA_atom (s t : Str) (b : Bool) : (callA s t b).atom = true := by
  unfold callA
  split
  · rfl
  · split
    · rfl
    · split <;> rfl
theorem quick_eq {s t : Str} (ls : s.length < 1000) (lt : t.length < 1000) : quickSpec [.str s, .str t] = some (if s = t then .int 1 else if s.length = 0 ∨ t.length = 0 then .int 0 else .none) := by
  show (if s.length < 1000 ∧ t.length < 1000 then some _ else none) = _
  rw [if_pos ⟨ls, lt⟩]
theorem pre_next (w : World) (x : Addr) (b : Bool) (one other s t : Str) (h1 : (stripV (.str one)).bind upperV = some (.str s)) (h2 : (stripV (.str other)).bind upperV = some (.str t)) (ls : s.length < 1000) (lt : t.length < 1000)
    (hst : s ≠ t) (hs : s.length ≠ 0) (ht : t.length ≠ 0) (σ : Store) (g1 : σ "self" = some (.obj (.ref x))) (g2 : σ "s1" = some (.str one)) (g3 : σ "s2" = some (.str other)) (g4 : σ "c1" = none) (g5 : σ "c2" = none) :
    Ex (callPre w x b).1 σ (fun σ' fl => fl = .next ∧ callCond x σ' ∧ σ' "s1" = some (.str s) ∧ σ' "s2" = some (.str t) ∧ σ' "len_s1" = some (.int s.length) ∧ σ' "len_s2" = some (.int t.length)) := by
  unfold callPre
  dsimp only
  refine Ex.seq (σ1 := σ.set "s1" (.str s)) (by simp only [g2, Option.bind_some, h1]; rfl) ?_
  refine Ex.seq (σ1 := (σ.set "s1" (.str s)).set "s2" (.str t)) (by simp only [set_get, reduceIte, String.reduceEq, g3, Option.bind_some, h2]; rfl) ?_
  have hq : quickSpec [.str s, .str t] = some .none := by
    rw [quick_eq ls lt, if_neg hst, if_neg (fun q => q.elim hs ht)]
  refine Ex.seq (σ1 := ((σ.set "s1" (.str s)).set "s2" (.str t)).set "result" .none) (by simp only [set_get, reduceIte, String.reduceEq, g1, seqE, Option.bind_some, Option.map_some, hq]; rfl) ?_
  refine Ex.seq (σ1 := ((σ.set "s1" (.str s)).set "s2" (.str t)).set "result" .none) (by simp [set_get, cmpV, skipS]) ?_
  refine Ex.seq (σ1 := (((σ.set "s1" (.str s)).set "s2" (.str t)).set "result" .none).set "len_s1" (.int s.length)) (by simp [set_get, seqE, lenV, ls, PV.imm, PV.flat, PV.atom, FlatOk]) ?_
  refine Ex.seq (σ1 := ((((σ.set "s1" (.str s)).set "s2" (.str t)).set "result" .none).set "len_s1" (.int s.length)).set "len_s2" (.int t.length)) (by simp [set_get, seqE, lenV, lt, PV.imm, PV.flat, PV.atom, FlatOk]) ?_
  exact Ex.skip ⟨rfl, ⟨by simp [set_get, g1], by simp [set_get, g4], by simp [set_get, g5]⟩, by simp [set_get], by simp [set_get], by simp [set_get], by simp [set_get]⟩
theorem pre_ret (w : World) (x : Addr) (b : Bool) (one other s t : Str) (h1 : (stripV (.str one)).bind upperV = some (.str s)) (h2 : (stripV (.str other)).bind upperV = some (.str t)) (ls : s.length < 1000) (lt : t.length < 1000)
    (i : Int) (hq : quickSpec [.str s, .str t] = some (.int i)) (σ : Store) (g1 : σ "self" = some (.obj (.ref x))) (g2 : σ "s1" = some (.str one)) (g3 : σ "s2" = some (.str other)) :
    Ex (callPre w x b).1 σ (fun _ fl => fl = .ret (.int i)) := by
  unfold callPre
  dsimp only
  refine Ex.seq (σ1 := σ.set "s1" (.str s)) (by simp only [g2, Option.bind_some, h1]; rfl) ?_
  refine Ex.seq (σ1 := (σ.set "s1" (.str s)).set "s2" (.str t)) (by simp only [set_get, reduceIte, String.reduceEq, g3, Option.bind_some, h2]; rfl) ?_
  refine Ex.seq (σ1 := ((σ.set "s1" (.str s)).set "s2" (.str t)).set "result" (.int i)) (by simp only [set_get, reduceIte, String.reduceEq, g1, seqE, Option.bind_some, Option.map_some, hq]; rfl) ?_
  exact Ex.ret (σ1 := ((σ.set "s1" (.str s)).set "s2" (.str t)).set "result" (.int i)) (v := .int i) (by simp [set_get, cmpV, seqS]) rfl
theorem call_read (w : World) (x : Addr) (b : Bool) (one other s t : Str) (h1 : (stripV (.str one)).bind upperV = some (.str s)) (h2 : (stripV (.str other)).bind upperV = some (.str t)) (ls : s.length < 1000) (lt : t.length < 1000)
    (O : s ≠ t → s.length ≠ 0 → t.length ≠ 0 → TextOk s t) : callSpec w x b [.str one, .str other] = some (callA s t b) := by
  have hret : ∃ σ', callDen w x b (setAll (fun _ => none) ["self", "s1", "s2"] [.obj (.ref x), .str one, .str other]) = some (σ', .ret (callA s t b)) := by
    have g1 : (setAll (fun _ => none) ["self", "s1", "s2"] [.obj (.ref x), .str one, .str other]) "self" = some (.obj (.ref x)) := by simp [set_get, setAll]
    have g2 : (setAll (fun _ => none) ["self", "s1", "s2"] [.obj (.ref x), .str one, .str other]) "s1" = some (.str one) := by simp [set_get, setAll]
    have g3 : (setAll (fun _ => none) ["self", "s1", "s2"] [.obj (.ref x), .str one, .str other]) "s2" = some (.str other) := by simp [set_get, setAll]
    have g4 : (setAll (fun _ => none) ["self", "s1", "s2"] [.obj (.ref x), .str one, .str other]) "c1" = none := by simp [set_get, setAll]
    have g5 : (setAll (fun _ => none) ["self", "s1", "s2"] [.obj (.ref x), .str one, .str other]) "c2" = none := by simp [set_get, setAll]
    generalize setAll (fun _ => none) ["self", "s1", "s2"] [.obj (.ref x), .str one, .str other] = σ at *
    by_cases hq : s = t ∨ s.length = 0 ∨ t.length = 0
    · have : ∃ i, quickSpec [.str s, .str t] = some (.int i) ∧ callA s t b = .int i := by
        unfold callA
        rw [quick_eq ls lt]
        by_cases hst : s = t
        · exact ⟨1, by rw [if_pos hst], by rw [if_pos hst]⟩
        · have h0 := hq.resolve_left hst
          exact ⟨0, by rw [if_neg hst, if_pos h0], by rw [if_neg hst, if_pos h0]⟩
      obtain ⟨i, hi, ha⟩ := this
      obtain ⟨σ', fl, e, rfl⟩ := pre_ret w x b one other s t h1 h2 ls lt i hi σ g1 g2 g3
      refine ⟨fun _ => none, ?_⟩
      unfold callDen joinD
      rw [e, ha]
    · have hst : s ≠ t := fun q => hq (.inl q)
      have hs : s.length ≠ 0 := fun q => hq (.inr (.inl q))
      have ht : t.length ≠ 0 := fun q => hq (.inr (.inr q))
      obtain ⟨σ1, fl, e, rfl, c, q1, q2, q3, q4⟩ := pre_next w x b one other s t h1 h2 ls lt hst hs ht σ g1 g2 g3 g4 g5
      have hd : ∀ d : Addr, ∃ σ', (callSuf w x b d (pairTab spPairs)).1 (σ1.set "adjwt" (.obj (.ref d))) = some (σ', .ret (callA s t b)) := by
        intro d
        obtain ⟨σ', fl, e, r⟩ := suf_ret w x b d s t (O hst hs ht) (σ1.set "adjwt" (.obj (.ref d))) (by simp [set_get, q1]) (by simp [set_get, q2]) (by simp [set_get, q3]) (by simp [set_get, q4]) (by simp [set_get, c.1]) (by simp [set_get])
        refine ⟨σ', ?_⟩
        have ha : callA s t b = if (reck s t b).p = 0 then .flt 0 else .flt (callF s.length t.length (reck s t b).p (reck s t b).u (reck s t b).t (reck s t b).same (reck s t b).long) := by
          unfold callA
          rw [if_neg hst, if_neg (fun q : s.length = 0 ∨ t.length = 0 => q.elim hs ht)]
        rw [e, r, ha]
      have hc : callCond x σ1 ∧ ∃ r, ∀ d, ∃ σ', (callSuf w x b d (pairTab spPairs)).1 (σ1.set "adjwt" (.obj (.ref d))) = some (σ', .ret r) := ⟨c, _, hd⟩
      refine ⟨fun _ => none, ?_⟩
      unfold callDen joinD
      rw [e]
      dsimp only
      rw [dif_pos hc]
      obtain ⟨σ2, e2⟩ := hc.2.choose_spec (0 : Nat)
      obtain ⟨σ3, e3⟩ := hd (0 : Nat)
      rw [e2] at e3
      have := (Prod.mk.inj (Option.some.inj e3)).2
      rw [Fl.ret.inj this]
  obtain ⟨σ', e⟩ := hret
  show retOf (callDen w x b) _ _ = _
  unfold retOf
  rw [e]
  exact if_pos (callA_atom s t b)
end
section
open PySem
set_option maxRecDepth 100000
set_option maxHeartbeats 2000000
open PySem.Float64 (decode val V sgn Right)

/-! figures near to what they should be -/
def close (a b d : Rat) : Prop := a - b ≤ d ∧ b - a ≤ d
def PP : Nat := 2 ^ 1021
theorem PP_pos : 0 < PP := Nat.two_pow_pos _
theorem S_eq : (2 : Nat) ^ 1074 = 2 ^ 53 * PP := by unfold PP; rw [← Nat.pow_add]
theorem over_eq : ∃ c : Nat, (2 ^ 54 - 1) * 2 ^ 2045 = c * PP ∧ 2 ^ 200 < c := ⟨(2 ^ 54 - 1) * 2 ^ 1024, by unfold PP; rw [Nat.mul_assoc, ← Nat.pow_add], by decide +kernel⟩
def SSr : Rat := ((2 ^ 53 * PP : Nat) : Rat)
theorem SSr_eq : SSr = 9007199254740992 * (PP : Rat) := by unfold SSr; rw [Rat.natCast_mul]; rfl
theorem PPr_pos : (0 : Rat) < (PP : Rat) := by exact_mod_cast PP_pos
theorem SSr_pos : 0 < SSr := by rw [SSr_eq]; have := PPr_pos; grind
/-- a finite figure and its worth -/
def FV (x : UInt64) (v : Rat) : Prop := ∃ a m e, decode x = .fin a m e ∧ ((val x : Int) : Rat) = v * SSr

/-- what rounding does -/
theorem right_close {r : UInt64} {neg : Bool} {W D : Nat} (h : Right r neg W D) (hD : 0 < D) (b : Nat) (hb : b ≤ 100) (hW : W ≤ D * (2 ^ b * (2 ^ 53 * PP))) :
    ∃ m e U, decode r = .fin neg m e ∧ val r = sgn neg U ∧ D * U ≤ W + D * (2 ^ b * PP) ∧ W ≤ D * U + D * (2 ^ b * PP) := by
  obtain ⟨t, rfl, h1, h2, h3⟩ := h
  have hlt : t < PySem.Float64.infMag := by
    rcases Nat.lt_or_ge t PySem.Float64.infMag with q | q
    · exact q
    · have ht : t = PySem.Float64.infMag := Nat.le_antisymm h1 q
      have hov := h2.mp ht
      obtain ⟨c, hc, hc2⟩ := over_eq
      rw [hc] at hov
      have e1 : D * (2 ^ b * (2 ^ 53 * PP)) = (2 ^ b * 2 ^ 53) * (D * PP) := by ac_rfl
      have e2 : D * (c * PP) = c * (D * PP) := by ac_rfl
      rw [e1] at hW
      rw [e2] at hov
      have hDP : 0 < D * PP := Nat.mul_pos hD PP_pos
      have : c * (D * PP) ≤ (2 * (2 ^ b * 2 ^ 53)) * (D * PP) := by rw [Nat.mul_assoc]; omega
      have h5 := Nat.le_of_mul_le_mul_right this hDP
      have h6 : 2 ^ b ≤ 2 ^ 100 := Nat.pow_le_pow_right (by decide) hb
      have h7 : 2 * (2 ^ b * 2 ^ 53) ≤ 2 * (2 ^ 100 * 2 ^ 53) := Nat.mul_le_mul_left _ (Nat.mul_le_mul_right _ h6)
      have h8 : 2 * (2 ^ 100 * 2 ^ 53) < 2 ^ 200 := by decide +kernel
      omega
  obtain ⟨m, e, hd, hv⟩ := PySem.Float64.decode_pack neg hlt
  refine ⟨m, e, V t, hd, PySem.Float64.val_pack neg hlt, ?_⟩
  -- a neighbour
  have repr : ∀ k q : Nat, q ≤ 2 ^ 53 → ∃ t', V t' = q * 2 ^ k := by
    intro k
    induction k with
    | zero => intro q hq; exact ⟨0 * 2 ^ 52 + q, PySem.Float64.V_at hq (.inr rfl)⟩
    | succ k ih =>
      intro q hq
      by_cases hq2 : 2 ^ 52 ≤ q
      · exact ⟨(k + 1) * 2 ^ 52 + q, PySem.Float64.V_at hq (.inl hq2)⟩
      · obtain ⟨t', ht'⟩ := ih (2 * q) (by omega)
        exact ⟨t', by rw [ht', Nat.pow_succ]; ac_rfl⟩
  have hPb : 2 ^ b * PP = 2 ^ (b + 1021) := by unfold PP; rw [Nat.pow_add]
  have hpos : 0 < D * (2 ^ b * PP) := Nat.mul_pos hD (Nat.mul_pos (Nat.two_pow_pos _) PP_pos)
  have hq : W / (D * (2 ^ b * PP)) ≤ 2 ^ 53 := by
    apply Nat.div_le_of_le_mul
    have e1 : D * (2 ^ b * (2 ^ 53 * PP)) = D * (2 ^ b * PP) * 2 ^ 53 := by ac_rfl
    rw [e1] at hW; exact hW
  obtain ⟨t', ht'⟩ := repr (b + 1021) _ hq
  rw [← hPb] at ht'
  have hn := (h3 hlt t').1
  rw [ht'] at hn
  have hdm := Nat.div_add_mod W (D * (2 ^ b * PP))
  have hml := Nat.mod_lt W hpos
  have e2 : D * (W / (D * (2 ^ b * PP)) * (2 ^ b * PP)) = D * (2 ^ b * PP) * (W / (D * (2 ^ b * PP))) := by ac_rfl
  rw [e2] at hn
  unfold PySem.Float64.dist at hn
  generalize D * (2 ^ b * PP) * (W / (D * (2 ^ b * PP))) = X at *
  generalize D * (2 ^ b * PP) = Y at *
  generalize D * V t = Z at *
  omega
theorem close_of {z u : Int} {v : Rat} {b : Nat} (hz : (z : Rat) = v * SSr) (h1 : u - z ≤ 2 ^ b * PP) (h2 : z - u ≤ 2 ^ b * PP) : ∃ r : Rat, (u : Rat) = r * SSr ∧ close r v (2 ^ b / 9007199254740992) := by
  have hS := SSr_pos
  have hSe := SSr_eq
  refine ⟨u / SSr, by grind, ?_⟩
  have c1 : ((u - z : Int) : Rat) ≤ ((2 ^ b * PP : Int) : Rat) := by exact_mod_cast h1
  have c2 : ((z - u : Int) : Rat) ≤ ((2 ^ b * PP : Int) : Rat) := by exact_mod_cast h2
  rw [Rat.intCast_sub] at c1 c2
  have hc : ((2 ^ b * PP : Int) : Rat) = 2 ^ b / 9007199254740992 * SSr := by
    rw [hSe, Rat.intCast_mul, Rat.intCast_pow]
    have : (((PP : Nat) : Int) : Rat) = (PP : Rat) := by rfl
    rw [this]
    have : ((2 : Int) : Rat) = 2 := rfl
    rw [this]
    grind
  rw [hc, hz] at c1 c2
  generalize (2 : Rat) ^ b / 9007199254740992 = d at *
  have hu : (u : Rat) = u / SSr * SSr := by grind
  rw [hu] at c1 c2
  generalize (u : Rat) / SSr = r at *
  constructor
  · false_or_by_contra
    rename_i hc
    have := Rat.mul_lt_mul_of_pos_right (show d < r - v by grind) hS
    grind
  · false_or_by_contra
    rename_i hc
    have := Rat.mul_lt_mul_of_pos_right (show d < v - r by grind) hS
    grind
theorem bound_of {z : Int} {v : Rat} {b : Nat} (hz : (z : Rat) = v * SSr) (h1 : v ≤ 2 ^ b) (h2 : -v ≤ 2 ^ b) : z.natAbs ≤ 2 ^ b * (2 ^ 53 * PP) := by
  have hS := SSr_pos
  have c1 := Rat.mul_le_mul_of_nonneg_right h1 (Rat.le_of_lt hS)
  have c2 := Rat.mul_le_mul_of_nonneg_right h2 (Rat.le_of_lt hS)
  have hc : (2 : Rat) ^ b * SSr = ((2 ^ b * (2 ^ 53 * PP) : Int) : Rat) := by
    unfold SSr
    rw [Rat.intCast_mul, Rat.intCast_pow]
    rfl
  rw [hc] at c1 c2
  have d1 : z ≤ 2 ^ b * (2 ^ 53 * PP) := by
    have : (z : Rat) ≤ ((2 ^ b * (2 ^ 53 * PP) : Int) : Rat) := by rw [hz]; exact c1
    exact_mod_cast this
  have d2 : -z ≤ 2 ^ b * (2 ^ 53 * PP) := by
    have : ((-z : Int) : Rat) ≤ ((2 ^ b * (2 ^ 53 * PP) : Int) : Rat) := by rw [Rat.intCast_neg, hz]; grind
    exact_mod_cast this
  have e : ((2 ^ b * (2 ^ 53 * PP) : Nat) : Int) = 2 ^ b * (2 ^ 53 * (PP : Int)) := by rw [Int.natCast_mul, Int.natCast_mul, Int.natCast_pow, Int.natCast_pow]; rfl
  omega
end
section
open PySem
set_option maxRecDepth 100000
set_option maxHeartbeats 2000000
open PySem.Float64 (decode val V sgn Right)
theorem fv_sum {r : UInt64} {z : Int} {v : Rat} (b : Nat) (hb : b ≤ 100) (hz : (z : Rat) = v * SSr) (h1 : v ≤ 2 ^ b) (h2 : -v ≤ 2 ^ b) (h0 : z = 0 → ∃ a, r = Float64.zero a) (hr : z ≠ 0 → Right r (decide (z < 0)) z.natAbs 1) : ∃ q, FV r q ∧ close q v (2 ^ b / 9007199254740992) := by
  by_cases hz0 : z = 0
  · obtain ⟨a, rfl⟩ := h0 hz0
    obtain ⟨m, e, hd, hv⟩ := PySem.Float64.decode_pack a (t := 0) (by decide)
    have hval : val (Float64.zero a) = 0 := by
      have := PySem.Float64.val_pack a (t := 0) (by decide)
      rw [PySem.Float64.V_zero] at this
      show val (Float64.pack a 0) = 0
      rw [this]; cases a <;> rfl
    obtain ⟨q, hq1, hq2⟩ := close_of (u := val (Float64.zero a)) (b := b) hz (by rw [hval, hz0]; exact Int.mul_nonneg (Int.pow_nonneg (by decide)) (Int.natCast_nonneg _)) (by rw [hval, hz0]; exact Int.mul_nonneg (Int.pow_nonneg (by decide)) (Int.natCast_nonneg _))
    exact ⟨q, ⟨a, m, e, hd, hq1⟩, hq2⟩
  · obtain ⟨m, e, U, hd, hv, c1, c2⟩ := right_close (hr hz0) (by decide) b hb (by rw [Nat.one_mul]; exact bound_of hz h1 h2)
    have e : ((2 ^ b * PP : Nat) : Int) = 2 ^ b * (PP : Int) := by rw [Int.natCast_mul, Int.natCast_pow]; rfl
    have hs : val r - z ≤ 2 ^ b * PP ∧ z - val r ≤ 2 ^ b * PP := by
      rw [hv]
      unfold sgn
      by_cases hneg : z < 0
      · simp only [hneg, decide_true, if_true]; omega
      · simp only [hneg, decide_false, Bool.false_eq_true, if_false]; omega
    obtain ⟨q, hq1, hq2⟩ := close_of hz hs.1 hs.2
    exact ⟨q, ⟨_, _, _, hd, hq1⟩, hq2⟩
theorem fv_add {x y : UInt64} {v w : Rat} (hx : FV x v) (hy : FV y w) (b : Nat) (hb : b ≤ 100) (h1 : v + w ≤ 2 ^ b) (h2 : -(v + w) ≤ 2 ^ b) : ∃ q, FV (Float64.add x y) q ∧ close q (v + w) (2 ^ b / 9007199254740992) := by
  obtain ⟨a, m, e, hd, hv⟩ := hx
  obtain ⟨c, k, f, hd', hv'⟩ := hy
  have R := PySem.Float64.add_right hd hd'
  refine fv_sum (z := val x + val y) b hb (by rw [Rat.intCast_add, hv, hv']; grind) h1 h2 (fun h => ⟨_, R.1 h⟩) R.2
theorem fv_sub {x y : UInt64} {v w : Rat} (hx : FV x v) (hy : FV y w) (b : Nat) (hb : b ≤ 100) (h1 : v - w ≤ 2 ^ b) (h2 : -(v - w) ≤ 2 ^ b) : ∃ q, FV (Float64.sub x y) q ∧ close q (v - w) (2 ^ b / 9007199254740992) := by
  obtain ⟨a, m, e, hd, hv⟩ := hx
  obtain ⟨c, k, f, hd', hv'⟩ := hy
  have R := PySem.Float64.sub_right hd hd'
  refine fv_sum (z := val x - val y) b hb (by rw [Rat.intCast_sub, hv, hv']; grind) h1 h2 (fun h => ⟨_, R.1 h⟩) R.2
theorem natAbs_sgn {x : UInt64} {a : Bool} {m : Nat} {e : Int} (h : decode x = .fin a m e) : val x = sgn a (val x).natAbs := by
  rw [PySem.Float64.val_eq h, PySem.Float64.sgn_natAbs]
theorem ratAbs {z : Int} : ((z.natAbs : Nat) : Rat) = (if z < 0 then -(z : Rat) else (z : Rat)) := by
  split
  · have : ((z.natAbs : Nat) : Int) = -z := by omega
    have h2 : (((z.natAbs : Nat) : Int) : Rat) = ((-z : Int) : Rat) := by rw [this]
    rw [Rat.intCast_neg] at h2; exact h2
  · have : ((z.natAbs : Nat) : Int) = z := by omega
    have h2 : (((z.natAbs : Nat) : Int) : Rat) = ((z : Int) : Rat) := by rw [this]
    exact h2
/-- a quotient of whole numbers, rounded -/
theorem fv_quot {r : UInt64} {neg : Bool} {W D : Nat} (h : Right r neg W D) (hD : 0 < D) {v : Rat} (hv : (W : Rat) = v * (D : Rat) * SSr) (b : Nat) (hb : b ≤ 100) (h1 : v ≤ 2 ^ b) : ∃ q, FV r q ∧ close q (if neg then -v else v) (2 ^ b / 9007199254740992) := by
  have hS := SSr_pos
  have hDr : (0 : Rat) < (D : Rat) := by exact_mod_cast hD
  have hbig : W ≤ D * (2 ^ b * (2 ^ 53 * PP)) := by
    have c1 := Rat.mul_le_mul_of_nonneg_right h1 (Rat.le_of_lt (show 0 < (D : Rat) * SSr from Rat.mul_pos hDr hS))
    have hc : (2 : Rat) ^ b * ((D : Rat) * SSr) = ((D * (2 ^ b * (2 ^ 53 * PP)) : Nat) : Rat) := by
      unfold SSr
      rw [Rat.natCast_mul D, Rat.natCast_mul (2 ^ b), Rat.natCast_pow]
      show (2 : Rat) ^ b * _ = _
      grind
    rw [hc] at c1
    have : (W : Rat) ≤ ((D * (2 ^ b * (2 ^ 53 * PP)) : Nat) : Rat) := by rw [hv]; grind
    exact_mod_cast this
  obtain ⟨m, e, U, hd, hval, c1, c2⟩ := right_close h hD b hb hbig
  -- U is near v * SSr
  have k1 : ((D * U : Nat) : Rat) ≤ ((W + D * (2 ^ b * PP) : Nat) : Rat) := by exact_mod_cast c1
  have k2 : ((W : Nat) : Rat) ≤ ((D * U + D * (2 ^ b * PP) : Nat) : Rat) := by exact_mod_cast c2
  simp only [Rat.natCast_mul, Rat.natCast_add, Rat.natCast_pow] at k1 k2
  have hSe := SSr_eq
  have two : ((2 : Nat) : Rat) = 2 := rfl
  rw [two, hv] at k1 k2
  have e1 : (2 : Rat) ^ b * (PP : Rat) = 2 ^ b / 9007199254740992 * SSr := by rw [hSe]; grind
  rw [e1] at k1 k2
  generalize (2 : Rat) ^ b / 9007199254740992 = d at *
  have hU : (U : Rat) = U / SSr * SSr := by grind
  rw [hU] at k1 k2
  generalize hu : (U : Rat) / SSr = u at *
  have cl : close u v d := by
    have hDS : 0 < (D : Rat) * SSr := Rat.mul_pos hDr hS
    constructor
    · false_or_by_contra
      rename_i hc
      have := Rat.mul_lt_mul_of_pos_right (show d < u - v by grind) hDS
      grind
    · false_or_by_contra
      rename_i hc
      have := Rat.mul_lt_mul_of_pos_right (show d < v - u by grind) hDS
      grind
  cases neg with
  | false =>
    refine ⟨u, ⟨_, _, _, hd, ?_⟩, by simpa using cl⟩
    rw [hval]
    show ((U : Int) : Rat) = _
    exact hU
  | true =>
    refine ⟨-u, ⟨_, _, _, hd, ?_⟩, by simp only [if_true]; unfold close at *; grind⟩
    rw [hval]
    show ((-(U : Int) : Int) : Rat) = _
    rw [Rat.intCast_neg]
    have : ((U : Int) : Rat) = (U : Rat) := rfl
    rw [this, hU]; grind
theorem fv_mul {x y : UInt64} {v w : Rat} (hx : FV x v) (hy : FV y w) (b : Nat) (hb : b ≤ 100) (h1 : v * w ≤ 2 ^ b) (h2 : -(v * w) ≤ 2 ^ b) : ∃ q, FV (Float64.mul x y) q ∧ close q (v * w) (2 ^ b / 9007199254740992) := by
  obtain ⟨a, m, e, hd, hv⟩ := hx
  obtain ⟨c, k, f, hd', hv'⟩ := hy
  have R := PySem.Float64.mul_right hd hd'
  have hS := SSr_pos
  have n1 : ((val x).natAbs : Rat) = (if a then -v else v) * SSr := by
    have := natAbs_sgn hd
    rw [this] at hv
    unfold sgn at hv
    cases a
    · simp only [Bool.false_eq_true, if_false] at hv ⊢; exact hv
    · simp only [if_true, Rat.intCast_neg] at hv ⊢
      have h2 : (((val x).natAbs : Int) : Rat) = ((val x).natAbs : Rat) := rfl
      rw [h2] at hv; grind
  have n2 : ((val y).natAbs : Rat) = (if c then -w else w) * SSr := by
    have := natAbs_sgn hd'
    rw [this] at hv'
    unfold sgn at hv'
    cases c
    · simp only [Bool.false_eq_true, if_false] at hv' ⊢; exact hv'
    · simp only [if_true, Rat.intCast_neg] at hv' ⊢
      have h2 : (((val y).natAbs : Int) : Rat) = ((val y).natAbs : Rat) := rfl
      rw [h2] at hv'; grind
  have hSS : (((2 : Nat) ^ 1074 : Nat) : Rat) = SSr := by unfold SSr; rw [S_eq]
  obtain ⟨q, hq, hc⟩ := fv_quot R (Nat.two_pow_pos _) (v := (if a then -v else v) * (if c then -w else w)) (by rw [Rat.natCast_mul, n1, n2, hSS]; grind) b hb (by cases a <;> cases c <;> simp <;> grind)
  refine ⟨q, hq, ?_⟩
  have : (if (a != c) = true then -((if a then -v else v) * (if c then -w else w)) else ((if a then -v else v) * (if c then -w else w))) = v * w := by cases a <;> cases c <;> simp <;> grind
  rw [this] at hc
  exact hc
theorem fv_div {x y : UInt64} {v w : Rat} (hx : FV x v) (hy : FV y w) (hw : w ≠ 0) (b : Nat) (hb : b ≤ 100) (h1 : v / w ≤ 2 ^ b) (h2 : -(v / w) ≤ 2 ^ b) : ∃ q, FV (Float64.div x y) q ∧ close q (v / w) (2 ^ b / 9007199254740992) := by
  obtain ⟨a, m, e, hd, hv⟩ := hx
  obtain ⟨c, k, f, hd', hv'⟩ := hy
  have hS := SSr_pos
  have hy0 : val y ≠ 0 := by
    intro h
    rw [h] at hv'
    have h0 : ((0 : Int) : Rat) = 0 := rfl
    rw [h0] at hv'
    grind
  have hk : k ≠ 0 := by
    intro h
    subst h
    have := PySem.Float64.val_eq hd'
    rw [Nat.zero_mul] at this
    exact hy0 (by rw [this]; unfold sgn; cases c <;> rfl)
  have R := PySem.Float64.div_right hd hd' hk
  have n1 : ((val x).natAbs : Rat) = (if a then -v else v) * SSr := by
    have := natAbs_sgn hd
    rw [this] at hv
    unfold sgn at hv
    cases a
    · simp only [Bool.false_eq_true, if_false] at hv ⊢; exact hv
    · simp only [if_true, Rat.intCast_neg] at hv ⊢
      have h2 : (((val x).natAbs : Int) : Rat) = ((val x).natAbs : Rat) := rfl
      rw [h2] at hv; grind
  have n2 : ((val y).natAbs : Rat) = (if c then -w else w) * SSr := by
    have := natAbs_sgn hd'
    rw [this] at hv'
    unfold sgn at hv'
    cases c
    · simp only [Bool.false_eq_true, if_false] at hv' ⊢; exact hv'
    · simp only [if_true, Rat.intCast_neg] at hv' ⊢
      have h2 : (((val y).natAbs : Int) : Rat) = ((val y).natAbs : Rat) := rfl
      rw [h2] at hv'; grind
  have hSS : (((2 : Nat) ^ 1074 : Nat) : Rat) = SSr := by unfold SSr; rw [S_eq]
  obtain ⟨q, hq, hc⟩ := fv_quot R (by omega) (v := (if a then -v else v) / (if c then -w else w)) (by rw [Rat.natCast_mul, n1, n2, hSS]; cases a <;> cases c <;> simp <;> grind) b hb (by cases a <;> cases c <;> simp <;> grind)
  refine ⟨q, hq, ?_⟩
  have : (if (a != c) = true then -((if a then -v else v) / (if c then -w else w)) else ((if a then -v else v) / (if c then -w else w))) = v / w := by cases a <;> cases c <;> simp <;> grind
  rw [this] at hc
  exact hc
end
section
open PySem
set_option maxRecDepth 100000
set_option maxHeartbeats 2000000
open PySem.Float64 (decode val V sgn Right)
theorem fv_int (i : Int) (h : i.natAbs ≤ 2 ^ 53) : FV (Float64.ofInt i) (i : Rat) := by
  have R := PySem.Float64.ofInt_right i
  have hS : (2 : Nat) ^ 1074 = 2 ^ 53 * PP := S_eq
  obtain ⟨m, e, U, hd, hval, _, _⟩ := right_close R (by decide) 53 (by decide) (by rw [hS, Nat.one_mul]; exact Nat.mul_le_mul_right _ h)
  obtain ⟨t, ht, _, _, h3⟩ := R
  -- the very figure is there
  have repr : ∀ k q : Nat, q ≤ 2 ^ 53 → ∃ t', V t' = q * 2 ^ k := by
    intro k
    induction k with
    | zero => intro q hq; exact ⟨0 * 2 ^ 52 + q, PySem.Float64.V_at hq (.inr rfl)⟩
    | succ k ih =>
      intro q hq
      by_cases hq2 : 2 ^ 52 ≤ q
      · exact ⟨(k + 1) * 2 ^ 52 + q, PySem.Float64.V_at hq (.inl hq2)⟩
      · obtain ⟨t', ht'⟩ := ih (2 * q) (by omega)
        exact ⟨t', by rw [ht', Nat.pow_succ]; ac_rfl⟩
  obtain ⟨t', ht'⟩ := repr 1074 _ h
  have hlt : t < PySem.Float64.infMag := by
    rcases Nat.lt_or_ge t PySem.Float64.infMag with q | q
    · exact q
    · have : t = PySem.Float64.infMag := by rename_i h1 _; exact Nat.le_antisymm h1 q
      rw [this] at ht
      rw [ht] at hd
      have : ∀ b, decode (Float64.pack b PySem.Float64.infMag) = .inf b := fun b => by cases b <;> kernel_rfl
      rw [this] at hd; cases hd
  have hn := (h3 hlt t').1
  rw [ht', Nat.one_mul, Nat.one_mul] at hn
  have hV : V t = i.natAbs * 2 ^ 1074 := by
    unfold PySem.Float64.dist at hn
    generalize i.natAbs * 2 ^ 1074 = X at *
    omega
  refine ⟨_, _, _, hd, ?_⟩
  have hv2 : val (Float64.ofInt i) = i * 2 ^ 1074 := by
    rw [ht, PySem.Float64.val_pack _ hlt, hV]
    unfold sgn
    by_cases hneg : i < 0
    · simp only [hneg, decide_true, if_true]
      rw [Int.natCast_mul, show ((i.natAbs : Nat) : Int) = -i by omega, Int.natCast_pow, Int.neg_mul, Int.neg_neg]; rfl
    · simp only [hneg, decide_false, Bool.false_eq_true, if_false]
      rw [Int.natCast_mul, show ((i.natAbs : Nat) : Int) = i by omega, Int.natCast_pow]; rfl
  rw [hv2, Rat.intCast_mul]
  congr 1 <;> (unfold SSr; rw [← S_eq] <;> rfl)
theorem fv_frac (neg : Bool) {n d : Nat} (hd : 0 < d) (b : Nat) (hb : b ≤ 100) (h1 : (n : Rat) / (d : Rat) ≤ 2 ^ b) : ∃ q, FV (Float64.ofFrac neg n d) q ∧ close q (if neg then -((n : Rat) / (d : Rat)) else (n : Rat) / (d : Rat)) (2 ^ b / 9007199254740992) := by
  have R := PySem.Float64.ofFrac_right (neg := neg) (n := n) (d := d) (W := n * 2 ^ 1074) (D := d) hd rfl hd
  have hSS : (((2 : Nat) ^ 1074 : Nat) : Rat) = SSr := by unfold SSr; rw [S_eq]
  have hdr : (0 : Rat) < (d : Rat) := by exact_mod_cast hd
  exact fv_quot R hd (v := (n : Rat) / (d : Rat)) (by rw [Rat.natCast_mul, hSS]; grind) b hb h1
theorem fv_const {x : UInt64} {m : Nat} {e : Int} (hd : decode x = .fin false m e) (num den : Nat) (h0 : den ≠ 0) (h : m * 2 ^ (e + 1074).toNat * den = num * 2 ^ 1074) : FV x ((num : Rat) / (den : Rat)) := by
  refine ⟨_, _, _, hd, ?_⟩
  rw [PySem.Float64.val_eq hd]
  show (((m * 2 ^ (e + 1074).toNat : Nat) : Int) : Rat) = _
  have h2 : ((m * 2 ^ (e + 1074).toNat * den : Nat) : Rat) = ((num * 2 ^ 1074 : Nat) : Rat) := by rw [h]
  have hSS : (((2 : Nat) ^ 1074 : Nat) : Rat) = SSr := by unfold SSr; rw [S_eq]
  rw [Rat.natCast_mul, Rat.natCast_mul num, hSS] at h2
  have h3 : (den : Rat) ≠ 0 := by exact_mod_cast h0
  show ((m * 2 ^ (e + 1074).toNat : Nat) : Rat) = _
  grind
theorem fv_ten : FV 4621819117588971520 10 := by
  have := fv_const (x := 4621819117588971520) (m := 5629499534213120) (e := -49) (by kernel_rfl) 10 1 (by decide) (by decide +kernel)
  have h : ((10 : Nat) : Rat) / ((1 : Nat) : Rat) = 10 := by have : ((10 : Nat) : Rat) = 10 := rfl; have h1 : ((1 : Nat) : Rat) = 1 := rfl; rw [this, h1]; grind
  rwa [h] at this
theorem fv_three : FV 4613937818241073152 3 := by
  have := fv_const (x := 4613937818241073152) (m := 6755399441055744) (e := -51) (by kernel_rfl) 3 1 (by decide) (by decide +kernel)
  have h : ((3 : Nat) : Rat) / ((1 : Nat) : Rat) = 3 := by have : ((3 : Nat) : Rat) = 3 := rfl; have h1 : ((1 : Nat) : Rat) = 1 := rfl; rw [this, h1]; grind
  rwa [h] at this
theorem fv_one : FV 4607182418800017408 1 := by
  have := fv_const (x := 4607182418800017408) (m := 4503599627370496) (e := -52) (by kernel_rfl) 1 1 (by decide) (by decide +kernel)
  have h : ((1 : Nat) : Rat) / ((1 : Nat) : Rat) = 1 := by have h1 : ((1 : Nat) : Rat) = 1 := rfl; rw [h1]; grind
  rwa [h] at this
theorem fv_tenth : ∃ q, FV 4591870180066957722 q ∧ close q (1 / 10) (1 / 9007199254740992) := by
  refine ⟨_, fv_const (x := 4591870180066957722) (m := 7205759403792794) (e := -56) (by kernel_rfl) 3602879701896397 36028797018963968 (by decide) (by decide +kernel), ?_⟩
  have h1 : ((3602879701896397 : Nat) : Rat) = 3602879701896397 := rfl
  have h2 : ((36028797018963968 : Nat) : Rat) = 36028797018963968 := rfl
  rw [h1, h2]
  unfold close
  constructor <;> grind
theorem fv_seven : ∃ q, FV 4604480259023595110 q ∧ close q (7 / 10) (1 / 9007199254740992) := by
  refine ⟨_, fv_const (x := 4604480259023595110) (m := 6305039478318694) (e := -53) (by kernel_rfl) 6305039478318694 9007199254740992 (by decide) (by decide +kernel), ?_⟩
  have h1 : ((6305039478318694 : Nat) : Rat) = 6305039478318694 := rfl
  have h2 : ((9007199254740992 : Nat) : Rat) = 9007199254740992 := rfl
  rw [h1, h2]
  unfold close
  constructor <;> grind
theorem fv_zero : FV 0 0 := by
  have := fv_const (x := 0) (m := 0) (e := -1074) (by kernel_rfl) 0 1 (by decide) (by decide +kernel)
  have h : ((0 : Nat) : Rat) / ((1 : Nat) : Rat) = 0 := by have h0 : ((0 : Nat) : Rat) = 0 := rfl; have h1 : ((1 : Nat) : Rat) = 1 := rfl; rw [h0, h1]; grind
  rwa [h] at this
theorem abs_toNat {y : UInt64} (h : Float64.isNaN y = false) : (Float64.abs y).toNat = y.toNat % 2 ^ 63 := by
  unfold Float64.abs
  rw [if_neg (by simp [h]), PySem.Float64.pack_toNat false (Nat.mod_lt _ (by decide))]
  simp
theorem abs_decode {y : UInt64} {b : Bool} {k : Nat} {f : Int} (h : decode y = .fin b k f) : decode (Float64.abs y) = .fin false k f := by
  have hnan : Float64.isNaN y = false := by unfold Float64.isNaN; rw [h]
  have hN := abs_toNat hnan
  have h1 : ((Float64.abs y).toNat / 2 ^ 63 == 1) = false := by rw [hN]; have := Nat.mod_lt y.toNat (show 0 < 2 ^ 63 by decide); rw [Nat.div_eq_of_lt this]; rfl
  have h2 : (Float64.abs y).toNat / 2 ^ 52 % 2048 = y.toNat / 2 ^ 52 % 2048 := by rw [hN]; omega
  have h3 : (Float64.abs y).toNat % 2 ^ 52 = y.toNat % 2 ^ 52 := by rw [hN]; omega
  unfold PySem.Float64.decode at h ⊢
  simp only [h2, h3, h1] at h ⊢
  split at h
  · split at h <;> cases h
  · rename_i hh
    rw [if_neg hh]
    split at h
    · rename_i h4; rw [if_pos h4]; cases h; rfl
    · rename_i h4; rw [if_neg h4]; cases h; rfl
theorem fv_abs {x : UInt64} {v : Rat} (hx : FV x v) : FV (Float64.abs x) (if v < 0 then -v else v) := by
  obtain ⟨a, m, e, hd, hv⟩ := hx
  refine ⟨false, m, e, abs_decode hd, ?_⟩
  have h1 := PySem.Float64.val_eq hd
  have h2 := PySem.Float64.val_eq (abs_decode hd)
  have hS := SSr_pos
  have hab : val (Float64.abs x) = ((val x).natAbs : Int) := by rw [h2, h1, PySem.Float64.sgn_natAbs]; rfl
  rw [hab]
  show (((val x).natAbs : Nat) : Rat) = _
  rw [ratAbs]
  have hs : (val x < 0) ↔ v < 0 := by
    constructor
    · intro h
      have : ((val x : Int) : Rat) < ((0 : Int) : Rat) := by exact_mod_cast h
      rw [hv] at this
      false_or_by_contra
      rename_i hc
      have := Rat.mul_le_mul_of_nonneg_right (show 0 ≤ v by grind) (Rat.le_of_lt hS)
      have h0 : ((0 : Int) : Rat) = 0 := rfl
      grind
    · intro h
      have := Rat.mul_lt_mul_of_pos_right h hS
      have h3 : ((val x : Int) : Rat) < ((0 : Int) : Rat) := by rw [hv]; have h0 : ((0 : Int) : Rat) = 0 := rfl; grind
      exact_mod_cast h3
  by_cases hneg : v < 0
  · rw [if_pos (hs.mpr hneg), if_pos hneg, hv]; grind
  · rw [if_neg (fun q => hneg (hs.mp q)), if_neg hneg, hv]
theorem fv_lt {x y : UInt64} {v w : Rat} (hx : FV x v) (hy : FV y w) : (val x < val y ↔ v < w) := by
  obtain ⟨a, m, e, hd, hv⟩ := hx
  obtain ⟨c, k, f, hd', hv'⟩ := hy
  have hS := SSr_pos
  constructor
  · intro h
    have : ((val x : Int) : Rat) < ((val y : Int) : Rat) := by exact_mod_cast h
    rw [hv, hv'] at this
    false_or_by_contra
    rename_i hc
    have := Rat.mul_le_mul_of_nonneg_right (show w ≤ v by grind) (Rat.le_of_lt hS)
    grind
  · intro h
    have := Rat.mul_lt_mul_of_pos_right h hS
    have h3 : ((val x : Int) : Rat) < ((val y : Int) : Rat) := by rw [hv, hv']; exact this
    exact_mod_cast h3
theorem fv_cmp_le {x y : UInt64} {v w : Rat} (hx : FV x v) (hy : FV y w) : (Float64.cmp x y == some .lt || Float64.cmp x y == some .eq) = decide (v ≤ w) := by
  have h := fv_lt hy hx
  obtain ⟨a, m, e, hd, hv⟩ := hx
  obtain ⟨c, k, f, hd', hv'⟩ := hy
  rw [PySem.Float64.cmp_right hd hd']
  have hle : v ≤ w ↔ ¬ w < v := by grind
  by_cases hc : val y < val x
  · rw [decide_eq_false (by rw [hle]; exact not_not_intro (h.mp hc)), Int.compare_eq_gt.mpr hc]; rfl
  · rw [decide_eq_true (by rw [hle]; exact fun q => hc (h.mpr q))]
    rcases Int.lt_trichotomy (val x) (val y) with q | q | q
    · rw [Int.compare_eq_lt.mpr q]; rfl
    · rw [Int.compare_eq_eq.mpr q]; rfl
    · exact absurd q hc
theorem fv_cmpInt {x : UInt64} {v : Rat} (hx : FV x v) (i : Int) (h : v < (i : Rat)) : (Float64.cmpInt x i == some .lt) = true := by
  obtain ⟨a, m, e, hd, hv⟩ := hx
  rw [PySem.Float64.cmpInt_right hd]
  have hS := SSr_pos
  have := Rat.mul_lt_mul_of_pos_right h hS
  have hi : ((i * 2 ^ 1074 : Int) : Rat) = (i : Rat) * SSr := by
    rw [Rat.intCast_mul]; congr 1 <;> (unfold SSr; rw [← S_eq] <;> rfl)
  have h3 : ((val x : Int) : Rat) < ((i * 2 ^ 1074 : Int) : Rat) := by rw [hv, hi]; exact this
  have h4 : val x < i * 2 ^ 1074 := by exact_mod_cast h3
  rw [Int.compare_eq_lt.mpr h4]; rfl
end
section
open PySem
set_option maxRecDepth 100000
set_option maxHeartbeats 2000000
/-- a hair: two to the minus 45th -/
def dd : Rat := 256 / 9007199254740992
theorem dd_eq : dd = 256 / 9007199254740992 := rfl
theorem dd_pos : 0 < dd := by rw [dd_eq]; grind
theorem p8 : (2 : Rat) ^ 8 = 256 := by rfl
theorem close_trans {a b c d e : Rat} (h : close a b d) (k : close b c e) : close a c (d + e) := by unfold close at *; grind
theorem close_refl (a : Rat) : close a a 0 := by unfold close; grind
theorem close_wide {a b d e : Rat} (h : close a b d) (k : d ≤ e) : close a b e := by unfold close at *; grind
theorem close_add {a b c d e f : Rat} (h : close a b e) (k : close c d f) : close (a + c) (b + d) (e + f) := by unfold close at *; grind
theorem close_sub {a b c d e f : Rat} (h : close a b e) (k : close c d f) : close (a - c) (b - d) (e + f) := by unfold close at *; grind
theorem close_div {v q d m : Rat} (hm : 1 ≤ m) (h : close v q d) : close (v / m) (q / m) d := by
  unfold close at *
  have : (v / m - q / m) * m = v - q := by grind
  have h3 : 0 ≤ d := by grind
  constructor
  · false_or_by_contra
    rename_i hc
    have := Rat.mul_lt_mul_of_pos_right (show d < v / m - q / m by grind) (show 0 < m by grind)
    have := Rat.mul_le_mul_of_nonneg_left hm h3
    grind
  · false_or_by_contra
    rename_i hc
    have := Rat.mul_lt_mul_of_pos_right (show d < q / m - v / m by grind) (show 0 < m by grind)
    have := Rat.mul_le_mul_of_nonneg_left hm h3
    grind
theorem abs_mul_le {a b A B : Rat} (h1 : a ≤ A) (h2 : -a ≤ A) (h3 : b ≤ B) (h4 : -b ≤ B) : a * b ≤ A * B ∧ -(a * b) ≤ A * B := by
  have k1 := Rat.mul_nonneg (show 0 ≤ A - a by grind) (show 0 ≤ B - b by grind)
  have k2 := Rat.mul_nonneg (show 0 ≤ A + a by grind) (show 0 ≤ B - b by grind)
  have k3 := Rat.mul_nonneg (show 0 ≤ A - a by grind) (show 0 ≤ B + b by grind)
  have k4 := Rat.mul_nonneg (show 0 ≤ A + a by grind) (show 0 ≤ B + b by grind)
  constructor <;> grind
theorem close_mul {a a' b b' e f A B : Rat} (h : close a a' e) (k : close b b' f) (b1 : b ≤ B) (b2 : -b ≤ B) (a1 : a' ≤ A) (a2 : -a' ≤ A) : close (a * b) (a' * b') (e * B + A * f) := by
  unfold close at *
  have k1 := abs_mul_le (a := a - a') (b := b) (A := e) (B := B) h.1 (by grind) b1 b2
  have k2 := abs_mul_le (a := a') (b := b - b') (A := A) (B := f) a1 a2 k.1 (by grind)
  constructor <;> grind
theorem add8 {x y : UInt64} {v w : Rat} (hx : FV x v) (hy : FV y w) (h1 : v + w ≤ 256) (h2 : -(v + w) ≤ 256) : ∃ q, FV (Float64.add x y) q ∧ close q (v + w) dd := by
  have := fv_add hx hy 8 (by decide) (by rw [p8]; exact h1) (by rw [p8]; exact h2); rwa [p8] at this
theorem sub8 {x y : UInt64} {v w : Rat} (hx : FV x v) (hy : FV y w) (h1 : v - w ≤ 256) (h2 : -(v - w) ≤ 256) : ∃ q, FV (Float64.sub x y) q ∧ close q (v - w) dd := by
  have := fv_sub hx hy 8 (by decide) (by rw [p8]; exact h1) (by rw [p8]; exact h2); rwa [p8] at this
theorem mul8 {x y : UInt64} {v w : Rat} (hx : FV x v) (hy : FV y w) (h1 : v * w ≤ 256) (h2 : -(v * w) ≤ 256) : ∃ q, FV (Float64.mul x y) q ∧ close q (v * w) dd := by
  have := fv_mul hx hy 8 (by decide) (by rw [p8]; exact h1) (by rw [p8]; exact h2); rwa [p8] at this
theorem div8 {x y : UInt64} {v w : Rat} (hx : FV x v) (hy : FV y w) (hw : w ≠ 0) (h1 : v / w ≤ 256) (h2 : -(v / w) ≤ 256) : ∃ q, FV (Float64.div x y) q ∧ close q (v / w) dd := by
  have := fv_div hx hy hw 8 (by decide) (by rw [p8]; exact h1) (by rw [p8]; exact h2); rwa [p8] at this
theorem div_le {v m A : Rat} (hm : 1 ≤ m) (h0 : 0 ≤ A) (h : v ≤ A) : v / m ≤ A := by
  false_or_by_contra
  rename_i hc
  have := Rat.mul_lt_mul_of_pos_right (show A < v / m by grind) (show 0 < m by grind)
  have h2 := Rat.mul_le_mul_of_nonneg_left hm h0
  have : v / m * m = v := by grind
  grind
theorem div_ge {v m A : Rat} (hm : 1 ≤ m) (h0 : 0 ≤ A) (h : -v ≤ A) : -(v / m) ≤ A := by
  have := div_le (v := -v) hm h0 h
  have e : -v / m = -(v / m) := by grind
  rwa [e] at this

def Q0 (M N P U T : Rat) : Rat := ((3 * U / 10 + P) / M + (3 * U / 10 + P) / N + (P - T) / P) / 3
theorem wgt0_close (m n p u t : Nat) (hm : 1 ≤ m ∧ m ≤ 10) (hn : 1 ≤ n ∧ n ≤ 10) (hp : 1 ≤ p ∧ p ≤ 10) (hu : u ≤ 10) (ht : t ≤ p) :
    ∃ v, FV (wgt0 m n p u t) v ∧ close v (Q0 m n p u t) (10 * dd) ∧ 0 ≤ Q0 m n p u t ∧ Q0 m n p u t ≤ 9 := by
  have M1 : (1 : Rat) ≤ (m : Rat) := by exact_mod_cast hm.1
  have N1 : (1 : Rat) ≤ (n : Rat) := by exact_mod_cast hn.1
  have P1 : (1 : Rat) ≤ (p : Rat) := by exact_mod_cast hp.1
  have P2 : (p : Rat) ≤ 10 := by exact_mod_cast hp.2
  have U1 : (0 : Rat) ≤ (u : Rat) := by exact_mod_cast Nat.zero_le u
  have U2 : (u : Rat) ≤ 10 := by exact_mod_cast hu
  have T1 : (0 : Rat) ≤ (t : Rat) := by exact_mod_cast Nat.zero_le t
  have T2 : (t : Rat) ≤ (p : Rat) := by exact_mod_cast ht
  have hd := dd_pos
  have hde := dd_eq
  have x1 : FV (Float64.ofInt ((3 * u : Nat) : Int)) (3 * (u : Rat)) := by
    have := fv_int ((3 * u : Nat) : Int) (by rw [Int.natAbs_natCast]; omega)
    have e : (((3 * u : Nat) : Int) : Rat) = 3 * (u : Rat) := by show ((3 * u : Nat) : Rat) = _; rw [Rat.natCast_mul]; rfl
    rwa [e] at this
  have xp : FV (Float64.ofInt (p : Int)) (p : Rat) := fv_int (p : Int) (by rw [Int.natAbs_natCast]; omega)
  have xm : FV (Float64.ofInt (m : Int)) (m : Rat) := fv_int (m : Int) (by rw [Int.natAbs_natCast]; omega)
  have xn : FV (Float64.ofInt (n : Int)) (n : Rat) := fv_int (n : Int) (by rw [Int.natAbs_natCast]; omega)
  obtain ⟨q2, x2, c2⟩ := div8 x1 fv_ten (by grind) (by grind) (by grind)
  obtain ⟨q3, x3, c3⟩ := add8 x2 xp (by unfold close at c2; grind) (by unfold close at c2; grind)
  have k3 : close q3 (3 * (u : Rat) / 10 + p) (2 * dd) := close_wide (close_trans c3 (close_add c2 (close_refl _))) (by grind)
  have b3 : q3 ≤ 14 ∧ -q3 ≤ 14 := by unfold close at k3; grind
  obtain ⟨q4, x4, c4⟩ := div8 x3 xm (by grind) (div_le M1 (by grind) (by grind)) (div_ge M1 (by grind) (by grind))
  obtain ⟨q5, x5, c5⟩ := div8 x3 xn (by grind) (div_le N1 (by grind) (by grind)) (div_ge N1 (by grind) (by grind))
  have k4 : close q4 ((3 * (u : Rat) / 10 + p) / m) (3 * dd) := close_wide (close_trans c4 (close_div M1 k3)) (by grind)
  have k5 : close q5 ((3 * (u : Rat) / 10 + p) / n) (3 * dd) := close_wide (close_trans c5 (close_div N1 k3)) (by grind)
  have g4 : (3 * (u : Rat) / 10 + p) / m ≤ 13 := div_le M1 (by grind) (by grind)
  have g5 : (3 * (u : Rat) / 10 + p) / n ≤ 13 := div_le N1 (by grind) (by grind)
  have g4' : -((3 * (u : Rat) / 10 + p) / m) ≤ 0 := div_ge M1 (by grind) (by grind)
  have g5' : -((3 * (u : Rat) / 10 + p) / n) ≤ 0 := div_ge N1 (by grind) (by grind)
  have g7 : ((p : Rat) - t) / p ≤ 1 := by
    have e : ((p : Rat) - t) / p * p = p - t := by grind
    false_or_by_contra
    rename_i hc
    have := Rat.mul_lt_mul_of_pos_right (show 1 < ((p : Rat) - t) / p by grind) (show 0 < (p : Rat) by grind)
    grind
  have g7' : -(((p : Rat) - t) / p) ≤ 0 := div_ge P1 (by grind) (by grind)
  unfold wgt0 numSim Q0
  generalize (3 * (u : Rat) / 10 + p) / m = A at *
  generalize (3 * (u : Rat) / 10 + p) / n = B at *
  obtain ⟨q6, x6, c6⟩ := add8 x4 x5 (by unfold close at k4 k5; grind) (by unfold close at k4 k5; grind)
  have k6 : close q6 (A + B) (7 * dd) := close_wide (close_trans c6 (close_add k4 k5)) (by grind)
  have hneg : (decide (((p : Int) - t) < 0) != decide ((p : Int) < 0)) = false := by
    rw [decide_eq_false (by omega), decide_eq_false (by omega)]; rfl
  have hna : ((((p : Int) - t).natAbs : Nat) : Rat) = (p : Rat) - t := by
    rw [ratAbs, if_neg (by omega), Rat.intCast_sub]; rfl
  have hpa : ((((p : Int)).natAbs : Nat) : Rat) = (p : Rat) := by rw [Int.natAbs_natCast]
  rw [hneg]
  obtain ⟨q7, x7, c7⟩ := fv_frac false (n := ((p : Int) - t).natAbs) (d := ((p : Int)).natAbs) (by omega) 8 (by decide) (by rw [hna, hpa, p8]; grind)
  rw [hna, hpa, p8] at c7
  simp only [Bool.false_eq_true, if_false] at c7
  generalize ((p : Rat) - t) / p = C at *
  have k7 : close q7 C dd := c7
  obtain ⟨q8, x8, c8⟩ := add8 x6 x7 (by unfold close at k6 k7; grind) (by unfold close at k6 k7; grind)
  have k8 : close q8 (A + B + C) (9 * dd) := close_wide (close_trans c8 (close_add k6 k7)) (by grind)
  obtain ⟨q9, x9, c9⟩ := div8 x8 fv_three (by grind) (div_le (by grind) (by grind) (by unfold close at k8; grind)) (div_ge (by grind) (by grind) (by unfold close at k8; grind))
  have k9 : close q9 ((A + B + C) / 3) (10 * dd) := close_wide (close_trans c9 (close_div (by grind) k8)) (by grind)
  exact ⟨q9, x9, k9, by grind, by grind⟩
end
section
open PySem
set_option maxRecDepth 100000
set_option maxHeartbeats 2000000
theorem wgt1_close {w : UInt64} {v q : Rat} (hw : FV w v) (hc : close v q (10 * dd)) (h0 : 0 ≤ q) (h9 : q ≤ 9) (same : Nat) (hs : same ≤ 4) :
    ∃ v1, FV (wgt1 w same) v1 ∧ close v1 (q + (same : Rat) / 10 * (1 - q)) (40 * dd) ∧ q + (same : Rat) / 10 * (1 - q) ≤ 13 ∧ -(q + (same : Rat) / 10 * (1 - q)) ≤ 13 := by
  have hd := dd_pos
  have hde := dd_eq
  have S1 : (0 : Rat) ≤ (same : Rat) := by exact_mod_cast Nat.zero_le same
  have S2 : (same : Rat) ≤ 4 := by exact_mod_cast hs
  have hab := abs_mul_le (a := (same : Rat) / 10) (b := 1 - q) (A := 4 / 10) (B := 8) (by grind) (by grind) (by grind) (by grind)
  unfold wgt1
  by_cases hz : same = 0
  · rw [if_pos hz]
    subst hz
    have e : q + ((0 : Nat) : Rat) / 10 * (1 - q) = q := by have : ((0 : Nat) : Rat) = 0 := rfl; rw [this]; grind
    rw [e]
    exact ⟨v, hw, close_wide hc (by grind), by grind, by grind⟩
  · rw [if_neg hz]
    have xs : FV (Float64.ofInt (same : Int)) (same : Rat) := fv_int (same : Int) (by rw [Int.natAbs_natCast]; omega)
    obtain ⟨c, xc, cc⟩ := fv_tenth
    have ccd : close c (1 / 10) (dd / 256) := close_wide cc (by grind)
    have m1 := close_mul (a := (same : Rat)) (a' := (same : Rat)) (b := c) (b' := 1 / 10) (e := 0) (f := dd / 256) (A := 4) (B := 1) (close_refl _) ccd (by unfold close at cc; grind) (by unfold close at cc; grind) S2 (by grind)
    obtain ⟨s1, y1, d1⟩ := mul8 xs xc (by unfold close at m1; grind) (by unfold close at m1; grind)
    have k1 : close s1 ((same : Rat) / 10) (2 * dd) := by
      have := close_trans d1 m1
      have e : (same : Rat) * (1 / 10) = (same : Rat) / 10 := by grind
      rw [e] at this
      exact close_wide this (by grind)
    obtain ⟨s2, y2, d2⟩ := sub8 fv_one hw (by unfold close at hc; grind) (by unfold close at hc; grind)
    have k2 : close s2 (1 - q) (11 * dd) := close_wide (close_trans d2 (close_sub (close_refl 1) hc)) (by grind)
    have m2 := close_mul (A := 4 / 10) (B := 9) k1 k2 (by unfold close at k2; grind) (by unfold close at k2; grind) (by grind) (by grind)
    obtain ⟨s3, y3, d3⟩ := mul8 y1 y2 (by unfold close at m2; grind) (by unfold close at m2; grind)
    have k3 : close s3 ((same : Rat) / 10 * (1 - q)) (28 * dd) := close_wide (close_trans d3 m2) (by grind)
    obtain ⟨s4, y4, d4⟩ := add8 hw y3 (by unfold close at hc k3; grind) (by unfold close at hc k3; grind)
    exact ⟨s4, y4, close_wide (close_trans d4 (close_add hc k3)) (by grind), by grind, by grind⟩
theorem wgt2_close {w : UInt64} {v q : Rat} (hw : FV w v) (hc : close v q (40 * dd)) (h0 : q ≤ 13) (h9 : -q ≤ 13) (m n p same : Nat) (hp : same + 1 ≤ p) (hp2 : p ≤ 10) (hmn : 2 * same ≤ m + n) :
    ∃ v1, FV (wgt2 w m n p same) v1 ∧ close v1 (q + (1 - q) * (((p : Rat) - same - 1) / ((m : Rat) + n - 2 * same + 2))) (600 * dd) ∧ q + (1 - q) * (((p : Rat) - same - 1) / ((m : Rat) + n - 2 * same + 2)) ≤ 200 ∧ -(q + (1 - q) * (((p : Rat) - same - 1) / ((m : Rat) + n - 2 * same + 2))) ≤ 200 := by
  have hd := dd_pos
  have hde := dd_eq
  have P1 : (same : Rat) + 1 ≤ (p : Rat) := by exact_mod_cast hp
  have P2 : (p : Rat) ≤ 10 := by exact_mod_cast hp2
  have S1 : (0 : Rat) ≤ (same : Rat) := by exact_mod_cast Nat.zero_le same
  have MN : 2 * (same : Rat) ≤ (m : Rat) + n := by exact_mod_cast hmn
  have hneg : (decide (((p : Int) - same - 1) < 0) != decide (((m : Int) + n - (same : Int) * 2 + 2) < 0)) = false := by
    rw [decide_eq_false (by omega), decide_eq_false (by omega)]; rfl
  have hna : ((((p : Int) - same - 1).natAbs : Nat) : Rat) = (p : Rat) - same - 1 := by
    rw [ratAbs, if_neg (by omega), Rat.intCast_sub, Rat.intCast_sub]; rfl
  have hpa : ((((m : Int) + n - (same : Int) * 2 + 2).natAbs : Nat) : Rat) = (m : Rat) + n - 2 * same + 2 := by
    rw [ratAbs, if_neg (by omega), Rat.intCast_add, Rat.intCast_sub, Rat.intCast_add, Rat.intCast_mul]
    show (m : Rat) + (n : Rat) - (same : Rat) * 2 + 2 = _
    grind
  have D2 : (1 : Rat) ≤ (m : Rat) + n - 2 * same + 2 := by grind
  have R1 : ((p : Rat) - same - 1) / ((m : Rat) + n - 2 * same + 2) ≤ 10 := div_le D2 (by grind) (by grind)
  have R2 : -(((p : Rat) - same - 1) / ((m : Rat) + n - 2 * same + 2)) ≤ 0 := div_ge D2 (by grind) (by grind)
  unfold wgt2
  rw [hneg]
  obtain ⟨r, xr, cr⟩ := fv_frac false (n := ((p : Int) - same - 1).natAbs) (d := ((m : Int) + n - (same : Int) * 2 + 2).natAbs) (by omega) 8 (by decide) (by rw [hna, hpa, p8]; grind)
  rw [hna, hpa, p8] at cr
  simp only [Bool.false_eq_true, if_false] at cr
  generalize ((p : Rat) - same - 1) / ((m : Rat) + n - 2 * same + 2) = R at *
  have kr : close r R dd := cr
  obtain ⟨s2, y2, d2⟩ := sub8 fv_one hw (by unfold close at hc; grind) (by unfold close at hc; grind)
  have k2 : close s2 (1 - q) (41 * dd) := close_wide (close_trans d2 (close_sub (close_refl 1) hc)) (by grind)
  have m2 := close_mul (A := 14) (B := 11) k2 kr (by unfold close at kr; grind) (by unfold close at kr; grind) (by grind) (by grind)
  have b2 := abs_mul_le (a := 1 - q) (b := R) (A := 14) (B := 10) (by grind) (by grind) (by grind) (by grind)
  obtain ⟨s3, y3, d3⟩ := mul8 y2 xr (by unfold close at m2; grind) (by unfold close at m2; grind)
  have k3 : close s3 ((1 - q) * R) (500 * dd) := close_wide (close_trans d3 m2) (by grind)
  obtain ⟨s4, y4, d4⟩ := add8 hw y3 (by unfold close at hc k3; grind) (by unfold close at hc k3; grind)
  exact ⟨s4, y4, close_wide (close_trans d4 (close_add hc k3)) (by grind), by grind, by grind⟩
/-- the law's fraction -/
theorem top_frac (m n p u t : Nat) (hm : 1 ≤ m) (hn : 1 ≤ n) (hp : 1 ≤ p) : (topI m n p u t : Rat) = Q0 m n p u t * (underI m n p : Rat) ∧ (30 : Rat) ≤ (underI m n p : Rat) := by
  have M1 : (1 : Rat) ≤ (m : Rat) := by exact_mod_cast hm
  have N1 : (1 : Rat) ≤ (n : Rat) := by exact_mod_cast hn
  have P1 : (1 : Rat) ≤ (p : Rat) := by exact_mod_cast hp
  have e1 : (topI m n p u t : Rat) = (10 * (p : Rat) + 3 * u) * ((m : Rat) + n) * p + 10 * (m : Rat) * n * ((p : Rat) - t) := by
    unfold topI
    simp only [Rat.intCast_add, Rat.intCast_mul, Rat.intCast_sub]
    rfl
  have e2 : (underI m n p : Rat) = 30 * (m : Rat) * n * p := by
    unfold underI
    simp only [Rat.intCast_mul]
    rfl
  constructor
  · rw [e1, e2]
    unfold Q0
    have m0 : (m : Rat) ≠ 0 := by grind
    have n0 : (n : Rat) ≠ 0 := by grind
    have p0 : (p : Rat) ≠ 0 := by grind
    grind
  · have : (30 : Int) ≤ underI m n p := by
      unfold underI
      have h1 : (1 : Int) ≤ (m : Int) * n := by
        have := Int.mul_le_mul (a := 1) (c := (m : Int)) (b := 1) (d := (n : Int)) (by omega) (by omega) (by decide) (by omega)
        omega
      have h2 : (1 : Int) ≤ (m : Int) * n * p := by
        have := Int.mul_le_mul (a := 1) (c := (m : Int) * n) (b := 1) (d := (p : Int)) (by omega) (by omega) (by decide) (by omega)
        omega
      have e : (30 : Int) * m * n * p = 30 * ((m : Int) * n * p) := by rw [Int.mul_assoc, Int.mul_assoc, Int.mul_assoc]
      rw [e]; omega
    have h : ((30 : Int) : Rat) ≤ ((underI m n p : Int) : Rat) := by exact_mod_cast this
    exact h
/-- near to one of the dues -/
def NearDue (v : Rat) (l : List (Int × Int)) : Prop := ∃ q ∈ l, (30 : Rat) ≤ (q.2 : Rat) ∧ ∃ z : Rat, (q.1 : Rat) = z * (q.2 : Rat) ∧ close v z (700 * dd) ∧ z ≤ 200 ∧ -z ≤ 200
theorem callF_near (m n p u t same : Nat) (long : Bool) (hm : 1 ≤ m ∧ m ≤ 10) (hn : 1 ≤ n ∧ n ≤ 10) (hp : 1 ≤ p ∧ p ≤ 10) (hu : u ≤ 10) (ht : t ≤ p) (hs : same ≤ 4) (hl : long = true → same + 1 ≤ p ∧ 2 * same ≤ m + n) :
    ∃ v, FV (callF m n p u t same long) v ∧ NearDue v (duesF m n p u t same long) := by
  have hd := dd_pos
  have hde := dd_eq
  obtain ⟨v0, x0, c0, g0, g9⟩ := wgt0_close m n p u t hm hn hp hu ht
  obtain ⟨ht1, ht2⟩ := top_frac m n p u t hm.1 hn.1 hp.1
  obtain ⟨c7, x7, cc7⟩ := fv_seven
  have hle : atMost7 (wgt0 m n p u t) = decide (v0 ≤ c7) := fv_cmp_le x0 x7
  have hub : (underI m n p : Rat) ≤ 30000 := by
    have : underI m n p ≤ 30000 := by
      unfold underI
      have h1 : (m : Int) * n ≤ 100 := by
        have := Int.mul_le_mul (a := (m : Int)) (c := 10) (b := (n : Int)) (d := 10) (by omega) (by omega) (by omega) (by decide)
        omega
      have h2 : (m : Int) * n * p ≤ 1000 := by
        have := Int.mul_le_mul (a := (m : Int) * n) (c := 100) (b := (p : Int)) (d := 10) h1 (by omega) (by omega) (by decide)
        omega
      have e : (30 : Int) * m * n * p = 30 * ((m : Int) * n * p) := by rw [Int.mul_assoc, Int.mul_assoc, Int.mul_assoc]
      rw [e]; omega
    have h : ((underI m n p : Int) : Rat) ≤ ((30000 : Int) : Rat) := by exact_mod_cast this
    exact h
  generalize hQ : Q0 m n p u t = Q at *
  unfold callF duesF
  -- the last due
  have last : ¬ 10 * topI m n p u t < 7 * underI m n p → ∃ v, FV (if long = true then wgt2 (wgt1 (wgt0 m n p u t) same) m n p same else wgt1 (wgt0 m n p u t) same) v ∧ (30 : Rat) ≤ ((lastI m n p u t same long).2 : Rat) ∧ ∃ z : Rat, ((lastI m n p u t same long).1 : Rat) = z * ((lastI m n p u t same long).2 : Rat) ∧ close v z (700 * dd) ∧ z ≤ 200 ∧ -z ≤ 200 := by
    intro _
    obtain ⟨v1, x1, c1, a1, a2⟩ := wgt1_close x0 c0 g0 g9 same hs
    have eh : (highI m n p u t same : Rat) = 10 * (topI m n p u t : Rat) + (same : Rat) * ((underI m n p : Rat) - (topI m n p u t : Rat)) := by
      unfold highI
      simp only [Rat.intCast_add, Rat.intCast_mul, Rat.intCast_sub]
      rfl
    have el : (lowI m n p : Rat) = 10 * (underI m n p : Rat) := by
      unfold lowI
      simp only [Rat.intCast_mul]
      rfl
    have ehl : (highI m n p u t same : Rat) = (Q + (same : Rat) / 10 * (1 - Q)) * (lowI m n p : Rat) := by rw [eh, el, ht1]; grind
    cases long with
    | false =>
      refine ⟨v1, x1, by show (30 : Rat) ≤ (lowI m n p : Rat); rw [el]; grind, _, ehl, close_wide c1 (by grind), by grind, by grind⟩
    | true =>
      obtain ⟨l1, l2⟩ := hl rfl
      obtain ⟨v2, x2, c2, b1, b2⟩ := wgt2_close x1 c1 a1 a2 m n p same l1 hp.2 l2
      have MN : 2 * (same : Rat) ≤ (m : Rat) + n := by exact_mod_cast l2
      have ea : (allOf m n same : Rat) = (m : Rat) + n - 2 * same + 2 := by
        unfold allOf
        simp only [Rat.intCast_add, Rat.intCast_mul, Rat.intCast_sub]
        rfl
      have em : (moreI p same : Rat) = (p : Rat) - same - 1 := by
        unfold moreI
        simp only [Rat.intCast_sub]
        rfl
      have e1 : ((lastI m n p u t same true).1 : Rat) = (highI m n p u t same : Rat) * (allOf m n same : Rat) + ((lowI m n p : Rat) - (highI m n p u t same : Rat)) * (moreI p same : Rat) := by
        show ((highI m n p u t same * allOf m n same + (lowI m n p - highI m n p u t same) * moreI p same : Int) : Rat) = _
        simp only [Rat.intCast_add, Rat.intCast_mul, Rat.intCast_sub]
      have e2 : ((lastI m n p u t same true).2 : Rat) = (lowI m n p : Rat) * (allOf m n same : Rat) := by
        show ((lowI m n p * allOf m n same : Int) : Rat) = _
        simp only [Rat.intCast_mul]
      refine ⟨v2, x2, ?_, _, ?_, close_wide c2 (by grind), b1, b2⟩
      · rw [e2, ea, el]
        have := Rat.mul_le_mul_of_nonneg_left (show (1 : Rat) ≤ (m : Rat) + n - 2 * same + 2 by grind) (show (0 : Rat) ≤ 10 * (underI m n p : Rat) by grind)
        grind
      · rw [e1, e2, ehl, ea, em]
        generalize Q + (same : Rat) / 10 * (1 - Q) = Q1
        have h0 : (m : Rat) + n - 2 * same + 2 ≠ 0 := by grind
        generalize (m : Rat) + n - 2 * same + 2 = a at *
        grind
  by_cases hlt : 10 * topI m n p u t < 7 * underI m n p
  · rw [if_pos hlt]
    have hq : Q * 10 * (underI m n p : Rat) + 1 ≤ 7 * (underI m n p : Rat) := by
      have h1 : 10 * topI m n p u t + 1 ≤ 7 * underI m n p := by omega
      have h : ((10 * topI m n p u t + 1 : Int) : Rat) ≤ ((7 * underI m n p : Int) : Rat) := by exact_mod_cast h1
      rw [Rat.intCast_add, Rat.intCast_mul, Rat.intCast_mul, ht1] at h
      have e10 : ((10 : Int) : Rat) = 10 := rfl
      have e1 : ((1 : Int) : Rat) = 1 := rfl
      have e7 : ((7 : Int) : Rat) = 7 := rfl
      rw [e10, e1, e7] at h
      grind
    have hq7 : Q ≤ 7 / 10 - 1 / 300000 := by
      false_or_by_contra
      rename_i hc
      have := Rat.mul_lt_mul_of_pos_right (show 7 / 10 - 1 / 300000 < Q by grind) (show 0 < (underI m n p : Rat) by grind)
      grind
    have : v0 ≤ c7 := by unfold close at c0 cc7; grind
    rw [hle, decide_eq_true this, if_pos rfl]
    exact ⟨v0, x0, _, List.mem_singleton.mpr rfl, ht2, Q, ht1, close_wide c0 (by grind), by grind, by grind⟩
  · rw [if_neg hlt]
    obtain ⟨v, xv, l30, z, hz1, hz2, hz3, hz4⟩ := last hlt
    by_cases heq : 10 * topI m n p u t = 7 * underI m n p
    · rw [if_pos heq]
      by_cases hat : v0 ≤ c7
      · rw [hle, decide_eq_true hat, if_pos rfl]
        exact ⟨v0, x0, _, List.mem_cons_self, ht2, Q, ht1, close_wide c0 (by grind), by grind, by grind⟩
      · rw [hle, decide_eq_false hat, if_neg (by decide)]
        exact ⟨v, xv, _, List.mem_cons_of_mem _ (List.mem_singleton.mpr rfl), l30, z, hz1, hz2, hz3, hz4⟩
    · rw [if_neg heq]
      have hq : 7 * (underI m n p : Rat) + 1 ≤ Q * 10 * (underI m n p : Rat) := by
        have h1 : 7 * underI m n p + 1 ≤ 10 * topI m n p u t := by omega
        have h : ((7 * underI m n p + 1 : Int) : Rat) ≤ ((10 * topI m n p u t : Int) : Rat) := by exact_mod_cast h1
        rw [Rat.intCast_add, Rat.intCast_mul, Rat.intCast_mul, ht1] at h
        have e10 : ((10 : Int) : Rat) = 10 := rfl
        have e1 : ((1 : Int) : Rat) = 1 := rfl
        have e7 : ((7 : Int) : Rat) = 7 := rfl
        rw [e10, e1, e7] at h
        grind
      have hq7 : 7 / 10 + 1 / 300000 ≤ Q := by
        false_or_by_contra
        rename_i hc
        have := Rat.mul_lt_mul_of_pos_right (show Q < 7 / 10 + 1 / 300000 by grind) (show 0 < (underI m n p : Rat) by grind)
        grind
      have : ¬ v0 ≤ c7 := by unfold close at c0 cc7; grind
      rw [hle, decide_eq_false this, if_neg (by decide)]
      exact ⟨v, xv, _, List.mem_singleton.mpr rfl, l30, z, hz1, hz2, hz3, hz4⟩
end
section
open PySem PySem.Spec PySem.Calls PyProof.Rows PySem.W
set_option maxRecDepth 100000
set_option maxHeartbeats 8000000
/-- what one due says of a figure -/
def okF (x : UInt64) (q : Int × Int) : Bool := Float64.cmpInt (Float64.mul (Float64.abs (Float64.sub (Float64.mul x (Float64.ofInt q.2)) (Float64.ofInt q.1))) (Float64.ofInt 1000000000)) q.2 == some .lt
def okI (i : Int) (q : Int × Int) : Bool := decide ((if i * q.2 - q.1 < 0 then -(i * q.2 - q.1) else i * q.2 - q.1) * 1000000000 < q.2)
theorem pvPairs_pairs : ∀ l : List (Int × Int), Mine.pairs (pvPairs l) = true
  | [] => rfl
  | q :: l => by show (true && true && Mine.pairs (pvPairs l)) = true; rw [pvPairs_pairs l]; rfl
theorem boolsOf_map : ∀ l : List Bool, boolsOf (l.map .bool) = some l
  | [] => rfl
  | b :: l => by simp [set_get, boolsOf, boolsOf_map l]
theorem compL_pairs {σ : Store} {g : DE} {f : Int × Int → Bool} : ∀ {l : List (Int × Int)} (_ : ∀ q ∈ l, g ((σ.set "high" (.int q.1)).set "low" (.int q.2)) = some (.bool (f q))), compL σ (cb2 "high" "low") (fun _ => some true) g (pvPairs l) = some ((l.map f).map .bool)
  | [], _ => rfl
  | q :: l, h => by
    have ih := compL_pairs (l := l) fun k hk => h k (List.mem_cons_of_mem _ hk)
    have hq := h q List.mem_cons_self
    show compL σ (cb2 "high" "low") (fun _ => some true) g (.tup [.int q.1, .int q.2] :: pvPairs l) = _
    simp only [compL, cb2, PV.atom, and_self, if_true, Option.bind_some, setL, hq, ih, Option.map_some, List.map_cons]
theorem ret_of {E : DE} {σ : Store} {v1 r : PV} (h : E σ = some v1) (h2 : anyV [v1] = some r) : seqS (fun σ => Option.map (fun v => (σ, Fl.ret v)) (Option.bind (seqE [E] σ) anyV)) skipS σ = some (σ, .ret r) := by
  simp only [seqS, seqE, h, Option.bind_some, Option.map_some, h2]
theorem fits_any (w : World) (t : PV) (l : List (Int × Int)) (f : Int × Int → Bool) (ht : t.atom = true) (hl : l.length < 1000)
    (hf : ∀ q ∈ l, ∀ σ : Store, σ "told" = some t → σ "high" = some (.int q.1) → σ "low" = some (.int q.2) →
      (Option.bind (Option.bind (Option.bind (seqE [fun σ => Option.bind (Option.bind (σ "told") fun a => Option.bind (σ "low") fun b => binV Operator.Mult a b) fun a => Option.bind (σ "high") fun b => binV Operator.Sub a b] σ) absV) fun a => Option.bind (some (PV.int 1000000000)) fun b => binV Operator.Mult a b) fun a => Option.bind (σ "low") fun b => Option.map PV.bool (cmpV CmpOp.Lt a b)) = some (.bool (f q))) :
    fitsSpec w [t, .rlist (pvPairs l)] = some (.bool (l.any f)) := by
  have hlen : (pvPairs l).length < 1000 := by simpa [pvPairs] using hl
  have hret : ∃ σ', (fitsPack w).1 (setAll (fun _ => none) ["told", "dues"] [t, .rlist (pvPairs l)]) = some (σ', .ret (.bool (l.any f))) := by
    unfold fitsPack
    dsimp only
    have h1 : (setAll (fun _ => none) ["told", "dues"] [t, .rlist (pvPairs l)]) "dues" = some (.rlist (pvPairs l)) := by simp [set_get, setAll]
    have h2 : (setAll (fun _ => none) ["told", "dues"] [t, .rlist (pvPairs l)]) "told" = some t := by simp [set_get, setAll]
    generalize setAll (fun _ => none) ["told", "dues"] [t, .rlist (pvPairs l)] = σ at *
    have hc := compL_pairs (σ := capS ["told"] σ) (f := f) (l := l) (g := fun σ => (Option.bind (Option.bind (Option.bind (seqE [fun σ => Option.bind (Option.bind (σ "told") fun a => Option.bind (σ "low") fun b => binV Operator.Mult a b) fun a => Option.bind (σ "high") fun b => binV Operator.Sub a b] σ) absV) fun a => Option.bind (some (PV.int 1000000000)) fun b => binV Operator.Mult a b) fun a => Option.bind (σ "low") fun b => Option.map PV.bool (cmpV CmpOp.Lt a b)))
      (fun q hq => hf q hq _ (by simp [set_get, capS, h2]) (by simp [set_get]) (by simp [set_get]))
    refine ⟨σ, ret_of (v1 := .list ((l.map f).map .bool)) ?_ (by simp only [anyV, boolsOf_map, Option.map_some]; simp [set_get])⟩
    simp only [h1, Option.bind_some]
    rw [if_pos (pvPairs_pairs l), Option.bind_some, if_pos hlen]
    exact congrArg (Option.map PV.list) hc
  obtain ⟨σ', e⟩ := hret
  show (if t.atom = true ∧ Mine.pairs (pvPairs l) = true then retOf (fitsPack w).1 ["told", "dues"] [t, .rlist (pvPairs l)] else none) = _
  rw [if_pos ⟨ht, pvPairs_pairs l⟩]
  unfold retOf
  rw [e]
  rfl
theorem fits_flt (w : World) (x : UInt64) (l : List (Int × Int)) (hl : l.length < 1000) (hs : ∀ q ∈ l, Small q.1 ∧ Small q.2) : fitsSpec w [.flt x, .rlist (pvPairs l)] = some (.bool (l.any (okF x))) := by
  refine fits_any w _ l (okF x) rfl hl fun q hq σ h1 h2 h3 => ?_
  obtain ⟨s1, s2⟩ := hs q hq
  have s3 : Small 1000000000 := by decide
  simp only [seqE, h1, h2, h3, Option.bind_some, Option.map_some, binV, if_pos s1, if_pos s2, absV, if_pos s3, cmpV]
  rfl
theorem fits_int (w : World) (i : Int) (l : List (Int × Int)) (hl : l.length < 1000) (hi : Small i) (hs : ∀ q ∈ l, Small (if i * q.2 - q.1 < 0 then -(i * q.2 - q.1) else i * q.2 - q.1)) : fitsSpec w [.int i, .rlist (pvPairs l)] = some (.bool (l.any (okI i))) := by
  refine fits_any w _ l (okI i) rfl hl fun q hq σ h1 h2 h3 => ?_
  simp only [seqE, h1, h2, h3, Option.bind_some, Option.map_some, binV, if_pos hi, absV, if_pos (hs q hq), cmpV]
  rfl
theorem ok_near {x : UInt64} {v z : Rat} (hx : FV x v) {hi lo : Int} (h30 : (30 : Rat) ≤ (lo : Rat)) (hlo : lo ≤ 1099511627776) (hz : (hi : Rat) = z * (lo : Rat)) (hc : close v z (710 * dd)) (z1 : z ≤ 200) (z2 : -z ≤ 200) : okF x (hi, lo) = true := by
  rw [dd_eq] at hc
  have h30i : (30 : Int) ≤ lo := by
    exact Rat.intCast_le_intCast.mp h30
  have hlor : (lo : Rat) ≤ 1099511627776 := by
    exact Rat.intCast_le_intCast.mpr hlo
  have hzl := abs_mul_le (a := z) (b := (lo : Rat)) (A := 200) (B := 1099511627776) z1 z2 hlor (by grind)
  have hhi : hi.natAbs ≤ 2 ^ 53 := by
    have e : ((219902325555200 : Int) : Rat) = 219902325555200 := rfl
    have h1 : ((hi : Int) : Rat) ≤ ((219902325555200 : Int) : Rat) := by rw [hz, e]; grind
    have h2 : ((-hi : Int) : Rat) ≤ ((219902325555200 : Int) : Rat) := by rw [Rat.intCast_neg, hz, e]; grind
    have k1 : hi ≤ 219902325555200 := Rat.intCast_le_intCast.mp h1
    have k2 : -hi ≤ 219902325555200 := Rat.intCast_le_intCast.mp h2
    omega
  have xlo := fv_int lo (by omega)
  have xhi := fv_int hi hhi
  -- the size of lo
  obtain ⟨b, hb, B1, B2⟩ : ∃ b : Nat, b ≤ 100 ∧ 256 * (lo : Rat) ≤ (2 : Rat) ^ b ∧ (2 : Rat) ^ b ≤ 512 * (lo : Rat) := by
    have hn0 : lo.toNat ≠ 0 := by omega
    have l1 := Nat.log2_self_le hn0
    have l2 := Nat.lt_log2_self (n := lo.toNat)
    have l3 : lo.toNat.log2 < 41 := (Nat.log2_lt hn0).mpr (by omega)
    refine ⟨lo.toNat.log2 + 9, by omega, ?_, ?_⟩
    · have : 256 * lo.toNat ≤ 2 ^ (lo.toNat.log2 + 9) := by
        have e : 2 ^ (lo.toNat.log2 + 9) = 256 * 2 ^ (lo.toNat.log2 + 1) := by rw [Nat.pow_add, Nat.pow_add]; omega
        rw [e]; omega
      have h : ((256 * lo.toNat : Nat) : Rat) ≤ ((2 ^ (lo.toNat.log2 + 9) : Nat) : Rat) := by exact_mod_cast this
      rw [Rat.natCast_mul, Rat.natCast_pow] at h
      have e : ((lo.toNat : Nat) : Rat) = (lo : Rat) := by
        have : ((lo.toNat : Nat) : Int) = lo := by omega
        exact congrArg (fun z : Int => (z : Rat)) this
      rw [e] at h
      exact h
    · have : 2 ^ (lo.toNat.log2 + 9) ≤ 512 * lo.toNat := by
        have e : 2 ^ (lo.toNat.log2 + 9) = 512 * 2 ^ lo.toNat.log2 := by rw [Nat.pow_add]; omega
        rw [e]; omega
      have h : ((2 ^ (lo.toNat.log2 + 9) : Nat) : Rat) ≤ ((512 * lo.toNat : Nat) : Rat) := by exact_mod_cast this
      rw [Rat.natCast_mul, Rat.natCast_pow] at h
      have e : ((lo.toNat : Nat) : Rat) = (lo : Rat) := by
        have : ((lo.toNat : Nat) : Int) = lo := by omega
        exact congrArg (fun z : Int => (z : Rat)) this
      rw [e] at h
      exact h
  have hbe : (2 : Rat) ^ b / 9007199254740992 ≤ 512 / 9007199254740992 * (lo : Rat) := by grind
  have hvb : v ≤ 201 ∧ -v ≤ 201 := by unfold close at hc; grind
  have hvl := abs_mul_le (a := v) (b := (lo : Rat)) (A := 201) (B := (lo : Rat)) hvb.1 hvb.2 (by grind) (by grind)
  obtain ⟨q1, y1, c1⟩ := fv_mul hx xlo b hb (by grind) (by grind)
  have k1 : close q1 (hi : Rat) (182272 / 9007199254740992 * (lo : Rat)) := by
    rw [hz]
    have m1 := close_mul (a := v) (a' := z) (b := (lo : Rat)) (b' := (lo : Rat)) (e := 710 * (256 / 9007199254740992)) (f := 0) (A := 200) (B := (lo : Rat)) hc (close_refl _) (by grind) (by grind) z1 z2
    have := close_trans (close_wide c1 hbe) m1
    exact close_wide this (by grind)
  obtain ⟨q2, y2, c2⟩ := fv_sub y1 xhi b hb (by unfold close at k1; grind) (by unfold close at k1; grind)
  have k2 : q2 ≤ 182784 / 9007199254740992 * (lo : Rat) ∧ -q2 ≤ 182784 / 9007199254740992 * (lo : Rat) := by
    have := close_wide c2 hbe
    unfold close at this k1
    grind
  have y3 := fv_abs y2
  have k3 : (if q2 < 0 then -q2 else q2) ≤ 182784 / 9007199254740992 * (lo : Rat) ∧ 0 ≤ (if q2 < 0 then -q2 else q2) := by split <;> grind
  generalize (if q2 < 0 then -q2 else q2) = q3 at *
  have xg : FV (Float64.ofInt 1000000000) 1000000000 := fv_int 1000000000 (by decide)
  obtain ⟨q4, y4, c4⟩ := fv_mul y3 xg b hb (by grind) (by grind)
  have k4 : q4 < (lo : Rat) := by
    have := close_wide c4 hbe
    unfold close at this
    grind
  exact fv_cmpInt y4 lo k4
theorem any_near {x : UInt64} {v v' : Rat} (hx : FV x v') (hv : close v' v (10 * dd)) {l : List (Int × Int)} (h : NearDue v l) (hb : ∀ q ∈ l, q.2 ≤ 1099511627776) : l.any (okF x) = true := by
  obtain ⟨q, hq, h30, z, hz, hc, z1, z2⟩ := h
  refine List.any_eq_true.mpr ⟨q, hq, ?_⟩
  exact ok_near hx h30 (hb q hq) hz (close_wide (close_trans hv hc) (by have := dd_pos; grind)) z1 z2
end
section
open PySem PySem.Spec PySem.Calls PyProof.Rows PySem.W
set_option maxRecDepth 100000
set_option maxHeartbeats 8000000
theorem nb_mul {a b : Int} {A B C : Nat} (ha : a.natAbs ≤ A) (hb : b.natAbs ≤ B) (hc : A * B ≤ C) : (a * b).natAbs ≤ C := Nat.le_trans (natAbs_mul_le ha hb) hc
theorem nb_add {a b : Int} {A B C : Nat} (ha : a.natAbs ≤ A) (hb : b.natAbs ≤ B) (hc : A + B ≤ C) : (a + b).natAbs ≤ C := by omega
theorem nb_sub {a b : Int} {A B C : Nat} (ha : a.natAbs ≤ A) (hb : b.natAbs ≤ B) (hc : A + B ≤ C) : (a - b).natAbs ≤ C := by omega
theorem nb_nat {a C : Nat} (h : a ≤ C) : (a : Int).natAbs ≤ C := by omega
theorem nb_lit (a : Int) {C : Nat} (h : a.natAbs ≤ C) : a.natAbs ≤ C := h
theorem top_nb {m n p u t : Nat} (hm : m ≤ 10) (hn : n ≤ 10) (hp : p ≤ 10) (hu : u ≤ 10) (ht : t ≤ 10) : (topI m n p u t).natAbs ≤ 100000 := by
  unfold topI
  refine nb_add (A := 26000) (B := 20000) ?_ ?_ (by decide)
  · refine nb_mul (A := 2600) (B := 10) ?_ (nb_nat hp) (by decide)
    refine nb_mul (A := 130) (B := 20) ?_ ?_ (by decide)
    · exact nb_add (A := 100) (B := 30) (nb_mul (A := 10) (B := 10) (by decide) (nb_nat hp) (by decide)) (nb_mul (A := 3) (B := 10) (by decide) (nb_nat hu) (by decide)) (by decide)
    · exact nb_add (nb_nat hm) (nb_nat hn) (by decide)
  · refine nb_mul (A := 1000) (B := 20) ?_ ?_ (by decide)
    · exact nb_mul (A := 100) (B := 10) (nb_mul (A := 10) (B := 10) (by decide) (nb_nat hm) (by decide)) (nb_nat hn) (by decide)
    · exact nb_sub (nb_nat hp) (nb_nat ht) (by decide)
theorem under_nb {m n p : Nat} (hm : m ≤ 10) (hn : n ≤ 10) (hp : p ≤ 10) : (underI m n p).natAbs ≤ 100000 := by
  unfold underI
  exact nb_mul (A := 3000) (B := 10) (nb_mul (A := 300) (B := 10) (nb_mul (A := 30) (B := 10) (by decide) (nb_nat hm) (by decide)) (nb_nat hn) (by decide)) (nb_nat hp) (by decide)
theorem last_nb {m n p u t same : Nat} (long : Bool) (hm : m ≤ 10) (hn : n ≤ 10) (hp : p ≤ 10) (hu : u ≤ 10) (ht : t ≤ 10) (hs : same ≤ 4) : (lastI m n p u t same long).1.natAbs ≤ 1000000000 ∧ (lastI m n p u t same long).2.natAbs ≤ 1000000000 := by
  have h1 := top_nb hm hn hp hu ht
  have h2 := under_nb hm hn hp
  have hh : (highI m n p u t same).natAbs ≤ 2000000 := by
    unfold highI
    exact nb_add (A := 1000000) (B := 800000) (nb_mul (A := 10) (by decide) h1 (by decide)) (nb_mul (A := 4) (B := 200000) (nb_nat hs) (nb_sub h2 h1 (by decide)) (by decide)) (by decide)
  have hl : (lowI m n p).natAbs ≤ 1000000 := by
    unfold lowI
    exact nb_mul (A := 10) (by decide) h2 (by decide)
  have ha : (allOf m n same).natAbs ≤ 40 := by unfold allOf; omega
  have hmo : (moreI p same).natAbs ≤ 20 := by unfold moreI; omega
  unfold lastI
  cases long with
  | true =>
    simp only [if_true]
    exact ⟨nb_add (nb_mul hh ha (Nat.le_refl _)) (nb_mul (nb_sub hl hh (Nat.le_refl _)) hmo (Nat.le_refl _)) (by decide), nb_mul hl ha (by decide)⟩
  | false =>
    simp only [Bool.false_eq_true, if_false]
    exact ⟨Nat.le_trans hh (by decide), Nat.le_trans hl (by decide)⟩
theorem dues_nb {m n p u t same : Nat} (long : Bool) (hm : m ≤ 10) (hn : n ≤ 10) (hp : p ≤ 10) (hu : u ≤ 10) (ht : t ≤ 10) (hs : same ≤ 4) : (∀ q ∈ duesF m n p u t same long, q.1.natAbs ≤ 1000000000 ∧ q.2.natAbs ≤ 1000000000) ∧ (duesF m n p u t same long).length < 1000 := by
  have h1 := top_nb hm hn hp hu ht
  have h2 := under_nb hm hn hp
  have h3 := last_nb long hm hn hp hu ht hs
  have k1 : (topI m n p u t, underI m n p).1.natAbs ≤ 1000000000 ∧ (topI m n p u t, underI m n p).2.natAbs ≤ 1000000000 := ⟨Nat.le_trans h1 (by decide), Nat.le_trans h2 (by decide)⟩
  unfold duesF
  split
  · exact ⟨fun q hq => by rw [List.mem_singleton.mp hq]; exact k1, by show 1 < 1000; decide⟩
  · split
    · refine ⟨fun q hq => ?_, by show 2 < 1000; decide⟩
      rcases List.mem_cons.mp hq with rfl | hq
      · exact k1
      · rw [List.mem_singleton.mp hq]; exact h3
    · exact ⟨fun q hq => by rw [List.mem_singleton.mp hq]; exact h3, by show 1 < 1000; decide⟩
structure ReckOk (r : Reck) (m n : Nat) : Prop where
  p : r.p ≤ 10
  u : r.u ≤ 10
  t : r.t ≤ r.p
  same : r.same ≤ 4
  long : r.long = true → r.same + 1 ≤ r.p ∧ 2 * r.same ≤ m + n
theorem reck_ok (s t : Str) (b : Bool) (hs : s.length ≤ 10) (_ht : t.length ≤ 10) : ReckOk (reck s t b) s.length t.length := by
  have M : MatOk t.length s.length (matOf s t) := mat_ok s t (reachOf s t) t.length s.length
  have hml := M.mine_len
  have hp : (reck s t b).p = (matOf s t).mine.length := rfl
  have hu : (reck s t b).u = if shortOf s t > (matOf s t).mine.length then (sim s t (matOf s t) s.length).u else 0 := rfl
  have ht' : (reck s t b).t = diffs s t (matOf s t).mine (sortedN t.length (matOf s t).theirs) / 2 := rfl
  have hsame : (reck s t b).same = sameFrom s t (min (shortOf s t) 4) 4 0 := rfl
  have hlong : (reck s t b).long = (b && decide (shortOf s t > 4) && decide ((reck s t b).p > (reck s t b).same + 1) && decide (2 * (reck s t b).p ≥ shortOf s t + (reck s t b).same) && !isDig (ch s 0)) := rfl
  have h4 : (reck s t b).same ≤ 4 := by rw [hsame]; exact Nat.le_trans ((sameFrom_le _ _ _ _ _).2 (Nat.zero_le _)) (Nat.min_le_right _ _)
  refine ⟨by rw [hp]; omega, ?_, ?_, h4, fun h => ?_⟩
  · rw [hu]; split
    · exact Nat.le_trans (sim_u s t (matOf s t) s.length).1 hs
    · omega
  · rw [ht', hp]
    have : diffs s t (matOf s t).mine (sortedN t.length (matOf s t).theirs) ≤ (matOf s t).mine.length := Nat.le_trans (List.length_filter_le _ _) (by simp [set_get])
    omega
  · rw [hlong] at h
    simp only [Bool.and_eq_true, decide_eq_true_eq] at h
    obtain ⟨⟨⟨⟨_, h2⟩, h3⟩, _⟩, _⟩ := h
    unfold shortOf at h2
    omega
theorem one_sub {x : UInt64} {v : Rat} (hx : FV x v) (h1 : v ≤ 202) (h2 : -v ≤ 202) : ∃ v', FV (Float64.sub (Float64.ofInt 1) (Float64.sub (Float64.ofInt 1) x)) v' ∧ close v' v (2 * dd) := by
  have hd := dd_pos
  have hde := dd_eq
  have x1 : FV (Float64.ofInt 1) 1 := fv_int 1 (by decide)
  obtain ⟨q, y, c⟩ := sub8 x1 hx (by grind) (by grind)
  obtain ⟨q2, y2, c2⟩ := sub8 x1 y (by unfold close at c; grind) (by unfold close at c; grind)
  refine ⟨q2, y2, ?_⟩
  unfold close at *
  constructor <;> grind
/-- the answer, and one less the distance, fit -/
theorem answer_fits (w : World) (s t : Str) (b : Bool) (hs : s.length ≤ 10) (ht : t.length ≤ 10) :
    fitsSpec w [callA s t b, .rlist (pvPairs (duesR s t b))] = some (.bool true) ∧
    ∃ d e, binV .Sub (.int 1) (callA s t b) = some d ∧ d.atom = true ∧ binV .Sub (.int 1) d = some e ∧ fitsSpec w [e, .rlist (pvPairs (duesR s t b))] = some (.bool true) := by
  have s1 : Small 1 := by decide
  unfold callA duesR
  by_cases hst : s = t
  · rw [if_pos hst, if_pos hst]
    refine ⟨by rw [fits_int w 1 [(1, 1)] (by decide) (by decide) (by decide)]; rfl, .int 0, .int 1, rfl, rfl, rfl, ?_⟩
    rw [fits_int w 1 [(1, 1)] (by decide) (by decide) (by decide)]; rfl
  rw [if_neg hst, if_neg hst]
  by_cases h0 : s.length = 0 ∨ t.length = 0
  · rw [if_pos h0, if_pos h0]
    refine ⟨by rw [fits_int w 0 [(0, 1)] (by decide) (by decide) (by decide)]; rfl, .int 1, .int 0, rfl, rfl, rfl, ?_⟩
    rw [fits_int w 0 [(0, 1)] (by decide) (by decide) (by decide)]; rfl
  rw [if_neg h0, if_neg h0]
  have hsub : ∀ x, binV .Sub (.int 1) (.flt x) = some (.flt (Float64.sub (Float64.ofInt 1) x)) := fun x => by simp only [binV]; rw [if_pos s1]
  by_cases hp : (reck s t b).p = 0
  · rw [if_pos hp, if_pos hp]
    have sm : ∀ q ∈ [((0 : Int), (1 : Int))], Small q.1 ∧ Small q.2 := fun q hq => by rw [List.mem_singleton.mp hq]; exact ⟨by decide, by decide⟩
    refine ⟨by rw [fits_flt w 0 [(0, 1)] (by decide) sm]; kernel_rfl, _, _, hsub _, rfl, hsub _, ?_⟩
    rw [fits_flt w _ [(0, 1)] (by decide) sm]; kernel_rfl
  · rw [if_neg hp, if_neg hp]
    have K := reck_ok s t b hs ht
    have hs0 : s.length ≠ 0 := fun q => h0 (.inl q)
    have ht0 : t.length ≠ 0 := fun q => h0 (.inr q)
    obtain ⟨v, xv, near⟩ := callF_near s.length t.length (reck s t b).p (reck s t b).u (reck s t b).t (reck s t b).same (reck s t b).long ⟨by omega, hs⟩ ⟨by omega, ht⟩ ⟨by omega, K.p⟩ K.u K.t K.same K.long
    obtain ⟨nb, nl⟩ := dues_nb (reck s t b).long hs ht K.p K.u (Nat.le_trans K.t K.p) K.same
    generalize callF s.length t.length (reck s t b).p (reck s t b).u (reck s t b).t (reck s t b).same (reck s t b).long = x at *
    generalize duesF s.length t.length (reck s t b).p (reck s t b).u (reck s t b).t (reck s t b).same (reck s t b).long = l at *
    have sm : ∀ q ∈ l, Small q.1 ∧ Small q.2 := fun q hq => ⟨Nat.lt_of_le_of_lt (nb q hq).1 (by decide), Nat.lt_of_le_of_lt (nb q hq).2 (by decide)⟩
    have hb : ∀ q ∈ l, q.2 ≤ 1099511627776 := fun q hq => by have := (nb q hq).2; omega
    have hvb : v ≤ 202 ∧ -v ≤ 202 := by
      obtain ⟨q, _, _, z, _, hc, z1, z2⟩ := near
      have hd := dd_pos
      have hde := dd_eq
      unfold close at hc
      grind
    have hd := dd_pos
    refine ⟨?_, _, _, hsub _, rfl, hsub _, ?_⟩
    · rw [fits_flt w x l nl sm, any_near xv (close_wide (close_refl v) (by grind)) near hb]
    · obtain ⟨v', xv', c'⟩ := one_sub xv hvb.1 hvb.2
      rw [fits_flt w _ l nl sm, any_near xv' (close_wide c' (by grind)) near hb]
end
section
open PySem PySem.Spec PySem.Calls PyProof.Rows PySem.W
set_option maxRecDepth 100000
set_option maxHeartbeats 8000000
/-- the signs that come up -/
def alpha : List Nat := [65, 69, 73, 79, 85, 66, 86, 89, 67, 71, 70, 87, 88, 75, 83, 90, 81, 77, 78, 76, 80, 82, 74, 84, 50, 53, 56, 49, 48]
theorem alpha_range : ∀ c ∈ alpha, 0 < c ∧ c < 91 := by decide
theorem alpha_dig : ∀ c ∈ alpha, Txt.isdigit ⟨#[c]⟩ = isDig c := by decide +kernel
theorem alpha_up : ∀ c ∈ alpha, Unicode.upperOf c = [c] ∧ Unicode.isSpace c = false := by decide +kernel
theorem alpha_low : ∀ c ∈ alpha, ∃ d, Unicode.lowerOf c = [d] ∧ Unicode.upperOf d = [c] ∧ Unicode.isSpace d = false ∧ c ≠ 0x3A3 := by
  have h : (alpha.all fun c => match Unicode.lowerOf c with | [d] => Unicode.upperOf d == [c] && !Unicode.isSpace d && c != 0x3A3 | _ => false) = true := by decide +kernel
  intro c hc
  have := List.all_eq_true.mp h c hc
  revert this
  cases hl : Unicode.lowerOf c with
  | nil => intro h; cases h
  | cons d r =>
    cases r with
    | nil =>
      intro h
      simp only [Bool.and_eq_true, beq_iff_eq, Bool.not_eq_true', bne_iff_ne] at h
      exact ⟨d, rfl, h.1.1, h.1.2, h.2⟩
    | cons => intro h; cases h
theorem space_up : Unicode.upperOf 32 = [32] ∧ Unicode.lowerOf 32 = [32] ∧ Unicode.isSpace 32 = true := by decide +kernel
def spN : List (Nat × Nat) := [(65,69),(65,73),(65,79),(65,85),(66,86),(69,73),(69,79),(69,85),(73,79),(73,85),(79,85),(73,89),(69,89),(67,71),(69,70),(87,85),(87,86),(88,75),(83,90),(88,83),(81,67),(85,86),(77,78),(76,73),(81,79),(80,82),(73,74),(50,90),(53,83),(56,66),(49,73),(49,76),(48,79),(48,81),(67,75),(71,74)]
theorem sp_eq : spPairs = spN.map fun p => (⟨#[p.1]⟩, ⟨#[p.2]⟩) := by kernel_rfl
def txtOf : List (Nat × Nat) → List Nat
  | [] => []
  | [p] => [p.1, p.2]
  | p :: q :: r => p.1 :: p.2 :: 32 :: txtOf (q :: r)
theorem alike_eq : alikeText = ⟨(txtOf spN).toArray⟩ := by kernel_rfl
def adj (a b : Nat) : List Nat → Bool
  | x :: y :: r => (x == a && y == b) || adj a b (y :: r)
  | _ => false
theorem adj_txt {a b : Nat} (ha : a ≠ 32) (hb : b ≠ 32) : ∀ l, adj a b (txtOf l) = l.any fun p => p.1 == a && p.2 == b
  | [] => rfl
  | [p] => by simp [set_get, txtOf, adj]
  | p :: q :: r => by
    have ih := adj_txt ha hb (q :: r)
    have e1 : (32 == b) = false := by simpa using fun h => hb h.symm
    have e2 : (32 == a) = false := by simpa using fun h => ha h.symm
    have hne : ∃ x z, txtOf (q :: r) = x :: z := by cases r <;> exact ⟨_, _, rfl⟩
    obtain ⟨x, z, hxz⟩ := hne
    rw [List.any_cons, ← ih]
    show adj a b (p.1 :: p.2 :: 32 :: txtOf (q :: r)) = _
    rw [hxz]
    simp [set_get, adj, e1, e2]
theorem adj_iff (a b : Nat) : ∀ l : List Nat, adj a b l = true ↔ ∃ i, i + 2 ≤ l.length ∧ l[i]? = some a ∧ l[i + 1]? = some b
  | [] => by simp [set_get, adj]
  | [x] => by
    simp only [adj, Bool.false_eq_true, false_iff, not_exists, not_and, List.length_singleton]
    intro i hi; omega
  | x :: y :: r => by
    rw [adj, Bool.or_eq_true, adj_iff a b (y :: r)]
    constructor
    · rintro (h | ⟨i, h1, h2, h3⟩)
      · simp only [Bool.and_eq_true, beq_iff_eq] at h
        exact ⟨0, by simp [set_get], by simp [set_get, h.1], by simp [set_get, h.2]⟩
      · exact ⟨i + 1, by simp only [List.length_cons] at h1 ⊢; omega, by simpa using h2, by simpa using h3⟩
    · rintro ⟨i, h1, h2, h3⟩
      cases i with
      | zero => exact .inl (by simp at h2 h3; simp [set_get, h2, h3])
      | succ i => exact .inr ⟨i, by simp only [List.length_cons] at h1 ⊢; omega, by simpa using h2, by simpa using h3⟩
theorem contains_two (l : List Nat) (a b : Nat) : Txt.contains ⟨l.toArray⟩ ⟨#[a, b]⟩ = adj a b l := by
  rw [Bool.eq_iff_iff, adj_iff]
  show (!(Builtin.Str.occurrences ⟨l.toArray⟩ ⟨#[a, b]⟩ 0 (Str.length ⟨l.toArray⟩) 1).isEmpty) = true ↔ _
  rw [StrLaws.found_iff]
  have hl : (⟨l.toArray⟩ : Str).length = l.length := by show l.toArray.size = _; simp [set_get]
  have h2 : (⟨#[a, b]⟩ : Str).length = 2 := rfl
  rw [hl, h2]
  refine exists_congr fun i => and_congr_right fun hi => ?_
  unfold Builtin.Str.subAt
  rw [h2, beq_iff_eq]
  constructor
  · intro h
    have e0 := congrArg (fun s : Array Nat => s[0]?) h
    have e1 := congrArg (fun s : Array Nat => s[1]?) h
    simp only [Array.getElem?_extract] at e0 e1
    have m : min (i + 2) l.length = i + 2 := by omega
    simp only [List.size_toArray, m] at e0 e1
    have q0 : 0 < i + 2 - i := by omega
    have q1 : 1 < i + 2 - i := by omega
    rw [if_pos q0] at e0
    rw [if_pos q1] at e1
    exact ⟨by simpa using e0, by simpa using e1⟩
  · rintro ⟨e0, e1⟩
    apply Array.ext_getElem?
    intro k
    simp only [Array.getElem?_extract, List.size_toArray]
    have m : min (i + 2) l.length = i + 2 := by omega
    rw [m]
    have d : i + 2 - i = 2 := by omega
    rw [d]
    match k with
    | 0 => simpa using e0
    | 1 => simpa using e1
    | k + 2 =>
      simp [set_get]
      omega
theorem lalike_nat {a b : Nat} (ha : a ≠ 32) (hb : b ≠ 32) : lalike a b = ((spN.any fun p => p.1 == a && p.2 == b) || (spN.any fun p => p.1 == b && p.2 == a)) := by
  unfold lalike
  rw [alike_eq, contains_two, contains_two, adj_txt ha hb, adj_txt hb ha]
theorem pairTab_nat (a b : Nat) : pairTab spPairs ⟨#[a]⟩ ⟨#[b]⟩ = spN.any fun p => (p.1 == a && p.2 == b) || (p.2 == a && p.1 == b) := by
  rw [sp_eq]
  unfold pairTab
  rw [List.any_map]
  congr 1
  funext p
  have h : ∀ x y : Nat, decide ((⟨#[x]⟩ : Str) = ⟨#[y]⟩) = (x == y) := fun x y => by
    rw [Bool.eq_iff_iff, decide_eq_true_eq, beq_iff_eq]
    constructor
    · intro h; have := congrArg (fun s : Str => s.cps.getD 0 0) h; simpa using this
    · intro h; rw [h]
  simp only [Function.comp, h]
theorem any_or' (l : List (Nat × Nat)) (f g : Nat × Nat → Bool) : (l.any fun p => f p || g p) = (l.any f || l.any g) := by
  induction l with
  | nil => rfl
  | cons p l ih => simp only [List.any_cons, ih]; cases f p <;> cases g p <;> cases l.any f <;> cases l.any g <;> rfl
theorem tab_lalike {a b : Nat} (ha : a ≠ 32) (hb : b ≠ 32) : pairTab spPairs ⟨#[a]⟩ ⟨#[b]⟩ = lalike a b := by
  rw [pairTab_nat, lalike_nat ha hb, any_or']
  congr 1
  congr 1
  funext p
  cases (p.1 == b) <;> cases (p.2 == a) <;> rfl
/-- texts of such signs -/
def Tx (x : Str) : Prop := ∀ c ∈ x.cps.toList, c ∈ alpha
theorem Tx.at {x : Str} (h : Tx x) {i : Nat} (hi : i < x.length) : ch x i ∈ alpha := by
  refine h _ ?_
  have hi' : i < x.cps.size := hi
  have : ch x i = x.cps.toList[i]'(by simpa using hi') := by
    unfold ch
    simp [set_get, Array.getD, hi']
  rw [this]
  exact List.getElem_mem _
theorem text_ok {s t : Str} (hs : Tx s) (ht : Tx t) (ls : s.length ≤ 10) (lt : t.length ≤ 10) (s0 : s.length ≠ 0) (t0 : t.length ≠ 0) : TextOk s t := by
  refine ⟨ls, lt, by omega, by omega, fun i hi => alpha_range _ (hs.at hi), fun j hj => alpha_range _ (ht.at hj), fun i j hi hj => ?_, fun i hi => alpha_dig _ (hs.at hi)⟩
  have h32 : ∀ c ∈ alpha, c ≠ 32 := by decide
  exact tab_lalike (h32 _ (hs.at hi)) (h32 _ (ht.at hj))
end
section
open PySem PySem.Spec PySem.Calls PyProof.Rows PySem.W
set_option maxRecDepth 100000
set_option maxHeartbeats 8000000
theorem Str.ofList {a b : Str} (h : a.cps.toList = b.cps.toList) : a = b := Str.eqOf (by rw [← Array.toArray_toList (xs := a.cps), ← Array.toArray_toList (xs := b.cps), h])
theorem mapIdx_single (g : Nat → Nat) : ∀ (l : List Nat) (f : Nat → Nat → List Nat), (∀ i c, l[i]? = some c → f i c = [g c]) → (l.mapIdx f).flatten = l.map g
  | [], _, _ => rfl
  | a :: l, f, h => by
    rw [List.mapIdx_cons, List.flatten_cons, h 0 a rfl, mapIdx_single g l (fun i => f (i + 1)) (fun i c e => h (i + 1) c (by simpa using e))]
    rfl
theorem placed_single (g : Nat → Nat) (x : Str) (f : Nat → Nat → List Nat) (h : ∀ i c, x.cps[i]? = some c → f i c = [g c]) : (placed x f).toList = x.cps.toList.map g := by
  unfold placed
  rw [Array.toList_flatten, Array.toList_mapIdx]
  have : ∀ l : List Nat, (List.mapIdx (fun i c => (f i c).toArray) l).map Array.toList = List.mapIdx f l := by
    intro l
    apply List.ext_getElem <;> simp [set_get]
  rw [this]
  exact mapIdx_single g _ f fun i c e => h i c (by simpa using e)
theorem upper_of {x : Str} (g : Nat → Nat) (h : ∀ c ∈ x.cps.toList, Unicode.upperOf c = [g c]) : (Txt.upper x).cps.toList = x.cps.toList.map g :=
  placed_single g x _ fun i c e => h c (by rw [← Array.getElem?_toList] at e; exact List.mem_of_getElem? e)
def low (c : Nat) : Nat := (Unicode.lowerOf c).headD 0
theorem low_spec {c : Nat} (h : c ∈ alpha) : Unicode.lowerOf c = [low c] ∧ Unicode.upperOf (low c) = [c] ∧ Unicode.isSpace (low c) = false ∧ c ≠ 0x3A3 := by
  obtain ⟨d, h1, h2, h3, h4⟩ := alpha_low c h
  have : low c = d := by unfold low; rw [h1]; rfl
  rw [this]
  exact ⟨h1, h2, h3, h4⟩
theorem lower_of {x : Str} (h : Tx x) : (Txt.lower x).cps.toList = x.cps.toList.map low :=
  placed_single low x _ fun i c e => by
    have hc : c ∈ alpha := h c (by rw [← Array.getElem?_toList] at e; exact List.mem_of_getElem? e)
    obtain ⟨h1, _, _, h4⟩ := low_spec hc
    show (match x.cps[i]? with | none => [] | some c => if (c == 0x3A3 && Unicode.endsWord x.cps i) = true then [0x3C2] else Unicode.lowerOf c) = _
    rw [e]
    have : (c == 0x3A3) = false := by simpa using h4
    simp only [this, Bool.false_and, Bool.false_eq_true, if_false]
    exact h1
theorem takeWhile_all {p : Nat → Bool} : ∀ {l : List Nat}, (∀ a ∈ l, p a = true) → l.takeWhile p = l
  | [], _ => rfl
  | a :: l, h => by rw [List.takeWhile_cons_of_pos (h a List.mem_cons_self), takeWhile_all fun b hb => h b (List.mem_cons_of_mem _ hb)]
theorem strip_mid {y : Str} {A M B : List Nat} (hy : y.cps.toList = A ++ (M ++ B)) (hA : ∀ c ∈ A, Unicode.isSpace c = true) (hM : ∀ c ∈ M, Unicode.isSpace c = false) (hB : ∀ c ∈ B, Unicode.isSpace c = true) : (Txt.strip y).cps.toList = M := by
  have hlen : y.length = A.length + (M.length + B.length) := by
    show y.cps.size = _
    rw [← Array.length_toList, hy]; simp [set_get]
  have form : (Txt.strip y).cps.toList = (y.cps.toList.drop (stripLo Unicode.isSpace true y)).take (stripHi Unicode.isSpace true y (stripLo Unicode.isSpace true y) - stripLo Unicode.isSpace true y) := by
    unfold Txt.strip Txt.stripBy
    split
    · rename_i h
      unfold stripSame at h
      simp only [Bool.and_eq_true, beq_iff_eq] at h
      obtain ⟨hA0, hB0⟩ := h
      rw [hB0, hA0]
      simp only [List.drop_zero, Nat.sub_zero]
      rw [List.take_of_length_le]
      show y.cps.toList.length ≤ y.cps.size
      simp [set_get]
    · unfold PySem.stripped Builtin.Str.strSub
      show (y.cps.extract _ _).toList = _
      rw [Array.toList_extract]
  rw [form]
  cases M with
  | nil =>
    have h1 : stripLo Unicode.isSpace true y = y.length := by
      unfold stripLo
      rw [hy]
      simp only [List.nil_append, if_true]
      rw [takeWhile_all (fun a ha => (List.mem_append.mp ha).elim (hA a) (hB a)), hlen]; simp [set_get]
    rw [h1, List.drop_eq_nil_of_le (by rw [Array.length_toList]; exact Nat.le_refl _)]
    simp [set_get]
  | cons m M =>
    have hm := hM m List.mem_cons_self
    have h1 : stripLo Unicode.isSpace true y = A.length := by
      unfold stripLo
      rw [hy]
      simp only [if_true]
      rw [List.takeWhile_append_of_pos hA, List.cons_append, List.takeWhile_cons_of_neg (by simp [set_get, hm])]; simp [set_get]
    have h2 : stripHi Unicode.isSpace true y A.length = A.length + (m :: M).length := by
      unfold stripHi
      rw [hy]
      simp only [if_true]
      rw [List.drop_left, List.reverse_append, List.takeWhile_append_of_pos (fun a ha => hB a (List.mem_reverse.mp ha))]
      have h3 : (m :: M).reverse.takeWhile Unicode.isSpace = [] := by
        cases hr : (m :: M).reverse with
        | nil => rfl
        | cons z zs =>
          have hz : z ∈ (m :: M) := List.mem_reverse.mp (by rw [hr]; exact List.mem_cons_self)
          rw [List.takeWhile_cons_of_neg (by simp [set_get, hM z hz])]
      rw [h3, List.append_nil, List.length_reverse, hlen]; omega
    rw [h1, h2, hy, List.drop_left, Nat.add_sub_cancel_left, List.take_left]
theorem up_plain {x : Str} (h : Tx x) (hl : x.length < 1000) : (stripV (.str x)).bind upperV = some (.str x) := by
  have hs : Txt.strip x = x := Str.ofList (strip_mid (A := []) (B := []) (by simp [set_get]) (fun _ h => nomatch h) (fun c hc => (alpha_up c (h c hc)).2) (fun _ h => nomatch h))
  have hu : Txt.upper x = x := Str.ofList (by rw [upper_of id (fun c hc => (alpha_up c (h c hc)).1)]; simp [set_get])
  show (if x.length < 1000 then some (PV.str (Txt.strip x)) else none).bind upperV = _
  rw [if_pos hl, hs, Option.bind_some]
  show (if (Txt.upper x).length < 1000 then some (PV.str (Txt.upper x)) else none) = _
  rw [hu, if_pos hl]
theorem up_wrapped {x y : Str} (h : Tx x) (hl : x.length < 1000) (hy2 : y.length < 1000) (A B : List Nat) (hA : ∀ c ∈ A, c = 32) (hB : ∀ c ∈ B, c = 32) (hy : y.cps.toList = A ++ ((Txt.lower x).cps.toList ++ B)) : (stripV (.str y)).bind upperV = some (.str x) := by
  have hsp := space_up.2.2
  have hs : (Txt.strip y).cps.toList = x.cps.toList.map low := by
    rw [lower_of h] at hy
    refine strip_mid hy (fun c hc => by rw [hA c hc]; exact hsp) (fun c hc => ?_) (fun c hc => by rw [hB c hc]; exact hsp)
    obtain ⟨d, hd, rfl⟩ := List.mem_map.mp hc
    exact (low_spec (h d hd)).2.2.1
  have hu : Txt.upper (Txt.strip y) = x := by
    apply Str.ofList
    have : ∀ c ∈ (Txt.strip y).cps.toList, Unicode.upperOf c = [(Unicode.upperOf c).headD 0] := by
      intro c hc
      rw [hs] at hc
      obtain ⟨d, hd, rfl⟩ := List.mem_map.mp hc
      rw [(low_spec (h d hd)).2.1]; rfl
    rw [upper_of _ this, hs, List.map_map]
    have : ∀ l : List Nat, (∀ c ∈ l, c ∈ alpha) → l.map ((fun c => (Unicode.upperOf c).headD 0) ∘ low) = l := by
      intro l
      induction l with
      | nil => intro _; rfl
      | cons a l ih =>
        intro hl
        rw [List.map_cons, ih fun c hc => hl c (List.mem_cons_of_mem _ hc)]
        show (Unicode.upperOf (low a)).headD 0 :: l = _
        rw [(low_spec (hl a List.mem_cons_self)).2.1]; rfl
    exact this _ h
  show (if y.length < 1000 then some (PV.str (Txt.strip y)) else none).bind upperV = _
  rw [if_pos hy2, Option.bind_some]
  show (if (Txt.upper (Txt.strip y)).length < 1000 then some (PV.str (Txt.upper (Txt.strip y))) else none) = _
  rw [hu, if_pos hl]
theorem Tx.app {a b : Str} (ha : Tx a) (hb : Tx b) : Tx (a ++ b) := by
  intro c hc
  have : (a ++ b).cps.toList = a.cps.toList ++ b.cps.toList := by show (a.cps ++ b.cps).toList = _; simp [set_get]
  rw [this] at hc
  exact (List.mem_append.mp hc).elim (ha c) (hb c)
theorem Tx.nil : Tx (Str.ofString "") := by intro c hc; cases hc
theorem Tx.chr {x : Str} (h : Tx x) {i : Nat} (hi : i < x.length) : Tx (chr x i) := by
  intro c hc
  have : c = ch x i := by
    have : (Mine.chr x i).cps.toList = [ch x i] := rfl
    rw [this] at hc; exact List.mem_singleton.mp hc
  rw [this]; exact h.at hi
theorem Tx.slice {x : Str} (h : Tx x) (l u : Option Int) : Tx (Txt.slice x l u) := by
  intro c hc
  unfold Txt.slice at hc
  split at hc
  · exact h c hc
  · rw [List.toList_toArray] at hc
    obtain ⟨i, _, hi⟩ := List.mem_filterMap.mp hc
    rw [← Array.getElem?_toList] at hi
    exact h c (List.mem_of_getElem? hi)
theorem slice_len (x : Str) (l u : Option Int) : (Txt.slice x l u).length ≤ (Builtin.Str.strSliceIndices l u 1 x.length).length := by
  unfold Txt.slice
  split
  · rename_i h
    simp only [beq_self_eq_true, Bool.true_and, beq_iff_eq] at h
    exact Nat.le_of_eq h.symm
  · show (List.filterMap _ _).toArray.size ≤ _
    rw [List.size_toArray]
    exact List.length_filterMap_le _ _
theorem idx_to (b : Int) (n : Nat) (h : 0 ≤ b) : (Builtin.Str.strSliceIndices none (some b) 1 n).length ≤ min b.toNat n := by
  unfold Builtin.Str.strSliceIndices sliceRange
  simp only [show (1 : Int) > 0 by decide, if_true, List.length_map, List.length_range, Int.ediv_one]
  split <;> (try split) <;> (try split) <;> omega
theorem idx_from (a : Int) (n : Nat) (h : 0 ≤ a) : (Builtin.Str.strSliceIndices (some a) none 1 n).length ≤ n - a.toNat := by
  unfold Builtin.Str.strSliceIndices sliceRange
  simp only [show (1 : Int) > 0 by decide, if_true, List.length_map, List.length_range, Int.ediv_one]
  split <;> (try split) <;> (try split) <;> omega
theorem idx_mid (a b : Int) (n : Nat) (h : 0 ≤ a) (h2 : 0 ≤ b) : (Builtin.Str.strSliceIndices (some a) (some b) 1 n).length ≤ min b.toNat n - a.toNat := by
  unfold Builtin.Str.strSliceIndices sliceRange
  simp only [show (1 : Int) > 0 by decide, if_true, List.length_map, List.length_range, Int.ediv_one]
  split <;> (try split) <;> (try split) <;> omega
theorem app_len (a b : Str) : (a ++ b).length = a.length + b.length := by show (a.cps ++ b.cps).size = _; simp [set_get]; rfl
theorem lower_len {x : Str} (h : Tx x) : (Txt.lower x).length = x.length := by
  have := congrArg List.length (lower_of h)
  simp only [List.length_map, Array.length_toList] at this
  exact this
/-- glued without a sign between -/
theorem join_tx : ∀ {ys : List Str}, (∀ y ∈ ys, y.length = 1 ∧ Tx y) → Tx (Txt.join (Str.ofString "") ys) ∧ (Txt.join (Str.ofString "") ys).length = ys.length := by
  intro ys h
  have e : Txt.join (Str.ofString "") ys = Str.join (Str.ofString "") ys := StrLaws.glued_eq_join _ _
  rw [e]
  induction ys with
  | nil => exact ⟨(fun c hc => by cases hc), rfl⟩
  | cons a l ih =>
    have ih := ih (fun y hy => h y (List.mem_cons_of_mem _ hy)) (StrLaws.glued_eq_join _ _)
    have ha := h a List.mem_cons_self
    cases l with
    | nil => exact ⟨ha.2, ha.1⟩
    | cons b l =>
      have e2 : Str.join (Str.ofString "") (a :: b :: l) = a ++ Str.ofString "" ++ Str.join (Str.ofString "") (b :: l) := rfl
      rw [e2]
      refine ⟨(ha.2.app Tx.nil).app ih.1, ?_⟩
      rw [app_len, app_len, ih.2, ha.1]
      show 1 + 0 + _ = _
      simp only [List.length_cons]; omega
theorem letters_tx : Tx (Str.ofString "AEOISZ501LT") := by unfold Tx; decide +kernel
theorem rt_tx : Tx (Str.ofString "RT") ∧ Tx (Str.ofString "RTT") := by unfold Tx; decide +kernel
theorem pair_ok : ∀ k : Nat, k < 36 → (Txt.slice alikeText (some ((k : Int) * 3)) (some ((k : Int) * 3 + 2))).length = 2 ∧ ∀ c ∈ (Txt.slice alikeText (some ((k : Int) * 3)) (some ((k : Int) * 3 + 2))).cps.toList, c ∈ alpha := by decide +kernel
end
section
open PySem PySem.Spec PySem.Calls PyProof.Rows PySem.W
set_option maxRecDepth 100000
set_option maxHeartbeats 8000000
theorem compL_texts {σ : Store} {x : String} {g : DE} : ∀ {l : List PV}, (∀ v ∈ l, v.atom = true ∧ ∃ y : Str, g (σ.set x v) = some (.str y) ∧ y.length = 1 ∧ Tx y) →
    ∃ ys : List Str, compL σ (cb1 x) (fun _ => some true) g l = some (ys.map .str) ∧ ys.length = l.length ∧ ∀ y ∈ ys, y.length = 1 ∧ Tx y
  | [], _ => ⟨[], rfl, rfl, fun _ h => nomatch h⟩
  | v :: l, h => by
    obtain ⟨ys, e, h1, h2⟩ := compL_texts (l := l) fun u hu => h u (List.mem_cons_of_mem _ hu)
    obtain ⟨ha, y, hy, y1, y2⟩ := h v List.mem_cons_self
    refine ⟨y :: ys, ?_, by simp [set_get, h1], fun z hz => ?_⟩
    · simp only [compL, cb1, ha, if_true, Option.bind_some, setL, hy, e, Option.map_some, List.map_cons]
      rw [if_pos (show (PV.str y).atom = true from rfl)]
    · rcases List.mem_cons.mp hz with rfl | hz
      · exact ⟨y1, y2⟩
      · exact h2 z hz
theorem strsOf_map : ∀ ys : List Str, strsOf (ys.map .str) = some ys
  | [] => rfl
  | y :: ys => by simp [set_get, strsOf, strsOf_map ys]
theorem sum_ones {ys : List Str} (h : ∀ y ∈ ys, y.length = 1 ∧ Tx y) : (ys.map (·.length)).sum = ys.length := by
  induction ys with
  | nil => rfl
  | cons a l ih =>
    rw [List.map_cons, List.sum_cons, ih fun y hy => h y (List.mem_cons_of_mem _ hy), (h a List.mem_cons_self).1, List.length_cons]; omega
/-- a sign of the letters -/
theorem letter_at (i : Int) : ∃ y : Str, subV (.str (Str.ofString "AEOISZ501LT")) (.int (i.fmod 11)) = some (.str y) ∧ y.length = 1 ∧ Tx y := by
  have h0 : 0 ≤ i.fmod 11 := Int.fmod_nonneg_of_pos _ (by decide)
  have h1 : i.fmod 11 < 11 := Int.fmod_lt_of_pos _ (by decide)
  have hl : (Str.ofString "AEOISZ501LT").length = 11 := by decide +kernel
  have e : i.fmod 11 = ((i.fmod 11).toNat : Int) := by omega
  rw [e]
  refine ⟨_, subV_str (by rw [hl]; omega) (by rw [hl]; decide), rfl, letters_tx.chr (by rw [hl]; omega)⟩
theorem intsOf_map : ∀ ns : List Int, intsOf (ns.map .int) = some ns
  | [] => rfl
  | n :: ns => by simp [set_get, intsOf, intsOf_map ns]
theorem mapint_atoms (l : List Int) : (l.map PV.int).all PV.atom = true := by simp [set_get, PV.atom]
theorem add_str {a b : Str} (h : a.length + b.length ≤ 1000) : binV .Add (.str a) (.str b) = some (.str (a ++ b)) := by simp only [binV]; rw [if_pos h]
theorem prefix_read (w : World) (ns : List Int) (hlen : ns.length ≤ 63) (σ : Store) (h0 : σ "script" = some (.rlist (ns.map .int))) :
    Ex (lawPre w).1 σ (fun σ' fl => fl = .next ∧ ∃ (b : Bool) (first second one other near off : Str), Tx first ∧ Tx second ∧ first.length ≤ 10 ∧ second.length ≤ 10 ∧ Tx near ∧ Tx off ∧ near.length = 3 ∧ off.length = 3 ∧
      (stripV (.str one)).bind upperV = some (.str first) ∧ (stripV (.str other)).bind upperV = some (.str second) ∧
      σ' "stretch" = some (.bool b) ∧ σ' "one" = some (.str one) ∧ σ' "other" = some (.str other) ∧ σ' "near" = some (.str near) ∧ σ' "off" = some (.str off) ∧
        σ' "dues" = some (.rlist (pvPairs (duesR first second b))) ∧ σ' "paired" = some (.rlist (pvPairs (duesR near off b))) ∧ σ' "alone" = some (.rlist (pvPairs (duesR near (Str.ofString "RTT") b)))) := by
  -- the head
  obtain ⟨head, hhead⟩ : ∃ h : Int, (Option.bind (Option.bind (σ "script") truthV) fun x => if x = true then Option.bind (σ "script") fun a => Option.bind (some (PV.int 0)) fun b => subV a b else some (PV.int 0)) = some (.int h) := by
    have hl : (ns.map PV.int).length < 1000 := by rw [List.length_map]; omega
    cases ns with
    | nil => exact ⟨0, by simp [set_get, h0, truthV]⟩
    | cons n ns =>
      refine ⟨n, ?_⟩
      have hl2 : ns.length + 1 < 1000 := by simpa using hl
      simp [set_get, h0, truthV, subV, hl2]
  have m0 : 0 ≤ head.fmod 7 := Int.fmod_nonneg_of_pos _ (by decide)
  have m1 : head.fmod 7 < 7 := Int.fmod_lt_of_pos _ (by decide)
  have w0 : 0 ≤ (head.fdiv 14).fmod 4 := Int.fmod_nonneg_of_pos _ (by decide)
  have w1 : (head.fdiv 14).fmod 4 < 4 := Int.fmod_lt_of_pos _ (by decide)
  generalize hway : (head.fdiv 14).fmod 4 = way at *
  obtain ⟨many, hmany⟩ : ∃ many : Nat, 1 + head.fmod 7 = (many : Int) := ⟨(1 + head.fmod 7).toNat, by omega⟩
  have hm7 : many ≤ 7 := by omega
  generalize hb : ((head.fdiv 7).fmod 2 == 1) = b
  unfold lawPre
  dsimp only
  refine Ex.seq (σ1 := σ.set "head" (.int head)) ?_ ?_
  · refine (congrArg (fun o => Option.bind o _) hhead).trans ?_
    simp [set_get, PV.imm]
  refine Ex.seq (σ1 := (σ.set "head" (.int head)).set "letters" (.str (Str.ofString "AEOISZ501LT"))) (by simp [set_get, PV.imm]) ?_
  refine Ex.seq (σ1 := ((((σ.set "head" (.int head)).set "letters" (.str (Str.ofString "AEOISZ501LT"))).set "way" (.int way)).set "stretch" (.bool b)).set "many" (.int (many : Nat))) ?_ ?_
  · have e1 : binV .Mod (.int head) (.int 7) = some (.int (head.fmod 7)) := by simp only [binV]; rw [if_pos (by decide)]
    have e2 : binV .FloorDiv (.int head) (.int 7) = some (.int (head.fdiv 7)) := by simp only [binV]; rw [if_pos (by decide)]
    have e3 : binV .Mod (.int (head.fdiv 7)) (.int 2) = some (.int ((head.fdiv 7).fmod 2)) := by simp only [binV]; rw [if_pos (by decide)]
    have e4 : binV .FloorDiv (.int head) (.int 14) = some (.int (head.fdiv 14)) := by simp only [binV]; rw [if_pos (by decide)]
    have e5 : binV .Mod (.int (head.fdiv 14)) (.int 4) = some (.int way) := by simp only [binV]; rw [if_pos (by decide), hway]
    have e6 : binV .Add (.int 1) (.int (head.fmod 7)) = some (.int (many : Nat)) := by rw [← hmany]; rfl
    simp only [seqE, set_get, reduceIte, String.reduceEq, Option.bind_some, Option.map_some, e1, e2, e3, e4, e5, e6, cmpV, hb]
    rfl
  generalize hσ : ((((σ.set "head" (.int head)).set "letters" (.str (Str.ofString "AEOISZ501LT"))).set "way" (.int way)).set "stretch" (.bool b)).set "many" (.int (many : Nat)) = σ1
  have f0 : σ1 "script" = some (.rlist (ns.map .int)) := by subst hσ; simp [set_get, h0]
  have f1 : σ1 "letters" = some (.str (Str.ofString "AEOISZ501LT")) := by subst hσ; simp [set_get]
  have f2 : σ1 "way" = some (.int way) := by subst hσ; simp [set_get]
  have f3 : σ1 "stretch" = some (.bool b) := by subst hσ; simp [set_get]
  have f4 : σ1 "many" = some (.int (many : Nat)) := by subst hσ; simp [set_get]
  have f5 : σ1 "head" = some (.int head) := by subst hσ; simp [set_get]
  clear hσ hhead h0 σ
  have hsl : (ns.map PV.int).length < 1000 := by rw [List.length_map]; omega
  -- the first text
  obtain ⟨ys, hys, yl, yt⟩ := compL_texts (σ := capS ["letters", "script"] σ1) (x := "k") (l := iL (List.range many)) (g := fun σ =>
      Option.bind (σ "letters") fun a => Option.bind (Option.bind (Option.bind (Option.bind (Option.bind (σ "k") fun a => Option.bind (some (PV.int 1)) fun b => binV Operator.Add a b) fun a =>
          Option.bind (Option.bind (seqE [fun σ => σ "script"] σ) lenV) fun b => cmpV CmpOp.Lt a b) fun x =>
          if x = true then Option.bind (σ "script") fun a => Option.bind (Option.bind (σ "k") fun a => Option.bind (some (PV.int 1)) fun b => binV Operator.Add a b) fun b => subV a b else σ "k") fun a =>
          Option.bind (some (PV.int 11)) fun b => binV Operator.Mod a b) fun b => subV a b) (by
    intro v hv
    obtain ⟨k, hk, rfl⟩ := List.mem_map.mp hv
    refine ⟨rfl, ?_⟩
    have hcap : ∀ z, z ≠ "k" → z = "letters" ∨ z = "script" → ((capS ["letters", "script"] σ1).set "k" (.int (k : Nat))) z = σ1 z := by
      rintro z z1 (rfl | rfl) <;> simp [set_get, capS]
    have c1 := hcap "letters" (by decide) (.inl rfl)
    have c2 := hcap "script" (by decide) (.inr rfl)
    have c3 : ((capS ["letters", "script"] σ1).set "k" (.int (k : Nat))) "k" = some (.int (k : Nat)) := by simp [set_get]
    generalize (capS ["letters", "script"] σ1).set "k" (.int (k : Nat)) = σ' at c1 c2 c3 ⊢
    rw [f1] at c1
    rw [f0] at c2
    have eadd : binV .Add (.int (k : Nat)) (.int 1) = some (.int ((k : Int) + 1)) := rfl
    have elen : lenV [.rlist (ns.map .int)] = some (.int (ns.length : Nat)) := by
      simp only [lenV]; rw [if_pos hsl, List.length_map]
    obtain ⟨i, hi⟩ : ∃ i : Int, (Option.bind (Option.bind (Option.bind (σ' "k") fun a => Option.bind (some (PV.int 1)) fun b => binV Operator.Add a b) fun a =>
          Option.bind (Option.bind (seqE [fun σ => σ "script"] σ') lenV) fun b => cmpV CmpOp.Lt a b) fun x =>
          if x = true then Option.bind (σ' "script") fun a => Option.bind (Option.bind (σ' "k") fun a => Option.bind (some (PV.int 1)) fun b => binV Operator.Add a b) fun b => subV a b else σ' "k") = some (.int i) := by
      simp only [c2, c3, seqE, Option.bind_some, Option.map_some, eadd, elen, cmpV]
      by_cases hkl : (k : Int) + 1 < (ns.length : Int)
      · refine ⟨ns[k + 1]'(by omega), ?_⟩
        rw [decide_eq_true hkl, if_pos rfl]
        simp only [subV]
        rw [if_pos ⟨by omega, hsl⟩]
        have : ((k : Int) + 1).toNat = k + 1 := by omega
        rw [this]
        have hk2 : k + 1 < ns.length := by omega
        simp [set_get, hk2]
      · exact ⟨k, by rw [decide_eq_false hkl, if_neg (by decide)]⟩
    obtain ⟨y, hy1, hy2⟩ := letter_at i
    refine ⟨y, ?_, hy2⟩
    have emod : binV .Mod (.int i) (.int 11) = some (.int (i.fmod 11)) := by simp only [binV]; rw [if_pos (by decide)]
    rw [c1]
    simp only [Option.bind_some]
    refine Eq.trans ?_ hy1
    refine (congrArg (fun o => Option.bind (Option.bind o _) _) hi).trans ?_
    simp only [Option.bind_some, emod])
  obtain ⟨jt, jl⟩ := join_tx yt
  rw [yl, ints_len, List.length_range] at jl
  generalize hfirst : Txt.join (Str.ofString "") ys = first at jt jl
  refine Ex.seq (σ1 := σ1.set "first" (.str first)) ?_ ?_
  · have hmr : (-1000 : Int) ≤ (many : Int) ∧ (many : Int) < 1000 := by omega
    have hsum : (ys.map fun x => x.length).sum + ys.length * (Str.ofString "").length ≤ 1000 := by
      rw [sum_ones yt, show (Str.ofString "").length = 0 from rfl, yl, ints_len, List.length_range]; omega
    simp only [f4, Option.bind_some]
    rw [if_pos hmr, Option.bind_some, rangeL_ints, if_pos (by rw [ints_len, List.length_range]; omega)]
    refine (congrArg (fun o => Option.bind (Option.bind o _) _) hys).trans ?_
    simp only [Option.bind_some, strsOf_map]
    rw [if_pos hsum, Option.bind_some, hfirst]
    rfl
  refine Ex.seq (σ1 := (σ1.set "first" (.str first)).set "second" (.str first)) (by simp [set_get, PV.imm]) ?_
  have fl1 : first.length ≤ 10 := by omega
  refine Ex.seqN (Q := fun σ' fl => fl = .next ∧ (∀ z, z ≠ "second" → z ≠ "number" → z ≠ "what" → z ≠ "at" → z ≠ "letter" → σ' z = (σ1.set "first" (.str first)) z) ∧ ∃ second : Str, Tx second ∧ second.length ≤ 10 ∧ σ' "second" = some (.str second)) ?_ ?_
  · by_cases hw2 : way = 2
    · refine Ex.iteT (by simp [set_get, f2, cmpV, hw2]) ?_
      obtain ⟨zs, hzs, zl, zt⟩ := compL_texts (σ := capS ["letters"] ((σ1.set "first" (.str first)).set "second" (.str first))) (x := "number") (l := ((ns.drop 8).take (14 - 8)).map .int) (g := fun σ => Option.bind (σ "letters") fun a => Option.bind (Option.bind (σ "number") fun a => Option.bind (some (PV.int 11)) fun b => binV Operator.Mod a b) fun b => subV a b) (by
        intro v hv
        obtain ⟨i, _, rfl⟩ := List.mem_map.mp hv
        obtain ⟨y, hy1, hy2⟩ := letter_at i
        refine ⟨rfl, y, ?_, hy2⟩
        have emod : binV .Mod (.int i) (.int 11) = some (.int (i.fmod 11)) := by simp only [binV]; rw [if_pos (by decide)]
        have c1 : ((capS ["letters"] ((σ1.set "first" (.str first)).set "second" (.str first))).set "number" (.int i)) "letters" = some (.str (Str.ofString "AEOISZ501LT")) := by simp [set_get, capS, f1]
        have c3 : ((capS ["letters"] ((σ1.set "first" (.str first)).set "second" (.str first))).set "number" (.int i)) "number" = some (.int i) := by simp [set_get]
        simp only [c1, c3, Option.bind_some, emod, hy1])
      obtain ⟨jt2, jl2⟩ := join_tx zt
      have zl6 : zs.length ≤ 6 := by rw [zl, List.length_map, List.length_take]; omega
      refine Ex.seq (σ1 := ((σ1.set "first" (.str first)).set "second" (.str first)).set "second" (.str (Txt.join (Str.ofString "") zs))) ?_ (Ex.skip ⟨rfl, fun z z1 _ _ _ _ => by simp [set_get, z1], _, jt2, by omega, by simp [set_get]⟩)
      have hat : (((ns.drop 8).take (14 - 8)).map PV.int).all PV.atom = true := mapint_atoms _
      have hll : (((ns.drop 8).take (14 - 8)).map PV.int).length < 1000 := by rw [List.length_map, List.length_take]; omega
      have hsum : (zs.map fun x => x.length).sum + zs.length * (Str.ofString "").length ≤ 1000 := by
        rw [sum_ones zt, show (Str.ofString "").length = 0 from rfl]; omega
      simp only [set_get, reduceIte, String.reduceEq, f0, Option.bind_some, intsOf_map]
      rw [if_pos (by omega), Option.bind_some, if_pos hat, Option.bind_some, if_pos hll]
      refine (congrArg (fun o => Option.bind (Option.bind o _) _) hzs).trans ?_
      simp only [Option.bind_some, strsOf_map]
      rw [if_pos hsum, Option.bind_some]
      rfl
    · refine Ex.iteF (by simp [set_get, f2, cmpV, hw2]) ?_
      refine Ex.seqN (Q := fun σ' fl => fl = .next ∧ (∀ z, z ≠ "second" → z ≠ "number" → z ≠ "what" → z ≠ "at" → z ≠ "letter" → σ' z = (σ1.set "first" (.str first)) z) ∧ ∃ second : Str, Tx second ∧ second.length ≤ 10 ∧ σ' "second" = some (.str second)) ?_ (fun σ' fl q => ⟨q.1, Ex.skip ⟨rfl, q.2⟩⟩)
      have hll : (((ns.drop 8).take (11 - 8)).map PV.int).length ≤ 3 := by rw [List.length_map, List.length_take]; omega
      have hat : (((ns.drop 8).take (11 - 8)).map PV.int).all PV.atom = true := mapint_atoms _
      have hmem : ∀ k (hk : k < (((ns.drop 8).take (11 - 8)).map PV.int).length), ∃ i : Int, (((ns.drop 8).take (11 - 8)).map PV.int)[k] = .int i := fun k hk => ⟨_, by simp [set_get]; rfl⟩
      apply Ex.loop (l := ((ns.drop 8).take (11 - 8)).map PV.int)
      · simp only [set_get, reduceIte, String.reduceEq, f0, Option.bind_some, intsOf_map]
        rw [if_pos (by omega), Option.bind_some, if_pos hat, Option.bind_some]
      generalize ((ns.drop 8).take (11 - 8)).map PV.int = l at hll hmem
      refine (loop_ix l (fun k σ' => (∀ z, z ≠ "second" → z ≠ "number" → z ≠ "what" → z ≠ "at" → z ≠ "letter" → σ' z = (σ1.set "first" (.str first)) z) ∧ ∃ second : Str, Tx second ∧ second.length ≤ 7 + k ∧ σ' "second" = some (.str second)) ?_ (σ := (σ1.set "first" (.str first)).set "second" (.str first))
        ⟨fun z z1 _ _ _ _ => by simp [set_get, z1], first, jt, by omega, by simp [set_get]⟩).elim fun σ' h => ⟨σ', h.1, rfl, h.2.1, let ⟨x, a, b, c⟩ := h.2.2; ⟨x, a, by omega, c⟩⟩
      rintro k hk σ2 ⟨r1, x, xt, xl, r2⟩
      obtain ⟨i, hi⟩ := hmem k hk
      rw [hi]
      refine ⟨σ2.set "number" (.int i), by simp [set_get, bindN, PV.imm], ?_⟩
      have xl10 : x.length ≤ 9 := by omega
      have g1 : σ2 "letters" = some (.str (Str.ofString "AEOISZ501LT")) := by rw [r1 _ (by decide) (by decide) (by decide) (by decide) (by decide)]; simp [set_get, f1]
      have ha0 : 0 ≤ (i.fdiv 4).fmod ((x.length : Int) + 1) := Int.fmod_nonneg_of_pos _ (by omega)
      have ha1 : (i.fdiv 4).fmod ((x.length : Int) + 1) < (x.length : Int) + 1 := Int.fmod_lt_of_pos _ (by omega)
      have e1 : binV .Mod (.int i) (.int 4) = some (.int (i.fmod 4)) := by simp only [binV]; rw [if_pos (by decide)]
      have e2 : binV .FloorDiv (.int i) (.int 4) = some (.int (i.fdiv 4)) := by simp only [binV]; rw [if_pos (by decide)]
      have e3 : binV .Mod (.int (i.fdiv 4)) (.int ((x.length : Int) + 1)) = some (.int ((i.fdiv 4).fmod ((x.length : Int) + 1))) := by simp only [binV]; rw [if_pos (by omega)]
      have e4 : binV .FloorDiv (.int (i.fdiv 4)) (.int 13) = some (.int ((i.fdiv 4).fdiv 13)) := by simp only [binV]; rw [if_pos (by decide)]
      have e5 : binV .Mod (.int ((i.fdiv 4).fdiv 13)) (.int 11) = some (.int (((i.fdiv 4).fdiv 13).fmod 11)) := by simp only [binV]; rw [if_pos (by decide)]
      have e6 : lenV [.str x] = some (.int (x.length : Nat)) := by simp only [lenV]; rw [if_pos (by omega)]
      have e7 : binV .Add (.int (x.length : Nat)) (.int 1) = some (.int ((x.length : Int) + 1)) := rfl
      obtain ⟨y, hy1, hy2, hy3⟩ := letter_at ((i.fdiv 4).fdiv 13)
      generalize hat' : (i.fdiv 4).fmod ((x.length : Int) + 1) = at' at *
      refine Ex.seq (σ1 := ((σ2.set "number" (.int i)).set "at" (.int at')).set "what" (.int (i.fmod 4))) ?_ ?_
      · simp only [seqE, set_get, reduceIte, String.reduceEq, r2, Option.bind_some, Option.map_some, e1, e2, e3, e6, e7]
        rfl
      refine Ex.seq (σ1 := (((σ2.set "number" (.int i)).set "at" (.int at')).set "what" (.int (i.fmod 4))).set "letter" (.str y)) ?_ ?_
      · simp only [set_get, reduceIte, String.reduceEq, g1, Option.bind_some, e2, e4, e5, hy1]
        rfl
      generalize hσ : (((σ2.set "number" (.int i)).set "at" (.int at')).set "what" (.int (i.fmod 4))).set "letter" (.str y) = σ3
      have q1 : σ3 "second" = some (.str x) := by subst hσ; simp [set_get, r2]
      have q2 : σ3 "at" = some (.int at') := by subst hσ; simp [set_get]
      have q3 : σ3 "what" = some (.int (i.fmod 4)) := by subst hσ; simp [set_get]
      have q4 : σ3 "letter" = some (.str y) := by subst hσ; simp [set_get]
      have q5 : ∀ z, z ≠ "second" → z ≠ "number" → z ≠ "what" → z ≠ "at" → z ≠ "letter" → σ3 z = (σ1.set "first" (.str first)) z := by
        subst hσ; intro z z1 z2 z3 z4 z5; simp only [set_get, if_neg z2, if_neg z3, if_neg z4, if_neg z5]; exact r1 z z1 z2 z3 z4 z5
      clear hσ r1 r2 g1 e1 e2 e3 e4 e5 e6 e7 hy1
      have hx : x.length < 1000 := by omega
      have s1 := slice_len x none (some at')
      have s1' := Nat.le_trans s1 (idx_to at' x.length ha0)
      have s2 := Nat.le_trans (slice_len x (some at') none) (idx_from at' x.length ha0)
      have s3 := Nat.le_trans (slice_len x (some (at' + 1)) none) (idx_from (at' + 1) x.length (by omega))
      have s4 := Nat.le_trans (slice_len x (some (at' + 2)) none) (idx_from (at' + 2) x.length (by omega))
      have s5 := Nat.le_trans (slice_len x (some (at' + 1)) (some (at' + 2))) (idx_mid (at' + 1) (at' + 2) x.length (by omega) (by omega))
      have s6 := Nat.le_trans (slice_len x (some at') (some (at' + 1))) (idx_mid at' (at' + 1) x.length (by omega) (by omega))
      have t1 := xt.slice none (some at')
      have t2 := xt.slice (some at') none
      have t3 := xt.slice (some (at' + 1)) none
      have t4 := xt.slice (some (at' + 2)) none
      have t5 := xt.slice (some (at' + 1)) (some (at' + 2))
      have t6 := xt.slice (some at') (some (at' + 1))
      generalize hA1 : Txt.slice x none (some at') = A1 at *
      generalize hA2 : Txt.slice x (some at') none = A2 at *
      generalize hA3 : Txt.slice x (some (at' + 1)) none = A3 at *
      generalize hA4 : Txt.slice x (some (at' + 2)) none = A4 at *
      generalize hA5 : Txt.slice x (some (at' + 1)) (some (at' + 2)) = A5 at *
      generalize hA6 : Txt.slice x (some at') (some (at' + 1)) = A6 at *
      have yl : y.length = 1 := hy2
      have eadd1 : binV .Add (.int at') (.int 1) = some (.int (at' + 1)) := rfl
      have eadd2 : binV .Add (.int at') (.int 2) = some (.int (at' + 2)) := rfl
      refine Ex.seqN (Q := fun σ' fl => fl = .next ∧ ∃ second : Str, Tx second ∧ second.length ≤ 7 + (k + 1) ∧ σ' = σ3.set "second" (.str second)) ?_ (fun σ' fl ⟨v1, z, v2, v3, v4⟩ => ⟨v1, Ex.skip ⟨.inl rfl, (by rw [v4]; intro z z1 z2 z3 z4 z5; rw [set_get, if_neg z1]; exact q5 z z1 z2 z3 z4 z5), z, v2, v3, by rw [v4]; simp [set_get]⟩⟩)
      by_cases c0 : i.fmod 4 = 0
      · refine Ex.iteT (by simp [set_get, q3, cmpV, c0]) ?_
        have j1 := add_str (a := A1) (b := y) (by omega)
        have j2 := add_str (a := A1 ++ y) (b := A2) (by rw [app_len]; omega)
        refine Ex.seq (σ1 := σ3.set "second" (.str (A1 ++ y ++ A2))) ?_ (Ex.skip ⟨rfl, _, (t1.app hy3).app t2, by rw [app_len, app_len]; omega, rfl⟩)
        simp only [q1, q2, q4, Option.bind_some, if_pos hx, hA1, hA2, j1, j2]
        rfl
      refine Ex.iteF (by simp [set_get, q3, cmpV, c0]) ?_
      refine Ex.seqN (Q := fun σ' fl => fl = .next ∧ ∃ second : Str, Tx second ∧ second.length ≤ 7 + (k + 1) ∧ σ' = σ3.set "second" (.str second)) ?_ (fun σ' fl q => ⟨q.1, Ex.skip ⟨rfl, q.2⟩⟩)
      by_cases c1 : i.fmod 4 = 1
      · refine Ex.iteT (by simp [set_get, q3, cmpV, c1]) ?_
        have j1 := add_str (a := A1) (b := A3) (by omega)
        refine Ex.seq (σ1 := σ3.set "second" (.str (A1 ++ A3))) ?_ (Ex.skip ⟨rfl, _, t1.app t3, by rw [app_len]; omega, rfl⟩)
        simp only [q1, q2, q4, Option.bind_some, eadd1, if_pos hx, hA1, hA3, j1]
        rfl
      refine Ex.iteF (by simp [set_get, q3, cmpV, c1]) ?_
      refine Ex.seqN (Q := fun σ' fl => fl = .next ∧ ∃ second : Str, Tx second ∧ second.length ≤ 7 + (k + 1) ∧ σ' = σ3.set "second" (.str second)) ?_ (fun σ' fl q => ⟨q.1, Ex.skip ⟨rfl, q.2⟩⟩)
      by_cases c2 : i.fmod 4 = 2
      · refine Ex.iteT (by simp [set_get, q3, cmpV, c2]) ?_
        have j1 := add_str (a := A1) (b := y) (by omega)
        have j2 := add_str (a := A1 ++ y) (b := A3) (by rw [app_len]; omega)
        refine Ex.seq (σ1 := σ3.set "second" (.str (A1 ++ y ++ A3))) ?_ (Ex.skip ⟨rfl, _, (t1.app hy3).app t3, by rw [app_len, app_len]; omega, rfl⟩)
        simp only [q1, q2, q4, Option.bind_some, eadd1, if_pos hx, hA1, hA3, j1, j2]
        rfl
      refine Ex.iteF (by simp [set_get, q3, cmpV, c2]) ?_
      have j1 := add_str (a := A1) (b := A5) (by omega)
      have j2 := add_str (a := A1 ++ A5) (b := A6) (by rw [app_len]; omega)
      have j3 := add_str (a := A1 ++ A5 ++ A6) (b := A4) (by rw [app_len, app_len]; omega)
      refine Ex.seq (σ1 := σ3.set "second" (.str (A1 ++ A5 ++ A6 ++ A4))) ?_ (Ex.skip ⟨rfl, _, ((t1.app t5).app t6).app t4, by rw [app_len, app_len, app_len]; omega, rfl⟩)
      simp only [q1, q2, q4, Option.bind_some, eadd1, eadd2, if_pos hx, hA1, hA4, hA5, hA6, j1, j2, j3]
      rfl
  rintro σ2 fl ⟨rfl, r1, second, xt, xl, r2⟩
  refine ⟨rfl, ?_⟩
  have g1 : σ2 "way" = some (.int way) := by rw [r1 _ (by decide) (by decide) (by decide) (by decide) (by decide)]; simp [set_get, f2]
  have g2 : σ2 "stretch" = some (.bool b) := by rw [r1 _ (by decide) (by decide) (by decide) (by decide) (by decide)]; simp [set_get, f3]
  have g3 : σ2 "head" = some (.int head) := by rw [r1 _ (by decide) (by decide) (by decide) (by decide) (by decide)]; simp [set_get, f5]
  have g4 : σ2 "first" = some (.str first) := by rw [r1 _ (by decide) (by decide) (by decide) (by decide) (by decide)]; simp [set_get]
  clear f0 f1 f2 f3 f4 f5 r1 hys σ1 hway hmany m0 m1
  refine Ex.seqN (Q := fun σ' fl => fl = .next ∧ (∀ z, z ≠ "first" → σ' z = σ2 z) ∧ ∃ first : Str, Tx first ∧ first.length ≤ 10 ∧ σ' "first" = some (.str first)) ?_ ?_
  · by_cases hw3 : way = 3
    · refine Ex.iteT (by simp [set_get, g1, cmpV, hw3]) ?_
      exact Ex.seq (σ1 := σ2.set "first" (.str (Str.ofString ""))) (by simp [set_get, PV.imm]) (Ex.skip ⟨rfl, fun z hz => by simp [set_get, hz], _, Tx.nil, Nat.zero_le _, by simp [set_get]⟩)
    · exact Ex.iteF (by simp [set_get, g1, cmpV, hw3]) (Ex.skip ⟨rfl, fun _ _ => rfl, first, jt, fl1, g4⟩)
  clear jt jl fl1 hfirst g4 yt yl ys
  rintro σ3 fl ⟨rfl, r1, first', ft, fl', r3⟩
  refine ⟨rfl, ?_⟩
  have k1 : σ3 "way" = some (.int way) := by rw [r1 _ (by decide)]; exact g1
  have k2 : σ3 "stretch" = some (.bool b) := by rw [r1 _ (by decide)]; exact g2
  have k3 : σ3 "head" = some (.int head) := by rw [r1 _ (by decide)]; exact g3
  have k4 : σ3 "second" = some (.str second) := by rw [r1 _ (by decide)]; exact r2
  clear g1 g2 g3 r1 r2 σ2
  refine Ex.seq (σ1 := (σ3.set "other" (.str second)).set "one" (.str first')) ?_ ?_
  · simp only [seqE, r3, k4, Option.bind_some, Option.map_some]; rfl
  refine Ex.seqN (Q := fun σ' fl => fl = .next ∧ (∀ z, z ≠ "one" → z ≠ "other" → σ' z = σ3 z) ∧ ∃ one other : Str, (stripV (.str one)).bind upperV = some (.str first') ∧ (stripV (.str other)).bind upperV = some (.str second) ∧ σ' "one" = some (.str one) ∧ σ' "other" = some (.str other)) ?_ ?_
  · have emod : binV .Mod (.int way) (.int 2) = some (.int (way.fmod 2)) := by simp only [binV]; rw [if_pos (by decide)]
    by_cases hw1 : way.fmod 2 = 1
    · refine Ex.iteT (by simp [set_get, k1, emod, cmpV, hw1]) ?_
      have lf := lower_len ft
      have ls := lower_len xt
      have lv1 : lowerV (.str first') = some (.str (Txt.lower first')) := by simp only [lowerV]; rw [if_pos (by rw [lf]; omega)]
      have lv2 : lowerV (.str second) = some (.str (Txt.lower second)) := by simp only [lowerV]; rw [if_pos (by rw [ls]; omega)]
      have b1 : (Str.ofString " ").length = 1 := rfl
      have b2 : (Str.ofString "  ").length = 2 := rfl
      have j1 := add_str (a := Str.ofString " ") (b := Txt.lower first') (by omega)
      have j2 := add_str (a := Str.ofString " " ++ Txt.lower first') (b := Str.ofString "  ") (by rw [app_len]; omega)
      have j3 := add_str (a := Str.ofString "  ") (b := Txt.lower second) (by omega)
      have j4 := add_str (a := Str.ofString "  " ++ Txt.lower second) (b := Str.ofString " ") (by rw [app_len]; omega)
      have wr : ∀ (A B x : Str), Tx x → x.length ≤ 10 → (∀ c ∈ A.cps.toList, c = 32) → (∀ c ∈ B.cps.toList, c = 32) → A.length ≤ 2 → B.length ≤ 2 → (stripV (.str (A ++ Txt.lower x ++ B))).bind upperV = some (.str x) := by
        intro A B x hx hxl hA hB lA lB
        have lx := lower_len hx
        refine up_wrapped hx (by omega) (by rw [app_len, app_len]; omega) A.cps.toList B.cps.toList hA hB ?_
        show (A.cps ++ (Txt.lower x).cps ++ B.cps).toList = _
        simp [set_get]
      refine Ex.seq (σ1 := (((σ3.set "other" (.str second)).set "one" (.str first')).set "other" (.str (Str.ofString "  " ++ Txt.lower second ++ Str.ofString " "))).set "one" (.str (Str.ofString " " ++ Txt.lower first' ++ Str.ofString "  "))) ?_
        (Ex.skip ⟨rfl, fun z z1 z2 => by simp [set_get, z1, z2], _, _, wr (Str.ofString " ") (Str.ofString "  ") first' ft fl' (by decide +kernel) (by decide +kernel) (by decide) (by decide), wr (Str.ofString "  ") (Str.ofString " ") second xt xl (by decide +kernel) (by decide +kernel) (by decide) (by decide), by simp [set_get], by simp [set_get]⟩)
      simp only [seqE, set_get, reduceIte, String.reduceEq, r3, k4, Option.bind_some, Option.map_some, lv1, lv2, j1, j2, j3, j4]
      rfl
    · exact Ex.iteF (by simp [set_get, k1, emod, cmpV, hw1]) (Ex.skip ⟨rfl, fun z z1 z2 => by simp [set_get, z1, z2], first', second, up_plain ft (by omega), up_plain xt (by omega), by simp [set_get], by simp [set_get]⟩)
  rintro σ4 fl ⟨rfl, r1, one, other, u1, u2, r4, r5⟩
  refine ⟨rfl, ?_⟩
  have g2 : σ4 "stretch" = some (.bool b) := by rw [r1 _ (by decide) (by decide)]; exact k2
  have g3 : σ4 "head" = some (.int head) := by rw [r1 _ (by decide) (by decide)]; exact k3
  have g4 : σ4 "second" = some (.str second) := by rw [r1 _ (by decide) (by decide)]; exact k4
  have g5 : σ4 "first" = some (.str first') := by rw [r1 _ (by decide) (by decide)]; exact r3
  clear k1 k2 k3 k4 r1 r3 σ3
  have h36 : 0 ≤ head.fmod 36 := Int.fmod_nonneg_of_pos _ (by decide)
  have h36' : head.fmod 36 < 36 := Int.fmod_lt_of_pos _ (by decide)
  obtain ⟨hk, hkeq⟩ : ∃ k : Nat, head.fmod 36 = (k : Int) := ⟨(head.fmod 36).toNat, by omega⟩
  obtain ⟨pl, pt⟩ := pair_ok hk (by omega)
  generalize hpair : Txt.slice alikeText (some ((hk : Int) * 3)) (some ((hk : Int) * 3 + 2)) = pair at pl pt
  refine Ex.seq (σ1 := σ4.set "pair" (.str pair)) ?_ ?_
  · have e1 : binV .Mod (.int head) (.int 36) = some (.int (hk : Int)) := by simp only [binV]; rw [if_pos (by decide), hkeq]
    have e2 : binV .Mult (.int (hk : Int)) (.int 3) = some (.int ((hk : Int) * 3)) := binV_mul (by show ((hk : Nat) : Int).natAbs < _; omega)
    have e3 : binV .Add (.int ((hk : Int) * 3)) (.int 2) = some (.int ((hk : Int) * 3 + 2)) := rfl
    have e4 : (Str.ofString "AE AI AO AU BV EI EO EU IO IU OU IY EY CG EF WU WV XK SZ XS QC UV MN LI QO PR IJ 2Z 5S 8B 1I 1L 0O 0Q CK GJ").length < 1000 := by decide +kernel
    simp only [g3, Option.bind_some, e1, e2, e3]
    rw [if_pos e4]
    show Option.bind (some (PV.str (Txt.slice alikeText (some ((hk : Int) * 3)) (some ((hk : Int) * 3 + 2))))) _ = _
    rw [hpair]
    rfl
  have ptx : Tx pair := pt
  have c0 : subV (.str pair) (.int 0) = some (.str (chr pair 0)) := subV_str (x := pair) (i := 0) (by omega) (by omega)
  have c1 : subV (.str pair) (.int 1) = some (.str (chr pair 1)) := subV_str (x := pair) (i := 1) (by omega) (by omega)
  have lrt : (Str.ofString "RT").length = 2 := rfl
  have lc0 : (chr pair 0).length = 1 := rfl
  have lc1 : (chr pair 1).length = 1 := rfl
  have a0 := add_str (a := Str.ofString "RT") (b := chr pair 0) (by omega)
  have a1 := add_str (a := Str.ofString "RT") (b := chr pair 1) (by omega)
  have nt : Tx (Str.ofString "RT" ++ chr pair 0) := rt_tx.1.app (ptx.chr (by omega))
  have ot : Tx (Str.ofString "RT" ++ chr pair 1) := rt_tx.1.app (ptx.chr (by omega))
  have nl : (Str.ofString "RT" ++ chr pair 0).length = 3 := by rw [app_len, lrt, lc0]
  have ol : (Str.ofString "RT" ++ chr pair 1).length = 3 := by rw [app_len, lrt, lc1]
  generalize Str.ofString "RT" ++ chr pair 0 = near at *
  generalize Str.ofString "RT" ++ chr pair 1 = off at *
  refine Ex.seq (σ1 := ((σ4.set "pair" (.str pair)).set "off" (.str off)).set "near" (.str near)) ?_ ?_
  · simp only [seqE, set_get, reduceIte, String.reduceEq, Option.bind_some, Option.map_some, c0, c1, a0, a1]
    rfl
  have d1 := dues_spec w first' second b fl' xl
  have d2 := dues_spec w near off b (by omega) (by omega)
  have d3 := dues_spec w near (Str.ofString "RTT") b (by omega) (by decide)
  refine Ex.seq (σ1 := (((((σ4.set "pair" (.str pair)).set "off" (.str off)).set "near" (.str near)).set "alone" (.rlist (pvPairs (duesR near (Str.ofString "RTT") b)))).set "paired" (.rlist (pvPairs (duesR near off b)))).set "dues" (.rlist (pvPairs (duesR first' second b)))) ?_ ?_
  · simp only [seqE, set_get, reduceIte, String.reduceEq, g2, g4, g5, Option.bind_some, Option.map_some, d1, d2, d3]
    rfl
  exact Ex.skip ⟨rfl, b, first', second, one, other, near, off, ft, xt, fl', xl, nt, ot, nl, ol, u1, u2, by simp [set_get, g2], by simp [set_get, r4], by simp [set_get, r5], by simp [set_get], by simp [set_get], by simp [set_get], by simp [set_get], by simp [set_get]⟩
end
section
open PySem PySem.Spec PySem.Calls PyProof.Rows PySem.W
set_option maxRecDepth 100000
set_option maxHeartbeats 8000000
open Classical in
theorem signs_read (σ : Store) (x : Addr) (h : σ "plain" = some (.obj (.ref x))) :
    compL (capS ["plain"] σ) (cb1 "sign") (fun _ => some true) (fun σ => if σ "plain" = some (.obj (.ref x)) then Option.bind (seqE [fun σ => σ "sign"] σ) inRangeSpec else none) (charsL (Str.ofString "AZ09 [az")) = some [.bool true, .bool true, .bool true, .bool true, .bool true, .bool false, .bool false, .bool false] := by
  have hg : ∀ (v : PV), (fun σ : Store => if σ "plain" = some (.obj (.ref x)) then Option.bind (seqE [fun σ => σ "sign"] σ) inRangeSpec else none) ((capS ["plain"] σ).set "sign" v) = inRangeSpec [v] := by
    intro v
    have c1 : ((capS ["plain"] σ).set "sign" v) "plain" = some (.obj (.ref x)) := by simp [set_get, capS, h]
    have c2 : ((capS ["plain"] σ).set "sign" v) "sign" = some v := by simp [set_get]
    show (if ((capS ["plain"] σ).set "sign" v) "plain" = some (.obj (.ref x)) then Option.bind (seqE [fun σ => σ "sign"] ((capS ["plain"] σ).set "sign" v)) inRangeSpec else none) = _
    rw [if_pos c1]
    simp only [seqE, c2, Option.bind_some, Option.map_some]
  have gen : ∀ (l : List Nat) (bs : List Bool), (l.map fun c => inRangeSpec [.str ⟨#[c]⟩]) = bs.map (fun b => some (.bool b)) → compL (capS ["plain"] σ) (cb1 "sign") (fun _ => some true) (fun σ => if σ "plain" = some (.obj (.ref x)) then Option.bind (seqE [fun σ => σ "sign"] σ) inRangeSpec else none) (l.map fun c => .str ⟨#[c]⟩) = some (bs.map .bool) := by
    intro l
    induction l with
    | nil => intro bs hb; cases bs with
      | nil => rfl
      | cons => cases hb
    | cons c l ih =>
      intro bs hb
      cases bs with
      | nil => cases hb
      | cons b bs =>
        rw [List.map_cons, List.map_cons] at hb
        injection hb with hb1 hb2
        have := ih bs hb2
        have h1 := hg (.str ⟨#[c]⟩)
        rw [hb1] at h1
        rw [List.map_cons, compL]
        show Option.bind (if (PV.str ⟨#[c]⟩).atom = true then some [("sign", PV.str ⟨#[c]⟩)] else none) _ = _
        have hat : (PV.str (⟨#[c]⟩ : Str)).atom = true := rfl
        have hat2 : (PV.bool b).atom = true := rfl
        rw [if_pos hat, Option.bind_some, Option.bind_some, if_pos (show true = true from rfl)]
        refine (congrArg (fun o => Option.bind o _) h1).trans ?_
        rw [Option.bind_some, if_pos hat2, this]
        rfl
  have e : charsL (Str.ofString "AZ09 [az") = [65, 90, 48, 57, 32, 91, 97, 122].map fun c => .str ⟨#[c]⟩ := by
    have : Str.ofString "AZ09 [az" = ⟨#[65, 90, 48, 57, 32, 91, 97, 122]⟩ := by decide +kernel
    rw [this]; rfl
  rw [e]
  exact gen [65, 90, 48, 57, 32, 91, 97, 122] [true, true, true, true, true, false, false, false] (by rfl)
theorem suf_true (w : World) (x : Addr) (b : Bool) (first second one other near off : Str) (ft : Tx first) (st : Tx second) (fl : first.length ≤ 10) (sl : second.length ≤ 10) (nt : Tx near) (ot : Tx off) (nl : near.length = 3) (ol : off.length = 3)
    (u1 : (stripV (.str one)).bind upperV = some (.str first)) (u2 : (stripV (.str other)).bind upperV = some (.str second)) (σ : Store) (h0 : σ "plain" = some (.obj (.ref x))) (h1 : σ "one" = some (.str one)) (h2 : σ "other" = some (.str other)) (h3 : σ "near" = some (.str near)) (h4 : σ "off" = some (.str off))
    (h5 : σ "dues" = some (.rlist (pvPairs (duesR first second b)))) (h6 : σ "paired" = some (.rlist (pvPairs (duesR near off b)))) (h7 : σ "alone" = some (.rlist (pvPairs (duesR near (Str.ofString "RTT") b)))) :
    Ex (lawSuf w x b).1 σ (fun _ fl => fl = .ret (.bool true)) := by
  unfold lawSuf
  dsimp only
  have r1 : callSpec w x b [.str one, .str other] = some (callA first second b) := call_read w x b one other first second u1 u2 (by omega) (by omega) (fun _ q1 q2 => text_ok ft st fl sl q1 q2)
  have r2 : callSpec w x b [.str near, .str off] = some (callA near off b) := call_read w x b near off near off (up_plain nt (by omega)) (up_plain ot (by omega)) (by omega) (by omega) (fun _ q1 q2 => text_ok nt ot (by omega) (by omega) q1 q2)
  have lr : (Str.ofString "RTT").length = 3 := rfl
  have r3 : callSpec w x b [.str near, .str (Str.ofString "RTT")] = some (callA near (Str.ofString "RTT") b) := call_read w x b near (Str.ofString "RTT") near (Str.ofString "RTT") (up_plain nt (by omega)) (up_plain rt_tx.2 (by omega)) (by omega) (by omega) (fun _ q1 q2 => text_ok nt rt_tx.2 (by omega) (by omega) q1 q2)
  obtain ⟨a1, dd1, ee, b1, b2, b3, b4⟩ := answer_fits w first second b fl sl
  obtain ⟨a2, _⟩ := answer_fits w near off b (by omega) (by omega)
  obtain ⟨a3, _⟩ := answer_fits w near (Str.ofString "RTT") b (by omega) (by omega)
  have rd : distSpec w x b [.str one, .str other] = some dd1 := by
    show ((callSpec w x b [.str one, .str other]).bind fun r => (binV .Sub (.int 1) r).bind fun d => if d.atom = true then some d else none) = _
    rw [r1, Option.bind_some, b1, Option.bind_some, if_pos b2]
  refine Ex.seq (σ1 := σ) ?_ ?_
  · have hs := signs_read σ x h0
    have hl : (charsL (Str.ofString "AZ09 [az")).length < 1000 := by decide +kernel
    simp only [Option.bind_some]
    rw [if_pos hl, hs]
    simp only [Option.bind_some, seqE, Option.map_some]
    rw [if_pos (by exact ⟨rfl, by decide⟩)]
    simp only [Option.bind_some, boolsOf, Option.map_some]
    rw [if_pos (by decide +kernel)]
    have : PyData.eqv (.list ([true, true, true, true, true, false, false, false].map .bool)) (.list ([true, true, true, true, true, false, false, false].map .bool)) = true := by decide +kernel
    rw [this]
    rfl
  refine Ex.ret (σ1 := σ) (v := .bool true) ?_ rfl
  simp only [andE, seqE, h0, h1, h2, h3, h4, h5, h6, h7, reduceIte, Option.bind_some, Option.map_some, r1, r2, r3, rd, b3, a1, a2, a3, b4, truthV]
theorem law_true (w : World) (ns : List Int) (hlen : ns.length ≤ 63) : ∃ b σ', lawDen w b (setAll (fun _ => none) ["script"] [.rlist (ns.map .int)]) = some (σ', .ret (.bool true)) := by
  obtain ⟨σ1, fl, e, rfl, b, first, second, one, other, near, off, ft, st, lf, ls, nt, ot, nl, ol, u1, u2, g1, g2, g3, g4, g5, g6, g7, g8⟩ := prefix_read w ns hlen (setAll (fun _ => none) ["script"] [.rlist (ns.map .int)]) (by simp [set_get, setAll])
  have hd : ∀ d : Addr, ∃ σ', (lawSuf w d b).1 (σ1.set "plain" (.obj (.ref d))) = some (σ', .ret (.bool true)) := by
    intro d
    obtain ⟨σ', fl, e, rfl⟩ := suf_true w d b first second one other near off ft st lf ls nt ot nl ol u1 u2 (σ1.set "plain" (.obj (.ref d))) (by simp [set_get]) (by simp [set_get, g2]) (by simp [set_get, g3]) (by simp [set_get, g4]) (by simp [set_get, g5]) (by simp [set_get, g6]) (by simp [set_get, g7]) (by simp [set_get, g8])
    exact ⟨σ', e⟩
  have hc : σ1 "stretch" = some (.bool b) ∧ ∃ r, ∀ d, ∃ σ', (lawSuf w d b).1 (σ1.set "plain" (.obj (.ref d))) = some (σ', .ret r) := ⟨g1, _, hd⟩
  refine ⟨b, fun _ => none, ?_⟩
  unfold lawDen joinG
  rw [e]
  dsimp only
  rw [dif_pos hc]
  obtain ⟨σ2, e2⟩ := hc.2.choose_spec (0 : Nat)
  obtain ⟨σ3, e3⟩ := hd (0 : Nat)
  rw [e2] at e3
  have := (Prod.mk.inj (Option.some.inj e3)).2
  rw [Fl.ret.inj this]
end
section
open PySem PySem.Spec PySem.Calls PyProof.Rows PySem.W
set_option maxRecDepth 100000
set_option maxHeartbeats 8000000
theorem holds : PySem.Challenge.rw_gb5021_01.Holds := hd (by
  k_fill
  intro w s₀ s₁ mg mb G Y fa o pm cd doc dV kV ho hd hcd hD hmg hg args vals as hpre hlay hrd hwl hlo
  have KX := kIn_of Y
  have X := (Ground.X G).1
  have V := (Ground.X G).2
  have GL := glob_more (Ground.glob G (by decide +kernel) (by decide +kernel)) V
  refine Ground.open G ?_
  intro T B D TE TW
  have TA := at_of_top T
  wrow_args hpre hlay hrd hwl hlo
  all_goals (first | refine callC_kw (enter_call ?_) | refine enter_call ?_ | refine callC_kw (enter_callW ?_) | refine enter_callW ?_ | w_how)
  all_goals w_top on
  all_goals try refine codeAny_mono ?_ (fun _ _ g => GoodW.toG g)
  rename_i ns _ _ _ _ _ _ _ a vs _ hL _ _ _ hI _ hlen _
  have h1 : mg (Str.ofString "law") = some (.ref 276) := mg_of KX GL.g (by rfl)
  have h2 : some (Value.ref fa) = some (Value.ref 276) := hmg.symm.trans h1
  cases h2
  obtain ⟨b, σ', hrun⟩ := law_true w ns (by omega)
  refine law_does KX GL.nolimit GL.g GL.b GL.builtins hL hI b hrun fun h' tk k => ?_
  have hp : Challenge.rw_gb5021_01.row.claim.post [ofPy (PyData.list (List.map PyData.int ns))] (.bool true) [ofPy (PyData.list (List.map PyData.int ns))] = true := postW_of (by wrow_shape) (by wtm_val) (by first | rfl | str_meet)
  exact ⟨.inl ⟨.bool true, .bool true, [], rfl, fun _ => rfl, .bool true, hp, fun _ => ⟨List.nodup_nil, fun a h => nomatch h⟩⟩, k, rfl, hg⟩)
end
end Mine
theorem PySem.Challenge.cw_gb5021_01_holds : PySem.Challenge.rw_gb5021_01.Holds := by
  exact Mine.holds
