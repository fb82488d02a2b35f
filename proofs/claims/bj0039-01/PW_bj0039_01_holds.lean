import PyProof.Rows.All
import Wide.All
import OpenK.AllK
import Wide.FinOn
import KE.KLcTest
import KE.KLcPair
import PyProof.SumAny
import PyProof.NeKinds
import KE.KDictOf
import KE.LcSums
import KE.KSlice
import PySem.Challenge.RW_bj0039_01
set_option Elab.async false
set_option rowWalk.seconds 0
set_option linter.all false
section
open PySem PySem.W PyProof.Rows
namespace Mine
def c0 : PySem.Str := PySem.Str.ofString "a"
theorem e0 : c0 = c0 := rfl
name_quick tw20863073609108064 for Mine.c0 by Mine.e0
name_quick tw1523951592034530338 for Mine.c0 by Mine.e0
name_quick tw17677822095170825858 for Mine.c0 by Mine.e0
name_quick tw2255649265095718179 for Mine.c0 by Mine.e0
name_quick tw5628124567232214276 for Mine.c0 by Mine.e0
name_quick tw2006849842327382916 for Mine.c0 by Mine.e0
name_quick tw6542732685507834852 for Mine.c0 by Mine.e0
name_quick tw8456856082409386277 for Mine.c0 by Mine.e0
name_quick tw17047587732179306917 for Mine.c0 by Mine.e0
name_quick tw1239245957066099557 for Mine.c0 by Mine.e0
name_quick tw4676167742431795270 for Mine.c0 by Mine.e0
name_quick tw12516557036555375146 for Mine.c0 by Mine.e0
name_quick tw6160057028138905194 for Mine.c0 by Mine.e0
name_quick tw13705578179683227434 for Mine.c0 by Mine.e0
name_quick tw1074804489107235056 for Mine.c0 by Mine.e0
name_quick tw4327519365404102993 for Mine.c0 by Mine.e0
name_quick tw4083366629787285363 for Mine.c0 by Mine.e0
name_quick tw4815265140497129300 for Mine.c0 by Mine.e0
name_quick tw4119451634913542197 for Mine.c0 by Mine.e0
name_quick tw9776868966547906005 for Mine.c0 by Mine.e0
name_quick tw3468277974455813813 for Mine.c0 by Mine.e0
name_quick tw6560748066837699191 for Mine.c0 by Mine.e0
name_quick tw6630499409244569784 for Mine.c0 by Mine.e0
name_quick tw1715305286062143992 for Mine.c0 by Mine.e0
name_quick tw5449376545933186680 for Mine.c0 by Mine.e0
name_quick tw13215998728584607739 for Mine.c0 by Mine.e0
name_quick tw4544052334723312380 for Mine.c0 by Mine.e0
name_quick tw1594192036040709277 for Mine.c0 by Mine.e0
name_quick tw17887885776237988605 for Mine.c0 by Mine.e0
name_quick tw8377945687101191326 for Mine.c0 by Mine.e0
name_quick tw8075568018651887793 for Mine.c0 by Mine.e0
set_option maxRecDepth 100000 in
set_option maxHeartbeats 0 in
open_top hd for PySem.Challenge.rw_bj0039_01
end Mine
end
theorem Mine.offHF : True := by
  w_top off
  trivial
section
open PySem PySem.W PySem.Spec PySem.Calls PyProof.Rows
set_option maxRecDepth 100000
namespace Mine

def notTab (o : Obj) : Bool := match o.cls, o.data with
  | .ref _, _ => true
  | _, .fields _ => false
  | _, _ => true
/-- what stood stands, but for the code tables and the iterators -/
def Keeps (l l' : List (Addr × Obj)) : Prop := ∀ p ∈ l, notTab p.2 = true → p ∈ l'
theorem Keeps.refl {l : List (Addr × Obj)} : Keeps l l := fun _ h _ => h
theorem Keeps.trans {l l' l'' : List (Addr × Obj)} (a : Keeps l l') (b : Keeps l' l'') : Keeps l l'' := fun p h n => b p (a p h n) n
theorem Keeps.get {l l' : List (Addr × Obj)} {p : Addr × Obj} (k : Keeps l l') (h : p ∈ l) (n : notTab p.2 = true) : p ∈ l' := k p h n
theorem Keeps.cons {l l' : List (Addr × Obj)} {q : Addr × Obj} (k : Keeps l l') : Keeps l (q :: l') := fun p h n => .tail _ (k p h n)
def Sub (l l' : List (Addr × Obj)) : Prop := ∀ p ∈ l, p ∈ l'
theorem Sub.refl {l : List (Addr × Obj)} : Sub l l := fun _ h => h
theorem Sub.cons {l l' : List (Addr × Obj)} {q : Addr × Obj} (k : Sub l l') : Sub l (q :: l') := fun p h => .tail _ (k p h)
theorem Sub.trans {l l' l'' : List (Addr × Obj)} (a : Sub l l') (b : Sub l' l'') : Sub l l'' := fun p h => b p (a p h)
theorem Sub.keeps {l l' : List (Addr × Obj)} (a : Sub l l') : Keeps l l' := fun p h _ => a p h
theorem Sub.get {l l' : List (Addr × Obj)} {p : Addr × Obj} (k : Sub l l') (h : p ∈ l) : p ∈ l' := k p h

inductive Nm where
  | x | y | w | rex | tom | mother | gives
  deriving DecidableEq
def Nm.str : Nm → Str
  | .x => Str.ofString "x"
  | .y => Str.ofString "y"
  | .w => Str.ofString "w"
  | .rex => Str.ofString "rex"
  | .tom => Str.ofString "tom"
  | .mother => Str.ofString "mother"
  | .gives => Str.ofString "gives"
/-- the class of the name's expression -/
def Nm.cls : Nm → Addr
  | .x | .y | .w => 511
  | _ => 575
theorem Nm.str_inj {a b : Nm} : (a.str = b.str) ↔ a = b := by
  constructor
  · intro h; revert h; cases a <;> cases b <;> first | (intro; rfl) | (intro h; exact absurd h (by decide +kernel))
  · rintro rfl; rfl

inductive Tm where
  | nm (n : Nm)
  | app (f a : Tm)
  deriving DecidableEq

def VarIn (news : List (Addr × Obj)) (v : Addr) (n : Nm) : Prop :=
  ∃ dv h t t', (v, instObj 126 dv) ∈ news ∧ (dv, dictOf [⟨h, .str (Str.ofString "name") t, .str n.str t'⟩] 1) ∈ news
inductive ExIn (news : List (Addr × Obj)) : Addr → Tm → Prop where
  | nm {e de v h t n} : (e, instObj (Nm.cls n) de) ∈ news → (de, dictOf [⟨h, .str (Str.ofString "variable") t, .ref v⟩] 1) ∈ news → VarIn news v n → ExIn news e (.nm n)
  | app {e de f a h t h' t' x y} : (e, instObj 423 de) ∈ news → (de, dictOf [⟨h, .str (Str.ofString "function") t, .ref f⟩, ⟨h', .str (Str.ofString "argument") t', .ref a⟩] 2) ∈ news → ExIn news f x → ExIn news a y → ExIn news e (.app x y)
/-- the keys of the instances' own dicts -/
def attrKeys : List Str := [Str.ofString "name", Str.ofString "variable", Str.ofString "function", Str.ofString "d"]
/-- an object of a class, or its own dict -/
def attrish (o : Obj) : Bool := match o.cls with
  | .ref _ => true
  | .type _ => (match o.data with
    | .dict es _ => (match es.toList with
      | e :: _ => (match e.key with
        | .str x _ => attrKeys.contains x
        | _ => false)
      | [] => false)
    | _ => false)
  | _ => false
theorem attrish_inst {C dx : Addr} : attrish (instObj C dx) = true := rfl
theorem attrish_name {h : Int} {t : Tok} {v : Value} {r : List DictEntry} {n : Nat} : attrish (dictOf (⟨h, .str (Str.ofString "name") t, v⟩ :: r) n) = true := by
  show attrKeys.contains (Str.ofString "name") = true
  decide +kernel
theorem attrish_variable {h : Int} {t : Tok} {v : Value} {r : List DictEntry} {n : Nat} : attrish (dictOf (⟨h, .str (Str.ofString "variable") t, v⟩ :: r) n) = true := by
  show attrKeys.contains (Str.ofString "variable") = true
  decide +kernel
theorem attrish_function {h : Int} {t : Tok} {v : Value} {r : List DictEntry} {n : Nat} : attrish (dictOf (⟨h, .str (Str.ofString "function") t, v⟩ :: r) n) = true := by
  show attrKeys.contains (Str.ofString "function") = true
  decide +kernel
theorem attrish_d {h : Int} {t : Tok} {v : Value} {r : List DictEntry} {n : Nat} : attrish (dictOf (⟨h, .str (Str.ofString "d") t, v⟩ :: r) n) = true := by
  show attrKeys.contains (Str.ofString "d") = true
  decide +kernel
theorem attrish_notTab {o : Obj} (h : attrish o = true) : notTab o = true := by
  obtain ⟨c, dd, da, sl⟩ := o
  cases c with
  | ref a => rfl
  | type T => cases da with
    | fields x => cases h
    | _ => rfl
  | _ => cases h
/-- instances and their dicts stand -/
def KeepsA (l l' : List (Addr × Obj)) : Prop := ∀ p ∈ l, attrish p.2 = true → p ∈ l'
theorem KeepsA.refl {l : List (Addr × Obj)} : KeepsA l l := fun _ h _ => h
theorem KeepsA.trans {l l' l'' : List (Addr × Obj)} (a : KeepsA l l') (b : KeepsA l' l'') : KeepsA l l'' := fun p h n => b p (a p h n) n
theorem Keeps.a {l l' : List (Addr × Obj)} (k : Keeps l l') : KeepsA l l' := fun p h n => k p h (attrish_notTab n)
theorem Sub.a {l l' : List (Addr × Obj)} (k : Sub l l') : KeepsA l l' := fun p h _ => k p h
theorem KeepsA.get {l l' : List (Addr × Obj)} {p : Addr × Obj} (k : KeepsA l l') (h : p ∈ l) (n : attrish p.2 = true) : p ∈ l' := k p h n
theorem KeepsA.cons {l l' : List (Addr × Obj)} {q : Addr × Obj} (k : KeepsA l l') : KeepsA l (q :: l') := fun p h n => .tail _ (k p h n)
theorem VarIn.monoA {l l' : List (Addr × Obj)} {v n} (h : VarIn l v n) (k : KeepsA l l') : VarIn l' v n :=
  let ⟨dv, a, t, t', h1, h2⟩ := h; ⟨dv, a, t, t', k _ h1 attrish_inst, k _ h2 attrish_name⟩
theorem VarIn.mono {l l' : List (Addr × Obj)} {v n} (h : VarIn l v n) (k : Keeps l l') : VarIn l' v n := h.monoA k.a
theorem ExIn.monoA {l l' : List (Addr × Obj)} {e t} (h : ExIn l e t) (k : KeepsA l l') : ExIn l' e t := by
  induction h with
  | nm h1 h2 h3 => exact .nm (k _ h1 attrish_inst) (k _ h2 attrish_variable) (h3.monoA k)
  | app h1 h2 _ _ ih1 ih2 => exact .app (k _ h1 attrish_inst) (k _ h2 attrish_function) ih1 ih2
theorem ExIn.mono {l l' : List (Addr × Obj)} {e t} (h : ExIn l e t) (k : Keeps l l') : ExIn l' e t := h.monoA k.a

section
variable (prog : Program) (w : World) (p : Program) (loose : List Str) (mean : ExcName → Option Value) (mg mb : Str → Option Value)
def Spec (f : Addr) (vs : List Value) (d u : Nat) (news : List (Addr × Obj)) (post : Value → List (Addr × Obj) → Prop) : Prop :=
  ∀ (dp un : Nat) (gd : Option (List Code)) (cn : Str) (cs : Scope) (a : Addr) (ccd : Value) (cl : List (Str × Addr)) (outer : List Env) (A₀ : Around) (base h₀ : Heap) (L : Addr) (m : Str → Option Value) (s : Shared)
    (Q E : Value → Shared → Prop),
    Below A₀ base outer h₀ → Fr h₀ L s.heap m → (hd.heap_39 w.params).In h₀ → News h₀ L s.heap news → Top p loose mean mg mb h₀ → cs.kind = .function → dp + d < recursionLimit → un + u < cLine →
    (∀ r news' h' tk', Fr h₀ L h' m → News h₀ L h' news' → post r news' → Q r { s with heap := h', toks := tk' }) →
    wpAny (model prog w) (ktrTop dp un gd cn cs L a ccd cl outer) (call (.ref f) vs) Q E s
end

theorem fillK : (fun (_ : OpenLaw) => True) PySem.Challenge.rw_bj0039_01 ∧ hd.heap_39 = hd.heap_39 := by
  k_fill
  exact ⟨trivial, rfl⟩
end Mine
end
section
open PySem PySem.W PySem.Spec PySem.Calls PyProof.Rows
set_option maxRecDepth 100000
namespace Mine
theorem fillK1 : (fun (_ : OpenLaw) => True) PySem.Challenge.rw_bj0039_01 ∧ hd.heap_39 = hd.heap_39 := by
  k_fill
  exact ⟨trivial, rfl⟩
section
variable {prog : Program} {w : World} {p : Program} {loose : List Str} {mean : ExcName → Option Value} {mg mb : Str → Option Value}
local macro_rules | `(tactic| k_mem) => `(tactic| first
  | (refine Keeps.get (by with_reducible assumption) ?_ ?kt; (case kt => rfl); k_mem)
  | (refine Sub.get (by with_reducible assumption) ?_; k_mem))
local macro_rules | `(tactic| k_mem) => `(tactic| ktr_member)
local macro_rules | `(tactic| k_room) => `(tactic| ktr_room)
local macro_rules | `(tactic| k_units) => `(tactic| ktr_units)

set_option profiler true
set_option profiler.threshold 500
set_option maxHeartbeats 4000000 in
theorem mkVar {n : Nm} {t} {news : List (Addr × Obj)} :
    Spec prog w p loose mean mg mb 126 [.str n.str t] 4 60 news (fun r news' => Sub news news' ∧ ∃ v, r = .ref v ∧ VarIn news' v n) := by
  unfold Spec
  intro dp un gd cn cs a ccd cl outer A₀ base h₀ L m s Q E B F X N T hk hd hu hret
  k_dflt (refine' call_cls ?k1 ?k2 ?k3 ?k4 ?k5 ?k6 ?_; (case k1 => k_asm); (case k2 => k_asm); (case k3 => k_asm); (case k4 => k_is); (case k5 => k_is); (case k6 => k_is); k_whole; intro x' d' h' F' N' l1 l2; (try k_lt l1); (try k_lt2 l2); ktr_enter)
  k_steps
  exact hret _ _ _ _ (by k_asm) (by k_asm) ⟨Sub.cons (Sub.cons Sub.refl), _, rfl, _, _, _, _, by k_mem, by k_mem⟩

set_option maxHeartbeats 4000000 in
theorem eqVar {n k : Nm} {v v'} {news : List (Addr × Obj)} (hv : VarIn news v n) (hv' : VarIn news v' k) :
    Spec prog w p loose mean mg mb 109 [.ref v, .ref v'] 4 60 news (fun r news' => news' = news ∧ r = .bool (decide (n = k))) := by
  obtain ⟨dv, h1, t1, t2, hv1, hv2⟩ := hv
  obtain ⟨dv', h1', t1', t2', hv1', hv2'⟩ := hv'
  unfold Spec
  intro dp un gd cn cs a ccd cl outer A₀ base h₀ L m s Q E B F X N T hk hd hu hret
  refine wpAny_call ?_
  k_dflt ktr_enter
  k_steps
  exact hret _ _ _ _ (by k_asm) (by k_asm) ⟨rfl, congrArg Value.bool (by rw [Bool.eq_iff_iff, beq_iff_eq, decide_eq_true_eq]; exact Nm.str_inj)⟩
end
end Mine
end
theorem Mine.offC1 : True := by
  w_top off
  trivial
section
open PySem PySem.W PySem.Spec PySem.Calls PyProof.Rows
set_option maxRecDepth 100000
namespace Mine
theorem fillK2 : (fun (_ : OpenLaw) => True) PySem.Challenge.rw_bj0039_01 ∧ hd.heap_39 = hd.heap_39 := by
  k_fill
  exact ⟨trivial, rfl⟩
theorem sl_x : Txt.slice (Str.ofString "x") (some 1) none = Str.ofString "" := by decide +kernel
theorem sl_y : Txt.slice (Str.ofString "y") (some 1) none = Str.ofString "" := by decide +kernel
theorem sl_w : Txt.slice (Str.ofString "w") (some 1) none = Str.ofString "" := by decide +kernel
theorem sl_rex : Txt.slice (Str.ofString "rex") (some 1) none = Str.ofString "ex" := by decide +kernel
theorem sl_tom : Txt.slice (Str.ofString "tom") (some 1) none = Str.ofString "om" := by decide +kernel
theorem sl_mother : Txt.slice (Str.ofString "mother") (some 1) none = Str.ofString "other" := by decide +kernel
theorem sl_gives : Txt.slice (Str.ofString "gives") (some 1) none = Str.ofString "ives" := by decide +kernel
section
variable {prog : Program} {w : World} {p : Program} {loose : List Str} {mean : ExcName → Option Value} {mg mb : Str → Option Value}
local macro_rules | `(tactic| k_mem) => `(tactic| first
  | (refine Keeps.get (by with_reducible assumption) ?_ ?kt; (case kt => rfl); k_mem)
  | (refine Sub.get (by with_reducible assumption) ?_; k_mem))
local macro_rules | `(tactic| k_mem) => `(tactic| ktr_member)
local macro_rules | `(tactic| k_room) => `(tactic| ktr_room)
local macro_rules | `(tactic| k_units) => `(tactic| ktr_units)
local macro_rules | `(tactic| walk_at "ite") => `(tactic| (k_closed; k_dflt (first | refine PySem.W.ite_pos (by decide +kernel) ?_ | refine PySem.W.ite_neg (by decide +kernel) ?_)))
local macro_rules | `(tactic| walk_at "callWith ref") => `(tactic| (k_here; k_dflt (first
  | (refine' callWith_K ?k1 ?k2 ?_; (case k1 => k_asm); (case k2 => k_is); k_whole)
  | (refine' callWith_F ?k1 ?_; (case k1 => exact FnAt.of (by k_asm) (by k_mem)); k_whole)
  | (refine' callWith_F0 ?k1 ?_; (case k1 => exact FnAt.of (by k_asm) (by k_mem)); k_whole; try dsimp only [List.nil_append, List.cons_append])
  | (refine' callWith_K0 ?k1 ?k2 ?_; (case k1 => k_in); (case k2 => k_is); k_whole)
  | (refine' callWith_M0 ?k1 ?k2 ?_; (case k1 => k_meth); (case k2 => k_is); k_whole; try dsimp only [List.nil_append, List.cons_append])
  | (refine' callWith_M ?k1 ?k2 ?k3 ?k4 ?_; (case k1 => k_asm); (case k2 => k_asm); (case k3 => k_mem); (case k4 => k_is); k_whole))))
local macro_rules | `(tactic| walk_at "subscriptTail Attribute") => `(tactic| (k_here; k_dflt (refine kba_turn (value' := PySem.Expr.Name (PySem.Str.ofString "_") ⟨0, 0, 0, 0⟩) (fun _ => rfl) ?_)))
local macro_rules | `(tactic| walk_at "eval Name") => `(tactic| (k_here; (fail_if_success (with_reducible show wpAny _ _ (eval (Expr.Name _ _) (compEnvC _ _ _ _)) _ _ _)); k_dflt (first
  | (refine' nameX_L ?F ?v ?_ ?a ?b; (case F => k_asm); (case a => rfl); (case b => rfl); (case v => rfl); k_whole)
  | (refine' nameX_K ?F ?X ?T ?e ?_ ?a ?b; (case F => k_asm); (case X => k_asm); (case T => k_asm); (case a => rfl); (case b => rfl); (case e => k_is); k_whole)
  | (refine' nameX_B ?F ?X ?T ?e ?v ?n ?_ ?a ?b; (case F => k_asm); (case X => k_asm); (case T => k_asm); (case a => rfl); (case b => rfl); (case e => k_is); (case v => boot_fast); (case n => decide); k_whole))))
local macro_rules | `(tactic| walk_at "getAttr ref") => `(tactic| (k_here; k_dflt (refine' get_own ?k1 ?k2 ?k3 ?k4 ?k5 ?k6 ?k7 ?k8 ?k9 ?_; (case k1 => k_asm); (case k2 => k_asm); (case k3 => k_inst); (case k4 => k_is); (case k5 => k_is); (case k6 => k_is); (case k7 => k_is); (case k8 => k_get); (case k9 => k_handed); k_whole)))
local macro_rules | `(tactic| walk_at "call builtin:isinstance") => `(tactic| (k_here; (with_reducible show wpAny _ _ (call _ [Value.ref _, Value.ref _]) _ _ _); k_dflt (refine' isi_call ?k1 ?k2 ?k3 ?k4 ?_; (case k1 => k_in); (case k2 => k_types); (case k3 => k_is); (case k4 => intro e; cases e); k_whole)))
local macro_rules | `(tactic| walk_at "compareOp Eq ref ref") => `(tactic| (k_here; (refine cmp_ofEq ?_); k_dflt (refine' cmp_K ?k1 ?k2 ?k3 ?k4 ?k5 ?k6 ?k7 ?k8 ?_; (case k1 => k_units); (case k2 => k_asm); (case k3 => k_asm); (case k4 => k_inst); (case k5 => exact InstAt.type (by k_inst)); (case k6 => k_is); (case k7 => k_is); (case k8 => k_is); k_whole)))
local macro_rules | `(tactic| walk_at "exec For") => `(tactic| (k_here; (with_reducible show wpAny _ _ (exec (Stmt.For _ _ _ [] _) _) _ _ _); (rename Fr _ _ _ _ => lF'); (with_unfolding_all refine' For_invVF lF' ?k1 ?k2 ?_; (case k1 => exact rfl); (case k2 => exact rfl); k_whole)))
local macro_rules | `(tactic| walk_at "pyIter str") => `(tactic| (k_here; k_strUnr))
local macro_rules | `(tactic| walk_at "pyIter str") => `(tactic| (simp only [sl_x, sl_y, sl_w, sl_rex, sl_tom, sl_mother, sl_gives]))

set_option maxHeartbeats 8000000 in
theorem lad1 {n : Nm} {t t'} {news : List (Addr × Obj)} :
    Spec prog w p loose mean mg mb 943 [.str n.str t, .str (Str.ofString "abcdfghijklmnopqrstuvwxyz") t'] 2 20 news (fun r news' => Sub news news' ∧ r = .bool (n.cls == 511)) := by
  cases n <;> (
  unfold Spec
  simp only [Nm.str]
  intro dp un gd cn cs a ccd cl outer A₀ base h₀ L m s Q E B F X N T hk hd hu hret
  refine wpAny_call ?_
  k_dflt ktr_enter
  k_steps
  refine hret _ _ _ _ (by k_asm) (by k_asm) ⟨?_, rfl⟩
  repeat (first | exact Sub.refl | refine Sub.cons ?_))
set_option maxHeartbeats 8000000 in
theorem lad2 {n : Nm} (hn : n.cls = 575) {t t'} {news : List (Addr × Obj)} :
    Spec prog w p loose mean mg mb 943 [.str n.str t, .str (Str.ofString "ABCDEFGHIJKLMNOPQRSTUVWXYZ") t'] 2 20 news (fun r news' => Sub news news' ∧ r = .bool false) := by
  cases n <;> first | exact absurd hn (by decide) | (
  unfold Spec
  simp only [Nm.str]
  intro dp un gd cn cs a ccd cl outer A₀ base h₀ L m s Q E B F X N T hk hd hu hret
  refine wpAny_call ?_
  k_dflt ktr_enter
  k_steps
  refine hret _ _ _ _ (by k_asm) (by k_asm) ⟨?_, rfl⟩
  repeat (first | exact Sub.refl | refine Sub.cons ?_))
set_option maxHeartbeats 8000000 in
theorem lad3 {n : Nm} (hn : n.cls = 575) {t t'} {news : List (Addr × Obj)} :
    Spec prog w p loose mean mg mb 943 [.str n.str t, .str (Str.ofString "e") t'] 2 20 news (fun r news' => Sub news news' ∧ r = .bool false) := by
  cases n <;> first | exact absurd hn (by decide) | (
  unfold Spec
  simp only [Nm.str]
  intro dp un gd cn cs a ccd cl outer A₀ base h₀ L m s Q E B F X N T hk hd hu hret
  refine wpAny_call ?_
  k_dflt ktr_enter
  k_steps
  refine hret _ _ _ _ (by k_asm) (by k_asm) ⟨?_, rfl⟩
  repeat (first | exact Sub.refl | refine Sub.cons ?_))

/-- a Spec at a call, its facts by assumption -/
theorem use {f : Addr} {vs : List Value} {d u : Nat} {news : List (Addr × Obj)} {post : Value → List (Addr × Obj) → Prop}
    {dp un : Nat} {gd : Option (List Code)} {cn : Str} {cs : Scope} {a : Addr} {ccd : Value} {cl : List (Str × Addr)} {outer : List Env} {A₀ : Around} {base h₀ : Heap} {L : Addr} {m : Str → Option Value} {s : Shared} {Q E : Value → Shared → Prop}
    (S : Spec prog w p loose mean mg mb f vs d u news post)
    (B : Below A₀ base outer h₀) (F : Fr h₀ L s.heap m) (X : (hd.heap_39 w.params).In h₀) (N : News h₀ L s.heap news) (T : Top p loose mean mg mb h₀) (hk : cs.kind = .function) (hd : dp + d < recursionLimit) (hu : un + u < cLine)
    (ret : ∀ r news' h' tk', Fr h₀ L h' m → News h₀ L h' news' → post r news' → Q r { s with heap := h', toks := tk' }) :
    wpAny (model prog w) (ktrTop dp un gd cn cs L a ccd cl outer) (call (.ref f) vs) Q E s :=
  S _ _ _ _ _ _ _ _ _ _ _ _ _ _ _ _ _ B F X N T hk hd hu ret
end
end Mine
end
theorem Mine.offC2 : True := by
  w_top off
  trivial
section
open PySem PySem.W PySem.Spec PySem.Calls PyProof.Rows
set_option maxRecDepth 100000
namespace Mine
theorem fillK_C4 : (fun (_ : OpenLaw) => True) PySem.Challenge.rw_bj0039_01 ∧ hd.heap_39 = hd.heap_39 := by
  k_fill
  exact ⟨trivial, rfl⟩
section
variable {prog : Program} {w : World} {p : Program} {loose : List Str} {mean : ExcName → Option Value} {mg mb : Str → Option Value}
local macro_rules | `(tactic| k_mem) => `(tactic| first
  | (refine Keeps.get (by with_reducible assumption) ?_ ?kt; (case kt => rfl); k_mem)
  | (refine Sub.get (by with_reducible assumption) ?_; k_mem))
local macro_rules | `(tactic| k_mem) => `(tactic| ktr_member)
local macro_rules | `(tactic| k_room) => `(tactic| ktr_room)
local macro_rules | `(tactic| k_units) => `(tactic| ktr_units)
local macro_rules | `(tactic| walk_at "ite") => `(tactic| (k_closed; k_dflt (first | refine PySem.W.ite_pos (by decide +kernel) ?_ | refine PySem.W.ite_neg (by decide +kernel) ?_)))
local macro_rules | `(tactic| walk_at "callWith ref") => `(tactic| (k_here; k_dflt (first
  | (refine' callWith_K ?k1 ?k2 ?_; (case k1 => k_asm); (case k2 => k_is); k_whole)
  | (refine' callWith_F ?k1 ?_; (case k1 => exact FnAt.of (by k_asm) (by k_mem)); k_whole)
  | (refine' callWith_F0 ?k1 ?_; (case k1 => exact FnAt.of (by k_asm) (by k_mem)); k_whole; try dsimp only [List.nil_append, List.cons_append])
  | (refine' callWith_K0 ?k1 ?k2 ?_; (case k1 => k_in); (case k2 => k_is); k_whole)
  | (refine' callWith_M0 ?k1 ?k2 ?_; (case k1 => k_meth); (case k2 => k_is); k_whole; try dsimp only [List.nil_append, List.cons_append])
  | (refine' callWith_M ?k1 ?k2 ?k3 ?k4 ?_; (case k1 => k_asm); (case k2 => k_asm); (case k3 => k_mem); (case k4 => k_is); k_whole))))
local macro_rules | `(tactic| walk_at "subscriptTail Attribute") => `(tactic| (k_here; k_dflt (refine kba_turn (value' := PySem.Expr.Name (PySem.Str.ofString "_") ⟨0, 0, 0, 0⟩) (fun _ => rfl) ?_)))
local macro_rules | `(tactic| walk_at "eval Name") => `(tactic| (k_here; (fail_if_success (with_reducible show wpAny _ _ (eval (Expr.Name _ _) (compEnvC _ _ _ _)) _ _ _)); k_dflt (first
  | (refine' nameX_L ?F ?v ?_ ?a ?b; (case F => k_asm); (case a => rfl); (case b => rfl); (case v => rfl); k_whole)
  | (refine' nameX_K ?F ?X ?T ?e ?_ ?a ?b; (case F => k_asm); (case X => k_asm); (case T => k_asm); (case a => rfl); (case b => rfl); (case e => k_is); k_whole)
  | (refine' nameX_B ?F ?X ?T ?e ?v ?n ?_ ?a ?b; (case F => k_asm); (case X => k_asm); (case T => k_asm); (case a => rfl); (case b => rfl); (case e => k_is); (case v => boot_fast); (case n => decide); k_whole))))
local macro_rules | `(tactic| walk_at "getAttr ref") => `(tactic| (k_here; k_dflt (refine' get_own ?k1 ?k2 ?k3 ?k4 ?k5 ?k6 ?k7 ?k8 ?k9 ?_; (case k1 => k_asm); (case k2 => k_asm); (case k3 => k_inst); (case k4 => k_is); (case k5 => k_is); (case k6 => k_is); (case k7 => k_is); (case k8 => k_get); (case k9 => k_handed); k_whole)))
local macro_rules | `(tactic| walk_at "call builtin:isinstance") => `(tactic| (k_here; (with_reducible show wpAny _ _ (call _ [Value.ref _, Value.ref _]) _ _ _); k_dflt (refine' isi_call ?k1 ?k2 ?k3 ?k4 ?_; (case k1 => k_in); (case k2 => k_types); (case k3 => k_is); (case k4 => intro e; cases e); k_whole)))
local macro_rules | `(tactic| walk_at "compareOp Eq ref ref") => `(tactic| (k_here; (refine cmp_ofEq ?_); k_dflt (refine' cmp_K ?k1 ?k2 ?k3 ?k4 ?k5 ?k6 ?k7 ?k8 ?_; (case k1 => k_units); (case k2 => k_asm); (case k3 => k_asm); (case k4 => k_inst); (case k5 => exact InstAt.type (by k_inst)); (case k6 => k_is); (case k7 => k_is); (case k8 => k_is); k_whole)))

theorem Nm.cls_or (n : Nm) : n.cls = 511 ∨ n.cls = 575 := by cases n <;> first | exact .inl rfl | exact .inr rfl
section
theorem lad1t {n : Nm} (hn : n.cls = 511) {t t'} {news : List (Addr × Obj)} :
    Spec prog w p loose mean mg mb 943 [.str n.str t, .str (Str.ofString "abcdfghijklmnopqrstuvwxyz") t'] 2 20 news (fun r news' => Sub news news' ∧ r = .bool true) := by
  have h := lad1 (prog := prog) (w := w) (p := p) (loose := loose) (mean := mean) (mg := mg) (mb := mb) (n := n) (t := t) (t' := t') (news := news)
  rw [hn] at h
  exact h
theorem lad1f {n : Nm} (hn : n.cls = 575) {t t'} {news : List (Addr × Obj)} :
    Spec prog w p loose mean mg mb 943 [.str n.str t, .str (Str.ofString "abcdfghijklmnopqrstuvwxyz") t'] 2 20 news (fun r news' => Sub news news' ∧ r = .bool false) := by
  have h := lad1 (prog := prog) (w := w) (p := p) (loose := loose) (mean := mean) (mg := mg) (mb := mb) (n := n) (t := t) (t' := t') (news := news)
  rw [hn] at h
  exact h
local macro_rules | `(tactic| walk_at "call ref") => `(tactic| (k_here; k_dflt (refine' use (lad1t (by assumption)) ?k1 ?k2 ?k3 ?k4 ?k5 ?kK ?kd ?ku ?_; (case k1 => k_asm); (case k2 => k_asm); (case k3 => k_asm); (case k4 => k_asm); (case k5 => k_asm); (case kK => first | exact rfl | assumption); (case kd => ktr_room); (case ku => ktr_units)); (intro r9 news9 h9 tk9 F9 N9 P9; (obtain ⟨S9, e9⟩ := P9; subst e9); (try dsimp only))))
local macro_rules | `(tactic| walk_at "call ref") => `(tactic| (k_here; k_dflt (refine' use (lad1f (by assumption)) ?k1 ?k2 ?k3 ?k4 ?k5 ?kK ?kd ?ku ?_; (case k1 => k_asm); (case k2 => k_asm); (case k3 => k_asm); (case k4 => k_asm); (case k5 => k_asm); (case kK => first | exact rfl | assumption); (case kd => ktr_room); (case ku => ktr_units)); (intro r9 news9 h9 tk9 F9 N9 P9; (obtain ⟨S9, e9⟩ := P9; subst e9); (try dsimp only))))
local macro_rules | `(tactic| walk_at "call ref") => `(tactic| (k_here; k_dflt (refine' use (lad2 (by assumption)) ?k1 ?k2 ?k3 ?k4 ?k5 ?kK ?kd ?ku ?_; (case k1 => k_asm); (case k2 => k_asm); (case k3 => k_asm); (case k4 => k_asm); (case k5 => k_asm); (case kK => first | exact rfl | assumption); (case kd => ktr_room); (case ku => ktr_units)); (intro r9 news9 h9 tk9 F9 N9 P9; (obtain ⟨S9, e9⟩ := P9; subst e9); (try dsimp only))))
local macro_rules | `(tactic| walk_at "call ref") => `(tactic| (k_here; k_dflt (refine' use (lad3 (by assumption)) ?k1 ?k2 ?k3 ?k4 ?k5 ?kK ?kd ?ku ?_; (case k1 => k_asm); (case k2 => k_asm); (case k3 => k_asm); (case k4 => k_asm); (case k5 => k_asm); (case kK => first | exact rfl | assumption); (case kd => ktr_room); (case ku => ktr_units)); (intro r9 news9 h9 tk9 F9 N9 P9; (obtain ⟨S9, e9⟩ := P9; subst e9); (try dsimp only))))

set_option maxHeartbeats 4000000 in
theorem ind1 {n : Nm} (hn : n.cls = 511) {t} {news : List (Addr × Obj)} :
    Spec prog w p loose mean mg mb 950 [.str n.str t] 4 40 news (fun r news' => Sub news news' ∧ r = .bool true) := by
  unfold Spec
  intro dp un gd cn cs a ccd cl outer A₀ base h₀ L m s Q E B F X N T hk hd hu hret
  refine wpAny_call ?_
  k_dflt ktr_enter
  k_steps
  refine hret _ _ _ _ (by k_asm) (by k_asm) ⟨?_, rfl⟩
  assumption
set_option maxHeartbeats 4000000 in
theorem ind0 {n : Nm} (hn : n.cls = 575) {t} {news : List (Addr × Obj)} :
    Spec prog w p loose mean mg mb 950 [.str n.str t] 4 40 news (fun r news' => Sub news news' ∧ r = .bool false) := by
  unfold Spec
  intro dp un gd cn cs a ccd cl outer A₀ base h₀ L m s Q E B F X N T hk hd hu hret
  refine wpAny_call ?_
  k_dflt ktr_enter
  k_steps
  refine hret _ _ _ _ (by k_asm) (by k_asm) ⟨?_, rfl⟩
  assumption
set_option maxHeartbeats 4000000 in
theorem fun0 {n : Nm} (hn : n.cls = 575) {t} {news : List (Addr × Obj)} :
    Spec prog w p loose mean mg mb 957 [.str n.str t] 4 40 news (fun r news' => Sub news news' ∧ r = .bool false) := by
  unfold Spec
  intro dp un gd cn cs a ccd cl outer A₀ base h₀ L m s Q E B F X N T hk hd hu hret
  refine wpAny_call ?_
  k_dflt ktr_enter
  k_steps
  refine hret _ _ _ _ (by k_asm) (by k_asm) ⟨?_, rfl⟩
  assumption
set_option maxHeartbeats 4000000 in
theorem ev0 {n : Nm} (hn : n.cls = 575) {t} {news : List (Addr × Obj)} :
    Spec prog w p loose mean mg mb 964 [.str n.str t] 4 40 news (fun r news' => Sub news news' ∧ r = .bool false) := by
  unfold Spec
  intro dp un gd cn cs a ccd cl outer A₀ base h₀ L m s Q E B F X N T hk hd hu hret
  refine wpAny_call ?_
  k_dflt ktr_enter
  k_steps
  refine hret _ _ _ _ (by k_asm) (by k_asm) ⟨?_, rfl⟩
  assumption
end
end
end Mine
end
theorem Mine.offC4 : True := by
  w_top off
  trivial
section
open PySem PySem.W PySem.Spec PySem.Calls PyProof.Rows
set_option maxRecDepth 100000
namespace Mine
section
variable {prog : Program} {w : World} {K : Frag} {p : Program} {loose : List Str} {mean : ExcName → Option Value} {mg mb : Str → Option Value}
  {A₀ A : Around} {s : Shared} {base h₀ g₀ : Heap} {env : Env} {outer : List Env} {L : Addr} {m : Str → Option Value} {news : List (Addr × Obj)}

/-- the callers' ground, where the callee's has turned -/
theorem turn_down {g g' G : Heap} (B : Below A₀ base outer h₀) (FG : Fr h₀ L g m) (hf : env.frame = some L)
    (XB : K.In base) (TB : Top p loose mean mg mb base) (D : KtsDicts (outer.filterMap (·.frame)) h₀) (T0 : KtsTurn (outer.filterMap (·.frame)) g₀ h₀)
    (T' : KtsTurn ((env :: outer).filterMap (·.frame)) g g') (keep : ∀ b o, g'.get? b = some o → G.get? b = some o) :
    ∃ h₀', KtsTurn (outer.filterMap (·.frame)) g₀ h₀' ∧ Fr h₀' L G m ∧ Below A₀ base outer h₀' ∧ K.In h₀' ∧ Top p loose mean mg mb h₀' ∧ KtsDicts (outer.filterMap (·.frame)) h₀' ∧
      (∀ b, h₀'.get? b = none ↔ h₀.get? b = none) := by
  have nL₀ : h₀.get? L = none := kts_self FG
  have fs : ∀ b, b ∈ (env :: outer).filterMap (·.frame) → b = L ∨ b ∈ outer.filterMap (·.frame) := by
    intro b hb
    rw [List.filterMap_cons, hf] at hb
    rcases List.mem_cons.mp hb with q | q
    · exact .inl q
    · exact .inr q
  obtain ⟨oL, es, ep, hL, hLd, hLk, hLf⟩ := FG.ns
  obtain ⟨sl, hs⟩ := T'.up hL
  obtain ⟨T₁, S₁⟩ := kts_turn_at (h := G) (fs := outer.filterMap (·.frame)) (g := h₀)
    (fun b hb => by
      obtain ⟨_, o, ho', _⟩ := B.frames.mem hb
      exact ⟨o, ho'⟩)
    (fun b o e nmem => keep _ _ (T'.other b o (FG.keep b o e) (fun q => by
      rcases fs b q with z | z
      · rw [z, nL₀] at e
        cases e
      · exact nmem z)))
    (fun b o e hm => by
      obtain ⟨sl', hs'⟩ := T'.up (FG.keep b o e)
      exact ⟨sl', keep _ _ hs'⟩)
  have B₃ : Below A₀ base outer (ktsHeap G (outer.filterMap (·.frame)) h₀) := ⟨B.stack, fun b o e => T₁.other b o (B.stays b o e) (fun hm => by
    rw [(B.frames.mem hm).1] at e
    cases e), B.frames.of_keeps fun b o e _ => by
    obtain ⟨sl', hs'⟩ := T₁.up e
    exact ⟨_, hs', rfl⟩⟩
  refine ⟨_, T0.trans T₁, ⟨⟨_, es, ep, keep _ _ hs, hLd, hLk, hLf⟩, S₁, by rw [T₁.size]; exact FG.above⟩, B₃, XB.keeps B₃.stays, TB.keeps B₃.stays, D.turn T₁, fun b => ⟨fun e => ?_, T₁.none_ b⟩⟩
  cases q : h₀.get? b with
  | none => rfl
  | some o =>
    obtain ⟨sl', hs'⟩ := T₁.up q
    rw [hs'] at e; cases e

/-- a def's way back -/
def LeaveR (fs : List Addr) (g : Heap) (s₀ : Shared) (post : Value → List (Addr × Obj) → Prop) (v : Value) (s' : Shared) : Prop :=
  ∃ g' L' m' news' h' tk', s' = { s₀ with heap := h', toks := tk' } ∧ KtsTurn fs g g' ∧ Fr g' L' h' m' ∧ News g' L' h' news' ∧ post v news'
/-- a def's way out by the law's own exception -/
def LeaveE (fs : List Addr) (base g : Heap) (l : List Env) (s₀ : Shared) (postE : List (Addr × Obj) → Prop) (v : Value) (s' : Shared) : Prop :=
  ∃ g' e t vs news' h' tk', v = .ref e ∧ s' = { s₀ with heap := h', toks := tk' } ∧ KtsTurn fs g g' ∧ RaisedS base g' l e (.ref 1031) t vs news' h' ∧ g'.UpToSlots h' ∧ postE news'

variable {name qual : Str} {params : Arguments} {body : List Stmt} {scope : Scope} {dV kV doc pm cdv ct oc : Value} {an od : Option Addr} {osl : Array (Option Value)} {f : Addr} {args : Args} {binds : List (Str × Value)}
theorem enterS {R : Result → Shared → Prop} {post : Value → List (Addr × Obj) → Prop} {postE : List (Addr × Obj) → Prop}
    (B : Below A₀ base outer h₀) (F : Fr h₀ L s.heap m) (X₀ : K.In h₀) (N : News h₀ L s.heap news) (T : Top p loose mean mg mb h₀) (XB : K.In base) (TB : Top p loose mean mg mb base) (D : KtsDicts (outer.filterMap (·.frame)) h₀)
    (T0 : KtsTurn (outer.filterMap (·.frame)) g₀ h₀) (hA : A.frames = some (env :: outer)) (hf : env.frame = some L) (hke : env.scope.kind = .function)
    (ho : K.lookup f = some ⟨oc, od, .func (fnOf name qual params body scope dV kV doc pm an cdv ct), osl⟩) (hcd : codeIn K cdv qual = true) (hroom : A.depth < recursionLimit)
    (hbind : BindsTo s (fnOf name qual params body scope dV kV doc pm an cdv ct) args binds) (hloc : ∀ y ∈ binds, scope.names.lookup y.1 = some .local)
    (ret : ∀ r h₀' news' h' tk', KtsTurn (outer.filterMap (·.frame)) g₀ h₀' → Fr h₀' L h' m → News h₀' L h' news' → Below A₀ base outer h₀' → K.In h₀' → Top p loose mean mg mb h₀' → KtsDicts (outer.filterMap (·.frame)) h₀' →
      post r news' → R (.ok (.ret r)) { s with heap := h', toks := tk' })
    (exc : ∀ h₀' G e t vs news' h' tk', KtsTurn (outer.filterMap (·.frame)) g₀ h₀' → Fr h₀' L G m → Below A₀ base outer h₀' → K.In h₀' → Top p loose mean mg mb h₀' → KtsDicts (outer.filterMap (·.frame)) h₀' →
      RaisedS base G (env :: outer) e (.ref 1031) t vs news' h' → G.UpToSlots h' → postE news' → R (.error (.ref e)) { s with heap := h', toks := tk' })
    (h : ∀ g L' h₁, Fr h₀ L g m → Fr g L' h₁ (fun y => binds.reverse.lookup y) → News g L' h₁ news → Below A base (env :: outer) g → K.In g → Top p loose mean mg mb g → KtsDicts ((env :: outer).filterMap (·.frame)) g →
      wpAny (model prog w) (A.deeper (envOf qual scope L' f cdv)) (execs body (envOf qual scope L' f cdv))
        (fun fl s' => LeaveR ((env :: outer).filterMap (·.frame)) g s post (match fl with | .ret v => v | _ => .none) s')
        (fun e s' => wpAny (model prog w) (A.deeper (envOf qual scope L' f cdv)) (leaving (envOf qual scope L' f cdv) e)
          (fun _ s'' => LeaveE ((env :: outer).filterMap (·.frame)) base g (env :: outer) s postE e s'') (fun _ _ => False) s')
        { s with heap := h₁, toks := s.toks + binds.length })
    (hco : scope.isCoroutine = false) (hgen : scope.isGenerator = false) (hk : scope.kind = .function)
    (hcell : ∀ x ∈ scope.names, x.2 ≠ .cell) : codeAny (model prog w) A (.call (.ref f) args) R s := by
  have X := X₀.keeps F.keep
  refine codeAny_call_def (fd := fnOf name qual params body scope dV kV doc pm an cdv ct) (body := body) (binds := binds) hroom (X _ _ ho) rfl (T.nolimit.keeps F.keep) (codeRec_of X hcd) rfl hbind hcell hloc (fun h₁ hns hk₁ => ?_) hco hgen hk
  obtain ⟨FG, BG, st, _⟩ := groundX (A := A) (R := R) B F N hA hf hke
  have nL₀ : h₀.get? L = none := kts_self F
  refine wpAny_mono (h _ s.heap.objs.size h₁ FG ⟨hns, fun b o e => hk₁ b o (of_hideAll _ e), Nat.le_of_eq (hideAll_size _ _)⟩
    (fun p hp => ⟨hk₁ _ _ (N p hp).1, Nat.ne_of_lt (Heap.lt_size (N p hp).1), hideAll_none _ (List.mem_map_of_mem hp)⟩) BG (X₀.keeps st) (T.keeps st) (fun b hb => by
      rw [List.filterMap_cons, hf] at hb
      rcases List.mem_cons.mp hb with rfl | hb
      · obtain ⟨oL, es, ep, hL, hLd, _⟩ := FG.ns
        exact ⟨oL, es, ep, hL, hLd⟩
      · obtain ⟨o, es', n', ho', hd'⟩ := D b hb
        exact ⟨o, es', n', st b o ho', hd'⟩)) (fun fl s' hl => ?_) (fun e s' hl => wpAny_mono hl (fun _ s'' hl => ?_) fun _ _ x => x.elim)
  · obtain ⟨g', L', m', news', h', tk', rfl, T', F', N', hp⟩ := hl
    obtain ⟨h₀', t1, t2, t3, t4, t5, t6, t7⟩ := turn_down (A₀ := A₀) (env := env) B FG hf XB TB D T0 T' F'.keep
    refine ret _ h₀' news' h' tk' t1 t2 (fun q hq => ⟨(N' q hq).1, fun z => ?_, (t7 _).mpr ?_⟩) t3 t4 t5 t6 hp
    · obtain ⟨oL, es, ep, hL, _⟩ := FG.ns
      obtain ⟨sl, hs⟩ := T'.up hL
      have := (N' q hq).2.2; rw [z, hs] at this; cases this
    · cases q' : h₀.get? q.1 with
      | none => rfl
      | some o =>
        obtain ⟨sl', hs'⟩ := T'.up (FG.keep _ _ q')
        have := (N' q hq).2.2
        rw [hs'] at this
        cases this
  · obtain ⟨g', e', t, vs, news', h', tk', rfl, rfl, T', R', U', hp⟩ := hl
    obtain ⟨h₀', t1, t2, t3, t4, t5, t6, t7⟩ := turn_down (A₀ := A₀) (env := env) B FG hf XB TB D T0 T' (fun _ _ e => e)
    exact exc h₀' g' e' t vs news' h' tk' t1 t2 t3 t4 t5 t6 R' U' hp
end
section
variable (prog : Program) (w : World) (p : Program) (loose : List Str) (mean : ExcName → Option Value) (mg mb : Str → Option Value)
def SpecS (f : Addr) (vs : List Value) (d u : Nat) (news : List (Addr × Obj)) (post : Value → List (Addr × Obj) → Prop) (postE : List (Addr × Obj) → Prop) : Prop :=
  ∀ (dp un : Nat) (gd : Option (List Code)) (cn : Str) (cs : Scope) (a : Addr) (ccd : Value) (cl : List (Str × Addr)) (outer : List Env) (A₀ : Around) (base h₀ g₀ : Heap) (L : Addr) (m : Str → Option Value) (s : Shared)
    (Q E : Value → Shared → Prop),
    Below A₀ base outer h₀ → Fr h₀ L s.heap m → (hd.heap_39 w.params).In h₀ → News h₀ L s.heap news → Top p loose mean mg mb h₀ → (hd.heap_39 w.params).In base → Top p loose mean mg mb base → KtsDicts (outer.filterMap (·.frame)) h₀ →
    KtsTurn (outer.filterMap (·.frame)) g₀ h₀ → cs.kind = .function → dp + d < recursionLimit → un + u < cLine →
    (∀ r h₀' news' h' tk', KtsTurn (outer.filterMap (·.frame)) g₀ h₀' → Fr h₀' L h' m → News h₀' L h' news' → Below A₀ base outer h₀' → (hd.heap_39 w.params).In h₀' → Top p loose mean mg mb h₀' → KtsDicts (outer.filterMap (·.frame)) h₀' →
      post r news' → Q r { s with heap := h', toks := tk' }) →
    (∀ h₀' G e t vs' news' h' tk', KtsTurn (outer.filterMap (·.frame)) g₀ h₀' → Fr h₀' L G m → Below A₀ base outer h₀' → (hd.heap_39 w.params).In h₀' → Top p loose mean mg mb h₀' → KtsDicts (outer.filterMap (·.frame)) h₀' →
      RaisedS base G (envX cn cs L a ccd cl :: outer) e (.ref 1031) t vs' news' h' → G.UpToSlots h' → postE news' → E (.ref e) { s with heap := h', toks := tk' }) →
    wpAny (model prog w) (ktrTop dp un gd cn cs L a ccd cl outer) (call (.ref f) vs) Q E s
end
end Mine
end
section
open PySem PySem.W PySem.Spec PySem.Calls PyProof.Rows
set_option maxRecDepth 100000
namespace Mine
inductive Rel2 {α β : Type} (R : α → β → Prop) : List α → List β → Prop where
  | nil : Rel2 R [] []
  | cons {a b l k} : R a b → Rel2 R l k → Rel2 R (a :: l) (b :: k)
theorem Rel2.snoc {α β : Type} {R : α → β → Prop} {l : List α} {k : List β} {a : α} {b : β} (h : Rel2 R l k) (r : R a b) : Rel2 R (l ++ [a]) (k ++ [b]) := by
  induction h with
  | nil => exact .cons r .nil
  | cons x _ ih => exact .cons x ih
theorem Rel2.mono {α β : Type} {R R' : α → β → Prop} {l : List α} {k : List β} (h : Rel2 R l k) (i : ∀ a b, R a b → R' a b) : Rel2 R' l k := by
  induction h with
  | nil => exact .nil
  | cons x _ ih => exact .cons (i _ _ x) ih
theorem Rel2.length {α β : Type} {R : α → β → Prop} {l : List α} {k : List β} (h : Rel2 R l k) : l.length = k.length := by
  induction h with
  | nil => rfl
  | cons _ _ ih => rw [List.length_cons, List.length_cons, ih]

/-- what stands under a name -/
def look : List (Nm × Nm) → Nm → Option Nm
  | [], _ => none
  | q :: r, n => if q.1 = n then some q.2 else look r n
def KVal (v : Value) (o : Nm) : Prop := ∃ t, v = .str o.str t
def tmOf : Nm → Tm
  | .mother => .app (.nm .mother) (.nm .rex)
  | n => .nm n
def HVal (news : List (Addr × Obj)) (v : Value) (o : Nm) : Prop := ∃ e, v = .ref e ∧ ExIn news e (tmOf o)
abbrev Ent (V : Value → Nm → Prop) (a : Str × Value) (q : Nm × Nm) : Prop := a.1 = q.1.str ∧ V a.2 q.2
section
variable {V : Value → Nm → Prop} {kvs : List (Str × Value)} {κ : List (Nm × Nm)} {n o : Nm} {v : Value}
theorem Rel2.none (h : Rel2 (Ent V) kvs κ) (e : look κ n = none) : valueAt kvs n.str = none := by
  induction h with
  | nil => rfl
  | @cons a b l k x _ ih =>
    unfold look at e
    by_cases hb : b.1 = n
    · rw [if_pos hb] at e; cases e
    · rw [if_neg hb] at e
      have := ih e
      unfold valueAt at this ⊢
      rw [List.find?_cons, decide_eq_false (fun q => hb (Nm.str_inj.mp (x.1.symm.trans q)))]
      exact this
theorem Rel2.some (h : Rel2 (Ent V) kvs κ) (e : look κ n = some o) : ∃ v, valueAt kvs n.str = some v ∧ V v o := by
  induction h with
  | nil => cases e
  | @cons a b l k x _ ih =>
    unfold look at e
    unfold valueAt
    by_cases hb : b.1 = n
    · rw [if_pos hb] at e; cases e
      rw [List.find?_cons, decide_eq_true (x.1.trans (congrArg Nm.str hb))]
      exact ⟨_, rfl, x.2⟩
    · rw [if_neg hb] at e
      obtain ⟨v, h1, h2⟩ := ih e
      refine ⟨v, ?_, h2⟩
      rw [List.find?_cons, decide_eq_false (fun q => hb (Nm.str_inj.mp (x.1.symm.trans q)))]
      exact h1
theorem Rel2.put_new (h : Rel2 (Ent V) kvs κ) (e : look κ n = .none) (hv : V v o) : Rel2 (Ent V) (stored kvs n.str v) (κ ++ [(n, o)]) := by
  rw [stored_absent (h.none e)]
  exact h.snoc ⟨rfl, hv⟩
theorem Rel2.map_old (h : Rel2 (Ent V) kvs κ) (hu : ∀ q ∈ κ, q.1 = n → q.2 = o) (hv : V v o) : Rel2 (Ent V) (kvs.map fun kv => if kv.1 = n.str then (kv.1, v) else kv) κ := by
  induction h with
  | nil => exact .nil
  | @cons a b l k x _ ih =>
    refine .cons ?_ (ih fun q hq => hu q (.tail _ hq))
    by_cases hb : a.1 = n.str
    · show Ent V (if a.1 = n.str then (a.1, v) else a) b
      rw [if_pos hb]
      have : b.1 = n := Nm.str_inj.mp (x.1.symm.trans hb)
      exact ⟨x.1, hu b (.head _) this ▸ hv⟩
    · show Ent V (if a.1 = n.str then (a.1, v) else a) b
      rw [if_neg hb]; exact x
theorem look_mem (e : look κ n = .some o) : (n, o) ∈ κ := by
  induction κ with
  | nil => cases e
  | cons q r ih =>
    unfold look at e
    by_cases hb : q.1 = n
    · rw [if_pos hb] at e; cases e; rw [← hb]; exact .head _
    · rw [if_neg hb] at e; exact .tail _ (ih e)
theorem look_nodup (hn : (κ.map (·.1)).Nodup) {q : Nm × Nm} (hq : q ∈ κ) : look κ q.1 = .some q.2 := by
  induction κ with
  | nil => cases hq
  | cons q' r ih =>
    rw [List.map_cons, List.nodup_cons] at hn
    unfold look
    rcases List.mem_cons.mp hq with rfl | hq
    · rw [if_pos rfl]
    · have : q'.1 ≠ q.1 := fun e => hn.1 (e ▸ List.mem_map.mpr ⟨q, hq, rfl⟩)
      rw [if_neg this]; exact ih hn.2 hq
theorem Rel2.keys (h : Rel2 (Ent V) kvs κ) : kvs.map (·.1) = κ.map (fun q => q.1.str) := by
  induction h with
  | nil => rfl
  | cons x _ ih => rw [List.map_cons, List.map_cons, ih, x.1]
theorem Rel2.nodup (h : Rel2 (Ent V) kvs κ) (hn : (kvs.map (·.1)).Nodup) : (κ.map (·.1)).Nodup := by
  rw [h.keys] at hn
  have : (κ.map (fun q => q.1.str)) = (κ.map (·.1)).map Nm.str := by rw [List.map_map]; rfl
  rw [this] at hn
  exact List.Pairwise.of_map Nm.str (fun a b x e => x (congrArg Nm.str e)) hn
theorem Rel2.put_old (h : Rel2 (Ent V) kvs κ) (hn : (kvs.map (·.1)).Nodup) (e : look κ n = .some o) (hv : V v o) : Rel2 (Ent V) (stored kvs n.str v) κ := by
  obtain ⟨v', h1, _⟩ := h.some e
  have hany : kvs.any (fun kv => kv.1 = n.str) = true := by
    unfold valueAt at h1
    cases hf : kvs.find? (fun kv => kv.1 = n.str) with
    | none => rw [hf] at h1; cases h1
    | some y => exact List.any_eq_true.mpr ⟨y, List.mem_of_find?_eq_some hf, List.find?_some (p := fun (kv : Str × Value) => decide (kv.1 = n.str)) hf⟩
  unfold stored
  rw [if_pos hany]
  refine h.map_old (fun q hq hqn => ?_) hv
  have h2 := look_nodup (h.nodup hn) hq
  rw [hqn, e] at h2
  exact (Option.some.inj h2).symm
end

/-- the one binding, as the program's dicts make it -/
def isVar : Nm → Bool
  | .x | .y | .w => true
  | _ => false
theorem any_isVar (o : Nm) : ([Str.ofString "x", Str.ofString "y", Str.ofString "w"].any fun x => x == o.str) = isVar o := by cases o <;> decide +kernel
def keepF (κ : List (Nm × Nm)) (n o : Nm) : Option (List (Nm × Nm)) :=
  match look κ n with
  | none => some (κ ++ [(n, o)])
  | some o1 => if o1 = o then some κ else if isVar o = true then (match look κ o with
    | none => some (κ ++ [(o, n)])
    | some o2 => if o2 = n then some κ else none) else none

def filt (d : Addr) (news : List (Addr × Obj)) : List (Addr × Obj) := news.filter fun p => decide (p.1 ≠ d)
def SubBut (d : Addr) (l l' : List (Addr × Obj)) : Prop := ∀ p ∈ l, p.1 ≠ d → p ∈ l'
section
variable {news l l' l'' : List (Addr × Obj)} {d : Addr} {o o' : Obj} {p : Addr × Obj}
theorem filt_mem (h : p ∈ news) (n : p.1 ≠ d) : p ∈ filt d news := List.mem_filter.mpr ⟨h, decide_eq_true n⟩
theorem filt_ne : ∀ p ∈ filt d news, p.1 ≠ d := fun p h => of_decide_eq_true (List.mem_filter.mp h).2
theorem newsFilt {h₀ h : Heap} {L : Addr} (N : News h₀ L h news) (hd : (d, o) ∈ news) : News h₀ L h ((d, o) :: filt d news) := fun p hp => by
  rcases List.mem_cons.mp hp with rfl | hp
  · exact N _ hd
  · exact N _ (List.mem_filter.mp hp).1
theorem upd_filt : UpdF d o ((d, o) :: Mine.filt d news) (fun o' => (d, o') :: Mine.filt d news) := UpdF.head filt_ne
theorem SubBut.refl : SubBut d l l := fun _ h _ => h
theorem SubBut.of (a : Sub l l') : SubBut d l l' := fun p h _ => a p h
theorem SubBut.trans (a : SubBut d l l') (b : SubBut d l' l'') : SubBut d l l'' := fun p h n => b p (a p h n) n
theorem SubBut.filt : SubBut d l ((d, o') :: Mine.filt d l) := fun _ h n => .tail _ (filt_mem h n)
theorem ne_of_objs {h₀ h : Heap} {L a b : Addr} {x y : Obj} (N : News h₀ L h news) (ha : (a, x) ∈ news) (hb : (b, y) ∈ news) (hxy : x ≠ y) : a ≠ b := fun e => by
  subst e
  exact hxy (Option.some.inj ((N _ ha).1.symm.trans (N _ hb).1))
end
section
variable (prog : Program) (w : World)
/-- a dict of the call's own, under str keys -/
def DictAt (news : List (Addr × Obj)) (d : Addr) (kvs : List (Str × Value)) : Prop := ∃ o, (d, o) ∈ news ∧ o.IsDictOf (PySem.strKind prog w) kvs ∧ (d == sysModules) = false
def KeptAt (news : List (Addr × Obj)) (k : Addr) (κ : List (Nm × Nm)) : Prop := ∃ kvs, DictAt prog w news k kvs ∧ Rel2 (Ent KVal) kvs κ
def HeldAt (news : List (Addr × Obj)) (b d : Addr) (κ : List (Nm × Nm)) : Prop :=
  ∃ db h t kvs, db ≠ d ∧ (b, instObj 1017 db) ∈ news ∧ (db, dictOf [⟨h, .str (Str.ofString "d") t, .ref d⟩] 1) ∈ news ∧ DictAt prog w news d kvs ∧ Rel2 (Ent (HVal news)) kvs κ
end
section
variable {prog : Program} {w : World} {A : Around} {E : Value → Shared → Prop} {s : Shared} {h₀ : Heap} {L d : Addr} {m : Str → Option Value} {news : List (Addr × Obj)} {kvs : List (Str × Value)} {x : Str} {t : Tok} {v : Value}
theorem DictAt.of (D : DictAt prog w news d kvs) (N : News h₀ L s.heap news) : s.heap.DictOf (PySem.strKind prog w) d kvs := by
  obtain ⟨o, h1, h2, _⟩ := D
  exact Heap.dictOf_iff.mpr ⟨o, (N _ h1).1, h2⟩
theorem DictAt.nodup (D : DictAt prog w news d kvs) : (kvs.map (·.1)).Nodup := by
  obtain ⟨o, _, ⟨_, _, _, _, _, _, h⟩, _⟩ := D
  exact h
theorem DictAt.notTab {o : Obj} (D : o.IsDictOf (PySem.strKind prog w) kvs) : notTab o = true := by
  obtain ⟨es, ep, ⟨c, _, _⟩, hda, _⟩ := D
  unfold Mine.notTab
  rw [c, hda]
theorem DictAt.mono {l' : List (Addr × Obj)} (D : DictAt prog w news d kvs) (k : Keeps news l') : DictAt prog w l' d kvs := by
  obtain ⟨o, h1, h2, h3⟩ := D
  exact ⟨o, k _ h1 (DictAt.notTab h2), h2, h3⟩
theorem d_in {Q : Value → Shared → Prop} {r : Option Value} (N : News h₀ L s.heap news) (D : DictAt prog w news d kvs) (e : valueAt kvs x = r) (h : Q (.bool r.isSome) { s with toks := s.toks + 1 }) :
    wpAny (model prog w) A (compareOp .In (.str x t) (.ref d)) Q E s := by
  have lo := D.choose_spec.2.2
  exact wpAny_in_of (strKind_is prog w x t) lo (D.of N).mapOf (by rw [e]; exact h)
theorem d_notin {Q : Value → Shared → Prop} {r : Option Value} (N : News h₀ L s.heap news) (D : DictAt prog w news d kvs) (e : valueAt kvs x = r) (h : Q (.bool (!r.isSome)) { s with toks := s.toks + 1 }) :
    wpAny (model prog w) A (compareOp .NotIn (.str x t) (.ref d)) Q E s := by
  have lo := D.choose_spec.2.2
  exact wpAny_notIn_of (strKind_is prog w x t) lo (D.of N).mapOf (by rw [e]; exact h)
theorem d_item {value slice : PySem.Expr} {Q : Value → Shared → Prop} (N : News h₀ L s.heap news) (D : DictAt prog w news d kvs) (e : valueAt kvs x = some v) (h : Q v { s with toks := s.toks + 1 })
    (hs : subscripted slice false (.ref d) (.str x t) = operate [.ref d, .str x t] (getItem (.ref d) (.str x t)) := by with_unfolding_all rfl) (hg : ∀ r, letTemporaryGo value (.ref d) r = pure () := by intro _; with_unfolding_all rfl) :
    wpAny (model prog w) A (subscriptTail value slice (.ref d) (.str x t)) Q E s :=
  subscriptTail_builtin (D.of N).typeIs slot_dict_getitem.lookup (wpAny_getItem_of (strKind_is prog w x t) (D.of N).mapOf e h) hs hg
theorem d_missing {value slice : PySem.Expr} {Q : Value → Shared → Prop} (N : News h₀ L s.heap news) (D : DictAt prog w news d kvs) (e : valueAt kvs x = none) (hh : A.handled = none)
    (h : ∀ h' e, Heap.NewExc s.heap h' e "KeyError" → E (.ref e) { s with heap := h', toks := s.toks + 1 })
    (hs : subscripted slice false (.ref d) (.str x t) = operate [.ref d, .str x t] (getItem (.ref d) (.str x t)) := by with_unfolding_all rfl) (hg : ∀ r, letTemporaryGo value (.ref d) r = pure () := by intro _; with_unfolding_all rfl) :
    wpAny (model prog w) A (subscriptTail value slice (.ref d) (.str x t)) Q E s := by
  have lo := D.choose_spec.2.2
  exact subscriptTail_builtin (D.of N).typeIs slot_dict_getitem.lookup (wpAny_getItem_missing_of (strKind_is prog w x t) lo hh (D.of N).mapOf e h) hs hg
def keysOk (kvs : List (Str × Value)) : Prop := ∀ p ∈ kvs, ∃ n : Nm, p.1 = n.str
theorem Rel2.keysOk {V : Value → Nm → Prop} {κ : List (Nm × Nm)} (R : Rel2 (Ent V) kvs κ) : keysOk kvs := by
  induction R with
  | nil => exact fun _ h => nomatch h
  | cons x _ ih =>
    intro p hp
    rcases List.mem_cons.mp hp with rfl | hp
    · exact ⟨_, x.1⟩
    · exact ih p hp
theorem nm_notAttr (n : Nm) : attrKeys.contains n.str = false := by cases n <;> decide +kernel
theorem attrish_dict {o : Obj} (hd : o.IsDictOf (PySem.strKind prog w) kvs) (hk : keysOk kvs) : attrish o = false := by
  obtain ⟨es, ep, ⟨c, _, _⟩, hda, hko, hp, _⟩ := hd
  unfold attrish
  rw [c, hda]
  dsimp only
  cases hl : es.toList with
  | nil => rfl
  | cons e r =>
    dsimp only
    cases hk' : e.key with
    | str x t =>
      dsimp only
      rw [hl] at hp
      cases kvs with
      | nil => cases hp
      | cons kv kr =>
        obtain ⟨n, hn⟩ := hk kv (.head _)
        have h1 : (PySem.strKind prog w).is kv.1 e.key = true := by
          cases hp with
          | cons h _ _ => exact h
        have h2 := strKind_is prog w x t
        rw [hk'] at h1
        have : x = kv.1 := by
          have h3 : Value.isStrOf kv.1 (.str x t) = true := h1
          simpa [Value.isStrOf] using h3
        rw [this, hn]
        exact nm_notAttr n
    | _ => rfl
theorem keepsA_of {o : Obj} (N : News h₀ L s.heap news) {l' : List (Addr × Obj)} (h1 : (d, o) ∈ news) (h2 : attrish o = false) (S : SubBut d news l') : KeepsA news l' := fun p hp ha => by
  refine S p hp fun e => ?_
  obtain ⟨a, x⟩ := p
  dsimp only at e ha
  subst e
  have := Option.some.inj ((N _ hp).1.symm.trans (N _ h1).1)
  dsimp only at this
  rw [this, h2] at ha
  cases ha
theorem d_set {Q : Unit → Shared → Prop} (F : Fr h₀ L s.heap m) (N : News h₀ L s.heap news) (D : DictAt prog w news d kvs) (hsz : kvs.length ≤ sizeLine) (hk : keysOk kvs)
    (h : ∀ h' news', Fr h₀ L h' m → News h₀ L h' news' → SubBut d news news' → KeepsA news news' → DictAt prog w news' d (stored kvs x v) → Q () { s with heap := h', toks := s.toks + 1 }) :
    wpAny (model prog w) A (setItem (.ref d) (.str x t) v) Q E s := by
  obtain ⟨o, h1, h2, h3⟩ := D
  refine kda_set (knd := PySem.strKind prog w) F (newsFilt N h1) upd_filt h2 (strKind_is prog w x t) hsz fun h' o' F' N' hd' => ?_
  exact h h' _ F' N' SubBut.filt (keepsA_of N h1 (attrish_dict h2 hk) SubBut.filt) ⟨o', .head _, hd', h3⟩
end
end Mine
end
section
namespace Mine
/-- the classes of names, as `_law_classes` makes them -/
def mergeC (cls : List (List Nm)) (q : Nm × Nm) : List (List Nm) :=
  cls.filter (fun r => !(r.contains q.1 || r.contains q.2)) ++ [(cls.filter fun r => r.contains q.1 || r.contains q.2).flatten]
def cls0 : List (List Nm) := [[.x], [.y], [.w], [.rex], [.tom], [.mother]]
def classesOf (rows : List (Nm × Nm)) : List (List Nm) := rows.foldl mergeC cls0
/-- joined by equations -/
inductive Cl (E : List (Nm × Nm)) : Nm → Nm → Prop where
  | refl (a) : Cl E a a
  | step {a b c} : Cl E a b → ((b, c) ∈ E ∨ (c, b) ∈ E) → Cl E a c
theorem Cl.trans {E : List (Nm × Nm)} {a b c : Nm} (h : Cl E a b) (k : Cl E b c) : Cl E a c := by
  induction k with
  | refl => exact h
  | step _ e ih => exact .step ih e
theorem Cl.one {E : List (Nm × Nm)} {a b : Nm} (h : (a, b) ∈ E ∨ (b, a) ∈ E) : Cl E a b := .step (.refl a) h
theorem Cl.symm {E : List (Nm × Nm)} {a b : Nm} (h : Cl E a b) : Cl E b a := by
  induction h with
  | refl => exact .refl _
  | step _ e ih => exact (Cl.one e.symm).trans ih
theorem Cl.mono {E E' : List (Nm × Nm)} (k : ∀ a b, (a, b) ∈ E → Cl E' a b) {a b : Nm} (h : Cl E a b) : Cl E' a b := by
  induction h with
  | refl => exact .refl _
  | step _ e ih => exact ih.trans (e.elim (k _ _) fun e => (k _ _ e).symm)
theorem Cl.nil {a b : Nm} (h : Cl [] a b) : a = b := by
  induction h with
  | refl => rfl
  | step _ e _ => rcases e with e | e <;> cases e
theorem Cl.snoc {E : List (Nm × Nm)} {q : Nm × Nm} {a b : Nm} (h : Cl (E ++ [q]) a b) : Cl E a b ∨ (Cl E a q.1 ∧ Cl E q.2 b) ∨ (Cl E a q.2 ∧ Cl E q.1 b) := by
  induction h with
  | refl => exact .inl (.refl _)
  | @step b c _ e ih =>
    have e' : ((b, c) ∈ E ∨ (c, b) ∈ E) ∨ (b, c) = q ∨ (c, b) = q := by
      rcases e with e | e <;> rcases List.mem_append.mp e with e | e
      · exact .inl (.inl e)
      · exact .inr (.inl (List.mem_singleton.mp e))
      · exact .inl (.inr e)
      · exact .inr (.inr (List.mem_singleton.mp e))
    rcases e' with e | e | e
    · rcases ih with ih | ⟨h1, h2⟩ | ⟨h1, h2⟩
      · exact .inl (.step ih e)
      · exact .inr (.inl ⟨h1, .step h2 e⟩)
      · exact .inr (.inr ⟨h1, .step h2 e⟩)
    · subst e
      rcases ih with ih | ⟨h1, h2⟩ | ⟨h1, h2⟩
      · exact .inr (.inl ⟨ih, .refl _⟩)
      · exact .inr (.inl ⟨h1, .refl _⟩)
      · exact .inl h1
    · subst e
      rcases ih with ih | ⟨h1, h2⟩ | ⟨h1, h2⟩
      · exact .inr (.inr ⟨ih, .refl _⟩)
      · exact .inl h1
      · exact .inr (.inr ⟨h1, .refl _⟩)
/-- the six names -/
def six (a : Nm) : Bool := match a with
  | .gives => false
  | _ => true
/-- the rows are the classes of E -/
structure Parts (E : List (Nm × Nm)) (cls : List (List Nm)) : Prop where
  all : ∀ a, six a = true → ∃ r ∈ cls, a ∈ r
  only : ∀ r ∈ cls, ∀ a ∈ r, six a = true
  same : ∀ r ∈ cls, ∀ a ∈ r, ∀ b, b ∈ r ↔ Cl E a b
  nodup : ∀ r ∈ cls, r.Nodup
  apart : cls.Pairwise fun r t => ∀ a ∈ r, a ∉ t
theorem parts0 : Parts [] cls0 := by
  refine ⟨?_, ?_, ?_, ?_, ?_⟩
  · intro a h; cases a <;> first | (cases h; done) | exact ⟨_, by decide, by decide⟩ | (refine ⟨[_], ?_, List.mem_singleton.mpr rfl⟩; decide)
  · intro r hr a ha
    have : r = [.x] ∨ r = [.y] ∨ r = [.w] ∨ r = [.rex] ∨ r = [.tom] ∨ r = [.mother] := by simpa [cls0] using hr
    rcases this with rfl | rfl | rfl | rfl | rfl | rfl <;> rw [List.mem_singleton.mp ha] <;> rfl
  · intro r hr a ha b
    have : r = [.x] ∨ r = [.y] ∨ r = [.w] ∨ r = [.rex] ∨ r = [.tom] ∨ r = [.mother] := by simpa [cls0] using hr
    have hs : r = [a] := by rcases this with rfl | rfl | rfl | rfl | rfl | rfl <;> rw [List.mem_singleton.mp ha]
    subst hs
    constructor
    · intro h; rw [List.mem_singleton.mp h]; exact .refl _
    · intro h; rw [← h.nil]; exact List.mem_singleton.mpr rfl
  · decide
  · decide
theorem Parts.merge {E : List (Nm × Nm)} {cls : List (List Nm)} (P : Parts E cls) {q : Nm × Nm} (h1 : six q.1 = true) (h2 : six q.2 = true) : Parts (E ++ [q]) (mergeC cls q) := by
  have mono : ∀ {a b}, Cl E a b → Cl (E ++ [q]) a b := fun h => h.mono fun a b hm => .one (.inl (List.mem_append_left _ hm))
  have join : Cl (E ++ [q]) q.1 q.2 := .one (.inl (List.mem_append_right _ (List.mem_singleton.mpr rfl)))
  have inB : ∀ a, a ∈ (cls.filter fun r => r.contains q.1 || r.contains q.2).flatten ↔ ∃ r ∈ cls, (q.1 ∈ r ∨ q.2 ∈ r) ∧ a ∈ r := by
    intro a
    rw [List.mem_flatten]
    constructor
    · rintro ⟨r, hr, ha⟩
      obtain ⟨h3, h4⟩ := List.mem_filter.mp hr
      exact ⟨r, h3, by simpa using h4, ha⟩
    · rintro ⟨r, hr, h3, ha⟩
      exact ⟨r, List.mem_filter.mpr ⟨hr, by simpa using h3⟩, ha⟩
  have inR : ∀ r, r ∈ cls.filter (fun r => !(r.contains q.1 || r.contains q.2)) ↔ r ∈ cls ∧ q.1 ∉ r ∧ q.2 ∉ r := by
    intro r
    rw [List.mem_filter]
    simp
  obtain ⟨r1, hr1, hq1⟩ := P.all _ h1
  obtain ⟨r2, hr2, hq2⟩ := P.all _ h2
  refine ⟨?_, ?_, ?_, ?_, ?_⟩
  · intro a ha
    obtain ⟨r, hr, har⟩ := P.all a ha
    by_cases hb : q.1 ∈ r ∨ q.2 ∈ r
    · exact ⟨_, List.mem_append_right _ (List.mem_singleton.mpr rfl), (inB a).mpr ⟨r, hr, hb, har⟩⟩
    · exact ⟨r, List.mem_append_left _ ((inR r).mpr ⟨hr, fun e => hb (.inl e), fun e => hb (.inr e)⟩), har⟩
  · intro r hr a ha
    rcases List.mem_append.mp hr with hr | hr
    · exact P.only r ((inR r).mp hr).1 a ha
    · rw [List.mem_singleton.mp hr] at ha
      obtain ⟨r', hr', _, ha'⟩ := (inB a).mp ha
      exact P.only r' hr' a ha'
  · intro r hr a ha b
    rcases List.mem_append.mp hr with hr | hr
    · obtain ⟨hr, n1, n2⟩ := (inR r).mp hr
      rw [P.same r hr a ha b]
      constructor
      · exact mono
      · intro h
        rcases h.snoc with h | ⟨h, _⟩ | ⟨h, _⟩
        · exact h
        · exact absurd ((P.same r hr a ha _).mpr h) n1
        · exact absurd ((P.same r hr a ha _).mpr h) n2
    · rw [List.mem_singleton.mp hr] at ha ⊢
      obtain ⟨r', hr', hb', ha'⟩ := (inB a).mp ha
      have near : ∀ {c}, (∃ r ∈ cls, (q.1 ∈ r ∨ q.2 ∈ r) ∧ c ∈ r) → Cl (E ++ [q]) q.1 c := by
        rintro c ⟨t, ht, hc | hc, hct⟩
        · exact mono ((P.same t ht _ hc c).mp hct)
        · exact join.trans (mono ((P.same t ht _ hc c).mp hct))
      constructor
      · intro hb
        exact (near ⟨r', hr', hb', ha'⟩).symm.trans (near ((inB b).mp hb))
      · intro h
        have hq : Cl E q.1 b ∨ Cl E q.2 b := by
          have : Cl (E ++ [q]) q.1 b := (near ⟨r', hr', hb', ha'⟩).trans h
          rcases this.snoc with h | ⟨_, h⟩ | ⟨_, h⟩
          · exact .inl h
          · exact .inr h
          · exact .inl h
        rcases hq with h | h
        · exact (inB b).mpr ⟨r1, hr1, .inl hq1, (P.same r1 hr1 _ hq1 b).mpr h⟩
        · exact (inB b).mpr ⟨r2, hr2, .inr hq2, (P.same r2 hr2 _ hq2 b).mpr h⟩
  · intro r hr
    rcases List.mem_append.mp hr with hr | hr
    · exact P.nodup r ((inR r).mp hr).1
    · rw [List.mem_singleton.mp hr]
      refine List.pairwise_flatten.mpr ⟨fun l hl => P.nodup l (List.mem_filter.mp hl).1, ?_⟩
      exact (P.apart.filter _).imp fun {r t} hx a ha b hb (e : a = b) => hx a ha (by rw [e]; exact hb)
  · refine List.pairwise_append.mpr ⟨P.apart.filter _, List.pairwise_singleton _ _, fun r hr t ht a ha hat => ?_⟩
    rw [List.mem_singleton.mp ht] at hat
    obtain ⟨r', hr', hb', ha'⟩ := (inB a).mp hat
    obtain ⟨hr, n1, n2⟩ := (inR r).mp hr
    rcases hb' with h | h
    · exact n1 ((P.same r hr a ha _).mpr ((P.same r' hr' a ha' _).mp h))
    · exact n2 ((P.same r hr a ha _).mpr ((P.same r' hr' a ha' _).mp h))
theorem parts_classes {rows : List (Nm × Nm)} (h : ∀ q ∈ rows, six q.1 = true ∧ six q.2 = true) : Parts rows (classesOf rows) := by
  have : ∀ (l : List (Nm × Nm)) (E : List (Nm × Nm)) (cls : List (List Nm)), Parts E cls → (∀ q ∈ l, six q.1 = true ∧ six q.2 = true) → Parts (E ++ l) (l.foldl mergeC cls) := by
    intro l
    induction l with
    | nil => intro E cls P _; rwa [List.append_nil]
    | cons q r ih =>
      intro E cls P hq
      have := ih (E ++ [q]) (mergeC cls q) (P.merge (hq q (.head _)).1 (hq q (.head _)).2) fun q' h' => hq q' (.tail _ h')
      rwa [List.append_assoc] at this
  exact this rows [] cls0 parts0 h
end Mine
end
section
namespace Mine
/-- from binding to binding -/
inductive Reach (κ : List (Nm × Nm)) : Nm → Nm → Prop where
  | refl (a) : Reach κ a a
  | step {a b r} : look κ a = some b → Reach κ b r → Reach κ a r
theorem Reach.trans {κ : List (Nm × Nm)} {a b c : Nm} (h : Reach κ a b) (k : Reach κ b c) : Reach κ a c := by
  induction h with
  | refl => exact k
  | step e _ ih => exact .step e (ih k)
theorem Reach.snoc {κ : List (Nm × Nm)} {a b c : Nm} (h : Reach κ a b) (e : look κ b = some c) : Reach κ a c := h.trans (.step e (.refl _))
theorem Reach.noCyc {κ : List (Nm × Nm)} {a r : Nm} (h : Reach κ a r) (hr : look κ r = none) : ∀ b, look κ a = some b → Reach κ b a → False := by
  induction h with
  | refl => intro b e _; rw [hr] at e; cases e
  | @step a b r e _ ih =>
    intro b' e' p
    have q := Option.some.inj (e.symm.trans e')
    subst q
    cases p with
    | refl => exact ih hr _ e (.refl _)
    | step e2 p2 => exact ih hr _ e2 (p2.snoc e)
def nxt (κ : List (Nm × Nm)) (a : Nm) : Nm := (look κ a).getD a
def end3 (κ : List (Nm × Nm)) (a : Nm) : Nm := nxt κ (nxt κ (nxt κ a))
theorem nxt_some {κ : List (Nm × Nm)} {a b : Nm} (h : look κ a = some b) : nxt κ a = b := by unfold nxt; rw [h]; rfl
theorem nxt_none {κ : List (Nm × Nm)} {a : Nm} (h : look κ a = none) : nxt κ a = a := by unfold nxt; rw [h]; rfl
theorem end3_of {κ : List (Nm × Nm)} (hv : ∀ a b, look κ a = some b → isVar a = true) {a r : Nm} (h : Reach κ a r) (hr : look κ r = none) : end3 κ a = r := by
  unfold end3
  have h0 := h
  cases h with
  | refl => rw [nxt_none hr, nxt_none hr, nxt_none hr]
  | @step _ b _ e1 h1 =>
    rw [nxt_some e1]
    have h1' := h1
    cases h1 with
    | refl => rw [nxt_none hr, nxt_none hr]
    | @step _ c _ e2 h2 =>
      rw [nxt_some e2]
      have h2' := h2
      cases h2 with
      | refl => rw [nxt_none hr]
      | @step _ d _ e3 h3 =>
        rw [nxt_some e3]
        cases h3 with
        | refl => rfl
        | @step _ e _ e4 h4 =>
          exfalso
          have va := hv _ _ e1
          have vb := hv _ _ e2
          have vc := hv _ _ e3
          have vd := hv _ _ e4
          have key : a = b ∨ a = c ∨ a = d ∨ b = c ∨ b = d ∨ c = d := by
            cases a <;> first | (cases va; done) | skip
            all_goals (cases b <;> first | (cases vb; done) | skip)
            all_goals (cases c <;> first | (cases vc; done) | skip)
            all_goals (cases d <;> first | (cases vd; done) | decide)
          rcases key with q | q | q | q | q | q
          · exact h0.noCyc hr b e1 (q ▸ .refl _)
          · exact h0.noCyc hr b e1 (by rw [q]; exact .step e2 (.refl _))
          · exact h0.noCyc hr b e1 (by rw [q]; exact .step e2 (.step e3 (.refl _)))
          · exact h1'.noCyc hr c e2 (by rw [q]; exact .refl _)
          · exact h1'.noCyc hr c e2 (by rw [q]; exact .step e3 (.refl _))
          · exact h2'.noCyc hr d e3 (by rw [q]; exact .refl _)
/-- a class with one end, that all come to -/
structure Root (κ E : List (Nm × Nm)) (a r : Nm) : Prop where
  here : Cl E a r
  free : look κ r = none
  only : ∀ r', Cl E a r' → look κ r' = none → r' = r
  come : ∀ b, Cl E a b → Reach κ b r
/-- what the bindings kept and the equations taken have to do with each other -/
structure Inv (κ E : List (Nm × Nm)) : Prop where
  keys : ∀ q ∈ κ, isVar q.1 = true ∧ six q.2 = true
  eqs : ∀ q ∈ κ, Cl E q.1 q.2
  kinds : ∀ a, (∃ r, Root κ E a r) ∨ ∀ b, Cl E a b → look κ b ≠ none
theorem Inv.same {κ E E' : List (Nm × Nm)} (I : Inv κ E) (h : ∀ a b, Cl E a b ↔ Cl E' a b) : Inv κ E' := by
  refine ⟨I.keys, fun q hq => (h _ _).mp (I.eqs q hq), fun a => ?_⟩
  rcases I.kinds a with ⟨r, R⟩ | c
  · exact .inl ⟨r, (h _ _).mp R.here, R.free, fun r' hr => R.only r' ((h _ _).mpr hr), fun b hb => R.come b ((h _ _).mpr hb)⟩
  · exact .inr fun b hb => c b ((h _ _).mpr hb)
theorem inv0 : Inv [] [] := by
  refine ⟨fun _ h => (nomatch h), fun _ h => (nomatch h), fun a => .inl ⟨a, .refl _, rfl, fun r h _ => h.nil.symm, fun b h => h.nil ▸ .refl _⟩⟩
theorem look_snoc {κ : List (Nm × Nm)} {u v : Nm} (hu : look κ u = none) : ∀ a, look (κ ++ [(u, v)]) a = if a = u then some v else look κ a := by
  intro a
  induction κ with
  | nil =>
    show (if u = a then _ else _) = _
    by_cases h : a = u
    · rw [if_pos h, if_pos h.symm]
    · rw [if_neg h, if_neg fun e => h e.symm]
  | cons q r ih =>
    have hu' : q.1 ≠ u ∧ look r u = none := by
      unfold look at hu
      by_cases h : q.1 = u
      · rw [if_pos h] at hu; cases hu
      · rw [if_neg h] at hu; exact ⟨h, hu⟩
    show (if q.1 = a then _ else _) = if a = u then some v else (if q.1 = a then some q.2 else look r a)
    by_cases h : q.1 = a
    · rw [if_pos h, if_pos h, if_neg fun e => hu'.1 (h.trans e)]
    · rw [if_neg h, if_neg h]; exact ih hu'.2
theorem Inv.add {κ E : List (Nm × Nm)} (I : Inv κ E) {u v : Nm} (hu : look κ u = none) (vu : isVar u = true) (sv : six v = true) : Inv (κ ++ [(u, v)]) (E ++ [(u, v)]) := by
  have L := look_snoc (v := v) hu
  have mono : ∀ {a b}, Cl E a b → Cl (E ++ [(u, v)]) a b := fun h => h.mono fun a b hm => .one (.inl (List.mem_append_left _ hm))
  have join : Cl (E ++ [(u, v)]) u v := .one (.inl (List.mem_append_right _ (List.mem_singleton.mpr rfl)))
  have Lu : look (κ ++ [(u, v)]) u = some v := by rw [L, if_pos rfl]
  have Ln : ∀ {a}, a ≠ u → look (κ ++ [(u, v)]) a = look κ a := fun h => by rw [L, if_neg h]
  have inClass : ∀ {a b}, look κ a = some b → Cl E a b := fun h => I.eqs _ (look_mem h)
  have keepR : ∀ {b r}, Reach κ b r → ¬ Cl E b u → Reach (κ ++ [(u, v)]) b r := by
    intro b r h
    induction h with
    | refl => intro _; exact .refl _
    | @step a b r e _ ih =>
      intro hn
      exact .step ((Ln fun q => hn (q ▸ .refl _)).trans e) (ih fun q => hn ((inClass e).trans q))
  have toU : ∀ {b r}, Reach κ b r → r = u → Reach (κ ++ [(u, v)]) b r := by
    intro b r h
    induction h with
    | refl => intro _; exact .refl _
    | @step a b r e _ ih =>
      intro hr
      exact .step ((Ln fun q => by rw [q, hu] at e; cases e).trans e) (ih hr)
  have Ru : Root κ E u u := by
    rcases I.kinds u with ⟨r, R⟩ | c
    · have := R.only u (.refl _) hu
      rw [← this] at R; exact R
    · exact absurd hu (c u (.refl _))
  refine ⟨fun q hq => ?_, fun q hq => ?_, fun a => ?_⟩
  · rcases List.mem_append.mp hq with hq | hq
    · exact I.keys q hq
    · rw [List.mem_singleton.mp hq]; exact ⟨vu, sv⟩
  · rcases List.mem_append.mp hq with hq | hq
    · exact mono (I.eqs q hq)
    · rw [List.mem_singleton.mp hq]; exact join
  · by_cases near : Cl E a u ∨ Cl E a v
    · have cls : ∀ b, Cl (E ++ [(u, v)]) a b ↔ Cl E u b ∨ Cl E v b := by
        intro b
        constructor
        · intro h
          rcases h.snoc with h | ⟨_, h⟩ | ⟨_, h⟩
          · rcases near with n | n
            · exact .inl (n.symm.trans h)
            · exact .inr (n.symm.trans h)
          · exact .inr h
          · exact .inl h
        · have au : Cl (E ++ [(u, v)]) a u := near.elim mono fun n => (mono n).trans join.symm
          rintro (h | h)
          · exact au.trans (mono h)
          · exact (au.trans join).trans (mono h)
      by_cases one : Cl E u v
      · refine .inr fun b hb => ?_
        have hub : Cl E u b := ((cls b).mp hb).elim id fun h => one.trans h
        by_cases q : b = u
        · rw [q, Lu]; exact fun e => nomatch e
        · rw [Ln q]; exact fun e => q (Ru.only b hub e)
      · rcases I.kinds v with ⟨r, R⟩ | c
        · have hru : r ≠ u := fun q => one (q ▸ R.here).symm
          have vu' : Reach (κ ++ [(u, v)]) v r := keepR (R.come v (.refl _)) fun q => one q.symm
          refine .inl ⟨r, (cls r).mpr (.inr R.here), (Ln hru).trans R.free, fun r' hr' hn => ?_, fun b hb => ?_⟩
          · have q : r' ≠ u := fun q => by rw [q, Lu] at hn; cases hn
            rw [Ln q] at hn
            rcases (cls r').mp hr' with h | h
            · exact absurd (Ru.only r' h hn) q
            · exact R.only r' h hn
          · rcases (cls b).mp hb with h | h
            · exact (toU (Ru.come b h) rfl).trans (.step Lu vu')
            · exact keepR (R.come b h) fun q => one ((h.trans q).symm)
        · refine .inr fun b hb => ?_
          by_cases q : b = u
          · rw [q, Lu]; exact fun e => nomatch e
          · rw [Ln q]
            rcases (cls b).mp hb with h | h
            · exact fun e => q (Ru.only b h e)
            · exact c b h
    · have nu : ¬ Cl E a u := fun h => near (.inl h)
      have cls : ∀ b, Cl (E ++ [(u, v)]) a b ↔ Cl E a b := by
        intro b
        constructor
        · intro h
          rcases h.snoc with h | ⟨h, _⟩ | ⟨h, _⟩
          · exact h
          · exact absurd (.inl h) near
          · exact absurd (.inr h) near
        · exact mono
      have ne : ∀ {b}, Cl E a b → b ≠ u := fun h q => nu (q ▸ h)
      rcases I.kinds a with ⟨r, R⟩ | c
      · exact .inl ⟨r, (cls r).mpr R.here, (Ln (ne R.here)).trans R.free, fun r' h hn => R.only r' ((cls r').mp h) (by rw [Ln (ne ((cls r').mp h))] at hn; exact hn), fun b h => keepR (R.come b ((cls b).mp h)) fun q => nu (((cls b).mp h).trans q)⟩
      · exact .inr fun b h => by rw [Ln (ne ((cls b).mp h))]; exact c b ((cls b).mp h)
theorem Inv.keep {κ κ' E : List (Nm × Nm)} (I : Inv κ E) {n o : Nm} (vn : isVar n = true) (so : six o = true) (h : keepF κ n o = some κ') : Inv κ' (E ++ [(n, o)]) := by
  have old : Cl E n o → Inv κ (E ++ [(n, o)]) := fun c => I.same fun a b => by
    constructor
    · exact fun h => h.mono fun a b hm => .one (.inl (List.mem_append_left _ hm))
    · exact fun h => h.mono fun a b hm => by
        rcases List.mem_append.mp hm with hm | hm
        · exact .one (.inl hm)
        · cases List.mem_singleton.mp hm; exact c
  have six_var : ∀ {a}, isVar a = true → six a = true := by intro a h; cases a <;> first | rfl | (cases h)
  unfold keepF at h
  split at h
  · rename_i h1; cases h; exact I.add h1 vn so
  · rename_i o1 h1
    split at h
    · rename_i e; cases h; exact old (I.eqs _ (look_mem (e ▸ h1)))
    · split at h
      · rename_i vo
        split at h
        · rename_i h2
          cases h
          refine (I.add h2 vo (six_var vn)).same fun a b => ?_
          constructor
          · exact fun h => h.mono fun a b hm => by
              rcases List.mem_append.mp hm with hm | hm
              · exact .one (.inl (List.mem_append_left _ hm))
              · cases List.mem_singleton.mp hm; exact .one (.inr (List.mem_append_right _ (List.mem_singleton.mpr rfl)))
          · exact fun h => h.mono fun a b hm => by
              rcases List.mem_append.mp hm with hm | hm
              · exact .one (.inl (List.mem_append_left _ hm))
              · cases List.mem_singleton.mp hm; exact .one (.inr (List.mem_append_right _ (List.mem_singleton.mpr rfl)))
        · rename_i o2 h2
          split at h
          · rename_i e; cases h; exact old (I.eqs _ (look_mem (e ▸ h2))).symm
          · cases h
      · cases h
end Mine
end
section
namespace Mine
theorem only_one {l : List Nm} {r : Nm} (hn : l.Nodup) (h : ∀ a ∈ l, a = r) (hr : r ∈ l) : l = [r] := by
  cases l with
  | nil => cases hr
  | cons a t =>
    have ha := h a (.head _)
    subst ha
    cases t with
    | nil => rfl
    | cons b t =>
      have hb := h b (.tail _ (.head _))
      subst hb
      exact absurd (List.mem_cons_self ..) (List.nodup_cons.mp hn).1
def namesOf (c : List Nm) : List Nm := c.filter isVar
def thingsOf (c : List Nm) : List Nm := c.filter fun a => !isVar a
def dueOf (κ : List (Nm × Nm)) (c : List Nm) : List Nm := if thingsOf c = [] then (namesOf c).filter (fun n => (look κ n).isNone) else thingsOf c
theorem Inv.isKey {κ E : List (Nm × Nm)} (I : Inv κ E) : ∀ a b, look κ a = some b → isVar a = true := fun _ _ h => (I.keys _ (look_mem h)).1
theorem due_ok {κ E : List (Nm × Nm)} {cls : List (List Nm)} (I : Inv κ E) (P : Parts E cls) {c : List Nm} (hc : c ∈ cls) :
    dueOf κ c = [] ∨ ∃ r, r ∈ c ∧ look κ r = none ∧ dueOf κ c = [r] ∧ ∀ n ∈ namesOf c, end3 κ n = r := by
  have thing : ∀ {t}, isVar t = false → look κ t = none := fun {t} h => by
    cases q : look κ t with
    | none => rfl
    | some b => rw [I.isKey _ _ q] at h; cases h
  have hn := P.nodup c hc
  cases hcc : c with
  | nil => exact .inl rfl
  | cons a0 rest =>
  rw [← hcc]
  have ha : a0 ∈ c := by rw [hcc]; exact .head _
  have S := P.same c hc a0 ha
  rcases I.kinds a0 with ⟨r, R⟩ | cy
  · right
    have hr : r ∈ c := (S r).mpr R.here
    refine ⟨r, hr, R.free, ?_, fun n h => end3_of I.isKey (R.come n ((S n).mp (List.mem_filter.mp h).1)) R.free⟩
    unfold dueOf
    cases vr : isVar r with
    | false =>
      have ht : thingsOf c = [r] := only_one (hn.filter _) (fun a h => by
        obtain ⟨h1, h2⟩ := List.mem_filter.mp h
        exact R.only a ((S a).mp h1) (thing (by simpa using h2))) (List.mem_filter.mpr ⟨hr, by rw [vr]; rfl⟩)
      rw [if_neg (by rw [ht]; exact fun e => nomatch e), ht]
    | true =>
      have ht : thingsOf c = [] := by
        cases q : thingsOf c with
        | nil => rfl
        | cons t l =>
          have hm : t ∈ thingsOf c := by rw [q]; exact .head _
          obtain ⟨h1, h2⟩ := List.mem_filter.mp hm
          have ht : isVar t = false := by simpa using h2
          have := R.only t ((S t).mp h1) (thing ht)
          rw [this, vr] at ht; cases ht
      rw [if_pos ht]
      refine only_one ((hn.filter _).filter _) (fun a h => ?_) (List.mem_filter.mpr ⟨List.mem_filter.mpr ⟨hr, vr⟩, by rw [R.free]; rfl⟩)
      obtain ⟨h1, h2⟩ := List.mem_filter.mp h
      exact R.only a ((S a).mp (List.mem_filter.mp h1).1) (Option.isNone_iff_eq_none.mp h2)
  · left
    have ht : thingsOf c = [] := by
      cases q : thingsOf c with
      | nil => rfl
      | cons t l =>
        have hm : t ∈ thingsOf c := by rw [q]; exact .head _
        obtain ⟨h1, h2⟩ := List.mem_filter.mp hm
        exact absurd (thing (by simpa using h2)) (cy t ((S t).mp h1))
    unfold dueOf
    rw [if_pos ht]
    cases q : (namesOf c).filter fun n => (look κ n).isNone with
    | nil => rfl
    | cons t l =>
      have hm : t ∈ (namesOf c).filter fun n => (look κ n).isNone := by rw [q]; exact .head _
      obtain ⟨h1, h2⟩ := List.mem_filter.mp hm
      exact absurd (Option.isNone_iff_eq_none.mp h2) (cy t ((S t).mp (List.mem_filter.mp h1).1))
/-- the ends that `_law_solved` writes down -/
def endsOf (κ : List (Nm × Nm)) (cls : List (List Nm)) : List (Nm × Nm) := cls.flatMap fun c => if dueOf κ c = [] then [] else (namesOf c).map fun n => (n, end3 κ n)
theorem ends_keys {κ E : List (Nm × Nm)} {cls : List (List Nm)} (P : Parts E cls) : ((endsOf κ cls).map (·.1)).Nodup := by
  have : ∀ l : List (List Nm), (∀ r ∈ l, r.Nodup) → (l.Pairwise fun r t => ∀ a ∈ r, a ∉ t) → ((endsOf κ l).map (·.1)).Nodup := by
    intro l
    induction l with
    | nil => exact fun _ _ => .nil
    | cons c t ih =>
      intro h1 h2
      obtain ⟨h3, h4⟩ := List.pairwise_cons.mp h2
      show (((if dueOf κ c = [] then [] else (namesOf c).map fun n => (n, end3 κ n)) ++ endsOf κ t).map (·.1)).Nodup
      rw [List.map_append]
      refine List.nodup_append.mpr ⟨?_, ih (fun r hr => h1 r (.tail _ hr)) h4, fun a ha b hb e => ?_⟩
      · by_cases hd : dueOf κ c = []
        · rw [if_pos hd]; exact .nil
        · rw [if_neg hd, List.map_map]
          have : ((fun x : Nm × Nm => x.1) ∘ fun n => (n, end3 κ n)) = id := rfl
          rw [this, List.map_id]
          exact (h1 c (.head _)).filter _
      · subst e
        have hac : a ∈ c := by
          by_cases hd : dueOf κ c = []
          · rw [if_pos hd] at ha; cases ha
          · rw [if_neg hd, List.map_map] at ha
            obtain ⟨n, hn, rfl⟩ := List.mem_map.mp ha
            exact (List.mem_filter.mp hn).1
        obtain ⟨q, hq, rfl⟩ := List.mem_map.mp hb
        obtain ⟨c', hc', hq'⟩ := List.mem_flatMap.mp hq
        have : q.1 ∈ c' := by
          by_cases hd : dueOf κ c' = []
          · rw [if_pos hd] at hq'; cases hq'
          · rw [if_neg hd] at hq'
            obtain ⟨n, hn, rfl⟩ := List.mem_map.mp hq'
            exact (List.mem_filter.mp hn).1
        exact h3 c' hc' q.1 hac this
  exact this cls P.nodup P.apart
end Mine
end
section
namespace Mine
def keepG (κ : List (Nm × Nm)) (q : Nm × Nm) : List (Nm × Nm) := (keepF κ q.1 q.2).getD κ
def okF (κ : List (Nm × Nm)) (q : Nm × Nm) : Bool := (keepF κ q.1 q.2).isSome
def runK (κ : List (Nm × Nm)) (rows : List (Nm × Nm)) : List (Nm × Nm) := rows.foldl keepG κ
def takenOf (κ : List (Nm × Nm)) : List (Nm × Nm) → List (Nm × Nm)
  | [] => []
  | q :: r => if okF κ q = true then q :: takenOf (keepG κ q) r else takenOf (keepG κ q) r
def allOk (κ : List (Nm × Nm)) : List (Nm × Nm) → Bool
  | [] => true
  | q :: r => okF κ q && allOk (keepG κ q) r
/-- the names of the law's rows -/
def RowsOk (rows : List (Nm × Nm)) : Prop := ∀ q ∈ rows, isVar q.1 = true ∧ six q.2 = true
theorem six_var {a : Nm} (h : isVar a = true) : six a = true := by cases a <;> first | rfl | (cases h)
theorem keepG_ok {κ : List (Nm × Nm)} {q : Nm × Nm} (h : okF κ q = true) : keepF κ q.1 q.2 = some (keepG κ q) := by
  unfold okF at h; unfold keepG
  cases e : keepF κ q.1 q.2 with
  | none => rw [e] at h; cases h
  | some k => rfl
theorem keepG_no {κ : List (Nm × Nm)} {q : Nm × Nm} (h : okF κ q = false) : keepF κ q.1 q.2 = none ∧ keepG κ q = κ := by
  unfold okF at h; unfold keepG
  cases e : keepF κ q.1 q.2 with
  | none => exact ⟨rfl, rfl⟩
  | some k => rw [e] at h; cases h
theorem takenOf_sub : ∀ {rows κ : List (Nm × Nm)} {q}, q ∈ takenOf κ rows → q ∈ rows
  | [], _, _, h => nomatch h
  | a :: r, κ, q, h => by
    unfold takenOf at h
    split at h
    · rcases List.mem_cons.mp h with rfl | h
      · exact .head _
      · exact .tail _ (takenOf_sub h)
    · exact .tail _ (takenOf_sub h)
theorem takenOf_len : ∀ {rows κ : List (Nm × Nm)}, (takenOf κ rows).length ≤ rows.length
  | [], _ => Nat.le_refl _
  | a :: r, κ => by
    unfold takenOf
    split
    · exact Nat.succ_le_succ takenOf_len
    · exact Nat.le_succ_of_le takenOf_len
theorem allOk_len : ∀ {rows κ : List (Nm × Nm)}, allOk κ rows = decide ((takenOf κ rows).length = rows.length)
  | [], _ => rfl
  | a :: r, κ => by
    unfold allOk takenOf
    cases h : okF κ a with
    | true =>
      rw [if_pos rfl, Bool.true_and, allOk_len (rows := r)]
      simp
    | false =>
      rw [if_neg (fun e => nomatch e), Bool.false_and]
      have := takenOf_len (rows := r) (κ := keepG κ a)
      symm; rw [decide_eq_false_iff_not, List.length_cons]; omega
theorem Inv.run : ∀ {rows κ E : List (Nm × Nm)}, Inv κ E → RowsOk rows → Inv (runK κ rows) (E ++ takenOf κ rows)
  | [], κ, E, I, _ => by rw [show takenOf κ [] = [] from rfl, List.append_nil]; exact I
  | a :: r, κ, E, I, h => by
    have ha := h a (.head _)
    have hr : RowsOk r := fun q hq => h q (.tail _ hq)
    show Inv (runK (keepG κ a) r) _
    unfold takenOf
    cases ho : okF κ a with
    | true =>
      rw [if_pos rfl]
      have := (I.keep ha.1 ha.2 (keepG_ok ho)).run hr
      rwa [List.append_assoc] at this
    | false =>
      rw [if_neg (fun e => nomatch e), (keepG_no ho).2]
      exact I.run hr
/-- what is kept is what is taken -/
structure Fits (κ τ : List (Nm × Nm)) : Prop where
  inv : Inv κ τ
  back : ∀ q ∈ τ, Cl κ q.1 q.2
  rows : RowsOk τ
theorem keepF_old {κ κ' : List (Nm × Nm)} {n o : Nm} (h : keepF κ n o = some κ') : (∀ q ∈ κ, q ∈ κ') ∧ Cl κ' n o := by
  unfold keepF at h
  split at h
  · cases h; exact ⟨fun q hq => List.mem_append_left _ hq, .one (.inl (List.mem_append_right _ (List.mem_singleton.mpr rfl)))⟩
  · rename_i o1 h1
    split at h
    · rename_i e; cases h; exact ⟨fun q hq => hq, .one (.inl (look_mem (e ▸ h1)))⟩
    · split at h
      · split at h
        · cases h; exact ⟨fun q hq => List.mem_append_left _ hq, .one (.inr (List.mem_append_right _ (List.mem_singleton.mpr rfl)))⟩
        · rename_i o2 h2
          split at h
          · rename_i e; cases h; exact ⟨fun q hq => hq, .one (.inr (look_mem (e ▸ h2)))⟩
          · cases h
      · cases h
theorem fits0 : Fits [] [] := ⟨inv0, fun _ h => (nomatch h), fun _ h => (nomatch h)⟩
theorem Fits.keep {κ τ : List (Nm × Nm)} (F : Fits κ τ) {q : Nm × Nm} (h1 : isVar q.1 = true) (h2 : six q.2 = true) (h : okF κ q = true) : Fits (keepG κ q) (τ ++ [q]) := by
  have hk := keepG_ok h
  obtain ⟨a, b⟩ := keepF_old hk
  refine ⟨F.inv.keep h1 h2 hk, fun x hx => ?_, fun x hx => ?_⟩
  · rcases List.mem_append.mp hx with hx | hx
    · exact (F.back x hx).mono fun c d hm => .one (.inl (a _ hm))
    · rw [List.mem_singleton.mp hx]; exact b
  · rcases List.mem_append.mp hx with hx | hx
    · exact F.rows x hx
    · rw [List.mem_singleton.mp hx]; exact ⟨h1, h2⟩
/-- the sum of two: solved by the rows of both -/
theorem Fits.sum {κ1 τ1 κ2 τ2 : List (Nm × Nm)} (F : Fits κ1 τ1) (G : Fits κ2 τ2) (h : allOk κ1 κ2 = true) : Inv (runK κ1 κ2) (τ1 ++ τ2) := by
  have hr : RowsOk κ2 := G.inv.keys
  have ht : ∀ {rows κ : List (Nm × Nm)}, allOk κ rows = true → takenOf κ rows = rows := by
    intro rows
    induction rows with
    | nil => exact fun _ => rfl
    | cons a r ih =>
      intro κ h
      unfold allOk at h
      obtain ⟨h1, h2⟩ := Bool.and_eq_true_iff.mp h
      unfold takenOf
      rw [if_pos h1, ih h2]
  have I := F.inv.run hr
  rw [ht h] at I
  refine I.same fun a b => ⟨fun h => h.mono fun c d hm => ?_, fun h => h.mono fun c d hm => ?_⟩
  · rcases List.mem_append.mp hm with hm | hm
    · exact .one (.inl (List.mem_append_left _ hm))
    · exact (G.inv.eqs _ hm).mono fun c d hm => .one (.inl (List.mem_append_right _ hm))
  · rcases List.mem_append.mp hm with hm | hm
    · exact .one (.inl (List.mem_append_left _ hm))
    · exact (G.back _ hm).mono fun c d hm => .one (.inl (List.mem_append_right _ hm))
end Mine
end
section
open PySem PySem.W PySem.Spec PySem.Calls PyProof.Rows
set_option maxRecDepth 100000
namespace Mine
/-- the callers' frames, as things of the call's own -/
def frObjs (fs : List Addr) (g : Heap) : List (Addr × Obj) := fs.filterMap fun b => (g.get? b).map fun o => (b, o)
theorem frObjs_mem {fs : List Addr} {g : Heap} {p : Addr × Obj} (h : p ∈ frObjs fs g) : p.1 ∈ fs ∧ g.get? p.1 = some p.2 := by
  obtain ⟨b, hb, e⟩ := List.mem_filterMap.mp h
  cases hg : g.get? b with
  | none => rw [hg] at e; cases e
  | some o => rw [hg] at e; cases e; exact ⟨hb, hg⟩
theorem mem_frObjs {fs : List Addr} {g : Heap} {b : Addr} {o : Obj} (h : b ∈ fs) (e : g.get? b = some o) : (b, o) ∈ frObjs fs g :=
  List.mem_filterMap.mpr ⟨b, h, by rw [e]; rfl⟩
section
variable {fs : List Addr} {g g' h : Heap} {L : Addr} {m : Str → Option Value} {news l : List (Addr × Obj)}
theorem frDown (F : Fr g' L h m) (T : KtsTurn fs g g') : Fr (hideAll g fs) L h m := by
  refine ⟨F.ns, fun b o e => F.keep b o (T.other b o (of_hideAll _ e) fun q => ?_), by rw [hideAll_size, ← T.size]; exact F.above⟩
  rw [hideAll_none _ q] at e; cases e
theorem newsDown (F : Fr g' L h m) (N : News g' L h news) (T : KtsTurn fs g g') : News (hideAll g fs) L h (frObjs fs g' ++ news) := by
  intro p hp
  rcases List.mem_append.mp hp with hp | hp
  · obtain ⟨h1, h2⟩ := frObjs_mem hp
    refine ⟨F.keep _ _ h2, fun e => ?_, hideAll_none _ h1⟩
    rw [e, kts_self F] at h2; cases h2
  · refine ⟨(N p hp).1, (N p hp).2.1, ?_⟩
    cases q : (hideAll g fs).get? p.1 with
    | none => rfl
    | some o =>
      have := (N p hp).2.2
      obtain ⟨sl, hs⟩ := T.up (of_hideAll _ q)
      rw [hs] at this; cases this
theorem frUp (F : Fr (hideAll g fs) L h m) (T : KtsTurn fs g g') (k : ∀ p ∈ frObjs fs g', h.get? p.1 = some p.2) : Fr g' L h m := by
  refine ⟨F.ns, fun b o e => ?_, by rw [T.size, ← hideAll_size fs g]; exact F.above⟩
  by_cases hb : b ∈ fs
  · exact k _ (mem_frObjs hb e)
  · cases q : g.get? b with
    | none => rw [T.none_ b q] at e; cases e
    | some o' =>
      have := T.other b o' q hb
      rw [e] at this; cases this
      exact F.keep _ _ (hideAll_get _ q hb)
theorem newsUp (N : News (hideAll g fs) L h l) (T : KtsTurn fs g g') (k : ∀ p ∈ l, p.1 ∉ fs) : News g' L h l := by
  intro p hp
  refine ⟨(N p hp).1, (N p hp).2.1, T.none_ _ ?_⟩
  cases q : g.get? p.1 with
  | none => rfl
  | some o => have := (N p hp).2.2; rw [hideAll_get _ q (k p hp)] at this; cases this
theorem frameOff (D : KtsDicts fs g) (T : KtsTurn fs g g') {a : Addr} (k : ∀ q ∈ frObjs fs g', q.1 ≠ a) : a ∉ fs := fun hm => by
  obtain ⟨o, es, n, ho, _⟩ := D a hm
  obtain ⟨sl, hs⟩ := T.up ho
  exact k _ (mem_frObjs hm hs) rfl
theorem news_off (D : KtsDicts fs g') (N : News g' L h news) : ∀ p ∈ news, p.1 ∉ fs := fun p hp hm => by
  obtain ⟨o, es, n, ho, _⟩ := D p.1 hm
  have := (N p hp).2.2; rw [ho] at this; cases this
theorem hide_in {K : Frag} {base : Heap} {A₀ : Around} {outer : List Env} (X : K.In base) (B : Below A₀ base outer g) : K.In (hideAll g (outer.filterMap (·.frame))) :=
  X.keeps fun b o e => hideAll_get _ (B.stays b o e) fun hm => by rw [(B.frames.mem hm).1] at e; cases e
end
section
variable {prog : Program} {w : World} {p : Program} {loose : List Str} {mean : ExcName → Option Value} {mg mb : Str → Option Value}
theorem useS {f : Addr} {vs : List Value} {d u : Nat} {news : List (Addr × Obj)} {post : Value → List (Addr × Obj) → Prop} {postE : List (Addr × Obj) → Prop}
    {dp un : Nat} {gd : Option (List Code)} {cn : Str} {cs : Scope} {a : Addr} {ccd : Value} {cl : List (Str × Addr)} {outer : List Env} {A₀ : Around} {base h₀ g₀ : Heap} {L : Addr} {m : Str → Option Value} {s : Shared} {Q E : Value → Shared → Prop}
    (S : SpecS prog w p loose mean mg mb f vs d u news post postE)
    (B : Below A₀ base outer h₀) (F : Fr h₀ L s.heap m) (X : (hd.heap_39 w.params).In h₀) (N : News h₀ L s.heap news) (T : Top p loose mean mg mb h₀) (XB : (hd.heap_39 w.params).In base) (TB : Top p loose mean mg mb base) (D : KtsDicts (outer.filterMap (·.frame)) h₀)
    (T0 : KtsTurn (outer.filterMap (·.frame)) g₀ h₀) (hk : cs.kind = .function) (hdd : dp + d < recursionLimit) (hu : un + u < cLine)
    (ret : ∀ r h₀' news' h' tk', KtsTurn (outer.filterMap (·.frame)) g₀ h₀' → Fr h₀' L h' m → News h₀' L h' news' → Below A₀ base outer h₀' → (hd.heap_39 w.params).In h₀' → Top p loose mean mg mb h₀' → KtsDicts (outer.filterMap (·.frame)) h₀' →
      post r news' → Q r { s with heap := h', toks := tk' })
    (exc : ∀ h₀' G e t vs' news' h' tk', KtsTurn (outer.filterMap (·.frame)) g₀ h₀' → Fr h₀' L G m → Below A₀ base outer h₀' → (hd.heap_39 w.params).In h₀' → Top p loose mean mg mb h₀' → KtsDicts (outer.filterMap (·.frame)) h₀' →
      RaisedS base G (envX cn cs L a ccd cl :: outer) e (.ref 1031) t vs' news' h' → G.UpToSlots h' → postE news' → E (.ref e) { s with heap := h', toks := tk' }) :
    wpAny (model prog w) (ktrTop dp un gd cn cs L a ccd cl outer) (call (.ref f) vs) Q E s :=
  S _ _ _ _ _ _ _ _ _ _ _ _ _ _ _ _ _ _ B F X N T XB TB D T0 hk hdd hu ret exc
end
section
variable {prog : Program} {w : World} {K : Frag} {p : Program} {loose : List Str} {mean : ExcName → Option Value} {mg mb : Str → Option Value}
  {A₀ A : Around} {s : Shared} {base h₀ g₀ : Heap} {env : Env} {outer : List Env} {L : Addr} {m : Str → Option Value} {news : List (Addr × Obj)}
  {name qual : Str} {params : Arguments} {body : List Stmt} {scope : Scope} {dV kV doc pm cdv ct oc : Value} {an od : Option Addr} {osl : Array (Option Value)} {f : Addr} {args : Args} {binds : List (Str × Value)}
/-- enterS, where names of the def are cells -/
theorem enterSC {R : Result → Shared → Prop} {post : Value → List (Addr × Obj) → Prop} {postE : List (Addr × Obj) → Prop}
    (B : Below A₀ base outer h₀) (F : Fr h₀ L s.heap m) (X₀ : K.In h₀) (N : News h₀ L s.heap news) (T : Top p loose mean mg mb h₀) (XB : K.In base) (TB : Top p loose mean mg mb base) (D : KtsDicts (outer.filterMap (·.frame)) h₀)
    (T0 : KtsTurn (outer.filterMap (·.frame)) g₀ h₀) (hA : A.frames = some (env :: outer)) (hf : env.frame = some L) (hke : env.scope.kind = .function)
    (ho : K.lookup f = some ⟨oc, od, .func (fnOf name qual params body scope dV kV doc pm an cdv ct), osl⟩) (hcd : codeIn K cdv qual = true) (hroom : A.depth < recursionLimit)
    (hbind : BindsTo s (fnOf name qual params body scope dV kV doc pm an cdv ct) args binds) (hkind : (binds.all fun y => scope.names.lookup y.1 == some .local || scope.names.lookup y.1 == some .cell) = true)
    (hnd : ((cellsFrom 0 scope.names []).map (·.1)).Nodup)
    (ret : ∀ r h₀' news' h' tk', KtsTurn (outer.filterMap (·.frame)) g₀ h₀' → Fr h₀' L h' m → News h₀' L h' news' → Below A₀ base outer h₀' → K.In h₀' → Top p loose mean mg mb h₀' → KtsDicts (outer.filterMap (·.frame)) h₀' →
      post r news' → R (.ok (.ret r)) { s with heap := h', toks := tk' })
    (exc : ∀ h₀' G e t vs news' h' tk', KtsTurn (outer.filterMap (·.frame)) g₀ h₀' → Fr h₀' L G m → Below A₀ base outer h₀' → K.In h₀' → Top p loose mean mg mb h₀' → KtsDicts (outer.filterMap (·.frame)) h₀' →
      RaisedS base G (env :: outer) e (.ref 1031) t vs news' h' → G.UpToSlots h' → postE news' → R (.error (.ref e)) { s with heap := h', toks := tk' })
    (h : ∀ g L' h₁ tk cells, Fr h₀ L g m → Fr g L' h₁ (bindL (envOfC qual scope L' f cdv).kindOf binds fun _ => none) → News g L' h₁ (cells ++ news) →
      CellsAre (bindC (envOfC qual scope L' f cdv).kindOf binds fun _ => none) (cellsFrom (L' + 1) scope.names []) cells → Below A base (env :: outer) g → K.In g → Top p loose mean mg mb g → KtsDicts ((env :: outer).filterMap (·.frame)) g → (∀ p ∈ news, p.1 < L') →
      wpAny (model prog w) (A.deeper (envOfC qual scope L' f cdv)) (execs body (envOfC qual scope L' f cdv))
        (fun fl s' => LeaveR ((env :: outer).filterMap (·.frame)) g s post (match fl with | .ret v => v | _ => .none) s')
        (fun e s' => wpAny (model prog w) (A.deeper (envOfC qual scope L' f cdv)) (leaving (envOfC qual scope L' f cdv) e)
          (fun _ s'' => LeaveE ((env :: outer).filterMap (·.frame)) base g (env :: outer) s postE e s'') (fun _ _ => False) s')
        { s with heap := h₁, toks := tk })
    (hco : scope.isCoroutine = false) (hgen : scope.isGenerator = false) (hk : scope.kind = .function) : codeAny (model prog w) A (.call (.ref f) args) R s := by
  have X := X₀.keeps F.keep
  refine codeAny_call_function hroom (X _ _ ho) rfl hco hgen rfl (codeRec_of X hcd) (hbind _ _ _ _ ?_)
  refine wpAny_newFunctionEnv_cells hk (kindsX hkind _) fun env' he s' x => ?_
  subst he
  refine ⟨(T.nolimit.keeps F.keep).keeps x.toInCall.keep, codeAny_func ?_⟩
  obtain ⟨h₁, tk, rfl, _⟩ := x.done
  have hk₁ := x.toInCall.keep
  obtain ⟨cells, NC, Y⟩ := Cl.news (h₀ := s.heap) (Nat.le_refl _) fun n c hm => ⟨x.cell n c (lookup_of_mem_nodup (cellsFrom_names scope.names 0 (s.heap.objs.size + 1) [] [] rfl ▸ hnd) hm), x.above n c hm⟩
  obtain ⟨FG, BG, st, _⟩ := groundX (A := A) (R := R) B F N hA hf hke
  have nL₀ : h₀.get? L = none := kts_self F
  refine wpAny_mono (h _ s.heap.objs.size h₁ tk cells FG ⟨x.toInCall.ns, fun b o e => hk₁ b o (of_hideAll _ e), Nat.le_of_eq (hideAll_size _ _)⟩ (fun q hq => ?_) Y BG (X₀.keeps st) (T.keeps st) (fun b hb => by
      rw [List.filterMap_cons, hf] at hb
      rcases List.mem_cons.mp hb with rfl | hb
      · obtain ⟨oL, es, ep, hL, hLd, _⟩ := FG.ns
        exact ⟨oL, es, ep, hL, hLd⟩
      · obtain ⟨o, es', n', ho', hd'⟩ := D b hb
        exact ⟨o, es', n', st b o ho', hd'⟩) (fun p hp => Heap.lt_size (N p hp).1)) (fun fl s' hl => ?_) (fun e s' hl => wpAny_mono hl (fun _ s'' hl => ?_) fun _ _ x => x.elim)
  · rcases List.mem_append.mp hq with hp | hp
    · refine ⟨(NC q hp).1, (NC q hp).2.1, ?_⟩
      cases q' : (hideAll s.heap (news.map (·.1))).get? q.1 with
      | none => rfl
      | some o => have := of_hideAll _ q'; rw [(NC q hp).2.2] at this; cases this
    · exact ⟨hk₁ _ _ (N q hp).1, Nat.ne_of_lt (Heap.lt_size (N q hp).1), hideAll_none _ (List.mem_map_of_mem hp)⟩
  · obtain ⟨g', L', m', news', h', tk', rfl, T', F', N', hp⟩ := hl
    obtain ⟨h₀', t1, t2, t3, t4, t5, t6, t7⟩ := turn_down (A₀ := A₀) (env := env) B FG hf XB TB D T0 T' F'.keep
    refine ret _ h₀' news' h' tk' t1 t2 (fun q hq => ⟨(N' q hq).1, fun z => ?_, (t7 _).mpr ?_⟩) t3 t4 t5 t6 hp
    · obtain ⟨oL, es, ep, hL, _⟩ := FG.ns
      obtain ⟨sl, hs⟩ := T'.up hL
      have := (N' q hq).2.2; rw [z, hs] at this; cases this
    · cases q' : h₀.get? q.1 with
      | none => rfl
      | some o =>
        obtain ⟨sl', hs'⟩ := T'.up (FG.keep _ _ q')
        have := (N' q hq).2.2
        rw [hs'] at this
        cases this
  · obtain ⟨g', e', t, vs, news', h', tk', rfl, rfl, T', R', U', hp⟩ := hl
    obtain ⟨h₀', t1, t2, t3, t4, t5, t6, t7⟩ := turn_down (A₀ := A₀) (env := env) B FG hf XB TB D T0 T' (fun _ _ e => e)
    exact exc h₀' g' e' t vs news' h' tk' t1 t2 t3 t4 t5 t6 R' U' hp
end
end Mine
end
section
open PySem PySem.W PySem.Spec PySem.Calls PyProof.Rows PyProof.Rows.LCg
set_option maxRecDepth 100000
namespace Mine
section
variable (w : World) (p : Program) (loose : List Str) (mean : ExcName → Option Value) (mg mb : Str → Option Value) (A₀ : Around) (base : Heap) (outer : List Env) (g₀ : Heap)
/-- a ground that the callers' ground g₀ has turned to -/
structure Gd (g : Heap) : Prop where
  turn : KtsTurn (outer.filterMap (·.frame)) g₀ g
  below : Below A₀ base outer g
  inn : (hd.heap_39 w.params).In g
  top : Top p loose mean mg mb g
  dicts : KtsDicts (outer.filterMap (·.frame)) g
end
section
variable {prog : Program} {w : World} {p : Program} {loose : List Str} {mean : ExcName → Option Value} {mg mb : Str → Option Value} {A₀ : Around} {base g₀ : Heap} {outer : List Env} {A : Around} {E : Value → Shared → Prop} {L : Addr} {m : Str → Option Value} {env : Env}
  {elt : PySem.Expr} {x : Str} {scope : Scope} {cl : List (Str × Addr)}

theorem gd_off {fs : List Addr} {g' : Heap} {news : List (Addr × Obj)} {I C D : Addr} {oI oC oD : Obj} (hd : KtsDicts fs g') (off : Off3 I C D (frObjs fs g' ++ news)) (hn : ∀ p ∈ news, p.1 ∉ fs) :
    ∀ p ∈ (I, oI) :: (C, oC) :: (D, oD) :: news, p.1 ∉ fs := by
  have o := off.mem
  intro q hq
  rcases List.mem_cons.mp hq with rfl | hq
  · exact frameOff hd KtsTurn.refl fun r hr => (o r (List.mem_append_left _ hr)).1
  rcases List.mem_cons.mp hq with rfl | hq
  · exact frameOff hd KtsTurn.refl fun r hr => (o r (List.mem_append_left _ hr)).2.1
  rcases List.mem_cons.mp hq with rfl | hq
  · exact frameOff hd KtsTurn.refl fun r hr => (o r (List.mem_append_left _ hr)).2.2
  exact hn q hq
/-- what an element's walk leaves -/
def EltEnd (G : Heap → Prop) (L : Addr) (m : Str → Option Value) (s₁ : Shared) (news : List (Addr × Obj)) (J : Value → Prop) (y : Value) (s₂ : Shared) : Prop :=
  ∃ g h' tk, s₂ = { s₁ with heap := h', toks := tk } ∧ G g ∧ Fr g L h' m ∧ News g L h' news ∧ J y
theorem EltEnd.intro {G : Heap → Prop} {s₁ : Shared} {news all : List (Addr × Obj)} {J : Value → Prop} {y : Value} {g h' : Heap} {tk : Nat} (hG : G g) (F : Fr g L h' m) (N : News g L h' all) (hs : ∀ p ∈ news, p ∈ all) (hJ : J y) :
    EltEnd G L m s₁ news J y { s₁ with heap := h', toks := tk } := ⟨g, h', tk, rfl, hG, F, fun p hp => N p (hs p hp), hJ⟩

theorem restS {s : Shared} {ax : Addr} {its : Array Value} {news : List (Addr × Obj)} {Fin : List Value → List (Addr × Obj) → Prop} (J : Nat → List Value → Prop) (hax : ∃ k, (ax, ({ cls := .type "list", data := .seq its k } : Obj)) ∈ news)
    (turn : ∀ i v ys g I oI C oC D m₂ h tk (E' : Value → Shared → Prop), its[i]? = some v → J i ys → Gd w p loose mean mg mb A₀ base outer g₀ g → NsObj oC m₂ → m₂ x = some v → Fr g L h m → News g L h ((I, oI) :: (C, oC) :: (D, lst ys) :: news) →
      wpAny (model prog w) A (eval elt (compEnvC scope cl C env)) (EltEnd (Gd w p loose mean mg mb A₀ base outer g₀) L m { s with heap := h, toks := tk } ((I, oI) :: (C, oC) :: (D, lst ys) :: news) (fun y => J (i + 1) (ys ++ [y]))) E' { s with heap := h, toks := tk })
    (done : ∀ ys g, J its.size ys → Gd w p loose mean mg mb A₀ base outer g₀ g → (∀ q ∈ news, q.1 ∉ outer.filterMap (·.frame)) → Fin ys (frObjs (outer.filterMap (·.frame)) g ++ news)) :
    ∀ k i ys g, i + k = its.size → J i ys → Gd w p loose mean mg mb A₀ base outer g₀ g → (∀ q ∈ news, q.1 ∉ outer.filterMap (·.frame)) →
      CompRest prog w A (hideAll g₀ (outer.filterMap (·.frame))) L m env elt x scope cl s (SrcAt (hideAll g₀ (outer.filterMap (·.frame))) ax its) (fun i v => its[i]? = some v) Fin k i ys (frObjs (outer.filterMap (·.frame)) g ++ news)
  | 0, i, ys, g, hi, hJ, hg, hn => .zero (done ys g (by rw [Nat.add_zero] at hi; exact hi ▸ hJ) hg hn)
  | k + 1, i, ys, g, hi, hJ, hg, hn => by
    refine .succ fun v I oI C oC D m₂ h tk E' hP hC hx F N off ne => ?_
    have hk := gd_off (oI := oI) (oC := oC) (oD := lst ys) hg.dicts off hn
    have F' := frUp F hg.turn fun q hq => (N q (.tail _ (.tail _ (.tail _ (List.mem_append_left _ hq))))).1
    have N' : News g L h ((I, oI) :: (C, oC) :: (D, lst ys) :: news) := newsUp (fs := outer.filterMap (·.frame)) (g := g₀) (fun q hq => N q (by
      rcases List.mem_cons.mp hq with rfl | hq
      · exact .head _
      rcases List.mem_cons.mp hq with rfl | hq
      · exact .tail _ (.head _)
      rcases List.mem_cons.mp hq with rfl | hq
      · exact .tail _ (.tail _ (.head _))
      exact .tail _ (.tail _ (.tail _ (List.mem_append_right _ hq))))) hg.turn hk
    refine wpAny_mono (turn i v ys g I oI C oC D m₂ h tk E' hP hJ hg hC hx F' N') (fun y s' h' => ?_) fun _ _ e => e
    obtain ⟨g', h'', tk', rfl, hg', F'', N'', hJ'⟩ := h'
    have hsh : ∀ q ∈ frObjs (outer.filterMap (·.frame)) g', ∀ r ∈ (I, oI) :: (C, oC) :: (D, lst ys) :: news, q.1 ≠ r.1 := fun q hq r hr e => hk r hr (e ▸ (frObjs_mem hq).1)
    refine CompEnd.intro (frDown F'' hg'.turn) (newsDown F'' N'' hg'.turn) (frObjs (outer.filterMap (·.frame)) g' ++ news) (fun q hq => ?_) (Off3.of fun q hq => ?_) (.inr ?_) (restS J hax turn done k (i + 1) (ys ++ [y]) g' (by rw [← hi]; omega) hJ' hg' hn)
    · rcases List.mem_cons.mp hq with rfl | hq
      · exact List.mem_append_right _ (.head _)
      rcases List.mem_cons.mp hq with rfl | hq
      · exact List.mem_append_right _ (.tail _ (.head _))
      rcases List.mem_cons.mp hq with rfl | hq
      · exact List.mem_append_right _ (.tail _ (.tail _ (.head _)))
      rcases List.mem_append.mp hq with hq | hq
      · exact List.mem_append_left _ hq
      · exact List.mem_append_right _ (.tail _ (.tail _ (.tail _ hq)))
    · rcases List.mem_append.mp hq with hq | hq
      · exact ⟨hsh q hq _ (.head _), hsh q hq _ (.tail _ (.head _)), hsh q hq _ (.tail _ (.tail _ (.head _)))⟩
      · exact off.mem q (List.mem_append_right _ hq)
    · obtain ⟨n, hm⟩ := hax
      exact ⟨_, List.mem_append_right _ hm, rfl, _, rfl⟩
/-- where an iterable's walk must come to -/
def IterAt (G : Heap → Prop) (L : Addr) (m : Str → Option Value) (s : Shared) (P : Addr → List Value → List (Addr × Obj) → Shared → Prop) (xv : Value) (s₁ : Shared) : Prop :=
  ∃ ax its news g h tk k, xv = .ref ax ∧ s₁ = { s with heap := h, toks := tk } ∧ G g ∧ Fr g L h m ∧ News g L h news ∧ (ax, ({ cls := .type "list", data := .seq its.toArray k } : Obj)) ∈ news ∧ its.length ≤ sizeLine ∧ P ax its news s₁
theorem off1_mem {D : Addr} : ∀ {l : List (Addr × Obj)}, Off1 D l → ∀ q ∈ l, q.1 ≠ D
  | [], _, _, h => nomatch h
  | a :: r, ho, q, hq => by
    rcases List.mem_cons.mp hq with rfl | hq
    · exact ho.1
    · exact off1_mem ho.2 q hq
/-- the comprehension's end, at the turned ground -/
theorem upEnd {g D h L} {m : Str → Option Value} {ys : List Value} {news : List (Addr × Obj)} (hg : Gd w p loose mean mg mb A₀ base outer g₀ g) (hn : ∀ q ∈ news, q.1 ∉ outer.filterMap (·.frame))
    (F₂ : Fr (hideAll g₀ (outer.filterMap (·.frame))) L h m) (N₂ : News (hideAll g₀ (outer.filterMap (·.frame))) L h ((D, lst ys) :: (frObjs (outer.filterMap (·.frame)) g ++ news))) (o₂ : Off1 D (frObjs (outer.filterMap (·.frame)) g ++ news)) :
    Fr g L h m ∧ News g L h ((D, lst ys) :: news) := by
  have hD : D ∉ outer.filterMap (·.frame) := frameOff hg.dicts KtsTurn.refl fun q hq e => off1_mem o₂ q (List.mem_append_left _ hq) e
  refine ⟨frUp F₂ hg.turn fun q hq => (N₂ q (.tail _ (List.mem_append_left _ hq))).1, newsUp (fun q hq => N₂ q ?_) hg.turn ?_⟩
  · rcases List.mem_cons.mp hq with rfl | hq
    · exact .head _
    · exact .tail _ (List.mem_append_right _ hq)
  · intro q hq
    rcases List.mem_cons.mp hq with rfl | hq
    · exact hD
    · exact hn q hq
/-- the elements, by an invariant -/
def Elts (prog : Program) (w : World) (p : Program) (loose : List Str) (mean : ExcName → Option Value) (mg mb : Str → Option Value) (A₀ : Around) (base : Heap) (outer : List Env) (g₀ : Heap) (A : Around) (L : Addr) (m : Str → Option Value) (env : Env) (elt : PySem.Expr) (x : Str) (scope : Scope) (cl : List (Str × Addr)) (s : Shared)
    (Fin : List Value → Heap → List (Addr × Obj) → Prop) (its : List Value) (news : List (Addr × Obj)) : Prop :=
  ∃ J : Nat → List Value → Prop, J 0 [] ∧
      (∀ i v ys g I oI C oC D m₂ h tk (E' : Value → Shared → Prop), its[i]? = some v → J i ys → Gd w p loose mean mg mb A₀ base outer g₀ g → NsObj oC m₂ → m₂ x = some v → Fr g L h m → News g L h ((I, oI) :: (C, oC) :: (D, lst ys) :: news) →
        wpAny (model prog w) A (eval elt (compEnvC scope cl C env)) (EltEnd (Gd w p loose mean mg mb A₀ base outer g₀) L m { s with heap := h, toks := tk } ((I, oI) :: (C, oC) :: (D, lst ys) :: news) (fun y => J (i + 1) (ys ++ [y]))) E' { s with heap := h, toks := tk }) ∧
      (∀ ys g, J its.length ys → Gd w p loose mean mg mb A₀ base outer g₀ g → Fin ys g news)
theorem srcS {s s₁ : Shared} {xv : Value} {Fin : Shared → List Value → List (Addr × Obj) → Prop} {Fin' : List Value → Heap → List (Addr × Obj) → Prop} (hh : A.handled = none)
    (hF : ∀ H tk ys g news, Gd w p loose mean mg mb A₀ base outer g₀ g → (∀ q ∈ news, q.1 ∉ outer.filterMap (·.frame)) → Fin' ys g news → Fin { s with heap := H, toks := tk } ys (frObjs (outer.filterMap (·.frame)) g ++ news))
    (h₁ : IterAt (Gd w p loose mean mg mb A₀ base outer g₀) L m s (fun ax its news s₁ => Elts prog w p loose mean mg mb A₀ base outer g₀ A L m env elt x scope cl s Fin' its news) xv s₁) :
    CompSrc prog w A (hideAll g₀ (outer.filterMap (·.frame))) L m env elt x scope cl Fin xv s₁ := by
  obtain ⟨ax, its, news, g, h₁, tk, k, rfl, rfl, hg, F₁, N₁, hm, hz, J, hJ, turn, done⟩ := h₁
  refine CompSrc.ledger hh (frDown F₁ hg.turn) (newsDown F₁ N₁ hg.turn) (List.mem_append_right _ hm) (by rw [List.size_toArray]; exact hz) fun H => ?_
  exact restS (s := { s with heap := H, toks := tk }) (its := its.toArray) J ⟨_, hm⟩ (fun i v ys g I oI C oC D m₂ h tk E' a b c d e f q => turn i v ys g I oI C oC D m₂ h tk E' (by simpa using a) b c d e f q)
    (fun ys g' hJ' hg' hn => hF H tk ys g' news hg' hn (done ys g' (by simpa using hJ') hg')) its.toArray.size 0 [] g (Nat.zero_add _) hJ hg (news_off hg.dicts N₁)
theorem evalCompS {s : Shared} {px pos : Pos} {iter : PySem.Expr} {Q : Value → Shared → Prop} {h₀ : Heap} (hG : Gd w p loose mean mg mb A₀ base outer g₀ h₀) (F : Fr h₀ L s.heap m) (hh : A.handled = none)
    (hclos : closureFor scope env = pure cl) (hcell : ∀ y ∈ scope.names, y.2 ≠ .cell) (hkind : scope.kind = .function)
    (hnames : ∀ y ∈ scope.names, y.2 = .local → scope.names.lookup y.1 = some .local) (hx : scope.names.lookup x = some .local)
    (h : wpAny (model prog w) A (eval iter env) (IterAt (Gd w p loose mean mg mb A₀ base outer g₀) L m s fun ax its news s₁ => Elts prog w p loose mean mg mb A₀ base outer g₀ A L m env elt x scope cl s
      (fun ys g news => ∀ D h tk, Fr g L h m → News g L h ((D, lst ys) :: news) → Q (.ref D) { s with heap := h, toks := tk }) its news) E s)
    (hs : ∀ x, foldedSetIterable iter env x = pure x := by intro _; rfl) :
    wpAny (model prog w) A (eval (.ListComp elt [⟨.Name x px, iter, [], 0⟩] scope pos) env) Q E s :=
  ListComp_U (frDown F hG.turn) hclos hcell hkind hnames hx (wpAny_mono h (fun _ _ h₁ => srcS hh (fun H tk ys g news hg hn hf D h₂ tk₂ F₂ N₂ o₂ => let ⟨a, b⟩ := upEnd hg hn F₂ N₂ o₂; hf D h₂ tk₂ a b) h₁) fun _ _ e => e) hs
theorem assignCompS {s : Shared} {y : Str} {px py pos spos : Pos} {iter : PySem.Expr} {Q : Flow → Shared → Prop} {h₀ : Heap} (hG : Gd w p loose mean mg mb A₀ base outer g₀ h₀) (F : Fr h₀ L s.heap m) (hLe : env.locals = L) (hh : A.handled = none)
    (hsw : swapsWith (.ListComp elt [⟨.Name x px, iter, [], 0⟩] scope pos) (some (.Name y py)) spos.line env = pure true)
    (hclos : closureFor scope env = pure cl) (hcell : ∀ y ∈ scope.names, y.2 ≠ .cell) (hkind : scope.kind = .function)
    (hnames : ∀ y ∈ scope.names, y.2 = .local → scope.names.lookup y.1 = some .local) (hx : scope.names.lookup x = some .local)
    (hy : env.kindOf y = some .local) (hp : (env.scope.kind == .class || (env.scope.kind == .module && env.locals != env.globals)) = false)
    (h : wpAny (model prog w) A (eval iter env) (IterAt (Gd w p loose mean mg mb A₀ base outer g₀) L m s fun ax its news s₁ => Elts prog w p loose mean mg mb A₀ base outer g₀ A L m env elt x scope cl s
      (fun ys g news => ∀ D h tk, Fr g L h (fun z => if z = y then some (.ref D) else m z) → News g L h ((D, lst ys) :: news) → Q .next { s with heap := h, toks := tk }) its news) E s)
    (hs : ∀ x, foldedSetIterable iter env x = pure x := by intro _; rfl) :
    wpAny (model prog w) A (exec (.Assign [.Name y py] (.ListComp elt [⟨.Name x px, iter, [], 0⟩] scope pos) spos) env) Q E s :=
  Assign_ListComp_U (frDown F hG.turn) hLe hsw hclos hcell hkind hnames hx hy hp (wpAny_mono h (fun _ _ h₁ => srcS hh (fun H tk ys g news hg hn hf D h₂ tk₂ F₂ N₂ o₂ => let ⟨a, b⟩ := upEnd hg hn F₂ N₂ o₂; hf D h₂ tk₂ a b) h₁) fun _ _ e => e) hs
end
end Mine
end
section
open PySem PySem.W PySem.Spec PySem.Calls PyProof.Rows PyProof.Rows.LCg
set_option maxRecDepth 100000
namespace Mine
/-- a list of the call's own -/
def ListAt (news : List (Addr × Obj)) (l : Addr) (vs : List Value) : Prop := ∃ o, (l, o) ∈ news ∧ o.cls = .type "list" ∧ ∃ n, o.data = .seq vs.toArray n
/-- a list of the call's own, that is appended to -/
def AppAt (news : List (Addr × Obj)) (l : Addr) (vs : List Value) : Prop := ∃ n, (l, ({ cls := .type "list", data := .seq vs.toArray n } : Obj)) ∈ news
section
variable {prog : Program} {w : World} {A : Around} {E : Value → Shared → Prop} {s : Shared} {h₀ : Heap} {L l : Addr} {m : Str → Option Value} {news : List (Addr × Obj)} {vs : List Value}
theorem AppAt.list (D : AppAt news l vs) : ListAt news l vs := let ⟨n, h⟩ := D; ⟨_, h, rfl, n, rfl⟩
theorem ListAt.isList (D : ListAt news l vs) (N : News h₀ L s.heap news) : s.heap.IsList l vs.toArray := by
  obtain ⟨o, h1, h2, n, h3⟩ := D
  exact ⟨o, (N _ h1).1, h2, n, h3⟩
theorem ListAt.mono {l' : List (Addr × Obj)} (D : ListAt news l vs) (k : Keeps news l') : ListAt l' l vs := by
  obtain ⟨o, h1, h2, n, h3⟩ := D
  exact ⟨o, k _ h1 (by unfold notTab; rw [h2, h3]), h2, n, h3⟩
theorem AppAt.mono {l' : List (Addr × Obj)} (D : AppAt news l vs) (k : Keeps news l') : AppAt l' l vs := by
  obtain ⟨n, h1⟩ := D
  exact ⟨n, k _ h1 rfl⟩
theorem ListAt.but {l' : List (Addr × Obj)} {d : Addr} (D : ListAt news l vs) (k : SubBut d news l') (h : l ≠ d) : ListAt l' l vs := by
  obtain ⟨o, h1, h2, h3⟩ := D
  exact ⟨o, k _ h1 h, h2, h3⟩
theorem AppAt.but {l' : List (Addr × Obj)} {d : Addr} (D : AppAt news l vs) (k : SubBut d news l') (h : l ≠ d) : AppAt l' l vs := by
  obtain ⟨n, h1⟩ := D
  exact ⟨n, k _ h1 h⟩
theorem la_item {value slice : PySem.Expr} {k : Int} {u : Tok} {v : Value} {Q : Value → Shared → Prop} (N : News h₀ L s.heap news) (D : ListAt news l vs) (h0 : 0 ≤ k) (hhi : k < 2 ^ 63) (hx : vs[k.toNat]? = some v) (h : Q v s)
    (hs : subscripted slice false (.ref l) (.int k u) = operate [.ref l, .int k u] (getItem (.ref l) (.int k u)) := by with_unfolding_all rfl) :
    wpAny (model prog w) A (subscriptTail value slice (.ref l) (.int k u)) Q E s := item_litK (D.isList N) h0 hhi hx h hs
theorem la_ints {value slice : PySem.Expr} {ns : List Int} {k : Int} {u : Tok} {Q : Value → Shared → Prop} (N : News h₀ L s.heap news) (D : ListAt news l vs) (hi : IntsAre vs ns) (h0 : 0 ≤ k) (h1 : k < ns.length) (hfit : k < 2 ^ 63) (h : ∀ t, Q (.int (ns.getD k.toNat 0) t) s)
    (hs : subscripted slice false (.ref l) (.int k u) = operate [.ref l, .int k u] (getItem (.ref l) (.int k u)) := by with_unfolding_all rfl) :
    wpAny (model prog w) A (subscriptTail value slice (.ref l) (.int k u)) Q E s := item_anyK (D.isList N) hi h0 h1 hfit h hs
theorem la_len {Q : Value → Shared → Prop} (N : News h₀ L s.heap news) (D : ListAt news l vs) (z : vs.length ≤ 1000) (h : Q (.int vs.length (s.toks + 1)) { s with toks := s.toks + 1 + 1 }) :
    wpAny (model prog w) A (call (.builtin "len") [.ref l]) Q E s := by
  refine Calls.call_len_list (D.isList N) ?_ ?_
  · have : vs.toArray.size = vs.length := List.size_toArray
    omega
  · rw [List.size_toArray]; exact h
theorem change_list {h' : Heap} {o' : Obj} (F : Fr h₀ L s.heap m) (N : News h₀ L s.heap news) {o : Obj} (h1 : (l, o) ∈ news) (h2 : attrish o = false) (ho : h'.get? l = some o') (hs : Heap.SameBut l s.heap h') :
    Fr h₀ L h' m ∧ News h₀ L h' ((l, o') :: filt l news) ∧ SubBut l news ((l, o') :: filt l news) ∧ KeepsA news ((l, o') :: filt l news) := by
  have hm := N _ h1
  refine ⟨F.change hs hm.2.1 hm.2.2, fun p hp => ?_, SubBut.filt, keepsA_of N h1 h2 SubBut.filt⟩
  rcases List.mem_cons.mp hp with rfl | hp
  · exact ⟨ho, hm.2.1, hm.2.2⟩
  · obtain ⟨h3, h4⟩ := List.mem_filter.mp hp
    exact ⟨hs.extBut _ _ (of_decide_eq_true h4) (N _ h3).1, (N _ h3).2⟩
theorem list_notAttr {o : Obj} {its : Array Value} {n : Nat} (h2 : o.cls = .type "list") (h3 : o.data = .seq its n) : attrish o = false := by
  unfold attrish
  rw [h2, h3]
theorem la_set {k : Int} {t : Tok} {v : Value} {Q : Unit → Shared → Prop} (F : Fr h₀ L s.heap m) (N : News h₀ L s.heap news) (D : ListAt news l vs) (h0 : 0 ≤ k) (hhi : k < 2 ^ 63) (hn : k < vs.length)
    (h : ∀ h' news', Fr h₀ L h' m → News h₀ L h' news' → SubBut l news news' → KeepsA news news' → ListAt news' l (vs.set k.toNat v) → Q () { s with heap := h' }) :
    wpAny (model prog w) A (setItem (.ref l) (.int k t) v) Q E s := by
  obtain ⟨o, h1, h2, n, h3⟩ := D
  refine wpAny_setItem_list (ListAt.isList ⟨o, h1, h2, n, h3⟩ N) h0 hhi (by rw [List.size_toArray]; exact hn) fun h' hl hs => ?_
  obtain ⟨o', e1, e2, n', e3⟩ := hl
  obtain ⟨a, b, c, d⟩ := change_list F N h1 (list_notAttr h2 h3) e1 hs
  exact h h' _ a b c d ⟨o', .head _, e2, n', by rw [e3]; simp⟩
theorem la_append {v : Value} {Q : Value → Shared → Prop} (F : Fr h₀ L s.heap m) (N : News h₀ L s.heap news) (D : AppAt news l vs) (z : vs.length ≤ sizeLine)
    (h : ∀ h' news', Fr h₀ L h' m → News h₀ L h' news' → SubBut l news news' → KeepsA news news' → AppAt news' l (vs ++ [v]) → Q .none { s with heap := h' }) :
    wpAny (model prog w) A (call (.builtin "list.append") [.ref l, v]) Q E s := by
  obtain ⟨n, h1⟩ := D
  refine append_at (N _ h1).1 (fun h' hs ho => ?_) (by rw [List.size_toArray]; exact z)
  obtain ⟨a, b, c, d⟩ := change_list F N h1 rfl ho hs
  exact h h' _ a b c d ⟨n + 1, by rw [← List.push_toArray]; exact .head _⟩
theorem la_truthy {A : Around} {E : Value → Shared → Prop} {Q : Bool → Shared → Prop} {news : List (Addr × Obj)} (N : News h₀ L s.heap news) (D : ListAt news l vs) (z : vs.length ≤ 1000) (h : Q (decide (0 < vs.length)) { s with toks := s.toks + 1 + 1 }) :
    wpAny (model prog w) A (truthy (.ref l)) Q E s :=
  wpAny_truthy_list (D.isList N) (by rw [List.size_toArray]; omega) (by
    have e : (!vs.toArray.isEmpty) = decide (0 < vs.length) := by cases vs <;> rfl
    rw [e]; exact h)
/-- a tuple of the call's own -/
def TupAt (news : List (Addr × Obj)) (l : Addr) (vs : List Value) : Prop := ∃ o, (l, o) ∈ news ∧ o.cls = .type "tuple" ∧ ∃ n, o.data = .seq vs.toArray n
theorem TupAt.mono {l' : List (Addr × Obj)} (D : TupAt news l vs) (k : Keeps news l') : TupAt l' l vs := by
  obtain ⟨o, h1, h2, n, h3⟩ := D
  exact ⟨o, k _ h1 (by unfold notTab; rw [h2, h3]), h2, n, h3⟩
theorem TupAt.isTup (D : TupAt news l vs) (N : News h₀ L s.heap news) : s.heap.IsTuple l vs.toArray := by
  obtain ⟨o, h1, h2, n, h3⟩ := D
  exact ⟨o, (N _ h1).1, h2, n, h3⟩
end
end Mine
end
section
open PySem PySem.W PySem.Spec PySem.Calls PyProof.Rows PyProof.Rows.LCg
set_option maxRecDepth 100000
namespace Mine
/-- an iterator, or a method of the moment -/
def iterish (o : Obj) : Bool := match o.cls, o.data with
  | .type _, .fields vs => (match vs[1]? with
    | some (Value.int _ _) => true
    | _ => false)
  | _, _ => false
/-- what stood stands, but for the iterators -/
def KeepsI (l l' : List (Addr × Obj)) : Prop := ∀ p ∈ l, iterish p.2 = false → p ∈ l'
theorem KeepsI.refl {l : List (Addr × Obj)} : KeepsI l l := fun _ h _ => h
theorem KeepsI.trans {l l' l'' : List (Addr × Obj)} (a : KeepsI l l') (b : KeepsI l' l'') : KeepsI l l'' := fun p h n => b p (a p h n) n
theorem KeepsI.get {l l' : List (Addr × Obj)} {p : Addr × Obj} (k : KeepsI l l') (h : p ∈ l) (n : iterish p.2 = false) : p ∈ l' := k p h n
theorem KeepsI.cons {l l' : List (Addr × Obj)} {q : Addr × Obj} (k : KeepsI l l') : KeepsI l (q :: l') := fun p h n => .tail _ (k p h n)
theorem Sub.i {l l' : List (Addr × Obj)} (a : Sub l l') : KeepsI l l' := fun p h _ => a p h
theorem notTab_iterish {o : Obj} (h : notTab o = true) : iterish o = false := by
  obtain ⟨c, dd, da, sl⟩ := o
  cases c with
  | type T => cases da with
    | fields x => cases h
    | _ => rfl
  | _ => rfl
theorem KeepsI.keeps {l l' : List (Addr × Obj)} (a : KeepsI l l') : Keeps l l' := fun p h n => a p h (notTab_iterish n)
/-- what stood stands, but for the iterator at I -/
def KeepsJ (I : Addr) (l l' : List (Addr × Obj)) : Prop := ∀ p ∈ l, (iterish p.2 = false ∨ p.1 ≠ I) → p ∈ l'
theorem KeepsJ.i {I : Addr} {l l' : List (Addr × Obj)} (a : KeepsJ I l l') : KeepsI l l' := fun p h n => a p h (.inl n)
theorem KeepsJ.keeps {I : Addr} {l l' : List (Addr × Obj)} (a : KeepsJ I l l') : Keeps l l' := a.i.keeps
theorem KeepsJ.but {I : Addr} {l l' : List (Addr × Obj)} (a : KeepsJ I l l') : SubBut I l l' := fun p h n => a p h (.inr n)
theorem Sub.j {I : Addr} {l l' : List (Addr × Obj)} (a : Sub l l') : KeepsJ I l l' := fun p h _ => a p h
/-- an older ledger stands -/
theorem Sub.old {g h : Heap} {L : Addr} {news l l' : List (Addr × Obj)} (N : News g L h news) (b : Sub news l) (k : KeepsJ h.objs.size l l') : Sub news l' :=
  fun p hp => k p (b p hp) (.inr (Nat.ne_of_lt (Heap.lt_size (N p hp).1)))
theorem SubBut.old {g h : Heap} {L d : Addr} {news l l' : List (Addr × Obj)} (N : News g L h news) (b : SubBut d news l) (k : KeepsJ h.objs.size l l') : SubBut d news l' :=
  fun p hp hd => k p (b p hp hd) (.inr (Nat.ne_of_lt (Heap.lt_size (N p hp).1)))
theorem KeepsI.a {l l' : List (Addr × Obj)} (a : KeepsI l l') : KeepsA l l' := a.keeps.a
section
variable {prog : Program} {w : World} {p : Program} {loose : List Str} {mean : ExcName → Option Value} {mg mb : Str → Option Value} {A₀ : Around} {base g₀ : Heap} {outer : List Env} {A : Around} {E : Value → Shared → Prop} {m : Str → Option Value} {env : Env}
/-- what a turn's walk leaves -/
def TurnEnd (G : Heap → Prop) (L : Addr) (s₁ : Shared) (keep : List (Addr × Obj)) (J : (Str → Option Value) → List (Addr × Obj) → Prop) (Q : Flow → Shared → Prop) (f : Flow) (s₂ : Shared) : Prop :=
  match f with
  | .ret v => Q (.ret v) s₂
  | .brk => Q .next s₂
  | _ => ∃ g h' tk m' all, s₂ = { s₁ with heap := h', toks := tk } ∧ G g ∧ Fr g L h' m' ∧ News g L h' all ∧ (∀ p ∈ keep, p ∈ all) ∧ J m' all
theorem TurnEnd.intro {G : Heap → Prop} {L : Addr} {s₁ : Shared} {keep all : List (Addr × Obj)} {J : (Str → Option Value) → List (Addr × Obj) → Prop} {Q : Flow → Shared → Prop} {g h' : Heap} {tk : Nat} {m' : Str → Option Value}
    (hG : G g) (F : Fr g L h' m') (N : News g L h' all) (hk : ∀ p ∈ keep, p ∈ all) (hJ : J m' all) : TurnEnd G L s₁ keep J Q .next { s₁ with heap := h', toks := tk } := ⟨g, h', tk, m', all, rfl, hG, F, N, hk, hJ⟩
theorem TurnEnd.cont {G : Heap → Prop} {L : Addr} {s₁ : Shared} {keep all : List (Addr × Obj)} {J : (Str → Option Value) → List (Addr × Obj) → Prop} {Q : Flow → Shared → Prop} {g h' : Heap} {tk : Nat} {m' : Str → Option Value}
    (hG : G g) (F : Fr g L h' m') (N : News g L h' all) (hk : ∀ p ∈ keep, p ∈ all) (hJ : J m' all) : TurnEnd G L s₁ keep J Q .cont { s₁ with heap := h', toks := tk } := ⟨g, h', tk, m', all, rfl, hG, F, N, hk, hJ⟩
theorem forCore {s₁ : Shared} {target : PySem.Expr} {body : List Stmt} {Q : Flow → Shared → Prop} {g : Heap} {news : List (Addr × Obj)} {ax : Addr} {oax oIt : Obj} {n : Nat} {P : Nat → Value → Prop} {St : Nat → Heap → Prop}
    (hg : Gd w p loose mean mg mb A₀ base outer g₀ g) (F₁ : Fr g env.locals s₁.heap m) (N₁ : News g env.locals s₁.heap news) (hm : (ax, oax) ∈ news)
    (W : Walks prog w A s₁.heap.objs.size [s₁.heap.objs.size, ax] [s₁.heap.objs.size] n P St) (hst : St 0 (s₁.heap.push oIt)) (hIt : ∀ i h, St i h → ∃ oI, h.get? s₁.heap.objs.size = some oI ∧ iterish oI = true)
    (hgo : ∀ i v (s : Shared) (Q : Unit → Shared → Prop) (E : Value → Shared → Prop), St i s.heap → Q () s → wpAny (model prog w) A (letOwnedTupleGo target (.ref s₁.heap.objs.size) v) Q E s)
    (J : Nat → (Str → Option Value) → List (Addr × Obj) → Prop) (hJm : ∀ i m l l', J i m l → KeepsJ s₁.heap.objs.size l l' → J i m l') (hJ : J 0 m news)
    (turn : ∀ i v g I oI m₁ news₁ h tk, P i v → Gd w p loose mean mg mb A₀ base outer g₀ g → iterish oI = true → (I, oI) ∈ news₁ → (ax, oax) ∈ news₁ → J i m₁ news₁ → Fr g env.locals h m₁ → News g env.locals h news₁ →
        wpAny (model prog w) A (assign target env v) (fun _ s₃ => wpAny (model prog w) A (execs body env) (TurnEnd (Gd w p loose mean mg mb A₀ base outer g₀) env.locals { s₁ with heap := h, toks := tk } [(I, oI), (ax, oax)] (J (i + 1)) Q) E s₃) E { s₁ with heap := h, toks := tk })
    (done : ∀ g m₁ news₁ h tk, Gd w p loose mean mg mb A₀ base outer g₀ g → (ax, oax) ∈ news₁ → J n m₁ news₁ → Fr g env.locals h m₁ → News g env.locals h news₁ → Q .next { s₁ with heap := h, toks := tk }) :
    TurnsAt prog w A (hideAll g₀ (outer.filterMap (·.frame))) env target body Q E (.ref s₁.heap.objs.size) { s₁ with heap := s₁.heap.push oIt } := by
  have hlt : ax < s₁.heap.objs.size := Heap.lt_size (N₁ _ hm).1
  have hne : ax ≠ s₁.heap.objs.size := Nat.ne_of_lt hlt
  have hL : env.locals < s₁.heap.objs.size := F₁.ns.lt
  have up : ∀ b o, s₁.heap.get? b = some o → (s₁.heap.push oIt).get? b = some o := fun b o e => Heap.get?_push_of_some _ e
  let fs := outer.filterMap (·.frame)
  let JL : Nat → (Str → Option Value) → List (Addr × Obj) → Prop := fun i m n => ∃ g news₁, n = frObjs fs g ++ news₁ ∧ Gd w p loose mean mg mb A₀ base outer g₀ g ∧ (ax, oax) ∈ news₁ ∧ J i m news₁ ∧ ∀ q ∈ news₁, q.1 ∉ fs
  have Fd := frDown F₁ hg.turn
  have Nd := newsDown F₁ N₁ hg.turn
  refine ⟨_, _, _, _, _, _, _, m, frObjs fs g ++ news, JL, rfl, KTurns.ofWalks W hgo, fun hI => ?_, fun b hb => ?_, fun q hq hI => ?_, hst, Fd.keeps up, Nd.grown up, ⟨g, news, rfl, hg, hm, hJ, news_off hg.dicts N₁⟩, ?_, ?_⟩
  · rcases List.mem_cons.mp hI with e | hI
    · exact absurd hL (e ▸ Nat.lt_irrefl _)
    · exact (N₁ _ hm).2.1 (List.mem_singleton.mp hI).symm
  · rw [List.mem_singleton.mp hb]; exact next_is_new Fd
  · exact absurd (Heap.lt_size (Nd q hq).1) (List.mem_singleton.mp hI ▸ Nat.lt_irrefl _)
  · rintro i v m₁ nn h₁ tk₁ own hi hP ⟨g₁, news₁, rfl, hg₁, hm₁, hJ₁, hn₁⟩ hoff hown hget hall st₁ F₂ N₂
    obtain ⟨oI, hoI, hnt⟩ := hIt _ _ st₁
    have hI₀ : (hideAll g₀ fs).get? s₁.heap.objs.size = none := next_is_new Fd
    have hIown : (s₁.heap.objs.size, oI) ∈ own := hall _ (List.mem_cons_self ..) hI₀ _ hoI
    have hIfs : s₁.heap.objs.size ∉ fs := frameOff hg₁.dicts KtsTurn.refl fun q hq e => hoff q (List.mem_append_left _ hq) (List.mem_singleton.mpr e)
    have F₃ : Fr g₁ env.locals h₁ m₁ := frUp F₂ hg₁.turn fun q hq => (N₂ q (List.mem_append_right _ (List.mem_append_left _ hq))).1
    have N₃ : News g₁ env.locals h₁ ((s₁.heap.objs.size, oI) :: news₁) := newsUp (fun q hq => N₂ q (by
      rcases List.mem_cons.mp hq with rfl | hq
      · exact List.mem_append_left _ hIown
      · exact List.mem_append_right _ (List.mem_append_right _ hq))) hg₁.turn fun q hq => by
      rcases List.mem_cons.mp hq with rfl | hq
      · exact hIfs
      · exact hn₁ q hq
    refine wpAny_mono (turn i v g₁ s₁.heap.objs.size oI m₁ _ h₁ tk₁ hP hg₁ hnt (.head _) (.tail _ hm₁) (hJm _ _ _ _ hJ₁ (Sub.refl.cons).j) F₃ N₃) (fun _ s₂ h₂ => wpAny_mono h₂ (fun f s₃ h₃ => ?_) fun _ _ e => e) fun _ _ e => e
    have fin : (∃ g h' tk m' all, s₃ = { s₁ with heap := h', toks := tk } ∧ Gd w p loose mean mg mb A₀ base outer g₀ g ∧ Fr g env.locals h' m' ∧ News g env.locals h' all ∧ (∀ p ∈ [(s₁.heap.objs.size, oI), (ax, oax)], p ∈ all) ∧ J (i + 1) m' all) →
        LoopStepU (hideAll g₀ fs) env.locals [s₁.heap.objs.size] own (JL (i + 1)) { s₁ with heap := h₁, toks := tk₁ } .next s₃ := by
      rintro ⟨g', h', tk, m', all, rfl, hg', F', N', hk, hJ'⟩
      have hI' := hk _ (List.mem_cons_self ..)
      have hax' := hk _ (List.mem_cons_of_mem _ (List.mem_cons_self ..))
      have hKp : KeepsJ s₁.heap.objs.size all (filt s₁.heap.objs.size all) := fun q hq hqn => filt_mem hq fun e => by
        rcases hqn with hqn | hqn
        case inr => exact hqn e
        have h1 := (N' _ hI').1
        have h2 := (N' _ hq).1
        rw [e, h1] at h2
        rw [← Option.some.inj h2, hnt] at hqn; cases hqn
      have hNf : News g' env.locals h' (filt s₁.heap.objs.size all) := fun q hq => N' q (List.mem_filter.mp hq).1
      have Nn := newsDown F' hNf hg'.turn
      refine ⟨rfl, h', tk, m', frObjs fs g' ++ filt s₁.heap.objs.size all, rfl, frDown F' hg'.turn, fun q hq => ?_, fun q hq hqI => ?_, g', _, rfl, hg', filt_mem hax' hne, hJm _ _ _ _ hJ' hKp, news_off hg'.dicts hNf⟩
      · rcases List.mem_append.mp hq with hq | hq
        · have q2 := hget q hq
          refine ⟨?_, (N₂ q (List.mem_append_left _ hq)).2⟩
          rcases List.mem_cons.mp (hown q hq) with e | e
          · rw [e, hoI] at q2
            rw [e, ← q2]; exact (N' _ hI').1
          · have e' := List.mem_singleton.mp e
            have q3 := (N₂ _ (List.mem_append_right _ (List.mem_append_right _ hm₁))).1
            rw [e', q3] at q2
            rw [e', ← q2]; exact (N' _ hax').1
        · exact Nn q hq
      · have hqI' := List.mem_singleton.mp hqI
        rcases List.mem_append.mp hq with hq | hq
        · exact hIfs (hqI' ▸ (frObjs_mem hq).1)
        · exact filt_ne q hq hqI'
    cases f with
    | ret v => exact .ret h₃
    | brk => exact .brk h₃
    | next => exact .next (fin h₃)
    | cont => exact .cont (fin h₃)
  · rintro h' tk m' nn F' N' _ ⟨g₁, news₁, rfl, hg₁, hm₁, hJ₁, hn₁⟩
    exact done g₁ m' news₁ h' tk hg₁ hm₁ hJ₁ (frUp F' hg₁.turn fun q hq => (N' q (List.mem_append_left _ hq)).1) (newsUp (fun q hq => N' q (List.mem_append_right _ hq)) hg₁.turn hn₁)
/-- the turns of a loop over a list, by an invariant -/
def TurnsS (prog : Program) (w : World) (p : Program) (loose : List Str) (mean : ExcName → Option Value) (mg mb : Str → Option Value) (A₀ : Around) (base : Heap) (outer : List Env) (g₀ : Heap) (A : Around) (env : Env) (target : PySem.Expr) (body : List Stmt) (Q : Flow → Shared → Prop) (E : Value → Shared → Prop) (xv : Value) (s : Shared) : Prop :=
  ∃ ax its oax news g m, xv = .ref ax ∧ A.handled = none ∧ Gd w p loose mean mg mb A₀ base outer g₀ g ∧ Fr g env.locals s.heap m ∧ News g env.locals s.heap news ∧ (ax, oax) ∈ news ∧ oax.cls = .type "list" ∧ (∃ n, oax.data = .seq (its : List Value).toArray n) ∧
    ∃ J : Nat → (Str → Option Value) → List (Addr × Obj) → Prop, (∀ i m l l', J i m l → KeepsJ s.heap.objs.size l l' → J i m l') ∧ J 0 m news ∧
      (∀ i v g I oI m₁ news₁ h tk, its[i]? = some v → Gd w p loose mean mg mb A₀ base outer g₀ g → iterish oI = true → (I, oI) ∈ news₁ → (ax, oax) ∈ news₁ → J i m₁ news₁ → Fr g env.locals h m₁ → News g env.locals h news₁ →
        wpAny (model prog w) A (assign target env v) (fun _ s₃ => wpAny (model prog w) A (execs body env) (TurnEnd (Gd w p loose mean mg mb A₀ base outer g₀) env.locals { s with heap := h, toks := tk } [(I, oI), (ax, oax)] (J (i + 1)) Q) E s₃) E { s with heap := h, toks := tk }) ∧
      (∀ g m₁ news₁ h tk, Gd w p loose mean mg mb A₀ base outer g₀ g → (ax, oax) ∈ news₁ → J its.length m₁ news₁ → Fr g env.locals h m₁ → News g env.locals h news₁ → Q .next { s with heap := h, toks := tk })
theorem forS {s : Shared} {target iter : PySem.Expr} {body : List Stmt} {pos : Pos} {Q : Flow → Shared → Prop} {h₀ : Heap} (hG : Gd w p loose mean mg mb A₀ base outer g₀ h₀) (F : Fr h₀ env.locals s.heap m)
    (h : wpAny (model prog w) A (eval iter env) (TurnsS prog w p loose mean mg mb A₀ base outer g₀ A env target body Q E) E s)
    (hs : ∀ x, foldedSetIterable iter env x = pure x := by intro _; rfl)
    (hE : PassesOwn (model prog w) A env E := by passes_own) :
    wpAny (model prog w) A (exec (.For target iter body [] pos) env) Q E s := by
  refine For_turns (frDown F hG.turn) (wpAny_mono h (fun xv s₁ h₁ => ?_) fun _ _ e => e) hs hE
  obtain ⟨ax, its, oax, news, g, m, rfl, hh, hg, F₁, N₁, hm, hc, ⟨n, hd⟩, J, hJm, hJ, turn, done⟩ := h₁
  have hl : s₁.heap.IsList ax its.toArray := ⟨oax, (N₁ _ hm).1, hc, n, hd⟩
  have hne : ax ≠ s₁.heap.objs.size := Nat.ne_of_lt (Heap.lt_size (N₁ _ hm).1)
  refine wpAny_pyIter_list hl ?_
  have W := Walks.list (prog := prog) (w := w) hh s₁.heap.objs.size ax hne its.toArray
  refine forCore hg F₁ N₁ hm W ⟨⟨_, Heap.get?_push_size _ rfl, rfl, rfl⟩, hl.push _⟩ (fun i h st => ?_) (fun i v s Q E st q => letGo_listiter st.1 q) J hJm hJ (fun i v g I oI m₁ news₁ h tk hP => turn i v g I oI m₁ news₁ h tk (by simpa using hP)) (fun g m₁ news₁ h tk a b c => done g m₁ news₁ h tk a b (by simpa using c))
  obtain ⟨oI, hoI, hIc, hId⟩ := st.1
  exact ⟨oI, hoI, by unfold iterish; rw [hIc, hId]; rfl⟩
/-- the turns of a loop over the keys of a dict, by an invariant -/
def TurnsD (prog : Program) (w : World) (p : Program) (loose : List Str) (mean : ExcName → Option Value) (mg mb : Str → Option Value) (A₀ : Around) (base : Heap) (outer : List Env) (g₀ : Heap) (A : Around) (env : Env) (target : PySem.Expr) (body : List Stmt) (Q : Flow → Shared → Prop) (E : Value → Shared → Prop) (xv : Value) (s : Shared) : Prop :=
  ∃ ax kvs oax news g m, xv = .ref ax ∧ A.handled = none ∧ Gd w p loose mean mg mb A₀ base outer g₀ g ∧ Fr g env.locals s.heap m ∧ News g env.locals s.heap news ∧ (ax, oax) ∈ news ∧ oax.IsDictOf (PySem.strKind prog w) kvs ∧ (ax == sysModules) = false ∧
    ∃ J : Nat → (Str → Option Value) → List (Addr × Obj) → Prop, (∀ i m l l', J i m l → KeepsJ s.heap.objs.size l l' → J i m l') ∧ J 0 m news ∧
      (∀ i k x v g I oI m₁ news₁ h tk, kvs[i]? = some (k, x) → (PySem.strKind prog w).is k v = true → Gd w p loose mean mg mb A₀ base outer g₀ g → iterish oI = true → (I, oI) ∈ news₁ → (ax, oax) ∈ news₁ → J i m₁ news₁ → Fr g env.locals h m₁ → News g env.locals h news₁ →
        wpAny (model prog w) A (assign target env v) (fun _ s₃ => wpAny (model prog w) A (execs body env) (TurnEnd (Gd w p loose mean mg mb A₀ base outer g₀) env.locals { s with heap := h, toks := tk } [(I, oI), (ax, oax)] (J (i + 1)) Q) E s₃) E { s with heap := h, toks := tk }) ∧
      (∀ g m₁ news₁ h tk, Gd w p loose mean mg mb A₀ base outer g₀ g → (ax, oax) ∈ news₁ → J kvs.length m₁ news₁ → Fr g env.locals h m₁ → News g env.locals h news₁ → Q .next { s with heap := h, toks := tk })
theorem forD {s : Shared} {x : Str} {px : Pos} {iter : PySem.Expr} {body : List Stmt} {pos : Pos} {Q : Flow → Shared → Prop} {h₀ : Heap} (hG : Gd w p loose mean mg mb A₀ base outer g₀ h₀) (F : Fr h₀ env.locals s.heap m)
    (h : wpAny (model prog w) A (eval iter env) (TurnsD prog w p loose mean mg mb A₀ base outer g₀ A env (.Name x px) body Q E) E s)
    (hs : ∀ x, foldedSetIterable iter env x = pure x := by intro _; rfl)
    (hE : PassesOwn (model prog w) A env E := by passes_own) :
    wpAny (model prog w) A (exec (.For (.Name x px) iter body [] pos) env) Q E s := by
  refine For_turns (frDown F hG.turn) (wpAny_mono h (fun xv s₁ h₁ => ?_) fun _ _ e => e) hs hE
  obtain ⟨ax, kvs, oax, news, g, m, rfl, hh, hg, F₁, N₁, hm, hd, hsm, J, hJm, hJ, turn, done⟩ := h₁
  obtain ⟨ep, hda⟩ := (Heap.dictOf_iff.mpr ⟨oax, (N₁ _ hm).1, hd⟩ : s₁.heap.DictOf (PySem.strKind prog w) ax kvs).dictAt
  have hne : ax ≠ s₁.heap.objs.size := Nat.ne_of_lt (Heap.lt_size (N₁ _ hm).1)
  refine wpAny_pyIter_dict hsm hda ?_
  have W := Walks.dictKeys (prog := prog) (w := w) (knd := PySem.strKind prog w) hh s₁.heap.objs.size ax hne kvs ep
  refine forCore hg F₁ N₁ hm W ⟨⟨_, Heap.get?_push_size _ rfl, rfl, rfl⟩, hda.push _⟩ (fun i h st => ?_) (fun i v s Q E st q => wpAny_pure q) J hJm hJ (fun i v g I oI m₁ news₁ h tk hP => ?_) done
  · obtain ⟨oI, hoI, hIc, hId⟩ := st.1
    exact ⟨oI, hoI, by unfold iterish; rw [hIc, hId]; rfl⟩
  · obtain ⟨k, x, h1, h2⟩ := hP
    exact turn i k x v g I oI m₁ news₁ h tk h1 h2
end
end Mine
end
section
open PySem PySem.W PySem.Spec PySem.Calls PyProof.Rows PyProof.Rows.LCg
set_option maxRecDepth 100000
namespace Mine
section
variable {prog : Program} {w : World} {A : Around} {R : Result → Shared → Prop} {h₀ : Heap} {L : Addr} {m : Str → Option Value} {news : List (Addr × Obj)}
theorem sumL_loop {I ax S : Addr} {its : List Value} {lists : List (List Value)} (W : Walks prog w A.in1 I [I, ax] [I] its.length (fun i v => its[i]? = some v) (fun i h => h.IsListIter I ax i ∧ h.IsList ax its.toArray))
    (hl : Rel2 (fun v vs => ∃ a, v = .ref a ∧ ListAt news a vs) its lists) (hz : (lists.map List.length).sum ≤ 1000) (hax : ∃ o, (ax, o) ∈ news) (hIS : I ≠ S) (hS0 : h₀.get? S = none) (hSL : S ≠ L) (hI0 : h₀.get? I = none) (hIL : I ≠ L) (hIn : ∀ p ∈ news, p.1 ≠ I) (hSn : ∀ p ∈ news, p.1 ≠ S) :
    ∀ (k i : Nat) (s : Shared) (T : Addr) (acc : List Value) (c : Nat), its.length - i = k → i ≤ its.length → (s.heap.IsListIter I ax i ∧ s.heap.IsList ax its.toArray) → Fr h₀ L s.heap m → News h₀ L s.heap news →
      s.heap.get? S = some { cls := .type "list", dict := none, data := .seq #[.ref T] c, slots := #[] } → s.heap.IsList T acc.toArray → T ≠ S → T ≠ I → (T ≠ L ∧ h₀.get? T = none) → acc.length ≤ ((lists.take i).map List.length).sum →
      (∀ s' T', Fr h₀ L s'.heap m → News h₀ L s'.heap news → s'.heap.IsList T' (acc ++ (lists.drop i).flatten).toArray → (∃ h' tk, s' = { s with heap := h', toks := tk }) → (T' ≠ L ∧ h₀.get? T' = none) → R (.ok (.ret (.ref T'))) s') →
      codeAny (model prog w) A (.builtin "sum.loop" ⟨[.ref I, .ref S, rawInt 2, rawInt 0], []⟩) R s := by
  intro k
  induction k with
  | zero =>
    intro i s T acc c hk hi hst F N hS hT hTS hTI hTn hacc hR
    have hin : i = its.length := by omega
    subst hin
    refine codeAny_builtin PySem.F.entry_sum_loop ?_
    rw [Around.under_plainId PySem.F.plain_sum_loop _]
    show wpAny _ A.in1 (seqItems? (.ref S) >>= _) _ _ s
    refine wpAny_bind (wpAny_seqItems hS rfl ?_)
    show wpAny _ A.in1 (tryCatch (pyNext (.ref I)) _ >>= _) _ _ s
    refine wpAny_bind (wpAny_tryCatch (W.done s _ _ hst fun h' tk hk' => ?_))
    have keep : ∀ b o, b ≠ I → s.heap.get? b = some o → h'.get? b = some o := fun b o hb e => hk' b o (by simpa using hb) e
    refine wpAny_pure (hR { s with heap := h', toks := tk } T ⟨F.ns.at' fun o e => keep _ o (Ne.symm hIL) e, fun b o e => keep b o (fun q => by rw [q, hI0] at e; cases e) (F.keep b o e), F.above⟩
      (fun p hp => ⟨keep _ _ (hIn p hp) (N p hp).1, (N p hp).2⟩) ?_ ⟨_, _, rfl⟩ hTn)
    rw [List.drop_eq_nil_of_le (Nat.le_of_eq hl.length.symm), List.flatten_nil, List.append_nil]
    exact hT.at fun o e => keep _ o hTI e
  | succ k ih =>
    intro i s T acc c hk hi hst F N hS hT hTS hTI hTn hacc hR
    have hlt : i < its.length := by omega
    refine codeAny_builtin PySem.F.entry_sum_loop ?_
    rw [Around.under_plainId PySem.F.plain_sum_loop _]
    show wpAny _ A.in1 (seqItems? (.ref S) >>= _) _ _ s
    refine wpAny_bind (wpAny_seqItems hS rfl ?_)
    show wpAny _ A.in1 (tryCatch (pyNext (.ref I)) _ >>= _) _ _ s
    refine wpAny_bind (wpAny_tryCatch (W.item i s _ _ hlt hst fun v h' tk hP hst' hk' => ?_))
    have keep : ∀ b o, b ≠ I → s.heap.get? b = some o → h'.get? b = some o := fun b o hb e => hk' b o (by simpa using hb) e
    have F1 : Fr h₀ L h' m := ⟨F.ns.at' fun o e => keep _ o (Ne.symm hIL) e, fun b o e => keep b o (fun q => by rw [q, hI0] at e; cases e) (F.keep b o e), F.above⟩
    have N1 : News h₀ L h' news := fun p hp => ⟨keep _ _ (hIn p hp) (N p hp).1, (N p hp).2⟩
    have hS1 := keep S _ (Ne.symm hIS) hS
    have hT1 : h'.IsList T acc.toArray := hT.at fun o e => keep _ o hTI e
    obtain ⟨oI, hoI, hIr⟩ := id hst'.1
    obtain ⟨vs, hvs, a, rfl, hLa⟩ : ∃ vs, lists[i]? = some vs ∧ ∃ a, v = .ref a ∧ ListAt news a vs := by
      have : ∀ {l : List Value} {q : List (List Value)}, Rel2 (fun v vs => ∃ a, v = .ref a ∧ ListAt news a vs) l q → ∀ {i : Nat}, l[i]? = some v → ∃ vs, q[i]? = some vs ∧ ∃ a, v = .ref a ∧ ListAt news a vs := by
        intro l q h
        induction h with
        | nil => intro i e; simp at e
        | @cons x y l q r _ ih =>
          intro i e
          cases i with
          | zero => simp at e; subst e; exact ⟨y, by simp, r⟩
          | succ i => simp at e; obtain ⟨b, h1, h2⟩ := ih e; exact ⟨b, by simpa using h1, h2⟩
      exact this hl hP
    have hLa1 := hLa.isList (s := { s with heap := h', toks := tk }) N1
    have htk : lists.take (i + 1) = lists.take i ++ [vs] := by rw [List.take_add_one, hvs]; rfl
    have hdr : lists.drop i = vs :: lists.drop (i + 1) := by
      obtain ⟨h1, h2⟩ := List.getElem?_eq_some_iff.mp hvs
      rw [List.drop_eq_getElem_cons h1, h2]
    have hsum : ((lists.take (i + 1)).map List.length).sum ≤ 1000 := by
      refine Nat.le_trans ?_ hz
      conv => rhs; rw [← List.take_append_drop (i + 1) lists]
      rw [List.map_append, List.sum_append]; exact Nat.le_add_right _ _
    have hsum2 : ((lists.take (i + 1)).map List.length).sum = ((lists.take i).map List.length).sum + vs.length := by rw [htk]; simp
    have N2 : News h₀ L h' ((S, { cls := .type "list", dict := none, data := .seq #[.ref T] c, slots := #[] }) :: (I, oI) :: news) := fun p hp => by
      rcases List.mem_cons.mp hp with rfl | hp
      · exact ⟨hS1, hSL, hS0⟩
      rcases List.mem_cons.mp hp with rfl | hp
      · exact ⟨hoI, hIL, hI0⟩
      · exact N1 p hp
    show wpAny _ A.in1 ((holding [Value.ref a] (binaryOp .Add (.ref T) (.ref a))).attempt >>= _) _ _ _
    refine wpAny_bind (wpAny_attempt (wpAny_holding (add_lists (s := { s with heap := h', toks := tk }) F1 N2 hT1 hLa1 (fun h2 F2 N3 => ?_) (by rw [sizeLine_eq]; omega))))
    have hS2 : h2.get? S = _ := (N3 _ (.tail _ (.head _))).1
    have hI2 : h2.get? I = some oI := (N3 _ (.tail _ (.tail _ (.head _)))).1
    have hTS2 : h'.objs.size ≠ S := fun e => absurd (Heap.lt_size hS1) (e ▸ Nat.lt_irrefl _)
    have hTI2 : h'.objs.size ≠ I := fun e => absurd (Heap.lt_size hoI) (e ▸ Nat.lt_irrefl _)
    show wpAny _ A.in1 (updateSeq S (fun _ => #[Value.ref h'.objs.size]) >>= _) _ _ _
    refine wpAny_bind (wpAny_updateSeq hS2 rfl ?_)
    have hS3 := Heap.get?_update_self (Obj.mapSeq fun _ => #[Value.ref h'.objs.size]) hS2 rfl
    refine wpAny_bind (wpAny_letGo ?_)
    have old : ∀ b o, b ≠ S → h2.get? b = some o → ((h2.update S (Obj.mapSeq fun _ => #[Value.ref h'.objs.size])).update S (Obj.mapSeq fun _ => #[Value.ref h'.objs.size])).get? b = some o := fun b o hb e =>
      (Heap.get?_update_other _ _ (fun q : S = b => hb q.symm)).trans ((Heap.get?_update_other _ _ (fun q : S = b => hb q.symm)).trans e)
    refine wpAny_bind (wpAny_updateSeq hS3 rfl (wpAny_pure ⟨plainId_quiet PySem.F.plain_sum_loop _, ih (i + 1) _ h'.objs.size (acc ++ vs) _ (by omega) hlt ⟨?_, ?_⟩ ⟨F2.ns.at' fun o e => old _ o (Ne.symm hSL) e, fun b o e => old b o (fun q => by rw [q, hS0] at e; cases e) (F2.keep b o e), F2.above⟩
      (fun p hp => ⟨old _ _ (hSn p hp) (N3 p (.tail _ (.tail _ (.tail _ hp)))).1, (N1 p hp).2⟩) (Heap.get?_update_self _ hS3 rfl) ⟨_, old _ _ hTS2 (N3 _ (.head _)).1, rfl, _, rfl⟩ hTS2 hTI2 (N3 _ (.head _)).2 (by rw [List.length_append, hsum2]; omega) fun s' T' a1 a2 a3 a4 a5 => hR s' T' a1 a2 (by rw [hdr, List.flatten_cons, ← List.append_assoc]; exact a3) ?_ a5⟩))
    · obtain ⟨o2, ho2, r2⟩ := hst'.1
      rw [hoI] at ho2; cases ho2
      exact ⟨oI, old _ _ hIS hI2, r2⟩
    · obtain ⟨oa, hoa⟩ := hax
      have q1 := (N1 _ hoa).1
      obtain ⟨o2, ho2, r2⟩ := hst'.2
      rw [q1] at ho2; cases ho2
      exact ⟨oa, old _ _ (hSn _ hoa) (N3 _ (.tail _ (.tail _ (.tail _ hoa)))).1, r2⟩
    · obtain ⟨h5, t5, rfl⟩ := a4
      exact ⟨h5, t5, rfl⟩
end
end Mine
end
section
open PySem PySem.W PySem.Spec PySem.Calls PyProof.Rows PyProof.Rows.LCg
set_option maxRecDepth 100000
namespace Mine
theorem args_sum2 (a b : Value) : argsOk "sum" ⟨[a, b], []⟩ := by unfold argsOk; kernel_rfl
theorem lsub_str : isSubtype (.type "list") (.type "str") = pure false := by rw [isSubtype_type]; kernel_rfl
theorem lsub_bytes : isSubtype (.type "list") (.type "bytes") = pure false := by rw [isSubtype_type]; kernel_rfl
theorem lsub_bytearray : isSubtype (.type "list") (.type "bytearray") = pure false := by rw [isSubtype_type]; kernel_rfl
section
variable {prog : Program} {w : World} {A : Around} {E : Value → Shared → Prop} {s : Shared} {h₀ : Heap} {L : Addr} {m : Str → Option Value} {news : List (Addr × Obj)}
theorem call_sumL {l e : Addr} {its : List Value} {lists : List (List Value)} {Q : Value → Shared → Prop} (hh : A.in1.handled = none) (F : Fr h₀ L s.heap m) (N : News h₀ L s.heap news) (hl : ListAt news l its) (he : ListAt news e [])
    (hs : Rel2 (fun v vs => ∃ a, v = .ref a ∧ ListAt news a vs) its lists) (hz : (lists.map List.length).sum ≤ 1000)
    (h : ∀ h' tk T o n, Fr h₀ L h' m → News h₀ L h' ((T, o) :: news) → o.cls = .type "list" → o.data = .seq lists.flatten.toArray n → Q (.ref T) { s with heap := h', toks := tk }) :
    wpAny (model prog w) A (call (.builtin "sum") [.ref l, .ref e]) Q E s := by
  obtain ⟨ol, hl1, hl2, nl, hl3⟩ := id hl
  obtain ⟨oe, he1, he2, ne, he3⟩ := id he
  have hlL := ListAt.isList hl N
  have hne : l ≠ s.heap.objs.size := Nat.ne_of_lt (Heap.lt_size (N _ hl1).1)
  refine call_function_tree PySem.F.kind_sum PySem.F.plain_sum PySem.F.entry_sum (args_sum2 _ _) ?_
  unfold Builtin.«sum»
  simp only [List.length_cons, List.length_nil]
  rw [if_neg (by decide)]
  refine wpAny_bind (wpAny_of_eq (show Builtin.Builtins.bindParams "sum" ["start"] 0 { pos := [Value.ref e] } = pure [some (Value.ref e)] from rfl) ?_)
  refine wpAny_bind (wpAny_pyIter_list hlL ?_)
  have W := Walks.list (prog := prog) (w := w) hh s.heap.objs.size l hne its.toArray
  have up : ∀ b o, s.heap.get? b = some o → (s.heap.push { cls := .type "list_iterator", data := .fields #[.ref l, .int 0 0] }).get? b = some o := fun b o e => Heap.get?_push_of_some _ e
  have Te : ∀ {h' : Heap}, (∀ b o, s.heap.get? b = some o → h'.get? b = some o) → h'.get? e = some oe := fun k => k _ _ (N _ he1).1
  refine wpAny_bind (wpAny_pure ?_)
  simp only [List.forIn_cons, List.forIn_nil]
  refine wpAny_bind (wpAny_bind (wpAny_bind (wpAny_isInstance (T := "list") (b := false) ⟨oe, Te up, he2⟩ lsub_str ?_)))
  simp only [Bool.false_eq_true, if_false]
  refine wpAny_pure (wpAny_bind (wpAny_bind (wpAny_isInstance (T := "list") (b := false) ⟨oe, Te up, he2⟩ lsub_bytes ?_)))
  simp only [Bool.false_eq_true, if_false]
  refine wpAny_pure (wpAny_bind (wpAny_bind (wpAny_isInstance (T := "list") (b := false) ⟨oe, Te up, he2⟩ lsub_bytearray ?_)))
  simp only [Bool.false_eq_true, if_false]
  refine wpAny_pure (wpAny_pure ?_)
  refine wpAny_bind (wpAny_newObj_type ?_)
  have W' : Walks prog w A.in1 s.heap.objs.size [s.heap.objs.size, l] [s.heap.objs.size] its.length (fun i v => its[i]? = some v) (fun i h => h.IsListIter s.heap.objs.size l i ∧ h.IsList l its.toArray) := by
    have W2 := W
    simp only [List.size_toArray, List.getElem?_toArray] at W2
    exact W2
  have hsz : ∀ o, (s.heap.push o).objs.size = s.heap.objs.size + 1 := fun o => Heap.size_push _ _
  have hI0 : h₀.get? s.heap.objs.size = none := next_is_new F
  have F1 := F.keeps up
  have up2 : ∀ (o : Obj) b o', s.heap.get? b = some o' → ((s.heap.push { cls := .type "list_iterator", data := .fields #[.ref l, .int 0 0] }).push o).get? b = some o' := fun o b o' e => Heap.get?_push_of_some _ (up b o' e)
  have hS0 := next_is_new F1
  have hLs : L < s.heap.objs.size := F.ns.lt
  refine wpAny_pure ⟨plainId_quiet PySem.F.plain_sum_loop _, sumL_loop W' hs hz ⟨ol, hl1⟩ (by rw [hsz]; exact Nat.ne_of_lt (Nat.lt_succ_self _)) hS0 (by rw [hsz]; exact Ne.symm (Nat.ne_of_lt (Nat.lt_succ_of_lt hLs))) hI0 (Ne.symm (Nat.ne_of_lt hLs)) (fun p hp => Nat.ne_of_lt (Heap.lt_size (N p hp).1)) (fun p hp => by rw [hsz]; exact Nat.ne_of_lt (Nat.lt_succ_of_lt (Heap.lt_size (N p hp).1)))
    its.length 0 _ e [] 0 (by omega) (Nat.zero_le _) ⟨⟨_, Heap.get?_push_of_some _ (Heap.get?_push_size _ rfl), rfl, rfl⟩, (hlL.push _).push _⟩ (F.keeps (up2 _)) (N.grown (up2 _)) (Heap.get?_push_size _ rfl) ⟨oe, up2 _ _ _ (N _ he1).1, he2, ne, he3⟩
    (by rw [hsz]; exact Nat.ne_of_lt (Nat.lt_succ_of_lt (Heap.lt_size (N _ he1).1))) (Nat.ne_of_lt (Heap.lt_size (N _ he1).1)) (N _ he1).2 (Nat.zero_le _) fun s' T' a1 a2 a3 a4 a5 => ?_⟩
  obtain ⟨h5, t5, rfl⟩ := a4
  obtain ⟨o5, g1, g2, n5, g3⟩ := a3
  refine h h5 t5 T' o5 n5 a1 (fun p hp => ?_) g2 (by rw [g3, List.drop_zero, List.nil_append])
  rcases List.mem_cons.mp hp with rfl | hp
  · exact ⟨g1, a5⟩
  · exact a2 p hp
end
end Mine
end
section
open PySem PySem.W PySem.Spec PySem.Calls PyProof.Rows PyProof.Rows.LCg
set_option maxRecDepth 100000
namespace Mine
/-- a list of names, as strs -/
def NamesIn (vs : List Value) (ns : List Nm) : Prop := Rel2 (fun v n => ∃ t, v = .str (Nm.str n) t) vs ns
def isNm (n : Nm) : Value → Bool
  | .str z _ => z == n.str
  | _ => false
theorem names_any {vs : List Value} {ns : List Nm} (h : NamesIn vs ns) (n : Nm) : vs.any (isNm n) = ns.contains n := by
  induction h with
  | nil => rfl
  | @cons a b l k x _ ih =>
    obtain ⟨t, rfl⟩ := x
    rw [List.any_cons, ih, List.contains_cons]
    have : isNm n (.str b.str t) = (n == b) := by
      show (b.str == n.str) = (n == b)
      by_cases e : n = b
      · subst e; rw [beq_self_eq_true, beq_self_eq_true]
      · rw [beq_eq_false_iff_ne.mpr e, beq_eq_false_iff_ne.mpr fun q => e (Nm.str_inj.mp q).symm]
    rw [this]
section
variable {prog : Program} {w : World} {A : Around} {E : Value → Shared → Prop} {s : Shared} {h₀ : Heap} {L l : Addr} {news : List (Addr × Obj)} {vs : List Value} {ns : List Nm} {n : Nm} {t : Tok}
theorem names_eqAt (h : NamesIn vs ns) : ∀ y, y ∈ vs.toArray → PySem.SeqAt.EqAt A s y (.str n.str t) (isNm n y) := by
  intro y hy
  have hy' : y ∈ vs := by simpa using hy
  have : ∃ b u, y = .str (Nm.str b) u := by
    induction h with
    | nil => cases hy'
    | @cons a b l k x _ ih =>
      rcases List.mem_cons.mp hy' with rfl | hy'
      · obtain ⟨u, hu⟩ := x; exact ⟨b, u, hu⟩
      · exact ih (by simpa using hy') hy'
  obtain ⟨b, u, rfl⟩ := this
  exact PySem.SeqAt.EqAt.str_str b.str u n.str t
theorem in_names {Q : Value → Shared → Prop} (N : News h₀ L s.heap news) (D : ListAt news l vs) (h : NamesIn vs ns) (hQ : Q (.bool (ns.contains n)) s) :
    wpAny (model prog w) A (compareOp .In (.str n.str t) (.ref l)) Q E s := by
  refine PySem.SeqAt.in_listAt (isNm n) (D.isList N) (names_eqAt h) ?_
  have e : vs.toArray.any (isNm n) = ns.contains n := by rw [List.any_toArray]; exact names_any h n
  rw [e]; exact hQ
theorem notIn_names {Q : Value → Shared → Prop} (N : News h₀ L s.heap news) (D : ListAt news l vs) (h : NamesIn vs ns) (hQ : Q (.bool (!ns.contains n)) s) :
    wpAny (model prog w) A (compareOp .NotIn (.str n.str t) (.ref l)) Q E s := by
  refine PySem.SeqAt.notIn_listAt (isNm n) (D.isList N) (names_eqAt h) ?_
  have e : vs.toArray.any (isNm n) = ns.contains n := by rw [List.any_toArray]; exact names_any h n
  rw [e]; exact hQ
end
end Mine
end
section
open PySem PySem.W PySem.Spec PySem.Calls PyProof.Rows PyProof.Rows.LCg PyProof.Rows.LCt
set_option maxRecDepth 100000
namespace Mine
section
variable {prog : Program} {w : World} {p : Program} {loose : List Str} {mean : ExcName → Option Value} {mg mb : Str → Option Value} {A₀ : Around} {base g₀ : Heap} {outer : List Env} {A : Around} {E : Value → Shared → Prop} {L : Addr} {m : Str → Option Value} {env : Env}
  {elt ct : PySem.Expr} {x : Str} {scope : Scope} {cl : List (Str × Addr)}
/-- a turn of a comprehension with a test -/
def TestEnd (prog : Program) (w : World) (A : Around) (G : Heap → Prop) (L : Addr) (m : Str → Option Value) (elt : PySem.Expr) (env' : Env) (E' : Value → Shared → Prop) (s₁ : Shared) (news : List (Addr × Obj)) (Jy : Value → Prop) (Jn : Prop) (ok : Bool) (s' : Shared) : Prop :=
  if ok = true then wpAny (model prog w) A (eval elt env') (EltEnd G L m s₁ news Jy) E' s' else EltEnd G L m s₁ news (fun _ => Jn) Value.none s'
theorem restT {s : Shared} {ax : Addr} {its : Array Value} {news : List (Addr × Obj)} {Fin : List Value → List (Addr × Obj) → Prop} (J : Nat → List Value → Prop) (hax : ∃ o, (ax, o) ∈ news ∧ o.cls = .type "list" ∧ ∃ n, o.data = .seq its n)
    (turn : ∀ i v ys g I oI C oC D m₂ h tk (E' : Value → Shared → Prop), its[i]? = some v → J i ys → Gd w p loose mean mg mb A₀ base outer g₀ g → NsObj oC m₂ → m₂ x = some v → Fr g L h m → News g L h ((I, oI) :: (C, oC) :: (D, lst ys) :: news) →
      wpAny (model prog w) A (isTrue ct (compEnvC scope cl C env) (eval ct (compEnvC scope cl C env))) (TestEnd prog w A (Gd w p loose mean mg mb A₀ base outer g₀) L m elt (compEnvC scope cl C env) E' { s with heap := h, toks := tk } ((I, oI) :: (C, oC) :: (D, lst ys) :: news) (fun y => J (i + 1) (ys ++ [y])) (J (i + 1) ys)) E' { s with heap := h, toks := tk })
    (done : ∀ ys g, J its.size ys → Gd w p loose mean mg mb A₀ base outer g₀ g → (∀ q ∈ news, q.1 ∉ outer.filterMap (·.frame)) → Fin ys (frObjs (outer.filterMap (·.frame)) g ++ news)) :
    ∀ k i ys g, i + k = its.size → J i ys → Gd w p loose mean mg mb A₀ base outer g₀ g → (∀ q ∈ news, q.1 ∉ outer.filterMap (·.frame)) →
      CompRestT prog w A (hideAll g₀ (outer.filterMap (·.frame))) L m env ct elt x scope cl s (SrcAt (hideAll g₀ (outer.filterMap (·.frame))) ax its) (fun i v => its[i]? = some v) Fin k i ys (frObjs (outer.filterMap (·.frame)) g ++ news)
  | 0, i, ys, g, hi, hJ, hg, hn => .zero (done ys g (by rw [Nat.add_zero] at hi; exact hi ▸ hJ) hg hn)
  | k + 1, i, ys, g, hi, hJ, hg, hn => by
    refine .succ fun v I oI C oC D m₂ h tk E' hP hC hx F N off ne => ?_
    have hk := gd_off (oI := oI) (oC := oC) (oD := lst ys) hg.dicts off hn
    have F' := frUp F hg.turn fun q hq => (N q (.tail _ (.tail _ (.tail _ (List.mem_append_left _ hq))))).1
    have N' : News g L h ((I, oI) :: (C, oC) :: (D, lst ys) :: news) := newsUp (fs := outer.filterMap (·.frame)) (g := g₀) (fun q hq => N q (by
      rcases List.mem_cons.mp hq with rfl | hq
      · exact .head _
      rcases List.mem_cons.mp hq with rfl | hq
      · exact .tail _ (.head _)
      rcases List.mem_cons.mp hq with rfl | hq
      · exact .tail _ (.tail _ (.head _))
      exact .tail _ (.tail _ (.tail _ (List.mem_append_right _ hq))))) hg.turn hk
    have fin : ∀ {zs : List Value} {y : Value} {s' : Shared}, EltEnd (Gd w p loose mean mg mb A₀ base outer g₀) L m { s with heap := h, toks := tk } ((I, oI) :: (C, oC) :: (D, lst ys) :: news) (fun _ => J (i + 1) zs) y s' →
        CompEnd (hideAll g₀ (outer.filterMap (·.frame))) L m { s with heap := h, toks := tk } I oI C oC D (lst ys) (SrcAt (hideAll g₀ (outer.filterMap (·.frame))) ax its) (fun _ news' => CompRestT prog w A (hideAll g₀ (outer.filterMap (·.frame))) L m env ct elt x scope cl s (SrcAt (hideAll g₀ (outer.filterMap (·.frame))) ax its) (fun i v => its[i]? = some v) Fin k (i + 1) zs news') y s' := by
      rintro zs y s' ⟨g', h'', tk', rfl, hg', F'', N'', hJ'⟩
      have hsh : ∀ q ∈ frObjs (outer.filterMap (·.frame)) g', ∀ r ∈ (I, oI) :: (C, oC) :: (D, lst ys) :: news, q.1 ≠ r.1 := fun q hq r hr e => hk r hr (e ▸ (frObjs_mem hq).1)
      refine CompEnd.intro (frDown F'' hg'.turn) (newsDown F'' N'' hg'.turn) (frObjs (outer.filterMap (·.frame)) g' ++ news) (fun q hq => ?_) (Off3.of fun q hq => ?_) (.inr ?_) (restT J hax turn done k (i + 1) zs g' (by rw [← hi]; omega) hJ' hg' hn)
      · rcases List.mem_cons.mp hq with rfl | hq
        · exact List.mem_append_right _ (.head _)
        rcases List.mem_cons.mp hq with rfl | hq
        · exact List.mem_append_right _ (.tail _ (.head _))
        rcases List.mem_cons.mp hq with rfl | hq
        · exact List.mem_append_right _ (.tail _ (.tail _ (.head _)))
        rcases List.mem_append.mp hq with hq | hq
        · exact List.mem_append_left _ hq
        · exact List.mem_append_right _ (.tail _ (.tail _ (.tail _ hq)))
      · rcases List.mem_append.mp hq with hq | hq
        · exact ⟨hsh q hq _ (.head _), hsh q hq _ (.tail _ (.head _)), hsh q hq _ (.tail _ (.tail _ (.head _)))⟩
        · exact off.mem q (List.mem_append_right _ hq)
      · obtain ⟨o, hm, hc, n, hd⟩ := hax
        exact ⟨o, List.mem_append_right _ hm, hc, n, hd⟩
    refine wpAny_mono (turn i v ys g I oI C oC D m₂ h tk E' hP hJ hg hC hx F' N') (fun ok s' h' => ?_) fun _ _ e => e
    unfold TestEnd at h'
    cases ok with
    | true =>
      rw [if_pos rfl] at h' ⊢
      refine wpAny_mono h' (fun y s'' h'' => ?_) fun _ _ e => e
      obtain ⟨g', h3, tk', rfl, hg', F'', N'', hJ'⟩ := h''
      have z := fin (zs := ys ++ [y]) (y := y) (s' := { { s with heap := h, toks := tk } with heap := h3, toks := tk' }) ⟨g', h3, tk', rfl, hg', F'', N'', hJ'⟩
      unfold CompEnd at z ⊢
      exact z
    | false =>
      rw [if_neg (fun e => nomatch e)] at h' ⊢
      exact fin h'
/-- where an iterable's walk must come to -/
def IterL (G : Heap → Prop) (L : Addr) (m : Str → Option Value) (s : Shared) (P : Addr → List Value → List (Addr × Obj) → Shared → Prop) (xv : Value) (s₁ : Shared) : Prop :=
  ∃ ax its news g h tk o, xv = .ref ax ∧ s₁ = { s with heap := h, toks := tk } ∧ G g ∧ Fr g L h m ∧ News g L h news ∧ (ax, o) ∈ news ∧ o.cls = .type "list" ∧ (∃ n, o.data = .seq (its : List Value).toArray n) ∧ its.length ≤ sizeLine ∧ P ax its news s₁
/-- the elements of a comprehension with a test, by an invariant -/
def EltsT (prog : Program) (w : World) (p : Program) (loose : List Str) (mean : ExcName → Option Value) (mg mb : Str → Option Value) (A₀ : Around) (base : Heap) (outer : List Env) (g₀ : Heap) (A : Around) (L : Addr) (m : Str → Option Value) (env : Env) (ct elt : PySem.Expr) (x : Str) (scope : Scope) (cl : List (Str × Addr)) (s : Shared)
    (Fin : List Value → Heap → List (Addr × Obj) → Prop) (its : List Value) (news : List (Addr × Obj)) : Prop :=
  ∃ J : Nat → List Value → Prop, J 0 [] ∧
      (∀ i v ys g I oI C oC D m₂ h tk (E' : Value → Shared → Prop), its[i]? = some v → J i ys → Gd w p loose mean mg mb A₀ base outer g₀ g → NsObj oC m₂ → m₂ x = some v → Fr g L h m → News g L h ((I, oI) :: (C, oC) :: (D, lst ys) :: news) →
        wpAny (model prog w) A (isTrue ct (compEnvC scope cl C env) (eval ct (compEnvC scope cl C env))) (TestEnd prog w A (Gd w p loose mean mg mb A₀ base outer g₀) L m elt (compEnvC scope cl C env) E' { s with heap := h, toks := tk } ((I, oI) :: (C, oC) :: (D, lst ys) :: news) (fun y => J (i + 1) (ys ++ [y])) (J (i + 1) ys)) E' { s with heap := h, toks := tk }) ∧
      (∀ ys g, J its.length ys → Gd w p loose mean mg mb A₀ base outer g₀ g → Fin ys g news)
theorem srcT {s s₁ : Shared} {xv : Value} {Fin : Shared → List Value → List (Addr × Obj) → Prop} {Fin' : List Value → Heap → List (Addr × Obj) → Prop} (hh : A.handled = none)
    (hF : ∀ H tk ys g news, Gd w p loose mean mg mb A₀ base outer g₀ g → (∀ q ∈ news, q.1 ∉ outer.filterMap (·.frame)) → Fin' ys g news → Fin { s with heap := H, toks := tk } ys (frObjs (outer.filterMap (·.frame)) g ++ news))
    (h₁ : IterL (Gd w p loose mean mg mb A₀ base outer g₀) L m s (fun ax its news s₁ => EltsT prog w p loose mean mg mb A₀ base outer g₀ A L m env ct elt x scope cl s Fin' its news) xv s₁) :
    CompSrcT prog w A (hideAll g₀ (outer.filterMap (·.frame))) L m env ct elt x scope cl Fin xv s₁ := by
  obtain ⟨ax, its, news, g, h₁, tk, o, rfl, rfl, hg, F₁, N₁, hm, hc, hd, hz, J, hJ, turn, done⟩ := h₁
  obtain ⟨n, hd⟩ := hd
  refine .inl ⟨ax, its.toArray, _, rfl, hh, frDown F₁ hg.turn, newsDown F₁ N₁ hg.turn, .inr ⟨o, List.mem_append_right _ hm, hc, n, hd⟩, by rw [List.size_toArray]; exact hz, fun _ ⟨H, e⟩ => ?_⟩
  subst e
  exact restT (s := { s with heap := H, toks := tk }) (its := its.toArray) J ⟨_, hm, hc, n, hd⟩ (fun i v ys g I oI C oC D m₂ h tk E' a b c d e f q => turn i v ys g I oI C oC D m₂ h tk E' (by simpa using a) b c d e f q)
    (fun ys g' hJ' hg' hn => hF H tk ys g' news hg' hn (done ys g' (by simpa using hJ') hg')) its.toArray.size 0 [] g (Nat.zero_add _) hJ hg (news_off hg.dicts N₁)
theorem evalCompT {s : Shared} {px pos : Pos} {iter : PySem.Expr} {Q : Value → Shared → Prop} {h₀ : Heap} (hG : Gd w p loose mean mg mb A₀ base outer g₀ h₀) (F : Fr h₀ L s.heap m) (hh : A.handled = none)
    (hclos : closureFor scope env = pure cl) (hcell : ∀ y ∈ scope.names, y.2 ≠ .cell) (hkind : scope.kind = .function)
    (hnames : ∀ y ∈ scope.names, y.2 = .local → scope.names.lookup y.1 = some .local) (hx : scope.names.lookup x = some .local)
    (h : wpAny (model prog w) A (eval iter env) (IterL (Gd w p loose mean mg mb A₀ base outer g₀) L m s fun ax its news s₁ => EltsT prog w p loose mean mg mb A₀ base outer g₀ A L m env ct elt x scope cl s
      (fun ys g news => ∀ D h tk, Fr g L h m → News g L h ((D, lst ys) :: news) → Q (.ref D) { s with heap := h, toks := tk }) its news) E s)
    (hs : ∀ x, foldedSetIterable iter env x = pure x := by intro _; rfl) :
    wpAny (model prog w) A (eval (.ListComp elt [⟨.Name x px, iter, [ct], 0⟩] scope pos) env) Q E s :=
  ListComp_T (frDown F hG.turn) hclos hcell hkind hnames hx (wpAny_mono h (fun _ _ h₁ => srcT hh (fun H tk ys g news hg hn hf D h₂ tk₂ F₂ N₂ o₂ => let ⟨a, b⟩ := upEnd hg hn F₂ N₂ o₂; hf D h₂ tk₂ a b) h₁) fun _ _ e => e) hs
theorem assignCompT {s : Shared} {y : Str} {px py pos spos : Pos} {iter : PySem.Expr} {Q : Flow → Shared → Prop} {h₀ : Heap} (hG : Gd w p loose mean mg mb A₀ base outer g₀ h₀) (F : Fr h₀ L s.heap m) (hLe : env.locals = L) (hh : A.handled = none)
    (hsw : swapsWith (.ListComp elt [⟨.Name x px, iter, [ct], 0⟩] scope pos) (some (.Name y py)) spos.line env = pure true)
    (hclos : closureFor scope env = pure cl) (hcell : ∀ y ∈ scope.names, y.2 ≠ .cell) (hkind : scope.kind = .function)
    (hnames : ∀ y ∈ scope.names, y.2 = .local → scope.names.lookup y.1 = some .local) (hx : scope.names.lookup x = some .local)
    (hy : env.kindOf y = some .local) (hp : (env.scope.kind == .class || (env.scope.kind == .module && env.locals != env.globals)) = false)
    (h : wpAny (model prog w) A (eval iter env) (IterL (Gd w p loose mean mg mb A₀ base outer g₀) L m s fun ax its news s₁ => EltsT prog w p loose mean mg mb A₀ base outer g₀ A L m env ct elt x scope cl s
      (fun ys g news => ∀ D h tk, Fr g L h (fun z => if z = y then some (.ref D) else m z) → News g L h ((D, lst ys) :: news) → Q .next { s with heap := h, toks := tk }) its news) E s)
    (hs : ∀ x, foldedSetIterable iter env x = pure x := by intro _; rfl) :
    wpAny (model prog w) A (exec (.Assign [.Name y py] (.ListComp elt [⟨.Name x px, iter, [ct], 0⟩] scope pos) spos) env) Q E s :=
  Assign_ListComp_T (frDown F hG.turn) hLe hsw hclos hcell hkind hnames hx hy hp (wpAny_mono h (fun _ _ h₁ => srcT hh (fun H tk ys g news hg hn hf D h₂ tk₂ F₂ N₂ o₂ => let ⟨a, b⟩ := upEnd hg hn F₂ N₂ o₂; hf D h₂ tk₂ a b) h₁) fun _ _ e => e) hs
end
end Mine
end
section
open PySem PySem.W PySem.Spec PySem.Calls PyProof.Rows PyProof.Rows.LCg PyProof.Rows.LCt
set_option maxRecDepth 100000
namespace Mine
set_option linter.unusedVariables false
/-! loops and comprehensions at one ground -/
section
variable {g g' h : Heap} {L : Addr} {m : Str → Option Value} {news : List (Addr × Obj)}
theorem kt_get {b : Addr} {o : Obj} (T : KtsTurn [] g g') : g'.get? b = some o ↔ g.get? b = some o := by
  constructor
  · intro e
    cases q : g.get? b with
    | none => rw [T.none_ b q] at e; cases e
    | some o' => have := T.other b o' q (fun x => nomatch x); rw [e] at this; exact this.symm ▸ rfl
  · exact fun e => T.other b o e fun x => nomatch x
theorem kt_none {b : Addr} (T : KtsTurn [] g g') : g'.get? b = none ↔ g.get? b = none := by
  cases q : g.get? b with
  | none => exact ⟨fun _ => rfl, fun _ => T.none_ b q⟩
  | some o => rw [(kt_get T).mpr q]
theorem kt_fr (T : KtsTurn [] g g') (F : Fr g' L h m) : Fr g L h m := ⟨F.ns, fun b o e => F.keep b o ((kt_get T).mpr e), by rw [← T.size]; exact F.above⟩
theorem kt_fr' (T : KtsTurn [] g g') (F : Fr g L h m) : Fr g' L h m := ⟨F.ns, fun b o e => F.keep b o ((kt_get T).mp e), by rw [T.size]; exact F.above⟩
theorem kt_news (T : KtsTurn [] g g') (N : News g' L h news) : News g L h news := fun p hp => ⟨(N p hp).1, (N p hp).2.1, (kt_none T).mp (N p hp).2.2⟩
theorem kt_news' (T : KtsTurn [] g g') (N : News g L h news) : News g' L h news := fun p hp => ⟨(N p hp).1, (N p hp).2.1, (kt_none T).mpr (N p hp).2.2⟩
end
section
variable {prog : Program} {w : World} {p : Program} {loose : List Str} {mean : ExcName → Option Value} {mg mb : Str → Option Value} {A : Around} {E : Value → Shared → Prop} {m : Str → Option Value} {env : Env} {h₀ : Heap}
theorem gd0 (X : (hd.heap_39 w.params).In h₀) (T : Top p loose mean mg mb h₀) : Gd w p loose mean mg mb callerA h₀ [] h₀ h₀ := ⟨KtsTurn.refl, below_caller h₀, X, T, ktsDicts_nil⟩
theorem TurnEnd.up {G G' : Heap → Prop} {L : Addr} {s₁ : Shared} {keep : List (Addr × Obj)} {J : (Str → Option Value) → List (Addr × Obj) → Prop} {Q : Flow → Shared → Prop} {f : Flow} {s₂ : Shared} (k : ∀ g, G g → G' g) (h : TurnEnd G L s₁ keep J Q f s₂) : TurnEnd G' L s₁ keep J Q f s₂ := by
  cases f with
  | ret v => exact h
  | brk => exact h
  | next => obtain ⟨g, h', tk, m', all, a, b, c⟩ := h; exact ⟨g, h', tk, m', all, a, k g b, c⟩
  | cont => obtain ⟨g, h', tk, m', all, a, b, c⟩ := h; exact ⟨g, h', tk, m', all, a, k g b, c⟩
/-- the turns of a loop over a list at one ground, by an invariant -/
def TurnsP (prog : Program) (w : World) (h₀ : Heap) (A : Around) (env : Env) (target : PySem.Expr) (body : List Stmt) (Q : Flow → Shared → Prop) (E : Value → Shared → Prop) (xv : Value) (s : Shared) : Prop :=
  ∃ ax its oax news m, xv = .ref ax ∧ A.handled = none ∧ Fr h₀ env.locals s.heap m ∧ News h₀ env.locals s.heap news ∧ (ax, oax) ∈ news ∧ oax.cls = .type "list" ∧ (∃ n, oax.data = .seq (its : List Value).toArray n) ∧
    ∃ J : Nat → (Str → Option Value) → List (Addr × Obj) → Prop, (∀ i m l l', J i m l → KeepsJ s.heap.objs.size l l' → J i m l') ∧ J 0 m news ∧
      (∀ i v I oI m₁ news₁ h tk, its[i]? = some v → iterish oI = true → (I, oI) ∈ news₁ → (ax, oax) ∈ news₁ → J i m₁ news₁ → Fr h₀ env.locals h m₁ → News h₀ env.locals h news₁ →
        wpAny (model prog w) A (assign target env v) (fun _ s₃ => wpAny (model prog w) A (execs body env) (TurnEnd (fun g => g = h₀) env.locals { s with heap := h, toks := tk } [(I, oI), (ax, oax)] (J (i + 1)) Q) E s₃) E { s with heap := h, toks := tk }) ∧
      (∀ m₁ news₁ h tk, (ax, oax) ∈ news₁ → J its.length m₁ news₁ → Fr h₀ env.locals h m₁ → News h₀ env.locals h news₁ → Q .next { s with heap := h, toks := tk })
theorem forP {s : Shared} {target iter : PySem.Expr} {body : List Stmt} {pos : Pos} {Q : Flow → Shared → Prop} (X : (hd.heap_39 w.params).In h₀) (T : Top p loose mean mg mb h₀) (F : Fr h₀ env.locals s.heap m)
    (h : wpAny (model prog w) A (eval iter env) (TurnsP prog w h₀ A env target body Q E) E s)
    (hs : ∀ x, foldedSetIterable iter env x = pure x := by intro _; rfl)
    (hE : PassesOwn (model prog w) A env E := by passes_own) :
    wpAny (model prog w) A (exec (.For target iter body [] pos) env) Q E s := by
  refine forS (gd0 X T) F (wpAny_mono h (fun xv s₁ h₁ => ?_) fun _ _ e => e) hs hE
  obtain ⟨ax, its, oax, news, m, e1, e2, F₁, N₁, hm, hc, hdt, J, hJm, hJ, turn, done⟩ := h₁
  refine ⟨ax, its, oax, news, h₀, m, e1, e2, gd0 X T, F₁, N₁, hm, hc, hdt, J, hJm, hJ, fun i v g I oI m₁ news₁ h tk hv hg hi hI hax hJi F N => ?_, fun g m₁ news₁ h tk hg hax hJi F N => done m₁ news₁ h tk hax hJi (kt_fr hg.turn F) (kt_news hg.turn N)⟩
  exact wpAny_mono (turn i v I oI m₁ news₁ h tk hv hi hI hax hJi (kt_fr hg.turn F) (kt_news hg.turn N)) (fun _ s₃ h₃ => wpAny_mono h₃ (fun f s₄ h₄ => h₄.up (G := fun g => g = h₀) fun g (e : g = h₀) => by subst e; exact gd0 X T) fun _ _ e => e) fun _ _ e => e
end
section
variable {prog : Program} {w : World} {p : Program} {loose : List Str} {mean : ExcName → Option Value} {mg mb : Str → Option Value} {A : Around} {E : Value → Shared → Prop} {L : Addr} {m : Str → Option Value} {env : Env} {h₀ : Heap}
  {elt ct : PySem.Expr} {x : Str} {scope : Scope} {cl : List (Str × Addr)}
theorem EltEnd.up {G G' : Heap → Prop} {L : Addr} {m : Str → Option Value} {s₁ : Shared} {news : List (Addr × Obj)} {J : Value → Prop} {y : Value} {s₂ : Shared} (k : ∀ g, G g → G' g) (h : EltEnd G L m s₁ news J y s₂) : EltEnd G' L m s₁ news J y s₂ := by
  obtain ⟨g, h', tk, a, b, c⟩ := h; exact ⟨g, h', tk, a, k g b, c⟩
/-- where an iterable's walk must come to, at one ground; the elements by an invariant -/
def IterP (prog : Program) (w : World) (h₀ : Heap) (A : Around) (L : Addr) (m : Str → Option Value) (env : Env) (ct elt : PySem.Expr) (x : Str) (scope : Scope) (cl : List (Str × Addr)) (s : Shared) (Fin : List Value → List (Addr × Obj) → Prop) (xv : Value) (s₁ : Shared) : Prop :=
  ∃ ax its news h tk, xv = .ref ax ∧ s₁ = { s with heap := h, toks := tk } ∧ Fr h₀ L h m ∧ News h₀ L h news ∧ ListAt news ax its ∧ its.length ≤ sizeLine ∧
    ∃ J : Nat → List Value → Prop, J 0 [] ∧
      (∀ i v ys I oI C oC D m₂ h tk (E' : Value → Shared → Prop), its[i]? = some v → J i ys → NsObj oC m₂ → m₂ x = some v → Fr h₀ L h m → News h₀ L h ((I, oI) :: (C, oC) :: (D, lst ys) :: news) →
        wpAny (model prog w) A (isTrue ct (compEnvC scope cl C env) (eval ct (compEnvC scope cl C env))) (TestEnd prog w A (fun g => g = h₀) L m elt (compEnvC scope cl C env) E' { s with heap := h, toks := tk } ((I, oI) :: (C, oC) :: (D, lst ys) :: news) (fun y => J (i + 1) (ys ++ [y])) (J (i + 1) ys)) E' { s with heap := h, toks := tk }) ∧
      (∀ ys, J its.length ys → Fin ys news)
theorem TestEnd.up {G G' : Heap → Prop} {env' : Env} {E' : Value → Shared → Prop} {s₁ : Shared} {news : List (Addr × Obj)} {Jy : Value → Prop} {Jn : Prop} {ok : Bool} {s' : Shared} (k : ∀ g, G g → G' g)
    (h : TestEnd prog w A G L m elt env' E' s₁ news Jy Jn ok s') : TestEnd prog w A G' L m elt env' E' s₁ news Jy Jn ok s' := by
  unfold TestEnd at h ⊢
  cases ok with
  | true => rw [if_pos rfl] at h ⊢; exact wpAny_mono h (fun _ _ q => q.up k) fun _ _ e => e
  | false => rw [if_neg (fun e => nomatch e)] at h ⊢; exact h.up k
theorem iterUp {s : Shared} {Fin : List Value → List (Addr × Obj) → Prop} {Fin' : List Value → Heap → List (Addr × Obj) → Prop} (X : (hd.heap_39 w.params).In h₀) (T : Top p loose mean mg mb h₀)
    (hf : ∀ ys g news, KtsTurn [] h₀ g → Fin ys news → Fin' ys g news) {xv : Value} {s₁ : Shared} (h : IterP prog w h₀ A L m env ct elt x scope cl s Fin xv s₁) :
    IterL (Gd w p loose mean mg mb callerA h₀ [] h₀) L m s (fun ax its news s₁ => EltsT prog w p loose mean mg mb callerA h₀ [] h₀ A L m env ct elt x scope cl s Fin' its news) xv s₁ := by
  obtain ⟨ax, its, news, h, tk, rfl, rfl, F, N, ⟨o, hm, hc, hd⟩, hz, J, hJ, turn, done⟩ := h
  refine ⟨ax, its, news, h₀, h, tk, o, rfl, rfl, gd0 X T, F, N, hm, hc, hd, hz, J, hJ, fun i v ys g I oI C oC D m₂ h tk E' hv hJi hg hC hx F N => ?_, fun ys g hJ' hg => hf ys g news hg.turn (done ys hJ')⟩
  exact wpAny_mono (turn i v ys I oI C oC D m₂ h tk E' hv hJi hC hx (kt_fr hg.turn F) (kt_news hg.turn N)) (fun ok s' h' => TestEnd.up (G := fun g => g = h₀) (fun g (e : g = h₀) => (by subst e; exact gd0 X T)) h') fun _ _ e => e
theorem evalCompP {s : Shared} {px pos : Pos} {iter : PySem.Expr} {Q : Value → Shared → Prop} (X : (hd.heap_39 w.params).In h₀) (T : Top p loose mean mg mb h₀) (F : Fr h₀ L s.heap m) (hh : A.handled = none)
    (hclos : closureFor scope env = pure cl) (hcell : ∀ y ∈ scope.names, y.2 ≠ .cell) (hkind : scope.kind = .function)
    (hnames : ∀ y ∈ scope.names, y.2 = .local → scope.names.lookup y.1 = some .local) (hx : scope.names.lookup x = some .local)
    (h : wpAny (model prog w) A (eval iter env) (IterP prog w h₀ A L m env ct elt x scope cl s (fun ys news => ∀ D h tk, Fr h₀ L h m → News h₀ L h ((D, lst ys) :: news) → Q (.ref D) { s with heap := h, toks := tk })) E s)
    (hs : ∀ x, foldedSetIterable iter env x = pure x := by intro _; rfl) :
    wpAny (model prog w) A (eval (.ListComp elt [⟨.Name x px, iter, [ct], 0⟩] scope pos) env) Q E s :=
  evalCompT (gd0 X T) F hh hclos hcell hkind hnames hx (wpAny_mono h (fun _ _ h₁ => iterUp X T (fun ys g news ht hf D h tk F N => hf D h tk (kt_fr ht F) (kt_news ht N)) h₁) fun _ _ e => e) hs
theorem assignCompP {s : Shared} {y : Str} {px py pos spos : Pos} {iter : PySem.Expr} {Q : Flow → Shared → Prop} (X : (hd.heap_39 w.params).In h₀) (T : Top p loose mean mg mb h₀) (F : Fr h₀ L s.heap m) (hLe : env.locals = L) (hh : A.handled = none)
    (hsw : swapsWith (.ListComp elt [⟨.Name x px, iter, [ct], 0⟩] scope pos) (some (.Name y py)) spos.line env = pure true)
    (hclos : closureFor scope env = pure cl) (hcell : ∀ y ∈ scope.names, y.2 ≠ .cell) (hkind : scope.kind = .function)
    (hnames : ∀ y ∈ scope.names, y.2 = .local → scope.names.lookup y.1 = some .local) (hx : scope.names.lookup x = some .local)
    (hy : env.kindOf y = some .local) (hp : (env.scope.kind == .class || (env.scope.kind == .module && env.locals != env.globals)) = false)
    (h : wpAny (model prog w) A (eval iter env) (IterP prog w h₀ A L m env ct elt x scope cl s (fun ys news => ∀ D h tk, Fr h₀ L h (fun z => if z = y then some (.ref D) else m z) → News h₀ L h ((D, lst ys) :: news) → Q .next { s with heap := h, toks := tk })) E s)
    (hs : ∀ x, foldedSetIterable iter env x = pure x := by intro _; rfl) :
    wpAny (model prog w) A (exec (.Assign [.Name y py] (.ListComp elt [⟨.Name x px, iter, [ct], 0⟩] scope pos) spos) env) Q E s :=
  assignCompT (gd0 X T) F hLe hh hsw hclos hcell hkind hnames hx hy hp (wpAny_mono h (fun _ _ h₁ => iterUp X T (fun ys g news ht hf D h tk F N => hf D h tk (kt_fr ht F) (kt_news ht N)) h₁) fun _ _ e => e) hs
end
end Mine
end
section
open PySem PySem.W PySem.Spec PySem.Calls PyProof.Rows PyProof.Rows.LCg
set_option maxRecDepth 100000
namespace Mine
/-! loops over a range -/
section
variable {prog : Program} {w : World} {p : Program} {loose : List Str} {mean : ExcName → Option Value} {mg mb : Str → Option Value} {A₀ : Around} {base g₀ : Heap} {outer : List Env} {A : Around} {E : Value → Shared → Prop} {m : Str → Option Value} {env : Env}
theorem forCoreR {s₁ : Shared} {target : PySem.Expr} {body : List Stmt} {Q : Flow → Shared → Prop} {g : Heap} {news : List (Addr × Obj)} {oIt : Obj} {n : Nat} {P : Nat → Value → Prop} {St : Nat → Heap → Prop}
    (hg : Gd w p loose mean mg mb A₀ base outer g₀ g) (F₁ : Fr g env.locals s₁.heap m) (N₁ : News g env.locals s₁.heap news)
    (W : Walks prog w A s₁.heap.objs.size [s₁.heap.objs.size] [s₁.heap.objs.size] n P St) (hst : St 0 (s₁.heap.push oIt)) (hIt : ∀ i h, St i h → ∃ oI, h.get? s₁.heap.objs.size = some oI ∧ iterish oI = true)
    (hgo : ∀ i v (s : Shared) (Q : Unit → Shared → Prop) (E : Value → Shared → Prop), St i s.heap → Q () s → wpAny (model prog w) A (letOwnedTupleGo target (.ref s₁.heap.objs.size) v) Q E s)
    (J : Nat → (Str → Option Value) → List (Addr × Obj) → Prop) (hJm : ∀ i m l l', J i m l → KeepsJ s₁.heap.objs.size l l' → J i m l') (hJ : J 0 m news)
    (turn : ∀ i v g I oI m₁ news₁ h tk, P i v → Gd w p loose mean mg mb A₀ base outer g₀ g → iterish oI = true → (I, oI) ∈ news₁ → J i m₁ news₁ → Fr g env.locals h m₁ → News g env.locals h news₁ →
        wpAny (model prog w) A (assign target env v) (fun _ s₃ => wpAny (model prog w) A (execs body env) (TurnEnd (Gd w p loose mean mg mb A₀ base outer g₀) env.locals { s₁ with heap := h, toks := tk } [(I, oI)] (J (i + 1)) Q) E s₃) E { s₁ with heap := h, toks := tk })
    (done : ∀ g m₁ news₁ h tk, Gd w p loose mean mg mb A₀ base outer g₀ g → J n m₁ news₁ → Fr g env.locals h m₁ → News g env.locals h news₁ → Q .next { s₁ with heap := h, toks := tk }) :
    TurnsAt prog w A (hideAll g₀ (outer.filterMap (·.frame))) env target body Q E (.ref s₁.heap.objs.size) { s₁ with heap := s₁.heap.push oIt } := by
  have hL : env.locals < s₁.heap.objs.size := F₁.ns.lt
  have up : ∀ b o, s₁.heap.get? b = some o → (s₁.heap.push oIt).get? b = some o := fun b o e => Heap.get?_push_of_some _ e
  let fs := outer.filterMap (·.frame)
  let JL : Nat → (Str → Option Value) → List (Addr × Obj) → Prop := fun i m n => ∃ g news₁, n = frObjs fs g ++ news₁ ∧ Gd w p loose mean mg mb A₀ base outer g₀ g ∧ J i m news₁ ∧ ∀ q ∈ news₁, q.1 ∉ fs
  have Fd := frDown F₁ hg.turn
  have Nd := newsDown F₁ N₁ hg.turn
  refine ⟨_, _, _, _, _, _, _, m, frObjs fs g ++ news, JL, rfl, KTurns.ofWalks W hgo, fun hI => ?_, fun b hb => ?_, fun q hq hI => ?_, hst, Fd.keeps up, Nd.grown up, ⟨g, news, rfl, hg, hJ, news_off hg.dicts N₁⟩, ?_, ?_⟩
  · exact absurd hL (List.mem_singleton.mp hI ▸ Nat.lt_irrefl _)
  · rw [List.mem_singleton.mp hb]; exact next_is_new Fd
  · exact absurd (Heap.lt_size (Nd q hq).1) (List.mem_singleton.mp hI ▸ Nat.lt_irrefl _)
  · rintro i v m₁ nn h₁ tk₁ own hi hP ⟨g₁, news₁, rfl, hg₁, hJ₁, hn₁⟩ hoff hown hget hall st₁ F₂ N₂
    obtain ⟨oI, hoI, hnt⟩ := hIt _ _ st₁
    have hI₀ : (hideAll g₀ fs).get? s₁.heap.objs.size = none := next_is_new Fd
    have hIown : (s₁.heap.objs.size, oI) ∈ own := hall _ (List.mem_cons_self ..) hI₀ _ hoI
    have hIfs : s₁.heap.objs.size ∉ fs := frameOff hg₁.dicts KtsTurn.refl fun q hq e => hoff q (List.mem_append_left _ hq) (List.mem_singleton.mpr e)
    have F₃ : Fr g₁ env.locals h₁ m₁ := frUp F₂ hg₁.turn fun q hq => (N₂ q (List.mem_append_right _ (List.mem_append_left _ hq))).1
    have N₃ : News g₁ env.locals h₁ ((s₁.heap.objs.size, oI) :: news₁) := newsUp (fun q hq => N₂ q (by
      rcases List.mem_cons.mp hq with rfl | hq
      · exact List.mem_append_left _ hIown
      · exact List.mem_append_right _ (List.mem_append_right _ hq))) hg₁.turn fun q hq => by
      rcases List.mem_cons.mp hq with rfl | hq
      · exact hIfs
      · exact hn₁ q hq
    refine wpAny_mono (turn i v g₁ s₁.heap.objs.size oI m₁ _ h₁ tk₁ hP hg₁ hnt (.head _) (hJm _ _ _ _ hJ₁ (Sub.refl.cons).j) F₃ N₃) (fun _ s₂ h₂ => wpAny_mono h₂ (fun f s₃ h₃ => ?_) fun _ _ e => e) fun _ _ e => e
    have fin : (∃ g h' tk m' all, s₃ = { s₁ with heap := h', toks := tk } ∧ Gd w p loose mean mg mb A₀ base outer g₀ g ∧ Fr g env.locals h' m' ∧ News g env.locals h' all ∧ (∀ p ∈ [(s₁.heap.objs.size, oI)], p ∈ all) ∧ J (i + 1) m' all) →
        LoopStepU (hideAll g₀ fs) env.locals [s₁.heap.objs.size] own (JL (i + 1)) { s₁ with heap := h₁, toks := tk₁ } .next s₃ := by
      rintro ⟨g', h', tk, m', all, rfl, hg', F', N', hk, hJ'⟩
      have hI' := hk _ (List.mem_cons_self ..)
      have hKp : KeepsJ s₁.heap.objs.size all (filt s₁.heap.objs.size all) := fun q hq hqn => filt_mem hq fun e => by
        rcases hqn with hqn | hqn
        case inr => exact hqn e
        have h1 := (N' _ hI').1
        have h2 := (N' _ hq).1
        rw [e, h1] at h2
        rw [← Option.some.inj h2, hnt] at hqn; cases hqn
      have hNf : News g' env.locals h' (filt s₁.heap.objs.size all) := fun q hq => N' q (List.mem_filter.mp hq).1
      have Nn := newsDown F' hNf hg'.turn
      refine ⟨rfl, h', tk, m', frObjs fs g' ++ filt s₁.heap.objs.size all, rfl, frDown F' hg'.turn, fun q hq => ?_, fun q hq hqI => ?_, g', _, rfl, hg', hJm _ _ _ _ hJ' hKp, news_off hg'.dicts hNf⟩
      · rcases List.mem_append.mp hq with hq | hq
        · have q2 := hget q hq
          refine ⟨?_, (N₂ q (List.mem_append_left _ hq)).2⟩
          have e := List.mem_singleton.mp (hown q hq)
          rw [e, hoI] at q2
          rw [e, ← q2]; exact (N' _ hI').1
        · exact Nn q hq
      · have hqI' := List.mem_singleton.mp hqI
        rcases List.mem_append.mp hq with hq | hq
        · exact hIfs (hqI' ▸ (frObjs_mem hq).1)
        · exact filt_ne q hq hqI'
    cases f with
    | ret v => exact .ret h₃
    | brk => exact .brk h₃
    | next => exact .next (fin h₃)
    | cont => exact .cont (fin h₃)
  · rintro h' tk m' nn F' N' _ ⟨g₁, news₁, rfl, hg₁, hJ₁, hn₁⟩
    exact done g₁ m' news₁ h' tk hg₁ hJ₁ (frUp F' hg₁.turn fun q hq => (N' q (List.mem_append_left _ hq)).1) (newsUp (fun q hq => N' q (List.mem_append_right _ hq)) hg₁.turn hn₁)
/-- the turns of a loop over a range, by an invariant -/
def TurnsR (prog : Program) (w : World) (p : Program) (loose : List Str) (mean : ExcName → Option Value) (mg mb : Str → Option Value) (A₀ : Around) (base : Heap) (outer : List Env) (g₀ : Heap) (A : Around) (env : Env) (target : PySem.Expr) (body : List Stmt) (Q : Flow → Shared → Prop) (E : Value → Shared → Prop) (xv : Value) (s : Shared) : Prop :=
  ∃ r a b t u v n news g m, xv = .ref r ∧ A.handled = none ∧ Gd w p loose mean mg mb A₀ base outer g₀ g ∧ Fr g env.locals s.heap m ∧ News g env.locals s.heap news ∧ IsRange s.heap r a b 1 t u v ∧ Builtin.Range.small a b 1 = true ∧ Builtin.Range.rangeSize a b 1 = ((n : Nat) : Int) ∧
    ∃ J : Nat → (Str → Option Value) → List (Addr × Obj) → Prop, (∀ i m l l', J i m l → KeepsJ s.heap.objs.size l l' → J i m l') ∧ J 0 m news ∧
      (∀ i t g I oI m₁ news₁ h tk, i < n → Gd w p loose mean mg mb A₀ base outer g₀ g → iterish oI = true → (I, oI) ∈ news₁ → J i m₁ news₁ → Fr g env.locals h m₁ → News g env.locals h news₁ →
        wpAny (model prog w) A (assign target env (.int (a + (i : Int)) t)) (fun _ s₃ => wpAny (model prog w) A (execs body env) (TurnEnd (Gd w p loose mean mg mb A₀ base outer g₀) env.locals { s with heap := h, toks := tk } [(I, oI)] (J (i + 1)) Q) E s₃) E { s with heap := h, toks := tk }) ∧
      (∀ g m₁ news₁ h tk, Gd w p loose mean mg mb A₀ base outer g₀ g → J n m₁ news₁ → Fr g env.locals h m₁ → News g env.locals h news₁ → Q .next { s with heap := h, toks := tk })
theorem forR {s : Shared} {x : Str} {px : Pos} {iter : PySem.Expr} {body : List Stmt} {pos : Pos} {Q : Flow → Shared → Prop} {h₀ : Heap} (hG : Gd w p loose mean mg mb A₀ base outer g₀ h₀) (F : Fr h₀ env.locals s.heap m)
    (h : wpAny (model prog w) A (eval iter env) (TurnsR prog w p loose mean mg mb A₀ base outer g₀ A env (.Name x px) body Q E) E s)
    (hs : ∀ x, foldedSetIterable iter env x = pure x := by intro _; rfl)
    (hE : PassesOwn (model prog w) A env E := by passes_own) :
    wpAny (model prog w) A (exec (.For (.Name x px) iter body [] pos) env) Q E s := by
  refine For_turns (frDown F hG.turn) (wpAny_mono h (fun xv s₁ h₁ => ?_) fun _ _ e => e) hs hE
  obtain ⟨r, a, b, t, u, v, n, news, g, m, rfl, hh, hg, F₁, N₁, hr, hsm, hn, J, hJm, hJ, turn, done⟩ := h₁
  refine wpAny_pyIter_range hr hsm ?_
  have W := range_walks (prog := prog) (w := w) (I := s₁.heap.objs.size) hh a n
  refine forCoreR hg F₁ N₁ (W.bound) (by show IsRangeIter _ _ _ _ _; rw [hn]; simpa using Heap.get?_push_size _ rfl) (fun i h st => ⟨_, st, rfl⟩) (fun i v s Q E st q => wpAny_pure q) J hJm hJ (fun i v g I oI m₁ news₁ h tk hP => ?_) done
  obtain ⟨hi, t', rfl⟩ := hP
  exact turn i t' g I oI m₁ news₁ h tk hi
end
end Mine
end
section
open PySem PySem.W PySem.Spec PySem.Calls PyProof.Rows
set_option maxRecDepth 100000
namespace Mine
/-! an exception of the text's own, caught in a frame some of whose names are cells -/
section
variable {prog : Program} {w : World} {A₀ : Around} {E : Value → Shared → Prop} {s' : Shared} {base g g₀ G : Heap} {outer : List Env} {L a e t C : Addr} {m : Str → Option Value} {name : Str} {scope : Scope} {cd : Value} {cl : List (Str × Addr)}
  {vs : List Value} {b₀ : Stmt} {suite : List Stmt} {pos np : Pos} {rest : List ExceptHandler} {Q : Flow → Shared → Prop} {news : List (Addr × Obj)} {KF : Frag}
  {p : Program} {loose : List Str} {mean : ExcName → Option Value} {mg mb : Str → Option Value} {x : Str}
/-- the grounds behind a raise that went through the callers -/
def Landed (w : World) (p : Program) (loose : List Str) (mean : ExcName → Option Value) (mg mb : Str → Option Value) (KF : Frag) (A₀ : Around) (base : Heap) (outer : List Env) (g₀ : Heap) (L : Addr) (m : Str → Option Value) (news : List (Addr × Obj)) (h : Heap) : Prop :=
  ∃ g', KtsTurn (outer.filterMap (·.frame)) g₀ g' ∧ Fr g' L h m ∧ News g' L h news ∧ Below A₀ base outer g' ∧ KF.In g' ∧ Top p loose mean mg mb g' ∧ KtsDicts (outer.filterMap (·.frame)) g'
theorem landed {B h : Heap} (w : World) (hBG : ∀ b o, G.get? b = some o → b ∉ (envX name scope L a cd cl :: outer).filterMap (·.frame) → B.get? b = some o) (hl : ∀ q ∈ news, B.get? q.1 = some q.2 ∧ G.get? q.1 = none ∧ base.get? q.1 = none) (hL : B.get? L = none)
    (F : Fr g L G m) (K : Below A₀ base outer g) (XB : KF.In base) (TB : Top p loose mean mg mb base) (D : KtsDicts (outer.filterMap (·.frame)) g) (T0 : KtsTurn (outer.filterMap (·.frame)) g₀ g) (hst : B.StaysIn h) (hsm : G.UpToSlots h) :
    Landed w p loose mean mg mb KF A₀ base outer g₀ L m news h := by
  obtain ⟨g', T, F', K'⟩ := kts_ground (name := name) (scope := scope) (a := a) (cd := cd) K F hBG hst hsm
  exact ⟨g', T0.trans T, F', fun q hq => ⟨hst _ _ (hl q hq).1, (fun z => by have := (hl q hq).1; rw [z, hL] at this; cases this), T.none_ _ (kts_none F.keep (hl q hq).2.1)⟩, K', XB.keeps K'.stays, TB.keeps K'.stays, D.turn T⟩
theorem caughtX (R : RaisedS base G (envX name scope L a cd cl :: outer) e (.ref C) t vs news s'.heap) (F : Fr g L G m) (K : Below A₀ base outer g) (hsm : G.UpToSlots s'.heap) (XB : KF.In base) (TB : Top p loose mean mg mb base)
    (D : KtsDicts (outer.filterMap (·.frame)) g) (T0 : KtsTurn (outer.filterMap (·.frame)) g₀ g)
    (ex : nsIn KF mainGlobals x = some (some (.ref C))) (q : ktsIn KF C "BaseException" = true)
    (k : ∀ h', Landed w p loose mean mg mb KF A₀ base outer g₀ L m news h' → wpAny (model prog w) ((A₀.deeper (envX name scope L a cd cl)).mark (some (.ref e))) (execs (b₀ :: suite) (envX name scope L a cd cl)) Q E { s' with heap := h' })
    (hk : scope.kind = .function := by rfl) (hx : (envX name scope L a cd cl).kindOf x = some .globalImplicit := by rfl) (hd : (x == ("__debug__" : Str)) = false := by decide)
    (hE : PassesOwnAt (model prog w) ((A₀.deeper (envX name scope L a cd cl)).mark (some (.ref e))) (A₀.deeper (envX name scope L a cd cl)) (envX name scope L a cd cl) E := by passes_own) :
    wpAny (model prog w) (A₀.deeper (envX name scope L a cd cl)) (noteFrame (.ref e) (envX name scope L a cd cl))
      (fun _ s₂ => wpAny (model prog w) (A₀.deeper (envX name scope L a cd cl)) (setFlight (.ref e) none) (fun _ s₃ =>
        wpAny (model prog w) (A₀.deeper (envX name scope L a cd cl)) (handleBy (.ref e) (envX name scope L a cd cl) (.ExceptHandler (some (.Name x np)) none (b₀ :: suite) pos :: rest)) Q E s₃) E s₂) E s' := by
  obtain ⟨⟨B, _, hBG, hl, fly, _⟩, _⟩ := R
  have hL : B.get? L = none := by
    obtain ⟨_, ⟨L', _, hf, hn, _⟩, _⟩ := fly.2.2.1
    rw [show L = L' from Option.some.inj hf]; exact hn
  refine wpAny_looks_onW (Around.frames_deeper K.stack) rfl fly fun h1 held1 u1 => wpAny_landsW held1 fun h2 fly2 u2 => ?_
  have up2 := hsm.trans (u1.trans u2)
  obtain ⟨g2, _, F2, _, _, X2, T2, _⟩ := landed (KF := KF) w hBG hl hL F K XB TB D T0 fly2.1 up2
  obtain ⟨oe, hoe, hoc⟩ := fly2.there
  obtain ⟨nm, qn, N, bs, bm, hdct, sn, sub, ab, col, dd, k0, k1, k2, k3, k5, newId, hC, hbase, _⟩ := kts_cls X2 q
  refine wpAny_handleBy_cons (codeAny_handlers_test (nameX_K F2 X2 (topRead_of T2) ex ?_ hk hx hd)) (by intro q; cases q)
  refine wpAny_excMatches_sub_self (F2.keep _ _ hC) hoe hoc hbase (codeAny_handlers_suite (lands_againW fly2 fun h3 fly3 u3 => ?_))
  exact wpAny_passesOwnAt hE (k h3 (landed w hBG hl hL F K XB TB D T0 fly3.1 (up2.trans u3)))
end
section
variable {prog : Program} {w : World} {A : Around} {E : Value → Shared → Prop} {s : Shared} {h₀ : Heap} {L : Addr} {m : Str → Option Value} {news : List (Addr × Obj)}
/-- dict(d) -/
theorem la_dict {kvs : List (Str × Value)} {d : Addr} {Q : Value → Shared → Prop} (F : Fr h₀ L s.heap m) (N : News h₀ L s.heap news) (hbig : h₀.NoLimit) (D : DictAt prog w news d kvs) (hz : kvs.length ≤ 1000)
    (h : ∀ B h' o, Fr h₀ L h' m → News h₀ L h' ((B, o) :: news) → (∀ q ∈ news, q.1 < B) → DictAt prog w ((B, o) :: news) B kvs → Q (.ref B) { s with heap := h' }) :
    wpAny (model prog w) A (call (.type "dict") [.ref d]) Q E s := by
  refine kt_call_dict (knd := PySem.strKind prog w) D.choose_spec.2.2 (D.of N) (by rw [sizeLine_eq]; omega) fun h' hm hs => ?_
  obtain ⟨o', ho', hd'⟩ := Heap.dictOf_iff.mp hm
  have N1 := News.push F N { cls := .type "dict", data := .dict #[] }
  exact h _ h' o' ((F.push _).change hs (N1 _ (.head _)).2.1 (N1.fresh (.head _))) (N1.setHead N.apart hs ho') (fun q hq => Heap.lt_size (N q hq).1) ⟨o', .head _, hd', F.notModules (modules_low hbig)⟩
/-- all(list of bools) -/
theorem la_all {l : Addr} {vs : List Value} {bs : List Bool} {Q : Value → Shared → Prop} (F : Fr h₀ L s.heap m) (N : News h₀ L s.heap news) (hh : A.handled = none) (D : ListAt news l vs) (hb : LSm.BoolsAre vs bs)
    (h : ∀ h' tk, Fr h₀ L h' m → News h₀ L h' news → Q (.bool (bs.all id)) { s with heap := h', toks := tk }) : wpAny (model prog w) A (call (.builtin "all") [.ref l]) Q E s :=
  LSm.all_bools F N hh (D.isList N) hb h
/-- two lists joined -/
theorem la_add {l b : Addr} {vs ws : List Value} {Q : Value → Shared → Prop} (F : Fr h₀ L s.heap m) (N : News h₀ L s.heap news) (D : ListAt news l vs) (D' : ListAt news b ws) (hz : vs.length + ws.length ≤ 1000)
    (h : ∀ B h', Fr h₀ L h' m → News h₀ L h' ((B, listOf (vs ++ ws).toArray 0) :: news) → (∀ q ∈ news, q.1 < B) → Q (.ref B) { s with heap := h' }) :
    wpAny (model prog w) A (binaryOp .Add (.ref l) (.ref b)) Q E s :=
  add_lists F N (D.isList N) (D'.isList N) (fun h' F' N' => h _ h' F' N' fun q hq => Heap.lt_size (N q hq).1) (by rw [sizeLine_eq]; omega)
/-- l[:k] -/
theorem la_upto {value slice : PySem.Expr} {l : Addr} {vs : List Value} {k : Nat} {t : Tok} {Q : Value → Shared → Prop} (F : Fr h₀ L s.heap m) (N : News h₀ L s.heap news) (D : ListAt news l vs) (hz : vs.length ≤ 1000)
    (h : ∀ B h', Fr h₀ L h' m → News h₀ L h' ((B, listOf (vs.take k).toArray 0) :: news) → (∀ p ∈ news, p.1 < B) → Q (.ref B) { s with heap := h' })
    (hs : subscripted slice false (.ref l) (.ref s.heap.objs.size) = operate [.ref s.heap.objs.size, .ref l] (getItem (.ref l) (.ref s.heap.objs.size))) (ht : ∀ r, letTemporaryGo value (.ref l) r = pure ()) :
    wpAny (model prog w) A (subscriptTail value slice (.ref l) (.ref s.heap.objs.size)) Q E { s with heap := s.heap.push { cls := .type "slice", data := .fields #[.none, .int (k : Int) t, .none] } } := by
  refine kmk_slice F N (D.isList N) .none (IsPart.int _ _) (fun B h' F' N' l1 => h B h' F' ?_ l1) hs ht (by rw [List.size_toArray, sizeLine_eq]; omega)
  rw [slicePick_upto', List.toList_toArray] at N'
  exact N'
/-- l[k:] -/
theorem la_from {value slice : PySem.Expr} {l : Addr} {vs : List Value} {k : Nat} {t : Tok} {Q : Value → Shared → Prop} (F : Fr h₀ L s.heap m) (N : News h₀ L s.heap news) (D : ListAt news l vs) (hz : vs.length ≤ 1000)
    (h : ∀ B h', Fr h₀ L h' m → News h₀ L h' ((B, listOf (vs.drop k).toArray 0) :: news) → (∀ p ∈ news, p.1 < B) → Q (.ref B) { s with heap := h' })
    (hs : subscripted slice false (.ref l) (.ref s.heap.objs.size) = operate [.ref s.heap.objs.size, .ref l] (getItem (.ref l) (.ref s.heap.objs.size))) (ht : ∀ r, letTemporaryGo value (.ref l) r = pure ()) :
    wpAny (model prog w) A (subscriptTail value slice (.ref l) (.ref s.heap.objs.size)) Q E { s with heap := s.heap.push { cls := .type "slice", data := .fields #[.int (k : Int) t, .none, .none] } } := by
  refine kmk_slice F N (D.isList N) (IsPart.int _ _) .none (fun B h' F' N' l1 => h B h' F' ?_ l1) hs ht (by rw [List.size_toArray, sizeLine_eq]; omega)
  rw [slicePick_from', List.toList_toArray] at N'
  exact N'
/-- an item of a tuple -/
theorem ta_item {value slice : PySem.Expr} {T : Addr} {vs : List Value} {k : Int} {j : Nat} {u : Tok} {v : Value} {Q : Value → Shared → Prop} (N : News h₀ L s.heap news) (D : TupAt news T vs) (h0 : -(2 ^ 63) ≤ k) (hhi : k < 2 ^ 63) (hj : seqIndex? k vs.length = some j) (hx : vs[j]? = some v) (h : Q v s)
    (hs : subscripted slice false (.ref T) (.int k u) = operate [.ref T, .int k u] (getItem (.ref T) (.int k u)) := by with_unfolding_all rfl) :
    wpAny (model prog w) A (subscriptTail value slice (.ref T) (.int k u)) Q E s := item_tupleT (D.isTup N) h0 hhi hj hx h hs
end
end Mine
end
open PySem PySem.W PySem.Spec PySem.Calls PyProof.Rows
set_option maxRecDepth 100000
namespace Mine
local macro_rules | `(tactic| k_mem) => `(tactic| (show (_ : Addr × Obj) ∈ (_ : List (Addr × Obj)); first
  | ktr_member
  | (refine' Keeps.get (by with_reducible assumption) ?km ?kt; (case km => k_mem); (case kt => first | rfl | assumption))
  | (refine' KeepsA.get (by with_reducible assumption) ?km ?kt; (case km => k_mem); (case kt => first | exact attrish_inst | exact attrish_d | exact attrish_name | exact attrish_variable | exact attrish_function))
  | (refine Sub.get (by with_reducible assumption) ?_; k_mem)))
local macro_rules | `(tactic| ktr_rel) => `(tactic| first
  | with_reducible assumption
  | exact Keeps.refl
  | exact Sub.refl
  | (refine Keeps.cons ?_; ktr_rel)
  | (refine Sub.cons ?_; ktr_rel)
  | (refine Keeps.trans ?_ (Sub.keeps (by with_reducible assumption)); ktr_rel)
  | (refine Keeps.trans ?_ (by with_reducible assumption); ktr_rel)
  | (refine Sub.trans ?_ (by with_reducible assumption); ktr_rel)
  | exact KeepsA.refl
  | (refine KeepsA.cons ?_; ktr_rel)
  | (refine KeepsA.trans ?_ (Sub.a (by with_reducible assumption)); ktr_rel)
  | (refine KeepsA.trans ?_ (Keeps.a (by with_reducible assumption)); ktr_rel)
  | (refine KeepsA.trans ?_ (by with_reducible assumption); ktr_rel)
  | (refine VarIn.monoA (by with_reducible assumption) ?_; ktr_rel)
  | (refine ExIn.monoA (by with_reducible assumption) ?_; ktr_rel)
  | (refine DictAt.mono (by with_reducible assumption) ?_; ktr_rel)
  | exact SubBut.refl
  | (refine SubBut.trans ?_ (by with_reducible assumption); ktr_rel)
  | (refine SubBut.of ?_; ktr_rel))
local macro_rules | `(tactic| walk_at "compareOp NotIn str ref") => `(tactic| (k_here; k_dflt (refine' d_notin ?N ?D ?e ?_; (case N => k_asm); (case D => ktr_rel); (case e => with_reducible assumption))))
local macro_rules | `(tactic| walk_at "compareOp In str ref") => `(tactic| (k_here; k_dflt (refine' d_in ?N ?D ?e ?_; (case N => k_asm); (case D => ktr_rel); (case e => with_reducible assumption))))
local macro_rules | `(tactic| walk_at "subscriptTail") => `(tactic| (k_here; (with_reducible show wpAny _ _ (subscriptTail _ _ (Value.ref _) (Value.str _ _)) _ _ _); k_dflt (refine' d_item ?N ?D ?e ?_; (case N => k_asm); (case D => ktr_rel); (case e => with_reducible assumption))))
local macro_rules | `(tactic| walk_at "setItem ref str") => `(tactic| (k_here; k_dflt (refine' d_set ?F ?N ?D ?z ?ko ?_; (case F => k_asm); (case N => k_asm); (case D => ktr_rel); (case z => assumption); (case ko => exact Rel2.keysOk (by assumption)); k_whole); intro h9 news9 F9 N9 S9 A9 D9))
local macro_rules | `(tactic| walk_at "ite") => `(tactic| (k_dflt (first
  | refine PySem.W.ite_pos (by exact rfl) ?_
  | refine PySem.W.ite_neg (by intro e; cases e; done) ?_
  | refine PySem.W.ite_pos (by with_reducible assumption) ?_
  | refine PySem.W.ite_neg (Bool.eq_false_iff.mp (by with_reducible assumption)) ?_
  | refine PySem.W.ite_pos ((any_isVar _).trans (by with_reducible assumption)) ?_
  | refine PySem.W.ite_neg (Bool.eq_false_iff.mp ((any_isVar _).trans (by with_reducible assumption))) ?_
  | refine PySem.W.ite_pos (beq_self_eq_true _) ?_
  | refine PySem.W.ite_neg (fun e => absurd (Nm.str_inj.mp (beq_iff_eq.mp e)) (by with_reducible assumption)) ?_)))
local macro_rules | `(tactic| k_room) => `(tactic| ktr_room)
local macro_rules | `(tactic| k_units) => `(tactic| ktr_units)
local macro_rules | `(tactic| walk_at "ite") => `(tactic| (k_closed; k_dflt (first | refine PySem.W.ite_pos (by decide +kernel) ?_ | refine PySem.W.ite_neg (by decide +kernel) ?_)))
local macro_rules | `(tactic| walk_at "callWith ref") => `(tactic| (k_here; k_dflt (first
  | (refine' callWith_K ?k1 ?k2 ?_; (case k1 => k_asm); (case k2 => k_is); k_whole)
  | (refine' callWith_F ?k1 ?_; (case k1 => exact FnAt.of (by k_asm) (by k_mem)); k_whole)
  | (refine' callWith_F0 ?k1 ?_; (case k1 => exact FnAt.of (by k_asm) (by k_mem)); k_whole; try dsimp only [List.nil_append, List.cons_append])
  | (refine' callWith_K0 ?k1 ?k2 ?_; (case k1 => k_in); (case k2 => k_is); k_whole)
  | (refine' callWith_M0 ?k1 ?k2 ?_; (case k1 => k_meth); (case k2 => k_is); k_whole; try dsimp only [List.nil_append, List.cons_append])
  | (refine' callWith_M ?k1 ?k2 ?k3 ?k4 ?_; (case k1 => k_asm); (case k2 => k_asm); (case k3 => k_mem); (case k4 => k_is); k_whole))))
local macro_rules | `(tactic| walk_at "subscriptTail Attribute") => `(tactic| (k_here; k_dflt (refine kba_turn (value' := PySem.Expr.Name (PySem.Str.ofString "_") ⟨0, 0, 0, 0⟩) (fun _ => rfl) ?_)))
local macro_rules | `(tactic| walk_at "eval Name") => `(tactic| (k_here; (fail_if_success (with_reducible show wpAny _ _ (eval (Expr.Name _ _) (compEnvC _ _ _ _)) _ _ _)); k_dflt (first
  | (refine' nameX_L ?F ?v ?_ ?a ?b; (case F => k_asm); (case a => rfl); (case b => rfl); (case v => rfl); k_whole)
  | (refine' nameX_K ?F ?X ?T ?e ?_ ?a ?b; (case F => k_asm); (case X => k_asm); (case T => k_asm); (case a => rfl); (case b => rfl); (case e => k_is); k_whole)
  | (refine' nameX_B ?F ?X ?T ?e ?v ?n ?_ ?a ?b; (case F => k_asm); (case X => k_asm); (case T => k_asm); (case a => rfl); (case b => rfl); (case e => k_is); (case v => boot_fast); (case n => decide); k_whole))))
local macro_rules | `(tactic| walk_at "getAttr ref") => `(tactic| (k_here; k_dflt (refine' get_own ?k1 ?k2 ?k3 ?k4 ?k5 ?k6 ?k7 ?k8 ?k9 ?_; (case k1 => k_asm); (case k2 => k_asm); (case k3 => k_inst); (case k4 => k_is); (case k5 => k_is); (case k6 => k_is); (case k7 => k_is); (case k8 => k_get); (case k9 => k_handed); k_whole)))
local macro_rules | `(tactic| walk_at "call builtin:isinstance") => `(tactic| (k_here; (with_reducible show wpAny _ _ (call _ [Value.ref _, Value.ref _]) _ _ _); k_dflt (refine' isi_call ?k1 ?k2 ?k3 ?k4 ?_; (case k1 => k_in); (case k2 => k_types); (case k3 => k_is); (case k4 => intro e; cases e); k_whole)))
section
theorem offC5 : True := by
  w_top off
  trivial
open PySem PySem.W PySem.Spec PySem.Calls PyProof.Rows
set_option maxRecDepth 100000
theorem fillK_C5 : (fun (_ : OpenLaw) => True) PySem.Challenge.rw_bj0039_01 ∧ hd.heap_39 = hd.heap_39 := by
  k_fill
  exact ⟨trivial, rfl⟩
section
variable {prog : Program} {w : World} {p : Program} {loose : List Str} {mean : ExcName → Option Value} {mg mb : Str → Option Value}
local macro_rules | `(tactic| walk_at "compareOp Eq ref ref") => `(tactic| (k_here; (refine cmp_ofEq ?_); k_dflt (refine' cmp_K ?k1 ?k2 ?k3 ?k4 ?k5 ?k6 ?k7 ?k8 ?_; (case k1 => k_units); (case k2 => k_asm); (case k3 => k_asm); (case k4 => k_inst); (case k5 => exact InstAt.type (by k_inst)); (case k6 => k_is); (case k7 => k_is); (case k8 => k_is); k_whole)))
local macro_rules | `(tactic| walk_at "call ref") => `(tactic| (k_here; (with_reducible show wpAny _ _ (call (Value.ref 950) _ _) _ _ _); k_dflt (refine' use (ind1 (by assumption)) ?k1 ?k2 ?k3 ?k4 ?k5 ?kK ?kd ?ku ?_; (case k1 => k_asm); (case k2 => k_asm); (case k3 => k_asm); (case k4 => k_asm); (case k5 => k_asm); (case kK => first | exact rfl | assumption); (case kd => ktr_room); (case ku => ktr_units)); (intro r9 news9 h9 tk9 F9 N9 P9; (obtain ⟨S9, e9⟩ := P9; subst e9); (try dsimp only); kts_tail)))
local macro_rules | `(tactic| walk_at "call ref") => `(tactic| (k_here; (with_reducible show wpAny _ _ (call (Value.ref 950) _ _) _ _ _); k_dflt (refine' use (ind0 (by assumption)) ?k1 ?k2 ?k3 ?k4 ?k5 ?kK ?kd ?ku ?_; (case k1 => k_asm); (case k2 => k_asm); (case k3 => k_asm); (case k4 => k_asm); (case k5 => k_asm); (case kK => first | exact rfl | assumption); (case kd => ktr_room); (case ku => ktr_units)); (intro r9 news9 h9 tk9 F9 N9 P9; (obtain ⟨S9, e9⟩ := P9; subst e9); (try dsimp only); kts_tail)))
local macro_rules | `(tactic| walk_at "call ref") => `(tactic| (k_here; (with_reducible show wpAny _ _ (call (Value.ref 957) _ _) _ _ _); k_dflt (refine' use (fun0 (by assumption)) ?k1 ?k2 ?k3 ?k4 ?k5 ?kK ?kd ?ku ?_; (case k1 => k_asm); (case k2 => k_asm); (case k3 => k_asm); (case k4 => k_asm); (case k5 => k_asm); (case kK => first | exact rfl | assumption); (case kd => ktr_room); (case ku => ktr_units)); (intro r9 news9 h9 tk9 F9 N9 P9; (obtain ⟨S9, e9⟩ := P9; subst e9); (try dsimp only); kts_tail)))
local macro_rules | `(tactic| walk_at "call ref") => `(tactic| (k_here; (with_reducible show wpAny _ _ (call (Value.ref 964) _ _) _ _ _); k_dflt (refine' use (ev0 (by assumption)) ?k1 ?k2 ?k3 ?k4 ?k5 ?kK ?kd ?ku ?_; (case k1 => k_asm); (case k2 => k_asm); (case k3 => k_asm); (case k4 => k_asm); (case k5 => k_asm); (case kK => first | exact rfl | assumption); (case kd => ktr_room); (case ku => ktr_units)); (intro r9 news9 h9 tk9 F9 N9 P9; (obtain ⟨S9, e9⟩ := P9; subst e9); (try dsimp only); kts_tail)))
set_option maxHeartbeats 4000000 in
theorem mkIV {n : Nm} (hn : n.cls = 511) {v : Addr} {news : List (Addr × Obj)} (hv : VarIn news v n) :
    Spec prog w p loose mean mg mb 511 [.ref v] 8 80 news (fun r news' => Sub news news' ∧ ∃ e, r = .ref e ∧ ExIn news' e (.nm n)) := by
  have hv0 := hv
  obtain ⟨dv, h1, t1, t2, hv1, hv2⟩ := hv0
  unfold Spec
  intro dp un gd cn cs a ccd cl outer A₀ base h₀ L m s Q E B F X N T hk hd hu hret
  k_dflt (refine' call_cls ?k1 ?k2 ?k3 ?k4 ?k5 ?k6 ?_; (case k1 => k_asm); (case k2 => k_asm); (case k3 => k_asm); (case k4 => k_is); (case k5 => k_is); (case k6 => k_is); k_whole; intro x' d' h' F' N' l1 l2; (try k_lt l1); (try k_lt2 l2); ktr_enter)
  k_steps
  first | done | exact hret _ _ _ _ (by k_asm) (by k_asm) ⟨Sub.cons (Sub.cons Sub.refl), _, rfl, .nm (by rw [hn]; k_mem) (by k_mem) (VarIn.mono hv (Sub.cons (Sub.cons Sub.refl)).keeps)⟩
set_option maxHeartbeats 4000000 in
theorem mkCE {n : Nm} (hn : n.cls = 575) {v : Addr} {news : List (Addr × Obj)} (hv : VarIn news v n) :
    Spec prog w p loose mean mg mb 575 [.ref v] 8 80 news (fun r news' => Sub news news' ∧ ∃ e, r = .ref e ∧ ExIn news' e (.nm n)) := by
  have hv0 := hv
  obtain ⟨dv, h1, t1, t2, hv1, hv2⟩ := hv0
  unfold Spec
  intro dp un gd cn cs a ccd cl outer A₀ base h₀ L m s Q E B F X N T hk hd hu hret
  k_dflt (refine' call_cls ?k1 ?k2 ?k3 ?k4 ?k5 ?k6 ?_; (case k1 => k_asm); (case k2 => k_asm); (case k3 => k_asm); (case k4 => k_is); (case k5 => k_is); (case k6 => k_is); k_whole; intro x' d' h' F' N' l1 l2; (try k_lt l1); (try k_lt2 l2); ktr_enter)
  k_steps
  first | done | exact hret _ _ _ _ (by k_asm) (by k_asm) ⟨Sub.cons (Sub.cons Sub.refl), _, rfl, .nm (by rw [hn]; k_mem) (by k_mem) (VarIn.mono hv (Sub.cons (Sub.cons Sub.refl)).keeps)⟩
local macro_rules | `(tactic| walk_at "call ref") => `(tactic| (k_here; (with_reducible show wpAny _ _ (call (Value.ref 511) _ _) _ _ _); k_dflt (refine' use (mkIV ?s1 ?s2) ?k1 ?k2 ?k3 ?k4 ?k5 ?kK ?kd ?ku ?_; (case k1 => k_asm); (case k2 => k_asm); (case k3 => k_asm); (case k4 => k_asm); (case k5 => k_asm); (case kK => first | exact rfl | assumption); (case kd => ktr_room); (case ku => ktr_units); (case s1 => assumption); (case s2 => ktr_rel)); (intro r9 news9 h9 tk9 F9 N9 P9; (obtain ⟨S9, v9, e9, H9⟩ := P9; subst e9); (try dsimp only); kts_tail)))
local macro_rules | `(tactic| walk_at "call ref") => `(tactic| (k_here; (with_reducible show wpAny _ _ (call (Value.ref 575) _ _) _ _ _); k_dflt (refine' use (mkCE ?s1 ?s2) ?k1 ?k2 ?k3 ?k4 ?k5 ?kK ?kd ?ku ?_; (case k1 => k_asm); (case k2 => k_asm); (case k3 => k_asm); (case k4 => k_asm); (case k5 => k_asm); (case kK => first | exact rfl | assumption); (case kd => ktr_room); (case ku => ktr_units); (case s1 => assumption); (case s2 => ktr_rel)); (intro r9 news9 h9 tk9 F9 N9 P9; (obtain ⟨S9, v9, e9, H9⟩ := P9; subst e9); (try dsimp only); kts_tail)))
set_option maxHeartbeats 4000000 in
theorem mkEx1 {n : Nm} (hn : n.cls = 511) {v : Addr} {news : List (Addr × Obj)} (hv : VarIn news v n) :
    Spec prog w p loose mean mg mb 584 [.ref v] 12 120 news (fun r news' => Sub news news' ∧ ∃ e, r = .ref e ∧ ExIn news' e (.nm n)) := by
  have hv0 := hv
  obtain ⟨dv, h1, t1, t2, hv1, hv2⟩ := hv0
  unfold Spec
  intro dp un gd cn cs a ccd cl outer A₀ base h₀ L m s Q E B F X N T hk hd hu hret
  refine wpAny_call ?_
  k_dflt ktr_enter
  k_steps
  exact hret _ _ _ _ (by k_asm) (by k_asm) ⟨by ktr_rel, _, rfl, by assumption⟩
set_option maxHeartbeats 4000000 in
theorem mkEx0 {n : Nm} (hn : n.cls = 575) {v : Addr} {news : List (Addr × Obj)} (hv : VarIn news v n) :
    Spec prog w p loose mean mg mb 584 [.ref v] 12 120 news (fun r news' => Sub news news' ∧ ∃ e, r = .ref e ∧ ExIn news' e (.nm n)) := by
  have hv0 := hv
  obtain ⟨dv, h1, t1, t2, hv1, hv2⟩ := hv0
  unfold Spec
  intro dp un gd cn cs a ccd cl outer A₀ base h₀ L m s Q E B F X N T hk hd hu hret
  refine wpAny_call ?_
  k_dflt ktr_enter
  k_steps
  exact hret _ _ _ _ (by k_asm) (by k_asm) ⟨by ktr_rel, _, rfl, by assumption⟩
theorem mkEx {n : Nm} {v : Addr} {news : List (Addr × Obj)} (hv : VarIn news v n) :
    Spec prog w p loose mean mg mb 584 [.ref v] 12 120 news (fun r news' => Sub news news' ∧ ∃ e, r = .ref e ∧ ExIn news' e (.nm n)) := by
  rcases n.cls_or with h | h
  · exact mkEx1 h hv
  · exact mkEx0 h hv
end
end
section
theorem offC6 : True := by
  w_top off
  trivial
open PySem PySem.W PySem.Spec PySem.Calls PyProof.Rows
set_option maxRecDepth 100000
section
variable {prog : Program} {w : World} {p : Program} {loose : List Str} {mean : ExcName → Option Value} {mg mb : Str → Option Value}
local macro_rules | `(tactic| walk_at "compareOp Eq ref ref") => `(tactic| (k_here; (refine cmp_ofEq ?_); k_dflt (refine' cmp_K ?k1 ?k2 ?k3 ?k4 ?k5 ?k6 ?k7 ?k8 ?_; (case k1 => k_units); (case k2 => k_asm); (case k3 => k_asm); (case k4 => k_inst); (case k5 => exact InstAt.type (by k_inst)); (case k6 => k_is); (case k7 => k_is); (case k8 => k_is); k_whole)))
set_option maxHeartbeats 4000000 in
theorem lk1 {n o : Nm} {k : Addr} {t t' : Tok} {news : List (Addr × Obj)} (hn : isVar n = true) {κ : List (Nm × Nm)} {kvs : List (Str × Value)} (D : DictAt prog w news k kvs) (R : Rel2 (Ent KVal) kvs κ) (hz : kvs.length ≤ sizeLine) (h1 : look κ n = none) :
    Spec prog w p loose mean mg mb 1062 [.ref k, .str n.str t, .str o.str t'] 8 80 news (fun r news' => SubBut k news news' ∧ ((∃ κ', keepF κ n o = some κ' ∧ KeptAt prog w news' k κ' ∧ r = .bool true) ∨ (keepF κ n o = none ∧ KeptAt prog w news' k κ ∧ r = .bool false))) := by
  have e1 := R.none h1
  unfold Spec
  intro dp un gd cn cs a ccd cl outer A₀ base h₀ L m s Q E B F X N T hk hd hu hret
  refine wpAny_call ?_
  k_dflt ktr_enter
  k_steps
  exact hret _ _ _ _ (by k_asm) (by k_asm) ⟨by ktr_rel, .inl ⟨_, by unfold keepF; rw [h1], ⟨_, by assumption, R.put_new h1 ⟨_, rfl⟩⟩, rfl⟩⟩
set_option maxHeartbeats 4000000 in
theorem lk2 {n o : Nm} {k : Addr} {t t' : Tok} {news : List (Addr × Obj)} (hn : isVar n = true) {κ : List (Nm × Nm)} {kvs : List (Str × Value)} (D : DictAt prog w news k kvs) (R : Rel2 (Ent KVal) kvs κ) (hz : kvs.length ≤ sizeLine) (h1 : look κ n = some o) :
    Spec prog w p loose mean mg mb 1062 [.ref k, .str n.str t, .str o.str t'] 8 80 news (fun r news' => SubBut k news news' ∧ ((∃ κ', keepF κ n o = some κ' ∧ KeptAt prog w news' k κ' ∧ r = .bool true) ∨ (keepF κ n o = none ∧ KeptAt prog w news' k κ ∧ r = .bool false))) := by
  obtain ⟨v1, e1, tv1, q1⟩ := R.some h1
  subst q1
  unfold Spec
  intro dp un gd cn cs a ccd cl outer A₀ base h₀ L m s Q E B F X N T hk hd hu hret
  refine wpAny_call ?_
  k_dflt ktr_enter
  k_steps
  exact hret _ _ _ _ (by k_asm) (by k_asm) ⟨by ktr_rel, .inl ⟨κ, by unfold keepF; simp only [h1, if_true], ⟨_, by assumption, R.put_old D.nodup h1 ⟨_, rfl⟩⟩, rfl⟩⟩
set_option maxHeartbeats 4000000 in
theorem lk3 {n o : Nm} {k : Addr} {t t' : Tok} {news : List (Addr × Obj)} (hn : isVar n = true) {κ : List (Nm × Nm)} {kvs : List (Str × Value)} (D : DictAt prog w news k kvs) (R : Rel2 (Ent KVal) kvs κ) (hz : kvs.length ≤ sizeLine) {o1 : Nm} (h1 : look κ n = some o1) (h2 : o1 ≠ o) (h3 : isVar o = false) :
    Spec prog w p loose mean mg mb 1062 [.ref k, .str n.str t, .str o.str t'] 8 80 news (fun r news' => SubBut k news news' ∧ ((∃ κ', keepF κ n o = some κ' ∧ KeptAt prog w news' k κ' ∧ r = .bool true) ∨ (keepF κ n o = none ∧ KeptAt prog w news' k κ ∧ r = .bool false))) := by
  obtain ⟨v1, e1, tv1, q1⟩ := R.some h1
  subst q1
  unfold Spec
  intro dp un gd cn cs a ccd cl outer A₀ base h₀ L m s Q E B F X N T hk hd hu hret
  refine wpAny_call ?_
  k_dflt ktr_enter
  k_steps
  exact hret _ _ _ _ (by k_asm) (by k_asm) ⟨by ktr_rel, .inr ⟨by unfold keepF; simp only [h1, h2, h3, if_false, Bool.false_eq_true], ⟨_, by ktr_rel, R⟩, rfl⟩⟩
set_option maxHeartbeats 4000000 in
theorem lk4 {n o : Nm} {k : Addr} {t t' : Tok} {news : List (Addr × Obj)} (hn : isVar n = true) {κ : List (Nm × Nm)} {kvs : List (Str × Value)} (D : DictAt prog w news k kvs) (R : Rel2 (Ent KVal) kvs κ) (hz : kvs.length ≤ sizeLine) {o1 : Nm} (h1 : look κ n = some o1) (h2 : o1 ≠ o) (h3 : isVar o = true) (h4 : look κ o = none) :
    Spec prog w p loose mean mg mb 1062 [.ref k, .str n.str t, .str o.str t'] 8 80 news (fun r news' => SubBut k news news' ∧ ((∃ κ', keepF κ n o = some κ' ∧ KeptAt prog w news' k κ' ∧ r = .bool true) ∨ (keepF κ n o = none ∧ KeptAt prog w news' k κ ∧ r = .bool false))) := by
  obtain ⟨v1, e1, tv1, q1⟩ := R.some h1
  subst q1
  have e2 := R.none h4
  unfold Spec
  intro dp un gd cn cs a ccd cl outer A₀ base h₀ L m s Q E B F X N T hk hd hu hret
  refine wpAny_call ?_
  k_dflt ktr_enter
  k_steps
  exact hret _ _ _ _ (by k_asm) (by k_asm) ⟨by ktr_rel, .inl ⟨κ ++ [(o, n)], by unfold keepF; simp only [h1, h2, h3, h4, if_false, if_true], ⟨_, by assumption, R.put_new h4 ⟨_, rfl⟩⟩, rfl⟩⟩
set_option maxHeartbeats 4000000 in
theorem lk5 {n o : Nm} {k : Addr} {t t' : Tok} {news : List (Addr × Obj)} (hn : isVar n = true) {κ : List (Nm × Nm)} {kvs : List (Str × Value)} (D : DictAt prog w news k kvs) (R : Rel2 (Ent KVal) kvs κ) (hz : kvs.length ≤ sizeLine) {o1 : Nm} (h1 : look κ n = some o1) (h2 : o1 ≠ o) (h3 : isVar o = true) (h4 : look κ o = some n) :
    Spec prog w p loose mean mg mb 1062 [.ref k, .str n.str t, .str o.str t'] 8 80 news (fun r news' => SubBut k news news' ∧ ((∃ κ', keepF κ n o = some κ' ∧ KeptAt prog w news' k κ' ∧ r = .bool true) ∨ (keepF κ n o = none ∧ KeptAt prog w news' k κ ∧ r = .bool false))) := by
  obtain ⟨v1, e1, tv1, q1⟩ := R.some h1
  subst q1
  obtain ⟨v2, e2, tv2, q2⟩ := R.some h4
  subst q2
  unfold Spec
  intro dp un gd cn cs a ccd cl outer A₀ base h₀ L m s Q E B F X N T hk hd hu hret
  refine wpAny_call ?_
  k_dflt ktr_enter
  k_steps
  exact hret _ _ _ _ (by k_asm) (by k_asm) ⟨by ktr_rel, .inl ⟨κ, by unfold keepF; simp only [h1, h2, h3, h4, if_false, if_true], ⟨_, by assumption, R.put_old D.nodup h4 ⟨_, rfl⟩⟩, rfl⟩⟩
set_option maxHeartbeats 4000000 in
theorem lk6 {n o : Nm} {k : Addr} {t t' : Tok} {news : List (Addr × Obj)} (hn : isVar n = true) {κ : List (Nm × Nm)} {kvs : List (Str × Value)} (D : DictAt prog w news k kvs) (R : Rel2 (Ent KVal) kvs κ) (hz : kvs.length ≤ sizeLine) {o1 o2 : Nm} (h1 : look κ n = some o1) (h2 : o1 ≠ o) (h3 : isVar o = true) (h4 : look κ o = some o2) (h5 : o2 ≠ n) :
    Spec prog w p loose mean mg mb 1062 [.ref k, .str n.str t, .str o.str t'] 8 80 news (fun r news' => SubBut k news news' ∧ ((∃ κ', keepF κ n o = some κ' ∧ KeptAt prog w news' k κ' ∧ r = .bool true) ∨ (keepF κ n o = none ∧ KeptAt prog w news' k κ ∧ r = .bool false))) := by
  obtain ⟨v1, e1, tv1, q1⟩ := R.some h1
  subst q1
  obtain ⟨v2, e2, tv2, q2⟩ := R.some h4
  subst q2
  unfold Spec
  intro dp un gd cn cs a ccd cl outer A₀ base h₀ L m s Q E B F X N T hk hd hu hret
  refine wpAny_call ?_
  k_dflt ktr_enter
  k_steps
  exact hret _ _ _ _ (by k_asm) (by k_asm) ⟨by ktr_rel, .inr ⟨by unfold keepF; simp only [h1, h2, h3, h4, h5, if_false, if_true], ⟨_, by ktr_rel, R⟩, rfl⟩⟩
theorem lawKeep {n o : Nm} {k : Addr} {t t' : Tok} (hn : isVar n = true) {κ : List (Nm × Nm)} {news : List (Addr × Obj)} (KA : KeptAt prog w news k κ) (hz : κ.length ≤ 100) :
    Spec prog w p loose mean mg mb 1062 [.ref k, .str n.str t, .str o.str t'] 8 80 news (fun r news' => SubBut k news news' ∧ ((∃ κ', keepF κ n o = some κ' ∧ KeptAt prog w news' k κ' ∧ r = .bool true) ∨ (keepF κ n o = none ∧ KeptAt prog w news' k κ ∧ r = .bool false))) := by
  obtain ⟨kvs, D, R⟩ := KA
  have hz' : kvs.length ≤ sizeLine := by rw [R.length, sizeLine_eq]; omega
  cases h1 : look κ n with
  | none => exact lk1 hn D R hz' h1
  | some o1 =>
    by_cases h2 : o1 = o
    · subst h2; exact lk2 hn D R hz' h1
    · cases h3 : isVar o with
      | false => exact lk3 hn D R hz' h1 h2 h3
      | true =>
        cases h4 : look κ o with
        | none => exact lk4 hn D R hz' h1 h2 h3 h4
        | some o2 =>
          by_cases h5 : o2 = n
          · subst h5; exact lk5 hn D R hz' h1 h2 h3 h4
          · exact lk6 hn D R hz' h1 h2 h3 h4 h5
end
end
section
open PySem PySem.W PySem.Spec PySem.Calls PyProof.Rows
set_option maxRecDepth 100000
section
variable {prog : Program} {w : World} {p : Program} {loose : List Str} {mean : ExcName → Option Value} {mg mb : Str → Option Value}
local macro_rules | `(tactic| walk_at "compareOp Eq ref ref") => `(tactic| (k_here; (refine cmp_ofEq ?_); k_dflt (refine' cmp_K ?k1 ?k2 ?k3 ?k4 ?k5 ?k6 ?k7 ?k8 ?_; (case k1 => k_units); (case k2 => k_asm); (case k3 => k_asm); (case k4 => k_inst); (case k5 => exact InstAt.type (by k_inst)); (case k6 => k_is); (case k7 => k_is); (case k8 => k_is); k_whole)))
theorem kfA (P : Params) (n : Nm) : plainGet (hd.heap_39 P) n.cls (Str.ofString "variable") = true := by
  rcases n.cls_or with h | h <;> rw [h] <;> k_is
theorem kfB (P : Params) (n : Nm) : hasDictIn (hd.heap_39 P) n.cls = true := by
  rcases n.cls_or with h | h <;> rw [h] <;> k_is
theorem kfC (P : Params) (n : Nm) : findIn (hd.heap_39 P) (.ref n.cls) (Str.ofString "variable") = some none := by
  rcases n.cls_or with h | h <;> rw [h] <;> k_is
theorem kfD (P : Params) (n : Nm) : isIn (hd.heap_39 P) (.ref n.cls) 485 = true := by
  rcases n.cls_or with h | h <;> rw [h] <;> k_is
theorem kfE (P : Params) (n : Nm) : isIn (hd.heap_39 P) (.ref n.cls) 318 = true := by
  rcases n.cls_or with h | h <;> rw [h] <;> k_is
theorem kfF (P : Params) (n : Nm) : findIn (hd.heap_39 P) (.ref n.cls) (Str.ofString "__eq__") = some (some (.ref 468)) := by
  rcases n.cls_or with h | h <;> rw [h] <;> k_is
theorem kfM (P : Params) (n : Nm) : findIn (hd.heap_39 P) (.ref n.cls) (cmpInfo CmpOp.Eq).2.1 = some (some (.ref 468)) := by
  rcases n.cls_or with h | h <;> rw [h] <;> k_is
theorem kfG (P : Params) (n : Nm) : findIn (hd.heap_39 P) (.ref n.cls) (Str.ofString "__bool__") = some none := by
  rcases n.cls_or with h | h <;> rw [h] <;> k_is
theorem kfH (P : Params) (n : Nm) : findIn (hd.heap_39 P) (.ref n.cls) (Str.ofString "__len__") = some none := by
  rcases n.cls_or with h | h <;> rw [h] <;> k_is
theorem kfI (P : Params) (n : Nm) (k : Nm) : notFirst (hd.heap_39 P) n.cls (.ref k.cls) = true := by
  rcases n.cls_or with h | h <;> rcases k.cls_or with h' | h' <;> rw [h, h'] <;> k_is
theorem kfJ (P : Params) (n : Nm) : notFirst (hd.heap_39 P) n.cls (.ref 423) = true := by
  rcases n.cls_or with h | h <;> rw [h] <;> k_is
theorem kfK (P : Params) (k : Nm) : notFirst (hd.heap_39 P) 423 (.ref k.cls) = true := by
  rcases k.cls_or with h | h <;> rw [h] <;> k_is
end
end
section
theorem offE1 : True := by
  w_top off
  trivial
open PySem PySem.W PySem.Spec PySem.Calls PyProof.Rows
set_option maxRecDepth 100000
section
variable {prog : Program} {w : World} {p : Program} {loose : List Str} {mean : ExcName → Option Value} {mg mb : Str → Option Value}
local macro_rules | `(tactic| walk_at "compareOp Eq ref ref") => `(tactic| (k_here; (refine cmp_ofEq ?_); k_dflt (refine' cmp_K ?k1 ?k2 ?k3 ?k4 ?k5 ?k6 ?k7 ?k8 ?_; (case k1 => k_units); (case k2 => k_asm); (case k3 => k_asm); (case k4 => k_inst); (case k5 => exact InstAt.type (by k_inst)); (case k6 => k_is); (case k7 => k_is); (case k8 => k_is); k_whole)))
local macro_rules | `(tactic| k_is) => `(tactic| first
  | with_reducible exact kfA _ _
  | with_reducible exact kfB _ _
  | with_reducible exact kfC _ _
  | with_reducible exact kfD _ _
  | with_reducible exact kfE _ _
  | with_reducible exact kfF _ _
  | with_reducible exact kfM _ _
  | with_reducible exact kfG _ _
  | with_reducible exact kfH _ _
  | with_reducible exact kfI _ _ _
  | with_reducible exact kfJ _ _
  | with_reducible exact kfK _ _
  )
section
variable (prog : Program) (w : World) (p : Program) (loose : List Str) (mean : ExcName → Option Value) (mg mb : Str → Option Value)
/-- a Spec of any tree of values, run in a def's frame -/
def SpecT (tr : Sem Value) (d u : Nat) (news : List (Addr × Obj)) (post : Value → List (Addr × Obj) → Prop) : Prop :=
  ∀ (dp un : Nat) (gd : Option (List Code)) (cn : Str) (cs : Scope) (a : Addr) (ccd : Value) (cl : List (Str × Addr)) (outer : List Env) (A₀ : Around) (base h₀ : Heap) (L : Addr) (m : Str → Option Value) (s : Shared)
    (Q E : Value → Shared → Prop),
    Below A₀ base outer h₀ → Fr h₀ L s.heap m → (hd.heap_39 w.params).In h₀ → News h₀ L s.heap news → Top p loose mean mg mb h₀ → cs.kind = .function → dp + d < recursionLimit → un + u < cLine →
    (∀ r news' h' tk', Fr h₀ L h' m → News h₀ L h' news' → post r news' → Q r { s with heap := h', toks := tk' }) →
    wpAny (model prog w) (ktrTop dp un gd cn cs L a ccd cl outer) tr Q E s
end
theorem useT {tr : Sem Value} {d u : Nat} {news : List (Addr × Obj)} {post : Value → List (Addr × Obj) → Prop}
    {dp un : Nat} {gd : Option (List Code)} {cn : Str} {cs : Scope} {a : Addr} {ccd : Value} {cl : List (Str × Addr)} {outer : List Env} {A₀ : Around} {base h₀ : Heap} {L : Addr} {m : Str → Option Value} {s : Shared} {Q E : Value → Shared → Prop}
    (S : SpecT prog w p loose mean mg mb tr d u news post)
    (B : Below A₀ base outer h₀) (F : Fr h₀ L s.heap m) (X : (hd.heap_39 w.params).In h₀) (N : News h₀ L s.heap news) (T : Top p loose mean mg mb h₀) (hk : cs.kind = .function) (hd : dp + d < recursionLimit) (hu : un + u < cLine)
    (ret : ∀ r news' h' tk', Fr h₀ L h' m → News h₀ L h' news' → post r news' → Q r { s with heap := h', toks := tk' }) :
    wpAny (model prog w) (ktrTop dp un gd cn cs L a ccd cl outer) tr Q E s :=
  S _ _ _ _ _ _ _ _ _ _ _ _ _ _ _ _ _ B F X N T hk hd hu ret
local macro_rules | `(tactic| walk_at "call ref") => `(tactic| (k_here; (with_reducible show wpAny _ _ (call (Value.ref 109) _ _) _ _ _); k_dflt (refine' use (eqVar ?s1 ?s2) ?k1 ?k2 ?k3 ?k4 ?k5 ?kK ?kd ?ku ?_; (case k1 => k_asm); (case k2 => k_asm); (case k3 => k_asm); (case k4 => k_asm); (case k5 => k_asm); (case kK => first | exact rfl | assumption); (case kd => ktr_room); (case ku => ktr_units); (case s1 => ktr_rel); (case s2 => ktr_rel)); (intro r9 news9 h9 tk9 F9 N9 P9; (obtain ⟨S9, e9⟩ := P9; subst S9; subst e9); (try dsimp only); kts_tail)))
set_option maxHeartbeats 4000000 in
theorem toldN511 {n : Nm} {e : Addr} {news : List (Addr × Obj)} (hn : n.cls = 511) (he : ExIn news e (.nm n)) :
    Spec prog w p loose mean mg mb 1055 [.ref e] 8 80 news (fun r news' => Sub news news' ∧ ∃ t, r = .str n.str t) := by
  cases he with
  | nm h1 h2 hv =>
  rw [hn] at h1
  have hv0 := hv
  obtain ⟨dv1, ha1, ta1, tb1, hv1, hv2⟩ := hv0
  unfold Spec
  intro dp un gd cn cs a ccd cl outer A₀ base h₀ L m s Q E B F X N T hk hd hu hret
  refine wpAny_call ?_
  k_dflt ktr_enter
  k_steps
  exact hret _ _ _ _ (by k_asm) (by k_asm) ⟨by ktr_rel, _, rfl⟩
set_option maxHeartbeats 4000000 in
theorem toldN575 {n : Nm} {e : Addr} {news : List (Addr × Obj)} (hn : n.cls = 575) (he : ExIn news e (.nm n)) :
    Spec prog w p loose mean mg mb 1055 [.ref e] 8 80 news (fun r news' => Sub news news' ∧ ∃ t, r = .str n.str t) := by
  cases he with
  | nm h1 h2 hv =>
  rw [hn] at h1
  have hv0 := hv
  obtain ⟨dv1, ha1, ta1, tb1, hv1, hv2⟩ := hv0
  unfold Spec
  intro dp un gd cn cs a ccd cl outer A₀ base h₀ L m s Q E B F X N T hk hd hu hret
  refine wpAny_call ?_
  k_dflt ktr_enter
  k_steps
  exact hret _ _ _ _ (by k_asm) (by k_asm) ⟨by ktr_rel, _, rfl⟩
set_option maxHeartbeats 4000000 in
theorem toldA {n : Nm} {a : Tm} {e : Addr} {news : List (Addr × Obj)} (he : ExIn news e (.app (.nm n) a)) :
    Spec prog w p loose mean mg mb 1055 [.ref e] 8 80 news (fun r news' => Sub news news' ∧ ∃ t, r = .str n.str t) := by
  cases he with
  | app h1 h2 hf ha =>
  cases hf with
  | nm h3 h4 hv =>
  have hv0 := hv
  obtain ⟨dv1, ha1, ta1, tb1, hv1, hv2⟩ := hv0
  unfold Spec
  intro dp un gd cn cs a ccd cl outer A₀ base h₀ L m s Q E B F X N T hk hd hu hret
  refine wpAny_call ?_
  k_dflt ktr_enter
  k_steps
  exact hret _ _ _ _ (by k_asm) (by k_asm) ⟨by ktr_rel, _, rfl⟩
end
end
section
local macro_rules | `(tactic| walk_at "mine idle") => `(tactic| skip)
theorem offE2 : True := by
  w_top off
  trivial
open PySem PySem.W PySem.Spec PySem.Calls PyProof.Rows
set_option maxRecDepth 100000
section
variable {prog : Program} {w : World} {p : Program} {loose : List Str} {mean : ExcName → Option Value} {mg mb : Str → Option Value}
local macro_rules | `(tactic| walk_at "compareOp Eq ref ref") => `(tactic| (k_here; (refine cmp_ofEq ?_); k_dflt (refine' cmp_K ?k1 ?k2 ?k3 ?k4 ?k5 ?k6 ?k7 ?k8 ?_; (case k1 => k_units); (case k2 => k_asm); (case k3 => k_asm); (case k4 => k_inst); (case k5 => exact InstAt.type (by k_inst)); (case k6 => k_is); (case k7 => k_is); (case k8 => k_is); k_whole)))
local macro_rules | `(tactic| k_is) => `(tactic| first
  | with_reducible exact kfA _ _
  | with_reducible exact kfB _ _
  | with_reducible exact kfC _ _
  | with_reducible exact kfD _ _
  | with_reducible exact kfE _ _
  | with_reducible exact kfF _ _
  | with_reducible exact kfM _ _
  | with_reducible exact kfG _ _
  | with_reducible exact kfH _ _
  | with_reducible exact kfI _ _ _
  | with_reducible exact kfJ _ _
  | with_reducible exact kfK _ _
  )
local macro_rules | `(tactic| walk_at "call ref") => `(tactic| (k_here; (with_reducible show wpAny _ _ (call (Value.ref 109) _ _) _ _ _); k_dflt (refine' use (eqVar ?s1 ?s2) ?k1 ?k2 ?k3 ?k4 ?k5 ?kK ?kd ?ku ?_; (case k1 => k_asm); (case k2 => k_asm); (case k3 => k_asm); (case k4 => k_asm); (case k5 => k_asm); (case kK => first | exact rfl | assumption); (case kd => ktr_room); (case ku => ktr_units); (case s1 => ktr_rel); (case s2 => ktr_rel)); (intro r9 news9 h9 tk9 F9 N9 P9; (obtain ⟨S9, e9⟩ := P9; subst S9; subst e9); (try dsimp only); kts_tail)))
set_option maxHeartbeats 4000000 in
theorem eqNN {n k : Nm} {e1 e2 : Addr} {news : List (Addr × Obj)} (he1 : ExIn news e1 (.nm n)) (he2 : ExIn news e2 (.nm k)) :
    Spec prog w p loose mean mg mb 468 [.ref e1, .ref e2] 8 80 news (fun r news' => Sub news news' ∧ r = .bool (decide (n = k))) := by
  cases he1 with
  | nm he1a he1b he1v =>
  obtain ⟨dv1, ha1, ta1, tb1, he1c, he1d⟩ := id he1v
  cases he2 with
  | nm he2a he2b he2v =>
  obtain ⟨dv2, ha2, ta2, tb2, he2c, he2d⟩ := id he2v
  unfold Spec
  intro dp un gd cn cs a ccd cl outer A₀ base h₀ L m s Q E B F X N T hk hd hu hret
  refine wpAny_call ?_
  k_dflt ktr_enter
  k_steps
  exact hret _ _ _ _ (by k_asm) (by k_asm) ⟨by ktr_rel, rfl⟩
set_option maxHeartbeats 4000000 in
theorem eqNA {n : Nm} {x y : Tm} {e1 e2 : Addr} {news : List (Addr × Obj)} (he1 : ExIn news e1 (.nm n)) (he2 : ExIn news e2 (.app x y)) :
    Spec prog w p loose mean mg mb 468 [.ref e1, .ref e2] 8 80 news (fun r news' => Sub news news' ∧ r = .bool false) := by
  cases he1 with
  | nm he1a he1b he1v =>
  obtain ⟨dv1, ha1, ta1, tb1, he1c, he1d⟩ := id he1v
  cases he2 with
  | app he2a he2b he2f he2g =>
  unfold Spec
  intro dp un gd cn cs a ccd cl outer A₀ base h₀ L m s Q E B F X N T hk hd hu hret
  refine wpAny_call ?_
  k_dflt ktr_enter
  k_steps
  exact hret _ _ _ _ (by k_asm) (by k_asm) ⟨by ktr_rel, rfl⟩
set_option maxHeartbeats 4000000 in
theorem eqAN511 {n : Nm} {x y : Tm} {e1 e2 : Addr} {news : List (Addr × Obj)} (hn : n.cls = 511) (he1 : ExIn news e1 (.app x y)) (he2 : ExIn news e2 (.nm n)) :
    Spec prog w p loose mean mg mb 383 [.ref e1, .ref e2] 8 80 news (fun r news' => Sub news news' ∧ r = .bool false) := by
  cases he1 with
  | app he1a he1b he1f he1g =>
  cases he2 with
  | nm he2a he2b he2v =>
  obtain ⟨dv2, ha2, ta2, tb2, he2c, he2d⟩ := id he2v
  rw [hn] at he2a
  unfold Spec
  intro dp un gd cn cs a ccd cl outer A₀ base h₀ L m s Q E B F X N T hk hd hu hret
  refine wpAny_call ?_
  k_dflt ktr_enter
  k_steps
  exact hret _ _ _ _ (by k_asm) (by k_asm) ⟨by ktr_rel, rfl⟩
set_option maxHeartbeats 4000000 in
theorem eqAN575 {n : Nm} {x y : Tm} {e1 e2 : Addr} {news : List (Addr × Obj)} (hn : n.cls = 575) (he1 : ExIn news e1 (.app x y)) (he2 : ExIn news e2 (.nm n)) :
    Spec prog w p loose mean mg mb 383 [.ref e1, .ref e2] 8 80 news (fun r news' => Sub news news' ∧ r = .bool false) := by
  cases he1 with
  | app he1a he1b he1f he1g =>
  cases he2 with
  | nm he2a he2b he2v =>
  obtain ⟨dv2, ha2, ta2, tb2, he2c, he2d⟩ := id he2v
  rw [hn] at he2a
  unfold Spec
  intro dp un gd cn cs a ccd cl outer A₀ base h₀ L m s Q E B F X N T hk hd hu hret
  refine wpAny_call ?_
  k_dflt ktr_enter
  k_steps
  exact hret _ _ _ _ (by k_asm) (by k_asm) ⟨by ktr_rel, rfl⟩
theorem eqAN {n : Nm} {x y : Tm} {e1 e2 : Addr} {news : List (Addr × Obj)} (he1 : ExIn news e1 (.app x y)) (he2 : ExIn news e2 (.nm n)) : Spec prog w p loose mean mg mb 383 [.ref e1, .ref e2] 8 80 news (fun r news' => Sub news news' ∧ r = .bool false) := by
  rcases n.cls_or with h | h
  · exact eqAN511 h he1 he2
  · exact eqAN575 h he1 he2
local macro_rules | `(tactic| walk_at "call ref") => `(tactic| (k_here; (with_reducible show wpAny _ _ (call (Value.ref 468) _ _) _ _ _); k_dflt (refine' use (eqNN ?s1 ?s2) ?k1 ?k2 ?k3 ?k4 ?k5 ?kK ?kd ?ku ?_; (case k1 => k_asm); (case k2 => k_asm); (case k3 => k_asm); (case k4 => k_asm); (case k5 => k_asm); (case kK => first | exact rfl | assumption); (case kd => ktr_room); (case ku => ktr_units); (case s1 => ktr_rel); (case s2 => ktr_rel)); (intro r9 news9 h9 tk9 F9 N9 P9; (obtain ⟨S9, e9⟩ := P9; subst e9); (try dsimp only); kts_tail)))
end
end
section
theorem offE3 : True := by
  w_top off
  trivial
open PySem PySem.W PySem.Spec PySem.Calls PyProof.Rows
set_option maxRecDepth 100000
section
variable {prog : Program} {w : World} {p : Program} {loose : List Str} {mean : ExcName → Option Value} {mg mb : Str → Option Value}
local macro_rules | `(tactic| walk_at "compareOp Eq ref ref") => `(tactic| (k_here; (refine cmp_ofEq ?_); k_dflt (refine' cmp_K ?k1 ?k2 ?k3 ?k4 ?k5 ?k6 ?k7 ?k8 ?_; (case k1 => k_units); (case k2 => k_asm); (case k3 => k_asm); (case k4 => k_inst); (case k5 => exact InstAt.type (by k_inst)); (case k6 => k_is); (case k7 => k_is); (case k8 => k_is); k_whole)))
local macro_rules | `(tactic| k_is) => `(tactic| first
  | with_reducible exact kfA _ _
  | with_reducible exact kfB _ _
  | with_reducible exact kfC _ _
  | with_reducible exact kfD _ _
  | with_reducible exact kfE _ _
  | with_reducible exact kfF _ _
  | with_reducible exact kfM _ _
  | with_reducible exact kfG _ _
  | with_reducible exact kfH _ _
  | with_reducible exact kfI _ _ _
  | with_reducible exact kfJ _ _
  | with_reducible exact kfK _ _
  )
local macro_rules | `(tactic| walk_at "call ref") => `(tactic| (k_here; (with_reducible show wpAny _ _ (call (Value.ref 109) _ _) _ _ _); k_dflt (refine' use (eqVar ?s1 ?s2) ?k1 ?k2 ?k3 ?k4 ?k5 ?kK ?kd ?ku ?_; (case k1 => k_asm); (case k2 => k_asm); (case k3 => k_asm); (case k4 => k_asm); (case k5 => k_asm); (case kK => first | exact rfl | assumption); (case kd => ktr_room); (case ku => ktr_units); (case s1 => ktr_rel); (case s2 => ktr_rel)); (intro r9 news9 h9 tk9 F9 N9 P9; (obtain ⟨S9, e9⟩ := P9; subst S9; subst e9); (try dsimp only); kts_tail)))
local macro_rules | `(tactic| walk_at "call ref") => `(tactic| (k_here; (with_reducible show wpAny _ _ (call (Value.ref 468) _ _) _ _ _); k_dflt (refine' use (eqNN ?s1 ?s2) ?k1 ?k2 ?k3 ?k4 ?k5 ?kK ?kd ?ku ?_; (case k1 => k_asm); (case k2 => k_asm); (case k3 => k_asm); (case k4 => k_asm); (case k5 => k_asm); (case kK => first | exact rfl | assumption); (case kd => ktr_room); (case ku => ktr_units); (case s1 => ktr_rel); (case s2 => ktr_rel)); (intro r9 news9 h9 tk9 F9 N9 P9; (obtain ⟨S9, e9⟩ := P9; subst e9); (try dsimp only); kts_tail)))
local macro_rules | `(tactic| walk_at "call ref") => `(tactic| (k_here; (with_reducible show wpAny _ _ (call (Value.ref 468) _ _) _ _ _); k_dflt (refine' use (eqNA ?s1 ?s2) ?k1 ?k2 ?k3 ?k4 ?k5 ?kK ?kd ?ku ?_; (case k1 => k_asm); (case k2 => k_asm); (case k3 => k_asm); (case k4 => k_asm); (case k5 => k_asm); (case kK => first | exact rfl | assumption); (case kd => ktr_room); (case ku => ktr_units); (case s1 => ktr_rel); (case s2 => ktr_rel)); (intro r9 news9 h9 tk9 F9 N9 P9; (obtain ⟨S9, e9⟩ := P9; subst e9); (try dsimp only); kts_tail)))
local macro_rules | `(tactic| walk_at "call ref") => `(tactic| (k_here; (with_reducible show wpAny _ _ (call (Value.ref 383) _ _) _ _ _); k_dflt (refine' use (eqAN ?s1 ?s2) ?k1 ?k2 ?k3 ?k4 ?k5 ?kK ?kd ?ku ?_; (case k1 => k_asm); (case k2 => k_asm); (case k3 => k_asm); (case k4 => k_asm); (case k5 => k_asm); (case kK => first | exact rfl | assumption); (case kd => ktr_room); (case ku => ktr_units); (case s1 => ktr_rel); (case s2 => ktr_rel)); (intro r9 news9 h9 tk9 F9 N9 P9; (obtain ⟨S9, e9⟩ := P9; subst e9); (try dsimp only); kts_tail)))
set_option maxHeartbeats 4000000 in
theorem eqAA {x y z u : Nm} {e1 e2 : Addr} {news : List (Addr × Obj)} (he1 : ExIn news e1 (.app (.nm x) (.nm y))) (he2 : ExIn news e2 (.app (.nm z) (.nm u))) :
    Spec prog w p loose mean mg mb 383 [.ref e1, .ref e2] 12 120 news (fun r news' => Sub news news' ∧ r = .bool (decide (Tm.app (.nm x) (.nm y) = Tm.app (.nm z) (.nm u)))) := by
  cases he1 with
  | app he1a he1b he1f he1g =>
  cases he2 with
  | app he2a he2b he2f he2g =>
  cases he1f with
  | nm he1fa he1fb he1fv =>
  obtain ⟨dvhe1f, hahe1f, tahe1f, tbhe1f, he1fc, he1fd⟩ := id he1fv
  cases he1g with
  | nm he1ga he1gb he1gv =>
  obtain ⟨dvhe1g, hahe1g, tahe1g, tbhe1g, he1gc, he1gd⟩ := id he1gv
  cases he2f with
  | nm he2fa he2fb he2fv =>
  obtain ⟨dvhe2f, hahe2f, tahe2f, tbhe2f, he2fc, he2fd⟩ := id he2fv
  cases he2g with
  | nm he2ga he2gb he2gv =>
  obtain ⟨dvhe2g, hahe2g, tahe2g, tbhe2g, he2gc, he2gd⟩ := id he2gv
  unfold Spec
  intro dp un gd cn cs a ccd cl outer A₀ base h₀ L m s Q E B F X N T hk hd hu hret
  refine wpAny_call ?_
  k_dflt ktr_enter
  k_steps
  all_goals exact hret _ _ _ _ (by k_asm) (by k_asm) ⟨by ktr_rel, congrArg Value.bool (by simp_all)⟩
local macro_rules | `(tactic| walk_at "call ref") => `(tactic| (k_here; (with_reducible show wpAny _ _ (call (Value.ref 383) _ _) _ _ _); k_dflt (refine' use (eqAA ?s1 ?s2) ?k1 ?k2 ?k3 ?k4 ?k5 ?kK ?kd ?ku ?_; (case k1 => k_asm); (case k2 => k_asm); (case k3 => k_asm); (case k4 => k_asm); (case k5 => k_asm); (case kK => first | exact rfl | assumption); (case kd => ktr_room); (case ku => ktr_units); (case s1 => ktr_rel); (case s2 => ktr_rel)); (intro r9 news9 h9 tk9 F9 N9 P9; (obtain ⟨S9, e9⟩ := P9; subst e9); (try dsimp only); kts_tail)))
set_option maxHeartbeats 4000000 in
theorem cmNN {n k : Nm} {e1 e2 : Addr} {news : List (Addr × Obj)} (he1 : ExIn news e1 (.nm n)) (he2 : ExIn news e2 (.nm k)) :
    SpecT prog w p loose mean mg mb (compareOp CmpOp.Eq (.ref e1) (.ref e2)) 20 200 news (fun r news' => Sub news news' ∧ r = .bool (decide (n = k))) := by
  have he1' := he1
  have he2' := he2
  cases he1' with
  | nm he1'a he1'b he1'v =>
  obtain ⟨dv1, ha1, ta1, tb1, he1'c, he1'd⟩ := id he1'v
  cases he2' with
  | nm he2'a he2'b he2'v =>
  obtain ⟨dv2, ha2, ta2, tb2, he2'c, he2'd⟩ := id he2'v
  unfold SpecT
  intro dp un gd cn cs a ccd cl outer A₀ base h₀ L m s Q E B F X N T hk hd hu hret
  k_steps
  exact hret _ _ _ _ (by k_asm) (by k_asm) ⟨by ktr_rel, rfl⟩
set_option maxHeartbeats 4000000 in
theorem cmNA {n : Nm} {x y : Tm} {e1 e2 : Addr} {news : List (Addr × Obj)} (he1 : ExIn news e1 (.nm n)) (he2 : ExIn news e2 (.app x y)) :
    SpecT prog w p loose mean mg mb (compareOp CmpOp.Eq (.ref e1) (.ref e2)) 20 200 news (fun r news' => Sub news news' ∧ r = .bool false) := by
  have he1' := he1
  have he2' := he2
  cases he1' with
  | nm he1'a he1'b he1'v =>
  obtain ⟨dv1, ha1, ta1, tb1, he1'c, he1'd⟩ := id he1'v
  cases he2' with
  | app he2'a he2'b he2'f he2'g =>
  unfold SpecT
  intro dp un gd cn cs a ccd cl outer A₀ base h₀ L m s Q E B F X N T hk hd hu hret
  k_steps
  exact hret _ _ _ _ (by k_asm) (by k_asm) ⟨by ktr_rel, rfl⟩
set_option maxHeartbeats 4000000 in
theorem cmAN {n : Nm} {x y : Tm} {e1 e2 : Addr} {news : List (Addr × Obj)} (he1 : ExIn news e1 (.app x y)) (he2 : ExIn news e2 (.nm n)) :
    SpecT prog w p loose mean mg mb (compareOp CmpOp.Eq (.ref e1) (.ref e2)) 20 200 news (fun r news' => Sub news news' ∧ r = .bool false) := by
  have he1' := he1
  have he2' := he2
  cases he1' with
  | app he1'a he1'b he1'f he1'g =>
  cases he2' with
  | nm he2'a he2'b he2'v =>
  obtain ⟨dv2, ha2, ta2, tb2, he2'c, he2'd⟩ := id he2'v
  unfold SpecT
  intro dp un gd cn cs a ccd cl outer A₀ base h₀ L m s Q E B F X N T hk hd hu hret
  k_steps
  exact hret _ _ _ _ (by k_asm) (by k_asm) ⟨by ktr_rel, rfl⟩
set_option maxHeartbeats 4000000 in
theorem cmAA {x y z u : Nm} {e1 e2 : Addr} {news : List (Addr × Obj)} (he1 : ExIn news e1 (.app (.nm x) (.nm y))) (he2 : ExIn news e2 (.app (.nm z) (.nm u))) :
    SpecT prog w p loose mean mg mb (compareOp CmpOp.Eq (.ref e1) (.ref e2)) 20 200 news (fun r news' => Sub news news' ∧ r = .bool (decide (Tm.app (.nm x) (.nm y) = Tm.app (.nm z) (.nm u)))) := by
  have he1' := he1
  have he2' := he2
  cases he1' with
  | app he1'a he1'b he1'f he1'g =>
  cases he2' with
  | app he2'a he2'b he2'f he2'g =>
  unfold SpecT
  intro dp un gd cn cs a ccd cl outer A₀ base h₀ L m s Q E B F X N T hk hd hu hret
  k_steps
  exact hret _ _ _ _ (by k_asm) (by k_asm) ⟨by ktr_rel, rfl⟩
/-- the terms that the dicts hold -/
def flat : Tm → Bool
  | .nm _ => true
  | .app (.nm _) (.nm _) => true
  | _ => false
theorem flat_tmOf (n : Nm) : flat (tmOf n) = true := by cases n <;> rfl
theorem cmpEx {t1 t2 : Tm} (h1 : flat t1 = true) (h2 : flat t2 = true) {e1 e2 : Addr} {news : List (Addr × Obj)} (he1 : ExIn news e1 t1) (he2 : ExIn news e2 t2) :
    SpecT prog w p loose mean mg mb (compareOp CmpOp.Eq (.ref e1) (.ref e2)) 20 200 news (fun r news' => Sub news news' ∧ r = .bool (decide (t1 = t2))) := by
  cases t1 with
  | nm n =>
    cases t2 with
    | nm k =>
      have h := cmNN (prog := prog) (w := w) (p := p) (loose := loose) (mean := mean) (mg := mg) (mb := mb) he1 he2
      simpa only [Tm.nm.injEq] using h
    | app x y =>
      have h := cmNA (prog := prog) (w := w) (p := p) (loose := loose) (mean := mean) (mg := mg) (mb := mb) he1 he2
      simpa only [reduceCtorEq, decide_false] using h
  | app x y =>
    cases t2 with
    | nm k =>
      have h := cmAN (prog := prog) (w := w) (p := p) (loose := loose) (mean := mean) (mg := mg) (mb := mb) he1 he2
      simpa only [reduceCtorEq, decide_false] using h
    | app z u =>
      cases x <;> cases y <;> cases z <;> cases u <;> first | exact absurd h1 (by decide) | exact absurd h2 (by decide) | exact cmAA he1 he2 | (simp [flat] at h1; done) | (simp [flat] at h2; done)
end
end
section
theorem offE4 : True := by
  w_top off
  trivial
open PySem PySem.W PySem.Spec PySem.Calls PyProof.Rows
set_option maxRecDepth 100000
section
variable {prog : Program} {w : World} {p : Program} {loose : List Str} {mean : ExcName → Option Value} {mg mb : Str → Option Value}
local macro_rules | `(tactic| walk_at "compareOp Eq ref ref") => `(tactic| (k_here; (refine cmp_ofEq ?_); k_dflt (refine' cmp_K ?k1 ?k2 ?k3 ?k4 ?k5 ?k6 ?k7 ?k8 ?_; (case k1 => k_units); (case k2 => k_asm); (case k3 => k_asm); (case k4 => k_inst); (case k5 => exact InstAt.type (by k_inst)); (case k6 => k_is); (case k7 => k_is); (case k8 => k_is); k_whole)))
local macro_rules | `(tactic| k_is) => `(tactic| first
  | with_reducible exact kfA _ _
  | with_reducible exact kfB _ _
  | with_reducible exact kfC _ _
  | with_reducible exact kfD _ _
  | with_reducible exact kfE _ _
  | with_reducible exact kfF _ _
  | with_reducible exact kfM _ _
  | with_reducible exact kfG _ _
  | with_reducible exact kfH _ _
  | with_reducible exact kfI _ _ _
  | with_reducible exact kfJ _ _
  | with_reducible exact kfK _ _
  )
theorem isiEx {A : Around} {E Q : Value → Shared → Prop} {s : Shared} {h₀ : Heap} {L e : Addr} {t : Tm} {news : List (Addr × Obj)} (he : ExIn news e t) (X : (hd.heap_39 w.params).In s.heap) (N : News h₀ L s.heap news) (h : Q (.bool true) s) :
    wpAny (model prog w) A (call (.builtin "isinstance") [.ref e, .ref 318]) Q E s := by
  cases he with
  | nm h1 h2 hv => exact isi_call X (fun M => InstAt.type (InstAt.of_news N h1 h2)) (kfE _ _) (fun e => nomatch e) h
  | app h1 h2 hf ha => exact isi_call X (fun M => InstAt.type (InstAt.of_news N h1 h2)) (by k_is) (fun e => nomatch e) h
local macro_rules | `(tactic| walk_at "call builtin:isinstance") => `(tactic| (k_here; (with_reducible show wpAny _ _ (call (Value.builtin _) [Value.ref _, Value.ref 318]) _ _ _); k_dflt (refine' isiEx ?he ?X ?N ?_; (case N => k_asm); (case he => ktr_rel); (case X => k_in))))
set_option maxHeartbeats 4000000 in
theorem mkApp {t1 t2 : Tm} {e1 e2 : Addr} {news : List (Addr × Obj)} (he1 : ExIn news e1 t1) (he2 : ExIn news e2 t2) :
    Spec prog w p loose mean mg mb 423 [.ref e1, .ref e2] 8 80 news (fun r news' => Sub news news' ∧ ∃ e, r = .ref e ∧ ExIn news' e (.app t1 t2)) := by
  unfold Spec
  intro dp un gd cn cs a ccd cl outer A₀ base h₀ L m s Q E B F X N T hk hd hu hret
  k_dflt (refine' call_cls ?k1 ?k2 ?k3 ?k4 ?k5 ?k6 ?_; (case k1 => k_asm); (case k2 => k_asm); (case k3 => k_asm); (case k4 => k_is); (case k5 => k_is); (case k6 => k_is); k_whole; intro x' d' h' F' N' l1 l2; (try k_lt l1); (try k_lt2 l2); ktr_enter)
  k_steps
  exact hret _ _ _ _ (by k_asm) (by k_asm) ⟨by ktr_rel, _, rfl, .app (by k_mem) (by k_mem) (by ktr_rel) (by ktr_rel)⟩
end
end
section
open PySem PySem.W PySem.Spec PySem.Calls PyProof.Rows PyProof.Rows.LCg
set_option maxRecDepth 100000
set_option linter.unusedVariables false
section
open PySem.AutoSeq1 (wpAny_loadPart')
open PySem.MeetsSeq PySem.MeetsSeq2 PySem.MeetsSeq3 PySem.SeqRoads2
variable {prog : Program} {w : World} {A : Around} {St : Shared → Prop}
/-- a comparison that leaves what is told to stand -/
def EqStep (prog : Program) (w : World) (A : Around) (St : Shared → Prop) (y x : Value) (b : Bool) : Prop :=
  ∀ (s : Shared) (E : Value → Shared → Prop) (Q : Bool → Shared → Prop), St s → (∀ s', St s' → Q b s') → wpAny (model prog w) A (eqBool y x) Q E s
theorem contains_loopF (l : Addr) (items : Array Value) (n : Nat) (dd : Option Addr) (sl : Array (Option Value)) (x : Value) (e : Value → Bool)
    (hl : ∀ s, St s → s.heap.get? l = some { cls := .type "list", dict := dd, data := .seq items n, slots := sl }) (he : ∀ y, y ∈ items → EqStep prog w A.in1 St y x (e y)) (k : Nat) :
    ∀ (i : Nat) (s : Shared) (R : Result → Shared → Prop), items.size - i = k → St s → (∀ s', St s' → R (.ok (.ret (.bool ((items.toList.drop i).any e)))) s') →
      wpAny (model prog w) A.in1 (Builtin.«list.__contains__.loop» ⟨[.ref l, x, rawInt i], []⟩) (fun fin s' => match fin with | .done f => R (.ok f) s' | .again c' => c'.quiet = true ∧ codeAny (model prog w) A c' R s') (fun e s' => R (.error e) s') s := by
  induction k with
  | zero =>
    intro i s R hk hs h
    have hl' := hl s hs
    have hR := h s hs
    obtain ⟨hp, g, d, tk, os⟩ := s
    wp_walk using wpAny_loadPart' hl'
    have hi : items[((i : Nat) : Int).toNat]? = none := by simp; omega
    have hd : items.toList.drop i = [] := by simp; omega
    rw [hd] at hR
    rw [hi]
    wp_walk
    exact hR
  | succ k ih =>
    intro i s R hk hs h
    have hl' := hl s hs
    have hlt : i < items.size := by omega
    have hi : items[((i : Nat) : Int).toNat]? = some items[i] := by simp [hlt]
    have hd : items.toList.drop i = items[i] :: items.toList.drop (i + 1) := by simp [List.drop_eq_getElem_cons, hlt]
    rw [hd, List.any_cons] at h
    obtain ⟨hp, g, d, tk, os⟩ := s
    wp_walk using wpAny_loadPart' hl'
    rw [hi]
    refine wpAny_bind (he _ (Array.getElem_mem hlt) _ _ _ hs fun s' hs' => ?_)
    cases hb : e items[i] with
    | true =>
      rw [hb] at h
      have hR := h s' hs'
      wp_walk
      exact hR
    | false =>
      rw [hb] at h
      have hc : ((i : Int) + 1) = ((i + 1 : Nat) : Int) := by push_cast; rfl
      wp_walk
      rw [hc]
      exact ⟨plainId_quiet plain_contains_loop _, codeAny_builtin entry_contains_loop (by
        rw [Around.under_plainId plain_contains_loop _]
        exact ih (i + 1) _ R (by omega) hs' fun s'' h'' => by simpa using h s'' h'')⟩
theorem containsF {l : Addr} {items : Array Value} {x : Value} {s : Shared} {E : Value → Shared → Prop} {Q : Bool → Shared → Prop} (e : Value → Bool) (hs : St s)
    (hl : ∃ n dd sl, ∀ s, St s → s.heap.get? l = some { cls := .type "list", dict := dd, data := .seq items n, slots := sl }) (he : ∀ y, y ∈ items → EqStep prog w A.in1 St y x (e y)) (h : ∀ s', St s' → Q (items.any e) s') :
    wpAny (model prog w) A (contains (.ref l) x) Q E s := by
  obtain ⟨n, dd, sl, hl⟩ := hl
  have hT : s.TypeIs (.ref l) "list" := ⟨_, hl s hs, rfl⟩
  refine wpAny_contains_slot hT PySem.F.slot_list_contains (call_meetsIn (S := fun A' R s' => A' = A ∧ s' = s ∧ ∀ s'', St s'' → R (.ok (.ret (.bool (items.any e)))) s'') PySem.F.slot_list_contains hT PySem.F.entry_list_contains (PySem.F.args_list_contains_2 _ _) ?_ ⟨rfl, rfl, fun s'' h'' => wpAny_truthy_bool (h s'' h'')⟩)
  rintro A' R s' ⟨rfl, rfl, hR⟩
  have hl' := hl s' hs
  have hs0 := hs
  obtain ⟨hp, g, d, tk, os⟩ := s'
  wp_walk using wpAny_loadPart' hl'
  exact ⟨plainId_quiet plain_contains_loop _, codeAny_builtin entry_contains_loop (by
    rw [Around.under_plainId plain_contains_loop _]
    exact contains_loopF l items n dd sl x e hl he _ 0 _ R rfl hs0 fun s'' h'' => by simpa using hR s'' h'')⟩
end
end
section
theorem offE5 : True := by
  w_top off
  trivial
open PySem PySem.W PySem.Spec PySem.Calls PyProof.Rows
set_option maxRecDepth 100000
section
variable {prog : Program} {w : World} {p : Program} {loose : List Str} {mean : ExcName → Option Value} {mg mb : Str → Option Value}
local macro_rules | `(tactic| walk_at "compareOp Eq ref ref") => `(tactic| (k_here; (refine cmp_ofEq ?_); k_dflt (refine' cmp_K ?k1 ?k2 ?k3 ?k4 ?k5 ?k6 ?k7 ?k8 ?_; (case k1 => k_units); (case k2 => k_asm); (case k3 => k_asm); (case k4 => k_inst); (case k5 => exact InstAt.type (by k_inst)); (case k6 => k_is); (case k7 => k_is); (case k8 => k_is); k_whole)))
local macro_rules | `(tactic| k_is) => `(tactic| first
  | with_reducible exact kfA _ _
  | with_reducible exact kfB _ _
  | with_reducible exact kfC _ _
  | with_reducible exact kfD _ _
  | with_reducible exact kfE _ _
  | with_reducible exact kfF _ _
  | with_reducible exact kfM _ _
  | with_reducible exact kfG _ _
  | with_reducible exact kfH _ _
  | with_reducible exact kfI _ _ _
  | with_reducible exact kfJ _ _
  | with_reducible exact kfK _ _
  )
local macro_rules | `(tactic| walk_at "call ref") => `(tactic| (k_here; (with_reducible show wpAny _ _ (call (Value.ref 126) [Value.str (Nm.str _) _] _) _ _ _); k_dflt (refine' use (mkVar) ?k1 ?k2 ?k3 ?k4 ?k5 ?kK ?kd ?ku ?_; (case k1 => k_asm); (case k2 => k_asm); (case k3 => k_asm); (case k4 => k_asm); (case k5 => k_asm); (case kK => first | exact rfl | assumption); (case kd => ktr_room); (case ku => ktr_units)); (intro r9 news9 h9 tk9 F9 N9 P9; (obtain ⟨S9, v9, e9, H9⟩ := P9; subst e9); (try dsimp only); kts_tail)))
local macro_rules | `(tactic| walk_at "call ref") => `(tactic| (k_here; (with_reducible show wpAny _ _ (call (Value.ref 126) [Value.str (Str.ofString "mother") _] _) _ _ _); k_dflt (refine' use (mkVar (n := .mother)) ?k1 ?k2 ?k3 ?k4 ?k5 ?kK ?kd ?ku ?_; (case k1 => k_asm); (case k2 => k_asm); (case k3 => k_asm); (case k4 => k_asm); (case k5 => k_asm); (case kK => first | exact rfl | assumption); (case kd => ktr_room); (case ku => ktr_units)); (intro r9 news9 h9 tk9 F9 N9 P9; (obtain ⟨S9, v9, e9, H9⟩ := P9; subst e9); (try dsimp only); kts_tail)))
local macro_rules | `(tactic| walk_at "call ref") => `(tactic| (k_here; (with_reducible show wpAny _ _ (call (Value.ref 126) [Value.str (Str.ofString "rex") _] _) _ _ _); k_dflt (refine' use (mkVar (n := .rex)) ?k1 ?k2 ?k3 ?k4 ?k5 ?kK ?kd ?ku ?_; (case k1 => k_asm); (case k2 => k_asm); (case k3 => k_asm); (case k4 => k_asm); (case k5 => k_asm); (case kK => first | exact rfl | assumption); (case kd => ktr_room); (case ku => ktr_units)); (intro r9 news9 h9 tk9 F9 N9 P9; (obtain ⟨S9, v9, e9, H9⟩ := P9; subst e9); (try dsimp only); kts_tail)))
local macro_rules | `(tactic| walk_at "call ref") => `(tactic| (k_here; (with_reducible show wpAny _ _ (call (Value.ref 126) [Value.str (Str.ofString "gives") _] _) _ _ _); k_dflt (refine' use (mkVar (n := .gives)) ?k1 ?k2 ?k3 ?k4 ?k5 ?kK ?kd ?ku ?_; (case k1 => k_asm); (case k2 => k_asm); (case k3 => k_asm); (case k4 => k_asm); (case k5 => k_asm); (case kK => first | exact rfl | assumption); (case kd => ktr_room); (case ku => ktr_units)); (intro r9 news9 h9 tk9 F9 N9 P9; (obtain ⟨S9, v9, e9, H9⟩ := P9; subst e9); (try dsimp only); kts_tail)))
local macro_rules | `(tactic| walk_at "call ref") => `(tactic| (k_here; (with_reducible show wpAny _ _ (call (Value.ref 584) _ _) _ _ _); k_dflt (refine' use (mkEx ?s1) ?k1 ?k2 ?k3 ?k4 ?k5 ?kK ?kd ?ku ?_; (case k1 => k_asm); (case k2 => k_asm); (case k3 => k_asm); (case k4 => k_asm); (case k5 => k_asm); (case kK => first | exact rfl | assumption); (case kd => ktr_room); (case ku => ktr_units); (case s1 => ktr_rel)); (intro r9 news9 h9 tk9 F9 N9 P9; (obtain ⟨S9, v9, e9, H9⟩ := P9; subst e9); (try dsimp only); kts_tail)))
local macro_rules | `(tactic| walk_at "call ref") => `(tactic| (k_here; (with_reducible show wpAny _ _ (call (Value.ref 423) _ _) _ _ _); k_dflt (refine' use (mkApp ?s1 ?s2) ?k1 ?k2 ?k3 ?k4 ?k5 ?kK ?kd ?ku ?_; (case k1 => k_asm); (case k2 => k_asm); (case k3 => k_asm); (case k4 => k_asm); (case k5 => k_asm); (case kK => first | exact rfl | assumption); (case kd => ktr_room); (case ku => ktr_units); (case s1 => ktr_rel); (case s2 => ktr_rel)); (intro r9 news9 h9 tk9 F9 N9 P9; (obtain ⟨S9, v9, e9, H9⟩ := P9; subst e9); (try dsimp only); kts_tail)))
set_option maxHeartbeats 4000000 in
theorem madeM {t : Tok} {news : List (Addr × Obj)}  :
    Spec prog w p loose mean mg mb 1048 [.str (Str.ofString "mother") t] 30 300 news (fun r news' => Sub news news' ∧ ∃ e, r = .ref e ∧ ExIn news' e (tmOf .mother)) := by
  unfold Spec
  intro dp un gd cn cs a ccd cl outer A₀ base h₀ L m s Q E B F X N T hk hd hu hret
  refine wpAny_call ?_
  k_dflt ktr_enter
  k_steps
  exact hret _ _ _ _ (by k_asm) (by k_asm) ⟨by ktr_rel, _, rfl, by assumption⟩
set_option maxHeartbeats 4000000 in
theorem madeN {o : Nm} {t : Tok} {news : List (Addr × Obj)} (ho : (o.str == Str.ofString "mother") = false) :
    Spec prog w p loose mean mg mb 1048 [.str o.str t] 30 300 news (fun r news' => Sub news news' ∧ ∃ e, r = .ref e ∧ ExIn news' e (.nm o)) := by
  unfold Spec
  intro dp un gd cn cs a ccd cl outer A₀ base h₀ L m s Q E B F X N T hk hd hu hret
  refine wpAny_call ?_
  k_dflt ktr_enter
  k_steps
  exact hret _ _ _ _ (by k_asm) (by k_asm) ⟨by ktr_rel, _, rfl, by with_reducible assumption⟩
theorem lawMade {o : Nm} {t : Tok} {news : List (Addr × Obj)} :
    Spec prog w p loose mean mg mb 1048 [.str o.str t] 30 300 news (fun r news' => Sub news news' ∧ ∃ e, r = .ref e ∧ ExIn news' e (tmOf o)) := by
  cases o <;> first | exact madeM | exact madeN (by decide +kernel)
set_option maxHeartbeats 4000000 in
theorem mkBD0  {news : List (Addr × Obj)}  :
    Spec prog w p loose mean mg mb 1017 [] 30 300 news (fun r news' => Sub news news' ∧ ∃ b d, r = .ref b ∧ (∀ p ∈ news, p.1 < d) ∧ HeldAt prog w news' b d []) := by
  unfold Spec
  intro dp un gd cn cs a ccd cl outer A₀ base h₀ L m s Q E B F X N T hk hd hu hret
  k_dflt (refine' call_cls ?k1 ?k2 ?k3 ?k4 ?k5 ?k6 ?_; (case k1 => k_asm); (case k2 => k_asm); (case k3 => k_asm); (case k4 => k_is); (case k5 => k_is); (case k6 => k_is); k_whole; intro x' d' h' F' N' l1 l2; (try k_lt l1); (try k_lt2 l2); (refine' code_def ?k1 ?k2 ?k3 ?k4 ?k5 ?kA ?kF ?kK ?k6 ?k7 ?k8 ?k9 ?kB ?_ ?c2 ?c3 ?c4 ?c5; (case kA => exact rfl); (case kF => exact rfl); (case kK => assumption); (case k1 => k_asm); (case k2 => k_asm); (case k3 => k_asm); (case k4 => k_asm); (case k5 => k_asm); (case k6 => k_is); (case k7 => k_is); (case k8 => ktr_room); (case k9 => first | exact BindsTo.of_eq rfl | exact binds_K (by k_in) rfl (by k_is) rfl rfl rfl); (case c5 => decide); (case kB => exact locs rfl); (case c2 => exact rfl); (case c3 => exact rfl); (case c4 => exact rfl); k_whole; intro g' L' h' FG' F' N' B' X' T'; (try dsimp only); (try k_fold)))
  k_steps
  exact hret _ _ _ _ (by k_asm) (by k_asm) ⟨by ktr_rel, _, _, rfl, fun p hp => ktn_ltOf (by assumption : _ < _ ∧ _ < _ ∧ AllLt _ news).2.2 p hp, _, _, _, _, Nat.ne_of_lt (by assumption : _ < _ ∧ _ < _ ∧ AllLt _ news).2.1, by k_mem, by k_mem, ⟨_, by k_mem, by assumption, by assumption⟩, .nil⟩
end
end
section
theorem offG1 : True := by
  w_top off
  trivial
open PySem PySem.W PySem.Spec PySem.Calls PyProof.Rows
set_option maxRecDepth 100000
section
variable {prog : Program} {w : World} {p : Program} {loose : List Str} {mean : ExcName → Option Value} {mg mb : Str → Option Value}
local macro_rules | `(tactic| k_is) => `(tactic| first
  | with_reducible exact kfA _ _
  | with_reducible exact kfB _ _
  | with_reducible exact kfC _ _
  | with_reducible exact kfD _ _
  | with_reducible exact kfE _ _
  | with_reducible exact kfF _ _
  | with_reducible exact kfM _ _
  | with_reducible exact kfG _ _
  | with_reducible exact kfH _ _
  | with_reducible exact kfI _ _ _
  | with_reducible exact kfJ _ _
  | with_reducible exact kfK _ _
  )
local macro_rules | `(tactic| walk_at "call ref") => `(tactic| (k_here; (with_reducible show wpAny _ _ (call (Value.ref 126) [Value.str (Nm.str _) _] _) _ _ _); k_dflt (refine' use (mkVar) ?k1 ?k2 ?k3 ?k4 ?k5 ?kK ?kd ?ku ?_; (case k1 => k_asm); (case k2 => k_asm); (case k3 => k_asm); (case k4 => k_asm); (case k5 => k_asm); (case kK => first | exact rfl | assumption); (case kd => ktr_room); (case ku => ktr_units)); (intro r9 news9 h9 tk9 F9 N9 P9; (obtain ⟨S9, v9, e9, H9⟩ := P9; subst e9); (try dsimp only); kts_tail)))
local macro_rules | `(tactic| walk_at "call ref") => `(tactic| (k_here; (with_reducible show wpAny _ _ (call (Value.ref 126) [Value.str (Str.ofString "mother") _] _) _ _ _); k_dflt (refine' use (mkVar (n := .mother)) ?k1 ?k2 ?k3 ?k4 ?k5 ?kK ?kd ?ku ?_; (case k1 => k_asm); (case k2 => k_asm); (case k3 => k_asm); (case k4 => k_asm); (case k5 => k_asm); (case kK => first | exact rfl | assumption); (case kd => ktr_room); (case ku => ktr_units)); (intro r9 news9 h9 tk9 F9 N9 P9; (obtain ⟨S9, v9, e9, H9⟩ := P9; subst e9); (try dsimp only); kts_tail)))
local macro_rules | `(tactic| walk_at "call ref") => `(tactic| (k_here; (with_reducible show wpAny _ _ (call (Value.ref 126) [Value.str (Str.ofString "rex") _] _) _ _ _); k_dflt (refine' use (mkVar (n := .rex)) ?k1 ?k2 ?k3 ?k4 ?k5 ?kK ?kd ?ku ?_; (case k1 => k_asm); (case k2 => k_asm); (case k3 => k_asm); (case k4 => k_asm); (case k5 => k_asm); (case kK => first | exact rfl | assumption); (case kd => ktr_room); (case ku => ktr_units)); (intro r9 news9 h9 tk9 F9 N9 P9; (obtain ⟨S9, v9, e9, H9⟩ := P9; subst e9); (try dsimp only); kts_tail)))
local macro_rules | `(tactic| walk_at "call ref") => `(tactic| (k_here; (with_reducible show wpAny _ _ (call (Value.ref 126) [Value.str (Str.ofString "gives") _] _) _ _ _); k_dflt (refine' use (mkVar (n := .gives)) ?k1 ?k2 ?k3 ?k4 ?k5 ?kK ?kd ?ku ?_; (case k1 => k_asm); (case k2 => k_asm); (case k3 => k_asm); (case k4 => k_asm); (case k5 => k_asm); (case kK => first | exact rfl | assumption); (case kd => ktr_room); (case ku => ktr_units)); (intro r9 news9 h9 tk9 F9 N9 P9; (obtain ⟨S9, v9, e9, H9⟩ := P9; subst e9); (try dsimp only); kts_tail)))
local macro_rules | `(tactic| walk_at "call ref") => `(tactic| (k_here; (with_reducible show wpAny _ _ (call (Value.ref 584) _ _) _ _ _); k_dflt (refine' use (mkEx ?s1) ?k1 ?k2 ?k3 ?k4 ?k5 ?kK ?kd ?ku ?_; (case k1 => k_asm); (case k2 => k_asm); (case k3 => k_asm); (case k4 => k_asm); (case k5 => k_asm); (case kK => first | exact rfl | assumption); (case kd => ktr_room); (case ku => ktr_units); (case s1 => ktr_rel)); (intro r9 news9 h9 tk9 F9 N9 P9; (obtain ⟨S9, v9, e9, H9⟩ := P9; subst e9); (try dsimp only); kts_tail)))
local macro_rules | `(tactic| walk_at "call ref") => `(tactic| (k_here; (with_reducible show wpAny _ _ (call (Value.ref 423) _ _) _ _ _); k_dflt (refine' use (mkApp ?s1 ?s2) ?k1 ?k2 ?k3 ?k4 ?k5 ?kK ?kd ?ku ?_; (case k1 => k_asm); (case k2 => k_asm); (case k3 => k_asm); (case k4 => k_asm); (case k5 => k_asm); (case kK => first | exact rfl | assumption); (case kd => ktr_room); (case ku => ktr_units); (case s1 => ktr_rel); (case s2 => ktr_rel)); (intro r9 news9 h9 tk9 F9 N9 P9; (obtain ⟨S9, v9, e9, H9⟩ := P9; subst e9); (try dsimp only); kts_tail)))
theorem truthyEx {M : Model} {A : Around} {E : Value → Shared → Prop} {Q : Bool → Shared → Prop} {s : Shared} {h₀ : Heap} {L e : Addr} {m : Str → Option Value} {t : Tm} {news : List (Addr × Obj)} (F : Fr h₀ L s.heap m) (X : (hd.heap_39 w.params).In h₀) (he : ExIn news e t) (N : News h₀ L s.heap news) (h : Q true s) :
    wpAny M A (truthy (.ref e)) Q E s := by
  cases he with
  | nm h1 h2 hv => exact truthy_K0 F X (InstAt.of_news N h1 h2) (kfG _ _) (kfH _ _) h
  | app h1 h2 hf ha => exact truthy_K0 F X (InstAt.of_news N h1 h2) (by k_is) (by k_is) h
local macro_rules | `(tactic| walk_at "truthy ref") => `(tactic| (k_here; k_dflt (refine' truthyEx ?F ?X ?he ?N ?_; (case F => k_asm); (case X => k_asm); (case N => k_asm); (case he => ktr_rel))))
local macro_rules | `(tactic| walk_at "compareOp Eq ref") => `(tactic| (k_here; (with_reducible show wpAny _ _ (compareOp CmpOp.Eq (Value.ref _) (Value.ref _)) _ _ _); k_dflt (refine' useT (cmpEx ?f1 ?f2 ?s1 ?s2) ?k1 ?k2 ?k3 ?k4 ?k5 ?kK ?kd ?ku ?_; (case k1 => k_asm); (case k2 => k_asm); (case k3 => k_asm); (case k4 => k_asm); (case k5 => k_asm); (case kK => first | exact rfl | assumption); (case kd => ktr_room); (case ku => ktr_units); (case s1 => ktr_rel); (case s2 => ktr_rel); (case f1 => first | exact flat_tmOf _ | rfl); (case f2 => first | exact flat_tmOf _ | rfl)); (intro r9 news9 h9 tk9 F9 N9 P9; (obtain ⟨S9, e9⟩ := P9; subst e9); (try dsimp only); kts_tail)))
local macro_rules | `(tactic| walk_at "compareOp Eq ref ref") => `(tactic| (k_here; (with_reducible show wpAny _ _ (compareOp CmpOp.Eq (Value.ref _) (Value.ref _)) _ _ _); k_dflt (refine' useT (cmpEx ?f1 ?f2 ?s1 ?s2) ?k1 ?k2 ?k3 ?k4 ?k5 ?kK ?kd ?ku ?_; (case k1 => k_asm); (case k2 => k_asm); (case k3 => k_asm); (case k4 => k_asm); (case k5 => k_asm); (case kK => first | exact rfl | assumption); (case kd => ktr_room); (case ku => ktr_units); (case s1 => ktr_rel); (case s2 => ktr_rel); (case f1 => first | exact flat_tmOf _ | rfl); (case f2 => first | exact flat_tmOf _ | rfl)); (intro r9 news9 h9 tk9 F9 N9 P9; (obtain ⟨S9, e9⟩ := P9; subst e9); (try dsimp only); kts_tail)))
local macro_rules | `(tactic| walk_at "subscriptTail") => `(tactic| (k_here; (with_reducible show wpAny _ _ (subscriptTail _ _ (Value.ref _) (Value.str _ _)) _ _ _); k_dflt (refine' d_missing ?N ?D ?e ?hh ?_; (case N => k_asm); (case D => ktr_rel); (case e => with_reducible assumption); (case hh => rfl)); intro h9 e9 x9))
local macro_rules | `(tactic| walk_at "call builtin:isinstance") => `(tactic| (k_here; (with_reducible show wpAny _ _ (call (Value.builtin _) [Value.ref _, Value.ref 318]) _ _ _); k_dflt (refine' isiEx ?he ?X ?N ?_; (case N => k_asm); (case he => ktr_rel); (case X => k_in))))
theorem Rel2.monoA {l l' : List (Addr × Obj)} {kvs : List (Str × Value)} {κ : List (Nm × Nm)} (R : Rel2 (Ent (HVal l)) kvs κ) (k : KeepsA l l') : Rel2 (Ent (HVal l')) kvs κ :=
  R.mono fun _ _ h => ⟨h.1, let ⟨e, h1, h2⟩ := h.2; ⟨e, h1, h2.monoA k⟩⟩
theorem heldOf {l l' : List (Addr × Obj)} {b d db : Addr} {hh : Int} {tt : Tok} {kvs : List (Str × Value)} {κ : List (Nm × Nm)} (hne : db ≠ d) (hb : (b, instObj 1017 db) ∈ l) (hdb : (db, dictOf [⟨hh, .str (Str.ofString "d") tt, .ref d⟩] 1) ∈ l)
    (k : KeepsA l l') (D : DictAt prog w l' d kvs) (R : Rel2 (Ent (HVal l')) kvs κ) : HeldAt prog w l' b d κ :=
  ⟨db, hh, tt, kvs, hne, k _ hb attrish_inst, k _ hdb attrish_d, D, R⟩
set_option maxHeartbeats 8000000 in
theorem si1 {n o : Nm} {b d v e : Addr} {news : List (Addr × Obj)} (hn : isVar n = true) {κ : List (Nm × Nm)} {kvs : List (Str × Value)} {db : Addr} {hh : Int} {tt : Tok} (hne : db ≠ d) (hb : (b, instObj 1017 db) ∈ news) (hdb : (db, dictOf [⟨hh, .str (Str.ofString "d") tt, .ref d⟩] 1) ∈ news) (DA : DictAt prog w news d kvs) (R : Rel2 (Ent (HVal news)) kvs κ) (hz : kvs.length ≤ sizeLine) (hv : VarIn news v n) (he : ExIn news e (tmOf o)) (h1 : look κ n = none) :
    SpecS prog w p loose mean mg mb 986 [.ref b, .ref v, .ref e] 40 400 news (fun r news' => SubBut d news news' ∧ KeepsA news news' ∧ r = .none ∧ ∃ κ', keepF κ n o = some κ' ∧ HeldAt prog w news' b d κ') (fun news' => keepF κ n o = none ∧ Sub news news') := by
  obtain ⟨dv1, ha1, ta1, tb1, hv1, hv2⟩ := id hv
  have e1 := R.none h1
  unfold SpecS
  intro dp un gd cn cs a ccd cl outer A₀ base h₀ g₀ L m s Q E B F X N T XB TB D T0 hk hd hu hret hexc
  refine wpAny_call ?_
  k_dflt (refine' enterS ?k1 ?k2 ?k3 ?k4 ?k5 ?XB ?TB ?D ?T0 ?kA ?kF ?kK ?k6 ?k7 ?k8 ?k9 ?kB ?ret ?exc ?_ ?c2 ?c3 ?c4 ?c5; (case kA => exact rfl); (case kF => exact rfl); (case kK => assumption); (case k1 => k_asm); (case k2 => k_asm); (case k3 => k_asm); (case k4 => k_asm); (case k5 => k_asm); (case XB => assumption); (case TB => assumption); (case D => assumption); (case T0 => assumption); (case k6 => k_is); (case k7 => k_is); (case k8 => ktr_room); (case k9 => first | exact BindsTo.of_eq rfl | exact binds_K (by k_in) rfl (by k_is) rfl rfl rfl); (case c5 => decide); (case kB => exact locs rfl); (case c2 => exact rfl); (case c3 => exact rfl); (case c4 => exact rfl); (case ret => exact hret); (case exc => exact hexc); intro g' L' h' FG' F' N' B' X' T' D'; (try dsimp only); (try k_fold))
  k_steps
  refine' ⟨?zg, ?zL, ?zm, ?zn, ?zh, ?zt, ?ze, ?zT, ?zF, ?zN, ?zP⟩; (case ze => exact rfl); (case zF => k_asm); (case zN => k_asm); (case zT => first | assumption | exact KtsTurn.refl)
  case zP => exact ⟨by ktr_rel, by ktr_rel, rfl, _, by unfold keepF; rw [h1], heldOf hne hb hdb (by ktr_rel) (by assumption) (Rel2.put_new (R.monoA (by ktr_rel)) h1 ⟨_, rfl, by ktr_rel⟩)⟩
theorem tmOf_inj {a b : Nm} (h : tmOf a = tmOf b) : a = b := by cases a <;> cases b <;> first | rfl | (cases h)
theorem tm_ne {a b : Nm} (h : a ≠ b) : decide (tmOf b = tmOf a) = false := decide_eq_false fun e => h (tmOf_inj e).symm
theorem tm_eq (a : Nm) : decide (tmOf a = tmOf a) = true := decide_eq_true rfl
theorem tm_var {a : Nm} (h : isVar a = true) : tmOf a = .nm a := by cases a <;> first | rfl | (cases h)
theorem cls_var {a : Nm} (h : isVar a = true) : a.cls = 511 := by cases a <;> first | rfl | (cases h)
set_option maxHeartbeats 8000000 in
theorem si2 {n o : Nm} {b d v e : Addr} {news : List (Addr × Obj)} (hn : isVar n = true) {κ : List (Nm × Nm)} {kvs : List (Str × Value)} {db : Addr} {hh : Int} {tt : Tok} (hne : db ≠ d) (hb : (b, instObj 1017 db) ∈ news) (hdb : (db, dictOf [⟨hh, .str (Str.ofString "d") tt, .ref d⟩] 1) ∈ news) (DA : DictAt prog w news d kvs) (R : Rel2 (Ent (HVal news)) kvs κ) (hz : kvs.length ≤ sizeLine) (hv : VarIn news v n) (he : ExIn news e (tmOf o)) (h1 : look κ n = some o) :
    SpecS prog w p loose mean mg mb 986 [.ref b, .ref v, .ref e] 40 400 news (fun r news' => SubBut d news news' ∧ KeepsA news news' ∧ r = .none ∧ ∃ κ', keepF κ n o = some κ' ∧ HeldAt prog w news' b d κ') (fun news' => keepF κ n o = none ∧ Sub news news') := by
  obtain ⟨dv1, ha1, ta1, tb1, hv1, hv2⟩ := id hv
  obtain ⟨v1, e1, ev1, q1, x1⟩ := R.some h1
  subst q1
  have q2 := tm_eq o
  unfold SpecS
  intro dp un gd cn cs a ccd cl outer A₀ base h₀ g₀ L m s Q E B F X N T XB TB D T0 hk hd hu hret hexc
  refine wpAny_call ?_
  k_dflt (refine' enterS ?k1 ?k2 ?k3 ?k4 ?k5 ?XB ?TB ?D ?T0 ?kA ?kF ?kK ?k6 ?k7 ?k8 ?k9 ?kB ?ret ?exc ?_ ?c2 ?c3 ?c4 ?c5; (case kA => exact rfl); (case kF => exact rfl); (case kK => assumption); (case k1 => k_asm); (case k2 => k_asm); (case k3 => k_asm); (case k4 => k_asm); (case k5 => k_asm); (case XB => assumption); (case TB => assumption); (case D => assumption); (case T0 => assumption); (case k6 => k_is); (case k7 => k_is); (case k8 => ktr_room); (case k9 => first | exact BindsTo.of_eq rfl | exact binds_K (by k_in) rfl (by k_is) rfl rfl rfl); (case c5 => decide); (case kB => exact locs rfl); (case c2 => exact rfl); (case c3 => exact rfl); (case c4 => exact rfl); (case ret => exact hret); (case exc => exact hexc); intro g' L' h' FG' F' N' B' X' T' D'; (try dsimp only); (try k_fold))
  k_steps
  refine' ⟨?zg, ?zL, ?zm, ?zn, ?zh, ?zt, ?ze, ?zT, ?zF, ?zN, ?zP⟩; (case ze => exact rfl); (case zF => k_asm); (case zN => k_asm); (case zT => first | assumption | exact KtsTurn.refl)
  case zP => exact ⟨by ktr_rel, by ktr_rel, rfl, κ, by unfold keepF; simp only [h1, if_true], heldOf hne hb hdb (by ktr_rel) (by assumption) (Rel2.put_old (R.monoA (by ktr_rel)) DA.nodup h1 ⟨_, rfl, by ktr_rel⟩)⟩
set_option maxHeartbeats 8000000 in
theorem si4 {n o : Nm} {b d v e : Addr} {news : List (Addr × Obj)} (hn : isVar n = true) {κ : List (Nm × Nm)} {kvs : List (Str × Value)} {db : Addr} {hh : Int} {tt : Tok} (hne : db ≠ d) (hb : (b, instObj 1017 db) ∈ news) (hdb : (db, dictOf [⟨hh, .str (Str.ofString "d") tt, .ref d⟩] 1) ∈ news) (DA : DictAt prog w news d kvs) (R : Rel2 (Ent (HVal news)) kvs κ) (hz : kvs.length ≤ sizeLine) (hv : VarIn news v n) (he : ExIn news e (tmOf o)) {o1 : Nm} (h1 : look κ n = some o1) (h2 : o1 ≠ o) (h3 : isVar o = true) (h4 : look κ o = none) :
    SpecS prog w p loose mean mg mb 986 [.ref b, .ref v, .ref e] 40 400 news (fun r news' => SubBut d news news' ∧ KeepsA news news' ∧ r = .none ∧ ∃ κ', keepF κ n o = some κ' ∧ HeldAt prog w news' b d κ') (fun news' => keepF κ n o = none ∧ Sub news news') := by
  obtain ⟨dv1, ha1, ta1, tb1, hv1, hv2⟩ := id hv
  obtain ⟨v1, e1, ev1, q1, x1⟩ := R.some h1
  subst q1
  have q2 := tm_ne h2
  have e2 := R.none h4
  have he' := he
  rw [tm_var h3] at he
  cases he with
  | nm heA heB heV =>
  obtain ⟨dv3, ha3, ta3, tb3, heC, heD⟩ := id heV
  rw [cls_var h3] at heA
  unfold SpecS
  intro dp un gd cn cs a ccd cl outer A₀ base h₀ g₀ L m s Q E B F X N T XB TB D T0 hk hd hu hret hexc
  refine wpAny_call ?_
  k_dflt (refine' enterS ?k1 ?k2 ?k3 ?k4 ?k5 ?XB ?TB ?D ?T0 ?kA ?kF ?kK ?k6 ?k7 ?k8 ?k9 ?kB ?ret ?exc ?_ ?c2 ?c3 ?c4 ?c5; (case kA => exact rfl); (case kF => exact rfl); (case kK => assumption); (case k1 => k_asm); (case k2 => k_asm); (case k3 => k_asm); (case k4 => k_asm); (case k5 => k_asm); (case XB => assumption); (case TB => assumption); (case D => assumption); (case T0 => assumption); (case k6 => k_is); (case k7 => k_is); (case k8 => ktr_room); (case k9 => first | exact BindsTo.of_eq rfl | exact binds_K (by k_in) rfl (by k_is) rfl rfl rfl); (case c5 => decide); (case kB => exact locs rfl); (case c2 => exact rfl); (case c3 => exact rfl); (case c4 => exact rfl); (case ret => exact hret); (case exc => exact hexc); intro g' L' h' FG' F' N' B' X' T' D'; (try dsimp only); (try k_fold))
  k_steps
  refine' ⟨?zg, ?zL, ?zm, ?zn, ?zh, ?zt, ?ze, ?zT, ?zF, ?zN, ?zP⟩; (case ze => exact rfl); (case zF => k_asm); (case zN => k_asm); (case zT => first | assumption | exact KtsTurn.refl)
  case zP => exact ⟨by ktr_rel, by ktr_rel, rfl, κ ++ [(o, n)], by unfold keepF; simp only [h1, h2, h3, h4, if_false, if_true], heldOf hne hb hdb (by ktr_rel) (by assumption) (Rel2.put_new (R.monoA (by ktr_rel)) h4 ⟨_, rfl, by rw [tm_var hn]; ktr_rel⟩)⟩
set_option maxHeartbeats 8000000 in
theorem si5 {n o : Nm} {b d v e : Addr} {news : List (Addr × Obj)} (hn : isVar n = true) {κ : List (Nm × Nm)} {kvs : List (Str × Value)} {db : Addr} {hh : Int} {tt : Tok} (hne : db ≠ d) (hb : (b, instObj 1017 db) ∈ news) (hdb : (db, dictOf [⟨hh, .str (Str.ofString "d") tt, .ref d⟩] 1) ∈ news) (DA : DictAt prog w news d kvs) (R : Rel2 (Ent (HVal news)) kvs κ) (hz : kvs.length ≤ sizeLine) (hv : VarIn news v n) (he : ExIn news e (tmOf o)) {o1 : Nm} (h1 : look κ n = some o1) (h2 : o1 ≠ o) (h3 : isVar o = true) (h4 : look κ o = some n) :
    SpecS prog w p loose mean mg mb 986 [.ref b, .ref v, .ref e] 40 400 news (fun r news' => SubBut d news news' ∧ KeepsA news news' ∧ r = .none ∧ ∃ κ', keepF κ n o = some κ' ∧ HeldAt prog w news' b d κ') (fun news' => keepF κ n o = none ∧ Sub news news') := by
  obtain ⟨dv1, ha1, ta1, tb1, hv1, hv2⟩ := id hv
  obtain ⟨v1, e1, ev1, q1, x1⟩ := R.some h1
  subst q1
  have q2 := tm_ne h2
  obtain ⟨v2, e2, ev2, q2, x2⟩ := R.some h4
  subst q2
  rw [tm_var hn] at x2
  have q3 : decide (Tm.nm n = Tm.nm n) = true := decide_eq_true rfl
  have he' := he
  rw [tm_var h3] at he
  cases he with
  | nm heA heB heV =>
  obtain ⟨dv3, ha3, ta3, tb3, heC, heD⟩ := id heV
  rw [cls_var h3] at heA
  unfold SpecS
  intro dp un gd cn cs a ccd cl outer A₀ base h₀ g₀ L m s Q E B F X N T XB TB D T0 hk hd hu hret hexc
  refine wpAny_call ?_
  k_dflt (refine' enterS ?k1 ?k2 ?k3 ?k4 ?k5 ?XB ?TB ?D ?T0 ?kA ?kF ?kK ?k6 ?k7 ?k8 ?k9 ?kB ?ret ?exc ?_ ?c2 ?c3 ?c4 ?c5; (case kA => exact rfl); (case kF => exact rfl); (case kK => assumption); (case k1 => k_asm); (case k2 => k_asm); (case k3 => k_asm); (case k4 => k_asm); (case k5 => k_asm); (case XB => assumption); (case TB => assumption); (case D => assumption); (case T0 => assumption); (case k6 => k_is); (case k7 => k_is); (case k8 => ktr_room); (case k9 => first | exact BindsTo.of_eq rfl | exact binds_K (by k_in) rfl (by k_is) rfl rfl rfl); (case c5 => decide); (case kB => exact locs rfl); (case c2 => exact rfl); (case c3 => exact rfl); (case c4 => exact rfl); (case ret => exact hret); (case exc => exact hexc); intro g' L' h' FG' F' N' B' X' T' D'; (try dsimp only); (try k_fold))
  k_steps
  refine' ⟨?zg, ?zL, ?zm, ?zn, ?zh, ?zt, ?ze, ?zT, ?zF, ?zN, ?zP⟩; (case ze => exact rfl); (case zF => k_asm); (case zN => k_asm); (case zT => first | assumption | exact KtsTurn.refl)
  case zP => exact ⟨by ktr_rel, by ktr_rel, rfl, κ, by unfold keepF; simp only [h1, h2, h3, h4, if_false, if_true], heldOf hne hb hdb (by ktr_rel) (by assumption) (Rel2.put_old (R.monoA (by ktr_rel)) DA.nodup h4 ⟨_, rfl, by rw [tm_var hn]; ktr_rel⟩)⟩
set_option maxHeartbeats 8000000 in
theorem si6 {n o : Nm} {b d v e : Addr} {news : List (Addr × Obj)} (hn : isVar n = true) {κ : List (Nm × Nm)} {kvs : List (Str × Value)} {db : Addr} {hh : Int} {tt : Tok} (hne : db ≠ d) (hb : (b, instObj 1017 db) ∈ news) (hdb : (db, dictOf [⟨hh, .str (Str.ofString "d") tt, .ref d⟩] 1) ∈ news) (DA : DictAt prog w news d kvs) (R : Rel2 (Ent (HVal news)) kvs κ) (hz : kvs.length ≤ sizeLine) (hv : VarIn news v n) (he : ExIn news e (tmOf o)) {o1 o2 : Nm} (h1 : look κ n = some o1) (h2 : o1 ≠ o) (h3 : isVar o = true) (h4 : look κ o = some o2) (h5 : o2 ≠ n) :
    SpecS prog w p loose mean mg mb 986 [.ref b, .ref v, .ref e] 40 400 news (fun r news' => SubBut d news news' ∧ KeepsA news news' ∧ r = .none ∧ ∃ κ', keepF κ n o = some κ' ∧ HeldAt prog w news' b d κ') (fun news' => keepF κ n o = none ∧ Sub news news') := by
  obtain ⟨dv1, ha1, ta1, tb1, hv1, hv2⟩ := id hv
  obtain ⟨v1, e1, ev1, q1, x1⟩ := R.some h1
  subst q1
  have q2 := tm_ne h2
  obtain ⟨v2, e2, ev2, q2, x2⟩ := R.some h4
  subst q2
  have q3 : decide (Tm.nm n = tmOf o2) = false := by rw [← tm_var hn]; exact tm_ne h5
  have he' := he
  rw [tm_var h3] at he
  cases he with
  | nm heA heB heV =>
  obtain ⟨dv3, ha3, ta3, tb3, heC, heD⟩ := id heV
  rw [cls_var h3] at heA
  unfold SpecS
  intro dp un gd cn cs a ccd cl outer A₀ base h₀ g₀ L m s Q E B F X N T XB TB D T0 hk hd hu hret hexc
  refine wpAny_call ?_
  k_dflt (refine' enterS ?k1 ?k2 ?k3 ?k4 ?k5 ?XB ?TB ?D ?T0 ?kA ?kF ?kK ?k6 ?k7 ?k8 ?k9 ?kB ?ret ?exc ?_ ?c2 ?c3 ?c4 ?c5; (case kA => exact rfl); (case kF => exact rfl); (case kK => assumption); (case k1 => k_asm); (case k2 => k_asm); (case k3 => k_asm); (case k4 => k_asm); (case k5 => k_asm); (case XB => assumption); (case TB => assumption); (case D => assumption); (case T0 => assumption); (case k6 => k_is); (case k7 => k_is); (case k8 => ktr_room); (case k9 => first | exact BindsTo.of_eq rfl | exact binds_K (by k_in) rfl (by k_is) rfl rfl rfl); (case c5 => decide); (case kB => exact locs rfl); (case c2 => exact rfl); (case c3 => exact rfl); (case c4 => exact rfl); (case ret => exact hret); (case exc => exact hexc); intro g' L' h' FG' F' N' B' X' T' D'; (try dsimp only); (try k_fold))
  k_steps
  refine' ⟨?zg, ?ze, ?zt, ?zvs, ?zn, ?zh, ?ztk, ?z1, ?z2, ?zT, ?zR, ?zU, ?zP⟩; (case z1 => exact rfl); (case z2 => exact rfl); (case zR => assumption); (case zU => assumption); (case zT => first | assumption | exact KtsTurn.refl)
  case zP => exact ⟨by unfold keepF; simp only [h1, h2, h3, h4, h5, if_false, if_true], by ktr_rel⟩
end
end
section
local macro_rules | `(tactic| walk_at "mine idle") => `(tactic| skip)
theorem offG2 : True := by
  w_top off
  trivial
open PySem PySem.W PySem.Spec PySem.Calls PyProof.Rows
set_option maxRecDepth 100000
section
variable {prog : Program} {w : World} {p : Program} {loose : List Str} {mean : ExcName → Option Value} {mg mb : Str → Option Value}
local macro_rules | `(tactic| k_is) => `(tactic| first
  | with_reducible exact kfA _ _
  | with_reducible exact kfB _ _
  | with_reducible exact kfC _ _
  | with_reducible exact kfD _ _
  | with_reducible exact kfE _ _
  | with_reducible exact kfF _ _
  | with_reducible exact kfM _ _
  | with_reducible exact kfG _ _
  | with_reducible exact kfH _ _
  | with_reducible exact kfI _ _ _
  | with_reducible exact kfJ _ _
  | with_reducible exact kfK _ _
  )
local macro_rules | `(tactic| walk_at "call ref") => `(tactic| (k_here; (with_reducible show wpAny _ _ (call (Value.ref 126) [Value.str (Nm.str _) _] _) _ _ _); k_dflt (refine' use (mkVar) ?k1 ?k2 ?k3 ?k4 ?k5 ?kK ?kd ?ku ?_; (case k1 => k_asm); (case k2 => k_asm); (case k3 => k_asm); (case k4 => k_asm); (case k5 => k_asm); (case kK => first | exact rfl | assumption); (case kd => ktr_room); (case ku => ktr_units)); (intro r9 news9 h9 tk9 F9 N9 P9; (obtain ⟨S9, v9, e9, H9⟩ := P9; subst e9); (try dsimp only); kts_tail)))
local macro_rules | `(tactic| walk_at "call ref") => `(tactic| (k_here; (with_reducible show wpAny _ _ (call (Value.ref 126) [Value.str (Str.ofString "mother") _] _) _ _ _); k_dflt (refine' use (mkVar (n := .mother)) ?k1 ?k2 ?k3 ?k4 ?k5 ?kK ?kd ?ku ?_; (case k1 => k_asm); (case k2 => k_asm); (case k3 => k_asm); (case k4 => k_asm); (case k5 => k_asm); (case kK => first | exact rfl | assumption); (case kd => ktr_room); (case ku => ktr_units)); (intro r9 news9 h9 tk9 F9 N9 P9; (obtain ⟨S9, v9, e9, H9⟩ := P9; subst e9); (try dsimp only); kts_tail)))
local macro_rules | `(tactic| walk_at "call ref") => `(tactic| (k_here; (with_reducible show wpAny _ _ (call (Value.ref 126) [Value.str (Str.ofString "rex") _] _) _ _ _); k_dflt (refine' use (mkVar (n := .rex)) ?k1 ?k2 ?k3 ?k4 ?k5 ?kK ?kd ?ku ?_; (case k1 => k_asm); (case k2 => k_asm); (case k3 => k_asm); (case k4 => k_asm); (case k5 => k_asm); (case kK => first | exact rfl | assumption); (case kd => ktr_room); (case ku => ktr_units)); (intro r9 news9 h9 tk9 F9 N9 P9; (obtain ⟨S9, v9, e9, H9⟩ := P9; subst e9); (try dsimp only); kts_tail)))
local macro_rules | `(tactic| walk_at "call ref") => `(tactic| (k_here; (with_reducible show wpAny _ _ (call (Value.ref 126) [Value.str (Str.ofString "gives") _] _) _ _ _); k_dflt (refine' use (mkVar (n := .gives)) ?k1 ?k2 ?k3 ?k4 ?k5 ?kK ?kd ?ku ?_; (case k1 => k_asm); (case k2 => k_asm); (case k3 => k_asm); (case k4 => k_asm); (case k5 => k_asm); (case kK => first | exact rfl | assumption); (case kd => ktr_room); (case ku => ktr_units)); (intro r9 news9 h9 tk9 F9 N9 P9; (obtain ⟨S9, v9, e9, H9⟩ := P9; subst e9); (try dsimp only); kts_tail)))
local macro_rules | `(tactic| walk_at "call ref") => `(tactic| (k_here; (with_reducible show wpAny _ _ (call (Value.ref 584) _ _) _ _ _); k_dflt (refine' use (mkEx ?s1) ?k1 ?k2 ?k3 ?k4 ?k5 ?kK ?kd ?ku ?_; (case k1 => k_asm); (case k2 => k_asm); (case k3 => k_asm); (case k4 => k_asm); (case k5 => k_asm); (case kK => first | exact rfl | assumption); (case kd => ktr_room); (case ku => ktr_units); (case s1 => ktr_rel)); (intro r9 news9 h9 tk9 F9 N9 P9; (obtain ⟨S9, v9, e9, H9⟩ := P9; subst e9); (try dsimp only); kts_tail)))
local macro_rules | `(tactic| walk_at "call ref") => `(tactic| (k_here; (with_reducible show wpAny _ _ (call (Value.ref 423) _ _) _ _ _); k_dflt (refine' use (mkApp ?s1 ?s2) ?k1 ?k2 ?k3 ?k4 ?k5 ?kK ?kd ?ku ?_; (case k1 => k_asm); (case k2 => k_asm); (case k3 => k_asm); (case k4 => k_asm); (case k5 => k_asm); (case kK => first | exact rfl | assumption); (case kd => ktr_room); (case ku => ktr_units); (case s1 => ktr_rel); (case s2 => ktr_rel)); (intro r9 news9 h9 tk9 F9 N9 P9; (obtain ⟨S9, v9, e9, H9⟩ := P9; subst e9); (try dsimp only); kts_tail)))
local macro_rules | `(tactic| walk_at "truthy ref") => `(tactic| (k_here; k_dflt (refine' truthyEx ?F ?X ?he ?N ?_; (case F => k_asm); (case X => k_asm); (case N => k_asm); (case he => ktr_rel))))
local macro_rules | `(tactic| walk_at "compareOp Eq ref") => `(tactic| (k_here; (with_reducible show wpAny _ _ (compareOp CmpOp.Eq (Value.ref _) (Value.ref _)) _ _ _); k_dflt (refine' useT (cmpEx ?f1 ?f2 ?s1 ?s2) ?k1 ?k2 ?k3 ?k4 ?k5 ?kK ?kd ?ku ?_; (case k1 => k_asm); (case k2 => k_asm); (case k3 => k_asm); (case k4 => k_asm); (case k5 => k_asm); (case kK => first | exact rfl | assumption); (case kd => ktr_room); (case ku => ktr_units); (case s1 => ktr_rel); (case s2 => ktr_rel); (case f1 => first | exact flat_tmOf _ | rfl); (case f2 => first | exact flat_tmOf _ | rfl)); (intro r9 news9 h9 tk9 F9 N9 P9; (obtain ⟨S9, e9⟩ := P9; subst e9); (try dsimp only); kts_tail)))
local macro_rules | `(tactic| walk_at "compareOp Eq ref ref") => `(tactic| (k_here; (with_reducible show wpAny _ _ (compareOp CmpOp.Eq (Value.ref _) (Value.ref _)) _ _ _); k_dflt (refine' useT (cmpEx ?f1 ?f2 ?s1 ?s2) ?k1 ?k2 ?k3 ?k4 ?k5 ?kK ?kd ?ku ?_; (case k1 => k_asm); (case k2 => k_asm); (case k3 => k_asm); (case k4 => k_asm); (case k5 => k_asm); (case kK => first | exact rfl | assumption); (case kd => ktr_room); (case ku => ktr_units); (case s1 => ktr_rel); (case s2 => ktr_rel); (case f1 => first | exact flat_tmOf _ | rfl); (case f2 => first | exact flat_tmOf _ | rfl)); (intro r9 news9 h9 tk9 F9 N9 P9; (obtain ⟨S9, e9⟩ := P9; subst e9); (try dsimp only); kts_tail)))
local macro_rules | `(tactic| walk_at "subscriptTail") => `(tactic| (k_here; (with_reducible show wpAny _ _ (subscriptTail _ _ (Value.ref _) (Value.str _ _)) _ _ _); k_dflt (refine' d_missing ?N ?D ?e ?hh ?_; (case N => k_asm); (case D => ktr_rel); (case e => with_reducible assumption); (case hh => rfl)); intro h9 e9 x9))
local macro_rules | `(tactic| walk_at "call builtin:isinstance") => `(tactic| (k_here; (with_reducible show wpAny _ _ (call (Value.builtin _) [Value.ref _, Value.ref 318]) _ _ _); k_dflt (refine' isiEx ?he ?X ?N ?_; (case N => k_asm); (case he => ktr_rel); (case X => k_in))))
set_option maxHeartbeats 8000000 in
theorem si3a {n o : Nm} {b d v e : Addr} {news : List (Addr × Obj)} (hn : isVar n = true) {κ : List (Nm × Nm)} {kvs : List (Str × Value)} {db : Addr} {hh : Int} {tt : Tok} (hne : db ≠ d) (hb : (b, instObj 1017 db) ∈ news) (hdb : (db, dictOf [⟨hh, .str (Str.ofString "d") tt, .ref d⟩] 1) ∈ news) (DA : DictAt prog w news d kvs) (R : Rel2 (Ent (HVal news)) kvs κ) (hz : kvs.length ≤ sizeLine) (hv : VarIn news v n) (he : ExIn news e (tmOf o)) {o1 : Nm} (h1 : look κ n = some o1) (h2 : o1 ≠ o) (h3 : isVar o = false) (h4 : tmOf o = .nm o) (h5 : o.cls = 575) :
    SpecS prog w p loose mean mg mb 986 [.ref b, .ref v, .ref e] 40 400 news (fun r news' => SubBut d news news' ∧ KeepsA news news' ∧ r = .none ∧ ∃ κ', keepF κ n o = some κ' ∧ HeldAt prog w news' b d κ') (fun news' => keepF κ n o = none ∧ Sub news news') := by
  obtain ⟨dv1, ha1, ta1, tb1, hv1, hv2⟩ := id hv
  obtain ⟨v1, e1, ev1, q1, x1⟩ := R.some h1
  subst q1
  have q2 := tm_ne h2
  have he' := he
  rw [h4] at he
  cases he with
  | nm heA heB heV =>
  rw [h5] at heA
  unfold SpecS
  intro dp un gd cn cs a ccd cl outer A₀ base h₀ g₀ L m s Q E B F X N T XB TB D T0 hk hd hu hret hexc
  refine wpAny_call ?_
  k_dflt (refine' enterS ?k1 ?k2 ?k3 ?k4 ?k5 ?XB ?TB ?D ?T0 ?kA ?kF ?kK ?k6 ?k7 ?k8 ?k9 ?kB ?ret ?exc ?_ ?c2 ?c3 ?c4 ?c5; (case kA => exact rfl); (case kF => exact rfl); (case kK => assumption); (case k1 => k_asm); (case k2 => k_asm); (case k3 => k_asm); (case k4 => k_asm); (case k5 => k_asm); (case XB => assumption); (case TB => assumption); (case D => assumption); (case T0 => assumption); (case k6 => k_is); (case k7 => k_is); (case k8 => ktr_room); (case k9 => first | exact BindsTo.of_eq rfl | exact binds_K (by k_in) rfl (by k_is) rfl rfl rfl); (case c5 => decide); (case kB => exact locs rfl); (case c2 => exact rfl); (case c3 => exact rfl); (case c4 => exact rfl); (case ret => exact hret); (case exc => exact hexc); intro g' L' h' FG' F' N' B' X' T' D'; (try dsimp only); (try k_fold))
  k_steps
  refine' ⟨?zg, ?ze, ?zt, ?zvs, ?zn, ?zh, ?ztk, ?z1, ?z2, ?zT, ?zR, ?zU, ?zP⟩; (case z1 => exact rfl); (case z2 => exact rfl); (case zR => assumption); (case zU => assumption); (case zT => first | assumption | exact KtsTurn.refl)
  case zP => exact ⟨by unfold keepF; simp only [h1, h2, h3, if_false, Bool.false_eq_true], by ktr_rel⟩
set_option maxHeartbeats 8000000 in
theorem si3b {n o : Nm} {b d v e : Addr} {news : List (Addr × Obj)} (hn : isVar n = true) {κ : List (Nm × Nm)} {kvs : List (Str × Value)} {db : Addr} {hh : Int} {tt : Tok} (hne : db ≠ d) (hb : (b, instObj 1017 db) ∈ news) (hdb : (db, dictOf [⟨hh, .str (Str.ofString "d") tt, .ref d⟩] 1) ∈ news) (DA : DictAt prog w news d kvs) (R : Rel2 (Ent (HVal news)) kvs κ) (hz : kvs.length ≤ sizeLine) (hv : VarIn news v n) (he : ExIn news e (tmOf o)) {o1 : Nm} {t1 t2 : Tm} (h1 : look κ n = some o1) (h2 : o1 ≠ o) (h3 : isVar o = false) (h4 : tmOf o = .app t1 t2) :
    SpecS prog w p loose mean mg mb 986 [.ref b, .ref v, .ref e] 40 400 news (fun r news' => SubBut d news news' ∧ KeepsA news news' ∧ r = .none ∧ ∃ κ', keepF κ n o = some κ' ∧ HeldAt prog w news' b d κ') (fun news' => keepF κ n o = none ∧ Sub news news') := by
  obtain ⟨dv1, ha1, ta1, tb1, hv1, hv2⟩ := id hv
  obtain ⟨v1, e1, ev1, q1, x1⟩ := R.some h1
  subst q1
  have q2 := tm_ne h2
  have he' := he
  rw [h4] at he
  cases he with
  | app heA heB heF heG =>
  unfold SpecS
  intro dp un gd cn cs a ccd cl outer A₀ base h₀ g₀ L m s Q E B F X N T XB TB D T0 hk hd hu hret hexc
  refine wpAny_call ?_
  k_dflt (refine' enterS ?k1 ?k2 ?k3 ?k4 ?k5 ?XB ?TB ?D ?T0 ?kA ?kF ?kK ?k6 ?k7 ?k8 ?k9 ?kB ?ret ?exc ?_ ?c2 ?c3 ?c4 ?c5; (case kA => exact rfl); (case kF => exact rfl); (case kK => assumption); (case k1 => k_asm); (case k2 => k_asm); (case k3 => k_asm); (case k4 => k_asm); (case k5 => k_asm); (case XB => assumption); (case TB => assumption); (case D => assumption); (case T0 => assumption); (case k6 => k_is); (case k7 => k_is); (case k8 => ktr_room); (case k9 => first | exact BindsTo.of_eq rfl | exact binds_K (by k_in) rfl (by k_is) rfl rfl rfl); (case c5 => decide); (case kB => exact locs rfl); (case c2 => exact rfl); (case c3 => exact rfl); (case c4 => exact rfl); (case ret => exact hret); (case exc => exact hexc); intro g' L' h' FG' F' N' B' X' T' D'; (try dsimp only); (try k_fold))
  k_steps
  refine' ⟨?zg, ?ze, ?zt, ?zvs, ?zn, ?zh, ?ztk, ?z1, ?z2, ?zT, ?zR, ?zU, ?zP⟩; (case z1 => exact rfl); (case z2 => exact rfl); (case zR => assumption); (case zU => assumption); (case zT => first | assumption | exact KtsTurn.refl)
  case zP => exact ⟨by unfold keepF; simp only [h1, h2, h3, if_false, Bool.false_eq_true], by ktr_rel⟩
theorem setItem {n o : Nm} {b d v e : Addr} (hn : isVar n = true) {κ : List (Nm × Nm)} {news : List (Addr × Obj)} (HA : HeldAt prog w news b d κ) (hz : κ.length ≤ 100) (hv : VarIn news v n) (he : ExIn news e (tmOf o)) :
    SpecS prog w p loose mean mg mb 986 [.ref b, .ref v, .ref e] 40 400 news (fun r news' => SubBut d news news' ∧ KeepsA news news' ∧ r = .none ∧ ∃ κ', keepF κ n o = some κ' ∧ HeldAt prog w news' b d κ') (fun news' => keepF κ n o = none ∧ Sub news news') := by
  obtain ⟨db, hh, tt, kvs, hne, hb, hdb, DA, R⟩ := HA
  have hz' : kvs.length ≤ sizeLine := by rw [R.length, sizeLine_eq]; omega
  cases h1 : look κ n with
  | none => exact si1 hn hne hb hdb DA R hz' hv he h1
  | some o1 =>
    by_cases h2 : o1 = o
    · subst h2; exact si2 hn hne hb hdb DA R hz' hv he h1
    · cases h3 : isVar o with
      | false =>
        cases o with
        | x | y | w => cases h3
        | mother => exact si3b hn hne hb hdb DA R hz' hv he h1 h2 h3 rfl
        | rex | tom | gives => exact si3a hn hne hb hdb DA R hz' hv he h1 h2 h3 rfl rfl
      | true =>
        cases h4 : look κ o with
        | none => exact si4 hn hne hb hdb DA R hz' hv he h1 h2 h3 h4
        | some o2 =>
          by_cases h5 : o2 = n
          · subst h5; exact si5 hn hne hb hdb DA R hz' hv he h1 h2 h3 h4
          · exact si6 hn hne hb hdb DA R hz' hv he h1 h2 h3 h4 h5
end
end
section
theorem offH1 : True := by
  w_top off
  trivial
open PySem PySem.W PySem.Spec PySem.Calls PyProof.Rows
set_option maxRecDepth 100000
section
variable {prog : Program} {w : World} {p : Program} {loose : List Str} {mean : ExcName → Option Value} {mg mb : Str → Option Value}
local macro_rules | `(tactic| walk_at "compareOp Eq ref ref") => `(tactic| (k_here; (refine cmp_ofEq ?_); k_dflt (refine' cmp_K ?k1 ?k2 ?k3 ?k4 ?k5 ?k6 ?k7 ?k8 ?_; (case k1 => k_units); (case k2 => k_asm); (case k3 => k_asm); (case k4 => k_inst); (case k5 => exact InstAt.type (by k_inst)); (case k6 => k_is); (case k7 => k_is); (case k8 => k_is); k_whole)))
local macro_rules | `(tactic| k_is) => `(tactic| first
  | with_reducible exact kfA _ _
  | with_reducible exact kfB _ _
  | with_reducible exact kfC _ _
  | with_reducible exact kfD _ _
  | with_reducible exact kfE _ _
  | with_reducible exact kfF _ _
  | with_reducible exact kfM _ _
  | with_reducible exact kfG _ _
  | with_reducible exact kfH _ _
  | with_reducible exact kfI _ _ _
  | with_reducible exact kfJ _ _
  | with_reducible exact kfK _ _
  )
local macro_rules | `(tactic| walk_at "call ref") => `(tactic| (k_here; (with_reducible show wpAny _ _ (call (Value.ref 126) [Value.str (Nm.str _) _] _) _ _ _); k_dflt (refine' use (mkVar) ?k1 ?k2 ?k3 ?k4 ?k5 ?kK ?kd ?ku ?_; (case k1 => k_asm); (case k2 => k_asm); (case k3 => k_asm); (case k4 => k_asm); (case k5 => k_asm); (case kK => first | exact rfl | assumption); (case kd => ktr_room); (case ku => ktr_units)); (intro r9 news9 h9 tk9 F9 N9 P9; (obtain ⟨S9, v9, e9, H9⟩ := P9; subst e9; have H8 := H9; obtain ⟨dv9, hh9, ta9, tb9, hv9, hw9⟩ := H8); (try dsimp only); kts_tail)))
theorem toldTm {o : Nm} {e : Addr} {news : List (Addr × Obj)} (he : ExIn news e (tmOf o)) :
    Spec prog w p loose mean mg mb 1055 [.ref e] 8 80 news (fun r news' => Sub news news' ∧ ∃ t, r = .str o.str t) := by
  cases o with
  | mother => exact toldA he
  | x | y | w => exact toldN511 rfl he
  | rex | tom | gives => exact toldN575 rfl he
local macro_rules | `(tactic| walk_at "call ref") => `(tactic| (k_here; (with_reducible show wpAny _ _ (call (Value.ref 1055) _ _) _ _ _); k_dflt (refine' use (toldTm ?s1) ?k1 ?k2 ?k3 ?k4 ?k5 ?kK ?kd ?ku ?_; (case k1 => k_asm); (case k2 => k_asm); (case k3 => k_asm); (case k4 => k_asm); (case k5 => k_asm); (case kK => first | exact rfl | assumption); (case kd => ktr_room); (case ku => ktr_units); (case s1 => ktr_rel)); (intro r9 news9 h9 tk9 F9 N9 P9; (obtain ⟨S9, t9, e9⟩ := P9; subst e9); (try dsimp only); kts_tail)))
set_option maxHeartbeats 8000000 in
theorem la1 {n o : Nm} {b d : Addr} {t : Tok} {news : List (Addr × Obj)} {κ : List (Nm × Nm)} (HA : HeldAt prog w news b d κ) (h1 : look κ n = some o) :
    SpecS prog w p loose mean mg mb 1069 [.ref b, .str n.str t] 40 400 news (fun r news' => Sub news news' ∧ ∃ t, r = .str o.str t) (fun news' => False) := by
  obtain ⟨db, hh, tt, kvs, hne, hb, hdb, DA, R⟩ := HA
  obtain ⟨v1, e1, ev1, q1, x1⟩ := R.some h1
  subst q1
  unfold SpecS
  intro dp un gd cn cs a ccd cl outer A₀ base h₀ g₀ L m s Q E B F X N T XB TB D T0 hk hd hu hret hexc
  refine wpAny_call ?_
  k_dflt (refine' enterS ?k1 ?k2 ?k3 ?k4 ?k5 ?XB ?TB ?D ?T0 ?kA ?kF ?kK ?k6 ?k7 ?k8 ?k9 ?kB ?ret ?exc ?_ ?c2 ?c3 ?c4 ?c5; (case kA => exact rfl); (case kF => exact rfl); (case kK => assumption); (case k1 => k_asm); (case k2 => k_asm); (case k3 => k_asm); (case k4 => k_asm); (case k5 => k_asm); (case XB => assumption); (case TB => assumption); (case D => assumption); (case T0 => assumption); (case k6 => k_is); (case k7 => k_is); (case k8 => ktr_room); (case k9 => first | exact BindsTo.of_eq rfl | exact binds_K (by k_in) rfl (by k_is) rfl rfl rfl); (case c5 => decide); (case kB => exact locs rfl); (case c2 => exact rfl); (case c3 => exact rfl); (case c4 => exact rfl); (case ret => exact hret); (case exc => exact hexc); intro g' L' h' FG' F' N' B' X' T' D'; (try dsimp only); (try k_fold))
  k_steps
  refine' ⟨?zg, ?zL, ?zm, ?zn, ?zh, ?zt, ?ze, ?zT, ?zF, ?zN, ?zP⟩; (case ze => exact rfl); (case zF => k_asm); (case zN => k_asm); (case zT => first | assumption | exact KtsTurn.refl)
  case zP => exact ⟨by ktr_rel, _, rfl⟩
local macro_rules | `(tactic| walk_at "subscriptTail") => `(tactic| (k_here; (with_reducible show wpAny _ _ (subscriptTail _ _ (Value.ref _) (Value.str _ _)) _ _ _); k_dflt (refine' d_missing ?N ?D ?e ?hh ?_; (case N => k_asm); (case D => ktr_rel); (case e => with_reducible assumption); (case hh => rfl)); intro h9 e9 x9))
set_option maxHeartbeats 8000000 in
theorem la0 {n : Nm} {b d : Addr} {t : Tok} {news : List (Addr × Obj)} {κ : List (Nm × Nm)} (HA : HeldAt prog w news b d κ) (h1 : look κ n = none) :
    SpecS prog w p loose mean mg mb 1069 [.ref b, .str n.str t] 40 400 news (fun r news' => Sub news news' ∧ r = .none) (fun news' => False) := by
  obtain ⟨db, hh, tt, kvs, hne, hb, hdb, DA, R⟩ := HA
  have e1 := R.none h1
  unfold SpecS
  intro dp un gd cn cs a ccd cl outer A₀ base h₀ g₀ L m s Q E B F X N T XB TB D T0 hk hd hu hret hexc
  refine wpAny_call ?_
  k_dflt (refine' enterS ?k1 ?k2 ?k3 ?k4 ?k5 ?XB ?TB ?D ?T0 ?kA ?kF ?kK ?k6 ?k7 ?k8 ?k9 ?kB ?ret ?exc ?_ ?c2 ?c3 ?c4 ?c5; (case kA => exact rfl); (case kF => exact rfl); (case kK => assumption); (case k1 => k_asm); (case k2 => k_asm); (case k3 => k_asm); (case k4 => k_asm); (case k5 => k_asm); (case XB => assumption); (case TB => assumption); (case D => assumption); (case T0 => assumption); (case k6 => k_is); (case k7 => k_is); (case k8 => ktr_room); (case k9 => first | exact BindsTo.of_eq rfl | exact binds_K (by k_in) rfl (by k_is) rfl rfl rfl); (case c5 => decide); (case kB => exact locs rfl); (case c2 => exact rfl); (case c3 => exact rfl); (case c4 => exact rfl); (case ret => exact hret); (case exc => exact hexc); intro g' L' h' FG' F' N' B' X' T' D'; (try dsimp only); (try k_fold))
  k_steps
  refine' ⟨?zg, ?zL, ?zm, ?zn, ?zh, ?zt, ?ze, ?zT, ?zF, ?zN, ?zP⟩; (case ze => exact rfl); (case zF => k_asm); (case zN => k_asm); (case zT => first | assumption | exact KtsTurn.refl)
  case zP => exact ⟨by ktr_rel, rfl⟩
/-- what `_law_at` tells -/
def AtVal (o : Option Nm) (r : Value) : Prop := match o with
  | none => r = .none
  | some o => ∃ t, r = .str o.str t
theorem lawAt {n : Nm} {b d : Addr} {t : Tok} {κ : List (Nm × Nm)} {news : List (Addr × Obj)} (HA : HeldAt prog w news b d κ) :
    SpecS prog w p loose mean mg mb 1069 [.ref b, .str n.str t] 40 400 news (fun r news' => Sub news news' ∧ AtVal (look κ n) r) (fun _ => False) := by
  cases h1 : look κ n with
  | none => exact la0 HA h1
  | some o => exact la1 HA h1
end
end
section
theorem offH2 : True := by
  w_top off
  trivial
open PyProof.Rows.LCg PySem PySem.W PySem.Spec PySem.Calls PyProof.Rows
set_option maxRecDepth 100000
section
variable {prog : Program} {w : World} {p : Program} {loose : List Str} {mean : ExcName → Option Value} {mg mb : Str → Option Value}
local macro_rules | `(tactic| walk_at "compareOp Eq ref ref") => `(tactic| (k_here; (refine cmp_ofEq ?_); k_dflt (refine' cmp_K ?k1 ?k2 ?k3 ?k4 ?k5 ?k6 ?k7 ?k8 ?_; (case k1 => k_units); (case k2 => k_asm); (case k3 => k_asm); (case k4 => k_inst); (case k5 => exact InstAt.type (by k_inst)); (case k6 => k_is); (case k7 => k_is); (case k8 => k_is); k_whole)))
local macro_rules | `(tactic| k_is) => `(tactic| first
  | with_reducible exact kfA _ _
  | with_reducible exact kfB _ _
  | with_reducible exact kfC _ _
  | with_reducible exact kfD _ _
  | with_reducible exact kfE _ _
  | with_reducible exact kfF _ _
  | with_reducible exact kfM _ _
  | with_reducible exact kfG _ _
  | with_reducible exact kfH _ _
  | with_reducible exact kfI _ _ _
  | with_reducible exact kfJ _ _
  | with_reducible exact kfK _ _
  )
local macro_rules | `(tactic| walk_at "call ref") => `(tactic| (k_here; (with_reducible show wpAny _ _ (call (Value.ref 126) [Value.str (Nm.str _) _] _) _ _ _); k_dflt (refine' use (mkVar) ?k1 ?k2 ?k3 ?k4 ?k5 ?kK ?kd ?ku ?_; (case k1 => k_asm); (case k2 => k_asm); (case k3 => k_asm); (case k4 => k_asm); (case k5 => k_asm); (case kK => first | exact rfl | assumption); (case kd => ktr_room); (case ku => ktr_units)); (intro r9 news9 h9 tk9 F9 N9 P9; (obtain ⟨S9, v9, e9, H9⟩ := P9; subst e9; have H8 := H9; obtain ⟨dv9, hh9, ta9, tb9, hv9, hw9⟩ := H8); (try dsimp only); kts_tail)))
theorem HeldAt.mono {l l' : List (Addr × Obj)} {b d : Addr} {κ : List (Nm × Nm)} (H : HeldAt prog w l b d κ) (k : Keeps l l') : HeldAt prog w l' b d κ := by
  obtain ⟨db, h, t, kvs, a1, a2, a3, a4, a5⟩ := H
  exact ⟨db, h, t, kvs, a1, k.a _ a2 attrish_inst, k.a _ a3 attrish_d, a4.mono k, a5.monoA k.a⟩
theorem KeptAt.mono {l l' : List (Addr × Obj)} {d : Addr} {κ : List (Nm × Nm)} (H : KeptAt prog w l d κ) (k : Keeps l l') : KeptAt prog w l' d κ := by
  obtain ⟨kvs, a1, a2⟩ := H
  exact ⟨kvs, a1.mono k, a2⟩
theorem eqAt_val {A : Around} {s : Shared} {o : Option Nm} {a b : Value} (ha : AtVal o a) (hb : AtVal o b) : PySem.SeqAt.EqAt A s a b true := by
  cases o with
  | none => rw [show a = .none from ha, show b = .none from hb]; exact PySem.SeqAt.EqAt.same _
  | some o =>
    obtain ⟨t, rfl⟩ := ha
    obtain ⟨u, rfl⟩ := hb
    have := PySem.SeqAt.EqAt.str_str (A := A) (s := s) o.str t o.str u
    rwa [beq_self_eq_true] at this
theorem Rel2.get {α β : Type} {R : α → β → Prop} {l : List α} {k : List β} (h : Rel2 R l k) : ∀ (i : Nat) (h1 : i < l.length) (h2 : i < k.length), R l[i] k[i] := by
  induction h with
  | nil => exact fun _ h => nomatch h
  | cons x _ ih =>
    intro i h1 h2
    cases i with
    | zero => exact x
    | succ i => exact ih i (Nat.lt_of_succ_lt_succ h1) (Nat.lt_of_succ_lt_succ h2)
theorem eqLists {A : Around} {E Q : Value → Shared → Prop} {s : Shared} {l b : Addr} {ys zs : List Value} {os : List (Option Nm)} (hl : s.heap.IsList l ys.toArray) (hb : s.heap.IsList b zs.toArray)
    (R1 : Rel2 (fun v o => AtVal o v) ys os) (R2 : Rel2 (fun v o => AtVal o v) zs os) (hu : A.units < cLine) (h : Q (.bool true) s) : wpAny (model prog w) A (compareOp .Eq (.ref l) (.ref b)) Q E s := by
  refine PySem.SeqAt.eq_listAt (e := fun _ => true) hl hb (by rw [List.size_toArray, List.size_toArray, R1.length, R2.length]) hu (fun j h1 h2 => ?_) ?_
  · have h1' : j < ys.length := by simpa using h1
    have h2' : j < zs.length := by simpa using h2
    have ho : j < os.length := R1.length ▸ h1'
    simpa using eqAt_val (A := A.in1) (s := s) (R1.get j h1' ho) (R2.get j h2' ho)
  · have : (List.range ys.toArray.size).all (fun _ => true) = true := List.all_eq_true.mpr fun _ _ => rfl
    rw [this]; exact h
theorem eqListsN {A : Around} {E Q : Value → Shared → Prop} {s : Shared} {h₀ : Heap} {L : Addr} {news : List (Addr × Obj)} {l b : Addr} {ys zs : List Value} {os : List (Option Nm)} (N : News h₀ L s.heap news) (hl : (l, lst ys) ∈ news) (hb : (b, lst zs) ∈ news)
    (R1 : Rel2 (fun v o => AtVal o v) ys os) (R2 : Rel2 (fun v o => AtVal o v) zs os) (hu : A.units < cLine) (h : Q (.bool true) s) : wpAny (model prog w) A (compareOp .Eq (.ref l) (.ref b)) Q E s :=
  eqLists ⟨_, (N _ hl).1, rfl, _, rfl⟩ ⟨_, (N _ hb).1, rfl, _, rfl⟩ R1 R2 hu h
local macro_rules | `(tactic| walk_at "call ref") => `(tactic| (k_here; (with_reducible show wpAny _ _ (call (Value.ref 1069) _ _) _ _ _); k_dflt (refine' useS (lawAt ?s1) ?k1 ?k2 ?k3 ?k4 ?k5 ?kXB ?kTB ?kD ?kT0 ?kK ?kd ?ku ?kR ?kE; (case k1 => k_asm); (case k2 => k_asm); (case k3 => k_asm); (case k4 => k_asm); (case k5 => k_asm); (case kXB => assumption); (case kTB => assumption); (case kD => assumption); (case kT0 => first | assumption | exact KtsTurn.refl); (case kK => first | exact rfl | assumption); (case kd => ktr_room); (case ku => ktr_units); (case s1 => ktr_rel); (case kE => intro _ _ _ _ _ _ _ _ _ _ _ _ _ _ _ _ q9; exact False.elim q9)); (intro r9 g9 news9 h9 tk9 T9 F9 N9 B9 X9 TP9 D9 P9; (obtain ⟨S9, q9⟩ := P9); (try dsimp only); kts_tail)))
local macro_rules | `(tactic| ktr_rel) => `(tactic| first
  | (refine HeldAt.mono (by with_reducible assumption) ?_; ktr_rel)
  | (refine KeptAt.mono (by with_reducible assumption) ?_; ktr_rel))
local macro_rules | `(tactic| walk_at "exec Assign cons ListComp") => `(tactic| (k_here; k_dflt (refine' assignCompS ?G ?F (by rfl) (by rfl) (by with_unfolding_all rfl) (by with_unfolding_all rfl) (by decide) (by rfl) (by decide) (by rfl) (by rfl) (by rfl) ?_; (case F => k_asm); (case G => assumption))))
local macro_rules | `(tactic| walk_at "eval ListComp") => `(tactic| (k_here; k_dflt (refine' evalCompS ?G ?F (by rfl) (by with_unfolding_all rfl) (by decide) (by rfl) (by decide) (by rfl) ?_; (case F => k_asm); (case G => assumption))))
theorem three {v : Value} {t1 t2 t3 : Tok} {i : Nat} (h : ([Value.str (Str.ofString "x") t1, .str (Str.ofString "y") t2, .str (Str.ofString "w") t3] : List Value)[i]? = some v) :
    ∃ n t, v = .str (Nm.str n) t ∧ ([Nm.x, .y, .w] : List Nm).take (i + 1) = ([Nm.x, .y, .w] : List Nm).take i ++ [n] ∧ isVar n = true := by
  match i, h with
  | 0, h => cases h; exact ⟨.x, t1, rfl, rfl, rfl⟩
  | 1, h => cases h; exact ⟨.y, t2, rfl, rfl, rfl⟩
  | 2, h => cases h; exact ⟨.w, t3, rfl, rfl, rfl⟩
  | i + 3, h => simp at h
theorem d_len {A : Around} {E : Value → Shared → Prop} {s : Shared} {h₀ : Heap} {L d : Addr} {news : List (Addr × Obj)} {kvs : List (Str × Value)} {Q : Value → Shared → Prop} (N : News h₀ L s.heap news) (D : DictAt prog w news d kvs) (z : kvs.length ≤ 100) (h : Q (.int kvs.length (s.toks + 1)) { s with toks := s.toks + 1 + 1 }) :
    wpAny (model prog w) A (call (.builtin "len") [.ref d]) Q E s := by
  obtain ⟨o, h1, h2, h3⟩ := D
  exact kda_len (knd := PySem.strKind prog w) N h1 h2 h3 (Nat.le_trans z (by decide)) h
local macro_rules | `(tactic| walk_at "call builtin:len") => `(tactic| (k_here; (with_reducible show wpAny _ _ (call (Value.builtin "len") [Value.ref _]) _ _ _); k_dflt (refine' d_len ?N ?D ?z ?_; (case N => k_asm); (case D => ktr_rel); (case z => assumption))))
set_option maxHeartbeats 8000000 in
theorem same {b d k : Addr} {news : List (Addr × Obj)} {κ : List (Nm × Nm)} (HA : HeldAt prog w news b d κ) (KA : KeptAt prog w news k κ) (hz : κ.length ≤ 100) :
    SpecS prog w p loose mean mg mb 1074 [.ref b, .ref k] 60 600 news (fun r news' => Sub news news' ∧ r = .bool true) (fun news' => False) := by
  unfold SpecS
  intro dp un gd cn cs a ccd cl outer A₀ base h₀ g₀ L m s Q E B F X N T XB TB D T0 hk hd hu hret hexc
  refine wpAny_call ?_
  k_dflt (refine' enterSC ?k1 ?k2 ?k3 ?k4 ?k5 ?XB ?TB ?D ?T0 ?kA ?kF ?kK ?k6 ?k7 ?k8 ?k9 ?kB ?kN ?ret ?exc ?_ ?c2 ?c3 ?c4; (case kA => exact rfl); (case kF => exact rfl); (case kK => assumption); (case k1 => k_asm); (case k2 => k_asm); (case k3 => k_asm); (case k4 => k_asm); (case k5 => k_asm); (case XB => assumption); (case TB => assumption); (case D => assumption); (case T0 => assumption); (case k6 => k_is); (case k7 => k_is); (case k8 => ktr_room); (case k9 => first | exact BindsTo.of_eq rfl | exact binds_K (by k_in) rfl (by k_is) rfl rfl rfl); (case kB => exact rfl); (case kN => decide +kernel); (case c2 => exact rfl); (case c3 => exact rfl); (case c4 => exact rfl); (case ret => exact hret); (case exc => exact hexc); intro g' L' h' tk' cells' FG' F' N' Y' B' X' T' D' l1; k_cells Y'; (try simp only [List.cons_append, List.nil_append] at N'); (try dsimp only); (try k_fold))
  rename_i o1 o2 d1 d2
  have d3 : o1.data = Data.cell (some (.ref k)) := d1
  have d4 : o2.data = Data.cell (some (.ref b)) := d2
  clear d1 d2
  have G0 : Gd w p loose mean mg mb _ _ _ _ _ := ⟨KtsTurn.refl, B', X', T', D'⟩
  k_steps
  refine ⟨_, _, _, _, _, _, _, rfl, rfl, G0, by k_asm, by k_asm, by k_mem, by rw [sizeLine_eq]; show (3 : Nat) ≤ _; decide, fun i ys => Rel2 (fun v o => AtVal o v) ys ((([Nm.x, .y, .w] : List Nm).take i).map (look κ)), .nil, ?_, ?_⟩
  · intro i v ys g I oI C oC D m₂ h tk E' hv hJ hg hC hx F N
    obtain ⟨n, t, rfl, hn, hvn⟩ := three hv
    obtain ⟨T8, B8, X8, TP8, D8⟩ := hg
    k_steps
    refine EltEnd.intro ⟨by assumption, by assumption, by assumption, by assumption, by assumption⟩ (by k_asm) (by k_asm) (show Sub _ _ from by ktr_rel) ?_
    rw [hn, List.map_append]
    exact hJ.snoc (by assumption)
  · intro ys g hJ hg D h tk F N
    obtain ⟨T8, B8, X8, TP8, D8⟩ := id hg
    obtain ⟨db, hh, tt, kvs, hne, hb, hdb, DA, R⟩ := HA
    obtain ⟨kvs2, DA2, R2⟩ := KA
    have z1 : kvs.length ≤ 100 := by rw [R.length]; exact hz
    have z2 : kvs2.length ≤ 100 := by rw [R2.length]; exact hz
    have z4 : ((kvs.length : Int) == (kvs2.length : Int)) = true := by rw [R2.length, R.length]; exact beq_self_eq_true _
    k_steps
    refine ⟨_, _, _, _, _, _, _, rfl, rfl, hg, by k_asm, by k_asm, by k_mem, by rw [sizeLine_eq]; show (3 : Nat) ≤ _; decide, fun i ys => Rel2 (fun v o => AtVal o v) ys ((([Nm.x, .y, .w] : List Nm).take i).map (look κ)), .nil, ?_, ?_⟩
    · intro i v ys g I oI C oC D m₂ h tk E' hv hJ hg hC hx F N
      obtain ⟨n, t, rfl, hn, hvn⟩ := three hv
      obtain ⟨T8, B8, X8, TP8, D8⟩ := id hg
      cases h1 : look κ n with
      | none =>
        have e1 := R2.none h1
        k_steps
        exact EltEnd.intro hg (by k_asm) (by k_asm) (show Sub _ _ from by ktr_rel) (by show Rel2 _ _ _; rw [hn, List.map_append]; exact hJ.snoc (by rw [h1]; rfl))
      | some o =>
        obtain ⟨v1, e1, tv1, q1⟩ := R2.some h1
        subst q1
        k_steps
        exact EltEnd.intro hg (by k_asm) (by k_asm) (show Sub _ _ from by ktr_rel) (by show Rel2 _ _ _; rw [hn, List.map_append]; exact hJ.snoc (by rw [h1]; exact ⟨_, rfl⟩))
    · intro zs g hJ2 hg D h tk F N
      obtain ⟨T8, B8, X8, TP8, D8⟩ := id hg
      have J1 : Rel2 (fun v o => AtVal o v) ys (([Nm.x, .y, .w] : List Nm).map (look κ)) := hJ
      have J2 : Rel2 (fun v o => AtVal o v) zs (([Nm.x, .y, .w] : List Nm).map (look κ)) := hJ2
      clear hJ hJ2
      refine eqListsN N (.tail _ (.tail _ (.head _))) (.head _) J1 J2 (by ktr_units) ?_
      refine' ⟨?zg, ?zL, ?zm, ?zn, ?zh, ?zt, ?ze, ?zT, ?zF, ?zN, ?zP⟩; (case ze => exact rfl); (case zF => k_asm); (case zN => k_asm); (case zT => first | assumption | exact KtsTurn.refl)
      case zP => exact ⟨by ktr_rel, rfl⟩
end
end
section
theorem offN1 : True := by
  w_top off
  trivial
open PyProof.Rows.LCg PySem PySem.W PySem.Spec PySem.Calls PyProof.Rows
set_option maxRecDepth 100000
section
variable {prog : Program} {w : World} {p : Program} {loose : List Str} {mean : ExcName → Option Value} {mg mb : Str → Option Value}
local macro_rules | `(tactic| walk_at "compareOp Eq ref ref") => `(tactic| (k_here; (refine cmp_ofEq ?_); k_dflt (refine' cmp_K ?k1 ?k2 ?k3 ?k4 ?k5 ?k6 ?k7 ?k8 ?_; (case k1 => k_units); (case k2 => k_asm); (case k3 => k_asm); (case k4 => k_inst); (case k5 => exact InstAt.type (by k_inst)); (case k6 => k_is); (case k7 => k_is); (case k8 => k_is); k_whole)))
local macro_rules | `(tactic| k_is) => `(tactic| first
  | with_reducible exact kfA _ _
  | with_reducible exact kfB _ _
  | with_reducible exact kfC _ _
  | with_reducible exact kfD _ _
  | with_reducible exact kfE _ _
  | with_reducible exact kfF _ _
  | with_reducible exact kfM _ _
  | with_reducible exact kfG _ _
  | with_reducible exact kfH _ _
  | with_reducible exact kfI _ _ _
  | with_reducible exact kfJ _ _
  | with_reducible exact kfK _ _
  )
local macro_rules | `(tactic| ktr_rel) => `(tactic| first
  | (refine HeldAt.mono (by with_reducible assumption) ?_; ktr_rel)
  | (refine KeptAt.mono (by with_reducible assumption) ?_; ktr_rel)
  | (refine AppAt.mono (by with_reducible assumption) ?_; ktr_rel)
  | (refine ListAt.mono (by with_reducible assumption) ?_; ktr_rel)
  | (refine ListAt.mono (AppAt.list (by with_reducible assumption)) ?_; ktr_rel)
  | (refine' ListAt.but (by with_reducible assumption) ?kk ?hh; (case kk => ktr_rel); (case hh => with_reducible assumption))
  | (refine' AppAt.but (by with_reducible assumption) ?kk ?hh; (case kk => ktr_rel); (case hh => with_reducible assumption)))
local macro_rules | `(tactic| walk_at "subscriptTail") => `(tactic| (k_here; (with_reducible show wpAny _ _ (subscriptTail _ _ (Value.ref _) (Value.int _ _)) _ _ _); k_dflt (refine' la_item ?N ?D ?a ?b ?c ?_; (case N => k_asm); (case D => ktr_rel); (case a => decide); (case b => decide); (case c => rfl))))
local macro_rules | `(tactic| walk_at "subscriptTail Name Constant ref int") => `(tactic| (k_here; (with_reducible show wpAny _ _ (subscriptTail _ _ (Value.ref _) (Value.int _ _)) _ _ _); k_dflt (refine' la_item ?N ?D ?a ?b ?c ?_; (case N => k_asm); (case D => ktr_rel); (case a => decide); (case b => decide); (case c => rfl))))
local macro_rules | `(tactic| walk_at "setItem ref int") => `(tactic| (k_here; k_dflt (refine' la_set ?F ?N ?D ?a ?b ?c ?_; (case F => k_asm); (case N => k_asm); (case D => ktr_rel); (case a => decide); (case b => decide); (case c => simp); k_whole); intro h9 news9 F9 N9 S9 A9 D9))
local macro_rules | `(tactic| walk_at "call builtin:len") => `(tactic| (k_here; (with_reducible show wpAny _ _ (call (Value.builtin "len") [Value.ref _]) _ _ _); k_dflt (refine' la_len ?N ?D ?z ?_; (case N => k_asm); (case D => ktr_rel); (case z => first | with_reducible assumption | omega))))
local macro_rules | `(tactic| walk_at "call builtin:list.append") => `(tactic| (k_here; (with_reducible show wpAny _ _ (call (Value.builtin "list.append") [Value.ref _, _]) _ _ _); k_dflt (refine' la_append ?F ?N ?D ?z ?_; (case F => k_asm); (case N => k_asm); (case D => ktr_rel); (case z => first | assumption | (rw [sizeLine_eq]; omega)); k_whole); intro h9 news9 F9 N9 S9 A9 D9))
local macro_rules | `(tactic| mul_fits) => `(tactic| exact PySem.IntMulOk.of_left (PySem.intBits_le_64 (by omega) (by omega)))
local macro_rules | `(tactic| walk_at "subscriptTail") => `(tactic| (k_here; (with_reducible show wpAny _ _ (subscriptTail _ _ (Value.ref _) (Value.int (Int.fmod _ _) _)) _ _ _); k_dflt (refine' la_ints ?N ?D ?i ?a ?b ?c ?_; (case N => k_asm); (case D => ktr_rel); (case i => with_reducible assumption); (case a => with_reducible assumption); (case b => with_reducible assumption); (case c => with_reducible assumption)); intro t9))
local macro_rules | `(tactic| walk_at "subscriptTail Name Constant ref int") => `(tactic| (k_here; (with_reducible show wpAny _ _ (subscriptTail _ _ (Value.ref _) (Value.int (Int.fmod _ _) _)) _ _ _); k_dflt (refine' la_ints ?N ?D ?i ?a ?b ?c ?_; (case N => k_asm); (case D => ktr_rel); (case i => with_reducible assumption); (case a => with_reducible assumption); (case b => with_reducible assumption); (case c => with_reducible assumption)); intro t9))
set_option maxHeartbeats 4000000 in
theorem nx0 {hand sc : Addr} {k : Nat} {t tm : Tok} {many : Int} {vs : List Value} {ns : List Int} {news : List (Addr × Obj)} (hh : ListAt news hand [.ref sc, .int (k : Int) t]) (hs : ListAt news sc vs) (hi : IntsAre vs ns) (hne : (sc : Nat) ≠ hand) (hz : vs.length ≤ 63) (hm : 0 < many) (hkb : k ≤ 1000) (z0 : ((vs.length : Int) == 0) = true) :
    Spec prog w p loose mean mg mb 1041 [.ref hand, .int many tm] 8 80 news (fun r news' => SubBut hand news news' ∧ (∃ t, ListAt news' hand [.ref sc, .int ((k : Int) + 1) t]) ∧ ∃ v t, r = .int v t ∧ 0 ≤ v ∧ v < many) := by
  unfold Spec
  intro dp un gd cn cs a ccd cl outer A₀ base h₀ L m s Q E B F X N T hk hd hu hret
  refine wpAny_call ?_
  k_dflt ktr_enter
  k_steps
  all_goals exact hret _ _ _ _ (by k_asm) (by k_asm) ⟨by ktr_rel, ⟨_, by first | with_reducible assumption | assumption⟩, _, _, rfl, Int.fmod_nonneg_of_pos _ hm, Int.fmod_lt_of_pos _ hm⟩
set_option maxHeartbeats 4000000 in
theorem nx1 {hand sc : Addr} {k : Nat} {t tm : Tok} {many : Int} {vs : List Value} {ns : List Int} {news : List (Addr × Obj)} (hh : ListAt news hand [.ref sc, .int (k : Int) t]) (hs : ListAt news sc vs) (hi : IntsAre vs ns) (hne : (sc : Nat) ≠ hand) (hz : vs.length ≤ 63) (hm : 0 < many) (hkb : k ≤ 1000) (z0 : ((vs.length : Int) == 0) = false) :
    Spec prog w p loose mean mg mb 1041 [.ref hand, .int many tm] 8 80 news (fun r news' => SubBut hand news news' ∧ (∃ t, ListAt news' hand [.ref sc, .int ((k : Int) + 1) t]) ∧ ∃ v t, r = .int v t ∧ 0 ≤ v ∧ v < many) := by
  have hp : 0 < (vs.length : Int) := by
    have : (vs.length : Int) ≠ 0 := fun e => by rw [e] at z0; cases z0
    omega
  have hl := hi.length
  have q0 : 0 ≤ (k : Int).fmod (vs.length : Int) := Int.fmod_nonneg_of_pos _ hp
  have q1 : (k : Int).fmod (vs.length : Int) < (ns.length : Int) := by rw [← hl]; exact Int.fmod_lt_of_pos _ hp
  have q2 : (k : Int).fmod (vs.length : Int) < 2 ^ 63 := by
    have := Int.fmod_lt_of_pos (k : Int) hp
    omega
  unfold Spec
  intro dp un gd cn cs a ccd cl outer A₀ base h₀ L m s Q E B F X N T hk hd hu hret
  refine wpAny_call ?_
  k_dflt ktr_enter
  k_steps
  all_goals exact hret _ _ _ _ (by k_asm) (by k_asm) ⟨by ktr_rel, ⟨_, by first | with_reducible assumption | assumption⟩, _, _, rfl, Int.fmod_nonneg_of_pos _ hm, Int.fmod_lt_of_pos _ hm⟩
theorem lawNext {hand sc : Addr} {k : Nat} {t tm : Tok} {many : Int} {vs : List Value} {ns : List Int} {news : List (Addr × Obj)} (hh : ListAt news hand [.ref sc, .int (k : Int) t]) (hs : ListAt news sc vs) (hi : IntsAre vs ns) (hne : (sc : Nat) ≠ hand) (hz : vs.length ≤ 63) (hm : 0 < many) (hkb : k ≤ 1000) :
    Spec prog w p loose mean mg mb 1041 [.ref hand, .int many tm] 8 80 news (fun r news' => SubBut hand news news' ∧ (∃ t, ListAt news' hand [.ref sc, .int ((k : Int) + 1) t]) ∧ ∃ v t, r = .int v t ∧ 0 ≤ v ∧ v < many) := by
  cases z0 : ((vs.length : Int) == 0) with
  | true => exact nx0 hh hs hi hne hz hm hkb z0
  | false => exact nx1 hh hs hi hne hz hm hkb z0
end
end
section
theorem offI1 : True := by
  w_top off
  trivial
open PyProof.Rows.LCg PySem PySem.W PySem.Spec PySem.Calls PyProof.Rows
set_option maxRecDepth 100000
section
variable {prog : Program} {w : World} {p : Program} {loose : List Str} {mean : ExcName → Option Value} {mg mb : Str → Option Value}
local macro_rules | `(tactic| walk_at "compareOp Eq ref ref") => `(tactic| (k_here; (refine cmp_ofEq ?_); k_dflt (refine' cmp_K ?k1 ?k2 ?k3 ?k4 ?k5 ?k6 ?k7 ?k8 ?_; (case k1 => k_units); (case k2 => k_asm); (case k3 => k_asm); (case k4 => k_inst); (case k5 => exact InstAt.type (by k_inst)); (case k6 => k_is); (case k7 => k_is); (case k8 => k_is); k_whole)))
local macro_rules | `(tactic| k_is) => `(tactic| first
  | with_reducible exact kfA _ _
  | with_reducible exact kfB _ _
  | with_reducible exact kfC _ _
  | with_reducible exact kfD _ _
  | with_reducible exact kfE _ _
  | with_reducible exact kfF _ _
  | with_reducible exact kfM _ _
  | with_reducible exact kfG _ _
  | with_reducible exact kfH _ _
  | with_reducible exact kfI _ _ _
  | with_reducible exact kfJ _ _
  | with_reducible exact kfK _ _
  )
local macro_rules | `(tactic| ktr_rel) => `(tactic| first
  | (refine HeldAt.mono (by with_reducible assumption) ?_; ktr_rel)
  | (refine KeptAt.mono (by with_reducible assumption) ?_; ktr_rel)
  | (refine AppAt.mono (by with_reducible assumption) ?_; ktr_rel)
  | (refine ListAt.mono (by with_reducible assumption) ?_; ktr_rel)
  | (refine ListAt.mono (AppAt.list (by with_reducible assumption)) ?_; ktr_rel)
  | (refine' ListAt.but (by with_reducible assumption) ?kk ?hh; (case kk => ktr_rel); (case hh => with_reducible assumption))
  | (refine' AppAt.but (by with_reducible assumption) ?kk ?hh; (case kk => ktr_rel); (case hh => with_reducible assumption)))
local macro_rules | `(tactic| walk_at "subscriptTail") => `(tactic| (k_here; (with_reducible show wpAny _ _ (subscriptTail _ _ (Value.ref _) (Value.int _ _)) _ _ _); k_dflt (refine' la_item ?N ?D ?a ?b ?c ?_; (case N => k_asm); (case D => ktr_rel); (case a => decide); (case b => decide); (case c => rfl))))
local macro_rules | `(tactic| walk_at "setItem ref int") => `(tactic| (k_here; k_dflt (refine' la_set ?F ?N ?D ?a ?b ?c ?_; (case F => k_asm); (case N => k_asm); (case D => ktr_rel); (case a => decide); (case b => decide); (case c => simp); k_whole); intro h9 news9 F9 N9 S9 A9 D9))
local macro_rules | `(tactic| walk_at "call builtin:len") => `(tactic| (k_here; (with_reducible show wpAny _ _ (call (Value.builtin "len") [Value.ref _]) _ _ _); k_dflt (refine' la_len ?N ?D ?z ?_; (case N => k_asm); (case D => ktr_rel); (case z => first | with_reducible assumption | omega))))
local macro_rules | `(tactic| walk_at "call builtin:list.append") => `(tactic| (k_here; (with_reducible show wpAny _ _ (call (Value.builtin "list.append") [Value.ref _, _]) _ _ _); k_dflt (refine' la_append ?F ?N ?D ?z ?_; (case F => k_asm); (case N => k_asm); (case D => ktr_rel); (case z => first | assumption | (rw [sizeLine_eq]; omega)); k_whole); intro h9 news9 F9 N9 S9 A9 D9))
local macro_rules | `(tactic| ktr_rel) => `(tactic| first
  | exact KeepsI.refl
  | (refine KeepsI.cons ?_; ktr_rel)
  | (refine KeepsI.trans ?_ (Sub.i (by with_reducible assumption)); ktr_rel)
  | (refine KeepsI.trans ?_ (by with_reducible assumption); ktr_rel)
  | (refine Keeps.trans ?_ (KeepsI.keeps (by with_reducible assumption)); ktr_rel)
  | (refine KeepsA.trans ?_ (KeepsI.a (by with_reducible assumption)); ktr_rel)
  | (refine TupAt.mono (by with_reducible assumption) ?_; ktr_rel))
local macro_rules | `(tactic| walk_at "truthy ref") => `(tactic| (k_here; k_dflt (refine' la_truthy ?N ?D ?z ?_; (case N => k_asm); (case D => ktr_rel); (case z => first | with_reducible assumption | omega))))
local macro_rules | `(tactic| walk_at "exec For") => `(tactic| (k_here; (with_reducible show wpAny _ _ (exec (Stmt.For _ _ _ [] _) _) _ _ _); k_dflt (refine' forS ?G ?F ?_; (case F => k_asm); (case G => assumption))))
local macro_rules | `(tactic| walk_at "exec For Tuple Name") => `(tactic| (k_here; (with_reducible show wpAny _ _ (exec (Stmt.For _ _ _ [] _) _) _ _ _); k_dflt (refine' forS ?G ?F ?_; (case F => k_asm); (case G => assumption))))
local macro_rules | `(tactic| walk_at "exec For Tuple Name cons nil") => `(tactic| (k_here; (with_reducible show wpAny _ _ (exec (Stmt.For _ _ _ [] _) _) _ _ _); k_dflt (refine' forS ?G ?F ?_; (case F => k_asm); (case G => assumption))))
def Stop (P : Prop) : Prop := P
theorem Stop.go {P : Prop} (h : Stop P) : P := h
local macro_rules | `(tactic| walk_at "call ref") => `(tactic| (k_here; (with_reducible show wpAny _ _ (call (Value.ref 986) _ _) _ _ _); refine Stop.go ?_))
theorem excOn {A : Around} {outer : List Env} {base g h₀' G h' : Heap} {L a e t : Addr} {m : Str → Option Value} {name : Str} {scope : Scope} {cd : Value} {vs' : List Value} {news' : List (Addr × Obj)} {s₀ : Shared} {tk : Nat} {fs : List Addr} {postE : List (Addr × Obj) → Prop}
    (B : Below A base outer h₀') (F : Fr h₀' L G m) (T : KtsTurn fs g h₀') (R : RaisedS base G (envOf name scope L a cd :: outer) e (.ref 1031) t vs' news' h') (U : G.UpToSlots h') (hp : postE news') :
    wpAny (model prog w) (A.deeper (envOf name scope L a cd)) (leaving (envOf name scope L a cd) (.ref e)) (fun _ s'' => LeaveE fs base g outer s₀ postE (.ref e) s'') (fun _ _ => False) { s₀ with heap := h', toks := tk } :=
  leave_onS B F R U fun h'' R' _ U' => ⟨h₀', e, t, vs', news', h'', _, rfl, rfl, T, R', U', hp⟩
local macro_rules | `(tactic| k_units) => `(tactic| ktr_units)
local macro_rules | `(tactic| ktr_units) => `(tactic| (have hcL9 := cLine_is; simp only [PyProof.Rows.units_under_make, units_in1, units_deeper, Around.mark_units, units_caller]; (try dsimp only [ktrTop]); omega))
/-- the bindings kept, one after another -/
def foldK (κ : List (Nm × Nm)) : List (Nm × Nm) → Option (List (Nm × Nm))
  | [] => some κ
  | q :: r => (keepF κ q.1 q.2).bind fun κ' => foldK κ' r
theorem foldK_snoc {κ κ' : List (Nm × Nm)} {q : Nm × Nm} : ∀ {l : List (Nm × Nm)}, foldK κ l = some κ' → foldK κ (l ++ [q]) = keepF κ' q.1 q.2
  | [], h => by
    cases h
    show (keepF κ q.1 q.2).bind _ = _
    cases keepF κ q.1 q.2 <;> rfl
  | a :: r, h => by
    show (keepF κ a.1 a.2).bind _ = _
    have h' : (keepF κ a.1 a.2).bind (fun κ' => foldK κ' r) = some κ' := h
    cases hk : keepF κ a.1 a.2 with
    | none => rw [hk] at h'; cases h'
    | some κ1 => rw [hk] at h'; exact foldK_snoc (l := r) h'
theorem foldK_fail {κ : List (Nm × Nm)} : ∀ {l r : List (Nm × Nm)}, foldK κ l = none → foldK κ (l ++ r) = none
  | [], r, h => by cases h
  | a :: t, r, h => by
    show (keepF κ a.1 a.2).bind _ = _
    have h' : (keepF κ a.1 a.2).bind (fun κ' => foldK κ' t) = none := h
    cases hk : keepF κ a.1 a.2 with
    | none => rfl
    | some κ1 => rw [hk] at h'; exact foldK_fail (l := t) h'
theorem keepF_len {κ κ' : List (Nm × Nm)} {n o : Nm} (h : keepF κ n o = some κ') : κ'.length ≤ κ.length + 1 := by
  unfold keepF at h
  split at h
  · cases h; simp
  · split at h
    · cases h; exact Nat.le_succ _
    · split at h
      · split at h
        · cases h; simp
        · split at h
          · cases h; exact Nat.le_succ _
          · cases h
      · cases h
theorem foldK_len : ∀ {l : List (Nm × Nm)} {κ κ' : List (Nm × Nm)}, foldK κ l = some κ' → κ'.length ≤ κ.length + l.length
  | [], κ, κ', h => by cases h; simp
  | a :: r, κ, κ', h => by
    have h' : (keepF κ a.1 a.2).bind (fun κ' => foldK κ' r) = some κ' := h
    cases hk : keepF κ a.1 a.2 with
    | none => rw [hk] at h'; cases h'
    | some κ1 =>
      rw [hk] at h'
      have h1 := keepF_len hk
      have h2 := foldK_len (l := r) h'
      rw [List.length_cons]; omega
/-- a list of pairs of a Variable and its term -/
def PairsIn (news : List (Addr × Obj)) (its : List Value) (rows : List (Nm × Nm)) : Prop :=
  Rel2 (fun v q => isVar q.1 = true ∧ ∃ T vv ee, v = .ref T ∧ TupAt news T [.ref vv, .ref ee] ∧ VarIn news vv q.1 ∧ ExIn news ee (tmOf q.2)) its rows
theorem PairsIn.mono {l l' : List (Addr × Obj)} {its : List Value} {rows : List (Nm × Nm)} (h : PairsIn l its rows) (k : Keeps l l') : PairsIn l' its rows :=
  Rel2.mono h fun _ _ ⟨a, T, vv, ee, b, c, d, e⟩ => ⟨a, T, vv, ee, b, c.mono k, d.mono k, e.mono k⟩
theorem Fr.fix {g h : Heap} {L : Addr} {m : Str → Option Value} {x : Str} {v : Value} (F : Fr g L h m) (e : m x = some v) : Fr g L h (fun y => if y = x then some v else m y) := by
  have : (fun y => if y = x then some v else m y) = m := funext fun y => by
    by_cases hy : y = x
    · rw [if_pos hy, hy, e]
    · rw [if_neg hy]
  rw [this]; exact F
theorem rel2_get? {α β : Type} {R : α → β → Prop} {l : List α} {k : List β} (h : Rel2 R l k) : ∀ {i : Nat} {a : α}, l[i]? = some a → ∃ b, k[i]? = some b ∧ R a b := by
  induction h with
  | nil => intro i a e; simp at e
  | @cons x y l k r _ ih =>
    intro i a e
    cases i with
    | zero => simp at e; subst e; exact ⟨y, by simp, r⟩
    | succ i => simp at e; obtain ⟨b, h1, h2⟩ := ih e; exact ⟨b, by simpa using h1, h2⟩
theorem take_succ' {α : Type} {l : List α} {i : Nat} {a : α} (h : l[i]? = some a) : l.take (i + 1) = l.take i ++ [a] := by
  rw [List.take_add_one, h]; rfl
theorem dict_iterish {o : Obj} {kvs : List (Str × Value)} (D : o.IsDictOf (PySem.strKind prog w) kvs) : iterish o = false := notTab_iterish (DictAt.notTab D)
theorem HeldAt.ne_iter {h₀ h : Heap} {L : Addr} {l : List (Addr × Obj)} {b d I : Addr} {κ : List (Nm × Nm)} {oI : Obj} (H : HeldAt prog w l b d κ) (N : News h₀ L h l) (hI : (I, oI) ∈ l) (hi : iterish oI = true) : I ≠ d := by
  obtain ⟨db, _, _, kvs, _, _, _, ⟨o, h1, h2, _⟩, _⟩ := H
  exact ne_of_objs N hI h1 fun e => by rw [e, dict_iterish h2] at hi; cases hi
theorem heldIn {news l : List (Addr × Obj)} {h₀ h : Heap} {L x : Addr} (_N : News h₀ L h l) (H : ∃ D : Addr, (∀ p ∈ news, p.1 < D) ∧ HeldAt prog w l x D []) : ∃ D : Addr, (∀ p ∈ news, p.1 < D) ∧ HeldAt prog w l x D [] := H
theorem Sub.but {l l' l'' : List (Addr × Obj)} {d : Addr} (k : Sub l l') (s : SubBut d l' l'') (h : ∀ p ∈ l, p.1 < d) : Sub l l'' := fun p hp => s p (k p hp) (Nat.ne_of_lt (h p hp))
theorem News.sub {g h : Heap} {L : Addr} {l l' : List (Addr × Obj)} (N : News g L h l') (k : Sub l l') : News g L h l := fun p hp => N p (k p hp)
theorem KeepsI.but {l l' l'' : List (Addr × Obj)} {d : Addr} (k : KeepsI l l') (s : SubBut d l' l'') (h : ∀ p ∈ l, p.1 < d) : KeepsI l l'' := fun p hp hi => s p (k p hp hi) (Nat.ne_of_lt (h p hp))
set_option maxHeartbeats 8000000 in
theorem bd1 {l : Addr} {its : List Value} {rows : List (Nm × Nm)} {news : List (Addr × Obj)} (hl : ListAt news l its) (hp : PairsIn news its rows) (hz : rows.length ≤ 50) (hne : decide (0 < its.length) = true) :
    SpecS prog w p loose mean mg mb 1017 [.ref l] 80 800 news (fun r news' => Sub news news' ∧ ∃ b d κ, r = .ref b ∧ (∀ p ∈ news, p.1 < d) ∧ foldK [] rows = some κ ∧ HeldAt prog w news' b d κ) (fun news' => foldK [] rows = none ∧ Sub news news') := by
  have hz2 : its.length ≤ 1000 := by rw [hp.length]; omega
  unfold SpecS
  intro dp un gd cn cs a ccd cl outer A₀ base h₀ g₀ L m s Q E B F X N T XB TB D T0 hk hd hu hret hexc
  k_dflt (refine' call_cls ?k1 ?k2 ?k3 ?k4 ?k5 ?k6 ?_; (case k1 => k_asm); (case k2 => k_asm); (case k3 => k_asm); (case k4 => k_is); (case k5 => k_is); (case k6 => k_is); k_whole; intro x' d' h' F' N' l1 l2; (try k_lt l1); (try k_lt2 l2))
  k_dflt (refine' enterS (post := fun r news' => r = .none ∧ Sub news news' ∧ ∃ b d κ, x' = b ∧ (∀ p ∈ news, p.1 < d) ∧ foldK [] rows = some κ ∧ HeldAt prog w news' b d κ) (postE := fun news' => foldK [] rows = none ∧ Sub news news') ?k1 ?k2 ?k3 ?k4 ?k5 ?XB ?TB ?D ?T0 ?kA ?kF ?kK ?k6 ?k7 ?k8 ?k9 ?kB ?ret ?exc ?_ ?c2 ?c3 ?c4 ?c5; (case kA => exact rfl); (case kF => exact rfl); (case kK => assumption); (case k1 => k_asm); (case k2 => k_asm); (case k3 => k_asm); (case k4 => k_asm); (case k5 => k_asm); (case XB => assumption); (case TB => assumption); (case D => assumption); (case T0 => assumption); (case k6 => k_is); (case k7 => k_is); (case k8 => ktr_room); (case k9 => first | exact BindsTo.of_eq rfl | exact binds_K (X.keeps F'.keep) rfl (by k_is) rfl rfl rfl); (case c5 => decide); (case kB => exact locs rfl); (case c2 => exact rfl); (case c3 => exact rfl); (case c4 => exact rfl); (case ret => intro r q1 q2 q3 q4 q5 q6 q7 q8 q9 q10 q11 q12; obtain ⟨rfl, q12, b, d, κ, rfl, q13⟩ := q12; refine' ⟨rfl, ?_⟩; exact hret _ _ _ _ _ q5 q6 q7 q8 q9 q10 q11 ⟨q12, _, d, κ, rfl, q13⟩); (case exc => exact hexc); intro g' L' h' FG' F' N' B' X' T' D'; (try dsimp only); (try k_fold))
  have G0 : Gd w p loose mean mg mb _ _ _ _ _ := ⟨KtsTurn.refl, by assumption, by assumption, by assumption, by assumption⟩
  k_steps
  obtain ⟨oax, ho1, ho2, ho3⟩ := hl
  rename News g' _ _ _ => NN
  obtain ⟨D0, hd, HA0⟩ := heldIn (news := news) (x := x') NN ⟨_, fun p hp => ktn_ltOf (by assumption : _ < _ ∧ _ < _ ∧ AllLt _ news).2.2 p hp, _, _, _, _, Nat.ne_of_lt (by assumption : _ < _ ∧ _ < _ ∧ AllLt _ news).2.1, by k_mem, by k_mem, ⟨_, by k_mem, by assumption, by assumption⟩, .nil⟩
  refine ⟨l, its, oax, _, g', _, rfl, rfl, G0, by k_asm, by k_asm, by k_mem, ho2, ho3, fun i m l => m (Str.ofString "self") = some (.ref x') ∧ Sub news l ∧ ∃ κ, foldK [] (rows.take i) = some κ ∧ HeldAt prog w l x' D0 κ, ?_, ?_, ?_, ?_⟩
  · rintro i m l l' ⟨a, b, κ, c, e⟩ k
    exact ⟨a, Sub.old (News.sub NN (by ktr_rel)) b k, κ, c, e.mono k.keeps⟩
  · exact ⟨rfl, by ktr_rel, [], rfl, HA0⟩
  · intro i v g I oI m₁ news₁ h tk hv hg hit hI hax hJ F N
    obtain ⟨hself, hKI, κ, hκ, HA⟩ := hJ
    obtain ⟨q, hq, hvar, T1, vv, ee, rfl, hT, hVV, hEE⟩ := rel2_get? hp hv
    have F1 := Fr.fix F hself
    have hT1 : IsTup h T1 #[.ref vv, .ref ee] := (hT.mono hKI.keeps).isTup (s := { s with heap := h }) N
    have hV1 := hVV.mono hKI.keeps
    have hE1 := hEE.mono hKI.keeps
    have hz1 : κ.length ≤ 100 := by
      have := foldK_len hκ
      have h3 : (rows.take i).length ≤ rows.length := by rw [List.length_take]; exact Nat.min_le_right _ _
      simp only [List.length_nil] at this; omega
    have hI2 := HA.ne_iter N hI hit
    have hx2 : l ≠ D0 := Nat.ne_of_lt (hd _ ho1)
    obtain ⟨T8, B8, X8, TP8, D8⟩ := id hg
    obtain ⟨db, hh, tt, kvs, hne, hb, hdb, DA, R⟩ := id HA
    k_steps
    show Stop _
    unfold Stop
    refine' useS (setItem hvar HA hz1 hV1 hE1) ?k1 ?k2 ?k3 ?k4 ?k5 ?kXB ?kTB ?kD ?kT0 ?kK ?kd ?ku ?kR ?kE; (case k1 => k_asm); (case k2 => k_asm); (case k3 => k_asm); (case k4 => k_asm); (case k5 => k_asm); (case kXB => assumption); (case kTB => assumption); (case kD => assumption); (case kT0 => first | assumption | exact KtsTurn.refl); (case kK => first | exact rfl | assumption); (case kd => ktr_room); (case ku => ktr_units)
    case kE =>
      intro g9 G9 e9 t9 vs9 news9 h9 tk9 T9 F9 B9 X9 TP9 D9 R9 U9 P9
      refine excOn B9 F9 T9 R9 U9 ⟨?_, Sub.trans hKI P9.2⟩
      rw [← List.take_append_drop (i + 1) rows]
      exact foldK_fail (by rw [take_succ' hq, foldK_snoc hκ]; exact P9.1)
    intro r9 g9 news9 h9 tk9 T9 F9 N9 B9 X9 TP9 D9 P9
    obtain ⟨S9, A9, rfl, κ9, K9, H9⟩ := P9
    k_steps
    refine TurnEnd.intro ⟨by assumption, by assumption, by assumption, by assumption, by assumption⟩ (by k_asm) (by k_asm) (fun p hp => ?_) ⟨rfl, Sub.but hKI S9 hd, κ9, by rw [take_succ' hq, foldK_snoc hκ]; exact K9, H9⟩
    rcases List.mem_cons.mp hp with rfl | hp
    · exact S9 _ hI hI2
    · rw [List.mem_singleton.mp hp]; exact S9 _ hax hx2
  · intro g m₁ news₁ h tk hg hax hJ F N
    obtain ⟨hself, hKI, κ, hκ, HA⟩ := hJ
    have hg' := hg
    obtain ⟨T8, B8, X8, TP8, D8⟩ := hg'
    rw [hp.length, List.take_length] at hκ
    k_steps
    refine' ⟨?zg, ?zL, ?zm, ?zn, ?zh, ?zt, ?ze, ?zT, ?zF, ?zN, ?zP⟩; (case ze => exact rfl); (case zF => k_asm); (case zN => k_asm); (case zT => first | assumption | exact KtsTurn.refl)
    case zP => exact ⟨rfl, hKI, _, _, _, rfl, hd, hκ, HA⟩

set_option maxHeartbeats 8000000 in
theorem bd0 {l : Addr} {its : List Value} {rows : List (Nm × Nm)} {news : List (Addr × Obj)} (hl : ListAt news l its) (hp : PairsIn news its rows) (hz : rows.length ≤ 50) (hne : decide (0 < its.length) = false) :
    SpecS prog w p loose mean mg mb 1017 [.ref l] 80 800 news (fun r news' => Sub news news' ∧ ∃ b d κ, r = .ref b ∧ (∀ p ∈ news, p.1 < d) ∧ foldK [] rows = some κ ∧ HeldAt prog w news' b d κ) (fun news' => foldK [] rows = none ∧ Sub news news') := by
  have hz2 : its.length ≤ 1000 := by rw [hp.length]; omega
  have hr : rows = [] := List.eq_nil_of_length_eq_zero (by rw [← hp.length]; have := of_decide_eq_false hne; omega)
  unfold SpecS
  intro dp un gd cn cs a ccd cl outer A₀ base h₀ g₀ L m s Q E B F X N T XB TB D T0 hk hd hu hret hexc
  k_dflt (refine' call_cls ?k1 ?k2 ?k3 ?k4 ?k5 ?k6 ?_; (case k1 => k_asm); (case k2 => k_asm); (case k3 => k_asm); (case k4 => k_is); (case k5 => k_is); (case k6 => k_is); k_whole; intro x' d' h' F' N' l1 l2; (try k_lt l1); (try k_lt2 l2))
  k_dflt (refine' enterS (post := fun r news' => r = .none ∧ Sub news news' ∧ ∃ b d κ, x' = b ∧ (∀ p ∈ news, p.1 < d) ∧ foldK [] rows = some κ ∧ HeldAt prog w news' b d κ) (postE := fun news' => foldK [] rows = none ∧ Sub news news') ?k1 ?k2 ?k3 ?k4 ?k5 ?XB ?TB ?D ?T0 ?kA ?kF ?kK ?k6 ?k7 ?k8 ?k9 ?kB ?ret ?exc ?_ ?c2 ?c3 ?c4 ?c5; (case kA => exact rfl); (case kF => exact rfl); (case kK => assumption); (case k1 => k_asm); (case k2 => k_asm); (case k3 => k_asm); (case k4 => k_asm); (case k5 => k_asm); (case XB => assumption); (case TB => assumption); (case D => assumption); (case T0 => assumption); (case k6 => k_is); (case k7 => k_is); (case k8 => ktr_room); (case k9 => first | exact BindsTo.of_eq rfl | exact binds_K (X.keeps F'.keep) rfl (by k_is) rfl rfl rfl); (case c5 => decide); (case kB => exact locs rfl); (case c2 => exact rfl); (case c3 => exact rfl); (case c4 => exact rfl); (case ret => intro r q1 q2 q3 q4 q5 q6 q7 q8 q9 q10 q11 q12; obtain ⟨rfl, q12, b, d, κ, rfl, q13⟩ := q12; refine' ⟨rfl, ?_⟩; exact hret _ _ _ _ _ q5 q6 q7 q8 q9 q10 q11 ⟨q12, _, d, κ, rfl, q13⟩); (case exc => exact hexc); intro g' L' h' FG' F' N' B' X' T' D'; (try dsimp only); (try k_fold))
  k_steps
  rename News g' _ _ _ => NN
  obtain ⟨D0, hd, HA0⟩ := heldIn (news := news) (x := x') NN ⟨_, fun p hp => ktn_ltOf (by assumption : _ < _ ∧ _ < _ ∧ AllLt _ news).2.2 p hp, _, _, _, _, Nat.ne_of_lt (by assumption : _ < _ ∧ _ < _ ∧ AllLt _ news).2.1, by k_mem, by k_mem, ⟨_, by k_mem, by assumption, by assumption⟩, .nil⟩
  refine' ⟨?zg, ?zL, ?zm, ?zn, ?zh, ?zt, ?ze, ?zT, ?zF, ?zN, ?zP⟩; (case ze => exact rfl); (case zF => k_asm); (case zN => k_asm); (case zT => first | assumption | exact KtsTurn.refl)
  case zP => exact ⟨rfl, by ktr_rel, _, _, _, rfl, hd, by rw [hr]; rfl, HA0⟩
theorem mkBD {l : Addr} {its : List Value} {rows : List (Nm × Nm)} {news : List (Addr × Obj)} (hl : ListAt news l its) (hp : PairsIn news its rows) (hz : rows.length ≤ 50) :
    SpecS prog w p loose mean mg mb 1017 [.ref l] 80 800 news (fun r news' => Sub news news' ∧ ∃ b d κ, r = .ref b ∧ (∀ p ∈ news, p.1 < d) ∧ foldK [] rows = some κ ∧ HeldAt prog w news' b d κ) (fun news' => foldK [] rows = none ∧ Sub news news') := by
  cases h : decide (0 < its.length) with
  | true => exact bd1 hl hp hz h
  | false => exact bd0 hl hp hz h
end
end
section
open PySem PySem.W PySem.Spec PySem.Calls PyProof.Rows
set_option maxRecDepth 100000
/-! the keys of a dict as a list; a list turned round -/
theorem rel2_of {α β : Type} {R : α → β → Prop} : ∀ {l : List α} {k : List β}, l.length = k.length → (∀ (j : Nat) (a : α), l[j]? = some a → ∃ b, k[j]? = some b ∧ R a b) → Rel2 R l k
  | [], [], _, _ => .nil
  | [], _ :: _, h, _ => nomatch h
  | _ :: _, [], h, _ => nomatch h
  | a :: l, b :: k, h, g => by
    refine .cons ?_ (rel2_of (Nat.succ.inj h) fun j x e => ?_)
    · obtain ⟨b', e, r⟩ := g 0 a rfl
      cases e; exact r
    · obtain ⟨b', e', r⟩ := g (j + 1) x (by simpa using e)
      exact ⟨b', by simpa using e', r⟩
theorem rel2_rev {α β : Type} {R : α → β → Prop} {l : List α} {k : List β} (h : Rel2 R l k) : Rel2 R l.reverse k.reverse := by
  induction h with
  | nil => exact .nil
  | cons x _ ih => rw [List.reverse_cons, List.reverse_cons]; exact Rel2.snoc ih x
section
variable {prog : Program} {w : World} {A : Around} {E : Value → Shared → Prop} {s : Shared} {h₀ : Heap} {L : Addr} {m : Str → Option Value} {news : List (Addr × Obj)}
theorem la_keys {V : Value → Nm → Prop} {κ : List (Nm × Nm)} {kvs : List (Str × Value)} {d : Addr} {Q : Value → Shared → Prop} (hh : A.handled = none) (F : Fr h₀ L s.heap m) (N : News h₀ L s.heap news) (D : DictAt prog w news d kvs) (R : Rel2 (Ent V) kvs κ) (hz : kvs.length ≤ 1000)
    (h : ∀ B h' tk us c, Fr h₀ L h' m → News h₀ L h' ((B, listOf us.toArray c) :: news) → (∀ q ∈ news, q.1 < B) → NamesIn us (κ.map (·.1)) → Q (.ref B) { s with heap := h', toks := tk }) :
    wpAny (model prog w) A (call (.type "list") [.ref d]) Q E s := by
  obtain ⟨o, hp, hd, lo⟩ := D
  obtain ⟨ep, hat⟩ := (kda_dict N hp hd).dictAt
  refine kdl_N (kdl_dict (knd := PySem.strKind prog w) (kvs := kvs) (ep := ep) lo) hh F N hat (by rw [sizeLine_eq]; omega) fun B c h' tk vs F' N' l1 hl hv => ?_
  refine h B h' tk vs c F' N' l1 (rel2_of (by rw [List.length_map, hl, R.length]) fun j a e => ?_)
  obtain ⟨k, x, hx, hk⟩ := hv j a e
  obtain ⟨q, hq, hr⟩ := rel2_get? R hx
  obtain ⟨t, ht⟩ := Value.isStrOf_shape hk
  refine ⟨q.1, by rw [List.getElem?_map, hq]; rfl, t, ?_⟩
  rw [ht]
  have : k = q.1.str := hr.1
  rw [this]
/-- a slice of a thing that is let go -/
theorem tailGo {value slice : PySem.Expr} {o i : Value} {T id : String} {ops : List Value} {Q : Value → Shared → Prop} (hT : s.TypeIs o T)
    (hl : typeLookup (.type T) "__getitem__" = pure (some (.builtin id))) (h : wpAny (model prog w) A (getItem o i) Q E s) (hs : subscripted slice false o i = operate ops (getItem o i)) :
    wpAny (model prog w) A (subscriptTail value slice o i) Q E s := by
  unfold subscriptTail
  refine wpAny_bind ?_
  rw [getitemInPython_of_ne hT.not_modules]
  refine wpAny_bind (wpAny_specialOf hT hl ?_)
  have fin : wpAny (model prog w) A (subscripted slice false o i) (fun r s₃ => wpAny (model prog w) A (letTemporaryGo value o r >>= fun _ => pure r) Q E s₃) E s := by
    rw [hs]
    exact wpAny_operating (wpAny_mono h (fun r s₃ h₃ => wpAny_bind (wpAny_letTemporaryGo (wpAny_pure h₃))) fun _ _ x => x)
  first
    | exact wpAny_pure (wpAny_bind fin)
    | exact wpAny_bind (wpAny_pure (wpAny_bind fin))
    | exact wpAny_bind fin
theorem la_rev {value slice : PySem.Expr} {l : Addr} {vs : List Value} {vk : Value} {ops : List Value} {Q : Value → Shared → Prop} (F : Fr h₀ L s.heap m) (N : News h₀ L s.heap news) (D : ListAt news l vs) (pk : IsPart vk (some (-1))) (hz : vs.length ≤ 1000)
    (h : ∀ B h', Fr h₀ L h' m → News h₀ L h' ((B, listOf vs.reverse.toArray 0) :: news) → (∀ p ∈ news, p.1 < B) → Q (.ref B) { s with heap := h' })
    (hs : subscripted slice false (.ref l) (.ref s.heap.objs.size) = operate ops (getItem (.ref l) (.ref s.heap.objs.size))) :
    wpAny (model prog w) A (subscriptTail value slice (.ref l) (.ref s.heap.objs.size)) Q E { s with heap := s.heap.push { cls := .type "slice", data := .fields #[.none, .none, vk] } } := by
  obtain ⟨o, hm, hc, n, hd⟩ := D
  have hl : s.heap.IsList l vs.toArray := ⟨o, (N _ hm).1, hc, n, hd⟩
  refine tailGo (Heap.IsList.typeIs (s := { s with heap := s.heap.push { cls := .type "slice", data := .fields #[.none, .none, vk] } }) (hl.push _)) list_getitem_lookup
    (wpAny_getItem_list_slice (hl.push _) (Heap.IsSliceOf.new ..) .none .none pk (by decide) ?_ (by rw [List.size_toArray, sizeLine_eq]; omega)) hs
  have N1 := News.push (F.push { cls := .type "slice", data := .fields #[.none, .none, vk] }) (N.grown fun _ _ e => Heap.get?_push_of_some _ e) { cls := .type "list", data := .seq (slicePick vs.toArray none none (some (-1))) }
  rw [Heap.size_push] at N1
  show Q (.ref (s.heap.push _).objs.size) _
  have e := krv_pick vs.toArray
  rw [List.toList_toArray] at e
  rw [e] at N1
  rw [Heap.size_push, e]
  refine h _ _ ((F.push _).push _) N1 fun p hp => Nat.lt_succ_of_lt (Heap.lt_size (N p hp).1)
end
end
section
theorem offA1 : True := by
  w_top off
  trivial
open PyProof.Rows.LCg PySem PySem.W PySem.Spec PySem.Calls PyProof.Rows
set_option maxRecDepth 100000
section
variable {prog : Program} {w : World} {p : Program} {loose : List Str} {mean : ExcName → Option Value} {mg mb : Str → Option Value}
local macro_rules | `(tactic| walk_at "compareOp Eq ref ref") => `(tactic| (k_here; (refine cmp_ofEq ?_); k_dflt (refine' cmp_K ?k1 ?k2 ?k3 ?k4 ?k5 ?k6 ?k7 ?k8 ?_; (case k1 => k_units); (case k2 => k_asm); (case k3 => k_asm); (case k4 => k_inst); (case k5 => exact InstAt.type (by k_inst)); (case k6 => k_is); (case k7 => k_is); (case k8 => k_is); k_whole)))
local macro_rules | `(tactic| k_is) => `(tactic| first
  | with_reducible exact kfA _ _
  | with_reducible exact kfB _ _
  | with_reducible exact kfC _ _
  | with_reducible exact kfD _ _
  | with_reducible exact kfE _ _
  | with_reducible exact kfF _ _
  | with_reducible exact kfM _ _
  | with_reducible exact kfG _ _
  | with_reducible exact kfH _ _
  | with_reducible exact kfI _ _ _
  | with_reducible exact kfJ _ _
  | with_reducible exact kfK _ _
  )
local macro_rules | `(tactic| ktr_rel) => `(tactic| first
  | (refine HeldAt.mono (by with_reducible assumption) ?_; ktr_rel)
  | (refine KeptAt.mono (by with_reducible assumption) ?_; ktr_rel)
  | (refine AppAt.mono (by with_reducible assumption) ?_; ktr_rel)
  | (refine ListAt.mono (by with_reducible assumption) ?_; ktr_rel)
  | (refine ListAt.mono (AppAt.list (by with_reducible assumption)) ?_; ktr_rel)
  | (refine' ListAt.but (by with_reducible assumption) ?kk ?hh; (case kk => ktr_rel); (case hh => with_reducible assumption))
  | (refine' AppAt.but (by with_reducible assumption) ?kk ?hh; (case kk => ktr_rel); (case hh => with_reducible assumption)))
local macro_rules | `(tactic| walk_at "subscriptTail") => `(tactic| (k_here; (with_reducible show wpAny _ _ (subscriptTail _ _ (Value.ref _) (Value.int _ _)) _ _ _); k_dflt (refine' la_item ?N ?D ?a ?b ?c ?_; (case N => k_asm); (case D => ktr_rel); (case a => decide); (case b => decide); (case c => rfl))))
local macro_rules | `(tactic| walk_at "setItem ref int") => `(tactic| (k_here; k_dflt (refine' la_set ?F ?N ?D ?a ?b ?c ?_; (case F => k_asm); (case N => k_asm); (case D => ktr_rel); (case a => decide); (case b => decide); (case c => simp); k_whole); intro h9 news9 F9 N9 S9 A9 D9))
local macro_rules | `(tactic| walk_at "call builtin:len") => `(tactic| (k_here; (with_reducible show wpAny _ _ (call (Value.builtin "len") [Value.ref _]) _ _ _); k_dflt (refine' la_len ?N ?D ?z ?_; (case N => k_asm); (case D => ktr_rel); (case z => first | with_reducible assumption | omega))))
local macro_rules | `(tactic| walk_at "call builtin:list.append") => `(tactic| (k_here; (with_reducible show wpAny _ _ (call (Value.builtin "list.append") [Value.ref _, _]) _ _ _); k_dflt (refine' la_append ?F ?N ?D ?z ?_; (case F => k_asm); (case N => k_asm); (case D => ktr_rel); (case z => first | assumption | (rw [sizeLine_eq]; omega)); k_whole); intro h9 news9 F9 N9 S9 A9 D9))
local macro_rules | `(tactic| ktr_rel) => `(tactic| first
  | exact KeepsI.refl
  | (refine KeepsI.cons ?_; ktr_rel)
  | (refine KeepsI.trans ?_ (Sub.i (by with_reducible assumption)); ktr_rel)
  | (refine KeepsI.trans ?_ (by with_reducible assumption); ktr_rel)
  | (refine Keeps.trans ?_ (KeepsI.keeps (by with_reducible assumption)); ktr_rel)
  | (refine KeepsA.trans ?_ (KeepsI.a (by with_reducible assumption)); ktr_rel)
  | (refine TupAt.mono (by with_reducible assumption) ?_; ktr_rel))
local macro_rules | `(tactic| walk_at "call ref") => `(tactic| (k_here; (with_reducible show wpAny _ _ (call (Value.ref 126) [Value.str (Nm.str _) _] _) _ _ _); k_dflt (refine' use (mkVar) ?k1 ?k2 ?k3 ?k4 ?k5 ?kK ?kd ?ku ?_; (case k1 => k_asm); (case k2 => k_asm); (case k3 => k_asm); (case k4 => k_asm); (case k5 => k_asm); (case kK => first | exact rfl | assumption); (case kd => ktr_room); (case ku => ktr_units)); (intro r9 news9 h9 tk9 F9 N9 P9; (obtain ⟨S9, v9, e9, H9⟩ := P9; subst e9; have H8 := H9; obtain ⟨dv9, hh9, ta9, tb9, hv9, hw9⟩ := H8); (try dsimp only); kts_tail)))
local macro_rules | `(tactic| k_units) => `(tactic| ktr_units)
local macro_rules | `(tactic| ktr_units) => `(tactic| (have hcL9 := cLine_is; simp only [PyProof.Rows.units_under_make, units_in1, units_deeper, Around.mark_units, units_caller]; (try dsimp only [ktrTop]); omega))
local macro_rules | `(tactic| walk_at "call ref") => `(tactic| (k_here; (with_reducible show wpAny _ _ (call (Value.ref 986) _ _) _ _ _); refine Stop.go ?_))
local macro_rules | `(tactic| walk_at "call ref") => `(tactic| (k_here; (with_reducible show wpAny _ _ (call (Value.ref 1017) _ _) _ _ _); refine Stop.go ?_))
local macro_rules | `(tactic| walk_at "exec For") => `(tactic| (k_here; (with_reducible show wpAny _ _ (exec (Stmt.For _ _ _ [] _) _) _ _ _); k_dflt (refine' forD ?G ?F ?_; (case F => k_asm); (case G => assumption))))
local macro_rules | `(tactic| walk_at "exec For Name Attribute") => `(tactic| (k_here; (with_reducible show wpAny _ _ (exec (Stmt.For _ _ _ [] _) _) _ _ _); k_dflt (refine' forD ?G ?F ?_; (case F => k_asm); (case G => assumption))))
local macro_rules | `(tactic| walk_at "exec For Name Attribute cons nil") => `(tactic| (k_here; (with_reducible show wpAny _ _ (exec (Stmt.For _ _ _ [] _) _) _ _ _); k_dflt (refine' forD ?G ?F ?_; (case F => k_asm); (case G => assumption))))
theorem strIs {k : Str} {v : Value} (h : (PySem.strKind prog w).is k v = true) : ∃ t, v = .str k t := by
  have h' : Value.isStrOf k v = true := h
  cases v with
  | str x t =>
    refine ⟨t, ?_⟩
    have : x = k := by simpa [Value.isStrOf] using h'
    rw [this]
  | _ => cases h'
theorem Fr.fix2 {g h : Heap} {L : Addr} {m : Str → Option Value} {x y : Str} {v u : Value} (F : Fr g L h m) (e : m x = some v) (e' : m y = some u) (_hne : (x == y) = false) : Fr g L h (fun z => if z = x then some v else if z = y then some u else m z) :=
  Fr.fix (m := fun z => if z = y then some u else m z) (Fr.fix F e') (by
    show (if x = y then _ else _) = _
    by_cases hxy : x = y
    · rw [if_pos hxy, ← e', ← hxy, e]
    · rw [if_neg hxy, e])
theorem Fr.fix3 {g h : Heap} {L : Addr} {m : Str → Option Value} {x y z : Str} {v u r : Value} (F : Fr g L h m) (e : m x = some v) (e' : m y = some u) (e'' : m z = some r) : Fr g L h (fun a => if a = x then some v else if a = y then some u else if a = z then some r else m a) := by
  have : (fun a => if a = x then some v else if a = y then some u else if a = z then some r else m a) = m := funext fun a => by
    by_cases h1 : a = x
    · rw [if_pos h1, h1, e]
    · rw [if_neg h1]
      by_cases h2 : a = y
      · rw [if_pos h2, h2, e']
      · rw [if_neg h2]
        by_cases h3 : a = z
        · rw [if_pos h3, h3, e'']
        · rw [if_neg h3]
  rw [this]; exact F
set_option maxHeartbeats 8000000 in
theorem addBD {b1 d1 b2 d2 : Addr} {news : List (Addr × Obj)} {κ1 κ2 : List (Nm × Nm)} (H1 : HeldAt prog w news b1 d1 κ1) (H2 : HeldAt prog w news b2 d2 κ2) (hv1 : ∀ q ∈ κ1, isVar q.1 = true) (hv2 : ∀ q ∈ κ2, isVar q.1 = true) (hz1 : κ1.length ≤ 40) (hz2 : κ2.length ≤ 40) :
    SpecS prog w p loose mean mg mb 1007 [.ref b1, .ref b2] 120 1200 news (fun r news' => Sub news news' ∧ ∃ b d κ, r = .ref b ∧ (∀ p ∈ news, p.1 < d) ∧ foldK [] (κ1 ++ κ2) = some κ ∧ HeldAt prog w news' b d κ) (fun news' => foldK [] (κ1 ++ κ2) = none ∧ Sub news news') := by
  unfold SpecS
  intro dp un gd cn cs a ccd cl outer A₀ base h₀ g₀ L m s Q E B F X N T XB TB D T0 hk hd hu hret hexc
  refine wpAny_call ?_
  k_dflt (refine' enterS ?k1 ?k2 ?k3 ?k4 ?k5 ?XB ?TB ?D ?T0 ?kA ?kF ?kK ?k6 ?k7 ?k8 ?k9 ?kB ?ret ?exc ?_ ?c2 ?c3 ?c4 ?c5; (case kA => exact rfl); (case kF => exact rfl); (case kK => assumption); (case k1 => k_asm); (case k2 => k_asm); (case k3 => k_asm); (case k4 => k_asm); (case k5 => k_asm); (case XB => assumption); (case TB => assumption); (case D => assumption); (case T0 => assumption); (case k6 => k_is); (case k7 => k_is); (case k8 => ktr_room); (case k9 => first | exact BindsTo.of_eq rfl | exact binds_K (by k_in) rfl (by k_is) rfl rfl rfl); (case c5 => decide); (case kB => exact locs rfl); (case c2 => exact rfl); (case c3 => exact rfl); (case c4 => exact rfl); (case ret => exact hret); (case exc => exact hexc); intro g' L' h' FG' F' N' B' X' T' D'; (try dsimp only); (try k_fold))
  have G0 : Gd w p loose mean mg mb _ _ _ _ _ := ⟨KtsTurn.refl, by assumption, by assumption, by assumption, by assumption⟩
  obtain ⟨db1, hh1, tt1, kvs1, hne1, hb1, hdb1, DA1, R1⟩ := id H1
  obtain ⟨db2, hh2, tt2, kvs2, hne2, hb2, hdb2, DA2, R2⟩ := id H2
  k_steps
  show Stop _
  unfold Stop
  refine' use (mkBD0) ?k1 ?k2 ?k3 ?k4 ?k5 ?kK ?kd ?ku ?_; (case k1 => k_asm); (case k2 => k_asm); (case k3 => k_asm); (case k4 => k_asm); (case k5 => k_asm); (case kK => first | exact rfl | assumption); (case kd => ktr_room); (case ku => ktr_units)
  intro r9 news9 h9 tk9 F9 N9 P9
  obtain ⟨S9, bc, dc, rfl, L0, H9⟩ := P9
  k_steps
  obtain ⟨oo1, ho1, hp1, hq1⟩ := id DA1
  have nt1 := DictAt.notTab hp1
  rename News _ _ _ _ => NX1
  refine ⟨d1, kvs1, oo1, _, _, _, rfl, rfl, by assumption, by k_asm, by k_asm, by k_mem, hp1, hq1, fun i m l => m (Str.ofString "self") = some (.ref b1) ∧ m (Str.ofString "other") = some (.ref b2) ∧ m (Str.ofString "combined") = some (.ref bc) ∧ Sub news l ∧ ∃ κ, foldK [] ((κ1 ++ κ2).take (i)) = some κ ∧ HeldAt prog w l bc dc κ, ?_, ?_, ?_, ?_⟩
  · rintro i m l l' ⟨a1, a2, a3, a, κ, c, e⟩ k
    exact ⟨a1, a2, a3, Sub.old (News.sub NX1 (by ktr_rel)) a k, κ, c, e.mono k.keeps⟩
  · exact ⟨rfl, rfl, rfl, by ktr_rel, [], rfl, H9⟩
  · intro i k x v g I oI m₁ news₁ h tk hkv hkk hg hit hI hax hJ F N
    obtain ⟨hs1, hs2, hs3, hKI, κ, hκ, HA⟩ := hJ
    obtain ⟨t, rfl⟩ := strIs hkk
    obtain ⟨q, hq, hk1, hx1⟩ := rel2_get? R1 hkv
    have hk2 : k = q.1.str := hk1
    subst hk2
    have hmem : q ∈ κ1 := List.mem_of_getElem? hq
    have hlk := look_nodup (R1.nodup DA1.nodup) hmem
    obtain ⟨v1, hval, e1, hve, hE1⟩ := R1.some hlk
    subst hve
    have hqT : (κ1 ++ κ2)[i]? = some q := by rw [List.getElem?_append_left (List.getElem?_eq_some_iff.mp hq).1]; exact hq
    have hvar : isVar q.1 = true := hv1 q hmem
    have F1 := Fr.fix3 F hs1 hs2 hs3
    have hKK := hKI.keeps
    have hz1 : κ.length ≤ 100 := by
      have := foldK_len hκ
      have h3 : ((κ1 ++ κ2).take (i)).length ≤ (κ1 ++ κ2).length := by rw [List.length_take]; exact Nat.min_le_right _ _
      rw [List.length_append] at h3
      simp only [List.length_nil] at this; omega
    have hI2 := HA.ne_iter N hI hit
    have hx2 : d1 ≠ dc := Nat.ne_of_lt (L0 _ ho1)
    obtain ⟨T8, B8, X8, TP8, D8⟩ := id hg
    obtain ⟨dbc, hhc, ttc, kvsc, hnec, hbc, hdbc, DAc, Rc⟩ := id HA
    k_steps
    show Stop _
    unfold Stop
    refine' useS (setItem hvar ?s2 hz1 ?s4 ?s5) ?k1 ?k2 ?k3 ?k4 ?k5 ?kXB ?kTB ?kD ?kT0 ?kK ?kd ?ku ?kR ?kE; (case k1 => k_asm); (case k2 => k_asm); (case k3 => k_asm); (case k4 => k_asm); (case k5 => k_asm); (case kXB => assumption); (case kTB => assumption); (case kD => assumption); (case kT0 => first | assumption | exact KtsTurn.refl); (case kK => first | exact rfl | assumption); (case kd => ktr_room); (case ku => ktr_units)
    case s2 => exact HA.mono (by ktr_rel)
    case s4 => first | ktr_rel | exact ⟨_, _, _, _, by k_mem, by k_mem⟩
    case s5 => ktr_rel
    case kE =>
      intro g9 G9 e9 t9 vs9 news9 h9 tk9 T9 F9 B9 X9 TP9 D9 R9 U9 P9
      refine excOn B9 F9 T9 R9 U9 ⟨?_, Sub.trans (by ktr_rel) P9.2⟩
      rw [← List.take_append_drop (i + 1) (κ1 ++ κ2)]
      exact foldK_fail (by rw [take_succ' hqT, foldK_snoc hκ]; exact P9.1)
    intro r9 g9 news9 h9 tk9 T9 F9 N9 B9 X9 TP9 D9 P9
    obtain ⟨S9, A9, rfl, κ9, K9, H9⟩ := P9
    k_steps
    refine TurnEnd.intro ⟨by assumption, by assumption, by assumption, by assumption, by assumption⟩ (by k_asm) (by k_asm) (fun p hp => ?_) ⟨rfl, rfl, rfl, Sub.but (by ktr_rel) S9 L0, κ9, by show foldK [] ((κ1 ++ κ2).take (i + 1)) = _; rw [take_succ' hqT, foldK_snoc hκ]; exact K9, H9⟩
    rcases List.mem_cons.mp hp with rfl | hp
    · exact S9 _ (by k_mem) hI2
    · rw [List.mem_singleton.mp hp]; exact S9 _ (by k_mem) hx2
  · intro g m₁ news₁ h tk hg hax hJ F N
    obtain ⟨hs1, hs2, hs3, hKI, κ, hκ, HA⟩ := hJ
    have hg' := hg
    obtain ⟨T8, B8, X8, TP8, D8⟩ := hg'
    have F1 := Fr.fix3 F hs1 hs2 hs3
    have hKK := hKI.keeps
    rw [R1.length] at hκ
    k_steps
    obtain ⟨oo2, ho2, hp2, hq2⟩ := id DA2
    have nt2 := DictAt.notTab hp2
    rename News _ _ _ _ => NX2
    refine ⟨d2, kvs2, oo2, _, _, _, rfl, rfl, by assumption, by k_asm, by k_asm, by k_mem, hp2, hq2, fun i m l => m (Str.ofString "self") = some (.ref b1) ∧ m (Str.ofString "other") = some (.ref b2) ∧ m (Str.ofString "combined") = some (.ref bc) ∧ Sub news l ∧ ∃ κ, foldK [] ((κ1 ++ κ2).take (κ1.length + i)) = some κ ∧ HeldAt prog w l bc dc κ, ?_, ?_, ?_, ?_⟩
    · rintro i m l l' ⟨a1, a2, a3, a, κ, c, e⟩ k
      exact ⟨a1, a2, a3, Sub.old (News.sub NX2 (by ktr_rel)) a k, κ, c, e.mono k.keeps⟩
    · exact ⟨rfl, rfl, rfl, hKI, κ, hκ, HA⟩
    · intro i k x v g I oI m₁ news₁ h tk hkv hkk hg hit hI hax hJ F N
      obtain ⟨hs1, hs2, hs3, hKI, κ, hκ, HA⟩ := hJ
      obtain ⟨t, rfl⟩ := strIs hkk
      obtain ⟨q, hq, hk1, hx1⟩ := rel2_get? R2 hkv
      have hk2 : k = q.1.str := hk1
      subst hk2
      have hmem : q ∈ κ2 := List.mem_of_getElem? hq
      have hlk := look_nodup (R2.nodup DA2.nodup) hmem
      obtain ⟨v1, hval, e1, hve, hE1⟩ := R2.some hlk
      subst hve
      have hqT : (κ1 ++ κ2)[κ1.length + i]? = some q := by rw [List.getElem?_append_right (Nat.le_add_right _ _), Nat.add_sub_cancel_left]; exact hq
      have hvar : isVar q.1 = true := hv2 q hmem
      have F1 := Fr.fix3 F hs1 hs2 hs3
      have hKK := hKI.keeps
      have hz1 : κ.length ≤ 100 := by
        have := foldK_len hκ
        have h3 : ((κ1 ++ κ2).take (κ1.length + i)).length ≤ (κ1 ++ κ2).length := by rw [List.length_take]; exact Nat.min_le_right _ _
        rw [List.length_append] at h3
        simp only [List.length_nil] at this; omega
      have hI2 := HA.ne_iter N hI hit
      have hx2 : d2 ≠ dc := Nat.ne_of_lt (L0 _ ho2)
      obtain ⟨T8, B8, X8, TP8, D8⟩ := id hg
      obtain ⟨dbc, hhc, ttc, kvsc, hnec, hbc, hdbc, DAc, Rc⟩ := id HA
      k_steps
      show Stop _
      unfold Stop
      refine' useS (setItem hvar ?ys2 hz1 ?ys4 ?ys5) ?yk1 ?yk2 ?yk3 ?yk4 ?yk5 ?ykXB ?ykTB ?ykD ?ykT0 ?ykK ?ykd ?yku ?ykR ?ykE; (case yk1 => k_asm); (case yk2 => k_asm); (case yk3 => k_asm); (case yk4 => k_asm); (case yk5 => k_asm); (case ykXB => assumption); (case ykTB => assumption); (case ykD => assumption); (case ykT0 => first | assumption | exact KtsTurn.refl); (case ykK => first | exact rfl | assumption); (case ykd => ktr_room); (case yku => ktr_units)
      case ys2 => exact HA.mono (by ktr_rel)
      case ys4 => first | ktr_rel | exact ⟨_, _, _, _, by k_mem, by k_mem⟩
      case ys5 => ktr_rel
      case ykE =>
        intro g9 G9 e9 t9 vs9 news9 h9 tk9 T9 F9 B9 X9 TP9 D9 R9 U9 P9
        refine excOn B9 F9 T9 R9 U9 ⟨?_, Sub.trans (by ktr_rel) P9.2⟩
        rw [← List.take_append_drop (κ1.length + i + 1) (κ1 ++ κ2)]
        exact foldK_fail (by rw [take_succ' hqT, foldK_snoc hκ]; exact P9.1)
      intro r9 g9 news9 h9 tk9 T9 F9 N9 B9 X9 TP9 D9 P9
      obtain ⟨S9, A9, rfl, κ9, K9, H9⟩ := P9
      k_steps
      refine TurnEnd.intro ⟨by assumption, by assumption, by assumption, by assumption, by assumption⟩ (by k_asm) (by k_asm) (fun p hp => ?_) ⟨rfl, rfl, rfl, Sub.but (by ktr_rel) S9 L0, κ9, by show foldK [] ((κ1 ++ κ2).take (κ1.length + i + 1)) = _; rw [take_succ' hqT, foldK_snoc hκ]; exact K9, H9⟩
      rcases List.mem_cons.mp hp with rfl | hp
      · exact S9 _ (by k_mem) hI2
      · rw [List.mem_singleton.mp hp]; exact S9 _ (by k_mem) hx2
    · intro g m₁ news₁ h tk hg hax hJ F N
      obtain ⟨hs1, hs2, hs3, hKI, κ, hκ, HA⟩ := hJ
      have hg' := hg
      obtain ⟨T8, B8, X8, TP8, D8⟩ := hg'
      have F1 := Fr.fix3 F hs1 hs2 hs3
      have hKK := hKI.keeps
      rw [R2.length, ← List.length_append, List.take_length] at hκ
      k_steps
      refine' ⟨?yzg, ?yzL, ?yzm, ?yzn, ?yzh, ?yzt, ?yze, ?yzT, ?yzF, ?yzN, ?yzP⟩; (case yze => exact rfl); (case yzF => k_asm); (case yzN => k_asm); (case yzT => first | assumption | exact KtsTurn.refl)
      case yzP => exact ⟨by with_reducible assumption, _, _, _, rfl, L0, hκ, HA⟩
  
end
end
section
theorem offN2 : True := by
  w_top off
  trivial
open PyProof.Rows.LCg PySem PySem.W PySem.Spec PySem.Calls PyProof.Rows
set_option maxRecDepth 100000
section
variable {prog : Program} {w : World} {p : Program} {loose : List Str} {mean : ExcName → Option Value} {mg mb : Str → Option Value}
local macro_rules | `(tactic| walk_at "compareOp Eq ref ref") => `(tactic| (k_here; (refine cmp_ofEq ?_); k_dflt (refine' cmp_K ?k1 ?k2 ?k3 ?k4 ?k5 ?k6 ?k7 ?k8 ?_; (case k1 => k_units); (case k2 => k_asm); (case k3 => k_asm); (case k4 => k_inst); (case k5 => exact InstAt.type (by k_inst)); (case k6 => k_is); (case k7 => k_is); (case k8 => k_is); k_whole)))
local macro_rules | `(tactic| k_is) => `(tactic| first
  | with_reducible exact kfA _ _
  | with_reducible exact kfB _ _
  | with_reducible exact kfC _ _
  | with_reducible exact kfD _ _
  | with_reducible exact kfE _ _
  | with_reducible exact kfF _ _
  | with_reducible exact kfM _ _
  | with_reducible exact kfG _ _
  | with_reducible exact kfH _ _
  | with_reducible exact kfI _ _ _
  | with_reducible exact kfJ _ _
  | with_reducible exact kfK _ _
  )
theorem Spec.same {f : Addr} {vs : List Value} {d u : Nat} {news : List (Addr × Obj)} {P : Value → Prop} (S : Spec prog w p loose mean mg mb f vs d u news (fun r news' => Sub news news' ∧ P r)) : Spec prog w p loose mean mg mb f vs d u news (fun r news' => news' = news ∧ P r) :=
  fun _ _ _ _ _ _ _ _ _ _ _ _ _ _ _ _ _ B F X N T hk h1 h2 ret => S _ _ _ _ _ _ _ _ _ _ _ _ _ _ _ _ _ B F X N T hk h1 h2 fun r l h' tk' F' N' q => ret r _ h' tk' F' (fun p hp => N' p (q.1 p hp)) ⟨rfl, q.2⟩
/-- what is new lies ahead of what stood, and above it -/
def Made (P : List (Addr × Obj) → Prop) (l l' : List (Addr × Obj)) : Prop := ∃ new, l' = new ++ l ∧ (∀ p ∈ new, ∀ q ∈ l, q.1 < p.1) ∧ P new
theorem Made.trans {P Q R : List (Addr × Obj) → Prop} {l l' l'' : List (Addr × Obj)} (a : Made P l l') (b : Made Q l' l'') (h : ∀ x y, P x → Q y → R (y ++ x)) : Made R l l'' := by
  obtain ⟨x, rfl, ax, hx⟩ := a
  obtain ⟨y, rfl, ay, hy⟩ := b
  refine ⟨y ++ x, (List.append_assoc _ _ _).symm, fun p hp q hq => ?_, h x y hx hy⟩
  rcases List.mem_append.mp hp with hp | hp
  · exact ay p hp q (List.mem_append_right _ hq)
  · exact ax p hp q hq
theorem Made.two {P : List (Addr × Obj) → Prop} {l : List (Addr × Obj)} {x d : Addr} {o o' : Obj} (l1 : ∀ p ∈ l, p.1 < d) (l2 : (d : Nat) < x) (h : P [(x, o), (d, o')]) : Made P l ((x, o) :: (d, o') :: l) :=
  ⟨_, rfl, fun p hp q hq => by
    rcases List.mem_cons.mp hp with rfl | hp
    · exact Nat.lt_trans (l1 q hq) l2
    · rw [List.mem_singleton.mp hp]; exact l1 q hq, h⟩
theorem Made.imp {P Q : List (Addr × Obj) → Prop} {l l' : List (Addr × Obj)} (a : Made P l l') (h : ∀ x, P x → Q x) : Made Q l l' := let ⟨x, e, ax, hx⟩ := a; ⟨x, e, ax, h x hx⟩
def NodeN (new : List (Addr × Obj)) (e : Addr) (n : Nm) (v : Addr) : Prop := ∃ de h t, (e, instObj n.cls de) ∈ new ∧ (de, dictOf [⟨h, .str (Str.ofString "variable") t, .ref v⟩] 1) ∈ new
def NodeA (new : List (Addr × Obj)) (e f a : Addr) : Prop := ∃ de h t h' t', (e, instObj 423 de) ∈ new ∧ (de, dictOf [⟨h, .str (Str.ofString "function") t, .ref f⟩, ⟨h', .str (Str.ofString "argument") t', .ref a⟩] 2) ∈ new
theorem Sub.appL {l r : List (Addr × Obj)} : Sub l (l ++ r) := fun _ h => List.mem_append_left _ h
theorem Sub.appR {l r : List (Addr × Obj)} : Sub r (l ++ r) := fun _ h => List.mem_append_right _ h
theorem NodeN.ex {x y : List (Addr × Obj)} {e v : Addr} {n : Nm} (h1 : VarIn x v n) (h2 : NodeN y e n v) : ExIn (y ++ x) e (.nm n) := by
  obtain ⟨de, h, t, a, b⟩ := h2
  exact .nm (List.mem_append_left _ a) (List.mem_append_left _ b) (h1.mono Sub.appR.keeps)
theorem NodeA.ex {x y : List (Addr × Obj)} {e f a : Addr} {t1 t2 : Tm} (h1 : ExIn x f t1) (h3 : ExIn x a t2) (h2 : NodeA y e f a) : ExIn (y ++ x) e (.app t1 t2) := by
  obtain ⟨de, h, t, h', t', p, q⟩ := h2
  exact .app (List.mem_append_left _ p) (List.mem_append_left _ q) (h1.mono Sub.appR.keeps) (h3.mono Sub.appR.keeps)
set_option maxHeartbeats 4000000 in
theorem mkVarM {n : Nm} {t : Tok} {news : List (Addr × Obj)} :
    Spec prog w p loose mean mg mb 126 [.str n.str t] 8 80 news (fun r news' => Sub news news' ∧ ∃ v, r = .ref v ∧ VarIn news' v n ∧ Made (fun new => VarIn new v n) news news') := by
  unfold Spec
  intro dp un gd cn cs a ccd cl outer A₀ base h₀ L m s Q E B F X N T hk hd hu hret
  k_dflt (refine' call_cls ?k1 ?k2 ?k3 ?k4 ?k5 ?k6 ?_; (case k1 => k_asm); (case k2 => k_asm); (case k3 => k_asm); (case k4 => k_is); (case k5 => k_is); (case k6 => k_is); k_whole; intro x' d' h' F' N' l1 l2; (try k_lt l1); (try k_lt2 l2); ktr_enter)
  k_steps
  exact hret _ _ _ _ (by k_asm) (by k_asm) ⟨by ktr_rel, _, rfl, ⟨_, _, _, _, by k_mem, by k_mem⟩, Made.two (by assumption) (by assumption) ⟨_, _, _, _, .head _, .tail _ (.head _)⟩⟩
set_option maxHeartbeats 4000000 in
theorem mkIVM {n : Nm} {v : Addr} {news : List (Addr × Obj)} (hn : n.cls = 511) (hv : VarIn news v n) :
    Spec prog w p loose mean mg mb 511 [.ref v] 8 80 news (fun r news' => Sub news news' ∧ ∃ e, r = .ref e ∧ ExIn news' e (.nm n) ∧ Made (fun new => NodeN new e n v) news news') := by
  have hv0 := hv
  obtain ⟨dv, h1, t1, t2, hv1, hv2⟩ := hv0
  unfold Spec
  intro dp un gd cn cs a ccd cl outer A₀ base h₀ L m s Q E B F X N T hk hd hu hret
  k_dflt (refine' call_cls ?k1 ?k2 ?k3 ?k4 ?k5 ?k6 ?_; (case k1 => k_asm); (case k2 => k_asm); (case k3 => k_asm); (case k4 => k_is); (case k5 => k_is); (case k6 => k_is); k_whole; intro x' d' h' F' N' l1 l2; (try k_lt l1); (try k_lt2 l2); ktr_enter)
  k_steps
  exact hret _ _ _ _ (by k_asm) (by k_asm) ⟨by ktr_rel, _, rfl, .nm (by rw [hn]; k_mem) (by k_mem) (VarIn.mono hv (Sub.cons (Sub.cons Sub.refl)).keeps), Made.two (by assumption) (by assumption) ⟨_, _, _, by rw [hn]; exact .head _, .tail _ (.head _)⟩⟩
set_option maxHeartbeats 4000000 in
theorem mkCEM {n : Nm} {v : Addr} {news : List (Addr × Obj)} (hn : n.cls = 575) (hv : VarIn news v n) :
    Spec prog w p loose mean mg mb 575 [.ref v] 8 80 news (fun r news' => Sub news news' ∧ ∃ e, r = .ref e ∧ ExIn news' e (.nm n) ∧ Made (fun new => NodeN new e n v) news news') := by
  have hv0 := hv
  obtain ⟨dv, h1, t1, t2, hv1, hv2⟩ := hv0
  unfold Spec
  intro dp un gd cn cs a ccd cl outer A₀ base h₀ L m s Q E B F X N T hk hd hu hret
  k_dflt (refine' call_cls ?k1 ?k2 ?k3 ?k4 ?k5 ?k6 ?_; (case k1 => k_asm); (case k2 => k_asm); (case k3 => k_asm); (case k4 => k_is); (case k5 => k_is); (case k6 => k_is); k_whole; intro x' d' h' F' N' l1 l2; (try k_lt l1); (try k_lt2 l2); ktr_enter)
  k_steps
  exact hret _ _ _ _ (by k_asm) (by k_asm) ⟨by ktr_rel, _, rfl, .nm (by rw [hn]; k_mem) (by k_mem) (VarIn.mono hv (Sub.cons (Sub.cons Sub.refl)).keeps), Made.two (by assumption) (by assumption) ⟨_, _, _, by rw [hn]; exact .head _, .tail _ (.head _)⟩⟩
section
local macro_rules | `(tactic| walk_at "call ref") => `(tactic| (k_here; (with_reducible show wpAny _ _ (call (Value.ref 950) _ _) _ _ _); k_dflt (refine' use ((ind1 (by assumption)).same) ?k1 ?k2 ?k3 ?k4 ?k5 ?kK ?kd ?ku ?_; (case k1 => k_asm); (case k2 => k_asm); (case k3 => k_asm); (case k4 => k_asm); (case k5 => k_asm); (case kK => first | exact rfl | assumption); (case kd => ktr_room); (case ku => ktr_units)); (intro r9 news9 h9 tk9 F9 N9 P9; (obtain ⟨S9, e9⟩ := P9; subst S9; subst e9); (try dsimp only); kts_tail)))
local macro_rules | `(tactic| walk_at "call ref") => `(tactic| (k_here; (with_reducible show wpAny _ _ (call (Value.ref 950) _ _) _ _ _); k_dflt (refine' use ((ind0 (by assumption)).same) ?k1 ?k2 ?k3 ?k4 ?k5 ?kK ?kd ?ku ?_; (case k1 => k_asm); (case k2 => k_asm); (case k3 => k_asm); (case k4 => k_asm); (case k5 => k_asm); (case kK => first | exact rfl | assumption); (case kd => ktr_room); (case ku => ktr_units)); (intro r9 news9 h9 tk9 F9 N9 P9; (obtain ⟨S9, e9⟩ := P9; subst S9; subst e9); (try dsimp only); kts_tail)))
local macro_rules | `(tactic| walk_at "call ref") => `(tactic| (k_here; (with_reducible show wpAny _ _ (call (Value.ref 957) _ _) _ _ _); k_dflt (refine' use ((fun0 (by assumption)).same) ?k1 ?k2 ?k3 ?k4 ?k5 ?kK ?kd ?ku ?_; (case k1 => k_asm); (case k2 => k_asm); (case k3 => k_asm); (case k4 => k_asm); (case k5 => k_asm); (case kK => first | exact rfl | assumption); (case kd => ktr_room); (case ku => ktr_units)); (intro r9 news9 h9 tk9 F9 N9 P9; (obtain ⟨S9, e9⟩ := P9; subst S9; subst e9); (try dsimp only); kts_tail)))
local macro_rules | `(tactic| walk_at "call ref") => `(tactic| (k_here; (with_reducible show wpAny _ _ (call (Value.ref 964) _ _) _ _ _); k_dflt (refine' use ((ev0 (by assumption)).same) ?k1 ?k2 ?k3 ?k4 ?k5 ?kK ?kd ?ku ?_; (case k1 => k_asm); (case k2 => k_asm); (case k3 => k_asm); (case k4 => k_asm); (case k5 => k_asm); (case kK => first | exact rfl | assumption); (case kd => ktr_room); (case ku => ktr_units)); (intro r9 news9 h9 tk9 F9 N9 P9; (obtain ⟨S9, e9⟩ := P9; subst S9; subst e9); (try dsimp only); kts_tail)))
local macro_rules | `(tactic| walk_at "call ref") => `(tactic| (k_here; (with_reducible show wpAny _ _ (call (Value.ref 511) _ _) _ _ _); k_dflt (refine' use (mkIVM ?s1 ?s2) ?k1 ?k2 ?k3 ?k4 ?k5 ?kK ?kd ?ku ?_; (case k1 => k_asm); (case k2 => k_asm); (case k3 => k_asm); (case k4 => k_asm); (case k5 => k_asm); (case kK => first | exact rfl | assumption); (case kd => ktr_room); (case ku => ktr_units); (case s1 => assumption); (case s2 => ktr_rel)); (intro r9 news9 h9 tk9 F9 N9 P9; (obtain ⟨S9, v9, e9, H9, M9⟩ := P9; subst e9); (try dsimp only); kts_tail)))
local macro_rules | `(tactic| walk_at "call ref") => `(tactic| (k_here; (with_reducible show wpAny _ _ (call (Value.ref 575) _ _) _ _ _); k_dflt (refine' use (mkCEM ?s1 ?s2) ?k1 ?k2 ?k3 ?k4 ?k5 ?kK ?kd ?ku ?_; (case k1 => k_asm); (case k2 => k_asm); (case k3 => k_asm); (case k4 => k_asm); (case k5 => k_asm); (case kK => first | exact rfl | assumption); (case kd => ktr_room); (case ku => ktr_units); (case s1 => assumption); (case s2 => ktr_rel)); (intro r9 news9 h9 tk9 F9 N9 P9; (obtain ⟨S9, v9, e9, H9, M9⟩ := P9; subst e9); (try dsimp only); kts_tail)))
set_option maxHeartbeats 4000000 in
theorem mkExM1 {n : Nm} {v : Addr} {news : List (Addr × Obj)} (hn : n.cls = 511) (hv : VarIn news v n) :
    Spec prog w p loose mean mg mb 584 [.ref v] 12 120 news (fun r news' => Sub news news' ∧ ∃ e, r = .ref e ∧ ExIn news' e (.nm n) ∧ Made (fun new => NodeN new e n v) news news') := by
  have hv0 := hv
  obtain ⟨dv, h1, t1, t2, hv1, hv2⟩ := hv0
  unfold Spec
  intro dp un gd cn cs a ccd cl outer A₀ base h₀ L m s Q E B F X N T hk hd hu hret
  refine wpAny_call ?_
  k_dflt ktr_enter
  k_steps
  exact hret _ _ _ _ (by k_asm) (by k_asm) ⟨by ktr_rel, _, rfl, by assumption, by assumption⟩
set_option maxHeartbeats 4000000 in
theorem mkExM0 {n : Nm} {v : Addr} {news : List (Addr × Obj)} (hn : n.cls = 575) (hv : VarIn news v n) :
    Spec prog w p loose mean mg mb 584 [.ref v] 12 120 news (fun r news' => Sub news news' ∧ ∃ e, r = .ref e ∧ ExIn news' e (.nm n) ∧ Made (fun new => NodeN new e n v) news news') := by
  have hv0 := hv
  obtain ⟨dv, h1, t1, t2, hv1, hv2⟩ := hv0
  unfold Spec
  intro dp un gd cn cs a ccd cl outer A₀ base h₀ L m s Q E B F X N T hk hd hu hret
  refine wpAny_call ?_
  k_dflt ktr_enter
  k_steps
  exact hret _ _ _ _ (by k_asm) (by k_asm) ⟨by ktr_rel, _, rfl, by assumption, by assumption⟩
end
theorem mkExM {n : Nm} {v : Addr} {news : List (Addr × Obj)} (hv : VarIn news v n) :
    Spec prog w p loose mean mg mb 584 [.ref v] 12 120 news (fun r news' => Sub news news' ∧ ∃ e, r = .ref e ∧ ExIn news' e (.nm n) ∧ Made (fun new => NodeN new e n v) news news') := by
  rcases n.cls_or with h | h
  · exact mkExM1 h hv
  · exact mkExM0 h hv
local macro_rules | `(tactic| walk_at "call builtin:isinstance") => `(tactic| (k_here; (with_reducible show wpAny _ _ (call (Value.builtin _) [Value.ref _, Value.ref 318]) _ _ _); k_dflt (refine' isiEx ?he ?X ?N ?_; (case N => k_asm); (case he => ktr_rel); (case X => k_in))))
set_option maxHeartbeats 4000000 in
theorem mkAppM {t1 t2 : Tm} {e1 e2 : Addr} {news : List (Addr × Obj)} (he1 : ExIn news e1 t1) (he2 : ExIn news e2 t2) :
    Spec prog w p loose mean mg mb 423 [.ref e1, .ref e2] 8 80 news (fun r news' => Sub news news' ∧ ∃ e, r = .ref e ∧ ExIn news' e (.app t1 t2) ∧ Made (fun new => NodeA new e e1 e2) news news') := by
  unfold Spec
  intro dp un gd cn cs a ccd cl outer A₀ base h₀ L m s Q E B F X N T hk hd hu hret
  k_dflt (refine' call_cls ?k1 ?k2 ?k3 ?k4 ?k5 ?k6 ?_; (case k1 => k_asm); (case k2 => k_asm); (case k3 => k_asm); (case k4 => k_is); (case k5 => k_is); (case k6 => k_is); k_whole; intro x' d' h' F' N' l1 l2; (try k_lt l1); (try k_lt2 l2); ktr_enter)
  k_steps
  exact hret _ _ _ _ (by k_asm) (by k_asm) ⟨by ktr_rel, _, rfl, .app (by k_mem) (by k_mem) (by ktr_rel) (by ktr_rel), Made.two (by assumption) (by assumption) ⟨_, _, _, _, _, .head _, .tail _ (.head _)⟩⟩
local macro_rules | `(tactic| walk_at "call ref") => `(tactic| (k_here; (with_reducible show wpAny _ _ (call (Value.ref 126) [Value.str (Nm.str _) _] _) _ _ _); k_dflt (refine' use (mkVarM) ?k1 ?k2 ?k3 ?k4 ?k5 ?kK ?kd ?ku ?_; (case k1 => k_asm); (case k2 => k_asm); (case k3 => k_asm); (case k4 => k_asm); (case k5 => k_asm); (case kK => first | exact rfl | assumption); (case kd => ktr_room); (case ku => ktr_units)); (intro r9 news9 h9 tk9 F9 N9 P9; (obtain ⟨S9, v9, e9, H9, M9⟩ := P9; subst e9); (try dsimp only); kts_tail)))
local macro_rules | `(tactic| walk_at "call ref") => `(tactic| (k_here; (with_reducible show wpAny _ _ (call (Value.ref 126) [Value.str (Str.ofString "mother") _] _) _ _ _); k_dflt (refine' use (mkVarM (n := .mother)) ?k1 ?k2 ?k3 ?k4 ?k5 ?kK ?kd ?ku ?_; (case k1 => k_asm); (case k2 => k_asm); (case k3 => k_asm); (case k4 => k_asm); (case k5 => k_asm); (case kK => first | exact rfl | assumption); (case kd => ktr_room); (case ku => ktr_units)); (intro r9 news9 h9 tk9 F9 N9 P9; (obtain ⟨S9, v9, e9, H9, M9⟩ := P9; subst e9); (try dsimp only); kts_tail)))
local macro_rules | `(tactic| walk_at "call ref") => `(tactic| (k_here; (with_reducible show wpAny _ _ (call (Value.ref 126) [Value.str (Str.ofString "rex") _] _) _ _ _); k_dflt (refine' use (mkVarM (n := .rex)) ?k1 ?k2 ?k3 ?k4 ?k5 ?kK ?kd ?ku ?_; (case k1 => k_asm); (case k2 => k_asm); (case k3 => k_asm); (case k4 => k_asm); (case k5 => k_asm); (case kK => first | exact rfl | assumption); (case kd => ktr_room); (case ku => ktr_units)); (intro r9 news9 h9 tk9 F9 N9 P9; (obtain ⟨S9, v9, e9, H9, M9⟩ := P9; subst e9); (try dsimp only); kts_tail)))
local macro_rules | `(tactic| walk_at "call ref") => `(tactic| (k_here; (with_reducible show wpAny _ _ (call (Value.ref 126) [Value.str (Str.ofString "gives") _] _) _ _ _); k_dflt (refine' use (mkVarM (n := .gives)) ?k1 ?k2 ?k3 ?k4 ?k5 ?kK ?kd ?ku ?_; (case k1 => k_asm); (case k2 => k_asm); (case k3 => k_asm); (case k4 => k_asm); (case k5 => k_asm); (case kK => first | exact rfl | assumption); (case kd => ktr_room); (case ku => ktr_units)); (intro r9 news9 h9 tk9 F9 N9 P9; (obtain ⟨S9, v9, e9, H9, M9⟩ := P9; subst e9); (try dsimp only); kts_tail)))
local macro_rules | `(tactic| walk_at "call ref") => `(tactic| (k_here; (with_reducible show wpAny _ _ (call (Value.ref 584) _ _) _ _ _); k_dflt (refine' use (mkExM ?s1) ?k1 ?k2 ?k3 ?k4 ?k5 ?kK ?kd ?ku ?_; (case k1 => k_asm); (case k2 => k_asm); (case k3 => k_asm); (case k4 => k_asm); (case k5 => k_asm); (case kK => first | exact rfl | assumption); (case kd => ktr_room); (case ku => ktr_units); (case s1 => ktr_rel)); (intro r9 news9 h9 tk9 F9 N9 P9; (obtain ⟨S9, v9, e9, H9, M9⟩ := P9; subst e9); (try dsimp only); kts_tail)))
local macro_rules | `(tactic| walk_at "call ref") => `(tactic| (k_here; (with_reducible show wpAny _ _ (call (Value.ref 423) _ _) _ _ _); k_dflt (refine' use (mkAppM ?s1 ?s2) ?k1 ?k2 ?k3 ?k4 ?k5 ?kK ?kd ?ku ?_; (case k1 => k_asm); (case k2 => k_asm); (case k3 => k_asm); (case k4 => k_asm); (case k5 => k_asm); (case kK => first | exact rfl | assumption); (case kd => ktr_room); (case ku => ktr_units); (case s1 => ktr_rel); (case s2 => ktr_rel)); (intro r9 news9 h9 tk9 F9 N9 P9; (obtain ⟨S9, v9, e9, H9, M9⟩ := P9; subst e9); (try dsimp only); kts_tail)))
set_option maxHeartbeats 4000000 in
theorem madeMM {t : Tok} {news : List (Addr × Obj)}  :
    Spec prog w p loose mean mg mb 1048 [.str (Str.ofString "mother") t] 30 300 news (fun r news' => Sub news news' ∧ ∃ e, r = .ref e ∧ ExIn news' e (tmOf .mother) ∧ Made (fun new => ExIn new e (tmOf .mother)) news news') := by
  unfold Spec
  intro dp un gd cn cs a ccd cl outer A₀ base h₀ L m s Q E B F X N T hk hd hu hret
  refine wpAny_call ?_
  k_dflt ktr_enter
  k_steps
  exact hret _ _ _ _ (by k_asm) (by k_asm) ⟨by ktr_rel, _, rfl, by assumption, Made.trans (Made.trans (R := fun new => ExIn new _ (.nm .mother)) (by with_reducible assumption) (by with_reducible assumption) fun x y h1 h2 => NodeN.ex h1 h2) (Made.trans (Made.trans (R := fun new => ExIn new _ (.nm .rex)) (by with_reducible assumption) (by with_reducible assumption) fun x y h1 h2 => NodeN.ex h1 h2) (by with_reducible assumption) (R := fun new => ∃ y x, new = y ++ x ∧ ExIn x _ (.nm .rex) ∧ NodeA y _ _ _) fun x y h1 h2 => ⟨y, x, rfl, h1, h2⟩) fun x y h1 h2 => by obtain ⟨y2, y1, rfl, h3, h4⟩ := h2; rw [List.append_assoc]; exact NodeA.ex (h1.mono Sub.appR.keeps) (h3.mono Sub.appL.keeps) h4⟩
set_option maxHeartbeats 4000000 in
theorem madeNM {o : Nm} {t : Tok} {news : List (Addr × Obj)} (ho : (o.str == Str.ofString "mother") = false) :
    Spec prog w p loose mean mg mb 1048 [.str o.str t] 30 300 news (fun r news' => Sub news news' ∧ ∃ e, r = .ref e ∧ ExIn news' e (.nm o) ∧ Made (fun new => ExIn new e (.nm o)) news news') := by
  unfold Spec
  intro dp un gd cn cs a ccd cl outer A₀ base h₀ L m s Q E B F X N T hk hd hu hret
  refine wpAny_call ?_
  k_dflt ktr_enter
  k_steps
  exact hret _ _ _ _ (by k_asm) (by k_asm) ⟨by ktr_rel, _, rfl, by with_reducible assumption, Made.trans (by with_reducible assumption) (by with_reducible assumption) fun x y h1 h2 => NodeN.ex h1 h2⟩
theorem lawMadeM {o : Nm} {t : Tok} {news : List (Addr × Obj)} :
    Spec prog w p loose mean mg mb 1048 [.str o.str t] 30 300 news (fun r news' => Sub news news' ∧ ∃ e, r = .ref e ∧ ExIn news' e (tmOf o) ∧ Made (fun new => ExIn new e (tmOf o)) news news') := by
  cases o <;> first | exact madeMM | exact madeNM (by decide +kernel)
end
end
section
open PySem PySem.W PySem.Spec PySem.Calls PyProof.Rows PyProof.Rows.LCg PyProof.Rows.LCp
set_option maxRecDepth 100000
/-! comprehensions whose elements make or turn things, at one ground -/
theorem Made.one {P : List (Addr × Obj) → Prop} {l : List (Addr × Obj)} {x : Addr} {o : Obj} (l1 : ∀ p ∈ l, p.1 < x) (h : P [(x, o)]) : Made P l ((x, o) :: l) :=
  ⟨_, rfl, fun p hp q hq => by rw [List.mem_singleton.mp hp]; exact l1 q hq, h⟩
section
variable {prog : Program} {w : World} {A : Around} {E : Value → Shared → Prop} {s : Shared} {h₀ : Heap} {L : Addr} {m : Str → Option Value} {env : Env} {elt : PySem.Expr} {x x₂ : Str} {scope : Scope} {cl : List (Str × Addr)}
  {S : List (Addr × Obj) → Prop} {P : Nat → Value → Prop} {Fin : List Value → List (Addr × Obj) → Prop}
theorem CompEnd.made {I C D : Addr} {oI oC oD : Obj} {s₁ : Shared} {l all : List (Addr × Obj)} {R : Value → List (Addr × Obj) → Prop} {y : Value} {h' : Heap} {tk : Nat} (F : Fr h₀ L h' m) (N : News h₀ L h' all) (M : Made (fun new => R y (new ++ l)) ((I, oI) :: (C, oC) :: (D, oD) :: l) all) (off : Off3 I C D l) (hS : S l) (hSm : ∀ a b, S a → Sub a b → S b) :
    CompEnd h₀ L m s₁ I oI C oC D oD S R y { s₁ with heap := h', toks := tk } := by
  obtain ⟨new, rfl, hab, hr⟩ := M
  refine CompEnd.intro F N (new ++ l) (fun p hp => ?_) (Off3.of fun p hp => ?_) (hSm _ _ hS Sub.appR) hr
  · rcases List.mem_cons.mp hp with rfl | hp
    · exact List.mem_append_right _ (.head _)
    rcases List.mem_cons.mp hp with rfl | hp
    · exact List.mem_append_right _ (.tail _ (.head _))
    rcases List.mem_cons.mp hp with rfl | hp
    · exact List.mem_append_right _ (.tail _ (.tail _ (.head _)))
    rcases List.mem_append.mp hp with hp | hp
    · exact List.mem_append_left _ hp
    · exact List.mem_append_right _ (.tail _ (.tail _ (.tail _ hp)))
  · rcases List.mem_append.mp hp with hp | hp
    · exact ⟨Nat.ne_of_gt (hab p hp _ (.head _)), Nat.ne_of_gt (hab p hp _ (.tail _ (.head _))), Nat.ne_of_gt (hab p hp _ (.tail _ (.tail _ (.head _))))⟩
    · exact off.mem p hp
theorem srcAt_mono {ax : Addr} {its : Array Value} : ∀ a b, SrcAt h₀ ax its a → Sub a b → SrcAt h₀ ax its b := fun _ _ h k => h.imp id fun ⟨o, hm, r⟩ => ⟨o, k _ hm, r⟩
/-- the elements, by an invariant over values and ledger -/
theorem restG {n : Nat} (J : Nat → List Value → List (Addr × Obj) → Prop)
    (turn : ∀ i v ys l I oI C oC D m₂ h tk (E' : Value → Shared → Prop), P i v → J i ys l → NsObj oC m₂ → m₂ x = some v → Fr h₀ L h m → News h₀ L h ((I, oI) :: (C, oC) :: (D, lst ys) :: l) → Off3 I C D l → ((@Ne Nat I C) ∧ (@Ne Nat I D) ∧ (@Ne Nat C D)) →
      wpAny (model prog w) A (eval elt (compEnvC scope cl C env)) (CompEnd h₀ L m { s with heap := h, toks := tk } I oI C oC D (lst ys) S (fun y l' => J (i + 1) (ys ++ [y]) l')) E' { s with heap := h, toks := tk })
    (done : ∀ ys l, J n ys l → Fin ys l) : ∀ k i ys l, i + k = n → J i ys l → CompRest prog w A h₀ L m env elt x scope cl s S P Fin k i ys l
  | 0, i, ys, l, hi, hJ => .zero (done ys l (by rw [Nat.add_zero] at hi; exact hi ▸ hJ))
  | k + 1, i, ys, l, hi, hJ => .succ fun v I oI C oC D m₂ h tk E' hP hC hx F N off ne => wpAny_mono (turn i v ys l I oI C oC D m₂ h tk E' hP hJ hC hx F N off ne)
      (fun _ _ h' => by obtain ⟨h', tk, l', e, F', N', o', hS, hJ'⟩ := h'; exact ⟨h', tk, l', e, F', N', o', hS, restG J turn done k (i + 1) _ _ (by omega) hJ'⟩) fun _ _ e => e
theorem restGP {n : Nat} (J : Nat → List Value → List (Addr × Obj) → Prop)
    (pair : ∀ i v ys l, P i v → J i ys l → ∃ (t : Addr) (ot : Obj) (v₁ v₂ : Value) (nt : Nat), v = .ref t ∧ (t, ot) ∈ l ∧ ot.cls = .type "tuple" ∧ ot.data = .seq #[v₁, v₂] nt ∧
      ∀ I oI C oC D m₂ h tk (E' : Value → Shared → Prop), NsObj oC m₂ → m₂ x = some v₁ → m₂ x₂ = some v₂ → Fr h₀ L h m → News h₀ L h ((I, oI) :: (C, oC) :: (D, lst ys) :: l) → Off3 I C D l → ((@Ne Nat I C) ∧ (@Ne Nat I D) ∧ (@Ne Nat C D)) →
      wpAny (model prog w) A (eval elt (compEnvC scope cl C env)) (CompEnd h₀ L m { s with heap := h, toks := tk } I oI C oC D (lst ys) S (fun y l' => J (i + 1) (ys ++ [y]) l')) E' { s with heap := h, toks := tk })
    (done : ∀ ys l, J n ys l → Fin ys l) : ∀ k i ys l, i + k = n → J i ys l → CompRestP prog w A h₀ L m env elt x x₂ scope cl s S P Fin k i ys l
  | 0, i, ys, l, hi, hJ => .zero (done ys l (by rw [Nat.add_zero] at hi; exact hi ▸ hJ))
  | k + 1, i, ys, l, hi, hJ => .succ fun v hP => by
    obtain ⟨t, ot, v₁, v₂, nt, e1, e2, e3, e4, turn⟩ := pair i v ys l hP hJ
    refine ⟨t, ot, v₁, v₂, nt, e1, e2, e3, e4, fun I oI C oC D m₂ h tk E' hC hx hx₂ F N off ne => wpAny_mono (turn I oI C oC D m₂ h tk E' hC hx hx₂ F N off ne) (fun _ _ h' => ?_) fun _ _ e => e⟩
    obtain ⟨h', tk, l', e, F', N', o', hS, hJ'⟩ := h'
    exact ⟨h', tk, l', e, F', N', o', hS, restGP J pair done k (i + 1) _ _ (by omega) hJ'⟩
/-- a comprehension over the keys of a dict -/
def SrcD (prog : Program) (w : World) (A : Around) (h₀ : Heap) (L : Addr) (m : Str → Option Value) (env : Env) (elt : PySem.Expr) (x : Str) (scope : Scope) (cl : List (Str × Addr)) (Fin : Shared → List Value → List (Addr × Obj) → Prop) (xv : Value) (s₁ : Shared) : Prop :=
  ∃ ax kvs oax l, xv = .ref ax ∧ A.handled = none ∧ Fr h₀ L s₁.heap m ∧ News h₀ L s₁.heap l ∧ (ax, oax) ∈ l ∧ oax.IsDictOf (PySem.strKind prog w) kvs ∧ (ax == sysModules) = false ∧ kvs.length ≤ sizeLine ∧
    ∀ s₂ : Shared, (∃ h, s₂ = { s₁ with heap := h }) → CompRest prog w A h₀ L m env elt x scope cl s₂ (fun l => (ax, oax) ∈ l) (fun i v => ∃ k y, kvs[i]? = some (k, y) ∧ (PySem.strKind prog w).is k v = true) (Fin s₂) kvs.length 0 [] l
theorem ListComp_D {iter : PySem.Expr} {px : Pos} {pos : Pos} {Q : Value → Shared → Prop} (_F₀ : Fr h₀ L s.heap m)
    (hclos : closureFor scope env = pure cl) (hcell : ∀ y ∈ scope.names, y.2 ≠ .cell) (hkind : scope.kind = .function)
    (hnames : ∀ y ∈ scope.names, y.2 = .local → scope.names.lookup y.1 = some .local) (hx : scope.names.lookup x = some .local)
    (h : wpAny (model prog w) A (eval iter env) (SrcD prog w A h₀ L m env elt x scope cl (fun s₂ => FinE h₀ L m s₂ Q)) E s)
    (hs : ∀ x, foldedSetIterable iter env x = pure x := by intro _; rfl) :
    wpAny (model prog w) A (eval (.ListComp elt [⟨.Name x px, iter, [], 0⟩] scope pos) env) Q E s := by
  rw [eval_ListComp]
  refine wpAny_comprehension_free (use := none) rfl hs hclos hkind hnames (wpAny_mono h (fun xv s₁ h₁ => ?_) fun _ _ e => e)
  obtain ⟨ax, kvs, oax, l, rfl, hh, F, N, hm, hd, hsm, hsz, R⟩ := h₁
  obtain ⟨ep, hda⟩ := (Heap.dictOf_iff.mpr ⟨oax, (N _ hm).1, hd⟩ : s₁.heap.DictOf (PySem.strKind prog w) ax kvs).dictAt
  have hlt : ax < s₁.heap.objs.size := Heap.lt_size (N _ hm).1
  refine wpAny_pyIter_dict hsm hda ?_
  have up : ∀ (o' : Obj) b o, s₁.heap.get? b = some o → (s₁.heap.push o').get? b = some o := fun o' b o e => Heap.get?_push_of_some _ e
  refine block_U (Walks.dictKeys (prog := prog) (w := w) (knd := PySem.strKind prog w) hh s₁.heap.objs.size ax (Nat.ne_of_lt hlt) kvs ep) hsz (fun i h st => by obtain ⟨o, e, _⟩ := st.1; exact ⟨o, e⟩) (S := fun l => (ax, oax) ∈ l) (fun i h h' o nw st e e' k N' S' => ?_) hcell hkind hx ⟨⟨_, Heap.get?_push_size _ rfl, rfl, rfl⟩, hda.push _⟩ (fun b hb => ?_)
    (F.keeps (up _)) (N.grown (up _)) (Nat.ne_of_lt F.ns.lt) (next_is_new F) (fun p hp => Nat.ne_of_lt (Heap.lt_size (N p hp).1)) hm (R _ ⟨_, rfl⟩) ?_
  · obtain ⟨o', es, q1, q2⟩ := hda
    rw [(N _ hm).1] at q1; cases q1
    exact ⟨by obtain ⟨o'', q, r⟩ := st.1; rw [e] at q; cases q; exact ⟨o, e', r⟩, ⟨_, es, (N' _ S').1, q2⟩⟩
  · rw [Heap.size_push]
    rcases List.mem_cons.mp hb with rfl | hb
    · exact Nat.lt_succ_self _
    · rw [List.mem_singleton.mp hb]; exact Nat.lt_succ_of_lt hlt
  · intro D C h tk m' ys news' F' N' o1 hn hC₀ hD₀ hCL hDL hCD offC fin
    refine ⟨m', hn, fun h'' hs'' => fin D h'' tk (F'.change hs'' hCL hC₀) (fun p hp => ?_) o1⟩
    refine ⟨hs''.extBut _ _ ?_ (N' p hp).1, (N' p hp).2⟩
    rcases List.mem_cons.mp hp with rfl | hp
    · exact Ne.symm hCD
    · exact offC p hp
end
end
section
theorem offX1 : True := by
  w_top off
  trivial
open PyProof.Rows.LCg PySem PySem.W PySem.Spec PySem.Calls PyProof.Rows
set_option maxRecDepth 100000
section
variable {prog : Program} {w : World} {p : Program} {loose : List Str} {mean : ExcName → Option Value} {mg mb : Str → Option Value}
local macro_rules | `(tactic| walk_at "compareOp Eq ref ref") => `(tactic| (k_here; (refine cmp_ofEq ?_); k_dflt (refine' cmp_K ?k1 ?k2 ?k3 ?k4 ?k5 ?k6 ?k7 ?k8 ?_; (case k1 => k_units); (case k2 => k_asm); (case k3 => k_asm); (case k4 => k_inst); (case k5 => exact InstAt.type (by k_inst)); (case k6 => k_is); (case k7 => k_is); (case k8 => k_is); k_whole)))
local macro_rules | `(tactic| k_is) => `(tactic| first
  | with_reducible exact kfA _ _
  | with_reducible exact kfB _ _
  | with_reducible exact kfC _ _
  | with_reducible exact kfD _ _
  | with_reducible exact kfE _ _
  | with_reducible exact kfF _ _
  | with_reducible exact kfM _ _
  | with_reducible exact kfG _ _
  | with_reducible exact kfH _ _
  | with_reducible exact kfI _ _ _
  | with_reducible exact kfJ _ _
  | with_reducible exact kfK _ _
  )
local macro_rules | `(tactic| ktr_rel) => `(tactic| first
  | (refine HeldAt.mono (by with_reducible assumption) ?_; ktr_rel)
  | (refine KeptAt.mono (by with_reducible assumption) ?_; ktr_rel)
  | (refine AppAt.mono (by with_reducible assumption) ?_; ktr_rel)
  | (refine ListAt.mono (by with_reducible assumption) ?_; ktr_rel)
  | (refine ListAt.mono (AppAt.list (by with_reducible assumption)) ?_; ktr_rel)
  | (refine' ListAt.but (by with_reducible assumption) ?kk ?hh; (case kk => ktr_rel); (case hh => with_reducible assumption))
  | (refine' AppAt.but (by with_reducible assumption) ?kk ?hh; (case kk => ktr_rel); (case hh => with_reducible assumption)))
local macro_rules | `(tactic| walk_at "subscriptTail") => `(tactic| (k_here; (with_reducible show wpAny _ _ (subscriptTail _ _ (Value.ref _) (Value.int _ _)) _ _ _); k_dflt (refine' la_item ?N ?D ?a ?b ?c ?_; (case N => k_asm); (case D => ktr_rel); (case a => decide); (case b => decide); (case c => rfl))))
local macro_rules | `(tactic| walk_at "setItem ref int") => `(tactic| (k_here; k_dflt (refine' la_set ?F ?N ?D ?a ?b ?c ?_; (case F => k_asm); (case N => k_asm); (case D => ktr_rel); (case a => decide); (case b => decide); (case c => simp); k_whole); intro h9 news9 F9 N9 S9 A9 D9))
local macro_rules | `(tactic| walk_at "call builtin:len") => `(tactic| (k_here; (with_reducible show wpAny _ _ (call (Value.builtin "len") [Value.ref _]) _ _ _); k_dflt (refine' la_len ?N ?D ?z ?_; (case N => k_asm); (case D => ktr_rel); (case z => first | with_reducible assumption | omega))))
local macro_rules | `(tactic| walk_at "call builtin:list.append") => `(tactic| (k_here; (with_reducible show wpAny _ _ (call (Value.builtin "list.append") [Value.ref _, _]) _ _ _); k_dflt (refine' la_append ?F ?N ?D ?z ?_; (case F => k_asm); (case N => k_asm); (case D => ktr_rel); (case z => first | assumption | (rw [sizeLine_eq]; omega)); k_whole); intro h9 news9 F9 N9 S9 A9 D9))
local macro_rules | `(tactic| ktr_rel) => `(tactic| first
  | exact KeepsI.refl
  | (refine KeepsI.cons ?_; ktr_rel)
  | (refine KeepsI.trans ?_ (Sub.i (by with_reducible assumption)); ktr_rel)
  | (refine KeepsI.trans ?_ (by with_reducible assumption); ktr_rel)
  | (refine Keeps.trans ?_ (KeepsI.keeps (by with_reducible assumption)); ktr_rel)
  | (refine KeepsA.trans ?_ (KeepsI.a (by with_reducible assumption)); ktr_rel)
  | (refine TupAt.mono (by with_reducible assumption) ?_; ktr_rel))
local macro_rules | `(tactic| walk_at "call ref") => `(tactic| (k_here; (with_reducible show wpAny _ _ (call (Value.ref 109) _ _) _ _ _); k_dflt (refine' use (eqVar ?s1 ?s2) ?k1 ?k2 ?k3 ?k4 ?k5 ?kK ?kd ?ku ?_; (case k1 => k_asm); (case k2 => k_asm); (case k3 => k_asm); (case k4 => k_asm); (case k5 => k_asm); (case kK => first | exact rfl | assumption); (case kd => ktr_room); (case ku => ktr_units); (case s1 => ktr_rel); (case s2 => ktr_rel)); (intro r9 news9 h9 tk9 F9 N9 P9; (obtain ⟨S9, e9⟩ := P9; subst S9; subst e9); (try dsimp only); kts_tail)))
set_option maxHeartbeats 4000000 in
theorem cmVar {n k : Nm} {v v2 : Addr} {news : List (Addr × Obj)} (hv : VarIn news v n) (hv' : VarIn news v2 k) :
    SpecT prog w p loose mean mg mb (compareOp CmpOp.Eq (.ref v) (.ref v2)) 10 100 news (fun r news' => news' = news ∧ r = .bool (decide (n = k))) := by
  obtain ⟨dv1, ha1, ta1, tb1, hv1, hw1⟩ := id hv
  obtain ⟨dv2, ha2, ta2, tb2, hv2, hw2⟩ := id hv'
  unfold SpecT
  intro dp un gd cn cs a ccd cl outer A₀ base h₀ L m s Q E B F X N T hk hd hu hret
  k_steps
  exact hret _ _ _ _ (by k_asm) (by k_asm) ⟨rfl, rfl⟩
/-- a list of Variables -/
def VarsIn (news : List (Addr × Obj)) (vs : List Value) (ns : List Nm) : Prop := Rel2 (fun v n => ∃ a, v = .ref a ∧ VarIn news a n) vs ns
theorem VarsIn.mono {l l' : List (Addr × Obj)} {vs : List Value} {ns : List Nm} (h : VarsIn l vs ns) (k : Keeps l l') : VarsIn l' vs ns := Rel2.mono h fun _ _ ⟨a, e, hv⟩ => ⟨a, e, hv.mono k⟩
theorem VarsIn.monoA {l l' : List (Addr × Obj)} {vs : List Value} {ns : List Nm} (h : VarsIn l vs ns) (k : KeepsA l l') : VarsIn l' vs ns := Rel2.mono h fun _ _ ⟨a, e, hv⟩ => ⟨a, e, hv.monoA k⟩
theorem VarIn.uniq {h₀ h : Heap} {L a : Addr} {news : List (Addr × Obj)} {n k : Nm} (N : News h₀ L h news) (x : VarIn news a n) (y : VarIn news a k) : n = k := by
  obtain ⟨d1, _, _, _, x1, x2⟩ := x
  obtain ⟨d2, _, _, _, y1, y2⟩ := y
  have e := Option.some.inj ((N _ x1).1.symm.trans (N _ y1).1)
  have e2 : d1 = d2 := by injection e with _ e; injection e
  subst e2
  have e3 := Option.some.inj ((N _ x2).1.symm.trans (N _ y2).1)
  injection e3 with _ _ e3
  injection e3 with e3
  have e4 := congrArg Array.toList e3
  simp only [List.cons.injEq, and_true] at e4
  injection e4 with _ _ e5
  injection e5 with e5
  exact Nm.str_inj.mp e5
open Classical in
/-- is it a Variable of that name -/
noncomputable def isVarOf (news : List (Addr × Obj)) (n : Nm) (y : Value) : Bool := decide (∃ a, y = .ref a ∧ VarIn news a n)
theorem isVarOf_yes {news : List (Addr × Obj)} {n : Nm} {y : Value} (h : ∃ a, y = .ref a ∧ VarIn news a n) : isVarOf news n y = true := by
  unfold isVarOf; exact @decide_eq_true _ (Classical.propDecidable _) h
theorem isVarOf_no {news : List (Addr × Obj)} {n : Nm} {y : Value} (h : ¬ ∃ a, y = .ref a ∧ VarIn news a n) : isVarOf news n y = false := by
  unfold isVarOf; exact @decide_eq_false _ (Classical.propDecidable _) h
theorem vars_any {h₀ h : Heap} {L : Addr} {news : List (Addr × Obj)} {vs : List Value} {ns : List Nm} (N : News h₀ L h news) (hs : VarsIn news vs ns) (n : Nm) : vs.any (isVarOf news n) = ns.contains n := by
  induction hs with
  | nil => rfl
  | @cons x k l r hx _ ih =>
    obtain ⟨a, rfl, hv⟩ := hx
    rw [List.any_cons, ih, List.contains_cons]
    congr 1
    by_cases e : n = k
    · subst e
      rw [beq_self_eq_true]
      exact isVarOf_yes ⟨a, rfl, hv⟩
    · rw [beq_eq_false_iff_ne.mpr e]
      refine isVarOf_no ?_
      rintro ⟨a', e', hv'⟩
      cases e'
      exact e (VarIn.uniq N hv' hv)
theorem varStep {A₀ : Around} {base h₀ : Heap} {outer : List Env} {dp un : Nat} {gd : Option (List Code)} {cn : Str} {cs : Scope} {a L : Addr} {ccd : Value} {cl : List (Str × Addr)} {m : Str → Option Value} {s : Shared} {news : List (Addr × Obj)} {v : Addr} {n : Nm}
    (B : Below A₀ base outer h₀) (X : (hd.heap_39 w.params).In h₀) (T : Top p loose mean mg mb h₀) (hk : cs.kind = .function) (hd : dp + 20 < recursionLimit) (hu : un + 200 < cLine) (hv : VarIn news v n) {y : Value} (hy : ∃ a k, y = .ref a ∧ VarIn news a k) :
    EqStep prog w (ktrTop dp un gd cn cs L a ccd cl outer).in1 (fun s' => ∃ h' tk, s' = { s with heap := h', toks := tk } ∧ Fr h₀ L h' m ∧ News h₀ L h' news) y (.ref v) (isVarOf news n y) := by
  obtain ⟨b, k, rfl, hb⟩ := hy
  rintro s' E Q ⟨h', tk, rfl, F, N⟩ hQ
  have key : isVarOf news n (.ref b) = decide (k = n) := by
    by_cases e : k = n
    · subst e; rw [isVarOf_yes ⟨b, rfl, hb⟩, decide_eq_true rfl]
    · rw [decide_eq_false e]
      refine isVarOf_no ?_
      rintro ⟨a', e', hv'⟩
      cases e'
      exact e (VarIn.uniq N hb hv')
  rw [key] at hQ
  unfold eqBool
  refine wpAny_holding ?_
  refine wpAny_ite_split (fun hab => ?_) (fun hab => ?_)
  · have e : b = v := by have := eq_of_beq hab; injection this
    subst e
    have : k = n := VarIn.uniq N hb hv
    refine wpAny_bind (wpAny_rule (wpAny_pure ?_))
    have q := hQ _ ⟨h', tk, rfl, F, N⟩
    rwa [decide_eq_true this] at q
  · refine wpAny_bind (useT (dp := dp) (un := un + 1) (cmVar hb hv) B F X N T hk (by omega) (by omega) fun r news' h'' tk' F' N' hp => ?_)
    obtain ⟨rfl, rfl⟩ := hp
    exact wpAny_truthy_bool (hQ _ ⟨h'', tk', rfl, F', N'⟩)
theorem notInVars {n : Nm} {v l : Addr} {vs : List Value} {ns : List Nm} {news : List (Addr × Obj)} (hv : VarIn news v n) (hl : ListAt news l vs) (hs : VarsIn news vs ns) :
    SpecT prog w p loose mean mg mb (compareOp CmpOp.NotIn (.ref v) (.ref l)) 20 200 news (fun r news' => news' = news ∧ r = .bool (!ns.contains n)) := by
  unfold SpecT
  intro dp un gd cn cs a ccd cl outer A₀ base h₀ L m s Q E B F X N T hk hd hu hret
  show wpAny _ _ (do return .bool (!(← contains (.ref l) (.ref v)))) Q E s
  obtain ⟨⟨oc, od, odat, osl⟩, ho, hc, nn, hdt⟩ := id hl
  dsimp only at hc hdt
  subst hc hdt
  refine wpAny_bind (containsF (St := fun s' => ∃ h' tk, s' = { s with heap := h', toks := tk } ∧ Fr h₀ L h' m ∧ News h₀ L h' news) (isVarOf news n) ⟨s.heap, s.toks, rfl, F, N⟩ ⟨nn, od, osl, ?_⟩ (items := vs.toArray) (fun y hy => ?_) (fun s' hs' => ?_))
  · rintro s' ⟨h', tk, rfl, F', N'⟩
    exact (N' _ ho).1
  · refine varStep B X T hk hd hu hv ?_
    have hy' : y ∈ vs := by simpa using hy
    have : ∀ {l : List Value} {r : List Nm}, VarsIn news l r → y ∈ l → ∃ a k, y = .ref a ∧ VarIn news a k := by
      intro l r h
      induction h with
      | nil => intro h; cases h
      | cons hx _ ih =>
        intro h
        rcases List.mem_cons.mp h with rfl | h
        · obtain ⟨a, e, hv⟩ := hx; exact ⟨a, _, e, hv⟩
        · exact ih h
    exact this hs hy'
  · obtain ⟨h', tk, rfl, F', N'⟩ := hs'
    refine wpAny_pure (hret _ _ _ _ F' N' ⟨rfl, ?_⟩)
    rw [List.any_toArray, vars_any N hs n]
end
end
section
theorem offX2 : True := by
  w_top off
  trivial
open PyProof.Rows.LCg PySem PySem.W PySem.Spec PySem.Calls PyProof.Rows
set_option maxRecDepth 100000
section
variable {prog : Program} {w : World} {p : Program} {loose : List Str} {mean : ExcName → Option Value} {mg mb : Str → Option Value}
local macro_rules | `(tactic| walk_at "compareOp Eq ref ref") => `(tactic| (k_here; (refine cmp_ofEq ?_); k_dflt (refine' cmp_K ?k1 ?k2 ?k3 ?k4 ?k5 ?k6 ?k7 ?k8 ?_; (case k1 => k_units); (case k2 => k_asm); (case k3 => k_asm); (case k4 => k_inst); (case k5 => exact InstAt.type (by k_inst)); (case k6 => k_is); (case k7 => k_is); (case k8 => k_is); k_whole)))
local macro_rules | `(tactic| k_is) => `(tactic| first
  | with_reducible exact kfA _ _
  | with_reducible exact kfB _ _
  | with_reducible exact kfC _ _
  | with_reducible exact kfD _ _
  | with_reducible exact kfE _ _
  | with_reducible exact kfF _ _
  | with_reducible exact kfM _ _
  | with_reducible exact kfG _ _
  | with_reducible exact kfH _ _
  | with_reducible exact kfI _ _ _
  | with_reducible exact kfJ _ _
  | with_reducible exact kfK _ _
  )
local macro_rules | `(tactic| ktr_rel) => `(tactic| first
  | (refine HeldAt.mono (by with_reducible assumption) ?_; ktr_rel)
  | (refine KeptAt.mono (by with_reducible assumption) ?_; ktr_rel)
  | (refine AppAt.mono (by with_reducible assumption) ?_; ktr_rel)
  | (refine ListAt.mono (by with_reducible assumption) ?_; ktr_rel)
  | (refine ListAt.mono (AppAt.list (by with_reducible assumption)) ?_; ktr_rel)
  | (refine' ListAt.but (by with_reducible assumption) ?kk ?hh; (case kk => ktr_rel); (case hh => with_reducible assumption))
  | (refine' AppAt.but (by with_reducible assumption) ?kk ?hh; (case kk => ktr_rel); (case hh => with_reducible assumption)))
local macro_rules | `(tactic| walk_at "subscriptTail") => `(tactic| (k_here; (with_reducible show wpAny _ _ (subscriptTail _ _ (Value.ref _) (Value.int _ _)) _ _ _); k_dflt (refine' la_item ?N ?D ?a ?b ?c ?_; (case N => k_asm); (case D => ktr_rel); (case a => decide); (case b => decide); (case c => rfl))))
local macro_rules | `(tactic| walk_at "setItem ref int") => `(tactic| (k_here; k_dflt (refine' la_set ?F ?N ?D ?a ?b ?c ?_; (case F => k_asm); (case N => k_asm); (case D => ktr_rel); (case a => decide); (case b => decide); (case c => simp); k_whole); intro h9 news9 F9 N9 S9 A9 D9))
local macro_rules | `(tactic| walk_at "call builtin:len") => `(tactic| (k_here; (with_reducible show wpAny _ _ (call (Value.builtin "len") [Value.ref _]) _ _ _); k_dflt (refine' la_len ?N ?D ?z ?_; (case N => k_asm); (case D => ktr_rel); (case z => first | with_reducible assumption | omega))))
local macro_rules | `(tactic| walk_at "call builtin:list.append") => `(tactic| (k_here; (with_reducible show wpAny _ _ (call (Value.builtin "list.append") [Value.ref _, _]) _ _ _); k_dflt (refine' la_append ?F ?N ?D ?z ?_; (case F => k_asm); (case N => k_asm); (case D => ktr_rel); (case z => first | assumption | (rw [sizeLine_eq]; omega)); k_whole); intro h9 news9 F9 N9 S9 A9 D9))
local macro_rules | `(tactic| ktr_rel) => `(tactic| first
  | exact KeepsI.refl
  | (refine KeepsI.cons ?_; ktr_rel)
  | (refine KeepsI.trans ?_ (Sub.i (by with_reducible assumption)); ktr_rel)
  | (refine KeepsI.trans ?_ (by with_reducible assumption); ktr_rel)
  | (refine Keeps.trans ?_ (KeepsI.keeps (by with_reducible assumption)); ktr_rel)
  | (refine KeepsA.trans ?_ (KeepsI.a (by with_reducible assumption)); ktr_rel)
  | (refine TupAt.mono (by with_reducible assumption) ?_; ktr_rel))
local macro_rules | `(tactic| ktr_rel) => `(tactic| first
  | (refine VarsIn.monoA (by with_reducible assumption) ?_; ktr_rel))
local macro_rules | `(tactic| walk_at "exec For") => `(tactic| (k_here; (with_reducible show wpAny _ _ (exec (Stmt.For _ _ _ [] _) _) _ _ _); k_dflt (refine' forP ?X ?T ?F ?_; (case F => k_asm); (case X => k_asm); (case T => k_asm))))
local macro_rules | `(tactic| walk_at "exec For Name Name") => `(tactic| (k_here; (with_reducible show wpAny _ _ (exec (Stmt.For _ _ _ [] _) _) _ _ _); k_dflt (refine' forP ?X ?T ?F ?_; (case F => k_asm); (case X => k_asm); (case T => k_asm))))
local macro_rules | `(tactic| walk_at "exec For Name Name cons nil") => `(tactic| (k_here; (with_reducible show wpAny _ _ (exec (Stmt.For _ _ _ [] _) _) _ _ _); k_dflt (refine' forP ?X ?T ?F ?_; (case F => k_asm); (case X => k_asm); (case T => k_asm))))
theorem notInYes {n : Nm} {v l : Addr} {vs : List Value} {ns : List Nm} {news : List (Addr × Obj)} (hv : VarIn news v n) (hl : ListAt news l vs) (hs : VarsIn news vs ns) (hc : ns.contains n = true) :
    SpecT prog w p loose mean mg mb (compareOp CmpOp.NotIn (.ref v) (.ref l)) 20 200 news (fun r news' => news' = news ∧ r = .bool false) := by
  have h := notInVars (prog := prog) (w := w) (p := p) (loose := loose) (mean := mean) (mg := mg) (mb := mb) hv hl hs
  rw [hc] at h
  exact h
theorem notInNo {n : Nm} {v l : Addr} {vs : List Value} {ns : List Nm} {news : List (Addr × Obj)} (hv : VarIn news v n) (hl : ListAt news l vs) (hs : VarsIn news vs ns) (hc : ns.contains n = false) :
    SpecT prog w p loose mean mg mb (compareOp CmpOp.NotIn (.ref v) (.ref l)) 20 200 news (fun r news' => news' = news ∧ r = .bool true) := by
  have h := notInVars (prog := prog) (w := w) (p := p) (loose := loose) (mean := mean) (mg := mg) (mb := mb) hv hl hs
  rw [hc] at h
  exact h
local macro_rules | `(tactic| walk_at "compareOp NotIn ref") => `(tactic| (k_here; (with_reducible show wpAny _ _ (compareOp CmpOp.NotIn (Value.ref _) (Value.ref _)) _ _ _); k_dflt (refine' useT (notInYes ?s1 ?s2 ?s3 ?s4) ?k1 ?k2 ?k3 ?k4 ?k5 ?kK ?kd ?ku ?_; (case k1 => k_asm); (case k2 => k_asm); (case k3 => k_asm); (case k4 => k_asm); (case k5 => k_asm); (case kK => first | exact rfl | assumption); (case kd => ktr_room); (case ku => ktr_units); (case s1 => ktr_rel); (case s2 => ktr_rel); (case s3 => ktr_rel); (case s4 => with_reducible assumption)); (intro r9 news9 h9 tk9 F9 N9 P9; (obtain ⟨S9, e9⟩ := P9; subst S9; subst e9); (try dsimp only); kts_tail)))
local macro_rules | `(tactic| walk_at "compareOp NotIn ref") => `(tactic| (k_here; (with_reducible show wpAny _ _ (compareOp CmpOp.NotIn (Value.ref _) (Value.ref _)) _ _ _); k_dflt (refine' useT (notInNo ?s1 ?s2 ?s3 ?s4) ?k1 ?k2 ?k3 ?k4 ?k5 ?kK ?kd ?ku ?_; (case k1 => k_asm); (case k2 => k_asm); (case k3 => k_asm); (case k4 => k_asm); (case k5 => k_asm); (case kK => first | exact rfl | assumption); (case kd => ktr_room); (case ku => ktr_units); (case s1 => ktr_rel); (case s2 => ktr_rel); (case s3 => ktr_rel); (case s4 => with_reducible assumption)); (intro r9 news9 h9 tk9 F9 N9 P9; (obtain ⟨S9, e9⟩ := P9; subst S9; subst e9); (try dsimp only); kts_tail)))
theorem nameIt {news : List (Addr × Obj)} {d : Addr} (h : ∀ p ∈ news, p.1 < d) : ∃ D : Addr, D = d ∧ ∀ p ∈ news, p.1 < D := ⟨d, rfl, h⟩
/-- one after another, but each once -/
def addU (acc : List Nm) (n : Nm) : List Nm := if acc.contains n then acc else acc ++ [n]
theorem addU_yes {acc : List Nm} {n : Nm} (h : acc.contains n = true) : addU acc n = acc := by unfold addU; rw [h, if_pos rfl]
theorem addU_no {acc : List Nm} {n : Nm} (h : acc.contains n = false) : addU acc n = acc ++ [n] := by unfold addU; rw [h, if_neg (fun e => nomatch e)]
def unionF (nss : List (List Nm)) : List Nm := nss.flatten.foldl addU []
theorem addU_len : ∀ (l acc : List Nm), (l.foldl addU acc).length ≤ acc.length + l.length
  | [], acc => Nat.le_refl _
  | a :: r, acc => by
    rw [List.foldl_cons]
    have h := addU_len r (addU acc a)
    have : (addU acc a).length ≤ acc.length + 1 := by
      unfold addU
      split
      · exact Nat.le_succ _
      · rw [List.length_append]; exact Nat.le_refl _
    rw [List.length_cons]; omega
theorem unionF_snoc (l : List (List Nm)) (ns : List Nm) : unionF (l ++ [ns]) = ns.foldl addU (unionF l) := by
  unfold unionF; rw [List.flatten_append, List.foldl_append, List.flatten_cons, List.flatten_nil, List.append_nil]
theorem VarsIn.snoc {news : List (Addr × Obj)} {vs : List Value} {ns : List Nm} {a : Addr} {n : Nm} (h : VarsIn news vs ns) (hv : VarIn news a n) : VarsIn news (vs ++ [.ref a]) (ns ++ [n]) := Rel2.snoc h ⟨a, rfl, hv⟩
theorem flatten_take_le (l : List (List Nm)) : ∀ (i : Nat), (l.take i).flatten.length ≤ l.flatten.length := fun i => by
  conv => rhs; rw [← List.take_append_drop i l]
  rw [List.flatten_append, List.length_append]; exact Nat.le_add_right _ _
theorem keepsBut {g h : Heap} {L d : Addr} {l l' : List (Addr × Obj)} {vs : List Value} (k : SubBut d l l') (N : News g L h l) (D : AppAt l d vs) : KeepsA l l' := fun q hq ha => by
  obtain ⟨n, hm⟩ := D
  refine k q hq fun e => ?_
  obtain ⟨a, x⟩ := q
  dsimp only at e ha
  subst e
  have e2 := Option.some.inj ((N _ hq).1.symm.trans (N _ hm).1)
  dsimp only at e2
  rw [e2] at ha; cases ha
theorem len_flatten {l : List (List Nm)} {ns : List Nm} (h : ns ∈ l) : ns.length ≤ l.flatten.length := by
  induction l with
  | nil => cases h
  | cons a r ih =>
    rw [List.flatten_cons, List.length_append]
    rcases List.mem_cons.mp h with rfl | h
    · exact Nat.le_add_right _ _
    · exact Nat.le_trans (ih h) (Nat.le_add_left _ _)
set_option maxHeartbeats 8000000 in
theorem unionS {l : Addr} {vs : List Value} {nss : List (List Nm)} {news : List (Addr × Obj)} (hl : ListAt news l vs) (hs : Rel2 (fun v ns => ∃ a us, v = .ref a ∧ ListAt news a us ∧ VarsIn news us ns) vs nss) (hz : nss.flatten.length ≤ 100) :
    Spec prog w p loose mean mg mb 57 [.ref l] 30 300 news (fun r news' => Sub news news' ∧ ∃ a us, r = .ref a ∧ (∀ p ∈ news, p.1 < a) ∧ AppAt news' a us ∧ VarsIn news' us (unionF nss)) := by
  unfold Spec
  intro dp un gd cn cs a ccd cl outer A₀ base h₀ L m s Q E B F X N T hk hd hu hret
  refine wpAny_call ?_
  k_dflt ktr_enter
  k_steps
  obtain ⟨oax, ho1, ho2, ho3⟩ := id hl
  rename News _ _ _ _ => NN
  rename (∀ p ∈ news, p.1 < _) => hd0
  obtain ⟨D0, eD, hd1⟩ := nameIt hd0
  subst eD
  refine ⟨l, vs, oax, _, _, rfl, rfl, by k_asm, by k_asm, by k_mem, ho2, ho3, fun i m l => m (Str.ofString "found") = some (.ref D0) ∧ Sub news l ∧ ∃ us, AppAt l D0 us ∧ VarsIn l us (unionF (nss.take i)), ?_, ⟨rfl, by ktr_rel, [], ⟨_, by k_mem⟩, .nil⟩, ?_, ?_⟩
  · rintro i m l l' ⟨a, b, us, c, e⟩ k
    exact ⟨a, Sub.old (News.sub NN (by ktr_rel)) b k, us, c.mono k.keeps, e.mono k.keeps⟩
  · intro i v I oI m₁ newsB h tk hv hit hI hax hJ F N
    obtain ⟨hself, hKI, us, hAp, hVs⟩ := hJ
    obtain ⟨ns, hq, a1, us1, rfl, hLu1, hVu1⟩ := rel2_get? hs hv
    have hVu1 := hVu1.mono hKI.keeps
    have ne_a1 : a1 ≠ D0 := by
      obtain ⟨o, hm, _⟩ := hLu1
      exact Nat.ne_of_lt (hd1 _ hm)
    obtain ⟨oa1, hom1, hoc1, hod1⟩ := hLu1.mono hKI.keeps
    have nI1 : I ≠ D0 := by
      obtain ⟨nn, hm⟩ := hAp
      exact ne_of_objs N hI hm fun e => by rw [e] at hit; cases hit
    have nX1 : l ≠ D0 := Nat.ne_of_lt (hd1 _ ho1)
    have F1 := Fr.fix F hself
    have NB := N
    k_steps
    rename News _ _ _ _ => NC
    refine ⟨a1, us1, oa1, _, _, rfl, rfl, by k_asm, by k_asm, by k_mem, hoc1, hod1, fun k m l => m (Str.ofString "found") = some (.ref D0) ∧ SubBut D0 newsB l ∧ Sub news l ∧ ∃ us, AppAt l D0 us ∧ VarsIn l us ((ns.take k).foldl addU (unionF (nss.take i))), ?_, ⟨rfl, by ktr_rel, by ktr_rel, us, by with_reducible assumption, hVs⟩, ?_, ?_⟩
    · rintro k m l l' ⟨b1, b2, b3, us, b4, b5⟩ kk
      exact ⟨b1, SubBut.old NC b2 kk, Sub.old (News.sub NC hKI) b3 kk, us, b4.mono kk.keeps, b5.mono kk.keeps⟩
    · intro k v I2 oI2 m₂ news₂ h tk hv2 hit2 hI2 hax2 hJ2 F N
      obtain ⟨hself2, hSB, hKI2, us2, hAp2, hVs2⟩ := hJ2
      obtain ⟨q2, hq2, a2, rfl, hV2⟩ := rel2_get? (hVu1.monoA (keepsBut hSB NB hAp)) hv2
      have F2 := Fr.fix F hself2
      have hz2 : us2.length ≤ sizeLine := by
        have z1 := hVs2.length
        have z2 := addU_len (ns.take k) (unionF (nss.take i))
        have z3 := addU_len ((nss.take i).flatten) []
        have z4 : (nss.take i).flatten.length ≤ nss.flatten.length := flatten_take_le nss i
        have z5 : (ns.take k).length ≤ ns.length := by rw [List.length_take]; exact Nat.min_le_right _ _
        have z6 : ns.length ≤ nss.flatten.length := len_flatten (List.mem_of_getElem? hq)
        have z7 : (unionF (nss.take i)).length ≤ (nss.take i).flatten.length := by unfold unionF; simpa using z3
        rw [sizeLine_eq]; omega
      have nI2 : I2 ≠ D0 := by
        obtain ⟨nn, hm⟩ := hAp2
        exact ne_of_objs N hI2 hm fun e => by rw [e] at hit2; cases hit2
      have nA2 : a1 ≠ D0 := ne_a1
      cases hc : ((ns.take k).foldl addU (unionF (nss.take i))).contains q2 with
      | true =>
        k_steps
        refine TurnEnd.intro rfl (by k_asm) (by k_asm) (fun p hp => ?_) ⟨rfl, by ktr_rel, by ktr_rel, us2, by ktr_rel, ?_⟩
        · rcases List.mem_cons.mp hp with rfl | hp
          · k_mem
          · rw [List.mem_singleton.mp hp]; k_mem
        · rw [take_succ' hq2, List.foldl_append]
          show VarsIn _ _ (addU _ q2)
          rw [addU_yes hc]
          ktr_rel
      | false =>
        obtain ⟨nn2, hAm2⟩ := id hAp2
        k_steps
        refine TurnEnd.intro rfl (by k_asm) (by k_asm) (fun p hp => ?_) ⟨rfl, by ktr_rel, Sub.but (by ktr_rel) (by with_reducible assumption) hd1, us2 ++ [.ref a2], by with_reducible assumption, ?_⟩
        · rename SubBut D0 _ _ => SX
          rcases List.mem_cons.mp hp with rfl | hp
          · exact SX _ (by k_mem) nI2
          · rw [List.mem_singleton.mp hp]; exact SX _ (by k_mem) nA2
        · rw [take_succ' hq2, List.foldl_append]
          show VarsIn _ _ (addU _ q2)
          rw [addU_no hc]
          exact VarsIn.snoc (by ktr_rel) (by ktr_rel)
    · intro m₂ news₂ h tk hax2 hJ2 F N
      obtain ⟨hself2, hSB, hKI2, us2, hAp2, hVs2⟩ := hJ2
      have F2 := Fr.fix F hself2
      k_steps
      refine TurnEnd.intro rfl (by k_asm) (by k_asm) (fun p hp => ?_) ⟨rfl, hKI2, us2, hAp2, ?_⟩
      · rcases List.mem_cons.mp hp with rfl | hp
        · exact hSB _ (by k_mem) nI1
        · rw [List.mem_singleton.mp hp]; exact hSB _ (by k_mem) nX1
      · rw [take_succ' hq, unionF_snoc]
        have z8 : ns.take us1.length = ns := by rw [hVu1.length, List.take_length]
        rwa [z8] at hVs2

  · intro m₁ news₁ h tk hax hJ F N
    obtain ⟨hself, hKI, us, hAp, hVs⟩ := hJ
    have F1 := Fr.fix F hself
    k_steps
    refine hret _ _ _ _ (by k_asm) (by k_asm) ⟨hKI, D0, us, rfl, hd1, hAp, ?_⟩
    rwa [hs.length, List.take_length] at hVs
end
end
section
open PyProof.Rows.LCg PySem PySem.W PySem.Spec PySem.Calls PyProof.Rows
set_option maxRecDepth 100000
section
variable {prog : Program} {w : World} {p : Program} {loose : List Str} {mean : ExcName → Option Value} {mg mb : Str → Option Value}
local macro_rules | `(tactic| walk_at "compareOp Eq ref ref") => `(tactic| (k_here; (refine cmp_ofEq ?_); k_dflt (refine' cmp_K ?k1 ?k2 ?k3 ?k4 ?k5 ?k6 ?k7 ?k8 ?_; (case k1 => k_units); (case k2 => k_asm); (case k3 => k_asm); (case k4 => k_inst); (case k5 => exact InstAt.type (by k_inst)); (case k6 => k_is); (case k7 => k_is); (case k8 => k_is); k_whole)))
local macro_rules | `(tactic| k_is) => `(tactic| first
  | with_reducible exact kfA _ _
  | with_reducible exact kfB _ _
  | with_reducible exact kfC _ _
  | with_reducible exact kfD _ _
  | with_reducible exact kfE _ _
  | with_reducible exact kfF _ _
  | with_reducible exact kfM _ _
  | with_reducible exact kfG _ _
  | with_reducible exact kfH _ _
  | with_reducible exact kfI _ _ _
  | with_reducible exact kfJ _ _
  | with_reducible exact kfK _ _
  )
/-- the class of a term's node -/
def Tm.cls : Tm → Addr
  | .nm n => n.cls
  | .app _ _ => 423
def Tm.sz : Tm → Nat
  | .nm _ => 1
  | .app f a => f.sz + a.sz + 1
def mFree : Tm → Addr
  | .nm n => if n.cls = 511 then 501 else 565
  | .app _ _ => 287
theorem kgFree (P : Params) (t : Tm) : plainGet (hd.heap_39 P) t.cls (Str.ofString "free") = true := by
  cases t with
  | nm n => rcases n.cls_or with h | h <;> simp only [Tm.cls, mFree, h] <;> k_is
  | app f a => simp only [Tm.cls, mFree] <;> k_is
theorem kfFree (P : Params) (t : Tm) : findIn (hd.heap_39 P) (.ref t.cls) (Str.ofString "free") = some (some (.ref (mFree t))) := by
  cases t with
  | nm n => rcases n.cls_or with h | h <;> simp only [Tm.cls, mFree, h] <;> k_is
  | app f a => simp only [Tm.cls, mFree] <;> k_is
theorem ksFree (P : Params) (t : Tm) : isFn (hd.heap_39 P) (.ref (mFree t)) = true := by
  cases t with
  | nm n => rcases n.cls_or with h | h <;> simp only [Tm.cls, mFree, h] <;> k_is
  | app f a => simp only [Tm.cls, mFree] <;> k_is
theorem kpFree (P : Params) (t : Tm) : keepIn (hd.heap_39 P) (.ref (mFree t)) = true := by
  cases t with
  | nm n => rcases n.cls_or with h | h <;> simp only [Tm.cls, mFree, h] <;> k_is
  | app f a => simp only [Tm.cls, mFree] <;> k_is
theorem exFree {A : Around} {E : Value → Shared → Prop} {s : Shared} {h₀ : Heap} {L e : Addr} {m : Str → Option Value} {t : Tm} {news : List (Addr × Obj)} {pl : Sem Bool} {Q : Value × List Value → Shared → Prop} (F : Fr h₀ L s.heap m) (X : (hd.heap_39 w.params).In h₀) (N : News h₀ L s.heap news) (he : ExIn news e t)
    (h : Q (.ref (mFree t), [.ref e]) s) : wpAny (model prog w) A (getMethod (.ref e) (Str.ofString "free") pl) Q E s := by
  have a1 := kgFree w.params t
  have a2 := kfFree w.params t
  have a3 := ksFree w.params t
  cases he with
  | nm h1 h2 hv => exact method_inst F X (InstAt.of_news N h1 h2) a1 a2 a3 (by k_get) h
  | app h1 h2 hf ha => exact method_inst F X (InstAt.of_news N h1 h2) a1 a2 a3 (by k_get) h
def mCons : Tm → Addr
  | .nm n => if n.cls = 511 then 508 else 572
  | .app _ _ => 362
theorem kgCons (P : Params) (t : Tm) : plainGet (hd.heap_39 P) t.cls (Str.ofString "constants") = true := by
  cases t with
  | nm n => rcases n.cls_or with h | h <;> simp only [Tm.cls, mCons, h] <;> k_is
  | app f a => simp only [Tm.cls, mCons] <;> k_is
theorem kfCons (P : Params) (t : Tm) : findIn (hd.heap_39 P) (.ref t.cls) (Str.ofString "constants") = some (some (.ref (mCons t))) := by
  cases t with
  | nm n => rcases n.cls_or with h | h <;> simp only [Tm.cls, mCons, h] <;> k_is
  | app f a => simp only [Tm.cls, mCons] <;> k_is
theorem ksCons (P : Params) (t : Tm) : isFn (hd.heap_39 P) (.ref (mCons t)) = true := by
  cases t with
  | nm n => rcases n.cls_or with h | h <;> simp only [Tm.cls, mCons, h] <;> k_is
  | app f a => simp only [Tm.cls, mCons] <;> k_is
theorem kpCons (P : Params) (t : Tm) : keepIn (hd.heap_39 P) (.ref (mCons t)) = true := by
  cases t with
  | nm n => rcases n.cls_or with h | h <;> simp only [Tm.cls, mCons, h] <;> k_is
  | app f a => simp only [Tm.cls, mCons] <;> k_is
theorem exCons {A : Around} {E : Value → Shared → Prop} {s : Shared} {h₀ : Heap} {L e : Addr} {m : Str → Option Value} {t : Tm} {news : List (Addr × Obj)} {pl : Sem Bool} {Q : Value × List Value → Shared → Prop} (F : Fr h₀ L s.heap m) (X : (hd.heap_39 w.params).In h₀) (N : News h₀ L s.heap news) (he : ExIn news e t)
    (h : Q (.ref (mCons t), [.ref e]) s) : wpAny (model prog w) A (getMethod (.ref e) (Str.ofString "constants") pl) Q E s := by
  have a1 := kgCons w.params t
  have a2 := kfCons w.params t
  have a3 := ksCons w.params t
  cases he with
  | nm h1 h2 hv => exact method_inst F X (InstAt.of_news N h1 h2) a1 a2 a3 (by k_get) h
  | app h1 h2 hf ha => exact method_inst F X (InstAt.of_news N h1 h2) a1 a2 a3 (by k_get) h
def mPred : Tm → Addr
  | .nm _ => 461
  | .app _ _ => 369
theorem kgPred (P : Params) (t : Tm) : plainGet (hd.heap_39 P) t.cls (Str.ofString "predicates") = true := by
  cases t with
  | nm n => rcases n.cls_or with h | h <;> simp only [Tm.cls, mPred, h] <;> k_is
  | app f a => simp only [Tm.cls, mPred] <;> k_is
theorem kfPred (P : Params) (t : Tm) : findIn (hd.heap_39 P) (.ref t.cls) (Str.ofString "predicates") = some (some (.ref (mPred t))) := by
  cases t with
  | nm n => rcases n.cls_or with h | h <;> simp only [Tm.cls, mPred, h] <;> k_is
  | app f a => simp only [Tm.cls, mPred] <;> k_is
theorem ksPred (P : Params) (t : Tm) : isFn (hd.heap_39 P) (.ref (mPred t)) = true := by
  cases t with
  | nm n => rcases n.cls_or with h | h <;> simp only [Tm.cls, mPred, h] <;> k_is
  | app f a => simp only [Tm.cls, mPred] <;> k_is
theorem kpPred (P : Params) (t : Tm) : keepIn (hd.heap_39 P) (.ref (mPred t)) = true := by
  cases t with
  | nm n => rcases n.cls_or with h | h <;> simp only [Tm.cls, mPred, h] <;> k_is
  | app f a => simp only [Tm.cls, mPred] <;> k_is
theorem exPred {A : Around} {E : Value → Shared → Prop} {s : Shared} {h₀ : Heap} {L e : Addr} {m : Str → Option Value} {t : Tm} {news : List (Addr × Obj)} {pl : Sem Bool} {Q : Value × List Value → Shared → Prop} (F : Fr h₀ L s.heap m) (X : (hd.heap_39 w.params).In h₀) (N : News h₀ L s.heap news) (he : ExIn news e t)
    (h : Q (.ref (mPred t), [.ref e]) s) : wpAny (model prog w) A (getMethod (.ref e) (Str.ofString "predicates") pl) Q E s := by
  have a1 := kgPred w.params t
  have a2 := kfPred w.params t
  have a3 := ksPred w.params t
  cases he with
  | nm h1 h2 hv => exact method_inst F X (InstAt.of_news N h1 h2) a1 a2 a3 (by k_get) h
  | app h1 h2 hf ha => exact method_inst F X (InstAt.of_news N h1 h2) a1 a2 a3 (by k_get) h
def mRepl : Tm → Addr
  | .nm _ => 454
  | .app _ _ => 261
theorem kgRepl (P : Params) (t : Tm) : plainGet (hd.heap_39 P) t.cls (Str.ofString "replace") = true := by
  cases t with
  | nm n => rcases n.cls_or with h | h <;> simp only [Tm.cls, mRepl, h] <;> k_is
  | app f a => simp only [Tm.cls, mRepl] <;> k_is
theorem kfRepl (P : Params) (t : Tm) : findIn (hd.heap_39 P) (.ref t.cls) (Str.ofString "replace") = some (some (.ref (mRepl t))) := by
  cases t with
  | nm n => rcases n.cls_or with h | h <;> simp only [Tm.cls, mRepl, h] <;> k_is
  | app f a => simp only [Tm.cls, mRepl] <;> k_is
theorem ksRepl (P : Params) (t : Tm) : isFn (hd.heap_39 P) (.ref (mRepl t)) = true := by
  cases t with
  | nm n => rcases n.cls_or with h | h <;> simp only [Tm.cls, mRepl, h] <;> k_is
  | app f a => simp only [Tm.cls, mRepl] <;> k_is
theorem kpRepl (P : Params) (t : Tm) : keepIn (hd.heap_39 P) (.ref (mRepl t)) = true := by
  cases t with
  | nm n => rcases n.cls_or with h | h <;> simp only [Tm.cls, mRepl, h] <;> k_is
  | app f a => simp only [Tm.cls, mRepl] <;> k_is
theorem exRepl {A : Around} {E : Value → Shared → Prop} {s : Shared} {h₀ : Heap} {L e : Addr} {m : Str → Option Value} {t : Tm} {news : List (Addr × Obj)} {pl : Sem Bool} {Q : Value × List Value → Shared → Prop} (F : Fr h₀ L s.heap m) (X : (hd.heap_39 w.params).In h₀) (N : News h₀ L s.heap news) (he : ExIn news e t)
    (h : Q (.ref (mRepl t), [.ref e]) s) : wpAny (model prog w) A (getMethod (.ref e) (Str.ofString "replace") pl) Q E s := by
  have a1 := kgRepl w.params t
  have a2 := kfRepl w.params t
  have a3 := ksRepl w.params t
  cases he with
  | nm h1 h2 hv => exact method_inst F X (InstAt.of_news N h1 h2) a1 a2 a3 (by k_get) h
  | app h1 h2 hf ha => exact method_inst F X (InstAt.of_news N h1 h2) a1 a2 a3 (by k_get) h
def mSimp : Tm → Addr
  | .nm _ => 446
  | .app _ _ => 348
theorem kgSimp (P : Params) (t : Tm) : plainGet (hd.heap_39 P) t.cls (Str.ofString "simplify") = true := by
  cases t with
  | nm n => rcases n.cls_or with h | h <;> simp only [Tm.cls, mSimp, h] <;> k_is
  | app f a => simp only [Tm.cls, mSimp] <;> k_is
theorem kfSimp (P : Params) (t : Tm) : findIn (hd.heap_39 P) (.ref t.cls) (Str.ofString "simplify") = some (some (.ref (mSimp t))) := by
  cases t with
  | nm n => rcases n.cls_or with h | h <;> simp only [Tm.cls, mSimp, h] <;> k_is
  | app f a => simp only [Tm.cls, mSimp] <;> k_is
theorem ksSimp (P : Params) (t : Tm) : isFn (hd.heap_39 P) (.ref (mSimp t)) = true := by
  cases t with
  | nm n => rcases n.cls_or with h | h <;> simp only [Tm.cls, mSimp, h] <;> k_is
  | app f a => simp only [Tm.cls, mSimp] <;> k_is
theorem kpSimp (P : Params) (t : Tm) : keepIn (hd.heap_39 P) (.ref (mSimp t)) = true := by
  cases t with
  | nm n => rcases n.cls_or with h | h <;> simp only [Tm.cls, mSimp, h] <;> k_is
  | app f a => simp only [Tm.cls, mSimp] <;> k_is
theorem exSimp {A : Around} {E : Value → Shared → Prop} {s : Shared} {h₀ : Heap} {L e : Addr} {m : Str → Option Value} {t : Tm} {news : List (Addr × Obj)} {pl : Sem Bool} {Q : Value × List Value → Shared → Prop} (F : Fr h₀ L s.heap m) (X : (hd.heap_39 w.params).In h₀) (N : News h₀ L s.heap news) (he : ExIn news e t)
    (h : Q (.ref (mSimp t), [.ref e]) s) : wpAny (model prog w) A (getMethod (.ref e) (Str.ofString "simplify") pl) Q E s := by
  have a1 := kgSimp w.params t
  have a2 := kfSimp w.params t
  have a3 := ksSimp w.params t
  cases he with
  | nm h1 h2 hv => exact method_inst F X (InstAt.of_news N h1 h2) a1 a2 a3 (by k_get) h
  | app h1 h2 hf ha => exact method_inst F X (InstAt.of_news N h1 h2) a1 a2 a3 (by k_get) h
def mSubs : Tm → Addr
  | .nm _ => 253
  | .app _ _ => 253
theorem kgSubs (P : Params) (t : Tm) : plainGet (hd.heap_39 P) t.cls (Str.ofString "substitute_bindings") = true := by
  cases t with
  | nm n => rcases n.cls_or with h | h <;> simp only [Tm.cls, mSubs, h] <;> k_is
  | app f a => simp only [Tm.cls, mSubs] <;> k_is
theorem kfSubs (P : Params) (t : Tm) : findIn (hd.heap_39 P) (.ref t.cls) (Str.ofString "substitute_bindings") = some (some (.ref (mSubs t))) := by
  cases t with
  | nm n => rcases n.cls_or with h | h <;> simp only [Tm.cls, mSubs, h] <;> k_is
  | app f a => simp only [Tm.cls, mSubs] <;> k_is
theorem ksSubs (P : Params) (t : Tm) : isFn (hd.heap_39 P) (.ref (mSubs t)) = true := by
  cases t with
  | nm n => rcases n.cls_or with h | h <;> simp only [Tm.cls, mSubs, h] <;> k_is
  | app f a => simp only [Tm.cls, mSubs] <;> k_is
theorem kpSubs (P : Params) (t : Tm) : keepIn (hd.heap_39 P) (.ref (mSubs t)) = true := by
  cases t with
  | nm n => rcases n.cls_or with h | h <;> simp only [Tm.cls, mSubs, h] <;> k_is
  | app f a => simp only [Tm.cls, mSubs] <;> k_is
theorem exSubs {A : Around} {E : Value → Shared → Prop} {s : Shared} {h₀ : Heap} {L e : Addr} {m : Str → Option Value} {t : Tm} {news : List (Addr × Obj)} {pl : Sem Bool} {Q : Value × List Value → Shared → Prop} (F : Fr h₀ L s.heap m) (X : (hd.heap_39 w.params).In h₀) (N : News h₀ L s.heap news) (he : ExIn news e t)
    (h : Q (.ref (mSubs t), [.ref e]) s) : wpAny (model prog w) A (getMethod (.ref e) (Str.ofString "substitute_bindings") pl) Q E s := by
  have a1 := kgSubs w.params t
  have a2 := kfSubs w.params t
  have a3 := ksSubs w.params t
  cases he with
  | nm h1 h2 hv => exact method_inst F X (InstAt.of_news N h1 h2) a1 a2 a3 (by k_get) h
  | app h1 h2 hf ha => exact method_inst F X (InstAt.of_news N h1 h2) a1 a2 a3 (by k_get) h
def mVars : Tm → Addr
  | .nm _ => 280
  | .app _ _ => 280
theorem kgVars (P : Params) (t : Tm) : plainGet (hd.heap_39 P) t.cls (Str.ofString "variables") = true := by
  cases t with
  | nm n => rcases n.cls_or with h | h <;> simp only [Tm.cls, mVars, h] <;> k_is
  | app f a => simp only [Tm.cls, mVars] <;> k_is
theorem kfVars (P : Params) (t : Tm) : findIn (hd.heap_39 P) (.ref t.cls) (Str.ofString "variables") = some (some (.ref (mVars t))) := by
  cases t with
  | nm n => rcases n.cls_or with h | h <;> simp only [Tm.cls, mVars, h] <;> k_is
  | app f a => simp only [Tm.cls, mVars] <;> k_is
theorem ksVars (P : Params) (t : Tm) : isFn (hd.heap_39 P) (.ref (mVars t)) = true := by
  cases t with
  | nm n => rcases n.cls_or with h | h <;> simp only [Tm.cls, mVars, h] <;> k_is
  | app f a => simp only [Tm.cls, mVars] <;> k_is
theorem kpVars (P : Params) (t : Tm) : keepIn (hd.heap_39 P) (.ref (mVars t)) = true := by
  cases t with
  | nm n => rcases n.cls_or with h | h <;> simp only [Tm.cls, mVars, h] <;> k_is
  | app f a => simp only [Tm.cls, mVars] <;> k_is
theorem exVars {A : Around} {E : Value → Shared → Prop} {s : Shared} {h₀ : Heap} {L e : Addr} {m : Str → Option Value} {t : Tm} {news : List (Addr × Obj)} {pl : Sem Bool} {Q : Value × List Value → Shared → Prop} (F : Fr h₀ L s.heap m) (X : (hd.heap_39 w.params).In h₀) (N : News h₀ L s.heap news) (he : ExIn news e t)
    (h : Q (.ref (mVars t), [.ref e]) s) : wpAny (model prog w) A (getMethod (.ref e) (Str.ofString "variables") pl) Q E s := by
  have a1 := kgVars w.params t
  have a2 := kfVars w.params t
  have a3 := ksVars w.params t
  cases he with
  | nm h1 h2 hv => exact method_inst F X (InstAt.of_news N h1 h2) a1 a2 a3 (by k_get) h
  | app h1 h2 hf ha => exact method_inst F X (InstAt.of_news N h1 h2) a1 a2 a3 (by k_get) h
end
end
section
open PySem PySem.W PySem.Spec PySem.Calls PyProof.Rows PyProof.Rows.LCg
set_option maxRecDepth 100000
/-! lambdas over a ledger of which only members are known -/
/-- a code object of that name, made by the call -/
def CodeAt (news : List (Addr × Obj)) (c : Addr) (q : Str) : Prop := (282 : Nat) < c ∧ ∃ oc vs t, (c, oc) ∈ news ∧ oc.data = .fields vs ∧ vs[1]? = some (.str q t)
/-- what stood stands, but for the three tables -/
def SubT (l l' : List (Addr × Obj)) : Prop := ∀ p ∈ l, p.1 ≠ 282 → p.1 ≠ 270 → p.1 ≠ 256 → p ∈ l'
theorem SubT.refl {l : List (Addr × Obj)} : SubT l l := fun _ h _ _ _ => h
theorem SubT.cons {l l' : List (Addr × Obj)} {q : Addr × Obj} (k : SubT l l') : SubT l (q :: l') := fun p h a b c => .tail _ (k p h a b c)
theorem SubT.trans {l l' l'' : List (Addr × Obj)} (a : SubT l l') (b : SubT l' l'') : SubT l l'' := fun p h x y z => b p (a p h x y z) x y z
theorem Sub.t {l l' : List (Addr × Obj)} (a : Sub l l') : SubT l l' := fun p h _ _ _ => a p h
theorem SubBut.t1 {l l' : List (Addr × Obj)} (a : SubBut 282 l l') : SubT l l' := fun p h x _ _ => a p h x
theorem SubBut.t2 {l l' : List (Addr × Obj)} (a : SubBut 270 l l') : SubT l l' := fun p h _ x _ => a p h x
theorem SubBut.t3 {l l' : List (Addr × Obj)} (a : SubBut 256 l l') : SubT l l' := fun p h _ _ x => a p h x
theorem CodeAt.monoT {l l' : List (Addr × Obj)} {c : Addr} {q : Str} (h : CodeAt l c q) (k : SubT l l') : CodeAt l' c q := by
  obtain ⟨h1, oc, vs, t, h2, h3⟩ := h
  exact ⟨h1, oc, vs, t, k _ h2 (Nat.ne_of_gt h1) (Nat.ne_of_gt (Nat.lt_trans (by decide) h1)) (Nat.ne_of_gt (Nat.lt_trans (by decide) h1)), h3⟩
theorem CodeAt.mono {l l' : List (Addr × Obj)} {c : Addr} {q : Str} (h : CodeAt l c q) (k : KeepsI l l') : CodeAt l' c q := by
  obtain ⟨h1, oc, vs, t, h2, h3, h4⟩ := h
  refine ⟨h1, oc, vs, t, k _ h2 ?_, h3, h4⟩
  unfold iterish
  rw [h3]
  cases oc.cls with
  | type T => dsimp only; rw [h4]
  | _ => rfl
theorem CodeAt.rec_ {h₀ h : Heap} {L c : Addr} {q : Str} {news : List (Addr × Obj)} (N : News h₀ L h news) (x : CodeAt news c q) : h.CodeRec (.ref c) q := by
  obtain ⟨_, oc, vs, t, h2, h3, h4⟩ := x
  exact codeRec_news N h2 h3 h4
theorem tab_iterish {ps : Array Value} : iterish (tabObj ps) = false := rfl
/-- the state of a table of two lambdas -/
def Two (P : Addr) (l1 k1 l2 k2 : Nat) (q : Str) (news : List (Addr × Obj)) : Prop :=
  (P, tabObj #[]) ∈ news ∨ ∃ c1 c2, (P, tabObj #[rawInt l1, rawInt k1, .ref c1, rawInt l2, rawInt k2, .ref c2]) ∈ news ∧ CodeAt news c1 q ∧ CodeAt news c2 q
/-- between the two -/
def Mid (P : Addr) (l1 k1 l2 k2 : Nat) (q : Str) (c1 : Addr) (news : List (Addr × Obj)) : Prop :=
  CodeAt news c1 q ∧ ((P, tabObj #[rawInt l1, rawInt k1, .ref c1]) ∈ news ∨ ∃ c2, (P, tabObj #[rawInt l1, rawInt k1, .ref c1, rawInt l2, rawInt k2, .ref c2]) ∈ news ∧ CodeAt news c2 q)
/-- the state of a table of one lambda -/
def One (P : Addr) (l1 k1 : Nat) (q : Str) (news : List (Addr × Obj)) : Prop :=
  (P, tabObj #[]) ∈ news ∨ ∃ c1, (P, tabObj #[rawInt l1, rawInt k1, .ref c1]) ∈ news ∧ CodeAt news c1 q
theorem Two.mono {P : Addr} {l1 k1 l2 k2 : Nat} {q : Str} {l l' : List (Addr × Obj)} (h : Two P l1 k1 l2 k2 q l) (k : KeepsI l l') : Two P l1 k1 l2 k2 q l' := by
  rcases h with h | ⟨c1, c2, h1, h2, h3⟩
  · exact .inl (k _ h tab_iterish)
  · exact .inr ⟨c1, c2, k _ h1 tab_iterish, h2.mono k, h3.mono k⟩
theorem One.mono {P : Addr} {l1 k1 : Nat} {q : Str} {l l' : List (Addr × Obj)} (h : One P l1 k1 q l) (k : KeepsI l l') : One P l1 k1 q l' := by
  rcases h with h | ⟨c1, h1, h2⟩
  · exact .inl (k _ h tab_iterish)
  · exact .inr ⟨c1, k _ h1 tab_iterish, h2.mono k⟩
theorem Two.but {P P' : Addr} {l1 k1 l2 k2 : Nat} {q : Str} {l l' : List (Addr × Obj)} (h : Two P l1 k1 l2 k2 q l) (k : SubBut P' l l') (hp : P ≠ P') (hlt : (P' : Nat) ≤ 282) : Two P l1 k1 l2 k2 q l' := by
  have cm : ∀ {c}, CodeAt l c q → CodeAt l' c q := fun ⟨h1, oc, vs, t, h2, h3⟩ => ⟨h1, oc, vs, t, k _ h2 (Nat.ne_of_gt (Nat.lt_of_le_of_lt hlt h1)), h3⟩
  rcases h with h | ⟨c1, c2, h1, h2, h3⟩
  · exact .inl (k _ h hp)
  · exact .inr ⟨c1, c2, k _ h1 hp, cm h2, cm h3⟩
theorem One.but {P P' : Addr} {l1 k1 : Nat} {q : Str} {l l' : List (Addr × Obj)} (h : One P l1 k1 q l) (k : SubBut P' l l') (hp : P ≠ P') (hlt : (P' : Nat) ≤ 282) : One P l1 k1 q l' := by
  have cm : ∀ {c}, CodeAt l c q → CodeAt l' c q := fun ⟨h1, oc, vs, t, h2, h3⟩ => ⟨h1, oc, vs, t, k _ h2 (Nat.ne_of_gt (Nat.lt_of_le_of_lt hlt h1)), h3⟩
  rcases h with h | ⟨c1, h1, h2⟩
  · exact .inl (k _ h hp)
  · exact .inr ⟨c1, k _ h1 hp, cm h2⟩
abbrev qL (n : String) : Str := Str.ofString n ++ Str.ofString ".<locals>." ++ Str.ofString "<lambda>"
/-- the three tables of lambdas -/
structure Tabs (news : List (Addr × Obj)) : Prop where
  f : Two 282 167 26 167 46 (qL "Expression.free") news
  v : One 270 161 36 (qL "Expression.visit_structured") news
  r : One 256 155 37 (qL "Expression.replace") news
theorem Tabs.mono {l l' : List (Addr × Obj)} (h : Tabs l) (k : KeepsI l l') : Tabs l' := ⟨h.f.mono k, h.v.mono k, h.r.mono k⟩
/-- what a walk through lambdas leaves -/
structure Runs (l l' : List (Addr × Obj)) : Prop where
  t : SubT l l'
  k : Keeps l l'
  tabs : Tabs l'
theorem Runs.of {l l' : List (Addr × Obj)} (h : Tabs l) (k : Sub l l') : Runs l l' := ⟨k.t, k.keeps, h.mono k.i⟩
theorem Runs.trans {l l' l'' : List (Addr × Obj)} (a : Runs l l') (b : Runs l' l'') : Runs l l'' := ⟨a.t.trans b.t, a.k.trans b.k, b.tabs⟩
theorem Runs.sub {l l' l'' : List (Addr × Obj)} (a : Runs l l') (b : Sub l' l'') : Runs l l'' := ⟨a.t.trans b.t, a.k.trans b.keeps, a.tabs.mono b.i⟩
theorem Runs.after {l l' l'' : List (Addr × Obj)} (a : Sub l l') (b : Runs l' l'') : Runs l l'' := ⟨a.t.trans b.t, a.keeps.trans b.k, b.tabs⟩
/-- a table is changed -/
theorem tabBut {h₀ h : Heap} {L P : Addr} {ps : Array Value} {l l' : List (Addr × Obj)} (N : News h₀ L h l) (hm : (P, tabObj ps) ∈ l) (k : SubBut P l l') : Keeps l l' := fun q hq hn => by
  refine k q hq fun e => ?_
  obtain ⟨a, x⟩ := q
  dsimp only at e hn
  subst e
  have e2 := Option.some.inj ((N _ hq).1.symm.trans (N _ hm).1)
  dsimp only at e2
  rw [e2] at hn; cases hn
section
variable {M : Model} {A : Around} {E : Value → Shared → Prop} {s : Shared} {h₀ : Heap} {L a c P : Addr} {m mg mb : Str → Option Value} {cn : Str} {cs : Scope} {ccd : Value} {cl : List (Str × Addr)} {news : List (Addr × Obj)}
  {p : Program} {loose : List Str} {mean : ExcName → Option Value} {params : Arguments} {body : PySem.Expr} {scope : Scope} {ps : Array Value} {pos : Pos} {clos : List (Str × Addr)} {Q : Value → Shared → Prop}
theorem lamFresh (F : Fr h₀ L s.heap m) (N : News h₀ L s.heap news) (T : Top p loose mean mg mb h₀) (C : CodeHd h₀ c P) (hcd : ccd = .ref c) (hm : (P, tabObj ps) ∈ news) (ht : TriplesOk ps.toList) (hnf : codeAmong pos ps.toList = none)
    (hcl : closureFor scope (envX cn cs L a ccd cl) = pure clos) (hdef : defaultsOf params (envX cn cs L a ccd cl) = ([], [])) (hlt : ∃ q ∈ news, (282 : Nat) ≤ q.1)
    (h : ∀ f c' ctv h' tk news', Fr h₀ L h' m → News h₀ L h' news' → (f, kla_obj "<lambda>" ((cn ++ ".<locals>.") ++ "<lambda>") params body scope clos ((mg "__name__").getD .none) c' ctv) ∈ news' → CodeAt news' c' ((cn ++ ".<locals>.") ++ "<lambda>") →
      (P, tabObj (ps ++ #[rawInt pos.line, rawInt pos.col, .ref c'])) ∈ news' → SubBut P news news' → Q (.ref f) { s with heap := h', toks := tk }) :
    wpAny M A (eval (.Lambda params body scope pos) (envX cn cs L a ccd cl)) Q E s := by
  refine kla_eval hdef (kla_nest F (newsFilt N hm) T C hcd upd_filt ht hnf hcl fun f c' oc vs t ctv h' tk F' N' d1 d2 l1 l2 => ?_)
  have hP : P < c' := l1 _ (.head _)
  have h282 : (282 : Nat) < c' := by
    obtain ⟨q, hq, hle⟩ := hlt
    by_cases e : q.1 = P
    · rw [e] at hle; exact Nat.lt_of_le_of_lt hle hP
    · exact Nat.lt_of_le_of_lt hle (l1 _ (.tail _ (filt_mem hq e)))
  exact h f c' ctv h' tk _ F' N' (.head _) ⟨h282, oc, vs, t, .tail _ (.head _), d1, d2⟩ (.tail _ (.tail _ (.head _))) (fun q hq hn => .tail _ (.tail _ (.tail _ (filt_mem hq hn))))
theorem lamHit {c' : Addr} (F : Fr h₀ L s.heap m) (N : News h₀ L s.heap news) (T : Top p loose mean mg mb h₀) (C : CodeHd h₀ c P) (hcd : ccd = .ref c) (hm : (P, tabObj ps) ∈ news) (ht : TriplesOk ps.toList) (hf : codeAmong pos ps.toList = some (.ref c'))
    (hcl : closureFor scope (envX cn cs L a ccd cl) = pure clos) (hdef : defaultsOf params (envX cn cs L a ccd cl) = ([], []))
    (h : ∀ f ctv h' tk, Fr h₀ L h' m → News h₀ L h' ((f, kla_obj "<lambda>" ((cn ++ ".<locals>.") ++ "<lambda>") params body scope clos ((mg "__name__").getD .none) c' ctv) :: news) → Q (.ref f) { s with heap := h', toks := tk }) :
    wpAny M A (eval (.Lambda params body scope pos) (envX cn cs L a ccd cl)) Q E s :=
  kla_eval hdef (kla_hit F N T C hcd hm ht hf hcl fun f ctv h' tk F' N' _ => h f ctv h' tk F' N')
theorem lamTwoA {l1 k1 l2 k2 : Nat} (F : Fr h₀ L s.heap m) (N : News h₀ L s.heap news) (T : Top p loose mean mg mb h₀) (C : CodeHd h₀ c P) (hcd : ccd = .ref c) (hS : Two P l1 k1 l2 k2 ((cn ++ ".<locals>.") ++ "<lambda>") news) (hl : pos.line = l1) (hk : pos.col = k1) (hlt : ∃ q ∈ news, (282 : Nat) ≤ q.1)
    (hcl : closureFor scope (envX cn cs L a ccd cl) = pure clos) (hdef : defaultsOf params (envX cn cs L a ccd cl) = ([], []))
    (h : ∀ f c' ctv h' tk news', Fr h₀ L h' m → News h₀ L h' news' → (f, kla_obj "<lambda>" ((cn ++ ".<locals>.") ++ "<lambda>") params body scope clos ((mg "__name__").getD .none) c' ctv) ∈ news' → CodeAt news' c' ((cn ++ ".<locals>.") ++ "<lambda>") →
      Mid P l1 k1 l2 k2 ((cn ++ ".<locals>.") ++ "<lambda>") c' news' → SubBut P news news' → Keeps news news' → Q (.ref f) { s with heap := h', toks := tk }) :
    wpAny M A (eval (.Lambda params body scope pos) (envX cn cs L a ccd cl)) Q E s := by
  subst hl hk
  rcases hS with h0 | ⟨c1, c2, h0, h1, h2⟩
  · refine lamFresh F N T C hcd h0 trivial rfl hcl hdef hlt fun f c' ctv h' tk news' F' N' hf hc ht hb => ?_
    exact h f c' ctv h' tk news' F' N' hf hc ⟨hc, .inl (by simpa using ht)⟩ hb (tabBut N h0 hb)
  · refine lamHit F N T C hcd h0 (by simp [TriplesOk, rawInt]) (c' := c1) (by simp [codeAmong, rawInt]) hcl hdef fun f ctv h' tk F' N' => ?_
    exact h f c1 ctv h' tk _ F' N' (.head _) (h1.monoT SubT.refl.cons) ⟨h1.monoT SubT.refl.cons, .inr ⟨c2, .tail _ h0, h2.monoT SubT.refl.cons⟩⟩ (SubBut.of Sub.refl.cons) Keeps.refl.cons
theorem lamTwoB {l1 k1 l2 k2 : Nat} {c1 : Addr} (F : Fr h₀ L s.heap m) (N : News h₀ L s.heap news) (T : Top p loose mean mg mb h₀) (C : CodeHd h₀ c P) (hcd : ccd = .ref c) (hS : Mid P l1 k1 l2 k2 ((cn ++ ".<locals>.") ++ "<lambda>") c1 news) (hl : pos.line = l2) (hk : pos.col = k2) (hne : k1 ≠ k2) (hP : (P : Nat) ≤ 282)
    (hcl : closureFor scope (envX cn cs L a ccd cl) = pure clos) (hdef : defaultsOf params (envX cn cs L a ccd cl) = ([], []))
    (h : ∀ f c' ctv h' tk news', Fr h₀ L h' m → News h₀ L h' news' → (f, kla_obj "<lambda>" ((cn ++ ".<locals>.") ++ "<lambda>") params body scope clos ((mg "__name__").getD .none) c' ctv) ∈ news' → CodeAt news' c' ((cn ++ ".<locals>.") ++ "<lambda>") →
      Two P l1 k1 l2 k2 ((cn ++ ".<locals>.") ++ "<lambda>") news' → SubBut P news news' → Keeps news news' → Q (.ref f) { s with heap := h', toks := tk }) :
    wpAny M A (eval (.Lambda params body scope pos) (envX cn cs L a ccd cl)) Q E s := by
  subst hl hk
  have hne' : ((k1 : Int) == (pos.col : Int)) = false := beq_eq_false_iff_ne.mpr fun e => hne (by omega)
  obtain ⟨hc1, h0 | ⟨c2, h0, h2⟩⟩ := hS
  · have hlt : ∃ q ∈ news, (282 : Nat) ≤ q.1 := by obtain ⟨h1, oc, vs, t, h2, _⟩ := hc1; exact ⟨_, h2, Nat.le_of_lt h1⟩
    refine lamFresh F N T C hcd h0 (by simp [TriplesOk, rawInt]) (by unfold rawInt; simp only [codeAmong, hne', Bool.and_false, Bool.false_eq_true, if_false, beq_self_eq_true, Bool.and_self, if_true]) hcl hdef hlt fun f c' ctv h' tk news' F' N' hf hc ht hb => ?_
    refine h f c' ctv h' tk news' F' N' hf hc (.inr ⟨c1, c', by simpa using ht, ?_, hc⟩) hb (tabBut N h0 hb)
    obtain ⟨h1, oc, vs, t, h2, h3⟩ := hc1
    exact ⟨h1, oc, vs, t, hb _ h2 (Nat.ne_of_gt (Nat.lt_of_le_of_lt hP h1)), h3⟩
  · refine lamHit F N T C hcd h0 (by simp [TriplesOk, rawInt]) (c' := c2) (by unfold rawInt; simp only [codeAmong, hne', Bool.and_false, Bool.false_eq_true, if_false, beq_self_eq_true, Bool.and_self, if_true]) hcl hdef fun f ctv h' tk F' N' => ?_
    exact h f c2 ctv h' tk _ F' N' (.head _) (h2.monoT SubT.refl.cons) (.inr ⟨c1, c2, .tail _ h0, hc1.monoT SubT.refl.cons, h2.monoT SubT.refl.cons⟩) (SubBut.of Sub.refl.cons) Keeps.refl.cons
theorem lamOne {l1 k1 : Nat} (F : Fr h₀ L s.heap m) (N : News h₀ L s.heap news) (T : Top p loose mean mg mb h₀) (C : CodeHd h₀ c P) (hcd : ccd = .ref c) (hS : One P l1 k1 ((cn ++ ".<locals>.") ++ "<lambda>") news) (hl : pos.line = l1) (hk : pos.col = k1) (hlt : ∃ q ∈ news, (282 : Nat) ≤ q.1)
    (hcl : closureFor scope (envX cn cs L a ccd cl) = pure clos) (hdef : defaultsOf params (envX cn cs L a ccd cl) = ([], []))
    (h : ∀ f c' ctv h' tk news', Fr h₀ L h' m → News h₀ L h' news' → (f, kla_obj "<lambda>" ((cn ++ ".<locals>.") ++ "<lambda>") params body scope clos ((mg "__name__").getD .none) c' ctv) ∈ news' → CodeAt news' c' ((cn ++ ".<locals>.") ++ "<lambda>") →
      One P l1 k1 ((cn ++ ".<locals>.") ++ "<lambda>") news' → SubBut P news news' → Keeps news news' → Q (.ref f) { s with heap := h', toks := tk }) :
    wpAny M A (eval (.Lambda params body scope pos) (envX cn cs L a ccd cl)) Q E s := by
  subst hl hk
  rcases hS with h0 | ⟨c1, h0, h1⟩
  · refine lamFresh F N T C hcd h0 trivial rfl hcl hdef hlt fun f c' ctv h' tk news' F' N' hf hc ht hb => ?_
    exact h f c' ctv h' tk news' F' N' hf hc (.inr ⟨c', by simpa using ht, hc⟩) hb (tabBut N h0 hb)
  · refine lamHit F N T C hcd h0 (by simp [TriplesOk, rawInt]) (c' := c1) (by simp [codeAmong, rawInt]) hcl hdef fun f ctv h' tk F' N' => ?_
    exact h f c1 ctv h' tk _ F' N' (.head _) (h1.monoT SubT.refl.cons) (.inr ⟨c1, .tail _ h0, h1.monoT SubT.refl.cons⟩) (SubBut.of Sub.refl.cons) Keeps.refl.cons
end
theorem Tabs.big {news : List (Addr × Obj)} (h : Tabs news) : ∃ q ∈ news, (282 : Nat) ≤ q.1 := by
  rcases h.f with h | ⟨_, _, h, _⟩ <;> exact ⟨_, h, Nat.le_refl _⟩
theorem Mid.big {P : Addr} {l1 k1 l2 k2 : Nat} {q : Str} {c1 : Addr} {news : List (Addr × Obj)} (h : Mid P l1 k1 l2 k2 q c1 news) : ∃ q ∈ news, (282 : Nat) ≤ q.1 := by
  obtain ⟨⟨h1, oc, vs, t, h2, _⟩, _⟩ := h
  exact ⟨_, h2, Nat.le_of_lt h1⟩
/-- the codes whose tables these are -/
structure Cd (h : Heap) : Prop where
  f : CodeHd h 286 282
  v : CodeHd h 274 270
  r : CodeHd h 260 256
section
variable (prog : Program) (w : World) (p : Program) (loose : List Str) (mean : ExcName → Option Value) (mg mb : Str → Option Value)
/-- Spec, where lambdas are made -/
def SpecL (f : Addr) (vs : List Value) (d u : Nat) (news : List (Addr × Obj)) (post : Value → List (Addr × Obj) → Prop) : Prop :=
  ∀ (dp un : Nat) (gd : Option (List Code)) (cn : Str) (cs : Scope) (a : Addr) (ccd : Value) (cl : List (Str × Addr)) (outer : List Env) (A₀ : Around) (base h₀ : Heap) (L : Addr) (m : Str → Option Value) (s : Shared)
    (Q E : Value → Shared → Prop),
    Below A₀ base outer h₀ → Fr h₀ L s.heap m → (hd.heap_39 w.params).In h₀ → News h₀ L s.heap news → Top p loose mean mg mb h₀ → Cd base → cs.kind = .function → dp + d < recursionLimit → un + u < cLine →
    (∀ r news' h' tk', Fr h₀ L h' m → News h₀ L h' news' → post r news' → Q r { s with heap := h', toks := tk' }) →
    wpAny (model prog w) (ktrTop dp un gd cn cs L a ccd cl outer) (call (.ref f) vs) Q E s
end
section
variable {prog : Program} {w : World} {p : Program} {loose : List Str} {mean : ExcName → Option Value} {mg mb : Str → Option Value}
theorem useL {f : Addr} {vs : List Value} {d u : Nat} {news : List (Addr × Obj)} {post : Value → List (Addr × Obj) → Prop}
    {dp un : Nat} {gd : Option (List Code)} {cn : Str} {cs : Scope} {a : Addr} {ccd : Value} {cl : List (Str × Addr)} {outer : List Env} {A₀ : Around} {base h₀ : Heap} {L : Addr} {m : Str → Option Value} {s : Shared} {Q E : Value → Shared → Prop}
    (S : SpecL prog w p loose mean mg mb f vs d u news post)
    (B : Below A₀ base outer h₀) (F : Fr h₀ L s.heap m) (X : (hd.heap_39 w.params).In h₀) (N : News h₀ L s.heap news) (T : Top p loose mean mg mb h₀) (C : Cd base) (hk : cs.kind = .function) (hd : dp + d < recursionLimit) (hu : un + u < cLine)
    (ret : ∀ r news' h' tk', Fr h₀ L h' m → News h₀ L h' news' → post r news' → Q r { s with heap := h', toks := tk' }) :
    wpAny (model prog w) (ktrTop dp un gd cn cs L a ccd cl outer) (call (.ref f) vs) Q E s :=
  S _ _ _ _ _ _ _ _ _ _ _ _ _ _ _ _ _ B F X N T C hk hd hu ret
theorem specL_of {f : Addr} {vs : List Value} {d u d' u' : Nat} {news : List (Addr × Obj)} {post post' : Value → List (Addr × Obj) → Prop} (S : Spec prog w p loose mean mg mb f vs d u news post) (hd : d ≤ d') (hu : u ≤ u') (hp : ∀ r l, post r l → post' r l) :
    SpecL prog w p loose mean mg mb f vs d' u' news post' :=
  fun _ _ _ _ _ _ _ _ _ _ _ _ _ _ _ _ _ B F X N T _ hk h1 h2 ret => S _ _ _ _ _ _ _ _ _ _ _ _ _ _ _ _ _ B F X N T hk (by omega) (by omega) fun r l h' tk' F' N' q => ret r l h' tk' F' N' (hp r l q)
end
end
section
theorem offX5 : True := by
  w_top off
  trivial
open PyProof.Rows.LCg PySem PySem.W PySem.Spec PySem.Calls PyProof.Rows
set_option maxRecDepth 100000
section
variable {prog : Program} {w : World} {p : Program} {loose : List Str} {mean : ExcName → Option Value} {mg mb : Str → Option Value}
local macro_rules | `(tactic| walk_at "compareOp Eq ref ref") => `(tactic| (k_here; (refine cmp_ofEq ?_); k_dflt (refine' cmp_K ?k1 ?k2 ?k3 ?k4 ?k5 ?k6 ?k7 ?k8 ?_; (case k1 => k_units); (case k2 => k_asm); (case k3 => k_asm); (case k4 => k_inst); (case k5 => exact InstAt.type (by k_inst)); (case k6 => k_is); (case k7 => k_is); (case k8 => k_is); k_whole)))
local macro_rules | `(tactic| k_is) => `(tactic| first
  | with_reducible exact kfA _ _
  | with_reducible exact kfB _ _
  | with_reducible exact kfC _ _
  | with_reducible exact kfD _ _
  | with_reducible exact kfE _ _
  | with_reducible exact kfF _ _
  | with_reducible exact kfM _ _
  | with_reducible exact kfG _ _
  | with_reducible exact kfH _ _
  | with_reducible exact kfI _ _ _
  | with_reducible exact kfJ _ _
  | with_reducible exact kfK _ _
  )
local macro_rules | `(tactic| k_is) => `(tactic| first
  | with_reducible exact kgFree _ _
  | with_reducible exact kfFree _ _
  | with_reducible exact ksFree _ _
  | with_reducible exact kpFree _ _
  | with_reducible exact kgCons _ _
  | with_reducible exact kfCons _ _
  | with_reducible exact ksCons _ _
  | with_reducible exact kpCons _ _
  | with_reducible exact kgPred _ _
  | with_reducible exact kfPred _ _
  | with_reducible exact ksPred _ _
  | with_reducible exact kpPred _ _
  | with_reducible exact kgRepl _ _
  | with_reducible exact kfRepl _ _
  | with_reducible exact ksRepl _ _
  | with_reducible exact kpRepl _ _
  | with_reducible exact kgSimp _ _
  | with_reducible exact kfSimp _ _
  | with_reducible exact ksSimp _ _
  | with_reducible exact kpSimp _ _
  | with_reducible exact kgSubs _ _
  | with_reducible exact kfSubs _ _
  | with_reducible exact ksSubs _ _
  | with_reducible exact kpSubs _ _
  | with_reducible exact kgVars _ _
  | with_reducible exact kfVars _ _
  | with_reducible exact ksVars _ _
  | with_reducible exact kpVars _ _
  )
local macro_rules | `(tactic| walk_at "getMethod ref") => `(tactic| (k_here; (with_reducible show wpAny _ _ (getMethod (Value.ref _) (PySem.Str.ofString "free") _) _ _ _); k_dflt (refine' exFree ?F ?X ?N ?he ?_; (case F => k_asm); (case X => k_asm); (case N => k_asm); (case he => ktr_rel))))
local macro_rules | `(tactic| walk_at "getMethod ref") => `(tactic| (k_here; (with_reducible show wpAny _ _ (getMethod (Value.ref _) (PySem.Str.ofString "constants") _) _ _ _); k_dflt (refine' exCons ?F ?X ?N ?he ?_; (case F => k_asm); (case X => k_asm); (case N => k_asm); (case he => ktr_rel))))
local macro_rules | `(tactic| walk_at "getMethod ref") => `(tactic| (k_here; (with_reducible show wpAny _ _ (getMethod (Value.ref _) (PySem.Str.ofString "predicates") _) _ _ _); k_dflt (refine' exPred ?F ?X ?N ?he ?_; (case F => k_asm); (case X => k_asm); (case N => k_asm); (case he => ktr_rel))))
local macro_rules | `(tactic| walk_at "getMethod ref") => `(tactic| (k_here; (with_reducible show wpAny _ _ (getMethod (Value.ref _) (PySem.Str.ofString "replace") _) _ _ _); k_dflt (refine' exRepl ?F ?X ?N ?he ?_; (case F => k_asm); (case X => k_asm); (case N => k_asm); (case he => ktr_rel))))
local macro_rules | `(tactic| walk_at "getMethod ref") => `(tactic| (k_here; (with_reducible show wpAny _ _ (getMethod (Value.ref _) (PySem.Str.ofString "simplify") _) _ _ _); k_dflt (refine' exSimp ?F ?X ?N ?he ?_; (case F => k_asm); (case X => k_asm); (case N => k_asm); (case he => ktr_rel))))
local macro_rules | `(tactic| walk_at "getMethod ref") => `(tactic| (k_here; (with_reducible show wpAny _ _ (getMethod (Value.ref _) (PySem.Str.ofString "substitute_bindings") _) _ _ _); k_dflt (refine' exSubs ?F ?X ?N ?he ?_; (case F => k_asm); (case X => k_asm); (case N => k_asm); (case he => ktr_rel))))
local macro_rules | `(tactic| walk_at "getMethod ref") => `(tactic| (k_here; (with_reducible show wpAny _ _ (getMethod (Value.ref _) (PySem.Str.ofString "variables") _) _ _ _); k_dflt (refine' exVars ?F ?X ?N ?he ?_; (case F => k_asm); (case X => k_asm); (case N => k_asm); (case he => ktr_rel))))
local macro_rules | `(tactic| ktr_rel) => `(tactic| first
  | (refine HeldAt.mono (by with_reducible assumption) ?_; ktr_rel)
  | (refine KeptAt.mono (by with_reducible assumption) ?_; ktr_rel)
  | (refine AppAt.mono (by with_reducible assumption) ?_; ktr_rel)
  | (refine ListAt.mono (by with_reducible assumption) ?_; ktr_rel)
  | (refine ListAt.mono (AppAt.list (by with_reducible assumption)) ?_; ktr_rel)
  | (refine' ListAt.but (by with_reducible assumption) ?kk ?hh; (case kk => ktr_rel); (case hh => with_reducible assumption))
  | (refine' AppAt.but (by with_reducible assumption) ?kk ?hh; (case kk => ktr_rel); (case hh => with_reducible assumption)))
local macro_rules | `(tactic| walk_at "subscriptTail") => `(tactic| (k_here; (with_reducible show wpAny _ _ (subscriptTail _ _ (Value.ref _) (Value.int _ _)) _ _ _); k_dflt (refine' la_item ?N ?D ?a ?b ?c ?_; (case N => k_asm); (case D => ktr_rel); (case a => decide); (case b => decide); (case c => rfl))))
local macro_rules | `(tactic| walk_at "setItem ref int") => `(tactic| (k_here; k_dflt (refine' la_set ?F ?N ?D ?a ?b ?c ?_; (case F => k_asm); (case N => k_asm); (case D => ktr_rel); (case a => decide); (case b => decide); (case c => simp); k_whole); intro h9 news9 F9 N9 S9 A9 D9))
local macro_rules | `(tactic| walk_at "call builtin:len") => `(tactic| (k_here; (with_reducible show wpAny _ _ (call (Value.builtin "len") [Value.ref _]) _ _ _); k_dflt (refine' la_len ?N ?D ?z ?_; (case N => k_asm); (case D => ktr_rel); (case z => first | with_reducible assumption | omega))))
local macro_rules | `(tactic| walk_at "call builtin:list.append") => `(tactic| (k_here; (with_reducible show wpAny _ _ (call (Value.builtin "list.append") [Value.ref _, _]) _ _ _); k_dflt (refine' la_append ?F ?N ?D ?z ?_; (case F => k_asm); (case N => k_asm); (case D => ktr_rel); (case z => first | assumption | (rw [sizeLine_eq]; omega)); k_whole); intro h9 news9 F9 N9 S9 A9 D9))
local macro_rules | `(tactic| ktr_rel) => `(tactic| first
  | exact KeepsI.refl
  | (refine KeepsI.cons ?_; ktr_rel)
  | (refine KeepsI.trans ?_ (Sub.i (by with_reducible assumption)); ktr_rel)
  | (refine KeepsI.trans ?_ (by with_reducible assumption); ktr_rel)
  | (refine Keeps.trans ?_ (KeepsI.keeps (by with_reducible assumption)); ktr_rel)
  | (refine KeepsA.trans ?_ (KeepsI.a (by with_reducible assumption)); ktr_rel)
  | (refine TupAt.mono (by with_reducible assumption) ?_; ktr_rel))
local macro_rules | `(tactic| ktr_rel) => `(tactic| first
  | (refine VarsIn.monoA (by with_reducible assumption) ?_; ktr_rel))
theorem Tabs.cons {q : Addr × Obj} {l : List (Addr × Obj)} (h : Tabs l) : Tabs (q :: l) := h.mono (KeepsI.cons KeepsI.refl)
theorem Tabs.f2 {l l1 l2 : List (Addr × Obj)} (t : Two 282 167 26 167 46 (qL "Expression.free") l2) (b : SubBut 282 l1 l2) (a : SubBut 282 l l1) (h : Tabs l) : Tabs l2 :=
  ⟨t, (h.v.but a (by decide) (by decide)).but b (by decide) (by decide), (h.r.but a (by decide) (by decide)).but b (by decide) (by decide)⟩
theorem Tabs.v2 {l l2 : List (Addr × Obj)} (t : One 270 161 36 (qL "Expression.visit_structured") l2) (b : SubBut 270 l l2) (h : Tabs l) : Tabs l2 :=
  ⟨h.f.but b (by decide) (by decide), t, h.r.but b (by decide) (by decide)⟩
theorem Tabs.r2 {l l2 : List (Addr × Obj)} (t : One 256 155 37 (qL "Expression.replace") l2) (b : SubBut 256 l l2) (h : Tabs l) : Tabs l2 :=
  ⟨h.f.but b (by decide) (by decide), h.v.but b (by decide) (by decide), t⟩
theorem Tm.sz_pos : ∀ t : Tm, 1 ≤ t.sz
  | .nm _ => Nat.le_refl _
  | .app f a => Nat.le_add_left _ _
def freeF : Tm → List Nm
  | .nm n => if n.cls = 511 then [n] else []
  | .app f a => unionF [freeF f, freeF a]
theorem unionF_len (l : List (List Nm)) : (unionF l).length ≤ l.flatten.length := by
  have := addU_len l.flatten []
  unfold unionF; simpa using this
theorem freeF_len : ∀ t : Tm, (freeF t).length ≤ t.sz
  | .nm n => by unfold freeF; split <;> simp [Tm.sz]
  | .app f a => by
    have h1 := freeF_len f
    have h2 := freeF_len a
    have h3 := unionF_len [freeF f, freeF a]
    unfold freeF Tm.sz
    simp only [List.flatten_cons, List.flatten_nil, List.append_nil, List.length_append] at h3
    omega
local macro_rules | `(tactic| ktr_rel) => `(tactic| first
  | exact SubT.refl
  | (refine SubT.cons ?_; ktr_rel)
  | (refine SubT.trans ?_ (Sub.t (by with_reducible assumption)); ktr_rel)
  | (refine SubT.trans ?_ (by with_reducible assumption); ktr_rel)
  | (refine SubT.trans ?_ (SubBut.t1 (by with_reducible assumption)); ktr_rel)
  | (refine SubT.trans ?_ (SubBut.t2 (by with_reducible assumption)); ktr_rel)
  | (refine SubT.trans ?_ (SubBut.t3 (by with_reducible assumption)); ktr_rel)
  | (refine CodeAt.monoT (by with_reducible assumption) ?_; ktr_rel)
  | (refine' Tabs.f2 ?t1 ?t2 ?t3 ?t4; (case t1 => with_reducible assumption); (case t2 => with_reducible assumption); (case t3 => with_reducible assumption); (case t4 => ktr_rel))
  | (refine' Tabs.v2 ?t1 ?t2 ?t4; (case t1 => with_reducible assumption); (case t2 => with_reducible assumption); (case t4 => ktr_rel))
  | (refine' Tabs.r2 ?t1 ?t2 ?t4; (case t1 => with_reducible assumption); (case t2 => with_reducible assumption); (case t4 => ktr_rel))
  | (refine Tabs.cons ?_; ktr_rel)
  | (refine Tabs.mono (by with_reducible assumption) ?_; ktr_rel)
  | (refine' Runs.mk ?r1 ?r2 ?r3; (case r1 => ktr_rel); (case r2 => ktr_rel); (case r3 => ktr_rel)))
set_option maxHeartbeats 8000000 in
theorem freeV {n : Nm} {e : Addr} {news : List (Addr × Obj)} (hn : n.cls = 511) (he : ExIn news e (.nm n)) (TB : Tabs news) :
    SpecL prog w p loose mean mg mb 501 [.ref e] 20 200 news (fun r news' => Runs news news' ∧ ∃ l us, r = .ref l ∧ AppAt news' l us ∧ VarsIn news' us [n]) := by
  cases he with
  | nm h1 h2 hv =>
  rw [hn] at h1
  obtain ⟨dv1, ha1, ta1, tb1, hv1, hw1⟩ := id hv
  unfold SpecL
  intro dp un gd cn cs a ccd cl outer A₀ base h₀ L m s Q E B F X N T CD hk hd hu hret
  obtain ⟨cdF, cdV, cdR⟩ := id CD
  refine wpAny_call ?_
  k_dflt ktr_enter
  k_steps
  exact hret _ _ _ _ (by k_asm) (by k_asm) ⟨by ktr_rel, _, _, rfl, ⟨_, by k_mem⟩, .cons ⟨_, rfl, by ktr_rel⟩ .nil⟩
set_option maxHeartbeats 8000000 in
theorem freeK {n : Nm} {e : Addr} {news : List (Addr × Obj)} (hn : n.cls = 575) (he : ExIn news e (.nm n)) (TB : Tabs news) :
    SpecL prog w p loose mean mg mb 565 [.ref e] 20 200 news (fun r news' => Runs news news' ∧ ∃ l us, r = .ref l ∧ AppAt news' l us ∧ VarsIn news' us []) := by
  cases he with
  | nm h1 h2 hv =>
  rw [hn] at h1
  obtain ⟨dv1, ha1, ta1, tb1, hv1, hw1⟩ := id hv
  unfold SpecL
  intro dp un gd cn cs a ccd cl outer A₀ base h₀ L m s Q E B F X N T CD hk hd hu hret
  obtain ⟨cdF, cdV, cdR⟩ := id CD
  refine wpAny_call ?_
  k_dflt ktr_enter
  k_steps
  exact hret _ _ _ _ (by k_asm) (by k_asm) ⟨by ktr_rel, _, [], rfl, ⟨_, by k_mem⟩, .nil⟩
section
variable (prog : Program) (w : World) (p : Program) (loose : List Str) (mean : ExcName → Option Value) (mg mb : Str → Option Value)
def FreeOk (t : Tm) : Prop := ∀ (e : Addr) (news : List (Addr × Obj)), ExIn news e t → Tabs news → SpecL prog w p loose mean mg mb (mFree t) [.ref e] (20 * t.sz) (200 * t.sz) news (fun r news' => Runs news news' ∧ ∃ l us, r = .ref l ∧ AppAt news' l us ∧ VarsIn news' us (freeF t))
end
theorem FreeOk.use {t : Tm} {e : Addr} {news : List (Addr × Obj)} (h : FreeOk prog w p loose mean mg mb t) (he : ExIn news e t) (hT : Tabs news) : SpecL prog w p loose mean mg mb (mFree t) [.ref e] (20 * t.sz) (200 * t.sz) news (fun r news' => Runs news news' ∧ ∃ l us, r = .ref l ∧ AppAt news' l us ∧ VarsIn news' us (freeF t)) := h e news he hT
section
local macro_rules | `(tactic| walk_at "eval Lambda") => `(tactic| (k_here; k_dflt (refine' lamTwoB ?F ?N ?T ?C ?cd ?S ?l ?k ?ne ?P ?cl ?d ?_; (case cd => exact rfl); (case F => k_asm); (case N => k_asm); (case T => k_asm); (case C => exact CodeHd.keeps (Cd.f (by assumption)) (Below.stays (by assumption))); (case S => with_reducible assumption); (case l => exact rfl); (case k => exact rfl); (case ne => decide); (case P => decide); (case cl => exact rfl); (case d => exact rfl)); (intro f9 c9 ct9 h9 tk9 news9 F9 N9 O9 C9 M9 S9 K9); (try dsimp only)))
local macro_rules | `(tactic| walk_at "eval Lambda") => `(tactic| (k_here; k_dflt (refine' lamTwoA ?F ?N ?T ?C ?cd ?S ?l ?k ?b ?cl ?d ?_; (case cd => exact rfl); (case F => k_asm); (case N => k_asm); (case T => k_asm); (case C => exact CodeHd.keeps (Cd.f (by assumption)) (Below.stays (by assumption))); (case S => exact Tabs.f (by ktr_rel)); (case l => exact rfl); (case k => exact rfl); (case b => exact Tabs.big (by ktr_rel)); (case cl => exact rfl); (case d => exact rfl)); (intro f9 c9 ct9 h9 tk9 news9 F9 N9 O9 C9 M9 S9 K9); (try dsimp only)))
local macro_rules | `(tactic| walk_at "call ref") => `(tactic| (k_here; k_dflt (refine wpAny_call ?_; (refine' kla_code ?k1 ?k2 ?k3 ?k4 ?k5 ?kA ?kF ?kK ?k6 ?k7 ?k8 ?k9 ?kB ?_ ?c2 ?c3 ?c4 ?c5; (case kA => exact rfl); (case kF => exact rfl); (case kK => first | exact rfl | assumption); (case k1 => k_asm); (case k2 => k_asm); (case k3 => k_asm); (case k4 => k_asm); (case k5 => k_asm); (case k6 => k_mem); (case k7 => exact CodeAt.rec_ (by k_asm) (by ktr_rel)); (case k8 => ktr_room); (case k9 => exact rfl); (case c5 => decide); (case kB => exact locs rfl); (case c2 => exact rfl); (case c3 => exact rfl); (case c4 => exact rfl); k_whole; intro g' L' h' FG' F' N' B' X' T'; (try dsimp only); (try k_fold)))))
local macro_rules | `(tactic| walk_at "call ref") => `(tactic| (k_here; (with_reducible show wpAny _ _ (call (Value.ref (mFree _)) _ _) _ _ _); k_dflt (refine' useL (FreeOk.use (by with_reducible assumption) ?s1 ?s2) ?k1 ?k2 ?k3 ?k4 ?k5 ?kC ?kK ?kd ?ku ?_; (case k1 => k_asm); (case k2 => k_asm); (case k3 => k_asm); (case k4 => k_asm); (case k5 => k_asm); (case kC => assumption); (case kK => first | exact rfl | assumption); (case kd => ktr_room); (case ku => ktr_units); (case s1 => ktr_rel); (case s2 => ktr_rel)); (intro r9 news9 h9 tk9 F9 N9 P9; (obtain ⟨⟨T9, K9, B9⟩, v9, us9, e9, A9, V9⟩ := P9; subst e9); (try dsimp only); kts_tail)))
local macro_rules | `(tactic| walk_at "call ref") => `(tactic| (k_here; (with_reducible show wpAny _ _ (call (Value.ref 57) _ _) _ _ _); refine Stop.go ?_))
set_option maxHeartbeats 8000000 in
theorem freeA {f a : Tm} {e : Addr} {news : List (Addr × Obj)} (he : ExIn news e (.app f a)) (TB : Tabs news) (hz : f.sz + a.sz ≤ 100) (IHf : FreeOk prog w p loose mean mg mb f) (IHa : FreeOk prog w p loose mean mg mb a) :
    SpecL prog w p loose mean mg mb 287 [.ref e] (20 * (f.sz + a.sz + 1)) (200 * (f.sz + a.sz + 1)) news (fun r news' => Runs news news' ∧ ∃ l us, r = .ref l ∧ AppAt news' l us ∧ VarsIn news' us (freeF (.app f a))) := by
  have zf := f.sz_pos
  have za := a.sz_pos
  cases he with
  | app h1 h2 hf ha =>
  unfold SpecL
  intro dp un gd cn cs aa ccd cl outer A₀ base h₀ L m s Q E B F X N T CD hk hd hu hret
  obtain ⟨cdF, cdV, cdR⟩ := id CD
  refine wpAny_call ?_
  k_dflt ktr_enter
  k_steps
  show Stop _
  unfold Stop
  refine' use (unionS (nss := [freeF f, freeF a]) ?s1 ?s2 ?s3) ?k1 ?k2 ?k3 ?k4 ?k5 ?kK ?kd ?ku ?_; (case k1 => k_asm); (case k2 => k_asm); (case k3 => k_asm); (case k4 => k_asm); (case k5 => k_asm); (case kK => first | exact rfl | assumption); (case kd => ktr_room); (case ku => ktr_units)
  case s1 => exact ⟨_, by k_mem, rfl, _, rfl⟩
  case s2 => exact .cons ⟨_, _, rfl, (by first | ktr_rel | exact ⟨_, by k_mem, rfl, _, rfl⟩), (by first | ktr_rel | exact Rel2.nil | exact Rel2.cons ⟨_, rfl, by ktr_rel⟩ Rel2.nil)⟩ (.cons ⟨_, _, rfl, (by first | ktr_rel | exact ⟨_, by k_mem, rfl, _, rfl⟩), (by first | ktr_rel | exact Rel2.nil | exact Rel2.cons ⟨_, rfl, by ktr_rel⟩ Rel2.nil)⟩ .nil)
  case s3 => (simp only [List.flatten_cons, List.flatten_nil, List.append_nil, List.length_append, List.length_cons, List.length_nil]; have h1 := freeF_len f; have h2 := freeF_len a; omega)
  intro r9 news9 h9 tk9 F9 N9 P9
  obtain ⟨S9, v9, us9, e9, L9, A9, V9⟩ := P9
  subst e9
  k_steps
  exact hret _ _ _ _ (by k_asm) (by k_asm) ⟨by ktr_rel, _, _, rfl, A9, V9⟩
end
theorem free_ : ∀ t : Tm, t.sz ≤ 100 → FreeOk prog w p loose mean mg mb t
  | .nm n, _ => by
    intro e news he TB
    rcases n.cls_or with h | h
    · have q := freeV (prog := prog) (w := w) (p := p) (loose := loose) (mean := mean) (mg := mg) (mb := mb) h he TB
      rw [show mFree (.nm n) = 501 from if_pos h, show freeF (.nm n) = [n] from if_pos h]
      exact q
    · have q := freeK (prog := prog) (w := w) (p := p) (loose := loose) (mean := mean) (mg := mg) (mb := mb) h he TB
      have hn : ¬ n.cls = 511 := by rw [h]; decide
      rw [show mFree (.nm n) = 565 from if_neg hn, show freeF (.nm n) = [] from if_neg hn]
      exact q
  | .app f a, hz => by
    have hz' : f.sz + a.sz + 1 ≤ 100 := hz
    intro e news he TB
    exact freeA he TB (by omega) (free_ f (by omega)) (free_ a (by omega))
end
end
section
theorem offX6 : True := by
  w_top off
  trivial
open PyProof.Rows.LCg PySem PySem.W PySem.Spec PySem.Calls PyProof.Rows
set_option maxRecDepth 100000
section
variable {prog : Program} {w : World} {p : Program} {loose : List Str} {mean : ExcName → Option Value} {mg mb : Str → Option Value}
local macro_rules | `(tactic| walk_at "compareOp Eq ref ref") => `(tactic| (k_here; (refine cmp_ofEq ?_); k_dflt (refine' cmp_K ?k1 ?k2 ?k3 ?k4 ?k5 ?k6 ?k7 ?k8 ?_; (case k1 => k_units); (case k2 => k_asm); (case k3 => k_asm); (case k4 => k_inst); (case k5 => exact InstAt.type (by k_inst)); (case k6 => k_is); (case k7 => k_is); (case k8 => k_is); k_whole)))
local macro_rules | `(tactic| k_is) => `(tactic| first
  | with_reducible exact kfA _ _
  | with_reducible exact kfB _ _
  | with_reducible exact kfC _ _
  | with_reducible exact kfD _ _
  | with_reducible exact kfE _ _
  | with_reducible exact kfF _ _
  | with_reducible exact kfM _ _
  | with_reducible exact kfG _ _
  | with_reducible exact kfH _ _
  | with_reducible exact kfI _ _ _
  | with_reducible exact kfJ _ _
  | with_reducible exact kfK _ _
  )
local macro_rules | `(tactic| k_is) => `(tactic| first
  | with_reducible exact kgFree _ _
  | with_reducible exact kfFree _ _
  | with_reducible exact ksFree _ _
  | with_reducible exact kpFree _ _
  | with_reducible exact kgCons _ _
  | with_reducible exact kfCons _ _
  | with_reducible exact ksCons _ _
  | with_reducible exact kpCons _ _
  | with_reducible exact kgPred _ _
  | with_reducible exact kfPred _ _
  | with_reducible exact ksPred _ _
  | with_reducible exact kpPred _ _
  | with_reducible exact kgRepl _ _
  | with_reducible exact kfRepl _ _
  | with_reducible exact ksRepl _ _
  | with_reducible exact kpRepl _ _
  | with_reducible exact kgSimp _ _
  | with_reducible exact kfSimp _ _
  | with_reducible exact ksSimp _ _
  | with_reducible exact kpSimp _ _
  | with_reducible exact kgSubs _ _
  | with_reducible exact kfSubs _ _
  | with_reducible exact ksSubs _ _
  | with_reducible exact kpSubs _ _
  | with_reducible exact kgVars _ _
  | with_reducible exact kfVars _ _
  | with_reducible exact ksVars _ _
  | with_reducible exact kpVars _ _
  )
local macro_rules | `(tactic| walk_at "getMethod ref") => `(tactic| (k_here; (with_reducible show wpAny _ _ (getMethod (Value.ref _) (PySem.Str.ofString "free") _) _ _ _); k_dflt (refine' exFree ?F ?X ?N ?he ?_; (case F => k_asm); (case X => k_asm); (case N => k_asm); (case he => ktr_rel))))
local macro_rules | `(tactic| walk_at "getMethod ref") => `(tactic| (k_here; (with_reducible show wpAny _ _ (getMethod (Value.ref _) (PySem.Str.ofString "constants") _) _ _ _); k_dflt (refine' exCons ?F ?X ?N ?he ?_; (case F => k_asm); (case X => k_asm); (case N => k_asm); (case he => ktr_rel))))
local macro_rules | `(tactic| walk_at "getMethod ref") => `(tactic| (k_here; (with_reducible show wpAny _ _ (getMethod (Value.ref _) (PySem.Str.ofString "predicates") _) _ _ _); k_dflt (refine' exPred ?F ?X ?N ?he ?_; (case F => k_asm); (case X => k_asm); (case N => k_asm); (case he => ktr_rel))))
local macro_rules | `(tactic| walk_at "getMethod ref") => `(tactic| (k_here; (with_reducible show wpAny _ _ (getMethod (Value.ref _) (PySem.Str.ofString "replace") _) _ _ _); k_dflt (refine' exRepl ?F ?X ?N ?he ?_; (case F => k_asm); (case X => k_asm); (case N => k_asm); (case he => ktr_rel))))
local macro_rules | `(tactic| walk_at "getMethod ref") => `(tactic| (k_here; (with_reducible show wpAny _ _ (getMethod (Value.ref _) (PySem.Str.ofString "simplify") _) _ _ _); k_dflt (refine' exSimp ?F ?X ?N ?he ?_; (case F => k_asm); (case X => k_asm); (case N => k_asm); (case he => ktr_rel))))
local macro_rules | `(tactic| walk_at "getMethod ref") => `(tactic| (k_here; (with_reducible show wpAny _ _ (getMethod (Value.ref _) (PySem.Str.ofString "substitute_bindings") _) _ _ _); k_dflt (refine' exSubs ?F ?X ?N ?he ?_; (case F => k_asm); (case X => k_asm); (case N => k_asm); (case he => ktr_rel))))
local macro_rules | `(tactic| walk_at "getMethod ref") => `(tactic| (k_here; (with_reducible show wpAny _ _ (getMethod (Value.ref _) (PySem.Str.ofString "variables") _) _ _ _); k_dflt (refine' exVars ?F ?X ?N ?he ?_; (case F => k_asm); (case X => k_asm); (case N => k_asm); (case he => ktr_rel))))
local macro_rules | `(tactic| ktr_rel) => `(tactic| first
  | (refine HeldAt.mono (by with_reducible assumption) ?_; ktr_rel)
  | (refine KeptAt.mono (by with_reducible assumption) ?_; ktr_rel)
  | (refine AppAt.mono (by with_reducible assumption) ?_; ktr_rel)
  | (refine ListAt.mono (by with_reducible assumption) ?_; ktr_rel)
  | (refine ListAt.mono (AppAt.list (by with_reducible assumption)) ?_; ktr_rel)
  | (refine' ListAt.but (by with_reducible assumption) ?kk ?hh; (case kk => ktr_rel); (case hh => with_reducible assumption))
  | (refine' AppAt.but (by with_reducible assumption) ?kk ?hh; (case kk => ktr_rel); (case hh => with_reducible assumption)))
local macro_rules | `(tactic| walk_at "subscriptTail") => `(tactic| (k_here; (with_reducible show wpAny _ _ (subscriptTail _ _ (Value.ref _) (Value.int _ _)) _ _ _); k_dflt (refine' la_item ?N ?D ?a ?b ?c ?_; (case N => k_asm); (case D => ktr_rel); (case a => decide); (case b => decide); (case c => rfl))))
local macro_rules | `(tactic| walk_at "setItem ref int") => `(tactic| (k_here; k_dflt (refine' la_set ?F ?N ?D ?a ?b ?c ?_; (case F => k_asm); (case N => k_asm); (case D => ktr_rel); (case a => decide); (case b => decide); (case c => simp); k_whole); intro h9 news9 F9 N9 S9 A9 D9))
local macro_rules | `(tactic| walk_at "call builtin:len") => `(tactic| (k_here; (with_reducible show wpAny _ _ (call (Value.builtin "len") [Value.ref _]) _ _ _); k_dflt (refine' la_len ?N ?D ?z ?_; (case N => k_asm); (case D => ktr_rel); (case z => first | with_reducible assumption | omega))))
local macro_rules | `(tactic| walk_at "call builtin:list.append") => `(tactic| (k_here; (with_reducible show wpAny _ _ (call (Value.builtin "list.append") [Value.ref _, _]) _ _ _); k_dflt (refine' la_append ?F ?N ?D ?z ?_; (case F => k_asm); (case N => k_asm); (case D => ktr_rel); (case z => first | assumption | (rw [sizeLine_eq]; omega)); k_whole); intro h9 news9 F9 N9 S9 A9 D9))
local macro_rules | `(tactic| ktr_rel) => `(tactic| first
  | exact KeepsI.refl
  | (refine KeepsI.cons ?_; ktr_rel)
  | (refine KeepsI.trans ?_ (Sub.i (by with_reducible assumption)); ktr_rel)
  | (refine KeepsI.trans ?_ (by with_reducible assumption); ktr_rel)
  | (refine Keeps.trans ?_ (KeepsI.keeps (by with_reducible assumption)); ktr_rel)
  | (refine KeepsA.trans ?_ (KeepsI.a (by with_reducible assumption)); ktr_rel)
  | (refine TupAt.mono (by with_reducible assumption) ?_; ktr_rel))
local macro_rules | `(tactic| ktr_rel) => `(tactic| first
  | (refine VarsIn.monoA (by with_reducible assumption) ?_; ktr_rel))
local macro_rules | `(tactic| walk_at "call builtin:isinstance") => `(tactic| (k_here; (with_reducible show wpAny _ _ (call (Value.builtin _) [Value.ref _, Value.ref 318]) _ _ _); k_dflt (refine' isiEx ?he ?X ?N ?_; (case N => k_asm); (case he => ktr_rel); (case X => k_in))))
def consF : Tm → List Nm
  | .nm n => if n.cls = 511 then [] else [n]
  | .app (.nm _) a => unionF [[], consF a]
  | .app (.app f g) a => unionF [consF (.app f g), consF a]
def predF : Tm → List Nm
  | .nm _ => []
  | .app (.nm n) a => unionF [if n.cls = 511 then [] else [n], predF a]
  | .app (.app f g) a => unionF [predF (.app f g), predF a]
theorem consF_len : ∀ t : Tm, (consF t).length ≤ t.sz
  | .nm n => by unfold consF; split <;> simp [Tm.sz]
  | .app (.nm n) a => by
    have h2 := consF_len a
    have h3 := unionF_len [[], consF a]
    unfold consF Tm.sz
    simp only [List.flatten_cons, List.flatten_nil, List.append_nil, List.length_append, List.length_nil] at h3
    omega
  | .app (.app f g) a => by
    have h1 := consF_len (.app f g)
    have h2 := consF_len a
    have h3 := unionF_len [consF (.app f g), consF a]
    show (unionF [consF (.app f g), consF a]).length ≤ (Tm.app f g).sz + a.sz + 1
    simp only [List.flatten_cons, List.flatten_nil, List.append_nil, List.length_append] at h3
    omega
theorem predF_len : ∀ t : Tm, (predF t).length ≤ t.sz
  | .nm n => by unfold predF; simp [Tm.sz]
  | .app (.nm n) a => by
    have h2 := predF_len a
    have h3 := unionF_len [if n.cls = 511 then [] else [n], predF a]
    have h4 : (if n.cls = 511 then ([] : List Nm) else [n]).length ≤ 1 := by split <;> simp
    unfold predF Tm.sz
    simp only [List.flatten_cons, List.flatten_nil, List.append_nil, List.length_append] at h3
    omega
  | .app (.app f g) a => by
    have h1 := predF_len (.app f g)
    have h2 := predF_len a
    have h3 := unionF_len [predF (.app f g), predF a]
    show (unionF [predF (.app f g), predF a]).length ≤ (Tm.app f g).sz + a.sz + 1
    simp only [List.flatten_cons, List.flatten_nil, List.append_nil, List.length_append] at h3
    omega
section
variable (prog : Program) (w : World) (p : Program) (loose : List Str) (mean : ExcName → Option Value) (mg mb : Str → Option Value)
def ConsOk (t : Tm) : Prop := ∀ (e : Addr) (news : List (Addr × Obj)), ExIn news e t → Spec prog w p loose mean mg mb (mCons t) [.ref e] (20 * t.sz) (200 * t.sz) news (fun r news' => Sub news news' ∧ ∃ l us, r = .ref l ∧ AppAt news' l us ∧ VarsIn news' us (consF t))
end
theorem ConsOk.use {t : Tm} {e : Addr} {news : List (Addr × Obj)} (h : ConsOk prog w p loose mean mg mb t) (he : ExIn news e t) : Spec prog w p loose mean mg mb (mCons t) [.ref e] (20 * t.sz) (200 * t.sz) news (fun r news' => Sub news news' ∧ ∃ l us, r = .ref l ∧ AppAt news' l us ∧ VarsIn news' us (consF t)) := h e news he
section
variable (prog : Program) (w : World) (p : Program) (loose : List Str) (mean : ExcName → Option Value) (mg mb : Str → Option Value)
def PredOk (t : Tm) : Prop := ∀ (e : Addr) (news : List (Addr × Obj)), ExIn news e t → Spec prog w p loose mean mg mb (mPred t) [.ref e] (20 * t.sz) (200 * t.sz) news (fun r news' => Sub news news' ∧ ∃ l us, r = .ref l ∧ AppAt news' l us ∧ VarsIn news' us (predF t))
end
theorem PredOk.use {t : Tm} {e : Addr} {news : List (Addr × Obj)} (h : PredOk prog w p loose mean mg mb t) (he : ExIn news e t) : Spec prog w p loose mean mg mb (mPred t) [.ref e] (20 * t.sz) (200 * t.sz) news (fun r news' => Sub news news' ∧ ∃ l us, r = .ref l ∧ AppAt news' l us ∧ VarsIn news' us (predF t)) := h e news he
section
local macro_rules | `(tactic| walk_at "call ref") => `(tactic| (k_here; (with_reducible show wpAny _ _ (call (Value.ref (mCons _)) _ _) _ _ _); k_dflt (refine' use (ConsOk.use (by with_reducible assumption) ?s1) ?k1 ?k2 ?k3 ?k4 ?k5 ?kK ?kd ?ku ?_; (case k1 => k_asm); (case k2 => k_asm); (case k3 => k_asm); (case k4 => k_asm); (case k5 => k_asm); (case kK => first | exact rfl | assumption); (case kd => ktr_room); (case ku => ktr_units); (case s1 => ktr_rel)); (intro r9 news9 h9 tk9 F9 N9 P9; (obtain ⟨S9, v9, us9, e9, A9, V9⟩ := P9; subst e9); (try dsimp only); kts_tail)))
local macro_rules | `(tactic| walk_at "call ref") => `(tactic| (k_here; (with_reducible show wpAny _ _ (call (Value.ref (mPred _)) _ _) _ _ _); k_dflt (refine' use (PredOk.use (by with_reducible assumption) ?s1) ?k1 ?k2 ?k3 ?k4 ?k5 ?kK ?kd ?ku ?_; (case k1 => k_asm); (case k2 => k_asm); (case k3 => k_asm); (case k4 => k_asm); (case k5 => k_asm); (case kK => first | exact rfl | assumption); (case kd => ktr_room); (case ku => ktr_units); (case s1 => ktr_rel)); (intro r9 news9 h9 tk9 F9 N9 P9; (obtain ⟨S9, v9, us9, e9, A9, V9⟩ := P9; subst e9); (try dsimp only); kts_tail)))
local macro_rules | `(tactic| walk_at "call ref") => `(tactic| (k_here; (with_reducible show wpAny _ _ (call (Value.ref 57) _ _) _ _ _); refine Stop.go ?_))
set_option maxHeartbeats 4000000 in
theorem consV {n : Nm} {e : Addr} {news : List (Addr × Obj)} (hn : n.cls = 511) (he : ExIn news e (.nm n)) :
    Spec prog w p loose mean mg mb 508 [.ref e] 20 200 news (fun r news' => Sub news news' ∧ ∃ l us, r = .ref l ∧ AppAt news' l us ∧ VarsIn news' us []) := by
  cases he with
  | nm h1 h2 hv =>
  rw [hn] at h1
  obtain ⟨dv1, ha1, ta1, tb1, hv1, hw1⟩ := id hv
  unfold Spec
  intro dp un gd cn cs a ccd cl outer A₀ base h₀ L m s Q E B F X N T hk hd hu hret
  refine wpAny_call ?_
  k_dflt ktr_enter
  k_steps
  exact hret _ _ _ _ (by k_asm) (by k_asm) ⟨by ktr_rel, _, [], rfl, ⟨_, by k_mem⟩, .nil⟩
set_option maxHeartbeats 4000000 in
theorem consK {n : Nm} {e : Addr} {news : List (Addr × Obj)} (hn : n.cls = 575) (he : ExIn news e (.nm n)) :
    Spec prog w p loose mean mg mb 572 [.ref e] 20 200 news (fun r news' => Sub news news' ∧ ∃ l us, r = .ref l ∧ AppAt news' l us ∧ VarsIn news' us [n]) := by
  cases he with
  | nm h1 h2 hv =>
  rw [hn] at h1
  obtain ⟨dv1, ha1, ta1, tb1, hv1, hw1⟩ := id hv
  unfold Spec
  intro dp un gd cn cs a ccd cl outer A₀ base h₀ L m s Q E B F X N T hk hd hu hret
  refine wpAny_call ?_
  k_dflt ktr_enter
  k_steps
  exact hret _ _ _ _ (by k_asm) (by k_asm) ⟨by ktr_rel, _, _, rfl, ⟨_, by k_mem⟩, .cons ⟨_, rfl, by ktr_rel⟩ .nil⟩
set_option maxHeartbeats 4000000 in
theorem predV {n : Nm} {e : Addr} {news : List (Addr × Obj)} (hn : n.cls = 511) (he : ExIn news e (.nm n)) :
    Spec prog w p loose mean mg mb 461 [.ref e] 20 200 news (fun r news' => Sub news news' ∧ ∃ l us, r = .ref l ∧ AppAt news' l us ∧ VarsIn news' us []) := by
  cases he with
  | nm h1 h2 hv =>
  rw [hn] at h1
  obtain ⟨dv1, ha1, ta1, tb1, hv1, hw1⟩ := id hv
  unfold Spec
  intro dp un gd cn cs a ccd cl outer A₀ base h₀ L m s Q E B F X N T hk hd hu hret
  refine wpAny_call ?_
  k_dflt ktr_enter
  k_steps
  exact hret _ _ _ _ (by k_asm) (by k_asm) ⟨by ktr_rel, _, [], rfl, ⟨_, by k_mem⟩, .nil⟩
set_option maxHeartbeats 4000000 in
theorem predK {n : Nm} {e : Addr} {news : List (Addr × Obj)} (hn : n.cls = 575) (he : ExIn news e (.nm n)) :
    Spec prog w p loose mean mg mb 461 [.ref e] 20 200 news (fun r news' => Sub news news' ∧ ∃ l us, r = .ref l ∧ AppAt news' l us ∧ VarsIn news' us []) := by
  cases he with
  | nm h1 h2 hv =>
  rw [hn] at h1
  obtain ⟨dv1, ha1, ta1, tb1, hv1, hw1⟩ := id hv
  unfold Spec
  intro dp un gd cn cs a ccd cl outer A₀ base h₀ L m s Q E B F X N T hk hd hu hret
  refine wpAny_call ?_
  k_dflt ktr_enter
  k_steps
  exact hret _ _ _ _ (by k_asm) (by k_asm) ⟨by ktr_rel, _, [], rfl, ⟨_, by k_mem⟩, .nil⟩
set_option maxHeartbeats 8000000 in
theorem consA1 {n : Nm} {a : Tm} {e : Addr} {news : List (Addr × Obj)} (he : ExIn news e (.app (.nm n) a)) (hz : 1 + a.sz ≤ 100) (IHa : ConsOk prog w p loose mean mg mb a) :
    Spec prog w p loose mean mg mb 362 [.ref e] (20 * (1 + a.sz + 1)) (200 * (1 + a.sz + 1)) news (fun r news' => Sub news news' ∧ ∃ l us, r = .ref l ∧ AppAt news' l us ∧ VarsIn news' us (unionF [[], consF a])) := by
  have za := a.sz_pos
  cases he with
  | app h1 h2 hf ha =>
  cases hf with
  | nm h3 h4 hv =>
  obtain ⟨dv1, ha1, ta1, tb1, hv1, hw1⟩ := id hv
  unfold Spec
  intro dp un gd cn cs aa ccd cl outer A₀ base h₀ L m s Q E B F X N T hk hd hu hret
  refine wpAny_call ?_
  k_dflt ktr_enter
  k_steps
  show Stop _
  unfold Stop
  refine' use (unionS (nss := [[], consF a]) ?s1 ?s2 ?s3) ?k1 ?k2 ?k3 ?k4 ?k5 ?kK ?kd ?ku ?_; (case k1 => k_asm); (case k2 => k_asm); (case k3 => k_asm); (case k4 => k_asm); (case k5 => k_asm); (case kK => first | exact rfl | assumption); (case kd => ktr_room); (case ku => ktr_units)
  case s1 => exact ⟨_, by k_mem, rfl, _, rfl⟩
  case s2 => exact .cons ⟨_, _, rfl, (by first | ktr_rel | exact ⟨_, by k_mem, rfl, _, rfl⟩), (by first | ktr_rel | exact Rel2.nil | exact Rel2.cons ⟨_, rfl, by ktr_rel⟩ Rel2.nil)⟩ (.cons ⟨_, _, rfl, (by first | ktr_rel | exact ⟨_, by k_mem, rfl, _, rfl⟩), (by first | ktr_rel | exact Rel2.nil | exact Rel2.cons ⟨_, rfl, by ktr_rel⟩ Rel2.nil)⟩ .nil)
  case s3 => (simp only [List.flatten_cons, List.flatten_nil, List.append_nil, List.length_append, List.length_cons, List.length_nil]; have q2 := consF_len a; omega)
  intro r9 news9 h9 tk9 F9 N9 P9
  obtain ⟨S9, v9, us9, e9, L9, A9, V9⟩ := P9
  subst e9
  k_steps
  exact hret _ _ _ _ (by k_asm) (by k_asm) ⟨by ktr_rel, _, _, rfl, A9, V9⟩
set_option maxHeartbeats 8000000 in
theorem consA2 {f g a : Tm} {e : Addr} {news : List (Addr × Obj)} (he : ExIn news e (.app (.app f g) a)) (hz : (Tm.app f g).sz + a.sz ≤ 100) (IHa : ConsOk prog w p loose mean mg mb a) (IHf : ConsOk prog w p loose mean mg mb (.app f g)) :
    Spec prog w p loose mean mg mb 362 [.ref e] (20 * ((Tm.app f g).sz + a.sz + 1)) (200 * ((Tm.app f g).sz + a.sz + 1)) news (fun r news' => Sub news news' ∧ ∃ l us, r = .ref l ∧ AppAt news' l us ∧ VarsIn news' us (unionF [consF (.app f g), consF a])) := by
  have zf := (Tm.app f g).sz_pos
  have za := a.sz_pos
  cases he with
  | app h1 h2 hf ha =>
  have hf0 := hf
  cases hf0 with
  | app h3 h4 hfa hfb =>
  unfold Spec
  intro dp un gd cn cs aa ccd cl outer A₀ base h₀ L m s Q E B F X N T hk hd hu hret
  refine wpAny_call ?_
  k_dflt ktr_enter
  k_steps
  show Stop _
  unfold Stop
  refine' use (unionS (nss := [consF (.app f g), consF a]) ?s1 ?s2 ?s3) ?k1 ?k2 ?k3 ?k4 ?k5 ?kK ?kd ?ku ?_; (case k1 => k_asm); (case k2 => k_asm); (case k3 => k_asm); (case k4 => k_asm); (case k5 => k_asm); (case kK => first | exact rfl | assumption); (case kd => ktr_room); (case ku => ktr_units)
  case s1 => exact ⟨_, by k_mem, rfl, _, rfl⟩
  case s2 => exact .cons ⟨_, _, rfl, (by first | ktr_rel | exact ⟨_, by k_mem, rfl, _, rfl⟩), (by first | ktr_rel | exact Rel2.nil | exact Rel2.cons ⟨_, rfl, by ktr_rel⟩ Rel2.nil)⟩ (.cons ⟨_, _, rfl, (by first | ktr_rel | exact ⟨_, by k_mem, rfl, _, rfl⟩), (by first | ktr_rel | exact Rel2.nil | exact Rel2.cons ⟨_, rfl, by ktr_rel⟩ Rel2.nil)⟩ .nil)
  case s3 => (simp only [List.flatten_cons, List.flatten_nil, List.append_nil, List.length_append, List.length_cons, List.length_nil]; have q1 := consF_len (.app f g); have q2 := consF_len a; omega)
  intro r9 news9 h9 tk9 F9 N9 P9
  obtain ⟨S9, v9, us9, e9, L9, A9, V9⟩ := P9
  subst e9
  k_steps
  exact hret _ _ _ _ (by k_asm) (by k_asm) ⟨by ktr_rel, _, _, rfl, A9, V9⟩
set_option maxHeartbeats 8000000 in
theorem predA1 {n : Nm} {a : Tm} {e : Addr} {news : List (Addr × Obj)} (he : ExIn news e (.app (.nm n) a)) (hz : 1 + a.sz ≤ 100) (IHa : PredOk prog w p loose mean mg mb a) (hn : n.cls = 511) (IHf : PredOk prog w p loose mean mg mb (.nm n)) :
    Spec prog w p loose mean mg mb 369 [.ref e] (20 * (1 + a.sz + 1)) (200 * (1 + a.sz + 1)) news (fun r news' => Sub news news' ∧ ∃ l us, r = .ref l ∧ AppAt news' l us ∧ VarsIn news' us (unionF [predF (.nm n), predF a])) := by
  have za := a.sz_pos
  cases he with
  | app h1 h2 hf ha =>
  cases hf with
  | nm h3 h4 hv =>
  rw [hn] at h3
  have zn : (Tm.nm n).sz = 1 := rfl
  have hfe : ExIn news _ (.nm n) := .nm (hn ▸ h3) h4 hv
  obtain ⟨dv1, ha1, ta1, tb1, hv1, hw1⟩ := id hv
  unfold Spec
  intro dp un gd cn cs aa ccd cl outer A₀ base h₀ L m s Q E B F X N T hk hd hu hret
  refine wpAny_call ?_
  k_dflt ktr_enter
  k_steps
  show Stop _
  unfold Stop
  refine' use (unionS (nss := [predF (.nm n), predF a]) ?s1 ?s2 ?s3) ?k1 ?k2 ?k3 ?k4 ?k5 ?kK ?kd ?ku ?_; (case k1 => k_asm); (case k2 => k_asm); (case k3 => k_asm); (case k4 => k_asm); (case k5 => k_asm); (case kK => first | exact rfl | assumption); (case kd => ktr_room); (case ku => ktr_units)
  case s1 => exact ⟨_, by k_mem, rfl, _, rfl⟩
  case s2 => exact .cons ⟨_, _, rfl, (by first | ktr_rel | exact ⟨_, by k_mem, rfl, _, rfl⟩), (by first | ktr_rel | exact Rel2.nil | exact Rel2.cons ⟨_, rfl, by ktr_rel⟩ Rel2.nil)⟩ (.cons ⟨_, _, rfl, (by first | ktr_rel | exact ⟨_, by k_mem, rfl, _, rfl⟩), (by first | ktr_rel | exact Rel2.nil | exact Rel2.cons ⟨_, rfl, by ktr_rel⟩ Rel2.nil)⟩ .nil)
  case s3 => (simp only [List.flatten_cons, List.flatten_nil, List.append_nil, List.length_append, List.length_cons, List.length_nil]; have q1 : (predF (.nm n)).length = 0 := rfl; have q2 := predF_len a; omega)
  intro r9 news9 h9 tk9 F9 N9 P9
  obtain ⟨S9, v9, us9, e9, L9, A9, V9⟩ := P9
  subst e9
  k_steps
  exact hret _ _ _ _ (by k_asm) (by k_asm) ⟨by ktr_rel, _, _, rfl, A9, V9⟩
set_option maxHeartbeats 8000000 in
theorem predA2 {n : Nm} {a : Tm} {e : Addr} {news : List (Addr × Obj)} (he : ExIn news e (.app (.nm n) a)) (hz : 1 + a.sz ≤ 100) (IHa : PredOk prog w p loose mean mg mb a) (hn : n.cls = 575) :
    Spec prog w p loose mean mg mb 369 [.ref e] (20 * (1 + a.sz + 1)) (200 * (1 + a.sz + 1)) news (fun r news' => Sub news news' ∧ ∃ l us, r = .ref l ∧ AppAt news' l us ∧ VarsIn news' us (unionF [[n], predF a])) := by
  have za := a.sz_pos
  cases he with
  | app h1 h2 hf ha =>
  cases hf with
  | nm h3 h4 hv =>
  rw [hn] at h3
  obtain ⟨dv1, ha1, ta1, tb1, hv1, hw1⟩ := id hv
  unfold Spec
  intro dp un gd cn cs aa ccd cl outer A₀ base h₀ L m s Q E B F X N T hk hd hu hret
  refine wpAny_call ?_
  k_dflt ktr_enter
  k_steps
  show Stop _
  unfold Stop
  refine' use (unionS (nss := [[n], predF a]) ?s1 ?s2 ?s3) ?k1 ?k2 ?k3 ?k4 ?k5 ?kK ?kd ?ku ?_; (case k1 => k_asm); (case k2 => k_asm); (case k3 => k_asm); (case k4 => k_asm); (case k5 => k_asm); (case kK => first | exact rfl | assumption); (case kd => ktr_room); (case ku => ktr_units)
  case s1 => exact ⟨_, by k_mem, rfl, _, rfl⟩
  case s2 => exact .cons ⟨_, _, rfl, (by first | ktr_rel | exact ⟨_, by k_mem, rfl, _, rfl⟩), (by first | ktr_rel | exact Rel2.nil | exact Rel2.cons ⟨_, rfl, by ktr_rel⟩ Rel2.nil)⟩ (.cons ⟨_, _, rfl, (by first | ktr_rel | exact ⟨_, by k_mem, rfl, _, rfl⟩), (by first | ktr_rel | exact Rel2.nil | exact Rel2.cons ⟨_, rfl, by ktr_rel⟩ Rel2.nil)⟩ .nil)
  case s3 => (simp only [List.flatten_cons, List.flatten_nil, List.append_nil, List.length_append, List.length_cons, List.length_nil]; have q2 := predF_len a; omega)
  intro r9 news9 h9 tk9 F9 N9 P9
  obtain ⟨S9, v9, us9, e9, L9, A9, V9⟩ := P9
  subst e9
  k_steps
  exact hret _ _ _ _ (by k_asm) (by k_asm) ⟨by ktr_rel, _, _, rfl, A9, V9⟩
set_option maxHeartbeats 8000000 in
theorem predA3 {f g a : Tm} {e : Addr} {news : List (Addr × Obj)} (he : ExIn news e (.app (.app f g) a)) (hz : (Tm.app f g).sz + a.sz ≤ 100) (IHa : PredOk prog w p loose mean mg mb a) (IHf : PredOk prog w p loose mean mg mb (.app f g)) :
    Spec prog w p loose mean mg mb 369 [.ref e] (20 * ((Tm.app f g).sz + a.sz + 1)) (200 * ((Tm.app f g).sz + a.sz + 1)) news (fun r news' => Sub news news' ∧ ∃ l us, r = .ref l ∧ AppAt news' l us ∧ VarsIn news' us (unionF [predF (.app f g), predF a])) := by
  have zf := (Tm.app f g).sz_pos
  have za := a.sz_pos
  cases he with
  | app h1 h2 hf ha =>
  have hf0 := hf
  cases hf0 with
  | app h3 h4 hfa hfb =>
  unfold Spec
  intro dp un gd cn cs aa ccd cl outer A₀ base h₀ L m s Q E B F X N T hk hd hu hret
  refine wpAny_call ?_
  k_dflt ktr_enter
  k_steps
  show Stop _
  unfold Stop
  refine' use (unionS (nss := [predF (.app f g), predF a]) ?s1 ?s2 ?s3) ?k1 ?k2 ?k3 ?k4 ?k5 ?kK ?kd ?ku ?_; (case k1 => k_asm); (case k2 => k_asm); (case k3 => k_asm); (case k4 => k_asm); (case k5 => k_asm); (case kK => first | exact rfl | assumption); (case kd => ktr_room); (case ku => ktr_units)
  case s1 => exact ⟨_, by k_mem, rfl, _, rfl⟩
  case s2 => exact .cons ⟨_, _, rfl, (by first | ktr_rel | exact ⟨_, by k_mem, rfl, _, rfl⟩), (by first | ktr_rel | exact Rel2.nil | exact Rel2.cons ⟨_, rfl, by ktr_rel⟩ Rel2.nil)⟩ (.cons ⟨_, _, rfl, (by first | ktr_rel | exact ⟨_, by k_mem, rfl, _, rfl⟩), (by first | ktr_rel | exact Rel2.nil | exact Rel2.cons ⟨_, rfl, by ktr_rel⟩ Rel2.nil)⟩ .nil)
  case s3 => (simp only [List.flatten_cons, List.flatten_nil, List.append_nil, List.length_append, List.length_cons, List.length_nil]; have q1 := predF_len (.app f g); have q2 := predF_len a; omega)
  intro r9 news9 h9 tk9 F9 N9 P9
  obtain ⟨S9, v9, us9, e9, L9, A9, V9⟩ := P9
  subst e9
  k_steps
  exact hret _ _ _ _ (by k_asm) (by k_asm) ⟨by ktr_rel, _, _, rfl, A9, V9⟩
end
theorem cons_ : ∀ t : Tm, t.sz ≤ 100 → ConsOk prog w p loose mean mg mb t
  | .nm n, _ => by
    intro e news he
    rcases n.cls_or with h | h
    · have q := consV (prog := prog) (w := w) (p := p) (loose := loose) (mean := mean) (mg := mg) (mb := mb) h he
      simp only [mCons, consF, h, if_true]
      exact q
    · have q := consK (prog := prog) (w := w) (p := p) (loose := loose) (mean := mean) (mg := mg) (mb := mb) h he
      have hn : ¬ n.cls = 511 := by rw [h]; decide
      simp only [mCons, consF, hn, if_false]
      exact q
  | .app (.nm n) a, hz => by
    have hz' : 1 + a.sz + 1 ≤ 100 := hz
    intro e news he
    exact consA1 he (by omega) (cons_ a (by omega))
  | .app (.app f g) a, hz => by
    have hz' : (Tm.app f g).sz + a.sz + 1 ≤ 100 := hz
    intro e news he
    exact consA2 he (by omega) (cons_ a (by omega)) (cons_ (.app f g) (by omega))
theorem pred_ : ∀ t : Tm, t.sz ≤ 100 → PredOk prog w p loose mean mg mb t
  | .nm n, _ => by
    intro e news he
    rcases n.cls_or with h | h
    · have q := predV (prog := prog) (w := w) (p := p) (loose := loose) (mean := mean) (mg := mg) (mb := mb) h he
      simp only [mPred, predF, h, if_true]
      exact q
    · have q := predK (prog := prog) (w := w) (p := p) (loose := loose) (mean := mean) (mg := mg) (mb := mb) h he
      have hn : ¬ n.cls = 511 := by rw [h]; decide
      simp only [mPred, predF, hn, if_false]
      exact q
  | .app (.nm n) a, hz => by
    have hz' : 1 + a.sz + 1 ≤ 100 := hz
    intro e news he
    rcases n.cls_or with h | h
    · have q := predA1 (prog := prog) (w := w) (p := p) (loose := loose) (mean := mean) (mg := mg) (mb := mb) he (by omega) (pred_ a (by omega)) h (pred_ (.nm n) (show 1 ≤ 100 by decide))
      have e1 : predF (.app (.nm n) a) = unionF [predF (.nm n), predF a] := by simp only [predF, h, if_true]
      rw [e1]
      exact q
    · have q := predA2 (prog := prog) (w := w) (p := p) (loose := loose) (mean := mean) (mg := mg) (mb := mb) he (by omega) (pred_ a (by omega)) h
      have hn : ¬ n.cls = 511 := by rw [h]; decide
      have e1 : predF (.app (.nm n) a) = unionF [[n], predF a] := by simp only [predF, hn, if_false]
      rw [e1]
      exact q
  | .app (.app f g) a, hz => by
    have hz' : (Tm.app f g).sz + a.sz + 1 ≤ 100 := hz
    intro e news he
    exact predA3 he (by omega) (pred_ a (by omega)) (pred_ (.app f g) (by omega))
end
end
section
theorem offX7 : True := by
  w_top off
  trivial
open PyProof.Rows.LCg PySem PySem.W PySem.Spec PySem.Calls PyProof.Rows
set_option maxRecDepth 100000
section
variable {prog : Program} {w : World} {p : Program} {loose : List Str} {mean : ExcName → Option Value} {mg mb : Str → Option Value}
local macro_rules | `(tactic| walk_at "compareOp Eq ref ref") => `(tactic| (k_here; (refine cmp_ofEq ?_); k_dflt (refine' cmp_K ?k1 ?k2 ?k3 ?k4 ?k5 ?k6 ?k7 ?k8 ?_; (case k1 => k_units); (case k2 => k_asm); (case k3 => k_asm); (case k4 => k_inst); (case k5 => exact InstAt.type (by k_inst)); (case k6 => k_is); (case k7 => k_is); (case k8 => k_is); k_whole)))
local macro_rules | `(tactic| k_is) => `(tactic| first
  | with_reducible exact kfA _ _
  | with_reducible exact kfB _ _
  | with_reducible exact kfC _ _
  | with_reducible exact kfD _ _
  | with_reducible exact kfE _ _
  | with_reducible exact kfF _ _
  | with_reducible exact kfM _ _
  | with_reducible exact kfG _ _
  | with_reducible exact kfH _ _
  | with_reducible exact kfI _ _ _
  | with_reducible exact kfJ _ _
  | with_reducible exact kfK _ _
  )
local macro_rules | `(tactic| k_is) => `(tactic| first
  | with_reducible exact kgFree _ _
  | with_reducible exact kfFree _ _
  | with_reducible exact ksFree _ _
  | with_reducible exact kpFree _ _
  | with_reducible exact kgCons _ _
  | with_reducible exact kfCons _ _
  | with_reducible exact ksCons _ _
  | with_reducible exact kpCons _ _
  | with_reducible exact kgPred _ _
  | with_reducible exact kfPred _ _
  | with_reducible exact ksPred _ _
  | with_reducible exact kpPred _ _
  | with_reducible exact kgRepl _ _
  | with_reducible exact kfRepl _ _
  | with_reducible exact ksRepl _ _
  | with_reducible exact kpRepl _ _
  | with_reducible exact kgSimp _ _
  | with_reducible exact kfSimp _ _
  | with_reducible exact ksSimp _ _
  | with_reducible exact kpSimp _ _
  | with_reducible exact kgSubs _ _
  | with_reducible exact kfSubs _ _
  | with_reducible exact ksSubs _ _
  | with_reducible exact kpSubs _ _
  | with_reducible exact kgVars _ _
  | with_reducible exact kfVars _ _
  | with_reducible exact ksVars _ _
  | with_reducible exact kpVars _ _
  )
local macro_rules | `(tactic| walk_at "getMethod ref") => `(tactic| (k_here; (with_reducible show wpAny _ _ (getMethod (Value.ref _) (PySem.Str.ofString "free") _) _ _ _); k_dflt (refine' exFree ?F ?X ?N ?he ?_; (case F => k_asm); (case X => k_asm); (case N => k_asm); (case he => ktr_rel))))
local macro_rules | `(tactic| walk_at "getMethod ref") => `(tactic| (k_here; (with_reducible show wpAny _ _ (getMethod (Value.ref _) (PySem.Str.ofString "constants") _) _ _ _); k_dflt (refine' exCons ?F ?X ?N ?he ?_; (case F => k_asm); (case X => k_asm); (case N => k_asm); (case he => ktr_rel))))
local macro_rules | `(tactic| walk_at "getMethod ref") => `(tactic| (k_here; (with_reducible show wpAny _ _ (getMethod (Value.ref _) (PySem.Str.ofString "predicates") _) _ _ _); k_dflt (refine' exPred ?F ?X ?N ?he ?_; (case F => k_asm); (case X => k_asm); (case N => k_asm); (case he => ktr_rel))))
local macro_rules | `(tactic| walk_at "getMethod ref") => `(tactic| (k_here; (with_reducible show wpAny _ _ (getMethod (Value.ref _) (PySem.Str.ofString "replace") _) _ _ _); k_dflt (refine' exRepl ?F ?X ?N ?he ?_; (case F => k_asm); (case X => k_asm); (case N => k_asm); (case he => ktr_rel))))
local macro_rules | `(tactic| walk_at "getMethod ref") => `(tactic| (k_here; (with_reducible show wpAny _ _ (getMethod (Value.ref _) (PySem.Str.ofString "simplify") _) _ _ _); k_dflt (refine' exSimp ?F ?X ?N ?he ?_; (case F => k_asm); (case X => k_asm); (case N => k_asm); (case he => ktr_rel))))
local macro_rules | `(tactic| walk_at "getMethod ref") => `(tactic| (k_here; (with_reducible show wpAny _ _ (getMethod (Value.ref _) (PySem.Str.ofString "substitute_bindings") _) _ _ _); k_dflt (refine' exSubs ?F ?X ?N ?he ?_; (case F => k_asm); (case X => k_asm); (case N => k_asm); (case he => ktr_rel))))
local macro_rules | `(tactic| walk_at "getMethod ref") => `(tactic| (k_here; (with_reducible show wpAny _ _ (getMethod (Value.ref _) (PySem.Str.ofString "variables") _) _ _ _); k_dflt (refine' exVars ?F ?X ?N ?he ?_; (case F => k_asm); (case X => k_asm); (case N => k_asm); (case he => ktr_rel))))
local macro_rules | `(tactic| ktr_rel) => `(tactic| first
  | (refine HeldAt.mono (by with_reducible assumption) ?_; ktr_rel)
  | (refine KeptAt.mono (by with_reducible assumption) ?_; ktr_rel)
  | (refine AppAt.mono (by with_reducible assumption) ?_; ktr_rel)
  | (refine ListAt.mono (by with_reducible assumption) ?_; ktr_rel)
  | (refine ListAt.mono (AppAt.list (by with_reducible assumption)) ?_; ktr_rel)
  | (refine' ListAt.but (by with_reducible assumption) ?kk ?hh; (case kk => ktr_rel); (case hh => with_reducible assumption))
  | (refine' AppAt.but (by with_reducible assumption) ?kk ?hh; (case kk => ktr_rel); (case hh => with_reducible assumption)))
local macro_rules | `(tactic| walk_at "subscriptTail") => `(tactic| (k_here; (with_reducible show wpAny _ _ (subscriptTail _ _ (Value.ref _) (Value.int _ _)) _ _ _); k_dflt (refine' la_item ?N ?D ?a ?b ?c ?_; (case N => k_asm); (case D => ktr_rel); (case a => decide); (case b => decide); (case c => rfl))))
local macro_rules | `(tactic| walk_at "setItem ref int") => `(tactic| (k_here; k_dflt (refine' la_set ?F ?N ?D ?a ?b ?c ?_; (case F => k_asm); (case N => k_asm); (case D => ktr_rel); (case a => decide); (case b => decide); (case c => simp); k_whole); intro h9 news9 F9 N9 S9 A9 D9))
local macro_rules | `(tactic| walk_at "call builtin:len") => `(tactic| (k_here; (with_reducible show wpAny _ _ (call (Value.builtin "len") [Value.ref _]) _ _ _); k_dflt (refine' la_len ?N ?D ?z ?_; (case N => k_asm); (case D => ktr_rel); (case z => first | with_reducible assumption | omega))))
local macro_rules | `(tactic| walk_at "call builtin:list.append") => `(tactic| (k_here; (with_reducible show wpAny _ _ (call (Value.builtin "list.append") [Value.ref _, _]) _ _ _); k_dflt (refine' la_append ?F ?N ?D ?z ?_; (case F => k_asm); (case N => k_asm); (case D => ktr_rel); (case z => first | assumption | (rw [sizeLine_eq]; omega)); k_whole); intro h9 news9 F9 N9 S9 A9 D9))
local macro_rules | `(tactic| ktr_rel) => `(tactic| first
  | exact KeepsI.refl
  | (refine KeepsI.cons ?_; ktr_rel)
  | (refine KeepsI.trans ?_ (Sub.i (by with_reducible assumption)); ktr_rel)
  | (refine KeepsI.trans ?_ (by with_reducible assumption); ktr_rel)
  | (refine Keeps.trans ?_ (KeepsI.keeps (by with_reducible assumption)); ktr_rel)
  | (refine KeepsA.trans ?_ (KeepsI.a (by with_reducible assumption)); ktr_rel)
  | (refine TupAt.mono (by with_reducible assumption) ?_; ktr_rel))
local macro_rules | `(tactic| ktr_rel) => `(tactic| first
  | (refine VarsIn.monoA (by with_reducible assumption) ?_; ktr_rel))
local macro_rules | `(tactic| walk_at "call builtin:isinstance") => `(tactic| (k_here; (with_reducible show wpAny _ _ (call (Value.builtin _) [Value.ref _, Value.ref 318]) _ _ _); k_dflt (refine' isiEx ?he ?X ?N ?_; (case N => k_asm); (case he => ktr_rel); (case X => k_in))))
local macro_rules | `(tactic| ktr_rel) => `(tactic| first
  | exact SubT.refl
  | (refine SubT.cons ?_; ktr_rel)
  | (refine SubT.trans ?_ (Sub.t (by with_reducible assumption)); ktr_rel)
  | (refine SubT.trans ?_ (by with_reducible assumption); ktr_rel)
  | (refine SubT.trans ?_ (SubBut.t1 (by with_reducible assumption)); ktr_rel)
  | (refine SubT.trans ?_ (SubBut.t2 (by with_reducible assumption)); ktr_rel)
  | (refine SubT.trans ?_ (SubBut.t3 (by with_reducible assumption)); ktr_rel)
  | (refine CodeAt.monoT (by with_reducible assumption) ?_; ktr_rel)
  | (refine' Tabs.f2 ?t1 ?t2 ?t3 ?t4; (case t1 => with_reducible assumption); (case t2 => with_reducible assumption); (case t3 => with_reducible assumption); (case t4 => ktr_rel))
  | (refine' Tabs.v2 ?t1 ?t2 ?t4; (case t1 => with_reducible assumption); (case t2 => with_reducible assumption); (case t4 => ktr_rel))
  | (refine' Tabs.r2 ?t1 ?t2 ?t4; (case t1 => with_reducible assumption); (case t2 => with_reducible assumption); (case t4 => ktr_rel))
  | (refine Tabs.cons ?_; ktr_rel)
  | (refine Tabs.mono (by with_reducible assumption) ?_; ktr_rel)
  | (refine' Runs.mk ?r1 ?r2 ?r3; (case r1 => ktr_rel); (case r2 => ktr_rel); (case r3 => ktr_rel)))
theorem TestEnd.no {A : Around} {G : Heap → Prop} {L : Addr} {m : Str → Option Value} {elt : PySem.Expr} {env' : Env} {E' : Value → Shared → Prop} {s₁ : Shared} {news : List (Addr × Obj)} {Jy : Value → Prop} {Jn : Prop} {ok : Bool} {s' : Shared} (h : ok = false)
    (q : EltEnd G L m s₁ news (fun _ => Jn) Value.none s') : TestEnd prog w A G L m elt env' E' s₁ news Jy Jn ok s' := by
  subst h; unfold TestEnd; rw [if_neg (fun e => nomatch e)]; exact q
theorem TestEnd.yes {A : Around} {G : Heap → Prop} {L : Addr} {m : Str → Option Value} {elt : PySem.Expr} {env' : Env} {E' : Value → Shared → Prop} {s₁ : Shared} {news : List (Addr × Obj)} {Jy : Value → Prop} {Jn : Prop} {ok : Bool} {s' : Shared} (h : ok = true)
    (q : wpAny (model prog w) A (eval elt env') (EltEnd G L m s₁ news Jy) E' s') : TestEnd prog w A G L m elt env' E' s₁ news Jy Jn ok s' := by
  subst h; unfold TestEnd; rw [if_pos rfl]; exact q
def varF (t : Tm) : List Nm := unionF [freeF t, []]
theorem rel2_mem {α β : Type} {R : α → β → Prop} {l : List α} {k : List β} (h : Rel2 R l k) : ∀ {a : α}, a ∈ l → ∃ b, b ∈ k ∧ R a b := by
  induction h with
  | nil => intro a e; cases e
  | cons r _ ih =>
    intro a e
    rcases List.mem_cons.mp e with rfl | e
    · exact ⟨_, .head _, r⟩
    · obtain ⟨b, h1, h2⟩ := ih e; exact ⟨b, .tail _ h1, h2⟩
section
local macro_rules | `(tactic| walk_at "call ref") => `(tactic| (k_here; (with_reducible show wpAny _ _ (call (Value.ref (mFree _)) _ _) _ _ _); k_dflt (refine' useL (FreeOk.use (by with_reducible assumption) ?s1 ?s2) ?k1 ?k2 ?k3 ?k4 ?k5 ?kC ?kK ?kd ?ku ?_; (case k1 => k_asm); (case k2 => k_asm); (case k3 => k_asm); (case k4 => k_asm); (case k5 => k_asm); (case kC => assumption); (case kK => first | exact rfl | assumption); (case kd => ktr_room); (case ku => ktr_units); (case s1 => ktr_rel); (case s2 => ktr_rel)); (intro r9 news9 h9 tk9 F9 N9 P9; (obtain ⟨⟨T9, K9, B9⟩, v9, us9, e9, A9, V9⟩ := P9; subst e9); (try dsimp only); kts_tail)))
local macro_rules | `(tactic| walk_at "call ref") => `(tactic| (k_here; (with_reducible show wpAny _ _ (call (Value.ref (mCons _)) _ _) _ _ _); k_dflt (refine' use (ConsOk.use (by with_reducible assumption) ?s1) ?k1 ?k2 ?k3 ?k4 ?k5 ?kK ?kd ?ku ?_; (case k1 => k_asm); (case k2 => k_asm); (case k3 => k_asm); (case k4 => k_asm); (case k5 => k_asm); (case kK => first | exact rfl | assumption); (case kd => ktr_room); (case ku => ktr_units); (case s1 => ktr_rel)); (intro r9 news9 h9 tk9 F9 N9 P9; (obtain ⟨S9, v9, us9, e9, A9, V9⟩ := P9; subst e9); (try dsimp only); kts_tail)))
local macro_rules | `(tactic| walk_at "call ref") => `(tactic| (k_here; (with_reducible show wpAny _ _ (call (Value.ref (mPred _)) _ _) _ _ _); k_dflt (refine' use (PredOk.use (by with_reducible assumption) ?s1) ?k1 ?k2 ?k3 ?k4 ?k5 ?kK ?kd ?ku ?_; (case k1 => k_asm); (case k2 => k_asm); (case k3 => k_asm); (case k4 => k_asm); (case k5 => k_asm); (case kK => first | exact rfl | assumption); (case kd => ktr_room); (case ku => ktr_units); (case s1 => ktr_rel)); (intro r9 news9 h9 tk9 F9 N9 P9; (obtain ⟨S9, v9, us9, e9, A9, V9⟩ := P9; subst e9); (try dsimp only); kts_tail)))
local macro_rules | `(tactic| walk_at "eval ListComp") => `(tactic| (k_here; (with_reducible show wpAny _ _ (eval (Expr.ListComp _ [⟨Expr.Name _ _, _, [_], _⟩] _ _) _) _ _ _); k_dflt (refine' evalCompP ?X ?T ?F (by rfl) (by with_unfolding_all rfl) (by decide) (by rfl) (by decide) (by rfl) ?_; (case F => k_asm); (case X => k_asm); (case T => k_asm))))
local macro_rules | `(tactic| walk_at "call ref") => `(tactic| (k_here; (with_reducible show wpAny _ _ (call (Value.ref 57) _ _) _ _ _); refine Stop.go ?_))
set_option maxHeartbeats 8000000 in
theorem variables_ {t : Tm} {e : Addr} {news : List (Addr × Obj)} (he : ExIn news e t) (TB : Tabs news) (hz : t.sz ≤ 40) :
    SpecL prog w p loose mean mg mb 280 [.ref e] (40 + 20 * t.sz) (400 + 200 * t.sz) news (fun r news' => Runs news news' ∧ ∃ l us, r = .ref l ∧ AppAt news' l us ∧ VarsIn news' us (varF t)) := by
  have IHf : FreeOk prog w p loose mean mg mb t := free_ t (by omega)
  have IHc : ConsOk prog w p loose mean mg mb t := cons_ t (by omega)
  have IHp : PredOk prog w p loose mean mg mb t := pred_ t (by omega)
  unfold SpecL
  intro dp un gd cn cs a ccd cl outer A₀ base h₀ L m s Q E B F X N T CD hk hd hu hret
  obtain ⟨cdF, cdV, cdR⟩ := id CD
  refine wpAny_call ?_
  k_dflt ktr_enter
  k_steps
  show Stop _
  unfold Stop
  refine' use (unionS (nss := [predF t, consF t]) ?s1 ?s2 ?s3) ?k1 ?k2 ?k3 ?k4 ?k5 ?kK ?kd ?ku ?_; (case k1 => k_asm); (case k2 => k_asm); (case k3 => k_asm); (case k4 => k_asm); (case k5 => k_asm); (case kK => first | exact rfl | assumption); (case kd => ktr_room); (case ku => ktr_units)
  case s1 => exact ⟨_, by k_mem, rfl, _, rfl⟩
  case s2 => exact .cons ⟨_, _, rfl, (by first | ktr_rel | exact ⟨_, by k_mem, rfl, _, rfl⟩), (by first | ktr_rel | exact Rel2.nil | exact Rel2.cons ⟨_, rfl, by ktr_rel⟩ Rel2.nil)⟩ (.cons ⟨_, _, rfl, (by first | ktr_rel | exact ⟨_, by k_mem, rfl, _, rfl⟩), (by first | ktr_rel | exact Rel2.nil | exact Rel2.cons ⟨_, rfl, by ktr_rel⟩ Rel2.nil)⟩ .nil)
  case s3 => (simp only [List.flatten_cons, List.flatten_nil, List.append_nil, List.length_append, List.length_cons, List.length_nil]; have q1 := predF_len t; have q2 := consF_len t; omega)
  intro r9 news9 h9 tk9 F9 N9 P9
  obtain ⟨S9, v9, us9, e9, L9, A9, V9⟩ := P9
  subst e9
  k_steps
  obtain ⟨nA, hA9⟩ := A9
  refine ⟨_, us9, _, _, _, rfl, rfl, by k_asm, by k_asm, ⟨_, hA9, rfl, _, rfl⟩, ?_, fun i ys => ys = [], rfl, ?_, ?_⟩
  · have q1 := predF_len t
    have q2 := consF_len t
    have q3 := unionF_len [predF t, consF t]
    have q4 := V9.length
    simp only [List.flatten_cons, List.flatten_nil, List.append_nil, List.length_append] at q3
    rw [sizeLine_eq]; omega
  · intro i v ys I oI C oC D m₂ h tk E' hv hJ hC hx F N
    subst hJ
    obtain ⟨n, hn, a1, rfl, hVV⟩ := rel2_mem V9 (List.mem_of_getElem? hv)
    obtain ⟨dv, hh, t1, t2, hq1, hq2⟩ := id hVV
    clear hVV
    cases n <;> (simp only [Nm.str] at hq2; k_steps; exact TestEnd.no (by decide +kernel) (EltEnd.intro rfl (by k_asm) (by k_asm) (show Sub _ _ from by ktr_rel) (by first | exact True.intro | rfl)))
  · intro ys hJ D h tk F N
    subst hJ
    k_steps
    show Stop _
    unfold Stop
    refine' use (unionS (nss := [freeF t, []]) ?s1 ?s2 ?s3) ?k1 ?k2 ?k3 ?k4 ?k5 ?kK ?kd ?ku ?_; (case k1 => k_asm); (case k2 => k_asm); (case k3 => k_asm); (case k4 => k_asm); (case k5 => k_asm); (case kK => first | exact rfl | assumption); (case kd => ktr_room); (case ku => ktr_units)
    case s1 => exact ⟨_, by k_mem, rfl, _, rfl⟩
    case s2 => exact .cons ⟨_, _, rfl, (by first | ktr_rel | exact ⟨_, by k_mem, rfl, _, rfl⟩), (by first | ktr_rel | exact Rel2.nil | exact Rel2.cons ⟨_, rfl, by ktr_rel⟩ Rel2.nil)⟩ (.cons ⟨_, _, rfl, (by first | ktr_rel | exact ⟨_, by k_mem, rfl, _, rfl⟩), (by first | ktr_rel | exact Rel2.nil | exact Rel2.cons ⟨_, rfl, by ktr_rel⟩ Rel2.nil)⟩ .nil)
    case s3 => (simp only [List.flatten_cons, List.flatten_nil, List.append_nil, List.length_append, List.length_cons, List.length_nil]; have q1 := freeF_len t; omega)
    intro r9 news9 h9 tk9 F9 N9 P9
    obtain ⟨S9, v9, us9, e9, L9, A9, V9⟩ := P9
    subst e9
    k_steps
    exact hret _ _ _ _ (by k_asm) (by k_asm) ⟨by ktr_rel, _, _, rfl, A9, V9⟩
end
end
end
section
theorem offX8 : True := by
  w_top off
  trivial
open PyProof.Rows.LCg PySem PySem.W PySem.Spec PySem.Calls PyProof.Rows
set_option maxRecDepth 100000
section
variable {prog : Program} {w : World} {p : Program} {loose : List Str} {mean : ExcName → Option Value} {mg mb : Str → Option Value}
local macro_rules | `(tactic| walk_at "compareOp Eq ref ref") => `(tactic| (k_here; (refine cmp_ofEq ?_); k_dflt (refine' cmp_K ?k1 ?k2 ?k3 ?k4 ?k5 ?k6 ?k7 ?k8 ?_; (case k1 => k_units); (case k2 => k_asm); (case k3 => k_asm); (case k4 => k_inst); (case k5 => exact InstAt.type (by k_inst)); (case k6 => k_is); (case k7 => k_is); (case k8 => k_is); k_whole)))
local macro_rules | `(tactic| k_is) => `(tactic| first
  | with_reducible exact kfA _ _
  | with_reducible exact kfB _ _
  | with_reducible exact kfC _ _
  | with_reducible exact kfD _ _
  | with_reducible exact kfE _ _
  | with_reducible exact kfF _ _
  | with_reducible exact kfM _ _
  | with_reducible exact kfG _ _
  | with_reducible exact kfH _ _
  | with_reducible exact kfI _ _ _
  | with_reducible exact kfJ _ _
  | with_reducible exact kfK _ _
  )
local macro_rules | `(tactic| k_is) => `(tactic| first
  | with_reducible exact kgFree _ _
  | with_reducible exact kfFree _ _
  | with_reducible exact ksFree _ _
  | with_reducible exact kpFree _ _
  | with_reducible exact kgCons _ _
  | with_reducible exact kfCons _ _
  | with_reducible exact ksCons _ _
  | with_reducible exact kpCons _ _
  | with_reducible exact kgPred _ _
  | with_reducible exact kfPred _ _
  | with_reducible exact ksPred _ _
  | with_reducible exact kpPred _ _
  | with_reducible exact kgRepl _ _
  | with_reducible exact kfRepl _ _
  | with_reducible exact ksRepl _ _
  | with_reducible exact kpRepl _ _
  | with_reducible exact kgSimp _ _
  | with_reducible exact kfSimp _ _
  | with_reducible exact ksSimp _ _
  | with_reducible exact kpSimp _ _
  | with_reducible exact kgSubs _ _
  | with_reducible exact kfSubs _ _
  | with_reducible exact ksSubs _ _
  | with_reducible exact kpSubs _ _
  | with_reducible exact kgVars _ _
  | with_reducible exact kfVars _ _
  | with_reducible exact ksVars _ _
  | with_reducible exact kpVars _ _
  )
local macro_rules | `(tactic| walk_at "getMethod ref") => `(tactic| (k_here; (with_reducible show wpAny _ _ (getMethod (Value.ref _) (PySem.Str.ofString "free") _) _ _ _); k_dflt (refine' exFree ?F ?X ?N ?he ?_; (case F => k_asm); (case X => k_asm); (case N => k_asm); (case he => ktr_rel))))
local macro_rules | `(tactic| walk_at "getMethod ref") => `(tactic| (k_here; (with_reducible show wpAny _ _ (getMethod (Value.ref _) (PySem.Str.ofString "constants") _) _ _ _); k_dflt (refine' exCons ?F ?X ?N ?he ?_; (case F => k_asm); (case X => k_asm); (case N => k_asm); (case he => ktr_rel))))
local macro_rules | `(tactic| walk_at "getMethod ref") => `(tactic| (k_here; (with_reducible show wpAny _ _ (getMethod (Value.ref _) (PySem.Str.ofString "predicates") _) _ _ _); k_dflt (refine' exPred ?F ?X ?N ?he ?_; (case F => k_asm); (case X => k_asm); (case N => k_asm); (case he => ktr_rel))))
local macro_rules | `(tactic| walk_at "getMethod ref") => `(tactic| (k_here; (with_reducible show wpAny _ _ (getMethod (Value.ref _) (PySem.Str.ofString "replace") _) _ _ _); k_dflt (refine' exRepl ?F ?X ?N ?he ?_; (case F => k_asm); (case X => k_asm); (case N => k_asm); (case he => ktr_rel))))
local macro_rules | `(tactic| walk_at "getMethod ref") => `(tactic| (k_here; (with_reducible show wpAny _ _ (getMethod (Value.ref _) (PySem.Str.ofString "simplify") _) _ _ _); k_dflt (refine' exSimp ?F ?X ?N ?he ?_; (case F => k_asm); (case X => k_asm); (case N => k_asm); (case he => ktr_rel))))
local macro_rules | `(tactic| walk_at "getMethod ref") => `(tactic| (k_here; (with_reducible show wpAny _ _ (getMethod (Value.ref _) (PySem.Str.ofString "substitute_bindings") _) _ _ _); k_dflt (refine' exSubs ?F ?X ?N ?he ?_; (case F => k_asm); (case X => k_asm); (case N => k_asm); (case he => ktr_rel))))
local macro_rules | `(tactic| walk_at "getMethod ref") => `(tactic| (k_here; (with_reducible show wpAny _ _ (getMethod (Value.ref _) (PySem.Str.ofString "variables") _) _ _ _); k_dflt (refine' exVars ?F ?X ?N ?he ?_; (case F => k_asm); (case X => k_asm); (case N => k_asm); (case he => ktr_rel))))
local macro_rules | `(tactic| ktr_rel) => `(tactic| first
  | (refine HeldAt.mono (by with_reducible assumption) ?_; ktr_rel)
  | (refine KeptAt.mono (by with_reducible assumption) ?_; ktr_rel)
  | (refine AppAt.mono (by with_reducible assumption) ?_; ktr_rel)
  | (refine ListAt.mono (by with_reducible assumption) ?_; ktr_rel)
  | (refine ListAt.mono (AppAt.list (by with_reducible assumption)) ?_; ktr_rel)
  | (refine' ListAt.but (by with_reducible assumption) ?kk ?hh; (case kk => ktr_rel); (case hh => with_reducible assumption))
  | (refine' AppAt.but (by with_reducible assumption) ?kk ?hh; (case kk => ktr_rel); (case hh => with_reducible assumption)))
local macro_rules | `(tactic| walk_at "subscriptTail") => `(tactic| (k_here; (with_reducible show wpAny _ _ (subscriptTail _ _ (Value.ref _) (Value.int _ _)) _ _ _); k_dflt (refine' la_item ?N ?D ?a ?b ?c ?_; (case N => k_asm); (case D => ktr_rel); (case a => decide); (case b => decide); (case c => rfl))))
local macro_rules | `(tactic| walk_at "setItem ref int") => `(tactic| (k_here; k_dflt (refine' la_set ?F ?N ?D ?a ?b ?c ?_; (case F => k_asm); (case N => k_asm); (case D => ktr_rel); (case a => decide); (case b => decide); (case c => simp); k_whole); intro h9 news9 F9 N9 S9 A9 D9))
local macro_rules | `(tactic| walk_at "call builtin:len") => `(tactic| (k_here; (with_reducible show wpAny _ _ (call (Value.builtin "len") [Value.ref _]) _ _ _); k_dflt (refine' la_len ?N ?D ?z ?_; (case N => k_asm); (case D => ktr_rel); (case z => first | with_reducible assumption | omega))))
local macro_rules | `(tactic| walk_at "call builtin:list.append") => `(tactic| (k_here; (with_reducible show wpAny _ _ (call (Value.builtin "list.append") [Value.ref _, _]) _ _ _); k_dflt (refine' la_append ?F ?N ?D ?z ?_; (case F => k_asm); (case N => k_asm); (case D => ktr_rel); (case z => first | assumption | (rw [sizeLine_eq]; omega)); k_whole); intro h9 news9 F9 N9 S9 A9 D9))
local macro_rules | `(tactic| ktr_rel) => `(tactic| first
  | exact KeepsI.refl
  | (refine KeepsI.cons ?_; ktr_rel)
  | (refine KeepsI.trans ?_ (Sub.i (by with_reducible assumption)); ktr_rel)
  | (refine KeepsI.trans ?_ (by with_reducible assumption); ktr_rel)
  | (refine Keeps.trans ?_ (KeepsI.keeps (by with_reducible assumption)); ktr_rel)
  | (refine KeepsA.trans ?_ (KeepsI.a (by with_reducible assumption)); ktr_rel)
  | (refine TupAt.mono (by with_reducible assumption) ?_; ktr_rel))
local macro_rules | `(tactic| ktr_rel) => `(tactic| first
  | (refine VarsIn.monoA (by with_reducible assumption) ?_; ktr_rel))
local macro_rules | `(tactic| walk_at "call builtin:isinstance") => `(tactic| (k_here; (with_reducible show wpAny _ _ (call (Value.builtin _) [Value.ref _, Value.ref 318]) _ _ _); k_dflt (refine' isiEx ?he ?X ?N ?_; (case N => k_asm); (case he => ktr_rel); (case X => k_in))))
local macro_rules | `(tactic| ktr_rel) => `(tactic| first
  | exact SubT.refl
  | (refine SubT.cons ?_; ktr_rel)
  | (refine SubT.trans ?_ (Sub.t (by with_reducible assumption)); ktr_rel)
  | (refine SubT.trans ?_ (by with_reducible assumption); ktr_rel)
  | (refine SubT.trans ?_ (SubBut.t1 (by with_reducible assumption)); ktr_rel)
  | (refine SubT.trans ?_ (SubBut.t2 (by with_reducible assumption)); ktr_rel)
  | (refine SubT.trans ?_ (SubBut.t3 (by with_reducible assumption)); ktr_rel)
  | (refine CodeAt.monoT (by with_reducible assumption) ?_; ktr_rel)
  | (refine' Tabs.f2 ?t1 ?t2 ?t3 ?t4; (case t1 => with_reducible assumption); (case t2 => with_reducible assumption); (case t3 => with_reducible assumption); (case t4 => ktr_rel))
  | (refine' Tabs.v2 ?t1 ?t2 ?t4; (case t1 => with_reducible assumption); (case t2 => with_reducible assumption); (case t4 => ktr_rel))
  | (refine' Tabs.r2 ?t1 ?t2 ?t4; (case t1 => with_reducible assumption); (case t2 => with_reducible assumption); (case t4 => ktr_rel))
  | (refine Tabs.cons ?_; ktr_rel)
  | (refine Tabs.mono (by with_reducible assumption) ?_; ktr_rel)
  | (refine' Runs.mk ?r1 ?r2 ?r3; (case r1 => ktr_rel); (case r2 => ktr_rel); (case r3 => ktr_rel)))
theorem isn675 {A : Around} {E Q : Value → Shared → Prop} {s : Shared} {h₀ : Heap} {L e : Addr} {t : Tm} {news : List (Addr × Obj)} (he : ExIn news e t) (X : (hd.heap_39 w.params).In s.heap) (N : News h₀ L s.heap news) (h : Q (.bool false) { s with toks := s.toks + 1 }) :
    wpAny (model prog w) A (call (.builtin "isinstance") [.ref e, .ref 675]) Q E s := by
  cases he with
  | @nm _ _ _ _ _ n h1 h2 hv =>
    rcases n.cls_or with hn | hn
    · rw [hn] at h1
      exact kin_callC X (InstAt.of_news N h1 h2) (by kin_no) (by k_is) (by k_is) (by k_is) (by k_is) (by k_is) (by k_is) h
    · rw [hn] at h1
      exact kin_callC X (InstAt.of_news N h1 h2) (by kin_no) (by k_is) (by k_is) (by k_is) (by k_is) (by k_is) (by k_is) h
  | app h1 h2 hf ha => exact kin_callC X (InstAt.of_news N h1 h2) (by kin_no) (by k_is) (by k_is) (by k_is) (by k_is) (by k_is) (by k_is) h
theorem isn126 {A : Around} {E Q : Value → Shared → Prop} {s : Shared} {h₀ : Heap} {L e : Addr} {t : Tm} {news : List (Addr × Obj)} (he : ExIn news e t) (X : (hd.heap_39 w.params).In s.heap) (N : News h₀ L s.heap news) (h : Q (.bool false) { s with toks := s.toks + 1 }) :
    wpAny (model prog w) A (call (.builtin "isinstance") [.ref e, .ref 126]) Q E s := by
  cases he with
  | @nm _ _ _ _ _ n h1 h2 hv =>
    rcases n.cls_or with hn | hn
    · rw [hn] at h1
      exact kin_callC X (InstAt.of_news N h1 h2) (by kin_no) (by k_is) (by k_is) (by k_is) (by k_is) (by k_is) (by k_is) h
    · rw [hn] at h1
      exact kin_callC X (InstAt.of_news N h1 h2) (by kin_no) (by k_is) (by k_is) (by k_is) (by k_is) (by k_is) (by k_is) h
  | app h1 h2 hf ha => exact kin_callC X (InstAt.of_news N h1 h2) (by kin_no) (by k_is) (by k_is) (by k_is) (by k_is) (by k_is) (by k_is) h
section
variable (prog : Program) (w : World) (p : Program) (loose : List Str) (mean : ExcName → Option Value) (mg mb : Str → Option Value)
def SimpOk (t : Tm) : Prop := ∀ (e : Addr) (news : List (Addr × Obj)), ExIn news e t → Spec prog w p loose mean mg mb (mSimp t) [.ref e] (20 * t.sz) (200 * t.sz) news (fun r news' => Sub news news' ∧ ∃ e', r = .ref e' ∧ ExIn news' e' t)
end
theorem SimpOk.use {t : Tm} {e : Addr} {news : List (Addr × Obj)} (h : SimpOk prog w p loose mean mg mb t) (he : ExIn news e t) : Spec prog w p loose mean mg mb (mSimp t) [.ref e] (20 * t.sz) (200 * t.sz) news (fun r news' => Sub news news' ∧ ∃ e', r = .ref e' ∧ ExIn news' e' t) := h e news he
section
local macro_rules | `(tactic| walk_at "call builtin:isinstance") => `(tactic| (k_here; (with_reducible show wpAny _ _ (call (Value.builtin _) [Value.ref _, Value.ref 675]) _ _ _); k_dflt (refine' isn675 ?he ?X ?N ?_; (case N => k_asm); (case he => ktr_rel); (case X => k_in))))
local macro_rules | `(tactic| walk_at "call ref") => `(tactic| (k_here; (with_reducible show wpAny _ _ (call (Value.ref 423) _ _) _ _ _); k_dflt (refine' use (mkApp ?s1 ?s2) ?k1 ?k2 ?k3 ?k4 ?k5 ?kK ?kd ?ku ?_; (case k1 => k_asm); (case k2 => k_asm); (case k3 => k_asm); (case k4 => k_asm); (case k5 => k_asm); (case kK => first | exact rfl | assumption); (case kd => ktr_room); (case ku => ktr_units); (case s1 => ktr_rel); (case s2 => ktr_rel)); (intro r9 news9 h9 tk9 F9 N9 P9; (obtain ⟨S9, v9, e9, H9⟩ := P9; subst e9); (try dsimp only); kts_tail)))
local macro_rules | `(tactic| walk_at "call ref") => `(tactic| (k_here; (with_reducible show wpAny _ _ (call (Value.ref (mSimp _)) _ _) _ _ _); k_dflt (refine' use (SimpOk.use (by with_reducible assumption) ?s1) ?k1 ?k2 ?k3 ?k4 ?k5 ?kK ?kd ?ku ?_; (case k1 => k_asm); (case k2 => k_asm); (case k3 => k_asm); (case k4 => k_asm); (case k5 => k_asm); (case kK => first | exact rfl | assumption); (case kd => ktr_room); (case ku => ktr_units); (case s1 => ktr_rel)); (intro r9 news9 h9 tk9 F9 N9 P9; (obtain ⟨S9, v9, e9, H9⟩ := P9; subst e9); (try dsimp only); kts_tail)))
set_option maxHeartbeats 4000000 in
theorem simp511 {n : Nm} {e : Addr} {news : List (Addr × Obj)} (hn : n.cls = 511) (he : ExIn news e (.nm n)) :
    Spec prog w p loose mean mg mb 446 [.ref e] 20 200 news (fun r news' => Sub news news' ∧ ∃ e', r = .ref e' ∧ ExIn news' e' (.nm n)) := by
  have he0 := he
  cases he with
  | nm h1 h2 hv =>
  rw [hn] at h1
  obtain ⟨dv1, ha1, ta1, tb1, hv1, hw1⟩ := id hv
  unfold Spec
  intro dp un gd cn cs a ccd cl outer A₀ base h₀ L m s Q E B F X N T hk hd hu hret
  refine wpAny_call ?_
  k_dflt ktr_enter
  k_steps
  exact hret _ _ _ _ (by k_asm) (by k_asm) ⟨by ktr_rel, _, rfl, by ktr_rel⟩
set_option maxHeartbeats 4000000 in
theorem simp575 {n : Nm} {e : Addr} {news : List (Addr × Obj)} (hn : n.cls = 575) (he : ExIn news e (.nm n)) :
    Spec prog w p loose mean mg mb 446 [.ref e] 20 200 news (fun r news' => Sub news news' ∧ ∃ e', r = .ref e' ∧ ExIn news' e' (.nm n)) := by
  have he0 := he
  cases he with
  | nm h1 h2 hv =>
  rw [hn] at h1
  obtain ⟨dv1, ha1, ta1, tb1, hv1, hw1⟩ := id hv
  unfold Spec
  intro dp un gd cn cs a ccd cl outer A₀ base h₀ L m s Q E B F X N T hk hd hu hret
  refine wpAny_call ?_
  k_dflt ktr_enter
  k_steps
  exact hret _ _ _ _ (by k_asm) (by k_asm) ⟨by ktr_rel, _, rfl, by ktr_rel⟩
set_option maxHeartbeats 8000000 in
theorem simpA {f a : Tm} {e : Addr} {news : List (Addr × Obj)} (he : ExIn news e (.app f a)) (hz : f.sz + a.sz ≤ 100) (IHf : SimpOk prog w p loose mean mg mb f) (IHa : SimpOk prog w p loose mean mg mb a) :
    Spec prog w p loose mean mg mb 348 [.ref e] (20 * (f.sz + a.sz + 1)) (200 * (f.sz + a.sz + 1)) news (fun r news' => Sub news news' ∧ ∃ e', r = .ref e' ∧ ExIn news' e' (.app f a)) := by
  have zf := f.sz_pos
  have za := a.sz_pos
  cases he with
  | app h1 h2 hf ha =>
  unfold Spec
  intro dp un gd cn cs aa ccd cl outer A₀ base h₀ L m s Q E B F X N T hk hd hu hret
  refine wpAny_call ?_
  k_dflt ktr_enter
  k_steps
  exact hret _ _ _ _ (by k_asm) (by k_asm) ⟨by ktr_rel, _, rfl, by ktr_rel⟩
end
theorem simp_ : ∀ t : Tm, t.sz ≤ 100 → SimpOk prog w p loose mean mg mb t
  | .nm n, _ => by
    intro e news he
    rcases n.cls_or with h | h
    · exact simp511 h he
    · exact simp575 h he
  | .app f a, hz => by
    have hz' : f.sz + a.sz + 1 ≤ 100 := hz
    intro e news he
    exact simpA he (by omega) (simp_ f (by omega)) (simp_ a (by omega))
end
end
section
theorem offX9 : True := by
  w_top off
  trivial
open PyProof.Rows.LCg PySem PySem.W PySem.Spec PySem.Calls PyProof.Rows
set_option maxRecDepth 100000
section
variable {prog : Program} {w : World} {p : Program} {loose : List Str} {mean : ExcName → Option Value} {mg mb : Str → Option Value}
local macro_rules | `(tactic| k_is) => `(tactic| first
  | with_reducible exact kfA _ _
  | with_reducible exact kfB _ _
  | with_reducible exact kfC _ _
  | with_reducible exact kfD _ _
  | with_reducible exact kfE _ _
  | with_reducible exact kfF _ _
  | with_reducible exact kfM _ _
  | with_reducible exact kfG _ _
  | with_reducible exact kfH _ _
  | with_reducible exact kfI _ _ _
  | with_reducible exact kfJ _ _
  | with_reducible exact kfK _ _
  )
local macro_rules | `(tactic| k_is) => `(tactic| first
  | with_reducible exact kgFree _ _
  | with_reducible exact kfFree _ _
  | with_reducible exact ksFree _ _
  | with_reducible exact kpFree _ _
  | with_reducible exact kgCons _ _
  | with_reducible exact kfCons _ _
  | with_reducible exact ksCons _ _
  | with_reducible exact kpCons _ _
  | with_reducible exact kgPred _ _
  | with_reducible exact kfPred _ _
  | with_reducible exact ksPred _ _
  | with_reducible exact kpPred _ _
  | with_reducible exact kgRepl _ _
  | with_reducible exact kfRepl _ _
  | with_reducible exact ksRepl _ _
  | with_reducible exact kpRepl _ _
  | with_reducible exact kgSimp _ _
  | with_reducible exact kfSimp _ _
  | with_reducible exact ksSimp _ _
  | with_reducible exact kpSimp _ _
  | with_reducible exact kgSubs _ _
  | with_reducible exact kfSubs _ _
  | with_reducible exact ksSubs _ _
  | with_reducible exact kpSubs _ _
  | with_reducible exact kgVars _ _
  | with_reducible exact kfVars _ _
  | with_reducible exact ksVars _ _
  | with_reducible exact kpVars _ _
  )
local macro_rules | `(tactic| walk_at "getMethod ref") => `(tactic| (k_here; (with_reducible show wpAny _ _ (getMethod (Value.ref _) (PySem.Str.ofString "free") _) _ _ _); k_dflt (refine' exFree ?F ?X ?N ?he ?_; (case F => k_asm); (case X => k_asm); (case N => k_asm); (case he => ktr_rel))))
local macro_rules | `(tactic| walk_at "getMethod ref") => `(tactic| (k_here; (with_reducible show wpAny _ _ (getMethod (Value.ref _) (PySem.Str.ofString "constants") _) _ _ _); k_dflt (refine' exCons ?F ?X ?N ?he ?_; (case F => k_asm); (case X => k_asm); (case N => k_asm); (case he => ktr_rel))))
local macro_rules | `(tactic| walk_at "getMethod ref") => `(tactic| (k_here; (with_reducible show wpAny _ _ (getMethod (Value.ref _) (PySem.Str.ofString "predicates") _) _ _ _); k_dflt (refine' exPred ?F ?X ?N ?he ?_; (case F => k_asm); (case X => k_asm); (case N => k_asm); (case he => ktr_rel))))
local macro_rules | `(tactic| walk_at "getMethod ref") => `(tactic| (k_here; (with_reducible show wpAny _ _ (getMethod (Value.ref _) (PySem.Str.ofString "replace") _) _ _ _); k_dflt (refine' exRepl ?F ?X ?N ?he ?_; (case F => k_asm); (case X => k_asm); (case N => k_asm); (case he => ktr_rel))))
local macro_rules | `(tactic| walk_at "getMethod ref") => `(tactic| (k_here; (with_reducible show wpAny _ _ (getMethod (Value.ref _) (PySem.Str.ofString "simplify") _) _ _ _); k_dflt (refine' exSimp ?F ?X ?N ?he ?_; (case F => k_asm); (case X => k_asm); (case N => k_asm); (case he => ktr_rel))))
local macro_rules | `(tactic| walk_at "getMethod ref") => `(tactic| (k_here; (with_reducible show wpAny _ _ (getMethod (Value.ref _) (PySem.Str.ofString "substitute_bindings") _) _ _ _); k_dflt (refine' exSubs ?F ?X ?N ?he ?_; (case F => k_asm); (case X => k_asm); (case N => k_asm); (case he => ktr_rel))))
local macro_rules | `(tactic| walk_at "getMethod ref") => `(tactic| (k_here; (with_reducible show wpAny _ _ (getMethod (Value.ref _) (PySem.Str.ofString "variables") _) _ _ _); k_dflt (refine' exVars ?F ?X ?N ?he ?_; (case F => k_asm); (case X => k_asm); (case N => k_asm); (case he => ktr_rel))))
local macro_rules | `(tactic| ktr_rel) => `(tactic| first
  | (refine HeldAt.mono (by with_reducible assumption) ?_; ktr_rel)
  | (refine KeptAt.mono (by with_reducible assumption) ?_; ktr_rel)
  | (refine AppAt.mono (by with_reducible assumption) ?_; ktr_rel)
  | (refine ListAt.mono (by with_reducible assumption) ?_; ktr_rel)
  | (refine ListAt.mono (AppAt.list (by with_reducible assumption)) ?_; ktr_rel)
  | (refine' ListAt.but (by with_reducible assumption) ?kk ?hh; (case kk => ktr_rel); (case hh => with_reducible assumption))
  | (refine' AppAt.but (by with_reducible assumption) ?kk ?hh; (case kk => ktr_rel); (case hh => with_reducible assumption)))
local macro_rules | `(tactic| walk_at "subscriptTail") => `(tactic| (k_here; (with_reducible show wpAny _ _ (subscriptTail _ _ (Value.ref _) (Value.int _ _)) _ _ _); k_dflt (refine' la_item ?N ?D ?a ?b ?c ?_; (case N => k_asm); (case D => ktr_rel); (case a => decide); (case b => decide); (case c => rfl))))
local macro_rules | `(tactic| walk_at "subscriptTail Name Constant ref int") => `(tactic| (k_here; (with_reducible show wpAny _ _ (subscriptTail _ _ (Value.ref _) (Value.int _ _)) _ _ _); (with_unfolding_all refine' item_litK ?k1 ?k2 ?k3 ?k4 ?_ ?k6; (case k1 => is_list); (case k2 => decide); (case k3 => decide); (case k4 => rfl); (case k6 => with_unfolding_all rfl); k_whole)))
local macro_rules | `(tactic| walk_at "setItem ref int") => `(tactic| (k_here; k_dflt (refine' la_set ?F ?N ?D ?a ?b ?c ?_; (case F => k_asm); (case N => k_asm); (case D => ktr_rel); (case a => decide); (case b => decide); (case c => simp); k_whole); intro h9 news9 F9 N9 S9 A9 D9))
local macro_rules | `(tactic| walk_at "call builtin:len") => `(tactic| (k_here; (with_reducible show wpAny _ _ (call (Value.builtin "len") [Value.ref _]) _ _ _); k_dflt (refine' la_len ?N ?D ?z ?_; (case N => k_asm); (case D => ktr_rel); (case z => first | with_reducible assumption | omega))))
local macro_rules | `(tactic| walk_at "call builtin:list.append") => `(tactic| (k_here; (with_reducible show wpAny _ _ (call (Value.builtin "list.append") [Value.ref _, _]) _ _ _); k_dflt (refine' la_append ?F ?N ?D ?z ?_; (case F => k_asm); (case N => k_asm); (case D => ktr_rel); (case z => first | assumption | (rw [sizeLine_eq]; omega)); k_whole); intro h9 news9 F9 N9 S9 A9 D9))
local macro_rules | `(tactic| ktr_rel) => `(tactic| first
  | exact KeepsI.refl
  | (refine KeepsI.cons ?_; ktr_rel)
  | (refine KeepsI.trans ?_ (Sub.i (by with_reducible assumption)); ktr_rel)
  | (refine KeepsI.trans ?_ (by with_reducible assumption); ktr_rel)
  | (refine Keeps.trans ?_ (KeepsI.keeps (by with_reducible assumption)); ktr_rel)
  | (refine KeepsA.trans ?_ (KeepsI.a (by with_reducible assumption)); ktr_rel)
  | (refine TupAt.mono (by with_reducible assumption) ?_; ktr_rel))
local macro_rules | `(tactic| ktr_rel) => `(tactic| first
  | (refine VarsIn.monoA (by with_reducible assumption) ?_; ktr_rel))
local macro_rules | `(tactic| walk_at "call builtin:isinstance") => `(tactic| (k_here; (with_reducible show wpAny _ _ (call (Value.builtin _) [Value.ref _, Value.ref 318]) _ _ _); k_dflt (refine' isiEx ?he ?X ?N ?_; (case N => k_asm); (case he => ktr_rel); (case X => k_in))))
local macro_rules | `(tactic| ktr_rel) => `(tactic| first
  | exact SubT.refl
  | (refine SubT.cons ?_; ktr_rel)
  | (refine SubT.trans ?_ (Sub.t (by with_reducible assumption)); ktr_rel)
  | (refine SubT.trans ?_ (by with_reducible assumption); ktr_rel)
  | (refine SubT.trans ?_ (SubBut.t1 (by with_reducible assumption)); ktr_rel)
  | (refine SubT.trans ?_ (SubBut.t2 (by with_reducible assumption)); ktr_rel)
  | (refine SubT.trans ?_ (SubBut.t3 (by with_reducible assumption)); ktr_rel)
  | (refine CodeAt.monoT (by with_reducible assumption) ?_; ktr_rel)
  | (refine' Tabs.f2 ?t1 ?t2 ?t3 ?t4; (case t1 => with_reducible assumption); (case t2 => with_reducible assumption); (case t3 => with_reducible assumption); (case t4 => ktr_rel))
  | (refine' Tabs.v2 ?t1 ?t2 ?t4; (case t1 => with_reducible assumption); (case t2 => with_reducible assumption); (case t4 => ktr_rel))
  | (refine' Tabs.r2 ?t1 ?t2 ?t4; (case t1 => with_reducible assumption); (case t2 => with_reducible assumption); (case t4 => ktr_rel))
  | (refine Tabs.cons ?_; ktr_rel)
  | (refine Tabs.mono (by with_reducible assumption) ?_; ktr_rel)
  | (refine' Runs.mk ?r1 ?r2 ?r3; (case r1 => ktr_rel); (case r2 => ktr_rel); (case r3 => ktr_rel)))
/-- a cell that holds v -/
def CellAt (news : List (Addr × Obj)) (c : Addr) (v : Value) : Prop := ∃ o, (c, o) ∈ news ∧ o.data = .cell (some v)
theorem CellAt.of {g h : Heap} {L c : Addr} {l : List (Addr × Obj)} {o : Obj} {v : Value} (_N : News g L h l) (hm : (c, o) ∈ l) (e : o.data = .cell (some v)) : CellAt l c v := ⟨o, hm, e⟩
theorem CellAt.mono {l l' : List (Addr × Obj)} {c : Addr} {v : Value} (h : CellAt l c v) (k : Keeps l l') : CellAt l' c v := by
  obtain ⟨o, h1, h2⟩ := h
  refine ⟨o, k _ h1 ?_, h2⟩
  unfold notTab
  dsimp only
  rw [h2]
  cases o.cls <;> rfl
section
variable {M : Model} {A : Around} {E : Value → Shared → Prop} {s : Shared} {h₀ : Heap} {L a c : Addr} {cn : Str} {cs : Scope} {ccd : Value} {cl : List (Str × Addr)} {x : Str} {v : Value} {Q : Value → Shared → Prop} {news : List (Addr × Obj)} {pos : Pos}
theorem nameCC (N : News h₀ L s.heap news) (hc : cl.lookup x = some c) (hm : CellAt news c v) (h : Q v s)
    (hk : cs.kind = .function := by rfl) (hx : (envX cn cs L a ccd cl).kindOf x = some .cell := by rfl) (hb : (x == ("__debug__" : Str)) = false := by decide) :
    wpAny M A (eval (.Name x pos) (envX cn cs L a ccd cl)) Q E s := let ⟨_, h1, h2⟩ := hm; nameX_C N hc h1 h2 h hk hx hb
theorem nameCF (N : News h₀ L s.heap news) (hc : cl.lookup x = some c) (hm : CellAt news c v) (h : Q v s)
    (hk : cs.kind = .function := by rfl) (hx : (envX cn cs L a ccd cl).kindOf x = some .free := by rfl) (hb : (x == ("__debug__" : Str)) = false := by decide) (hn : (x == ("__classdict__" : Str)) = false := by decide) :
    wpAny M A (eval (.Name x pos) (envX cn cs L a ccd cl)) Q E s := let ⟨_, h1, h2⟩ := hm; nameX_F N hc h1 h2 h hk hx hb hn
end
theorem cmVarT {n k : Nm} {v v2 : Addr} {news : List (Addr × Obj)} (hv : VarIn news v n) (hv' : VarIn news v2 k) (hc : n = k) :
    SpecT prog w p loose mean mg mb (compareOp CmpOp.Eq (.ref v) (.ref v2)) 10 100 news (fun r news' => news' = news ∧ r = .bool true) := by
  have h := cmVar (prog := prog) (w := w) (p := p) (loose := loose) (mean := mean) (mg := mg) (mb := mb) hv hv'
  rw [show decide (n = k) = true from by simp [hc]] at h
  exact h
theorem cmVarF {n k : Nm} {v v2 : Addr} {news : List (Addr × Obj)} (hv : VarIn news v n) (hv' : VarIn news v2 k) (hc : n ≠ k) :
    SpecT prog w p loose mean mg mb (compareOp CmpOp.Eq (.ref v) (.ref v2)) 10 100 news (fun r news' => news' = news ∧ r = .bool false) := by
  have h := cmVar (prog := prog) (w := w) (p := p) (loose := loose) (mean := mean) (mg := mg) (mb := mb) hv hv'
  rw [show decide (n = k) = false from by simp [hc]] at h
  exact h
def replF (n : Nm) (τ : Tm) : Tm → Tm
  | .nm k => if k = n then τ else .nm k
  | .app f a => .app (replF n τ f) (replF n τ a)
/-- the two ways the program calls replace -/
def RArgs (e v x : Addr) (vs : List Value) (kw : List (Str × Value)) : Prop :=
  (vs = [.ref e, .ref v, .ref x, .bool false, .bool true] ∧ kw = []) ∨ (vs = [.ref e, .ref v, .ref x] ∧ kw = [(Str.ofString "alpha_convert", .bool true)])
abbrev rBinds (e v x : Addr) : List (Str × Value) := [(Str.ofString "self", .ref e), (Str.ofString "variable", .ref v), (Str.ofString "expression", .ref x), (Str.ofString "replace_bound", .bool false), (Str.ofString "alpha_convert", .bool true)]
section
variable (prog : Program) (w : World) (p : Program) (loose : List Str) (mean : ExcName → Option Value) (mg mb : Str → Option Value)
/-- SpecL, with keyword arguments -/
def SpecLK (f : Addr) (vs : List Value) (kw : List (Str × Value)) (d u : Nat) (news : List (Addr × Obj)) (post : Value → List (Addr × Obj) → Prop) : Prop :=
  ∀ (dp un : Nat) (gd : Option (List Code)) (cn : Str) (cs : Scope) (a : Addr) (ccd : Value) (cl : List (Str × Addr)) (outer : List Env) (A₀ : Around) (base h₀ : Heap) (L : Addr) (m : Str → Option Value) (s : Shared)
    (Q E : Value → Shared → Prop),
    Below A₀ base outer h₀ → Fr h₀ L s.heap m → (hd.heap_39 w.params).In h₀ → News h₀ L s.heap news → Top p loose mean mg mb h₀ → Cd base → cs.kind = .function → dp + d < recursionLimit → un + u < cLine →
    (∀ r news' h' tk', Fr h₀ L h' m → News h₀ L h' news' → post r news' → Q r { s with heap := h', toks := tk' }) →
    wpAny (model prog w) (ktrTop dp un gd cn cs L a ccd cl outer) (call (.ref f) vs kw) Q E s
def ReplOk (n : Nm) (τ t : Tm) : Prop := ∀ (e v x : Addr) (news : List (Addr × Obj)), ExIn news e t → VarIn news v n → ExIn news x τ → Tabs news → ∀ (vs : List Value) (kw : List (Str × Value)), RArgs e v x vs kw →
  SpecLK prog w p loose mean mg mb (mRepl t) vs kw (20 * t.sz) (200 * t.sz) news (fun r news' => Runs news news' ∧ ∃ e', r = .ref e' ∧ ExIn news' e' (replF n τ t))
end
theorem ReplOk.use {n : Nm} {τ t : Tm} {e v x : Addr} {news : List (Addr × Obj)} (h : ReplOk prog w p loose mean mg mb n τ t) (he : ExIn news e t) (hv : VarIn news v n) (hx : ExIn news x τ) (hT : Tabs news) :
  SpecL prog w p loose mean mg mb (mRepl t) [.ref e, .ref v, .ref x, .bool false, .bool true] (20 * t.sz) (200 * t.sz) news (fun r news' => Runs news news' ∧ ∃ e', r = .ref e' ∧ ExIn news' e' (replF n τ t)) := h e v x news he hv hx hT _ _ (.inl ⟨rfl, rfl⟩)
theorem ReplOk.useK {n : Nm} {τ t : Tm} {e v x : Addr} {news : List (Addr × Obj)} {dp un : Nat} {gd : Option (List Code)} {cn : Str} {cs : Scope} {a : Addr} {ccd : Value} {cl : List (Str × Addr)} {outer : List Env} {A₀ : Around} {base h₀ : Heap} {L : Addr} {m : Str → Option Value} {s : Shared} {Q E : Value → Shared → Prop}
    (h : ReplOk prog w p loose mean mg mb n τ t) (he : ExIn news e t) (hv : VarIn news v n) (hx : ExIn news x τ) (hT : Tabs news)
    (B : Below A₀ base outer h₀) (F : Fr h₀ L s.heap m) (X : (hd.heap_39 w.params).In h₀) (N : News h₀ L s.heap news) (T : Top p loose mean mg mb h₀) (C : Cd base) (hk : cs.kind = .function) (hd : dp + 20 * t.sz < recursionLimit) (hu : un + 200 * t.sz < cLine)
    (ret : ∀ r news' h' tk', Fr h₀ L h' m → News h₀ L h' news' → (Runs news news' ∧ ∃ e', r = .ref e' ∧ ExIn news' e' (replF n τ t)) → Q r { s with heap := h', toks := tk' }) :
    wpAny (model prog w) (ktrTop dp un gd cn cs L a ccd cl outer) (call (.ref (mRepl t)) [.ref e, .ref v, .ref x] [(Str.ofString "alpha_convert", .bool true)]) Q E s :=
  h e v x news he hv hx hT _ _ (.inr ⟨rfl, rfl⟩) _ _ _ _ _ _ _ _ _ _ _ _ _ _ _ _ _ B F X N T C hk hd hu ret
section
local macro_rules | `(tactic| walk_at "compareOp Eq ref") => `(tactic| (k_here; (with_reducible show wpAny _ _ (compareOp CmpOp.Eq (Value.ref _) (Value.ref _)) _ _ _); k_dflt (refine' useT (cmVarT ?s1 ?s2 ?s3) ?k1 ?k2 ?k3 ?k4 ?k5 ?kK ?kd ?ku ?_; (case k1 => k_asm); (case k2 => k_asm); (case k3 => k_asm); (case k4 => k_asm); (case k5 => k_asm); (case kK => first | exact rfl | assumption); (case kd => ktr_room); (case ku => ktr_units); (case s1 => ktr_rel); (case s2 => ktr_rel); (case s3 => with_reducible assumption)); (intro r9 news9 h9 tk9 F9 N9 P9; (obtain ⟨S9, e9⟩ := P9; subst S9; subst e9); (try dsimp only); kts_tail)))
local macro_rules | `(tactic| walk_at "compareOp Eq ref ref") => `(tactic| (k_here; (with_reducible show wpAny _ _ (compareOp CmpOp.Eq (Value.ref _) (Value.ref _)) _ _ _); k_dflt (refine' useT (cmVarT ?s1 ?s2 ?s3) ?k1 ?k2 ?k3 ?k4 ?k5 ?kK ?kd ?ku ?_; (case k1 => k_asm); (case k2 => k_asm); (case k3 => k_asm); (case k4 => k_asm); (case k5 => k_asm); (case kK => first | exact rfl | assumption); (case kd => ktr_room); (case ku => ktr_units); (case s1 => ktr_rel); (case s2 => ktr_rel); (case s3 => with_reducible assumption)); (intro r9 news9 h9 tk9 F9 N9 P9; (obtain ⟨S9, e9⟩ := P9; subst S9; subst e9); (try dsimp only); kts_tail)))
local macro_rules | `(tactic| walk_at "compareOp Eq ref") => `(tactic| (k_here; (with_reducible show wpAny _ _ (compareOp CmpOp.Eq (Value.ref _) (Value.ref _)) _ _ _); k_dflt (refine' useT (cmVarF ?s1 ?s2 ?s3) ?k1 ?k2 ?k3 ?k4 ?k5 ?kK ?kd ?ku ?_; (case k1 => k_asm); (case k2 => k_asm); (case k3 => k_asm); (case k4 => k_asm); (case k5 => k_asm); (case kK => first | exact rfl | assumption); (case kd => ktr_room); (case ku => ktr_units); (case s1 => ktr_rel); (case s2 => ktr_rel); (case s3 => with_reducible assumption)); (intro r9 news9 h9 tk9 F9 N9 P9; (obtain ⟨S9, e9⟩ := P9; subst S9; subst e9); (try dsimp only); kts_tail)))
local macro_rules | `(tactic| walk_at "compareOp Eq ref ref") => `(tactic| (k_here; (with_reducible show wpAny _ _ (compareOp CmpOp.Eq (Value.ref _) (Value.ref _)) _ _ _); k_dflt (refine' useT (cmVarF ?s1 ?s2 ?s3) ?k1 ?k2 ?k3 ?k4 ?k5 ?kK ?kd ?ku ?_; (case k1 => k_asm); (case k2 => k_asm); (case k3 => k_asm); (case k4 => k_asm); (case k5 => k_asm); (case kK => first | exact rfl | assumption); (case kd => ktr_room); (case ku => ktr_units); (case s1 => ktr_rel); (case s2 => ktr_rel); (case s3 => with_reducible assumption)); (intro r9 news9 h9 tk9 F9 N9 P9; (obtain ⟨S9, e9⟩ := P9; subst S9; subst e9); (try dsimp only); kts_tail)))
set_option maxHeartbeats 8000000 in
theorem repl511T {n k : Nm} {τ : Tm} {e v x : Addr} {vs : List Value} {kw : List (Str × Value)} {news : List (Addr × Obj)} (hk1 : k.cls = 511) (hkn : k = n) (he : ExIn news e (.nm k)) (hv : VarIn news v n) (hx : ExIn news x τ) (TB : Tabs news) (hA : RArgs e v x vs kw) :
    SpecLK prog w p loose mean mg mb 454 vs kw 20 200 news (fun r news' => Runs news news' ∧ ∃ e', r = .ref e' ∧ ExIn news' e' τ) := by
  have he0 := he
  cases he with
  | nm h1 h2 hkv =>
  rw [hk1] at h1
  obtain ⟨dv1, ha1, ta1, tb1, hv1, hw1⟩ := id hkv
  obtain ⟨dv2, ha2, ta2, tb2, hv2, hw2⟩ := id hv
  unfold SpecLK
  intro dp un gd cn cs a ccd cl outer A₀ base h₀ L m s Q E B F X N T CD hk hd hu hret
  obtain ⟨cdF, cdV, cdR⟩ := id CD
  refine wpAny_call ?_
  k_dflt (refine' code_def (binds := rBinds e v x) ?k1 ?k2 ?k3 ?k4 ?k5 ?kA ?kF ?kK ?k6 ?k7 ?k8 ?k9 ?kB ?_ ?c2 ?c3 ?c4 ?c5; (case kA => exact rfl); (case kF => exact rfl); (case kK => assumption); (case k1 => k_asm); (case k2 => k_asm); (case k3 => k_asm); (case k4 => k_asm); (case k5 => k_asm); (case k6 => k_is); (case k7 => k_is); (case k8 => ktr_room); (case k9 => (rcases hA with ⟨rfl, rfl⟩ | ⟨rfl, rfl⟩ <;> exact binds_K (by k_in) rfl (by k_is) rfl rfl rfl)); (case c5 => decide); (case kB => exact locs rfl); (case c2 => exact rfl); (case c3 => exact rfl); (case c4 => exact rfl); k_whole; intro g' L' h' FG' F' N' B' X' T'; (try dsimp only); (try k_fold))
  k_steps
  exact hret _ _ _ _ (by k_asm) (by k_asm) ⟨by ktr_rel, _, rfl, by ktr_rel⟩
set_option maxHeartbeats 8000000 in
theorem repl511F {n k : Nm} {τ : Tm} {e v x : Addr} {vs : List Value} {kw : List (Str × Value)} {news : List (Addr × Obj)} (hk1 : k.cls = 511) (hkn : k ≠ n) (he : ExIn news e (.nm k)) (hv : VarIn news v n) (hx : ExIn news x τ) (TB : Tabs news) (hA : RArgs e v x vs kw) :
    SpecLK prog w p loose mean mg mb 454 vs kw 20 200 news (fun r news' => Runs news news' ∧ ∃ e', r = .ref e' ∧ ExIn news' e' (.nm k)) := by
  have he0 := he
  cases he with
  | nm h1 h2 hkv =>
  rw [hk1] at h1
  obtain ⟨dv1, ha1, ta1, tb1, hv1, hw1⟩ := id hkv
  obtain ⟨dv2, ha2, ta2, tb2, hv2, hw2⟩ := id hv
  unfold SpecLK
  intro dp un gd cn cs a ccd cl outer A₀ base h₀ L m s Q E B F X N T CD hk hd hu hret
  obtain ⟨cdF, cdV, cdR⟩ := id CD
  refine wpAny_call ?_
  k_dflt (refine' code_def (binds := rBinds e v x) ?k1 ?k2 ?k3 ?k4 ?k5 ?kA ?kF ?kK ?k6 ?k7 ?k8 ?k9 ?kB ?_ ?c2 ?c3 ?c4 ?c5; (case kA => exact rfl); (case kF => exact rfl); (case kK => assumption); (case k1 => k_asm); (case k2 => k_asm); (case k3 => k_asm); (case k4 => k_asm); (case k5 => k_asm); (case k6 => k_is); (case k7 => k_is); (case k8 => ktr_room); (case k9 => (rcases hA with ⟨rfl, rfl⟩ | ⟨rfl, rfl⟩ <;> exact binds_K (by k_in) rfl (by k_is) rfl rfl rfl)); (case c5 => decide); (case kB => exact locs rfl); (case c2 => exact rfl); (case c3 => exact rfl); (case c4 => exact rfl); k_whole; intro g' L' h' FG' F' N' B' X' T'; (try dsimp only); (try k_fold))
  k_steps
  exact hret _ _ _ _ (by k_asm) (by k_asm) ⟨by ktr_rel, _, rfl, by ktr_rel⟩
set_option maxHeartbeats 8000000 in
theorem repl575T {n k : Nm} {τ : Tm} {e v x : Addr} {vs : List Value} {kw : List (Str × Value)} {news : List (Addr × Obj)} (hk1 : k.cls = 575) (hkn : k = n) (he : ExIn news e (.nm k)) (hv : VarIn news v n) (hx : ExIn news x τ) (TB : Tabs news) (hA : RArgs e v x vs kw) :
    SpecLK prog w p loose mean mg mb 454 vs kw 20 200 news (fun r news' => Runs news news' ∧ ∃ e', r = .ref e' ∧ ExIn news' e' τ) := by
  have he0 := he
  cases he with
  | nm h1 h2 hkv =>
  rw [hk1] at h1
  obtain ⟨dv1, ha1, ta1, tb1, hv1, hw1⟩ := id hkv
  obtain ⟨dv2, ha2, ta2, tb2, hv2, hw2⟩ := id hv
  unfold SpecLK
  intro dp un gd cn cs a ccd cl outer A₀ base h₀ L m s Q E B F X N T CD hk hd hu hret
  obtain ⟨cdF, cdV, cdR⟩ := id CD
  refine wpAny_call ?_
  k_dflt (refine' code_def (binds := rBinds e v x) ?k1 ?k2 ?k3 ?k4 ?k5 ?kA ?kF ?kK ?k6 ?k7 ?k8 ?k9 ?kB ?_ ?c2 ?c3 ?c4 ?c5; (case kA => exact rfl); (case kF => exact rfl); (case kK => assumption); (case k1 => k_asm); (case k2 => k_asm); (case k3 => k_asm); (case k4 => k_asm); (case k5 => k_asm); (case k6 => k_is); (case k7 => k_is); (case k8 => ktr_room); (case k9 => (rcases hA with ⟨rfl, rfl⟩ | ⟨rfl, rfl⟩ <;> exact binds_K (by k_in) rfl (by k_is) rfl rfl rfl)); (case c5 => decide); (case kB => exact locs rfl); (case c2 => exact rfl); (case c3 => exact rfl); (case c4 => exact rfl); k_whole; intro g' L' h' FG' F' N' B' X' T'; (try dsimp only); (try k_fold))
  k_steps
  exact hret _ _ _ _ (by k_asm) (by k_asm) ⟨by ktr_rel, _, rfl, by ktr_rel⟩
set_option maxHeartbeats 8000000 in
theorem repl575F {n k : Nm} {τ : Tm} {e v x : Addr} {vs : List Value} {kw : List (Str × Value)} {news : List (Addr × Obj)} (hk1 : k.cls = 575) (hkn : k ≠ n) (he : ExIn news e (.nm k)) (hv : VarIn news v n) (hx : ExIn news x τ) (TB : Tabs news) (hA : RArgs e v x vs kw) :
    SpecLK prog w p loose mean mg mb 454 vs kw 20 200 news (fun r news' => Runs news news' ∧ ∃ e', r = .ref e' ∧ ExIn news' e' (.nm k)) := by
  have he0 := he
  cases he with
  | nm h1 h2 hkv =>
  rw [hk1] at h1
  obtain ⟨dv1, ha1, ta1, tb1, hv1, hw1⟩ := id hkv
  obtain ⟨dv2, ha2, ta2, tb2, hv2, hw2⟩ := id hv
  unfold SpecLK
  intro dp un gd cn cs a ccd cl outer A₀ base h₀ L m s Q E B F X N T CD hk hd hu hret
  obtain ⟨cdF, cdV, cdR⟩ := id CD
  refine wpAny_call ?_
  k_dflt (refine' code_def (binds := rBinds e v x) ?k1 ?k2 ?k3 ?k4 ?k5 ?kA ?kF ?kK ?k6 ?k7 ?k8 ?k9 ?kB ?_ ?c2 ?c3 ?c4 ?c5; (case kA => exact rfl); (case kF => exact rfl); (case kK => assumption); (case k1 => k_asm); (case k2 => k_asm); (case k3 => k_asm); (case k4 => k_asm); (case k5 => k_asm); (case k6 => k_is); (case k7 => k_is); (case k8 => ktr_room); (case k9 => (rcases hA with ⟨rfl, rfl⟩ | ⟨rfl, rfl⟩ <;> exact binds_K (by k_in) rfl (by k_is) rfl rfl rfl)); (case c5 => decide); (case kB => exact locs rfl); (case c2 => exact rfl); (case c3 => exact rfl); (case c4 => exact rfl); k_whole; intro g' L' h' FG' F' N' B' X' T'; (try dsimp only); (try k_fold))
  k_steps
  exact hret _ _ _ _ (by k_asm) (by k_asm) ⟨by ktr_rel, _, rfl, by ktr_rel⟩
end
section
local macro_rules | `(tactic| walk_at "call ref") => `(tactic| (k_here; (with_reducible show wpAny _ _ (call (Value.ref 423) _ _) _ _ _); k_dflt (refine' use (mkApp ?s1 ?s2) ?k1 ?k2 ?k3 ?k4 ?k5 ?kK ?kd ?ku ?_; (case k1 => k_asm); (case k2 => k_asm); (case k3 => k_asm); (case k4 => k_asm); (case k5 => k_asm); (case kK => first | exact rfl | assumption); (case kd => ktr_room); (case ku => ktr_units); (case s1 => ktr_rel); (case s2 => ktr_rel)); (intro r9 news9 h9 tk9 F9 N9 P9; (obtain ⟨S9, v9, e9, H9⟩ := P9; subst e9); (try dsimp only); kts_tail)))
local macro_rules | `(tactic| ktr_rel) => `(tactic| (refine CellAt.mono (by with_reducible assumption) ?_; ktr_rel))
local macro_rules | `(tactic| walk_at "eval Name") => `(tactic| (k_here; (with_reducible show wpAny _ _ (eval (Expr.Name _ _) _) _ _ _); k_dflt (first
  | (refine' nameCF ?N ?c ?m ?_ ?a ?b; (case b => rfl); (case a => first | rfl | assumption); (case N => k_asm); (case c => exact rfl); (case m => first | with_reducible assumption | ktr_rel); k_whole)
  | (refine' nameCC ?N ?c ?m ?_ ?a ?b; (case b => rfl); (case a => first | rfl | assumption); (case N => k_asm); (case c => exact rfl); (case m => first | with_reducible assumption | ktr_rel); k_whole))))
local macro_rules | `(tactic| walk_at "eval Name") => `(tactic| (k_here; (fail_if_success (with_reducible show wpAny _ _ (eval (Expr.Name _ _) (compEnvC _ _ _ _)) _ _ _)); k_dflt (first
  | (refine' nameX_L ?F ?v ?_ ?a ?b; (case F => k_asm); (case a => rfl); (case b => rfl); (case v => rfl); k_whole)
  | (refine' nameX_K ?F ?X ?T ?e ?_ ?a ?b; (case F => k_asm); (case X => k_asm); (case T => k_asm); (case a => rfl); (case b => rfl); (case e => k_is); k_whole)
  | (refine' nameX_B ?F ?X ?T ?e ?v ?n ?_ ?a ?b; (case F => k_asm); (case X => k_asm); (case T => k_asm); (case a => rfl); (case b => rfl); (case e => k_is); (case v => boot_fast); (case n => decide); k_whole))))
local macro_rules | `(tactic| walk_at "call ref") => `(tactic| (k_here; (with_reducible show wpAny _ _ (call (Value.ref 275) _ _) _ _ _); refine Stop.go ?_))
local macro_rules | `(tactic| walk_at "eval Lambda") => `(tactic| (k_here; k_dflt (refine' lamOne ?F ?N ?T ?C ?cd ?S ?l ?k ?b ?cl ?d ?_; (case cd => exact rfl); (case F => k_asm); (case N => k_asm); (case T => k_asm); (case C => exact CodeHd.keeps (Cd.v (by assumption)) (Below.stays (by assumption))); (case S => exact Tabs.v (by ktr_rel)); (case l => exact rfl); (case k => exact rfl); (case b => exact Tabs.big (by ktr_rel)); (case cl => exact rfl); (case d => exact rfl)); (intro f9 c9 ct9 h9 tk9 news9 F9 N9 O9 C9 M9 S9 K9); (try dsimp only)))
local macro_rules | `(tactic| walk_at "eval Lambda") => `(tactic| (k_here; k_dflt (refine' lamOne ?F ?N ?T ?C ?cd ?S ?l ?k ?b ?cl ?d ?_; (case cd => exact rfl); (case F => k_asm); (case N => k_asm); (case T => k_asm); (case C => exact CodeHd.keeps (Cd.r (by assumption)) (Below.stays (by assumption))); (case S => exact Tabs.r (by ktr_rel)); (case l => exact rfl); (case k => exact rfl); (case b => exact Tabs.big (by ktr_rel)); (case cl => exact rfl); (case d => exact rfl)); (intro f9 c9 ct9 h9 tk9 news9 F9 N9 O9 C9 M9 S9 K9); (try dsimp only)))
local macro_rules | `(tactic| walk_at "call ref") => `(tactic| (k_here; k_dflt (refine wpAny_call ?_; (refine' kla_code ?k1 ?k2 ?k3 ?k4 ?k5 ?kA ?kF ?kK ?k6 ?k7 ?k8 ?k9 ?kB ?_ ?c2 ?c3 ?c4 ?c5; (case kA => exact rfl); (case kF => exact rfl); (case kK => first | exact rfl | assumption); (case k1 => k_asm); (case k2 => k_asm); (case k3 => k_asm); (case k4 => k_asm); (case k5 => k_asm); (case k6 => k_mem); (case k7 => exact CodeAt.rec_ (by k_asm) (by ktr_rel)); (case k8 => ktr_room); (case k9 => exact rfl); (case c5 => decide); (case kB => exact locs rfl); (case c2 => exact rfl); (case c3 => exact rfl); (case c4 => exact rfl); k_whole; intro g' L' h' FG' F' N' B' X' T'; (try dsimp only); (try k_fold)))))
local macro_rules | `(tactic| walk_at "call ref") => `(tactic| (k_here; (with_reducible show wpAny _ _ (call (Value.ref (mRepl _)) _ _) _ _ _); k_dflt (refine' useL (ReplOk.use (by with_reducible assumption) ?s1 ?s2 ?s3 ?s4) ?k1 ?k2 ?k3 ?k4 ?k5 ?kC ?kK ?kd ?ku ?_; (case k1 => k_asm); (case k2 => k_asm); (case k3 => k_asm); (case k4 => k_asm); (case k5 => k_asm); (case kC => assumption); (case kK => first | exact rfl | assumption); (case kd => ktr_room); (case ku => ktr_units); (case s1 => ktr_rel); (case s2 => ktr_rel); (case s3 => ktr_rel); (case s4 => ktr_rel)); (intro r9 news9 h9 tk9 F9 N9 P9; (obtain ⟨⟨T9, K9, B9⟩, v9, e9, H9⟩ := P9; subst e9); (try dsimp only); kts_tail)))
set_option maxHeartbeats 8000000 in
theorem replA {f a : Tm} {n : Nm} {τ : Tm} {e v x : Addr} {vs : List Value} {kw : List (Str × Value)} {news : List (Addr × Obj)} (he : ExIn news e (.app f a)) (hv : VarIn news v n) (hx : ExIn news x τ) (TB : Tabs news) (hz : f.sz + a.sz ≤ 100) (IHf : ReplOk prog w p loose mean mg mb n τ f) (IHa : ReplOk prog w p loose mean mg mb n τ a) (hA : RArgs e v x vs kw) :
    SpecLK prog w p loose mean mg mb 261 vs kw (20 * (f.sz + a.sz + 1)) (200 * (f.sz + a.sz + 1)) news (fun r news' => Runs news news' ∧ ∃ e', r = .ref e' ∧ ExIn news' e' (replF n τ (.app f a))) := by
  have zf := f.sz_pos
  have za := a.sz_pos
  obtain ⟨dv2, ha2, ta2, tb2, hv2, hw2⟩ := id hv
  cases he with
  | app h1 h2 hf ha =>
  unfold SpecLK
  intro dp un gd cn cs aa ccd cl outer A₀ base h₀ L m s Q E B F X N T CD hk hd hu hret
  obtain ⟨cdF, cdV, cdR⟩ := id CD
  refine wpAny_call ?_
  k_dflt (refine' code_defC (binds := rBinds e v x) ?k1 ?k2 ?k3 ?k4 ?k5 ?kA ?kF ?kK ?k6 ?k7 ?k8 ?k9 ?kB ?kD ?_ ?c2 ?c3 ?c4; (case kA => exact rfl); (case kF => exact rfl); (case kK => assumption); (case k1 => k_asm); (case k2 => k_asm); (case k3 => k_asm); (case k4 => k_asm); (case k5 => k_asm); (case k6 => k_is); (case k7 => k_is); (case k8 => ktr_room); (case k9 => (rcases hA with ⟨rfl, rfl⟩ | ⟨rfl, rfl⟩ <;> exact binds_K (by k_in) rfl (by k_is) rfl rfl rfl)); (case kB => exact rfl); (case kD => decide +kernel); (case c2 => exact rfl); (case c3 => exact rfl); (case c4 => exact rfl); k_whole; intro g' L' h' tk' cells' FG' F' N' Y' B' X' T' l1; (try k_lt l1); k_cells Y'; (try simp only [List.cons_append, List.nil_append] at N'); (try dsimp only); (try k_fold))
  rename_i o1 o2 o3 o4 d1 d2 d3 d4
  have e1 : o1.data = Data.cell (some (.bool true)) := d1
  have e2 : o2.data = Data.cell (some (.bool false)) := d2
  have e3 : o3.data = Data.cell (some (.ref x)) := d3
  have e4 : o4.data = Data.cell (some (.ref v)) := d4
  clear d1 d2 d3 d4
  have ca1 := CellAt.of N' (.head _) e1
  have ca2 := CellAt.of N' (.tail _ (.head _)) e2
  have ca3 := CellAt.of N' (.tail _ (.tail _ (.head _))) e3
  have ca4 := CellAt.of N' (.tail _ (.tail _ (.tail _ (.head _)))) e4
  k_steps
  show Stop _
  unfold Stop
  refine wpAny_call ?_
  k_dflt (refine' code_defC ?k1 ?k2 ?k3 ?k4 ?k5 ?kA ?kF ?kK ?k6 ?k7 ?k8 ?k9 ?kB ?kD ?_ ?c2 ?c3 ?c4; (case kA => exact rfl); (case kF => exact rfl); (case kK => exact rfl); (case k1 => k_asm); (case k2 => k_asm); (case k3 => k_asm); (case k4 => k_asm); (case k5 => k_asm); (case k6 => k_is); (case k7 => k_is); (case k8 => ktr_room); (case k9 => first | exact BindsTo.of_eq rfl | exact binds_K (by k_in) rfl (by k_is) rfl rfl rfl); (case kB => exact rfl); (case kD => decide +kernel); (case c2 => exact rfl); (case c3 => exact rfl); (case c4 => exact rfl); k_whole; intro g' L' h' tk' cells' FG' F' N' Y' B' X' T' l1; (try k_lt l1); k_cells Y'; (try simp only [List.cons_append, List.nil_append] at N'); (try dsimp only); (try k_fold))
  rename_i o5 d5
  have e5 : o5.data = Data.cell (some (.ref e)) := d5
  clear d5
  have ca5 := CellAt.of N' (.head _) e5
  k_steps
  exact hret _ _ _ _ (by k_asm) (by k_asm) ⟨by ktr_rel, _, rfl, (show ExIn _ _ (.app (replF n τ f) (replF n τ a)) from by ktr_rel)⟩
end
theorem repl_ (n : Nm) (τ : Tm) : ∀ t : Tm, t.sz ≤ 100 → ReplOk prog w p loose mean mg mb n τ t
  | .nm k, _ => by
    intro e v x news he hv hx TB vs kw hA
    by_cases hk : k = n
    · simp only [replF, hk, if_true]
      rw [hk] at he
      rcases n.cls_or with h | h
      · exact repl511T h rfl he hv hx TB hA
      · exact repl575T h rfl he hv hx TB hA
    · simp only [replF, hk, if_false]
      rcases k.cls_or with h | h
      · exact repl511F h hk he hv hx TB hA
      · exact repl575F h hk he hv hx TB hA
  | .app f a, hz => by
    have hz' : f.sz + a.sz + 1 ≤ 100 := hz
    intro e v x news he hv hx TB vs kw hA
    exact replA he hv hx TB (by omega) (repl_ n τ f (by omega)) (repl_ n τ a (by omega)) hA
end
end
section
open PySem PySem.W PySem.Spec PySem.Calls PyProof.Rows PyProof.Rows.LCg PyProof.Rows.LCp
set_option maxRecDepth 100000
/-! cells that are stored to -/
def cellish (o : Obj) : Bool := match o.data with
  | .cell _ => true
  | _ => false
/-- what stood stands, but for cells -/
def KeepsC (l l' : List (Addr × Obj)) : Prop := ∀ p ∈ l, cellish p.2 = false → p ∈ l'
theorem KeepsC.refl {l : List (Addr × Obj)} : KeepsC l l := fun _ h _ => h
theorem KeepsC.trans {l l' l'' : List (Addr × Obj)} (a : KeepsC l l') (b : KeepsC l' l'') : KeepsC l l'' := fun p h n => b p (a p h n) n
theorem KeepsC.cons {l l' : List (Addr × Obj)} {q : Addr × Obj} (k : KeepsC l l') : KeepsC l (q :: l') := fun p h n => .tail _ (k p h n)
theorem Sub.c {l l' : List (Addr × Obj)} (a : Sub l l') : KeepsC l l' := fun p h _ => a p h
/-- a cell -/
def CellO (news : List (Addr × Obj)) (c : Addr) : Prop := ∃ o v, (c, o) ∈ news ∧ o.data = .cell v
theorem CellAt.o {l : List (Addr × Obj)} {c : Addr} {v : Value} (h : CellAt l c v) : CellO l c := let ⟨o, a, b⟩ := h; ⟨o, _, a, b⟩
theorem CellO.mono {l l' : List (Addr × Obj)} {c : Addr} (h : CellO l c) (k : Keeps l l') : CellO l' c := by
  obtain ⟨o, v, h1, h2⟩ := h
  refine ⟨o, v, k _ h1 ?_, h2⟩
  unfold notTab
  dsimp only
  rw [h2]
  cases o.cls <;> rfl
theorem CellO.but {l l' : List (Addr × Obj)} {c d : Addr} (h : CellO l c) (k : SubBut d l l') (ne : c ≠ d) : CellO l' c := let ⟨o, v, h1, h2⟩ := h; ⟨o, v, k _ h1 ne, h2⟩
theorem CellAt.but {l l' : List (Addr × Obj)} {c d : Addr} {v : Value} (h : CellAt l c v) (k : SubBut d l l') (ne : c ≠ d) : CellAt l' c v := let ⟨o, h1, h2⟩ := h; ⟨o, k _ h1 ne, h2⟩
theorem ListAt.monoC {l l' : List (Addr × Obj)} {a : Addr} {vs : List Value} (D : ListAt l a vs) (k : KeepsC l l') : ListAt l' a vs := by
  obtain ⟨o, h1, h2, n, h3⟩ := D
  exact ⟨o, k _ h1 (by unfold cellish; dsimp only; rw [h3]), h2, n, h3⟩
theorem AppAt.monoC {l l' : List (Addr × Obj)} {a : Addr} {vs : List Value} (D : AppAt l a vs) (k : KeepsC l l') : AppAt l' a vs := let ⟨n, h⟩ := D; ⟨n, k _ h rfl⟩
theorem TupAt.monoC {l l' : List (Addr × Obj)} {a : Addr} {vs : List Value} (D : TupAt l a vs) (k : KeepsC l l') : TupAt l' a vs := by
  obtain ⟨o, h1, h2, n, h3⟩ := D
  exact ⟨o, k _ h1 (by unfold cellish; dsimp only; rw [h3]), h2, n, h3⟩
theorem iter_cellish {o : Obj} (h : iterish o = true) : cellish o = false := by
  obtain ⟨c, d, da, sl⟩ := o
  unfold iterish at h
  unfold cellish
  cases da with
  | cell x => cases c <;> cases h
  | _ => rfl
section
variable {M : Model} {A : Around} {E : Value → Shared → Prop} {s : Shared} {h₀ : Heap} {L a c : Addr} {m : Str → Option Value} {cn : Str} {cs : Scope} {ccd : Value} {cl : List (Str × Addr)}
  {x : Str} {v : Value} {Q : Unit → Shared → Prop} {news : List (Addr × Obj)}
theorem setCell (F : Fr h₀ L s.heap m) (N : News h₀ L s.heap news) (hc : cl.lookup x = some c) (hm : CellO news c)
    (h : ∀ h' news', Fr h₀ L h' m → News h₀ L h' news' → KeepsC news news' → SubBut c news news' → CellAt news' c v → Q () { s with heap := h' })
    (hk : cs.kind = .function := by rfl) (hx : (envX cn cs L a ccd cl).kindOf x = some .cell := by rfl) : wpAny M A (storeName (envX cn cs L a ccd cl) x v) Q E s := by
  obtain ⟨o, v0, hm, hd⟩ := hm
  refine storeX_C F (newsFilt N hm) hc upd_filt hd (fun h' o' F' N' d' => h h' _ F' N' (fun p hp hn => ?_) SubBut.filt ⟨o', .head _, d'⟩) hk hx
  refine SubBut.filt p hp fun e => ?_
  obtain ⟨b, ob⟩ := p
  dsimp only at e hn
  subst e
  have e2 := Option.some.inj ((N _ hp).1.symm.trans (N _ hm).1)
  dsimp only at e2
  rw [e2] at hn
  unfold cellish at hn
  rw [hd] at hn; cases hn
end
end
section
local macro_rules | `(tactic| walk_at "mine idle") => `(tactic| skip)
theorem offX10 : True := by
  w_top off
  trivial
open PyProof.Rows.LCg PySem PySem.W PySem.Spec PySem.Calls PyProof.Rows
set_option maxRecDepth 100000
section
variable {prog : Program} {w : World} {p : Program} {loose : List Str} {mean : ExcName → Option Value} {mg mb : Str → Option Value}
local macro_rules | `(tactic| walk_at "compareOp Eq ref ref") => `(tactic| (k_here; (refine cmp_ofEq ?_); k_dflt (refine' cmp_K ?k1 ?k2 ?k3 ?k4 ?k5 ?k6 ?k7 ?k8 ?_; (case k1 => k_units); (case k2 => k_asm); (case k3 => k_asm); (case k4 => k_inst); (case k5 => exact InstAt.type (by k_inst)); (case k6 => k_is); (case k7 => k_is); (case k8 => k_is); k_whole)))
local macro_rules | `(tactic| k_is) => `(tactic| first
  | with_reducible exact kfA _ _
  | with_reducible exact kfB _ _
  | with_reducible exact kfC _ _
  | with_reducible exact kfD _ _
  | with_reducible exact kfE _ _
  | with_reducible exact kfF _ _
  | with_reducible exact kfM _ _
  | with_reducible exact kfG _ _
  | with_reducible exact kfH _ _
  | with_reducible exact kfI _ _ _
  | with_reducible exact kfJ _ _
  | with_reducible exact kfK _ _
  )
local macro_rules | `(tactic| k_is) => `(tactic| first
  | with_reducible exact kgFree _ _
  | with_reducible exact kfFree _ _
  | with_reducible exact ksFree _ _
  | with_reducible exact kpFree _ _
  | with_reducible exact kgCons _ _
  | with_reducible exact kfCons _ _
  | with_reducible exact ksCons _ _
  | with_reducible exact kpCons _ _
  | with_reducible exact kgPred _ _
  | with_reducible exact kfPred _ _
  | with_reducible exact ksPred _ _
  | with_reducible exact kpPred _ _
  | with_reducible exact kgRepl _ _
  | with_reducible exact kfRepl _ _
  | with_reducible exact ksRepl _ _
  | with_reducible exact kpRepl _ _
  | with_reducible exact kgSimp _ _
  | with_reducible exact kfSimp _ _
  | with_reducible exact ksSimp _ _
  | with_reducible exact kpSimp _ _
  | with_reducible exact kgSubs _ _
  | with_reducible exact kfSubs _ _
  | with_reducible exact ksSubs _ _
  | with_reducible exact kpSubs _ _
  | with_reducible exact kgVars _ _
  | with_reducible exact kfVars _ _
  | with_reducible exact ksVars _ _
  | with_reducible exact kpVars _ _
  )
local macro_rules | `(tactic| walk_at "getMethod ref") => `(tactic| (k_here; (with_reducible show wpAny _ _ (getMethod (Value.ref _) (PySem.Str.ofString "free") _) _ _ _); k_dflt (refine' exFree ?F ?X ?N ?he ?_; (case F => k_asm); (case X => k_asm); (case N => k_asm); (case he => ktr_rel))))
local macro_rules | `(tactic| walk_at "getMethod ref") => `(tactic| (k_here; (with_reducible show wpAny _ _ (getMethod (Value.ref _) (PySem.Str.ofString "constants") _) _ _ _); k_dflt (refine' exCons ?F ?X ?N ?he ?_; (case F => k_asm); (case X => k_asm); (case N => k_asm); (case he => ktr_rel))))
local macro_rules | `(tactic| walk_at "getMethod ref") => `(tactic| (k_here; (with_reducible show wpAny _ _ (getMethod (Value.ref _) (PySem.Str.ofString "predicates") _) _ _ _); k_dflt (refine' exPred ?F ?X ?N ?he ?_; (case F => k_asm); (case X => k_asm); (case N => k_asm); (case he => ktr_rel))))
local macro_rules | `(tactic| walk_at "getMethod ref") => `(tactic| (k_here; (with_reducible show wpAny _ _ (getMethod (Value.ref _) (PySem.Str.ofString "replace") _) _ _ _); k_dflt (refine' exRepl ?F ?X ?N ?he ?_; (case F => k_asm); (case X => k_asm); (case N => k_asm); (case he => ktr_rel))))
local macro_rules | `(tactic| walk_at "getMethod ref") => `(tactic| (k_here; (with_reducible show wpAny _ _ (getMethod (Value.ref _) (PySem.Str.ofString "simplify") _) _ _ _); k_dflt (refine' exSimp ?F ?X ?N ?he ?_; (case F => k_asm); (case X => k_asm); (case N => k_asm); (case he => ktr_rel))))
local macro_rules | `(tactic| walk_at "getMethod ref") => `(tactic| (k_here; (with_reducible show wpAny _ _ (getMethod (Value.ref _) (PySem.Str.ofString "substitute_bindings") _) _ _ _); k_dflt (refine' exSubs ?F ?X ?N ?he ?_; (case F => k_asm); (case X => k_asm); (case N => k_asm); (case he => ktr_rel))))
local macro_rules | `(tactic| walk_at "getMethod ref") => `(tactic| (k_here; (with_reducible show wpAny _ _ (getMethod (Value.ref _) (PySem.Str.ofString "variables") _) _ _ _); k_dflt (refine' exVars ?F ?X ?N ?he ?_; (case F => k_asm); (case X => k_asm); (case N => k_asm); (case he => ktr_rel))))
local macro_rules | `(tactic| ktr_rel) => `(tactic| first
  | (refine HeldAt.mono (by with_reducible assumption) ?_; ktr_rel)
  | (refine KeptAt.mono (by with_reducible assumption) ?_; ktr_rel)
  | (refine AppAt.mono (by with_reducible assumption) ?_; ktr_rel)
  | (refine ListAt.mono (by with_reducible assumption) ?_; ktr_rel)
  | (refine ListAt.mono (AppAt.list (by with_reducible assumption)) ?_; ktr_rel)
  | (refine' ListAt.but (by with_reducible assumption) ?kk ?hh; (case kk => ktr_rel); (case hh => with_reducible assumption))
  | (refine' AppAt.but (by with_reducible assumption) ?kk ?hh; (case kk => ktr_rel); (case hh => with_reducible assumption)))
local macro_rules | `(tactic| walk_at "subscriptTail") => `(tactic| (k_here; (with_reducible show wpAny _ _ (subscriptTail _ _ (Value.ref _) (Value.int _ _)) _ _ _); k_dflt (refine' la_item ?N ?D ?a ?b ?c ?_; (case N => k_asm); (case D => ktr_rel); (case a => decide); (case b => decide); (case c => rfl))))
local macro_rules | `(tactic| walk_at "setItem ref int") => `(tactic| (k_here; k_dflt (refine' la_set ?F ?N ?D ?a ?b ?c ?_; (case F => k_asm); (case N => k_asm); (case D => ktr_rel); (case a => decide); (case b => decide); (case c => simp); k_whole); intro h9 news9 F9 N9 S9 A9 D9))
local macro_rules | `(tactic| walk_at "call builtin:len") => `(tactic| (k_here; (with_reducible show wpAny _ _ (call (Value.builtin "len") [Value.ref _]) _ _ _); k_dflt (refine' la_len ?N ?D ?z ?_; (case N => k_asm); (case D => ktr_rel); (case z => first | with_reducible assumption | omega))))
local macro_rules | `(tactic| walk_at "call builtin:list.append") => `(tactic| (k_here; (with_reducible show wpAny _ _ (call (Value.builtin "list.append") [Value.ref _, _]) _ _ _); k_dflt (refine' la_append ?F ?N ?D ?z ?_; (case F => k_asm); (case N => k_asm); (case D => ktr_rel); (case z => first | assumption | (rw [sizeLine_eq]; omega)); k_whole); intro h9 news9 F9 N9 S9 A9 D9))
local macro_rules | `(tactic| ktr_rel) => `(tactic| first
  | exact KeepsI.refl
  | (refine KeepsI.cons ?_; ktr_rel)
  | (refine KeepsI.trans ?_ (Sub.i (by with_reducible assumption)); ktr_rel)
  | (refine KeepsI.trans ?_ (by with_reducible assumption); ktr_rel)
  | (refine Keeps.trans ?_ (KeepsI.keeps (by with_reducible assumption)); ktr_rel)
  | (refine KeepsA.trans ?_ (KeepsI.a (by with_reducible assumption)); ktr_rel)
  | (refine TupAt.mono (by with_reducible assumption) ?_; ktr_rel))
local macro_rules | `(tactic| ktr_rel) => `(tactic| first
  | (refine VarsIn.monoA (by with_reducible assumption) ?_; ktr_rel))
local macro_rules | `(tactic| walk_at "call builtin:isinstance") => `(tactic| (k_here; (with_reducible show wpAny _ _ (call (Value.builtin _) [Value.ref _, Value.ref 126]) _ _ _); k_dflt (refine' isn126 ?he ?X ?N ?_; (case N => k_asm); (case he => ktr_rel); (case X => k_in))))
local macro_rules | `(tactic| walk_at "call builtin:isinstance") => `(tactic| (k_here; (with_reducible show wpAny _ _ (call (Value.builtin _) [Value.ref _, Value.ref 318]) _ _ _); k_dflt (refine' isiEx ?he ?X ?N ?_; (case N => k_asm); (case he => ktr_rel); (case X => k_in))))
local macro_rules | `(tactic| ktr_rel) => `(tactic| first
  | exact SubT.refl
  | (refine SubT.cons ?_; ktr_rel)
  | (refine SubT.trans ?_ (Sub.t (by with_reducible assumption)); ktr_rel)
  | (refine SubT.trans ?_ (by with_reducible assumption); ktr_rel)
  | (refine SubT.trans ?_ (SubBut.t1 (by with_reducible assumption)); ktr_rel)
  | (refine SubT.trans ?_ (SubBut.t2 (by with_reducible assumption)); ktr_rel)
  | (refine SubT.trans ?_ (SubBut.t3 (by with_reducible assumption)); ktr_rel)
  | (refine CodeAt.monoT (by with_reducible assumption) ?_; ktr_rel)
  | (refine' Tabs.f2 ?t1 ?t2 ?t3 ?t4; (case t1 => with_reducible assumption); (case t2 => with_reducible assumption); (case t3 => with_reducible assumption); (case t4 => ktr_rel))
  | (refine' Tabs.v2 ?t1 ?t2 ?t4; (case t1 => with_reducible assumption); (case t2 => with_reducible assumption); (case t4 => ktr_rel))
  | (refine' Tabs.r2 ?t1 ?t2 ?t4; (case t1 => with_reducible assumption); (case t2 => with_reducible assumption); (case t4 => ktr_rel))
  | (refine Tabs.cons ?_; ktr_rel)
  | (refine Tabs.mono (by with_reducible assumption) ?_; ktr_rel)
  | (refine' Runs.mk ?r1 ?r2 ?r3; (case r1 => ktr_rel); (case r2 => ktr_rel); (case r3 => ktr_rel)))
local macro_rules | `(tactic| ktr_rel) => `(tactic| (refine HeldAt.mono (by with_reducible assumption) ?_; ktr_rel))
/-- what substitute_bindings does, one name after another -/
def stepS (κ : List (Nm × Nm)) (E : Nm → Nm) (t : Tm) (n : Nm) : Tm := if (look κ n).isSome = true then replF n (tmOf (E n)) t else t
def substF (κ : List (Nm × Nm)) (E : Nm → Nm) (ns : List Nm) (t : Tm) : Tm := ns.foldl (stepS κ E) t
theorem mSubs_eq (t : Tm) : mSubs t = 253 := by cases t <;> rfl
section
variable (prog : Program) (w : World) (p : Program) (loose : List Str) (mean : ExcName → Option Value) (mg mb : Str → Option Value)
def SubOk (κ : List (Nm × Nm)) (k : Nat) (t t' : Tm) : Prop := ∀ (e b d : Addr) (news : List (Addr × Obj)), ExIn news e t → HeldAt prog w news b d κ → Tabs news →
  SpecL prog w p loose mean mg mb (mSubs t) [.ref e, .ref b] (500 + 10 * k) (4500 + 100 * k) news (fun r news' => Runs news news' ∧ ∃ e', r = .ref e' ∧ ExIn news' e' t')
end
theorem SubOk.use {κ : List (Nm × Nm)} {k : Nat} {t t' : Tm} {e b d : Addr} {news : List (Addr × Obj)} (h : SubOk prog w p loose mean mg mb κ k t t') (he : ExIn news e t) (H : HeldAt prog w news b d κ) (hT : Tabs news) :
  SpecL prog w p loose mean mg mb (mSubs t) [.ref e, .ref b] (500 + 10 * k) (4500 + 100 * k) news (fun r news' => Runs news news' ∧ ∃ e', r = .ref e' ∧ ExIn news' e' t') := h e b d news he H hT
theorem varsM {t : Tm} {e : Addr} {news : List (Addr × Obj)} (he : ExIn news e t) (TB : Tabs news) (hz : t.sz ≤ 40) :
    SpecL prog w p loose mean mg mb (mVars t) [.ref e] (40 + 20 * t.sz) (400 + 200 * t.sz) news (fun r news' => Runs news news' ∧ ∃ l us, r = .ref l ∧ AppAt news' l us ∧ VarsIn news' us (varF t)) := by
  rw [show mVars t = 280 from by cases t <;> rfl]
  exact variables_ he TB hz
theorem Runs.old {g h : Heap} {L : Addr} {news l l' : List (Addr × Obj)} (N : News g L h news) (b : Runs news l) (k : KeepsJ h.objs.size l l') : Runs news l' :=
  ⟨fun p hp x y z => k p (b.t p hp x y z) (.inr (Nat.ne_of_lt (Heap.lt_size (N p hp).1))), b.k.trans k.keeps, b.tabs.mono k.i⟩
theorem Runs.get {l l' : List (Addr × Obj)} {p : Addr × Obj} (r : Runs l l') (h : p ∈ l) (a : p.1 ≠ 282) (b : p.1 ≠ 270) (c : p.1 ≠ 256) : p ∈ l' := r.t p h a b c
/-- a thing that is no table stands elsewhere -/
theorem Tabs.off {g h : Heap} {L c : Addr} {o : Obj} {l : List (Addr × Obj)} (T : Tabs l) (N : News g L h l) (hm : (c, o) ∈ l) (ho : o.cls ≠ .none) : c ≠ 282 ∧ c ≠ 270 ∧ c ≠ 256 := by
  have key : ∀ {P : Addr} {ps : Array Value}, (P, tabObj ps) ∈ l → c ≠ P := fun h1 e => by
    subst e
    have e2 := Option.some.inj ((N _ hm).1.symm.trans (N _ h1).1)
    dsimp only at e2
    rw [e2] at ho
    exact ho rfl
  refine ⟨?_, ?_, ?_⟩
  · rcases T.f with h | ⟨_, _, h, _⟩ <;> exact key h
  · rcases T.v with h | ⟨_, h, _⟩ <;> exact key h
  · rcases T.r with h | ⟨_, h, _⟩ <;> exact key h
theorem iter_cls {o : Obj} (h : iterish o = true) : o.cls ≠ .none := fun e => by
  unfold iterish at h; rw [e] at h; cases h
theorem tabs_in {g h : Heap} {L c : Addr} {o : Obj} {l l' : List (Addr × Obj)} (T : Tabs l) (N : News g L h l) (hm : (c, o) ∈ l) (ho : o.cls ≠ .none) (r : SubT l l') : (c, o) ∈ l' :=
  let ⟨x, y, z⟩ := T.off N hm ho; r _ hm x y z
theorem substF_snoc {κ : List (Nm × Nm)} {E : Nm → Nm} {ns : List Nm} {t : Tm} {i : Nat} {n : Nm} (h : ns[i]? = some n) : substF κ E (ns.take (i + 1)) t = stepS κ E (substF κ E (ns.take i) t) n := by
  unfold substF; rw [take_succ' h, List.foldl_append]; rfl
theorem stepS_none {κ : List (Nm × Nm)} {E : Nm → Nm} {t : Tm} {n : Nm} (h : look κ n = none) : stepS κ E t n = t := by unfold stepS; rw [h]; rfl
theorem stepS_some {κ : List (Nm × Nm)} {E : Nm → Nm} {t : Tm} {n o : Nm} (h : look κ n = some o) : stepS κ E t n = replF n (tmOf (E n)) t := by unfold stepS; rw [h]; rfl
section
local macro_rules | `(tactic| walk_at "exec For") => `(tactic| (k_here; (with_reducible show wpAny _ _ (exec (Stmt.For _ _ _ [] _) _) _ _ _); k_dflt (refine' forP ?X ?T ?F ?_; (case F => k_asm); (case X => k_asm); (case T => k_asm))))
local macro_rules | `(tactic| walk_at "exec For Name Call") => `(tactic| (k_here; (with_reducible show wpAny _ _ (exec (Stmt.For _ _ _ [] _) _) _ _ _); k_dflt (refine' forP ?X ?T ?F ?_; (case F => k_asm); (case X => k_asm); (case T => k_asm))))
local macro_rules | `(tactic| walk_at "exec For Name Call cons nil") => `(tactic| (k_here; (with_reducible show wpAny _ _ (exec (Stmt.For _ _ _ [] _) _) _ _ _); k_dflt (refine' forP ?X ?T ?F ?_; (case F => k_asm); (case X => k_asm); (case T => k_asm))))
local macro_rules | `(tactic| walk_at "call ref") => `(tactic| (k_here; (with_reducible show wpAny _ _ (call (Value.ref (mSimp _)) _ _) _ _ _); k_dflt (refine' use (SimpOk.use (by with_reducible assumption) ?s1) ?k1 ?k2 ?k3 ?k4 ?k5 ?kK ?kd ?ku ?_; (case k1 => k_asm); (case k2 => k_asm); (case k3 => k_asm); (case k4 => k_asm); (case k5 => k_asm); (case kK => first | exact rfl | assumption); (case kd => ktr_room); (case ku => ktr_units); (case s1 => ktr_rel)); (intro r9 news9 h9 tk9 F9 N9 P9; (obtain ⟨S9, v9, e9, H9⟩ := P9; subst e9); (try dsimp only); kts_tail)))
local macro_rules | `(tactic| walk_at "call ref") => `(tactic| (k_here; (with_reducible show wpAny _ _ (call (Value.ref (mSubs _)) _ _) _ _ _); k_dflt (refine' useL (SubOk.use (by with_reducible assumption) ?s1 ?s2 ?s3) ?k1 ?k2 ?k3 ?k4 ?k5 ?kC ?kK ?kd ?ku ?_; (case k1 => k_asm); (case k2 => k_asm); (case k3 => k_asm); (case k4 => k_asm); (case k5 => k_asm); (case kC => assumption); (case kK => first | exact rfl | assumption); (case kd => ktr_room); (case ku => ktr_units); (case s1 => ktr_rel); (case s2 => ktr_rel); (case s3 => ktr_rel)); (intro r9 news9 h9 tk9 F9 N9 P9; (obtain ⟨⟨T9, K9, B9⟩, v9, e9, H9⟩ := P9; subst e9); (try dsimp only); kts_tail)))
local macro_rules | `(tactic| walk_at "call ref") => `(tactic| (k_here; (with_reducible show wpAny _ _ (call (Value.ref (mRepl _)) _ _) _ _ _); k_dflt (refine' ReplOk.useK (by with_reducible assumption) ?s1 ?s2 ?s3 ?s4 ?k1 ?k2 ?k3 ?k4 ?k5 ?kC ?kK ?kd ?ku ?_; (case k1 => k_asm); (case k2 => k_asm); (case k3 => k_asm); (case k4 => k_asm); (case k5 => k_asm); (case kC => assumption); (case kK => first | exact rfl | assumption); (case kd => ktr_room); (case ku => ktr_units); (case s1 => ktr_rel); (case s2 => ktr_rel); (case s3 => ktr_rel); (case s4 => ktr_rel)); (intro r9 news9 h9 tk9 F9 N9 P9; (obtain ⟨⟨T9, K9, B9⟩, v9, e9, H9⟩ := P9; subst e9); (try dsimp only); kts_tail)))
local macro_rules | `(tactic| walk_at "call ref") => `(tactic| (k_here; (with_reducible show wpAny _ _ (call (Value.ref (mVars _)) _ _) _ _ _); refine Stop.go ?_))
set_option maxHeartbeats 8000000 in
theorem subsG {t : Tm} {e b d : Addr} {κ : List (Nm × Nm)} {E : Nm → Nm} {k : Nat} {news : List (Addr × Obj)} (he : ExIn news e t) (HA : HeldAt prog w news b d κ) (TB : Tabs news) (hz : ∀ i, (substF κ E ((varF t).take i) t).sz ≤ 16) (IH : ∀ n o, n ∈ varF t → look κ n = some o → SubOk prog w p loose mean mg mb κ k (tmOf o) (tmOf (E n))) :
    SpecL prog w p loose mean mg mb 253 [.ref e, .ref b] (500 + 10 * (k + 1)) (4500 + 100 * (k + 1)) news (fun r news' => Runs news news' ∧ ∃ e', r = .ref e' ∧ ExIn news' e' (substF κ E (varF t) t)) := by
  have hz0 : t.sz ≤ 16 := hz 0
  unfold SpecL
  intro dp un gd cn cs a ccd cl outer A₀ base h₀ L m s Q EE B F X N T CD hk hd hu hret
  obtain ⟨cdF, cdV, cdR⟩ := id CD
  refine wpAny_call ?_
  k_dflt ktr_enter
  k_steps
  show Stop _
  unfold Stop
  refine' useL (varsM he TB (by omega)) ?k1 ?k2 ?k3 ?k4 ?k5 ?kC ?kK ?kd ?ku ?_; (case k1 => k_asm); (case k2 => k_asm); (case k3 => k_asm); (case k4 => k_asm); (case k5 => k_asm); (case kC => assumption); (case kK => first | exact rfl | assumption); (case kd => ktr_room); (case ku => ktr_units)
  intro r9 news9 h9 tk9 F9 N9 P9
  obtain ⟨R9, v9, us9, e9, A9, V9⟩ := P9
  subst e9
  obtain ⟨nA, hA9⟩ := A9
  have HA9 := HA.mono R9.k
  refine ⟨v9, us9, _, _, _, rfl, rfl, by k_asm, by k_asm, hA9, rfl, ⟨_, rfl⟩, fun i m l => m (Str.ofString "bindings") = some (.ref b) ∧ Runs news9 l ∧ ∃ x, m (Str.ofString "expr") = some (.ref x) ∧ ExIn l x (substF κ E ((varF t).take i) t), ?_, ⟨rfl, Runs.of R9.tabs Sub.refl, e, rfl, he.mono R9.k⟩, ?_, ?_⟩
  · rintro i m l l' ⟨a1, a2, x, a3, a4⟩ k
    exact ⟨a1, Runs.old N9 a2 k, x, a3, a4.mono k.keeps⟩
  · intro i v I oI m₁ news₁ h tk hv hit hI hax hJ F N
    obtain ⟨hmb, hR, x, hmx, hE⟩ := hJ
    obtain ⟨n, hn, a1, rfl, hVV⟩ := rel2_get? V9 hv
    have hV1 := hVV.mono hR.k
    have HA1 := HA9.mono hR.k
    have TB1 := hR.tabs
    have F1 := Fr.fix2 F hmb hmx rfl
    obtain ⟨dv, hh1, t1, t2, hq1, hq2⟩ := id hV1
    obtain ⟨db, hh, tt, kvs, hne, hbb, hdb, DA, R⟩ := id HA1
    have hzi := hz i
    cases hk1 : look κ n with
    | none =>
      have e1 := R.none hk1
      k_steps
      refine TurnEnd.intro rfl (by k_asm) (by k_asm) (fun p hp => ?_) ⟨rfl, hR.sub (by ktr_rel), x, rfl, ?_⟩
      · rcases List.mem_cons.mp hp with rfl | hp
        · k_mem
        · rw [List.mem_singleton.mp hp]; k_mem
      · rw [substF_snoc hn, stepS_none hk1]; ktr_rel
    | some o =>
      obtain ⟨v1, e1, ev1, q1, x1⟩ := R.some hk1
      subst q1
      have IHn := IH n o (List.mem_of_getElem? hn) hk1
      have IHr : ReplOk prog w p loose mean mg mb n (tmOf (E n)) (substF κ E ((varF t).take i) t) := repl_ _ _ _ (by omega)
      k_steps
      refine TurnEnd.intro rfl (by k_asm) (by k_asm) (fun p hp => ?_) ⟨rfl, Runs.trans hR (by ktr_rel), _, rfl, ?_⟩
      · rcases List.mem_cons.mp hp with rfl | hp
        · exact tabs_in TB1 N hI (iter_cls hit) (show SubT _ _ from by ktr_rel)
        · rw [List.mem_singleton.mp hp]; exact tabs_in TB1 N hax (fun e => nomatch e) (show SubT _ _ from by ktr_rel)
      · rw [substF_snoc hn, stepS_some hk1]; ktr_rel
  · intro m₁ news₁ h tk hax hJ F N
    obtain ⟨hmb, hR, x, hmx, hE⟩ := hJ
    have F1 := Fr.fix2 F hmb hmx rfl
    rw [show (varF t).take us9.length = varF t from by rw [V9.length, List.take_length]] at hE
    have hzi := hz (varF t).length
    rw [List.take_length] at hzi
    have IHs : SimpOk prog w p loose mean mg mb (substF κ E (varF t) t) := simp_ _ (by omega)
    k_steps
    exact hret _ _ _ _ (by k_asm) (by k_asm) ⟨(R9.trans hR).sub (by ktr_rel), _, rfl, by ktr_rel⟩
end
theorem subOk_of {t : Tm} {κ : List (Nm × Nm)} {E : Nm → Nm} {k : Nat} {t' : Tm} (ht : substF κ E (varF t) t = t') (hz : ∀ i, (substF κ E ((varF t).take i) t).sz ≤ 16) (IH : ∀ n o, n ∈ varF t → look κ n = some o → SubOk prog w p loose mean mg mb κ k (tmOf o) (tmOf (E n))) :
    SubOk prog w p loose mean mg mb κ (k + 1) t t' := by
  intro e b d news he HA TB
  subst ht
  rw [mSubs_eq]
  exact subsG he HA TB hz IH
end
end
section
open PySem PySem.W PySem.Spec PySem.Calls PyProof.Rows
set_option maxRecDepth 100000
/-! plain: what substitute_bindings makes of the law's node -/
/-- an end after at most k steps -/
inductive Ends (κ : List (Nm × Nm)) : Nat → Nm → Nm → Prop where
  | here (k a) : Ends κ k a a
  | step {k a b r} : look κ a = some b → Ends κ k b r → Ends κ (k + 1) a r
theorem ends3 {κ : List (Nm × Nm)} (hv : ∀ a b, look κ a = some b → isVar a = true) {a r : Nm} (h : Reach κ a r) (hr : look κ r = none) : Ends κ 3 a r := by
  have h0 := h
  cases h with
  | refl => exact .here _ _
  | @step _ b _ e1 h1 =>
    refine .step e1 ?_
    have h1' := h1
    cases h1 with
    | refl => exact .here _ _
    | @step _ c _ e2 h2 =>
      refine .step e2 ?_
      have h2' := h2
      cases h2 with
      | refl => exact .here _ _
      | @step _ d _ e3 h3 =>
        refine .step e3 ?_
        cases h3 with
        | refl => exact .here _ _
        | @step _ e _ e4 h4 =>
          exfalso
          have va := hv _ _ e1
          have vb := hv _ _ e2
          have vc := hv _ _ e3
          have vd := hv _ _ e4
          have key : a = b ∨ a = c ∨ a = d ∨ b = c ∨ b = d ∨ c = d := by
            cases a <;> first | (cases va; done) | skip
            all_goals (cases b <;> first | (cases vb; done) | skip)
            all_goals (cases c <;> first | (cases vc; done) | skip)
            all_goals (cases d <;> first | (cases vd; done) | decide)
          rcases key with q | q | q | q | q | q
          · exact h0.noCyc hr b e1 (q ▸ .refl _)
          · exact h0.noCyc hr b e1 (by rw [q]; exact .step e2 (.refl _))
          · exact h0.noCyc hr b e1 (by rw [q]; exact .step e2 (.step e3 (.refl _)))
          · exact h1'.noCyc hr c e2 (by rw [q]; exact .refl _)
          · exact h1'.noCyc hr c e2 (by rw [q]; exact .step e3 (.refl _))
          · exact h2'.noCyc hr d e3 (by rw [q]; exact .refl _)
theorem isVar_cls {n : Nm} : isVar n = true ↔ n.cls = 511 := by cases n <;> decide
theorem varF_nm {n : Nm} (h : isVar n = true) : varF (.nm n) = [n] := by
  have : n.cls = 511 := isVar_cls.mp h
  unfold varF freeF
  rw [if_pos this]; rfl
theorem varF_tmOf {n m : Nm} (h : m ∈ varF (tmOf n)) : m = n ∧ isVar n = true := by
  cases n <;> first | (exact absurd (show m ∈ ([] : List Nm) from h) List.not_mem_nil) | (exact ⟨List.mem_singleton.mp h, rfl⟩)
theorem replF_tmOf {n r : Nm} {τ : Tm} (hn : isVar n = true) (h : r ≠ n) : replF n τ (tmOf r) = tmOf r := by
  cases n <;> first | (cases hn; done) | (cases r <;> first | (exact absurd rfl h) | rfl)
section
variable {κ : List (Nm × Nm)} {E : Nm → Nm}
/-- an end is left as it is -/
theorem subst_end (hv : ∀ a b, look κ a = some b → isVar a = true) {r : Nm} (hr : look κ r = none) : ∀ ms : List Nm, substF κ E ms (tmOf r) = tmOf r
  | [] => rfl
  | m :: ms => by
    show substF κ E ms (stepS κ E (tmOf r) m) = _
    cases h : look κ m with
    | none => rw [stepS_none h]; exact subst_end hv hr ms
    | some o => rw [stepS_some h, replF_tmOf (hv _ _ h) (fun e => by rw [e, h] at hr; cases hr)]; exact subst_end hv hr ms
theorem subst_nm (hv : ∀ a b, look κ a = some b → isVar a = true) {n : Nm} (hn : isVar n = true) (hE : look κ (E n) = none) : ∀ ms : List Nm, substF κ E ms (.nm n) = if n ∈ ms ∧ (look κ n).isSome = true then tmOf (E n) else .nm n
  | [] => by rw [if_neg (fun h => nomatch h.1)]; rfl
  | m :: ms => by
    show substF κ E ms (stepS κ E (.nm n) m) = _
    have ih := subst_nm hv hn hE ms
    cases h : look κ m with
    | none =>
      rw [stepS_none h, ih]
      by_cases e : n ∈ ms ∧ (look κ n).isSome = true
      · rw [if_pos e, if_pos ⟨.tail _ e.1, e.2⟩]
      · rw [if_neg e, if_neg]
        rintro ⟨e1, e2⟩
        rcases List.mem_cons.mp e1 with rfl | e1
        · rw [h] at e2; cases e2
        · exact e ⟨e1, e2⟩
    | some o =>
      rw [stepS_some h]
      by_cases e : n = m
      · subst e
        rw [if_pos ⟨.head _, by rw [h]; rfl⟩]
        rw [show replF n (tmOf (E n)) (.nm n) = tmOf (E n) from if_pos rfl]
        exact subst_end hv hE ms
      · rw [show replF m (tmOf (E m)) (.nm n) = .nm n from if_neg e, ih]
        by_cases e2 : n ∈ ms ∧ (look κ n).isSome = true
        · rw [if_pos e2, if_pos ⟨.tail _ e2.1, e2.2⟩]
        · rw [if_neg e2, if_neg]
          rintro ⟨e3, e4⟩
          rcases List.mem_cons.mp e3 with e3 | e3
          · exact e e3
          · exact e2 ⟨e3, e4⟩
/-- the node, as the law builds it -/
def nodeA (as : List Tm) : Tm := as.foldl .app (.nm .gives)
theorem nodeA_snoc (as : List Tm) (a : Tm) : nodeA (as ++ [a]) = .app (nodeA as) a := by unfold nodeA; rw [List.foldl_append]; rfl
theorem snocRec {α : Type} {P : List α → Prop} (h0 : P []) (h1 : ∀ l a, P l → P (l ++ [a])) (l : List α) : P l := by
  have : ∀ k : List α, P k.reverse := fun k => by
    induction k with
    | nil => exact h0
    | cons a r ih => rw [List.reverse_cons]; exact h1 _ _ ih
  have h := this l.reverse
  rwa [List.reverse_reverse] at h
theorem repl_node {n : Nm} {τ : Tm} (hn : isVar n = true) (as : List Tm) : replF n τ (nodeA as) = nodeA (as.map (replF n τ)) := by
  induction as using snocRec with
  | h0 => exact if_neg fun e => by rw [← e] at hn; cases hn
  | h1 as a ih => rw [nodeA_snoc, List.map_append, List.map_cons, List.map_nil, nodeA_snoc, ← ih]; rfl
theorem step_node (hv : ∀ a b, look κ a = some b → isVar a = true) (as : List Tm) (m : Nm) : stepS κ E (nodeA as) m = nodeA (as.map fun a => stepS κ E a m) := by
  cases h : look κ m with
  | none =>
    rw [stepS_none h]
    have : (as.map fun a => stepS κ E a m) = as := by
      conv => rhs; rw [← List.map_id as]
      exact List.map_congr_left fun a _ => stepS_none h
    rw [this]
  | some o =>
    rw [stepS_some h, repl_node (hv _ _ h)]
    congr 1
    exact List.map_congr_left fun a _ => (stepS_some h).symm
theorem subst_node (hv : ∀ a b, look κ a = some b → isVar a = true) : ∀ (ms : List Nm) (as : List Tm), substF κ E ms (nodeA as) = nodeA (as.map (substF κ E ms))
  | [], as => by
    show nodeA as = _
    congr 1
    conv => lhs; rw [← List.map_id as]
    rfl
  | m :: ms, as => by
    show substF κ E ms (stepS κ E (nodeA as) m) = _
    rw [step_node hv, subst_node hv ms, List.map_map]
    rfl
theorem sz_node (as : List Tm) (h : ∀ a ∈ as, a.sz ≤ 3) : (nodeA as).sz ≤ 1 + 4 * as.length := by
  induction as using snocRec with
  | h0 => exact Nat.le_refl _
  | h1 as a ih =>
    rw [nodeA_snoc, List.length_append]
    have h1 := ih fun b hb => h b (List.mem_append_left _ hb)
    have h2 := h a (List.mem_append_right _ (List.mem_singleton.mpr rfl))
    show (nodeA as).sz + a.sz + 1 ≤ 1 + 4 * (as.length + 1)
    omega
theorem sz_tmOf (n : Nm) : (tmOf n).sz ≤ 3 := by cases n <;> decide
theorem addU_fresh : ∀ (ns acc : List Nm), ns.Nodup → (∀ n ∈ ns, n ∉ acc) → ns.foldl addU acc = acc ++ ns
  | [], acc, _, _ => by rw [List.append_nil]; rfl
  | n :: r, acc, h1, h2 => by
    obtain ⟨h3, h4⟩ := List.nodup_cons.mp h1
    have e : addU acc n = acc ++ [n] := addU_no (by simpa using h2 n (.head _))
    rw [List.foldl_cons, e, addU_fresh r (acc ++ [n]) h4 fun m hm hm2 => ?_, List.append_assoc]; rfl
    rcases List.mem_append.mp hm2 with q | q
    · exact h2 m (.tail _ hm) q
    · exact h3 (List.mem_singleton.mp q ▸ hm)
theorem free_node {ns : List Nm} (hn : ns.Nodup) (hv : ∀ n ∈ ns, isVar n = true) : freeF (nodeA (ns.map .nm)) = ns := by
  induction ns using snocRec with
  | h0 => rfl
  | h1 ns n ih =>
    obtain ⟨h1, h2, h3⟩ := List.nodup_append.mp hn
    rw [List.map_append, List.map_cons, List.map_nil, nodeA_snoc]
    show unionF [freeF (nodeA (ns.map .nm)), freeF (.nm n)] = _
    rw [ih h1 fun m hm => hv m (List.mem_append_left _ hm)]
    have hc : n.cls = 511 := isVar_cls.mp (hv n (List.mem_append_right _ (List.mem_singleton.mpr rfl)))
    rw [show freeF (.nm n) = [n] from if_pos hc]
    show (ns ++ ([n] ++ [])).foldl addU [] = _
    rw [List.append_nil, addU_fresh _ _ hn (fun _ _ h => (List.not_mem_nil h).elim), List.nil_append]
theorem var_node {ns : List Nm} (hn : ns.Nodup) (hv : ∀ n ∈ ns, isVar n = true) : varF (nodeA (ns.map .nm)) = ns := by
  unfold varF
  rw [free_node hn hv]
  show (ns ++ ([] ++ [])).foldl addU [] = _
  rw [List.append_nil, List.append_nil, addU_fresh _ _ hn (fun _ _ h => (List.not_mem_nil h).elim), List.nil_append]
end
section
variable {prog : Program} {w : World} {p : Program} {loose : List Str} {mean : ExcName → Option Value} {mg mb : Str → Option Value}
theorem sub_chain {κ : List (Nm × Nm)} (hv : ∀ a b, look κ a = some b → isVar a = true) : ∀ (k : Nat) (o r : Nm), Ends κ k o r → look κ r = none → SubOk prog w p loose mean mg mb κ (k + 1) (tmOf o) (tmOf r) := by
  have base : ∀ (k : Nat) (o : Nm), look κ o = none → SubOk prog w p loose mean mg mb κ (k + 1) (tmOf o) (tmOf o) := fun k o h => by
    have hs : ∀ ms, substF κ (fun _ => o) ms (tmOf o) = tmOf o := subst_end hv h
    refine subOk_of (E := fun _ => o) (hs _) (fun i => by rw [hs]; exact Nat.le_trans (sz_tmOf o) (by decide)) fun n o' hm hl => ?_
    obtain ⟨rfl, _⟩ := varF_tmOf hm
    rw [h] at hl; cases hl
  intro k
  induction k with
  | zero =>
    intro o r he hr
    cases he
    exact base 0 o hr
  | succ k ih =>
    intro o r he hr
    cases he with
    | here => exact base _ o hr
    | @step _ _ b _ e1 h1 =>
      have vo := hv _ _ e1
      have ht : tmOf o = .nm o := tm_var vo
      have hs : ∀ ms, substF κ (fun _ => r) ms (.nm o) = if o ∈ ms ∧ (look κ o).isSome = true then tmOf r else .nm o := subst_nm (E := fun _ => r) hv vo hr
      rw [ht]
      refine subOk_of (E := fun _ => r) ?_ (fun i => ?_) fun n o' hm hl => ?_
      · rw [varF_nm vo, hs, if_pos ⟨.head _, by rw [e1]; rfl⟩]
      · rw [hs]
        split
        · exact Nat.le_trans (sz_tmOf r) (by decide)
        · show 1 ≤ 16; decide
      · rw [varF_nm vo] at hm
        rw [List.mem_singleton.mp hm, e1] at hl
        cases hl
        exact ih _ _ h1 hr
/-- the law's node -/
theorem sub_node {κ : List (Nm × Nm)} (hv : ∀ a b, look κ a = some b → isVar a = true) {ns : List Nm} (hn : ns.Nodup) (hvn : ∀ n ∈ ns, isVar n = true) (hl : ns.length ≤ 3) (hE : ∀ n ∈ ns, Reach κ n (end3 κ n) ∧ look κ (end3 κ n) = none) :
    SubOk prog w p loose mean mg mb κ 5 (nodeA (ns.map .nm)) (nodeA (ns.map fun n => tmOf (end3 κ n))) := by
  have hs : ∀ n ∈ ns, ∀ ms, substF κ (end3 κ) ms (.nm n) = if n ∈ ms ∧ (look κ n).isSome = true then tmOf (end3 κ n) else .nm n := fun n h ms => subst_nm hv (hvn n h) (hE n h).2 ms
  refine subOk_of (E := end3 κ) (k := 4) ?_ (fun i => ?_) fun n o hm hl => ?_
  · rw [subst_node hv, List.map_map, var_node hn hvn]
    congr 1
    refine List.map_congr_left fun n h => ?_
    show substF κ (end3 κ) ns (.nm n) = _
    rw [hs n h]
    cases q : look κ n with
    | none =>
      rw [if_neg (fun e => by cases e.2)]
      have : end3 κ n = n := by unfold end3; rw [nxt_none q, nxt_none q, nxt_none q]
      rw [this, tm_var (hvn n h)]
    | some o => rw [if_pos ⟨h, rfl⟩]
  · rw [subst_node hv, List.map_map]
    refine Nat.le_trans (sz_node _ fun a ha => ?_) (by rw [List.length_map]; omega)
    obtain ⟨n, h, rfl⟩ := List.mem_map.mp ha
    show (substF κ (end3 κ) _ (.nm n)).sz ≤ 3
    rw [hs n h]
    split
    · exact sz_tmOf _
    · show 1 ≤ 3; decide
  · rw [var_node hn hvn] at hm
    obtain ⟨h1, h2⟩ := hE n hm
    generalize end3 κ n = r at h1 h2 ⊢
    cases h1 with
    | refl =>
      rw [h2] at hl
      cases hl
    | @step _ b _ e1 h3 =>
      rw [hl] at e1
      cases e1
      exact sub_chain hv 3 _ _ (ends3 hv h3 h2) h2
end
end
section
theorem isVar_mem (n : Nm) : ([Nm.x, .y, .w] : List Nm).contains n = isVar n := by cases n <;> rfl
theorem names_has {c : List Nm} {n : Nm} (h : n ∈ c) : (namesOf c).contains n = isVar n := by
  unfold namesOf
  cases hv : isVar n with
  | true => simpa using List.mem_filter.mpr ⟨h, hv⟩
  | false =>
    have : n ∉ c.filter isVar := fun hm => by rw [(List.mem_filter.mp hm).2] at hv; cases hv
    simpa using this
theorem things_eq (c : List Nm) : (c.filter fun n => !(namesOf c).contains n) = thingsOf c :=
  List.filter_congr fun n h => by rw [names_has h]
/-- a class with an end to tell -/
theorem due_reach {κ E : List (Nm × Nm)} {cls : List (List Nm)} (I : Inv κ E) (P : Parts E cls) {c : List Nm} (hc : c ∈ cls) (hd : dueOf κ c ≠ []) {n : Nm} (hn : n ∈ namesOf c) : Reach κ n (end3 κ n) ∧ look κ (end3 κ n) = none := by
  rcases due_ok I P hc with h | ⟨r, hr, hl, hd2, hall⟩
  · exact absurd h hd
  · have hnc := (List.mem_filter.mp hn).1
    rw [hall n hn]
    refine ⟨?_, hl⟩
    rcases I.kinds n with ⟨r', R⟩ | cy
    · have : r = r' := R.only r ((P.same c hc n hnc r).mp hr) hl
      rw [this]; exact R.come n (.refl _)
    · exact absurd hl (cy r ((P.same c hc n hnc r).mp hr))
theorem ends_facts {κ E : List (Nm × Nm)} {cls : List (List Nm)} (I : Inv κ E) (P : Parts E cls) : ∀ q ∈ endsOf κ cls, isVar q.1 = true ∧ q.2 = end3 κ q.1 ∧ Reach κ q.1 (end3 κ q.1) ∧ look κ (end3 κ q.1) = none := by
  intro q hq
  obtain ⟨c, hc, hq'⟩ := List.mem_flatMap.mp hq
  by_cases hd : dueOf κ c = []
  · rw [if_pos hd] at hq'; cases hq'
  · rw [if_neg hd] at hq'
    obtain ⟨n, hn, rfl⟩ := List.mem_map.mp hq'
    exact ⟨(List.mem_filter.mp hn).2, rfl, due_reach I P hc hd hn⟩
theorem endsOf_snoc (κ : List (Nm × Nm)) (l : List (List Nm)) (c : List Nm) : endsOf κ (l ++ [c]) = endsOf κ l ++ (if dueOf κ c = [] then [] else (namesOf c).map fun n => (n, end3 κ n)) := by
  unfold endsOf; rw [List.flatMap_append]; simp
theorem vars3 : ∀ {l : List Nm}, l.Nodup → (∀ n ∈ l, isVar n = true) → l.length ≤ 3
  | [], _, _ => Nat.zero_le _
  | [_], _, _ => (by show (1:Nat) ≤ 3; decide)
  | [_, _], _, _ => (by show (2:Nat) ≤ 3; decide)
  | [_, _, _], _, _ => (by show (3:Nat) ≤ 3; decide)
  | a :: b :: c :: d :: r, hn, hv => by
    exfalso
    have va := hv a (by simp)
    have vb := hv b (by simp)
    have vc := hv c (by simp)
    have vd := hv d (by simp)
    simp only [List.nodup_cons, List.mem_cons, not_or] at hn
    obtain ⟨⟨h1, h2, h3, _⟩, ⟨h4, h5, _⟩, ⟨h6, _⟩, _⟩ := hn
    cases a <;> first | (cases va; done) | skip
    all_goals (cases b <;> first | (cases vb; done) | skip)
    all_goals (cases c <;> first | (cases vc; done) | skip)
    all_goals (cases d <;> first | (cases vd; done) | simp at h1 h2 h3 h4 h5 h6)
end
section
theorem offY1 : True := by
  w_top off
  trivial
open PyProof.Rows.LCg PySem PySem.W PySem.Spec PySem.Calls PyProof.Rows
set_option maxRecDepth 100000
section
variable {prog : Program} {w : World} {p : Program} {loose : List Str} {mean : ExcName → Option Value} {mg mb : Str → Option Value}
local macro_rules | `(tactic| walk_at "compareOp Eq ref ref") => `(tactic| (k_here; (refine cmp_ofEq ?_); k_dflt (refine' cmp_K ?k1 ?k2 ?k3 ?k4 ?k5 ?k6 ?k7 ?k8 ?_; (case k1 => k_units); (case k2 => k_asm); (case k3 => k_asm); (case k4 => k_inst); (case k5 => exact InstAt.type (by k_inst)); (case k6 => k_is); (case k7 => k_is); (case k8 => k_is); k_whole)))
local macro_rules | `(tactic| k_is) => `(tactic| first
  | with_reducible exact kfA _ _
  | with_reducible exact kfB _ _
  | with_reducible exact kfC _ _
  | with_reducible exact kfD _ _
  | with_reducible exact kfE _ _
  | with_reducible exact kfF _ _
  | with_reducible exact kfM _ _
  | with_reducible exact kfG _ _
  | with_reducible exact kfH _ _
  | with_reducible exact kfI _ _ _
  | with_reducible exact kfJ _ _
  | with_reducible exact kfK _ _
  )
local macro_rules | `(tactic| ktr_rel) => `(tactic| first
  | (refine HeldAt.mono (by with_reducible assumption) ?_; ktr_rel)
  | (refine KeptAt.mono (by with_reducible assumption) ?_; ktr_rel)
  | (refine AppAt.mono (by with_reducible assumption) ?_; ktr_rel)
  | (refine ListAt.mono (by with_reducible assumption) ?_; ktr_rel)
  | (refine ListAt.mono (AppAt.list (by with_reducible assumption)) ?_; ktr_rel)
  | (refine' ListAt.but (by with_reducible assumption) ?kk ?hh; (case kk => ktr_rel); (case hh => with_reducible assumption))
  | (refine' AppAt.but (by with_reducible assumption) ?kk ?hh; (case kk => ktr_rel); (case hh => with_reducible assumption)))
local macro_rules | `(tactic| walk_at "subscriptTail") => `(tactic| (k_here; (with_reducible show wpAny _ _ (subscriptTail _ _ (Value.ref _) (Value.int _ _)) _ _ _); k_dflt (refine' la_item ?N ?D ?a ?b ?c ?_; (case N => k_asm); (case D => ktr_rel); (case a => decide); (case b => decide); (case c => rfl))))
local macro_rules | `(tactic| walk_at "setItem ref int") => `(tactic| (k_here; k_dflt (refine' la_set ?F ?N ?D ?a ?b ?c ?_; (case F => k_asm); (case N => k_asm); (case D => ktr_rel); (case a => decide); (case b => decide); (case c => simp); k_whole); intro h9 news9 F9 N9 S9 A9 D9))
local macro_rules | `(tactic| walk_at "call builtin:len") => `(tactic| (k_here; (with_reducible show wpAny _ _ (call (Value.builtin "len") [Value.ref _]) _ _ _); k_dflt (refine' la_len ?N ?D ?z ?_; (case N => k_asm); (case D => ktr_rel); (case z => first | with_reducible assumption | omega))))
local macro_rules | `(tactic| walk_at "call builtin:list.append") => `(tactic| (k_here; (with_reducible show wpAny _ _ (call (Value.builtin "list.append") [Value.ref _, _]) _ _ _); k_dflt (refine' la_append ?F ?N ?D ?z ?_; (case F => k_asm); (case N => k_asm); (case D => ktr_rel); (case z => first | assumption | (rw [sizeLine_eq]; omega)); k_whole); intro h9 news9 F9 N9 S9 A9 D9))
local macro_rules | `(tactic| ktr_rel) => `(tactic| first
  | exact KeepsI.refl
  | (refine KeepsI.cons ?_; ktr_rel)
  | (refine KeepsI.trans ?_ (Sub.i (by with_reducible assumption)); ktr_rel)
  | (refine KeepsI.trans ?_ (by with_reducible assumption); ktr_rel)
  | (refine Keeps.trans ?_ (KeepsI.keeps (by with_reducible assumption)); ktr_rel)
  | (refine KeepsA.trans ?_ (KeepsI.a (by with_reducible assumption)); ktr_rel)
  | (refine TupAt.mono (by with_reducible assumption) ?_; ktr_rel))
local macro_rules | `(tactic| ktr_rel) => `(tactic| first
  | exact KeepsC.refl
  | (refine KeepsC.cons ?_; ktr_rel)
  | (refine KeepsC.trans ?_ (Sub.c (by with_reducible assumption)); ktr_rel)
  | (refine KeepsC.trans ?_ (by with_reducible assumption); ktr_rel)
  | (refine ListAt.monoC (by with_reducible assumption) ?_; ktr_rel))
local macro_rules | `(tactic| walk_at "exec For") => `(tactic| (k_here; (with_reducible show wpAny _ _ (exec (Stmt.For _ _ _ [] _) _) _ _ _); k_dflt (refine' forP ?X ?T ?F ?_; (case F => k_asm); (case X => k_asm); (case T => k_asm))))
local macro_rules | `(tactic| walk_at "exec For Tuple Name") => `(tactic| (k_here; (with_reducible show wpAny _ _ (exec (Stmt.For _ _ _ [] _) _) _ _ _); k_dflt (refine' forP ?X ?T ?F ?_; (case F => k_asm); (case X => k_asm); (case T => k_asm))))
local macro_rules | `(tactic| walk_at "exec For Tuple Name cons nil") => `(tactic| (k_here; (with_reducible show wpAny _ _ (exec (Stmt.For _ _ _ [] _) _) _ _ _); k_dflt (refine' forP ?X ?T ?F ?_; (case F => k_asm); (case X => k_asm); (case T => k_asm))))
/-- the rows of the law, on the ledger -/
def RowsIn (news : List (Addr × Obj)) (its : List Value) (rows : List (Nm × Nm)) : Prop := Rel2 (fun v q => ∃ T t1 t2, v = .ref T ∧ TupAt news T [.str (Nm.str q.1) t1, .str (Nm.str q.2) t2]) its rows
theorem RowsIn.mono {l l' : List (Addr × Obj)} {its : List Value} {rows : List (Nm × Nm)} (h : RowsIn l its rows) (k : Keeps l l') : RowsIn l' its rows := Rel2.mono h fun _ _ ⟨T, t1, t2, e, h⟩ => ⟨T, t1, t2, e, h.mono k⟩
/-- lists of names -/
def ClsIn (news : List (Addr × Obj)) (vs : List Value) (cls : List (List Nm)) : Prop := Rel2 (fun v c => ∃ a us, v = .ref a ∧ ListAt news a us ∧ NamesIn us c) vs cls
theorem ClsIn.mono {l l' : List (Addr × Obj)} {vs : List Value} {cls : List (List Nm)} (h : ClsIn l vs cls) (k : Keeps l l') : ClsIn l' vs cls := Rel2.mono h fun _ _ ⟨a, us, e, h, n⟩ => ⟨a, us, e, h.mono k, n⟩
theorem ClsIn.monoC {l l' : List (Addr × Obj)} {vs : List Value} {cls : List (List Nm)} (h : ClsIn l vs cls) (k : KeepsC l l') : ClsIn l' vs cls := Rel2.mono h fun _ _ ⟨a, us, e, h, n⟩ => ⟨a, us, e, h.monoC k, n⟩
theorem CellO.of {g h : Heap} {L c : Addr} {l : List (Addr × Obj)} {o : Obj} {v : Option Value} (_N : News g L h l) (hm : (c, o) ∈ l) (e : o.data = .cell v) : CellO l c := ⟨o, v, hm, e⟩
theorem in_namesC {A : Around} {E : Value → Shared → Prop} {s : Shared} {h₀ : Heap} {L l : Addr} {news : List (Addr × Obj)} {vs : List Value} {ns : List Nm} {n : Nm} {t : Tok} {b : Bool} {Q : Value → Shared → Prop} (N : News h₀ L s.heap news) (D : ListAt news l vs) (h : NamesIn vs ns) (hc : ns.contains n = b) (hQ : Q (.bool b) s) :
    wpAny (model prog w) A (compareOp .In (.str n.str t) (.ref l)) Q E s := in_names N D h (by rw [hc]; exact hQ)
theorem notIn_namesC {A : Around} {E : Value → Shared → Prop} {s : Shared} {h₀ : Heap} {L l : Addr} {news : List (Addr × Obj)} {vs : List Value} {ns : List Nm} {n : Nm} {t : Tok} {b : Bool} {Q : Value → Shared → Prop} (N : News h₀ L s.heap news) (D : ListAt news l vs) (h : NamesIn vs ns) (hc : ns.contains n = b) (hQ : Q (.bool (!b)) s) :
    wpAny (model prog w) A (compareOp .NotIn (.str n.str t) (.ref l)) Q E s := notIn_names N D h (by rw [hc]; exact hQ)
/-- where an element that makes things comes to -/
def MadeEnd (h₀ : Heap) (L : Addr) (m : Str → Option Value) (s₁ : Shared) (X : List (Addr × Obj)) (P : List (Addr × Obj) → Prop) (s' : Shared) : Prop :=
  ∃ h' tk' all, s' = { s₁ with heap := h', toks := tk' } ∧ Fr h₀ L h' m ∧ News h₀ L h' all ∧ Made P X all
theorem MadeEnd.intro {h₀ h' : Heap} {L : Addr} {m : Str → Option Value} {s₁ : Shared} {X all : List (Addr × Obj)} {P : List (Addr × Obj) → Prop} {tk' : Nat} (F : Fr h₀ L h' m) (N : News h₀ L h' all) (M : Made P X all) : MadeEnd h₀ L m s₁ X P { s₁ with heap := h', toks := tk' } := ⟨h', tk', all, rfl, F, N, M⟩
theorem restM {n : Nat} {A : Around} {s : Shared} {h₀ : Heap} {L : Addr} {m : Str → Option Value} {env : Env} {elt : PySem.Expr} {x : Str} {scope : Scope} {cl : List (Str × Addr)} {S : List (Addr × Obj) → Prop} {P : Nat → Value → Prop} {Fin : List Value → List (Addr × Obj) → Prop} {X : List (Addr × Obj)} (J : Nat → List Value → List (Addr × Obj) → Prop) (hJ0 : J 0 [] X) (hS0 : S X) (hSm : ∀ a b, S a → Sub a b → S b)
    (turn : ∀ i v ys l I oI C oC D m₂ h tk (E' : Value → Shared → Prop), P i v → J i ys l → Sub X l → NsObj oC m₂ → m₂ x = some v → Fr h₀ L h m → News h₀ L h ((I, oI) :: (C, oC) :: (D, lst ys) :: l) →
      wpAny (model prog w) A (eval elt (compEnvC scope cl C env)) (fun y s' => MadeEnd h₀ L m { s with heap := h, toks := tk } ((I, oI) :: (C, oC) :: (D, lst ys) :: l) (fun new => J (i + 1) (ys ++ [y]) (new ++ l)) s') E' { s with heap := h, toks := tk })
    (done : ∀ ys l, J n ys l → Sub X l → Fin ys l) : CompRest prog w A h₀ L m env elt x scope cl s S P Fin n 0 [] X := by
  refine restG (fun i ys l => J i ys l ∧ Sub X l) (fun i v ys l I oI C oC D m₂ h tk E' hP hJ hC hx F N off _ => wpAny_mono (turn i v ys l I oI C oC D m₂ h tk E' hP hJ.1 hJ.2 hC hx F N) (fun y s' h' => ?_) fun _ _ e => e) (fun ys l h => done ys l h.1 h.2) n 0 [] X (Nat.zero_add _) ⟨hJ0, Sub.refl⟩
  obtain ⟨h', tk', all, rfl, F', N', M⟩ := h'
  exact CompEnd.made (s₁ := { s with heap := h, toks := tk }) (R := fun y l' => J (i + 1) (ys ++ [y]) l' ∧ Sub X l') F' N' (M.imp fun new q => ⟨q, hJ.2.trans Sub.appR⟩) off (hSm _ _ hS0 hJ.2) hSm
theorem lt3 {I C D d : Addr} {oI oC oD : Obj} {l : List (Addr × Obj)} (h : (I : Nat) < d ∧ (C : Nat) < d ∧ (D : Nat) < d ∧ AllLt d l) : ∀ p ∈ (I, oI) :: (C, oC) :: (D, oD) :: l, p.1 < d := fun p hp => by
  rcases List.mem_cons.mp hp with rfl | hp
  · exact h.1
  rcases List.mem_cons.mp hp with rfl | hp
  · exact h.2.1
  rcases List.mem_cons.mp hp with rfl | hp
  · exact h.2.2.1
  · exact ktn_ltOf h.2.2.2 p hp
theorem mergeC_len (cls : List (List Nm)) (q : Nm × Nm) : (mergeC cls q).flatten.length = cls.flatten.length ∧ (mergeC cls q).length ≤ cls.length + 1 := by
  have key : ∀ (p : List Nm → Bool), (cls.filter fun r => !p r).flatten.length + (cls.filter p).flatten.length = cls.flatten.length := fun p => by
    induction cls with
    | nil => rfl
    | cons a r ih =>
      cases h : p a <;> simp only [List.filter_cons, h, Bool.not_true, Bool.not_false, if_true, if_false, Bool.false_eq_true, List.flatten_cons, List.length_append] <;> omega
  constructor
  · unfold mergeC
    rw [List.flatten_append, List.length_append]
    have := key fun r => r.contains q.1 || r.contains q.2
    simpa using this
  · unfold mergeC
    rw [List.length_append]
    exact Nat.add_le_add_right (List.length_filter_le _ _) 1
theorem foldC_len : ∀ (rows : List (Nm × Nm)) (cls : List (List Nm)), (rows.foldl mergeC cls).flatten.length = cls.flatten.length ∧ (rows.foldl mergeC cls).length ≤ cls.length + rows.length
  | [], cls => ⟨rfl, Nat.le_refl _⟩
  | q :: r, cls => by
    obtain ⟨h1, h2⟩ := foldC_len r (mergeC cls q)
    obtain ⟨h3, h4⟩ := mergeC_len cls q
    refine ⟨h1.trans h3, Nat.le_trans h2 ?_⟩
    rw [List.length_cons]; omega
theorem filter_flat_le (p : List Nm → Bool) : ∀ cls : List (List Nm), (cls.filter p).flatten.length ≤ cls.flatten.length
  | [] => Nat.le_refl _
  | a :: r => by
    have := filter_flat_le p r
    rw [List.filter_cons, List.flatten_cons, List.length_append]
    split
    · rw [List.flatten_cons, List.length_append]; omega
    · omega
theorem ClsIn.lists {l : List (Addr × Obj)} {vs : List Value} {cs : List (List Nm)} (h : ClsIn l vs cs) : ∃ lists, Rel2 (fun v us => ∃ a, v = .ref a ∧ ListAt l a us) vs lists ∧ NamesIn lists.flatten cs.flatten ∧ (lists.map List.length).sum = cs.flatten.length := by
  induction h with
  | nil => exact ⟨[], .nil, .nil, rfl⟩
  | cons r _ ih =>
    obtain ⟨a, us, e, hl, hn⟩ := r
    obtain ⟨ls, h1, h2, h3⟩ := ih
    refine ⟨us :: ls, .cons ⟨a, e, hl⟩ h1, ?_, ?_⟩
    · have app : ∀ {x y : List Value} {p q : List Nm}, NamesIn x p → NamesIn y q → NamesIn (x ++ y) (p ++ q) := by
        intro x y p q h1 h2
        induction h1 with
        | nil => exact h2
        | cons r _ ih => exact .cons r ih
      exact app hn h2
    · rw [List.map_cons, List.sum_cons, h3, List.flatten_cons, List.length_append, hn.length]
theorem filt_yes {α : Type} {p : α → Bool} {l : List α} {c : α} (h : p c = true) : (l ++ [c]).filter p = l.filter p ++ [c] := by rw [List.filter_append, List.filter_cons, if_pos h]; rfl
theorem filt_no {α : Type} {p : α → Bool} {l : List α} {c : α} (h : p c = false) : (l ++ [c]).filter p = l.filter p := by rw [List.filter_append, List.filter_cons, if_neg (by rw [h]; exact fun e => nomatch e)]; exact List.append_nil _
theorem subOf {g h : Heap} {L : Addr} {a l : List (Addr × Obj)} (_N : News g L h l) (k : Sub a l) : Sub a l := k
theorem six_at {i : Nat} {v : Value} {t : Tok} {a1 a2 a3 a4 a5 a6 : Tok} (h : (#[Value.str (Str.ofString "x") a1, .str (Str.ofString "y") a2, .str (Str.ofString "w") a3, .str (Str.ofString "rex") a4, .str (Str.ofString "tom") a5, .str (Str.ofString "mother") a6] : Array Value)[i]? = some v) :
    ∃ n t, v = .str (Nm.str n) t ∧ cls0.take (i + 1) = cls0.take i ++ [[n]] := by
  match i, h with
  | 0, h => cases h; exact ⟨.x, _, rfl, rfl⟩
  | 1, h => cases h; exact ⟨.y, _, rfl, rfl⟩
  | 2, h => cases h; exact ⟨.w, _, rfl, rfl⟩
  | 3, h => cases h; exact ⟨.rex, _, rfl, rfl⟩
  | 4, h => cases h; exact ⟨.tom, _, rfl, rfl⟩
  | 5, h => cases h; exact ⟨.mother, _, rfl, rfl⟩
  | i + 6, h => simp at h
section
local macro_rules | `(tactic| walk_at "storeName") => `(tactic| (k_here; k_dflt (refine' setCell ?F ?N ?c ?m ?_ ?a ?b; (case b => rfl); (case a => first | rfl | assumption); (case c => exact rfl); (case F => k_asm); (case N => k_asm); (case m => first | with_reducible assumption | (refine' CellO.but ?n1 ?n2 ?n3; (case n1 => with_reducible assumption); (case n2 => with_reducible assumption); (case n3 => first | assumption | exact Nat.ne_of_lt (Nat.lt_succ_self _) | exact Nat.ne_of_gt (Nat.lt_succ_self _)))); k_whole); intro h9 news9 F9 N9 C9 S9 V9))
local macro_rules | `(tactic| walk_at "exec Assign cons ListComp") => `(tactic| (k_here; (with_reducible show wpAny _ _ (exec (Stmt.Assign _ (Expr.ListComp _ [⟨Expr.Name _ _, _, [_], _⟩] _ _) _) _) _ _ _); k_dflt (refine' assignCompP ?X ?T ?F (by rfl) (by rfl) (by with_unfolding_all rfl) (by with_unfolding_all rfl) (by decide) (by rfl) (by decide) (by rfl) (by rfl) (by rfl) ?_; (case F => k_asm); (case X => k_asm); (case T => k_asm))))
local macro_rules | `(tactic| walk_at "eval ListComp") => `(tactic| (k_here; (with_reducible show wpAny _ _ (eval (Expr.ListComp _ [⟨Expr.Name _ _, _, [_], _⟩] _ _) _) _ _ _); k_dflt (refine' evalCompP ?X ?T ?F (by rfl) (by with_unfolding_all rfl) (by decide) (by rfl) (by decide) (by rfl) ?_; (case F => k_asm); (case X => k_asm); (case T => k_asm))))
local macro_rules | `(tactic| walk_at "compareOp In str ref") => `(tactic| (k_here; k_dflt (refine' in_namesC ?N ?D ?h ?c ?_; (case N => k_asm); (case D => ktr_rel); (case h => with_reducible assumption); (case c => with_reducible assumption))))
local macro_rules | `(tactic| walk_at "compareOp NotIn str ref") => `(tactic| (k_here; k_dflt (refine' notIn_namesC ?N ?D ?h ?c ?_; (case N => k_asm); (case D => ktr_rel); (case h => with_reducible assumption); (case c => with_reducible assumption))))
local macro_rules | `(tactic| walk_at "CompRest") => `(tactic| (k_here; refine Stop.go ?_))
local macro_rules | `(tactic| walk_at "call builtin:sum") => `(tactic| (k_here; (with_reducible show wpAny _ _ (call (Value.builtin "sum") [_, _]) _ _ _); refine Stop.go ?_))
local macro_rules | `(tactic| walk_at "binaryOp Add") => `(tactic| (k_here; (with_reducible show wpAny _ _ (binaryOp _ (Value.ref _) (Value.ref _)) _ _ _); refine Stop.go ?_))
set_option maxHeartbeats 8000000 in
theorem classesS {l0 : Addr} {its : List Value} {rows : List (Nm × Nm)} {news : List (Addr × Obj)} (hl : ListAt news l0 its) (hs : RowsIn news its rows) (hr : RowsOk rows) (hz : rows.length ≤ 40) :
    Spec prog w p loose mean mg mb 1079 [.ref l0] 30 300 news (fun r news' => Sub news news' ∧ ∃ a vs, r = .ref a ∧ ListAt news' a vs ∧ ClsIn news' vs (classesOf rows)) := by
  unfold Spec
  intro dp un gd cn cs a ccd cl outer A₀ base h₀ L m s Q E B F X N T hk hd hu hret
  refine wpAny_call ?_
  k_dflt (refine' code_defC (binds := [(Str.ofString "rows", .ref l0)]) ?k1 ?k2 ?k3 ?k4 ?k5 ?kA ?kF ?kK ?k6 ?k7 ?k8 ?k9 ?kB ?kD ?_ ?c2 ?c3 ?c4; (case kA => exact rfl); (case kF => exact rfl); (case kK => assumption); (case k1 => k_asm); (case k2 => k_asm); (case k3 => k_asm); (case k4 => k_asm); (case k5 => k_asm); (case k6 => k_is); (case k7 => k_is); (case k8 => ktr_room); (case k9 => first | exact BindsTo.of_eq rfl | exact binds_K (by k_in) rfl (by k_is) rfl rfl rfl); (case kB => exact rfl); (case kD => decide +kernel); (case c2 => exact rfl); (case c3 => exact rfl); (case c4 => exact rfl); k_whole; intro g' L' h' tk' cells' FG' F' N' Y' B' X' T' l1; (try k_lt l1); k_cells Y'; (try simp only [List.cons_append, List.nil_append] at N'); (try dsimp only); (try k_fold))
  rename_i o1 o2 d1 d2
  have e1 : o1.data = Data.cell none := d1
  have e2 : o2.data = Data.cell none := d2
  clear d1 d2
  have cO1 := CellO.of N' (.head _) e1
  have cO2 := CellO.of N' (.tail _ (.head _)) e2
  k_steps
  show Stop _
  unfold Stop
  refine restM (fun i ys l => ClsIn l ys (cls0.take i)) .nil (.inr ⟨_, by k_mem, rfl, _, rfl⟩) srcAt_mono ?_ ?_
  · intro i v ys l I oI C oC D m₂ h tk E' hv hJ hSX hC hx F N
    obtain ⟨n, t, rfl, hn⟩ := six_at (t := 0) hv
    k_steps
    refine MadeEnd.intro (by k_asm) (by k_asm) (Made.one (lt3 (by assumption)) ?_)
    rw [hn]
    exact Rel2.snoc (hJ.mono Sub.appR.keeps) ⟨_, _, rfl, ⟨_, .head _, rfl, _, rfl⟩, .cons ⟨t, rfl⟩ .nil⟩
  · intro ys l hJ hSX D h tk F N off
    k_steps
    obtain ⟨oax, ho1, ho2, ho3⟩ := id hl
    have hSN : Sub news ((D, lst ys) :: l) := by ktr_rel
    have cP1 : CellO ((D, lst ys) :: l) (L' + 1 + 1) := CellO.mono cO1 (by ktr_rel)
    have cP2 : CellO ((D, lst ys) :: l) (L' + 1) := CellO.mono cO2 (by ktr_rel)
    refine ⟨l0, its, oax, _, _, rfl, rfl, by k_asm, by k_asm, by k_mem, ho2, ho3, fun i m l => Sub news l ∧ CellO l (L' + 1 + 1) ∧ CellO l (L' + 1) ∧ ∃ C vs, m (Str.ofString "classes") = some (.ref C) ∧ AppAt l C vs ∧ ClsIn l vs ((rows.take i).foldl mergeC cls0), ?_, ⟨hSN, cP1, cP2, D, ys, rfl, ⟨_, .head _⟩, hJ.mono Sub.refl.cons.keeps⟩, ?_, ?_⟩
    · rintro i m l l' ⟨a1, a2, a3, C, vs, a4, a5, a6⟩ k
      exact ⟨Sub.old (News.sub N hSN) a1 k, a2.mono k.keeps, a3.mono k.keeps, C, vs, a4, a5.mono k.keeps, a6.mono k.keeps⟩
    · intro i v I oI m₁ news₁ h tk hv hit hI hax hJ F N
      obtain ⟨hSN1, cP1, cP2, C, vs, hmC, hAC, hCls⟩ := hJ
      obtain ⟨q, hq, T1, t1, t2, rfl, hT⟩ := rel2_get? hs hv
      have F1 := Fr.fix F hmC
      have hT1 : IsTup h T1 #[.str (Nm.str q.1) t1, .str (Nm.str q.2) t2] := (hT.mono hSN1.keeps).isTup (s := { s with heap := h }) N
      k_steps
      rename_i ha na Fa Na Ca Sa Va hb nb Fb Nb Cb Sb Vb
      have KC : KeepsC news₁ nb := Ca.trans Cb
      have cV1 : CellAt nb (L' + 1) (.str (Nm.str q.1) t1) := Va.but Sb (Nat.ne_of_lt (Nat.lt_succ_self _))
      have hSNb : Sub news nb := fun p hp => Sb _ (Sa _ (hSN1 p hp) (Nat.ne_of_lt (Nat.lt_succ_of_lt (l1 p hp)))) (Nat.ne_of_lt (Nat.lt_succ_of_lt (Nat.lt_succ_of_lt (l1 p hp))))
      have hClsb := hCls.monoC KC
      have hIb := KC _ hI (iter_cellish hit)
      have haxb := KC _ hax (by obtain ⟨n, hn⟩ := ho3; unfold cellish; dsimp only; rw [hn])
      obtain ⟨nA, hA⟩ := hAC.monoC KC
      obtain ⟨oc1, hc1m, hc1d⟩ := id cV1
      obtain ⟨oc2, hc2m, hc2d⟩ := id Vb
      generalize hcl9 : (rows.take i).foldl mergeC cls0 = cls at hClsb
      have hcl := foldC_len (rows.take i) cls0
      rw [hcl9] at hcl
      have hcl6 : cls.flatten.length = 6 := hcl.1
      have hclz : cls.length ≤ 100 := by
        have : (rows.take i).length ≤ rows.length := by rw [List.length_take]; exact Nat.min_le_right _ _
        have : cls0.length = 6 := rfl
        omega
      have hvz : vs.length ≤ sizeLine := by rw [hClsb.length, sizeLine_eq]; omega
      clear Ca Cb Sa Va Fa Na hCls
      refine ⟨C, vs, nb, _, _, rfl, rfl, by k_asm, by k_asm, ⟨_, hA, rfl, _, rfl⟩, hvz, fun i2 ys => ClsIn nb ys ((cls.take i2).filter fun r => r.contains q.1 || r.contains q.2), .nil, ?_, ?_⟩
      · intro i2 v ys I2 oI2 C2 oC2 D2 m₂ h tk E' hv2 hJ2 hC2 hx2 F N
        obtain ⟨c, hc, a1, us, rfl, hLa, hNm⟩ := rel2_get? hClsb hv2
        cases hb1 : c.contains q.1 with
        | true =>
          k_steps
          refine TestEnd.yes rfl ?_
          k_steps
          refine EltEnd.intro rfl (by k_asm) (by k_asm) (show Sub _ _ from by ktr_rel) ?_
          show ClsIn nb _ _
          rw [take_succ' hc, filt_yes (by (try dsimp only); rw [hb1]; rfl)]
          exact Rel2.snoc hJ2 ⟨a1, us, rfl, hLa, hNm⟩
        | false =>
          cases hb2 : c.contains q.2 with
          | true =>
            k_steps
            refine TestEnd.yes rfl ?_
            k_steps
            refine EltEnd.intro rfl (by k_asm) (by k_asm) (show Sub _ _ from by ktr_rel) ?_
            show ClsIn nb _ _
            rw [take_succ' hc, filt_yes (by (try dsimp only); rw [hb1, hb2]; rfl)]
            exact Rel2.snoc hJ2 ⟨a1, us, rfl, hLa, hNm⟩
          | false =>
            k_steps
            refine TestEnd.no rfl (EltEnd.intro rfl (by k_asm) (by k_asm) (show Sub _ _ from by ktr_rel) ?_)
            show ClsIn nb _ _
            rw [take_succ' hc, filt_no (by (try dsimp only); rw [hb1, hb2]; rfl)]
            exact hJ2
      · intro ys hJ2 D2 h tk F N
        rw [hClsb.length, List.take_length] at hJ2
        k_steps
        refine ⟨C, vs, _, _, _, rfl, rfl, by k_asm, by k_asm, ⟨_, .tail _ hA, rfl, _, rfl⟩, hvz, fun i2 ys => ClsIn nb ys ((cls.take i2).filter fun r => !(r.contains q.1 || r.contains q.2)), .nil, ?_, ?_⟩
        · intro i2 v ys I2 oI2 C2 oC2 D3 m₂ h tk E' hv2 hJ3 hC2 hx2 F N
          obtain ⟨c, hc, a1, us, rfl, hLa, hNm⟩ := rel2_get? hClsb hv2
          cases hb1 : c.contains q.1 with
          | true =>
            k_steps
            refine TestEnd.no rfl (EltEnd.intro rfl (by k_asm) (by k_asm) (show Sub _ _ from by ktr_rel) ?_)
            show ClsIn nb _ _
            rw [take_succ' hc, filt_no (by (try dsimp only); rw [hb1]; rfl)]
            exact hJ3
          | false =>
            cases hb2 : c.contains q.2 with
            | true =>
              k_steps
              refine TestEnd.no rfl (EltEnd.intro rfl (by k_asm) (by k_asm) (show Sub _ _ from by ktr_rel) ?_)
              show ClsIn nb _ _
              rw [take_succ' hc, filt_no (by (try dsimp only); rw [hb1, hb2]; rfl)]
              exact hJ3
            | false =>
              k_steps
              refine TestEnd.yes rfl ?_
              k_steps
              refine EltEnd.intro rfl (by k_asm) (by k_asm) (show Sub _ _ from by ktr_rel) ?_
              show ClsIn nb _ _
              rw [take_succ' hc, filt_yes (by (try dsimp only); rw [hb1, hb2]; rfl)]
              exact Rel2.snoc hJ3 ⟨a1, us, rfl, hLa, hNm⟩
        · intro ys2 hJ3 D3 h tk F N
          rw [hClsb.length, List.take_length] at hJ3
          obtain ⟨lists, hL1, hL2, hL3⟩ := ClsIn.lists hJ2
          k_steps
          show Stop _
          unfold Stop
          rename News _ _ _ _ => NS
          have KS := subOf NS (by ktr_rel : Sub nb _)
          refine call_sumL rfl (by k_asm) NS ⟨_, by k_mem, rfl, _, rfl⟩ ⟨_, by k_mem, rfl, _, rfl⟩ (Rel2.mono hL1 fun _ _ ⟨a, e, hla⟩ => ⟨a, e, hla.mono (Sub.keeps KS)⟩) ?_ fun h5 tk5 T5 o5 n5 F5 N5 hc5 hd5 => ?_
          · have := filter_flat_le (fun r => r.contains q.1 || r.contains q.2) cls
            rw [hL3]; omega
          k_steps
          show Stop _
          unfold Stop
          rename News _ _ _ _ => NT
          have KT := subOf NT (by ktr_rel : Sub nb _)
          refine add_lists (vs := ys2) (ws := [.ref T5]) (by k_asm) NT (ListAt.isList ⟨_, by k_mem, rfl, _, rfl⟩ NT) (ListAt.isList ⟨_, by k_mem, rfl, _, rfl⟩ NT) (fun h7 F7 N7 => ?_) ?_
          · k_steps
            rename News _ _ _ _ => NU
            have KU := subOf NU (by ktr_rel : Sub nb _)
            refine TurnEnd.intro rfl (by k_asm) NU (fun p hp => KU p ?_) ⟨hSNb.trans KU, Vb.o.mono KU.keeps, cV1.o.mono KU.keeps, _, ys2 ++ [.ref T5], rfl, ⟨_, by k_mem⟩, ?_⟩
            · rcases List.mem_cons.mp hp with rfl | hp
              · exact hIb
              · rw [List.mem_singleton.mp hp]; exact haxb
            · rw [take_succ' hq, List.foldl_append, hcl9]
              exact Rel2.snoc (ClsIn.mono hJ3 KU.keeps) ⟨T5, lists.flatten, rfl, ⟨o5, by k_mem, hc5, n5, hd5⟩, hL2⟩
          · have := hJ3.length
            have := List.length_filter_le (fun r => !(r.contains q.1 || r.contains q.2)) cls
            rw [sizeLine_eq, List.length_singleton]; omega
    · intro m₁ news₁ h tk hax hJ F N
      obtain ⟨hSN1, cP1, cP2, C, vs, hmC, hAC, hCls⟩ := hJ
      have F1 := Fr.fix F hmC
      rw [hs.length, List.take_length] at hCls
      k_steps
      exact hret _ _ _ _ (by k_asm) (by k_asm) ⟨hSN1, C, vs, rfl, hAC.list, hCls⟩
end
end
end
section
open PySem PySem.W PySem.Spec PySem.Calls PyProof.Rows PyProof.Rows.LCg PyProof.Rows.LCp
set_option maxRecDepth 100000
def dictish (o : Obj) : Bool := match o.data with
  | .dict _ _ => true
  | _ => false
/-- what stood stands, but for dicts and cells -/
def KV (l l' : List (Addr × Obj)) : Prop := ∀ p ∈ l, dictish p.2 = false → cellish p.2 = false → p ∈ l'
theorem KV.refl {l : List (Addr × Obj)} : KV l l := fun _ h _ _ => h
theorem KV.trans {l l' l'' : List (Addr × Obj)} (a : KV l l') (b : KV l' l'') : KV l l'' := fun p h n m => b p (a p h n m) n m
theorem KV.cons {l l' : List (Addr × Obj)} {q : Addr × Obj} (k : KV l l') : KV l (q :: l') := fun p h n m => .tail _ (k p h n m)
theorem Sub.v {l l' : List (Addr × Obj)} (a : Sub l l') : KV l l' := fun p h _ _ => a p h
theorem KeepsC.v {l l' : List (Addr × Obj)} (a : KeepsC l l') : KV l l' := fun p h _ c => a p h c
theorem KV.old {g h : Heap} {L : Addr} {news l l' : List (Addr × Obj)} (N : News g L h news) (b : KV news l) (k : KeepsJ h.objs.size l l') : KV news l' :=
  fun p hp x y => k p (b p hp x y) (.inr (Nat.ne_of_lt (Heap.lt_size (N p hp).1)))
/-- a dict is changed -/
theorem dictBut {g h : Heap} {L d : Addr} {o : Obj} {l l' : List (Addr × Obj)} (N : News g L h l) (hm : (d, o) ∈ l) (ho : dictish o = true) (k : SubBut d l l') : KV l l' := fun q hq hn _ => by
  refine k q hq fun e => ?_
  obtain ⟨a, x⟩ := q
  dsimp only at e hn
  subst e
  have e2 := Option.some.inj ((N _ hq).1.symm.trans (N _ hm).1)
  dsimp only at e2
  rw [e2, ho] at hn; cases hn
theorem ListAt.monoV {l l' : List (Addr × Obj)} {a : Addr} {vs : List Value} (D : ListAt l a vs) (k : KV l l') : ListAt l' a vs := by
  obtain ⟨o, h1, h2, n, h3⟩ := D
  exact ⟨o, k _ h1 (by unfold dictish; dsimp only; rw [h3]) (by unfold cellish; dsimp only; rw [h3]), h2, n, h3⟩
theorem TupAt.monoV {l l' : List (Addr × Obj)} {a : Addr} {vs : List Value} (D : TupAt l a vs) (k : KV l l') : TupAt l' a vs := by
  obtain ⟨o, h1, h2, n, h3⟩ := D
  exact ⟨o, k _ h1 (by unfold dictish; dsimp only; rw [h3]) (by unfold cellish; dsimp only; rw [h3]), h2, n, h3⟩
theorem ClsIn.monoV {l l' : List (Addr × Obj)} {vs : List Value} {cls : List (List Nm)} (h : ClsIn l vs cls) (k : KV l l') : ClsIn l' vs cls := Rel2.mono h fun _ _ ⟨a, us, e, h, n⟩ => ⟨a, us, e, h.monoV k, n⟩
theorem RowsIn.monoV {l l' : List (Addr × Obj)} {its : List Value} {rows : List (Nm × Nm)} (h : RowsIn l its rows) (k : KV l l') : RowsIn l' its rows := Rel2.mono h fun _ _ ⟨T, t1, t2, e, h⟩ => ⟨T, t1, t2, e, h.monoV k⟩
theorem iter_dictish {o : Obj} (h : iterish o = true) : dictish o = false := by
  obtain ⟨c, d, da, sl⟩ := o
  unfold iterish at h
  unfold dictish
  cases da with
  | dict x y => cases c <;> cases h
  | _ => rfl
theorem KV.iter {l l' : List (Addr × Obj)} {I : Addr} {oI : Obj} (k : KV l l') (h : (I, oI) ∈ l) (hi : iterish oI = true) : (I, oI) ∈ l' := k _ h (iter_dictish hi) (iter_cellish hi)
theorem KV.list {l l' : List (Addr × Obj)} {a : Addr} {o : Obj} {its : Array Value} {n : Nat} (k : KV l l') (h : (a, o) ∈ l) (hd : o.data = .seq its n) : (a, o) ∈ l' := k _ h (by unfold dictish; dsimp only; rw [hd]) (by unfold cellish; dsimp only; rw [hd])
section
variable {prog : Program} {w : World} {A : Around} {E : Value → Shared → Prop} {s : Shared} {h₀ : Heap} {L a b : Addr} {news : List (Addr × Obj)} {vs ws : List Value} {Q : Value → Shared → Prop}
theorem eqNil0 (N : News h₀ L s.heap news) (D : ListAt news a vs) (D' : ListAt news b []) (hv : vs = []) (hu : A.units < cLine) (h : Q (.bool true) s) : wpAny (model prog w) A (compareOp .Eq (.ref a) (.ref b)) Q E s := by
  subst hv
  exact PySem.SeqAt.eq_listAt (e := fun _ => true) (D.isList N) (D'.isList N) rfl hu (fun j h1 => absurd h1 (Nat.not_lt_zero _)) h
theorem eqNil1 (N : News h₀ L s.heap news) (D : ListAt news a vs) (D' : ListAt news b []) (hv : vs ≠ []) (hu : A.units < cLine) (h : Q (.bool false) s) : wpAny (model prog w) A (compareOp .Eq (.ref a) (.ref b)) Q E s := by
  refine PySem.SeqAt.eq_list_lengthsAt (D.isList N) (D'.isList N) ?_ hu h
  cases vs with
  | nil => exact absurd rfl hv
  | cons x r => rfl
theorem neNil0 (N : News h₀ L s.heap news) (D : ListAt news a vs) (D' : ListAt news b []) (hv : vs = []) (hu : A.units < cLine) (h : Q (.bool false) s) : wpAny (model prog w) A (compareOp .NotEq (.ref a) (.ref b)) Q E s := by
  subst hv
  exact PySem.SeqAt.RcNeAt.lists (e := fun _ => true) (D.isList N) (D'.isList N) rfl hu (fun j h1 => absurd h1 (Nat.not_lt_zero _)) prog w E Q h
theorem neNil1 (N : News h₀ L s.heap news) (D : ListAt news a vs) (D' : ListAt news b []) (hv : vs ≠ []) (hu : A.units < cLine) (h : Q (.bool true) s) : wpAny (model prog w) A (compareOp .NotEq (.ref a) (.ref b)) Q E s := by
  refine PySem.SeqAt.RcNeAt.lists_lengths (D.isList N) (D'.isList N) ?_ hu prog w E Q h
  cases vs with
  | nil => exact absurd rfl hv
  | cons x r => rfl
end
section
variable (prog : Program) (w : World) (p : Program) (loose : List Str) (mean : ExcName → Option Value) (mg mb : Str → Option Value)
/-- SpecS, where lambdas are made -/
def SpecSL (f : Addr) (vs : List Value) (d u : Nat) (news : List (Addr × Obj)) (post : Value → List (Addr × Obj) → Prop) (postE : List (Addr × Obj) → Prop) : Prop :=
  ∀ (dp un : Nat) (gd : Option (List Code)) (cn : Str) (cs : Scope) (a : Addr) (ccd : Value) (cl : List (Str × Addr)) (outer : List Env) (A₀ : Around) (base h₀ g₀ : Heap) (L : Addr) (m : Str → Option Value) (s : Shared)
    (Q E : Value → Shared → Prop),
    Below A₀ base outer h₀ → Fr h₀ L s.heap m → (hd.heap_39 w.params).In h₀ → News h₀ L s.heap news → Top p loose mean mg mb h₀ → (hd.heap_39 w.params).In base → Top p loose mean mg mb base → KtsDicts (outer.filterMap (·.frame)) h₀ →
    KtsTurn (outer.filterMap (·.frame)) g₀ h₀ → Cd base → cs.kind = .function → dp + d < recursionLimit → un + u < cLine →
    (∀ r h₀' news' h' tk', KtsTurn (outer.filterMap (·.frame)) g₀ h₀' → Fr h₀' L h' m → News h₀' L h' news' → Below A₀ base outer h₀' → (hd.heap_39 w.params).In h₀' → Top p loose mean mg mb h₀' → KtsDicts (outer.filterMap (·.frame)) h₀' →
      post r news' → Q r { s with heap := h', toks := tk' }) →
    (∀ h₀' G e t vs' news' h' tk', KtsTurn (outer.filterMap (·.frame)) g₀ h₀' → Fr h₀' L G m → Below A₀ base outer h₀' → (hd.heap_39 w.params).In h₀' → Top p loose mean mg mb h₀' → KtsDicts (outer.filterMap (·.frame)) h₀' →
      RaisedS base G (envX cn cs L a ccd cl :: outer) e (.ref 1031) t vs' news' h' → G.UpToSlots h' → postE news' → E (.ref e) { s with heap := h', toks := tk' }) →
    wpAny (model prog w) (ktrTop dp un gd cn cs L a ccd cl outer) (call (.ref f) vs) Q E s
end
section
variable {prog : Program} {w : World} {p : Program} {loose : List Str} {mean : ExcName → Option Value} {mg mb : Str → Option Value}
theorem useSL {f : Addr} {vs : List Value} {d u : Nat} {news : List (Addr × Obj)} {post : Value → List (Addr × Obj) → Prop} {postE : List (Addr × Obj) → Prop}
    {dp un : Nat} {gd : Option (List Code)} {cn : Str} {cs : Scope} {a : Addr} {ccd : Value} {cl : List (Str × Addr)} {outer : List Env} {A₀ : Around} {base h₀ g₀ : Heap} {L : Addr} {m : Str → Option Value} {s : Shared} {Q E : Value → Shared → Prop}
    (S : SpecSL prog w p loose mean mg mb f vs d u news post postE)
    (B : Below A₀ base outer h₀) (F : Fr h₀ L s.heap m) (X : (hd.heap_39 w.params).In h₀) (N : News h₀ L s.heap news) (T : Top p loose mean mg mb h₀) (XB : (hd.heap_39 w.params).In base) (TB : Top p loose mean mg mb base) (D : KtsDicts (outer.filterMap (·.frame)) h₀)
    (T0 : KtsTurn (outer.filterMap (·.frame)) g₀ h₀) (C : Cd base) (hk : cs.kind = .function) (hdd : dp + d < recursionLimit) (hu : un + u < cLine)
    (ret : ∀ r h₀' news' h' tk', KtsTurn (outer.filterMap (·.frame)) g₀ h₀' → Fr h₀' L h' m → News h₀' L h' news' → Below A₀ base outer h₀' → (hd.heap_39 w.params).In h₀' → Top p loose mean mg mb h₀' → KtsDicts (outer.filterMap (·.frame)) h₀' →
      post r news' → Q r { s with heap := h', toks := tk' })
    (exc : ∀ h₀' G e t vs' news' h' tk', KtsTurn (outer.filterMap (·.frame)) g₀ h₀' → Fr h₀' L G m → Below A₀ base outer h₀' → (hd.heap_39 w.params).In h₀' → Top p loose mean mg mb h₀' → KtsDicts (outer.filterMap (·.frame)) h₀' →
      RaisedS base G (envX cn cs L a ccd cl :: outer) e (.ref 1031) t vs' news' h' → G.UpToSlots h' → postE news' → E (.ref e) { s with heap := h', toks := tk' }) :
    wpAny (model prog w) (ktrTop dp un gd cn cs L a ccd cl outer) (call (.ref f) vs) Q E s :=
  S _ _ _ _ _ _ _ _ _ _ _ _ _ _ _ _ _ _ B F X N T XB TB D T0 C hk hdd hu ret exc
end
section
variable {prog : Program} {w : World}
theorem KeptAt.put {news l' : List (Addr × Obj)} {d : Addr} {κ : List (Nm × Nm)} {kvs : List (Str × Value)} {n o : Nm} {v : Value} (R : Rel2 (Ent KVal) kvs κ) (e : look κ n = none) (hv : ∃ t, v = .str o.str t) (D : DictAt prog w l' d (stored kvs n.str v)) : KeptAt prog w l' d (κ ++ [(n, o)]) :=
  ⟨_, D, R.put_new e hv⟩
theorem look_app {κ ε : List (Nm × Nm)} {n : Nm} (h1 : look κ n = none) (h2 : look ε n = none) : look (κ ++ ε) n = none := by
  induction κ with
  | nil => exact h2
  | cons q r ih =>
    unfold look at h1
    show look (q :: (r ++ ε)) n = none
    unfold look
    by_cases hb : q.1 = n
    · rw [if_pos hb] at h1; cases h1
    · rw [if_neg hb] at h1 ⊢; exact ih h1
theorem look_not {κ : List (Nm × Nm)} {n : Nm} (h : n ∉ κ.map (·.1)) : look κ n = none := by
  induction κ with
  | nil => rfl
  | cons q r ih =>
    unfold look
    rw [if_neg fun e => h (by rw [← e]; exact List.mem_cons_self ..)]
    exact ih fun hm => h (List.mem_cons_of_mem _ hm)
end
end
section
theorem split_at {α : Type} {l : List α} {i : Nat} {c : α} (hc : l[i]? = some c) : l = l.take i ++ c :: l.drop (i + 1) := by
  obtain ⟨h, e⟩ := List.getElem?_eq_some_iff.mp hc
  rw [← e, ← List.drop_eq_getElem_cons h, List.take_append_drop]
theorem endsOf_app (κ : List (Nm × Nm)) (a b : List (List Nm)) : endsOf κ (a ++ b) = endsOf κ a ++ endsOf κ b := by
  unfold endsOf; rw [List.flatMap_append]
theorem endsOf_cons (κ : List (Nm × Nm)) {c : List Nm} (hd : dueOf κ c ≠ []) (b : List (List Nm)) : endsOf κ (c :: b) = ((namesOf c).map fun n => (n, end3 κ n)) ++ endsOf κ b := by
  unfold endsOf; rw [List.flatMap_cons, if_neg hd]
theorem keys_map (κ : List (Nm × Nm)) (l : List Nm) : (l.map fun n => (n, end3 κ n)).map (·.1) = l := by
  rw [List.map_map]
  have : ((fun x : Nm × Nm => x.1) ∘ fun n => (n, end3 κ n)) = id := rfl
  rw [this, List.map_id]
/-- how far the ends are written, and what is to come -/
theorem ends_split {κ τ : List (Nm × Nm)} {i k : Nat} {c : List Nm} {n : Nm} (hc : (classesOf τ)[i]? = some c) (hd : dueOf κ c ≠ []) (hn : (namesOf c)[k]? = some n) :
    ∃ r, (endsOf κ (classesOf τ)).map (·.1) = (endsOf κ ((classesOf τ).take i) ++ ((namesOf c).take k).map fun n => (n, end3 κ n)).map (·.1) ++ n :: r := by
  refine ⟨(namesOf c).drop (k + 1) ++ (endsOf κ ((classesOf τ).drop (i + 1))).map (·.1), ?_⟩
  have h1 : endsOf κ (classesOf τ) = endsOf κ ((classesOf τ).take i) ++ (((namesOf c).map fun n => (n, end3 κ n)) ++ endsOf κ ((classesOf τ).drop (i + 1))) := by
    rw [← endsOf_cons κ hd, ← endsOf_app, ← split_at hc]
  have h2 := split_at hn
  rw [h1, List.map_append, List.map_append, keys_map, List.map_append, keys_map]
  conv => lhs; rw [h2]
  simp
theorem ends_fresh {κ τ : List (Nm × Nm)} (P : Parts τ (classesOf τ)) {i k : Nat} {c : List Nm} {n : Nm} (hc : (classesOf τ)[i]? = some c) (hd : dueOf κ c ≠ []) (hn : (namesOf c)[k]? = some n) :
    look (endsOf κ ((classesOf τ).take i) ++ ((namesOf c).take k).map fun n => (n, end3 κ n)) n = none := by
  obtain ⟨r, hr⟩ := ends_split (κ := κ) hc hd hn
  have hN := ends_keys (κ := κ) P
  rw [hr] at hN
  exact look_not fun hm => (List.nodup_append.mp hN).2.2 n hm n (.head _) rfl
theorem ends_len3 {κ τ : List (Nm × Nm)} (I : Inv κ τ) (P : Parts τ (classesOf τ)) : (endsOf κ (classesOf τ)).length ≤ 3 := by
  have h := vars3 (ends_keys (κ := κ) P) fun n hm => by
    obtain ⟨q, hq, rfl⟩ := List.mem_map.mp hm
    exact (ends_facts I P q hq).1
  simpa using h
theorem ends_len {κ τ : List (Nm × Nm)} (I : Inv κ τ) (P : Parts τ (classesOf τ)) {i k : Nat} {c : List Nm} {n : Nm} (hc : (classesOf τ)[i]? = some c) (hd : dueOf κ c ≠ []) (hn : (namesOf c)[k]? = some n) :
    (endsOf κ ((classesOf τ).take i) ++ ((namesOf c).take k).map fun n => (n, end3 κ n)).length ≤ 3 := by
  obtain ⟨r, hr⟩ := ends_split (κ := κ) hc hd hn
  have h := congrArg List.length hr
  have h3 := ends_len3 I P
  rw [List.length_map, List.length_append, List.length_map] at h
  omega
end
section
open PySem PySem.W PySem.Spec PySem.Calls PyProof.Rows
set_option maxRecDepth 100000
/-! the law's own state, on the ledger -/
def fieldy (o : Obj) : Bool := match o.data with
  | .fields _ => true
  | _ => false
/-- what stood stands, but for cells, tables and iterators; iterators too, away from the tables -/
def KM (l l' : List (Addr × Obj)) : Prop := ∀ p ∈ l, cellish p.2 = false → (notTab p.2 = true ∨ (p.1 ≠ 282 ∧ p.1 ≠ 270 ∧ p.1 ≠ 256)) → p ∈ l'
theorem KM.refl {l : List (Addr × Obj)} : KM l l := fun _ h _ _ => h
theorem KM.trans {l l' l'' : List (Addr × Obj)} (a : KM l l') (b : KM l' l'') : KM l l'' := fun p h x y => b p (a p h x y) x y
theorem Sub.m {l l' : List (Addr × Obj)} (a : Sub l l') : KM l l' := fun p h _ _ => a p h
theorem KeepsC.m {l l' : List (Addr × Obj)} (a : KeepsC l l') : KM l l' := fun p h x _ => a p h x
theorem Runs.m {l l' : List (Addr × Obj)} (a : Runs l l') : KM l l' := fun p h _ y => y.elim (fun y => a.k p h y) fun y => a.t p h y.1 y.2.1 y.2.2
theorem KM.but {l l' l'' : List (Addr × Obj)} {d : Addr} (k : KM l l') (s : SubBut d l' l'') (h : ∀ p ∈ l, p.1 < d) : KM l l'' := fun p hp x y => s p (k p hp x y) (Nat.ne_of_lt (h p hp))
theorem KM.j {l l' l'' : List (Addr × Obj)} {I : Addr} (k : KM l l') (s : KeepsJ I l' l'') (h : ∀ p ∈ l, p.1 < I) : KM l l'' := fun p hp x y => s p (k p hp x y) (.inr (Nat.ne_of_lt (h p hp)))
theorem two_at {P l1 k1 l2 k2 : Nat} {q : Str} {l : List (Addr × Obj)} (h : Two P l1 k1 l2 k2 q l) : ∃ ps, (P, tabObj ps) ∈ l := h.elim (fun h => ⟨_, h⟩) fun ⟨_, _, h, _⟩ => ⟨_, h⟩
theorem one_at {P l1 k1 : Nat} {q : Str} {l : List (Addr × Obj)} (h : One P l1 k1 q l) : ∃ ps, (P, tabObj ps) ∈ l := h.elim (fun h => ⟨_, h⟩) fun ⟨_, h, _⟩ => ⟨_, h⟩
section
variable {g h : Heap} {L I x : Addr} {oI o : Obj} {l l' : List (Addr × Obj)}
theorem Tabs.iter (T : Tabs l) (N : News g L h l) (hm : (I, oI) ∈ l) (hi : iterish oI = true) : I ≠ 282 ∧ I ≠ 270 ∧ I ≠ 256 := by
  have key : ∀ {P : Addr} {ps : Array Value}, (P, tabObj ps) ∈ l → I ≠ P := fun hP => ne_of_objs N hm hP fun e => by rw [e] at hi; cases hi
  obtain ⟨_, h1⟩ := two_at T.f
  obtain ⟨_, h2⟩ := one_at T.v
  obtain ⟨_, h3⟩ := one_at T.r
  exact ⟨key h1, key h2, key h3⟩
theorem KM.iter (k : KM l l') (T : Tabs l) (N : News g L h l) (hm : (I, oI) ∈ l) (hi : iterish oI = true) : (I, oI) ∈ l' := k _ hm (iter_cellish hi) (.inr (T.iter N hm hi))
theorem KM.seq (k : KM l l') {c : String} {its : Array Value} {n : Nat} (hm : (x, o) ∈ l) (hc : o.cls = .type c) (hd : o.data = .seq its n) : (x, o) ∈ l' :=
  k _ hm (by unfold cellish; dsimp only; rw [hd]) (.inl (by unfold notTab; dsimp only; rw [hc, hd]))
theorem ListAt.m {a : Addr} {vs : List Value} (D : ListAt l a vs) (k : KM l l') : ListAt l' a vs := by
  obtain ⟨o, h1, h2, n, h3⟩ := D
  exact ⟨o, k.seq h1 h2 h3, h2, n, h3⟩
theorem AppAt.m {a : Addr} {vs : List Value} (D : AppAt l a vs) (k : KM l l') : AppAt l' a vs := let ⟨n, h⟩ := D; ⟨n, k.seq h rfl rfl⟩
theorem TupAt.m {a : Addr} {vs : List Value} (D : TupAt l a vs) (k : KM l l') : TupAt l' a vs := by
  obtain ⟨o, h1, h2, n, h3⟩ := D
  exact ⟨o, k.seq h1 h2 h3, h2, n, h3⟩
theorem RowsIn.m {its : List Value} {rows : List (Nm × Nm)} (h : RowsIn l its rows) (k : KM l l') : RowsIn l' its rows := Rel2.mono h fun _ _ ⟨T, t1, t2, e, h⟩ => ⟨T, t1, t2, e, h.m k⟩
theorem VarIn.m {v : Addr} {n : Nm} (h : VarIn l v n) (k : KM l l') : VarIn l' v n := let ⟨dv, a, t, t', h1, h2⟩ := h; ⟨dv, a, t, t', k _ h1 rfl (.inl rfl), k _ h2 rfl (.inl rfl)⟩
theorem ExIn.m {e : Addr} {t : Tm} (h : ExIn l e t) (k : KM l l') : ExIn l' e t := by
  induction h with
  | nm h1 h2 h3 => exact .nm (k _ h1 rfl (.inl rfl)) (k _ h2 rfl (.inl rfl)) (h3.m k)
  | app h1 h2 _ _ ih1 ih2 => exact .app (k _ h1 rfl (.inl rfl)) (k _ h2 rfl (.inl rfl)) ih1 ih2
section
variable {prog : Program} {w : World} {kvs : List (Str × Value)} {d b : Addr} {κ : List (Nm × Nm)}
theorem dict_kind {o : Obj} (h : o.IsDictOf (PySem.strKind prog w) kvs) : cellish o = false ∧ notTab o = true ∧ fieldy o = false ∧ o.cls = .type "dict" := by
  obtain ⟨es, ep, ⟨c, _, _⟩, hda, _⟩ := h
  exact ⟨by unfold cellish; rw [hda], by unfold notTab; rw [c, hda], by unfold fieldy; rw [hda], c⟩
theorem DictAt.m (D : DictAt prog w l d kvs) (k : KM l l') : DictAt prog w l' d kvs := let ⟨o, h1, h2, h3⟩ := D; ⟨o, k _ h1 (dict_kind h2).1 (.inl (dict_kind h2).2.1), h2, h3⟩
theorem KeptAt.m (D : KeptAt prog w l d κ) (k : KM l l') : KeptAt prog w l' d κ := let ⟨kvs, h1, h2⟩ := D; ⟨kvs, h1.m k, h2⟩
theorem HeldAt.m (D : HeldAt prog w l b d κ) (k : KM l l') : HeldAt prog w l' b d κ := by
  obtain ⟨db, h, t, kvs, a1, a2, a3, a4, a5⟩ := D
  exact ⟨db, h, t, kvs, a1, k _ a2 rfl (.inl rfl), k _ a3 rfl (.inl rfl), a4.m k, a5.mono fun _ _ h => ⟨h.1, let ⟨e, h1, h2⟩ := h.2; ⟨e, h1, h2.m k⟩⟩⟩
theorem HeldAt.butA (D : HeldAt prog w l b d κ) (s : SubBut x l l') (k : KeepsA l l') (ne : d ≠ x) : HeldAt prog w l' b d κ := by
  obtain ⟨db, h, t, kvs, a1, a2, a3, ⟨o, b1, b2, b3⟩, a5⟩ := D
  exact ⟨db, h, t, kvs, a1, k _ a2 attrish_inst, k _ a3 attrish_d, ⟨o, s _ b1 ne, b2, b3⟩, a5.monoA k⟩
theorem KeptAt.but (D : KeptAt prog w l d κ) (s : SubBut x l l') (ne : d ≠ x) : KeptAt prog w l' d κ := let ⟨kvs, ⟨o, b1, b2, b3⟩, h2⟩ := D; ⟨kvs, ⟨o, s _ b1 ne, b2, b3⟩, h2⟩
end
/-- records stand -/
def KF (l l' : List (Addr × Obj)) : Prop := ∀ p ∈ l, fieldy p.2 = true → p ∈ l'
theorem CodeAt.kf {c : Addr} {q : Str} (h : CodeAt l c q) (k : KF l l') : CodeAt l' c q := by
  obtain ⟨h1, oc, vs, t, h2, h3, h4⟩ := h
  exact ⟨h1, oc, vs, t, k _ h2 (by unfold fieldy; dsimp only; rw [h3]), h3, h4⟩
theorem Tabs.kf (h : Tabs l) (k : KF l l') : Tabs l' := by
  obtain ⟨a, b, c⟩ := h
  refine ⟨?_, ?_, ?_⟩
  · rcases a with a | ⟨c1, c2, a1, a2, a3⟩
    · exact .inl (k _ a rfl)
    · exact .inr ⟨c1, c2, k _ a1 rfl, a2.kf k, a3.kf k⟩
  · rcases b with a | ⟨c1, a1, a2⟩
    · exact .inl (k _ a rfl)
    · exact .inr ⟨c1, k _ a1 rfl, a2.kf k⟩
  · rcases c with a | ⟨c1, a1, a2⟩
    · exact .inl (k _ a rfl)
    · exact .inr ⟨c1, k _ a1 rfl, a2.kf k⟩
/-- what is of another make stands -/
theorem other_in (N : News g L h l) (hm : (x, o) ∈ l) (s : SubBut x l l') {p : Addr × Obj} (hp : p ∈ l) (ne : p.2 ≠ o) : p ∈ l' := s p hp fun e => by
  obtain ⟨a, y⟩ := p
  dsimp only at e ne
  subst e
  exact ne (Option.some.inj ((N _ hp).1.symm.trans (N _ hm).1))
theorem kf_but (N : News g L h l) (hm : (x, o) ∈ l) (ho : fieldy o = false) (s : SubBut x l l') : KF l l' := fun p hp hf => other_in N hm s hp fun e => by rw [e, ho] at hf; cases hf
theorem tup_but (N : News g L h l) (hm : (x, o) ∈ l) (ho : o.cls ≠ .type "tuple") (s : SubBut x l l') {a : Addr} {vs : List Value} (D : TupAt l a vs) : TupAt l' a vs := by
  obtain ⟨o', h1, h2, h3⟩ := D
  exact ⟨o', other_in N hm s h1 fun e => ho (by rw [← e]; exact h2), h2, h3⟩
theorem rows_but (N : News g L h l) (hm : (x, o) ∈ l) (ho : o.cls ≠ .type "tuple") (s : SubBut x l l') {its : List Value} {rows : List (Nm × Nm)} (D : RowsIn l its rows) : RowsIn l' its rows :=
  Rel2.mono D fun _ _ ⟨T, t1, t2, e, h⟩ => ⟨T, t1, t2, e, tup_but N hm ho s h⟩
/-- the dict that is changed holds names: what is an object of a class stands -/
theorem KeptAt.keepsA {prog : Program} {w : World} {d : Addr} {κ : List (Nm × Nm)} (N : News g L h l) (D : KeptAt prog w l d κ) (s : SubBut d l l') : KeepsA l l' := fun p hp ha => by
  obtain ⟨kvs, ⟨o, b1, b2, _⟩, h2⟩ := D
  exact other_in N b1 s hp fun e => by rw [e, attrish_dict b2 h2.keysOk] at ha; cases ha
theorem dict_ne_tup : (Value.type "dict") ≠ .type "tuple" := fun e => by injection e with e; exact absurd e (by decide)
theorem list_ne_tup : (Value.type "list") ≠ .type "tuple" := fun e => by injection e with e; exact absurd e (by decide)
theorem Tabs.c (T : Tabs l) (k : KeepsC l l') : Tabs l' := T.kf fun p hp hf => k p hp (by
  unfold fieldy at hf; unfold cellish
  cases hd : p.2.data with
  | cell v => rw [hd] at hf; cases hf
  | _ => rfl)
end
section
variable {prog : Program} {w : World}
/-- the state of one side, while its rows are told -/
structure InSt (prog : Program) (w : World) (n1 : List (Addr × Obj)) (cK cO b d kd tk : Addr) (its : List Value) (κh κk τ : List (Nm × Nm)) (l : List (Addr × Obj)) : Prop where
  held : HeldAt prog w l b d κh
  kept : KeptAt prog w l kd κk
  tkn : AppAt l tk its
  rows : RowsIn l its τ
  cellK : CellAt l cK (.ref kd)
  cellO : CellO l cO
  tabs : Tabs l
  old : KM n1 l
/-- the order in which a side's things were made -/
structure InC (n1 : List (Addr × Obj)) (cK cO d kd tk : Addr) : Prop where
  n1d : ∀ p ∈ n1, p.1 < d
  dk : (d : Nat) < kd
  kt : (kd : Nat) < tk
  cKd : (cK : Nat) < d
  cOd : (cO : Nat) < d
  cc : cK ≠ cO
variable {n1 l l' : List (Addr × Obj)} {cK cO b d kd tk : Addr} {its : List Value} {κh κk κ' τ : List (Nm × Nm)} {g h : Heap} {L : Addr}
theorem InSt.runs (S : InSt prog w n1 cK cO b d kd tk its κh κk τ l) (r : Runs l l') : InSt prog w n1 cK cO b d kd tk its κh κk τ l' :=
  ⟨S.held.mono r.k, S.kept.mono r.k, S.tkn.mono r.k, S.rows.mono r.k, S.cellK.mono r.k, S.cellO.mono r.k, r.tabs, S.old.trans r.m⟩
theorem InSt.sub (S : InSt prog w n1 cK cO b d kd tk its κh κk τ l) (s : Sub l l') : InSt prog w n1 cK cO b d kd tk its κh κk τ l' := S.runs (.of S.tabs s)
theorem InSt.j {I : Addr} (C : InC n1 cK cO d kd tk) (S : InSt prog w n1 cK cO b d kd tk its κh κk τ l) (s : KeepsJ I l l') (hI : (d : Nat) < I) : InSt prog w n1 cK cO b d kd tk its κh κk τ l' :=
  ⟨S.held.mono s.keeps, S.kept.mono s.keeps, S.tkn.mono s.keeps, S.rows.mono s.keeps, S.cellK.mono s.keeps, S.cellO.mono s.keeps, S.tabs.mono s.i, S.old.j s fun p hp => Nat.lt_trans (C.n1d p hp) hI⟩
/-- the name that goes on is stored to its cell -/
theorem InSt.other {v : Value} (C : InC n1 cK cO d kd tk) (S : InSt prog w n1 cK cO b d kd tk its κh κk τ l) (k : KeepsC l l') (s : SubBut cO l l') (c : CellAt l' cO v) : InSt prog w n1 cK cO b d kd tk its κh κk τ l' :=
  ⟨S.held.m k.m, S.kept.m k.m, S.tkn.m k.m, S.rows.m k.m, S.cellK.but s C.cc, c.o, S.tabs.c k, S.old.trans k.m⟩
theorem kept_at (D : KeptAt prog w l kd κk) : ∃ o, (kd, o) ∈ l ∧ o.cls = .type "dict" ∧ fieldy o = false := let ⟨_, ⟨o, b1, b2, _⟩, _⟩ := D; ⟨o, b1, (dict_kind b2).2.2.2, (dict_kind b2).2.2.1⟩
theorem held_at (D : HeldAt prog w l b d κk) : ∃ o, (d, o) ∈ l ∧ o.cls = .type "dict" ∧ fieldy o = false := let ⟨_, _, _, _, _, _, _, ⟨o, b1, b2, _⟩, _⟩ := D; ⟨o, b1, (dict_kind b2).2.2.2, (dict_kind b2).2.2.1⟩
/-- what is kept is changed -/
theorem InSt.keep (C : InC n1 cK cO d kd tk) (S : InSt prog w n1 cK cO b d kd tk its κh κk τ l) (N : News g L h l) (s : SubBut kd l l') (K : KeptAt prog w l' kd κ') : InSt prog w n1 cK cO b d kd tk its κh κ' τ l' := by
  obtain ⟨o, h1, h2, h3⟩ := kept_at S.kept
  exact ⟨S.held.butA s (S.kept.keepsA N s) (Nat.ne_of_lt C.dk), K, S.tkn.but s (Nat.ne_of_gt C.kt), rows_but N h1 (by rw [h2]; exact dict_ne_tup) s S.rows, S.cellK.but s (Nat.ne_of_lt (Nat.lt_trans C.cKd C.dk)), S.cellO.but s (Nat.ne_of_lt (Nat.lt_trans C.cOd C.dk)),
    S.tabs.kf (kf_but N h1 h3 s), S.old.but s fun p hp => Nat.lt_trans (C.n1d p hp) C.dk⟩
/-- what is held is changed -/
theorem InSt.set (C : InC n1 cK cO d kd tk) (S : InSt prog w n1 cK cO b d kd tk its κh κk τ l) (N : News g L h l) (s : SubBut d l l') (K : HeldAt prog w l' b d κ') : InSt prog w n1 cK cO b d kd tk its κ' κk τ l' := by
  obtain ⟨o, h1, h2, h3⟩ := held_at S.held
  exact ⟨K, S.kept.but s (Nat.ne_of_gt C.dk), S.tkn.but s (Nat.ne_of_gt (Nat.lt_trans C.dk C.kt)), rows_but N h1 (by rw [h2]; exact dict_ne_tup) s S.rows, S.cellK.but s (Nat.ne_of_lt C.cKd), S.cellO.but s (Nat.ne_of_lt C.cOd),
    S.tabs.kf (kf_but N h1 h3 s), S.old.but s C.n1d⟩
/-- a row is taken -/
theorem InSt.app {T : Addr} {t1 t2 : Tok} {q : Nm × Nm} (C : InC n1 cK cO d kd tk) (S : InSt prog w n1 cK cO b d kd tk its κh κk τ l) (N : News g L h l) (s : SubBut tk l l') (k : KeepsA l l') (D : AppAt l' tk (its ++ [.ref T])) (hT : TupAt l T [.str q.1.str t1, .str q.2.str t2]) :
    InSt prog w n1 cK cO b d kd tk (its ++ [.ref T]) κh κk (τ ++ [q]) l' := by
  obtain ⟨n, h1⟩ := S.tkn
  have dt := Nat.lt_trans C.dk C.kt
  exact ⟨S.held.butA s k (Nat.ne_of_lt dt), S.kept.but s (Nat.ne_of_lt C.kt), D, (rows_but N h1 list_ne_tup s S.rows).snoc ⟨T, t1, t2, rfl, tup_but N h1 list_ne_tup s hT⟩, S.cellK.but s (Nat.ne_of_lt (Nat.lt_trans C.cKd dt)), S.cellO.but s (Nat.ne_of_lt (Nat.lt_trans C.cOd dt)),
    S.tabs.kf (kf_but N h1 rfl s), S.old.but s fun p hp => Nat.lt_trans (C.n1d p hp) dt⟩
/-- a side that is told, as it was kept -/
structure Side (prog : Program) (w : World) (l : List (Addr × Obj)) (T hb hd kd tk : Addr) (its : List Value) (κ τ : List (Nm × Nm)) : Prop where
  tup : TupAt l T [.ref hb, .ref kd, .ref tk]
  held : HeldAt prog w l hb hd κ
  kept : KeptAt prog w l kd κ
  tkn : ListAt l tk its
  rows : RowsIn l its τ
  fits : Fits κ τ
  tz : τ.length ≤ 6
  kz : κ.length ≤ 6
def SideIn (prog : Program) (w : World) (lo : Addr) (l : List (Addr × Obj)) (v : Value) : Prop := ∃ T hb hd kd tk its κ τ, v = .ref T ∧ (lo : Nat) < tk ∧ Side prog w l T hb hd kd tk its κ τ
theorem Side.m {T hb hd kd tk : Addr} {κ τ : List (Nm × Nm)} (S : Side prog w l T hb hd kd tk its κ τ) (k : KM l l') : Side prog w l' T hb hd kd tk its κ τ :=
  ⟨S.tup.m k, S.held.m k, S.kept.m k, S.tkn.m k, S.rows.m k, S.fits, S.tz, S.kz⟩
theorem SideIn.m {lo : Addr} {v : Value} (S : SideIn prog w lo l v) (k : KM l l') : SideIn prog w lo l' v := let ⟨T, hb, hd, kd, tk, its, κ, τ, e, a, S⟩ := S; ⟨T, hb, hd, kd, tk, its, κ, τ, e, a, S.m k⟩
theorem Side.keeps {T hb hd kd tk : Addr} {κ τ : List (Nm × Nm)} (S : Side prog w l T hb hd kd tk its κ τ) (k : Keeps l l') : Side prog w l' T hb hd kd tk its κ τ :=
  ⟨S.tup.mono k, S.held.mono k, S.kept.mono k, S.tkn.mono k, S.rows.mono k, S.fits, S.tz, S.kz⟩
theorem SideIn.keeps {lo : Addr} {v : Value} (S : SideIn prog w lo l v) (k : Keeps l l') : SideIn prog w lo l' v := let ⟨T, hb, hd, kd, tk, its, κ, τ, e, a, S⟩ := S; ⟨T, hb, hd, kd, tk, its, κ, τ, e, a, S.keeps k⟩
/-- a list below the sides' own is changed -/
theorem SideIn.but {lo : Addr} {v : Value} {n : Nat} {vs : Array Value} (S : SideIn prog w lo l v) (N : News g L h l) (hm : (lo, ({ cls := .type "list", data := .seq vs n } : Obj)) ∈ l) (s : SubBut lo l l') (k : KeepsA l l') : SideIn prog w lo l' v := by
  obtain ⟨T, hb, hd, kd, tk, its, κ, τ, e, a, S⟩ := S
  obtain ⟨o1, p1, p2, _⟩ := held_at S.held
  obtain ⟨o2, q1, q2, _⟩ := kept_at S.kept
  have ne : (Value.type "dict") ≠ .type "list" := fun e => by injection e with e; exact absurd e (by decide)
  exact ⟨T, hb, hd, kd, tk, its, κ, τ, e, a, tup_but N hm list_ne_tup s S.tup, S.held.butA s k (ne_of_objs N p1 hm fun e => ne (by rw [← p2, e])), S.kept.but s (ne_of_objs N q1 hm fun e => ne (by rw [← q2, e])), S.tkn.but s (Nat.ne_of_gt a), rows_but N hm list_ne_tup s S.rows, S.fits, S.tz, S.kz⟩
/-- the state of the sum of two sides -/
structure SumSt (prog : Program) (w : World) (n2 : List (Addr × Obj)) (cK cO kd : Addr) (v : Value) (κ : List (Nm × Nm)) (l : List (Addr × Obj)) : Prop where
  kept : KeptAt prog w l kd κ
  cellK : CellAt l cK (.ref kd)
  cellO : CellAt l cO v
  tabs : Tabs l
  old : KM n2 l
structure SumC (n2 : List (Addr × Obj)) (cK cO kd : Addr) : Prop where
  n2k : ∀ p ∈ n2, p.1 < kd
  cKk : (cK : Nat) < kd
  cOk : (cO : Nat) < kd
theorem SumSt.runs {n2 : List (Addr × Obj)} {v : Value} {κ : List (Nm × Nm)} (S : SumSt prog w n2 cK cO kd v κ l) (r : Runs l l') : SumSt prog w n2 cK cO kd v κ l' :=
  ⟨S.kept.mono r.k, S.cellK.mono r.k, S.cellO.mono r.k, r.tabs, S.old.trans r.m⟩
theorem SumSt.sub {n2 : List (Addr × Obj)} {v : Value} {κ : List (Nm × Nm)} (S : SumSt prog w n2 cK cO kd v κ l) (s : Sub l l') : SumSt prog w n2 cK cO kd v κ l' := S.runs (.of S.tabs s)
theorem SumSt.keep {n2 : List (Addr × Obj)} {v : Value} {κ : List (Nm × Nm)} (C : SumC n2 cK cO kd) (S : SumSt prog w n2 cK cO kd v κ l) (N : News g L h l) (s : SubBut kd l l') (K : KeptAt prog w l' kd κ') : SumSt prog w n2 cK cO kd v κ' l' := by
  obtain ⟨o, h1, h2, h3⟩ := kept_at S.kept
  exact ⟨K, S.cellK.but s (Nat.ne_of_lt C.cKk), S.cellO.but s (Nat.ne_of_lt C.cOk), S.tabs.kf (kf_but N h1 h3 s), S.old.but s C.n2k⟩
end
/-! plain: rows kept one after another -/
theorem foldK_run : ∀ {l κ : List (Nm × Nm)}, foldK κ l = if allOk κ l = true then some (runK κ l) else none
  | [], κ => rfl
  | q :: r, κ => by
    show (keepF κ q.1 q.2).bind (fun κ' => foldK κ' r) = _
    unfold allOk
    cases h : okF κ q with
    | true =>
      rw [keepG_ok h]
      show foldK (keepG κ q) r = _
      rw [foldK_run (l := r)]; rfl
    | false => rw [(keepG_no h).1]; rfl
theorem foldK_self : ∀ {l κ : List (Nm × Nm)}, ((κ ++ l).map (·.1)).Nodup → foldK κ l = some (κ ++ l)
  | [], κ, _ => by rw [List.append_nil]; rfl
  | q :: r, κ, h => by
    have hn : look κ q.1 = none := look_not fun hm => by
      rw [List.map_append, List.nodup_append] at h
      exact h.2.2 _ hm _ (List.mem_cons_self ..) rfl
    show (keepF κ q.1 q.2).bind (fun κ' => foldK κ' r) = _
    have e : keepF κ q.1 q.2 = some (κ ++ [q]) := by unfold keepF; rw [hn]
    rw [e]
    show foldK (κ ++ [q]) r = _
    rw [foldK_self (by rw [List.append_assoc]; exact h), List.append_assoc]; rfl
theorem foldK_app : ∀ {l r κ κ' : List (Nm × Nm)}, foldK κ l = some κ' → foldK κ (l ++ r) = foldK κ' r
  | [], r, κ, κ', h => by cases h; rfl
  | q :: t, r, κ, κ', h => by
    have h' : (keepF κ q.1 q.2).bind (fun κ1 => foldK κ1 t) = some κ' := h
    show (keepF κ q.1 q.2).bind (fun κ1 => foldK κ1 (t ++ r)) = _
    cases hk : keepF κ q.1 q.2 with
    | none => rw [hk] at h'; cases h'
    | some κ1 => rw [hk] at h'; exact foldK_app (l := t) h'
theorem foldK_sum {κ1 κ2 : List (Nm × Nm)} (h : (κ1.map (·.1)).Nodup) : foldK [] (κ1 ++ κ2) = if allOk κ1 κ2 = true then some (runK κ1 κ2) else none := by
  rw [foldK_app (foldK_self (κ := []) (l := κ1) (by rw [List.nil_append]; exact h)), List.nil_append, foldK_run]
theorem runK_snoc {κ l : List (Nm × Nm)} {q : Nm × Nm} : runK κ (l ++ [q]) = keepG (runK κ l) q := by unfold runK; rw [List.foldl_append]; rfl
theorem takenOf_snoc : ∀ {l κ : List (Nm × Nm)} {q : Nm × Nm}, takenOf κ (l ++ [q]) = takenOf κ l ++ (if okF (runK κ l) q = true then [q] else [])
  | [], κ, q => rfl
  | a :: r, κ, q => by
    show (if okF κ a = true then a :: takenOf (keepG κ a) (r ++ [q]) else takenOf (keepG κ a) (r ++ [q])) = (if okF κ a = true then a :: takenOf (keepG κ a) r else takenOf (keepG κ a) r) ++ _
    rw [takenOf_snoc (l := r)]
    cases okF κ a <;> rfl
theorem allOk_snoc : ∀ {l κ : List (Nm × Nm)} {q : Nm × Nm}, allOk κ (l ++ [q]) = (allOk κ l && okF (runK κ l) q)
  | [], κ, q => by show (okF κ q && true) = (true && okF κ q); rw [Bool.and_true, Bool.true_and]
  | a :: r, κ, q => by
    show (okF κ a && allOk (keepG κ a) (r ++ [q])) = (okF κ a && allOk (keepG κ a) r && _)
    rw [allOk_snoc (l := r), Bool.and_assoc]; rfl
theorem Fits.run : ∀ {rows κ τ : List (Nm × Nm)}, Fits κ τ → RowsOk rows → Fits (runK κ rows) (τ ++ takenOf κ rows)
  | [], κ, τ, F, _ => by rw [show takenOf κ [] = [] from rfl, List.append_nil]; exact F
  | a :: r, κ, τ, F, h => by
    have ha := h a (.head _)
    have hr : RowsOk r := fun q hq => h q (.tail _ hq)
    show Fits (runK (keepG κ a) r) _
    unfold takenOf
    cases ho : okF κ a with
    | true =>
      rw [if_pos rfl]
      have := (F.keep ha.1 ha.2 ho).run hr
      rwa [List.append_assoc] at this
    | false =>
      rw [if_neg (fun e => nomatch e), (keepG_no ho).2]
      exact F.run hr
theorem keepG_len {κ : List (Nm × Nm)} {q : Nm × Nm} : (keepG κ q).length ≤ κ.length + 1 := by
  cases h : okF κ q with
  | true => exact keepF_len (keepG_ok h)
  | false => rw [(keepG_no h).2]; exact Nat.le_succ _
theorem runK_len : ∀ {l κ : List (Nm × Nm)}, (runK κ l).length ≤ κ.length + l.length
  | [], κ => Nat.le_refl _
  | q :: r, κ => by
    show (runK (keepG κ q) r).length ≤ _
    have h1 := runK_len (l := r) (κ := keepG κ q)
    have h2 := keepG_len (κ := κ) (q := q)
    rw [List.length_cons]; omega
theorem RowsOk.take {rows : List (Nm × Nm)} (h : RowsOk rows) (n : Nat) : RowsOk (rows.take n) := fun q hq => h q (List.mem_of_mem_take hq)
theorem RowsOk.drop {rows : List (Nm × Nm)} (h : RowsOk rows) (n : Nat) : RowsOk (rows.drop n) := fun q hq => h q (List.mem_of_mem_drop hq)
theorem rel2_take {α β : Type} {R : α → β → Prop} {l : List α} {k : List β} (h : Rel2 R l k) : ∀ n : Nat, Rel2 R (l.take n) (k.take n) := by
  induction h with
  | nil => intro n; rw [List.take_nil, List.take_nil]; exact .nil
  | cons x _ ih =>
    intro n
    cases n with
    | zero => exact .nil
    | succ n => exact .cons x (ih n)
theorem rel2_drop {α β : Type} {R : α → β → Prop} {l : List α} {k : List β} (h : Rel2 R l k) : ∀ n : Nat, Rel2 R (l.drop n) (k.drop n) := by
  induction h with
  | nil => intro n; rw [List.drop_nil, List.drop_nil]; exact .nil
  | cons x y ih =>
    intro n
    cases n with
    | zero => exact .cons x y
    | succ n => exact ih n
theorem rel2_app {α β : Type} {R : α → β → Prop} {l l' : List α} {k k' : List β} (h : Rel2 R l k) (h' : Rel2 R l' k') : Rel2 R (l ++ l') (k ++ k') := by
  induction h with
  | nil => exact h'
  | cons x _ ih => exact .cons x ih
end
section
open PySem PySem.W PySem.Spec PySem.Calls PyProof.Rows
set_option maxRecDepth 100000
/-! the state of the loop that makes the rows -/
/-- a fact put by -/
structure Kp (P : Prop) : Prop where
  it : P
inductive GoRow : Prop where
  | mk
inductive GoKept : Prop where
  | mk
inductive GoS : Prop where
  | mk
inductive GoTry : Prop where
  | mk
inductive GoLen : Prop where
  | mk
inductive GoDue : Prop where
  | mk
/-- the tables that the law leaves as they are -/
def Idle (l : List (Addr × Obj)) : Prop := ∀ P : Addr, P = 303 ∨ P = 296 ∨ P = 289 ∨ P = 322 → (P, tabObj #[]) ∈ l
theorem Idle.i {l l' : List (Addr × Obj)} (h : Idle l) (k : KeepsI l l') : Idle l' := fun P hP => k _ (h P hP) rfl
theorem Idle.kf {l l' : List (Addr × Obj)} (h : Idle l) (k : KF l l') : Idle l' := fun P hP => k _ (h P hP) rfl
theorem Idle.m {l l' : List (Addr × Obj)} (h : Idle l) (k : KM l l') : Idle l' := fun P hP => k _ (h P hP) rfl (.inr (by rcases hP with rfl | rfl | rfl | rfl <;> decide))
structure RowSt (hd sc rl cK cO : Addr) (ws : List Value) (k : Nat) (its : List Value) (rows : List (Nm × Nm)) (l : List (Addr × Obj)) : Prop where
  hand : ∃ t, ListAt l hd [.ref sc, .int (k : Int) t]
  scr : ListAt l sc ws
  app : AppAt l rl its
  rin : RowsIn l its rows
  tabs : Tabs l
  idle : Idle l
  cellK : CellO l cK
  cellO : CellO l cO
structure RowC (hd sc rl cK cO : Addr) : Prop where
  sh : sc ≠ hd
  rh : rl ≠ hd
  sr : sc ≠ rl
  kh : cK ≠ hd
  oh : cO ≠ hd
  kr : cK ≠ rl
  or : cO ≠ rl
section
variable {g h : Heap} {L I hd sc rl cK cO : Addr} {ws its : List Value} {k : Nat} {rows : List (Nm × Nm)} {l l' : List (Addr × Obj)}
theorem RowSt.sub (S : RowSt hd sc rl cK cO ws k its rows l) (s : Sub l l') : RowSt hd sc rl cK cO ws k its rows l' :=
  ⟨let ⟨t, h⟩ := S.hand; ⟨t, h.mono s.keeps⟩, S.scr.mono s.keeps, S.app.mono s.keeps, S.rin.mono s.keeps, S.tabs.mono s.i, S.idle.i s.i, S.cellK.mono s.keeps, S.cellO.mono s.keeps⟩
theorem RowSt.j (S : RowSt hd sc rl cK cO ws k its rows l) (s : KeepsJ I l l') : RowSt hd sc rl cK cO ws k its rows l' :=
  ⟨let ⟨t, h⟩ := S.hand; ⟨t, h.mono s.keeps⟩, S.scr.mono s.keeps, S.app.mono s.keeps, S.rin.mono s.keeps, S.tabs.mono s.i, S.idle.i s.i, S.cellK.mono s.keeps, S.cellO.mono s.keeps⟩
theorem list_at {a : Addr} {vs : List Value} (D : ListAt l a vs) : ∃ o, (a, o) ∈ l ∧ o.cls = .type "list" ∧ fieldy o = false := let ⟨o, h1, h2, _, h3⟩ := D; ⟨o, h1, h2, by unfold fieldy; rw [h3]⟩
theorem RowSt.next {k' : Nat} {t : Tok} (C : RowC hd sc rl cK cO) (S : RowSt hd sc rl cK cO ws k its rows l) (N : News g L h l) (s : SubBut hd l l') (H : ListAt l' hd [.ref sc, .int (k' : Int) t]) : RowSt hd sc rl cK cO ws k' its rows l' := by
  obtain ⟨_, h0⟩ := S.hand
  obtain ⟨o, h1, h2, h3⟩ := list_at h0
  exact ⟨⟨_, H⟩, S.scr.but s C.sh, S.app.but s C.rh, rows_but N h1 (by rw [h2]; exact list_ne_tup) s S.rin, S.tabs.kf (kf_but N h1 h3 s), S.idle.kf (kf_but N h1 h3 s), S.cellK.but s C.kh, S.cellO.but s C.oh⟩
theorem RowSt.above {a : Addr} (S : RowSt hd sc rl cK cO ws k its rows l) (l1 : ∀ p ∈ l, p.1 < a) : a ≠ hd := by
  obtain ⟨_, _, h1, _⟩ := S.hand
  exact Nat.ne_of_gt (l1 _ h1)
theorem iter_list {oI : Obj} {a : Addr} {vs : List Value} (hm : (I, oI) ∈ l) (hi : iterish oI = true) (N : News g L h l) (D : ListAt l a vs) (s : SubBut a l l') : (I, oI) ∈ l' := by
  obtain ⟨o, h1, h2, n, h3⟩ := D
  refine other_in N h1 s hm fun e => ?_
  dsimp only at e
  rw [e] at hi
  unfold iterish at hi
  rw [h2, h3] at hi; cases hi
theorem RowSt.put {T : Addr} {t1 t2 : Tok} {q : Nm × Nm} (C : RowC hd sc rl cK cO) (S : RowSt hd sc rl cK cO ws k its rows l) (N : News g L h l) (s : SubBut rl l l') (D : AppAt l' rl (its ++ [.ref T])) (hT : TupAt l T [.str q.1.str t1, .str q.2.str t2]) : RowSt hd sc rl cK cO ws k (its ++ [.ref T]) (rows ++ [q]) l' := by
  obtain ⟨n, h1⟩ := S.app
  obtain ⟨t, h0⟩ := S.hand
  exact ⟨⟨t, h0.but s (Ne.symm C.rh)⟩, S.scr.but s C.sr, D, (rows_but N h1 list_ne_tup s S.rin).snoc ⟨T, t1, t2, rfl, tup_but N h1 list_ne_tup s hT⟩, S.tabs.kf (kf_but N h1 rfl s), S.idle.kf (kf_but N h1 rfl s), S.cellK.but s C.kr, S.cellO.but s C.or⟩
theorem pick3 {v : Int} {t1 t2 t3 : Tok} {a : Addr} (_D : ListAt l a [.str (Str.ofString "x") t1, .str (Str.ofString "y") t2, .str (Str.ofString "w") t3]) (h0 : 0 ≤ v) (h1 : v < 3) : ∃ n t, [Value.str (Str.ofString "x") t1, .str (Str.ofString "y") t2, .str (Str.ofString "w") t3][v.toNat]? = some (.str (Nm.str n) t) ∧ isVar n = true := by
  obtain ⟨j, rfl⟩ := Int.eq_ofNat_of_zero_le h0
  match j, h1 with
  | 0, _ => exact ⟨.x, t1, rfl, rfl⟩
  | 1, _ => exact ⟨.y, t2, rfl, rfl⟩
  | 2, _ => exact ⟨.w, t3, rfl, rfl⟩
  | n + 3, h => exact absurd h (by omega)
theorem pick6 {v : Int} {t1 t2 t3 t4 t5 t6 : Tok} {a : Addr} (_D : ListAt l a [.str (Str.ofString "x") t1, .str (Str.ofString "y") t2, .str (Str.ofString "w") t3, .str (Str.ofString "rex") t4, .str (Str.ofString "tom") t5, .str (Str.ofString "mother") t6]) (h0 : 0 ≤ v) (h1 : v < 6) : ∃ n t, [Value.str (Str.ofString "x") t1, .str (Str.ofString "y") t2, .str (Str.ofString "w") t3, .str (Str.ofString "rex") t4, .str (Str.ofString "tom") t5, .str (Str.ofString "mother") t6][v.toNat]? = some (.str (Nm.str n) t) ∧ six n = true := by
  obtain ⟨j, rfl⟩ := Int.eq_ofNat_of_zero_le h0
  match j, h1 with
  | 0, _ => exact ⟨.x, t1, rfl, rfl⟩
  | 1, _ => exact ⟨.y, t2, rfl, rfl⟩
  | 2, _ => exact ⟨.w, t3, rfl, rfl⟩
  | 3, _ => exact ⟨.rex, t4, rfl, rfl⟩
  | 4, _ => exact ⟨.tom, t5, rfl, rfl⟩
  | 5, _ => exact ⟨.mother, t6, rfl, rfl⟩
  | n + 6, h => exact absurd h (by omega)
theorem twoLists {rest : List (Addr × Obj)} {t : Tok} {vs : List Value} (_N : News g L h ((hd, W.listOf #[.ref sc, .int 0 t] 0) :: (sc, W.listOf vs.toArray 0) :: rest)) :
    ListAt ((hd, W.listOf #[.ref sc, .int 0 t] 0) :: (sc, W.listOf vs.toArray 0) :: rest) hd [.ref sc, .int ((0 : Nat) : Int) t] ∧ ListAt ((hd, W.listOf #[.ref sc, .int 0 t] 0) :: (sc, W.listOf vs.toArray 0) :: rest) sc vs :=
  ⟨⟨_, .head _, rfl, _, rfl⟩, ⟨_, .tail _ (.head _), rfl, _, rfl⟩⟩
theorem headList {a : Addr} {vs : List Value} {n : Nat} (_N : News g L h ((a, W.listOf vs.toArray n) :: l)) : ListAt ((a, W.listOf vs.toArray n) :: l) a vs := ⟨_, .head _, rfl, _, rfl⟩
theorem TupAt.isT {T : Addr} {vs : List Value} (D : TupAt l T vs) (N : News g L h l) : IsTup h T vs.toArray := let ⟨o, h1, h2, n, h3⟩ := D; ⟨o, (N _ h1).1, h2, n, h3⟩
theorem headLst {a : Addr} {vs : List Value} (_N : News g L h ((a, ({ cls := .type "list", data := .seq vs.toArray vs.length } : Obj)) :: l)) : ListAt ((a, ({ cls := .type "list", data := .seq vs.toArray vs.length } : Obj)) :: l) a vs := ⟨_, .head _, rfl, _, rfl⟩
theorem tabsOf (_N : News g L h l) (h1 : (282, tabObj #[]) ∈ l) (h2 : (270, tabObj #[]) ∈ l) (h3 : (256, tabObj #[]) ∈ l) : Tabs l := ⟨.inl h1, .inl h2, .inl h3⟩
theorem idleOf (_N : News g L h l) (h1 : (303, tabObj #[]) ∈ l) (h2 : (296, tabObj #[]) ∈ l) (h3 : (289, tabObj #[]) ∈ l) (h4 : (322, tabObj #[]) ∈ l) : Idle l := fun P hP => by
  rcases hP with rfl | rfl | rfl | rfl <;> assumption
theorem Idle.list (T : Idle l) {a : Addr} {vs : List Value} (N : News g L h l) (D : ListAt l a vs) (s : SubBut a l l') : Idle l' := let ⟨_, h1, _, h3⟩ := list_at D; T.kf (kf_but N h1 h3 s)
theorem Idle.grown (T : Idle l) (N : News g L h l) {P : Addr} (hP : P = 303 ∨ P = 296 ∨ P = 289 ∨ P = 322) : GrownAt P h := .of N (T P hP)
theorem Tabs.grown (T : Tabs l) (N : News g L h l) {P : Addr} (hP : P = 282 ∨ P = 270 ∨ P = 256) : GrownAt P h := by
  rcases hP with rfl | rfl | rfl
  · obtain ⟨_, h⟩ := two_at T.f; exact .of N h
  · obtain ⟨_, h⟩ := one_at T.v; exact .of N h
  · obtain ⟨_, h⟩ := one_at T.r; exact .of N h
theorem Tabs.list (T : Tabs l) {a : Addr} {vs : List Value} (N : News g L h l) (D : ListAt l a vs) (s : SubBut a l l') : Tabs l' := let ⟨_, h1, _, h3⟩ := list_at D; T.kf (kf_but N h1 h3 s)
theorem RowC.of {l : List (Addr × Obj)} {v1 v2 : List Value} (l1 : ∀ p ∈ l, p.1 < rl) (H : ListAt l hd v1) (S : ListAt l sc v2) (K : CellO l cK) (O : CellO l cO) (h1 : (sc : Nat) < hd) (h2 : (cK : Nat) < hd) (h3 : (cO : Nat) < hd) : RowC hd sc rl cK cO := by
  obtain ⟨_, a1, _⟩ := H
  obtain ⟨_, a2, _⟩ := S
  obtain ⟨_, _, a3, _⟩ := K
  obtain ⟨_, _, a4, _⟩ := O
  exact ⟨Nat.ne_of_lt h1, Nat.ne_of_gt (l1 _ a1), Nat.ne_of_lt (l1 _ a2), Nat.ne_of_lt h2, Nat.ne_of_lt h3, Nat.ne_of_lt (l1 _ a3), Nat.ne_of_lt (l1 _ a4)⟩
theorem RowSt.start {t : Tok} (_N : News g L h ((rl, W.listOf #[] 0) :: l)) (H : ListAt l hd [.ref sc, .int (k : Int) t]) (S : ListAt l sc ws) (T : Tabs l) (J : Idle l) (K : CellO l cK) (O : CellO l cO) : RowSt hd sc rl cK cO ws k [] [] ((rl, W.listOf #[] 0) :: l) :=
  have s : Sub l ((rl, W.listOf #[] 0) :: l) := Sub.refl.cons
  ⟨⟨t, H.mono s.keeps⟩, S.mono s.keeps, ⟨0, .head _⟩, .nil, T.mono s.i, J.i s.i, K.mono s.keeps, O.mono s.keeps⟩
theorem RowsOk.snoc {q : Nm × Nm} (h : RowsOk rows) (h1 : isVar q.1 = true) (h2 : six q.2 = true) : RowsOk (rows ++ [q]) := fun x hx => by
  rcases List.mem_append.mp hx with hx | hx
  · exact h x hx
  · rw [List.mem_singleton.mp hx]; exact ⟨h1, h2⟩
theorem range_is {n : Nat} (h : n < 7) : Builtin.Range.small 0 (n : Int) 1 = true ∧ Builtin.Range.rangeSize 0 (n : Int) 1 = ((n : Nat) : Int) := by
  match n, h with
  | 0, _ => exact ⟨rfl, rfl⟩
  | 1, _ => exact ⟨rfl, rfl⟩
  | 2, _ => exact ⟨rfl, rfl⟩
  | 3, _ => exact ⟨rfl, rfl⟩
  | 4, _ => exact ⟨rfl, rfl⟩
  | 5, _ => exact ⟨rfl, rfl⟩
  | 6, _ => exact ⟨rfl, rfl⟩
  | n + 7, h => exact absurd h (by omega)
end
theorem ltOfCell {l : List (Addr × Obj)} {c a : Addr} (l1 : ∀ p ∈ l, p.1 < a) (h : CellO l c) : (c : Nat) < a := let ⟨_, _, h1, _⟩ := h; l1 _ h1
/-! the state of the loop over the two sides -/
section
variable {prog : Program} {w : World}
structure OutSt (prog : Program) (w : World) (n0 : List (Addr × Obj)) (cK cO sd pA pB : Addr) (isA isB : List Value) (i : Nat) (l : List (Addr × Obj)) : Prop where
  old : KM n0 l
  pa : ListAt l pA isA
  pb : ListAt l pB isB
  tabs : Tabs l
  cellK : CellO l cK
  cellO : CellO l cO
  sides : ∃ ts, AppAt l sd ts ∧ ts.length = i ∧ ∀ v ∈ ts, SideIn prog w sd l v
structure OutC (n0 : List (Addr × Obj)) (cK cO sd pA pB : Addr) : Prop where
  n0s : ∀ p ∈ n0, p.1 < sd
  sA : (sd : Nat) < pA
  sB : (sd : Nat) < pB
  cKs : (cK : Nat) < sd
  cOs : (cO : Nat) < sd
  cc : cK ≠ cO
variable {g h : Heap} {L I cK cO sd pA pB T : Addr} {isA isB its : List Value} {i : Nat} {rows : List (Nm × Nm)} {n0 l l' : List (Addr × Obj)}
theorem OutSt.j (C : OutC n0 cK cO sd pA pB) (S : OutSt prog w n0 cK cO sd pA pB isA isB i l) (s : KeepsJ I l l') (hI : (sd : Nat) < I) : OutSt prog w n0 cK cO sd pA pB isA isB i l' :=
  ⟨S.old.j s fun p hp => Nat.lt_trans (C.n0s p hp) hI, S.pa.mono s.keeps, S.pb.mono s.keeps, S.tabs.mono s.i, S.cellK.mono s.keeps, S.cellO.mono s.keeps, let ⟨ts, a, b, c⟩ := S.sides; ⟨ts, a.mono s.keeps, b, fun v hv => (c v hv).keeps s.keeps⟩⟩
theorem OutSt.km (S : OutSt prog w n0 cK cO sd pA pB isA isB i l) (k : KM l l') (T : Tabs l') (K : CellO l' cK) (O : CellO l' cO) : OutSt prog w n0 cK cO sd pA pB isA isB i l' :=
  ⟨S.old.trans k, S.pa.m k, S.pb.m k, T, K, O, let ⟨ts, a, b, c⟩ := S.sides; ⟨ts, a.m k, b, fun v hv => (c v hv).m k⟩⟩
theorem OutSt.app {ts : List Value} (C : OutC n0 cK cO sd pA pB) (S : OutSt prog w n0 cK cO sd pA pB isA isB i l) (N : News g L h l) (s : SubBut sd l l') (k : KeepsA l l') (hts : AppAt l sd ts) (hn : ts.length = i) (hall : ∀ v ∈ ts, SideIn prog w sd l v)
    (D : AppAt l' sd (ts ++ [.ref T])) (hS : SideIn prog w sd l (.ref T)) : OutSt prog w n0 cK cO sd pA pB isA isB (i + 1) l' := by
  obtain ⟨n, h1⟩ := hts
  refine ⟨S.old.but s C.n0s, S.pa.but s (Nat.ne_of_gt C.sA), S.pb.but s (Nat.ne_of_gt C.sB), S.tabs.kf (kf_but N h1 rfl s), S.cellK.but s (Nat.ne_of_lt C.cKs), S.cellO.but s (Nat.ne_of_lt C.cOs), _, D, by rw [List.length_append, hn]; rfl, fun v hv => ?_⟩
  rcases List.mem_append.mp hv with hv | hv
  · exact (hall v hv).but N h1 s k
  · rw [List.mem_singleton.mp hv]; exact hS.but N h1 s k
/-- one of the two parts of the rows -/
theorem OutSt.part {v : Value} {ct : Nat} (S : OutSt prog w n0 cK cO sd pA pB (its.take ct) (its.drop ct) i l) (hr : RowsIn n0 its rows) (hok : RowsOk rows) (hz : rows.length ≤ 6) (hv : [Value.ref pA, .ref pB][i]? = some v) :
    ∃ pv isP rP, v = .ref pv ∧ ListAt l pv isP ∧ RowsIn l isP rP ∧ RowsOk rP ∧ rP.length ≤ 6 := by
  have hr' := hr.m S.old
  match i, hv with
  | 0, hv =>
    cases hv
    exact ⟨pA, _, rows.take ct, rfl, S.pa, rel2_take hr' ct, hok.take ct, by rw [List.length_take]; omega⟩
  | 1, hv =>
    cases hv
    exact ⟨pB, _, rows.drop ct, rfl, S.pb, rel2_drop hr' ct, hok.drop ct, by rw [List.length_drop]; omega⟩
  | n + 2, hv => cases hv
theorem OutSt.start (_N : News g L h ((I, W.listOf #[.ref pA, .ref pB] 0) :: (pB, W.listOf isB.toArray 0) :: (pA, W.listOf isA.toArray 0) :: (sd, W.listOf #[] 0) :: n0)) (T : Tabs n0) (K : CellO n0 cK) (O : CellO n0 cO) :
    OutSt prog w n0 cK cO sd pA pB isA isB 0 ((I, W.listOf #[.ref pA, .ref pB] 0) :: (pB, W.listOf isB.toArray 0) :: (pA, W.listOf isA.toArray 0) :: (sd, W.listOf #[] 0) :: n0) := by
  have s : Sub n0 ((I, W.listOf #[.ref pA, .ref pB] 0) :: (pB, W.listOf isB.toArray 0) :: (pA, W.listOf isA.toArray 0) :: (sd, W.listOf #[] 0) :: n0) := Sub.refl.cons.cons.cons.cons
  exact ⟨s.m, ⟨_, .tail _ (.tail _ (.head _)), rfl, _, rfl⟩, ⟨_, .tail _ (.head _), rfl, _, rfl⟩, T.mono s.i, K.mono s.keeps, O.mono s.keeps, [], ⟨0, .tail _ (.tail _ (.tail _ (.head _)))⟩, rfl, fun _ h => nomatch h⟩
theorem held_lt {b d a : Addr} {κ : List (Nm × Nm)} (H : HeldAt prog w l b d κ) (l1 : ∀ p ∈ l, p.1 < a) : (d : Nat) < a := let ⟨_, h1, _⟩ := held_at H; l1 _ h1
theorem InSt.start {bb db kd tk T : Addr} {oT od : Obj} {n5 n9 : List (Addr × Obj)} (S9 : Sub n5 n9) (HB : HeldAt prog w n9 bb db []) (T5 : Tabs n5) (O : CellO n9 cO) (cc : cK ≠ cO) (hd : od.IsDictOf (PySem.strKind prog w) []) (hs : (kd == sysModules) = false)
    (CK : KeepsC ((T, oT) :: (tk, W.listOf #[] 0) :: (kd, od) :: n9) l) (SK : SubBut cK ((T, oT) :: (tk, W.listOf #[] 0) :: (kd, od) :: n9) l) (VK : CellAt l cK (.ref kd)) : InSt prog w n5 cK cO bb db kd tk [] [] [] [] l := by
  have s : Sub n9 ((T, oT) :: (tk, W.listOf #[] 0) :: (kd, od) :: n9) := Sub.refl.cons.cons.cons
  exact ⟨(HB.mono s.keeps).m CK.m, KeptAt.m ⟨[], ⟨od, .tail _ (.tail _ (.head _)), hd, hs⟩, .nil⟩ CK.m, AppAt.m ⟨0, .tail _ (.head _)⟩ CK.m, .nil, VK, (O.mono s.keeps).but SK (Ne.symm cc), (T5.mono (S9.trans s).i).c CK, (S9.trans s).m.trans CK.m⟩
theorem InC.of {db kd tk : Addr} {bb : Addr} {n5 n9 : List (Addr × Obj)} (h1 : ∀ p ∈ n5, p.1 < db) (HB : HeldAt prog w n9 bb db []) (h2 : ∀ p ∈ n9, p.1 < kd) (h3 : (kd : Nat) < tk) (K : CellO n5 cK) (O : CellO n5 cO) (cc : cK ≠ cO) : InC n5 cK cO db kd tk :=
  ⟨h1, held_lt HB h2, h3, ltOfCell h1 K, ltOfCell h1 O, cc⟩
theorem iter_fieldy {o : Obj} (h : iterish o = true) : fieldy o = true := by
  obtain ⟨c, d, da, sl⟩ := o
  unfold iterish at h
  unfold fieldy
  cases da with
  | fields x => rfl
  | _ => cases c <;> cases h
/-- a loop's iterator and its list -/
structure Trk (I : Addr) (oI : Obj) (x : Addr) (o : Obj) (l : List (Addr × Obj)) : Prop where
  it : (I, oI) ∈ l
  is : iterish oI = true
  li : (x, o) ∈ l
  no : cellish o = false
section
variable {x y : Addr} {oI o : Obj}
theorem Trk.sub (T : Trk I oI x o l) (s : Sub l l') : Trk I oI x o l' := ⟨s _ T.it, T.is, s _ T.li, T.no⟩
theorem Trk.c (T : Trk I oI x o l) (s : KeepsC l l') : Trk I oI x o l' := ⟨s _ T.it (iter_cellish T.is), T.is, s _ T.li T.no, T.no⟩
theorem Trk.but (T : Trk I oI x o l) (k : KF l l') (s : SubBut y l l') (ne : x ≠ y) : Trk I oI x o l' := ⟨k _ T.it (iter_fieldy T.is), T.is, s _ T.li ne, T.no⟩
theorem Trk.all (T : Trk I oI x o l) : ∀ p ∈ [(I, oI), (x, o)], p ∈ l := fun p hp => by
  rcases List.mem_cons.mp hp with rfl | hp
  · exact T.it
  · rw [List.mem_singleton.mp hp]; exact T.li
theorem seq_cellish {o : Obj} {its : Array Value} {n : Nat} (h : o.data = .seq its n) : cellish o = false := by unfold cellish; rw [h]
end
section
variable {n1 : List (Addr × Obj)} {b d kd tk : Addr} {its : List Value} {κh κk τ : List (Nm × Nm)}
theorem InSt.kfK (S : InSt prog w n1 cK cO b d kd tk its κh κk τ l) (N : News g L h l) (s : SubBut kd l l') : KF l l' := let ⟨_, h1, _, h3⟩ := kept_at S.kept; kf_but N h1 h3 s
theorem InSt.kfD (S : InSt prog w n1 cK cO b d kd tk its κh κk τ l) (N : News g L h l) (s : SubBut d l l') : KF l l' := let ⟨_, h1, _, h3⟩ := held_at S.held; kf_but N h1 h3 s
theorem InSt.kfT (S : InSt prog w n1 cK cO b d kd tk its κh κk τ l) (N : News g L h l) (s : SubBut tk l l') : KF l l' := let ⟨_, h1⟩ := S.tkn; kf_but N h1 rfl s
end
theorem InSt.re {n1 : List (Addr × Obj)} {b d kd tk : Addr} {its : List Value} {κ κ' τ τ' : List (Nm × Nm)} (S : InSt prog w n1 cK cO b d kd tk its κ κ τ l) (h1 : κ' = κ) (h2 : τ' = τ) : InSt prog w n1 cK cO b d kd tk its κ' κ' τ' l := by subst h1 h2; exact S
theorem okF_of {κ κ' : List (Nm × Nm)} {q : Nm × Nm} (h : keepF κ q.1 q.2 = some κ') : okF κ q = true ∧ keepG κ q = κ' := by
  unfold okF keepG; rw [h]; exact ⟨rfl, rfl⟩
theorem okF_no {κ : List (Nm × Nm)} {q : Nm × Nm} (h : keepF κ q.1 q.2 = none) : okF κ q = false ∧ keepG κ q = κ := by
  unfold okF keepG; rw [h]; exact ⟨rfl, rfl⟩
theorem runK_small {rP : List (Nm × Nm)} (h : rP.length ≤ 6) (i : Nat) : (runK [] (rP.take i)).length ≤ 6 := by
  have h1 := runK_len (l := rP.take i) (κ := [])
  have h2 : (rP.take i).length ≤ rP.length := by rw [List.length_take]; exact Nat.min_le_right _ _
  simp only [List.length_nil] at h1; omega
theorem runK_take {rP : List (Nm × Nm)} {i : Nat} {q : Nm × Nm} (h : rP[i]? = some q) : runK [] (rP.take (i + 1)) = keepG (runK [] (rP.take i)) q := by rw [take_succ' h, runK_snoc]
theorem taken_take {rP : List (Nm × Nm)} {i : Nat} {q : Nm × Nm} (h : rP[i]? = some q) : takenOf [] (rP.take (i + 1)) = takenOf [] (rP.take i) ++ (if okF (runK [] (rP.take i)) q = true then [q] else []) := by rw [take_succ' h, takenOf_snoc]
end
end
section
theorem offY2 : True := by
  w_top off
  trivial
open PyProof.Rows.LCg PySem PySem.W PySem.Spec PySem.Calls PyProof.Rows
set_option maxRecDepth 100000
section
variable {prog : Program} {w : World} {p : Program} {loose : List Str} {mean : ExcName → Option Value} {mg mb : Str → Option Value}
local macro_rules | `(tactic| walk_at "compareOp Eq ref ref") => `(tactic| (k_here; (refine cmp_ofEq ?_); k_dflt (refine' cmp_K ?k1 ?k2 ?k3 ?k4 ?k5 ?k6 ?k7 ?k8 ?_; (case k1 => k_units); (case k2 => k_asm); (case k3 => k_asm); (case k4 => k_inst); (case k5 => exact InstAt.type (by k_inst)); (case k6 => k_is); (case k7 => k_is); (case k8 => k_is); k_whole)))
local macro_rules | `(tactic| k_is) => `(tactic| first
  | with_reducible exact kfA _ _
  | with_reducible exact kfB _ _
  | with_reducible exact kfC _ _
  | with_reducible exact kfD _ _
  | with_reducible exact kfE _ _
  | with_reducible exact kfF _ _
  | with_reducible exact kfM _ _
  | with_reducible exact kfG _ _
  | with_reducible exact kfH _ _
  | with_reducible exact kfI _ _ _
  | with_reducible exact kfJ _ _
  | with_reducible exact kfK _ _
  )
local macro_rules | `(tactic| ktr_rel) => `(tactic| first
  | (refine HeldAt.mono (by with_reducible assumption) ?_; ktr_rel)
  | (refine KeptAt.mono (by with_reducible assumption) ?_; ktr_rel)
  | (refine AppAt.mono (by with_reducible assumption) ?_; ktr_rel)
  | (refine ListAt.mono (by with_reducible assumption) ?_; ktr_rel)
  | (refine ListAt.mono (AppAt.list (by with_reducible assumption)) ?_; ktr_rel)
  | (refine' ListAt.but (by with_reducible assumption) ?kk ?hh; (case kk => ktr_rel); (case hh => with_reducible assumption))
  | (refine' AppAt.but (by with_reducible assumption) ?kk ?hh; (case kk => ktr_rel); (case hh => with_reducible assumption)))
local macro_rules | `(tactic| walk_at "subscriptTail") => `(tactic| (k_here; (with_reducible show wpAny _ _ (subscriptTail _ _ (Value.ref _) (Value.int _ _)) _ _ _); k_dflt (refine' la_item ?N ?D ?a ?b ?c ?_; (case N => k_asm); (case D => ktr_rel); (case a => decide); (case b => decide); (case c => rfl))))
local macro_rules | `(tactic| walk_at "subscriptTail Name Constant ref int") => `(tactic| (k_here; (with_reducible show wpAny _ _ (subscriptTail _ _ (Value.ref _) (Value.int _ _)) _ _ _); k_dflt (refine' la_item ?N ?D ?a ?b ?c ?_; (case N => k_asm); (case D => ktr_rel); (case a => decide); (case b => decide); (case c => rfl))))
local macro_rules | `(tactic| walk_at "setItem ref int") => `(tactic| (k_here; k_dflt (refine' la_set ?F ?N ?D ?a ?b ?c ?_; (case F => k_asm); (case N => k_asm); (case D => ktr_rel); (case a => decide); (case b => decide); (case c => simp); k_whole); intro h9 news9 F9 N9 S9 A9 D9))
local macro_rules | `(tactic| walk_at "call builtin:len") => `(tactic| (k_here; (with_reducible show wpAny _ _ (call (Value.builtin "len") [Value.ref _]) _ _ _); k_dflt (refine' la_len ?N ?D ?z ?_; (case N => k_asm); (case D => ktr_rel); (case z => first | with_reducible assumption | omega))))
local macro_rules | `(tactic| walk_at "call builtin:list.append") => `(tactic| (k_here; (with_reducible show wpAny _ _ (call (Value.builtin "list.append") [Value.ref _, _]) _ _ _); k_dflt (refine' la_append ?F ?N ?D ?z ?_; (case F => k_asm); (case N => k_asm); (case D => ktr_rel); (case z => first | assumption | (rw [sizeLine_eq]; omega)); k_whole); intro h9 news9 F9 N9 S9 A9 D9))
local macro_rules | `(tactic| ktr_rel) => `(tactic| first
  | exact KeepsI.refl
  | (refine KeepsI.cons ?_; ktr_rel)
  | (refine KeepsI.trans ?_ (Sub.i (by with_reducible assumption)); ktr_rel)
  | (refine KeepsI.trans ?_ (by with_reducible assumption); ktr_rel)
  | (refine Keeps.trans ?_ (KeepsI.keeps (by with_reducible assumption)); ktr_rel)
  | (refine KeepsA.trans ?_ (KeepsI.a (by with_reducible assumption)); ktr_rel)
  | (refine TupAt.mono (by with_reducible assumption) ?_; ktr_rel))
local macro_rules | `(tactic| ktr_rel) => `(tactic| first
  | exact KeepsC.refl
  | (refine KeepsC.cons ?_; ktr_rel)
  | (refine KeepsC.trans ?_ (Sub.c (by with_reducible assumption)); ktr_rel)
  | (refine KeepsC.trans ?_ (by with_reducible assumption); ktr_rel)
  | (refine ListAt.monoC (by with_reducible assumption) ?_; ktr_rel))
local macro_rules | `(tactic| ktr_rel) => `(tactic| first
  | exact SubT.refl
  | (refine SubT.cons ?_; ktr_rel)
  | (refine SubT.trans ?_ (Sub.t (by with_reducible assumption)); ktr_rel)
  | (refine SubT.trans ?_ (by with_reducible assumption); ktr_rel)
  | (refine SubT.trans ?_ (SubBut.t1 (by with_reducible assumption)); ktr_rel)
  | (refine SubT.trans ?_ (SubBut.t2 (by with_reducible assumption)); ktr_rel)
  | (refine SubT.trans ?_ (SubBut.t3 (by with_reducible assumption)); ktr_rel)
  | (refine CodeAt.monoT (by with_reducible assumption) ?_; ktr_rel)
  | (refine' Tabs.f2 ?t1 ?t2 ?t3 ?t4; (case t1 => with_reducible assumption); (case t2 => with_reducible assumption); (case t3 => with_reducible assumption); (case t4 => ktr_rel))
  | (refine' Tabs.v2 ?t1 ?t2 ?t4; (case t1 => with_reducible assumption); (case t2 => with_reducible assumption); (case t4 => ktr_rel))
  | (refine' Tabs.r2 ?t1 ?t2 ?t4; (case t1 => with_reducible assumption); (case t2 => with_reducible assumption); (case t4 => ktr_rel))
  | (refine Tabs.cons ?_; ktr_rel)
  | (refine Tabs.mono (by with_reducible assumption) ?_; ktr_rel)
  | (refine' Runs.mk ?r1 ?r2 ?r3; (case r1 => ktr_rel); (case r2 => ktr_rel); (case r3 => ktr_rel)))
local macro_rules | `(tactic| ktr_rel) => `(tactic| (refine HeldAt.mono (by with_reducible assumption) ?_; ktr_rel))
def GoIf : Prop := True
def GoD : Prop := True
/-- behind the choice of what is due -/
def DueEnd (G : Heap → Prop) (L : Addr) (m : Str → Option Value) (s₁ : Shared) (nb : List (Addr × Obj)) (dl : List Nm) (fl : Flow) (s' : Shared) : Prop :=
  fl = .next ∧ ∃ g h tk Dd yd n, s' = { s₁ with heap := h, toks := tk } ∧ G g ∧ Fr g L h (fun z => if z = Str.ofString "due" then some (.ref Dd) else m z) ∧ News g L h n ∧ Sub nb n ∧ ListAt n Dd yd ∧ NamesIn yd dl
theorem dueMono {M : Model} {A A₀ : Around} {base g₀ g h : Heap} {outer : List Env} {t : Sem Flow} {E : Value → Shared → Prop} {Q : Flow → Shared → Prop} {s : Shared} {L : Addr} {m : Str → Option Value} {v : Value} (_hg : Gd w p loose mean mg mb A₀ base outer g₀ g) (_F : Fr g L h (fun z => if z = Str.ofString "due" then some v else m z))
    (nb : List (Addr × Obj)) (dl : List Nm) (h1 : wpAny M A t (DueEnd (Gd w p loose mean mg mb A₀ base outer g₀) L m s nb dl) E s) (h2 : ∀ fl s', DueEnd (Gd w p loose mean mg mb A₀ base outer g₀) L m s nb dl fl s' → Q fl s') : wpAny M A t Q E s := wpAny_mono h1 h2 fun _ _ e => e
theorem frTwo {g h : Heap} {L : Addr} {x : Str} {a b : Option Value} {m : Str → Option Value} (F : Fr g L h (fun z => if z = x then a else if z = x then b else m z)) : Fr g L h (fun z => if z = x then a else m z) := by
  have : (fun z => if z = x then a else if z = x then b else m z) = fun z => if z = x then a else m z := funext fun z => by
    by_cases e : z = x
    · rw [if_pos e, if_pos e]
    · rw [if_neg e, if_neg e, if_neg e]
  rw [← this]; exact F
theorem DueEnd.intro {G : Heap → Prop} {L Dd : Addr} {m : Str → Option Value} {s₁ : Shared} {nb n : List (Addr × Obj)} {dl : List Nm} {g h : Heap} {tk : Nat} {yd : List Value} (hg : G g) (F : Fr g L h (fun z => if z = Str.ofString "due" then some (.ref Dd) else m z)) (N : News g L h n) (S : Sub nb n) (D : ListAt n Dd yd) (M : NamesIn yd dl) :
    DueEnd G L m s₁ nb dl .next { s₁ with heap := h, toks := tk } := ⟨rfl, g, h, tk, Dd, yd, n, rfl, hg, F, N, S, D, M⟩
theorem DictAt.monoC {l l' : List (Addr × Obj)} {d : Addr} {kvs : List (Str × Value)} (D : DictAt prog w l d kvs) (k : KeepsC l l') : DictAt prog w l' d kvs := by
  obtain ⟨o, h1, h2, h3⟩ := D
  refine ⟨o, k _ h1 ?_, h2, h3⟩
  obtain ⟨es, ep, _, hda, _⟩ := h2
  unfold cellish; dsimp only; rw [hda]
theorem KeptAt.monoC {l l' : List (Addr × Obj)} {d : Addr} {κ : List (Nm × Nm)} (H : KeptAt prog w l d κ) (k : KeepsC l l') : KeptAt prog w l' d κ := let ⟨kvs, a1, a2⟩ := H; ⟨kvs, a1.monoC k, a2⟩
theorem kept0 {g h : Heap} {L Ed : Addr} {o : Obj} {l : List (Addr × Obj)} (_N : News g L h ((Ed, o) :: l)) (hd : o.IsDictOf (PySem.strKind prog w) []) (hs : (Ed == sysModules) = false) : KeptAt prog w ((Ed, o) :: l) Ed [] := ⟨[], ⟨o, .head _, hd, hs⟩, .nil⟩
theorem truthyN {A : Around} {E : Value → Shared → Prop} {s : Shared} {n : Nm} {t : Tok} {Q : Bool → Shared → Prop} (h : Q true { s with toks := s.toks + 1 + 1 }) : wpAny (model prog w) A (truthy (.str n.str t)) Q E s := by
  cases n <;> exact PySem.P.truthy_str (by decide +kernel) (by rw [show ((_ : Int) != 0) = true from by decide +kernel]; exact h)
theorem dictish_of {o : Obj} {kvs : List (Str × Value)} (h : o.IsDictOf (PySem.strKind prog w) kvs) : dictish o = true := by
  obtain ⟨es, ep, _, hda, _⟩ := h
  unfold dictish; rw [hda]
theorem rev_at {ε : List (Nm × Nm)} {i : Nat} {n : Nm} (h : (ε.map (·.1)).reverse[i]? = some n) : ∃ k q, ε.length - i = k + 1 ∧ ε.length - (i + 1) = k ∧ ε[k]? = some q ∧ q.1 = n := by
  obtain ⟨hi, he⟩ := List.getElem?_eq_some_iff.mp h
  rw [List.length_reverse, List.length_map] at hi
  rw [List.getElem_reverse, List.getElem_map] at he
  refine ⟨ε.length - 1 - i, _, by omega, by omega, ?_, he⟩
  simp only [List.length_map]
  rw [List.getElem?_eq_getElem (by omega)]
structure Hold (P : Prop) : Prop where
  it : P
def itN (κ : List (Nm × Nm)) : Nat → Nm → Nm | 0, n => n | j + 1, n => nxt κ (itN κ j n)
theorem nameIt3 {news : List (Addr × Obj)} {c1 c2 d : Addr} (h : (c1 : Nat) < d ∧ (c2 : Nat) < d ∧ AllLt d news) : ∃ D : Addr, D = d ∧ (c1 : Nat) < D ∧ (c2 : Nat) < D ∧ ∀ p ∈ news, p.1 < D := ⟨d, rfl, h.1, h.2.1, fun p hp => ktn_ltOf h.2.2 p hp⟩
section
local macro_rules | `(tactic| walk_at "truthy str") => `(tactic| (k_here; (with_reducible show wpAny _ _ (truthy (Value.str (Nm.str _) _)) _ _ _); k_dflt (refine truthyN ?_)))
local macro_rules | `(tactic| ktr_rel) => `(tactic| (refine CellAt.mono (by with_reducible assumption) ?_; ktr_rel))
local macro_rules | `(tactic| walk_at "eval Name") => `(tactic| (k_here; (with_reducible show wpAny _ _ (eval (Expr.Name _ _) _) _ _ _); k_dflt (first
  | (refine' nameCF ?N ?c ?m ?_ ?a ?b; (case b => rfl); (case a => first | rfl | assumption); (case N => k_asm); (case c => exact rfl); (case m => first | with_reducible assumption | ktr_rel); k_whole)
  | (refine' nameCC ?N ?c ?m ?_ ?a ?b; (case b => rfl); (case a => first | rfl | assumption); (case N => k_asm); (case c => exact rfl); (case m => first | with_reducible assumption | ktr_rel); k_whole))))
local macro_rules | `(tactic| walk_at "eval Name") => `(tactic| (k_here; (fail_if_success (with_reducible show wpAny _ _ (eval (Expr.Name _ _) (compEnvC _ _ _ _)) _ _ _)); k_dflt (first
  | (refine' nameX_L ?F ?v ?_ ?a ?b; (case F => k_asm); (case a => rfl); (case b => rfl); (case v => rfl); k_whole)
  | (refine' nameX_K ?F ?X ?T ?e ?_ ?a ?b; (case F => k_asm); (case X => k_asm); (case T => k_asm); (case a => rfl); (case b => rfl); (case e => k_is); k_whole)
  | (refine' nameX_B ?F ?X ?T ?e ?v ?n ?_ ?a ?b; (case F => k_asm); (case X => k_asm); (case T => k_asm); (case a => rfl); (case b => rfl); (case e => k_is); (case v => boot_fast); (case n => decide); k_whole))))
local macro_rules | `(tactic| walk_at "exec For") => `(tactic| (k_here; (with_reducible show wpAny _ _ (exec (Stmt.For _ _ _ [] _) _) _ _ _); k_dflt (refine' forS ?G ?F ?_; (case F => k_asm); (case G => assumption))))
local macro_rules | `(tactic| walk_at "exec For Name Call") => `(tactic| (k_here; (with_reducible show wpAny _ _ (exec (Stmt.For _ _ _ [] _) _) _ _ _); k_dflt (refine' forS ?G ?F ?_; (case F => k_asm); (case G => assumption))))
local macro_rules | `(tactic| walk_at "exec For Name Call cons nil") => `(tactic| (k_here; (with_reducible show wpAny _ _ (exec (Stmt.For _ _ _ [] _) _) _ _ _); k_dflt (refine' forS ?G ?F ?_; (case F => k_asm); (case G => assumption))))
local macro_rules | `(tactic| walk_at "exec For Name IfExp") => `(tactic| (k_here; (with_reducible show wpAny _ _ (exec (Stmt.For _ _ _ [] _) _) _ _ _); k_dflt (refine' forS ?G ?F ?_; (case F => k_asm); (case G => assumption))))
local macro_rules | `(tactic| walk_at "exec For Name IfExp cons nil") => `(tactic| (k_here; (with_reducible show wpAny _ _ (exec (Stmt.For _ _ _ [] _) _) _ _ _); k_dflt (refine' forS ?G ?F ?_; (case F => k_asm); (case G => assumption))))
local macro_rules | `(tactic| walk_at "exec For Name Name") => `(tactic| (k_here; (with_reducible show wpAny _ _ (exec (Stmt.For _ _ _ [] _) _) _ _ _); k_dflt (refine' forS ?G ?F ?_; (case F => k_asm); (case G => assumption))))
local macro_rules | `(tactic| walk_at "exec For Name Name cons nil") => `(tactic| (k_here; (with_reducible show wpAny _ _ (exec (Stmt.For _ _ _ [] _) _) _ _ _); k_dflt (refine' forS ?G ?F ?_; (case F => k_asm); (case G => assumption))))
local macro_rules | `(tactic| walk_at "storeName") => `(tactic| (k_here; k_dflt (refine' setCell ?F ?N ?c ?m ?_ ?a ?b; (case b => rfl); (case a => first | rfl | assumption); (case c => exact rfl); (case F => k_asm); (case N => k_asm); (case m => first | with_reducible assumption | (refine CellO.mono (by with_reducible assumption) ?_; ktr_rel) | (refine' CellO.but ?n1 ?n2 ?n3; (case n1 => with_reducible assumption); (case n2 => with_reducible assumption); (case n3 => first | assumption | exact Nat.ne_of_lt (Nat.lt_succ_self _) | exact Nat.ne_of_gt (Nat.lt_succ_self _)))); k_whole); intro h9 news9 F9 N9 C9 S9 V9))
local macro_rules | `(tactic| walk_at "compareOp In str ref") => `(tactic| (k_here; k_dflt (refine' in_namesC ?N ?D ?h ?c ?_; (case N => k_asm); (case D => ktr_rel); (case h => with_reducible assumption); (case c => with_reducible assumption))))
local macro_rules | `(tactic| walk_at "compareOp NotIn str ref") => `(tactic| (k_here; k_dflt (refine' notIn_namesC ?N ?D ?h ?c ?_; (case N => k_asm); (case D => ktr_rel); (case h => with_reducible assumption); (case c => with_reducible assumption))))
local macro_rules | `(tactic| walk_at "compareOp Eq ref ref") => `(tactic| (k_here; (with_reducible show wpAny _ _ (compareOp CmpOp.Eq (Value.ref _) (Value.ref _)) _ _ _); k_dflt (refine' eqNil0 ?N ?D ?E ?v ?u ?_; (case N => k_asm); (case E => exact ⟨_, by k_mem, rfl, _, rfl⟩); (case D => first | ktr_rel | exact ⟨_, by k_mem, rfl, _, rfl⟩); (case v => with_reducible assumption); (case u => ktr_units))))
local macro_rules | `(tactic| walk_at "compareOp Eq ref ref") => `(tactic| (k_here; (with_reducible show wpAny _ _ (compareOp CmpOp.Eq (Value.ref _) (Value.ref _)) _ _ _); k_dflt (refine' eqNil1 ?N ?D ?E ?v ?u ?_; (case N => k_asm); (case E => exact ⟨_, by k_mem, rfl, _, rfl⟩); (case D => first | ktr_rel | exact ⟨_, by k_mem, rfl, _, rfl⟩); (case v => with_reducible assumption); (case u => ktr_units))))
local macro_rules | `(tactic| walk_at "compareOp NotEq ref ref") => `(tactic| (k_here; (with_reducible show wpAny _ _ (compareOp CmpOp.NotEq (Value.ref _) (Value.ref _)) _ _ _); k_dflt (refine' neNil0 ?N ?D ?E ?v ?u ?_; (case N => k_asm); (case E => exact ⟨_, by k_mem, rfl, _, rfl⟩); (case D => first | ktr_rel | exact ⟨_, by k_mem, rfl, _, rfl⟩); (case v => with_reducible assumption); (case u => ktr_units))))
local macro_rules | `(tactic| walk_at "compareOp NotEq ref ref") => `(tactic| (k_here; (with_reducible show wpAny _ _ (compareOp CmpOp.NotEq (Value.ref _) (Value.ref _)) _ _ _); k_dflt (refine' neNil1 ?N ?D ?E ?v ?u ?_; (case N => k_asm); (case E => exact ⟨_, by k_mem, rfl, _, rfl⟩); (case D => first | ktr_rel | exact ⟨_, by k_mem, rfl, _, rfl⟩); (case v => with_reducible assumption); (case u => ktr_units))))
local macro_rules | `(tactic| walk_at "call ref") => `(tactic| (k_here; (with_reducible show wpAny _ _ (call (Value.ref 1069) _ _) _ _ _); refine Stop.go ?_))
local macro_rules | `(tactic| walk_at "call ref") => `(tactic| (k_here; (with_reducible show wpAny _ _ (call (Value.ref 1079) _ _) _ _ _); refine Stop.go ?_))
local macro_rules | `(tactic| walk_at "exec Assign cons ListComp") => `(tactic| (k_here; (with_reducible show wpAny _ _ (exec (Stmt.Assign [Expr.Name (Str.ofString "due") _] (Expr.ListComp _ [⟨Expr.Name _ _, _, [_], _⟩] _ _) _) _) _ _ _); refine Stop.go ?_))
local macro_rules | `(tactic| walk_at "eval ListComp") => `(tactic| (k_here; (with_reducible show wpAny _ _ (eval (Expr.ListComp _ [⟨Expr.Name _ _, _, [_], _⟩] _ _) _) _ _ _); refine Stop.go ?_))
local macro_rules | `(tactic| walk_at "exec If") => `(tactic| (k_here; (fail_if_success (have _h : GoIf := by with_reducible assumption)); (with_reducible show wpAny _ _ (exec (Stmt.If (Expr.Compare (Expr.Name (Str.ofString "due") _) _ _ _) _ _ _) _) _ _ _); refine Stop.go ?_))
local macro_rules | `(tactic| walk_at "exec For Name Call cons nil") => `(tactic| (k_here; (with_reducible show wpAny _ _ (exec (Stmt.For _ (Expr.Call (Expr.Name (Str.ofString "range") _) _ _ _) _ [] _) _) _ _ _); refine Stop.go ?_))
local macro_rules | `(tactic| walk_at "exec For") => `(tactic| (k_here; (have _h : GoD := by with_reducible assumption); (with_reducible show wpAny _ _ (exec (Stmt.For _ _ _ [] _) _) _ _ _); refine Stop.go ?_))
local macro_rules | `(tactic| walk_at "exec For Name Name") => `(tactic| (k_here; (have _h : GoD := by with_reducible assumption); (with_reducible show wpAny _ _ (exec (Stmt.For _ _ _ [] _) _) _ _ _); refine Stop.go ?_))
local macro_rules | `(tactic| walk_at "exec For Name Name cons nil") => `(tactic| (k_here; (have _h : GoD := by with_reducible assumption); (with_reducible show wpAny _ _ (exec (Stmt.For _ _ _ [] _) _) _ _ _); refine Stop.go ?_))
local macro_rules | `(tactic| walk_at "exec For Name Subscript") => `(tactic| (k_here; (have _h : GoD := by with_reducible assumption); (with_reducible show wpAny _ _ (exec (Stmt.For _ _ _ [] _) _) _ _ _); refine Stop.go ?_))
local macro_rules | `(tactic| walk_at "exec For Name Subscript cons nil") => `(tactic| (k_here; (have _h : GoD := by with_reducible assumption); (with_reducible show wpAny _ _ (exec (Stmt.For _ _ _ [] _) _) _ _ _); refine Stop.go ?_))
local macro_rules | `(tactic| walk_at "exec For Name Subscript cons") => `(tactic| (k_here; (have _h : GoD := by with_reducible assumption); (with_reducible show wpAny _ _ (exec (Stmt.For _ _ _ [] _) _) _ _ _); refine Stop.go ?_))
local macro_rules | `(tactic| k_is) => `(tactic| first
  | with_reducible exact kgFree _ _
  | with_reducible exact kfFree _ _
  | with_reducible exact ksFree _ _
  | with_reducible exact kpFree _ _
  | with_reducible exact kgCons _ _
  | with_reducible exact kfCons _ _
  | with_reducible exact ksCons _ _
  | with_reducible exact kpCons _ _
  | with_reducible exact kgPred _ _
  | with_reducible exact kfPred _ _
  | with_reducible exact ksPred _ _
  | with_reducible exact kpPred _ _
  | with_reducible exact kgRepl _ _
  | with_reducible exact kfRepl _ _
  | with_reducible exact ksRepl _ _
  | with_reducible exact kpRepl _ _
  | with_reducible exact kgSimp _ _
  | with_reducible exact kfSimp _ _
  | with_reducible exact ksSimp _ _
  | with_reducible exact kpSimp _ _
  | with_reducible exact kgSubs _ _
  | with_reducible exact kfSubs _ _
  | with_reducible exact ksSubs _ _
  | with_reducible exact kpSubs _ _
  | with_reducible exact kgVars _ _
  | with_reducible exact kfVars _ _
  | with_reducible exact ksVars _ _
  | with_reducible exact kpVars _ _
  )
local macro_rules | `(tactic| walk_at "getMethod ref") => `(tactic| (k_here; (with_reducible show wpAny _ _ (getMethod (Value.ref _) (PySem.Str.ofString "free") _) _ _ _); k_dflt (refine' exFree ?F ?X ?N ?he ?_; (case F => k_asm); (case X => k_asm); (case N => k_asm); (case he => ktr_rel))))
local macro_rules | `(tactic| walk_at "getMethod ref") => `(tactic| (k_here; (with_reducible show wpAny _ _ (getMethod (Value.ref _) (PySem.Str.ofString "constants") _) _ _ _); k_dflt (refine' exCons ?F ?X ?N ?he ?_; (case F => k_asm); (case X => k_asm); (case N => k_asm); (case he => ktr_rel))))
local macro_rules | `(tactic| walk_at "getMethod ref") => `(tactic| (k_here; (with_reducible show wpAny _ _ (getMethod (Value.ref _) (PySem.Str.ofString "predicates") _) _ _ _); k_dflt (refine' exPred ?F ?X ?N ?he ?_; (case F => k_asm); (case X => k_asm); (case N => k_asm); (case he => ktr_rel))))
local macro_rules | `(tactic| walk_at "getMethod ref") => `(tactic| (k_here; (with_reducible show wpAny _ _ (getMethod (Value.ref _) (PySem.Str.ofString "replace") _) _ _ _); k_dflt (refine' exRepl ?F ?X ?N ?he ?_; (case F => k_asm); (case X => k_asm); (case N => k_asm); (case he => ktr_rel))))
local macro_rules | `(tactic| walk_at "getMethod ref") => `(tactic| (k_here; (with_reducible show wpAny _ _ (getMethod (Value.ref _) (PySem.Str.ofString "simplify") _) _ _ _); k_dflt (refine' exSimp ?F ?X ?N ?he ?_; (case F => k_asm); (case X => k_asm); (case N => k_asm); (case he => ktr_rel))))
local macro_rules | `(tactic| walk_at "getMethod ref") => `(tactic| (k_here; (with_reducible show wpAny _ _ (getMethod (Value.ref _) (PySem.Str.ofString "substitute_bindings") _) _ _ _); k_dflt (refine' exSubs ?F ?X ?N ?he ?_; (case F => k_asm); (case X => k_asm); (case N => k_asm); (case he => ktr_rel))))
local macro_rules | `(tactic| walk_at "getMethod ref") => `(tactic| (k_here; (with_reducible show wpAny _ _ (getMethod (Value.ref _) (PySem.Str.ofString "variables") _) _ _ _); k_dflt (refine' exVars ?F ?X ?N ?he ?_; (case F => k_asm); (case X => k_asm); (case N => k_asm); (case he => ktr_rel))))
local macro_rules | `(tactic| walk_at "call ref") => `(tactic| (k_here; (with_reducible show wpAny _ _ (call (Value.ref 126) [Value.str (Nm.str _) _] _) _ _ _); k_dflt (refine' use (mkVar) ?k1 ?k2 ?k3 ?k4 ?k5 ?kK ?kd ?ku ?_; (case k1 => k_asm); (case k2 => k_asm); (case k3 => k_asm); (case k4 => k_asm); (case k5 => k_asm); (case kK => first | exact rfl | assumption); (case kd => ktr_room); (case ku => ktr_units)); (intro r9 news9 h9 tk9 F9 N9 P9; (obtain ⟨S9, v9, e9, H9⟩ := P9; subst e9); (try dsimp only); kts_tail)))
local macro_rules | `(tactic| walk_at "call ref") => `(tactic| (k_here; (with_reducible show wpAny _ _ (call (Value.ref 126) [Value.str (Str.ofString "mother") _] _) _ _ _); k_dflt (refine' use (mkVar (n := .mother)) ?k1 ?k2 ?k3 ?k4 ?k5 ?kK ?kd ?ku ?_; (case k1 => k_asm); (case k2 => k_asm); (case k3 => k_asm); (case k4 => k_asm); (case k5 => k_asm); (case kK => first | exact rfl | assumption); (case kd => ktr_room); (case ku => ktr_units)); (intro r9 news9 h9 tk9 F9 N9 P9; (obtain ⟨S9, v9, e9, H9⟩ := P9; subst e9); (try dsimp only); kts_tail)))
local macro_rules | `(tactic| walk_at "call ref") => `(tactic| (k_here; (with_reducible show wpAny _ _ (call (Value.ref 126) [Value.str (Str.ofString "rex") _] _) _ _ _); k_dflt (refine' use (mkVar (n := .rex)) ?k1 ?k2 ?k3 ?k4 ?k5 ?kK ?kd ?ku ?_; (case k1 => k_asm); (case k2 => k_asm); (case k3 => k_asm); (case k4 => k_asm); (case k5 => k_asm); (case kK => first | exact rfl | assumption); (case kd => ktr_room); (case ku => ktr_units)); (intro r9 news9 h9 tk9 F9 N9 P9; (obtain ⟨S9, v9, e9, H9⟩ := P9; subst e9); (try dsimp only); kts_tail)))
local macro_rules | `(tactic| walk_at "call ref") => `(tactic| (k_here; (with_reducible show wpAny _ _ (call (Value.ref 126) [Value.str (Str.ofString "gives") _] _) _ _ _); k_dflt (refine' use (mkVar (n := .gives)) ?k1 ?k2 ?k3 ?k4 ?k5 ?kK ?kd ?ku ?_; (case k1 => k_asm); (case k2 => k_asm); (case k3 => k_asm); (case k4 => k_asm); (case k5 => k_asm); (case kK => first | exact rfl | assumption); (case kd => ktr_room); (case ku => ktr_units)); (intro r9 news9 h9 tk9 F9 N9 P9; (obtain ⟨S9, v9, e9, H9⟩ := P9; subst e9); (try dsimp only); kts_tail)))
local macro_rules | `(tactic| walk_at "call ref") => `(tactic| (k_here; (with_reducible show wpAny _ _ (call (Value.ref 584) _ _) _ _ _); k_dflt (refine' use (mkEx ?s1) ?k1 ?k2 ?k3 ?k4 ?k5 ?kK ?kd ?ku ?_; (case k1 => k_asm); (case k2 => k_asm); (case k3 => k_asm); (case k4 => k_asm); (case k5 => k_asm); (case kK => first | exact rfl | assumption); (case kd => ktr_room); (case ku => ktr_units); (case s1 => ktr_rel)); (intro r9 news9 h9 tk9 F9 N9 P9; (obtain ⟨S9, v9, e9, H9⟩ := P9; subst e9); (try dsimp only); kts_tail)))
local macro_rules | `(tactic| walk_at "call ref") => `(tactic| (k_here; (with_reducible show wpAny _ _ (call (Value.ref 423) _ _) _ _ _); k_dflt (refine' use (mkApp ?s1 ?s2) ?k1 ?k2 ?k3 ?k4 ?k5 ?kK ?kd ?ku ?_; (case k1 => k_asm); (case k2 => k_asm); (case k3 => k_asm); (case k4 => k_asm); (case k5 => k_asm); (case kK => first | exact rfl | assumption); (case kd => ktr_room); (case ku => ktr_units); (case s1 => ktr_rel); (case s2 => ktr_rel)); (intro r9 news9 h9 tk9 F9 N9 P9; (obtain ⟨S9, v9, e9, H9⟩ := P9; subst e9); (try dsimp only); kts_tail)))
local macro_rules | `(tactic| walk_at "call ref") => `(tactic| (k_here; (with_reducible show wpAny _ _ (call (Value.ref 1055) _ _) _ _ _); k_dflt (refine' use (toldTm ?s1) ?k1 ?k2 ?k3 ?k4 ?k5 ?kK ?kd ?ku ?_; (case k1 => k_asm); (case k2 => k_asm); (case k3 => k_asm); (case k4 => k_asm); (case k5 => k_asm); (case kK => first | exact rfl | assumption); (case kd => ktr_room); (case ku => ktr_units); (case s1 => ktr_rel)); (intro r9 news9 h9 tk9 F9 N9 P9; (obtain ⟨S9, t9, e9⟩ := P9; subst e9); (try dsimp only); kts_tail)))
local macro_rules | `(tactic| walk_at "call ref") => `(tactic| (k_here; (with_reducible show wpAny _ _ (call (Value.ref (mSubs _)) _ _) _ _ _); refine Stop.go ?_))
local macro_rules | `(tactic| walk_at "call type:list") => `(tactic| (k_here; (with_reducible show wpAny _ _ (call (Value.type _) [Value.ref _]) _ _ _); refine Stop.go ?_))
local macro_rules | `(tactic| walk_at "subscriptTail") => `(tactic| (k_here; (with_reducible show wpAny _ _ (subscriptTail _ _ (Value.ref _) (Value.ref _)) _ _ _); refine Stop.go ?_))
set_option maxHeartbeats 8000000 in
theorem solvedS {b d l0 : Addr} {its : List Value} {κ τ : List (Nm × Nm)} {news : List (Addr × Obj)} (HA : HeldAt prog w news b d κ) (hl : ListAt news l0 its) (hs : RowsIn news its τ) (TBS : Tabs news) (hInv : Inv κ τ) (hr : RowsOk τ) (hz : τ.length ≤ 40) :
    SpecSL prog w p loose mean mg mb 1084 [.ref b, .ref l0] 580 7000 news (fun r news' => Runs news news' ∧ r = .bool true) (fun news' => False) := by
  unfold SpecSL
  intro dp un gd cn cs a ccd cl outer A₀ base h₀ g₀ L m s Q E B F X N T XB TB D T0 CD hk hd hu hret hexc
  obtain ⟨cdF, cdV, cdR⟩ := id CD
  refine wpAny_call ?_
  k_dflt (refine' enterSC (binds := [(Str.ofString "held", .ref b), (Str.ofString "rows", .ref l0)]) ?k1 ?k2 ?k3 ?k4 ?k5 ?XB ?TB ?D ?T0 ?kA ?kF ?kK ?k6 ?k7 ?k8 ?k9 ?kB ?kN ?ret ?exc ?_ ?c2 ?c3 ?c4; (case kA => exact rfl); (case kF => exact rfl); (case kK => assumption); (case k1 => k_asm); (case k2 => k_asm); (case k3 => k_asm); (case k4 => k_asm); (case k5 => k_asm); (case XB => assumption); (case TB => assumption); (case D => assumption); (case T0 => assumption); (case k6 => k_is); (case k7 => k_is); (case k8 => ktr_room); (case k9 => first | exact BindsTo.of_eq rfl | exact binds_K (by k_in) rfl (by k_is) rfl rfl rfl); (case kB => exact rfl); (case kN => decide +kernel); (case c2 => exact rfl); (case c3 => exact rfl); (case c4 => exact rfl); (case ret => exact hret); (case exc => exact hexc); intro g' L' h' tk' cells' FG' F' N' Y' B' X' T' D' l1; k_cells Y'; (try simp only [List.cons_append, List.nil_append] at N'); (try dsimp only); (try k_fold))
  rename_i o1 o2 d1 d2
  have e1 : o1.data = Data.cell none := d1
  have e2 : o2.data = Data.cell (some (.ref b)) := d2
  clear d1 d2
  have cO1 := CellO.of N' (.head _) e1
  have cH0 := CellAt.of N' (.tail _ (.head _)) e2
  have P3 : (∀ c ∈ classesOf τ, c.length ≤ 6) ∧ (classesOf τ).length ≤ 100 := ⟨fun c hc => Nat.le_trans (len_flatten hc) (Nat.le_of_eq (foldC_len τ cls0).1), Nat.le_trans (foldC_len τ cls0).2 (by have : cls0.length = 6 := rfl; omega)⟩
  have PP : Parts τ (classesOf τ) := parts_classes fun q hq => ⟨six_var (hr q hq).1, (hr q hq).2⟩
  have G0 : Gd w p loose mean mg mb _ _ _ _ _ := ⟨KtsTurn.refl, B', X', T', D'⟩
  k_steps
  show Stop _
  unfold Stop
  rename (L' + 1 + 1 : Nat) < _ ∧ _ < _ ∧ AllLt _ news => hlt0
  obtain ⟨Ed, eD, hd1, hd2, hd3⟩ := nameIt3 hlt0
  subst eD
  rename News _ _ _ _ => NE
  have hE0 := kept0 NE (by assumption : Obj.IsDictOf (PySem.strKind prog w) _ []) (by assumption)
  refine' use (classesS (hl.mono (Sub.keeps (subOf NE (by ktr_rel)))) (hs.mono (Sub.keeps (subOf NE (by ktr_rel)))) hr hz) ?k1 ?k2 ?k3 ?k4 ?k5 ?kK ?kd ?ku ?_; (case k1 => k_asm); (case k2 => k_asm); (case k3 => k_asm); (case k4 => k_asm); (case k5 => k_asm); (case kK => first | exact rfl | assumption); (case kd => ktr_room); (case ku => ktr_units)
  intro r9 news9 h9 tk9 F9 N9 P9
  obtain ⟨S9, ca, cvs, e9, hCL, hCls⟩ := P9
  subst e9
  have hSN9 : Sub news news9 := Sub.trans (subOf NE (by ktr_rel)) S9
  have cO9 : CellO news9 (L' + 1 + 1) := CellO.mono cO1 (Sub.keeps (Sub.trans (subOf NE Sub.refl.cons) S9))
  have cH9 : CellAt news9 (L' + 1) (.ref b) := CellAt.mono cH0 (Sub.keeps (Sub.trans (subOf NE Sub.refl.cons) S9))
  have hE9 := hE0.mono S9.keeps
  obtain ⟨oca, hca1, hca2, nca, hca3⟩ := hCL
  refine ⟨ca, cvs, oca, _, _, _, rfl, rfl, G0, by k_asm, by k_asm, hca1, hca2, ⟨nca, hca3⟩, fun i m l => m (Str.ofString "ends") = some (.ref Ed) ∧ Sub news l ∧ KV news9 l ∧ CellAt l (L' + 1) (.ref b) ∧ CellO l (L' + 1 + 1) ∧ KeptAt prog w l Ed (endsOf κ ((classesOf τ).take i)), ?_, ⟨rfl, hSN9, KV.refl, cH9, cO9, hE9⟩, ?_, ?_⟩
  · rintro i m l l' ⟨a1, a2, a3, a4, a5, a6⟩ k
    exact ⟨a1, Sub.old (News.sub N9 hSN9) a2 k, KV.old N9 a3 k, a4.mono k.keeps, a5.mono k.keeps, a6.mono k.keeps⟩
  · intro i v g I oI m₁ news₁ h tk hv hg hit hI hax hJ F N
    obtain ⟨hmE, hSN, hKV, cH, cN, hK⟩ := hJ
    obtain ⟨c, hc, a1, us, rfl, hLa, hNm⟩ := rel2_get? (hCls.monoV hKV) hv
    obtain ⟨T8, B8, X8, TP8, D8⟩ := id hg
    have F1 := Fr.fix F hmE
    have hus : us.length ≤ sizeLine := by rw [hNm.length, sizeLine_eq]; have := P3.1 c (List.mem_of_getElem? hc); omega
    k_steps
    show Stop _
    unfold Stop
    k_dflt (refine' evalCompP ?X ?T ?F (by rfl) (by with_unfolding_all rfl) (by decide) (by rfl) (by decide) (by rfl) ?_; (case F => k_asm); (case X => k_asm); (case T => k_asm))
    k_steps
    refine ⟨a1, us, _, _, _, rfl, rfl, by k_asm, by k_asm, hLa, hus, fun i2 ys => NamesIn ys ((c.take i2).filter isVar), .nil, ?_, ?_⟩
    · intro i2 v ys I2 oI2 C2 oC2 D2 m₂ h tk E' hv2 hJ2 hC2 hx2 F N
      obtain ⟨n, hn, t, rfl⟩ := rel2_get? hNm hv2
      k_steps
      cases hvn : isVar n with
      | true =>
        refine TestEnd.yes ((any_isVar n).trans hvn) ?_
        k_steps
        refine EltEnd.intro rfl (by k_asm) (by k_asm) (show Sub _ _ from by ktr_rel) ?_
        show NamesIn _ _
        rw [take_succ' hn, filt_yes hvn]
        exact Rel2.snoc hJ2 ⟨t, rfl⟩
      | false =>
        refine TestEnd.no ((any_isVar n).trans hvn) (EltEnd.intro rfl (by k_asm) (by k_asm) (show Sub _ _ from by ktr_rel) ?_)
        show NamesIn _ _
        rw [take_succ' hn, filt_no hvn]
        exact hJ2
    · intro ys1 hJ1 D1 h tk F N
      rw [hNm.length, List.take_length] at hJ1
      have hJ1 : NamesIn ys1 (namesOf c) := hJ1
      k_steps
      show Stop _
      unfold Stop
      rename_i hb nb Fb Nb Cb Sb Vb
      have hSNb : Sub news nb := fun p hp => Sb _ (.tail _ (hSN p hp)) (Nat.ne_of_lt (Nat.lt_succ_of_lt (Nat.lt_succ_of_lt (l1 p hp))))
      have hKVb : KV news9 nb := KV.trans (KV.trans hKV (Sub.refl.cons).v) Cb.v
      have cHb : CellAt nb (L' + 1) (.ref b) := CellAt.but (CellAt.mono cH (Keeps.cons Keeps.refl)) Sb (Nat.ne_of_lt (Nat.lt_succ_self _))
      have hKb : KeptAt prog w nb Ed (endsOf κ ((classesOf τ).take i)) := (hK.mono (Keeps.cons Keeps.refl)).monoC Cb
      have hLm1 : (D1, lst ys1) ∈ nb := Cb _ (.head _) rfl
      have hLn : ListAt nb D1 ys1 := ⟨_, hLm1, rfl, _, rfl⟩
      have hLab : ListAt nb a1 us := (hLa.mono (Keeps.cons Keeps.refl)).monoC Cb
      have hIb : (I, oI) ∈ nb := Cb _ (.tail _ hI) (iter_cellish hit)
      have haxb : (ca, oca) ∈ nb := Cb _ (.tail _ hax) (by unfold cellish; dsimp only; rw [hca3])
      obtain ⟨oc1, hc1m, hc1d⟩ := id Vb
      k_dflt (refine' assignCompP ?X ?T ?F (by rfl) (by rfl) (by with_unfolding_all rfl) (by with_unfolding_all rfl) (by decide) (by rfl) (by decide) (by rfl) (by rfl) (by rfl) ?_; (case F => k_asm); (case X => k_asm); (case T => k_asm))
      k_steps
      refine ⟨a1, us, _, _, _, rfl, rfl, by k_asm, by k_asm, hLab, hus, fun i2 ys => NamesIn ys ((c.take i2).filter fun n => !(namesOf c).contains n), .nil, ?_, ?_⟩
      · intro i2 v ys I2 oI2 C2 oC2 D2 m₂ h tk E' hv2 hJ2 hC2 hx2 F N
        obtain ⟨n, hn, t, rfl⟩ := rel2_get? hNm hv2
        cases hcn : (namesOf c).contains n with
        | true =>
          k_steps
          refine TestEnd.no rfl (EltEnd.intro rfl (by k_asm) (by k_asm) (show Sub _ _ from by ktr_rel) ?_)
          show NamesIn _ _
          rw [take_succ' hn, filt_no (by (try dsimp only); rw [hcn]; rfl)]
          exact hJ2
        | false =>
          k_steps
          refine TestEnd.yes rfl ?_
          k_steps
          refine EltEnd.intro rfl (by k_asm) (by k_asm) (show Sub _ _ from by ktr_rel) ?_
          show NamesIn _ _
          rw [take_succ' hn, filt_yes (by (try dsimp only); rw [hcn]; rfl)]
          exact Rel2.snoc hJ2 ⟨t, rfl⟩
      · intro ys2 hJ2 D2 h tk F N
        rw [hNm.length, List.take_length, things_eq] at hJ2
        k_steps
        show Stop _
        unfold Stop
        have HAb : HeldAt prog w nb b d κ := HA.mono (Sub.keeps hSNb)
        have hLd : ListAt ((D2, lst ys2) :: nb) D2 ys2 := ⟨_, .head _, rfl, _, rfl⟩
        obtain ⟨och, hchm, hchd⟩ := id cHb
        have hys1 : ys1.length ≤ sizeLine := by
          have q1 := List.length_filter_le isVar c
          rw [hJ1.length, sizeLine_eq]; unfold namesOf; have := P3.1 c (List.mem_of_getElem? hc); omega
        refine' dueMono hg F ((D2, lst ys2) :: nb) (dueOf κ c) ?pif ?prest
        case pif =>
          have goIf : GoIf := trivial
          cases hth : thingsOf c with
          | nil =>
            rw [hth] at hJ2
            have hys : ys2 = [] := by cases hJ2; rfl
            have hdue : dueOf κ c = (namesOf c).filter fun n => (look κ n).isNone := if_pos hth
            k_steps
            show Stop _
            unfold Stop
            k_dflt (refine' assignCompT ?G ?FF (by rfl) (by rfl) (by with_unfolding_all rfl) (by with_unfolding_all rfl) (by decide) (by rfl) (by decide) (by rfl) (by rfl) (by rfl) ?_; (case FF => k_asm); (case G => assumption))
            k_steps
            rename News _ _ _ _ => NX
            refine ⟨D1, ys1, _, _, _, _, _, rfl, rfl, hg, by k_asm, NX, subOf NX (by ktr_rel : Sub nb _) _ hLm1, rfl, ⟨_, rfl⟩, hys1, fun i2 ys => NamesIn ys (((namesOf c).take i2).filter fun n => (look κ n).isNone), .nil, ?_, ?_⟩
            · intro i2 v ys g2 I2 oI2 C2 oC2 D3 m₂ h tk E' hv2 hJ3 hg2 hC2 hx2 F N
              obtain ⟨n, hn, t, rfl⟩ := rel2_get? hJ1 hv2
              obtain ⟨T8, B8, X8, TP8, D8⟩ := id hg2
              cases hl2 : look κ n with
              | none =>
                k_steps
                show Stop _
                unfold Stop
                k_dflt (refine' useS (la0 ?s1a hl2) ?k1a ?k2a ?k3a ?k4a ?k5a ?kXBa ?kTBa ?kDa ?kT0a ?kKa ?kda ?kua ?kRa ?kEa; (case k1a => k_asm); (case k2a => k_asm); (case k3a => k_asm); (case k4a => k_asm); (case k5a => k_asm); (case kXBa => assumption); (case kTBa => assumption); (case kDa => assumption); (case kT0a => first | assumption | exact KtsTurn.refl); (case kKa => first | exact rfl | assumption); (case kda => ktr_room); (case kua => ktr_units); (case s1a => ktr_rel); (case kEa => intro _ _ _ _ _ _ _ _ _ _ _ _ _ _ _ _ q9; exact False.elim q9))
                (intro r9 g9 news9 h9 tk9 T9 F9 N9 B9 X9 TP9 D9 P9; (obtain ⟨S9, q9⟩ := P9; subst q9); (try dsimp only); kts_tail)
                k_steps
                refine TestEnd.yes rfl ?_
                k_steps
                refine EltEnd.intro ⟨by assumption, by assumption, by assumption, by assumption, by assumption⟩ (by k_asm) (by k_asm) (show Sub _ _ from by ktr_rel) ?_
                show NamesIn _ _
                rw [take_succ' hn, filt_yes (by (try dsimp only); rw [hl2]; rfl)]
                exact Rel2.snoc hJ3 ⟨t, rfl⟩
              | some o =>
                k_steps
                show Stop _
                unfold Stop
                k_dflt (refine' useS (la1 ?s1b hl2) ?k1b ?k2b ?k3b ?k4b ?k5b ?kXBb ?kTBb ?kDb ?kT0b ?kKb ?kdb ?kub ?kRb ?kEb; (case k1b => k_asm); (case k2b => k_asm); (case k3b => k_asm); (case k4b => k_asm); (case k5b => k_asm); (case kXBb => assumption); (case kTBb => assumption); (case kDb => assumption); (case kT0b => first | assumption | exact KtsTurn.refl); (case kKb => first | exact rfl | assumption); (case kdb => ktr_room); (case kub => ktr_units); (case s1b => ktr_rel); (case kEb => intro _ _ _ _ _ _ _ _ _ _ _ _ _ _ _ _ q9; exact False.elim q9))
                (intro r9 g9 news9 h9 tk9 T9 F9 N9 B9 X9 TP9 D9 P9; (obtain ⟨S9, t9, q9⟩ := P9; subst q9); (try dsimp only); kts_tail)
                k_steps
                refine TestEnd.no rfl (EltEnd.intro ⟨by assumption, by assumption, by assumption, by assumption, by assumption⟩ (by k_asm) (by k_asm) (show Sub _ _ from by ktr_rel) ?_)
                show NamesIn _ _
                rw [take_succ' hn, filt_no (by (try dsimp only); rw [hl2]; rfl)]
                exact hJ3
            · intro ys3 g2 hJ3 hg2 D3 h tk F N
              rw [hJ1.length, List.take_length, ← hdue] at hJ3
              obtain ⟨T8, B8, X8, TP8, D8⟩ := id hg2
              k_steps
              rename Fr _ _ _ _ => FX
              rename News _ _ _ _ => NX
              refine DueEnd.intro hg2 (frTwo FX) NX (subOf NX (by ktr_rel)) ⟨_, by k_mem, rfl, _, rfl⟩ hJ3
          | cons t0 r0 =>
            have hys : ys2 ≠ [] := by rw [hth] at hJ2; cases hJ2; exact fun e => nomatch e
            have hdue : dueOf κ c = thingsOf c := if_neg (by rw [hth]; exact fun e => nomatch e)
            k_steps
            exact DueEnd.intro hg (by k_asm) (by k_asm) (by ktr_rel) (by ktr_rel) (by rw [hdue]; exact hJ2)
        case prest =>
          rintro fl s' ⟨rfl, g2, h2, tk2, Dd, yd, n2, rfl, hg2, F2, N2, S2, hDd, M2⟩
          have nbS : Sub nb n2 := Sub.trans Sub.refl.cons S2
          have hSN2 : Sub news n2 := hSNb.trans nbS
          have hKV2 : KV news9 n2 := hKVb.trans nbS.v
          have cH2 := cHb.mono nbS.keeps
          have cN2 := Vb.mono nbS.keeps
          have hK2 := hKb.mono nbS.keeps
          have hLm2 := nbS _ hLm1
          have hI2 := nbS _ hIb
          have hax2 := nbS _ haxb
          have goIf : GoIf := trivial
          have hcm := List.mem_of_getElem? hc
          clear cHb Vb hKb hLm1 hIb haxb hKVb hSNb HAb hc1m hc1d hchm hchd hLd hLab hLn hLa hK cN cH hKV hSN hI hax F1 F N Fb Nb Cb Sb S2
          obtain ⟨T8, B8, X8, TP8, D8⟩ := id hg2
          rcases due_ok hInv PP hcm with hd | ⟨r, hr2, hlr, hd, hall⟩
          · rw [hd] at M2
            have hyd : yd = [] := by cases M2; rfl
            subst hyd
            have hv0 : ([] : List Value) = [] := rfl
            have hz0 : ([] : List Value).length ≤ 1000 := Nat.zero_le _
            k_steps
            rename News _ _ _ _ => NY
            have SY := subOf NY (by ktr_rel : Sub n2 _)
            refine ⟨_, [], _, _, _, _, rfl, rfl, hg2, by k_asm, NY, by k_mem, rfl, ⟨_, rfl⟩, fun k m l => m (Str.ofString "ends") = some (.ref Ed) ∧ m (Str.ofString "due") = some (.ref Dd) ∧ Sub news l ∧ KV n2 l ∧ CellAt l (L' + 1) (.ref b) ∧ CellO l (L' + 1 + 1) ∧ KeptAt prog w l Ed (endsOf κ ((classesOf τ).take i) ++ []), ?_, ⟨rfl, rfl, hSN2.trans SY, SY.v, cH2.mono SY.keeps, (cN2.mono SY.keeps).o, by rw [List.append_nil]; exact hK2.mono SY.keeps⟩, ?_, ?_⟩
            · rintro k m l l' ⟨a1, a2, a3, a4, a5, a6, a7⟩ kk
              exact ⟨a1, a2, Sub.old (News.sub NY (Sub.trans hSN2 SY)) a3 kk, KV.old (News.sub NY SY) a4 kk, a5.mono kk.keeps, a6.mono kk.keeps, a7.mono kk.keeps⟩
            · intro k v g3 I3 oI3 m₃ n3 h3 tk3 hv3
              simp at hv3
            · intro g3 m₃ n3 h3 tk3 hg3 hax3 hJ3 F N
              obtain ⟨a1, a2, a3, a4, a5, a6, a7⟩ := hJ3
              have F4 := Fr.fix F a1
              obtain ⟨T8, B8, X8, TP8, D8⟩ := id hg3
              k_steps
              refine TurnEnd.intro hg3 (by k_asm) N (fun p hp => ?_) ⟨rfl, a3, hKV2.trans a4, a5, a6, ?_⟩
              · rcases List.mem_cons.mp hp with rfl | hp
                · exact a4.iter hI2 hit
                · rw [List.mem_singleton.mp hp]; exact a4.list hax2 hca3
              · rw [take_succ' hc, endsOf_snoc, if_pos hd]
                exact a7
          · rw [hd] at M2
            obtain ⟨tr, hyd⟩ : ∃ tr, yd = [.str r.str tr] := by
              cases M2 with
              | cons x y => cases y; obtain ⟨t, rfl⟩ := x; exact ⟨t, rfl⟩
            subst hyd
            have hv1 : ([.str r.str tr] : List Value) ≠ [] := fun e => nomatch e
            have hz1 : ([.str r.str tr] : List Value).length ≤ 1000 := by show (1 : Nat) ≤ 1000; decide
            have hdne : dueOf κ c ≠ [] := by rw [hd]; exact fun e => nomatch e
            k_steps
            rename News _ _ _ _ => NY
            have SY := subOf NY (by ktr_rel : Sub n2 _)
            refine ⟨D1, ys1, _, _, _, _, rfl, rfl, hg2, by k_asm, NY, SY _ hLm2, rfl, ⟨_, rfl⟩, fun k m l => m (Str.ofString "ends") = some (.ref Ed) ∧ m (Str.ofString "due") = some (.ref Dd) ∧ Sub news l ∧ KV n2 l ∧ CellAt l (L' + 1) (.ref b) ∧ CellO l (L' + 1 + 1) ∧ KeptAt prog w l Ed (endsOf κ ((classesOf τ).take i) ++ ((namesOf c).take k).map fun n => (n, end3 κ n)), ?_, ⟨rfl, rfl, hSN2.trans SY, SY.v, cH2.mono SY.keeps, (cN2.mono SY.keeps).o, by simpa using hK2.mono SY.keeps⟩, ?_, ?_⟩
            · rintro k m l l' ⟨a1, a2, a3, a4, a5, a6, a7⟩ kk
              exact ⟨a1, a2, Sub.old (News.sub NY (Sub.trans hSN2 SY)) a3 kk, KV.old (News.sub NY SY) a4 kk, a5.mono kk.keeps, a6.mono kk.keeps, a7.mono kk.keeps⟩
            · intro k v g3 I3 oI3 m₃ n3 h3 tk3 hv3 hg3 hit3 hI3 hax3 hJ3 F N
              obtain ⟨hmE3, hmD3, hSN3, hKV3, cH3, cO3, hK3⟩ := hJ3
              obtain ⟨n, hn, t, rfl⟩ := rel2_get? hJ1 hv3
              obtain ⟨T8, B8, X8, TP8, D8⟩ := id hg3
              have F4 := Fr.fix2 F hmE3 hmD3 rfl
              have HH : Hold ((namesOf c)[k]? = some n ∧ (classesOf τ)[i]? = some c ∧ dueOf κ c = [r] ∧ (∀ n ∈ namesOf c, end3 κ n = r) ∧ Parts τ (classesOf τ)) := ⟨hn, hc, hd, hall, PP⟩
              clear hn hc hd hall PP P3 hv3 hv hmE hmE3 hmD3 e1 e2 hCls hNm hJ1 hJ2 hlr hr2 hcm hca3 hca2 hdne hv1 hz1 M2 F
              k_steps
              show Stop _
              unfold Stop
              k_dflt (refine' forR ?GG ?FF2 ?_; (case FF2 => k_asm); (case GG => assumption))
              k_steps
              rename IsRange _ _ _ _ _ _ _ _ => hrg
              rename News _ _ _ _ => NZ
              refine ⟨_, _, _, _, _, _, 3, _, g3, _, rfl, rfl, hg3, by k_asm, NZ, hrg, rfl, rfl, fun j m l => m (Str.ofString "ends") = some (.ref Ed) ∧ m (Str.ofString "due") = some (.ref Dd) ∧ m (Str.ofString "name") = some (.str n.str t) ∧ (∃ te, m (Str.ofString "end") = some (.str (itN κ j n).str te)) ∧ Sub n3 l, ?_, ⟨rfl, rfl, rfl, ⟨t, rfl⟩, Sub.refl⟩, ?_, ?_⟩
              · rintro j m l l' ⟨a1, a2, a3, a4, a5⟩ kk
                exact ⟨a1, a2, a3, a4, Sub.old NZ a5 kk⟩
              · intro j t4 g4 I4 oI4 m₄ n4 h4 tk4 hj hg4 hit4 hI4 hJ4 F N
                clear hrg
                obtain ⟨b1, b2, b3, ⟨te, b4⟩, b5⟩ := hJ4
                have F5 := Fr.fix (x := Str.ofString "end") (v := .str (itN κ j n).str te) (Fr.fix3 F b1 b2 b3) b4
                obtain ⟨T8, B8, X8, TP8, D8⟩ := id hg4
                have HA4 : HeldAt prog w n4 b d κ := HA.mono (Sub.keeps (Sub.trans hSN3 b5))
                have cH4 := cH3.mono b5.keeps
                obtain ⟨och, hchm, hchd⟩ := id cH4
                clear b1 b2 b3 b4 F hj
                obtain ⟨cc, hcc⟩ : ∃ cc, itN κ j n = cc := ⟨_, rfl⟩
                rw [hcc] at F5
                cases hl2 : look κ cc with
                | none =>
                  k_steps
                  show Stop _
                  unfold Stop
                  k_dflt (refine' useS (la0 ?s1c hl2) ?k1c ?k2c ?k3c ?k4c ?k5c ?kXBc ?kTBc ?kDc ?kT0c ?kKc ?kdc ?kuc ?kRc ?kEc; (case k1c => k_asm); (case k2c => k_asm); (case k3c => k_asm); (case k4c => k_asm); (case k5c => k_asm); (case kXBc => assumption); (case kTBc => assumption); (case kDc => assumption); (case kT0c => first | assumption | exact KtsTurn.refl); (case kKc => first | exact rfl | assumption); (case kdc => ktr_room); (case kuc => ktr_units); (case s1c => ktr_rel); (case kEc => intro _ _ _ _ _ _ _ _ _ _ _ _ _ _ _ _ q9; exact False.elim q9))
                  (intro r9 g9 news9 h9 tk9 T9 F9 N9 B9 X9 TP9 D9 P9; (obtain ⟨S9, q9⟩ := P9; subst q9); (try dsimp only); kts_tail)
                  k_steps
                  refine TurnEnd.intro ⟨by assumption, by assumption, by assumption, by assumption, by assumption⟩ (by k_asm) (by k_asm) (fun p hp => ?_) ⟨rfl, rfl, rfl, ⟨te, ?_⟩, Sub.trans b5 (by assumption)⟩
                  · rw [List.mem_singleton.mp hp]; exact (by assumption : Sub n4 _) _ hI4
                  · have : itN κ (j + 1) n = cc := by show nxt κ (itN κ j n) = cc; rw [hcc, nxt_none hl2]
                    rw [this]; rfl
                | some o =>
                  have hq2 := Hold.mk hl2
                  clear hl2
                  k_steps
                  show Stop _
                  unfold Stop
                  k_dflt (refine' useS (la1 ?s1e hq2.it) ?k1e ?k2e ?k3e ?k4e ?k5e ?kXBe ?kTBe ?kDe ?kT0e ?kKe ?kde ?kue ?kRe ?kEe; (case k1e => k_asm); (case k2e => k_asm); (case k3e => k_asm); (case k4e => k_asm); (case k5e => k_asm); (case kXBe => assumption); (case kTBe => assumption); (case kDe => assumption); (case kT0e => first | assumption | exact KtsTurn.refl); (case kKe => first | exact rfl | assumption); (case kde => ktr_room); (case kue => ktr_units); (case s1e => ktr_rel); (case kEe => intro _ _ _ _ _ _ _ _ _ _ _ _ _ _ _ _ q9; exact False.elim q9))
                  (intro r9 g9 news9 h9 tk9 T9 F9 N9 B9 X9 TP9 D9 P9; (obtain ⟨S9, t9, q9⟩ := P9; subst q9); (try dsimp only); kts_tail)
                  k_steps
                  refine TurnEnd.intro ⟨by assumption, by assumption, by assumption, by assumption, by assumption⟩ (by k_asm) (by k_asm) (fun p hp => ?_) ⟨rfl, rfl, rfl, ⟨t9, ?_⟩, Sub.trans b5 (by assumption)⟩
                  · rw [List.mem_singleton.mp hp]; exact (by assumption : Sub n4 _) _ hI4
                  · have : itN κ (j + 1) n = o := by show nxt κ (itN κ j n) = o; rw [hcc, nxt_some hq2.it]
                    rw [this]; rfl
              · intro g4 m₄ n4 h4 tk4 hg4 hJ4 F N
                obtain ⟨b1, b2, b3, ⟨te, b4⟩, b5⟩ := hJ4
                have F5 := Fr.fix (x := Str.ofString "end") (v := .str (itN κ 3 n).str te) (Fr.fix3 F b1 b2 b3) b4
                obtain ⟨T8, B8, X8, TP8, D8⟩ := id hg4
                obtain ⟨hn, hc, hd, hall, PP⟩ := id HH.it
                have hdne : dueOf κ c ≠ [] := by rw [hd]; exact fun e => nomatch e
                have hfr := ends_fresh PP hc hdne hn
                have hln := ends_len hInv PP hc hdne hn
                have hdD : ListAt n4 Dd [.str r.str tr] := (hDd.monoV hKV3).mono b5.keeps
                have hK4 := hK3.mono b5.keeps
                obtain ⟨kvs4, DA4, R4⟩ := id hK4
                have hz4 : kvs4.length ≤ sizeLine := by rw [R4.length, sizeLine_eq]; omega
                have hcc : itN κ 3 n = r := hall n (List.mem_of_getElem? hn)
                rw [hcc] at F5
                have hrr : (r.str != r.str) = false := by rw [bne, beq_self_eq_true]; rfl
                have hm4 : ∃ o4, (Ed, o4) ∈ n4 ∧ dictish o4 = true := let ⟨o4, q1, q2, _⟩ := DA4; ⟨o4, q1, dictish_of q2⟩
                clear hn hc hd hall PP hdne b1 b2 b3 b4 F
                k_steps
                rename SubBut _ _ _ => SB
                rename DictAt _ _ _ _ _ => DB
                obtain ⟨o4, hm4, hd4⟩ := hm4
                have hKV4 : KV n4 _ := dictBut (by assumption) hm4 hd4 SB
                refine TurnEnd.intro hg4 (by k_asm) (by k_asm) (fun p hp => ?_) ⟨rfl, rfl, fun p hp => SB p (b5 p (hSN3 p hp)) (Nat.ne_of_lt (hd3 p hp)), hKV3.trans (b5.v.trans hKV4), (cH3.mono b5.keeps).but SB (Nat.ne_of_lt hd2), (cO3.mono b5.keeps).but SB (Nat.ne_of_lt hd1), ?_⟩
                · rcases List.mem_cons.mp hp with rfl | hp
                  · exact (b5.v.trans hKV4).iter hI3 hit3
                  · rw [List.mem_singleton.mp hp]; exact (b5.v.trans hKV4).list hax3 rfl
                · have hk := KeptAt.put (news := n4) R4 hfr ⟨te, rfl⟩ DB
                  obtain ⟨hn, hc, hd, hall, PP⟩ := id HH.it
                  rw [take_succ' hn, List.map_append, ← List.append_assoc]
                  show KeptAt prog w _ Ed (_ ++ [(n, end3 κ n)])
                  rw [hall n (List.mem_of_getElem? hn)]
                  exact hk
            · intro g3 m₃ n3 h3 tk3 hg3 hax3 hJ3 F N
              obtain ⟨a1, a2, a3, a4, a5, a6, a7⟩ := hJ3
              have F4 := Fr.fix F a1
              obtain ⟨T8, B8, X8, TP8, D8⟩ := id hg3
              k_steps
              refine TurnEnd.intro hg3 (by k_asm) N (fun p hp => ?_) ⟨rfl, a3, hKV2.trans a4, a5, a6, ?_⟩
              · rcases List.mem_cons.mp hp with rfl | hp
                · exact a4.iter hI2 hit
                · rw [List.mem_singleton.mp hp]; exact a4.list hax2 hca3
              · rw [take_succ' hc, endsOf_snoc, if_neg hdne]
                rwa [hJ1.length, List.take_length] at a7
  · intro g3 m₃ n3 h3 tk3 hg3 hax3 hJ3 F N
    obtain ⟨hmE, hSN, hKV, cH, cN, hK⟩ := hJ3
    rw [show cvs.length = (classesOf τ).length from hCls.length, List.take_length] at hK
    have F1 := Fr.fix F hmE
    have hf := Hold.mk (ends_facts hInv PP)
    have hlen := ends_len3 hInv PP
    have hnd := Hold.mk (ends_keys (κ := κ) PP)
    obtain ⟨ε, hε⟩ : ∃ ε, endsOf κ (classesOf τ) = ε := ⟨_, rfl⟩
    rw [hε] at hK hf hlen hnd
    obtain ⟨kvs3, DA3, R3⟩ := id hK
    obtain ⟨T8, B8, X8, TP8, D8⟩ := id hg3
    have HA3 : HeldAt prog w n3 b d κ := HA.mono (Sub.keeps hSN)
    have TB3 : Tabs n3 := TBS.mono (Sub.i hSN)
    have goD : GoD := trivial
    clear hmE PP P3 hε F e1 e2 hCls
    k_steps
    show Stop _
    unfold Stop
    rename News _ _ _ _ => NA
    have SA := subOf NA (by ktr_rel : Sub n3 _)
    k_dflt (refine' forD ?GG3 ?FF3 ?_; (case FF3 => k_asm); (case GG3 => assumption))
    k_steps
    obtain ⟨oE, hoE, hpE, hqE⟩ := id DA3
    refine ⟨Ed, kvs3, oE, _, _, _, rfl, rfl, hg3, by k_asm, NA, SA _ hoE, hpE, hqE, fun i m l => m (Str.ofString "ends") = some (.ref Ed) ∧ Sub n3 l ∧ ∃ e, m (Str.ofString "node") = some (.ref e) ∧ ExIn l e (nodeA ((ε.take i).map fun q => .nm q.1)), ?_, ⟨rfl, SA, _, rfl, by assumption⟩, ?_, ?_⟩
    · rintro i m l l' ⟨a1, a2, e, a3, a4⟩ kk
      exact ⟨a1, Sub.old (News.sub NA SA) a2 kk, e, a3, a4.mono kk.keeps⟩
    · intro i kk x v g4 I4 oI4 m₄ n4 h4 tk4 hkv hkk hg4 hit4 hI4 hax4 hJ4 F N
      obtain ⟨b1, b2, e, b3, b4⟩ := hJ4
      obtain ⟨t, rfl⟩ := strIs hkk
      obtain ⟨q, hq, hk1, hx1⟩ := rel2_get? R3 hkv
      have hk2 : kk = q.1.str := hk1
      subst hk2
      have F5 := Fr.fix2 F b1 b3 rfl
      obtain ⟨T8, B8, X8, TP8, D8⟩ := id hg4
      have hq' := Hold.mk hq
      clear hq hkv hkk hx1 hk1 F b1 b3
      k_steps
      rename News _ _ _ _ => NC
      have SC := subOf NC (by ktr_rel : Sub n4 _)
      refine TurnEnd.intro hg4 (by k_asm) NC (fun p hp => ?_) ⟨rfl, b2.trans SC, _, rfl, ?_⟩
      · rcases List.mem_cons.mp hp with rfl | hp
        · exact SC _ hI4
        · rw [List.mem_singleton.mp hp]; exact SC _ hax4
      · rw [take_succ' hq'.it, List.map_append]
        show ExIn _ _ (nodeA (_ ++ [Tm.nm q.1]))
        rw [nodeA_snoc]
        assumption
    · intro g4 m₄ n4 h4 tk4 hg4 hax4 hJ4 F N
      obtain ⟨b1, b2, e, b3, b4⟩ := hJ4
      rw [show kvs3.length = ε.length from R3.length, List.take_length] at b4
      have HS : SubOk prog w p loose mean mg mb κ 5 (nodeA (ε.map fun q => .nm q.1)) (nodeA (ε.map fun q => tmOf (end3 κ q.1))) := by
        have h := sub_node (prog := prog) (w := w) (p := p) (loose := loose) (mean := mean) (mg := mg) (mb := mb) hInv.isKey (ns := ε.map (·.1)) hnd.it (fun n h => by obtain ⟨q, hq, rfl⟩ := List.mem_map.mp h; exact (hf.it q hq).1) (by rw [List.length_map]; exact hlen) (fun n h => by obtain ⟨q, hq, rfl⟩ := List.mem_map.mp h; exact (hf.it q hq).2.2)
        rw [List.map_map, List.map_map] at h
        exact h
      obtain ⟨t0, ht0⟩ : ∃ t0, nodeA (ε.map fun q => .nm q.1) = t0 := ⟨_, rfl⟩
      rw [ht0] at b4 HS
      have F5 := Fr.fix2 F b1 b3 rfl
      obtain ⟨T8, B8, X8, TP8, D8⟩ := id hg4
      have HA4 := HA3.mono b2.keeps
      have TB4 : Tabs n4 := TB3.mono (Sub.i b2)
      have cH4 := cH.mono b2.keeps
      obtain ⟨och, hchm, hchd⟩ := id cH4
      have b2' := b2
      clear ht0 b1 b3 F
      k_steps
      show Stop _
      unfold Stop
      refine' useL (SubOk.use HS b4 HA4 TB4) ?k1f ?k2f ?k3f ?k4f ?k5f ?kCf ?kKf ?kdf ?kuf ?_; (case k1f => k_asm); (case k2f => k_asm); (case k3f => k_asm); (case k4f => k_asm); (case k5f => k_asm); (case kCf => assumption); (case kKf => first | exact rfl | assumption); (case kdf => ktr_room); (case kuf => ktr_units)
      intro r9 news9 h9 tk9 F9 N9 P9
      obtain ⟨R9, v9, e9, H9⟩ := P9
      subst e9
      have hK9 := (hK.mono b2.keeps).mono R9.k
      obtain ⟨kvs9, DA9, RR9⟩ := id hK9
      have hl9 : kvs9.length ≤ 1000 := by rw [RR9.length]; omega
      k_steps
      show Stop _
      unfold Stop
      k_dflt (refine' forS ?GG5 ?FF5 ?_; (case FF5 => k_asm); (case GG5 => assumption))
      k_steps
      show Stop _
      unfold Stop
      k_dflt (refine' la_keys rfl ?q1 ?q2 ?q3 RR9 hl9 ?_; (case q1 => k_asm); (case q2 => k_asm); (case q3 => ktr_rel); k_whole)
      intro B1 h1 tk1 us c1 F1 N1 l1' hus
      k_steps
      show Stop _
      unfold Stop
      have hul : us.length ≤ 1000 := by rw [hus.length, List.length_map]; omega
      have hLu : ListAt ((B1, W.listOf us.toArray c1) :: news9) B1 us := ⟨_, .head _, rfl, _, rfl⟩
      k_dflt (refine' la_rev ?b1 ?b2 ?b3 ?b4 ?b5 ?_ ?b7; (case b1 => k_asm); (case b2 => k_asm); (case b3 => exact hLu); (case b4 => exact IsPart.int _ _); (case b5 => exact hul); (case b7 => with_unfolding_all rfl); k_whole)
      intro B2 h2 F2 N2 l2'
      have hus' := rel2_rev hus
      have hSN9 : Sub news9 _ := subOf N2 ((Sub.refl.cons).cons)
      k_steps
      refine ⟨B2, us.reverse, _, _, _, _, rfl, rfl, hg4, by k_asm, N2, .head _, rfl, ⟨_, rfl⟩, fun i m l => m (Str.ofString "ends") = some (.ref Ed) ∧ Sub news9 l ∧ ∃ e, m (Str.ofString "told") = some (.ref e) ∧ ExIn l e (nodeA ((ε.take (ε.length - i)).map fun q => tmOf (end3 κ q.1))), ?_, ⟨rfl, hSN9, v9, rfl, ?_⟩, ?_, ?_⟩
      · rintro i m l l' ⟨a1, a2, e, a3, a4⟩ kk
        exact ⟨a1, Sub.old (News.sub N2 hSN9) a2 kk, e, a3, a4.mono kk.keeps⟩
      · show ExIn _ _ (nodeA ((ε.take ε.length).map _))
        rw [List.take_length]
        exact H9.mono hSN9.keeps
      · intro i v g5 I5 oI5 m₅ n5 h5 tk5 hv5 hg5 hit5 hI5 hax5 hJ5 F N
        obtain ⟨b1, b2, e, b3, b4⟩ := hJ5
        obtain ⟨n, hn, t, rfl⟩ := rel2_get? hus' hv5
        obtain ⟨k, q, hk, hk', hq, hqn⟩ := rev_at hn
        rw [hk, take_succ' hq, List.map_append] at b4
        change ExIn n5 e (nodeA (_ ++ [tmOf (end3 κ q.1)])) at b4
        rw [nodeA_snoc] at b4
        have hqf := hf.it q (List.mem_of_getElem? hq)
        have hlk := look_nodup hnd.it (List.mem_of_getElem? hq)
        obtain ⟨v1, e1, t1, hv1⟩ := RR9.some hlk
        subst hv1
        obtain ⟨o, ho⟩ : ∃ o, q.2 = o := ⟨_, rfl⟩
        rw [← hqf.2.1, ho] at b4
        rw [ho, hqn] at e1
        have hrr : (o.str != o.str) = false := by rw [bne, beq_self_eq_true]; rfl
        have DA5 := DA9.mono b2.keeps
        have F5 := Fr.fix2 F b1 b3 rfl
        obtain ⟨T8, B8, X8, TP8, D8⟩ := id hg5
        clear hn hq hqf hlk hqn hv5 F b1 b3 hk
        cases b4 with
        | app heA heB heF heG =>
        have hkk : ε.length - (i + 1) = k := hk'
        clear hk'
        k_steps
        rename News _ _ _ _ => ND
        have SD := subOf ND (by ktr_rel : Sub n5 _)
        refine TurnEnd.intro hg5 (by k_asm) ND (fun p hp => ?_) ⟨rfl, b2.trans SD, _, rfl, ?_⟩
        · rcases List.mem_cons.mp hp with rfl | hp
          · exact SD _ hI5
          · rw [List.mem_singleton.mp hp]; exact SD _ hax5
        · rw [hkk]; exact heF.mono SD.keeps
      · intro g5 m₅ n5 h5 tk5 hg5 hax5 hJ5 F N
        obtain ⟨b1, b2, e, b3, b4⟩ := hJ5
        rw [show us.reverse.length = ε.length by rw [List.length_reverse, hus.length, List.length_map], Nat.sub_self] at b4
        change ExIn n5 e (.nm .gives) at b4
        have F5 := Fr.fix F b3
        obtain ⟨T8, B8, X8, TP8, D8⟩ := id hg5
        cases b4 with
        | nm heA heB heV =>
        obtain ⟨dv3, ha3, ta3, tb3, heC, heD⟩ := id heV
        have hcl : Nm.cls .gives = 575 := rfl
        rw [hcl] at heA
        clear b1 b3 F
        k_steps
        rename News _ _ _ _ => ND
        have hP : Runs news _ := (Runs.after (hSN.trans b2') R9).sub (b2.trans (subOf ND (by ktr_rel : Sub n5 _)))
        refine' ⟨?zg, ?zL, ?zm, ?zn, ?zh, ?zt, ?ze, ?zT, ?zF, ?zN, ?zP⟩; (case ze => exact rfl); (case zF => k_asm); (case zN => k_asm); (case zT => first | assumption | exact KtsTurn.refl)
        case zP => exact ⟨hP, by decide +kernel⟩
end
end
end
section
open PyProof.Rows.LCg PySem PySem.W PySem.Spec PySem.Calls PyProof.Rows PyProof.Rows.LCp
set_option maxRecDepth 100000
/-! the row of pairs for BindingDict -/
theorem made_pair {l0 l1 l2 : List (Addr × Obj)} {T v e : Addr} {q : Nm × Nm} {o : Obj} {n : Nat} (M1 : Made (fun new => VarIn new v q.1) l0 l1) (M2 : Made (fun new => ExIn new e (tmOf q.2)) l1 l2) (h3 : ∀ p ∈ l2, p.1 < T) (hc : o.cls = .type "tuple") (hd : o.data = .seq #[.ref v, .ref e] n) :
    Made (fun new => TupAt new T [.ref v, .ref e] ∧ VarIn new v q.1 ∧ ExIn new e (tmOf q.2)) l0 ((T, o) :: l2) := by
  refine Made.trans (Made.trans (R := fun new => VarIn new v q.1 ∧ ExIn new e (tmOf q.2)) M1 M2 fun x y h1 h2 => ⟨h1.mono Sub.appR.keeps, h2.mono Sub.appL.keeps⟩) (Made.one (P := fun new => TupAt new T [.ref v, .ref e]) h3 ⟨o, .head _, hc, n, hd⟩) fun x y h1 h2 => ?_
  exact ⟨h2.mono Sub.appL.keeps, h1.1.mono Sub.appR.keeps, h1.2.mono Sub.appR.keeps⟩
section
variable {prog : Program} {w : World} {A : Around} {E : Value → Shared → Prop} {s : Shared} {h₀ : Heap} {L : Addr} {m : Str → Option Value} {env : Env} {elt : PySem.Expr} {x x₂ : Str} {scope : Scope} {cl : List (Str × Addr)}
/-- where an element of the row of pairs comes to -/
def PairEnd (h₀ : Heap) (L : Addr) (m : Str → Option Value) (s₁ : Shared) (q : Nm × Nm) (l : List (Addr × Obj)) (y : Value) (s' : Shared) : Prop :=
  ∃ h tk all T v e, s' = { s₁ with heap := h, toks := tk } ∧ y = .ref T ∧ Fr h₀ L h m ∧ News h₀ L h all ∧ Made (fun new => TupAt new T [.ref v, .ref e] ∧ VarIn new v q.1 ∧ ExIn new e (tmOf q.2)) l all
theorem made_pairN {g h : Heap} {L : Addr} {l0 l1 l2 : List (Addr × Obj)} {v e : Addr} {q : Nm × Nm} (N : News g L h l2) (M1 : Made (fun new => VarIn new v q.1) l0 l1) (M2 : Made (fun new => ExIn new e (tmOf q.2)) l1 l2) :
    Made (fun new => TupAt new h.objs.size [.ref v, .ref e] ∧ VarIn new v q.1 ∧ ExIn new e (tmOf q.2)) l0 ((h.objs.size, { cls := .type "tuple", data := .seq #[.ref v, .ref e] }) :: l2) :=
  made_pair M1 M2 (fun p hp => Heap.lt_size (N p hp).1) rfl rfl
theorem PairEnd.intro {s₁ : Shared} {q : Nm × Nm} {l all : List (Addr × Obj)} {T v e : Addr} {h : Heap} {tk : Nat} (F : Fr h₀ L h m) (N : News h₀ L h all) (M : Made (fun new => TupAt new T [.ref v, .ref e] ∧ VarIn new v q.1 ∧ ExIn new e (tmOf q.2)) l all) :
    PairEnd h₀ L m s₁ q l (.ref T) { s₁ with heap := h, toks := tk } := ⟨h, tk, all, T, v, e, rfl, rfl, F, N, M⟩
theorem srcPairs {xv : Value} {ax : Addr} {its : List Value} {oax : Obj} {nax : Nat} {rows : List (Nm × Nm)} {X : List (Addr × Obj)} {Q : Value → Shared → Prop} (hxv : xv = .ref ax) (hh : A.handled = none) (F : Fr h₀ L s.heap m) (N : News h₀ L s.heap X) (hm : (ax, oax) ∈ X) (hc : oax.cls = .type "list") (hd : oax.data = .seq its.toArray nax) (hz : its.length ≤ 1000)
    (hr : RowsIn X its rows) (hok : RowsOk rows)
    (turn : ∀ (i : Nat) (q : Nm × Nm) t1 t2 I oI C oC D oD l m₂ h tk (E' : Value → Shared → Prop), rows[i]? = some q → NsObj oC m₂ → m₂ x = some (.str q.1.str t1) → m₂ x₂ = some (.str q.2.str t2) → Fr h₀ L h m → News h₀ L h ((I, oI) :: (C, oC) :: (D, oD) :: l) →
      wpAny (model prog w) A (eval elt (compEnvC scope cl C env)) (PairEnd h₀ L m { s with heap := h, toks := tk } q ((I, oI) :: (C, oC) :: (D, oD) :: l)) E' { s with heap := h, toks := tk })
    (done : ∀ D ys l h tk, Sub X l → PairsIn ((D, lst ys) :: l) ys rows → Fr h₀ L h m → News h₀ L h ((D, lst ys) :: l) → Q (.ref D) { s with heap := h, toks := tk }) :
    SrcLP prog w A h₀ L m env elt x x₂ scope cl (fun s₂ => FinE h₀ L m s₂ Q) xv s := by
  refine ⟨ax, its.toArray, X, hxv, hh, F, N, .inr ⟨oax, hm, hc, nax, hd⟩, by rw [List.size_toArray, sizeLine_eq]; omega, fun s₂ hs₂ => ?_⟩
  obtain ⟨g, rfl⟩ := hs₂
  refine restGP (n := its.length) (fun i ys l => Sub X l ∧ PairsIn l ys (rows.take i)) (fun i v ys l hP hJ => ?_) (fun ys l hJ D h tk F' N' _ => ?_) its.length 0 [] X (Nat.zero_add _) ⟨Sub.refl, .nil⟩
  · have hP' : its[i]? = some v := by simpa using hP
    obtain ⟨q, hq, T, t1, t2, rfl, hT⟩ := rel2_get? hr hP'
    obtain ⟨hq1, _⟩ := hok q (List.mem_of_getElem? hq)
    obtain ⟨oT, h1, h2, nT, h3⟩ := hT
    refine ⟨T, oT, _, _, nT, rfl, hJ.1 _ h1, h2, h3, fun I oI C oC D m₂ h tk E' hC hx hx₂ F' N' off _ => wpAny_mono (turn i q t1 t2 I oI C oC D _ l m₂ h tk E' hq hC hx hx₂ F' N') (fun y s' h' => ?_) fun _ _ e => e⟩
    obtain ⟨h', tk', all, T', v', e', rfl, rfl, F2, N2, M⟩ := h'
    refine CompEnd.made (s₁ := { s with heap := h, toks := tk }) (R := fun y l' => Sub X l' ∧ PairsIn l' (ys ++ [y]) (rows.take (i + 1))) F2 N2 (M.imp fun new hn => ⟨hJ.1.trans Sub.appR, ?_⟩) off (.inr ⟨oax, hJ.1 _ hm, hc, nax, hd⟩) srcAt_mono
    rw [take_succ' hq]
    exact (hJ.2.mono Sub.appR.keeps).snoc ⟨hq1, T', v', e', rfl, hn.1.mono Sub.appL.keeps, hn.2.1.mono Sub.appL.keeps, hn.2.2.mono Sub.appL.keeps⟩
  · have e : rows.take its.length = rows := by rw [hr.length, List.take_length]
    rw [e] at hJ
    exact done D ys l h tk hJ.1 (hJ.2.mono Sub.refl.cons.keeps) F' N'
end
/-- where the two ways of a try meet -/
def JoinEnd (G : Heap → Prop) (L : Addr) (s₁ : Shared) (P : (Str → Option Value) → List (Addr × Obj) → Prop) (fl : Flow) (s' : Shared) : Prop :=
  fl = .next ∧ ∃ g h tk m n, s' = { s₁ with heap := h, toks := tk } ∧ G g ∧ Fr g L h m ∧ News g L h n ∧ P m n
theorem JoinEnd.intro {G : Heap → Prop} {L : Addr} {s₁ : Shared} {P : (Str → Option Value) → List (Addr × Obj) → Prop} {g h : Heap} {tk : Nat} {m : Str → Option Value} {n : List (Addr × Obj)} (hg : G g) (F : Fr g L h m) (N : News g L h n) (hP : P m n) : JoinEnd G L s₁ P .next { s₁ with heap := h, toks := tk } :=
  ⟨rfl, g, h, tk, m, n, rfl, hg, F, N, hP⟩
theorem joinMono {M : Model} {A : Around} {t : Sem Flow} {E : Value → Shared → Prop} {Q : Flow → Shared → Prop} {s : Shared} {G : Heap → Prop} {g h : Heap} {L : Addr} {m : Str → Option Value} (_hg : G g) (_F : Fr g L h m) (P : (Str → Option Value) → List (Addr × Obj) → Prop)
    (h1 : wpAny M A t (JoinEnd G L s P) E s) (h2 : ∀ fl s', JoinEnd G L s P fl s' → Q fl s') : wpAny M A t Q E s := wpAny_mono h1 h2 fun _ _ e => e
/-- behind the second try of a side -/
def PIn (prog : Program) (w : World) (n5 : List (Addr × Obj)) (cK cO bb db kd tk sd pv : Addr) (its : List Value) (κ τ : List (Nm × Nm)) (b : Bool) (m : Str → Option Value) (l : List (Addr × Obj)) : Prop :=
  m (Str.ofString "held") = some (.ref bb) ∧ m (Str.ofString "taken") = some (.ref tk) ∧ m (Str.ofString "sides") = some (.ref sd) ∧ m (Str.ofString "part") = some (.ref pv) ∧ m (Str.ofString "told") = some (.bool b) ∧ InSt prog w n5 cK cO bb db kd tk its κ κ τ l
theorem joinIn {prog : Program} {w : World} {M : Model} {A : Around} {t : Sem Flow} {E : Value → Shared → Prop} {Q : Flow → Shared → Prop} {s : Shared} {G : Heap → Prop} {g h : Heap} {L : Addr} {m : Str → Option Value} {n0 n5 l0 l1 : List (Addr × Obj)} {cK cO bb db kd tk sd pA pB : Addr} {its isA isB : List Value} {κ τ : List (Nm × Nm)} {i : Nat}
    (_hg : G g) (_F : Fr g L h m) (_S : InSt prog w n5 cK cO bb db kd tk its κ κ τ l0) (_O : OutSt prog w n0 cK cO sd pA pB isA isB i l1) (pv : Addr) (b : Bool)
    (h1 : wpAny M A t (JoinEnd G L s (PIn prog w n5 cK cO bb db kd tk sd pv its κ τ b)) E s) (h2 : ∀ fl s', JoinEnd G L s (PIn prog w n5 cK cO bb db kd tk sd pv its κ τ b) fl s' → Q fl s') : wpAny M A t Q E s := wpAny_mono h1 h2 fun _ _ e => e
theorem len_eq {its isP : List Value} {rP : List (Nm × Nm)} (h1 : its.length = (takenOf [] rP).length) (h2 : isP.length = rP.length) : allOk [] rP = (((its.length : Nat) : Int) == ((isP.length : Nat) : Int)) := by
  rw [h1, h2, allOk_len]
  by_cases h : (takenOf [] rP).length = rP.length
  · rw [decide_eq_true h, h, beq_self_eq_true]
  · rw [decide_eq_false h]
    symm
    rw [beq_eq_false_iff_ne]
    exact fun e => h (Int.ofNat.inj e)
section
variable {prog : Program} {w : World} {g h : Heap} {L cK cO sd pA pB T bb db kd tk : Addr} {isA isB its : List Value} {i : Nat} {n0 n1 l l' : List (Addr × Obj)} {κ τ : List (Nm × Nm)}
theorem OutSt.sub (S : OutSt prog w n0 cK cO sd pA pB isA isB i l) (s : Sub l l') : OutSt prog w n0 cK cO sd pA pB isA isB i l' := S.km s.m (S.tabs.mono s.i) (S.cellK.mono s.keeps) (S.cellO.mono s.keeps)
theorem InSt.side (S : InSt prog w n1 cK cO bb db kd tk its κ κ τ l) (hT : TupAt l T [.ref bb, .ref kd, .ref tk]) (hf : Fits κ τ) (hz : τ.length ≤ 6) (hk : κ.length ≤ 6) : Side prog w l T bb db kd tk its κ τ :=
  ⟨hT, S.held, S.kept, S.tkn.list, S.rows, hf, hz, hk⟩
theorem OutSt.sd_lt {d : Addr} (S : OutSt prog w n0 cK cO sd pA pB isA isB i l) (h : ∀ p ∈ l, p.1 < d) : (sd : Nat) < d := let ⟨_, ⟨_, h1⟩, _⟩ := S.sides; h _ h1
end
theorem isNotSame {prog : Program} {w : World} {A : Around} {E : Value → Shared → Prop} {s : Shared} {a b : Bool} {Q : Value → Shared → Prop} (h : a = b) (hQ : Q (.bool false) s) : wpAny (model prog w) A (compareOp .IsNot (.bool a) (.bool b)) Q E s := by
  subst h; exact wpAny_isNot_self (by rfl) hQ
end
section
open PyProof.Rows.LCg PySem PySem.W PySem.Spec PySem.Calls PyProof.Rows PyProof.Rows.LCp
set_option maxRecDepth 100000
/-! the loop over the two sums -/
theorem bools_snoc {vs : List Value} {bs : List Bool} (h : LSm.BoolsAre vs bs) (b : Bool) : LSm.BoolsAre (vs ++ [.bool b]) (bs ++ [b]) := by
  induction h with
  | nil => exact .cons b .nil
  | cons c _ ih => exact .cons c ih
theorem all_snoc {bs : List Bool} {b : Bool} : (bs ++ [b]).all id = (bs.all id && b) := by rw [List.all_append]; simp
theorem two_of {ts : List Value} {a b : Value} (h : ts.length = [a, b].length) : ∃ x y, ts = [x, y] := by
  match ts, h with
  | [x, y], _ => exact ⟨x, y, rfl⟩
section
variable {prog : Program} {w : World} {g h : Heap} {L I C D cK cO kd A B : Addr} {oI oC oD : Obj} {n2 l all : List (Addr × Obj)} {κ κ' κA κB τA τB : List (Nm × Nm)} {v : Value}
theorem d_itemA {A' : Around} {E : Value → Shared → Prop} {s : Shared} {h₀ : Heap} {news : List (Addr × Obj)} {kvs : List (Str × Value)} {d : Addr} {x : Str} {t : Tok} {y : Value} {value slice : PySem.Expr} {Q : Value → Shared → Prop} (N : News h₀ L s.heap news) (Dd : DictAt prog w news d kvs) (e : valueAt kvs x = some y) (h : Q y { s with toks := s.toks + 1 })
    (hs : subscripted slice false (.ref d) (.str x t) = operate [.ref d, .str x t] (getItem (.ref d) (.str x t)) := by with_unfolding_all rfl) :
    wpAny (model prog w) A' (subscriptTail value slice (.ref d) (.str x t)) Q E s :=
  tail_any (Dd.of N).typeIs slot_dict_getitem.lookup (wpAny_getItem_of (strKind_is prog w x t) (Dd.of N).mapOf e h) hs
/-- an element that changes one dict of the ledger -/
theorem sum_elt {h₀ : Heap} {m : Str → Option Value} {s₁ : Shared} {S : List (Addr × Obj) → Prop} {R : Value → List (Addr × Obj) → Prop} {b : Bool} {h' : Heap} {tk : Nat} (SC : SumC n2 cK cO kd) (SS : SumSt prog w n2 cK cO kd v κ l) (N : News h₀ L h ((I, oI) :: (C, oC) :: (D, oD) :: l)) (off : Off3 I C D l)
    (F' : Fr h₀ L h' m) (N' : News h₀ L h' all) (s : SubBut kd ((I, oI) :: (C, oC) :: (D, oD) :: l) all) (K : KeptAt prog w all kd κ') (hS : ∀ l', SubBut kd l l' → S l') (hR : ∀ l', SumSt prog w n2 cK cO kd v κ' l' → R (.bool b) l') :
    CompEnd h₀ L m s₁ I oI C oC D oD S R (.bool b) { s₁ with heap := h', toks := tk } := by
  obtain ⟨oK, hk1, _⟩ := kept_at SS.kept
  have hk := off.mem _ hk1
  have sub : ∀ p ∈ l, p.1 ≠ kd → p ∈ filt I (filt C (filt D all)) := fun p hp hn => by
    have o := off.mem p hp
    exact filt_mem (filt_mem (filt_mem (s p (.tail _ (.tail _ (.tail _ hp))) hn) o.2.2) o.2.1) o.1
  have K' : KeptAt prog w (filt I (filt C (filt D all))) kd κ' := by
    obtain ⟨kvs, ⟨o, b1, b2, b3⟩, h2⟩ := K
    exact ⟨kvs, ⟨o, filt_mem (filt_mem (filt_mem b1 hk.2.2) hk.2.1) hk.1, b2, b3⟩, h2⟩
  have Nl : News h₀ L h l := fun p hp => N p (.tail _ (.tail _ (.tail _ hp)))
  refine CompEnd.intro F' N' (filt I (filt C (filt D all))) (fun p hp => ?_) (Off3.of fun p hp => ?_) (hS _ sub) (hR _ (SS.keep SC Nl sub K'))
  · rcases List.mem_cons.mp hp with rfl | hp
    · exact s _ (.head _) (Ne.symm hk.1)
    rcases List.mem_cons.mp hp with rfl | hp
    · exact s _ (.tail _ (.head _)) (Ne.symm hk.2.1)
    rcases List.mem_cons.mp hp with rfl | hp
    · exact s _ (.tail _ (.tail _ (.head _))) (Ne.symm hk.2.2)
    exact (List.mem_filter.mp (List.mem_filter.mp (List.mem_filter.mp hp).1).1).1
  · have h1 := List.mem_filter.mp hp
    have h2 := List.mem_filter.mp h1.1
    have h3 := List.mem_filter.mp h2.1
    exact ⟨of_decide_eq_true h1.2, of_decide_eq_true h2.2, of_decide_eq_true h3.2⟩
theorem sum_elt2 {h₀ : Heap} {m : Str → Option Value} (s₁ : Shared) {ys : List Value} {bs : List Bool} {b : Bool} {h' : Heap} (tk : Nat) {ax : Addr} {oax : Obj} (f : Nat → List (Nm × Nm)) (g' : Nat → Bool) {i : Nat} (SC : SumC n2 cK cO kd) (SS : SumSt prog w n2 cK cO kd v (f i) l) (N : News h₀ L h ((I, oI) :: (C, oC) :: (D, lst ys) :: l)) (off : Off3 I C D l)
    (F' : Fr h₀ L h' m) (N' : News h₀ L h' all) (s : SubBut kd ((I, oI) :: (C, oC) :: (D, lst ys) :: l) all) (K : KeptAt prog w all kd (f (i + 1))) (hm : (ax, oax) ∈ l) (ne : ax ≠ kd) (hbs : LSm.BoolsAre ys bs) (hall : bs.all id = g' i) (hg : g' (i + 1) = (g' i && b)) :
    CompEnd h₀ L m s₁ I oI C oC D (lst ys) (fun l => (ax, oax) ∈ l) (fun y l' => SumSt prog w n2 cK cO kd v (f (i + 1)) l' ∧ ∃ bs, LSm.BoolsAre (ys ++ [y]) bs ∧ bs.all id = g' (i + 1)) (.bool b) { s₁ with heap := h', toks := tk } :=
  sum_elt (S := fun l => (ax, oax) ∈ l) (R := fun y l' => SumSt prog w n2 cK cO kd v (f (i + 1)) l' ∧ ∃ bs, LSm.BoolsAre (ys ++ [y]) bs ∧ bs.all id = g' (i + 1)) SC SS N off F' N' s K (fun _ s => s _ hm ne) fun l' S' => ⟨S', bs ++ [b], bools_snoc hbs b, by rw [all_snoc, hall, hg]⟩
/-- behind the try of a sum -/
def PSum (prog : Program) (w : World) (n2 : List (Addr × Obj)) (cK cO kd A : Addr) (v : Value) (κ : List (Nm × Nm)) (b : Bool) (m : Str → Option Value) (l : List (Addr × Obj)) : Prop :=
  m (Str.ofString "one") = some (.ref A) ∧ m (Str.ofString "due") = some (.bool b) ∧ m (Str.ofString "told") = some (.bool b) ∧ SumSt prog w n2 cK cO kd v κ l
theorem joinSum {M : Model} {A' : Around} {t : Sem Flow} {E : Value → Shared → Prop} {Q : Flow → Shared → Prop} {s : Shared} {G : Heap → Prop} {L : Addr} {m : Str → Option Value} {l0 : List (Addr × Obj)}
    (_hg : G g) (_F : Fr g L h m) (_S : SumSt prog w n2 cK cO kd v κ l0) (A : Addr) (b : Bool)
    (h1 : wpAny M A' t (JoinEnd G L s (PSum prog w n2 cK cO kd A v κ b)) E s) (h2 : ∀ fl s', JoinEnd G L s (PSum prog w n2 cK cO kd A v κ b) fl s' → Q fl s') : wpAny M A' t Q E s := wpAny_mono h1 h2 fun _ _ e => e
theorem SumC.of {n : List (Addr × Obj)} (l1 : ∀ p ∈ n, p.1 < kd) (h1 : CellO n cK) (h2 : CellO n cO) : SumC n cK cO kd := ⟨l1, ltOfCell l1 h1, ltOfCell l1 h2⟩
theorem SumSt.start {od : Obj} {n l : List (Addr × Obj)} {kvs : List (Str × Value)} (_N : News g L h l) (l1 : ∀ p ∈ n, p.1 < kd) (T : Tabs n) (cc : cO ≠ cK) (hO : CellAt n cO v) (hK : DictAt prog w ((kd, od) :: n) kd kvs) (R : Rel2 (Ent KVal) kvs κ) (k : KeepsC ((kd, od) :: n) l) (s : SubBut cK ((kd, od) :: n) l) (cK' : CellAt l cK (.ref kd)) :
    SumSt prog w n cK cO kd v κ l :=
  ⟨(show KeptAt prog w _ kd κ from ⟨kvs, hK, R⟩).m k.m, cK', (hO.mono (Keeps.cons Keeps.refl)).but s cc, (T.mono (Sub.refl.cons).i).c k, (Sub.refl.cons).m.trans k.m⟩
/-- what stands before a turn of the loop over the sums -/
structure PrSt (prog : Program) (w : World) (n0 : List (Addr × Obj)) (cK cO : Addr) (l : List (Addr × Obj)) : Prop where
  old : KM n0 l
  tabs : Tabs l
  cellK : CellO l cK
  cellO : CellO l cO
theorem PrSt.j {n0 l' : List (Addr × Obj)} (S : PrSt prog w n0 cK cO l) (s : KeepsJ I l l') (hI : ∀ p ∈ n0, p.1 < I) : PrSt prog w n0 cK cO l' :=
  ⟨S.old.j s hI, S.tabs.mono s.i, S.cellK.mono s.keeps, S.cellO.mono s.keeps⟩
/-- one and other -/
theorem pair_of {T0 T1 P0 P1 : Addr} {i : Nat} {x : Value} {hb0 hd0 kd0 tk0 hb1 hd1 kd1 tk1 : Addr} {is0 is1 : List Value} {κ0 τ0 κ1 τ1 : List (Nm × Nm)} (hP0 : TupAt l P0 [.ref T0, .ref T1]) (hP1 : TupAt l P1 [.ref T1, .ref T0])
    (S0 : Side prog w l T0 hb0 hd0 kd0 tk0 is0 κ0 τ0) (S1 : Side prog w l T1 hb1 hd1 kd1 tk1 is1 κ1 τ1) (hx : [Value.ref P0, .ref P1][i]? = some x) :
    ∃ P A B hbA hdA kdA tkA isA κA τA hbB hdB kdB tkB isB κB τB, x = .ref P ∧ TupAt l P [.ref A, .ref B] ∧ Side prog w l A hbA hdA kdA tkA isA κA τA ∧ Side prog w l B hbB hdB kdB tkB isB κB τB := by
  match i, hx with
  | 0, hx => cases hx; exact ⟨P0, T0, T1, _, _, _, _, _, _, _, _, _, _, _, _, _, _, rfl, hP0, S0, S1⟩
  | 1, hx => cases hx; exact ⟨P1, T1, T0, _, _, _, _, _, _, _, _, _, _, _, _, _, _, rfl, hP1, S1, S0⟩
  | n + 2, hx => cases hx
theorem PrSt.start {n6 : List (Addr × Obj)} (_N : News g L h l) (T : Tabs n6) (K : CellO n6 cK) (O : CellO n6 cO) (s : Sub n6 l) : PrSt prog w l cK cO l := ⟨KM.refl, T.mono s.i, K.mono s.keeps, O.mono s.keeps⟩
theorem pairsN {x P0 P1 : Addr} {o0 o1 : Obj} {n : List (Addr × Obj)} (_N : News g L h ((x, W.listOf #[.ref P0, .ref P1] 0) :: (P1, o1) :: (P0, o0) :: n)) : ∃ Q0 Q1, Q0 = P0 ∧ Q1 = P1 := ⟨P0, P1, rfl, rfl⟩
theorem tupT {x P0 P1 T0 T1 : Addr} {o1 : Obj} {n : List (Addr × Obj)} (_N : News g L h ((x, W.listOf #[.ref P0, .ref P1] 0) :: (P1, o1) :: (P0, ({ cls := .type "tuple", data := .seq #[.ref T0, .ref T1] } : Obj)) :: n)) :
    TupAt ((x, W.listOf #[.ref P0, .ref P1] 0) :: (P1, o1) :: (P0, ({ cls := .type "tuple", data := .seq #[.ref T0, .ref T1] } : Obj)) :: n) P0 [.ref T0, .ref T1] := ⟨_, .tail _ (.tail _ (.head _)), rfl, _, rfl⟩
theorem tupS {x P0 P1 T0 T1 : Addr} {o0 : Obj} {n : List (Addr × Obj)} (_N : News g L h ((x, W.listOf #[.ref P0, .ref P1] 0) :: (P1, ({ cls := .type "tuple", data := .seq #[.ref T1, .ref T0] } : Obj)) :: (P0, o0) :: n)) :
    TupAt ((x, W.listOf #[.ref P0, .ref P1] 0) :: (P1, ({ cls := .type "tuple", data := .seq #[.ref T1, .ref T0] } : Obj)) :: (P0, o0) :: n) P1 [.ref T1, .ref T0] := ⟨_, .tail _ (.head _), rfl, _, rfl⟩
theorem Side.nodup {T hb hd kd tk : Addr} {its : List Value} (S : Side prog w l T hb hd kd tk its κ τA) : (κ.map (·.1)).Nodup := let ⟨_, D, R⟩ := S.kept; R.nodup D.nodup
end
theorem allOk_take {κA κB : List (Nm × Nm)} {i : Nat} {q : Nm × Nm} (h : κB[i]? = some q) : allOk κA (κB.take (i + 1)) = (allOk κA (κB.take i) && okF (runK κA (κB.take i)) q) := by rw [take_succ' h, allOk_snoc]
theorem runKA_take {κA κB : List (Nm × Nm)} {i : Nat} {q : Nm × Nm} (h : κB[i]? = some q) : runK κA (κB.take (i + 1)) = keepG (runK κA (κB.take i)) q := by rw [take_succ' h, runK_snoc]
theorem runKA_small {κA κB : List (Nm × Nm)} (hA : κA.length ≤ 6) (hB : κB.length ≤ 6) (i : Nat) : (runK κA (κB.take i)).length ≤ 12 := by
  have h1 := runK_len (l := κB.take i) (κ := κA)
  have h2 : (κB.take i).length ≤ κB.length := by rw [List.length_take]; exact Nat.min_le_right _ _
  omega
theorem RowsOk.app {a b : List (Nm × Nm)} (h1 : RowsOk a) (h2 : RowsOk b) : RowsOk (a ++ b) := fun q hq => (List.mem_append.mp hq).elim (h1 q) (h2 q)
theorem runKA_whole {κA κB : List (Nm × Nm)} (hA : κA.length ≤ 6) (hB : κB.length ≤ 6) : (runK κA κB).length ≤ 12 := by
  have h1 := runK_len (l := κB) (κ := κA)
  omega
theorem sum_no {κA κB : List (Nm × Nm)} (h : (κA.map (·.1)).Nodup) (e : foldK [] (κA ++ κB) = none) : allOk κA κB = false := by
  rw [foldK_sum h] at e
  cases q : allOk κA κB with
  | true => rw [q, if_pos rfl] at e; cases e
  | false => rfl
theorem sum_ok {κA κB κ : List (Nm × Nm)} (h : (κA.map (·.1)).Nodup) (e : foldK [] (κA ++ κB) = some κ) : allOk κA κB = true ∧ κ = runK κA κB := by
  rw [foldK_sum h] at e
  cases q : allOk κA κB with
  | true => rw [q, if_pos rfl] at e; exact ⟨rfl, (Option.some.inj e).symm⟩
  | false => rw [q, if_neg (fun z => nomatch z)] at e; cases e
theorem noRaise (a : List WData) (c : ExcName) : PySem.Challenge.rw_bj0039_01.row.claim.raises a c = false := by
  exact raisesW_false (by wrow_none_raised) c
theorem isTrue (ws : List Int) : PySem.Challenge.rw_bj0039_01.row.claim.post [ofPy (PyData.list (List.map PyData.int ws))] (.bool true) [ofPy (PyData.list (List.map PyData.int ws))] = true := by
  wrow_post
end
section
theorem offZ0 : True := by
  w_top off
  trivial
open PyProof.Rows.LCg PySem PySem.W PySem.Spec PySem.Calls PyProof.Rows
set_option maxRecDepth 100000
section
variable {prog : Program} {w : World} {p : Program} {loose : List Str} {mean : ExcName → Option Value} {mg mb : Str → Option Value}
local macro_rules | `(tactic| walk_at "compareOp Eq ref ref") => `(tactic| (k_here; (refine cmp_ofEq ?_); k_dflt (refine' cmp_K ?k1 ?k2 ?k3 ?k4 ?k5 ?k6 ?k7 ?k8 ?_; (case k1 => k_units); (case k2 => k_asm); (case k3 => k_asm); (case k4 => k_inst); (case k5 => exact InstAt.type (by k_inst)); (case k6 => k_is); (case k7 => k_is); (case k8 => k_is); k_whole)))
local macro_rules | `(tactic| walk_at "GrownAll") => `(tactic| (refine Stop.go ?_))
local macro_rules | `(tactic| walk_at "binaryOp Add ref ref") => `(tactic| (k_here; (with_reducible show wpAny _ _ (binaryOp Operator.Add (Value.ref _) (Value.ref _)) _ _ _); refine Stop.go ?_))
local macro_rules | `(tactic| k_is) => `(tactic| first
  | with_reducible exact kfA _ _
  | with_reducible exact kfB _ _
  | with_reducible exact kfC _ _
  | with_reducible exact kfD _ _
  | with_reducible exact kfE _ _
  | with_reducible exact kfF _ _
  | with_reducible exact kfM _ _
  | with_reducible exact kfG _ _
  | with_reducible exact kfH _ _
  | with_reducible exact kfI _ _ _
  | with_reducible exact kfJ _ _
  | with_reducible exact kfK _ _
  )
local macro_rules | `(tactic| ktr_rel) => `(tactic| first
  | (refine HeldAt.mono (by with_reducible assumption) ?_; ktr_rel)
  | (refine KeptAt.mono (by with_reducible assumption) ?_; ktr_rel)
  | (refine AppAt.mono (by with_reducible assumption) ?_; ktr_rel)
  | (refine ListAt.mono (by with_reducible assumption) ?_; ktr_rel)
  | (refine ListAt.mono (AppAt.list (by with_reducible assumption)) ?_; ktr_rel)
  | (refine' ListAt.but (by with_reducible assumption) ?kk ?hh; (case kk => ktr_rel); (case hh => with_reducible assumption))
  | (refine' AppAt.but (by with_reducible assumption) ?kk ?hh; (case kk => ktr_rel); (case hh => with_reducible assumption)))
local macro_rules | `(tactic| walk_at "subscriptTail") => `(tactic| (k_here; (with_reducible show wpAny _ _ (subscriptTail _ _ (Value.ref _) (Value.int _ _)) _ _ _); k_dflt (refine' la_item ?N ?D ?a ?b ?c ?_; (case N => k_asm); (case D => ktr_rel); (case a => decide); (case b => decide); (case c => rfl))))
local macro_rules | `(tactic| walk_at "subscriptTail Name Constant ref int") => `(tactic| (k_here; (with_reducible show wpAny _ _ (subscriptTail _ _ (Value.ref _) (Value.int _ _)) _ _ _); k_dflt (refine' la_item ?N ?D ?a ?b ?c ?_; (case N => k_asm); (case D => ktr_rel); (case a => decide); (case b => decide); (case c => rfl))))
local macro_rules | `(tactic| walk_at "setItem ref int") => `(tactic| (k_here; k_dflt (refine' la_set ?F ?N ?D ?a ?b ?c ?_; (case F => k_asm); (case N => k_asm); (case D => ktr_rel); (case a => decide); (case b => decide); (case c => simp); k_whole); intro h9 news9 F9 N9 S9 A9 D9))
local macro_rules | `(tactic| walk_at "call builtin:len") => `(tactic| (k_here; (with_reducible show wpAny _ _ (call (Value.builtin "len") [Value.ref _]) _ _ _); k_dflt (refine' la_len ?N ?D ?z ?_; (case N => k_asm); (case D => ktr_rel); (case z => first | with_reducible assumption | omega))))
local macro_rules | `(tactic| walk_at "call builtin:list.append") => `(tactic| (k_here; (with_reducible show wpAny _ _ (call (Value.builtin "list.append") [Value.ref _, _]) _ _ _); k_dflt (refine' la_append ?F ?N ?D ?z ?_; (case F => k_asm); (case N => k_asm); (case D => ktr_rel); (case z => first | assumption | (rw [sizeLine_eq]; omega)); k_whole); intro h9 news9 F9 N9 S9 A9 D9))
local macro_rules | `(tactic| ktr_rel) => `(tactic| first
  | exact KeepsI.refl
  | (refine KeepsI.cons ?_; ktr_rel)
  | (refine KeepsI.trans ?_ (Sub.i (by with_reducible assumption)); ktr_rel)
  | (refine KeepsI.trans ?_ (by with_reducible assumption); ktr_rel)
  | (refine Keeps.trans ?_ (KeepsI.keeps (by with_reducible assumption)); ktr_rel)
  | (refine KeepsA.trans ?_ (KeepsI.a (by with_reducible assumption)); ktr_rel)
  | (refine TupAt.mono (by with_reducible assumption) ?_; ktr_rel))
local macro_rules | `(tactic| walk_at "call ref") => `(tactic| (k_here; (with_reducible show wpAny _ _ (call (Value.ref 1041) _ _) _ _ _); refine Stop.go ?_))
local macro_rules | `(tactic| walk_at "call ref") => `(tactic| (k_here; (with_reducible show wpAny _ _ (call (Value.ref 1062) _ _) _ _ _); refine Stop.go ?_))
local macro_rules | `(tactic| walk_at "call ref") => `(tactic| (k_here; (with_reducible show wpAny _ _ (call (Value.ref 986) _ _) _ _ _); refine Stop.go ?_))
local macro_rules | `(tactic| walk_at "call ref") => `(tactic| (k_here; (with_reducible show wpAny _ _ (call (Value.ref 1074) _ _) _ _ _); refine Stop.go ?_))
local macro_rules | `(tactic| walk_at "call ref") => `(tactic| (k_here; (with_reducible show wpAny _ _ (call (Value.ref 1017) _ _) _ _ _); refine Stop.go ?_))
local macro_rules | `(tactic| walk_at "call ref") => `(tactic| (k_here; (with_reducible show wpAny _ _ (call (Value.ref 1007) _ _) _ _ _); refine Stop.go ?_))
local macro_rules | `(tactic| walk_at "call ref") => `(tactic| (k_here; (with_reducible show wpAny _ _ (call (Value.ref 1084) _ _) _ _ _); refine Stop.go ?_))
local macro_rules | `(tactic| walk_at "exec For") => `(tactic| (k_here; (with_reducible show wpAny _ _ (exec (Stmt.For _ _ _ _ _) _) _ _ _); refine Stop.go ?_))
local macro_rules | `(tactic| walk_at "exec For Name Call") => `(tactic| (k_here; (with_reducible show wpAny _ _ (exec (Stmt.For _ _ _ _ _) _) _ _ _); refine Stop.go ?_))
local macro_rules | `(tactic| walk_at "exec For Name Call cons nil") => `(tactic| (k_here; (with_reducible show wpAny _ _ (exec (Stmt.For _ _ _ _ _) _) _ _ _); refine Stop.go ?_))
local macro_rules | `(tactic| walk_at "exec For Name List") => `(tactic| (k_here; (with_reducible show wpAny _ _ (exec (Stmt.For _ _ _ _ _) _) _ _ _); refine Stop.go ?_))
local macro_rules | `(tactic| walk_at "exec For Name List cons nil") => `(tactic| (k_here; (with_reducible show wpAny _ _ (exec (Stmt.For _ _ _ _ _) _) _ _ _); refine Stop.go ?_))
local macro_rules | `(tactic| walk_at "exec For Name List cons") => `(tactic| (k_here; (with_reducible show wpAny _ _ (exec (Stmt.For _ _ _ _ _) _) _ _ _); refine Stop.go ?_))
local macro_rules | `(tactic| walk_at "exec For Tuple Name") => `(tactic| (k_here; (with_reducible show wpAny _ _ (exec (Stmt.For _ _ _ _ _) _) _ _ _); refine Stop.go ?_))
local macro_rules | `(tactic| walk_at "exec For Tuple Name cons nil") => `(tactic| (k_here; (with_reducible show wpAny _ _ (exec (Stmt.For _ _ _ _ _) _) _ _ _); refine Stop.go ?_))
local macro_rules | `(tactic| walk_at "exec For Tuple List") => `(tactic| (k_here; (with_reducible show wpAny _ _ (exec (Stmt.For _ _ _ _ _) _) _ _ _); refine Stop.go ?_))
local macro_rules | `(tactic| walk_at "exec For Tuple List cons nil") => `(tactic| (k_here; (with_reducible show wpAny _ _ (exec (Stmt.For _ _ _ _ _) _) _ _ _); refine Stop.go ?_))
local macro_rules | `(tactic| walk_at "exec For Tuple List cons") => `(tactic| (k_here; (with_reducible show wpAny _ _ (exec (Stmt.For _ _ _ _ _) _) _ _ _); refine Stop.go ?_))
local macro_rules | `(tactic| ktr_rel) => `(tactic| first
  | exact KeepsC.refl
  | (refine KeepsC.cons ?_; ktr_rel)
  | (refine KeepsC.trans ?_ (Sub.c (by with_reducible assumption)); ktr_rel)
  | (refine KeepsC.trans ?_ (by with_reducible assumption); ktr_rel)
  | (refine ListAt.monoC (by with_reducible assumption) ?_; ktr_rel))
local macro_rules | `(tactic| ktr_rel) => `(tactic| (refine CellAt.mono (by with_reducible assumption) ?_; ktr_rel))
local macro_rules | `(tactic| walk_at "eval Name") => `(tactic| (k_here; (with_reducible show wpAny _ _ (eval (Expr.Name _ _) _) _ _ _); k_dflt (first
  | (refine' nameCF ?N ?c ?m ?_ ?a ?b; (case b => rfl); (case a => first | rfl | assumption); (case N => k_asm); (case c => exact rfl); (case m => first | with_reducible assumption | ktr_rel); k_whole)
  | (refine' nameCC ?N ?c ?m ?_ ?a ?b; (case b => rfl); (case a => first | rfl | assumption); (case N => k_asm); (case c => exact rfl); (case m => first | with_reducible assumption | ktr_rel); k_whole))))
local macro_rules | `(tactic| walk_at "eval Name") => `(tactic| (k_here; (fail_if_success (with_reducible show wpAny _ _ (eval (Expr.Name _ _) (compEnvC _ _ _ _)) _ _ _)); k_dflt (first
  | (refine' nameX_L ?F ?v ?_ ?a ?b; (case F => k_asm); (case a => rfl); (case b => rfl); (case v => rfl); k_whole)
  | (refine' nameX_K ?F ?X ?T ?e ?_ ?a ?b; (case F => k_asm); (case X => k_asm); (case T => k_asm); (case a => rfl); (case b => rfl); (case e => k_is); k_whole)
  | (refine' nameX_B ?F ?X ?T ?e ?v ?n ?_ ?a ?b; (case F => k_asm); (case X => k_asm); (case T => k_asm); (case a => rfl); (case b => rfl); (case e => k_is); (case v => boot_fast); (case n => decide); k_whole))))
local macro_rules | `(tactic| walk_at "storeName") => `(tactic| (k_here; k_dflt (refine' setCell ?F ?N ?c ?m ?_ ?a ?b; (case b => rfl); (case a => first | rfl | assumption); (case c => exact rfl); (case F => k_asm); (case N => k_asm); (case m => first | with_reducible assumption | (refine CellO.mono (by with_reducible assumption) ?_; ktr_rel) | (refine' CellO.but ?n1 ?n2 ?n3; (case n1 => with_reducible assumption); (case n2 => with_reducible assumption); (case n3 => first | assumption | exact Nat.ne_of_lt (Nat.lt_succ_self _) | exact Nat.ne_of_gt (Nat.lt_succ_self _)))); k_whole); intro h9 news9 F9 N9 C9 S9 V9))
local macro_rules | `(tactic| walk_at "subscriptTail") => `(tactic| (k_here; (with_reducible show wpAny _ _ (subscriptTail _ _ (Value.ref _) (Value.int _ _)) _ _ _); k_dflt (refine' ta_item ?N ?D ?a ?b ?j ?x ?_; (case N => k_asm); (case D => with_reducible assumption); (case a => decide); (case b => decide); (case j => rfl); (case x => rfl))))
local macro_rules | `(tactic| walk_at "subscriptTail Name Constant ref int") => `(tactic| (k_here; (with_reducible show wpAny _ _ (subscriptTail _ _ (Value.ref _) (Value.int _ _)) _ _ _); k_dflt (refine' ta_item ?N ?D ?a ?b ?j ?x ?_; (case N => k_asm); (case D => with_reducible assumption); (case a => decide); (case b => decide); (case j => rfl); (case x => rfl))))
local macro_rules | `(tactic| walk_at "subscriptTail") => `(tactic| (k_here; (fail_if_success (fail_if_success (have _h : GoRow := by with_reducible assumption))); (with_reducible show wpAny _ _ (subscriptTail _ _ (Value.ref _) (Value.int _ _)) _ _ _); refine Stop.go ?_))
local macro_rules | `(tactic| walk_at "subscriptTail Name Constant ref int") => `(tactic| (k_here; (fail_if_success (fail_if_success (have _h : GoRow := by with_reducible assumption))); (with_reducible show wpAny _ _ (subscriptTail _ _ (Value.ref _) (Value.int _ _)) _ _ _); refine Stop.go ?_))
local macro_rules | `(tactic| walk_at "call builtin:list.append") => `(tactic| (k_here; (with_reducible show wpAny _ _ (call (Value.builtin "list.append") [Value.ref _, _]) _ _ _); refine Stop.go ?_))
local macro_rules | `(tactic| walk_at "getMethod ref") => `(tactic| (k_here; (with_reducible show wpAny _ _ (getMethod (Value.ref _) (PySem.Str.ofString "append") _) _ _ _); k_dflt (refine' kl_method ?N ?m PySem.F.slot_list_append PySem.F.type_list_append ?_; (case N => k_asm); (case m => with_reducible assumption))))
local macro_rules | `(tactic| walk_at "exec Try") => `(tactic| (k_here; (with_reducible show wpAny _ _ (exec (Stmt.Try _ (_ :: _) _ [] _) _) _ _ _); refine wpAny_Try_except ?_))
local macro_rules | `(tactic| walk_at "setItem ref ref") => `(tactic| (k_here; (with_reducible show wpAny _ _ (PySem.setItem (Value.ref _) (Value.ref _) _) _ _ _); k_dflt (refine' ksp_setItem ?F ?X ?I ?hQ ?hS ?hF ?_; (case F => k_asm); (case X => k_asm); (case I => k_inst); (case hS => k_is); (case hF => k_is); (case hQ => k_is); k_whole)))
local macro_rules | `(tactic| walk_at "subscriptTail") => `(tactic| (k_here; (fail_if_success (fail_if_success (have _h : GoS := by with_reducible assumption))); (with_reducible show wpAny _ _ (subscriptTail _ _ (Value.ref _) (Value.ref _)) _ _ _); refine Stop.go ?_))
local macro_rules | `(tactic| walk_at "exec Assign") => `(tactic| (k_here; (fail_if_success (have _h : GoDue := by with_reducible assumption)); (with_reducible show wpAny _ _ (exec (Stmt.Assign [Expr.Name (Str.ofString "due") _] _ _) _) _ _ _); refine Stop.go ?_))
local macro_rules | `(tactic| walk_at "call ref") => `(tactic| (k_here; (with_reducible show wpAny _ _ (call (Value.ref 126) [Value.str (Nm.str _) _] _) _ _ _); k_dflt (refine' use (mkVarM) ?k1 ?k2 ?k3 ?k4 ?k5 ?kK ?kd ?ku ?_; (case k1 => k_asm); (case k2 => k_asm); (case k3 => k_asm); (case k4 => k_asm); (case k5 => k_asm); (case kK => first | exact rfl | assumption); (case kd => ktr_room); (case ku => ktr_units)); (intro r9 news9 h9 tk9 F9 N9 P9; (obtain ⟨S9, v9, e9, H9, M9⟩ := P9; subst e9); (try dsimp only); kts_tail)))
local macro_rules | `(tactic| walk_at "call ref") => `(tactic| (k_here; (with_reducible show wpAny _ _ (call (Value.ref 1048) _ _) _ _ _); k_dflt (refine' use (lawMadeM) ?k1 ?k2 ?k3 ?k4 ?k5 ?kK ?kd ?ku ?_; (case k1 => k_asm); (case k2 => k_asm); (case k3 => k_asm); (case k4 => k_asm); (case k5 => k_asm); (case kK => first | exact rfl | assumption); (case kd => ktr_room); (case ku => ktr_units)); (intro r9 news9 h9 tk9 F9 N9 P9; (obtain ⟨S9, v9, e9, H9, M9⟩ := P9; subst e9); (try dsimp only); kts_tail)))
local macro_rules | `(tactic| walk_at "eval ListComp") => `(tactic| (k_here; (with_reducible show wpAny _ _ (eval (Expr.ListComp _ _ _ _) _) _ _ _); refine Stop.go ?_))
local macro_rules | `(tactic| walk_at "exec If") => `(tactic| (k_here; (fail_if_success (fail_if_success (have _h : GoLen := by with_reducible assumption))); (with_reducible show wpAny _ _ (exec (Stmt.If (Expr.BoolOp _ _ _) _ _ _) _) _ _ _); refine Stop.go ?_))
local macro_rules | `(tactic| walk_at "exec Try") => `(tactic| (k_here; (fail_if_success (fail_if_success (have _h : GoTry := by with_reducible assumption))); (with_reducible show wpAny _ _ (exec (Stmt.Try _ _ _ _ _) _) _ _ _); refine Stop.go ?_))
local macro_rules | `(tactic| walk_at "compareOp IsNot bool bool") => `(tactic| (k_here; k_dflt (refine' isNotSame ?e ?_; (case e => first | rfl | with_reducible assumption))))
local macro_rules | `(tactic| walk_at "exec Assign") => `(tactic| (k_here; (fail_if_success (have _h : GoKept := by with_reducible assumption)); (with_reducible show wpAny _ _ (exec (Stmt.Assign [Expr.Name (Str.ofString "kept") _] _ _) _) _ _ _); refine Stop.go ?_))
local macro_rules | `(tactic| walk_at "subscriptTail") => `(tactic| (k_here; (with_reducible show wpAny _ _ (subscriptTail _ _ (Value.ref _) (Value.str _ _)) _ _ _); refine Stop.go ?_))
local macro_rules | `(tactic| walk_at "call type:dict") => `(tactic| (k_here; (with_reducible show wpAny _ _ (call (Value.type _) [Value.ref _] _) _ _ _); refine Stop.go ?_))
local macro_rules | `(tactic| walk_at "call builtin:all") => `(tactic| (k_here; (with_reducible show wpAny _ _ (call (Value.builtin _) [Value.ref _] _) _ _ _); refine Stop.go ?_))
set_option pp.maxSteps 300 in
set_option maxHeartbeats 6000000 in
theorem main : PySem.Challenge.rw_bj0039_01.Holds := by
  refine Mine.hd ?_
  k_go0
  k_steps
  show Stop _
  unfold Stop
  rename IntsAre _ _ => hIA
  rename News _ _ _ _ => NX
  rename (_ : Nat) < _ ∧ _ => hlt
  rename World => w
  rename Below _ _ _ _ => hB
  rename Frag.In (hd.heap_39 _) _ => hX
  with_reducible rename CodeHd _ (286, 282).fst (286, 282).snd => c1
  with_reducible rename CodeHd _ (274, 270).fst (274, 270).snd => c2
  with_reducible rename CodeHd _ (260, 256).fst (260, 256).snd => c3
  have CD : Cd _ := ⟨c1, c2, c3⟩
  have G0 : Gd _ _ _ _ _ _ _ _ [] _ _ := ⟨KtsTurn.refl, hB, hX, by assumption, ktsDicts_nil⟩
  have hT0 := tabsOf NX (List.mem_of_getElem? (i := 7) rfl) (List.mem_of_getElem? (i := 8) rfl) (List.mem_of_getElem? (i := 9) rfl)
  have hId0 := idleOf NX (List.mem_of_getElem? (i := 4) rfl) (List.mem_of_getElem? (i := 5) rfl) (List.mem_of_getElem? (i := 6) rfl) (List.mem_of_getElem? (i := 10) rfl)
  have cO0 := CellO.of NX (List.mem_of_getElem? (i := 2) rfl) (by assumption)
  have cK0 := CellO.of NX (List.mem_of_getElem? (i := 3) rfl) (by assumption)
  generalize ghostOf _ _ = base at *
  rename Top _ _ _ _ _ base => TP0
  clear c1 c2 c3
  rename (Ground ..) => z0
  replace z0 := Kp.mk z0
  rename (Heap.CodeRec ..) => z2
  replace z2 := Kp.mk z2
  rename (Flt.MathXP ..) => z3
  replace z3 := Kp.mk z3
  rename (LooseAre ..) => z4
  replace z4 := Kp.mk z4
  rename (Tables ..) => z5
  replace z5 := Kp.mk z5
  rename (TopE ..) => z6
  replace z6 := Kp.mk z6
  rename (TopW ..) => z7
  replace z7 := Kp.mk z7
  rename (TabsAt ..) => z8
  replace z8 := Kp.mk z8
  rename (Dflts ..) => z9
  replace z9 := Kp.mk z9
  rename (CellsAre ..) => z10
  replace z10 := Kp.mk z10
  rename (ReadsAll ..) => z11
  replace z11 := Kp.mk z11
  rename (Reads ..) => z12
  replace z12 := Kp.mk z12
  rename (ReadsAllW ..) => z13
  replace z13 := Kp.mk z13
  rename (Well ..) => z14
  replace z14 := Kp.mk z14
  refine' use (lawNext (k := 0) (twoLists NX).1 (twoLists NX).2 hIA ?s1 ?s2 ?s3 ?s4) ?k1 ?k2 ?k3 ?k4 ?k5 ?kK ?kd ?ku ?_; (case k1 => k_asm); (case k2 => k_asm); (case k3 => k_asm); (case k4 => k_asm); (case k5 => k_asm); (case kK => first | exact rfl | assumption); (case kd => ktr_room); (case ku => ktr_units)
  case s1 => exact Nat.ne_of_lt hlt.1
  case s2 => rw [hIA.length]; exact Nat.le_trans (List.length_take_le _ _) (by decide)
  case s3 => decide
  case s4 => decide
  intro r9 news9 h9 tk9 F9 N9 P9
  obtain ⟨S9, ⟨tq, hH9⟩, many, tm, rfl, hm0, hm7⟩ := P9
  have hws := hIA.length
  replace hws := Nat.le_trans (Nat.le_of_eq hws) (Nat.le_trans (List.length_take_le 20 _) (by decide : (20 : Nat) ≤ 63))
  have hS9 := (twoLists NX).2.but S9 (Nat.ne_of_lt hlt.1)
  have hH1 : ListAt news9 _ [_, .int ((1 : Nat) : Int) tq] := hH9
  have hT9 := hT0.list NX (twoLists NX).1 S9
  have hId9 := hId0.list NX (twoLists NX).1 S9
  have cO9 := cO0.but S9 (Nat.ne_of_lt hlt.2.1)
  have cK9 := cK0.but S9 (Nat.ne_of_lt hlt.2.2.1)
  clear hH9 hT0 hId0 cO0 cK0 S9
  k_steps
  show Stop _
  unfold Stop
  rename News _ _ _ news9 => NN9
  refine' use (lawNext hH1 hS9 hIA ?s1b ?s2b ?s3b ?s4b) ?k1b ?k2b ?k3b ?k4b ?k5b ?kKb ?kdb ?kub ?_; (case k1b => k_asm); (case k2b => k_asm); (case k3b => k_asm); (case k4b => k_asm); (case k5b => k_asm); (case kKb => first | exact rfl | assumption); (case kdb => ktr_room); (case kub => ktr_units)
  case s1b => exact Nat.ne_of_lt hlt.1
  case s2b => exact hws
  case s3b => omega
  case s4b => decide
  intro r8 news8 h8 tk8 F8 N8 P8
  obtain ⟨S8, ⟨tq2, hH8⟩, cut, tc, rfl, hc0, hc1⟩ := P8
  have hS8 := hS9.but S8 (Nat.ne_of_lt hlt.1)
  have hH2 : ListAt news8 _ [_, .int ((2 : Nat) : Int) tq2] := hH8
  have hT8 := hT9.list NN9 hH1 S8
  have hId8 := hId9.list NN9 hH1 S8
  have cO8 := cO9.but S8 (Nat.ne_of_lt hlt.2.1)
  have cK8 := cK9.but S8 (Nat.ne_of_lt hlt.2.2.1)
  clear hH8 hT9 hId9 cO9 cK9 S8 hS9 hH1
  obtain ⟨mn, rfl⟩ := Int.eq_ofNat_of_zero_le hm0
  have hmn : mn < 7 := by omega
  k_steps
  show Stop _
  unfold Stop
  rename ∀ p ∈ news8, _ => l8
  have RC := RowC.of l8 hH2 hS8 cK8 cO8 hlt.1 hlt.2.2.1 hlt.2.1
  rename News _ _ _ ((_, W.listOf #[] 0) :: news8) => NR
  have RS := RowSt.start NR hH2 hS8 hT8 hId8 cK8 cO8
  clear hH2 hS8 hT8 hId8 cO8 cK8 hlt
  k_dflt (refine' forR G0 ?FF ?_; (case FF => k_asm))
  k_steps
  rename IsRange _ _ _ _ _ _ _ _ => hrg
  rename News _ _ _ _ => NZ
  refine ⟨_, _, _, _, _, _, mn, _, _, _, rfl, rfl, G0, by k_asm, NZ, hrg, (range_is hmn).1, (range_is hmn).2, fun j m l => m (Str.ofString "hand") = some (.ref _) ∧ m (Str.ofString "rows") = some (.ref _) ∧ m (Str.ofString "cut") = some (.int cut tc) ∧ ∃ k its rows, k ≤ 2 + 2 * j ∧ RowSt _ _ _ _ _ _ k its rows l ∧ RowsOk rows ∧ rows.length = j, ?_, ⟨rfl, rfl, rfl, 2, [], [], Nat.le_refl _, RS.sub (subOf NZ (by ktr_rel)), fun _ h => (nomatch h), rfl⟩, ?_, ?_⟩
  · rintro j m l l' ⟨a1, a2, a3, k, its, rows, a4, a5, a6⟩ kk
    exact ⟨a1, a2, a3, k, its, rows, a4, a5.j kk, a6⟩
  · intro j t4 g4 I4 oI4 m₄ n4 h4 tk4 hj hg4 hit4 hI4 hJ4 F N
    clear hrg NZ RS
    obtain ⟨b1, b2, b3, k, its, rows, b4, RS, b5, b6⟩ := hJ4
    have goRow : GoRow := .mk
    have F5 := Fr.fix3 F b1 b2 b3
    obtain ⟨T8, B8, X8, TP8, D8⟩ := id hg4
    clear b1 b2 b3 F
    k_steps
    show Stop _
    unfold Stop
    rename News _ _ _ ((_, W.listOf #[.str _ _, .str _ _, .str _ _] 0) :: n4) => NA
    rename ∀ p ∈ n4, _ => lA
    have RSA := RS.sub (subOf NA (by ktr_rel))
    replace hI4 := subOf NA (by ktr_rel : Sub n4 _) _ hI4
    obtain ⟨th, HH⟩ := RSA.hand
    have hL3 := headList NA
    have hne3 := RS.above lA
    refine' use (lawNext HH RSA.scr hIA ?s1c ?s2c ?s3c ?s4c) ?k1c ?k2c ?k3c ?k4c ?k5c ?kKc ?kdc ?kuc ?_; (case k1c => k_asm); (case k2c => k_asm); (case k3c => k_asm); (case k4c => k_asm); (case k5c => k_asm); (case kKc => first | exact rfl | assumption); (case kdc => ktr_room); (case kuc => ktr_units)
    case s1c => exact RC.sh
    case s2c => exact hws
    case s3c => decide
    case s4c => omega
    intro r7 news7 h7 tk7 F7 N7 P7
    obtain ⟨S7, ⟨tq7, hH7⟩, v, tv, rfl, hv0, hv1⟩ := P7
    have RS7 := RSA.next (k' := k + 1) RC NA S7 hH7
    replace hI4 := iter_list hI4 hit4 NA HH S7
    replace hL3 := hL3.but S7 hne3
    obtain ⟨nm, tn, hpk, hvn⟩ := pick3 hL3 hv0 hv1
    clear hH7 HH th NA lA RSA RS
    k_steps
    show Stop _
    unfold Stop
    k_dflt (refine' la_item ?N3 ?D3 ?a3 ?b3 ?c3 ?_; (case N3 => exact N7); (case D3 => exact hL3); (case a3 => exact hv0); (case b3 => omega); (case c3 => exact hpk))
    clear hpk hL3
    obtain ⟨nA, hA⟩ := id RS7.app
    k_steps
    show Stop _
    unfold Stop
    rename News _ _ _ ((_, W.listOf #[.str _ _, .str _ _, .str _ _, .str _ _, .str _ _, .str _ _] 0) :: news7) => NA
    rename ∀ p ∈ news7, _ => lA
    have RSA := RS7.sub (subOf NA (by ktr_rel))
    replace hI4 := subOf NA (by ktr_rel : Sub news7 _) _ hI4
    obtain ⟨th, HH⟩ := RSA.hand
    have hL6 := headList NA
    have hne6 := RS7.above lA
    refine' use (lawNext HH RSA.scr hIA ?s1d ?s2d ?s3d ?s4d) ?k1d ?k2d ?k3d ?k4d ?k5d ?kKd ?kdd ?kud ?_; (case k1d => k_asm); (case k2d => k_asm); (case k3d => k_asm); (case k4d => k_asm); (case k5d => k_asm); (case kKd => first | exact rfl | assumption); (case kdd => ktr_room); (case kud => ktr_units)
    case s1d => exact RC.sh
    case s2d => exact hws
    case s3d => decide
    case s4d => omega
    intro r6 news6 h6 tk6 F6 N6 P6
    obtain ⟨S6, ⟨tq6, hH6⟩, v2, tv2, rfl, hw0, hw1⟩ := P6
    have RS6 := RSA.next (k' := k + 1 + 1) RC NA S6 hH6
    replace hI4 := iter_list hI4 hit4 NA HH S6
    replace hL6 := hL6.but S6 hne6
    obtain ⟨nm2, tn2, hpk, hvn2⟩ := pick6 hL6 hw0 hw1
    clear hH6 HH th NA lA RSA RS7 hA
    k_steps
    show Stop _
    unfold Stop
    k_dflt (refine' la_item ?N3 ?D3 ?a3 ?b3 ?c3 ?_; (case N3 => exact N6); (case D3 => exact hL6); (case a3 => exact hw0); (case b3 => omega); (case c3 => exact hpk))
    clear hpk hL6
    k_steps
    show Stop _
    unfold Stop
    rename News _ _ _ (_ :: news6) => NT
    have RST := RS6.sub (subOf NT (by ktr_rel))
    replace hI4 := subOf NT (by ktr_rel : Sub news6 _) _ hI4
    k_dflt (refine' la_append ?FA ?NA ?DA ?zA ?_; (case FA => k_asm); (case NA => exact NT); (case DA => exact RST.app); (case zA => rw [RS6.rin.length, sizeLine_eq]; omega); k_whole)
    intro h9 news9 F9 N9 S9 A9 D9
    have RS9 := RST.put (q := (nm, nm2)) RC NT S9 D9 ⟨_, .head _, rfl, _, rfl⟩
    replace hI4 := iter_list hI4 hit4 NT RST.app.list S9
    k_steps
    refine TurnEnd.intro hg4 (by k_asm) N9 (fun p hp => ?_) ⟨rfl, rfl, rfl, k + 1 + 1, _, _, by omega, RS9, b5.snoc hvn hvn2, by rw [List.length_append, b6]; rfl⟩
    rw [List.mem_singleton.mp hp]; exact hI4
  · intro g4 m₄ n4 h4 tk4 hg4 hJ4 F N
    obtain ⟨b1, b2, b3, k, its, rows, _, RS, hok, hrz⟩ := hJ4
    have F5 := Fr.fix2 F b2 b3 rfl
    obtain ⟨T8, B8, X8, TP8, D8⟩ := id hg4
    have hA := RS.app.list
    have hrin := RS.rin
    have hTb := RS.tabs
    have hId := RS.idle
    have hcK := RS.cellK
    have hcO := RS.cellO
    obtain ⟨ct, rfl⟩ := Int.eq_ofNat_of_zero_le hc0
    clear b1 b2 b3 F RS RC hrg NZ hm0 hm7 hc0
    k_steps
    show Stop _
    unfold Stop
    have goS : GoS := .mk
    rename News _ _ _ ((_, W.listOf #[] 0) :: n4) => NS
    rename ∀ p ∈ n4, _ => lS
    replace hA := hA.mono (Sub.keeps (subOf NS (by ktr_rel)))
    k_dflt (refine' forS hg4 ?FF2 ?_; (case FF2 => k_asm))
    k_steps
    show Stop _
    unfold Stop
    k_dflt (refine' la_upto ?b1 ?b2 ?b3 ?b4 ?_ ?b6 ?b7; (case b1 => k_asm); (case b2 => k_asm); (case b3 => exact hA); (case b4 => rw [hrin.length]; omega); (case b6 => with_unfolding_all rfl); (case b7 => intro _; with_unfolding_all rfl); k_whole)
    intro pA hA2 FA NA lA
    k_steps
    show Stop _
    unfold Stop
    k_dflt (refine' la_from ?d1 ?d2 ?d3 ?d4 ?_ ?d6 ?d7; (case d1 => k_asm); (case d2 => k_asm); (case d3 => exact hA.mono (Sub.keeps (subOf NA (by ktr_rel)))); (case d4 => rw [hrin.length]; omega); (case d6 => with_unfolding_all rfl); (case d7 => intro _; with_unfolding_all rfl); k_whole)
    intro pB hB2 FB NB lB
    k_steps
    rename News _ _ _ ((_, W.listOf #[.ref pA, .ref pB] 0) :: _) => NP
    rename (pB : Nat) < _ ∧ _ => lP
    have hsA := lA _ (.head _)
    have hsB := lB _ (.tail _ (.head _))
    have hlK := ltOfCell lS hcK
    have hlO := ltOfCell lS hcO
    have OC : OutC n4 (_ : Addr) (_ : Addr) _ pA pB := ⟨lS, hsA, hsB, hlK, hlO, Nat.ne_of_lt (Nat.lt_succ_self _)⟩
    have OS := OutSt.start (prog := PySem.Challenge.rw_bj0039_01.row.prog) (w := w) NP hTb hcK hcO
    refine ⟨_, [.ref pA, .ref pB], _, _, _, _, rfl, rfl, hg4, by k_asm, NP, .head _, rfl, ⟨_, rfl⟩, fun i m l => m (Str.ofString "sides") = some (.ref _) ∧ OutSt _ _ _ _ _ _ _ _ _ _ i l, ?_, ⟨rfl, OS⟩, ?_, ?_⟩
    · rintro i m l l' ⟨a1, a2⟩ kk
      exact ⟨a1, a2.j OC kk (Heap.lt_size (NP _ (.tail _ (.tail _ (.tail _ (.head _))))).1)⟩
    · intro i v g5 I5 oI5 m₅ n5 h5 tk5 hv5 hg5 hit5 hI5 hax5 hJ5 F N
      have hsx := lP.2.2.1
      clear OS hcK hcO hlK hlO lP lA lB lS goS hTb
      obtain ⟨b1, OS⟩ := hJ5
      have F6 := Fr.fix F b1
      obtain ⟨pv, isP, rP, rfl, hpv, hrP, hokP, hzP⟩ := OS.part hrin hok (by omega) hv5
      obtain ⟨T8, B8, X8, TP8, D8⟩ := id hg5
      have hne5 := OS.tabs.iter N hI5 hit5
      have hi2 : i < 2 := (List.getElem?_eq_some_iff.mp hv5).1
      have cK5 := OS.cellK
      have cO5 := OS.cellO
      clear b1 F hv5
      k_steps
      show Stop _
      unfold Stop
      refine' use (mkBD0) ?k1e ?k2e ?k3e ?k4e ?k5e ?kKe ?kde ?kue ?_; (case k1e => k_asm); (case k2e => k_asm); (case k3e => k_asm); (case k4e => k_asm); (case k5e => k_asm); (case kKe => first | exact rfl | assumption); (case kde => ktr_room); (case kue => ktr_units)
      intro r9 news9 h9 tk9 F9 N9 P9
      obtain ⟨S9, bb, db, rfl, hdb, HB⟩ := P9
      have cK9 := cK5.mono S9.keeps
      have cO9 := cO5.mono S9.keeps
      clear cK5 cO5
      k_steps
      show Stop _
      unfold Stop
      rename CellAt _ _ (.ref _) => VK
      rename KeepsC _ _ => CK
      rename SubBut _ _ _ => SK
      rename News _ _ _ _ => NI
      rename Obj.IsDictOf (PySem.strKind _ _) _ [] => hdk
      rename Obj.IsDictOf (intKind _ _) _ [] => hdi
      clear hdi
      rename (_ == sysModules) = false => hsk
      rename ∀ p ∈ news9, _ => lk
      rename (_ : Nat) < _ ∧ AllLt _ news9 => lt
      have IC := InC.of hdb HB lk lt.1 OS.cellK OS.cellO OC.cc
      have IS := InSt.start S9 HB OS.tabs cO9 OC.cc hdk hsk CK SK VK
      have hpv6 := hpv.m IS.old
      clear CK SK VK hdk hsk lk lt HB hdb cK9 cO9 S9
      obtain ⟨opv, hpv1, hpv2, npv, hpv3⟩ := id hpv6
      obtain ⟨_, hpv5, _⟩ := id hpv
      k_dflt (refine' forS hg5 ?FF3 ?_; (case FF3 => k_asm))
      k_steps
      rename News _ _ _ _ => NI
      refine ⟨pv, isP, opv, _, _, _, rfl, rfl, hg5, by k_asm, NI, hpv1, hpv2, ⟨npv, hpv3⟩, fun i m l => m (Str.ofString "held") = some (.ref bb) ∧ m (Str.ofString "taken") = some (.ref _) ∧ m (Str.ofString "sides") = some (.ref _) ∧ m (Str.ofString "part") = some (.ref pv) ∧ ∃ its, InSt _ w n5 _ _ bb db _ _ its (runK [] (rP.take i)) (runK [] (rP.take i)) (takenOf [] (rP.take i)) l, ?_, ⟨rfl, rfl, rfl, rfl, [], IS⟩, ?_, ?_⟩
      · rintro i m l l' ⟨a1, a2, a3, a4, its, a5⟩ kk
        exact ⟨a1, a2, a3, a4, its, a5.j IC kk (held_lt IS.held fun p hp => Heap.lt_size (NI p hp).1)⟩
      · intro i2 v g6 I6 oI6 m₆ n6 h6 tk6 hv6 hg6 hit6 hI6 hax6 hJ6 F N
        clear NI IS
        obtain ⟨b1, b2, b3, b4, its6, IS⟩ := hJ6
        have F7 := Fr.fix (x := Str.ofString "part") (v := .ref pv) (Fr.fix3 F b1 b2 b3) b4
        obtain ⟨q, hq, T1, t1, t2, rfl, hT⟩ := rel2_get? (hrP.m IS.old) hv6
        obtain ⟨hq1, hq2⟩ := hokP q (List.mem_of_getElem? hq)
        have hT1 : IsTup h6 T1 #[.str q.1.str t1, .str q.2.str t2] := hT.isT N
        obtain ⟨T8, B8, X8, TP8, D8⟩ := id hg6
        have cO6 := IS.cellO
        clear b1 b2 b3 b4 F hv6
        k_steps
        show Stop _
        unfold Stop
        rename CellAt _ _ (.str _ _) => VO
        rename KeepsC n6 _ => CO6
        rename SubBut _ n6 _ => SO6
        rename News _ _ _ _ => N7
        have IS7 := IS.other IC CO6 SO6 VO
        have TR7 := (Trk.mk hI6 hit6 hax6 (seq_cellish hpv3)).c CO6
        have goDue : GoDue := .mk
        have hpd : (pv : Nat) < db := IC.n1d _ hpv5
        have cK7 := IS7.cellK
        have hz6 := runK_small hzP i2
        have hrk := runK_take hq
        have htk := taken_take hq
        clear CO6 SO6 hI6 hax6 IS cO6 hT1 hT
        k_steps
        show Stop _
        unfold Stop
        refine' use (lawKeep hq1 IS7.kept (Nat.le_trans hz6 (by decide))) ?k1f ?k2f ?k3f ?k4f ?k5f ?kKf ?kdf ?kuf ?_; (case k1f => k_asm); (case k2f => k_asm); (case k3f => k_asm); (case k4f => k_asm); (case k5f => k_asm); (case kKf => first | exact rfl | assumption); (case kdf => ktr_room); (case kuf => ktr_units)
        intro r8 news8 h8 tk8 F8 N8 P8
        obtain ⟨S8, hcase⟩ := P8
        have TR8 := TR7.but (IS7.kfK N7 S8) S8 (Nat.ne_of_lt (Nat.lt_trans hpd IC.dk))
        have vO8 := VO.but S8 (Nat.ne_of_lt (Nat.lt_trans IC.cOd IC.dk))
        clear VO cK7
        rcases hcase with ⟨κ', hk, K8, rfl⟩ | ⟨hk, K8, rfl⟩
        · have IS8 := IS7.keep IC N7 S8 K8
          obtain ⟨hok, hkg⟩ := okF_of hk
          rw [hkg] at hrk
          rw [if_pos hok] at htk
          obtain ⟨nt8, hA8⟩ := id IS8.tkn
          clear IS7 TR7 S8 K8 N7
          k_steps
          show Stop _
          unfold Stop
          rename News _ _ _ (_ :: news8) => NT
          have IST := IS8.sub (subOf NT (by ktr_rel))
          have TRT := TR8.sub (subOf NT (by ktr_rel))
          have vOT := vO8.mono (Sub.keeps (subOf NT (by ktr_rel)))
          k_dflt (refine' la_append ?FA ?NA ?DA ?zA ?_; (case FA => k_asm); (case NA => exact NT); (case DA => exact IST.tkn); (case zA => rw [IST.rows.length, sizeLine_eq]; have := takenOf_len (rows := rP.take i2) (κ := []); rw [List.length_take] at this; omega); k_whole)
          intro h9 news9 F9 N9 S9 A9 D9
          have IS9 := IST.app (q := q) IC NT S9 A9 D9 ⟨_, .head _, rfl, _, rfl⟩
          rw [← htk] at IS9
          have TR9 := TRT.but (IST.kfT NT S9) S9 (Nat.ne_of_lt (Nat.lt_trans hpd (Nat.lt_trans IC.dk IC.kt)))
          have vO9 := vOT.but S9 (Nat.ne_of_lt (Nat.lt_trans IC.cOd (Nat.lt_trans IC.dk IC.kt)))
          obtain ⟨dbx, hhx, ttx, kvsx, hnex, hbx, hdbx, DAx, Rx⟩ := id IS9.held
          clear IST TRT vOT IS8 TR8 vO8 hA8 S9 A9 D9 NT DAx Rx
          k_steps
          show Stop _
          unfold Stop
          rename Sub _ _ => SS
          rename ExIn _ _ _ => hEX
          rename VarIn _ _ _ => hVR
          replace hEX := hEX.mono SS.keeps
          rename News _ _ _ _ => N10
          have S10 := subOf N10 (by ktr_rel : Sub news9 _)
          have IS10 := IS9.sub S10
          have TR10 := TR9.sub S10
          refine' useS (setItem hq1 IS10.held (Nat.le_trans hz6 (by decide)) hVR hEX) ?k1h ?k2h ?k3h ?k4h ?k5h ?kXBh ?kTBh ?kDh ?kT0h ?kKh ?kdh ?kuh ?kRh ?kEh; (case k1h => k_asm); (case k2h => k_asm); (case k3h => k_asm); (case k4h => k_asm); (case k5h => k_asm); (case kXBh => assumption); (case kTBh => assumption); (case kDh => assumption); (case kT0h => first | assumption | exact KtsTurn.refl); (case kKh => first | exact rfl | assumption); (case kdh => ktr_room); (case kuh => ktr_units)
          case kEh =>
            intro _ _ _ _ _ _ _ _ _ _ _ _ _ _ _ _ q9
            rw [hk] at q9
            exact nomatch q9.1
          intro r11 g11 news11 h11 tk11 T11 F11 N11 B11 X11 TP11 D11 P11
          obtain ⟨S11, A11, rfl, κ2, hk2, H11⟩ := P11
          rw [hk] at hk2
          cases hk2
          have IS11 := IS10.set IC N10 S11 H11
          have TR11 := TR10.but (IS10.kfD N10 S11) S11 (Nat.ne_of_lt hpd)
          have cK11 := IS11.cellK
          clear IS10 TR10 IS9 TR9 vO9 hbx hdbx H11 A11 S11 S10 hEX hVR N10 SS
          k_steps
          show Stop _
          unfold Stop
          have hz7 : κ'.length ≤ 6 := hrk ▸ runK_small hzP (i2 + 1)
          refine' useS (same IS11.held IS11.kept (Nat.le_trans hz7 (by decide))) ?k1i ?k2i ?k3i ?k4i ?k5i ?kXBi ?kTBi ?kDi ?kT0i ?kKi ?kdi ?kui ?kRi ?kEi; (case k1i => k_asm); (case k2i => k_asm); (case k3i => k_asm); (case k4i => k_asm); (case k5i => k_asm); (case kXBi => assumption); (case kTBi => assumption); (case kDi => assumption); (case kT0i => first | assumption | exact KtsTurn.refl); (case kKi => first | exact rfl | assumption); (case kdi => ktr_room); (case kui => ktr_units)
          case kEi => intro _ _ _ _ _ _ _ _ _ _ _ _ _ _ _ _ q9; exact False.elim q9
          intro r12 g12 news12 h12 tk12 T12 F12 N12 B12 X12 TP12 D12 P12
          obtain ⟨S12, rfl⟩ := P12
          have IS12 := IS11.sub S12
          have TR12 := TR11.sub S12
          clear IS11 TR11 S12 cK11
          k_steps
          refine TurnEnd.intro ⟨by assumption, by assumption, by assumption, by assumption, by assumption⟩ (by k_asm) N12 TR12.all ⟨rfl, rfl, rfl, rfl, _, IS12.re hrk rfl⟩
        · have IS8 := IS7.keep IC N7 S8 K8
          obtain ⟨hok, hkg⟩ := okF_no hk
          rw [hkg] at hrk
          rw [if_neg (by rw [hok]; exact fun e => nomatch e), List.append_nil] at htk
          obtain ⟨dbx, hhx, ttx, kvsx, hnex, hbx, hdbx, DAx, Rx⟩ := id IS8.held
          clear IS7 TR7 S8 K8 N7 DAx Rx
          k_steps
          show Stop _
          unfold Stop
          rename Sub _ _ => SS
          rename ExIn _ _ _ => hEX
          rename VarIn _ _ _ => hVR
          replace hEX := hEX.mono SS.keeps
          rename News _ _ _ _ => N10
          have S10 := subOf N10 (by ktr_rel : Sub news8 _)
          have IS10 := IS8.sub S10
          have TR10 := TR8.sub S10
          refine' useS (setItem hq1 IS10.held (Nat.le_trans hz6 (by decide)) hVR hEX) ?k1j ?k2j ?k3j ?k4j ?k5j ?kXBj ?kTBj ?kDj ?kT0j ?kKj ?kdj ?kuj ?kRj ?kEj; (case k1j => k_asm); (case k2j => k_asm); (case k3j => k_asm); (case k4j => k_asm); (case k5j => k_asm); (case kXBj => assumption); (case kTBj => assumption); (case kDj => assumption); (case kT0j => first | assumption | exact KtsTurn.refl); (case kKj => first | exact rfl | assumption); (case kdj => ktr_room); (case kuj => ktr_units)
          case kEj =>
            intro g11 G11 e11 t11 vs11 news11 h11 tk11 T11 F11 B11 X11 TP11 D11 R11 U11 P11
            have IS11 := IS10.sub P11.2
            have TR11 := TR10.sub P11.2
            have hz7 : (runK [] (rP.take i2)).length ≤ 6 := hz6
            clear IS10 TR10 IS8 TR8 vO8 hbx hdbx S10 hEX hVR N10 SS
            refine caughtX R11 F11 B11 U11 hX TP0 D11 T11 (by k_is) (by kts_isx) (fun h13 LD => ?_)
            obtain ⟨g13, T13, F13, N13, B13, X13, TP13, D13⟩ := LD
            have cK11 := IS11.cellK
            k_steps
            show Stop _
            unfold Stop
            refine' useS (same IS11.held IS11.kept (Nat.le_trans hz7 (by decide))) ?k1k ?k2k ?k3k ?k4k ?k5k ?kXBk ?kTBk ?kDk ?kT0k ?kKk ?kdk ?kuk ?kRk ?kEk; (case k1k => k_asm); (case k2k => k_asm); (case k3k => k_asm); (case k4k => k_asm); (case k5k => k_asm); (case kXBk => assumption); (case kTBk => assumption); (case kDk => assumption); (case kT0k => first | assumption | exact KtsTurn.refl); (case kKk => first | exact rfl | assumption); (case kdk => ktr_room); (case kuk => ktr_units)
            case kEk => intro _ _ _ _ _ _ _ _ _ _ _ _ _ _ _ _ q9; exact False.elim q9
            intro r12 g12 news12 h12 tk12 T12 F12 N12 B12 X12 TP12 D12 P12
            obtain ⟨S12, rfl⟩ := P12
            have IS12 := IS11.sub S12
            have TR12 := TR11.sub S12
            clear IS11 TR11 S12 cK11
            k_steps
            refine TurnEnd.intro ⟨by assumption, by assumption, by assumption, by assumption, by assumption⟩ (by k_asm) N12 TR12.all ⟨rfl, rfl, rfl, rfl, _, IS12.re hrk htk⟩
          intro _ _ _ _ _ _ _ _ _ _ _ _ P11
          obtain ⟨_, _, _, _, hk2, _⟩ := P11
          rw [hk] at hk2
          cases hk2
      · intro g6 m₆ n6 h6 tk6 hg6 hax6 hJ6 F N
        clear NI IS
        obtain ⟨b1, b2, b3, b4, its6, IS⟩ := hJ6
        rw [show isP.length = rP.length from hrP.length, List.take_length] at IS
        have F7 := Fr.fix (x := Str.ofString "part") (v := .ref pv) (Fr.fix3 F b1 b2 b3) b4
        obtain ⟨T8, B8, X8, TP8, D8⟩ := id hg6
        have hrP6 := hrP.m IS.old
        have hpvs : isP.length ≤ 1000 := by rw [hrP.length]; omega
        have goTry : GoTry := .mk
        clear b1 b2 b3 b4 F
        k_steps
        show Stop _
        unfold Stop
        clear goTry
        rename Fr _ _ _ _ => FT
        refine' joinIn hg6 FT IS OS pv (allOk [] rP) ?ptry ?prest
        case ptry =>
          k_steps
          show Stop _
          unfold Stop
          k_dflt (refine LCp.ListComp_P (F₀ := by k_asm) (by with_unfolding_all rfl) (by decide) (by rfl) (by decide) (by rfl) (by rfl) (by decide) ?_)
          k_steps
          refine srcPairs rfl rfl (by k_asm) (by k_asm) hax6 hpv2 hpv3 hpvs hrP6 hokP ?_ ?_
          · intro i q t1 t2 I oI C oC D oD l m₂ h tk E' hq hC hx hx₂ F N
            k_steps
            rename Made _ ((I, oI) :: _) _ => M1
            rename Made _ _ _ => M2
            rename News _ _ _ (_ :: _) => NT
            exact PairEnd.intro (by k_asm) NT (made_pairN (by assumption) M1 M2)
          · intro D ys l h tk hSl hPi F N
            have ISl := IS.sub (hSl.trans (Sub.refl.cons (q := (D, lst ys))))
            k_steps
            show Stop _
            unfold Stop
            refine' useS (mkBD (headLst N) hPi (Nat.le_trans hzP (by decide))) ?k1l ?k2l ?k3l ?k4l ?k5l ?kXBl ?kTBl ?kDl ?kT0l ?kKl ?kdl ?kul ?kRl ?kEl; (case k1l => k_asm); (case k2l => k_asm); (case k3l => k_asm); (case k4l => k_asm); (case k5l => k_asm); (case kXBl => assumption); (case kTBl => assumption); (case kDl => assumption); (case kT0l => first | assumption | exact KtsTurn.refl); (case kKl => first | exact rfl | assumption); (case kdl => ktr_room); (case kul => ktr_units)
            case kEl =>
              intro g11 G11 e11 t11 vs11 news11 h11 tk11 T11 F11 B11 X11 TP11 D11 R11 U11 P11
              have IS11 := ISl.sub P11.2
              have hall : allOk [] rP = false := by
                have h := P11.1
                rw [foldK_run] at h
                split at h
                · cases h
                · exact Bool.eq_false_iff.mpr (by assumption)
              clear ISl IS hPi hSl
              refine caughtX R11 F11 B11 U11 hX TP0 D11 T11 (by k_is) (by kts_isx) (fun h13 LD => ?_)
              obtain ⟨g13, T13, F13, N13, B13, X13, TP13, D13⟩ := LD
              k_steps
              rename News _ _ _ _ => N14
              exact JoinEnd.intro ⟨by assumption, by assumption, by assumption, by assumption, by assumption⟩ (by k_asm) N14 ⟨rfl, rfl, rfl, rfl, by rw [hall]; rfl, IS11⟩
            intro r11 g11 news11 h11 tk11 T11 F11 N11 B11 X11 TP11 D11 P11
            obtain ⟨S11, b2, d2, κ2, rfl, _, hκ2, H11⟩ := P11
            rw [foldK_run] at hκ2
            split at hκ2
            case isFalse => cases hκ2
            rename allOk [] rP = true => hall
            cases hκ2
            have IS11 := ISl.sub S11
            have cK11 := IS11.cellK
            have hz7 : (runK [] rP).length ≤ 6 := by have := runK_small hzP rP.length; rwa [List.take_length] at this
            clear ISl IS hPi hSl S11
            k_steps
            show Stop _
            unfold Stop
            refine' useS (same H11 IS11.kept (Nat.le_trans hz7 (by decide))) ?k1m ?k2m ?k3m ?k4m ?k5m ?kXBm ?kTBm ?kDm ?kT0m ?kKm ?kdm ?kum ?kRm ?kEm; (case k1m => k_asm); (case k2m => k_asm); (case k3m => k_asm); (case k4m => k_asm); (case k5m => k_asm); (case kXBm => assumption); (case kTBm => assumption); (case kDm => assumption); (case kT0m => first | assumption | exact KtsTurn.refl); (case kKm => first | exact rfl | assumption); (case kdm => ktr_room); (case kum => ktr_units)
            case kEm => intro _ _ _ _ _ _ _ _ _ _ _ _ _ _ _ _ q9; exact False.elim q9
            intro r12 g12 news12 h12 tk12 T12 F12 N12 B12 X12 TP12 D12 P12
            obtain ⟨S12, rfl⟩ := P12
            have IS12 := IS11.sub S12
            have cK12 := IS12.cellK
            clear IS11 S12 H11 cK11
            k_steps
            exact JoinEnd.intro ⟨by assumption, by assumption, by assumption, by assumption, by assumption⟩ (by k_asm) N12 ⟨rfl, rfl, rfl, rfl, by rw [hall]; rfl, IS12⟩
        case prest =>
          rintro fl s' ⟨rfl, g7, h7, tk7, m7, n7, rfl, hg7, F7, N7, b1, b2, b3, b4, b5, IS7⟩
          have F8 := Fr.fix (x := Str.ofString "told") (Fr.fix (x := Str.ofString "part") (v := .ref pv) (Fr.fix3 F7 b1 b2 b3) b4) b5
          obtain ⟨T8, B8, X8, TP8, D8⟩ := id hg7
          have hTk := IS7.tkn.list
          have hPv := hpv.m IS7.old
          have hts : its6.length ≤ 1000 := by rw [IS7.rows.length]; have := takenOf_len (rows := rP) (κ := []); omega
          have hlen := len_eq IS7.rows.length hrP.length
          have TBS7 := IS7.tabs
          clear b1 b2 b3 b4 b5 F7 IS
          k_steps
          show Stop _
          unfold Stop
          have hfit : Fits (runK [] rP) (takenOf [] rP) := by have h := Fits.run fits0 hokP; rwa [List.nil_append] at h
          refine' useSL (solvedS IS7.held hTk IS7.rows TBS7 hfit.inv hfit.rows (Nat.le_trans takenOf_len (Nat.le_trans hzP (by decide)))) ?k1n ?k2n ?k3n ?k4n ?k5n ?kXBn ?kTBn ?kDn ?kT0n ?kCn ?kKn ?kdn ?kun ?kRn ?kEn; (case k1n => k_asm); (case k2n => k_asm); (case k3n => k_asm); (case k4n => k_asm); (case k5n => k_asm); (case kXBn => assumption); (case kTBn => assumption); (case kDn => assumption); (case kT0n => first | assumption | exact KtsTurn.refl); (case kCn => exact CD); (case kKn => first | exact rfl | assumption); (case kdn => ktr_room); (case kun => ktr_units)
          case kEn => intro _ _ _ _ _ _ _ _ _ _ _ _ _ _ _ _ q9; exact False.elim q9
          intro r12 g12 news12 h12 tk12 T12 F12 N12 B12 X12 TP12 D12 P12
          obtain ⟨R12, rfl⟩ := P12
          have IS12 := IS7.runs R12
          have cK12 := IS12.cellK
          have OS12 := OS.km IS12.old IS12.tabs IS12.cellK.o IS12.cellO
          obtain ⟨ts, hts1, hts2, hts3⟩ := id OS12.sides
          obtain ⟨nts, hA12⟩ := id hts1
          clear IS7 R12 TBS7 hTk hPv hlen
          k_steps
          show Stop _
          unfold Stop
          rename News _ _ _ (_ :: news12) => NT
          have sT := subOf NT (by ktr_rel : Sub news12 _)
          have OST := OS12.sub sT
          have IST := IS12.sub sT
          have TRT := (Trk.mk (IS12.old _ hI5 (iter_cellish hit5) (.inr hne5)) hit5 (IS12.old.seq hax5 rfl rfl) rfl).sub sT
          have hsd := Nat.lt_trans (OS.sd_lt IC.n1d) (Nat.lt_trans IC.dk IC.kt)
          have hSD : SideIn _ w _ _ (.ref _) := ⟨_, _, _, _, _, _, _, _, rfl, hsd, IST.side ⟨_, .head _, rfl, _, rfl⟩ hfit (Nat.le_trans takenOf_len hzP) (by have := runK_small hzP rP.length; rwa [List.take_length] at this)⟩
          k_dflt (refine' la_append ?FA ?NA ?DA ?zA ?_; (case FA => k_asm); (case NA => exact NT); (case DA => exact hts1.mono sT.keeps); (case zA => rw [hts2, sizeLine_eq]; omega); k_whole)
          intro h9 news9 F9 N9 S9 A9 D9
          have OS13 := OST.app OC NT S9 A9 (hts1.mono sT.keeps) hts2 (fun v hv => (hts3 v hv).keeps sT.keeps) D9 hSD
          have TR13 := TRT.but (kf_but NT (sT _ hA12) rfl S9) S9 (Nat.ne_of_gt hsx)
          clear OST IST TRT hSD OS12 IS12 hts1 hts2 hts3 hA12 NT S9 A9 D9
          k_steps
          refine TurnEnd.intro ⟨by assumption, by assumption, by assumption, by assumption, by assumption⟩ (by k_asm) N9 TR13.all ⟨rfl, OS13⟩
    · intro g6 m₆ n6 h6 tk6 hg6 hax6 hJ6 F N
      clear OS hcK hcO hlK hlO lP lA lB lS goS hTb
      obtain ⟨b1, OS⟩ := hJ6
      have F7 := Fr.fix F b1
      obtain ⟨T8, B8, X8, TP8, D8⟩ := id hg6
      obtain ⟨ts, hts1, hts2, hts3⟩ := id OS.sides
      clear b1 F
      k_steps
      show Stop _
      unfold Stop
      obtain ⟨w0, w1, rfl⟩ := two_of hts2
      obtain ⟨T0, hb0, hd0, kd0, tk0, is0, κ0, τ0, rfl, _, SD0⟩ := hts3 _ (.head _)
      obtain ⟨T1, hb1, hd1, kd1, tk1, is1, κ1, τ1, rfl, _, SD1⟩ := hts3 _ (.tail _ (.head _))
      have hTs := hts1.list
      clear hts1 hts2 hts3
      k_dflt (refine' forS hg6 ?FF4 ?_; (case FF4 => k_asm))
      k_steps
      rename News _ _ _ ((_, W.listOf #[.ref _, .ref _] 0) :: _ :: _ :: n6) => NQ
      obtain ⟨P0, P1, e0, e1⟩ := pairsN NQ
      subst e0 e1
      have sQ := subOf NQ (by ktr_rel : Sub n6 _)
      have PR := PrSt.start (prog := PySem.Challenge.rw_bj0039_01.row.prog) (w := w) NQ OS.tabs OS.cellK OS.cellO sQ
      have SA := SD0.keeps sQ.keeps
      have SB := SD1.keeps sQ.keeps
      have hP0 : TupAt _ P0 [.ref T0, .ref T1] := tupT NQ
      have hP1 : TupAt _ P1 [.ref T1, .ref T0] := tupS NQ
      refine ⟨_, [.ref P0, .ref P1], _, _, _, _, rfl, rfl, hg6, by k_asm, NQ, .head _, rfl, ⟨_, rfl⟩, fun i m l => PrSt _ w _ _ _ l, ?_, PR, ?_, ?_⟩
      · intro i m l l' a1 kk
        exact a1.j kk fun p hp => Heap.lt_size (NQ p hp).1
      · intro i v g7 I7 oI7 m₇ n7 h7 tk7 hv7 hg7 hit7 hI7 hax7 PS F N
        clear PR SD0 SD1 hTs
        obtain ⟨P, A, B, hbA, hdA, kdA, tkA, isA, κA, τA, hbB, hdB, kdB, tkB, isB, κB, τB, rfl, hP, SA', SB'⟩ := pair_of (hP0.m PS.old) (hP1.m PS.old) (SA.m PS.old) (SB.m PS.old) hv7
        have hT1 := hP.isT N
        obtain ⟨T8, B8, X8, TP8, D8⟩ := id hg7
        have cO7 := PS.cellO
        have hne7 := PS.tabs.iter N hI7 hit7
        clear hv7 SA SB
        k_steps
        show Stop _
        unfold Stop
        rename CellAt _ _ (.ref B) => VO
        rename KeepsC n7 _ => CO7
        rename SubBut _ n7 _ => SO7
        rename News _ _ _ _ => N8
        have SA8 := SA'.m CO7.m
        have SB8 := SB'.m CO7.m
        have TB8 := PS.tabs.c CO7
        have cK8 := PS.cellK.but SO7 OC.cc
        have tA8 := SA8.tup
        have TR8 := (Trk.mk hI7 hit7 hax7 rfl).c CO7
        obtain ⟨kvA, DA8, RA⟩ := id SA8.kept
        obtain ⟨kvB, DB8, RB⟩ := id SB8.kept
        have hzA : kvA.length ≤ 1000 := by rw [RA.length]; exact Nat.le_trans SA8.kz (by decide)
        have goKept : GoKept := .mk
        have hN8 : ∀ p ∈ _, _ := fun p hp => (Heap.lt_size (N8 p hp).1)
        have PO8 := PS.old.trans CO7.m
        clear SA' SB' hT1 hP hI7 hax7 CO7 SO7 cO7
        k_steps
        show Stop _
        unfold Stop
        k_dflt (refine' la_dict ?FD ?ND ?bD ?DD hzA ?_; (case FD => k_asm); (case ND => k_asm); (case bD => exact Top.nolimit (by k_asm)); (case DD => exact DA8); k_whole)
        intro kd2 h9 o2 F9 N9 l9 D9
        have VO9 := VO
        k_steps
        show Stop _
        unfold Stop
        rename CellAt _ _ (.ref kd2) => VK
        rename KeepsC ((kd2, _) :: _) _ => CK
        rename SubBut _ ((kd2, _) :: _) _ => SK
        rename News _ _ _ _ => N10
        have SS := SumSt.start N10 l9 TB8 (Ne.symm OC.cc) VO D9 RA CK SK VK
        have SC := SumC.of l9 cK8 VO.o
        have tB10 := (SB8.m SS.old).tup
        have cO10 := SS.cellO
        have DB10 := DB8.m SS.old
        have goDue : GoDue := .mk
        obtain ⟨oB, hoB8, hpB, hqB⟩ := id DB8
        obtain ⟨_, hoB, _, _⟩ := id DB10
        have hoB10 := SS.old _ hoB8 (dict_kind hpB).1 (.inl (dict_kind hpB).2.1)
        clear CK SK VK VO VO9 D9 tA8 cK8
        k_steps
        show Stop _
        unfold Stop
        k_dflt (refine ListComp_D (by k_asm) (by with_unfolding_all rfl) (by decide) (by rfl) (by decide) (by rfl) ?_)
        k_steps
        refine ⟨kdB, kvB, oB, _, rfl, rfl, by k_asm, by k_asm, hoB10, hpB, hqB, by rw [RB.length, sizeLine_eq]; have := SB8.kz; omega, fun s₂ hs₂ => ?_⟩
        obtain ⟨hX2, rfl⟩ := hs₂
        refine restG (n := kvB.length) (fun i ys l => SumSt _ w _ _ _ kd2 (.ref B) (runK κA (κB.take i)) l ∧ ∃ bs, LSm.BoolsAre ys bs ∧ bs.all id = allOk κA (κB.take i)) ?_ ?_ kvB.length 0 [] _ (Nat.zero_add _) ⟨SS, [], .nil, rfl⟩
        · intro i2 v ys l I oI C oC D m₂ h tk E' hPv hJ hC hx F N off _
          obtain ⟨kk, y, hkv, hkk⟩ := hPv
          obtain ⟨t, rfl⟩ := strIs hkk
          obtain ⟨q, hq, hk1, hx1⟩ := rel2_get? RB hkv
          have hk2 : kk = q.1.str := hk1
          subst hk2
          obtain ⟨SSl, bs, hbs, hall⟩ := hJ
          have hqm := List.mem_of_getElem? hq
          have hq1 := (SB8.fits.inv.keys q hqm).1
          obtain ⟨v1, e1, t1, hv1⟩ := RB.some (look_nodup SB8.nodup hqm)
          subst hv1
          have s3 : Sub l ((I, oI) :: (C, oC) :: (D, lst ys) :: l) := Sub.refl.cons.cons.cons
          have SSf := SSl.sub s3
          have tBf := (SB8.m SSf.old).tup
          have cKf := SSf.cellK
          have cOf := SSf.cellO
          have DBf := DB8.m SSf.old
          have hz12 := runKA_small SA8.kz SB8.kz i2
          have hrk := runKA_take (κA := κA) hq
          have hak := allOk_take (κA := κA) hq
          clear hkv hkk hx1 hk1 hq DB10 cO10 tB10
          obtain ⟨oK, hoK, hdK⟩ := id cKf
          obtain ⟨oO, hoO, hdO⟩ := id cOf
          k_steps
          show Stop _
          unfold Stop
          k_dflt (refine' d_itemA ?N ?D e1 ?_; (case N => exact N); (case D => exact DBf))
          k_steps
          show Stop _
          unfold Stop
          refine' use (lawKeep hq1 SSf.kept (Nat.le_trans hz12 (by decide))) ?k1o ?k2o ?k3o ?k4o ?k5o ?kKo ?kdo ?kuo ?_; (case k1o => k_asm); (case k2o => k_asm); (case k3o => k_asm); (case k4o => k_asm); (case k5o => k_asm); (case kKo => first | exact rfl | assumption); (case kdo => ktr_room); (case kuo => ktr_units)
          intro r9 news9 h9 tk9 F9 N9 P9
          obtain ⟨S9, hcase⟩ := P9
          have hSsrc : ∀ l', SubBut kd2 l l' → (kdB, oB) ∈ l' := fun l' s => s _ (SSl.old _ hoB8 (dict_kind hpB).1 (.inl (dict_kind hpB).2.1)) (Nat.ne_of_lt (SC.n2k _ hoB8))
          rcases hcase with ⟨κ', hk, K9, rfl⟩ | ⟨hk, K9, rfl⟩
          · obtain ⟨hok, hkg⟩ := okF_of hk
            rw [hkg] at hrk
            rw [hok, Bool.and_true] at hak
            have hK : KeptAt PySem.Challenge.rw_bj0039_01.row.prog w news9 kd2 (runK κA (κB.take (i2 + 1))) := by rw [hrk]; exact K9
            have hak' : allOk κA (κB.take (i2 + 1)) = (allOk κA (κB.take i2) && true) := by rw [hak, Bool.and_true]
            have hmB := SSl.old _ hoB8 (dict_kind hpB).1 (.inl (dict_kind hpB).2.1)
            have hneB := Nat.ne_of_lt (SC.n2k _ hoB8)
            clear goDue goKept hSsrc
            exact sum_elt2 _ _ (fun i => runK κA (κB.take i)) (fun i => allOk κA (κB.take i)) SC SSl N off F9 N9 S9 hK hmB hneB hbs hall hak'
          · obtain ⟨hok, hkg⟩ := okF_no hk
            rw [hkg] at hrk
            have hK : KeptAt PySem.Challenge.rw_bj0039_01.row.prog w news9 kd2 (runK κA (κB.take (i2 + 1))) := by rw [hrk]; exact K9
            have hak' : allOk κA (κB.take (i2 + 1)) = (allOk κA (κB.take i2) && false) := by rw [hak, hok]
            have hmB := SSl.old _ hoB8 (dict_kind hpB).1 (.inl (dict_kind hpB).2.1)
            have hneB := Nat.ne_of_lt (SC.n2k _ hoB8)
            clear goDue goKept hSsrc
            exact sum_elt2 _ _ (fun i => runK κA (κB.take i)) (fun i => allOk κA (κB.take i)) SC SSl N off F9 N9 S9 hK hmB hneB hbs hall hak'
        · intro ys l hJ D h tk F N _
          obtain ⟨SSl, bs, hbs, hall⟩ := hJ
          rw [show kvB.length = κB.length from RB.length, List.take_length] at SSl hall
          have SSd := SSl.sub (Sub.refl.cons (q := (D, lst ys)))
          clear DB10 cO10 tB10 SS
          k_steps
          show Stop _
          unfold Stop
          k_dflt (refine' la_all ?FD2 ?ND2 rfl (headLst N) hbs ?_; (case FD2 => k_asm); (case ND2 => exact N); k_whole)
          intro h11 tk11 F11 N11
          rw [hall]
          have goTry : GoTry := .mk
          k_steps
          show Stop _
          unfold Stop
          clear goTry
          rename Fr _ _ _ _ => FT
          have SA12 := SA8.m SSd.old
          have SB12 := SB8.m SSd.old
          refine' joinSum hg7 FT SSd A (allOk κA κB) ?str ?srest
          case str =>
            have tA12 := SA12.tup
            have tB12 := SB12.tup
            have cK12 := SSd.cellK
            have cO12 := SSd.cellO
            obtain ⟨dbA, hhA, ttA, kvsA, hneA, hbxA, hdxA, _, _⟩ := id SA12.held
            obtain ⟨dbB, hhB, ttB, kvsB, hneB, hbxB, hdxB, _, _⟩ := id SB12.held
            k_steps
            show Stop _
            unfold Stop
            k_dflt (refine' binop_K ?k1 ?k2 ?k3 ?k4 ?k5 ?k6 ?k7 ?_; (case k1 => k_asm); (case k2 => k_asm); (case k3 => k_inst); (case k4 => exact InstAt.type (by k_inst)); (case k5 => k_is); (case k6 => k_is); (case k7 => k_is); k_whole)
            refine' useS (addBD SA12.held SB12.held (fun q hq => (SA12.fits.inv.keys q hq).1) (fun q hq => (SB12.fits.inv.keys q hq).1) (Nat.le_trans SA12.kz (by decide)) (Nat.le_trans SB12.kz (by decide))) ?k1p ?k2p ?k3p ?k4p ?k5p ?kXBp ?kTBp ?kDp ?kT0p ?kKp ?kdp ?kup ?kRp ?kEp; (case k1p => k_asm); (case k2p => k_asm); (case k3p => k_asm); (case k4p => k_asm); (case k5p => k_asm); (case kXBp => assumption); (case kTBp => assumption); (case kDp => assumption); (case kT0p => first | assumption | exact KtsTurn.refl); (case kKp => first | exact rfl | assumption); (case kdp => ktr_room); (case kup => ktr_units)
            case kEp =>
              intro g11 G11 e11 t11 vs11 news11 h11 tk11 T11 F11 B11 X11 TP11 D11 R11 U11 P11
              have SS11 := SSd.sub P11.2
              have hok2 : allOk κA κB = false := sum_no SA12.nodup P11.1
              clear SSd SA12 SB12 tA12 tB12 cK12 cO12
              refine caughtX R11 F11 B11 U11 hX TP0 D11 T11 (by k_is) (by kts_isx) (fun h13 LD => ?_)
              obtain ⟨g13, T13, F13, N13, B13, X13, TP13, D13⟩ := LD
              k_steps
              rename News _ _ _ _ => N14
              exact JoinEnd.intro ⟨by assumption, by assumption, by assumption, by assumption, by assumption⟩ (by k_asm) N14 ⟨rfl, rfl, by rw [hok2]; rfl, SS11⟩
            intro r11 g11 news11 h11 tk11 T11 F11 N11 B11 X11 TP11 D11 P11
            obtain ⟨S11, b2, d2, κ2, rfl, _, hκ2, H11⟩ := P11
            obtain ⟨hok2, rfl⟩ := sum_ok SA12.nodup hκ2
            dsimp only [PySem.W.CmpBack]
            have SS11 := SSd.sub S11
            have SA11 := SA12.keeps S11.keeps
            have SB11 := SB12.keeps S11.keeps
            have cK11 := SS11.cellK
            have cO11 := SS11.cellO
            have hz7 := runKA_whole SA8.kz SB8.kz
            clear SSd SA12 SB12 tA12 tB12 cK12 cO12 S11 hbxA hdxA hbxB hdxB
            k_steps
            show Stop _
            unfold Stop
            refine' useS (same H11 SS11.kept (Nat.le_trans hz7 (by decide))) ?k1q ?k2q ?k3q ?k4q ?k5q ?kXBq ?kTBq ?kDq ?kT0q ?kKq ?kdq ?kuq ?kRq ?kEq; (case k1q => k_asm); (case k2q => k_asm); (case k3q => k_asm); (case k4q => k_asm); (case k5q => k_asm); (case kXBq => assumption); (case kTBq => assumption); (case kDq => assumption); (case kT0q => first | assumption | exact KtsTurn.refl); (case kKq => first | exact rfl | assumption); (case kdq => ktr_room); (case kuq => ktr_units)
            case kEq => intro _ _ _ _ _ _ _ _ _ _ _ _ _ _ _ _ q9; exact False.elim q9
            intro r12 g12 news12 h12 tk12 T12 F12 N12 B12 X12 TP12 D12 P12
            obtain ⟨S12, rfl⟩ := P12
            have SS12 := SS11.sub S12
            have SA12 := SA11.keeps S12.keeps
            have SB12 := SB11.keeps S12.keeps
            have H12 := H11.mono S12.keeps
            have tA12 := SA12.tup
            have tB12 := SB12.tup
            have cK12 := SS12.cellK
            have cO12 := SS12.cellO
            clear SS11 SA11 SB11 cK11 cO11 H11 S12
            k_steps
            show Stop _
            unfold Stop
            have hzt : isA.length + isB.length ≤ 1000 := by rw [SA12.rows.length, SB12.rows.length]; have := SA12.tz; have := SB12.tz; omega
            k_dflt (refine' la_add ?FA ?NA SA12.tkn SB12.tkn hzt ?_; (case FA => k_asm); (case NA => exact N12); k_whole)
            intro l13 h13 F13 N13 l14
            have S13 := subOf N13 (by ktr_rel : Sub news12 _)
            have hL13 := headList N13
            have SS13 := SS12.sub S13
            have R13 := rel2_app (SA12.rows.mono S13.keeps) (SB12.rows.mono S13.keeps)
            have H13 := H12.mono S13.keeps
            have TB13 := SS13.tabs
            have hI13 := Fits.sum SA12.fits SB12.fits hok2
            have hr13 := RowsOk.app SA12.fits.rows SB12.fits.rows
            have hz13 : (τA ++ τB).length ≤ 40 := by rw [List.length_append]; have := SA12.tz; have := SB12.tz; omega
            clear SS12 SA12 SB12 tA12 tB12 cK12 cO12 H12
            k_steps
            show Stop _
            unfold Stop
            refine' useSL (solvedS H13 hL13 R13 TB13 hI13 hr13 hz13) ?k1r ?k2r ?k3r ?k4r ?k5r ?kXBr ?kTBr ?kDr ?kT0r ?kCr ?kKr ?kdr ?kur ?kRr ?kEr; (case k1r => k_asm); (case k2r => k_asm); (case k3r => k_asm); (case k4r => k_asm); (case k5r => k_asm); (case kXBr => assumption); (case kTBr => assumption); (case kDr => assumption); (case kT0r => first | assumption | exact KtsTurn.refl); (case kCr => exact CD); (case kKr => first | exact rfl | assumption); (case kdr => ktr_room); (case kur => ktr_units)
            case kEr => intro _ _ _ _ _ _ _ _ _ _ _ _ _ _ _ _ q9; exact False.elim q9
            intro r15 g15 news15 h15 tk15 T15 F15 N15 B15 X15 TP15 D15 P15
            obtain ⟨R15, rfl⟩ := P15
            have SS15 := SS13.runs R15
            clear SS13 R13 H13 TB13 hI13 hr13 R15 hL13
            k_steps
            exact JoinEnd.intro ⟨by assumption, by assumption, by assumption, by assumption, by assumption⟩ (by k_asm) N15 ⟨rfl, rfl, by rw [hok2]; rfl, SS15⟩
          case srest =>
            rintro fl s' ⟨rfl, g9, h9, tk9, m9, n9, rfl, hg9, F9, N9, b1, b2, b3, SS9⟩
            have F10 := Fr.fix3 F9 b1 b2 b3
            obtain ⟨T9, B9, X9, TP9, D9⟩ := id hg9
            have SA9 := SA8.m SS9.old
            have SB9 := SB8.m SS9.old
            have tA9 := SA9.tup
            have tB9 := SB9.tup
            have cO9 := SS9.cellO
            have cK9 := SS9.cellK
            clear b1 b2 b3 F9 SSd SA12 SB12
            k_steps
            show Stop _
            unfold Stop
            refine' useS (same SA9.held SA9.kept (Nat.le_trans SA9.kz (by decide))) ?k1t ?k2t ?k3t ?k4t ?k5t ?kXBt ?kTBt ?kDt ?kT0t ?kKt ?kdt ?kut ?kRt ?kEt; (case k1t => k_asm); (case k2t => k_asm); (case k3t => k_asm); (case k4t => k_asm); (case k5t => k_asm); (case kXBt => assumption); (case kTBt => assumption); (case kDt => assumption); (case kT0t => first | assumption | exact KtsTurn.refl); (case kKt => first | exact rfl | assumption); (case kdt => ktr_room); (case kut => ktr_units)
            case kEt => intro _ _ _ _ _ _ _ _ _ _ _ _ _ _ _ _ q9; exact False.elim q9
            intro r12 g12 news12 h12 tk12 T12 F12 N12 B12 X12 TP12 D12 P12
            obtain ⟨S12, rfl⟩ := P12
            have SS12 := SS9.sub S12
            have SB12 := SB9.keeps S12.keeps
            have tB12 := SB12.tup
            have cO12 := SS12.cellO
            clear SA9 SB9 tA9 tB9 cO9 cK9 S12
            k_steps
            show Stop _
            unfold Stop
            refine' useS (same SB12.held SB12.kept (Nat.le_trans SB12.kz (by decide))) ?k1u ?k2u ?k3u ?k4u ?k5u ?kXBu ?kTBu ?kDu ?kT0u ?kKu ?kdu ?kuu ?kRu ?kEu; (case k1u => k_asm); (case k2u => k_asm); (case k3u => k_asm); (case k4u => k_asm); (case k5u => k_asm); (case kXBu => assumption); (case kTBu => assumption); (case kDu => assumption); (case kT0u => first | assumption | exact KtsTurn.refl); (case kKu => first | exact rfl | assumption); (case kdu => ktr_room); (case kuu => ktr_units)
            case kEu => intro _ _ _ _ _ _ _ _ _ _ _ _ _ _ _ _ q9; exact False.elim q9
            intro r15 g15 news15 h15 tk15 T15 F15 N15 B15 X15 TP15 D15 P15
            obtain ⟨S15, rfl⟩ := P15
            have SS15 := SS12.sub S15
            have TR15 := Trk.mk (SS15.old _ TR8.it (iter_cellish TR8.is) (.inr hne7)) TR8.is (SS15.old.seq TR8.li rfl rfl) TR8.no
            clear SS12 SB12 tB12 cO12 S15
            k_steps
            refine TurnEnd.intro ⟨by assumption, by assumption, by assumption, by assumption, by assumption⟩ (by k_asm) N15 TR15.all ⟨PO8.trans SS15.old, SS15.tabs, SS15.cellK.o, SS15.cellO.o⟩
      · intro g7 m₇ n7 h7 tk7 hg7 hax7 PS F N
        obtain ⟨T8, B8, X8, TP8, D8⟩ := id hg7
        have hIdE := hId.m (OS.old.trans (sQ.m.trans PS.old))
        have hTbE := PS.tabs
        clear PR SD0 SD1 hTs PS SA SB hP0 hP1 sQ NQ OS hId
        k_steps
        · exact ⟨.inl ⟨_, .bool true, [], rfl, noRaise _, .bool true, isTrue _, unshared_nil⟩, fun b o hb => F.keep _ _ (Below.stays B8 _ _ hb), rfl, by assumption⟩
        · show Stop _
          unfold Stop
          exact ⟨hIdE.grown N (.inl rfl), hIdE.grown N (.inr (.inl rfl)), hIdE.grown N (.inr (.inr (.inl rfl))), hTbE.grown N (.inl rfl), hTbE.grown N (.inr (.inl rfl)), hTbE.grown N (.inr (.inr rfl)), hIdE.grown N (.inr (.inr (.inr rfl))), trivial⟩
end
end
end Mine
open PySem PySem.W PyProof.Rows
set_option maxRecDepth 100000 in
set_option maxHeartbeats 8000000 in
theorem PySem.Challenge.cw_bj0039_01_holds : PySem.Challenge.rw_bj0039_01.Holds := by
  exact Mine.main
