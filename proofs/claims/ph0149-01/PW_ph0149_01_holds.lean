import PyProof.Rows.All
import Wide.All
import OpenK.AllK
import Wide.FinOn
import Lean
import PySem.Challenge.RW_ph0149_01
set_option Elab.async false
set_option maxRecDepth 100000
set_option maxHeartbeats 8000000
set_option linter.all false
set_option compiler.extract_closed false
namespace Mine
section
open PySem PySem.W PyProof.Rows
/-! the head: the statements of the top that the walk sees, the state that the top leaves (the kernel runs it once), what is left to show -/
abbrev WalkT := World → Shared → Shared → (Str → Option Value) → (Str → Option Value) → Prop
def Fix5 (P : WalkT) : Prop := ∀ w s₀ s₁ mg mb, P w s₀ s₁ mg mb
noncomputable def viewM : PySem.Module := PySem.Challenge.pw_ph0149_01.main
noncomputable def view : Program := { PySem.Challenge.pw_ph0149_01 with main := { viewM with body := (viewM.body.drop 1).take 4 ++ ((viewM.body.drop 11).take 2 ++ viewM.body.drop 14) } }
noncomputable def hOpen := fun (H : Hook) hl k1 hw hc => holds_open (r := PySem.Challenge.rw_ph0149_01.row) (q := view) (loose := [Str.ofString "insort_right", Str.ofString "bisect_right", Str.ofString "insort_left", Str.ofString "bisect_left"]) (Xt := fun s => xlAt view [] s && recOk (RowW.records PySem.Challenge.rw_ph0149_01.row.toRowW) s) (XP := XL view []) (Yf := H.obs) (Ya := H.val) (YP := H.says) (N := 1862) hl H.of H.keeps (fun s e => xl_of s (Bool.and_eq_true_iff.mp e).1) XL.keeps (by rfl) (by rfl) (by rfl) (fun s e => recFacts_of (Bool.and_eq_true_iff.mp e).2) (by rfl) k1 (by decide +kernel) ⟨rfl, rfl, rfl, rfl, rfl, by decide +kernel⟩ hw hc
local macro_rules | `(tactic| o_head $H) => `(tactic| apply hOpen $H)
theorem said0 : looksOpen PySem.Challenge.rw_ph0149_01.row.toRowW.prog = true := by
  unfold looksOpen
  refine look_both (look_both (look_both ?_ ?_) ?_) ?_
  all_goals decide +kernel
theorem said1 : PySem.Challenge.rw_ph0149_01.row.wellSaid = true := by
  unfold OpenRow.wellSaid OpenRow.partSaid
  rw [said0]; kernel_rfl
theorem said2 : OpenLaw.wellSaid PySem.Challenge.rw_ph0149_01 = true := by
  unfold OpenLaw.wellSaid
  rw [said1]; kernel_rfl
noncomputable def pk : {P : WalkT × Prop // P.2 → Fix5 P.1 → PySem.Challenge.rw_ph0149_01.Holds} := ⟨(_, _), fun h0 h => by
  w_on
  refine holds_law said2 fun said => ?_
  k_head
  case hl => exact h0
  case k1 => exact said
  case hw => w_witness2
  case hc => exact h⟩
theorem topLeft : pk.1.2 := by intro w; kernel_rfl
end
open PySem PySem.W PySem.Calls PyProof.Rows PySem.Spec
namespace Internal
structure NG (G : Prop) : Prop where f : G → False
theorem ngI {G : Prop} (h : NG G → False) : G := Classical.byContradiction fun k => h ⟨k⟩
theorem ngE {G : Prop} (h : NG G) (k : G) : False := h.f k
set_option tactic.hygienic false
set_option genInjectivity false
set_option genSizeOf false
section
inductive V where
  | none
  | bool (b : Bool)
  | int (i : Int)
  | str (x : Str)
  | tup (xs : List V)
  | lst (xs : List V)
  | dct (es : List (Str × V))
  | rng (a b : Int)
  | obj (a : Addr)
  | typ (n : String)
  /-- this very value -/
  | val (v : Value)
  /-- a thing of the class TupleComp, and what it holds -/
  | inst (k : V)

structure G where
  prog : Program
  w : World
  B : Heap
  mg : Str → Option Value
  mb : Str → Option Value
  tabs : List (Addr × Addr × Str)
  os : OsState

noncomputable def w00 : World := ⟨fun zz zz => 0, { strHash := fun zz => 0, shareClass := fun zz => 0, mergeTok := id, idOf := fun zz => 0, idOfShared := fun zz zz => 0, followText := fun zz => false, idOfImm := fun zz => 0 }⟩
noncomputable abbrev CxT := World × Shared × Shared × (Str → Option Value) × (Str → Option Value)
noncomputable def cx : CxT := @Classical.epsilon CxT ⟨(w00, {}, {}, fun zz => Option.none, fun zz => Option.none)⟩ fun t => ¬ pk.1.1 t.1 t.2.1 t.2.2.1 t.2.2.2.1 t.2.2.2.2
theorem fix5 (h : pk.1.1 cx.1 cx.2.1 cx.2.2.1 cx.2.2.2.1 cx.2.2.2.2) : Fix5 pk.1.1 := fun w s₀ s₁ mg mb => Classical.byContradiction fun n =>
  Classical.epsilon_spec (p := fun t : CxT => ¬ pk.1.1 t.1 t.2.1 t.2.2.1 t.2.2.2.1 t.2.2.2.2) ⟨(w, s₀, s₁, mg, mb), n⟩ h
noncomputable def hid3 : List Addr := [139, 122, 58]
noncomputable def tabs3 : List (Addr × Addr × Str) := [(141, 139, ("_law_sorted.<locals>.<lambda>" : Str)), (124, 122, ("_law_kept.<locals>.<lambda>" : Str)), (62, 58, ("add_callers.<locals>.<genexpr>" : Str))]
noncomputable def gOf (p : Program) (w : World) (s : Shared) (mg mb : Str → Option Value) : G := ⟨p, w, hideAll s.heap hid3, mg, mb, tabs3, s.os⟩
@[irreducible] noncomputable def g : G := gOf PySem.Challenge.rw_ph0149_01.row.prog cx.1 cx.2.2.1 cx.2.2.2.1 cx.2.2.2.2
noncomputable abbrev G.M (g : G) : Model := model g.prog g.w
noncomputable abbrev G.knd (g : G) : KeyKind g.prog g.w Str := PySem.strKind g.prog g.w

mutual
inductive Rep (g : G) (h : Heap) (U : Addr → Prop) : V → Value → Prop
  | none : Rep g h U .none .none
  | bool (b) : Rep g h U (.bool b) (.bool b)
  | int (i t) : Rep g h U (.int i) (.int i t)
  | str (x t) : Rep g h U (.str x) (.str x t)
  | tup {a vs xs} : ¬ U a → h.IsTuple a vs.toArray → Reps g h U xs vs → Rep g h U (.tup xs) (.ref a)
  | lst {a vs xs} : ¬ U a → h.IsList a vs.toArray → Reps g h U xs vs → Rep g h U (.lst xs) (.ref a)
  | dct {a kvs es} : ¬ U a → (a == sysModules) = false → h.DictOf g.knd a kvs → RepD g h U es kvs → Rep g h U (.dct es) (.ref a)
  | rng {a x y t u v} : ¬ U a → IsRange h a x y 1 t u v → Rep g h U (.rng x y) (.ref a)
  | obj (a) : Rep g h U (.obj a) (.ref a)
  | typ (n) : Rep g h U (.typ n) (.type n)
  | val (v) : Rep g h U (.val v) v
  | inst {x dx od v k} : ¬ U x → ¬ U dx → h.get? x = some (instObj 38 dx) → h.get? dx = some od → lookIn "comp_select_list" od = some (some v) → lookIn "compare" od = some none → Rep g h U k v → Rep g h U (.inst k) (.ref x)
inductive Reps (g : G) (h : Heap) (U : Addr → Prop) : List V → List Value → Prop
  | nil : Reps g h U [] []
  | cons {d v ds vs} : Rep g h U d v → Reps g h U ds vs → Reps g h U (d :: ds) (v :: vs)
inductive RepD (g : G) (h : Heap) (U : Addr → Prop) : List (Str × V) → List (Str × Value) → Prop
  | nil : RepD g h U [] []
  | cons {k d v es kvs} : Rep g h U d v → RepD g h U es kvs → RepD g h U ((k, d) :: es) ((k, v) :: kvs)
end

section
variable {h : Heap} {U : Addr → Prop}
@[elab_as_elim] theorem cI {i} {motive : ∀ v, Rep g h U (.int i) v → Prop} (int : ∀ (_ : Int) (t : Tok), motive (.int i t) (.int i t)) {v} (r : Rep g h U (.int i) v) : motive v r := by cases r; exact int i _
@[elab_as_elim] theorem cS {x} {motive : ∀ v, Rep g h U (.str x) v → Prop} (str : ∀ (_ : Str) (t : Tok), motive (.str x t) (.str x t)) {v} (r : Rep g h U (.str x) v) : motive v r := by cases r; exact str x _
@[elab_as_elim] theorem cN {motive : ∀ v, Rep g h U .none v → Prop} (none : motive .none .none) {v} (r : Rep g h U .none v) : motive v r := by cases r; exact none
@[elab_as_elim] theorem cB {b} {motive : ∀ v, Rep g h U (.bool b) v → Prop} (bool : motive (.bool b) (.bool b)) {v} (r : Rep g h U (.bool b) v) : motive v r := by cases r; exact bool
@[elab_as_elim] theorem cT {xs} {motive : ∀ v, Rep g h U (.tup xs) v → Prop} (tup : ∀ {a : Addr} {vs : List Value} {_ : List V} (n : ¬ U a) (hT : h.IsTuple a vs.toArray) (rs : Reps g h U xs vs), motive (.ref a) (.tup n hT rs)) {v} (r : Rep g h U (.tup xs) v) : motive v r := by cases r with | tup n hT rs => exact @tup _ _ xs n hT rs
@[elab_as_elim] theorem cL {xs} {motive : ∀ v, Rep g h U (.lst xs) v → Prop} (lst : ∀ {a : Addr} {vs : List Value} {_ : List V} (n : ¬ U a) (hT : h.IsList a vs.toArray) (rs : Reps g h U xs vs), motive (.ref a) (.lst n hT rs)) {v} (r : Rep g h U (.lst xs) v) : motive v r := by cases r with | lst n hT rs => exact @lst _ _ xs n hT rs
@[elab_as_elim] theorem cD {es} {motive : ∀ v, Rep g h U (.dct es) v → Prop} (dct : ∀ {a : Addr} {kvs : List (Str × Value)} {_ : List (Str × V)} (n : ¬ U a) (m : (a == sysModules) = false) (hT : h.DictOf g.knd a kvs) (rs : RepD g h U es kvs), motive (.ref a) (.dct n m hT rs)) {v} (r : Rep g h U (.dct es) v) : motive v r := by cases r with | dct n m hT rs => exact @dct _ _ es n m hT rs
@[elab_as_elim] theorem cR {x y} {motive : ∀ v, Rep g h U (.rng x y) v → Prop} (rng : ∀ {a : Addr} {_ _ : Int} {t u v : Tok} (n : ¬ U a) (k : IsRange h a x y 1 t u v), motive (.ref a) (.rng n k)) {v} (r : Rep g h U (.rng x y) v) : motive v r := by cases r with | rng n k => exact @rng _ x y _ _ _ n k
@[elab_as_elim] theorem cC {d ds} {motive : ∀ vs, Reps g h U (d :: ds) vs → Prop} (cons : ∀ {_ : V} {v : Value} {_ : List V} {vs : List Value} (r : Rep g h U d v) (rs : Reps g h U ds vs), motive (v :: vs) (.cons r rs)) {vs} (r : Reps g h U (d :: ds) vs) : motive vs r := by cases r with | cons r rs => exact @cons d _ ds _ r rs
@[elab_as_elim] theorem cE {motive : ∀ vs, Reps g h U [] vs → Prop} (nil : motive [] .nil) {vs} (r : Reps g h U [] vs) : motive vs r := by cases r; exact nil
@[elab_as_elim] theorem dC {k d ds} {motive : ∀ vs, RepD g h U ((k, d) :: ds) vs → Prop} (cons : ∀ {_ : Str} {_ : V} {v : Value} {_ : List (Str × V)} {vs : List (Str × Value)} (r : Rep g h U d v) (rs : RepD g h U ds vs), motive ((k, v) :: vs) (.cons r rs)) {vs} (r : RepD g h U ((k, d) :: ds) vs) : motive vs r := by cases r with | cons r rs => exact @cons k d _ ds _ r rs
@[elab_as_elim] theorem dE {motive : ∀ vs, RepD g h U [] vs → Prop} (nil : motive [] .nil) {vs} (r : RepD g h U [] vs) : motive vs r := by cases r; exact nil
end

section
variable {h h' : Heap} {U U' : Addr → Prop}
theorem DictOf.at {a : Addr} {kvs : List (Str × Value)} (x : h.DictOf g.knd a kvs) (e : ∀ o, h.get? a = some o → h'.get? a = some o) : h'.DictOf g.knd a kvs :=
  let ⟨o, es, ep, ho, r⟩ := x; ⟨o, es, ep, e _ ho, r⟩
theorem IsRange.at {a : Addr} {x y z t u v} (k : IsRange h a x y z t u v) (e : ∀ o, h.get? a = some o → h'.get? a = some o) : IsRange h' a x y z t u v := e _ k

theorem Rep.mono (hU : ∀ a, U' a → ¬ U a → h.get? a ≠ Option.none → False) (e : ∀ a o, ¬ U a → h.get? a = some o → h'.get? a = some o) {d v} (r : Rep g h U d v) : Rep g h' U' d v := by
  refine @Rep.rec g h U (fun d v zz => Rep g h' U' d v) (fun ds vs zz => Reps g h' U' ds vs) (fun es kvs zz => RepD g h' U' es kvs) ?_ ?_ ?_ ?_ ?_ ?_ ?_ ?_ ?_ ?_ ?_ ?_ ?_ ?_ ?_ ?_ d v r
  · exact .none
  · exact fun b => .bool b
  · exact fun i t => .int i t
  · exact fun x t => .str x t
  · exact fun n x zz r => .tup (fun q => hU _ q n (let ⟨_, ho, _⟩ := x; by rw [ho]; exact nofun)) (x.at fun o => e _ o n) r
  · exact fun n x zz r => .lst (fun q => hU _ q n (let ⟨_, ho, _⟩ := x; by rw [ho]; exact nofun)) (PySem.Heap.IsList.at x fun o => e _ o n) r
  · exact fun n m x zz r => .dct (fun q => hU _ q n (let ⟨_, _, _, ho, _⟩ := x; by rw [ho]; exact nofun)) m (DictOf.at x fun o => e _ o n) r
  · exact fun n x => .rng (fun q => hU _ q n (by rw [show h.get? _ = _ from x]; exact nofun)) (IsRange.at x fun o => e _ o n)
  · exact fun a => .obj a
  · exact fun n => .typ n
  · exact fun v => .val v
  · exact fun n n' hx hd hl hc zz r => .inst (fun q => hU _ q n (by rw [hx]; exact nofun)) (fun q => hU _ q n' (by rw [hd]; exact nofun)) (e _ _ n hx) (e _ _ n' hd) hl hc r
  · exact .nil
  · exact fun zz zz a b => .cons a b
  · exact .nil
  · exact fun zz zz a b => .cons a b
theorem Reps.mono (hU : ∀ a, U' a → ¬ U a → h.get? a ≠ Option.none → False) (e : ∀ a o, ¬ U a → h.get? a = some o → h'.get? a = some o) : ∀ {vs ds}, Reps g h U ds vs → Reps g h' U' ds vs := fun {vs} => by
  induction vs with
  | nil => intro ds r; cases r; exact .nil
  | cons v vs ih => intro ds r; cases r with | cons a r => exact .cons (a.mono hU e) (ih r)
theorem RepD.mono (hU : ∀ a, U' a → ¬ U a → h.get? a ≠ Option.none → False) (e : ∀ a o, ¬ U a → h.get? a = some o → h'.get? a = some o) : ∀ {vs ds}, RepD g h U ds vs → RepD g h' U' ds vs := fun {vs} => by
  induction vs with
  | nil => intro ds r; cases r; exact .nil
  | cons v vs ih => intro ds r; cases r with | cons a r => exact .cons (a.mono hU e) (ih r)

theorem Reps.length {ds vs} (r : Reps g h U ds vs) : vs.length = ds.length := by
  induction vs generalizing ds with
  | nil => cases r; rfl
  | cons v vs ih => cases r with | cons _ r => rw [List.length_cons, List.length_cons, ih r]
theorem RepD.length {ds vs} (r : RepD g h U ds vs) : vs.length = ds.length := by
  induction vs generalizing ds with
  | nil => cases r; rfl
  | cons v vs ih => cases r with | cons _ r => rw [List.length_cons, List.length_cons, ih r]
theorem Reps.append {ds vs es ws} (r : Reps g h U ds vs) (q : Reps g h U es ws) : Reps g h U (ds ++ es) (vs ++ ws) := by
  induction vs generalizing ds with
  | nil => cases r; exact q
  | cons v vs ih => cases r with | cons a r => exact .cons a (ih r)
theorem Reps.one {d v} (r : Rep g h U d v) : Reps g h U [d] [v] := .cons r .nil
theorem Reps.get {ds vs} (r : Reps g h U ds vs) : ∀ {i : Nat} {v : Value}, vs[i]? = some v → ∃ d, ds[i]? = some d ∧ Rep g h U d v := by
  induction vs generalizing ds with
  | nil => intro i v e; simp at e
  | cons x vs ih =>
    cases r with
    | cons a r =>
      intro i v e
      cases i with
      | zero => simp at e; subst e; exact ⟨_, rfl, a⟩
      | succ i => exact ih r e
theorem Reps.getD {ds vs} (r : Reps g h U ds vs) : ∀ {i : Nat} {d : V}, ds[i]? = some d → ∃ v, vs[i]? = some v ∧ Rep g h U d v := by
  induction vs generalizing ds with
  | nil => cases r; intro i d e; simp at e
  | cons x vs ih =>
    cases r with
    | cons a r =>
      intro i v e
      cases i with
      | zero => simp at e; subst e; exact ⟨_, rfl, a⟩
      | succ i => exact ih r e
theorem Reps.take {ds vs} (r : Reps g h U ds vs) : ∀ n, Reps g h U (ds.take n) (vs.take n) := by
  induction vs generalizing ds with
  | nil => cases r; intro n; simp; exact .nil
  | cons x vs ih =>
    cases r with
    | cons a r =>
      intro n
      cases n with
      | zero => exact .nil
      | succ n => exact .cons a (ih r n)
theorem Reps.drop {ds vs} (r : Reps g h U ds vs) : ∀ n, Reps g h U (ds.drop n) (vs.drop n) := by
  induction vs generalizing ds with
  | nil => cases r; intro n; simp; exact .nil
  | cons x vs ih =>
    cases r with
    | cons a r =>
      intro n
      cases n with
      | zero => exact .cons a r
      | succ n => exact ih r n
theorem Reps.set {ds vs} (r : Reps g h U ds vs) {d v} (q : Rep g h U d v) : ∀ n, Reps g h U (ds.set n d) (vs.set n v) := by
  induction vs generalizing ds with
  | nil => cases r; intro n; simp; exact .nil
  | cons x vs ih =>
    cases r with
    | cons a r =>
      intro n
      cases n with
      | zero => exact .cons q r
      | succ n => exact .cons a (ih r n)
theorem Reps.reverse {ds vs} (r : Reps g h U ds vs) : Reps g h U ds.reverse vs.reverse := by
  induction vs generalizing ds with
  | nil => cases r; exact .nil
  | cons x vs ih => cases r with | cons a r => rw [List.reverse_cons, List.reverse_cons]; exact (ih r).append (.one a)
end
theorem len0 {α : Type} {l : List α} {β : Type} (h : l.length = ([] : List β).length) : l = [] := List.length_eq_zero_iff.mp h
theorem len1 {α β : Type} {l : List α} {a : β} (h : l.length = [a].length) : ∃ x, l = [x] := List.length_eq_one_iff.mp h
theorem lenS {α : Type} {l : List α} {n : Nat} (h : l.length = n + 1) : ∃ x r, l = x :: r ∧ r.length = n := by
  cases l with
  | nil => cases h
  | cons x r => exact ⟨x, r, rfl, Nat.succ.inj h⟩
theorem len2 {α β : Type} {l : List α} {a b : β} (h : l.length = [a, b].length) : ∃ x y, l = [x, y] := by
  obtain ⟨x, r, rfl, h2⟩ := lenS h
  obtain ⟨y, rfl⟩ := List.length_eq_one_iff.mp h2
  exact ⟨x, y, rfl⟩
theorem len3 {α β : Type} {l : List α} {a b c : β} (h : l.length = [a, b, c].length) : ∃ x y z, l = [x, y, z] := by
  obtain ⟨x, r, rfl, h2⟩ := lenS h
  obtain ⟨y, z, rfl⟩ := len2 (a := a) (b := b) h2
  exact ⟨x, y, z, rfl⟩
theorem len4 {α β : Type} {l : List α} {a b c d : β} (h : l.length = [a, b, c, d].length) : ∃ x y z u, l = [x, y, z, u] := by
  refine ngI fun hNg => ?_
  obtain ⟨x, r, rfl, h2⟩ := lenS h
  refine ngE hNg ?_
  refine ngI fun hNg => ?_
  obtain ⟨y, z, u, rfl⟩ := len3 (a := a) (b := b) (c := c) h2
  refine ngE hNg ?_
  exact ⟨x, y, z, u, rfl⟩
theorem mid_lt {lo hi : Nat} (h : lo < hi) : (lo + hi) / 2 < hi := by lia
theorem mid_r {lo hi : Nat} (h : lo < hi) : hi - ((lo + hi) / 2 + 1) < hi - lo := by lia
theorem mid_l {lo hi : Nat} (h : lo < hi) : (lo + hi) / 2 - lo < hi - lo := by lia
theorem mid_i (lo hi : Nat) : ((lo : Int) + hi).fdiv 2 = ((lo + hi) / 2 : Nat) := by rw [Int.fdiv_eq_ediv_of_nonneg _ (by decide)]; lia
end
section
structure AOk (n : Nat) (A : Around) : Prop where
  hh : A.handled = none
  dp : A.depth + n ≤ 900
  un : A.units + 20 * n ≤ 9000

theorem AOk.le {n k : Nat} {A : Around} (h : AOk n A) (hk : k ≤ n) : AOk k A := ⟨h.hh, by have := h.dp; lia, by have := h.un; lia⟩
theorem AOk.deeper {n : Nat} {A : Around} {env : Env} (h : AOk (n + 1) A) : AOk n (A.deeper env) :=
  ⟨h.hh, by have := h.dp; show A.depth + 1 + n ≤ 900; lia, by have := h.un; show A.units + 3 + 20 * n ≤ 9000; lia⟩
theorem AOk.in1 {n : Nat} {A : Around} (h : AOk (n + 1) A) : AOk n A.in1 :=
  ⟨h.hh, by have := h.dp; show A.depth + n ≤ 900; lia, by have := h.un; show A.units + 1 + 20 * n ≤ 9000; lia⟩
theorem AOk.room {n : Nat} {A : Around} (h : AOk n A) : A.depth < recursionLimit := by have := h.dp; show A.depth < 1000; lia
theorem AOk.units {n : Nat} {A : Around} (h : AOk n A) {k : Nat} (hk : k ≤ 800 + 20 * n) : A.units + k < cLine := by have := h.un; show A.units + k < 9900; lia
theorem AOk.units0 {n : Nat} {A : Around} (h : AOk n A) : A.units < cLine := by have := h.un; show A.units < 9900; lia
noncomputable def TabGood (h : Heap) (P : Addr) (q : Str) : Prop :=
  ∃ ps, h.get? P = some (tabObj ps) ∧ TriplesOk ps.toList ∧ ∀ pos c, codeAmong pos ps.toList = some c → h.CodeRec c q

structure Wd (g : G) (s : Shared) : Prop where
  keep : ∀ b o, g.B.get? b = some o → s.heap.get? b = some o
  tab : ∀ q ∈ g.tabs, TabGood s.heap q.2.1 q.2.2
  gens : AllBare s.gens
  os : s.os = g.os

structure Pur (g : G) (s s' : Shared) : Prop where
  keep : ∀ b o, (∀ q ∈ g.tabs, q.2.1 ≠ b) → s.heap.get? b = some o → s'.heap.get? b = some o
  wd : Wd g s'

theorem Pur.refl {s : Shared} (w : Wd g s) : Pur g s s := ⟨fun zz zz zz e => e, w⟩
theorem Pur.trans {s s' s'' : Shared} (p : Pur g s s') (q : Pur g s' s'') : Pur g s s'' :=
  ⟨fun b o n e => q.keep b o n (p.keep b o n e), q.wd⟩

structure Fx where
  env : Env
  U : Addr → Prop
  s₀ : Shared
  C : List (Str × Addr)

inductive Sl where
  | imm (d : V)
  | own (xs : List V)
  | ownD (es : List (Str × V))
  /-- held, without a name: this value -/
  | hid (d : V) (v : Value)
  /-- held, without a name: an object of the frame's own -/
  | obj (a : Addr) (o : Obj)
  /-- held, without a name: a list of the frame's own -/
  | acc (a : Addr) (xs : List V)
  /-- held, without a name: a datum and its very object -/
  | fix (d : V) (a : Addr) (o : Obj)

noncomputable abbrev Rho := List (Str × Sl)

noncomputable def UU (F : Fx) (O : List (Str × Addr)) (a : Addr) : Prop :=
  F.U a ∨ a = F.env.locals ∨ a ∈ F.C.map (·.2) ∨ a ∈ O.map (·.2)

noncomputable def SlRep (g : G) (h : Heap) (U : Addr → Prop) (O : List (Str × Addr)) (x : Str) : Sl → Value → Prop
  | .imm d, v => Rep g h U d v
  | .own xs, v => ∃ a vs, v = .ref a ∧ (x, a) ∈ O ∧ h.PlainList a vs.toArray ∧ Reps g h U xs vs
  | .ownD es, v => ∃ a kvs, v = .ref a ∧ (x, a) ∈ O ∧ (a == sysModules) = false ∧ h.DictOf g.knd a kvs ∧ RepD g h U es kvs
  | .hid d u, v => v = u ∧ Rep g h U d u
  | .obj a o, v => v = .ref a ∧ (x, a) ∈ O ∧ h.get? a = some o
  | .acc a xs, v => v = .ref a ∧ (x, a) ∈ O ∧ ∃ vs, h.PlainList a vs.toArray ∧ Reps g h U xs vs
  | .fix d a o, v => v = .ref a ∧ ¬ U a ∧ h.get? a = some o ∧ Rep g h U d (.ref a)

noncomputable def Bound (env : Env) (h : Heap) (x : Str) (v : Value) : Prop :=
  (env.kindOf x = some .local ∧ ∃ m, h.Ns env.locals m ∧ m x = some v) ∨
  ((env.kindOf x = some .cell ∨ env.kindOf x = some .free) ∧ (x == ("__classdict__" : Str)) = false ∧ ∃ c, env.cells.lookup x = some c ∧ h.IsCell c (some v))

noncomputable def Bd (env : Env) (h : Heap) (x : Str) : Sl → Value → Prop
  | .hid _ _, _ => True
  | .obj _ _, _ => True
  | .acc _ _, _ => True
  | .fix _ _ _, _ => True
  | _, v => Bound env h x v
theorem Bd.map {env : Env} {h h' : Heap} {x : Str} {sl : Sl} {v : Value} (k : Bound env h x v → Bound env h' x v) (b : Bd env h x sl v) : Bd env h' x sl v := by
  cases sl with
  | hid => trivial
  | obj => trivial
  | acc => trivial
  | fix => trivial
  | imm => exact k b
  | own => exact k b
  | ownD => exact k b

theorem Bd.of {env : Env} {h : Heap} {x : Str} {sl : Sl} {v : Value} (b : Bound env h x v) : Bd env h x sl v := by
  cases sl with
  | hid => trivial
  | obj => trivial
  | acc => trivial
  | fix => trivial
  | imm => exact b
  | own => exact b
  | ownD => exact b

structure StO (g : G) (F : Fx) (ρ : Rho) (O : List (Str × Addr)) (s : Shared) : Prop where
  wd : Wd g s
  wd0 : Wd g F.s₀
  pur : Pur g F.s₀ s
  liveU : ∀ a, F.U a → ∃ o, F.s₀.heap.get? a = some o
  tabU : ∀ q ∈ g.tabs, F.U q.2.1
  kind : F.env.scope.kind = .function
  glob : F.env.globals = mainGlobals
  bui : F.env.builtins = builtinsNs
  nodup : (F.env.locals :: (F.C.map (·.2) ++ O.map (·.2))).Nodup
  newL : F.s₀.heap.get? F.env.locals = none
  newC : ∀ q ∈ F.C, F.s₀.heap.get? q.2 = none
  newO : ∀ q ∈ O, F.s₀.heap.get? q.2 = none
  liveO : ∀ q ∈ O, ∃ o, s.heap.get? q.2 = some o
  ns : ∃ m, s.heap.Ns F.env.locals m
  own : ∀ q ∈ F.C, (F.env.kindOf q.1 = some .cell ∧ (q.1 == ("__classdict__" : Str)) = false) ∧ F.env.cells.lookup q.1 = some q.2 ∧ ∃ v, s.heap.IsCell q.2 v
  cellsOk : ∀ y c, F.env.cells.lookup y = some c → (y, c) ∈ F.C ∨ F.U c
  facts : ∀ x sl, (x, sl) ∈ ρ → ∃ v, Bd F.env s.heap x sl v ∧ SlRep g s.heap (UU F O) O x sl v

section
variable {F : Fx} {ρ : Rho} {O : List (Str × Addr)} {s s' : Shared}

theorem tab_ne_obj {s : Shared} (w : Wd g s) {b : Addr} {o : Obj} (e : s.heap.get? b = some o) (hc : o.cls ≠ .none) : ∀ q ∈ g.tabs, q.2.1 ≠ b := fun q hq e' => by
  obtain ⟨ps, hp, _⟩ := w.tab q hq
  rw [e', e] at hp; cases hp; exact hc rfl

theorem Wd.tabNs (w : Wd g s) {L m} (n : s.heap.Ns L m) : ∀ q ∈ g.tabs, q.2.1 ≠ L := fun q hq e => by
  obtain ⟨ps, hp, _⟩ := w.tab q hq
  obtain ⟨o, es, ep, ho, hd, _⟩ := n
  rw [e, ho] at hp; cases hp; cases hd
theorem Wd.tabCell (w : Wd g s) {c v} (n : s.heap.IsCell c v) : ∀ q ∈ g.tabs, q.2.1 ≠ c := fun q hq e => by
  obtain ⟨ps, hp, _⟩ := w.tab q hq
  obtain ⟨o, ho, hd⟩ := n
  rw [e, ho] at hp; cases hp; cases hd
theorem Wd.tabList (w : Wd g s) {c v} (n : s.heap.IsList c v) : ∀ q ∈ g.tabs, q.2.1 ≠ c := fun q hq e => by
  obtain ⟨ps, hp, _⟩ := w.tab q hq
  obtain ⟨o, ho, hc, hd⟩ := n
  rw [e, ho] at hp; cases hp; cases hc
theorem Wd.tabDict (w : Wd g s) {c v} (n : s.heap.DictOf g.knd c v) : ∀ q ∈ g.tabs, q.2.1 ≠ c := fun q hq e => by
  obtain ⟨ps, hp, _⟩ := w.tab q hq
  obtain ⟨o, es, ep, ho, hc, hd, _⟩ := n
  rw [e, ho] at hp; cases hp; cases hd

theorem Pur.live (p : Pur g s s') {a : Addr} (e : ∃ o, s.heap.get? a = some o) : ∃ o, s'.heap.get? a = some o := by
  by_cases h : ∃ q ∈ g.tabs, q.2.1 = a
  · obtain ⟨q, hq, rfl⟩ := h
    obtain ⟨ps, hp, _⟩ := p.wd.tab q hq
    exact ⟨_, hp⟩
  · obtain ⟨o, e⟩ := e
    exact ⟨o, p.keep a o (fun q hq e' => h ⟨q, hq, e'⟩) e⟩

theorem StO.live (h : StO g F ρ O s) {a : Addr} (ha : UU F O a) : ∃ o, s.heap.get? a = some o := by
  rcases ha with ha | rfl | ha | ha
  · exact h.pur.live (h.liveU a ha)
  · obtain ⟨m, o, _, _, e, _⟩ := h.ns; exact ⟨o, e⟩
  · obtain ⟨q, hq, rfl⟩ := List.mem_map.mp ha; obtain ⟨_, _, v, o, e, _⟩ := h.own q hq; exact ⟨o, e⟩
  · obtain ⟨q, hq, rfl⟩ := List.mem_map.mp ha; exact h.liveO q hq
theorem StO.fresh (h : StO g F ρ O s) {a : Addr} (e : s.heap.get? a = none) : ¬ UU F O a := fun ha => by
  obtain ⟨o, q⟩ := h.live ha; rw [e] at q; cases q

theorem StO.tabU' (h : StO g F ρ O s) {b : Addr} (n : ¬ UU F O b) : ∀ q ∈ g.tabs, q.2.1 ≠ b := fun q hq e => n (.inl (e ▸ h.tabU q hq))

theorem StO.rep (h : StO g F ρ O s) (p : Pur g s s') {d v} (r : Rep g s.heap (UU F O) d v) : Rep g s'.heap (UU F O) d v :=
  r.mono (fun zz a n zz => n a) fun b o n e => p.keep b o (h.tabU' n) e
theorem StO.reps (h : StO g F ρ O s) (p : Pur g s s') {d v} (r : Reps g s.heap (UU F O) d v) : Reps g s'.heap (UU F O) d v :=
  r.mono (fun zz a n zz => n a) fun b o n e => p.keep b o (h.tabU' n) e
theorem StO.repD (h : StO g F ρ O s) (p : Pur g s s') {d v} (r : RepD g s.heap (UU F O) d v) : RepD g s'.heap (UU F O) d v :=
  r.mono (fun zz a n zz => n a) fun b o n e => p.keep b o (h.tabU' n) e

theorem Pur.ns (p : Pur g s s') (w : Wd g s) {L m} (n : s.heap.Ns L m) : s'.heap.Ns L m := n.at' fun o e => p.keep _ o (w.tabNs n) e
theorem Pur.isCell (p : Pur g s s') (w : Wd g s) {c v} (n : s.heap.IsCell c v) : s'.heap.IsCell c v :=
  let ⟨o, ho, hd⟩ := n; ⟨o, p.keep _ o (w.tabCell ⟨o, ho, hd⟩) ho, hd⟩
theorem Pur.isList (p : Pur g s s') (w : Wd g s) {c v} (n : s.heap.IsList c v) : s'.heap.IsList c v := PySem.Heap.IsList.at n fun o e => p.keep _ o (w.tabList n) e
theorem Pur.plainL (p : Pur g s s') (w : Wd g s) {c v} (n : s.heap.PlainList c v) : s'.heap.PlainList c v := n.at fun o e => p.keep _ o (w.tabList n.isList) e
theorem Pur.dictOf (p : Pur g s s') (w : Wd g s) {c v} (n : s.heap.DictOf g.knd c v) : s'.heap.DictOf g.knd c v := DictOf.at n fun o e => p.keep _ o (w.tabDict n) e
theorem Pur.bound (p : Pur g s s') (w : Wd g s) {env x v} (b : Bound env s.heap x v) : Bound env s'.heap x v := by
  rcases b with ⟨hk, m, hn, hm⟩ | ⟨hk, hx, c, hc, hv⟩
  · exact .inl ⟨hk, m, p.ns w hn, hm⟩
  · exact .inr ⟨hk, hx, c, hc, p.isCell w hv⟩

theorem SlRep.mv {h h' : Heap} {U U' : Addr → Prop} {O O' : List (Str × Addr)} {x : Str} {v : Value} (hU : ∀ a, U' a → ¬ U a → h.get? a ≠ none → False) (e1 : ∀ a o, ¬ U a → h.get? a = some o → h'.get? a = some o)
    (kO : ∀ a, (x, a) ∈ O → (x, a) ∈ O' ∧ ∀ o, h.get? a = some o → h'.get? a = some o) : ∀ {sl : Sl}, SlRep g h U O x sl v → SlRep g h' U' O' x sl v
  | .imm _, r => Rep.mono hU e1 r
  | .own _, ⟨a, vs, e, hm, hl, hr⟩ => ⟨a, vs, e, (kO a hm).1, Heap.PlainList.at hl (kO a hm).2, Reps.mono hU e1 hr⟩
  | .ownD _, ⟨a, vs, e, hm, hy, hl, hr⟩ => ⟨a, vs, e, (kO a hm).1, hy, DictOf.at hl (kO a hm).2, RepD.mono hU e1 hr⟩
  | .hid _ _, r => ⟨r.1, Rep.mono hU e1 r.2⟩
  | .obj a _, r => ⟨r.1, (kO a r.2.1).1, (kO a r.2.1).2 _ r.2.2⟩
  | .acc a _, ⟨e, hm, vs, hl, hr⟩ => ⟨e, (kO a hm).1, vs, Heap.PlainList.at hl (kO a hm).2, Reps.mono hU e1 hr⟩
  | .fix _ _ _, r => ⟨r.1, fun u => hU _ u r.2.1 (by rw [r.2.2.1]; exact nofun), e1 _ _ r.2.1 r.2.2.1, Rep.mono hU e1 r.2.2.2⟩
theorem StO.slRep (h : StO g F ρ O s) (p : Pur g s s') {x sl v} (r : SlRep g s.heap (UU F O) O x sl v) : SlRep g s'.heap (UU F O) O x sl v :=
  r.mv (fun zz u n zz => n u) (fun a o n e => p.keep a o (h.tabU' n) e) fun a hm => ⟨hm, fun o e => p.keep a o (fun q hq e => by
    obtain ⟨o', ho'⟩ := h.liveU _ (h.tabU q hq)
    rw [e, h.newO _ hm] at ho'; cases ho') e⟩

theorem StO.step (h : StO g F ρ O s) (p : Pur g s s') : StO g F ρ O s' where
  wd := p.wd
  wd0 := h.wd0
  pur := h.pur.trans p
  liveU := h.liveU
  tabU := h.tabU
  kind := h.kind
  glob := h.glob
  bui := h.bui
  nodup := h.nodup
  newL := h.newL
  newC := h.newC
  newO := h.newO
  liveO := fun q hq => p.live (h.liveO q hq)
  ns := let ⟨m, hn⟩ := h.ns; ⟨m, p.ns h.wd hn⟩
  own := fun q hq => let ⟨a, b, v, e⟩ := h.own q hq; ⟨a, b, v, p.isCell h.wd e⟩
  cellsOk := h.cellsOk
  facts := fun x sl hm => let ⟨v, hb, hr⟩ := h.facts x sl hm; ⟨v, hb.map (p.bound h.wd), h.slRep p hr⟩

theorem StO.sub (h : StO g F ρ O s) {ρ' : Rho} (k : ∀ p ∈ ρ', p ∈ ρ) : StO g F ρ' O s :=
  { h with facts := fun x sl hm => h.facts x sl (k _ hm) }
theorem StO.objO (h : StO g F ρ O s) {x : Str} {I : Addr} {o : Obj} (m : (x, Sl.obj I o) ∈ ρ) : (x, I) ∈ O := let ⟨_, _, _, q, _⟩ := h.facts _ _ m; q
theorem StO.objH (h : StO g F ρ O s) {x : Str} {I : Addr} {o : Obj} (m : (x, Sl.obj I o) ∈ ρ) : s.heap.get? I = some o := let ⟨_, _, _, _, q⟩ := h.facts _ _ m; q
theorem StO.fixH (h : StO g F ρ O s) {x : Str} {d : V} {a : Addr} {o : Obj} (m : (x, Sl.fix d a o) ∈ ρ) : s.heap.get? a = some o := let ⟨_, _, _, _, q, _⟩ := h.facts _ _ m; q
theorem StO.fixR (h : StO g F ρ O s) {x : Str} {d : V} {a : Addr} {o : Obj} (m : (x, Sl.fix d a o) ∈ ρ) : Rep g s.heap (UU F O) d (.ref a) := let ⟨_, _, _, _, _, q⟩ := h.facts _ _ m; q
theorem StO.accO (h : StO g F ρ O s) {x : Str} {a : Addr} {xs : List V} (m : (x, Sl.acc a xs) ∈ ρ) : (x, a) ∈ O := let ⟨_, _, _, q, _⟩ := h.facts _ _ m; q
theorem StO.accL (h : StO g F ρ O s) {x : Str} {a : Addr} {xs : List V} (m : (x, Sl.acc a xs) ∈ ρ) : ∃ vs : List Value, s.heap.PlainList a vs.toArray ∧ Reps g s.heap (UU F O) xs vs := let ⟨_, _, _, _, q⟩ := h.facts _ _ m; q

theorem Wd.toks (w : Wd g s) (t : Nat) : Wd g { s with toks := t } := ⟨w.keep, w.tab, w.gens, w.os⟩
theorem Pur.toks (w : Wd g s) (t : Nat) : Pur g s { s with toks := t } := ⟨fun zz zz zz e => e, w.toks t⟩
theorem TabGood.keeps {h h' : Heap} {P : Addr} {q : Str} (t : TabGood h P q) (k : ∀ b o, h.get? b = some o → h'.get? b = some o) : TabGood h' P q :=
  let ⟨ps, a, b, c⟩ := t; ⟨ps, k _ _ a, b, fun pos x e => (c pos x e).keeps k⟩
theorem Pur.grow (w : Wd g s) {h' : Heap} {t : Nat} (k : ∀ b o, s.heap.get? b = some o → h'.get? b = some o) : Pur g s { s with heap := h', toks := t } :=
  ⟨fun b o zz e => k b o e, fun b o e => k b o (w.keep b o e), fun q hq => (w.tab q hq).keeps k, w.gens, w.os⟩
theorem Pur.push (w : Wd g s) {o : Obj} {t : Nat} : Pur g s { s with heap := s.heap.push o, toks := t } :=
  Pur.grow w fun zz zz e => Heap.get?_push_of_some o e

noncomputable def Rho.put (ρ : Rho) (x : Str) (sl : Sl) : Rho := (x, sl) :: ρ.filter fun p => !(p.1 == x)
noncomputable def dropO (O : List (Str × Addr)) (x : Str) : List (Str × Addr) := O.filter fun p => !(p.1 == x)
theorem mem_put {ρ : Rho} {x y : Str} {sl sl' : Sl} (h : (y, sl') ∈ ρ.put x sl) : (y = x ∧ sl' = sl) ∨ (y ≠ x ∧ (y, sl') ∈ ρ) := by
  rcases List.mem_cons.mp h with h | h
  · cases h; exact .inl ⟨rfl, rfl⟩
  · have := List.mem_filter.mp h
    exact .inr ⟨by simpa using this.2, this.1⟩
theorem mem_dropO {O : List (Str × Addr)} {x : Str} {q : Str × Addr} (h : q ∈ dropO O x) : q ∈ O ∧ q.1 ≠ x := by
  have := List.mem_filter.mp h; exact ⟨this.1, by simpa using this.2⟩
theorem nodup_drop {l : Addr} {C O : List (Str × Addr)} (h : (l :: (C.map (·.2) ++ O.map (·.2))).Nodup) (x : Str) : (l :: (C.map (·.2) ++ (dropO O x).map (·.2))).Nodup := by
  have hs : ((dropO O x).map (·.2)).Sublist (O.map (·.2)) := List.Sublist.map _ List.filter_sublist
  exact List.Nodup.sublist (List.Sublist.cons_cons _ ((List.Sublist.refl _).append hs)) h
theorem UU.drop {F : Fx} {O : List (Str × Addr)} {x : Str} {a : Addr} (h : UU F (dropO O x) a) : UU F O a := by
  rcases h with h | h | h | h
  · exact .inl h
  · exact .inr (.inl h)
  · exact .inr (.inr (.inl h))
  · obtain ⟨q, hq, rfl⟩ := List.mem_map.mp h
    exact .inr (.inr (.inr (List.mem_map.mpr ⟨q, (mem_dropO hq).1, rfl⟩)))

theorem slRep_touch {F : Fx} {O : List (Str × Addr)} {a : Addr} {h h' : Heap} {x : Str} {sl : Sl} {v : Value} (hs : Heap.SameBut a h h') (ha : a = F.env.locals ∨ a ∈ F.C.map (·.2)) (nd : (F.env.locals :: (F.C.map (·.2) ++ O.map (·.2))).Nodup)
    (y : Str) (hxy : x ≠ y) (r : SlRep g h (UU F O) O x sl v) : SlRep g h' (UU F (dropO O y)) (dropO O y) x sl v := by
  have hU : UU F O a := by rcases ha with ha | ha; exact .inr (.inl ha); exact .inr (.inr (.inl ha))
  have e1 : ∀ b o, ¬ UU F O b → h.get? b = some o → h'.get? b = some o := fun b o n e => (hs.2 b (fun q => n (q ▸ hU))).trans e
  have hO : ∀ b, b ∈ O.map (·.2) → b ≠ a := fun b hb q => by
    subst q
    rw [List.nodup_cons, List.nodup_append] at nd
    rcases ha with ha | ha
    · exact nd.1 (ha ▸ List.mem_append_right _ hb)
    · exact nd.2.2.2 b ha b hb rfl
  exact r.mv (fun b n m zz => m n.drop) e1 fun l hm => ⟨List.mem_filter.mpr ⟨hm, by simpa using hxy⟩, fun o e => (hs.2 _ (hO l (List.mem_map.mpr ⟨_, hm, rfl⟩))).trans e⟩

theorem pairs_inj {C : List (Str × Addr)} (nd : (C.map (·.2)).Nodup) {x y : Str} {c : Addr} (h1 : (x, c) ∈ C) (h2 : (y, c) ∈ C) : x = y := by
  induction C with
  | nil => cases h1
  | cons p r ih =>
    rw [List.map_cons, List.nodup_cons] at nd
    rcases List.mem_cons.mp h1 with e1 | h1 <;> rcases List.mem_cons.mp h2 with e2 | h2
    · rw [← e1] at e2; cases e2; rfl
    · exact absurd (List.mem_map.mpr ⟨_, h2, by rw [← e1]⟩) nd.1
    · exact absurd (List.mem_map.mpr ⟨_, h1, by rw [← e2]⟩) nd.1
    · exact ih nd.2 h1 h2

noncomputable def CanStore (F : Fx) (x : Str) : Prop := F.env.kindOf x = some .local ∨ ∃ c, (x, c) ∈ F.C

theorem Wd.touch (w : Wd g s) {a : Addr} {h' : Heap} {t : Nat} (hs : Heap.ExtBut a s.heap h') (hB : g.B.get? a = none) (hT : ∀ q ∈ g.tabs, q.2.1 ≠ a) (hc : ∀ c q, s.heap.CodeRec c q → h'.CodeRec c q) : Wd g { s with heap := h', toks := t } :=
  ⟨fun b o e => hs b o (fun q => by rw [q, hB] at e; cases e) (w.keep b o e), fun q hq => by
    obtain ⟨ps, h1, h2, h3⟩ := w.tab q hq
    exact ⟨ps, hs _ _ (hT q hq) h1, h2, fun pos c e => hc _ _ (h3 pos c e)⟩, w.gens, w.os⟩
noncomputable def NoCode (o : Obj) : Prop := ∀ vs, o.data = .fields vs → ∀ q t, vs[1]? ≠ some (.str q t)
theorem codeRec_touch {h h' : Heap} {a : Addr} (hs : Heap.ExtBut a h h') (hd : ∀ o, h.get? a = some o → NoCode o) {c q} (x : h.CodeRec c q) : h'.CodeRec c q := by
  obtain ⟨b, o, vs, t, e, hb, hd', r⟩ := x
  exact ⟨b, o, vs, t, e, hs b o (fun q => by subst q; exact hd o hb vs hd' _ _ r) hb, hd', r⟩
theorem StO.baseNone (h : StO g F ρ O s) {a : Addr} (e : F.s₀.heap.get? a = none) : g.B.get? a = none := by
  cases q : g.B.get? a with
  | none => rfl
  | some o => rw [h.wd0.keep a o q] at e; cases e
theorem StO.tabNe (h : StO g F ρ O s) {a : Addr} (e : F.s₀.heap.get? a = none) : ∀ q ∈ g.tabs, q.2.1 ≠ a := fun q hq e' => by
  obtain ⟨o, ho⟩ := h.liveU _ (h.tabU q hq)
  rw [e', e] at ho; cases ho

theorem StO.touch (h : StO g F ρ O s) {a : Addr} (ha : F.s₀.heap.get? a = none) {h' : Heap} {t : Nat} (hs : Heap.ExtBut a s.heap h') (hd : ∀ o, s.heap.get? a = some o → NoCode o) : Wd g { s with heap := h', toks := t } ∧ Pur g F.s₀ { s with heap := h', toks := t } := by
  have w : Wd g { s with heap := h', toks := t } := h.wd.touch hs (h.baseNone ha) (h.tabNe ha) fun c q x => codeRec_touch hs hd x
  exact ⟨w, fun b o n e => hs b o (fun q => by rw [q, ha] at e; cases e) (h.pur.keep b o n e), w⟩

theorem StO.store (h : StO g F ρ O s) {A : Around} {M : Model} {x : Str} {v : Value} (hx : CanStore F x) {Q : Unit → Shared → Prop}
    (k : ∀ (a : Addr) (h' : Heap) (t : Nat), (a = F.env.locals ∨ a ∈ F.C.map (·.2)) → Heap.SameBut a s.heap h' → Wd g { s with heap := h', toks := t } → Pur g F.s₀ { s with heap := h', toks := t } → Bound F.env h' x v →
      (∀ y u, y ≠ x → Bound F.env s.heap y u → Bound F.env h' y u) → (∃ m, h'.Ns F.env.locals m) → (∀ q ∈ F.C, ∃ v, h'.IsCell q.2 v) → Q () { s with heap := h', toks := t }) :
    wpAny M A (storeName F.env x v) Q (fun zz zz => False) s := by
  refine ngI fun hNg => ?_
  obtain ⟨m, hn⟩ := h.ns
  refine ngE hNg ?_
  rcases hx with hl | ⟨c, hc⟩
  · refine wpAny_storeName_local hl hn (fun h' hn' hs => ?_) (by rw [h.kind]; rfl)
    refine ngI fun hNg => ?_
    obtain ⟨o, es, ep, ho, hd, _⟩ := id hn
    refine ngE hNg ?_
    have hT := h.touch (t := s.toks + 1) h.newL hs.extBut (fun o' e vs q => by rw [ho] at e; cases e; rw [hd] at q; cases q)
    have hcell : ∀ c v, s.heap.IsCell c v → h'.IsCell c v := fun c v x => x.sameBut hs fun q => by
      refine ngI fun hNg => ?_
      obtain ⟨o', ho', hd'⟩ := x
      refine ngE hNg ?_
      rw [q, ho] at ho'; cases ho'; rw [hd] at hd'; cases hd'
    refine k _ h' _ (.inl rfl) hs hT.1 hT.2 (.inl ⟨hl, _, hn', by simp⟩) (fun y u hy hb => ?_) ⟨_, hn'⟩ fun q hq => let ⟨_, _, v, e⟩ := h.own q hq; ⟨v, hcell _ _ e⟩
    rcases hb with ⟨hk, m₂, hn₂, hm₂⟩ | ⟨hk, hz, c, hc, hv⟩
    · refine .inl ⟨hk, _, hn', ?_⟩
      refine ngI fun hNg => ?_
      obtain ⟨o₂, es₂, ep₂, ho₂, hd₂, _, hf₂⟩ := hn₂
      refine ngE hNg ?_
      refine ngI fun hNg => ?_
      obtain ⟨o₁, es₁, ep₁, ho₁, hd₁, _, hf₁⟩ := hn
      refine ngE hNg ?_
      rw [ho₂] at ho₁; cases ho₁; rw [hd₂] at hd₁; cases hd₁
      rw [if_neg hy, ← hf₁ y, hf₂ y, hm₂]
    · exact .inr ⟨hk, hz, c, hc, hcell _ _ hv⟩
  · obtain ⟨⟨hk, hz⟩, hlu, v₀, hv₀⟩ := h.own _ hc
    refine wpAny_storeName_cell h.kind hk hlu hv₀ fun h' hc' hs => ?_
    refine ngI fun hNg => ?_
    obtain ⟨o, ho, hd⟩ := id hv₀
    refine ngE hNg ?_
    have hT := h.touch (t := s.toks) (h.newC _ hc) hs.extBut (fun o' e vs q => by rw [ho] at e; cases e; rw [hd] at q; cases q)
    have hns : ∀ m, s.heap.Ns F.env.locals m → h'.Ns F.env.locals m := fun m n => n.sameBut hs fun q => by
      refine ngI fun hNg => ?_
      obtain ⟨o', es, ep, ho', hd', _⟩ := n
      refine ngE hNg ?_
      rw [q, ho] at ho'; cases ho'; rw [hd] at hd'; cases hd'
    have hcell : ∀ c₂ u, c₂ ≠ c → s.heap.IsCell c₂ u → h'.IsCell c₂ u := fun c₂ u hne x => x.sameBut hs hne
    refine k c h' s.toks (.inr (List.mem_map.mpr ⟨_, hc, rfl⟩)) hs hT.1 hT.2 (.inr ⟨.inl hk, hz, c, hlu, hc'⟩) (fun y u hy hb => ?_) ⟨_, hns _ hn⟩ fun q hq => ?_
    · rcases hb with ⟨hk, m₂, hn₂, hm₂⟩ | ⟨hk, hz, c₂, hc₂, hv⟩
      · exact .inl ⟨hk, m₂, hns _ hn₂, hm₂⟩
      · refine .inr ⟨hk, hz, c₂, hc₂, hcell _ _ (fun e => ?_) hv⟩
        subst e
        rcases h.cellsOk _ _ hc₂ with hm | hu
        · have nd := h.nodup
          rw [List.nodup_cons, List.nodup_append] at nd
          have e := pairs_inj nd.2.1 hm hc
          exact hy e
        · obtain ⟨o', ho'⟩ := h.liveU _ hu
          rw [h.newC _ hc] at ho'; cases ho'
    · by_cases e : q.2 = c
      · exact ⟨_, e ▸ hc'⟩
      · obtain ⟨_, _, v, hv⟩ := h.own q hq
        exact ⟨v, hcell _ _ e hv⟩

theorem StO.storeImmR (h : StO g F ρ O s) {A : Around} {M : Model} {x : Str} {v : Value} {d : V} (hx : CanStore F x) (r : Rep g s.heap (UU F O) d v) {Q : Unit → Shared → Prop}
    (k : ∀ s', (∀ ds vs, Reps g s.heap (UU F O) ds vs → Reps g s'.heap (UU F (dropO O x)) ds vs) → StO g F (ρ.put x (.imm d)) (dropO O x) s' → Q () s') : wpAny M A (storeName F.env x v) Q (fun zz zz => False) s := by
  refine h.store hx fun a h' t ha hs w p hb hy hn hc => k _ (fun ds vs r => Reps.mono (fun b n m zz => m n.drop) (fun b o n e => (hs.2 b fun q => n (q ▸ (by rcases ha with ha | ha; exact .inr (.inl ha); exact .inr (.inr (.inl ha))))).trans e) r) ?_
  have hU : UU F O a := by rcases ha with ha | ha; exact .inr (.inl ha); exact .inr (.inr (.inl ha))
  have hOa : ∀ b, b ∈ O.map (·.2) → b ≠ a := fun b hb q => by
    subst q
    have nd := h.nodup
    rw [List.nodup_cons, List.nodup_append] at nd
    rcases ha with ha | ha
    · exact nd.1 (ha ▸ List.mem_append_right _ hb)
    · exact nd.2.2.2 b ha b hb rfl
  exact {
    wd := w
    wd0 := h.wd0
    pur := p
    liveU := h.liveU
    tabU := h.tabU
    kind := h.kind
    glob := h.glob
    bui := h.bui
    nodup := nodup_drop h.nodup x
    newL := h.newL
    newC := h.newC
    newO := fun q hq => h.newO q (mem_dropO hq).1
    liveO := fun q hq => let ⟨o, e⟩ := h.liveO q (mem_dropO hq).1; ⟨o, (hs.2 _ (hOa _ (List.mem_map.mpr ⟨q, (mem_dropO hq).1, rfl⟩))).trans e⟩
    ns := hn
    own := fun q hq => ⟨(h.own q hq).1, (h.own q hq).2.1, hc q hq⟩
    cellsOk := h.cellsOk
    facts := fun y sl hm => by
      rcases mem_put hm with ⟨rfl, rfl⟩ | ⟨hne, hm⟩
      · exact ⟨v, hb, Rep.mono (fun b n m zz => m n.drop) (fun b o n e => (hs.2 b fun q => n (q ▸ hU)).trans e) r⟩
      · obtain ⟨u, hbu, hr⟩ := h.facts y sl hm
        exact ⟨u, hbu.map (hy y u hne), slRep_touch hs ha h.nodup x hne hr⟩ }

theorem StO.storeImm (h : StO g F ρ O s) {A : Around} {M : Model} {x : Str} {v : Value} {d : V} (hx : CanStore F x) (r : Rep g s.heap (UU F O) d v) {Q : Unit → Shared → Prop}
    (k : ∀ s', StO g F (ρ.put x (.imm d)) (dropO O x) s' → Q () s') : wpAny M A (storeName F.env x v) Q (fun zz zz => False) s := h.storeImmR hx r fun s' zz => k s'

theorem UU.snoc {F : Fx} {O : List (Str × Addr)} {x : Str} {l a : Addr} (h : UU F (dropO O x ++ [(x, l)]) a) : UU F O a ∨ a = l := by
  rcases h with h | h | h | h
  · exact .inl (.inl h)
  · exact .inl (.inr (.inl h))
  · exact .inl (.inr (.inr (.inl h)))
  · obtain ⟨q, hq, rfl⟩ := List.mem_map.mp h
    rcases List.mem_append.mp hq with hq | hq
    · exact .inl (.inr (.inr (.inr (List.mem_map.mpr ⟨q, (mem_dropO hq).1, rfl⟩))))
    · rw [List.mem_singleton.mp hq]; exact .inr rfl

theorem slRep_more {F : Fx} {O : List (Str × Addr)} {h h' : Heap} {x y : Str} {l : Addr} {sl : Sl} {v : Value} (hl : h.get? l = none) (k : ∀ b o, h.get? b = some o → h'.get? b = some o ∨ UU F (O) b) (r : SlRep g h (UU F (O)) (O) x sl v) (kl : ∀ q ∈ O, ∀ o, h.get? q.2 = some o → h'.get? q.2 = some o) :
    SlRep g h' (UU F (O ++ [(y, l)])) (O ++ [(y, l)]) x sl v := by
  have hU : ∀ b, UU F (O ++ [(y, l)]) b → ¬ UU F (O) b → h.get? b ≠ none → False := fun b u n e => by
    rcases u with u | u | u | u
    · exact n (.inl u)
    · exact n (.inr (.inl u))
    · exact n (.inr (.inr (.inl u)))
    · obtain ⟨q, hq, rfl⟩ := List.mem_map.mp u
      rcases List.mem_append.mp hq with hq | hq
      · exact n (.inr (.inr (.inr (List.mem_map.mpr ⟨q, hq, rfl⟩))))
      · rw [List.mem_singleton.mp hq] at e; exact e hl
  have e1 : ∀ b o, ¬ UU F (O) b → h.get? b = some o → h'.get? b = some o := fun b o n e => (k b o e).resolve_right n
  exact r.mv hU e1 fun a hm => ⟨List.mem_append_left _ hm, kl _ hm⟩

theorem StO.s0None (h : StO g F ρ O s) {l : Addr} (hl : s.heap.get? l = none) : F.s₀.heap.get? l = none := by
  cases q : F.s₀.heap.get? l with
  | none => rfl
  | some o => obtain ⟨o', e⟩ := h.pur.live ⟨o, q⟩; rw [hl] at e; cases e

theorem StO.storeNew (h : StO g F ρ O s) {s₂ : Shared} (p : Pur g s s₂) {A : Around} {M : Model} {x : Str} {l : Addr} {sl : Sl} (hx : CanStore F x) (hl : s.heap.get? l = none) (hlive : ∃ o, s₂.heap.get? l = some o)
    (hsl : ∀ h', (∀ b o, ¬ UU F O b → s₂.heap.get? b = some o → h'.get? b = some o) → SlRep g h' (UU F (dropO O x ++ [(x, l)])) (dropO O x ++ [(x, l)]) x sl (.ref l)) {Q : Unit → Shared → Prop}
    (k : ∀ s', StO g F (ρ.put x sl) (dropO O x ++ [(x, l)]) s' → Q () s') : wpAny M A (storeName F.env x (.ref l)) Q (fun zz zz => False) s₂ := by
  have h2 := h.step p
  refine h2.store hx fun a h' t ha hs w p' hb hy hn hc => k _ ?_
  have hU : UU F O a := by rcases ha with ha | ha; exact .inr (.inl ha); exact .inr (.inr (.inl ha))
  have hl0 := h.s0None hl
  have hlU : ¬ UU F O l := h.fresh hl
  have hOa : ∀ b, b ∈ O.map (·.2) → b ≠ a := fun b hb q => by
    subst q
    have nd := h.nodup
    rw [List.nodup_cons, List.nodup_append] at nd
    rcases ha with ha | ha
    · exact nd.1 (ha ▸ List.mem_append_right _ hb)
    · exact nd.2.2.2 b ha b hb rfl
  have hla : l ≠ a := fun q => hlU (q ▸ hU)
  have keep : ∀ b o, ¬ UU F O b → s₂.heap.get? b = some o → h'.get? b = some o := fun b o n e => (hs.2 b fun q => n (q ▸ hU)).trans e
  exact {
    wd := w
    wd0 := h.wd0
    pur := p'
    liveU := h.liveU
    tabU := h.tabU
    kind := h.kind
    glob := h.glob
    bui := h.bui
    nodup := by
      have nd := nodup_drop h.nodup x
      rw [List.map_append, ← List.append_assoc, ← List.cons_append]
      refine List.nodup_append.mpr ⟨nd, by simp, fun b hb0 c hc' e => ?_⟩
      rw [List.map_cons, List.map_nil, List.mem_singleton] at hc'
      subst hc'; subst e
      refine hlU ?_
      rcases List.mem_cons.mp hb0 with e | hb
      · exact .inr (.inl e)
      · rcases List.mem_append.mp hb with hb | hb
        · exact .inr (.inr (.inl hb))
        · exact UU.drop (x := x) (.inr (.inr (.inr hb)))
    newL := h.newL
    newC := h.newC
    newO := fun q hq => by
      rcases List.mem_append.mp hq with hq | hq
      · exact h.newO q (mem_dropO hq).1
      · rw [List.mem_singleton.mp hq]; exact hl0
    liveO := fun q hq => by
      rcases List.mem_append.mp hq with hq | hq
      · obtain ⟨o, e⟩ := h2.liveO q (mem_dropO hq).1
        exact ⟨o, (hs.2 _ (hOa _ (List.mem_map.mpr ⟨q, (mem_dropO hq).1, rfl⟩))).trans e⟩
      · rw [List.mem_singleton.mp hq]
        obtain ⟨o, e⟩ := hlive
        exact ⟨o, (hs.2 _ hla).trans e⟩
    ns := hn
    own := fun q hq => ⟨(h.own q hq).1, (h.own q hq).2.1, hc q hq⟩
    cellsOk := h.cellsOk
    facts := fun y sl' hm => by
      rcases mem_put hm with ⟨rfl, rfl⟩ | ⟨hne, hm⟩
      · exact ⟨_, Bd.of hb, hsl h' keep⟩
      · obtain ⟨u, hbu, hr⟩ := h.facts y sl' hm
        refine ⟨u, hbu.map fun q => hy y u hne (p.bound h.wd q), ?_⟩
        have hr0 : SlRep g s.heap (UU F (dropO O x)) (dropO O x) y sl' u := slRep_touch (Heap.SameBut.refl a s.heap) ha h.nodup x hne hr
        refine slRep_more (O := dropO O x) (h := s.heap) (h' := h') hl (fun b o e => ?_) hr0 (fun q hq o e => ?_)
        · by_cases hb' : b = a
          · subst hb'
            refine .inr ?_
            rcases ha with ha | ha
            · exact .inr (.inl ha)
            · exact .inr (.inr (.inl ha))
          · by_cases ht : ∃ q ∈ g.tabs, q.2.1 = b
            · obtain ⟨q, hq, rfl⟩ := ht
              exact .inr (.inl (h.tabU q hq))
            · exact .inl ((hs.2 b hb').trans (p.keep b o (fun q hq e' => ht ⟨q, hq, e'⟩) e))
        · have hq' := (mem_dropO hq).1
          refine (hs.2 _ (hOa _ (List.mem_map.mpr ⟨q, hq', rfl⟩))).trans (p.keep _ o (fun t ht e' => ?_) e)
          exact absurd e' (h.tabNe (h.newO q hq') t ht) }

theorem StO.storeList (h : StO g F ρ O s) {s₂ : Shared} (p : Pur g s s₂) {A : Around} {M : Model} {x : Str} {l : Addr} {vs : List Value} {xs : List V} (hx : CanStore F x) (hl : s.heap.get? l = none) (hL : s₂.heap.PlainList l vs.toArray)
    (hr : Reps g s₂.heap (fun b => UU F O b ∨ b = l) xs vs) {Q : Unit → Shared → Prop}
    (k : ∀ s', StO g F (ρ.put x (.own xs)) (dropO O x ++ [(x, l)]) s' → Q () s') : wpAny M A (storeName F.env x (.ref l)) Q (fun zz zz => False) s₂ :=
  h.storeNew (sl := .own xs) p hx hl (let ⟨_, e⟩ := hL; ⟨_, e⟩) (fun h' keep => ⟨l, vs, rfl, List.mem_append_right _ (.head _), Heap.PlainList.at hL fun o e => keep l o (h.fresh hl) e,
    Reps.mono (fun zz u n zz => n u.snoc) (fun b o n e => keep b o (fun u => n (.inl u)) e) hr⟩) k

theorem StO.storeDict (h : StO g F ρ O s) {s₂ : Shared} (p : Pur g s s₂) {A : Around} {M : Model} {x : Str} {l : Addr} {kvs : List (Str × Value)} {es : List (Str × V)} (hx : CanStore F x) (hl : s.heap.get? l = none) (hm : (l == sysModules) = false)
    (hL : s₂.heap.DictOf g.knd l kvs) (hr : RepD g s₂.heap (fun b => UU F O b ∨ b = l) es kvs) {Q : Unit → Shared → Prop}
    (k : ∀ s', StO g F (ρ.put x (.ownD es)) (dropO O x ++ [(x, l)]) s' → Q () s') : wpAny M A (storeName F.env x (.ref l)) Q (fun zz zz => False) s₂ :=
  h.storeNew (sl := .ownD es) p hx hl (let ⟨o, _, _, e, _⟩ := hL; ⟨o, e⟩) (fun h' keep => ⟨l, kvs, rfl, List.mem_append_right _ (.head _), hm, DictOf.at hL fun o e => keep l o (h.fresh hl) e,
    RepD.mono (fun zz u n zz => n u.snoc) (fun b o n e => keep b o (fun u => n (.inl u)) e) hr⟩) k

theorem StO.setOwn (h : StO g F ρ O s) {x : Str} {l : Addr} {sl : Sl} (hm : (x, l) ∈ O) (hb : Bd F.env s.heap x sl (.ref l)) {h' : Heap} {t : Nat} (hs : Heap.ExtBut l s.heap h') (hd : ∀ o, s.heap.get? l = some o → NoCode o) (hlive : ∃ o, h'.get? l = some o)
    (hsl : (∀ b o, ¬ UU F O b → s.heap.get? b = some o → h'.get? b = some o) → SlRep g h' (UU F O) O x sl (.ref l)) : StO g F (ρ.put x sl) O { s with heap := h', toks := t } := by
  have hlO : l ∈ O.map (·.2) := List.mem_map.mpr ⟨_, hm, rfl⟩
  have hU : UU F O l := .inr (.inr (.inr hlO))
  have nd := h.nodup
  rw [List.nodup_cons, List.nodup_append] at nd
  have hlL : l ≠ F.env.locals := fun q => nd.1 (q ▸ List.mem_append_right _ hlO)
  have hT := h.touch (t := t) (h.newO _ hm) hs hd
  have keep : ∀ b o, ¬ UU F O b → s.heap.get? b = some o → h'.get? b = some o := fun b o n e => hs b o (fun q => n (q ▸ hU)) e
  have hns : ∀ m, s.heap.Ns F.env.locals m → h'.Ns F.env.locals m := fun m n => n.extBut hs (Ne.symm hlL)
  have hcell : ∀ y c v, F.env.cells.lookup y = some c → s.heap.IsCell c v → h'.IsCell c v := fun y c v hc x => let ⟨o, ho, r⟩ := x; ⟨o, hs _ _ (fun q => by
    subst q
    rcases h.cellsOk _ _ hc with hm' | hu
    · exact nd.2.2.2 c (List.mem_map.mpr ⟨_, hm', rfl⟩) c hlO rfl
    · obtain ⟨o', ho'⟩ := h.liveU _ hu
      rw [h.newO _ hm] at ho'; cases ho') ho, r⟩
  have hbd : ∀ y u, Bound F.env s.heap y u → Bound F.env h' y u := fun y u b => by
    rcases b with ⟨hk, m, hn, hm⟩ | ⟨hk, hz, c, hc, hv⟩
    · exact .inl ⟨hk, m, hns _ hn, hm⟩
    · exact .inr ⟨hk, hz, c, hc, hcell _ _ _ hc hv⟩
  exact {
    wd := hT.1
    wd0 := h.wd0
    pur := hT.2
    liveU := h.liveU
    tabU := h.tabU
    kind := h.kind
    glob := h.glob
    bui := h.bui
    nodup := h.nodup
    newL := h.newL
    newC := h.newC
    newO := h.newO
    liveO := fun q hq => by
      by_cases e : q.2 = l
      · rw [e]; exact hlive
      · obtain ⟨o, ho⟩ := h.liveO q hq; exact ⟨o, hs _ _ e ho⟩
    ns := let ⟨m, n⟩ := h.ns; ⟨m, hns _ n⟩
    own := fun q hq => let ⟨a, b, v, e⟩ := h.own q hq; ⟨a, b, v, hcell _ _ _ b e⟩
    cellsOk := h.cellsOk
    facts := fun y sl' hmem => by
      rcases mem_put hmem with ⟨rfl, rfl⟩ | ⟨hne, hmem⟩
      · exact ⟨_, hb.map (hbd _ _), hsl keep⟩
      · obtain ⟨u, hbu, hr⟩ := h.facts y sl' hmem
        refine ⟨u, hbu.map (hbd _ _), ?_⟩
        have other : ∀ a, (y, a) ∈ O → a ≠ l := fun a ha q => hne (pairs_inj nd.2.2.1 (q ▸ ha) hm)
        exact hr.mv (fun zz u n zz => n u) keep fun a ha => ⟨ha, fun o e => hs _ _ (other a ha) e⟩ }

theorem StO.addFix (h : StO g F ρ O s) {x : Str} {d : V} {a : Addr} {o : Obj} (n : ¬ UU F O a) (e : s.heap.get? a = some o) (r : Rep g s.heap (UU F O) d (.ref a)) : StO g F ((x, .fix d a o) :: ρ) O s := by
  refine { h with facts := fun y sl hm => ?_ }
  rcases List.mem_cons.mp hm with e' | hm
  · cases e'; exact ⟨_, trivial, rfl, n, e, r⟩
  · exact h.facts y sl hm
theorem StO.addObj (h : StO g F ρ O s) {s₂ : Shared} (p : Pur g s s₂) {x : Str} {l : Addr} {o : Obj} (hl : s.heap.get? l = none) (ho : s₂.heap.get? l = some o) : StO g F ((x, .obj l o) :: ρ) (O ++ [(x, l)]) s₂ := by
  have h2 := h.step p
  have hl0 := h.s0None hl
  have hlU : ¬ UU F O l := h.fresh hl
  exact {
    wd := h2.wd
    wd0 := h.wd0
    pur := h2.pur
    liveU := h.liveU
    tabU := h.tabU
    kind := h.kind
    glob := h.glob
    bui := h.bui
    nodup := by
      have nd := h.nodup
      rw [List.map_append, ← List.append_assoc, ← List.cons_append]
      refine List.nodup_append.mpr ⟨nd, by simp, fun b hb0 c hc' e => ?_⟩
      rw [List.map_cons, List.map_nil, List.mem_singleton] at hc'
      subst hc'; subst e
      refine hlU ?_
      rcases List.mem_cons.mp hb0 with e | hb
      · exact .inr (.inl e)
      · rcases List.mem_append.mp hb with hb | hb
        · exact .inr (.inr (.inl hb))
        · exact .inr (.inr (.inr hb))
    newL := h.newL
    newC := h.newC
    newO := fun q hq => by
      rcases List.mem_append.mp hq with hq | hq
      · exact h.newO q hq
      · rw [List.mem_singleton.mp hq]; exact hl0
    liveO := fun q hq => by
      rcases List.mem_append.mp hq with hq | hq
      · exact h2.liveO q hq
      · rw [List.mem_singleton.mp hq]; exact ⟨o, ho⟩
    ns := h2.ns
    own := h2.own
    cellsOk := h.cellsOk
    facts := fun y sl' hm => by
      rcases List.mem_cons.mp hm with e | hm
      · cases e; exact ⟨_, trivial, rfl, List.mem_append_right _ (.head _), ho⟩
      · obtain ⟨u, hbu, hr⟩ := h.facts y sl' hm
        refine ⟨u, hbu.map (p.bound h.wd), ?_⟩
        have e2 := slRep_more (F := F) (O := O) (h := s.heap) (h' := s₂.heap) (x := y) (y := x) (l := l) (sl := sl') (v := u) hl (fun b o e => ?_) hr (fun q hq o e => ?_)
        · exact e2
        · by_cases ht : ∃ q ∈ g.tabs, q.2.1 = b
          · obtain ⟨q, hq, rfl⟩ := ht
            exact .inr (.inl (h.tabU q hq))
          · exact .inl (p.keep b o (fun q hq e' => ht ⟨q, hq, e'⟩) e)
        · exact p.keep _ o (fun t ht e' => absurd e' (h.tabNe (h.newO q hq) t ht)) e }
theorem StO.setObj (h : StO g F ρ O s) {x : Str} {l : Addr} {o o' : Obj} (hm : (x, Sl.obj l o) ∈ ρ) {h' : Heap} {t : Nat} (hs : Heap.ExtBut l s.heap h') (hd : NoCode o) (ho' : h'.get? l = some o') : StO g F (ρ.put x (.obj l o')) O { s with heap := h', toks := t } := by
  refine ngI fun hNg => ?_
  obtain ⟨v, _, rfl, hO, ho⟩ := h.facts _ _ hm
  refine ngE hNg ?_
  exact h.setOwn hO (sl := .obj l o') trivial hs (fun o₂ e => by rw [ho] at e; cases e; exact hd) ⟨_, ho'⟩ fun zz => ⟨rfl, hO, ho'⟩

noncomputable def Sl.still : Sl → Sl
  | .imm d => .imm d
  | .own xs => .imm (.lst xs)
  | .ownD es => .imm (.dct es)
  | .hid d v => .hid d v
  | .obj _ _ => .hid .none .none
  | .acc _ _ => .hid .none .none
  | .fix d a o => .fix d a o
theorem StO.freeze (h : StO g F ρ O s) {x : Str} {sl : Sl} (hm : (x, sl) ∈ ρ) : StO g F (ρ.put x sl.still) (dropO O x) s := by
  have hr : ∀ y sl' v, y ≠ x → SlRep g s.heap (UU F O) O y sl' v → SlRep g s.heap (UU F (dropO O x)) (dropO O x) y sl' v := fun y sl' v hne r =>
    slRep_touch (Heap.SameBut.refl F.env.locals s.heap) (.inl rfl) h.nodup x hne r
  refine { h with nodup := nodup_drop h.nodup x, newO := fun q hq => h.newO q (mem_dropO hq).1, liveO := fun q hq => h.liveO q (mem_dropO hq).1, facts := fun y sl' hmem => ?_ }
  rcases mem_put hmem with ⟨rfl, rfl⟩ | ⟨hne, hmem⟩
  · obtain ⟨v, hb, hr'⟩ := h.facts _ _ hm
    have nU : ∀ l, (y, l) ∈ O → ¬ UU F (dropO O y) l := fun l hl u => by
      have nd := h.nodup
      rw [List.nodup_cons, List.nodup_append] at nd
      have hlO : l ∈ O.map (·.2) := List.mem_map.mpr ⟨_, hl, rfl⟩
      rcases u with u | u | u | u
      · obtain ⟨o', ho'⟩ := h.liveU _ u
        rw [h.newO _ hl] at ho'; cases ho'
      · exact nd.1 (u ▸ List.mem_append_right _ hlO)
      · exact nd.2.2.2 l u l hlO rfl
      · obtain ⟨q, hq, e⟩ := List.mem_map.mp u
        have hq' := mem_dropO hq
        refine hq'.2 (pairs_inj nd.2.2.1 (x := q.1) (y := y) (c := l) ?_ hl)
        rw [← e]; exact hq'.1
    cases sl with
    | imm d => exact ⟨v, hb, Rep.mono (fun zz u n zz => n u.drop) (fun zz zz zz e => e) hr'⟩
    | own xs =>
      refine ngI fun hNg => ?_
      obtain ⟨l, vs, rfl, hl, hL, hR⟩ := hr'
      refine ngE hNg ?_
      exact ⟨_, hb, Rep.lst (nU l hl) hL.isList (Reps.mono (fun zz u n zz => n u.drop) (fun zz zz zz e => e) hR)⟩
    | ownD es =>
      refine ngI fun hNg => ?_
      obtain ⟨l, vs, rfl, hl, hy, hL, hR⟩ := hr'
      refine ngE hNg ?_
      exact ⟨_, hb, Rep.dct (nU l hl) hy hL (RepD.mono (fun zz u n zz => n u.drop) (fun zz zz zz e => e) hR)⟩
    | hid d u => exact ⟨v, trivial, hr'.1, Rep.mono (fun zz u n zz => n u.drop) (fun zz zz zz e => e) hr'.2⟩
    | obj => exact ⟨_, trivial, rfl, .none⟩
    | acc => exact ⟨_, trivial, rfl, .none⟩
    | fix d a o => exact ⟨v, trivial, hr'.1, fun q => hr'.2.1 q.drop, hr'.2.2.1, Rep.mono (fun zz u n zz => n u.drop) (fun zz zz zz e => e) hr'.2.2.2⟩
  · obtain ⟨u, hbu, hr'⟩ := h.facts y sl' hmem
    exact ⟨u, hbu, hr _ _ _ hne hr'⟩
end
end
section
noncomputable abbrev noE : Value → Shared → Prop := fun zz zz => False

structure Ev (g : G) (A : Around) (F : Fx) (ρ : Rho) (e : Expr) (d : V) : Prop where
  run : ∀ O s, StO g F ρ O s → wpAny g.M A (eval e F.env) (fun v s' => Pur g s s' ∧ Rep g s'.heap (UU F O) d v) noE s
structure EvV (g : G) (A : Around) (F : Fx) (ρ : Rho) (e : Expr) (v₀ : Value) : Prop where
  run : ∀ O s, StO g F ρ O s → wpAny g.M A (eval e F.env) (fun v s' => Pur g s s' ∧ v = v₀) noE s
noncomputable def Fresh (g : G) (U : Addr → Prop) (s : Shared) (xs : List V) (v : Value) (s' : Shared) : Prop :=
  ∃ a vs, v = .ref a ∧ s.heap.get? a = none ∧ s'.heap.PlainList a vs.toArray ∧ Reps g s'.heap (fun b => U b ∨ b = a) xs vs
structure EvF (g : G) (A : Around) (F : Fx) (ρ : Rho) (e : Expr) (xs : List V) : Prop where
  run : ∀ O s, StO g F ρ O s → wpAny g.M A (eval e F.env) (fun v s' => Pur g s s' ∧ Fresh g (UU F O) s xs v s') noE s
structure Tr (g : G) (A : Around) (F : Fx) (ρ : Rho) (e : Expr) (b : Bool) : Prop where
  run : ∀ O s, StO g F ρ O s → wpAny g.M A (isTrue e F.env (eval e F.env)) (fun r s' => Pur g s s' ∧ r = b) noE s
structure Evs (g : G) (A : Around) (F : Fx) (ρ : Rho) (pos : Pos) (es : List Expr) (ds : List V) : Prop where
  run : ∀ O s, StO g F ρ O s → wpAny g.M A (spliced (backTo pos (starEach es F.env))) (fun vs s' => Pur g s s' ∧ Reps g s'.heap (UU F O) ds vs) noE s
structure Op (g : G) (A : Around) (F : Fx) (ρ : Rho) (op : Operator) (d₁ d₂ d : V) : Prop where
  run : ∀ O s v₁ v₂, StO g F ρ O s → Rep g s.heap (UU F O) d₁ v₁ → Rep g s.heap (UU F O) d₂ v₂ → wpAny g.M A (binaryOp op v₁ v₂) (fun v s' => Pur g s s' ∧ Rep g s'.heap (UU F O) d v) noE s
structure Cmp (g : G) (A : Around) (F : Fx) (ρ : Rho) (op : CmpOp) (d₁ d₂ : V) (b : Bool) : Prop where
  run : ∀ O s v₁ v₂ (Q : Value → Shared → Prop), StO g F ρ O s → Rep g s.heap (UU F O) d₁ v₁ → Rep g s.heap (UU F O) d₂ v₂ → (∀ s', Pur g s s' → Q (.bool b) s') → wpAny g.M A (compareOp op v₁ v₂) Q noE s
structure Tru (g : G) (A : Around) (F : Fx) (ρ : Rho) (d : V) (b : Bool) : Prop where
  run : ∀ O s v (Q : Bool → Shared → Prop), StO g F ρ O s → Rep g s.heap (UU F O) d v → (∀ s', Pur g s s' → Q b s') → wpAny g.M A (truthy v) Q noE s

section
variable {A : Around} {F : Fx} {ρ : Rho} {O : List (Str × Addr)} {s : Shared}

theorem runQ {α : Type} {M : Model} {m : Sem α} {P : α → Shared → Prop} {Q : α → Shared → Prop} (h : wpAny M A m (fun v s₁ => Pur g s s₁ ∧ P v s₁) noE s) (k : ∀ v s₁, Pur g s s₁ → P v s₁ → Q v s₁) : wpAny M A m Q noE s :=
  wpAny_mono h (fun v s₁ h₁ => k v s₁ h₁.1 h₁.2) fun zz zz x => x

theorem Fresh.rep {U : Addr → Prop} {s' : Shared} {xs : List V} {v : Value} (hf : ∀ a, s.heap.get? a = none → ¬ U a) (h : Fresh g U s xs v s') : Rep g s'.heap U (.lst xs) v := by
  obtain ⟨a, vs, rfl, hn, hl, hr⟩ := h
  exact .lst (hf a hn) hl.isList (Reps.mono (fun zz u n zz => n (.inl u)) (fun zz zz zz e => e) hr)
theorem EvF.ev {e xs} (h : EvF g A F ρ e xs) : Ev g A F ρ e (.lst xs) := ⟨fun O s st =>
  wpAny_mono (h.run O s st) (fun zz zz q => ⟨q.1, q.2.rep fun zz e => st.fresh e⟩) fun zz zz x => x⟩
theorem Ev.sub {ρ' : Rho} {e d} (h : Ev g A F ρ e d) (k : ∀ p ∈ ρ, p ∈ ρ') : Ev g A F ρ' e d := ⟨fun O s st => h.run O s (st.sub k)⟩

theorem Ev.int {i k pos} : Ev g A F ρ (.Constant (.int i) k pos) (.int i) := ⟨fun zz zz st =>
  wpAny_Constant_int ⟨Pur.toks st.wd _, .int i _⟩⟩
theorem Ev.str {x k pos} : Ev g A F ρ (.Constant (.str x) k pos) (.str x) := ⟨fun zz zz st => by
  rw [arm_eval_Constant]
  exact wpAny_bind (wpAny_fresh (wpAny_pure ⟨Pur.toks st.wd _, .str x _⟩))⟩
theorem Ev.bool {b k pos} : Ev g A F ρ (.Constant (.bool b) k pos) (.bool b) := ⟨fun zz zz st => by
  rw [arm_eval_Constant]
  exact wpAny_pure ⟨Pur.refl st.wd, .bool b⟩⟩
theorem Ev.none {k pos} : Ev g A F ρ (.Constant .none k pos) .none := ⟨fun zz zz st => by
  rw [arm_eval_Constant]
  exact wpAny_pure ⟨Pur.refl st.wd, .none⟩⟩

theorem load_bound {M : Model} {x : Str} {pos : Pos} {v : Value} {Q : Value → Shared → Prop} {E : Value → Shared → Prop} {env : Env} (hk : env.scope.kind = .function) (b : Bound env s.heap x v) (h : Q v s) (hd : (x == ("__debug__" : Str)) = false := by decide) :
    wpAny M A (eval (.Name x pos) env) Q E s := by
  rcases b with ⟨hl, m, hn, hm⟩ | ⟨hl, hz, c, hc, hv⟩
  · exact wpAny_Name (wpAny_loadName_local hk hl hn hm h) hd
  · rcases hl with hl | hl
    · exact wpAny_Name (wpAny_loadName_cell hk hl hc hv h) hd
    · exact wpAny_Name (wpAny_loadName_free hk hl hc hv h hz) hd
theorem Ev.name {x pos d} (hm : (x, Sl.imm d) ∈ ρ) (hd : (x == ("__debug__" : Str)) = false := by decide) : Ev g A F ρ (.Name x pos) d := ⟨fun zz zz st => by
  obtain ⟨v, hb, hr⟩ := st.facts _ _ hm
  exact load_bound st.kind hb ⟨Pur.refl st.wd, hr⟩ hd⟩

structure Glb (g : G) : Prop where
  ng : g.B.Ns mainGlobals g.mg
  nb : g.B.Ns builtinsNs g.mb
  bui : ∀ x : Str, x ≠ "__name__" → g.mb x = bootBuiltins x
  nolimit : g.B.NoLimit

theorem EvV.glob (H : Glb g) {x pos v} (hx : F.env.kindOf x = some .globalImplicit) (hv : g.mg x = some v) (hd : (x == ("__debug__" : Str)) = false := by decide) : EvV g A F ρ (.Name x pos) v := ⟨fun zz zz st => by
  refine Name_function_global st.kind hx (loadGlobal_global (mg := g.mg) ?_ hv ⟨Pur.refl st.wd, rfl⟩) hd
  rw [st.glob]; exact H.ng.keeps st.wd.keep⟩
theorem EvV.bui (H : Glb g) {x pos v} (hx : F.env.kindOf x = some .globalImplicit) (hm : g.mg x = none) (hv : bootBuiltins x = some v) (hn : x ≠ "__name__") (hd : (x == ("__debug__" : Str)) = false := by decide) : EvV g A F ρ (.Name x pos) v := ⟨fun zz zz st => by
  refine Name_function_global st.kind hx (loadGlobal_builtin (mg := g.mg) (mb := g.mb) ?_ hm ?_ ((H.bui x hn).trans hv) ⟨Pur.refl st.wd, rfl⟩) hd
  · rw [st.glob]; exact H.ng.keeps st.wd.keep
  · rw [st.bui]; exact H.nb.keeps st.wd.keep⟩

theorem Evs.nil {pos} : Evs g A F ρ pos [] [] := ⟨fun zz zz st => spliced_nil ⟨Pur.refl st.wd, .nil⟩⟩
theorem Evs.cons {pos e es d ds} (h : Ev g A F ρ e d) (hs : Evs g A F ρ pos es ds) (he : starEach (e :: es) F.env = (false, eval e F.env) :: starEach es F.env := by rfl) :
    Evs g A F ρ pos (e :: es) (d :: ds) := ⟨fun O s st => by
  refine spliced_more (runQ (h.run O s st) fun v s₁ p₁ r₁ => ?_) he
  have st₁ := st.step p₁
  exact runQ (hs.run O s₁ st₁) fun vs s₂ p₂ r₂ => ⟨p₁.trans p₂, .cons (st₁.rep p₂ r₁) r₂⟩⟩

theorem Ev.bin {l r : Expr} {op pos d₁ d₂ d} (h₁ : Ev g A F ρ l d₁) (h₂ : Ev g A F ρ r d₂) (k : Op g A F ρ op d₁ d₂ d) : Ev g A F ρ (.BinOp l op r pos) d := ⟨fun O s st =>
  wpAny_BinOp (runQ (h₁.run O s st) fun v₁ s₁ p₁ r₁ => runQ (h₂.run O s₁ (st.step p₁)) fun v₂ s₂ p₂ r₂ =>
    runQ (k.run O s₂ v₁ v₂ ((st.step p₁).step p₂) ((st.step p₁).rep p₂ r₁) r₂) fun zz zz p₃ r₃ => ⟨(p₁.trans p₂).trans p₃, r₃⟩)⟩
theorem Op.add {a b} : Op g A F ρ .Add (.int a) (.int b) (.int (a + b)) := ⟨fun zz zz zz zz st r₁ r₂ => by
  cases r₁ using cI; cases r₂ using cI; with_reducible refine wpAny_add_int ?_
  exact ⟨Pur.toks st.wd _, .int _ _⟩⟩
theorem Op.sub {a b} : Op g A F ρ .Sub (.int a) (.int b) (.int (a - b)) := ⟨fun zz zz zz zz st r₁ r₂ => by
  cases r₁ using cI; cases r₂ using cI; with_reducible refine PySem.P.sub_int ?_
  exact ⟨Pur.toks st.wd _, .int _ _⟩⟩
theorem Op.mul {a b} (hm : IntMulOk a b) : Op g A F ρ .Mult (.int a) (.int b) (.int (a * b)) := ⟨fun zz zz zz zz st r₁ r₂ => by
  cases r₁ using cI; cases r₂ using cI; with_reducible refine PySem.P.mul_int ?_ hm
  exact ⟨Pur.toks st.wd _, .int _ _⟩⟩
theorem Op.mod {a b} (hb : b ≠ 0) : Op g A F ρ .Mod (.int a) (.int b) (.int (a.fmod b)) := ⟨fun zz zz zz zz st r₁ r₂ => by
  cases r₁ using cI; cases r₂ using cI; with_reducible refine PyProof.Rows.mod_int hb ?_
  exact ⟨Pur.toks st.wd _, .int _ _⟩⟩
theorem Op.fdiv {a b} (hA : A.handled = none) (hb : b ≠ 0) (hs : b.natAbs < 1073741824) : Op g A F ρ .FloorDiv (.int a) (.int b) (.int (a.fdiv b)) := ⟨fun zz zz zz zz st r₁ r₂ => by
  cases r₁ using cI; cases r₂ using cI; with_reducible refine PyProof.Rows.floordiv_int_or hA (fun e => absurd e hb) (fun zz => ?_) (fun zz => .inl (PyProof.noPylong_small hs))
  exact ⟨Pur.toks st.wd _, .int _ _⟩⟩
theorem Op.pow {a n} (hn : 0 ≤ n) (hs : (Builtin.Int.intBits a : Int) * n ≤ 2 ^ 27) : Op g A F ρ .Pow (.int a) (.int n) (.int (a ^ n.toNat)) := ⟨fun zz zz zz zz st r₁ r₂ => by
  cases r₁ using cI; cases r₂ using cI; with_reducible refine PyProof.Rows.pow_int hn hs ?_
  exact ⟨Pur.toks st.wd _, .int _ _⟩⟩
theorem Op.cat {x y : Str} (hz : x.length + y.length ≤ sizeLine) : Op g A F ρ .Add (.str x) (.str y) (.str (x ++ y)) := ⟨fun zz zz zz zz st r₁ r₂ => by
  cases r₁ using cS; cases r₂ using cS; with_reducible refine PyProof.Rows.add_str (fun zz zz => ?_) hz
  exact ⟨Pur.toks st.wd _, .str _ _⟩⟩
theorem Ev.neg {x pos a} (h : Ev g A F ρ x (.int a)) : Ev g A F ρ (.UnaryOp .USub x pos) (.int (-a)) := ⟨fun O s st => by
  rw [arm_eval_UnaryOp]
  refine wpAny_bind (runQ (h.run O s st) fun v₁ s₁ p₁ r₁ => ?_)
  cases r₁ using cI
  with_reducible refine wpAny_bind (wpAny_standAt (wpAny_holding (PySem.P.neg_int ?_)))
  exact ⟨p₁.trans (Pur.toks p₁.wd _), .int _ _⟩⟩

theorem Ev.cmp {l r : Expr} {op pos d₁ d₂ b} (h₁ : Ev g A F ρ l d₁) (h₂ : Ev g A F ρ r d₂) (k : Cmp g A F ρ op d₁ d₂ b) (hm : behindInMarks op r = false := by rfl) :
    Ev g A F ρ (.Compare l [op] [r] pos) (.bool b) := ⟨fun O s st =>
  wpAny_Compare1 (runQ (h₁.run O s st) fun v₁ s₁ p₁ r₁ => runQ (h₂.run O s₁ (st.step p₁)) fun v₂ s₂ p₂ r₂ =>
    k.run O s₂ v₁ v₂ _ ((st.step p₁).step p₂) ((st.step p₁).rep p₂ r₁) r₂ fun zz p => ⟨(p₁.trans p₂).trans p, Rep.bool b⟩) hm⟩
theorem Tr.cmp {l r : Expr} {op pos d₁ d₂ b} (h₁ : Ev g A F ρ l d₁) (h₂ : Ev g A F ρ r d₂) (k : Cmp g A F ρ op d₁ d₂ b) (hm : behindInMarks op r = false := by rfl) :
    Tr g A F ρ (.Compare l [op] [r] pos) b := ⟨fun O s st =>
  wpAny_isTrue_Compare1 (runQ (h₁.run O s st) fun v₁ s₁ p₁ r₁ => runQ (h₂.run O s₁ (st.step p₁)) fun v₂ s₂ p₂ r₂ =>
    k.run O s₂ v₁ v₂ _ ((st.step p₁).step p₂) ((st.step p₁).rep p₂ r₁) r₂ fun zz p => wpAny_truthy_bool ⟨(p₁.trans p₂).trans p, rfl⟩) hm⟩
theorem Cmp.lt {a b} : Cmp g A F ρ .Lt (.int a) (.int b) (decide (a < b)) := ⟨fun zz zz zz zz zz st r₁ r₂ q => by
  cases r₁ using cI; cases r₂ using cI; with_reducible refine PySem.P.lt_int ?_
  exact q _ (Pur.refl st.wd)⟩
theorem Cmp.le {a b} : Cmp g A F ρ .LtE (.int a) (.int b) (decide (a ≤ b)) := ⟨fun zz zz zz zz zz st r₁ r₂ q => by
  cases r₁ using cI; cases r₂ using cI; with_reducible refine PySem.P.le_int ?_
  exact q _ (Pur.refl st.wd)⟩
theorem Cmp.gt {a b} : Cmp g A F ρ .Gt (.int a) (.int b) (decide (a > b)) := ⟨fun zz zz zz zz zz st r₁ r₂ q => by
  cases r₁ using cI; cases r₂ using cI; with_reducible refine PySem.P.gt_int ?_
  exact q _ (Pur.refl st.wd)⟩
theorem Cmp.eq {a b} : Cmp g A F ρ .Eq (.int a) (.int b) (a == b) := ⟨fun zz zz zz zz zz st r₁ r₂ q => by
  cases r₁ using cI; cases r₂ using cI; with_reducible refine PySem.P.eq_int ?_
  exact q _ (Pur.refl st.wd)⟩
theorem Cmp.ne {a b} : Cmp g A F ρ .NotEq (.int a) (.int b) (a != b) := ⟨fun zz zz zz zz zz st r₁ r₂ q => by
  cases r₁ using cI; cases r₂ using cI; with_reducible refine PySem.P.ne_int ?_
  exact q _ (Pur.refl st.wd)⟩
theorem Cmp.eqS {x y} : Cmp g A F ρ .Eq (.str x) (.str y) (x == y) := ⟨fun zz zz zz zz zz st r₁ r₂ q => by
  cases r₁ using cS; cases r₂ using cS; with_reducible refine PyProof.Rows.eq_str ?_
  exact q _ (Pur.refl st.wd)⟩
theorem Cmp.neS {x y} : Cmp g A F ρ .NotEq (.str x) (.str y) (x != y) := ⟨fun zz zz zz zz zz st r₁ r₂ q => by
  cases r₁ using cS; cases r₂ using cS; with_reducible refine PyProof.Rows.ne_str ?_
  exact q _ (Pur.refl st.wd)⟩
theorem Cmp.ltS {x y : Str} : Cmp g A F ρ .Lt (.str x) (.str y) (decide (x.cps.toList < y.cps.toList)) := ⟨fun zz zz zz zz zz st r₁ r₂ q => by
  cases r₁ using cS; cases r₂ using cS; with_reducible refine PyProof.Rows.lt_str ?_
  exact q _ (Pur.refl st.wd)⟩
theorem Cmp.gtS {x y : Str} : Cmp g A F ρ .Gt (.str x) (.str y) (decide (y.cps.toList < x.cps.toList)) := ⟨fun zz zz zz zz zz st r₁ r₂ q => by
  cases r₁ using cS; cases r₂ using cS; with_reducible refine PySem.P.gt_str ?_
  exact q _ (Pur.refl st.wd)⟩
theorem Cmp.isNone  : Cmp g A F ρ .Is .none .none true := ⟨fun zz zz zz zz zz st r₁ r₂ q => by
  cases r₁ using cN; cases r₂ using cN; with_reducible refine wpAny_is_self rfl ?_
  exact q _ (Pur.refl st.wd)⟩
theorem Cmp.isNot {a b} : Cmp g A F ρ .IsNot (.bool a) (.bool b) (a != b) := ⟨fun zz zz zz zz zz st r₁ r₂ q => by
  cases r₁ using cB; cases r₂ using cB; with_reducible refine wpAny_isNot_plain rfl ?_
  have : (!(Value.bool a == Value.bool b)) = (a != b) := by cases a <;> cases b <;> rfl
  rw [this]; exact q _ (Pur.refl st.wd)⟩

theorem Tru.bool {b} : Tru g A F ρ (.bool b) b := ⟨fun zz zz zz zz st r q => by
  cases r using cB; with_reducible refine wpAny_truthy_bool ?_
  exact q _ (Pur.refl st.wd)⟩
theorem Tru.str {x : Str} (hz : x.length ≤ sizeLine) : Tru g A F ρ (.str x) ((x.length : Int) != 0) := ⟨fun zz zz zz zz st r q => by
  cases r using cS; with_reducible refine PySem.P.truthy_str (by have : sizeLine = 16777216 := rfl; lia) ?_
  exact q _ (Pur.toks st.wd _)⟩
theorem Tr.val {e : Expr} {d} {b : Bool} (h : Ev g A F ρ e d) (k : Tru g A F ρ d b) (he : isTrue e F.env (eval e F.env) = (do let v ← eval e F.env; standAt e.pos; holding [v] (truthy v)) := by rfl) : Tr g A F ρ e b := ⟨fun O s st =>
  wpAny_isTrue_value (runQ (h.run O s st) fun v s₁ p₁ r₁ => k.run O s₁ v _ (st.step p₁) r₁ fun zz p => ⟨p₁.trans p, rfl⟩) he⟩
theorem Tr.not {x : Expr} {pos b} (h : Tr g A F ρ x b) : Tr g A F ρ (.UnaryOp .Not x pos) (!b) := ⟨fun O s st =>
  wpAny_isTrue_Not (wpAny_mono (h.run O s st) (fun zz zz q => ⟨q.1, by rw [q.2]⟩) fun zz zz x => x)⟩
theorem Tr.or {x y : Expr} {pos a b} (h₁ : Tr g A F ρ x a) (h₂ : a = false → Tr g A F ρ y b) : Tr g A F ρ (.BoolOp .Or [x, y] pos) (a || b) := ⟨fun O s st => by
  refine isTrue_or (wpAny_mono (h₁.run O s st) (fun c s₁ q => ?_) fun zz zz x => x)
  obtain ⟨p, rfl⟩ := q
  cases c with
  | true => exact ⟨p, rfl⟩
  | false =>
    refine isTrue_or (wpAny_mono ((h₂ rfl).run O s₁ (st.step p)) (fun c s₂ q => ?_) fun zz zz x => x)
    obtain ⟨p₂, rfl⟩ := q
    cases c with
    | true => exact ⟨p.trans p₂, rfl⟩
    | false => exact isTrue_or_nil ⟨p.trans p₂, rfl⟩⟩
theorem Tr.and {x y : Expr} {pos a b} (h₁ : Tr g A F ρ x a) (h₂ : a = true → Tr g A F ρ y b) : Tr g A F ρ (.BoolOp .And [x, y] pos) (a && b) := ⟨fun O s st => by
  refine isTrue_and (wpAny_mono (h₁.run O s st) (fun c s₁ q => ?_) fun zz zz x => x)
  obtain ⟨p, rfl⟩ := q
  cases c with
  | false => exact ⟨p, rfl⟩
  | true =>
    refine isTrue_and (wpAny_mono ((h₂ rfl).run O s₁ (st.step p)) (fun c s₂ q => ?_) fun zz zz x => x)
    obtain ⟨p₂, rfl⟩ := q
    cases c with
    | false => exact ⟨p.trans p₂, rfl⟩
    | true => exact isTrue_and_nil ⟨p.trans p₂, rfl⟩⟩
theorem Ev.ifte {t x y : Expr} {pos b d} (h : Tr g A F ρ t b) (h₁ : b = true → Ev g A F ρ x d) (h₂ : b = false → Ev g A F ρ y d) : Ev g A F ρ (.IfExp t x y pos) d := ⟨fun O s st => by
  refine IfExp_ (wpAny_mono (h.run O s st) (fun c s₁ q => ?_) fun zz zz x => x)
  obtain ⟨p, rfl⟩ := q
  have tr : ∀ {e}, Ev g A F ρ e d → wpAny g.M A (eval e F.env) (fun v s' => Pur g s s' ∧ Rep g s'.heap (UU F O) d v) noE s₁ := fun he =>
    wpAny_mono (he.run O s₁ (st.step p)) (fun zz zz q => ⟨p.trans q.1, q.2⟩) fun zz zz x => x
  cases c with
  | true => exact tr (h₁ rfl)
  | false => exact tr (h₂ rfl)⟩
end
end
section
section
variable {A : Around} {F : Fx} {ρ : Rho} {O : List (Str × Addr)} {s : Shared}

theorem noneAtSize (h : Heap) : h.get? h.objs.size = none := Heap.get?_none_of_le (Nat.le_refl _)
theorem plain_push {h : Heap} {vs : List Value} : (h.push { cls := .type "list", data := .seq vs.toArray }).PlainList h.objs.size vs.toArray := ⟨0, Heap.get?_push_size _ rfl⟩
theorem isTuple_push {h : Heap} {vs : List Value} : (h.push { cls := .type "tuple", data := .seq vs.toArray }).IsTuple h.objs.size vs.toArray := ⟨_, Heap.get?_push_size _ rfl, rfl, 0, rfl⟩

theorem push_reps (w : Wd g s) {U : Addr → Prop} (hU : ∀ q ∈ g.tabs, U q.2.1) {o : Obj} {t : Nat} {ds vs} (r : Reps g s.heap U ds vs) : Reps g (s.heap.push o) (fun b => U b ∨ b = s.heap.objs.size) ds vs :=
  let _ := w; let _ := hU; let _ := t
  r.mono (fun a u n e => u.elim n fun q => e (by rw [q]; exact noneAtSize _)) fun zz zz zz e => Heap.get?_push_of_some _ e

theorem freshPush (st : StO g F ρ O s) {t : Nat} {ds : List V} {vs : List Value} (r : Reps g s.heap (UU F O) ds vs) :
    Fresh g (UU F O) s ds (.ref s.heap.objs.size) { s with heap := s.heap.push { cls := .type "list", data := .seq vs.toArray }, toks := t } :=
  ⟨_, vs, rfl, noneAtSize _, plain_push, push_reps (t := t) st.wd (fun q hq => .inl (st.tabU q hq)) r⟩
theorem tupPush (st : StO g F ρ O s) {t : Nat} {ds : List V} {vs : List Value} (r : Reps g s.heap (UU F O) ds vs) :
    Rep g ({ s with heap := s.heap.push { cls := .type "tuple", data := .seq vs.toArray }, toks := t } : Shared).heap (UU F O) (.tup ds) (.ref s.heap.objs.size) :=
  .tup (st.fresh (noneAtSize _)) isTuple_push (r.mono (fun zz u n zz => n u) fun zz zz zz e => Heap.get?_push_of_some _ e)
theorem Fresh.back {U : Addr → Prop} {s₁ s₂ : Shared} {ds v} (p : Pur g s s₁) (h : Fresh g U s₁ ds v s₂) : Fresh g U s ds v s₂ := by
  obtain ⟨a, vs, e, hn, r⟩ := h
  refine ⟨a, vs, e, ?_, r⟩
  cases q : s.heap.get? a with
  | none => rfl
  | some o => obtain ⟨o', e'⟩ := p.live ⟨o, q⟩; rw [hn] at e'; cases e'

theorem Ev.tuple {es ds k pos} (h : Evs g A F ρ pos es ds) (hz : ds.length ≤ sizeLine) : Ev g A F ρ (.Tuple es k pos) (.tup ds) := ⟨fun O s st =>
  Tuple_ (runQ (h.run O s st) fun vs s₁ p₁ r₁ => wpAny_newObj_type ⟨p₁.trans (Pur.push p₁.wd), tupPush (st.step p₁) r₁⟩ (by show vs.toArray.size ≤ sizeLine; rw [List.size_toArray, r₁.length]; exact hz))⟩
theorem EvF.list {es ds pos} (h : Evs g A F ρ pos es ds) (hz : ds.length ≤ sizeLine) : EvF g A F ρ (.List es pos) ds := ⟨fun O s st =>
  List_ (runQ (h.run O s st) fun vs s₁ p₁ r₁ => wpAny_newObj_type ⟨p₁.trans (Pur.push p₁.wd), (freshPush (st.step p₁) r₁).back p₁⟩ (by show vs.toArray.size ≤ sizeLine; rw [List.size_toArray, r₁.length]; exact hz))⟩

theorem seqIndex_nn {k : Int} {n : Nat} (h0 : 0 ≤ k) (h : k.toNat < n) : seqIndex? k n = some k.toNat := by
  have h1 : ¬ k < 0 := by lia
  have h2 : k < n := by lia
  simp [seqIndex?, h1, h0, h2]
theorem Ev.item {e i pos xs k d} (h₁ : Ev g A F ρ e (.lst xs)) (h₂ : Ev g A F ρ i (.int k)) (h0 : 0 ≤ k) (hx : xs[k.toNat]? = some d) (hz : k < 2 ^ 63)
    (hs : ∀ o v, subscripted i false o v = operate [o, v] (getItem o v) := by intro _ _; rfl) : Ev g A F ρ (.Subscript e i pos) d := ⟨fun O s st =>
  Subscript_ (runQ (h₁.run O s st) fun v₁ s₁ p₁ r₁ => runQ (h₂.run O s₁ (st.step p₁)) fun v₂ s₂ p₂ r₂ => by
    have r₁' := (st.step p₁).rep p₂ r₁
    cases r₁' using cL with
    | lst n hl hr =>
      cases r₂ using cI
      obtain ⟨v, hv, hd⟩ := hr.getD hx
      refine tail_any hl.typeIs slot_list_getitem.lookup (wpAny_getItem_list hl h0 hz (x := v) (by simpa using hv) ⟨p₁.trans p₂, hd⟩) (hs _ _))⟩
theorem Ev.itemT {e i pos xs k d} (h₁ : Ev g A F ρ e (.tup xs)) (h₂ : Ev g A F ρ i (.int k)) (h0 : 0 ≤ k) (hx : xs[k.toNat]? = some d) (hz : k < 2 ^ 63)
    (hs : ∀ o v, subscripted i false o v = operate [o, v] (getItem o v) := by intro _ _; rfl) : Ev g A F ρ (.Subscript e i pos) d := ⟨fun O s st =>
  Subscript_ (runQ (h₁.run O s st) fun v₁ s₁ p₁ r₁ => runQ (h₂.run O s₁ (st.step p₁)) fun v₂ s₂ p₂ r₂ => by
    have r₁' := (st.step p₁).rep p₂ r₁
    cases r₁' using cT with
    | @tup a vs _ n hl hr =>
      cases r₂ using cI
      have hlen := hr.length
      obtain ⟨v, hv, hd⟩ := hr.getD hx
      have hlt : k.toNat < vs.length := by
        rcases Nat.lt_or_ge k.toNat vs.length with h | h
        · exact h
        · rw [List.getElem?_eq_none h] at hv; cases hv
      refine tail_any hl.typeIs slot_tuple_getitem.lookup (PyProof.Rows.getItem_tuple (j := k.toNat) hl (by lia) hz (by rw [List.size_toArray]; exact seqIndex_nn h0 hlt) (x := v) (by simpa using hv) ⟨p₁.trans p₂, hd⟩) (hs _ _))⟩

structure EvP (g : G) (A : Around) (F : Fx) (ρ : Rho) (e : Option Expr) (k : Option Int) : Prop where
  run : ∀ O s, StO g F ρ O s → wpAny g.M A (evalPart e F.env) (fun v s' => Pur g s s' ∧ IsPart v k) noE s
theorem EvP.none : EvP g A F ρ none none := ⟨fun zz zz st => wpAny_pure ⟨Pur.refl st.wd, .none⟩⟩
theorem EvP.some {e k} (h : Ev g A F ρ e (.int k)) : EvP g A F ρ (some e) (some k) := ⟨fun O s st => by
  rw [evalPart_some]
  exact runQ (h.run O s st) fun v s₁ p r => by cases r using cI; exact ⟨p, .int _ _⟩⟩

noncomputable def pick (lo hi : Option Int) (xs : List V) : List V := (xs.drop (kms_lo lo xs.length)).take (kms_hi hi xs.length - kms_lo lo xs.length)
theorem reps_pick {h : Heap} {U : Addr → Prop} {xs : List V} {vs : List Value} (r : Reps g h U xs vs) (lo hi : Option Int) : Reps g h U (pick lo hi xs) (kms_pick vs lo hi) := by
  unfold pick kms_pick; rw [r.length]; exact (r.drop _).take _

theorem EvF.slice {e lo hi p pos xs l u} (h₁ : Ev g A F ρ e (.lst xs)) (hl : EvP g A F ρ lo l) (hu : EvP g A F ρ hi u) (hz : xs.length ≤ sizeLine) :
    EvF g A F ρ (.Subscript e (.Slice lo hi none p) pos) (pick l u xs) := ⟨fun O s st => by
  refine Subscript_ (runQ (h₁.run O s st) fun v₁ s₁ p₁ r₁ => ?_)
  have st₁ := st.step p₁
  refine wpAny_Slice (runQ (hl.run O s₁ st₁) fun vl s₂ p₂ r₂ => runQ (hu.run O s₂ (st₁.step p₂)) fun vu s₃ p₃ r₃ => ?_)
  have st₃ := (st₁.step p₂).step p₃
  have r₁' := (st₁.step p₂).rep p₃ (st₁.rep p₂ r₁)
  rw [evalPart_none]
  refine wpAny_pure ?_
  cases r₁' using cL with
  | @lst a vs _ n hL hr =>
    have hL' : (s₃.heap.push { cls := .type "slice", data := .fields #[vl, vu, .none] }).IsList a vs.toArray := hL.push _
    have p₄ : Pur g s₃ { s₃ with heap := s₃.heap.push { cls := .type "slice", data := .fields #[vl, vu, .none] } } := Pur.push st₃.wd
    have st₄ := st₃.step p₄
    refine tail_any (s := { s₃ with heap := s₃.heap.push { cls := .type "slice", data := .fields #[vl, vu, .none] } }) hL'.typeIs slot_list_getitem.lookup
      (wpAny_getItem_list_slice hL' (Heap.IsSliceOf.new ..) r₂ r₃ .none (by simp) ?_ (by rw [List.size_toArray, hr.length]; exact hz)) rfl
    rw [kms_pick_eq]
    have p := ((p₁.trans p₂).trans p₃).trans p₄
    exact ⟨p.trans (Pur.push st₄.wd), (freshPush st₄ (reps_pick (st₃.reps p₄ hr) l u)).back p⟩⟩
theorem EvF.rev {e st p pos xs} (h₁ : Ev g A F ρ e (.lst xs)) (hs : EvP g A F ρ (Option.some st) (Option.some (-1))) (hz : xs.length ≤ sizeLine) :
    EvF g A F ρ (.Subscript e (.Slice Option.none Option.none (Option.some st) p) pos) xs.reverse := ⟨fun O s st' => by
  refine Subscript_ (runQ (h₁.run O s st') fun v₁ s₁ p₁ r₁ => ?_)
  have st₁ := st'.step p₁
  refine wpAny_Slice ?_
  rw [evalPart_none]
  refine wpAny_pure (wpAny_pure (runQ (hs.run O s₁ st₁) fun vk s₃ p₃ r₃ => ?_))
  have st₃ := st₁.step p₃
  have r₁' := st₁.rep p₃ r₁
  cases r₁' using cL with
  | @lst a vs _ n hL hr =>
    have hL' : (s₃.heap.push { cls := .type "slice", data := .fields #[.none, .none, vk] }).IsList a vs.toArray := hL.push _
    have p₄ : Pur g s₃ { s₃ with heap := s₃.heap.push { cls := .type "slice", data := .fields #[.none, .none, vk] } } := Pur.push st₃.wd
    have st₄ := st₃.step p₄
    refine tail_any (s := { s₃ with heap := s₃.heap.push { cls := .type "slice", data := .fields #[.none, .none, vk] } }) hL'.typeIs slot_list_getitem.lookup
      (wpAny_getItem_list_slice hL' (Heap.IsSliceOf.new ..) .none .none r₃ (by simp) ?_ (by rw [List.size_toArray, hr.length]; exact hz)) rfl
    rw [krv_pick]
    have p := (p₁.trans p₃).trans p₄
    exact ⟨p.trans (Pur.push st₄.wd), (freshPush st₄ (st₃.reps p₄ hr).reverse).back p⟩⟩

theorem reps_replicate {h : Heap} {U : Addr → Prop} {xs : List V} {vs : List Value} (r : Reps g h U xs vs) : ∀ k, Reps g h U (List.replicate k xs).flatten (List.replicate k vs).flatten
  | 0 => .nil
  | k + 1 => by rw [List.replicate_succ, List.replicate_succ, List.flatten_cons, List.flatten_cons]; exact r.append (reps_replicate r k)
theorem EvF.cat {l r pos xs ys} (h₁ : Ev g A F ρ l (.lst xs)) (h₂ : Ev g A F ρ r (.lst ys)) (hz : xs.length + ys.length ≤ sizeLine) : EvF g A F ρ (.BinOp l .Add r pos) (xs ++ ys) := ⟨fun O s st =>
  wpAny_BinOp (runQ (h₁.run O s st) fun v₁ s₁ p₁ r₁ => runQ (h₂.run O s₁ (st.step p₁)) fun v₂ s₂ p₂ r₂ => by
    have st₂ := (st.step p₁).step p₂
    have r₁' := (st.step p₁).rep p₂ r₁
    cases r₁' using cL with
    | @lst a vs _ n hL hr =>
      cases r₂ using cL with
      | @lst b ws _ n' hL' hr' =>
        have e1 := hr.length
        have e2 := hr'.length
        refine ngI fun hNg => ?_
        obtain ⟨⟨cls, dd, data, sl⟩, ho, hc, n, hd⟩ := id hL
        refine ngE hNg ?_
        refine ngI fun hNg => ?_
        obtain ⟨⟨cls2, dd2, data2, sl2⟩, ho2, hc2, n2, hd2⟩ := id hL'
        refine ngE hNg ?_
        simp only at hc hd hc2 hd2
        subst hc hd hc2 hd2
        have e : vs.toArray ++ ws.toArray = (vs ++ ws).toArray := by simp
        have hT : s₂.TypeIs (.ref a) "list" := ⟨_, ho, rfl⟩
        have hT2 : s₂.TypeIs (.ref b) "list" := ⟨_, ho2, rfl⟩
        have hsl : Slot "list" (Str.ofString "__add__") "list.__add__" := PySem.F.slot_list_add
        with_reducible refine concat_meets hT hT2 noFill_list_add seq_list_add hsl PySem.F.entry_list_add (PySem.F.args_list_add_2 _ _) (list_addW a b vs.toArray ws.toArray n n2 dd dd2 sl sl2 (by simpa [e1, e2] using hz)) ⟨ho, ho2, ?_⟩
        rw [e]
        exact ⟨(p₁.trans p₂).trans (Pur.push p₂.wd), (freshPush st₂ (hr.append hr')).back (p₁.trans p₂)⟩)⟩
theorem EvF.times {l r pos xs k} (h₁ : Ev g A F ρ l (.lst xs)) (h₂ : Ev g A F ρ r (.int k)) (h0 : 0 ≤ k) (h1 : k < 2 ^ 63) (hz : xs.length * k.toNat ≤ 2 ^ 24) : EvF g A F ρ (.BinOp l .Mult r pos) (List.replicate k.toNat xs).flatten := ⟨fun O s st =>
  wpAny_BinOp (runQ (h₁.run O s st) fun v₁ s₁ p₁ r₁ => runQ (h₂.run O s₁ (st.step p₁)) fun v₂ s₂ p₂ r₂ => by
    have st₂ := (st.step p₁).step p₂
    have r₁' := (st.step p₁).rep p₂ r₁
    cases r₁' using cL with
    | @lst a vs _ n hL hr =>
      cases r₂ using cI with
      | int _ u =>
        have e1 := hr.length
        refine ngI fun hNg => ?_
        obtain ⟨⟨cls, d, data, sl⟩, ho, hcl, m, hd⟩ := id hL
        refine ngE hNg ?_
        simp only at hcl hd
        subst hcl hd
        have hsz' : vs.toArray.size * k.toNat ≤ 2 ^ 24 := by simpa [e1] using hz
        have hT : s₂.TypeIs (.ref a) "list" := ⟨_, ho, rfl⟩
        have m1 := lm_int_rmul_list_any k u a vs.toArray m d sl
        have m2 := lm_list_mul_any a vs.toArray m d sl k u (by simp [Builtin.List.listFitsIndex]; lia) (by lia) (by simp [Builtin.List.listTooLong, sizeLine]; lia)
        with_reducible refine wpAny_binaryOp_repeat_ref (T := "list") (U := "int") (by decide) hT (fun s' => typeIs_int s' k u) noFill_list_mul PySem.F.fills_int_mul PySem.F.slot_int_rmul repeat_list PySem.F.slot_int_index.lookup ?_
        refine call_meets PySem.F.slot_int_rmul (typeIs_int _ k u) PySem.F.entry_int_rmul (PySem.F.args_int_rmul_2 _ _) m1 ⟨ho, rfl, hT, ?_⟩
        refine call_meets PySem.F.slot_list_mul hT PySem.F.entry_list_mul (PySem.F.args_list_mul_2 _ _) m2 ⟨ho, ?_⟩
        rw [listMul_foldl_if]
        exact ⟨(p₁.trans p₂).trans (Pur.push p₂.wd), (freshPush st₂ (reps_replicate hr _)).back (p₁.trans p₂)⟩)⟩
theorem Op.catT {xs ys : List V} (h1 : xs ≠ []) (h2 : ys ≠ []) (hz : xs.length + ys.length ≤ sizeLine) : Op g A F ρ .Add (.tup xs) (.tup ys) (.tup (xs ++ ys)) := ⟨fun O s v₁ v₂ st r₁ r₂ => by
  cases r₁ using cT with
  | @tup a vs _ n hL hr =>
    cases r₂ using cT with
    | @tup b ws _ n' hL' hr' =>
      have e1 := hr.length
      have e2 := hr'.length
      refine ngI fun hNg => ?_
      obtain ⟨⟨cls, dd, data, sl⟩, ho, hc, n, hd⟩ := id hL
      refine ngE hNg ?_
      refine ngI fun hNg => ?_
      obtain ⟨⟨cls2, dd2, data2, sl2⟩, ho2, hc2, n2, hd2⟩ := id hL'
      refine ngE hNg ?_
      simp only at hc hd hc2 hd2
      subst hc hd hc2 hd2
      have e : vs.toArray ++ ws.toArray = (vs ++ ws).toArray := by simp
      have hv : vs ≠ [] := fun q => h1 (List.eq_nil_of_length_eq_zero (by rw [← e1, q]; rfl))
      have hw : ws ≠ [] := fun q => h2 (List.eq_nil_of_length_eq_zero (by rw [← e2, q]; rfl))
      have hT : s.TypeIs (.ref a) "tuple" := ⟨_, ho, rfl⟩
      have hT2 : s.TypeIs (.ref b) "tuple" := ⟨_, ho2, rfl⟩
      have hsl : Slot "tuple" (Str.ofString "__add__") "tuple.__add__" := PySem.F.slot_tuple_add
      with_reducible refine concat_meets hT hT2 noFill_tuple_add seq_tuple_add hsl PySem.F.entry_tuple_add (PySem.F.args_tuple_add_2 _ _) (tuple_addW2 a b vs.toArray ws.toArray n n2 dd dd2 sl sl2 (by simpa using hv) (by simpa using hw) (by rw [List.size_toArray, List.size_toArray, e1, e2]; exact hz)) ⟨ho, ho2, ?_⟩
      rw [e]
      exact ⟨Pur.push st.wd, tupPush st (hr.append hr')⟩⟩

theorem Ev.tupFrom {e lo p pos xs} {a : Nat} (h₁ : Ev g A F ρ e (.tup xs)) (hl : Ev g A F ρ lo (.int a)) (h1 : 1 ≤ a) (ha : a ≤ xs.length) (hz : xs.length ≤ sizeLine) :
    Ev g A F ρ (.Subscript e (.Slice (Option.some lo) Option.none Option.none p) pos) (.tup (xs.drop a)) := ⟨fun O s st => by
  refine Subscript_ (runQ (h₁.run O s st) fun v₁ s₁ p₁ r₁ => ?_)
  have st₁ := st.step p₁
  refine wpAny_Slice ?_
  rw [evalPart_some]
  refine runQ (hl.run O s₁ st₁) fun vl s₂ p₂ r₂ => ?_
  have st₂ := st₁.step p₂
  have r₁' := st₁.rep p₂ r₁
  rw [evalPart_none]
  refine wpAny_pure (wpAny_pure ?_)
  cases r₂ using cI with
  | int _ u =>
  cases r₁' using cT with
  | @tup b vs _ n hL hr =>
    have e1 := hr.length
    have hL' : (s₂.heap.push { cls := .type "slice", data := .fields #[.int a u, .none, .none] }).IsTuple b vs.toArray := hL.push _
    have p₄ : Pur g s₂ { s₂ with heap := s₂.heap.push { cls := .type "slice", data := .fields #[.int a u, .none, .none] } } := Pur.push st₂.wd
    have st₄ := st₂.step p₄
    refine tail_any (s := { s₂ with heap := s₂.heap.push { cls := .type "slice", data := .fields #[.int a u, .none, .none] } }) hL'.typeIs slot_tuple_getitem.lookup
      (getItem_tuple_from (u := u) hL' (Heap.IsSliceOf.new ..) h1 (by simpa [e1] using ha) ?_ (by rw [List.size_toArray, e1]; exact hz)) rfl
    exact ⟨((p₁.trans p₂).trans p₄).trans (Pur.push st₄.wd), tupPush st₄ (st₂.reps p₄ (hr.drop a))⟩⟩

theorem upto_span {b n : Nat} (hb : b ≤ n) : Builtin.Slice.sliceAdjust none (some (b : Int)) 1 (n : Int) = (0, (b : Int)) ∧ Builtin.Slice.slicePlaces 0 (b : Int) 1 = b := by
  constructor
  · simp only [Builtin.Slice.sliceAdjust, if_neg (show ¬ (1 : Int) < 0 by decide), if_neg (show ¬ (b : Int) < 0 by lia), Int.min_eq_left (show (b : Int) ≤ n by lia)]
  · simp only [Builtin.Slice.slicePlaces, if_pos (show (1 : Int) > 0 by decide), Int.ediv_one]
    split <;> lia
theorem upto_picks (xs : Array Value) : ∀ b, ((List.range b).filterMap fun k : Nat => xs[((0 : Int) + (k : Int) * 1).toNat]?) = xs.toList.take b
  | 0 => rfl
  | b + 1 => by
    rw [List.range_succ, List.filterMap_append, upto_picks xs b, List.take_add_one]
    congr 1
    simp [List.filterMap]
    cases xs[b]? <;> rfl
theorem tupleUpto {prog : Program} {w : World} {E : Value → Shared → Prop} {t sl : Addr} {items : Array Value} {b : Nat} {u : Tok} {Q : Value → Shared → Prop} (ht : s.heap.IsTuple t items) (hs : s.heap.IsSliceOf sl .none (.int b u) .none) (hb : b < items.size)
    (h : Q (.ref s.heap.objs.size) { s with heap := s.heap.push { cls := .type "tuple", data := .seq (items.toList.take b).toArray } })
    (hsz : items.size ≤ sizeLine) : wpAny (model prog w) A (getItem (.ref t) (.ref sl)) Q E s := by
  cases hs with
  | intro o k =>
  have part := fun (i : Nat) (x : Value) (R : Value → Shared → Prop) (A : Around) (E : Value → Shared → Prop) => wpAny_field (M := model prog w) (A := A) (E := E) (s := s) (Q := R) (i := i) (x := x) k.1 k.2.2
  refine getItem_slot ht.typeIs (by decide) slot_tuple_getitem (wpAny_call_entry slot_tuple_getitem ht.typeIs entry_tuple_getitem ?_ (args_tuple_getitem _ _))
  refine wpAny_bind (m := Builtin.Tuple.tupleItemsOf (.ref t)) (tupleItemsOf_ ht (wpAny_bind (wpAny_typeOf ⟨o, k.1, k.2.1⟩ ?_)))
  refine wpAny_bind (m := Builtin.Slice.sliceApplied (.ref sl) (pure (items.size : Int))) (wpAny_bind (m := Builtin.Slice.sliceFields (.ref sl)) (wpAny_bind (part 0 .none _ _ _ rfl (wpAny_bind (part 1 (.int b u) _ _ _ rfl (wpAny_bind (part 2 .none _ _ _ rfl (wpAny_pure ?_))))))))
  refine wpAny_bind (slicePart_none (wpAny_bind (slicePart_none (wpAny_bind (slicePart_int (wpAny_bind (wpAny_pure ?_)))))))
  have sp := upto_span (Nat.le_of_lt hb)
  dsimp only [Option.getD]
  rw [sp.1]
  dsimp only
  rw [sp.2]
  refine wpAny_pure ?_
  dsimp only
  rw [if_neg (by simp; lia), upto_picks items b]
  exact wpAny_bind (m := Builtin.Tuple.tupleExact _) (wpAny_newObj_type (wpAny_pure ⟨_, rfl, h⟩) (by simp [sizeOk]; lia))
theorem Ev.tupTo {e hi p pos xs} {b : Nat} (h₁ : Ev g A F ρ e (.tup xs)) (hh : Ev g A F ρ hi (.int b)) (hb : b < xs.length) (hz : xs.length ≤ sizeLine) :
    Ev g A F ρ (.Subscript e (.Slice Option.none (Option.some hi) Option.none p) pos) (.tup (xs.take b)) := ⟨fun O s st => by
  refine Subscript_ (runQ (h₁.run O s st) fun v₁ s₁ p₁ r₁ => ?_)
  have st₁ := st.step p₁
  refine wpAny_Slice ?_
  rw [evalPart_none]
  refine wpAny_pure ?_
  rw [evalPart_some]
  refine runQ (hh.run O s₁ st₁) fun vl s₂ p₂ r₂ => ?_
  have st₂ := st₁.step p₂
  have r₁' := st₁.rep p₂ r₁
  refine wpAny_pure ?_
  cases r₂ using cI with
  | int _ u =>
  cases r₁' using cT with
  | @tup c vs _ n hL hr =>
    have e1 := hr.length
    have hL' : (s₂.heap.push { cls := .type "slice", data := .fields #[.none, .int b u, .none] }).IsTuple c vs.toArray := hL.push _
    have p₄ : Pur g s₂ { s₂ with heap := s₂.heap.push { cls := .type "slice", data := .fields #[.none, .int b u, .none] } } := Pur.push st₂.wd
    have st₄ := st₂.step p₄
    refine tail_any (s := { s₂ with heap := s₂.heap.push { cls := .type "slice", data := .fields #[.none, .int b u, .none] } }) hL'.typeIs slot_tuple_getitem.lookup
      (tupleUpto (u := u) hL' (Heap.IsSliceOf.new ..) (by simpa [e1] using hb) ?_ (by rw [List.size_toArray, e1]; exact hz)) rfl
    exact ⟨((p₁.trans p₂).trans p₄).trans (Pur.push st₄.wd), tupPush st₄ (st₂.reps p₄ (hr.take b))⟩⟩
end
end
section
structure CallP (g : G) (A : Around) (F : Fx) (ρ : Rho) (f : Value) (ds : List V) (d : V) : Prop where
  run : ∀ O s vs, StO g F ρ O s → Reps g s.heap (UU F O) ds vs → wpAny g.M A (call f vs) (fun v s' => Pur g s s' ∧ Rep g s'.heap (UU F O) d v) noE s
structure CallF (g : G) (A : Around) (F : Fx) (ρ : Rho) (f : Value) (ds : List V) (xs : List V) : Prop where
  run : ∀ O s vs, StO g F ρ O s → Reps g s.heap (UU F O) ds vs → wpAny g.M A (call f vs) (fun v s' => Pur g s s' ∧ Fresh g (UU F O) s xs v s') noE s

section
variable {A : Around} {F : Fx} {ρ : Rho} {O : List (Str × Addr)} {s : Shared}

theorem callB {x : Str} {p pos : Pos} {e : Expr} {es : List Expr} {id : String} {ds : List V} {R : List (Str × Addr) → Shared → Value → Shared → Prop} (hf : EvV g A F ρ (.Name x p) (.builtin id)) (h : Evs g A F ρ pos (e :: es) ds)
    (k : ∀ O s vs, StO g F ρ O s → Reps g s.heap (UU F O) ds vs → wpAny g.M A (call (.builtin id) vs) (fun v s' => Pur g s s' ∧ R O s v s') noE s) (hR : ∀ O s s₁ v s₂, Pur g s s₁ → R O s₁ v s₂ → R O s v s₂)
    (he : starEach (e :: es) F.env = (false, eval e F.env) :: starEach es F.env) (hp : (backTo pos (starEach es F.env)).any (·.1) = false) :
    ∀ O s, StO g F ρ O s → wpAny g.M A (eval (.Call (.Name x p) (e :: es) [] pos) F.env) (fun v s' => Pur g s s' ∧ R O s v s') noE s := fun O s st => by
  refine Call_Name rfl (runQ (hf.run O s st) fun f s₁ p₁ r₁ => ?_)
  subst r₁
  have st₁ := st.step p₁
  refine PyProof.Rows.callWith_builtin1 (runQ (h.run O s₁ st₁) fun vs s₂ p₂ r₂ => ?_) he hp
  exact runQ (k O s₂ vs (st₁.step p₂) r₂) fun v s₃ p₃ r₃ => ⟨(p₁.trans p₂).trans p₃, hR _ _ _ _ _ (p₁.trans p₂) r₃⟩
theorem callT {x : Str} {p pos : Pos} {e : Expr} {es : List Expr} {id : String} {ds : List V} {R : List (Str × Addr) → Shared → Value → Shared → Prop} (hf : EvV g A F ρ (.Name x p) (.type id)) (h : Evs g A F ρ pos (e :: es) ds)
    (k : ∀ O s vs, StO g F ρ O s → Reps g s.heap (UU F O) ds vs → wpAny g.M A (call (.type id) vs) (fun v s' => Pur g s s' ∧ R O s v s') noE s) (hR : ∀ O s s₁ v s₂, Pur g s s₁ → R O s₁ v s₂ → R O s v s₂)
    (he : starEach (e :: es) F.env = (false, eval e F.env) :: starEach es F.env) (hp : (backTo pos (starEach es F.env)).any (·.1) = false) :
    ∀ O s, StO g F ρ O s → wpAny g.M A (eval (.Call (.Name x p) (e :: es) [] pos) F.env) (fun v s' => Pur g s s' ∧ R O s v s') noE s := fun O s st => by
  refine Call_Name rfl (runQ (hf.run O s st) fun f s₁ p₁ r₁ => ?_)
  subst r₁
  have st₁ := st.step p₁
  refine PyProof.Rows.callWith_type1 (runQ (h.run O s₁ st₁) fun vs s₂ p₂ r₂ => ?_) he hp
  exact runQ (k O s₂ vs (st₁.step p₂) r₂) fun v s₃ p₃ r₃ => ⟨(p₁.trans p₂).trans p₃, hR _ _ _ _ _ (p₁.trans p₂) r₃⟩

theorem Ev.callB {x p pos e es id ds d} (hf : EvV g A F ρ (.Name x p) (.builtin id)) (h : Evs g A F ρ pos (e :: es) ds) (k : CallP g A F ρ (.builtin id) ds d)
    (he : starEach (e :: es) F.env = (false, eval e F.env) :: starEach es F.env := by rfl) (hp : (backTo pos (starEach es F.env)).any (·.1) = false := by rfl) : Ev g A F ρ (.Call (.Name x p) (e :: es) [] pos) d :=
  ⟨Mine.Internal.callB (R := fun O zz v s' => Rep g s'.heap (UU F O) d v) hf h k.run (fun zz zz zz zz zz zz r => r) he hp⟩
theorem EvF.callB {x p pos e es id ds xs} (hf : EvV g A F ρ (.Name x p) (.builtin id)) (h : Evs g A F ρ pos (e :: es) ds) (k : CallF g A F ρ (.builtin id) ds xs)
    (he : starEach (e :: es) F.env = (false, eval e F.env) :: starEach es F.env := by rfl) (hp : (backTo pos (starEach es F.env)).any (·.1) = false := by rfl) : EvF g A F ρ (.Call (.Name x p) (e :: es) [] pos) xs :=
  ⟨Mine.Internal.callB (R := fun O s v s' => Fresh g (UU F O) s xs v s') hf h k.run (fun zz zz zz zz zz p r => r.back p) he hp⟩
theorem Ev.callT {x p pos e es id ds d} (hf : EvV g A F ρ (.Name x p) (.type id)) (h : Evs g A F ρ pos (e :: es) ds) (k : CallP g A F ρ (.type id) ds d)
    (he : starEach (e :: es) F.env = (false, eval e F.env) :: starEach es F.env := by rfl) (hp : (backTo pos (starEach es F.env)).any (·.1) = false := by rfl) : Ev g A F ρ (.Call (.Name x p) (e :: es) [] pos) d :=
  ⟨Mine.Internal.callT (R := fun O zz v s' => Rep g s'.heap (UU F O) d v) hf h k.run (fun zz zz zz zz zz zz r => r) he hp⟩
theorem EvF.callT {x p pos e es id ds xs} (hf : EvV g A F ρ (.Name x p) (.type id)) (h : Evs g A F ρ pos (e :: es) ds) (k : CallF g A F ρ (.type id) ds xs)
    (he : starEach (e :: es) F.env = (false, eval e F.env) :: starEach es F.env := by rfl) (hp : (backTo pos (starEach es F.env)).any (·.1) = false := by rfl) : EvF g A F ρ (.Call (.Name x p) (e :: es) [] pos) xs :=
  ⟨Mine.Internal.callT (R := fun O s v s' => Fresh g (UU F O) s xs v s') hf h k.run (fun zz zz zz zz zz p r => r.back p) he hp⟩

theorem CallP.len {xs} (hz : xs.length < 2 ^ 62) : CallP g A F ρ (.builtin "len") [.lst xs] (.int xs.length) := ⟨fun O s vs st r => by
  cases r using cC with
  | cons r r' =>
    cases r' using cE
    cases r using cL with
    | @lst a us _ n hL hr =>
      have e := hr.length
      refine call_len_list hL (by rw [List.size_toArray, e]; lia) ?_
      rw [List.size_toArray, e]
      exact ⟨Pur.toks st.wd _, .int _ _⟩⟩
theorem CallP.lenS {x : Str} (hz : x.length ≤ sizeLine) : CallP g A F ρ (.builtin "len") [.str x] (.int x.length) := ⟨fun O s vs st r => by
  cases r using cC with
  | cons r r' =>
    cases r' using cE
    cases r using cS
    with_reducible refine PyProof.Rows.len_str (by have : sizeLine = 16777216 := rfl; lia) ?_
    exact ⟨Pur.toks st.wd _, .int _ _⟩⟩
theorem CallP.abs {a} : CallP g A F ρ (.builtin "abs") [.int a] (.int (if a < 0 then -a else a)) := ⟨fun O s vs st r => by
  cases r using cC with
  | cons r r' =>
    cases r' using cE
    cases r using cI
    with_reducible refine call_abs_int (fun zz zz => ?_)
    exact ⟨Pur.toks st.wd _, .int _ _⟩⟩
theorem intsAre_of {h : Heap} {U : Addr → Prop} {ns : List Int} : ∀ {vs}, Reps g h U (ns.map .int) vs → IntsAre vs ns := by
  induction ns with
  | nil => intro vs r; cases r using cE; exact .nil
  | cons n r ih =>
    intro vs q
    cases q using cC with
    | cons a b => cases a using cI; exact .cons _ _ (ih b)
theorem CallP.sum {ns : List Int} (hh : A.handled = none) : CallP g A F ρ (.builtin "sum") [.lst (ns.map .int)] (.int ns.sum) := ⟨fun O s vs st r => by
  cases r using cC with
  | cons r r' =>
    cases r' using cE
    cases r using cL with
    | @lst a us _ n hL hr =>
      have hi := intsAre_of hr
      obtain ⟨xs, hx⟩ := hi.allInts.items
      have hl' : s.heap.IsList a (intItems xs) := hx ▸ hL
      refine PySem.sum_intListG hh hl' fun h' tk t' hk => ?_
      have e1 : ns = xs.toList.map (·.1) := by
        rw [← nums_intItems, ← hx]
        exact (show numsOf us.toArray.toList = ns from hi.numsOf).symm
      have e2 : preSum (numAt xs) xs.size = ns.sum := by
        rw [preSum_eq, List.take_of_length_le (by simp), e1]
      rw [e2]
      exact ⟨Pur.grow st.wd hk, .int _ _⟩⟩
theorem CallP.range1 {n} : CallP g A F ρ (.type "range") [.int n] (.rng 0 n) := ⟨fun O s vs st r => by
  cases r using cC with
  | cons r r' =>
    cases r' using cE; cases r using cI
    with_reducible refine call_range_1 ?_
    exact ⟨Pur.push st.wd, .rng (st.fresh (noneAtSize _)) (Heap.get?_push_size _ rfl)⟩⟩
theorem CallP.range2 {a b} : CallP g A F ρ (.type "range") [.int a, .int b] (.rng a b) := ⟨fun O s vs st r => by
  cases r using cC with
  | cons r r' =>
    cases r' using cC with
    | cons r₂ r' =>
      cases r' using cE; cases r using cI; cases r₂ using cI
      with_reducible refine call_range_2 ?_
      exact ⟨Pur.push st.wd, .rng (st.fresh (noneAtSize _)) (Heap.get?_push_size _ rfl)⟩⟩

noncomputable def upto (a b : Int) : List Int := (List.range (b - a).toNat).map fun (k : Nat) => a + (k : Int)
theorem reps_ints {h : Heap} {U : Addr → Prop} {a : Int} : ∀ {n : Nat} {vs : List Value}, vs.length = n → (∀ (j : Nat) (v : Value), vs[j]? = some v → ∃ t, v = Value.int (a + (j : Int)) t) → Reps g h U ((List.range n).map fun (k : Nat) => V.int (a + (k : Int))) vs := by
  intro n
  induction n with
  | zero => intro vs e _; rw [List.eq_nil_of_length_eq_zero e]; exact .nil
  | succ n ih =>
    intro vs e hp
    have hne : vs ≠ [] := fun q => by rw [q] at e; simp at e
    have hd := List.dropLast_concat_getLast hne
    rw [List.range_succ, List.map_append, ← hd]
    have el : vs.dropLast.length = n := by rw [List.length_dropLast, e]; rfl
    refine (ih el fun j v q => hp j v ?_).append ?_
    · rw [List.getElem?_dropLast] at q
      split at q
      · exact q
      · cases q
    · obtain ⟨t, ht⟩ := hp n (vs.getLast hne) (by rw [List.getLast_eq_getElem, List.getElem?_eq_getElem (by lia)]; congr 1; simp [e])
      rw [ht]; exact .one (.int _ _)
theorem CallF.listRange {a b} (hh : A.handled = none) (h1 : -(2 ^ 62) ≤ a) (h2 : a < 2 ^ 62) (h3 : -(2 ^ 62) ≤ b) (h4 : b < 2 ^ 62) (hz : (b - a).toNat ≤ 2 ^ 24) : CallF g A F ρ (.type "list") [.rng a b] ((upto a b).map .int) := ⟨fun O s vs st r => by
  cases r using cC with
  | cons r r' =>
    cases r' using cE
    cases r using cR with
    | rng n hr =>
      refine call_list_range hh hr (small_one h1 h2 h3 h4) (rangeSize_nat a b) hz fun h' tk acc c hk hget hi => ?_
      refine ⟨Pur.grow st.wd hk, _, acc.toList, rfl, noneAtSize _, ⟨c, by simpa using hget⟩, ?_⟩
      have := reps_ints (h := h') (U := fun x => UU F O x ∨ x = s.heap.objs.size) (a := a) (n := (b - a).toNat) (vs := acc.toList) (by rw [Array.length_toList]; exact hi.1) (fun j v q => by
        obtain ⟨t, ht⟩ := hi.2 j v (by simpa using q)
        exact ⟨t, by rw [ht, Int.mul_one]⟩)
      rw [upto, List.map_map]
      exact this⟩
theorem CallF.listList {xs} (hz : xs.length ≤ sizeLine) : CallF g A F ρ (.type "list") [.lst xs] xs := ⟨fun O s vs st r => by
  cases r using cC with
  | cons r r' =>
    cases r' using cE
    cases r using cL with
    | @lst a us _ n hL hr =>
      refine ngI fun hNg => ?_
      obtain ⟨o, ho, hc, m, hd⟩ := hL
      refine ngE hNg ?_
      refine call_list_seq a (.inl rfl) ho hc hd (fun h' c hk hget => ?_) (by rw [List.size_toArray, hr.length]; exact hz)
      refine ⟨Pur.grow (t := s.toks) st.wd hk, _, us, rfl, noneAtSize _, ⟨c, hget⟩, ?_⟩
      exact hr.mono (fun b u n e => u.elim n fun q => e (by rw [q]; exact noneAtSize _)) fun b o zz e => hk b o e⟩
theorem CallP.str {a : Int} (ha : a.natAbs.log2 < 1920) : CallP g A F ρ (.type "str") [.int a] (.str (toString a)) := ⟨fun O s vs st r => by
  cases r using cC with
  | cons r r' =>
    cases r' using cE; cases r using cI
    with_reducible refine PySem.P.str_of_int ha ?_
    exact ⟨Pur.toks st.wd _, .str _ _⟩⟩
theorem CallP.isTupT {xs} : CallP g A F ρ (.builtin "isinstance") [.tup xs, .typ "tuple"] (.bool true) := ⟨fun O s vs st r => by
  cases r using cC with
  | cons r r' =>
    cases r' using cC with
    | cons r₂ r' =>
      cases r' using cE; cases r₂
      cases r using cT with
      | tup n hL hr =>
        refine ngI fun hNg => ?_
        obtain ⟨o, ho, hc, _⟩ := hL
        refine ngE hNg ?_
        with_reducible refine PySem.IsiPair.tuple_tuple ho hc ?_
        exact ⟨Pur.refl st.wd, .bool _⟩⟩
theorem CallP.isTupI {i} : CallP g A F ρ (.builtin "isinstance") [.int i, .typ "tuple"] (.bool false) := ⟨fun O s vs st r => by
  cases r using cC with
  | cons r r' =>
    cases r' using cC with
    | cons r₂ r' =>
      cases r' using cE; cases r₂; cases r using cI
      with_reducible refine PySem.IsiPair.int_tuple ?_
      exact ⟨Pur.toks st.wd _, .bool _⟩⟩
theorem Ev.typ {x pos n} (h : EvV g A F ρ (.Name x pos) (.type n)) : Ev g A F ρ (.Name x pos) (.typ n) := ⟨fun O s st =>
  runQ (h.run O s st) fun v s₁ p e => ⟨p, e ▸ .typ n⟩⟩
end
end
section
inductive Res where
  | next (ρ : Rho)
  | ret (d : V)

noncomputable def Meets (g : G) (F : Fx) (Q : Res → Prop) : Flow → Shared → Prop
  | .next, s' => ∃ ρ' O', Q (.next ρ') ∧ StO g F ρ' O' s'
  | .ret v, s' => ∃ d, Q (.ret d) ∧ Pur g F.s₀ s' ∧ Rep g s'.heap F.U d v
  | _, _ => False
structure X (g : G) (A : Around) (F : Fx) (ρ : Rho) (sts : List Stmt) (Q : Res → Prop) : Prop where
  run : ∀ O s, StO g F ρ O s → wpAny g.M A (execs sts F.env) (Meets g F Q) noE s
structure S1 (g : G) (A : Around) (F : Fx) (ρ : Rho) (st : Stmt) (Q : Res → Prop) : Prop where
  run : ∀ O s, StO g F ρ O s → wpAny g.M A (exec st F.env) (Meets g F Q) noE s
noncomputable def K (g : G) (A : Around) (F : Fx) (rest : List Stmt) (Q : Res → Prop) : Res → Prop
  | .next ρ' => X g A F ρ' rest Q
  | .ret d => Q (.ret d)

section
variable {A : Around} {F : Fx} {ρ ρ' : Rho} {O : List (Str × Addr)} {s : Shared} {Q : Res → Prop} {rest : List Stmt}

theorem noE_to {α : Type} {M : Model} {m : Sem α} {P : α → Shared → Prop} {E : Value → Shared → Prop} (h : wpAny M A m P noE s) : wpAny M A m P E s := wpAny_mono h (fun zz zz x => x) fun zz zz x => x.elim

theorem X.nil (h : Q (.next ρ)) : X g A F ρ [] Q := ⟨fun O zz st => wpAny_execs_nil ⟨ρ, O, h, st⟩⟩
theorem X.cons {st} (h : S1 g A F ρ st (K g A F rest Q)) : X g A F ρ (st :: rest) Q := ⟨fun O s st => by
  refine wpAny_execs_cons (wpAny_mono (h.run O s st) (fun fl s' m => ?_) fun zz zz x => x)
  cases fl with
  | next => obtain ⟨ρ', O', k, st'⟩ := m; exact k.run O' s' st'
  | ret v => exact m
  | brk => exact m.elim
  | cont => exact m.elim⟩
theorem X.mono {sts} {Q' : Res → Prop} (h : X g A F ρ sts Q') (k : ∀ r, Q' r → Q r) : X g A F ρ sts Q := ⟨fun O s st => by
  refine wpAny_mono (h.run O s st) (fun fl s' m => ?_) fun zz zz x => x
  cases fl with
  | next => obtain ⟨ρ', O', a, st'⟩ := m; exact ⟨ρ', O', k _ a, st'⟩
  | ret v => obtain ⟨d, a, r⟩ := m; exact ⟨d, k _ a, r⟩
  | brk => exact m.elim
  | cont => exact m.elim⟩
theorem X.sub {sts} (k : ∀ p ∈ ρ', p ∈ ρ) (h : X g A F ρ' sts Q) : X g A F ρ sts Q := ⟨fun O s st => h.run O s (st.sub k)⟩
theorem X.freeze {sts x sl} (hm : (x, sl) ∈ ρ) (h : X g A F (ρ.put x sl.still) sts Q) : X g A F ρ sts Q := ⟨fun zz s st => h.run _ s (st.freeze hm)⟩
theorem X.assign {x px e pos d} (h : Ev g A F ρ e d) (hx : CanStore F x) (k : X g A F (ρ.put x (.imm d)) rest Q) (hs : swapsWith e (some (.Name x px)) pos.line F.env = pure false := by rfl) : X g A F ρ (.Assign [.Name x px] e pos :: rest) Q := ⟨fun O s st => by
  refine wpAny_execs_cons (wpAny_Assign_Name (runQ (h.run O s st) fun v s₁ p r => ?_) hs)
  exact (st.step p).storeImm hx r fun s₂ st₂ => k.run _ _ st₂⟩
theorem X.assignF {x px e pos xs} (h : EvF g A F ρ e xs) (hx : CanStore F x) (k : X g A F (ρ.put x (.own xs)) rest Q) (hs : swapsWith e (some (.Name x px)) pos.line F.env = pure false := by rfl) : X g A F ρ (.Assign [.Name x px] e pos :: rest) Q := ⟨fun O s st => by
  refine wpAny_execs_cons (wpAny_Assign_Name (runQ (h.run O s st) fun v s₁ p r => ?_) hs)
  refine ngI fun hNg => ?_
  obtain ⟨a, vs, rfl, hn, hl, hr⟩ := r
  refine ngE hNg ?_
  exact st.storeList p hx hn hl hr fun s₂ st₂ => k.run _ _ st₂⟩
theorem X.ret {e pos d} (h : Ev g A F ρ e d) (hq : Q (.ret d)) : X g A F ρ (.Return (some e) pos :: rest) Q := ⟨fun O s st => by
  refine wpAny_execs_cons (wpAny_Return_some (runQ (h.run O s st) fun v s₁ p r => ?_))
  exact ⟨d, hq, st.pur.trans p, r.mono (fun zz u n zz => n (.inl u)) fun zz zz zz e => e⟩⟩
theorem X.assert {t pos} (h : Tr g A F ρ t true) (k : X g A F ρ rest Q) : X g A F ρ (.Assert t none pos :: rest) Q := ⟨fun O s st => by
  refine wpAny_execs_cons (wpAny_Assert_holds (runQ (h.run O s st) fun v s₁ p r => ⟨r, k.run _ _ (st.step p)⟩))⟩
theorem S1.ifS {t body orelse pos b} (h : Tr g A F ρ t b) (h₁ : b = true → X g A F ρ body Q) (h₂ : b = false → X g A F ρ orelse Q) : S1 g A F ρ (.If t body orelse pos) Q := ⟨fun O s st => by
  refine wpAny_If (runQ (h.run O s st) fun v s₁ p r => ?_)
  subst r
  cases v with
  | true => exact (h₁ rfl).run _ _ (st.step p)
  | false => exact (h₂ rfl).run _ _ (st.step p)⟩
theorem X.ifS {t body orelse pos b} (h : Tr g A F ρ t b) (h₁ : b = true → X g A F ρ body (K g A F rest Q)) (h₂ : b = false → X g A F ρ orelse (K g A F rest Q)) : X g A F ρ (.If t body orelse pos :: rest) Q := .cons (.ifS h h₁ h₂)

theorem X.whileS {α : Type} {t body pos} (I : α → Rho) (P : α → Prop) (m : α → Nat) (b : α → Bool) (a : α) (h0 : P a) (hsub : ∀ p ∈ I a, p ∈ ρ)
    (test : ∀ a, P a → Tr g A F (I a) t (b a))
    (yes : ∀ a, P a → b a = true → X g A F (I a) body fun r => match r with | .next ρ' => ∃ a', P a' ∧ m a' < m a ∧ ∀ p ∈ I a', p ∈ ρ' | .ret d => Q (.ret d))
    (no : ∀ a, P a → b a = false → X g A F (I a) rest Q) :
    X g A F ρ (.While t body [] pos :: rest) Q := ⟨fun O s st => by
  refine wpAny_execs_cons (wpAny_While (codeAny_whileLoop (fun n s => ∃ a O, P a ∧ m a = n ∧ StO g F (I a) O s) ?_ (m a) ⟨a, O, h0, rfl, st.sub hsub⟩))
  rintro n s ⟨a, O, ha, rfl, st⟩
  refine noE_to (runQ ((test a ha).run O s st) fun c s₁ p e => ?_)
  subst e
  cases hb : b a with
  | true =>
    refine wpAny_mono ((yes a ha hb).run O s₁ (st.step p)) (fun fl s' me => ?_) fun zz zz x => x.elim
    cases fl with
    | next => obtain ⟨ρ', O', ⟨a', ha', hm, hs⟩, st'⟩ := me; exact ⟨m a', hm, a', O', ha', rfl, st'.sub hs⟩
    | ret v => exact me
    | brk => exact me.elim
    | cont => exact me.elim
  | false => exact wpAny_execs_nil ((no a ha hb).run _ _ (st.step p))⟩

structure Asg (g : G) (A : Around) (F : Fx) (ρ : Rho) (t : Expr) (d : V) (ρ' : Rho) : Prop where
  run : ∀ O s v, StO g F ρ O s → Rep g s.heap (UU F O) d v → wpAny g.M A (assign t F.env v) (fun zz s' => ∃ O', StO g F ρ' O' s') noE s
theorem Asg.name {x px d} (hx : CanStore F x) : Asg g A F ρ (.Name x px) d (ρ.put x (.imm d)) where
  run := fun O s v st r => wpAny_assign_Name (st.storeImm hx r fun s' st' => ⟨_, st'⟩)
inductive Names : List Expr → List Str → Prop
  | nil : Names [] []
  | cons {x p es xs} : Names es xs → Names (.Name x p :: es) (x :: xs)
inductive Puts : Rho → List Str → List V → Rho → Prop
  | nil {ρ : Rho} : Puts ρ [] [] ρ
  | cons {ρ : Rho} {x d xs ds ρ₂} : Puts (ρ.put x (.imm d)) xs ds ρ₂ → Puts ρ (x :: xs) (d :: ds) ρ₂

theorem names_each {es xs} (n : Names es xs) {env : Env} : (assignEach es env).length = xs.length ∧ (assignEach es env).findIdx? (·.1) = none := by
  induction n with
  | nil => exact ⟨rfl, rfl⟩
  | @cons x p es xs n ih => exact ⟨by show (assignEach es env).length + 1 = _; rw [ih.1]; rfl, by show List.findIdx? _ ((false, assign (.Name x p) env) :: assignEach es env) = none; rw [List.findIdx?_cons]; simp [ih.2]⟩
theorem assignNames {es xs} (n : Names es xs) : ∀ {ρ ρ' : Rho} {O : List (Str × Addr)} {s : Shared} {ds : List V} {vs : List Value}, Puts ρ xs ds ρ' → (∀ x ∈ xs, CanStore F x) → StO g F ρ O s → Reps g s.heap (UU F O) ds vs →
    wpAny g.M A (assignInOrder ((assignEach es F.env).map (·.2)) vs) (fun zz s' => ∃ O', StO g F ρ' O' s') noE s := by
  induction n with
  | nil =>
    intro ρ ρ' O s ds vs p _ st r
    cases p
    exact wpAny_pure ⟨O, st⟩
  | @cons x px es xs n ih =>
    intro ρ ρ' O s ds vs p hx st r
    cases p with
    | cons p =>
      cases r using cC with
      | @cons d v ds vs r rs =>
        refine wpAny_assignInOrder_more (wpAny_assign_Name (st.storeImmR (hx _ (.head _)) r fun s₁ tr st₁ => ?_))
        exact ih p (fun y hy => hx y (.tail _ hy)) st₁ (tr _ _ rs)
theorem puts_len {xs : List Str} {ds : List V} (p : Puts ρ xs ds ρ') : ds.length = xs.length := by
  induction p with
  | nil => rfl
  | cons _ ih => rw [List.length_cons, List.length_cons, ih]
theorem Asg.tup {es k px xs ds} (hh : A.handled = none) (n : Names es xs) (p : Puts ρ xs ds ρ') (hx : ∀ x ∈ xs, CanStore F x) : Asg g A F ρ (.Tuple es k px) (.tup ds) ρ' where
  run := fun O s v st r => by
    cases r using cT with
    | @tup a vs _ nU hl hr =>
      have hn := names_each n (env := F.env)
      refine wpAny_assign_Tuple hh hl (by rw [hn.1, List.size_toArray, hr.length, puts_len p]) hn.2 fun h' hs => ?_
      have hk : ∀ b o, s.heap.get? b = some o → h'.get? b = some o := fun b o e => hs b o (fun q => by rw [q, noneAtSize] at e; cases e) e
      have p₁ : Pur g s { s with heap := h' } := Pur.grow st.wd hk
      exact assignNames n p hx (st.step p₁) (st.reps p₁ hr)
theorem X.assignT {es k px e pos d ρ₂} (h : Ev g A F ρ e d) (a : Asg g A F ρ (.Tuple es k px) d ρ₂) (kk : X g A F ρ₂ rest Q) (hs : swapsWithSole [.Tuple es k px] e pos.line F.env = pure false := by rfl) (hw : swappedStores [.Tuple es k px] e F.env = pure none := by rfl) :
    X g A F ρ (.Assign [.Tuple es k px] e pos :: rest) Q := ⟨fun O s st => by
  refine wpAny_execs_cons (Assign_Tuple (runQ (h.run O s st) fun v s₁ p r => ?_) hs hw)
  refine wpAny_mono (a.run O s₁ v (st.step p) r) (fun zz s₂ q => ?_) fun zz zz x => x
  obtain ⟨O', st'⟩ := q
  exact kk.run _ _ st'⟩
end
end
section
structure Iter (g : G) (A : Around) (t : Expr) (dsrc : V) (a₀ : Addr) (o₀ : Obj) (I : Addr) (ds : List V) where
  st : Nat → Obj → Prop
  mid : Nat → Obj → Value → Prop
  nocode : ∀ k o, st k o → NoCode o
  next : ∀ k d (s : Shared) U o, ds[k]? = some d → st k o → s.heap.get? I = some o → U I → (∀ a, s.heap.get? a = none → ¬ U a) → s.heap.get? a₀ = some o₀ → Rep g s.heap U dsrc (.ref a₀) →
    wpAny g.M A (pyNext (.ref I)) (fun r s' => ∃ v o' h' t', r = some v ∧ mid (k + 1) o' v ∧ s' = { s with heap := h', toks := t' } ∧ Heap.ExtBut I s.heap h' ∧ h'.get? I = some o' ∧ Rep g h' U d v) noE s
  done : ∀ (s : Shared) U o, st ds.length o → s.heap.get? I = some o → U I → s.heap.get? a₀ = some o₀ → Rep g s.heap U dsrc (.ref a₀) →
    wpAny g.M A (pyNext (.ref I)) (fun r s' => ∃ h' t', r = none ∧ s' = { s with heap := h', toks := t' } ∧ Heap.ExtBut I s.heap h') noE s
  self : ∀ k (s : Shared) o (Q : Value → Shared → Prop) E, st k o → s.heap.get? I = some o → Q (.ref I) s → wpAny g.M A (pyIter (.ref I)) Q E s
  own : ∀ k (s : Shared) v d U o, ds[k]? = some d → mid (k + 1) o v → s.heap.get? I = some o → Rep g s.heap U d v → wpAny g.M A (letOwnedTupleGo t (.ref I) v) (fun zz s' => ∃ h' o', s' = { s with heap := h' } ∧ Heap.ExtBut I s.heap h' ∧ h'.get? I = some o' ∧ st (k + 1) o') noE s

section
variable {A : Around} {F : Fx} {ρ ρ' : Rho} {O : List (Str × Addr)} {s : Shared} {Q : Res → Prop} {rest : List Stmt}

theorem Iter.nextK {t : Expr} {dsrc : V} {a₀ : Addr} {o₀ : Obj} {I : Addr} {ds : List V} (IT : Iter g A t dsrc a₀ o₀ I ds) {k : Nat} {d : V} {U : Addr → Prop} {o : Obj} {K : Option Value → Shared → Prop} (hd : ds[k]? = some d) (ho : IT.st k o) (hg : s.heap.get? I = some o) (hU : U I) (hf : ∀ a, s.heap.get? a = none → ¬ U a) (hx : s.heap.get? a₀ = some o₀) (hr : Rep g s.heap U dsrc (.ref a₀))
    (k' : ∀ v o' h' t', IT.mid (k + 1) o' v → Heap.ExtBut I s.heap h' → h'.get? I = some o' → Rep g h' U d v → K (some v) { s with heap := h', toks := t' }) : wpAny g.M A (pyNext (.ref I)) K noE s :=
  wpAny_mono (IT.next k d s U o hd ho hg hU hf hx hr) (fun r s' ⟨v, o', h', t', e1, m, e2, x, y, z⟩ => by subst e1 e2; exact k' v o' h' t' m x y z) fun zz zz x => x
theorem Iter.doneK {t : Expr} {dsrc : V} {a₀ : Addr} {o₀ : Obj} {I : Addr} {ds : List V} (IT : Iter g A t dsrc a₀ o₀ I ds) {U : Addr → Prop} {o : Obj} {K : Option Value → Shared → Prop} (ho : IT.st ds.length o) (hg : s.heap.get? I = some o) (hU : U I) (hx : s.heap.get? a₀ = some o₀) (hr : Rep g s.heap U dsrc (.ref a₀))
    (k' : ∀ h' t', Heap.ExtBut I s.heap h' → K none { s with heap := h', toks := t' }) : wpAny g.M A (pyNext (.ref I)) K noE s :=
  wpAny_mono (IT.done s U o ho hg hU hx hr) (fun r s' ⟨h', t', e1, e2, x⟩ => by subst e1 e2; exact k' h' t' x) fun zz zz x => x
theorem Iter.ownK {t : Expr} {dsrc : V} {a₀ : Addr} {o₀ : Obj} {I : Addr} {ds : List V} (IT : Iter g A t dsrc a₀ o₀ I ds) {k : Nat} {d : V} {v : Value} {U : Addr → Prop} {o : Obj} {K : Unit → Shared → Prop} (hd : ds[k]? = some d) (ho : IT.mid (k + 1) o v) (hg : s.heap.get? I = some o) (hr : Rep g s.heap U d v)
    (k' : ∀ u h' o', Heap.ExtBut I s.heap h' → h'.get? I = some o' → IT.st (k + 1) o' → K u { s with heap := h' }) : wpAny g.M A (letOwnedTupleGo t (.ref I) v) K noE s :=
  wpAny_mono (IT.own k s v d U o hd ho hg hr) (fun u s' ⟨h', o', e2, x, y, z⟩ => by subst e2; exact k' u h' o' x y z) fun zz zz x => x
theorem StO.dropObj {it : Str} {l : Addr} {o : Obj} (h : StO g F ((it, .obj l o) :: ρ) O s) (hno : ∀ p ∈ ρ, p.1 ≠ it) (hc : NoCode o) {h' : Heap} {t : Nat} (hs : Heap.ExtBut l s.heap h') :
    StO g F ρ (O.filter fun q => !(q.2 == l)) { s with heap := h', toks := t } := by
  have hO := h.objO (.head _)
  have ho := h.objH (.head _)
  have hl0 := h.newO _ hO
  have hlT := h.tabNe hl0
  have nd := h.nodup
  rw [List.nodup_cons, List.nodup_append] at nd
  have hlO : l ∈ O.map (·.2) := List.mem_map.mpr ⟨_, hO, rfl⟩
  have hlL : F.env.locals ≠ l := fun q => nd.1 (q ▸ List.mem_append_right _ hlO)
  have hlU : UU F O l := .inr (.inr (.inr hlO))
  have memF : ∀ {q}, q ∈ O.filter (fun q => !(q.2 == l)) → q ∈ O ∧ q.2 ≠ l := fun {q} hq => by
    have := List.mem_filter.mp hq; exact ⟨this.1, by simpa using this.2⟩
  have sub : ∀ b, UU F (O.filter fun q => !(q.2 == l)) b → UU F O b := fun b u => by
    rcases u with u | u | u | u
    · exact .inl u
    · exact .inr (.inl u)
    · exact .inr (.inr (.inl u))
    · obtain ⟨q, hq, rfl⟩ := List.mem_map.mp u
      exact .inr (.inr (.inr (List.mem_map.mpr ⟨q, (memF hq).1, rfl⟩)))
  have keep : ∀ b o, b ≠ l → s.heap.get? b = some o → h'.get? b = some o := fun b o n e => hs b o n e
  have keepU : ∀ b o, ¬ UU F O b → s.heap.get? b = some o → h'.get? b = some o := fun b o n e => hs b o (fun q => n (q ▸ hlU)) e
  have hcell : ∀ c v, s.heap.IsCell c v → (c ∈ F.C.map (·.2) ∨ F.U c) → h'.IsCell c v := fun c v x hc => by
    obtain ⟨o', ho', r⟩ := x
    refine ⟨o', keep c o' (fun q => ?_) ho', r⟩
    subst q
    rcases hc with hc | hc
    · exact nd.2.2.2 c hc c hlO rfl
    · obtain ⟨o₂, e⟩ := h.liveU _ hc; rw [hl0] at e; cases e
  have w : Wd g { s with heap := h', toks := t } := ⟨fun b o e => keep b o (fun q => by rw [q, h.baseNone hl0] at e; cases e) (h.wd.keep b o e), fun q hq => by
    obtain ⟨ps, h1, h2, h3⟩ := h.wd.tab q hq
    refine ⟨ps, keep _ _ (hlT q hq) h1, h2, fun pos c e => ?_⟩
    obtain ⟨b, o₂, vs, t, e, hb, hd', r⟩ := h3 pos c e
    exact ⟨b, o₂, vs, t, e, keep _ _ (fun q => by subst q; rw [ho] at hb; cases hb; exact hc vs hd' _ _ r) hb, hd', r⟩, h.wd.gens, h.wd.os⟩
  exact {
    wd := w
    wd0 := h.wd0
    pur := ⟨fun b o n e => keep b o (fun q => by rw [q, hl0] at e; cases e) (h.pur.keep b o n e), w⟩
    liveU := h.liveU
    tabU := h.tabU
    kind := h.kind
    glob := h.glob
    bui := h.bui
    nodup := by
      have hs : ((O.filter fun q => !(q.2 == l)).map (·.2)).Sublist (O.map (·.2)) := List.Sublist.map _ List.filter_sublist
      exact List.Nodup.sublist (List.Sublist.cons_cons _ ((List.Sublist.refl _).append hs)) h.nodup
    newL := h.newL
    newC := h.newC
    newO := fun q hq => h.newO q (memF hq).1
    liveO := fun q hq => let ⟨o, e⟩ := h.liveO q (memF hq).1; ⟨o, keep _ _ (memF hq).2 e⟩
    ns := let ⟨m, n⟩ := h.ns; ⟨m, n.at' fun o e => keep _ _ hlL e⟩
    own := fun q hq => let ⟨a, b, v, e⟩ := h.own q hq; ⟨a, b, v, hcell _ _ e (.inl (List.mem_map.mpr ⟨q, hq, rfl⟩))⟩
    cellsOk := h.cellsOk
    facts := fun y sl hm => by
      obtain ⟨u, hb, hr⟩ := h.facts y sl (.tail _ hm)
      have hy := hno _ hm
      have inF : ∀ a, (y, a) ∈ O → (y, a) ∈ O.filter (fun q => !(q.2 == l)) ∧ a ≠ l := fun a ha => by
        have : a ≠ l := fun e => hy (pairs_inj nd.2.2.1 (e ▸ ha) hO)
        exact ⟨List.mem_filter.mpr ⟨ha, by simpa using this⟩, this⟩
      refine ⟨u, hb.map fun b => ?_, ?_⟩
      · rcases b with ⟨hk, m, hn, hm⟩ | ⟨hk, hx, c, hc, hv⟩
        · exact .inl ⟨hk, m, hn.at' fun o e => keep _ _ hlL e, hm⟩
        · refine .inr ⟨hk, hx, c, hc, hcell _ _ hv ?_⟩
          rcases h.cellsOk _ _ hc with hm | hu
          · exact .inl (List.mem_map.mpr ⟨_, hm, rfl⟩)
          · exact .inr hu
      · exact hr.mv (fun b u n zz => n (sub b u)) keepU fun a hm => ⟨(inF a hm).1, fun o e => keep _ _ (inF a hm).2 e⟩ }

theorem forCore {t : Expr} {body : List Stmt} {it it₂ : Str} {dsrc : V} {a₀ : Addr} {o₀ : Obj} {I : Addr} {ds : List V} {R : Result → Shared → Prop} (hne : it₂ ≠ it) (IT : Iter g A t dsrc a₀ o₀ I ds) (Inv : Nat → Rho) (P : Nat → Prop) (hI : ∀ k, ∀ p ∈ Inv k, p.1 ≠ it)
    (turn : ∀ k d, ds[k]? = some d → P k → ∀ hid₁ hid₂, ∃ ρ₁, Asg g A F ((it, hid₁) :: (it₂, hid₂) :: Inv k) t d ρ₁ ∧
      X g A F ρ₁ body (fun r => match r with | .next ρ' => P (k + 1) ∧ ∀ p ∈ (it, hid₁) :: (it₂, hid₂) :: Inv (k + 1), p ∈ ρ' | .ret d => Q (.ret d)))
    (hfin : ∀ O s, P ds.length → StO g F (Inv ds.length) O s → R (.ok .next) s) (hret : ∀ v s, Meets g F Q (.ret v) s → R (.ok (.ret v)) s) {o : Obj} (st : StO g F ((it, .obj I o) :: (it₂, .fix dsrc a₀ o₀) :: Inv 0) O s) (h0 : IT.st 0 o) (p0 : P 0) :
    codeAny g.M A (.forLoop t (.ref I) body [] F.env) R s := by
  refine codeAny_forLoop_any (fun n s => ∃ k O o, n + k = ds.length ∧ P k ∧ IT.st k o ∧ StO g F ((it, .obj I o) :: (it₂, .fix dsrc a₀ o₀) :: Inv k) O s) ?_ ds.length ⟨0, O, o, rfl, p0, h0, st⟩
  rintro n s ⟨k, O, o, hn, hP, ho, st⟩
  have hO := st.objO (.head _)
  have hget := st.objH (.head _)
  have hfix := st.fixH (.tail _ (.head _))
  have hrep := st.fixR (.tail _ (.head _))
  have hU : UU F O I := .inr (.inr (.inr (List.mem_map.mpr ⟨_, hO, rfl⟩)))
  have hno : ∀ p ∈ (it₂, Sl.fix dsrc a₀ o₀) :: Inv k, p.1 ≠ it := fun p hp => by
    rcases List.mem_cons.mp hp with e | hp
    · rw [e]; exact hne
    · exact hI k p hp
  cases n with
  | zero =>
    have hk : k = ds.length := by lia
    subst hk
    refine noE_to (IT.doneK ho hget hU hfix hrep fun h' t' hs => ?_)
    exact wpAny_execs_nil (hfin _ _ hP ((st.dropObj hno (IT.nocode _ _ ho) hs).sub fun p hp => .tail _ hp))
  | succ n =>
    have hlt : k < ds.length := by lia
    have hd : ds[k]? = some ds[k] := List.getElem?_eq_getElem hlt
    refine noE_to (IT.nextK hd ho hget hU (fun zz e => st.fresh e) hfix hrep fun v o' h' t' ho' hs hget' hv => ?_)
    refine noE_to (IT.ownK (s := { s with heap := h', toks := t' }) hd ho' hget' hv fun zz h₂ o₂ hs₂ hget₂ ho₂ => ?_)
    have hs' : Heap.ExtBut I s.heap h₂ := fun b o n e => hs₂ b o n (hs b o n e)
    have st₁ : StO g F ((it, .obj I o₂) :: (it₂, .fix dsrc a₀ o₀) :: Inv k) O { s with heap := h₂, toks := t' } :=
      (st.setObj (.head _) (t := t') hs' (IT.nocode _ _ ho) hget₂).sub fun p hp => by
        rcases List.mem_cons.mp hp with e | hp
        · rw [e]; exact .head _
        · refine .tail _ (List.mem_filter.mpr ⟨.tail _ hp, ?_⟩)
          have := hno p hp
          simpa using this
    refine ngI fun hNg => ?_
    obtain ⟨ρ₁, ha, hb⟩ := turn k ds[k] hd hP (.obj I o₂) (.fix dsrc a₀ o₀)
    refine ngE hNg ?_
    have hv' : Rep g h₂ (UU F O) ds[k] v := Rep.mono (fun zz u n zz => n u) (fun b o n e => hs₂ b o (fun q => n (q ▸ hU)) e) hv
    refine noE_to (wpAny_mono (ha.run O _ v st₁ hv') (fun zz s₂ q => ?_) fun zz zz x => x)
    refine ngI fun hNg => ?_
    obtain ⟨O₂, st₂⟩ := q
    refine ngE hNg ?_
    refine noE_to (wpAny_mono (hb.run O₂ s₂ st₂) (fun fl s₃ m => ?_) fun zz zz x => x)
    cases fl with
    | next =>
      refine ngI fun hNg => ?_
      obtain ⟨ρ', O', ⟨hP', hsub⟩, st'⟩ := m
      refine ngE hNg ?_
      exact ⟨n, Nat.lt_succ_self n, k + 1, O', o₂, by lia, hP', ho₂, st'.sub hsub⟩
    | ret v => exact hret v s₃ m
    | brk => exact m.elim
    | cont => exact m.elim

noncomputable def Iter.list (hh : A.handled = none) {t : Expr} {xs : List V} {a I : Addr} {o₀ : Obj} (hne : a ≠ I) (ht : (∃ x p, t = .Name x p) ∨ (∃ es k p, t = .Tuple es k p ∧ ∀ d ∈ xs, ∃ ds, d = .tup ds)) : Iter g A t (.lst xs) a o₀ I xs where
  st k o := o.cls = .type "list_iterator" ∧ o.data = .fields #[.ref a, .int k 0]
  mid k o _ := o.cls = .type "list_iterator" ∧ o.data = .fields #[.ref a, .int k 0]
  nocode := fun k o h vs e q t => by rw [h.2] at e; cases e; simp
  next := fun k d s U o hd h ho hU zz zz r => by
    cases r using cL with
    | @lst _ vs _ n hl hr =>
      obtain ⟨v, hv, rv⟩ := hr.getD hd
      refine wpAny_pyNext_list_item (it := I) (l := a) (i := k) (x := v) ⟨o, ho, h.1, h.2⟩ hl (by simpa using hv) fun h' hi hs => ?_
      obtain ⟨o', ho', h1, h2⟩ := hi
      exact ⟨v, o', h', s.toks, rfl, ⟨h1, h2⟩, rfl, hs.extBut, ho', Rep.mono (fun zz u n zz => n u) (fun b o n e => (hs.2 b fun q => n (q ▸ hU)).trans e) rv⟩
  done := fun s U o h ho hU zz r => by
    cases r using cL with
    | @lst _ vs _ n hl hr =>
      refine wpAny_pyNext_list_end hh (it := I) (l := a) (i := xs.length) ⟨o, ho, h.1, h.2⟩ hl (by simp [hr.length]) fun h' hs => ?_
      exact ⟨h', s.toks, rfl, rfl, hs⟩
  self := fun k s o Q E h ho q => wpAny_pyIter_listiter (i := k) ⟨o, ho, h.1, h.2⟩ q
  own := fun k s v d U o hd hst ho r => by
    rcases ht with ⟨x, p, rfl⟩ | ⟨es, kk, p, rfl, hx⟩
    · exact wpAny_pure ⟨s.heap, o, rfl, fun zz zz zz e => e, ho, hst⟩
    · obtain ⟨ds, rfl⟩ := hx d (List.mem_of_getElem? hd)
      cases r using cT with
      | tup _ _ _ => exact wpAny_letOwnedTupleGo_listiter (i := k + 1) ⟨o, ho, hst.1, hst.2⟩ ⟨s.heap, o, rfl, fun zz zz zz e => e, ho, hst⟩
noncomputable def Iter.range (hh : A.handled = none) {x : Str} {p : Pos} {a b : Int} {r I : Addr} {o₀ : Obj} : Iter g A (.Name x p) (.rng a b) r o₀ I ((upto a b).map .int) where
  st k o := o = { cls := .type "range_iterator", dict := none, data := .fields #[rawInt (a + (k : Int)), rawInt (((b - a).toNat : Int) - (k : Int)), rawInt 1], slots := #[] }
  mid k o _ := o = { cls := .type "range_iterator", dict := none, data := .fields #[rawInt (a + (k : Int)), rawInt (((b - a).toNat : Int) - (k : Int)), rawInt 1], slots := #[] }
  nocode := fun k o h vs e q t => by rw [h] at e; cases e; simp [rawInt]
  next := fun k d s U o hd h ho hU zz zz r => by
    have hlt : k < (b - a).toNat := by
      rcases Nat.lt_or_ge k (b - a).toNat with h | h
      · exact h
      · rw [List.getElem?_eq_none (by simpa [upto] using h)] at hd; cases hd
    have hd' : d = .int (a + (k : Int)) := by
      simp [upto, List.getElem?_map, List.getElem?_range hlt] at hd; exact hd.symm
    subst h; subst hd'
    refine wpAny_pyNext_range_item (it := I) ho (by lia) fun h' hi hs => ?_
    refine ⟨_, _, h', _, rfl, ?_, rfl, hs.extBut, hi, .int _ _⟩
    have e1 : a + ((k + 1 : Nat) : Int) = a + (k : Int) + 1 := by push_cast; lia
    have e2 : ((b - a).toNat : Int) - ((k + 1 : Nat) : Int) = ((b - a).toNat : Int) - (k : Int) - 1 := by push_cast; lia
    rw [e1, e2]
  done := fun s U o h ho hU zz r => by
    subst h
    refine wpAny_pyNext_range_end hh (it := I) ho (by simp [upto]) fun h' hs => ?_
    exact ⟨h', s.toks, rfl, rfl, hs⟩
  self := fun k s o Q E h ho q => by subst h; exact wpAny_pyIter_rangeiter ho q
  own := fun k s v d U o hd hst ho r => wpAny_pure ⟨s.heap, o, rfl, fun zz zz zz e => e, ho, hst⟩

theorem X.forL {t e body pos xs} (it it₂ : Str) (hh : A.handled = none) (he : Ev g A F ρ e (.lst xs)) (ht : (∃ x p, t = .Name x p) ∨ (∃ es k p, t = .Tuple es k p ∧ ∀ d ∈ xs, ∃ ds, d = .tup ds)) (Inv : Nat → Rho) (P : Nat → Prop) (hne : it₂ ≠ it) (hI : ∀ k, ∀ p ∈ Inv k, p.1 ≠ it)
    (p0 : P 0) (hsub : ∀ p ∈ Inv 0, p ∈ ρ)
    (turn : ∀ k d, xs[k]? = some d → P k → ∀ hid₁ hid₂, ∃ ρ₁, Asg g A F ((it, hid₁) :: (it₂, hid₂) :: Inv k) t d ρ₁ ∧
      X g A F ρ₁ body (fun r => match r with | .next ρ' => P (k + 1) ∧ ∀ p ∈ (it, hid₁) :: (it₂, hid₂) :: Inv (k + 1), p ∈ ρ' | .ret d => Q (.ret d)))
    (fin : P xs.length → X g A F (Inv xs.length) rest Q) (hs : ∀ x, foldedSetIterable e F.env x = pure x := by intro _; rfl) : X g A F ρ (.For t e body [] pos :: rest) Q := ⟨fun O s st => by
  refine wpAny_execs_cons (wpAny_For (runQ (he.run O s st) fun v s₁ p r => ?_) hs)
  have st₁ := st.step p
  cases r using cL with
  | @lst a vs _ n hl hr =>
    refine wpAny_pyIter_list hl ?_
    have st₂ := ((st₁.addFix (x := it₂) n hl.choose_spec.1 (.lst n hl hr)).addObj (x := it) (Pur.push (t := s₁.toks) (o := { cls := .type "list_iterator", data := .fields #[.ref a, .int 0 0] }) st₁.wd) (noneAtSize _) (Heap.get?_push_size _ rfl)).sub (ρ' := (it, .obj _ _) :: (it₂, .fix _ _ _) :: Inv 0) fun p hp => by
      rcases List.mem_cons.mp hp with e | hp
      · rw [e]; exact .head _
      · rcases List.mem_cons.mp hp with e | hp
        · rw [e]; exact .tail _ (.head _)
        · exact .tail _ (.tail _ (hsub p hp))
    have hne' : a ≠ s₁.heap.objs.size := fun q => by
      obtain ⟨o, ho, _⟩ := hl
      rw [q, noneAtSize] at ho; cases ho
    refine forCore (Q := Q) hne (Iter.list hh hne' ht) Inv P hI turn ?_ ?_ st₂ ⟨rfl, rfl⟩ p0
    · exact fun O s hP st => (fin hP).run O s st
    · exact fun v s m => m⟩
theorem X.forR {x px e body pos a b} (it it₂ : Str) (hh : A.handled = none) (he : Ev g A F ρ e (.rng a b)) (h1 : -(2 ^ 62) ≤ a) (h2 : a < 2 ^ 62) (h3 : -(2 ^ 62) ≤ b) (h4 : b < 2 ^ 62) (hx : CanStore F x) (Inv : Nat → Rho) (P : Nat → Prop) (hne : it₂ ≠ it) (hI : ∀ k, ∀ p ∈ Inv k, p.1 ≠ it)
    (p0 : P 0) (hsub : ∀ p ∈ Inv 0, p ∈ ρ)
    (turn : ∀ k : Nat, k < (b - a).toNat → P k → ∀ hid₁ hid₂, X g A F (Rho.put ((it, hid₁) :: (it₂, hid₂) :: Inv k) x (.imm (.int (a + (k : Int))))) body (fun r => match r with | .next ρ' => P (k + 1) ∧ ∀ p ∈ (it, hid₁) :: (it₂, hid₂) :: Inv (k + 1), p ∈ ρ' | .ret d => Q (.ret d)))
    (fin : P (b - a).toNat → X g A F (Inv (b - a).toNat) rest Q) (hs : ∀ x, foldedSetIterable e F.env x = pure x := by intro _; rfl) : X g A F ρ (.For (.Name x px) e body [] pos :: rest) Q := ⟨fun O s st => by
  refine wpAny_execs_cons (wpAny_For (runQ (he.run O s st) fun v s₁ p r => ?_) hs)
  have st₁ := st.step p
  cases r using cR with
  | @rng r _ _ _ _ _ n hr =>
    refine wpAny_pyIter_range hr (small_one h1 h2 h3 h4) ?_
    have st₂ := ((st₁.addFix (x := it₂) n hr (.rng n hr)).addObj (x := it) (Pur.push (t := s₁.toks) (o := { cls := .type "range_iterator", data := .fields #[rawInt a, rawInt (Builtin.Range.rangeSize a b 1), rawInt 1] }) st₁.wd) (noneAtSize _) (Heap.get?_push_size _ rfl)).sub (ρ' := (it, .obj _ _) :: (it₂, .fix _ _ _) :: Inv 0) fun p hp => by
      rcases List.mem_cons.mp hp with e | hp
      · rw [e]; exact .head _
      · rcases List.mem_cons.mp hp with e | hp
        · rw [e]; exact .tail _ (.head _)
        · exact .tail _ (.tail _ (hsub p hp))
    have hlen : ((upto a b).map V.int).length = (b - a).toNat := by simp [upto]
    refine forCore (Q := Q) hne (Iter.range hh (a := a) (b := b)) Inv P hI (fun k d hd hP hid₁ hid₂ => ?_) ?_ ?_ st₂ ?_ p0
    · have hlt : k < (b - a).toNat := by
        rcases Nat.lt_or_ge k (b - a).toNat with h | h
        · exact h
        · rw [List.getElem?_eq_none (by rw [hlen]; exact h)] at hd; cases hd
      have hd' : d = .int (a + (k : Int)) := by
        simp [upto, List.getElem?_map, List.getElem?_range hlt] at hd; exact hd.symm
      subst hd'
      exact ⟨_, .name hx, turn k hlt hP hid₁ hid₂⟩
    · rw [hlen]; exact fun O s hP st => (fin hP).run O s st
    · exact fun v s m => m
    · show ({ cls := .type "range_iterator", data := .fields #[rawInt a, rawInt (Builtin.Range.rangeSize a b 1), rawInt 1] } : Obj) = _
      rw [rangeSize_nat]; simp⟩
end
end
section
structure Scp (sc : Scope) : Prop where
  kind : sc.kind = .function
  nodup : (sc.names.map (·.1)).Nodup
  noclass : ∀ q ∈ sc.names, (q.1 == ("__classdict__" : Str)) = false
noncomputable def scpB (sc : Scope) : Bool := sc.kind == .function && decide (sc.names.map (·.1)).Nodup && sc.names.all fun q => !(q.1 == ("__classdict__" : Str))
theorem Scp.of {sc : Scope} (h : scpB sc = true) : Scp sc := by
  unfold scpB at h
  rw [Bool.and_eq_true, Bool.and_eq_true] at h
  refine ⟨by simpa using h.1.1, by simpa using h.1.2, fun q hq => ?_⟩
  have := List.all_eq_true.mp h.2 q hq
  simpa using this
theorem lookup_nodup {α : Type} {l : List (Str × α)} (nd : (l.map (·.1)).Nodup) {x : Str} {k : α} (h : (x, k) ∈ l) : l.lookup x = some k := by
  induction l with
  | nil => cases h
  | cons p r ih =>
    rw [List.map_cons, List.nodup_cons] at nd
    obtain ⟨y, k'⟩ := p
    rcases List.mem_cons.mp h with e | h'
    · cases e; simp only [List.lookup_cons, beq_self_eq_true]
    · have hne : (x == y) = false := by
        rw [beq_eq_false_iff_ne]; rintro rfl
        exact nd.1 (List.mem_map.mpr ⟨_, h', rfl⟩)
      simp only [List.lookup_cons, hne]
      exact ih nd.2 h'
theorem cellsFrom_spec (names : List (Str × NameKind)) : ∀ (n : Nat) (acc : List (Str × Addr)), ∀ q, q ∈ cellsFrom n names acc → q ∈ acc ∨ ((q.1, NameKind.cell) ∈ names ∧ n ≤ q.2) := by
  induction names with
  | nil => intro n acc q h; exact .inl h
  | cons p r ih =>
    obtain ⟨y, k⟩ := p
    intro n acc q h
    unfold cellsFrom at h
    split at h
    · rename_i hk
      rcases ih _ _ _ h with h | ⟨h, hn⟩
      · rcases List.mem_cons.mp h with e | h
        · subst e; exact .inr ⟨by rw [eq_of_beq hk]; exact .head _, Nat.le_refl _⟩
        · exact .inl h
      · exact .inr ⟨.tail _ h, by lia⟩
    · rcases ih _ _ _ h with h | ⟨h, hn⟩
      · exact .inl h
      · exact .inr ⟨.tail _ h, hn⟩
theorem cellsFrom_keys (names : List (Str × NameKind)) : ∀ (n : Nat) (acc : List (Str × Addr)), (names.map (·.1)).Nodup → (acc.map (·.1)).Nodup → (∀ q ∈ acc, q.1 ∉ names.map (·.1)) → ((cellsFrom n names acc).map (·.1)).Nodup := by
  induction names with
  | nil => intro n acc _ h _; exact h
  | cons p r ih =>
    obtain ⟨y, k⟩ := p
    intro n acc nd ha hd
    rw [List.map_cons, List.nodup_cons] at nd
    unfold cellsFrom
    split
    · refine ih _ _ nd.2 ?_ ?_
      · rw [List.map_cons, List.nodup_cons]
        refine ⟨fun h => ?_, ha⟩
        obtain ⟨q, hq, e⟩ := List.mem_map.mp h
        exact hd q hq (by rw [List.map_cons]; exact e ▸ .head _)
      · intro q hq h
        rcases List.mem_cons.mp hq with e | hq
        · subst e; exact nd.1 h
        · exact hd q hq (.tail _ h)
    · exact ih _ _ nd.2 ha fun q hq h => hd q hq (.tail _ h)
theorem cellsFrom_has (names : List (Str × NameKind)) : ∀ (n : Nat) (acc : List (Str × Addr)) (x : Str), ((x, NameKind.cell) ∈ names ∨ x ∈ acc.map (·.1)) → x ∈ (cellsFrom n names acc).map (·.1) := by
  induction names with
  | nil => intro n acc x h; exact h.resolve_left nofun
  | cons p r ih =>
    obtain ⟨y, k⟩ := p
    intro n acc x h
    unfold cellsFrom
    split
    · refine ih _ _ _ ?_
      rcases h with h | h
      · rcases List.mem_cons.mp h with e | h
        · cases e; exact .inr (.head _)
        · exact .inl h
      · exact .inr (.tail _ h)
    · rename_i hk
      refine ih _ _ _ ?_
      rcases h with h | h
      · rcases List.mem_cons.mp h with e | h
        · cases e; exact absurd rfl hk
        · exact .inl h
      · exact .inr h

theorem bindL_keep {kindOf : Str → Option NameKind} {x : Str} : ∀ {binds : List (Str × Value)} {m : Str → Option Value}, x ∉ binds.map (·.1) → bindL kindOf binds m x = m x
  | [], _, _ => rfl
  | (y, v) :: r, m, h => by
    rw [List.map_cons, List.mem_cons] at h
    unfold bindL
    rw [bindL_keep fun q => h (.inr q)]
    split
    · have : x ≠ y := fun e => h (.inl e)
      simp [this]
    · rfl
theorem bindC_keep {kindOf : Str → Option NameKind} {x : Str} : ∀ {binds : List (Str × Value)} {m : Str → Option Value}, x ∉ binds.map (·.1) → bindC kindOf binds m x = m x
  | [], _, _ => rfl
  | (y, v) :: r, m, h => by
    rw [List.map_cons, List.mem_cons] at h
    unfold bindC
    rw [bindC_keep fun q => h (.inr q)]
    split
    · rfl
    · have : x ≠ y := fun e => h (.inl e)
      simp [this]
theorem bindL_at {kindOf : Str → Option NameKind} {x : Str} {v : Value} (hk : kindOf x = some .local) : ∀ {binds : List (Str × Value)} {m : Str → Option Value}, (binds.map (·.1)).Nodup → (x, v) ∈ binds → bindL kindOf binds m x = some v
  | [], _, _, h => nomatch h
  | (y, u) :: r, m, nd, h => by
    rw [List.map_cons, List.nodup_cons] at nd
    unfold bindL
    rcases List.mem_cons.mp h with e | h
    · cases e; rw [bindL_keep nd.1, if_pos hk]; simp
    · exact bindL_at hk nd.2 h
theorem bindC_at {kindOf : Str → Option NameKind} {x : Str} {v : Value} (hk : kindOf x ≠ some .local) : ∀ {binds : List (Str × Value)} {m : Str → Option Value}, (binds.map (·.1)).Nodup → (x, v) ∈ binds → bindC kindOf binds m x = some v
  | [], _, _, h => nomatch h
  | (y, u) :: r, m, nd, h => by
    rw [List.map_cons, List.nodup_cons] at nd
    unfold bindC
    rcases List.mem_cons.mp h with e | h
    · cases e; rw [bindC_keep nd.1, if_neg hk]; simp
    · exact bindC_at hk nd.2 h

theorem live_none {s s' : Shared} (p : Pur g s s') {a : Addr} (h : s'.heap.get? a = none) : s.heap.get? a = none := by
  cases q : s.heap.get? a with
  | none => rfl
  | some o => obtain ⟨o', e⟩ := p.live ⟨o, q⟩; rw [h] at e; cases e

noncomputable def mkF (fd : FuncData) (a : Addr) (U : Addr → Prop) (s : Shared) : Fx :=
  { env := callEnvC fd s.heap.objs.size a, U := U, s₀ := s, C := cellsFrom (s.heap.objs.size + 1) fd.scope.names [] }

noncomputable def slots (names : List Str) (ds : List V) : Rho := names.zip (ds.map .imm)

section
variable {U : Addr → Prop} {s s' : Shared} {fd : FuncData} {a : Addr}

theorem reps_zip {h : Heap} {x : Str} {sl : Sl} : ∀ {names : List Str} {ds : List V} {vals : List Value}, Reps g h U ds vals → (x, sl) ∈ slots names ds → ∃ d v, sl = .imm d ∧ (x, v) ∈ names.zip vals ∧ Rep g h U d v
  | [], _, _, _, m => by cases m
  | _ :: _, _, _, .nil, m => by cases m
  | n :: names, _, _, .cons a r, m => by
    rcases List.mem_cons.mp m with e | m
    · cases e; exact ⟨_, _, rfl, .head _, a⟩
    · obtain ⟨d, v, e, m', r'⟩ := reps_zip r m; exact ⟨d, v, e, .tail _ m', r'⟩

theorem start (hsc : Scp fd.scope) (hg : fd.globals = mainGlobals) (hb : fd.builtins = builtinsNs) (w : Wd g s) (hU : ∀ a, U a → ∃ o, s.heap.get? a = some o) (tabU : ∀ q ∈ g.tabs, U q.2.1) {names : List Str} {ds : List V} {vals : List Value}
    (hk : ∀ x ∈ names, fd.scope.names.lookup x = some .local ∨ fd.scope.names.lookup x = some .cell) (nd : names.Nodup) (r : Reps g s.heap U ds vals)
    (x : InCallC s (callEnvC fd s.heap.objs.size a).locals (bindL (callEnvC fd s.heap.objs.size a).kindOf (names.zip vals) fun zz => none) (callEnvC fd s.heap.objs.size a).cells (bindC (callEnvC fd s.heap.objs.size a).kindOf (names.zip vals) fun zz => none) s') :
    StO g (mkF fd a U s) (slots names ds) [] s' := by
  obtain ⟨h', tk, rfl, keep⟩ := x.done
  have p : Pur g s { s with heap := h', toks := tk } := Pur.grow w keep
  have hC := cellsFrom_spec fd.scope.names (s.heap.objs.size + 1) []
  have hC' : ∀ q ∈ cellsFrom (s.heap.objs.size + 1) fd.scope.names [], (q.1, NameKind.cell) ∈ fd.scope.names ∧ s.heap.objs.size + 1 ≤ q.2 := fun q hq => (hC q hq).resolve_left nofun
  have keys := cellsFrom_keys fd.scope.names (s.heap.objs.size + 1) [] hsc.nodup List.nodup_nil nofun
  have none_of : ∀ b, s.heap.objs.size ≤ b → s.heap.get? b = none := fun b hb => Heap.get?_none_of_le hb
  have notU : ∀ b, s.heap.get? b = none → ¬ U b := fun b e u => by obtain ⟨o, q⟩ := hU b u; rw [e] at q; cases q
  have zipnd : ((names.zip vals).map (·.1)).Nodup := by
    have sub : ∀ (ns : List Str) (vs : List Value), ((ns.zip vs).map (·.1)).Sublist ns := by
      intro ns
      induction ns with
      | nil => intro vs; exact List.Sublist.refl _
      | cons n ns ih =>
        intro vs
        cases vs with
        | nil => exact List.nil_sublist _
        | cons v vs => exact (ih vs).cons_cons n
    exact List.Nodup.sublist (sub _ _) nd
  exact {
    wd := p.wd
    wd0 := w
    pur := p
    liveU := hU
    tabU := tabU
    kind := hsc.kind
    glob := hg
    bui := hb
    nodup := by
      have e : (([] : List (Str × Addr)).map (·.2)) = [] := rfl
      rw [e, List.append_nil, List.nodup_cons]
      refine ⟨fun h => ?_, ?_⟩
      · obtain ⟨q, hq, e⟩ := List.mem_map.mp h
        have h1 := (hC' q hq).2
        rw [e] at h1
        exact absurd h1 (Nat.not_succ_le_self _)
      · have := x.apart
        rw [List.nodup_iff_pairwise_ne] 
        exact List.pairwise_map.mpr this
    newL := noneAtSize _
    newC := fun q hq => none_of _ (by have := (hC' q hq).2; lia)
    newO := nofun
    liveO := nofun
    ns := ⟨_, x.toInCall.ns⟩
    own := fun q hq => ⟨⟨lookup_nodup hsc.nodup (hC' q hq).1, hsc.noclass _ (hC' q hq).1⟩, lookup_nodup keys hq, _, x.cell _ _ (lookup_nodup keys hq)⟩
    cellsOk := fun y c e => .inl (PySem.mem_of_lookup e)
    facts := fun y sl hm => by
      obtain ⟨d, v, rfl, hz, hr⟩ := reps_zip r hm
      refine ⟨v, ?_, Rep.mono (fun b u n e => ?_) (fun b o zz e => keep b o e) hr⟩
      · show Bound _ _ _ _
        have hy : y ∈ names := (List.of_mem_zip hz).1
        rcases hk y hy with h | h
        · exact .inl ⟨h, _, x.toInCall.ns, bindL_at h zipnd hz⟩
        · have hmem := PySem.mem_of_lookup h
          obtain ⟨q, hq, e⟩ := List.mem_map.mp (cellsFrom_has fd.scope.names (s.heap.objs.size + 1) [] y (.inl hmem))
          have hl : (cellsFrom (s.heap.objs.size + 1) fd.scope.names []).lookup y = some q.2 := lookup_nodup keys (by rw [← e]; exact hq)
          refine .inr ⟨.inl h, hsc.noclass _ hmem, q.2, hl, ?_⟩
          have := x.cell y q.2 hl
          rw [bindC_at (v := v) (by show fd.scope.names.lookup y ≠ _; rw [h]; simp) zipnd hz] at this
          exact this
      · rcases u with u | u | u | u
        · exact n u
        · rw [u] at e; exact e (noneAtSize _)
        · obtain ⟨q, hq, rfl⟩ := List.mem_map.mp u
          exact e (none_of _ (by have := (hC' q hq).2; lia))
        · cases u }
end
end
section
section
variable {A : Around} {F : Fx} {ρ ρ' : Rho} {O : List (Str × Addr)} {s : Shared} {Q : Res → Prop} {rest : List Stmt}

theorem StO.addMany (h : StO g F ρ O s) {s₂ : Shared} (p : Pur g s s₂) (N : List (Str × Addr)) (nd : (N.map (·.2)).Nodup) (hN : ∀ q ∈ N, s.heap.get? q.2 = none) (live : ∀ q ∈ N, ∃ o, s₂.heap.get? q.2 = some o) : StO g F ρ (O ++ N) s₂ := by
  have h2 := h.step p
  have hU : ∀ b, UU F (O ++ N) b → ¬ UU F O b → s.heap.get? b ≠ none → False := fun b u n e => by
    rcases u with u | u | u | u
    · exact n (.inl u)
    · exact n (.inr (.inl u))
    · exact n (.inr (.inr (.inl u)))
    · obtain ⟨q, hq, rfl⟩ := List.mem_map.mp u
      rcases List.mem_append.mp hq with hq | hq
      · exact n (.inr (.inr (.inr (List.mem_map.mpr ⟨q, hq, rfl⟩))))
      · exact e (hN q hq)
  have e1 : ∀ b o, ¬ UU F O b → s.heap.get? b = some o → s₂.heap.get? b = some o := fun b o n e => p.keep b o (h.tabU' n) e
  have kO : ∀ q ∈ O, ∀ o, s.heap.get? q.2 = some o → s₂.heap.get? q.2 = some o := fun q hq o e => p.keep _ o (fun t ht e' => absurd e' (h.tabNe (h.newO q hq) t ht)) e
  exact {
    wd := h2.wd
    wd0 := h.wd0
    pur := h2.pur
    liveU := h.liveU
    tabU := h.tabU
    kind := h.kind
    glob := h.glob
    bui := h.bui
    nodup := by
      rw [List.map_append, ← List.append_assoc, ← List.cons_append]
      refine List.nodup_append.mpr ⟨h.nodup, nd, fun b hb0 c hc' e => ?_⟩
      subst e
      obtain ⟨q, hq, rfl⟩ := List.mem_map.mp hc'
      refine h.fresh (hN q hq) ?_
      rcases List.mem_cons.mp hb0 with e | hb
      · exact .inr (.inl e)
      · rcases List.mem_append.mp hb with hb | hb
        · exact .inr (.inr (.inl hb))
        · exact .inr (.inr (.inr hb))
    newL := h.newL
    newC := h.newC
    newO := fun q hq => (List.mem_append.mp hq).elim (h.newO q) fun hq => h.s0None (hN q hq)
    liveO := fun q hq => (List.mem_append.mp hq).elim (h2.liveO q) (live q)
    ns := h2.ns
    own := h2.own
    cellsOk := h.cellsOk
    facts := fun y sl hm => by
      obtain ⟨u, hbu, hr⟩ := h.facts y sl hm
      refine ⟨u, hbu.map (p.bound h.wd), ?_⟩
      exact hr.mv hU e1 fun a hm => ⟨List.mem_append_left _ hm, kO _ hm⟩ }
theorem StO.addFact (h : StO g F ρ O s) {x : Str} {sl : Sl} {v : Value} (hb : Bd F.env s.heap x sl v) (r : SlRep g s.heap (UU F O) O x sl v) : StO g F ((x, sl) :: ρ) O s := by
  refine { h with facts := fun y sl' hm => ?_ }
  rcases List.mem_cons.mp hm with e | hm
  · cases e; exact ⟨v, hb, r⟩
  · exact h.facts y sl' hm

theorem StO.storeAcc {y : Str} {l : Addr} {xs : List V} (h : StO g F ((y, .acc l xs) :: ρ) O s) (hy : ∀ p ∈ ρ, p.1 ≠ y) {A : Around} {M : Model} {x : Str} (hx : CanStore F x) {Q : Unit → Shared → Prop}
    (k : ∀ s' O', StO g F (ρ.put x (.own xs)) O' s' → (∀ b, UU F O' b → UU F O b) → (∀ q ∈ O, q.1 ≠ x → q.1 ≠ y → q ∈ O') → Q () s') : wpAny M A (storeName F.env x (.ref l)) Q (fun zz zz => False) s := by
  have hO := h.accO (.head _)
  obtain ⟨vs, hl, hr⟩ := h.accL (.head _)
  have nd0 := h.nodup
  rw [List.nodup_cons, List.nodup_append] at nd0
  have hlO : l ∈ O.map (·.2) := List.mem_map.mpr ⟨_, hO, rfl⟩
  refine h.store hx fun a h' t ha hs w p hb hyb hn hc => k _ (((dropO O x).filter fun q => !(q.2 == l)) ++ [(x, l)]) ?_ ?_ ?_
  · have hU : UU F O a := by rcases ha with ha | ha; exact .inr (.inl ha); exact .inr (.inr (.inl ha))
    have hOa : ∀ b, b ∈ O.map (·.2) → b ≠ a := fun b hb q => by
      subst q
      rcases ha with ha | ha
      · exact nd0.1 (ha ▸ List.mem_append_right _ hb)
      · exact nd0.2.2.2 b ha b hb rfl
    have keep : ∀ b o, ¬ UU F O b → s.heap.get? b = some o → h'.get? b = some o := fun b o n e => (hs.2 b fun q => n (q ▸ hU)).trans e
    have mO : ∀ {q}, q ∈ ((dropO O x).filter fun q => !(q.2 == l)) ++ [(x, l)] → (q ∈ O ∧ q.1 ≠ x ∧ q.2 ≠ l) ∨ q = (x, l) := fun {q} hq => by
      rcases List.mem_append.mp hq with hq | hq
      · have := List.mem_filter.mp hq; exact .inl ⟨(mem_dropO this.1).1, (mem_dropO this.1).2, by simpa using this.2⟩
      · exact .inr (List.mem_singleton.mp hq)
    have sub : ∀ b, UU F (((dropO O x).filter fun q => !(q.2 == l)) ++ [(x, l)]) b → UU F O b := fun b u => by
      rcases u with u | u | u | u
      · exact .inl u
      · exact .inr (.inl u)
      · exact .inr (.inr (.inl u))
      · obtain ⟨q, hq, rfl⟩ := List.mem_map.mp u
        rcases mO hq with hq | e
        · exact .inr (.inr (.inr (List.mem_map.mpr ⟨q, hq.1, rfl⟩)))
        · rw [e]; exact .inr (.inr (.inr hlO))
    have inO : ∀ z b, (z, b) ∈ O → z ≠ x → z ≠ y → (z, b) ∈ ((dropO O x).filter fun q => !(q.2 == l)) ++ [(x, l)] := fun z b hb hzx hzy => by
      refine List.mem_append_left _ (List.mem_filter.mpr ⟨List.mem_filter.mpr ⟨hb, by simpa using hzx⟩, ?_⟩)
      have : b ≠ l := fun e => hzy (pairs_inj nd0.2.2.1 (e ▸ hb) hO)
      simpa using this
    exact {
      wd := w
      wd0 := h.wd0
      pur := p
      liveU := h.liveU
      tabU := h.tabU
      kind := h.kind
      glob := h.glob
      bui := h.bui
      nodup := by
        have hsub : (((dropO O x).filter fun q => !(q.2 == l)).map (·.2)).Sublist (O.map (·.2)) := List.Sublist.map _ (List.filter_sublist.trans List.filter_sublist)
        have nd := List.Nodup.sublist (List.Sublist.cons_cons F.env.locals ((List.Sublist.refl (F.C.map (·.2))).append hsub)) h.nodup
        rw [List.map_append, ← List.append_assoc, ← List.cons_append]
        refine List.nodup_append.mpr ⟨nd, by simp, fun b hb0 c hc' e => ?_⟩
        rw [List.map_cons, List.map_nil, List.mem_singleton] at hc'
        subst hc'; subst e
        rcases List.mem_cons.mp hb0 with e | hb
        · exact nd0.1 (e ▸ List.mem_append_right _ hlO)
        · rcases List.mem_append.mp hb with hb | hb
          · exact nd0.2.2.2 b hb b hlO rfl
          · obtain ⟨q, hq, e⟩ := List.mem_map.mp hb
            have := (List.mem_filter.mp hq).2
            rw [e] at this; simp at this
      newL := h.newL
      newC := h.newC
      newO := fun q hq => by
        rcases mO hq with hq | e
        · exact h.newO q hq.1
        · rw [e]; exact (h.newO (y, l) hO)
      liveO := fun q hq => by
        rcases mO hq with hq | e
        · obtain ⟨o, e⟩ := h.liveO q hq.1
          exact ⟨o, (hs.2 _ (hOa _ (List.mem_map.mpr ⟨q, hq.1, rfl⟩))).trans e⟩
        · rw [e]
          obtain ⟨o, e⟩ := h.liveO (y, l) hO
          exact ⟨o, (hs.2 _ (hOa _ hlO)).trans e⟩
      ns := hn
      own := fun q hq => ⟨(h.own q hq).1, (h.own q hq).2.1, hc q hq⟩
      cellsOk := h.cellsOk
      facts := fun z sl hm => by
        rcases mem_put hm with ⟨rfl, rfl⟩ | ⟨hne, hm⟩
        · exact ⟨_, Bd.of hb, l, vs, rfl, List.mem_append_right _ (.head _), Heap.PlainList.at hl fun o e => (hs.2 _ (hOa _ hlO)).trans e, Reps.mono (fun b u n zz => n (sub b u)) keep hr⟩
        · have hzy := hy _ hm
          obtain ⟨u, hbu, hr'⟩ := h.facts z sl (.tail _ hm)
          refine ⟨u, hbu.map fun q => hyb z u hne q, ?_⟩
          exact hr'.mv (fun b u n zz => n (sub b u)) keep fun b hm => ⟨inO _ _ hm hne hzy, fun o e => (hs.2 _ (hOa _ (List.mem_map.mpr ⟨_, hm, rfl⟩))).trans e⟩ }
  · intro b u
    rcases u with u | u | u | u
    · exact .inl u
    · exact .inr (.inl u)
    · exact .inr (.inr (.inl u))
    · obtain ⟨q, hq, rfl⟩ := List.mem_map.mp u
      rcases List.mem_append.mp hq with hq | hq
      · exact .inr (.inr (.inr (List.mem_map.mpr ⟨q, (mem_dropO (List.mem_filter.mp hq).1).1, rfl⟩)))
      · rw [List.mem_singleton.mp hq]; exact .inr (.inr (.inr hlO))
  · intro q hq hqx hqy
    refine List.mem_append_left _ (List.mem_filter.mpr ⟨List.mem_filter.mpr ⟨hq, by simpa using hqx⟩, ?_⟩)
    have : q.2 ≠ l := fun e => hqy (pairs_inj nd0.2.2.1 (x := q.1) (y := y) (c := l) (e ▸ hq) hO)
    simpa using this
end
end
section
noncomputable def freeOf (cells : List (Str × Addr)) : List (Str × NameKind) → List (Str × Addr) → List (Str × Addr)
  | [], acc => acc
  | (n, k) :: r, acc => if k == .free then freeOf cells r ((n, (cells.lookup n).getD 0) :: acc) else freeOf cells r acc

theorem forIn_cells {env : Env} : ∀ (names : List (Str × NameKind)) (acc : List (Str × Addr)), (∀ n, (n, NameKind.free) ∈ names → ∃ c, env.cells.lookup n = some c) →
    (forIn names acc fun (x : Str × NameKind) (cs : List (Str × Addr)) => if (x.2 == NameKind.free) = true then (do let c ← cellOf env x.1; pure (ForInStep.yield ((x.1, c) :: cs)) : Sem (ForInStep (List (Str × Addr)))) else pure (ForInStep.yield cs)) = pure (freeOf env.cells names acc)
  | [], acc, _ => by rw [List.forIn_nil]; rfl
  | (n, k) :: r, acc, h => by
    rw [List.forIn_cons]
    unfold freeOf
    by_cases hk : (k == NameKind.free) = true
    · obtain ⟨c, hc⟩ := h n (by rw [eq_of_beq hk]; exact .head _)
      have e1 : cellOf env n = pure c := by unfold cellOf; rw [hc]
      simp only [hk, if_true, e1, pure_bind, hc, Option.getD_some]
      exact forIn_cells r _ fun n hn => h n (.tail _ hn)
    · simp only [hk, if_false, pure_bind, Bool.false_eq_true]
      exact forIn_cells r _ fun n hn => h n (.tail _ hn)
theorem closureFor_cells {scope : Scope} {env : Env} (h : ∀ n, (n, NameKind.free) ∈ scope.names → ∃ c, env.cells.lookup n = some c) : closureFor scope env = pure (freeOf env.cells scope.names []) := by
  have e := forIn_cells (env := env) scope.names [] h
  unfold closureFor
  first
    | exact (bind_pure _).trans e
    | (simp only [bind_pure]; exact e)
    | skip

theorem freeOf_lookup {cells : List (Str × Addr)} {n : Str} {c : Addr} (hc : cells.lookup n = some c) : ∀ (names : List (Str × NameKind)) (acc : List (Str × Addr)), ((n, NameKind.free) ∈ names ∨ acc.lookup n = some c) → (∀ q ∈ acc, q.1 = n → q.2 = c) → (freeOf cells names acc).lookup n = some c
  | [], acc, h, _ => h.resolve_left (fun h => absurd h List.not_mem_nil)
  | (m, k) :: r, acc, h, ha => by
    unfold freeOf
    by_cases hk : (k == NameKind.free) = true
    · rw [if_pos hk]
      refine freeOf_lookup hc r _ ?_ ?_
      · by_cases e : n = m
        · subst e; right; simp [List.lookup_cons, hc]
        · rcases h with h | h
          · rcases List.mem_cons.mp h with h | h
            · cases h; exact absurd rfl e
            · exact .inl h
          · right
            have : (n == m) = false := by simpa using e
            simp only [List.lookup_cons, this]; exact h
      · intro q hq e
        rcases List.mem_cons.mp hq with hq | hq
        · rw [hq] at e ⊢; simp only at e ⊢; rw [e, hc]; rfl
        · exact ha q hq e
    · rw [if_neg hk]
      refine freeOf_lookup hc r _ ?_ ha
      rcases h with h | h
      · rcases List.mem_cons.mp h with h | h
        · cases h; exact absurd rfl hk
        · exact .inl h
      · exact .inr h
theorem freeOf_mem {cells : List (Str × Addr)} : ∀ (names : List (Str × NameKind)) (acc : List (Str × Addr)), ∀ q ∈ freeOf cells names acc, q ∈ acc ∨ ((q.1, NameKind.free) ∈ names ∧ q.2 = (cells.lookup q.1).getD 0)
  | [], acc, q, h => .inl h
  | (m, k) :: r, acc, q, h => by
    unfold freeOf at h
    split at h
    · rename_i hk
      rcases freeOf_mem r _ q h with h | h
      · rcases List.mem_cons.mp h with h | h
        · subst h; exact .inr ⟨by rw [eq_of_beq hk]; exact .head _, rfl⟩
        · exact .inl h
      · exact .inr ⟨.tail _ h.1, h.2⟩
    · rcases freeOf_mem r _ q h with h | h
      · exact .inl h
      · exact .inr ⟨.tail _ h.1, h.2⟩
theorem cellsFrom_acc (names : List (Str × NameKind)) : ∀ (n : Nat) (acc : List (Str × Addr)), cellsFrom n names acc = cellsFrom n names [] ++ acc := by
  induction names with
  | nil => intro n acc; rfl
  | cons p r ih =>
    obtain ⟨y, k⟩ := p
    intro n acc
    unfold cellsFrom
    split
    · rw [ih _ ((y, n) :: acc), ih _ [(y, n)], List.append_assoc]; rfl
    · exact ih n acc

section
variable {M : Model} {A : Around} {E : Value → Shared → Prop} {s : Shared}
theorem newEnv_comp {scope : Scope} {globals : Addr} {cl : List (Str × Addr)} {qual : Str} {outer : Env} {Q : Env → Shared → Prop}
    (h : Q { scope := scope, locals := s.heap.objs.size, globals := globals, cells := cellsFrom (s.heap.objs.size + 1) scope.names cl, qual := qual, func := none, code := outer.code, frame := outer.frame, builtins := outer.builtins } { s with heap := pushCells (s.heap.push { cls := .type "dict", data := .dict #[] }) scope.names }) :
    wpAny M A (newFunctionEnv scope globals cl [] qual none .none (some outer)) Q E s := by
  simp only [newFunctionEnv, Option.isSome_some, if_true]
  refine wpAny_bind (wpAny_alloc ?_)
  refine wpAny_bind (wpAny_layCells _ (fun name kind cells => by cases hkc : kind == NameKind.cell <;> simp [hkc]) _ _ _ _ ?_)
  rw [show ({ s with heap := s.heap.push { cls := .type "dict", data := .dict #[] } } : Shared).heap.objs.size = s.heap.objs.size + 1 from Heap.size_push ..]
  refine wpAny_bind ?_
  rw [List.forIn_nil]
  exact wpAny_pure (wpAny_pure h)
end
end
section
noncomputable def compF (F : Fx) (scope : Scope) (L : Addr) (cells C : List (Str × Addr)) (U : Addr → Prop) (s : Shared) : Fx :=
  { env := { scope := relabel scope F.env, locals := L, globals := F.env.globals, cells := cells, qual := F.env.qual, func := none, code := F.env.code, frame := F.env.frame, builtins := F.env.builtins }, U := U, s₀ := s, C := C }

structure Tests (g : G) (A : Around) (F : Fx) (ρ : Rho) (ifs : List Expr) (b : Bool) : Prop where
  run : ∀ O s, StO g F ρ O s → wpAny g.M A (forIn ifs true fun c r => if r = true then do let ok ← isTrue c F.env (eval c F.env); pure (ForInStep.yield ok) else pure (ForInStep.yield r)) (fun r s' => Pur g s s' ∧ r = b) noE s
theorem Tests.nil {A : Around} {F : Fx} {ρ : Rho} : Tests g A F ρ [] true := ⟨fun zz zz st => wpAny_tests_nil ⟨Pur.refl st.wd, rfl⟩⟩
theorem Tests.one {A : Around} {F : Fx} {ρ : Rho} {c b} (h : Tr g A F ρ c b) : Tests g A F ρ [c] b := ⟨fun O s st => wpAny_tests_one (h.run O s st)⟩

theorem relabel_own {scope : Scope} {env : Env} (nd : (scope.names.map (·.1)).Nodup) {x : Str} {k : NameKind} (hk : k = .local ∨ k = .cell) (h : (x, k) ∈ scope.names) : (relabel scope env).names.lookup x = some k := by
  have e : (relabel scope env).names = scope.names.map fun q => if (q.2 == .free && env.scope.kind == .function && env.kindOf q.1 == some .cell) then (q.1, .cell) else (q.1, q.2) := rfl
  have nd' : ((relabel scope env).names.map (·.1)).Nodup := by
    rw [e, List.map_map]
    have : ((fun x : Str × NameKind => x.1) ∘ fun q : Str × NameKind => if (q.2 == .free && env.scope.kind == .function && env.kindOf q.1 == some .cell) then (q.1, NameKind.cell) else (q.1, q.2)) = fun q => q.1 := by
      funext q; simp only [Function.comp]; split <;> rfl
    rw [this]; exact nd
  refine lookup_nodup nd' ?_
  rw [e]
  refine List.mem_map.mpr ⟨_, h, ?_⟩
  rcases hk with rfl | rfl <;> rfl
theorem relabel_free {scope : Scope} {env : Env} (nd : (scope.names.map (·.1)).Nodup) {x : Str} (h : (x, NameKind.free) ∈ scope.names) : (relabel scope env).names.lookup x = some .cell ∨ (relabel scope env).names.lookup x = some .free := by
  have e : (relabel scope env).names = scope.names.map fun q => if (q.2 == .free && env.scope.kind == .function && env.kindOf q.1 == some .cell) then (q.1, .cell) else (q.1, q.2) := rfl
  have nd' : ((relabel scope env).names.map (·.1)).Nodup := by
    rw [e, List.map_map]
    have : ((fun x : Str × NameKind => x.1) ∘ fun q : Str × NameKind => if (q.2 == .free && env.scope.kind == .function && env.kindOf q.1 == some .cell) then (q.1, NameKind.cell) else (q.1, q.2)) = fun q => q.1 := by
      funext q; simp only [Function.comp]; split <;> rfl
    rw [this]; exact nd
  by_cases hc : (env.scope.kind == .function && env.kindOf x == some .cell) = true
  · left
    refine lookup_nodup nd' ?_
    rw [e]
    refine List.mem_map.mpr ⟨_, h, ?_⟩
    have : ((NameKind.free == NameKind.free) && env.scope.kind == .function && env.kindOf x == some .cell) = true := by simpa using hc
    simp only [this, if_true]
  · right
    refine lookup_nodup nd' ?_
    rw [e]
    refine List.mem_map.mpr ⟨_, h, ?_⟩
    have : ((NameKind.free == NameKind.free) && env.scope.kind == .function && env.kindOf x == some .cell) = false := by simpa using hc
    simp only [this, if_false]; rfl

noncomputable def frRho (fr : List (Str × V)) : Rho := fr.map fun p => (p.1, .imm p.2)
noncomputable def compB (scope : Scope) (env : Env) (names : List Str) : Bool :=
  scpB scope && (scope.names.all fun q => !(q.2 == .free) || names.contains q.1) && names.all fun n => ((env.kindOf n == some .cell || env.kindOf n == some .free) && scope.names.lookup n == some .free) && !(n == "%i") && !(n == "%s") && !(n == "%a")
structure CompOk (scope : Scope) (env : Env) (fr : List (Str × V)) : Prop where
  scp : Scp scope
  all : ∀ n, (n, NameKind.free) ∈ scope.names → ∃ d, (n, d) ∈ fr
  kind : ∀ p ∈ fr, (env.kindOf p.1 = some .cell ∨ env.kindOf p.1 = some .free) ∧ (p.1, NameKind.free) ∈ scope.names
  apart : ∀ p ∈ frRho fr, p.1 ≠ "%i" ∧ p.1 ≠ "%s" ∧ p.1 ≠ "%a"
theorem CompOk.of {scope : Scope} {env : Env} {fr : List (Str × V)} (h : compB scope env (fr.map (·.1)) = true) : CompOk scope env fr := by
  unfold compB at h
  rw [Bool.and_eq_true, Bool.and_eq_true] at h
  obtain ⟨⟨h1, h2⟩, h3⟩ := h
  have h3' : ∀ p ∈ fr, ((env.kindOf p.1 = some .cell ∨ env.kindOf p.1 = some .free) ∧ scope.names.lookup p.1 = some .free) ∧ p.1 ≠ "%i" ∧ p.1 ≠ "%s" ∧ p.1 ≠ "%a" := fun p hp => by
    have := List.all_eq_true.mp h3 p.1 (List.mem_map.mpr ⟨p, hp, rfl⟩)
    simp only [Bool.and_eq_true, Bool.or_eq_true, Bool.not_eq_true', beq_iff_eq, beq_eq_false_iff_ne] at this
    exact ⟨this.1.1.1, this.1.1.2, this.1.2, this.2⟩
  refine ⟨Scp.of h1, fun n hn => ?_, fun p hp => ⟨(h3' p hp).1.1, PySem.mem_of_lookup (h3' p hp).1.2⟩, fun p hp => ?_⟩
  · have := List.all_eq_true.mp h2 _ hn
    simp at this
    exact this
  · obtain ⟨q, hq, rfl⟩ := List.mem_map.mp hp
    exact (h3' q hq).2

section
variable {A : Around} {F : Fx} {ρ ρ' : Rho} {O : List (Str × Addr)} {s : Shared} {Q : Res → Prop} {rest : List Stmt}

theorem CompOk.cell {scope : Scope} {fr : List (Str × V)} (ok : CompOk scope F.env fr) (hmem : ∀ p ∈ frRho fr, p ∈ ρ) (st : StO g F ρ O s) {n : Str} {d : V} (h : (n, d) ∈ fr) :
    ∃ c v, F.env.cells.lookup n = some c ∧ (n == ("__classdict__" : Str)) = false ∧ s.heap.IsCell c (some v) ∧ Rep g s.heap (UU F O) d v := by
  refine ngI fun hNg => ?_
  obtain ⟨v, hb, hr⟩ := st.facts n (.imm d) (hmem _ (List.mem_map.mpr ⟨_, h, rfl⟩))
  refine ngE hNg ?_
  rcases hb with ⟨hk, _⟩ | ⟨_, hz, c, hc, hv⟩
  · rcases (ok.kind _ h).1 with h' | h'
    · rw [h'] at hk; cases hk
    · rw [h'] at hk; cases hk
  · exact ⟨c, v, hc, hz, hv, hr⟩

theorem compStartSt {scope : Scope} {fr : List (Str × V)} (st : StO g F ρ O s) (ok : CompOk scope F.env fr) (hmem : ∀ p ∈ frRho fr, p ∈ ρ) {s₂ : Shared} (p₂ : Pur g s s₂) {I : Addr} {oI : Obj} (hI : s.heap.get? I = none) (hoI : s₂.heap.get? I = some oI)
    {dsrc : V} {a₀ : Addr} {o₀ : Obj} (hn₀ : ¬ UU F O a₀) (hfix : s.heap.get? a₀ = some o₀) (hsrc : Rep g s.heap (UU F O) dsrc (.ref a₀)) {H : Heap} (hH : H = pushCells ((s₂.heap.push { cls := .type "list", data := .seq #[] }).push { cls := .type "dict", data := .dict #[] }) scope.names) :
    StO g (compF F scope (s₂.heap.objs.size + 1) (cellsFrom (s₂.heap.objs.size + 2) scope.names (freeOf F.env.cells scope.names [])) (cellsFrom (s₂.heap.objs.size + 2) scope.names []) (UU F O) s)
      (("%i", .obj I oI) :: ("%s", .fix dsrc a₀ o₀) :: ("%a", .acc s₂.heap.objs.size []) :: frRho fr) [("%i", I), ("%a", s₂.heap.objs.size)] { s₂ with heap := H } := by
  subst hH
  have e1 : (s₂.heap.push { cls := .type "list", data := .seq #[] }).objs.size = s₂.heap.objs.size + 1 := Heap.size_push ..
  have e2 : ((s₂.heap.push { cls := .type "list", data := .seq #[] }).push { cls := .type "dict", data := .dict #[] }).objs.size = s₂.heap.objs.size + 2 := by rw [Heap.size_push, e1]
  have keep : ∀ b o, s₂.heap.get? b = some o → (pushCells ((s₂.heap.push { cls := .type "list", data := .seq #[] }).push { cls := .type "dict", data := .dict #[] }) scope.names).get? b = some o := fun b o e => pushCells_keeps _ _ _ _ (Heap.get?_push_of_some _ (Heap.get?_push_of_some _ e))
  have p : Pur g s { s₂ with heap := pushCells ((s₂.heap.push { cls := .type "list", data := .seq #[] }).push { cls := .type "dict", data := .dict #[] }) scope.names } := p₂.trans (Pur.grow (t := s₂.toks) p₂.wd keep)
  have none₂ : ∀ b, s₂.heap.objs.size ≤ b → s.heap.get? b = none := fun b hb => live_none p₂ (Heap.get?_none_of_le hb)
  have hIlt : I < s₂.heap.objs.size := Heap.lt_size hoI
  have hcs := cellsFrom_spec scope.names (s₂.heap.objs.size + 2) []
  have hcs' : ∀ q ∈ cellsFrom (s₂.heap.objs.size + 2) scope.names [], (q.1, NameKind.cell) ∈ scope.names ∧ s₂.heap.objs.size + 2 ≤ q.2 := fun q hq => (hcs q hq).resolve_left nofun
  have keys := cellsFrom_keys scope.names (s₂.heap.objs.size + 2) [] ok.scp.nodup List.nodup_nil nofun
  have okC : CellsOk (pushCells ((s₂.heap.push { cls := .type "list", data := .seq #[] }).push { cls := .type "dict", data := .dict #[] }) scope.names) (s₂.heap.objs.size + 2) (cellsFrom (s₂.heap.objs.size + 2) scope.names []) := by
    have := cellsFrom_ok scope.names ((s₂.heap.push { cls := .type "list", data := .seq #[] }).push { cls := .type "dict", data := .dict #[] }) (s₂.heap.objs.size + 2) [] ⟨fun zz zz hm => (nomatch hm), List.Pairwise.nil⟩ (by rw [e2]; exact Nat.le_refl _)
    rw [e2] at this; exact this
  have hacc : (cellsFrom (s₂.heap.objs.size + 2) scope.names (freeOf F.env.cells scope.names [])) = cellsFrom (s₂.heap.objs.size + 2) scope.names [] ++ freeOf F.env.cells scope.names [] := cellsFrom_acc _ _ _
  have hlist : (s₂.heap.push { cls := .type "list", data := .seq #[] }).get? s₂.heap.objs.size = some { cls := .type "list", data := .seq #[] } := Heap.get?_push_size _ rfl
  have hlist' : (pushCells ((s₂.heap.push { cls := .type "list", data := .seq #[] }).push { cls := .type "dict", data := .dict #[] }) scope.names).get? s₂.heap.objs.size = some { cls := .type "list", data := .seq #[] } := pushCells_keeps _ _ _ _ (Heap.get?_push_of_some _ hlist)
  have hns : (pushCells ((s₂.heap.push { cls := .type "list", data := .seq #[] }).push { cls := .type "dict", data := .dict #[] }) scope.names).Ns (s₂.heap.objs.size + 1) (fun zz => none) := by
    have := (Heap.Ns.new (s₂.heap.push { cls := .type "list", data := .seq #[] }) (.type "dict")).keeps (pushCells_keeps scope.names _)
    rw [e1] at this; exact this
  have notU : ∀ b, s.heap.get? b = none → ¬ UU F O b := fun b e => st.fresh e
  have notN : ∀ b, UU (compF F scope (s₂.heap.objs.size + 1) (cellsFrom (s₂.heap.objs.size + 2) scope.names (freeOf F.env.cells scope.names [])) (cellsFrom (s₂.heap.objs.size + 2) scope.names []) (UU F O) s) [("%i", I), ("%a", s₂.heap.objs.size)] b → ¬ UU F O b → s.heap.get? b ≠ none → False := fun b u n e => by
      rcases u with u | u | u | u
      · exact n u
      · rw [u] at e; exact e (none₂ _ (by show _ ≤ s₂.heap.objs.size + 1; lia))
      · obtain ⟨q, hq, rfl⟩ := List.mem_map.mp u
        exact e (none₂ _ (by have := (hcs' q hq).2; lia))
      · rw [List.map_cons, List.map_cons, List.map_nil, List.mem_cons, List.mem_singleton] at u
        rcases u with u | u
        · rw [u] at e; exact e hI
        · rw [u] at e; exact e (none₂ _ (Nat.le_refl _))
  have mono : ∀ {d v}, Rep g s.heap (UU F O) d v → Rep g (pushCells ((s₂.heap.push { cls := .type "list", data := .seq #[] }).push { cls := .type "dict", data := .dict #[] }) scope.names) (UU (compF F scope (s₂.heap.objs.size + 1) (cellsFrom (s₂.heap.objs.size + 2) scope.names (freeOf F.env.cells scope.names [])) (cellsFrom (s₂.heap.objs.size + 2) scope.names []) (UU F O) s) [("%i", I), ("%a", s₂.heap.objs.size)]) d v := fun r =>
    Rep.mono notN (fun b o n e => p.keep b o (st.tabU' n) e) r
  exact {
    wd := p.wd
    wd0 := st.wd
    pur := p
    liveU := fun b u => st.live u
    tabU := fun q hq => .inl (st.tabU q hq)
    kind := ok.scp.kind
    glob := st.glob
    bui := st.bui
    nodup := by
      show ((s₂.heap.objs.size + 1) :: ((cellsFrom (s₂.heap.objs.size + 2) scope.names []).map (·.2) ++ [I, s₂.heap.objs.size])).Nodup
      have hge : ∀ c ∈ (cellsFrom (s₂.heap.objs.size + 2) scope.names []).map (·.2), s₂.heap.objs.size + 2 ≤ c := fun c hc => by
        obtain ⟨q, hq, rfl⟩ := List.mem_map.mp hc; exact (hcs' q hq).2
      refine List.nodup_cons.mpr ⟨fun h => ?_, List.nodup_append.mpr ⟨?_, ?_, ?_⟩⟩
      · rcases List.mem_append.mp h with h | h
        · exact absurd (hge _ h) (by lia)
        · simp only [List.mem_cons, List.not_mem_nil, or_false] at h
          rcases h with h | h
          · rw [← h] at hIlt; exact Nat.lt_irrefl _ (Nat.lt_of_succ_lt hIlt)
          · exact absurd h (Nat.succ_ne_self _)
      · rw [List.nodup_iff_pairwise_ne]; exact List.pairwise_map.mpr okC.apart
      · simp only [List.nodup_cons, List.mem_singleton, List.not_mem_nil, not_false_eq_true, List.nodup_nil, and_true]
        exact Nat.ne_of_lt hIlt
      · intro b hb c hc e
        have := hge b hb
        simp only [List.mem_cons, List.not_mem_nil, or_false] at hc
        rw [e] at this
        rcases hc with hc | hc
        · rw [hc] at this; exact Nat.lt_irrefl _ (Nat.lt_of_lt_of_le hIlt (Nat.le_trans (Nat.le_add_right _ 2) this))
        · rw [hc] at this; exact Nat.lt_irrefl _ (Nat.lt_of_lt_of_le (Nat.lt_succ_self _) (Nat.le_of_succ_le this))
    newL := none₂ _ (by show _ ≤ s₂.heap.objs.size + 1; lia)
    newC := fun q hq => none₂ _ (by have := (hcs' q hq).2; lia)
    newO := fun q hq => by
      simp only [List.mem_cons, List.not_mem_nil, or_false] at hq
      rcases hq with rfl | rfl
      · exact hI
      · exact none₂ _ (Nat.le_refl _)
    liveO := fun q hq => by
      simp only [List.mem_cons, List.not_mem_nil, or_false] at hq
      rcases hq with rfl | rfl
      · exact ⟨_, keep _ _ hoI⟩
      · exact ⟨_, hlist'⟩
    ns := ⟨_, hns⟩
    own := fun q hq => ⟨⟨relabel_own ok.scp.nodup (.inr rfl) (hcs' q hq).1, ok.scp.noclass _ (hcs' q hq).1⟩, by
      show (cellsFrom (s₂.heap.objs.size + 2) scope.names (freeOf F.env.cells scope.names [])).lookup q.1 = _
      rw [hacc, List.lookup_append, lookup_nodup keys (x := q.1) (k := q.2) hq]; rfl, _, (okC.empty q.1 q.2 hq).1⟩
    cellsOk := fun y c e => by
      have e' : (cellsFrom (s₂.heap.objs.size + 2) scope.names (freeOf F.env.cells scope.names [])).lookup y = some c := e
      rw [hacc, List.lookup_append] at e'
      cases h1 : (cellsFrom (s₂.heap.objs.size + 2) scope.names []).lookup y with
      | some c' => rw [h1] at e'; cases e'; exact .inl (PySem.mem_of_lookup h1)
      | none =>
        rw [h1] at e'
        have hm := PySem.mem_of_lookup (show (freeOf F.env.cells scope.names []).lookup y = some c from e')
        rcases freeOf_mem _ _ _ hm with hm | ⟨hm, hc⟩
        · cases hm
        · obtain ⟨d, hd⟩ := ok.all _ hm
          obtain ⟨c', v, hc', _⟩ := ok.cell hmem st hd
          rw [hc'] at hc
          right
          have : c = c' := hc
          subst this
          rcases st.cellsOk _ _ hc' with h | h
          · exact .inr (.inr (.inl (List.mem_map.mpr ⟨_, h, rfl⟩)))
          · exact .inl h
    facts := fun y sl hm => by
      rcases List.mem_cons.mp hm with e | hm
      · cases e; exact ⟨_, trivial, rfl, .head _, keep _ _ hoI⟩
      rcases List.mem_cons.mp hm with e | hm
      · cases e; exact ⟨_, trivial, rfl, fun u => notN _ u hn₀ (by rw [hfix]; exact nofun), p.keep _ _ (st.tabU' hn₀) hfix, mono hsrc⟩
      rcases List.mem_cons.mp hm with e | hm
      · cases e; exact ⟨_, trivial, rfl, .tail _ (.head _), [], ⟨0, hlist'⟩, .nil⟩
      obtain ⟨q, hq, e⟩ := List.mem_map.mp hm
      cases e
      obtain ⟨c, v, hc, hz, hv, hr⟩ := ok.cell hmem st (n := q.1) (d := q.2) hq
      have hfree := (ok.kind _ hq).2
      refine ⟨v, .inr ⟨relabel_free ok.scp.nodup hfree, hz, c, ?_, p.isCell st.wd hv⟩, mono hr⟩
      show (cellsFrom (s₂.heap.objs.size + 2) scope.names (freeOf F.env.cells scope.names [])).lookup q.1 = some c
      have hno : (cellsFrom (s₂.heap.objs.size + 2) scope.names []).lookup q.1 = none := by
        cases h1 : (cellsFrom (s₂.heap.objs.size + 2) scope.names []).lookup q.1 with
        | none => rfl
        | some c' =>
          have h2 := lookup_nodup ok.scp.nodup (hcs' _ (PySem.mem_of_lookup h1)).1
          rw [lookup_nodup ok.scp.nodup hfree] at h2; cases h2
      rw [hacc, List.lookup_append, hno]
      exact freeOf_lookup hc _ _ (.inl hfree) nofun }
end
end
section
section
variable {A : Around} {F : Fx} {ρ ρ' frs : Rho} {O : List (Str × Addr)} {s : Shared} {Q : Res → Prop} {rest : List Stmt}

noncomputable abbrev baseR (h₁ h₂ h₃ : Sl) (frs : Rho) : Rho := ("%i", h₁) :: ("%s", h₂) :: ("%a", h₃) :: frs

structure CTurn (g : G) (A : Around) (F : Fx) (frs : Rho) (t elt : Expr) (ifs : List Expr) (d : V) (p : Bool) (y : V) : Prop where
  run : ∀ h₁ h₂ h₃, ∃ ρ₁, Asg g A F (baseR h₁ h₂ h₃ frs) t d ρ₁ ∧ (∀ q ∈ baseR h₁ h₂ h₃ frs, q ∈ ρ₁) ∧ Tests g A F ρ₁ ifs p ∧ (p = true → Ev g A F ρ₁ elt y)

noncomputable def CI {t : Expr} {dsrc : V} {a₀ : Addr} {o₀ : Obj} {I : Addr} {α : Type} {as : List α} {enc : α → V} (IT : Iter g A t dsrc a₀ o₀ I (as.map enc)) (F : Fx) (frs : Rho) (D : Addr) (p : α → Bool) (f : α → V) (n : Nat) (s : Shared) : Prop :=
  ∃ k O o, n + k = as.length ∧ IT.st k o ∧ StO g F (baseR (.obj I o) (.fix dsrc a₀ o₀) (.acc D (((as.take k).filter p).map f)) frs) O s
theorem CI.mk {t : Expr} {dsrc : V} {a₀ : Addr} {o₀ : Obj} {I : Addr} {α : Type} {as : List α} {enc : α → V} {IT : Iter g A t dsrc a₀ o₀ I (as.map enc)} {F : Fx} {frs : Rho} {D : Addr} {p : α → Bool} {f : α → V} {n : Nat} {s : Shared} (k O o) (h1 : n + k = as.length) (h2 : IT.st k o) (h3 : StO g F (baseR (.obj I o) (.fix dsrc a₀ o₀) (.acc D (((as.take k).filter p).map f)) frs) O s) : CI IT F frs D p f n s := ⟨k, O, o, h1, h2, h3⟩
theorem onN {M : Model} {α β : Type} {m : Sem α} {f : α → Sem β} {Q : β → Shared → Prop} {E : Value → Shared → Prop} (h : wpAny M A m (fun a s' => wpAny M A (f a) Q E s') noE s) : wpAny M A (m >>= f) Q E s := wpAny_bind (wpAny_mono h (fun zz zz x => x) fun zz zz x => x.elim)
theorem compCore {elt t iter : Expr} {ifs : List Expr} {scope : Scope} {pos : Pos} {dsrc : V} {a₀ : Addr} {o₀ : Obj} {I D : Addr} {α : Type} {as : List α} {enc : α → V} {R : Result → Shared → Prop} (IT : Iter g A t dsrc a₀ o₀ I (as.map enc)) (p : α → Bool) (f : α → V)
    (hap : ∀ q ∈ frs, q.1 ≠ "%i" ∧ q.1 ≠ "%s" ∧ q.1 ≠ "%a") (hsz : as.length ≤ sizeLine)
    (turn : ∀ a ∈ as, CTurn g A F frs t elt ifs (enc a) (p a) (f a))
    (hR : ∀ O s, StO g F (("%a", .acc D ((as.filter p).map f)) :: frs) O s → R (.ok .next) s) {o : Obj} (st : StO g F (baseR (.obj I o) (.fix dsrc a₀ o₀) (.acc D []) frs) O s) (h0 : IT.st 0 o) :
    codeAny g.M A (.compLoop (.ListComp elt [⟨t, iter, ifs, 0⟩] scope pos) 0 (.ref I) (.ref D) F.env) R s := by
  refine codeAny_loop rfl (CI IT F frs D p f) ?_ as.length (.mk 0 O o rfl h0 st)
  rintro n s ⟨k, O, o, hn, ho, st⟩
  refine wpAny_noted (A := A) (m := compTurn _ 0 _ _ _) ?_
  rw [compTurn_list]
  refine wpAny_bind (wpAny_standAt (onN ?_))
  have hO := st.objO (.head _)
  have hget := st.objH (.head _)
  have hfix := st.fixH (.tail _ (.head _))
  have hrep := st.fixR (.tail _ (.head _))
  have hU : UU F O I := .inr (.inr (.inr (List.mem_map.mpr ⟨_, hO, rfl⟩)))
  have hno : ∀ q ∈ (("%s", Sl.fix dsrc a₀ o₀) :: ("%a", Sl.acc D (((as.take k).filter p).map f)) :: frs : Rho), q.1 ≠ "%i" := fun q hq => by
    rcases List.mem_cons.mp hq with e | hq
    · rw [e]; exact (by decide : ("%s" : Str) ≠ "%i")
    rcases List.mem_cons.mp hq with e | hq
    · rw [e]; exact (by decide : ("%a" : Str) ≠ "%i")
    exact (hap q hq).1
  cases n with
  | zero =>
    have hk : k = as.length := by lia
    subst hk
    refine IT.doneK (by rw [List.length_map]; exact ho) hget hU hfix hrep fun h' t' hs => ?_
    rw [List.take_length] at st hno
    exact wpAny_pure (hR _ _ ((st.dropObj hno (IT.nocode _ _ ho) hs).sub fun q hq => .tail _ hq))
  | succ n =>
    have hlt : k < as.length := by lia
    have hd : (as.map enc)[k]? = some (enc as[k]) := by rw [List.getElem?_map, List.getElem?_eq_getElem hlt]; rfl
    refine IT.nextK hd ho hget hU (fun zz e => st.fresh e) hfix hrep fun v o' h' t' ho' hs hget' hv => ?_
    refine onN (IT.ownK (s := { s with heap := h', toks := t' }) hd ho' hget' hv fun zz h₂' o₂ hs₂ hget₂ ho₂ => ?_)
    have hs' : Heap.ExtBut I s.heap h₂' := fun b o n e => hs₂ b o n (hs b o n e)
    have st₁ : StO g F (baseR (.obj I o₂) (.fix dsrc a₀ o₀) (.acc D (((as.take k).filter p).map f)) frs) O { s with heap := h₂', toks := t' } :=
      (st.setObj (.head _) (t := t') hs' (IT.nocode _ _ ho) hget₂).sub fun q hq => by
        rcases List.mem_cons.mp hq with e | hq
        · rw [e]; exact .head _
        · refine .tail _ (List.mem_filter.mpr ⟨.tail _ hq, ?_⟩)
          have := hno q hq
          simpa using this
    refine ngI fun hNg => ?_
    obtain ⟨ρ₁, ha, hsub, ht, he⟩ := (turn as[k] (List.getElem_mem hlt)).run (.obj I o₂) (.fix dsrc a₀ o₀) (.acc D (((as.take k).filter p).map f))
    refine ngE hNg ?_
    have hv' : Rep g h₂' (UU F O) (enc as[k]) v := Rep.mono (fun zz u n zz => n u) (fun b o n e => hs₂ b o (fun q => n (q ▸ hU)) e) hv
    refine onN (wpAny_mono (ha.run O _ v st₁ hv') (fun zz s₂ q => ?_) fun zz zz x => x)
    refine ngI fun hNg => ?_
    obtain ⟨O₂, st₂⟩ := q
    refine ngE hNg ?_
    refine onN (runQ (ht.run O₂ s₂ st₂) fun ok s₃ p₃ e₃ => ?_)
    have st₃ := st₂.step p₃
    have etake : (as.take (k + 1)).filter p = (as.take k).filter p ++ (if p as[k] then [as[k]] else []) := take_succ_filter p as k as[k] (List.getElem?_eq_getElem hlt)
    subst e₃
    cases hp : p as[k] with
    | false =>
      rw [hp] at etake
      refine wpAny_pure ⟨rfl, n, Nat.lt_succ_self n, .mk (k + 1) O₂ o₂ (by lia) ho₂ ?_⟩
      rw [etake]
      simpa using st₃.sub hsub
    | true =>
      rw [hp] at etake
      refine onN (onN (runQ ((he hp).run O₂ s₃ st₃) fun y s₄ p₄ r₄ => onN ?_))
      have st₄ := (st₃.step p₄).sub hsub
      have hDO := st₄.accO (.tail _ (.tail _ (.head _)))
      refine ngI fun hNg => ?_
      obtain ⟨vs, hl, hr⟩ := st₄.accL (.tail _ (.tail _ (.head _)))
      refine ngE hNg ?_
      have hDU : UU F O₂ D := .inr (.inr (.inr (List.mem_map.mpr ⟨_, hDO, rfl⟩)))
      have hlen : vs.length ≤ sizeLine := by
        rw [hr.length, List.length_map]
        exact Nat.le_trans (List.length_filter_le _ _) (Nat.le_trans (List.length_take_le _ _) (by lia))
      refine wpAny_list_append_plain hl (fun h₅ hl₅ hs₅ => ?_) (by rw [List.size_toArray]; exact hlen)
      refine wpAny_pure (wpAny_pure ⟨rfl, n, Nat.lt_succ_self n, .mk (k + 1) O₂ o₂ (by lia) ho₂ ?_⟩)
      refine ngI fun hNg => ?_
      obtain ⟨mD, hoD⟩ := id hl
      refine ngE hNg ?_
      have st₅ := st₄.setOwn (sl := .acc D (((as.take k).filter p).map f ++ [f as[k]])) (x := "%a") hDO trivial (t := s₄.toks) hs₅.extBut (fun o e vs q => by rw [hoD] at e; cases e; cases q) (let ⟨_, e⟩ := hl₅; ⟨_, e⟩) fun keep =>
        ⟨rfl, hDO, vs ++ [y], by simpa using hl₅, (Reps.mono (fun zz u n zz => n u) keep hr).append (.one (Rep.mono (fun zz u n zz => n u) keep r₄))⟩
      rw [etake]
      refine st₅.sub fun q hq => ?_
      simp only [if_true, List.map_append, List.map_cons, List.map_nil] at hq
      rcases List.mem_cons.mp hq with e | hq
      · rw [e]; exact .tail _ (.head _)
      rcases List.mem_cons.mp hq with e | hq
      · rw [e]; exact .tail _ (.tail _ (.head _))
      rcases List.mem_cons.mp hq with e | hq
      · rw [e]; exact .head _
      · refine .tail _ (List.mem_filter.mpr ⟨.tail _ (.tail _ (.tail _ hq)), ?_⟩)
        have := (hap q hq).2.2
        simpa using this

structure Src (g : G) (A : Around) (F : Fx) (ρ : Rho) (iter t : Expr) (ds : List V) : Prop where
  run : ∀ O s, StO g F ρ O s → wpAny g.M A (eval iter F.env) (fun x s₁ => Pur g s s₁ ∧ wpAny g.M A (pyIter x) (fun it s₂ => ∃ I oI dsrc a₀ o₀, ∃ IT : Iter g A t dsrc a₀ o₀ I ds, it = .ref I ∧ Pur g s₁ s₂ ∧ s₁.heap.get? I = none ∧ s₂.heap.get? I = some oI ∧ IT.st 0 oI ∧ ¬ UU F O a₀ ∧ s₁.heap.get? a₀ = some o₀ ∧ Rep g s₁.heap (UU F O) dsrc (.ref a₀)) noE s₁) noE s
theorem Src.list {iter t xs} (hh : A.handled = none) (he : Ev g A F ρ iter (.lst xs)) (ht : (∃ x p, t = .Name x p) ∨ (∃ es k p, t = .Tuple es k p ∧ ∀ d ∈ xs, ∃ ds, d = .tup ds)) : Src g A F ρ iter t xs := ⟨fun O s st =>
  wpAny_mono (he.run O s st) (fun v s₁ q => ⟨q.1, by
    obtain ⟨p, r⟩ := q
    have st₁ := st.step p
    cases r using cL with
    | @lst a vs _ n hl hr =>
      refine wpAny_pyIter_list hl ?_
      have hne' : a ≠ s₁.heap.objs.size := fun q => by
        obtain ⟨o, ho, _⟩ := hl
        rw [q, noneAtSize] at ho; cases ho
      exact ⟨_, _, _, _, _, Iter.list hh hne' ht, rfl, Pur.push (t := s₁.toks) st₁.wd, noneAtSize _, Heap.get?_push_size _ rfl, ⟨rfl, rfl⟩, n, hl.choose_spec.1, .lst n hl hr⟩⟩) fun zz zz x => x⟩
theorem Src.range {iter x px a b} (hh : A.handled = none) (he : Ev g A F ρ iter (.rng a b)) (h1 : -(2 ^ 62) ≤ a) (h2 : a < 2 ^ 62) (h3 : -(2 ^ 62) ≤ b) (h4 : b < 2 ^ 62) : Src g A F ρ iter (.Name x px) ((upto a b).map .int) := ⟨fun O s st =>
  wpAny_mono (he.run O s st) (fun v s₁ q => ⟨q.1, by
    obtain ⟨p, r⟩ := q
    have st₁ := st.step p
    cases r using cR with
    | @rng r _ _ _ _ _ n hr =>
      refine wpAny_pyIter_range hr (small_one h1 h2 h3 h4) ?_
      refine ⟨_, _, _, _, _, Iter.range hh (a := a) (b := b), rfl, Pur.push (t := s₁.toks) st₁.wd, noneAtSize _, Heap.get?_push_size _ rfl, ?_, n, hr, .rng n hr⟩
      show ({ cls := .type "range_iterator", data := .fields #[rawInt a, rawInt (Builtin.Range.rangeSize a b 1), rawInt 1] } : Obj) = _
      rw [rangeSize_nat]; simp⟩) fun zz zz x => x⟩

theorem compRun {elt t iter : Expr} {ifs : List Expr} {scope : Scope} {pos : Pos} {α : Type} {as : List α} {enc : α → V} {p : α → Bool} {f : α → V} {fr : List (Str × V)} (use : Option (Value → Sem Unit)) {QQ : Value → Shared → Prop} {newAcc first : Sem Value} {fpos : Pos}
    (ok : CompOk scope F.env fr) (hmem : ∀ q ∈ frRho fr, q ∈ ρ) (src : Src g A F ρ iter t (as.map enc)) (hsz : as.length ≤ sizeLine)
    (turn : ∀ L cells C U s, Wd g s → (∀ x, (x, NameKind.cell) ∈ scope.names → ∃ c, (x, c) ∈ C) → ∀ a ∈ as, CTurn g A (compF F scope L cells C U s) (frRho fr) t elt ifs (enc a) (p a) (f a))
    (hs : ∀ x, foldedSetIterable iter F.env x = pure x) (st : StO g F ρ O s) (hfirst : first = eval iter F.env) (hacc : newAcc = newList [])
    (hend : ∀ s₁ D L F' O' s', F'.s₀ = s₁ → F'.U = UU F O → F'.env.locals = L → Pur g s s₁ → StO g F' (("%a", .acc D ((as.filter p).map f)) :: frRho fr) O' s' → compPost g.M A noE use QQ (.ref D) L (.ok .next) s') :
    wpAny g.M A (comprehension (.ListComp elt [⟨t, iter, ifs, 0⟩] scope pos) scope F.env fpos newAcc false first use) QQ noE s := by
  subst hfirst; subst hacc
  have hclos := closureFor_cells (scope := scope) (env := F.env) fun n hn => by
    refine ngI fun hNg => ?_
    obtain ⟨d, hd⟩ := ok.all n hn
    refine ngE hNg ?_
    refine ngI fun hNg => ?_
    obtain ⟨c, _, hc, _⟩ := ok.cell hmem st hd
    refine ngE hNg ?_
    exact ⟨c, hc⟩
  refine wpAny_comprehension_free rfl hs hclos ok.scp.kind (fun x hx hl => lookup_nodup ok.scp.nodup (hl ▸ hx)) ?_
  refine wpAny_mono (src.run O s st) (fun x s₁ q => ?_) fun zz zz x => x
  refine ngI fun hNg => ?_
  obtain ⟨p₁, q⟩ := q
  refine ngE hNg ?_
  refine wpAny_mono q (fun it s₂ q => ?_) fun zz zz x => x
  refine ngI fun hNg => ?_
  obtain ⟨I, oI, dsrc, a₀, o₀, IT, rfl, p₂, hI, hoI, h0, hn₀, hfix, hsrc⟩ := q
  refine ngE hNg ?_
  have st₁ := st.step p₁
  refine wpAny_newList ?_ (Nat.zero_le _)
  refine newEnv_comp ?_
  have e1 : (s₂.heap.push { cls := .type "list", data := .seq #[] }).objs.size = s₂.heap.objs.size + 1 := Heap.size_push ..
  have stc := compStartSt st₁ ok hmem p₂ hI hoI hn₀ hfix hsrc rfl
  show codeAny g.M A (.compStart _ 0 (.ref I) (.ref s₂.heap.objs.size) { scope := relabel scope F.env, locals := (s₂.heap.push { cls := .type "list", data := .seq #[] }).objs.size, globals := F.env.globals, cells := cellsFrom ((s₂.heap.push { cls := .type "list", data := .seq #[] }).objs.size + 1) scope.names (freeOf F.env.cells scope.names []), qual := F.env.qual, func := none, code := F.env.code, frame := F.env.frame, builtins := F.env.builtins }) (compPost g.M A noE use QQ (.ref s₂.heap.objs.size) (s₂.heap.push { cls := .type "list", data := .seq #[] }).objs.size) _
  rw [e1]
  have loop := compCore (R := compPost g.M A noE use QQ (.ref s₂.heap.objs.size) (s₂.heap.objs.size + 1)) IT p f ok.apart hsz (fun a ha => turn _ _ _ _ _ st₁.wd (fun x hx => by
      refine ngI fun hNg => ?_
      obtain ⟨q, hq, e⟩ := List.mem_map.mp (cellsFrom_has scope.names (s₂.heap.objs.size + 2) [] x (.inl hx))
      refine ngE hNg ?_
      exact ⟨q.2, by rw [← e]; exact hq⟩) a ha) (fun O' s' st' => hend s₁ _ _ _ O' s' rfl (by exact rfl) rfl p₁ st') (scope := scope) (pos := pos) (iter := iter) stc h0
  exact codeAny_compStart_list loop (IT.self 0 _ oI _ _ h0 (stc.objH (.head _)) loop)

theorem EvF.comp {elt t iter : Expr} {ifs : List Expr} {scope : Scope} {pos : Pos} {α : Type} {as : List α} {enc : α → V} {p : α → Bool} {f : α → V} {fr : List (Str × V)}
    (ok : CompOk scope F.env fr) (hmem : ∀ q ∈ frRho fr, q ∈ ρ) (src : Src g A F ρ iter t (as.map enc)) (hsz : as.length ≤ sizeLine)
    (turn : ∀ L cells C U s, Wd g s → (∀ x, (x, NameKind.cell) ∈ scope.names → ∃ c, (x, c) ∈ C) → ∀ a ∈ as, CTurn g A (compF F scope L cells C U s) (frRho fr) t elt ifs (enc a) (p a) (f a))
    (hs : ∀ x, foldedSetIterable iter F.env x = pure x) : EvF g A F ρ (.ListComp elt [⟨t, iter, ifs, 0⟩] scope pos) ((as.filter p).map f) := ⟨fun O s st => by
  rw [eval_ListComp]
  refine compRun Option.none ok hmem src hsz turn hs st rfl rfl ?_
  intro s₁ D L F' O' s' e0 eU eL p₁ st'
  subst e0; subst eL
  have hDO := st'.accO (.head _)
  refine ngI fun hNg => ?_
  obtain ⟨vs, hl, hr⟩ := st'.accL (.head _)
  refine ngE hNg ?_
  refine ngI fun hNg => ?_
  obtain ⟨m, hn⟩ := st'.ns
  refine ngE hNg ?_
  refine ⟨m, hn, fun h' hsb => ?_⟩
  refine ngI fun hNg => ?_
  obtain ⟨oL, _, _, hoL, hdL, _⟩ := id hn
  refine ngE hNg ?_
  have hT := st'.touch st'.newL (t := s'.toks) hsb.extBut (fun o e vs q => by rw [hoL] at e; cases e; rw [hdL] at q; cases q)
  have nd := st'.nodup
  rw [List.nodup_cons] at nd
  have hDL : D ≠ F'.env.locals := fun e => nd.1 (e ▸ List.mem_append_right _ (List.mem_map.mpr ⟨_, hDO, rfl⟩))
  refine ⟨p₁.trans hT.2, D, vs, rfl, live_none p₁ (st'.newO _ hDO), hl.extBut hsb.extBut hDL, ?_⟩
  refine Reps.mono (fun b u n e => ?_) (fun b o n e => (hsb.2 b fun q => n (q ▸ .inr (.inl rfl))).trans e) hr
  rcases u with u | u
  · exact n (.inl (eU ▸ u))
  · exact n (u ▸ .inr (.inr (.inr (List.mem_map.mpr ⟨_, hDO, rfl⟩))))⟩
theorem X.assignC {elt t iter : Expr} {ifs : List Expr} {scope : Scope} {pos px spos : Pos} {x : Str} {α : Type} {as : List α} {enc : α → V} {p : α → Bool} {f : α → V} {fr : List (Str × V)}
    (hsw : swapsWith (.ListComp elt [⟨t, iter, ifs, 0⟩] scope pos) (some (.Name x px)) spos.line F.env = pure true) (hx : CanStore F x)
    (ok : CompOk scope F.env fr) (hmem : ∀ q ∈ frRho fr, q ∈ ρ) (src : Src g A F ρ iter t (as.map enc)) (hsz : as.length ≤ sizeLine)
    (turn : ∀ L cells C U s, Wd g s → (∀ x, (x, NameKind.cell) ∈ scope.names → ∃ c, (x, c) ∈ C) → ∀ a ∈ as, CTurn g A (compF F scope L cells C U s) (frRho fr) t elt ifs (enc a) (p a) (f a))
    (hs : ∀ x, foldedSetIterable iter F.env x = pure x) (hap : ∀ q ∈ ρ, q.1 ≠ "%a" ∧ q.1 ≠ "%l") (hxx : x ≠ "%a" ∧ x ≠ "%l")
    (k : X g A F (ρ.put x (.own ((as.filter p).map f))) rest Q) : X g A F ρ (.Assign [.Name x px] (.ListComp elt [⟨t, iter, ifs, 0⟩] scope pos) spos :: rest) Q := ⟨fun O s st => by
  refine wpAny_execs_cons ?_
  rw [exec_Assign_Name_used _ _ _ _ hsw]
  refine wpAny_bind (wpAny_standAt (wpAny_bind ?_))
  show wpAny _ A (do let _ ← comprehension (.ListComp elt [⟨t, iter, ifs, 0⟩] scope pos) scope F.env _ (newList []) false (eval iter F.env) (some (PySem.assign (.Name x px) F.env))) _ _ s
  refine wpAny_bind (wpAny_mono (compRun (QQ := fun zz s' => wpAny g.M A (execs rest F.env) (Meets g F Q) noE s') (some (PySem.assign (.Name x px) F.env)) ok hmem src hsz turn hs st rfl rfl ?_) (fun zz s' hq => wpAny_pure (wpAny_pure hq)) fun zz zz e => e)
  intro s₁ D L F' O' s' e0 eU eL p₁ st'
  subst e0; subst eL
  have st₁ := st.step p₁
  have hDO := st'.accO (.head _)
  refine ngI fun hNg => ?_
  obtain ⟨vs, hl, hr⟩ := st'.accL (.head _)
  refine ngE hNg ?_
  refine ngI fun hNg => ?_
  obtain ⟨m, hn⟩ := st'.ns
  refine ngE hNg ?_
  refine ngI fun hNg => ?_
  obtain ⟨oL, esL, epL, hoL, hdL, _⟩ := id hn
  refine ngE hNg ?_
  have nd := st'.nodup
  rw [List.nodup_cons] at nd
  have hDL : D ≠ F'.env.locals := fun e => nd.1 (e ▸ List.mem_append_right _ (List.mem_map.mpr ⟨_, hDO, rfl⟩))
  have stM := st₁.addMany st'.pur [("%l", F'.env.locals), ("%a", D)] (by simp only [List.map_cons, List.map_nil, List.nodup_cons, List.mem_singleton, List.not_mem_nil, not_false_eq_true, List.nodup_nil, and_true]; exact Ne.symm hDL)
    (fun q hq => by
      simp only [List.mem_cons, List.not_mem_nil, or_false] at hq
      rcases hq with rfl | rfl
      · exact st'.newL
      · exact st'.newO _ hDO)
    (fun q hq => by
      simp only [List.mem_cons, List.not_mem_nil, or_false] at hq
      rcases hq with rfl | rfl
      · exact ⟨_, hoL⟩
      · exact st'.liveO _ hDO)
  have hsubU : ∀ b, UU F (O ++ ([("%l", F'.env.locals), ("%a", D)] : List (Str × Addr))) b → UU F' O' b := fun b u => by
    have old : UU F O b → UU F' O' b := fun u => .inl (eU ▸ u)
    rcases u with u | u | u | u
    · exact old (.inl u)
    · exact old (.inr (.inl u))
    · exact old (.inr (.inr (.inl u)))
    · obtain ⟨q, hq, rfl⟩ := List.mem_map.mp u
      rcases List.mem_append.mp hq with hq | hq
      · exact old (.inr (.inr (.inr (List.mem_map.mpr ⟨q, hq, rfl⟩))))
      · simp only [List.mem_cons, List.not_mem_nil, or_false] at hq
        rcases hq with rfl | rfl
        · exact .inr (.inl rfl)
        · exact .inr (.inr (.inr (List.mem_map.mpr ⟨_, hDO, rfl⟩)))
  have stA : StO g F (("%a", .acc D ((as.filter p).map f)) :: ("%l", .obj F'.env.locals oL) :: ρ) _ s' := (stM.addFact (x := "%l") (sl := .obj F'.env.locals oL) trivial ⟨rfl, List.mem_append_right _ (.head _), hoL⟩).addFact (x := "%a") (sl := .acc D ((as.filter p).map f)) (v := .ref D) trivial
    ⟨rfl, List.mem_append_right _ (.tail _ (.head _)), vs, hl, Reps.mono (fun b u n zz => n (hsubU b u)) (fun zz zz zz e => e) hr⟩
  show wpAny g.M A (PySem.assign (.Name x px) F.env (.ref D)) _ _ s'
  refine wpAny_assign_Name (stA.storeAcc (fun q hq => ?_) hx fun s₂ O₂ st₂ zz zz => ?_)
  · rcases List.mem_cons.mp hq with e | hq
    · rw [e]; exact (by decide : ("%l" : Str) ≠ "%a")
    · exact (hap q hq).1
  · have hput : ((("%l" : Str), Sl.obj F'.env.locals oL) : Str × Sl) ∈ Rho.put (("%l", .obj F'.env.locals oL) :: ρ) x (.own ((as.filter p).map f)) :=
      .tail _ (List.mem_filter.mpr ⟨.head _, by simpa using Ne.symm hxx.2⟩)
    have hoL₂ := st₂.objH hput
    refine ⟨m, hn.at' fun o e => (by rw [hoL] at e; cases e; exact hoL₂), fun h' hsb => ?_⟩
    have st₃ : StO g F (("%l", .obj F'.env.locals oL) :: ρ.put x (.own ((as.filter p).map f))) O₂ s₂ := st₂.sub fun q hq => by
      rcases List.mem_cons.mp hq with e | hq
      · rw [e]; exact hput
      · rcases List.mem_cons.mp hq with e | hq
        · rw [e]; exact .head _
        · have := List.mem_filter.mp hq
          exact .tail _ (List.mem_filter.mpr ⟨.tail _ this.1, this.2⟩)
    refine k.run _ _ (st₃.dropObj (t := s₂.toks) (fun q hq => ?_) (fun vs q => by rw [hdL] at q; cases q) hsb.extBut)
    rcases List.mem_cons.mp hq with e | hq
    · rw [e]; exact hxx.2
    · exact (hap q (List.mem_filter.mp hq).1).2⟩
end
end
section
section
variable {prog : Program} {w : World} {A : Around} {E : Value → Shared → Prop} {s : Shared}

theorem dictFind_text {d : Addr} {o : Obj} {es : Array DictEntry} {ep : Nat} {x : Str} {t : Tok} {h : Int} {i : Nat} {e : DictEntry} {u : Tok} {Q : Option Nat → Shared → Prop} (ho : s.heap.get? d = some o) (hd : o.data = .dict es ep) (hall : (es.all fun e => isExactStrKey e.key) = true)
    (hi : es.findIdx? (·.key.isStr x) = some i) (he : es[i]? = some e) (hk : e.key = .str x u) (hq : Q (some i) s) : wpAny (model prog w) A (dictFind d (.str x t) h) Q E s := by
  unfold dictFind
  refine wpAny_holding ?_
  refine wpAny_bind (wpAny_dictEntries ho hd ?_)
  dsimp only
  rw [if_pos hall]
  unfold foundByValue
  rw [hi]
  dsimp only
  rw [he]
  refine wpAny_bind (wpAny_dictEpoch ho hd ?_)
  rw [hk]
  refine wpAny_bind (wpAny_eqBool_str ?_)
  refine wpAny_bind (wpAny_dictEpoch ho hd ?_)
  rw [if_neg (by simp), if_pos (by simp)]
  exact wpAny_bind (wpAny_rule (wpAny_pure hq))

theorem samePairs_short {nm : String} {a b : Addr} {oa ob : Obj} {es es' : Array DictEntry} {ep ep' : Nat} {Q : Bool → Shared → Prop} (ha : (a == sysModules) = false) (hb : (b == sysModules) = false) (hoa : s.heap.get? a = some oa) (hob : s.heap.get? b = some ob)
    (hda : oa.data = .dict es ep) (hdb : ob.data = .dict es' ep')
    (hh : (es = #[] ∧ es' = #[]) ∨ ∃ x t u h h' v v', es = #[⟨h, .str x t, v⟩] ∧ es' = #[⟨h', .str x u, v'⟩] ∧ SeqAt.EqAt A s v v' true) (h : Q true s) :
    wpAny (model prog w) A (Builtin.Dict.samePairs nm a b) Q E s := by
  unfold Builtin.Dict.samePairs Builtin.Dict.showsAll
  rw [if_neg (show ¬ (a == sysModules) = true by rw [ha]; exact Bool.false_ne_true), if_neg (show ¬ (b == sysModules) = true by rw [hb]; exact Bool.false_ne_true)]
  refine wpAny_bind (wpAny_pure (wpAny_bind (wpAny_pure ?_)))
  refine wpAny_bind (wpAny_dictEntries hoa hda ?_)
  dsimp only
  refine wpAny_bind (wpAny_dictEntries hob hdb ?_)
  rcases hh with ⟨rfl, rfl⟩ | ⟨x, t, u, h₁, h₂, v, v', rfl, rfl, heq⟩
  · rw [if_neg (by simp)]
    refine wpAny_bind (wpAny_dictEpoch hoa hda ?_)
    refine wpAny_bind ?_
    rw [Std.Legacy.Range.forIn_eq_forIn_range']
    simp only [Std.Legacy.Range.size, Array.size_empty, Nat.sub_zero, Nat.add_sub_cancel, Nat.div_one, Nat.zero_add, List.range'_zero, List.forIn_nil]
    exact wpAny_pure (wpAny_pure h)
  · rw [if_neg (by simp)]
    refine wpAny_bind (wpAny_dictEpoch hoa hda ?_)
    refine wpAny_bind ?_
    rw [Std.Legacy.Range.forIn_eq_forIn_range']
    have e1 : (#[({ hash := h₁, key := .str x t, val := v } : DictEntry)]).size = 1 := rfl
    simp only [Std.Legacy.Range.size, e1, Nat.sub_zero, Nat.add_sub_cancel, Nat.div_one]
    show wpAny _ _ (forIn [0] _ _) _ _ s
    rw [List.forIn_cons]
    refine wpAny_bind (wpAny_bind (wpAny_dictEntries hoa hda ?_))
    show wpAny _ _ (holding _ _ >>= _) _ _ s
    refine wpAny_bind (wpAny_holding (wpAny_bind (dictFind_text hob hdb (by simp [isExactStrKey]) (i := 0) (e := ⟨h₂, .str x u, v'⟩) (by simp [Value.isStr]) (by simp) rfl ?_)))
    refine wpAny_bind (wpAny_dictEntries hob hdb ?_)
    show wpAny _ _ (holding _ _) _ _ s
    refine wpAny_holding (heq prog w _ _ ?_)
    rw [if_neg (by simp)]
    refine wpAny_bind (wpAny_dictEpoch hoa hda ?_)
    rw [if_neg (by simp)]
    refine wpAny_pure ?_
    dsimp only
    rw [List.forIn_nil]
    exact wpAny_pure (wpAny_pure h)

theorem rc_dicts {a b : Addr} {oa ob : Obj} {es es' : Array DictEntry} {ep ep' : Nat} (ha : (a == sysModules) = false) (hb : (b == sysModules) = false) (hoa : s.heap.get? a = some oa) (hob : s.heap.get? b = some ob)
    (hca : oa.cls = .type "dict") (hcb : ob.cls = .type "dict") (hda : oa.data = .dict es ep) (hdb : ob.data = .dict es' ep') (hu : A.units < cLine)
    (hh : (es = #[] ∧ es' = #[]) ∨ ∃ x t u h h' v v', es = #[⟨h, .str x t, v⟩] ∧ es' = #[⟨h', .str x u, v'⟩] ∧ SeqAt.EqAt A.in1 s v v' true) : SeqAt.RcAt A s (.ref a) (.ref b) true := fun prog w E Q hq => by
  have ta : s.TypeIs (.ref a) "dict" := ⟨oa, hoa, hca⟩
  have tb : s.TypeIs (.ref b) "dict" := ⟨ob, hob, hcb⟩
  refine wpAny_richCompare_same_room (op := .Eq) ta tb PySem.F.slot_dict_eq (wpAny_call_entry PySem.F.slot_dict_eq ta PySem.F.entry_dict_eq ?_ (PySem.F.args_dict_eq_2 _ _)) hu
  show wpAny _ _ (Builtin.Dict.dictSlotArgs "__eq__" ⟨[.ref a, .ref b], []⟩ >>= _) _ _ s
  refine wpAny_bind ?_
  unfold Builtin.Dict.dictSlotArgs
  refine wpAny_bind (wpAny_notOrdered_dict ta ?_)
  show wpAny _ _ (pure (Value.ref a, Value.ref b)) _ _ s
  refine wpAny_pure ?_
  refine wpAny_bind (wpAny_isInstance (T := "dict") tb PySem.F.sub_dict_dict ?_)
  simp only [Bool.not_true, Bool.false_eq_true, if_false]
  refine wpAny_bind (wpAny_pure (wpAny_bind (wpAny_pure ?_)))
  refine wpAny_bind (samePairs_short ha hb hoa hob hda hdb hh ?_)
  refine wpAny_pure ⟨_, rfl, ?_, ?_⟩
  · exact fun x => nomatch x
  · simpa using hq
end

mutual
noncomputable def V.deep : V → Nat
  | .tup xs => deeps xs + 1
  | .lst xs => deeps xs + 1
  | .dct es => deepD es + 1
  | _ => 0
noncomputable def deeps : List V → Nat
  | [] => 0
  | x :: xs => max x.deep (deeps xs)
noncomputable def deepD : List (Str × V) → Nat
  | [] => 0
  | (_, x) :: xs => max x.deep (deepD xs)
end
mutual
noncomputable def V.okE : V → Bool
  | .none => true
  | .bool _ => true
  | .int _ => true
  | .str _ => true
  | .tup xs => okEs xs
  | .lst xs => okEs xs
  | .dct es => okD es
  | .rng _ _ => false
  | .obj _ => false
  | .typ _ => false
  | .val _ => false
  | .inst _ => false
noncomputable def okEs : List V → Bool
  | [] => true
  | x :: xs => x.okE && okEs xs
noncomputable def okD : List (Str × V) → Bool
  | [] => true
  | (_, x) :: es => x.okE && es.isEmpty
end

section
variable {s : Shared} {U : Addr → Prop}
theorem all_true {n : Nat} : ((List.range n).all fun zz => true) = true := by simp
open SeqAt in
theorem items_eq {α : Type} {A : Around} {s : Shared} {vs us : List Value} (hlen : vs.length = us.length) (h : ∀ j : Nat, ∀ v u, vs[j]? = some v → us[j]? = some u → EqAt A s v u true) : ∀ j (h1 : j < vs.toArray.size) (h2 : j < us.toArray.size), EqAt A s vs.toArray[j] us.toArray[j] ((fun zz => true) j) := fun j h1 h2 => by
  refine h j _ _ ?_ ?_
  · simp at h1 ⊢
  · simp at h2 ⊢

open SeqAt in
mutual
theorem eqv_refl {A : Around} (d : V) : ∀ {v u : Value}, d.okE = true → A.units + d.deep < cLine → Rep g s.heap U d v → Rep g s.heap U d u → EqAt A s v u true
  | v, u, ok, hu, r, q => by
    cases d with
    | none => cases r using cN; cases q using cN; exact EqAt.same _
    | bool b => cases r using cB; cases q using cB; exact EqAt.same _
    | int i =>
      cases r using cI with
      | int _ t =>
        cases q using cI with
        | int _ t' =>
          have := EqAt.int_int (A := A) (s := s) i t i t'
          simpa using this
    | str x =>
      cases r using cS with
      | str _ t =>
        cases q using cS with
        | str _ t' =>
          have := EqAt.str_str (A := A) (s := s) x t x t'
          simpa using this
    | tup xs =>
      cases r using cT with
      | @tup a vs _ _ hl hr =>
        cases q using cT with
        | @tup b us _ _ hl' hr' =>
          by_cases hab : a = b
          · subst hab; exact EqAt.same _
          · have hlen : vs.length = us.length := by rw [hr.length, hr'.length]
            have := RcAt.tuples (A := A) (e := fun zz => true) hl hl' (by simp only [V.deep] at hu; lia) (items_eq (α := Unit) hlen fun j v u h1 h2 => eqvs_refl xs (A := A.in1) (show okEs xs = true from ok) (by simp only [V.deep] at hu; show A.units + 1 + deeps xs < cLine; lia) hr hr' j h1 h2)
            rw [all_true] at this
            have e : (true && vs.toArray.size == us.toArray.size) = true := by simp [hlen]
            rw [e] at this
            exact EqAt.of_refs hab this
    | lst xs =>
      cases r using cL with
      | @lst a vs _ _ hl hr =>
        cases q using cL with
        | @lst b us _ _ hl' hr' =>
          by_cases hab : a = b
          · subst hab; exact EqAt.same _
          · have hlen : vs.length = us.length := by rw [hr.length, hr'.length]
            have := RcAt.lists (A := A) (e := fun zz => true) hl hl' (by simpa using hlen) (by simp only [V.deep] at hu; lia) (items_eq (α := Unit) hlen fun j v u h1 h2 => eqvs_refl xs (A := A.in1) (show okEs xs = true from ok) (by simp only [V.deep] at hu; show A.units + 1 + deeps xs < cLine; lia) hr hr' j h1 h2)
            rw [all_true] at this
            exact EqAt.of_refs hab this
    | dct es =>
      cases r using cD with
      | @dct a kvs _ _ hm hd hr =>
        cases q using cD with
        | @dct b kus _ _ hm' hd' hr' =>
          by_cases hab : a = b
          · subst hab; exact EqAt.same _
          · refine EqAt.of_refs hab ?_
            obtain ⟨oa, esa, epa, hoa, hca, hda, hka, hpa, _⟩ := hd
            obtain ⟨ob, esb, epb, hob, hcb, hdb, hkb, hpb, _⟩ := hd'
            refine rc_dicts hm hm' hoa hob hca.1 hcb.1 hda hdb (by simp only [V.deep] at hu; lia) ?_
            cases es with
            | nil =>
              cases hr using dE; cases hr' using dE
              left
              constructor
              · cases esa with | mk l => cases l with
                | nil => rfl
                | cons _ _ => cases hpa
              · cases esb with | mk l => cases l with
                | nil => rfl
                | cons _ _ => cases hpb
            | cons ex es' =>
              obtain ⟨k, x⟩ := ex
              have ok2 := Bool.and_eq_true_iff.mp (show (x.okE && es'.isEmpty) = true from ok)
              cases es' with
              | cons _ _ => exact Bool.noConfusion (show false = true from ok2.2)
              | nil =>
                right
                cases hr using dC with
                | @cons _ _ v _ kvs' r1 r2 =>
                  cases r2 using dE
                  cases hr' using dC with
                  | @cons _ _ v' _ kvs'' q1 q2 =>
                    cases q2 using dE
                    cases esa with | mk l =>
                    cases esb with | mk l' =>
                    cases hpa with
                    | @cons e1 _ es1 _ hk1 hv1 hp1 =>
                      cases hp1
                      cases hpb with
                      | @cons e2 _ es2 _ hk2 hv2 hp2 =>
                        cases hp2
                        obtain ⟨t1, e1k⟩ := Value.isStrOf_shape (show Value.isStrOf k e1.key = true from hk1)
                        obtain ⟨t2, e2k⟩ := Value.isStrOf_shape (show Value.isStrOf k e2.key = true from hk2)
                        obtain ⟨h1, k1, v1⟩ := e1
                        obtain ⟨h2, k2, v2⟩ := e2
                        simp only at e1k e2k hv1 hv2
                        subst e1k; subst e2k; subst hv1; subst hv2
                        refine ⟨k, t1, t2, h1, h2, _, _, rfl, rfl, eqv_refl x (A := A.in1) ok2.1 (by simp only [V.deep, deepD] at hu; show A.units + 1 + x.deep < cLine; lia) r1 q1⟩
    | rng _ _ => exact Bool.noConfusion (show false = true from ok)
    | obj _ => exact Bool.noConfusion (show false = true from ok)
    | typ _ => exact Bool.noConfusion (show false = true from ok)
    | val _ => exact Bool.noConfusion (show false = true from ok)
    | inst _ => exact Bool.noConfusion (show false = true from ok)
theorem eqvs_refl {A : Around} (ds : List V) : ∀ {vs us : List Value}, okEs ds = true → A.units + deeps ds < cLine → Reps g s.heap U ds vs → Reps g s.heap U ds us → ∀ (j : Nat) {v u : Value}, vs[j]? = some v → us[j]? = some u → EqAt A s v u true
  | vs, us, ok, hu, r, q, j, v, u, h1, h2 => by
    cases ds with
    | nil => cases r using cE; simp at h1
    | cons d ds =>
      cases r using cC with
      | cons r rs =>
        cases q using cC with
        | cons q qs =>
          simp only [okEs, Bool.and_eq_true] at ok
          simp only [deeps] at hu
          cases j with
          | zero => simp at h1 h2; subst h1; subst h2; exact eqv_refl d ok.1 (by lia) r q
          | succ j => exact eqvs_refl ds ok.2 (by lia) rs qs j h1 h2
end

noncomputable def feq : V → V → Bool
  | .int a, .int b => a == b
  | .str a, .str b => a == b
  | _, _ => false
noncomputable def flatV : V → Bool
  | .int _ => true
  | .str _ => true
  | _ => false
noncomputable def feqs : List V → List V → Bool
  | [], [] => true
  | x :: xs, y :: ys => feq x y && feqs xs ys
  | _, _ => false
open SeqAt in
theorem eqv_flat {A : Around} {d d' : V} {v u : Value} (h1 : flatV d = true) (h2 : flatV d' = true) (r : Rep g s.heap U d v) (q : Rep g s.heap U d' u) : EqAt A s v u (feq d d') := by
  cases d with
  | int i =>
    cases r using cI with
    | int _ t =>
      cases d' with
      | int j => cases q using cI with | int _ t' => exact EqAt.int_int i t j t'
      | str y => cases q using cS with | str _ t' => exact EqAt.int_str i t y t'
      | _ => simp [flatV] at h2
  | str x =>
    cases r using cS with
    | str _ t =>
      cases d' with
      | int j => cases q using cI with | int _ t' => exact EqAt.str_int x t j t'
      | str y => cases q using cS with | str _ t' => exact EqAt.str_str x t y t'
      | _ => simp [flatV] at h2
  | _ => simp [flatV] at h1
theorem feqs_all : ∀ (xs ys : List V), feqs xs ys = ((List.range (min xs.length ys.length)).all (fun j => feq (xs.getD j .none) (ys.getD j .none)) && xs.length == ys.length)
  | [], [] => by simp [feqs]
  | [], y :: ys => by simp [feqs]
  | x :: xs, [] => by simp [feqs]
  | x :: xs, y :: ys => by
    have e : min (x :: xs).length (y :: ys).length = min xs.length ys.length + 1 := by simp [Nat.succ_min_succ]
    rw [feqs, feqs_all xs ys, e, List.range_succ_eq_map, List.all_cons, List.all_map, Bool.and_assoc]
    simp [Function.comp_def]
end

section
variable {A : Around} {F : Fx} {ρ : Rho}
open SeqAt in
theorem Cmp.eqT {xs ys} (hu : A.units < cLine) (hx : xs.all flatV = true) (hy : ys.all flatV = true) : Cmp g A F ρ .Eq (.tup xs) (.tup ys) (feqs xs ys) := ⟨fun O s v₁ v₂ Q st r₁ r₂ q => by
  cases r₁ using cT with
  | @tup a vs _ n hl hr =>
    cases r₂ using cT with
    | @tup b us _ n' hl' hr' =>
      have e1 := hr.length
      have e2 := hr'.length
      have := RcAt.tuples (A := A) (e := fun j => feq (xs.getD j .none) (ys.getD j .none)) hl hl' hu (fun j h1 h2 => by
        have h1' : j < vs.length := by simpa using h1
        have h2' : j < us.length := by simpa using h2
        obtain ⟨d, hd, rd⟩ := hr.get (i := j) (v := vs[j]) (List.getElem?_eq_getElem h1')
        obtain ⟨d', hd', rd'⟩ := hr'.get (i := j) (v := us[j]) (List.getElem?_eq_getElem h2')
        have k1 : xs.getD j .none = d := by rw [List.getD_eq_getElem?_getD, hd]; rfl
        have k2 : ys.getD j .none = d' := by rw [List.getD_eq_getElem?_getD, hd']; rfl
        simp only [k1, k2]
        exact eqv_flat (List.all_eq_true.mp hx _ (List.mem_of_getElem? hd)) (List.all_eq_true.mp hy _ (List.mem_of_getElem? hd')) rd rd')
      refine this g.prog g.w noE Q ?_
      have e : ((List.range (min vs.toArray.size us.toArray.size)).all (fun j => feq (xs.getD j .none) (ys.getD j .none)) && vs.toArray.size == us.toArray.size) = feqs xs ys := by
        rw [feqs_all]; simp [e1, e2]
      rw [e]
      exact q s (Pur.refl st.wd)⟩
open SeqAt in
theorem Cmp.neT {xs} (ok : okEs xs = true) (hu : A.units + (deeps xs + 1) < cLine) : Cmp g A F ρ .NotEq (.tup xs) (.tup xs) false := ⟨fun O s v₁ v₂ Q st r₁ r₂ q => by
  cases r₁ using cT with
  | @tup a vs _ n hl hr =>
    cases r₂ using cT with
    | @tup b us _ n' hl' hr' =>
      have hlen : vs.length = us.length := by rw [hr.length, hr'.length]
      have := RcNeAt.tuples (A := A) (e := fun zz => true) hl hl' (by lia) (items_eq (α := Unit) hlen fun j v u h1 h2 => eqvs_refl xs (A := A.in1) ok (by show A.units + 1 + deeps xs < cLine; lia) hr hr' j h1 h2)
      refine this g.prog g.w noE Q ?_
      rw [all_true]
      have e : (true && vs.toArray.size == us.toArray.size) = true := by simp [hlen]
      rw [e]; exact q s (Pur.refl st.wd)⟩
open SeqAt in
theorem Cmp.neL {xs} (ok : okEs xs = true) (hu : A.units + (deeps xs + 1) < cLine) : Cmp g A F ρ .NotEq (.lst xs) (.lst xs) false := ⟨fun O s v₁ v₂ Q st r₁ r₂ q => by
  cases r₁ using cL with
  | @lst a vs _ n hl hr =>
    cases r₂ using cL with
    | @lst b us _ n' hl' hr' =>
      have hlen : vs.length = us.length := by rw [hr.length, hr'.length]
      have := RcNeAt.lists (A := A) (e := fun zz => true) hl hl' (by simpa using hlen) (by lia) (items_eq (α := Unit) hlen fun j v u h1 h2 => eqvs_refl xs (A := A.in1) ok (by show A.units + 1 + deeps xs < cLine; lia) hr hr' j h1 h2)
      refine this g.prog g.w noE Q ?_
      rw [all_true]
      exact q s (Pur.refl st.wd)⟩
open SeqAt in
theorem Cmp.neNil {xs} (hu : A.units < cLine) : Cmp g A F ρ .NotEq (.lst xs) (.lst []) (!xs.isEmpty) := ⟨fun O s v₁ v₂ Q st r₁ r₂ q => by
  cases r₁ using cL with
  | @lst a vs _ n hl hr =>
    cases r₂ using cL with
    | @lst b us _ n' hl' hr' =>
      cases hr' using cE
      cases xs with
      | nil =>
        cases hr using cE
        have := RcNeAt.lists (A := A) (e := fun zz => true) hl hl' rfl hu (fun j h1 h2 => absurd h1 (Nat.not_lt_zero _))
        exact this g.prog g.w noE Q (q s (Pur.refl st.wd))
      | cons x xs =>
        have e := hr.length
        have := RcNeAt.lists_lengths (A := A) hl hl' (by simp; intro h; rw [h] at e; simp at e) hu
        exact this g.prog g.w noE Q (q s (Pur.refl st.wd))⟩
open SeqAt in
theorem Cmp.eqNil {xs} (hu : A.units < cLine) : Cmp g A F ρ .Eq (.lst xs) (.lst []) xs.isEmpty := ⟨fun O s v₁ v₂ Q st r₁ r₂ q => by
  cases r₁ using cL with
  | @lst a vs _ n hl hr =>
    cases r₂ using cL with
    | @lst b us _ n' hl' hr' =>
      cases hr' using cE
      cases xs with
      | nil =>
        cases hr using cE
        have := RcAt.lists (A := A) (e := fun zz => true) hl hl' rfl hu (fun j h1 h2 => absurd h1 (Nat.not_lt_zero _))
        exact this g.prog g.w noE Q (q s (Pur.refl st.wd))
      | cons x xs =>
        have e := hr.length
        have := RcAt.lists_lengths (A := A) hl hl' (by simp; intro h; rw [h] at e; simp at e) hu
        exact this g.prog g.w noE Q (q s (Pur.refl st.wd))⟩
end
end
section
section
variable {A : Around} {F : Fx} {ρ : Rho} {O : List (Str × Addr)} {s : Shared}

theorem reps_strs {h : Heap} {U : Addr → Prop} : ∀ {ts : List Str} {vs : List Value}, Reps g h U (ts.map .str) vs → ∃ l : List (Str × Tok), vs = strValues l ∧ l.map (·.1) = ts
  | [], _, .nil => ⟨[], rfl, rfl⟩
  | t :: ts, _, .cons a b => by
    obtain ⟨l, h1, h2⟩ := reps_strs b
    cases a using cS with
    | str _ u => exact ⟨(t, u) :: l, by rw [h1]; rfl, by rw [List.map_cons, h2]⟩
theorem Ev.startswith {o e : Expr} {apos pos : Pos} {x y : Str} (h₁ : Ev g A F ρ o (.str x)) (h₂ : Ev g A F ρ e (.str y)) (hb : attributeBase o "startswith" F.env (eval o F.env) = eval o F.env) (hs : starEach [e] F.env = [(false, eval e F.env)]) (hl : (apos.endLine == pos.line) = true) :
    Ev g A F ρ (.Call (.Attribute o "startswith" apos) [e] [] pos) (.bool (Txt.startswith x y)) := ⟨fun O s st =>
  Call_method1 hb hs hl (runQ (h₁.run O s st) fun ov s₁ p₁ r₁ => by
    cases r₁ using cS
    exact SB.startswith (runQ (h₂.run O s₁ (st.step p₁)) fun v s₂ p₂ r₂ => by
      cases r₂ using cS
      exact ⟨_, _, rfl, p₁.trans p₂, .bool _⟩))⟩
theorem Ev.endswith {o e : Expr} {apos pos : Pos} {x y : Str} (h₁ : Ev g A F ρ o (.str x)) (h₂ : Ev g A F ρ e (.str y)) (hb : attributeBase o "endswith" F.env (eval o F.env) = eval o F.env) (hs : starEach [e] F.env = [(false, eval e F.env)]) (hl : (apos.endLine == pos.line) = true) :
    Ev g A F ρ (.Call (.Attribute o "endswith" apos) [e] [] pos) (.bool (Txt.endswith x y)) := ⟨fun O s st =>
  Call_method1 hb hs hl (runQ (h₁.run O s st) fun ov s₁ p₁ r₁ => by
    cases r₁ using cS
    exact SB.endswith (runQ (h₂.run O s₁ (st.step p₁)) fun v s₂ p₂ r₂ => by
      cases r₂ using cS
      exact ⟨_, _, rfl, p₁.trans p₂, .bool _⟩))⟩
theorem Ev.join {o e : Expr} {apos pos : Pos} {x : Str} {ts : List Str} (h₁ : Ev g A F ρ o (.str x)) (h₂ : Ev g A F ρ e (.lst (ts.map .str))) (hok : JoinOk x ts = true) (hb : attributeBase o "join" F.env (eval o F.env) = eval o F.env) (hs : starEach [e] F.env = [(false, eval e F.env)]) (hl : (apos.endLine == pos.line) = true) :
    Ev g A F ρ (.Call (.Attribute o "join" apos) [e] [] pos) (.str (Txt.join x ts)) := ⟨fun O s st =>
  Call_method1 hb hs hl (runQ (h₁.run O s st) fun ov s₁ p₁ r₁ => by
    cases r₁ using cS
    exact SB.join (runQ (h₂.run O s₁ (st.step p₁)) fun v s₂ p₂ r₂ => by
      cases r₂ using cL with
      | @lst a vs _ n hL hr =>
        obtain ⟨l, hl, ht⟩ := reps_strs hr
        exact ⟨a, l, rfl, hl ▸ hL, ts, ht, hok, fun t' k => ⟨(p₁.trans p₂).trans (Pur.toks p₂.wd _), .str _ _⟩⟩))⟩
theorem Cmp.notInS {x y : Str} : Cmp g A F ρ .NotIn (.str y) (.str x) (!(!(Builtin.Str.occurrences x y 0 x.length 1).isEmpty)) := ⟨fun zz zz zz zz zz st r₁ r₂ q => by
  cases r₁ using cS; cases r₂ using cS; with_reducible refine PyProof.Rows.notIn_str ?_
  exact q _ (Pur.refl st.wd)⟩
end
section
open Builtin Builtin.Str
noncomputable def find4 (x y : Str) (i j : Int) : Int := match occurrences x y (fromIndex x.length i) (min (fromIndex x.length j) x.length) 1 with | k :: _ => (k : Int) | [] => -1
theorem gives_find4 (x y : Str) (i j : Int) (t u v v' : Tok) : Gives («str.find» ⟨[.str x t, .str y u, .int i v, .int j v'], []⟩) (.int (find4 x y i j)) := by
  show Gives (match occurrences x y (fromIndex x.length i) (min (fromIndex x.length j) x.length) 1 with | k :: _ => retInt k | [] => (do rule "str.find.not-found"; retInt (-1))) _
  unfold find4
  cases occurrences x y (fromIndex x.length i) (min (fromIndex x.length j) x.length) 1 with
  | nil => exact .rule (.of_eq rfl)
  | cons k _ => exact .of_eq rfl
end
end
section
section
open MeetsSeq AutoSeq1
theorem list_setitem_at (l : Addr) (items : Array Value) (n : Nat) (i : Int) (j : Nat) (u : Tok) (v : Value) (hfit : Builtin.List.listFitsIndex i = true) (hi : i = (j : Int)) (hj : j < items.size) :
    PySem.Meets (Builtin.«list.__setitem__» ⟨[.ref l, .int i u, v], []⟩)
      (fun zz R s => s.heap.get? l = some { cls := .type "list", dict := none, data := .seq items n, slots := #[] } ∧ R (.ok (.ret .none)) { s with heap := s.heap.update l (Obj.mapSeq fun xs => xs.setIfInBounds j v) }) :=
  PySem.Meets.of_wp fun prog w A R s h => by
    obtain ⟨hp, g, d, tk, os⟩ := s
    obtain ⟨hl, h⟩ := h
    have hf : ¬ (!Builtin.List.listFitsIndex i) = true := by simp [hfit]
    have f1 := AutoSeq1.idx_int
    wp_walk using wpAny_loadPart' hl
    clear hfit
    have hi' : i = Int.ofNat j := hi
    clear hi
    subst hi'
    dsimp only
    rw [if_neg hf]
    refine wpAny_pure ?_
    dsimp only
    refine wpAny_bind ?_
    show wpAny _ _ (seqItemAt l j >>= fun r => pure (r.map (j, ·))) _ _ _
    refine wpAny_bind (wpAny_seqItemAt hl rfl (wpAny_pure ?_))
    rw [Array.getElem?_eq_getElem hj]
    dsimp only [Option.map]
    exact wpAny_bind (wpAny_setSeqItemAt hl rfl (wpAny_pure ⟨_, rfl, h⟩))
end
section
variable {prog : Program} {w : World} {A : Around} {E : Value → Shared → Prop} {s : Shared}
theorem setItem_plain {l : Addr} {items : Array Value} {j : Nat} {u : Tok} {v : Value} {Q : Unit → Shared → Prop} (hl : s.heap.PlainList l items) (hj : j < items.size) (hz : (j : Int) < 2 ^ 63)
    (hQ : ∀ h', h'.PlainList l (items.setIfInBounds j v) → Heap.SameBut l s.heap h' → Q () { s with heap := h' }) : wpAny (model prog w) A (setItem (.ref l) (.int (j : Int) u) v) Q E s := by
  obtain ⟨n, ho⟩ := hl
  have hT : s.TypeIs (.ref l) "list" := ⟨_, ho, rfl⟩
  have hfit : Builtin.List.listFitsIndex (j : Int) = true := fitsIndex_of (Int.natCast_nonneg j) hz
  unfold setItem
  refine wpAny_holding ?_
  refine wpAny_bind (wpAny_sequenceKey hT (by decide) ?_)
  refine wpAny_bind (wpAny_callSpecial?_slot hT PySem.F.slot_list_setitem ?_)
  generalize hi : (j : Int) = i at hfit ⊢
  have hm := list_setitem_at l items n i j u v hfit hi.symm hj
  refine call_meets PySem.F.slot_list_setitem hT PySem.F.entry_list_setitem (PySem.F.args_list_setitem_3 _ _ _) hm ⟨ho, ?_⟩
  exact wpAny_pure (hQ _ ⟨_, IsL.update (n := n) ho _⟩ (Heap.SameBut.update ..))
end

section
variable {A : Around} {F : Fx} {ρ : Rho} {O : List (Str × Addr)} {s : Shared} {Q : Res → Prop} {rest : List Stmt}
theorem StO.ownL (st : StO g F ρ O s) {x xs} (hm : (x, Sl.own xs) ∈ ρ) : ∃ a vs, Bound F.env s.heap x (.ref a) ∧ (x, a) ∈ O ∧ s.heap.PlainList a vs.toArray ∧ Reps g s.heap (UU F O) xs vs := by
  refine ngI fun hNg => ?_
  obtain ⟨v, hb, a, vs, rfl, hO, hl, hr⟩ := st.facts _ _ hm
  refine ngE hNg ?_
  exact ⟨a, vs, hb, hO, hl, hr⟩
theorem StO.setList (st : StO g F ρ O s) {x xs} {a : Addr} {vs ws : List Value} {ys : List V} {h' : Heap} {t : Nat} (hm : (x, Sl.own xs) ∈ ρ) (hb : Bound F.env s.heap x (.ref a)) (hO : (x, a) ∈ O) (hl : s.heap.PlainList a vs.toArray) (hs : Heap.SameBut a s.heap h') (hl' : h'.PlainList a ws.toArray)
    (hr : Reps g s.heap (UU F O) ys ws) : StO g F (ρ.put x (.own ys)) O { s with heap := h', toks := t } :=
  st.setOwn (sl := .own ys) hO hb hs.extBut (fun o e vs q => by obtain ⟨n, h⟩ := hl; rw [h] at e; cases e; cases q) (let ⟨_, e⟩ := hl'; ⟨_, e⟩) fun keep => ⟨a, ws, rfl, hO, hl', Reps.mono (fun zz u n zz => n u) keep hr⟩

theorem X.append {x p apos pos epos e xs d} (hm : (x, Sl.own xs) ∈ ρ) (he : Ev g A F ρ e d) (hz : xs.length ≤ sizeLine) (hd : (x == ("__debug__" : Str)) = false) (hb : attributeBase (.Name x p) "append" F.env (eval (.Name x p) F.env) = eval (.Name x p) F.env)
    (hs : starEach [e] F.env = [(false, eval e F.env)]) (hl : (apos.endLine == pos.line) = true) (hi : interactive F.env = false) (hsw : swapsWith (.Call (.Attribute (.Name x p) "append" apos) [e] [] pos) none epos.line F.env = pure false)
    (k : X g A F (ρ.put x (.own (xs ++ [d]))) rest Q) : X g A F ρ (.Expr (.Call (.Attribute (.Name x p) "append" apos) [e] [] pos) epos :: rest) Q := ⟨fun O s st => by
  refine wpAny_execs_cons (wpAny_Expr ?_ hi hsw)
  refine ngI fun hNg => ?_
  obtain ⟨a, vs, hbd, hO, hL, hr⟩ := st.ownL hm
  refine ngE hNg ?_
  refine Call_method1 hb hs hl (load_bound st.kind hbd ?_ hd)
  refine ⟨"list", "list.append", PySem.F.plainAttrs_list, PySem.F.slot_list_append, PySem.F.type_list_append, ⟨_, hL.choose_spec, rfl⟩, fun b e => by cases e; exact ⟨_, hL.choose_spec, rfl⟩, ?_⟩
  refine Calls.callWith_builtin rfl (Calls.evalArgs_plain (Calls.spliced_cons (runQ (he.run O s st) fun v s₁ p₁ r₁ => Calls.spliced_nil ?_)))
  have st₁ := st.step p₁
  have hL₁ := p₁.plainL st.wd hL
  refine wpAny_list_append_plain hL₁ (fun h' hl' hs' => ?_) (by rw [List.size_toArray, hr.length]; exact hz)
  refine k.run _ _ (st₁.setList (t := s₁.toks) (ws := vs ++ [v]) hm (p₁.bound st.wd hbd) hO hL₁ hs' (by simpa using hl') ((st.reps p₁ hr).append (.one r₁)))⟩
theorem X.setItemL {x p i tp pos e xs d} {k : Nat} (hm : (x, Sl.own xs) ∈ ρ) (hi : Ev g A F ρ i (.int (k : Int))) (he : Ev g A F ρ e d) (hk : k < xs.length) (hz : (k : Int) < 2 ^ 63) (hd : (x == ("__debug__" : Str)) = false)
    (hsw : swapsWith e (some (.Subscript (.Name x p) i tp)) pos.line F.env = pure false) (kk : X g A F (ρ.put x (.own (xs.set k d))) rest Q) : X g A F ρ (.Assign [.Subscript (.Name x p) i tp] e pos :: rest) Q := ⟨fun O s st => by
  refine wpAny_execs_cons (wpAny_Assign_Subscript (runQ (he.run O s st) fun v s₁ p₁ r₁ => ?_) hsw)
  have st₁ := st.step p₁
  refine ngI fun hNg => ?_
  obtain ⟨a, vs, hbd, hO, hL, hr⟩ := st₁.ownL hm
  refine ngE hNg ?_
  refine load_bound st₁.kind hbd ?_ hd
  refine runQ (hi.run O s₁ st₁) fun iv s₂ p₂ r₂ => ?_
  have st₂ := st₁.step p₂
  have hL₂ := p₂.plainL st₁.wd hL
  cases r₂ using cI with
  | int _ u =>
    refine setItem_plain hL₂ (by rw [List.size_toArray, hr.length]; exact hk) hz fun h' hl' hs' => ?_
    refine kk.run _ _ (st₂.setList (t := s₂.toks) (ws := vs.set k v) hm (p₂.bound st₁.wd hbd) hO hL₂ hs' (by simpa using hl') ((st₁.reps p₂ hr).set (st₁.rep p₂ r₁) k))⟩
end
end
section
noncomputable def putIn {α : Type} (k : Nat) (x : α) (xs : List α) : List α := xs.take k ++ x :: xs.drop k
section
variable {prog : Program} {w : World} {A : Around} {E : Value → Shared → Prop} {s : Shared}
theorem insert_plain {l : Addr} {vs : List Value} {k : Nat} {u : Tok} {v : Value} {Q : Value → Shared → Prop} (hl : s.heap.PlainList l vs.toArray) (hk : k ≤ vs.length) (hz : vs.length ≤ sizeLine)
    (hQ : ∀ h', h'.PlainList l (putIn k v vs).toArray → Heap.SameBut l s.heap h' → Q .none { s with heap := h' }) : wpAny (model prog w) A (call (.builtin "list.insert") [.ref l, .int (k : Int) u, v]) Q E s := by
  obtain ⟨n, ho⟩ := hl
  have hT : s.TypeIs (.ref l) "list" := ⟨_, ho, rfl⟩
  have hfit : ¬ (!Builtin.List.listFitsIndex (k : Int)) = true := by
    have : Builtin.List.listFitsIndex (k : Int) = true := fitsIndex_of (Int.natCast_nonneg k) (by have : sizeLine = 16777216 := rfl; lia)
    simp [this]
  have e1 : (if (k : Int) < 0 then ((k : Int) + (vs.toArray.size : Int)).toNat else min (k : Int).toNat vs.toArray.size) = k := by
    rw [if_neg (by lia), Int.toNat_natCast]; simp; lia
  have e2 : ((vs.toArray.extract 0 k).push v ++ vs.toArray.extract k) = (putIn k v vs).toArray := by
    unfold putIn
    simp [List.take_of_length_le]
  have hup := IsL.update (n := n) ho (fun xs => have k' := if (k : Int) < 0 then ((k : Int) + (xs.size : Int)).toNat else min (k : Int).toNat xs.size; (xs.extract 0 k').push v ++ xs.extract k')
  revert hfit e1 hup
  generalize (k : Int) = i
  intro hfit e1 hup
  have hm := AutoSeq1.list_insert_list_int_val_1 l vs.toArray n i u v hfit (by simpa using hz)
  refine call_meets PySem.F.slot_list_insert hT PySem.F.entry_list_insert (PySem.F.args_list_insert_3 _ _ _) hm ⟨ho, ?_⟩
  simp only [e1] at hup
  rw [e2] at hup
  exact hQ _ ⟨_, hup⟩ (Heap.SameBut.update ..)
theorem delitem_plain {l : Addr} {vs : List Value} {i : Int} {k : Nat} {u : Tok} {Q : Unit → Shared → Prop} (hl : s.heap.PlainList l vs.toArray) (hfit : Builtin.List.listFitsIndex i = true) (hk : seqIndex? i vs.length = some k) (hz : vs.length ≤ sizeLine)
    (hQ : ∀ h', h'.PlainList l (vs.eraseIdx k).toArray → Heap.SameBut l s.heap h' → Q () { s with heap := h' }) : wpAny (model prog w) A (delItem (.ref l) (.int i u)) Q E s := by
  refine wpAny_delItem_plain hl hfit (k := k) (by rw [List.size_toArray]; exact hk) (fun h' hl' hs => hQ h' ?_ hs) (by rw [List.size_toArray]; exact hz)
  have e : vs.toArray.eraseIdxIfInBounds k = (vs.eraseIdx k).toArray := by
    simp
  rw [e] at hl'; exact hl'
end
section
variable {A : Around} {F : Fx} {ρ : Rho} {O : List (Str × Addr)} {s : Shared} {Q : Res → Prop} {rest : List Stmt}
theorem reps_putIn {h : Heap} {U : Addr → Prop} {xs : List V} {vs : List Value} (r : Reps g h U xs vs) {d : V} {v : Value} (q : Rep g h U d v) (k : Nat) : Reps g h U (putIn k d xs) (putIn k v vs) := (r.take k).append (.cons q (r.drop k))
theorem reps_erase {h : Heap} {U : Addr → Prop} : ∀ {xs : List V} {vs : List Value} (k : Nat), Reps g h U xs vs → Reps g h U (xs.eraseIdx k) (vs.eraseIdx k)
  | _, _, _, .nil => .nil
  | _, _, 0, .cons _ b => b
  | _, _, k + 1, .cons a b => .cons a (reps_erase k b)

theorem X.insert {x p apos pos epos i e xs d} {k : Nat} (hm : (x, Sl.own xs) ∈ ρ) (hi : Ev g A F ρ i (.int (k : Int))) (he : Ev g A F ρ e d) (hk : k ≤ xs.length) (hz : xs.length ≤ sizeLine) (hd : (x == ("__debug__" : Str)) = false) (hb : attributeBase (.Name x p) "insert" F.env (eval (.Name x p) F.env) = eval (.Name x p) F.env)
    (hs : starEach [i, e] F.env = [(false, eval i F.env), (false, eval e F.env)]) (hl : (apos.endLine == pos.line) = true) (hin : interactive F.env = false) (hsw : swapsWith (.Call (.Attribute (.Name x p) "insert" apos) [i, e] [] pos) none epos.line F.env = pure false)
    (kk : X g A F (ρ.put x (.own (putIn k d xs))) rest Q) : X g A F ρ (.Expr (.Call (.Attribute (.Name x p) "insert" apos) [i, e] [] pos) epos :: rest) Q := ⟨fun O s st => by
  refine wpAny_execs_cons (wpAny_Expr ?_ hin hsw)
  refine ngI fun hNg => ?_
  obtain ⟨a, vs, hbd, hO, hL, hr⟩ := st.ownL hm
  refine ngE hNg ?_
  refine Call_method2 hb hs hl (load_bound st.kind hbd ?_ hd)
  refine ⟨"list", "list.insert", PySem.F.plainAttrs_list, PySem.F.slot_list_insert, PySem.F.type_list_insert, ⟨_, hL.choose_spec, rfl⟩, fun b e => by cases e; exact ⟨_, hL.choose_spec, rfl⟩, ?_⟩
  refine Calls.callWith_builtin rfl (Calls.evalArgs_plain (Calls.spliced_cons (runQ (hi.run O s st) fun iv s₁ p₁ r₁ => Calls.spliced_cons (runQ (he.run O s₁ (st.step p₁)) fun v s₂ p₂ r₂ => Calls.spliced_nil ?_))))
  have st₁ := st.step p₁
  have st₂ := st₁.step p₂
  have p := p₁.trans p₂
  have hL₂ := p.plainL st.wd hL
  cases r₁ using cI with
  | int _ u =>
    refine insert_plain hL₂ (by rw [hr.length]; exact hk) (by rw [hr.length]; exact hz) fun h' hl' hs' => ?_
    exact kk.run _ _ (st₂.setList (t := s₂.toks) hm (p.bound st.wd hbd) hO hL₂ hs' hl' (reps_putIn (st.reps p hr) r₂ k))⟩
theorem X.del {x p ip pos i xs} {j : Int} {k : Nat} (hm : (x, Sl.own xs) ∈ ρ) (hi : Ev g A F ρ i (.int j)) (hfit : Builtin.List.listFitsIndex j = true) (hk : seqIndex? j xs.length = some k) (hz : xs.length ≤ sizeLine) (hd : (x == ("__debug__" : Str)) = false)
    (kk : X g A F (ρ.put x (.own (xs.eraseIdx k))) rest Q) : X g A F ρ (.Delete [.Subscript (.Name x p) i ip] pos :: rest) Q := ⟨fun O s st => by
  refine wpAny_execs_cons (wpAny_Delete ?_)
  refine wpAny_deleteEach_cons ?_
  rw [arm_delete_Subscript]
  refine ngI fun hNg => ?_
  obtain ⟨a, vs, hbd, hO, hL, hr⟩ := st.ownL hm
  refine ngE hNg ?_
  refine wpAny_bind (load_bound st.kind hbd ?_ hd)
  refine wpAny_bind (wpAny_holding (runQ (hi.run O s st) fun iv s₁ p₁ r₁ => ?_))
  have st₁ := st.step p₁
  have hL₁ := p₁.plainL st.wd hL
  cases r₁ using cI with
  | int _ u =>
    refine wpAny_bind (wpAny_standAt (wpAny_bind (wpAny_holding ?_)))
    refine delitem_plain hL₁ hfit (by rw [hr.length]; exact hk) (by rw [hr.length]; exact hz) fun h' hl' hs' => ?_
    refine wpAny_release ?_
    refine wpAny_deleteEach_nil ?_
    exact kk.run _ _ (st₁.setList (t := s₁.toks) hm (p₁.bound st.wd hbd) hO hL₁ hs' hl' (reps_erase k (st.reps p₁ hr)))⟩

theorem X.augAdd {x px e pos a b} (hm : (x, Sl.imm (.int a)) ∈ ρ) (he : Ev g A F ρ e (.int b)) (hx : CanStore F x) (k : X g A F (ρ.put x (.imm (.int (a + b)))) rest Q) : X g A F ρ (.AugAssign (.Name x px) .Add e pos :: rest) Q := ⟨fun O s st => by
  refine wpAny_execs_cons (wpAny_AugAssign_Name ?_)
  obtain ⟨v, hb, hr⟩ := st.facts _ _ hm
  cases hr with
  | int _ t =>
    have hload : ∀ {Q' : Value → Shared → Prop}, Q' (.int a t) s → wpAny g.M A (loadName F.env x) Q' noE s := fun {Q'} q => by
      rcases hb with ⟨hl, m, hn, hmm⟩ | ⟨hl, hz, c, hc, hv⟩
      · exact wpAny_loadName_local st.kind hl hn hmm q
      · rcases hl with hl | hl
        · exact wpAny_loadName_cell st.kind hl hc hv q
        · exact wpAny_loadName_free st.kind hl hc hv q hz
    refine hload (runQ (he.run O s st) fun v s₁ p₁ r₁ => ?_)
    have st₁ := st.step p₁
    cases r₁ using cI with
    | int _ u =>
      with_reducible refine PyProof.Rows.iadd_int ?_
      have p₂ := Pur.toks st₁.wd (s₁.toks + 1)
      exact (st₁.step p₂).storeImm hx (.int _ _) fun s₂ st₂ => k.run _ _ st₂⟩
theorem X.augSub {x px e pos a b} (hm : (x, Sl.imm (.int a)) ∈ ρ) (he : Ev g A F ρ e (.int b)) (hx : CanStore F x) (k : X g A F (ρ.put x (.imm (.int (a - b)))) rest Q) : X g A F ρ (.AugAssign (.Name x px) .Sub e pos :: rest) Q := ⟨fun O s st => by
  refine wpAny_execs_cons (wpAny_AugAssign_Name ?_)
  obtain ⟨v, hb, hr⟩ := st.facts _ _ hm
  cases hr with
  | int _ t =>
    have hload : ∀ {Q' : Value → Shared → Prop}, Q' (.int a t) s → wpAny g.M A (loadName F.env x) Q' noE s := fun {Q'} q => by
      rcases hb with ⟨hl, m, hn, hmm⟩ | ⟨hl, hz, c, hc, hv⟩
      · exact wpAny_loadName_local st.kind hl hn hmm q
      · rcases hl with hl | hl
        · exact wpAny_loadName_cell st.kind hl hc hv q
        · exact wpAny_loadName_free st.kind hl hc hv q hz
    refine hload (runQ (he.run O s st) fun v s₁ p₁ r₁ => ?_)
    have st₁ := st.step p₁
    cases r₁ using cI with
    | int _ u =>
      with_reducible refine PyProof.Rows.isub_int ?_
      have p₂ := Pur.toks st₁.wd (s₁.toks + 1)
      exact (st₁.step p₂).storeImm hx (.int _ _) fun s₂ st₂ => k.run _ _ st₂⟩
end
end
section
noncomputable def lookD (es : List (Str × V)) (k : Str) : Option V := (es.find? fun e => e.1 = k).map (·.2)
noncomputable def hasD (es : List (Str × V)) (k : Str) : Bool := es.any fun e => e.1 = k
noncomputable def putD (es : List (Str × V)) (k : Str) (d : V) : List (Str × V) := if hasD es k then es.map (fun e => if e.1 = k then (e.1, d) else e) else es ++ [(k, d)]
section
variable {h : Heap} {U : Addr → Prop}
theorem repD_look {es : List (Str × V)} {kvs : List (Str × Value)} (r : RepD g h U es kvs) (k : Str) : (lookD es k = none ∧ valueAt kvs k = none) ∨ ∃ d v, lookD es k = some d ∧ valueAt kvs k = some v ∧ Rep g h U d v := by
  induction kvs generalizing es with
  | nil => cases r; exact .inl ⟨rfl, rfl⟩
  | cons p kvs ih =>
    cases r with
    | @cons k' d v es _ a r =>
      by_cases e : k' = k
      · exact .inr ⟨d, v, by simp [lookD, List.find?, e], by simp [valueAt, List.find?, e], a⟩
      · rcases ih r with ⟨h1, h2⟩ | ⟨d', v', h1, h2, h3⟩
        · exact .inl ⟨by simpa [lookD, List.find?, e] using h1, by simpa [valueAt, List.find?, e] using h2⟩
        · exact .inr ⟨d', v', by simpa [lookD, List.find?, e] using h1, by simpa [valueAt, List.find?, e] using h2, h3⟩
theorem repD_has {es : List (Str × V)} {kvs : List (Str × Value)} (r : RepD g h U es kvs) (k : Str) : hasD es k = kvs.any fun kv => kv.1 = k := by
  induction kvs generalizing es with
  | nil => cases r; rfl
  | cons p kvs ih =>
    cases r with
    | cons a r => unfold hasD; rw [List.any_cons, List.any_cons]; congr 1; exact ih r
theorem repD_append {es fs : List (Str × V)} {kvs lvs : List (Str × Value)} (r : RepD g h U es kvs) (q : RepD g h U fs lvs) : RepD g h U (es ++ fs) (kvs ++ lvs) := by
  induction kvs generalizing es with
  | nil => cases r; exact q
  | cons p kvs ih => cases r with | cons a r => exact .cons a (ih r)
theorem repD_put {es : List (Str × V)} {kvs : List (Str × Value)} (r : RepD g h U es kvs) (k : Str) {d : V} {v : Value} (q : Rep g h U d v) : RepD g h U (putD es k d) (stored kvs k v) := by
  unfold putD stored
  rw [repD_has r k]
  split
  · rename_i hh
    clear hh
    induction kvs generalizing es with
    | nil => cases r; exact .nil
    | cons p kvs ih =>
      cases r with
      | @cons k' d' v' es _ a r =>
        rw [List.map_cons, List.map_cons]
        by_cases e : k' = k
        · simp only [e, if_true]; exact .cons q (ih r)
        · simp only [e, if_false]; exact .cons a (ih r)
  · exact repD_append r (.cons q .nil)
theorem has_look {es : List (Str × V)} {kvs : List (Str × Value)} (r : RepD g h U es kvs) (k : Str) : (valueAt kvs k).isSome = hasD es k := by
  rw [repD_has r k]
  have any : ∀ (l : List (Str × Value)) (p : Str × Value → Bool), (l.find? p).isSome = l.any p := by
    intro l p
    induction l with
    | nil => rfl
    | cons a l ih => rw [List.find?_cons, List.any_cons]; cases p a <;> simp [ih]
  unfold valueAt
  rw [Option.isSome_map, any]
end

section
variable {A : Around} {F : Fx} {ρ : Rho} {O : List (Str × Addr)} {s : Shared} {Q : Res → Prop} {rest : List Stmt}
theorem strIs (g : G) (k : Str) (t : Tok) : g.knd.is k (.str k t) = true := strKind_is g.prog g.w k t

theorem notSys (H : Glb g) (w : Wd g s) {a : Addr} (h : s.heap.objs.size ≤ a) : (a == sysModules) = false := by
  obtain ⟨o, _, _, ho, _⟩ := H.ng
  have h1 : mainGlobals < s.heap.objs.size := Heap.lt_size (w.keep _ _ ho)
  have h2 : sysModules ≤ mainGlobals := by decide
  rw [beq_eq_false_iff_ne]
  intro e
  rw [e] at h
  exact absurd (Nat.le_trans h h2) (Nat.not_le.mpr h1)
theorem Ev.dict0 (H : Glb g) {pos} : Ev g A F ρ (.Dict [] [] pos) (.dct []) := ⟨fun O s st =>
  wpAny_Dict_empty ⟨Pur.push (t := s.toks) st.wd, .dct (st.fresh (noneAtSize _)) (notSys H st.wd (Nat.le_refl _)) (Heap.DictOf.new s.heap) .nil⟩⟩
theorem Ev.dict1 (H : Glb g) {ke ve pos k d} (h₁ : Ev g A F ρ ke (.str k)) (h₂ : Ev g A F ρ ve d) : Ev g A F ρ (.Dict [some ke] [ve] pos) (.dct [(k, d)]) := ⟨fun O s st => by
  refine wpAny_Dict_pairs (knd := g.knd) (pairs := [(eval ke F.env, do let x ← eval ve F.env; standAt pos; pure x)]) rfl (by simp) (by simp) ?_
  have hn : s.heap.get? s.heap.objs.size = Option.none := noneAtSize _
  have p₀ : Pur g s { s with heap := s.heap.push { cls := .type "dict", data := .dict #[] } } := Pur.push (t := s.toks) st.wd
  have st₀ := st.addObj (x := "%d") p₀ hn (Heap.get?_push_size _ rfl)
  refine evalPairs_cons (runQ (h₁.run _ _ (st₀.sub fun q hq => .tail _ hq)) fun kv s₁ p₁ r₁ => ?_)
  have st₁ := st₀.step p₁
  refine wpAny_bind (runQ (h₂.run _ s₁ (st₁.sub fun q hq => .tail _ hq)) fun vv s₂ p₂ r₂ => ?_)
  have st₂ := st₁.step p₂
  refine wpAny_bind (wpAny_standAt (wpAny_pure ?_))
  refine evalPairs_nil ?_
  have hDO := st₂.objO (.head _)
  have hod := st₂.objH (.head _)
  cases r₁ using cS with
  | str _ t =>
    have hd0 : s₂.heap.DictOf g.knd s.heap.objs.size [] := p₂.dictOf p₁.wd (p₁.dictOf p₀.wd (Heap.DictOf.new s.heap))
    refine ⟨[(k, vv)], ⟨strIs g k t, rfl, trivial⟩, hd0, fun h' hd hs => ?_⟩
    have p := (p₀.trans p₁).trans p₂
    have keep : ∀ b o, b ≠ s.heap.objs.size → s₂.heap.get? b = some o → h'.get? b = some o := fun b o n e => (hs.2 b n).trans e
    have hT := st₂.touch (st₂.newO _ hDO) (t := s₂.toks + 1) hs.extBut (fun o e vs q => by rw [hod] at e; cases e; cases q)
    have P : Pur g s { s₂ with heap := h', toks := s₂.toks + 1 } := ⟨fun b o n e => keep b o (fun q => by rw [q, hn] at e; cases e) (p.keep b o n e), hT.1⟩
    refine ⟨P, .dct (st.fresh hn) (notSys H st.wd (Nat.le_refl _)) hd ?_⟩
    have hDU : UU F (O ++ ([("%d", s.heap.objs.size)] : List (Str × Addr))) s.heap.objs.size := .inr (.inr (.inr (List.mem_map.mpr ⟨_, hDO, rfl⟩)))
    refine .cons (Rep.mono (fun b u n zz => n ?_) (fun b o n e => keep b o (fun q => n (q ▸ hDU)) e) r₂) .nil
    rcases u with u | u | u | u
    · exact .inl u
    · exact .inr (.inl u)
    · exact .inr (.inr (.inl u))
    · obtain ⟨q, hq, rfl⟩ := List.mem_map.mp u
      exact .inr (.inr (.inr (List.mem_map.mpr ⟨q, List.mem_append_left _ hq, rfl⟩)))⟩
theorem Cmp.inD {k es} : Cmp g A F ρ .In (.str k) (.dct es) (hasD es k) := ⟨fun O s v₁ v₂ Q st r₁ r₂ q => by
  cases r₁ using cS with
  | str _ t =>
    cases r₂ using cD with
    | @dct a kvs _ n hm hd hr =>
      refine wpAny_in_of (knd := g.knd) (strIs g k t) hm hd.mapOf ?_
      rw [has_look hr]
      exact q _ (Pur.toks st.wd _)⟩
theorem Ev.getD {e i pos es k d} (h₁ : Ev g A F ρ e (.dct es)) (h₂ : Ev g A F ρ i (.str k)) (hk : lookD es k = some d) (hs : ∀ o v, subscripted i false o v = operate [o, v] (getItem o v)) : Ev g A F ρ (.Subscript e i pos) d := ⟨fun O s st =>
  Subscript_ (runQ (h₁.run O s st) fun v₁ s₁ p₁ r₁ => runQ (h₂.run O s₁ (st.step p₁)) fun v₂ s₂ p₂ r₂ => by
    have r₁' := (st.step p₁).rep p₂ r₁
    cases r₁' using cD with
    | @dct a kvs _ n hm hd hr =>
      cases r₂ using cS with
      | str _ t =>
        rcases repD_look hr k with ⟨e, _⟩ | ⟨d', v, e1, e2, e3⟩
        · rw [hk] at e; cases e
        · rw [hk] at e1; cases e1
          refine tail_any hd.typeIs PySem.F.slot_dict_getitem.lookup (wpAny_getItem_of (knd := g.knd) (strIs g k t) hd.mapOf e2 ?_) (hs _ _)
          exact ⟨(p₁.trans p₂).trans (Pur.toks p₂.wd _), e3⟩)⟩

theorem StO.ownDict (st : StO g F ρ O s) {x es} (hm : (x, Sl.ownD es) ∈ ρ) : ∃ a kvs, Bound F.env s.heap x (.ref a) ∧ (x, a) ∈ O ∧ (a == sysModules) = false ∧ s.heap.DictOf g.knd a kvs ∧ RepD g s.heap (UU F O) es kvs := by
  refine ngI fun hNg => ?_
  obtain ⟨v, hb, a, vs, rfl, hO, hs, hl, hr⟩ := st.facts _ _ hm
  refine ngE hNg ?_
  exact ⟨a, vs, hb, hO, hs, hl, hr⟩
theorem StO.setDict (st : StO g F ρ O s) {x es} {a : Addr} {kvs lvs : List (Str × Value)} {fs : List (Str × V)} {h' : Heap} {t : Nat} (hm : (x, Sl.ownD es) ∈ ρ) (hb : Bound F.env s.heap x (.ref a)) (hO : (x, a) ∈ O) (hsy : (a == sysModules) = false) (hl : s.heap.DictOf g.knd a kvs) (hs : Heap.SameBut a s.heap h') (hl' : h'.DictOf g.knd a lvs)
    (hr : RepD g s.heap (UU F O) fs lvs) : StO g F (ρ.put x (.ownD fs)) O { s with heap := h', toks := t } :=
  st.setOwn (sl := .ownD fs) hO hb hs.extBut (fun o e vs q => by obtain ⟨o', _, _, h, _, hd, _⟩ := hl; rw [h] at e; cases e; rw [hd] at q; cases q) (let ⟨o, _, _, e, _⟩ := hl'; ⟨o, e⟩) fun keep => ⟨a, lvs, rfl, hO, hsy, hl', RepD.mono (fun zz u n zz => n u) keep hr⟩
theorem X.assignD0 (H : Glb g) {x px dpos pos} (hx : CanStore F x) (k : X g A F (ρ.put x (.ownD [])) rest Q) (hs : swapsWith (.Dict [] [] dpos) (some (.Name x px)) pos.line F.env = pure false) : X g A F ρ (.Assign [.Name x px] (.Dict [] [] dpos) pos :: rest) Q := ⟨fun O s st => by
  refine wpAny_execs_cons (wpAny_Assign_Name (wpAny_Dict_empty ?_) hs)
  exact st.storeDict (Pur.push (t := s.toks) st.wd) hx (noneAtSize _) (notSys H st.wd (Nat.le_refl _)) (Heap.DictOf.new s.heap) .nil fun s₂ st₂ => k.run _ _ st₂⟩
theorem Tr.inOwn {x px l pos es k} (hm : (x, Sl.ownD es) ∈ ρ) (h₁ : Ev g A F ρ l (.str k)) (hd : (x == ("__debug__" : Str)) = false) (hb : behindInMarks .In (.Name x px) = false) : Tr g A F ρ (.Compare l [.In] [.Name x px] pos) (hasD es k) := ⟨fun O s st =>
  wpAny_isTrue_Compare1 (runQ (h₁.run O s st) fun v₁ s₁ p₁ r₁ => by
    have st₁ := st.step p₁
    refine ngI fun hNg => ?_
    obtain ⟨a, kvs, hbd, hO, hsy, hD, hr⟩ := st₁.ownDict hm
    refine ngE hNg ?_
    refine load_bound st₁.kind hbd ?_ hd
    cases r₁ using cS with
    | str _ t =>
      refine wpAny_in_of (knd := g.knd) (strIs g k t) hsy hD.mapOf ?_
      rw [has_look hr]
      exact wpAny_truthy_bool ⟨p₁.trans (Pur.toks st₁.wd _), rfl⟩) hb⟩
theorem Ev.getOwn {x px i pos es k d} (hm : (x, Sl.ownD es) ∈ ρ) (h₂ : Ev g A F ρ i (.str k)) (hk : lookD es k = some d) (hd : (x == ("__debug__" : Str)) = false) (hs : ∀ o v, subscripted i false o v = operate [o, v] (getItem o v)) : Ev g A F ρ (.Subscript (.Name x px) i pos) d := ⟨fun O s st => by
  refine ngI fun hNg => ?_
  obtain ⟨a, kvs, hbd, hO, hsy, hD, hr⟩ := st.ownDict hm
  refine ngE hNg ?_
  refine Subscript_ (load_bound st.kind hbd (runQ (h₂.run O s st) fun v₂ s₂ p₂ r₂ => ?_) hd)
  have hD₂ := p₂.dictOf st.wd hD
  have hr₂ := st.repD p₂ hr
  cases r₂ using cS with
  | str _ t =>
    rcases repD_look hr₂ k with ⟨e, _⟩ | ⟨d', v, e1, e2, e3⟩
    · rw [hk] at e; cases e
    · rw [hk] at e1; cases e1
      refine tail_any hD₂.typeIs PySem.F.slot_dict_getitem.lookup (wpAny_getItem_of (knd := g.knd) (strIs g k t) hD₂.mapOf e2 ?_) (hs _ _)
      exact ⟨p₂.trans (Pur.toks p₂.wd _), e3⟩⟩
theorem X.setItemD {x p i tp pos e es k d} (hm : (x, Sl.ownD es) ∈ ρ) (hi : Ev g A F ρ i (.str k)) (he : Ev g A F ρ e d) (hz : es.length ≤ sizeLine) (hd : (x == ("__debug__" : Str)) = false)
    (hsw : swapsWith e (some (.Subscript (.Name x p) i tp)) pos.line F.env = pure false) (kk : X g A F (ρ.put x (.ownD (putD es k d))) rest Q) : X g A F ρ (.Assign [.Subscript (.Name x p) i tp] e pos :: rest) Q := ⟨fun O s st => by
  refine wpAny_execs_cons (wpAny_Assign_Subscript (runQ (he.run O s st) fun v s₁ p₁ r₁ => ?_) hsw)
  have st₁ := st.step p₁
  refine ngI fun hNg => ?_
  obtain ⟨a, kvs, hbd, hO, hsy, hD, hr⟩ := st₁.ownDict hm
  refine ngE hNg ?_
  refine load_bound st₁.kind hbd ?_ hd
  refine runQ (hi.run O s₁ st₁) fun iv s₂ p₂ r₂ => ?_
  have st₂ := st₁.step p₂
  have hD₂ := p₂.dictOf st₁.wd hD
  have hr₂ := st₁.repD p₂ hr
  cases r₂ using cS with
  | str _ t =>
    refine wpAny_setItem_pairs (knd := g.knd) (strIs g k t) hD₂ (fun h' hD' hs' => ?_) (by rw [hr₂.length]; exact hz)
    exact kk.run _ _ (st₂.setDict hm (p₂.bound st₁.wd hbd) hO hsy hD₂ hs' hD' (repD_put hr₂ k (st₁.rep p₂ r₁)))⟩
theorem X.augD {x p y py tp pos e es k} {a b : Int} (hm : (x, Sl.ownD es) ∈ ρ) (hi : Ev g A F ρ (.Name y py) (.str k)) (hk : lookD es k = some (.int a)) (he : Ev g A F ρ e (.int b)) (hz : es.length ≤ sizeLine) (hd : (x == ("__debug__" : Str)) = false)
    (kk : X g A F (ρ.put x (.ownD (putD es k (.int (a + b))))) rest Q) : X g A F ρ (.AugAssign (.Subscript (.Name x p) (.Name y py) tp) .Add e pos :: rest) Q := ⟨fun O s st => by
  refine ngI fun hNg => ?_
  obtain ⟨D, kvs, hbd, hO, hsy, hD, hr⟩ := st.ownDict hm
  refine ngE hNg ?_
  refine wpAny_execs_cons (wpAny_AugAssign_Subscript (load_bound st.kind hbd (runQ (hi.run O s st) fun iv s₁ p₁ r₁ => ?_) hd))
  have st₁ := st.step p₁
  have hD₁ := p₁.dictOf st.wd hD
  have hr₁ := st.repD p₁ hr
  cases r₁ using cS with
  | str _ t =>
    rcases repD_look hr₁ k with ⟨e, _⟩ | ⟨d', v, e1, e2, e3⟩
    · rw [hk] at e; cases e
    · rw [hk] at e1; cases e1
      refine wpAny_getItem_of (knd := g.knd) (strIs g k t) hD₁.mapOf e2 ?_
      have p₂ := Pur.toks st₁.wd (s₁.toks + 1)
      have st₂ := st₁.step p₂
      refine runQ (he.run O _ st₂) fun v' s₃ p₃ r₃ => ?_
      have st₃ := st₂.step p₃
      cases e3 using cI with
      | int _ t1 =>
        cases r₃ using cI with
        | int _ t2 =>
          with_reducible refine PyProof.Rows.iadd_int ?_
          have p₄ := Pur.toks st₃.wd (s₃.toks + 1)
          have st₄ := st₃.step p₄
          have P := (p₂.trans p₃).trans p₄
          have hD₄ := P.dictOf st₁.wd hD₁
          have hr₄ := st₁.repD P hr₁
          refine wpAny_setItem_pairs (knd := g.knd) (strIs g k t) hD₄ (fun h' hD' hs' => ?_) (by rw [hr₄.length]; exact hz)
          exact kk.run _ _ (st₄.setDict hm ((p₁.trans P).bound st.wd hbd) hO hsy hD₄ hs' hD' (repD_put hr₄ k (.int _ _)))⟩
theorem CallP.tupleL {xs} (hz : xs.length ≤ sizeLine) : CallP g A F ρ (.type "tuple") [.lst xs] (.tup xs) := ⟨fun O s vs st r => by
  cases r using cC with
  | cons r r' =>
    cases r' using cE
    cases r using cL with
    | @lst a us _ n hL hr =>
      refine call_tuple_list hL (fun h' hk => ?_) (by rw [List.size_toArray, hr.length]; exact hz)
      have p : Pur g s { s with heap := h'.push { cls := .type "tuple", data := .seq us.toArray } } := Pur.grow (t := s.toks) st.wd fun b o e => Heap.get?_push_of_some _ (hk b o e)
      have hnone : s.heap.get? h'.objs.size = Option.none := by
        cases q : s.heap.get? h'.objs.size with
        | none => rfl
        | some o => exact absurd (Heap.lt_size (hk _ _ q)) (Nat.lt_irrefl _)
      exact ⟨p, .tup (st.fresh hnone) ⟨_, Heap.get?_push_size _ rfl, rfl, 0, rfl⟩ (st.reps p hr)⟩⟩
end
end
section
section
variable {A : Around} {F : Fx} {ρ : Rho} {O : List (Str × Addr)} {s : Shared} {Q : Res → Prop} {rest : List Stmt}

theorem X.forS {t e body pos ds} (it it₂ : Str) (src : Src g A F ρ e t ds) (Inv : Nat → Rho) (P : Nat → Prop) (hne : it₂ ≠ it) (hI : ∀ k, ∀ p ∈ Inv k, p.1 ≠ it) (p0 : P 0) (hsub : ∀ p ∈ Inv 0, p ∈ ρ)
    (turn : ∀ k d, ds[k]? = some d → P k → ∀ hid₁ hid₂, ∃ ρ₁, Asg g A F ((it, hid₁) :: (it₂, hid₂) :: Inv k) t d ρ₁ ∧
      X g A F ρ₁ body (fun r => match r with | .next ρ' => P (k + 1) ∧ ∀ p ∈ (it, hid₁) :: (it₂, hid₂) :: Inv (k + 1), p ∈ ρ' | .ret d => Q (.ret d)))
    (fin : P ds.length → X g A F (Inv ds.length) rest Q) (hs : ∀ x, foldedSetIterable e F.env x = pure x) : X g A F ρ (.For t e body [] pos :: rest) Q := ⟨fun O s st => by
  refine wpAny_execs_cons (wpAny_For (wpAny_mono (src.run O s st) (fun x s₁ q => ?_) fun zz zz x => x) hs)
  refine ngI fun hNg => ?_
  obtain ⟨p, q⟩ := q
  refine ngE hNg ?_
  refine wpAny_mono q (fun i s₂ q => ?_) fun zz zz x => x
  refine ngI fun hNg => ?_
  obtain ⟨I, oI, dsrc, a₀, o₀, IT, rfl, p₂, hI', hoI, h0, hn₀, hfix, hsrc⟩ := q
  refine ngE hNg ?_
  have st₁ := st.step p
  have st₂ := ((st₁.addFix (x := it₂) hn₀ hfix hsrc).addObj (x := it) p₂ hI' hoI).sub (ρ' := (it, .obj I oI) :: (it₂, .fix dsrc a₀ o₀) :: Inv 0) fun p hp => by
    rcases List.mem_cons.mp hp with e | hp
    · rw [e]; exact .head _
    · rcases List.mem_cons.mp hp with e | hp
      · rw [e]; exact .tail _ (.head _)
      · exact .tail _ (.tail _ (hsub p hp))
  refine forCore (Q := Q) hne IT Inv P hI turn ?_ ?_ st₂ h0 p0
  · exact fun O s hP st => (fin hP).run O s st
  · exact fun v s m => m⟩

theorem reps_of_get {h : Heap} {U : Addr → Prop} : ∀ {ds : List V} {vs : List Value}, vs.length = ds.length → (∀ (j : Nat) d v, ds[j]? = some d → vs[j]? = some v → Rep g h U d v) → Reps g h U ds vs
  | [], [], _, _ => .nil
  | [], _ :: _, e, _ => by simp at e
  | _ :: _, [], e, _ => by simp at e
  | _ :: _, _ :: _, e, k => .cons (k 0 _ _ rfl rfl) (reps_of_get (by simpa using e) fun j d v h1 h2 => k (j + 1) d v (by simpa using h1) (by simpa using h2))
noncomputable def itemsV (es : List (Str × V)) : List V := es.map fun e => .tup [.str e.1, e.2]
theorem itemsV_at {es : List (Str × V)} {k : Nat} {d : V} (h : (itemsV es)[k]? = some d) : ∃ x y, es[k]? = some (x, y) ∧ d = .tup [.str x, y] := by
  unfold itemsV at h
  rw [List.getElem?_map] at h
  cases e : es[k]? with
  | none => rw [e] at h; cases h
  | some p => rw [e] at h; cases h; exact ⟨p.1, p.2, rfl, rfl⟩
theorem repD_at {h : Heap} {U : Addr → Prop} : ∀ {es : List (Str × V)} {kvs : List (Str × Value)} {k : Nat} {x : Str} {d : V}, RepD g h U es kvs → es[k]? = some (x, d) → ∃ v, kvs[k]? = some (x, v) ∧ Rep g h U d v
  | _, _, 0, _, _, .cons a _, e => by simp at e; obtain ⟨rfl, rfl⟩ := e; exact ⟨_, rfl, a⟩
  | _, _, k + 1, _, _, .cons _ r, e => repD_at (k := k) r (by simpa using e)
  | _, _, _, _, _, .nil, e => by simp at e

noncomputable def Iter.items (hh : A.handled = none) {elts : List Expr} {tk : Nat} {tp : Pos} {es : List (Str × V)} {a I : Addr} {o₀ : Obj} {es₀ : Array DictEntry} {ep : Nat} (hd₀ : o₀.data = .dict es₀ ep) : Iter g A (.Tuple elts tk tp) (.dct es) a o₀ I (itemsV es) where
  st k o := ∃ ok ov, o = { cls := .type "dict_itemiterator", dict := none, data := .fields #[.none, .bool false, .ref a, .int k 0, .int es.length 0, .int ep 0, ok, ov], slots := #[] }
  mid k o v := ∃ ok ov b, v = .ref b ∧ o = { cls := .type "dict_itemiterator", dict := none, data := .fields #[rawInt b, .bool false, .ref a, .int k 0, .int es.length 0, .int ep 0, ok, ov], slots := #[] }
  nocode := fun k o ⟨ok, ov, e⟩ vs q x t => by rw [e] at q; cases q; simp
  next := fun k d s U o hd ⟨ok, ov, eo⟩ ho hU hUl hfix r => by
    obtain ⟨x, y, hes, rfl⟩ := itemsV_at hd
    cases r using cD with
    | @dct _ kvs _ n hm hD hr =>
      have hlen := hr.length
      obtain ⟨v, hkv, rv⟩ := repD_at hr hes
      obtain ⟨o', es', ep', ho', hc, hdd, hk, hp, hn⟩ := hD
      rw [hfix] at ho'; cases ho'
      rw [hd₀] at hdd; cases hdd
      subst eo
      refine wpAny_pyNext_items_item (knd := g.knd) (it := I) (d := a) (i := k) (ep := ep) (kvs := kvs) (ok := ok) (ov := ov) (by show s.heap.get? I = _; rw [ho, hlen]) ⟨_, _, hfix, hc, hd₀, hk, hp, hn⟩ hkv fun key h' hkey hout htup hsz hs => ?_
      obtain ⟨t, rfl⟩ := Value.isStrOf_shape (show Value.isStrOf x key = true from hkey)
      rw [hlen] at hout
      have hnone : s.heap.get? s.heap.objs.size = none := noneAtSize _
      refine ⟨_, _, h', s.toks, rfl, ⟨_, _, _, rfl, rfl⟩, rfl, hs, hout, .tup (hUl _ hnone) ⟨_, htup, rfl, 0, rfl⟩ ?_⟩
      exact .cons (.str _ _) (.one (Rep.mono (fun zz u n zz => n u) (fun b o n e => hs b o (fun q => n (q ▸ hU)) e) rv))
  done := fun s U o ⟨ok, ov, eo⟩ ho hU hfix r => by
    cases r using cD with
    | @dct _ kvs _ n hm hD hr =>
      have hlen := hr.length
      obtain ⟨o', es', ep', ho', hc, hdd, hk, hp, hn⟩ := hD
      rw [hfix] at ho'; cases ho'
      rw [hd₀] at hdd; cases hdd
      subst eo
      have e1 : (itemsV es).length = es.length := by simp [itemsV]
      refine wpAny_pyNext_items_end (knd := g.knd) hh (it := I) (d := a) (i := es.length) (ep := ep) (kvs := kvs) (ok := ok) (ov := ov) (by show s.heap.get? I = _; rw [ho, hlen, e1]) ⟨_, _, hfix, hc, hd₀, hk, hp, hn⟩ (by rw [List.getElem?_eq_none (by lia)]) fun h' hs => ?_
      exact ⟨h', s.toks, rfl, rfl, hs⟩
  self := fun k s o Q E ⟨ok, ov, eo⟩ ho q => by
    subst eo
    exact kcp_self ho q
  own := fun k s v d U o hd ⟨ok, ov, b, ev, eo⟩ ho r => by
    subst ev; subst eo
    refine wpAny_letOwnedTupleGo_items (it := I) (d := a) (a := b) ho fun h' he hs => ?_
    exact ⟨h', _, rfl, hs.extBut, he, ok, ov, rfl⟩
theorem Src.items {o apos pos elts tk tp es} (hh : A.handled = none) (h₁ : Ev g A F ρ o (.dct es)) (hb : attributeBase o "items" F.env (eval o F.env) = eval o F.env) (hl : (apos.endLine == pos.line) = true) : Src g A F ρ (.Call (.Attribute o "items" apos) [] [] pos) (.Tuple elts tk tp) (itemsV es) := ⟨fun O s st => by
  refine wpAny_Call_method (T := "dict") (id := "dict.items") hb rfl hl PySem.F.plainAttrs_dict PySem.F.slot_dict_items PySem.F.type_dict_items (runQ (h₁.run O s st) fun v s₁ p₁ r₁ => ?_)
  have st₁ := st.step p₁
  cases r₁ using cD with
  | @dct a kvs _ n hm hD hr =>
    refine ⟨hD.typeIs, hD.mapOf.noDict, ?_⟩
    refine method_meetsIn PySem.F.slot_dict_items PySem.F.entry_dict_items rfl (PySem.evalArgs_none ⟨rfl, hD.typeIs, PySem.F.args_dict_items_1 _, _, meets_dict_items g.knd a hm, ⟨kvs, hD⟩, ?_⟩)
    have p₂ : Pur g s₁ { s₁ with heap := s₁.heap.push { cls := .type "dict_items", data := .fields #[.ref a] } } := Pur.push (t := s₁.toks) st₁.wd
    have st₂ := st₁.step p₂
    refine ⟨p₁.trans p₂, ?_⟩
    have hD₂ := p₂.dictOf st₁.wd hD
    refine ngI fun hNg => ?_
    obtain ⟨od, es₀, ep, hod, hr0⟩ := id hD₂
    refine ngE hNg ?_
    refine wpAny_pyIter_items (knd := g.knd) (v := s₁.heap.objs.size) (d := a) (kvs := kvs) (ep := ep) ⟨_, Heap.get?_push_size _ rfl, rfl, rfl⟩ ⟨od, es₀, hod, hr0⟩ ?_
    refine ⟨_, _, _, _, _, Iter.items hh (es := es) (a := a) hr0.2.1, rfl, Pur.push (t := s₁.toks) st₂.wd, noneAtSize _, Heap.get?_push_size _ rfl, ⟨.none, .none, ?_⟩, n, hod, .dct n hm hD₂ (st₁.repD p₂ hr)⟩
    rw [hr.length]; rfl⟩
theorem Ev.listItems {x p o apos ipos pos es} (hh : A.handled = Option.none) (hf : EvV g A F ρ (.Name x p) (.type "list")) (h₁ : Ev g A F ρ o (.dct es)) (hz : es.length ≤ sizeLine) (hb : attributeBase o "items" F.env (eval o F.env) = eval o F.env) (hl : (apos.endLine == ipos.line) = true)
    (he : starEach [.Call (.Attribute o "items" apos) [] [] ipos] F.env = [(false, eval (.Call (.Attribute o "items" apos) [] [] ipos) F.env)]) : Ev g A F ρ (.Call (.Name x p) [.Call (.Attribute o "items" apos) [] [] ipos] [] pos) (.lst (itemsV es)) := ⟨fun O s st => by
  refine Call_Name rfl (runQ (hf.run O s st) fun f s₀ p₀ r₀ => ?_)
  subst r₀
  have st₀ := st.step p₀
  refine PyProof.Rows.callWith_type1 ?_ he rfl
  rw [he]
  refine Calls.spliced_cons ?_
  refine wpAny_Call_method (T := "dict") (id := "dict.items") hb rfl hl PySem.F.plainAttrs_dict PySem.F.slot_dict_items PySem.F.type_dict_items (runQ (h₁.run O s₀ st₀) fun v s₁ p₁ r₁ => ?_)
  have st₁ := st₀.step p₁
  cases r₁ using cD with
  | @dct a kvs _ n hm hD hr =>
    refine ⟨hD.typeIs, hD.mapOf.noDict, ?_⟩
    refine method_meetsIn PySem.F.slot_dict_items PySem.F.entry_dict_items rfl (PySem.evalArgs_none ⟨rfl, hD.typeIs, PySem.F.args_dict_items_1 _, _, meets_dict_items g.knd a hm, ⟨kvs, hD⟩, ?_⟩)
    have p₂ : Pur g s₁ { s₁ with heap := s₁.heap.push { cls := .type "dict_items", data := .fields #[.ref a] } } := Pur.push (t := s₁.toks) st₁.wd
    have st₂ := st₁.step p₂
    have hD₂ := p₂.dictOf st₁.wd hD
    have hr₂ := st₁.repD p₂ hr
    refine ngI fun hNg => ?_
    obtain ⟨od, es₀, ep, hod, hr0⟩ := id hD₂
    refine ngE hNg ?_
    refine Calls.spliced_nil ?_
    refine kdx_call (knd := g.knd) hh (r := s₁.heap.objs.size) (d := a) (kvs := kvs) (ep := ep) ⟨_, Heap.get?_push_size _ rfl, rfl, rfl⟩ ⟨od, es₀, hod, hr0⟩ (by rw [hr.length]; exact hz) fun h' tk acc c as hk hacc hlen hG hval => ?_
    have p₃ : Pur g { s₁ with heap := s₁.heap.push { cls := .type "dict_items", data := .fields #[.ref a] } } { s₁ with heap := h', toks := tk } := Pur.grow st₂.wd hk
    refine ⟨(p₀.trans p₁).trans (p₂.trans p₃), ?_⟩
    have st₃ := st₂.step p₃
    have hr₃ := st₂.repD p₃ hr₂
    have hnone : ∀ b, ({ s₁ with heap := s₁.heap.push { cls := .type "dict_items", data := .fields #[.ref a] } } : Shared).heap.objs.size ≤ b → ¬ UU F O b := fun b hb => st₂.fresh (Heap.get?_none_of_le hb)
    have hacc' : acc = (as.map Value.ref).toArray := by rw [← hval]
    rw [hacc'] at hacc
    refine .lst (hnone _ (Nat.le_refl _)) ⟨_, hacc, rfl, c, rfl⟩ (reps_of_get (by simp [itemsV, hlen, hr.length]) fun j d v hd hv => ?_)
    refine ngI fun hNg => ?_
    obtain ⟨x, y, hes, rfl⟩ := itemsV_at hd
    refine ngE hNg ?_
    rw [List.getElem?_map] at hv
    cases ha : as[j]? with
    | none => rw [ha] at hv; cases hv
    | some b =>
      rw [ha] at hv; cases hv
      refine ngI fun hNg => ?_
      obtain ⟨key, k, val, hkv, hkey, hb⟩ := hG.pairs j b ha
      refine ngE hNg ?_
      refine ngI fun hNg => ?_
      obtain ⟨v', hkv', rv⟩ := repD_at hr₃ hes
      refine ngE hNg ?_
      rw [hkv] at hkv'; cases hkv'
      refine ngI fun hNg => ?_
      obtain ⟨t, rfl⟩ := Value.isStrOf_shape (show Value.isStrOf _ key = true from hkey)
      refine ngE hNg ?_
      exact .tup (hnone _ (Nat.le_of_lt (hG.above b (List.mem_of_getElem? ha)))) ⟨_, hb, rfl, 0, rfl⟩ (.cons (.str _ _) (.one rv))⟩
end
end
section
section
open Builtin Builtin.Str
variable {prog : Program} {w : World} {A : Around} {E : Value → Shared → Prop} {s : Shared}
theorem split_push {x y : Str} {t u : Tok} {Q : Value → Shared → Prop} (hy : (y.length == 0) = false) (hsz : x.length ≤ sizeLine) (hsz2 : (partsBetween x (occurrences x y 0 x.length (x.length + 1)) y.length).length ≤ sizeLine)
    (hq : ∀ (l : List (Str × Tok)) k, l.map (·.1) = Txt.split x y → Q (.ref s.heap.objs.size) { s with heap := s.heap.push { cls := .type "list", data := .seq (strValues l).toArray }, toks := k }) :
    wpAny (model prog w) A (call (.builtin "str.split") [.str x t, .str y u]) Q E s := by
  have run := fun {S} (m : PySem.Meets (Builtin.«str.split» ⟨[.str x t, .str y u], []⟩) S) (k : S A (wants Q E) s) => call_meets (prog := prog) (w := w) PySem.F.slot_str_split (typeIs_str s x t) PySem.F.entry_str_split (PySem.F.args_str_split_2 _ _) m k
  by_cases no : (decide (x.length < y.length) || decide (strKind x < strKind y)) = true
  · exact run (meets_str_split_cannot_occur x y t u no) (hq [(x, t)] _ (if_pos no).symm)
  by_cases nil : (occurrences x y 0 x.length (x.length + 1)).isEmpty = true
  · exact run (meets_str_split_not_found x y t u (eq_false_of_ne_true no) hy nil) (hq [(x, t)] _ ((if_neg no).trans (if_pos nil)).symm)
  refine run (meets_str_split_sep x y t u (eq_false_of_ne_true no) hy (eq_false_of_ne_true nil) hsz hsz2) ?_
  rw [strsFrom_eq]
  exact hq _ _ ((numbered_texts _ _).trans ((if_neg no).trans (if_neg nil)).symm)
end
section
variable {A : Around} {F : Fx} {ρ : Rho} {O : List (Str × Addr)} {s : Shared} {Q : Res → Prop} {rest : List Stmt}
theorem reps_strValues {h : Heap} {U : Addr → Prop} : ∀ (l : List (Str × Tok)), Reps g h U ((l.map (·.1)).map .str) (strValues l)
  | [] => .nil
  | (x, t) :: l => .cons (.str x t) (reps_strValues l)
theorem EvF.split {o e : Expr} {apos pos : Pos} {x y : Str} (h₁ : Ev g A F ρ o (.str x)) (h₂ : Ev g A F ρ e (.str y)) (hy : (y.length == 0) = false) (hsz : x.length ≤ sizeLine) (hsz2 : (Builtin.Str.partsBetween x (Builtin.Str.occurrences x y 0 x.length (x.length + 1)) y.length).length ≤ sizeLine)
    (hb : attributeBase o "split" F.env (eval o F.env) = eval o F.env) (hs : starEach [e] F.env = [(false, eval e F.env)]) (hl : (apos.endLine == pos.line) = true) :
    EvF g A F ρ (.Call (.Attribute o "split" apos) [e] [] pos) ((Txt.split x y).map .str) := ⟨fun O s st =>
  Call_method1 hb hs hl (runQ (h₁.run O s st) fun ov s₁ p₁ r₁ => by
    cases r₁ using cS with
    | str _ t =>
      refine ⟨"str", "str.split", PySem.F.plainAttrs_str, PySem.F.slot_str_split, PySem.F.type_str_split, typeIs_str _ _ _, (fun zz e => nomatch e), ?_⟩
      refine Calls.callWith_builtin rfl (Calls.evalArgs_plain (Calls.spliced_cons (runQ (h₂.run O s₁ (st.step p₁)) fun v s₂ p₂ r₂ => Calls.spliced_nil ?_)))
      cases r₂ using cS with
      | str _ u =>
        refine split_push hy hsz hsz2 fun l k hl => ?_
        have st₂ := (st.step p₁).step p₂
        rw [← hl]
        exact ⟨(p₁.trans p₂).trans (Pur.push p₂.wd), (freshPush (t := k) st₂ (reps_strValues l)).back (p₁.trans p₂)⟩)⟩
theorem Ev.find {o e₁ e₂ e₃ : Expr} {apos pos : Pos} {x y : Str} {i j : Int} (h : Ev g A F ρ o (.str x)) (h₁ : Ev g A F ρ e₁ (.str y)) (h₂ : Ev g A F ρ e₂ (.int i)) (h₃ : Ev g A F ρ e₃ (.int j))
    (hb : attributeBase o "find" F.env (eval o F.env) = eval o F.env) (hs : starEach [e₁, e₂, e₃] F.env = [(false, eval e₁ F.env), (false, eval e₂ F.env), (false, eval e₃ F.env)]) (hl : (apos.endLine == pos.line) = true) :
    Ev g A F ρ (.Call (.Attribute o "find" apos) [e₁, e₂, e₃] [] pos) (.int (find4 x y i j)) := ⟨fun O s st => by
  refine wpAny_Call_method_lateS hb (by rw [hs]; rfl) hl (runQ (h.run O s st) fun ov s₁ p₁ r => ?_)
  rw [hs]
  have st₁ := st.step p₁
  cases r using cS with
  | str _ t =>
    refine ⟨"str", "str.find", PySem.F.plainAttrs_str, PySem.F.slot_str_find, PySem.F.type_str_find, typeIs_str _ _ _, (fun zz e => nomatch e), ?_⟩
    refine Calls.callWith_builtin rfl (Calls.evalArgs_plain (Calls.spliced_cons (runQ (h₁.run O s₁ st₁) fun v₁ s₂ p₂ r₁ => Calls.spliced_cons (runQ (h₂.run O s₂ (st₁.step p₂)) fun v₂ s₃ p₃ r₂ => Calls.spliced_cons (runQ (h₃.run O s₃ ((st₁.step p₂).step p₃)) fun v₃ s₄ p₄ r₃ => Calls.spliced_nil ?_)))))
    cases r₁ using cS; cases r₂ using cI; cases r₃ using cI
    refine call_gives PySem.F.slot_str_find (typeIs_str _ _ _) PySem.F.entry_str_find (PySem.F.args_str_find_4 _ _ _ _) (gives_find4 x y i j _ _ _ _) ?_
    exact ⟨((p₁.trans p₂).trans p₃).trans (p₄.trans (Pur.toks p₄.wd _)), .int _ _⟩⟩
theorem Ev.orB {x y : Expr} {pos a b} (h₁ : Ev g A F ρ x (.bool a)) (h₂ : Ev g A F ρ y (.bool b)) : Ev g A F ρ (.BoolOp .Or [x, y] pos) (.bool (a || b)) := ⟨fun O s st => by
  refine BoolOp_or (runQ (h₁.run O s st) fun v s₁ p₁ r₁ => ?_)
  cases r₁ using cB
  with_reducible refine wpAny_truthy_bool ?_
  cases a with
  | true => exact ⟨p₁, .bool _⟩
  | false =>
    refine BoolOp_one (runQ (h₂.run O s₁ (st.step p₁)) fun v s₂ p₂ r₂ => ?_)
    exact ⟨p₁.trans p₂, r₂⟩⟩
end
end
section
section
variable {A : Around} {F : Fx} {ρ : Rho} {O : List (Str × Addr)} {s : Shared} {Q : Res → Prop} {rest : List Stmt}
theorem bindNames : ∀ {xs : List Str} {ρ ρ' : Rho} {O : List (Str × Addr)} {s : Shared} {ds : List V} {vs : List Value}, Puts ρ xs ds ρ' → (∀ x ∈ xs, CanStore F x) → StO g F ρ O s → Reps g s.heap (UU F O) ds vs →
    wpAny g.M A (assignInOrder (xs.map fun n => bindName F.env n) vs) (fun zz s' => ∃ O', StO g F ρ' O' s') noE s
  | [], ρ, ρ', O, s, ds, vs, p, _, st, r => by cases p; exact wpAny_pure ⟨O, st⟩
  | x :: xs, ρ, ρ', O, s, ds, vs, p, hx, st, r => by
    cases p with
    | cons p =>
      cases r using cC with
      | @cons d v ds vs r rs =>
        refine wpAny_assignInOrder_more (bindName_ (st.storeImmR (hx _ (.head _)) r fun s₁ tr st₁ => ?_))
        exact bindNames p (fun y hy => hx y (.tail _ hy)) st₁ (tr _ _ rs)
theorem X.assignSw {es k px e pos ds ρ₂} {names : List Str} (hh : A.handled = none) (h : Ev g A F ρ e (.tup ds)) (hlen : names.length = ds.length) (p : Puts ρ names.reverse ds.reverse ρ₂) (hx : ∀ x ∈ names.reverse, CanStore F x) (hs : swapsWithSole [.Tuple es k px] e pos.line F.env = pure false) (hw : swappedStores [.Tuple es k px] e F.env = pure (some names))
    (kk : X g A F ρ₂ rest Q) : X g A F ρ (.Assign [.Tuple es k px] e pos :: rest) Q := ⟨fun O s st => by
  refine wpAny_execs_cons (Assign_Tuple_swapped (names := names) (runQ (h.run O s st) fun v s₁ p₁ r₁ => ?_) hs hw)
  have st₁ := st.step p₁
  cases r₁ using cT with
  | @tup a vs _ n hl hr =>
    have e1 : names.length = vs.toArray.size := by rw [List.size_toArray, hr.length, hlen]
    rw [e1]
    refine unpackItems_tuple hh hl fun h' he => ?_
    have hk : ∀ b o, s₁.heap.get? b = some o → h'.get? b = some o := fun b o e => he b o (fun q => by rw [q, noneAtSize] at e; cases e) e
    have p₂ : Pur g s₁ { s₁ with heap := h' } := Pur.grow st₁.wd hk
    refine wpAny_mono (bindNames p hx (st₁.step p₂) (st₁.reps p₂ hr).reverse) (fun zz s₂ q => ?_) fun zz zz x => x
    obtain ⟨O', st'⟩ := q
    exact kk.run _ _ st'⟩

structure EvE (g : G) (A : Around) (F : Fx) (e : Expr) : Prop where
  run : ∀ (s : Shared) (Q : Value → Shared → Prop), Q (.ref s.heap.objs.size) { s with heap := s.heap.push { cls := .type "list", data := .seq #[] } } → wpAny g.M A (eval e F.env) Q noE s
theorem EvE.nil {pos} : EvE g A F (.List [] pos) := ⟨fun s Q h => List_ (spliced_nil (by
  exact wpAny_newList (items := []) h (Nat.zero_le _)))⟩
end
end
section
noncomputable def putsOwn : Rho → List Str → Rho
  | ρ, [] => ρ
  | ρ, x :: xs => putsOwn (ρ.put x (.own [])) xs
section
variable {A : Around} {F : Fx} {ρ : Rho} {O : List (Str × Addr)} {s : Shared} {Q : Res → Prop} {rest : List Stmt}
noncomputable abbrev accsOf (q : List (Str × Str × Addr)) : Rho := q.map fun t => (t.2.1, .acc t.2.2 [])
theorem storeAccs {es : List Expr} {xs : List Str} (n : Names es xs) : ∀ (q : List (Str × Str × Addr)) {ρ : Rho} {O : List (Str × Addr)} {s : Shared}, q.map (·.1) = xs → StO g F (accsOf q ++ ρ) O s → (∀ x ∈ xs, CanStore F x) → (q.map (·.2.1)).Nodup → (∀ t ∈ q, ∀ p ∈ ρ, p.1 ≠ t.2.1) → (∀ t ∈ q, ∀ u ∈ q, u.1 ≠ t.2.1) →
    wpAny g.M A (assignInOrder ((assignEach es F.env).map (·.2)) (q.map fun t => Value.ref t.2.2)) (fun zz s' => ∃ O', StO g F (putsOwn ρ xs) O' s') noE s := by
  induction n with
  | nil =>
    intro q ρ O s e st _ _ _ _
    cases q with
    | nil => exact wpAny_pure ⟨O, st⟩
    | cons _ _ => cases e
  | @cons x px es xs n ih =>
    intro q ρ O s e st hx nd hno hnx
    cases q with
    | nil => cases e
    | cons t q =>
      have e1 : t.1 = x := (List.cons.inj e).1
      have e2 : q.map (·.1) = xs := (List.cons.inj e).2
      rw [List.map_cons, List.nodup_cons] at nd
      refine wpAny_assignInOrder_more (wpAny_assign_Name (StO.storeAcc (y := t.2.1) (l := t.2.2) (xs := []) (ρ := accsOf q ++ ρ) st (fun p hp => ?_) (hx x (.head _)) fun s' O' st' zz zz => ?_))
      · rcases List.mem_append.mp hp with hp | hp
        · obtain ⟨u, hu, e⟩ := List.mem_map.mp hp
          intro e'
          rw [← e] at e'
          exact nd.1 (List.mem_map.mpr ⟨u, hu, e'⟩)
        · exact hno t (.head _) p hp
      · refine ih q (ρ := ρ.put x (.own [])) e2 (st'.sub fun p hp => ?_) (fun y hy => hx y (.tail _ hy)) nd.2 (fun u hu p hp => ?_) (fun u hu v hv => hnx u (.tail _ hu) v (.tail _ hv))
        · rcases List.mem_append.mp hp with hp | hp
          · obtain ⟨u, hu, e⟩ := List.mem_map.mp hp
            refine .tail _ (List.mem_filter.mpr ⟨List.mem_append_left _ hp, ?_⟩)
            rw [← e]
            have := hnx u (.tail _ hu) t (.head _)
            rw [e1] at this
            simpa using Ne.symm this
          · rcases List.mem_cons.mp hp with e | hp
            · rw [e]; exact .head _
            · have := List.mem_filter.mp hp
              exact .tail _ (List.mem_filter.mpr ⟨List.mem_append_right _ this.1, this.2⟩)
        · rcases List.mem_cons.mp hp with e | hp
          · rw [e]
            have := hnx u (.tail _ hu) t (.head _)
            rw [e1] at this
            exact this
          · exact hno u (.tail _ hu) p (List.mem_filter.mp hp).1

inductive Nils : List Expr → Prop
  | nil : Nils []
  | cons {p es} : Nils es → Nils (.List [] p :: es)
noncomputable def laid (h : Heap) : Nat → Heap
  | 0 => h
  | n + 1 => laid (h.push { cls := .type "list", data := .seq #[] }) n
theorem laid_keep : ∀ (n : Nat) (h : Heap) b o, h.get? b = some o → (laid h n).get? b = some o
  | 0, _, _, _, e => e
  | n + 1, _, _, _, e => laid_keep n _ _ _ (Heap.get?_push_of_some _ e)
theorem laid_at (n : Nat) : ∀ (h : Heap) (i : Nat), i < n → (laid h n).get? (h.objs.size + i) = some { cls := .type "list", data := .seq #[] } := by
  induction n with
  | zero => exact fun zz zz k => absurd k (Nat.not_lt_zero _)
  | succ n ih =>
    intro h i hi
    cases i with
    | zero => exact laid_keep n _ _ _ (Heap.get?_push_size _ rfl)
    | succ i =>
      have := ih (h.push { cls := .type "list", data := .seq #[] }) i (Nat.lt_of_succ_lt_succ hi)
      rw [Heap.size_push, Nat.add_assoc, Nat.add_comm 1 i] at this
      exact this
theorem spliced_nils {es : List Expr} (n : Nils es) {pos : Pos} : ∀ {s : Shared} {Q : List Value → Shared → Prop}, Q ((List.range es.length).map fun i => Value.ref (s.heap.objs.size + i)) { s with heap := laid s.heap es.length } → wpAny g.M A (spliced (backTo pos (starEach es F.env))) Q noE s := by
  induction n with
  | nil => intro s Q h; exact spliced_nil h
  | @cons p es n ih =>
    intro s Q h
    refine spliced_more (e := .List [] p) (EvE.nil.run s _ ?_) rfl
    refine ih ?_
    show Q (_ :: _) _
    have e : ((List.range (es.length + 1)).map fun i => Value.ref (s.heap.objs.size + i)) = Value.ref s.heap.objs.size :: (List.range es.length).map fun i => Value.ref ((s.heap.push { cls := .type "list", data := .seq #[] }).objs.size + i) := by
      rw [List.range_succ_eq_map, List.map_cons, List.map_map, Heap.size_push]
      congr 1
      refine List.map_congr_left fun i zz => ?_
      show Value.ref (s.heap.objs.size + (i + 1)) = _
      congr 1
      show s.heap.objs.size + (i + 1) = s.heap.objs.size + 1 + i
      lia
    rw [← e]; exact h

theorem addAccs : ∀ (q : List (Str × Str × Addr)) {ρ : Rho} {O : List (Str × Addr)} {s : Shared}, StO g F ρ O s → (∀ t ∈ q, (t.2.1, t.2.2) ∈ O ∧ s.heap.get? t.2.2 = some { cls := .type "list", data := .seq #[] }) → StO g F (accsOf q ++ ρ) O s
  | [], _, _, _, st, _ => st
  | t :: q, ρ, O, s, st, h => (addAccs q st fun u hu => h u (.tail _ hu)).addFact (x := t.2.1) (sl := .acc t.2.2 []) (v := .ref t.2.2) trivial ⟨rfl, (h t (.head _)).1, [], ⟨0, (h t (.head _)).2⟩, .nil⟩
theorem X.assignOwns {es ds : List Expr} {xs hid : List Str} {k dk px dpos pos} (hh : A.handled = none) (n : Names es xs) (hn : Nils ds) (hlen : ds.length = xs.length) (hh' : hid.length = xs.length) (hx : ∀ x ∈ xs, CanStore F x) (nd : hid.Nodup) (hno : ∀ y ∈ hid, ∀ p ∈ ρ, p.1 ≠ y) (hnx : ∀ y ∈ hid, ∀ x ∈ xs, x ≠ y) (hz : xs.length ≤ sizeLine)
    (hs : swapsWithSole [.Tuple es k px] (.Tuple ds dk dpos) pos.line F.env = pure false) (hw : swappedStores [.Tuple es k px] (.Tuple ds dk dpos) F.env = pure none) (kk : X g A F (putsOwn ρ xs) rest Q) : X g A F ρ (.Assign [.Tuple es k px] (.Tuple ds dk dpos) pos :: rest) Q := ⟨fun O s st => by
  refine wpAny_execs_cons (Assign_Tuple ?_ hs hw)
  refine Tuple_ (spliced_nils hn ?_)
  rw [hlen]
  refine wpAny_newObj_type ?_ (by show ((List.range xs.length).map fun i => Value.ref (s.heap.objs.size + i)).toArray.size ≤ sizeLine; simpa using hz)
  have hl : ((laid s.heap xs.length).push { cls := .type "tuple", data := .seq ((List.range xs.length).map fun i => Value.ref (s.heap.objs.size + i)).toArray }).IsTuple (laid s.heap xs.length).objs.size ((List.range xs.length).map fun i => Value.ref (s.heap.objs.size + i)).toArray := ⟨_, Heap.get?_push_size _ rfl, rfl, 0, rfl⟩
  have en := names_each n (env := F.env)
  refine wpAny_assign_Tuple hh hl (by rw [en.1]; simp) en.2 fun h' he => ?_
  have k1 : ∀ b o, (laid s.heap xs.length).get? b = some o → h'.get? b = some o := fun b o e => by
    have e2 := Heap.get?_push_of_some { cls := .type "tuple", data := .seq ((List.range xs.length).map fun i => Value.ref (s.heap.objs.size + i)).toArray } e
    exact he b o (fun q => by rw [q, noneAtSize] at e2; cases e2) e2
  have p : Pur g s { s with heap := h' } := Pur.grow (t := s.toks) st.wd fun b o e => k1 b o (laid_keep _ _ _ _ e)
  let q : List (Str × Str × Addr) := xs.zip (hid.zip ((List.range xs.length).map fun i => s.heap.objs.size + i))
  have q1 : q.map (·.1) = xs := by
    show (xs.zip _).map Prod.fst = xs
    rw [List.map_fst_zip]; simp [hh']
  have q2' : q.map (·.2) = hid.zip ((List.range xs.length).map fun i => s.heap.objs.size + i) := by
    show (xs.zip _).map Prod.snd = _
    rw [List.map_snd_zip]; simp [hh']
  have q21 : q.map (·.2.1) = hid := by
    have : q.map (·.2.1) = (q.map (·.2)).map (·.1) := by rw [List.map_map]; rfl
    rw [this, q2', List.map_fst_zip]; simp [hh']
  have q22 : q.map (·.2.2) = (List.range xs.length).map fun i => s.heap.objs.size + i := by
    have : q.map (·.2.2) = (q.map (·.2)).map (·.2) := by rw [List.map_map]; rfl
    rw [this, q2', List.map_snd_zip]; simp [hh']
  have qa : ∀ t ∈ q, ∃ i, i < xs.length ∧ t.2.2 = s.heap.objs.size + i := fun t ht => by
    have : t.2.2 ∈ q.map (·.2.2) := List.mem_map.mpr ⟨t, ht, rfl⟩
    rw [q22] at this
    obtain ⟨i, hi, e⟩ := List.mem_map.mp this
    exact ⟨i, List.mem_range.mp hi, e.symm⟩
  have qget : ∀ t ∈ q, h'.get? t.2.2 = some { cls := .type "list", data := .seq #[] } := fun t ht => by
    obtain ⟨i, hi, e⟩ := qa t ht
    rw [e]; exact k1 _ _ (laid_at _ _ _ hi)
  have stM := st.addMany p (q.map fun t => (t.2.1, t.2.2)) (by
      have : (q.map fun t => ((t.2.1, t.2.2) : Str × Addr)).map (·.2) = q.map (·.2.2) := by rw [List.map_map]; rfl
      rw [this, q22]
      rw [List.nodup_iff_pairwise_ne, List.pairwise_map]
      refine List.Pairwise.imp (fun {a b} (h : a < b) e => ?_) List.pairwise_lt_range
      have : s.heap.objs.size + a = s.heap.objs.size + b := e
      lia)
    (fun u hu => by
      obtain ⟨t, ht, rfl⟩ := List.mem_map.mp hu
      obtain ⟨i, hi, e⟩ := qa t ht
      show s.heap.get? t.2.2 = none
      rw [e]; exact Heap.get?_none_of_le (Nat.le_add_right _ _))
    (fun u hu => by obtain ⟨t, ht, rfl⟩ := List.mem_map.mp hu; exact ⟨_, qget t ht⟩)
  have stA := addAccs q stM fun t ht => ⟨List.mem_append_right _ (List.mem_map.mpr ⟨t, ht, rfl⟩), qget t ht⟩
  have ev : ((List.range xs.length).map fun i => Value.ref (s.heap.objs.size + i)).toArray.toList = q.map fun t => Value.ref t.2.2 := by
    have : (q.map fun t => Value.ref t.2.2) = (q.map (·.2.2)).map Value.ref := by rw [List.map_map]; rfl
    rw [this, q22, List.map_map]; rfl
  rw [ev]
  refine wpAny_mono (storeAccs n q q1 stA hx (by rw [q21]; exact nd) (fun t ht p hp => hno _ (by rw [← q21]; exact List.mem_map.mpr ⟨t, ht, rfl⟩) p hp) (fun t ht u hu => hnx _ (by rw [← q21]; exact List.mem_map.mpr ⟨t, ht, rfl⟩) _ (by rw [← q1]; exact List.mem_map.mpr ⟨u, hu, rfl⟩))) (fun zz s₂ r => ?_) fun zz zz x => x
  obtain ⟨O', st'⟩ := r
  exact kk.run _ _ st'⟩
end
end
section
section
variable {A : Around} {F : Fx} {ρ : Rho} {O : List (Str × Addr)} {s : Shared}
theorem braces {prog : Program} {w : World} {A : Around} {E : Value → Shared → Prop} {s : Shared} {y : PySem.Str} {t u : Tok} {Q : Value → Shared → Prop} (hy : y.length ≤ 1000000)
    (h : ∀ t' k, Q (.str ((PySem.Str.ofString "{" ++ y) ++ PySem.Str.ofString "}") t') { s with toks := k }) : wpAny (model prog w) A (binaryOp .Mod (.str (PySem.Str.ofString "{%s}") t) (.str y u)) Q E s := by
  refine' KPc.mod_str (T := fun z => (PySem.Str.ofString "{" ++ z) ++ PySem.Str.ofString "}") ?kpcF hy ?kpcm h
  case kpcF => kpc_eq
  case kpcm => k_dflt kpc_run_s

open Builtin Builtin.Str in
theorem int_textN (c : Percent) (h1 : c.alt = false) (h2 : c.type = 100 ∨ c.type = 105 ∨ c.type = 117) (h3 : c.prec = none) {n : Int} {d : List Nat} (hd : d = (PySem.Str.ofString (toString ((n.natAbs : Nat) : Int))).cps.toList) :
    percentInt c (decide (n < 0)) d = (PySem.Str.ofString (toString n)).cps.toList := by
  have e : percentInt c (decide (n < 0)) d = (if n < 0 then [45] else []) ++ d := by
    unfold percentInt
    rcases h2 with h2 | h2 | h2 <;> simp [h1, h2, h3]
  rw [e, hd]
  cases n with
  | ofNat m => rfl
  | negSucc m =>
    have e2 : (toString (Int.negSucc m) : String) = "-" ++ toString (((Int.negSucc m).natAbs : Nat) : Int) := by
      show _ = "-" ++ (toString (Int.ofNat (m + 1)) : String)
      rfl
    rw [e2, if_pos (Int.negSucc_lt_zero m)]
    simp only [PySem.Str.ofString_eq_toList, String.toList_append, List.map_append]
    rfl
section
open Builtin Builtin.Str
variable {M : Model} {A : Around} {E : Value → Shared → Prop} {s : Shared} {l : List Nat} {p : List Value} {r : List Nat}
  {f : Nat → List Value × Writer × List Nat → Sem (ForInStep (List Value × Writer × List Nat))} {Q : List Value × Writer × List Nat → Shared → Prop}
  {w : Writer} {T x y : PySem.Str} {N K : Nat} {o : Option Value}
theorem after_intN {c : Percent} {n : Int} {d : List Nat} (g : KPc.Good w T N) (h1 : c.alt = false) (h2 : c.type = 100 ∨ c.type = 105 ∨ c.type = 117) (h3 : c.prec = none) (hm : n.natAbs < 10 ^ 12)
    (hd : d = (PySem.Str.ofString (toString ((n.natAbs : Nat) : Int))).cps.toList) (ho : o = none) (h : ∀ w', KPc.Good w' (T ++ PySem.Str.ofString (toString n)) (N + 13) → wpAny M A (forIn l (p, w', r) f) Q E s) :
    wpAny M A (forIn l (p, w.add ⟨(percentInt c (decide (n < 0)) d).toArray⟩ o, r) f) Q E s := by
  rw [int_textN c h1 h2 h3 hd]
  exact KPc.after_str g (by have e := int_text_length_le10 (k := 12) (by decide) hm; rw [PySem.ofString_length]; lia) (KPc.obj_none ho) h
end
local macro_rules | `(tactic| kpt_piece) => `(tactic| (refine after_intN (by kpc_g) rfl (by kpc_kind) rfl (by assumption) rfl (by kpc_none) ?_; intro _ _))
local macro_rules | `(tactic| kpt_len) => `(tactic| assumption)
local macro_rules | `(tactic| kpt_hd) => `(tactic| assumption)
theorem fmt3 {prog : Program} {w : World} {A : Around} {E : Value → Shared → Prop} {s : Shared} {b : Addr} {sp nm : PySem.Str} {ln : Int} {t t1 t2 t3 : Tok} {Q : Value → Shared → Prop} (h1 : sp.length ≤ 100000) (h2 : nm.length ≤ 100000) (h3 : ln.natAbs < 10 ^ 12)
    (ht : IsTup s.heap b #[.str sp t1, .int ln t2, .str nm t3])
    (h : ∀ t' k, Q (.str (((((sp ++ PySem.Str.ofString ":") ++ PySem.Str.ofString (toString ln)) ++ PySem.Str.ofString "(") ++ nm) ++ PySem.Str.ofString ")") t') { s with toks := k }) : wpAny (model prog w) A (binaryOp .Mod (.str (PySem.Str.ofString "%s:%d(%s)") t) (.ref b)) Q E s := by
  have hT : s.TypeIs (.ref b) "tuple" := by
    obtain ⟨o, ho, hc, _⟩ := ht
    exact ⟨o, ho, hc⟩
  have hl : ln.natAbs.log2 < 1920 := by
    rcases Nat.eq_zero_or_pos ln.natAbs with h0 | h0
    · rw [h0]; exact Nat.le_of_ble_eq_true rfl
    · exact (Nat.log2_lt (by lia)).mpr (Nat.lt_of_lt_of_le h3 (Nat.le_of_ble_eq_true rfl))
  have hX : PySem.Str.ofString "%s:%d(%s)" = PySem.Str.mk #[37, 115, 58, 37, 100, 40, 37, 115, 41] := by decide +kernel
  rw [hX]
  refine KPt.bin_left (T := "str") (U := "tuple") (op := .Mod) (by decide) (typeIs_str s _ t) hT F.fills_str_mod KPt.fills_tuple F.slot_str_mod
    (call_meets F.slot_str_mod (typeIs_str s _ t) F.entry_str_mod (F.args_str_mod_2 _ _) (S := fun zz R s => IsTup s.heap b #[.str sp t1, .int ln t2, .str nm t3] ∧ ∀ t' k, R (.ok (.ret (.str (((((sp ++ PySem.Str.ofString ":") ++ PySem.Str.ofString (toString ln)) ++ PySem.Str.ofString "(") ++ nm) ++ PySem.Str.ofString ")") t'))) { s with toks := k }) ?_ ⟨ht, fun t' k => ⟨(fun e => nomatch e), h t' k⟩⟩)
  kpt_run
end
end
section
noncomputable abbrev G.K (g : G) : Frag := pk.heap_1 g.w.params
structure Base (g : G) : Prop where
  glb : Glb g
  inK : g.K.In g.B
  tabs : g.tabs = [(141, 139, ("_law_sorted.<locals>.<lambda>" : Str)), (124, 122, ("_law_kept.<locals>.<lambda>" : Str)), (62, 58, ("add_callers.<locals>.<genexpr>" : Str))]
  tabNone : ∀ q ∈ g.tabs, g.B.get? q.2.1 = none
  hds : ∀ q ∈ g.tabs, CodeHd g.B q.1 q.2.1
  bm : ∃ bm ob, g.mg "__builtins__" = some (.ref bm) ∧ bm ≠ builtinsNs ∧ bm ≠ mainGlobals ∧ g.B.get? bm = some ob ∧ ob.cls = .type "module" ∧ ob.dict = some builtinsNs ∧ ob.data = .plain

noncomputable def fd (g : G) (a : Addr) : FuncData := match g.K.lookup a with
  | some ⟨_, _, .func f, _⟩ => f
  | _ => default
noncomputable def bodyOf (f : FuncData) : List Stmt := match f.body with
  | .stmts b => b
  | _ => []
noncomputable def codeB (K : Frag) (f : FuncData) : Bool := match f.code with
  | .ref c => (match K.lookup c with
      | some ⟨_, _, .fields vs, _⟩ => (match vs[1]? with
          | some (Value.str q _) => q == f.qualname
          | _ => false)
      | _ => false)
  | _ => false
noncomputable def defB (K : Frag) (names : List Str) (f : FuncData) : Bool :=
  scpB f.scope && f.globals == mainGlobals && f.builtins == builtinsNs && f.closure.isEmpty && !f.scope.isCoroutine && !f.scope.isGenerator &&
        (match f.body with | .stmts _ => true | _ => false) && names.all (fun x => f.scope.names.lookup x == some .local || f.scope.names.lookup x == some .cell) && decide names.Nodup && codeB K f
noncomputable def isFnB (g : G) (a : Addr) (names : List Str) : Bool := match g.K.lookup a with
  | some ⟨.type _, _, .func f, _⟩ => defB g.K names f
  | _ => false
structure IsFn (g : G) (a : Addr) (names : List Str) : Prop where
  at' : ∃ o, g.B.get? a = some o ∧ o.data = .func (fd g a) ∧ o.cls ≠ .none
  scp : Scp (fd g a).scope
  glob : (fd g a).globals = mainGlobals
  bui : (fd g a).builtins = builtinsNs
  clo : (fd g a).closure = []
  co : (fd g a).scope.isCoroutine = false
  gen : (fd g a).scope.isGenerator = false
  body : (fd g a).body = .stmts (bodyOf (fd g a))
  kinds : ∀ x ∈ names, (fd g a).scope.names.lookup x = some .local ∨ (fd g a).scope.names.lookup x = some .cell
  nodup : names.Nodup
  code : g.B.CodeRec (fd g a).code (fd g a).qualname
set_option tactic.hygienic true in
theorem IsFn.of (H : Base g) {a : Addr} {names : List Str} (h : isFnB g a names = true) : IsFn g a names := by
  unfold isFnB at h
  split at h
  · rename_i n d f sl e
    have ef : fd g a = f := by unfold fd; rw [e]
    unfold defB at h
    simp only [Bool.and_eq_true] at h
    refine ngI fun hNg => ?_
    obtain ⟨⟨⟨⟨⟨⟨⟨⟨⟨h1, h2⟩, h3⟩, h4⟩, h5⟩, h6⟩, h7⟩, h8⟩, h9⟩, h10⟩ := h
    refine ngE hNg ?_
    refine { at' := ?_, scp := ?_, glob := ?_, bui := ?_, clo := ?_, co := ?_, gen := ?_, body := ?_, kinds := ?_, nodup := ?_, code := ?_ }
    · rw [ef]; exact ⟨_, H.inK _ _ e, rfl, nofun⟩
    · rw [ef]; exact Scp.of h1
    · rw [ef]; exact eq_of_beq h2
    · rw [ef]; exact eq_of_beq h3
    · rw [ef]; exact List.isEmpty_iff.mp h4
    · rw [ef]; simpa using h5
    · rw [ef]; simpa using h6
    · rw [ef]; unfold bodyOf; revert h7; cases f.body <;> simp
    · rw [ef]; intro x hx
      have := List.all_eq_true.mp h8 x hx
      rw [Bool.or_eq_true] at this
      exact this.imp (fun q => by simpa using q) fun q => by simpa using q
    · simpa using h9
    · rw [ef]
      unfold codeB at h10
      split at h10
      · rename_i c ec
        split at h10
        · rename_i x1 x2 vs x3 el
          split at h10
          · rename_i q t ev
            exact ⟨c, _, vs, t, ec, H.inK _ _ el, rfl, by rw [ev, eq_of_beq h10]⟩
          · cases h10
        · cases h10
      · cases h10
  · cases h

structure Fn (g : G) (n : Nat) (f : Value) (ks : List Str) (s₀ : Shared) (U₀ : Addr → Prop) (dsP dsK : List V) (d : V) : Prop where
  at' : ∃ a o fd, f = .ref a ∧ s₀.heap.get? a = some o ∧ o.data = .func fd ∧ o.cls ≠ .none
  run : ∀ A s U vsP vsK, AOk n A → Pur g s₀ s → (∀ a, U a → ∃ o, s.heap.get? a = some o) → (∀ q ∈ g.tabs, U q.2.1) → (∀ a, U a → U₀ a ∨ s₀.heap.get? a = none) →
    Reps g s.heap U dsP vsP → Reps g s.heap U dsK vsK → wpAny g.M A (call f vsP (ks.zip vsK)) (fun v s' => Pur g s s' ∧ Rep g s'.heap U d v) noE s

noncomputable def Ends (d : V) : Res → Prop
  | .ret d' => d' = d
  | .next _ => d = .none

section
variable {A : Around} {F : Fx} {ρ : Rho} {O : List (Str × Addr)} {s s₀ : Shared} {U₀ : Addr → Prop}

theorem live_back {s s' : Shared} (p : Pur g s s') {a : Addr} (h : s'.heap.get? a = none) : s.heap.get? a = none := by
  cases q : s.heap.get? a with
  | none => rfl
  | some o => obtain ⟨o', e⟩ := p.live ⟨o, q⟩; rw [h] at e; cases e

theorem Fn.def {n a ks dsP dsK d} {names : List Str} {ds : List V} (H : Base g) (hfn : isFnB g a names = true) (w₀ : Wd g s₀)
    (hb : ∀ vsP vsK, vsP.length = dsP.length → vsK.length = dsK.length → ∃ vals, (∀ S, peek g.K S (bindArgs (fd g a) ⟨vsP, ks.zip vsK⟩) = some (names.zip vals)) ∧ ∀ h U, Reps g h U dsP vsP → Reps g h U dsK vsK → Reps g h U ds vals)
    (hX : ∀ A' U s, AOk n A' → Pur g s₀ s → (∀ a, U a → U₀ a ∨ s₀.heap.get? a = none) → X g A' (mkF (fd g a) a U s) (slots names ds) (bodyOf (fd g a)) (Ends d)) : Fn g (n + 1) (.ref a) ks s₀ U₀ dsP dsK d where
  at' := let ⟨o, h1, h2, h3⟩ := (IsFn.of H hfn).at'; ⟨a, o, _, rfl, w₀.keep _ _ h1, h2, h3⟩
  run := fun A s U vsP vsK hA hp hU tabU hU₀ rP rK => by
    have I := IsFn.of H hfn
    have w : Wd g s := hp.wd
    have kB : ∀ b o, g.B.get? b = some o → s.heap.get? b = some o := w.keep
    obtain ⟨vals, hpk, hr⟩ := hb vsP vsK rP.length rK.length
    have r := hr _ _ rP rK
    refine wpAny_call ?_
    obtain ⟨o, h1, h2, _⟩ := I.at'
    refine codeAny_call_function hA.room (kB _ _ h1) h2 I.co I.gen I.body (I.code.keeps kB) ?_
    refine kp_binds (H.inK.keeps kB) hpk _ _ _ _ ?_
    rw [I.clo]
    refine wpAny_newFunctionEnv_cells I.scp.kind (fun q hq => ?_) fun env he s' x => ?_
    · have hq' : q.1 ∈ names := (List.of_mem_zip (a := q.1) (b := q.2) hq).1
      rcases I.kinds _ hq' with h | h
      · exact .inl h
      · refine .inr ⟨h, ?_⟩
        obtain ⟨c, hc, e⟩ := List.mem_map.mp (cellsFrom_has (fd g a).scope.names (s.heap.objs.size + 1) [] q.1 (.inl (PySem.mem_of_lookup h)))
        have := lookup_nodup (cellsFrom_keys (fd g a).scope.names (s.heap.objs.size + 1) [] I.scp.nodup List.nodup_nil nofun) (x := q.1) (k := c.2) (by rw [← e]; exact hc)
        rw [this]; rfl
    · subst he
      refine ⟨(H.glb.nolimit.keeps kB).keeps x.toInCall.keep, codeAny_func ?_⟩
      have st := start (a := a) I.scp I.glob I.bui w hU tabU I.kinds I.nodup r x
      refine wpAny_mono ((hX _ U s hA.deeper hp hU₀).run [] s' st) (fun fl s₂ m => ?_) fun zz zz x => x.elim
      cases fl with
      | next =>
        obtain ⟨ρ', O', e, st'⟩ := m
        have e' : d = .none := e
        subst e'
        exact ⟨st'.pur, .none⟩
      | ret v =>
        obtain ⟨d', e, p, r⟩ := m
        have e' : d' = d := e
        subst e'
        exact ⟨p, r⟩
      | brk => exact m.elim
      | cont => exact m.elim

structure InFn (g : G) (F : Fx) (s₀ : Shared) (U₀ : Addr → Prop) : Prop where
  wd0 : Wd g s₀
  pur : Pur g s₀ F.s₀
  U : ∀ a, F.U a → U₀ a ∨ s₀.heap.get? a = none

theorem InFn.new (I : InFn g F s₀ U₀) (st : StO g F ρ O s) : ∀ a, UU F O a → U₀ a ∨ s₀.heap.get? a = none := fun a u => by
  rcases u with u | u | u | u
  · exact I.U a u
  · rw [u]; exact .inr (live_back I.pur st.newL)
  · obtain ⟨q, hq, rfl⟩ := List.mem_map.mp u; exact .inr (live_back I.pur (st.newC q hq))
  · obtain ⟨q, hq, rfl⟩ := List.mem_map.mp u; exact .inr (live_back I.pur (st.newO q hq))

theorem Fn.inFrame {n f ks dsP dsK d} (k : Fn g n f ks s₀ U₀ dsP dsK d) (I : InFn g F s₀ U₀) (hA : AOk n A) (st : StO g F ρ O s) {vsP vsK} (rP : Reps g s.heap (UU F O) dsP vsP) (rK : Reps g s.heap (UU F O) dsK vsK) :
    wpAny g.M A (call f vsP (ks.zip vsK)) (fun v s' => Pur g s s' ∧ Rep g s'.heap (UU F O) d v) noE s :=
  k.run A s _ vsP vsK hA (I.pur.trans st.pur) (fun zz => st.live) (fun q hq => .inl (st.tabU q hq)) (I.new st) rP rK

theorem Ev.callFn {x p pos e es n f ds d} (hf : EvV g A F ρ (.Name x p) f) (h : Evs g A F ρ pos (e :: es) ds) (k : Fn g n f [] s₀ U₀ ds [] d) (I : InFn g F s₀ U₀) (hA : AOk n A)
    (he : starEach (e :: es) F.env = (false, eval e F.env) :: starEach es F.env := by rfl) (hp : (backTo pos (starEach es F.env)).any (·.1) = false := by rfl) : Ev g A F ρ (.Call (.Name x p) (e :: es) [] pos) d := ⟨fun O s st => by
  refine Call_Name rfl (runQ (hf.run O s st) fun v s₁ p₁ r₁ => ?_)
  subst r₁
  have st₁ := st.step p₁
  refine ngI fun hNg => ?_
  obtain ⟨a, o, fd, rfl, ho, hd, hc⟩ := k.at'
  refine ngE hNg ?_
  have hat : ∀ {s₂}, StO g F ρ O s₂ → s₂.heap.get? a = some o := fun st => (I.pur.trans st.pur).keep a o (tab_ne_obj I.wd0 ho hc) ho
  have hne : backTo pos (starEach (e :: es) F.env) = (false, eval e F.env) :: backTo pos (starEach es F.env) := by rw [he]; rfl
  refine callWith_function_kw (o := o) (fd := fd) ?_
  have hev := h.run O s₁ st₁
  rw [hne] at hev ⊢
  refine evalArgs_kw rfl (runQ hev fun vs s₂ p₂ r₂ => ?_)
  refine wpAny_evalAll_nil ?_
  have st₂ := st₁.step p₂
  refine ⟨⟨hat st₂, hd⟩, ?_⟩
  exact runQ (k.inFrame I hA st₂ r₂ .nil) fun v s₃ p₃ r₃ => ⟨(p₁.trans p₂).trans p₃, r₃⟩⟩
theorem Ev.callKw {x p pos e es n f ds d k₁ e₁ kp d₁} (hf : EvV g A F ρ (.Name x p) f) (h : Evs g A F ρ pos (e :: es) ds) (h₁ : Ev g A F ρ e₁ d₁) (k : Fn g n f [k₁] s₀ U₀ ds [d₁] d) (I : InFn g F s₀ U₀) (hA : AOk n A)
    (he : starEach (e :: es) F.env = (false, eval e F.env) :: starEach es F.env := by rfl) (hk : backToKw pos (keywordEach [⟨some k₁, e₁, kp⟩] F.env) = [(some k₁, do let v ← eval e₁ F.env; standAt pos; pure v)] := by rfl) : Ev g A F ρ (.Call (.Name x p) (e :: es) [⟨some k₁, e₁, kp⟩] pos) d := ⟨fun O s st => by
  refine wpAny_Call_Name_kw (runQ (hf.run O s st) fun v s₁ p₁ r₁ => ?_)
  subst r₁
  have st₁ := st.step p₁
  refine ngI fun hNg => ?_
  obtain ⟨a, o, fd, rfl, ho, hd, hc⟩ := k.at'
  refine ngE hNg ?_
  have hat : ∀ {s₂}, StO g F ρ O s₂ → s₂.heap.get? a = some o := fun st => (I.pur.trans st.pur).keep a o (tab_ne_obj I.wd0 ho hc) ho
  have hne : backTo pos (starEach (e :: es) F.env) = (false, eval e F.env) :: backTo pos (starEach es F.env) := by rw [he]; rfl
  refine callWith_function_kw (o := o) (fd := fd) ?_
  have hev := h.run O s₁ st₁
  rw [hne] at hev ⊢
  rw [hk]
  refine evalArgs_kw rfl (runQ hev fun vs s₂ p₂ r₂ => ?_)
  have st₂ := st₁.step p₂
  refine wpAny_evalAll_cons (wpAny_bind (runQ (h₁.run O s₂ st₂) fun v₁ s₃ p₃ r₃ => wpAny_bind (wpAny_standAt (wpAny_pure (wpAny_evalAll_nil ?_)))))
  have st₃ := st₂.step p₃
  refine ⟨⟨hat st₃, hd⟩, ?_⟩
  exact runQ (k.inFrame I hA st₃ (st₂.reps p₃ r₂) (.one r₃)) fun v s₄ p₄ r₄ => ⟨((p₁.trans p₂).trans p₃).trans p₄, r₄⟩⟩
theorem EvV.globK (H : Base g) {x pos v} (hx : F.env.kindOf x = some .globalImplicit) (e : nsIn g.K mainGlobals x = some (some v)) (hd : (x == ("__debug__" : Str)) = false := by decide) : EvV g A F ρ (.Name x pos) v :=
  .glob H.glb hx (mg_of H.inK H.glb.ng e) hd
theorem EvV.buiK (H : Base g) {x pos v} (hx : F.env.kindOf x = some .globalImplicit) (e : nsIn g.K mainGlobals x = some none) (hv : bootBuiltins x = some v) (hn : x ≠ "__name__") (hd : (x == ("__debug__" : Str)) = false := by decide) : EvV g A F ρ (.Name x pos) v :=
  .bui H.glb hx (mg_none_of H.inK H.glb.ng e) hv hn hd
end
end
section
theorem mem_put_of {ρ : Rho} {x y : Str} {sl sl' : Sl} (h : (y, sl') ∈ ρ) (hne : (y == x) = false) : (y, sl') ∈ ρ.put x sl := .tail _ (List.mem_filter.mpr ⟨h, by simp [hne]⟩)
theorem mem_put_at {ρ : Rho} {x : Str} {sl : Sl} : (x, sl) ∈ ρ.put x sl := .head _
theorem mem_at {ρ : Rho} {p : Str × Sl} : p ∈ p :: ρ := .head _
theorem mem_of {ρ : Rho} {p q : Str × Sl} (h : p ∈ ρ) : p ∈ q :: ρ := .tail _ h
theorem mem_at_eq {ρ : Rho} {x : Str} {a b : Sl} (h : a = b) : (x, a) ∈ (x, b) :: ρ := h ▸ .head _
theorem mem_put_eq {ρ : Rho} {x : Str} {a b : Sl} (h : a = b) : (x, a) ∈ ρ.put x b := h ▸ .head _
theorem cs_local {F : Fx} {x : Str} (h : F.env.kindOf x = some .local) : CanStore F x := .inl h
theorem sub_nil {ρ : Rho} : ∀ p ∈ ([] : Rho), p ∈ ρ := fun zz h => absurd h List.not_mem_nil
theorem sub_cons {ρ ρ' : Rho} {q : Str × Sl} (h : q ∈ ρ) (k : ∀ p ∈ ρ', p ∈ ρ) : ∀ p ∈ q :: ρ', p ∈ ρ := fun p hp => by
  rcases List.mem_cons.mp hp with e | hp
  · rw [e]; exact h
  · exact k p hp
theorem apart_nil {it : Str} : ∀ p ∈ ([] : Rho), p.1 ≠ it := fun zz h => absurd h List.not_mem_nil
theorem apart_cons {ρ' : Rho} {it : Str} {x : Str} {sl : Sl} (h : (x == it) = false) (k : ∀ p ∈ ρ', p.1 ≠ it) : ∀ p ∈ (x, sl) :: ρ', p.1 ≠ it := fun p hp => by
  rcases List.mem_cons.mp hp with e | hp
  · rw [e]; simpa using h
  · exact k p hp

section
variable {A : Around} {F : Fx} {ρ : Rho} {Q : Res → Prop} {rest : List Stmt}
theorem Ev.cast {e d d'} (h : Ev g A F ρ e d) (k : d = d') : Ev g A F ρ e d' := k ▸ h
theorem Tr.cast {e d d'} (h : Tr g A F ρ e d) (k : d = d') : Tr g A F ρ e d' := k ▸ h
theorem EvF.cast {e d d'} (h : EvF g A F ρ e d) (k : d = d') : EvF g A F ρ e d' := k ▸ h
theorem X.ifT {t body orelse pos b} (h : Tr g A F ρ t b) (hb : b = true) (k : X g A F ρ body (K g A F rest Q)) : X g A F ρ (.If t body orelse pos :: rest) Q := .ifS h (fun zz => k) fun e => by rw [hb] at e; cases e
theorem X.ifF {t body orelse pos b} (h : Tr g A F ρ t b) (hb : b = false) (k : X g A F ρ orelse (K g A F rest Q)) : X g A F ρ (.If t body orelse pos :: rest) Q := .ifS h (fun e => by rw [hb] at e; cases e) fun zz => k
theorem X.nilK (h : X g A F ρ rest Q) : X g A F ρ [] (K g A F rest Q) := .nil h
theorem X.ifE {t body pos b} (h : Tr g A F ρ t b) (hb : b = false) (k : X g A F ρ rest Q) : X g A F ρ (.If t body [] pos :: rest) Q := .ifF h hb (.nilK k)

theorem X.assignAs {x px e pos d'} (d : V) (hs : swapsWith e (some (.Name x px)) pos.line F.env = pure false) (hx : CanStore F x) (h : Ev g A F ρ e d') (hd : d' = d) (k : X g A F (ρ.put x (.imm d)) rest Q) : X g A F ρ (.Assign [.Name x px] e pos :: rest) Q := .assign (hd ▸ h) hx k hs
theorem X.assignL {x px e pos xs'} (xs : List V) (hs : swapsWith e (some (.Name x px)) pos.line F.env = pure false) (hx : CanStore F x) (h : EvF g A F ρ e xs') (hd : xs' = xs) (k : X g A F (ρ.put x (.own xs)) rest Q) : X g A F ρ (.Assign [.Name x px] e pos :: rest) Q := .assignF (hd ▸ h) hx k hs
theorem X.retAs {e pos d'} (d : V) (h : Ev g A F ρ e d') (hd : d' = d) (hq : Q (.ret d)) : X g A F ρ (.Return (some e) pos :: rest) Q := .ret (hd ▸ h) hq

theorem Ev.len (H : Base g) {p pos e xs} (h : Ev g A F ρ e (.lst xs)) (hz : xs.length < 2 ^ 62) (hx : F.env.kindOf "len" = some .globalImplicit) (hm : nsIn g.K mainGlobals "len" = some Option.none) (he : starEach [e] F.env = [(false, eval e F.env)]) : Ev g A F ρ (.Call (.Name "len" p) [e] [] pos) (.int xs.length) :=
  .callB (.buiK H hx hm (by kernel_rfl) (by decide)) (.cons h .nil he) (.len hz) he rfl
theorem Ev.lenS (H : Base g) {p pos e} {x : Str} (h : Ev g A F ρ e (.str x)) (hz : x.length ≤ sizeLine) (hx : F.env.kindOf "len" = some .globalImplicit) (hm : nsIn g.K mainGlobals "len" = some Option.none) (he : starEach [e] F.env = [(false, eval e F.env)]) : Ev g A F ρ (.Call (.Name "len" p) [e] [] pos) (.int x.length) :=
  .callB (.buiK H hx hm (by kernel_rfl) (by decide)) (.cons h .nil he) (.lenS hz) he rfl
theorem Ev.abs (H : Base g) {p pos e a} (h : Ev g A F ρ e (.int a)) (hx : F.env.kindOf "abs" = some .globalImplicit) (hm : nsIn g.K mainGlobals "abs" = some Option.none) (he : starEach [e] F.env = [(false, eval e F.env)]) : Ev g A F ρ (.Call (.Name "abs" p) [e] [] pos) (.int (if a < 0 then -a else a)) :=
  .callB (.buiK H hx hm (by kernel_rfl) (by decide)) (.cons h .nil he) .abs he rfl
theorem Ev.sum (H : Base g) (hh : A.handled = Option.none) {p pos e} {ns : List Int} (h : Ev g A F ρ e (.lst (ns.map .int))) (hx : F.env.kindOf "sum" = some .globalImplicit) (hm : nsIn g.K mainGlobals "sum" = some Option.none) (he : starEach [e] F.env = [(false, eval e F.env)]) : Ev g A F ρ (.Call (.Name "sum" p) [e] [] pos) (.int ns.sum) :=
  .callB (.buiK H hx hm (by kernel_rfl) (by decide)) (.cons h .nil he) (.sum hh) he rfl
theorem Ev.range1 (H : Base g) {p pos e n} (h : Ev g A F ρ e (.int n)) (hx : F.env.kindOf "range" = some .globalImplicit) (hm : nsIn g.K mainGlobals "range" = some Option.none) (he : starEach [e] F.env = [(false, eval e F.env)]) : Ev g A F ρ (.Call (.Name "range" p) [e] [] pos) (.rng 0 n) :=
  .callT (.buiK H hx hm (by kernel_rfl) (by decide)) (.cons h .nil he) .range1 he rfl
theorem Ev.range2 (H : Base g) {p pos e e' a b} (h : Ev g A F ρ e (.int a)) (h' : Ev g A F ρ e' (.int b)) (hx : F.env.kindOf "range" = some .globalImplicit) (hm : nsIn g.K mainGlobals "range" = some Option.none) (he : starEach [e, e'] F.env = [(false, eval e F.env), (false, eval e' F.env)]) (he' : starEach [e'] F.env = [(false, eval e' F.env)]) : Ev g A F ρ (.Call (.Name "range" p) [e, e'] [] pos) (.rng a b) :=
  .callT (.buiK H hx hm (by kernel_rfl) (by decide)) (.cons h (.cons h' .nil he') (by rw [he, he'])) .range2 (by rw [he, he']) (by rw [he']; rfl)
theorem Ev.strI (H : Base g) {p pos e a} (h : Ev g A F ρ e (.int a)) (ha : a.natAbs.log2 < 1920) (hx : F.env.kindOf "str" = some .globalImplicit) (hm : nsIn g.K mainGlobals "str" = some Option.none) (he : starEach [e] F.env = [(false, eval e F.env)]) : Ev g A F ρ (.Call (.Name "str" p) [e] [] pos) (.str (toString a)) :=
  .callT (.buiK H hx hm (by kernel_rfl) (by decide)) (.cons h .nil he) (.str ha) he rfl
theorem EvF.listRange (H : Base g) (hh : A.handled = Option.none) {p pos e a b} (h : Ev g A F ρ e (.rng a b)) (h1 : -(2 ^ 62) ≤ a) (h2 : a < 2 ^ 62) (h3 : -(2 ^ 62) ≤ b) (h4 : b < 2 ^ 62) (hz : (b - a).toNat ≤ 2 ^ 24) (hx : F.env.kindOf "list" = some .globalImplicit) (hm : nsIn g.K mainGlobals "list" = some Option.none) (he : starEach [e] F.env = [(false, eval e F.env)]) : EvF g A F ρ (.Call (.Name "list" p) [e] [] pos) ((upto a b).map .int) :=
  .callT (.buiK H hx hm (by kernel_rfl) (by decide)) (.cons h .nil he) (.listRange hh h1 h2 h3 h4 hz) he rfl
theorem EvF.listList (H : Base g) {p pos e xs} (h : Ev g A F ρ e (.lst xs)) (hz : xs.length ≤ sizeLine) (hx : F.env.kindOf "list" = some .globalImplicit) (hm : nsIn g.K mainGlobals "list" = some Option.none) (he : starEach [e] F.env = [(false, eval e F.env)]) : EvF g A F ρ (.Call (.Name "list" p) [e] [] pos) xs :=
  .callT (.buiK H hx hm (by kernel_rfl) (by decide)) (.cons h .nil he) (.listList hz) he rfl
theorem Ev.itemN {e i pos xs} {k : Nat} {d} (h₁ : Ev g A F ρ e (.lst xs)) (h₂ : Ev g A F ρ i (.int (k : Int))) (hx : xs[k]? = some d) (hz : (k : Int) < 2 ^ 63) (hs : ∀ o v, subscripted i false o v = operate [o, v] (getItem o v)) : Ev g A F ρ (.Subscript e i pos) d :=
  .item h₁ h₂ (Int.natCast_nonneg k) (by rw [Int.toNat_natCast]; exact hx) hz hs
end
end
section
section
variable {A : Around} {F : Fx} {ρ : Rho} {O : List (Str × Addr)} {s s₀ : Shared} {U₀ : Addr → Prop} {Q : Res → Prop} {rest : List Stmt}
theorem StO.both {ρ₁ ρ₂ : Rho} (h : StO g F ρ₁ O s) (k : StO g F ρ₂ O s) : StO g F (ρ₁ ++ ρ₂) O s := by
  refine { h with facts := fun y sl hm => ?_ }
  rcases List.mem_append.mp hm with hm | hm
  · exact h.facts y sl hm
  · exact k.facts y sl hm

theorem callRaw {n a} {ks : List Str} {names : List Str} {vsP vsK vals : List Value} {U : Addr → Prop} {Q' : Value → Shared → Prop} (H : Base g) (hfn : isFnB g a names = true) (w : Wd g s) (hA : AOk (n + 1) A)
    (hpk : ∀ S, peek g.K S (bindArgs (fd g a) ⟨vsP, ks.zip vsK⟩) = some (names.zip vals)) (hU : ∀ a, U a → ∃ o, s.heap.get? a = some o) (tabU : ∀ q ∈ g.tabs, U q.2.1)
    (hX : ∀ A' s', AOk n A' → (∀ ds, Reps g s.heap U ds vals → StO g (mkF (fd g a) a U s) (slots names ds) [] s') → wpAny g.M A' (execs (bodyOf (fd g a)) (mkF (fd g a) a U s).env) (fun fl s₂ => Q' (match fl with | .ret v => v | _ => .none) s₂) noE s') :
    wpAny g.M A (call (.ref a) vsP (ks.zip vsK)) Q' noE s := by
  have I := IsFn.of H hfn
  have kB : ∀ b o, g.B.get? b = some o → s.heap.get? b = some o := w.keep
  refine wpAny_call ?_
  obtain ⟨o, h1, h2, _⟩ := I.at'
  refine codeAny_call_function hA.room (kB _ _ h1) h2 I.co I.gen I.body (I.code.keeps kB) ?_
  refine kp_binds (H.inK.keeps kB) hpk _ _ _ _ ?_
  rw [I.clo]
  refine wpAny_newFunctionEnv_cells I.scp.kind (fun q hq => ?_) fun env he s' x => ?_
  · have hq' : q.1 ∈ names := (List.of_mem_zip (a := q.1) (b := q.2) hq).1
    rcases I.kinds _ hq' with h | h
    · exact .inl h
    · refine .inr ⟨h, ?_⟩
      obtain ⟨c, hc, e⟩ := List.mem_map.mp (cellsFrom_has (fd g a).scope.names (s.heap.objs.size + 1) [] q.1 (.inl (PySem.mem_of_lookup h)))
      have := lookup_nodup (cellsFrom_keys (fd g a).scope.names (s.heap.objs.size + 1) [] I.scp.nodup List.nodup_nil nofun) (x := q.1) (k := c.2) (by rw [← e]; exact hc)
      rw [this]; rfl
  · subst he
    refine ⟨(H.glb.nolimit.keeps kB).keeps x.toInCall.keep, codeAny_func ?_⟩
    refine wpAny_mono (hX _ s' hA.deeper fun ds r => start (a := a) I.scp I.glob I.bui w hU tabU I.kinds I.nodup r x) (fun fl s₂ m => m) fun zz zz x => x.elim

noncomputable def Inserted (g : G) (l : Addr) (ws : List Value) (s s' : Shared) : Prop :=
  ∃ s₁ h' t, Pur g s s₁ ∧ s' = { s₁ with heap := h', toks := t } ∧ Heap.SameBut l s₁.heap h' ∧ h'.PlainList l ws.toArray
structure Ins (g : G) (n : Nat) (f : Value) (ks : List Str) (s₀ : Shared) (U₀ : Addr → Prop) (xs : List V) (dP : V) (dK : List V) (k : Nat) : Prop where
  at' : ∃ a o fd, f = .ref a ∧ s₀.heap.get? a = some o ∧ o.data = .func fd ∧ o.cls ≠ .none
  run : ∀ A s U l vs v vsK, AOk n A → Pur g s₀ s → (∀ a, U a → ∃ o, s.heap.get? a = some o) → (∀ q ∈ g.tabs, U q.2.1) → (∀ a, U a → U₀ a ∨ s₀.heap.get? a = none) → ¬ U l → s.heap.PlainList l vs.toArray →
    Reps g s.heap U xs vs → Rep g s.heap U dP v → Reps g s.heap U dK vsK → wpAny g.M A (call f [.ref l, v] (ks.zip vsK)) (fun r s' => r = .none ∧ Inserted g l (putIn k v vs) s s') noE s

theorem insertLast {A : Around} {l : Addr} {vs : List Value} {v : Value} {k : Nat} {p apos pos epos px pl : Pos} {s' : Shared} (st : StO g F ρ O s') (ha : ((("a" : Str), Sl.imm (.val (.ref l))) : Str × Sl) ∈ ρ) (hlo : ((("lo" : Str), Sl.imm (.int (k : Int))) : Str × Sl) ∈ ρ) (hL : s'.heap.PlainList l vs.toArray) (hk : k ≤ vs.length) (hz : vs.length ≤ sizeLine)
    (hxv : ((("x" : Str), Sl.imm (.val v)) : Str × Sl) ∈ ρ) (hb : attributeBase (.Name "a" p) "insert" F.env (eval (.Name "a" p) F.env) = eval (.Name "a" p) F.env) (hs : starEach [.Name "lo" pl, .Name "x" px] F.env = [(false, eval (.Name "lo" pl) F.env), (false, eval (.Name "x" px) F.env)]) (hl : (apos.endLine == pos.line) = true) (hin : interactive F.env = false)
    (hsw : swapsWith (.Call (.Attribute (.Name "a" p) "insert" apos) [.Name "lo" pl, .Name "x" px] [] pos) none epos.line F.env = pure false) :
    wpAny g.M A (execs [.Expr (.Call (.Attribute (.Name "a" p) "insert" apos) [.Name "lo" pl, .Name "x" px] [] pos) epos] F.env) (fun fl s₂ => fl = .next ∧ Inserted g l (putIn k v vs) s' s₂) noE s' := by
  refine wpAny_execs_cons (wpAny_Expr ?_ hin hsw)
  obtain ⟨va, hba, hra⟩ := st.facts _ _ ha
  cases hra
  refine Call_method2 hb hs hl (load_bound st.kind hba ?_)
  refine ⟨"list", "list.insert", PySem.F.plainAttrs_list, PySem.F.slot_list_insert, PySem.F.type_list_insert, ⟨_, hL.choose_spec, rfl⟩, fun b e => by cases e; exact ⟨_, hL.choose_spec, rfl⟩, ?_⟩
  obtain ⟨vl, hbl, hrl⟩ := st.facts _ _ hlo
  obtain ⟨_, hbv, hrv⟩ := st.facts _ _ hxv
  cases hrv
  refine Calls.callWith_builtin rfl (Calls.evalArgs_plain (Calls.spliced_cons (load_bound st.kind hbl (Calls.spliced_cons (load_bound st.kind hbv (Calls.spliced_nil ?_))))))
  cases hrl with
  | int _ u =>
    refine insert_plain hL hk hz fun h' hl' hs' => ?_
    exact wpAny_execs_nil ⟨rfl, s', h', s'.toks, Pur.refl st.wd, rfl, hs', hl'⟩

theorem Inserted.after {l : Addr} {ws : List Value} {s₁ s₂ : Shared} (p : Pur g s s₁) (h : Inserted g l ws s₁ s₂) : Inserted g l ws s s₂ := let ⟨a, b, c, q, r⟩ := h; ⟨a, b, c, p.trans q, r⟩

theorem X.insBy {n f fx x xp fp e cpos pos xs d k} (hm : ((x : Str), Sl.own xs) ∈ ρ) (hf : EvV g A F ρ (.Name fx fp) f) (he : Ev g A F ρ e d) (I : InFn g F s₀ U₀) (hA : AOk n A) (c : Ins g n f [] s₀ U₀ xs d [] k) (hd : (x == ("__debug__" : Str)) = false)
    (hs : starEach [.Name x xp, e] F.env = [(false, eval (.Name x xp) F.env), (false, eval e F.env)]) (hin : interactive F.env = false) (hsw : swapsWith (.Call (.Name fx fp) [.Name x xp, e] [] cpos) none pos.line F.env = pure false)
    (kk : X g A F (ρ.put x (.own (putIn k d xs))) rest Q) : X g A F ρ (.Expr (.Call (.Name fx fp) [.Name x xp, e] [] cpos) pos :: rest) Q := ⟨fun O s st => by
  refine wpAny_execs_cons (wpAny_Expr ?_ hin hsw)
  refine Call_Name rfl (runQ (hf.run O s st) fun fv s₁ p₁ r₁ => ?_)
  subst r₁
  have st₁ := st.step p₁
  refine ngI fun hNg => ?_
  obtain ⟨fa, fo, fdd, rfl, hfo, hfd, hfc⟩ := c.at'
  refine ngE hNg ?_
  refine ngI fun hNg => ?_
  obtain ⟨a, vs, hbd, hO, hL, hr⟩ := st₁.ownL hm
  refine ngE hNg ?_
  refine callWith_function_kw (o := fo) (fd := fdd) ?_
  rw [hs]
  refine evalArgs_kw rfl (Calls.spliced_cons (load_bound st₁.kind hbd (Calls.spliced_cons (runQ (he.run O s₁ st₁) fun v s₂ p₂ r₂ => Calls.spliced_nil ?_)) hd))
  have st₂ := st₁.step p₂
  refine wpAny_evalAll_nil ?_
  have hat : s₂.heap.get? fa = some fo := (I.pur.trans st₂.pur).keep fa fo (tab_ne_obj I.wd0 hfo hfc) hfo
  refine ⟨⟨hat, hfd⟩, ?_⟩
  have hL₂ := p₂.plainL st₁.wd hL
  have hr₂ := st₁.reps p₂ hr
  refine wpAny_mono (c.run A s₂ (fun b => UU F O b ∧ b ≠ a) a vs v [] hA (I.pur.trans st₂.pur) (fun b u => st₂.live u.1) (fun q hq => ⟨.inl (st₂.tabU q hq), fun e => st₂.tabNe (st₂.newO _ hO) q hq e⟩) (fun b u => I.new st₂ b u.1) (fun u => u.2 rfl) hL₂ (Reps.mono (fun zz u n zz => n u.1) (fun zz zz zz e => e) hr₂) (Rep.mono (fun zz u n zz => n u.1) (fun zz zz zz e => e) r₂) .nil) (fun r s₄ q => ?_) fun zz zz x => x
  refine ngI fun hNg => ?_
  obtain ⟨rfl, s₅, h', t, p₅, rfl, hsb, hpl⟩ := q
  refine ngE hNg ?_
  have st₅ := st₂.step p₅
  exact kk.run _ _ (st₅.setList (t := t) hm ((p₂.trans p₅).bound st₁.wd hbd) hO (p₅.plainL st₂.wd hL₂) hsb hpl (st₂.reps p₅ (reps_putIn hr₂ r₂ k)))⟩

theorem EvV.nameVal {x pos v} (hm : ((x : Str), Sl.imm (.val v)) ∈ ρ) (hd : (x == ("__debug__" : Str)) = false) : EvV g A F ρ (.Name x pos) v := ⟨fun zz zz st => by
  obtain ⟨_, hb, hr⟩ := st.facts _ _ hm
  cases hr
  exact load_bound st.kind hb ⟨Pur.refl st.wd, rfl⟩ hd⟩
theorem Cmp.isNoneVal {a} : Cmp g A F ρ .Is (.val (.ref a)) .none false := ⟨fun zz zz zz zz zz st r₁ r₂ q => by
  cases r₁; cases r₂ using cN; with_reducible refine wpAny_is_other rfl (fun e => Value.noConfusion e) ?_
  exact q _ (Pur.refl st.wd)⟩
end
end
section
section
variable {A : Around} {F : Fx} {ρ : Rho} {O : List (Str × Addr)} {s : Shared}
theorem Op.braces {y : PySem.Str} (hy : y.length ≤ 1000000) : Op g A F ρ .Mod (.str "{%s}") (.str y) (.str (("{" ++ y) ++ "}")) := ⟨fun zz zz zz zz st r₁ r₂ => by
  cases r₁ using cS; cases r₂ using cS; with_reducible refine Mine.Internal.braces hy ?_
  intro t' k
  exact ⟨Pur.toks st.wd _, .str _ _⟩⟩
theorem Op.fmt3 {sp nm : PySem.Str} {ln : Int} (h1 : sp.length ≤ 100000) (h2 : nm.length ≤ 100000) (h3 : ln.natAbs < 10 ^ 12) : Op g A F ρ .Mod (.str "%s:%d(%s)") (.tup [.str sp, .int ln, .str nm]) (.str (((((sp ++ ":") ++ (toString ln : String)) ++ "(") ++ nm) ++ ")")) := ⟨fun zz zz zz zz st r₁ r₂ => by
  cases r₁ using cS
  cases r₂ using cT with
  | tup n hL hr =>
    cases hr using cC with | cons r1 hr => cases hr using cC with | cons r2 hr => cases hr using cC with | cons r3 hr =>
    cases hr using cE; cases r1 using cS; cases r2 using cI; cases r3 using cS
    have hL2 : IsTup _ _ _ := hL
    with_reducible refine Mine.Internal.fmt3 h1 h2 h3 hL2 ?_
    intro t' k
    exact ⟨Pur.toks st.wd _, .str _ _⟩⟩
theorem Ev.sliceS {e lo hi p pos} {x : PySem.Str} {i j : Int} (h₁ : Ev g A F ρ e (.str x)) (hl : Ev g A F ρ lo (.int i)) (hh : Ev g A F ρ hi (.int j)) (hz : x.length ≤ sizeLine) (ht : ∀ v r, letTemporaryGo e v r = pure ()) :
    Ev g A F ρ (.Subscript e (.Slice (Option.some lo) (Option.some hi) Option.none p) pos) (.str (Txt.slice x (some i) (some j))) := ⟨fun O s st => by
  refine Subscript_ (runQ (h₁.run O s st) fun v₁ s₁ p₁ r₁ => ?_)
  have st₁ := st.step p₁
  refine wpAny_Slice ?_
  rw [evalPart_some]
  refine runQ (hl.run O s₁ st₁) fun vl s₂ p₂ r₂ => ?_
  have st₂ := st₁.step p₂
  rw [evalPart_some]
  refine runQ (hh.run O s₂ st₂) fun vh s₃ p₃ r₃ => ?_
  have st₃ := st₂.step p₃
  rw [evalPart_none]
  refine wpAny_pure ?_
  cases r₁ using cS; cases r₂ using cI; cases r₃ using cI
  refine tail_of_ItemOn (PySem.SBH.sliceItem_ss (P := fun h => ∀ b o, s₃.heap.get? b = some o → h.get? b = some o) (fun h ob k b o e => Heap.get?_push_of_some _ (k b o e)) (fun zz zz e => e) (fun h' t' k hk => ?_) hz) (by with_unfolding_all rfl) (ht _)
  exact ⟨((p₁.trans p₂).trans p₃).trans (Pur.grow st₃.wd hk), .str _ _⟩⟩
end
theorem idP {p : Prop} (h : p) : p := h
theorem isMem {α : Type} {x : α} {l : List α} (h : x ∈ l) : x ∈ l := h
theorem isAt {α : Type} {l : List α} {k : Nat} {d : α} (h : l[k]? = some d) : l[k]? = some d := h
theorem idEq {α : Sort _} {a b : α} (h : a = b) : a = b := h
section
variable {A : Around} {F : Fx} {ρ : Rho}
theorem isEv {e d} (h : Ev g A F ρ e d) : Ev g A F ρ e d := h
theorem isOp {op d₁ d₂ d} (h : Op g A F ρ op d₁ d₂ d) : Op g A F ρ op d₁ d₂ d := h
theorem isCmp {op d₁ d₂ b} (h : Cmp g A F ρ op d₁ d₂ b) : Cmp g A F ρ op d₁ d₂ b := h
theorem isTr {e b} (h : Tr g A F ρ e b) : Tr g A F ρ e b := h
theorem Ev.tupFromI {e lo p pos xs} {k : Int} (h₁ : Ev g A F ρ e (.tup xs)) (hl : Ev g A F ρ lo (.int k)) (h1 : 1 ≤ k) (ha : k.toNat ≤ xs.length) (hz : xs.length ≤ sizeLine) :
    Ev g A F ρ (.Subscript e (.Slice (Option.some lo) Option.none Option.none p) pos) (.tup (xs.drop k.toNat)) :=
  Ev.tupFrom (a := k.toNat) h₁ (hl.cast (by rw [Int.toNat_of_nonneg (by lia)])) (by lia) ha hz
theorem Ev.tupToI {e hi p pos xs} {k : Int} (h₁ : Ev g A F ρ e (.tup xs)) (hh : Ev g A F ρ hi (.int k)) (h0 : 0 ≤ k) (hb : k.toNat < xs.length) (hz : xs.length ≤ sizeLine) :
    Ev g A F ρ (.Subscript e (.Slice Option.none (Option.some hi) Option.none p) pos) (.tup (xs.take k.toNat)) :=
  Ev.tupTo (b := k.toNat) h₁ (hh.cast (by rw [Int.toNat_of_nonneg h0])) hb hz
end
end
section
section
variable {A : Around} {F : Fx} {ρ : Rho} {O : List (Str × Addr)} {s s₀ : Shared} {U₀ : Addr → Prop}
theorem callCode {n a} {ks : List Str} {names : List Str} {vsP vsK vals : List Value} {U : Addr → Prop} {R : Result → Shared → Prop} (H : Base g) (hfn : isFnB g a names = true) (w : Wd g s) (hA : AOk (n + 1) A)
    (hpk : ∀ S, peek g.K S (bindArgs (fd g a) ⟨vsP, ks.zip vsK⟩) = some (names.zip vals)) (hU : ∀ a, U a → ∃ o, s.heap.get? a = some o) (tabU : ∀ q ∈ g.tabs, U q.2.1)
    (hX : ∀ A' s', AOk n A' → (∀ ds, Reps g s.heap U ds vals → StO g (mkF (fd g a) a U s) (slots names ds) [] s') → wpAny g.M A' (execs (bodyOf (fd g a)) (mkF (fd g a) a U s).env) (fun fl s₂ => R (.ok (.ret (match fl with | .ret v => v | _ => .none))) s₂) noE s') :
    codeAny g.M A (.call (.ref a) ⟨vsP, ks.zip vsK⟩) R s := by
  have I := IsFn.of H hfn
  have kB : ∀ b o, g.B.get? b = some o → s.heap.get? b = some o := w.keep
  obtain ⟨o, h1, h2, _⟩ := I.at'
  refine codeAny_call_function hA.room (kB _ _ h1) h2 I.co I.gen I.body (I.code.keeps kB) ?_
  refine kp_binds (H.inK.keeps kB) hpk _ _ _ _ ?_
  rw [I.clo]
  refine wpAny_newFunctionEnv_cells I.scp.kind (fun q hq => ?_) fun env he s' x => ?_
  · have hq' : q.1 ∈ names := (List.of_mem_zip (a := q.1) (b := q.2) hq).1
    rcases I.kinds _ hq' with h | h
    · exact .inl h
    · refine .inr ⟨h, ?_⟩
      obtain ⟨c, hc, e⟩ := List.mem_map.mp (cellsFrom_has (fd g a).scope.names (s.heap.objs.size + 1) [] q.1 (.inl (PySem.mem_of_lookup h)))
      have := lookup_nodup (cellsFrom_keys (fd g a).scope.names (s.heap.objs.size + 1) [] I.scp.nodup List.nodup_nil nofun) (x := q.1) (k := c.2) (by rw [← e]; exact hc)
      rw [this]; rfl
  · subst he
    refine ⟨(H.glb.nolimit.keeps kB).keeps x.toInCall.keep, codeAny_func ?_⟩
    refine wpAny_mono (hX _ s' hA.deeper fun ds r => start (a := a) I.scp I.glob I.bui w hU tabU I.kinds I.nodup r x) (fun fl s₂ m => m) fun zz zz x => x.elim

theorem instAt {h : Heap} {x dx : Addr} {od : Obj} (hx : h.get? x = some (instObj 38 dx)) (hd : h.get? dx = some od) : InstAt h x (instObj 38 dx) 38 (some od) := ⟨hx, rfl, rfl, hd⟩
theorem find_sel {od : Obj} {v : Value} (hl : lookIn "comp_select_list" od = some (some v)) : findObj g.K 38 (some od) "comp_select_list" = some (.value v) := by
  have e1 : (clsIn g.K 38).any (·.hasDict) = true := by kernel_rfl
  obtain ⟨cd, ec, ed⟩ := any_some e1
  have e2 : findIn g.K (.ref 38) "comp_select_list" = some none := by kernel_rfl
  unfold findObj
  rw [ec, e2]
  have e3 : W.ownOf cd (some od) "comp_select_list" = some (some v) := by unfold W.ownOf; rw [ed]; exact hl
  simp only [Option.bind_some, e3]
theorem handed_rep {U : Addr → Prop} {h : Heap} {xs : List V} {v : Value} (r : Rep g h U (.lst xs) v) : handedIn v = true := by cases r using cL; rfl
theorem Ev.selList (H : Base g) {x xp pos xs} (h : Ev g A F ρ (.Name x xp) (.inst (.lst xs))) : Ev g A F ρ (.Attribute (.Name x xp) "comp_select_list" pos) (.lst xs) := ⟨fun O s st => by
  refine Attribute_name (runQ (h.run O s st) fun v s₁ p₁ r₁ => ?_)
  have st₁ := st.step p₁
  cases r₁ with
  | inst n n' hx hd hl hc r =>
    refine get_value (K := g.K) (H.inK.keeps st₁.wd.keep) (instAt hx hd) (by kernel_rfl) (find_sel hl) (handed_rep r) ?_
    exact ⟨p₁.trans (Pur.toks st₁.wd _), r⟩⟩

theorem under_tc {n : Nat} {v : Value} (h : AOk (n + 1) A) : AOk n (A.under (.builtin "type.__call__" ⟨[.ref 38, v], []⟩)) := by
  have e1 : (Code.builtin "type.__call__" ⟨[.ref 38, v], []⟩).weight = 1 := by kernel_rfl!
  have e2 : (Code.builtin "type.__call__" ⟨[.ref 38, v], []⟩).cUnits = 1 := by kernel_rfl!
  refine ⟨h.hh, ?_, ?_⟩
  · show A.depth + (Code.builtin "type.__call__" ⟨[.ref 38, v], []⟩).weight + n ≤ 900
    have := h.dp; lia
  · show A.units + (Code.builtin "type.__call__" ⟨[.ref 38, v], []⟩).cUnits + 20 * n ≤ 9000
    have := h.un; lia
theorem newTC (H : Base g) {v : Value} {xs : List V} {U : Addr → Prop} (hA : AOk 2 A) (w : Wd g s) (hU : ∀ a, U a → ∃ o, s.heap.get? a = some o) (tabU : ∀ q ∈ g.tabs, U q.2.1) (r : Rep g s.heap U (.lst xs) v) :
    wpAny g.M A (call (.ref 38) [v]) (fun r s' => Pur g s s' ∧ Rep g s'.heap U (.inst (.lst xs)) r) noE s := by
  refine wpAny_call ?_
  obtain ⟨hh, gs, d, t, os⟩ := s
  have X : g.K.In hh := H.inK.keeps w.keep
  refine make_core (makes_of X (by kernel_rfl)) (looks_findIn X (r := some (.ref 28)) (by kernel_rfl)) (fun self => bind_fn X self (by kernel_rfl)) (.inl rfl) ?_
  have keep1 : ∀ b o, hh.get? b = some o → ((hh.push emptyDict).push (instObj 38 hh.objs.size)).get? b = some o := fun b o e => Heap.get?_push_of_some _ (Heap.get?_push_of_some _ e)
  have p₁ : Pur g ⟨hh, gs, d, t, os⟩ ⟨(hh.push emptyDict).push (instObj 38 hh.objs.size), gs, d, t, os⟩ := Pur.grow (s := ⟨hh, gs, d, t, os⟩) w keep1
  have hx : ((hh.push emptyDict).push (instObj 38 hh.objs.size)).get? (hh.objs.size + 1) = some (instObj 38 hh.objs.size) := by
    have := Heap.get?_push_size (o := instObj 38 hh.objs.size) (hh.push emptyDict) rfl
    rwa [Heap.size_push] at this
  have hdx : ((hh.push emptyDict).push (instObj 38 hh.objs.size)).get? hh.objs.size = some emptyDict := Heap.get?_push_of_some _ (Heap.get?_push_size _ rfl)
  have w₁ : Wd g ⟨(hh.push emptyDict).push (instObj 38 hh.objs.size), gs, d, t, os⟩ := p₁.wd
  have fresh0 : hh.get? hh.objs.size = none := noneAtSize _
  have fresh1 : hh.get? (hh.objs.size + 1) = none := Heap.get?_none_of_le (Nat.le_succ _)
  have keepsU : ∀ b, hh.get? b = none → ¬ U b := fun b e u => by obtain ⟨o, q⟩ := hU b u; rw [show hh.get? b = some o from q] at e; cases e
  refine callCode (n := 0) (ks := []) (vsK := []) (names := ["self", "comp_select_list"]) (vals := [.ref (hh.objs.size + 1), v]) (U := U) H (by kernel_rfl) w₁ (under_tc hA) (fun S => by kernel_rfl) (fun a u => p₁.live (hU a u)) tabU fun A' s' hA' mk => ?_
  have st := mk [.val (.ref (hh.objs.size + 1)), .val v] (.cons (.val _) (.cons (.val _) .nil))
  conv => arg 3; arg 1; whnf
  obtain ⟨v1, hb1, r1⟩ := st.facts "self" (.imm (.val (.ref (hh.objs.size + 1)))) (.head _)
  cases r1
  obtain ⟨v2, hb2, r2⟩ := st.facts "comp_select_list" (.imm (.val v)) (.tail _ (.head _))
  cases r2
  have X' : g.K.In s'.heap := H.inK.keeps st.wd.keep
  have p' : Pur g ⟨(hh.push emptyDict).push (instObj 38 hh.objs.size), gs, d, t, os⟩ s' := st.pur
  have hx' : s'.heap.get? (hh.objs.size + 1) = some (instObj 38 hh.objs.size) := p'.keep _ _ (tab_ne_obj w₁ hx nofun) hx
  have hd' : s'.heap.get? hh.objs.size = some emptyDict := p'.keep _ _ (tab_ne_obj w₁ hdx nofun) hdx
  refine wpAny_execs_cons (plainObj_wpAny_Assign_Attribute (load_bound st.kind hb2 (load_bound st.kind hb1 ?_)) (by rfl))
  refine set_plain (K := g.K) X' (instAt hx' hd') (by kernel_rfl) ?_
  refine osa_open (K := g.K) (r := none) (s := { s' with toks := s'.toks + 1 }) X' (instAt hx' hd') (by kernel_rfl) (by kernel_rfl) fun b => ?_
  have e1 : (clsIn g.K 38).any (·.hasDict) = true := by kernel_rfl!
  obtain ⟨cd, ec, ed⟩ := any_some e1
  refine wpAny_bind (wpAny_pure (wpAny_bind (wpAny_bind (wpAny_loadPart (o := instObj 38 hh.objs.size) hx' (wpAny_bind (looks_clsIn X' ec _ _ _ _ (fun zz zz e => e) ?_))))))
  rw [ed]
  refine wpAny_pure (a := some hh.objs.size) (wpAny_bind (wpAny_pure (wpAny_bind ?_)))
  unfold nsSet
  refine wpAny_bind (wpAny_bind (wpAny_askSetting (wpAny_pure (wpAny_bind (wpAny_mkText (wpAny_bind (wpAny_loadPart (o := emptyDict) hd' ?_)))))))
  dsimp only
  rw [aRefKeyMayBeTheName_at]
  have c : (!(#[] : Array DictEntry).any (·.key.isStr ("comp_select_list" : Str)) && (#[] : Array DictEntry).any (·.refKey)) = false := by simp
  rw [c]
  refine wpAny_updatePart (o := emptyDict) hd' ?_
  have epn : Obj.putName ("comp_select_list" : Str) (PyData.keyHash g.w.params ("comp_select_list" : Str)) (.str ("comp_select_list" : Str) (s'.toks + 1)) v emptyDict = dictOf [⟨PyData.keyHash g.w.params ("comp_select_list" : Str), .str ("comp_select_list" : Str) (s'.toks + 1), v⟩] (putN ("comp_select_list" : Str) [] 0) := putName_dict _ _ _ _ [] 0
  have hupd := Heap.get?_update_self (h := s'.heap) (a := hh.objs.size) (Obj.putName ("comp_select_list" : Str) (PyData.keyHash g.w.params ("comp_select_list" : Str)) (.str ("comp_select_list" : Str) (s'.toks + 1)) v) hd' (by rw [epn]; rfl)
  rw [epn] at hupd
  refine wpAny_bind (wpAny_lookBehind hupd (pastItsLine_dict (by rw [sizeLine_eq]; exact Nat.le_of_ble_eq_true rfl)) ?_)
  refine wpAny_pure ?_
  refine wpAny_execs_nil ⟨rfl, ?_⟩
  have hne : ∀ b, b ≠ hh.objs.size → (s'.heap.update hh.objs.size (Obj.putName ("comp_select_list" : Str) (PyData.keyHash g.w.params ("comp_select_list" : Str)) (.str ("comp_select_list" : Str) (s'.toks + 1)) v)).get? b = s'.heap.get? b := fun b hb => Heap.get?_update_ne _ _ _ _ hb
  have hnn : ∀ b o, hh.get? b = some o → b ≠ hh.objs.size := fun b o e q => by rw [q, fresh0] at e; cases e
  have pAll := p₁.trans p'
  have ext : Heap.ExtBut hh.objs.size s'.heap (s'.heap.update hh.objs.size (Obj.putName ("comp_select_list" : Str) (PyData.keyHash g.w.params ("comp_select_list" : Str)) (.str ("comp_select_list" : Str) (s'.toks + 1)) v)) := fun b o hb e => (hne b hb).trans e
  have wEnd : Wd g { s' with heap := s'.heap.update hh.objs.size (Obj.putName ("comp_select_list" : Str) (PyData.keyHash g.w.params ("comp_select_list" : Str)) (.str ("comp_select_list" : Str) (s'.toks + 1)) v), toks := s'.toks + 1 + 1 } := by
    refine Wd.touch st.wd ext ?_ ?_ fun c q x => codeRec_touch ext (fun o e vs q => by rw [hd'] at e; cases e; cases q) x
    · cases q : g.B.get? hh.objs.size with
      | none => rfl
      | some o => have := w.keep _ _ q; rw [show hh.get? hh.objs.size = some o from this] at fresh0; cases fresh0
    · intro q hq e
      obtain ⟨ps, hp, _⟩ := w.tab q hq
      rw [e, show hh.get? hh.objs.size = none from fresh0] at hp; cases hp
  have pEnd : Pur g ⟨hh, gs, d, t, os⟩ { s' with heap := s'.heap.update hh.objs.size (Obj.putName ("comp_select_list" : Str) (PyData.keyHash g.w.params ("comp_select_list" : Str)) (.str ("comp_select_list" : Str) (s'.toks + 1)) v), toks := s'.toks + 1 + 1 } :=
    ⟨fun b o n e => (hne b (hnn b o e)).trans (pAll.keep b o n e), wEnd⟩
  refine ⟨pEnd, ?_⟩
  refine Rep.inst (v := v) (keepsU _ fresh1) (keepsU _ fresh0) ((hne _ (Nat.succ_ne_self _)).trans hx') hupd ?_ ?_ ?_
  · unfold lookIn
    simp [dictOf, Value.isStr]
  · unfold lookIn
    have e : (Str.ofString "comp_select_list" == Str.ofString "compare") = false := by decide +kernel
    have e' : ¬ Str.ofString "comp_select_list" = Str.ofString "compare" := by simpa using e
    simp [dictOf, Value.isStr, e, e', DictEntry.refKey]
  · exact r.mono (fun zz u n zz => n u) fun b o n e => pEnd.keep b o (fun q hq e' => n (e' ▸ tabU q hq)) e
theorem Ev.newTC (H : Base g) (hA : AOk 2 A) {p pos e xs} (h : Ev g A F ρ e (.lst xs)) (hx : F.env.kindOf "TupleComp" = some .globalImplicit) (he : starEach [e] F.env = [(false, eval e F.env)]) : Ev g A F ρ (.Call (.Name "TupleComp" p) [e] [] pos) (.inst (.lst xs)) := ⟨fun O s st => by
  refine Call_Name rfl (runQ ((EvV.globK (v := .ref 38) H hx (by kernel_rfl)).run O s st) fun v s₁ p₁ r₁ => ?_)
  subst r₁
  have st₁ := st.step p₁
  have hne : backTo pos (starEach [e] F.env) = [(false, eval e F.env)] := by rw [he]; rfl
  rw [hne]
  refine callWith_of (M := g.M) (P := fun h => g.K.In h) rfl (keeps_K (K := g.K) (f := .ref 38) (by kernel_rfl)) ?_
  refine evalArgs_kw rfl (Calls.spliced_cons (runQ (h.run O s₁ st₁) fun v s₂ p₂ r₂ => Calls.spliced_nil (wpAny_evalAll_nil ?_)))
  have st₂ := st₁.step p₂
  refine ⟨H.inK.keeps st₂.wd.keep, ?_⟩
  exact runQ (Mine.Internal.newTC H hA st₂.wd (fun zz u => st₂.live u) (fun q hq => .inl (st₂.tabU q hq)) r₂) fun v s₃ p₃ r₃ => ⟨(p₁.trans p₂).trans p₃, r₃⟩⟩
end
end
section
section
variable {A : Around} {F : Fx} {ρ : Rho} {O : List (Str × Addr)} {s s₀ : Shared} {U₀ : Addr → Prop}
theorem codeAmong_snoc' {pos : Pos} {a b : Int} {c x : Value} (l : List Value) (h : TriplesOk l) (e : codeAmong pos (l ++ [rawInt a, rawInt b, c]) = some x) : codeAmong pos l = some x ∨ x = c := by
  fun_induction TriplesOk l with
  | case1 =>
    right
    simp only [List.nil_append, codeAmong, rawInt] at e
    split at e
    · cases e; rfl
    · cases e
  | case2 a' t b' u y rest ih =>
    simp only [List.cons_append, codeAmong] at e ⊢
    split at e
    · rename_i hc; rw [if_pos hc]; exact .inl e
    · rename_i hc; rw [if_neg hc]; exact ih h e
  | case3 l h1 h2 => exact h.elim
theorem TabGood.snoc {h' : Heap} {P : Addr} {ps : Array Value} {q : Str} {a b : Int} {c : Value} (ht : TriplesOk ps.toList) (hc : ∀ pos x, codeAmong pos ps.toList = some x → h'.CodeRec x q) (hP : h'.get? P = some (tabObj (ps ++ #[rawInt a, rawInt b, c]))) (hr : h'.CodeRec c q) : TabGood h' P q := by
  refine ⟨_, hP, ?_, fun pos x e => ?_⟩
  · have : (ps ++ #[rawInt a, rawInt b, c]).toList = ps.toList ++ [rawInt a, rawInt b, c] := by simp
    rw [this]; exact TriplesOk_snoc _ _ _ _ ht
  · have e' : codeAmong pos (ps.toList ++ [rawInt a, rawInt b, c]) = some x := by rw [← e]; congr 1; simp
    rcases codeAmong_snoc' _ ht e' with e | rfl
    · exact hc pos x e
    · exact hr
theorem tabs_inj (H : Base g) {q r : Addr × Addr × Str} (hq : q ∈ g.tabs) (hr : r ∈ g.tabs) (e : q.2.1 = r.2.1) : q = r := by
  rw [H.tabs] at hq hr
  simp only [List.mem_cons, List.not_mem_nil, or_false] at hq hr
  rcases hq with rfl | rfl | rfl <;> rcases hr with rfl | rfl | rfl <;> first | rfl | (simp at e)
theorem Pur.table (H : Base g) (w : Wd g s) {c P : Addr} {q : Str} {ps : Array Value} {a b : Int} {x : Value} {h' : Heap} {t : Nat} (hq : (c, P, q) ∈ g.tabs) (hP : s.heap.get? P = some (tabObj ps)) (ht : TriplesOk ps.toList) (hc : ∀ pos x, codeAmong pos ps.toList = some x → s.heap.CodeRec x q)
    (hs : Heap.ExtBut P s.heap h') (hP' : h'.get? P = some (tabObj (ps ++ #[rawInt a, rawInt b, x]))) (hr : h'.CodeRec x q) : Pur g s { s with heap := h', toks := t } := by
  have hno : ∀ x q, s.heap.CodeRec x q → h'.CodeRec x q := fun x q r => by
    obtain ⟨b', o, vs, tt, e, hb, hd, hv⟩ := r
    refine ⟨b', o, vs, tt, e, hs _ _ (fun e' => ?_) hb, hd, hv⟩
    rw [e', hP] at hb; cases hb; cases hd
    cases hl : ps.toList with
    | nil =>
      have : ps[1]? = none := by rw [← Array.getElem?_toList, hl]; rfl
      rw [this] at hv; cases hv
    | cons y r =>
      rw [hl] at ht
      match y, r, ht with
      | .int a' ta, .int b' tb :: _ :: _, _ =>
        have : ps[1]? = some (.int b' tb) := by rw [← Array.getElem?_toList, hl]; rfl
        rw [this] at hv; cases hv
  refine ⟨fun b o n e => hs b o (fun e' => n _ hq e'.symm) e, fun b o e => hs b o (fun e' => ?_) (w.keep b o e), fun r hr' => ?_, w.gens, w.os⟩
  · rw [e', H.tabNone _ hq] at e; cases e
  · by_cases e : r.2.1 = P
    · have := tabs_inj H hr' hq e
      subst this
      exact TabGood.snoc ht (fun pos y e => hno _ _ (hc pos y e)) hP' hr
    · obtain ⟨ps', h1, h2, h3⟩ := w.tab r hr'
      exact ⟨ps', hs _ _ e h1, h2, fun pos y e => hno _ _ (h3 pos y e)⟩

theorem Base.bmAt (H : Base g) (w : Wd g s) {c P : Addr} {q : Str} (hq : (c, P, q) ∈ g.tabs) : s.heap.BuiltinsAt g.mg P := by
  refine ngI fun hNg => ?_
  obtain ⟨bm, ob, h1, h2, h3, h4, h5, h6, h7⟩ := H.bm
  refine ngE hNg ?_
  refine ⟨bm, ob, h1, h2, h3, fun e => ?_, w.keep _ _ h4, h5, h6, h7⟩
  rw [e, H.tabNone _ hq] at h4; cases h4
theorem Base.mainNe (H : Base g) {c P : Addr} {q : Str} (hq : (c, P, q) ∈ g.tabs) : mainGlobals ≠ P := fun e => by
  obtain ⟨o, es, ep, ho, _⟩ := H.glb.ng
  rw [e, H.tabNone _ hq] at ho; cases ho

noncomputable def LamAt (h : Heap) (fa : Addr) (q : Str) (params : Arguments) (body : Expr) (scope : Scope) (cells : List (Str × Addr)) : Prop :=
  ∃ cv ctv pm, h.get? fa = some { cls := .type "function", data := .func (kla_fn "<lambda>" q params body scope (freeOf cells scope.names []) pm cv ctv) } ∧ h.CodeRec cv q
theorem evLam (H : Base g) (st : StO g F ρ O s) {c P : Addr} {q : Str} {params : Arguments} {body : Expr} {scope : Scope} {pos : Pos} (hq : (c, P, q) ∈ g.tabs) (hcode : F.env.code = .ref c) (hqual : F.env.qual ++ "<lambda>" = q) (hfree : ∀ n, (n, NameKind.free) ∈ scope.names → ∃ c, F.env.cells.lookup n = some c)
    (hdef : defaultsOf params F.env = ([], [])) :
    wpAny g.M A (eval (.Lambda params body scope pos) F.env) (fun v s' => ∃ fa, v = .ref fa ∧ Pur g s s' ∧ s.heap.get? fa = none ∧ LamAt s'.heap fa q params body scope F.env.cells) noE s := by
  subst hqual
  obtain ⟨ps, hP, ht, hcs⟩ := st.wd.tab _ hq
  have hP' : s.heap.get? P = some (tabObj ps) := hP
  have C : CodeHd s.heap c P := (H.hds _ hq).keeps st.wd.keep
  have hg : s.heap.Ns mainGlobals g.mg := H.glb.ng.keeps st.wd.keep
  refine kla_eval hdef ?_
  cases hf : codeAmong pos ps.toList with
  | none =>
    refine kla_makeFunction (closureFor_cells hfree) st.glob hg hcode C hP' ht hf (H.mainNe hq) (H.bmAt st.wd hq) fun c' ctv h' tk hx hge hlt hrec htb => ?_
    have hnone : h'.get? h'.objs.size = none := noneAtSize _
    refine ⟨_, rfl, Pur.table H st.wd (x := .ref c') hq hP' ht hcs (fun b o n e => Heap.get?_push_of_some _ (hx b o n e)) (Heap.get?_push_of_some _ htb) (hrec.keeps fun b o e => Heap.get?_push_of_some _ e), Heap.get?_none_of_le (by lia), _, _, _, Heap.get?_push_size _ rfl, hrec.keeps fun b o e => Heap.get?_push_of_some _ e⟩
  | some cv =>
    refine kla_makeFunctionHit (closureFor_cells hfree) st.glob hg hcode C hP' ht hf (H.bmAt st.wd hq) fun ctv h' tk hk hsz => ?_
    have hrec := hcs _ _ hf
    have hk' : ∀ b o, s.heap.get? b = some o → (h'.push { cls := .type "function", data := .func (kla_fn "<lambda>" (F.env.qual ++ "<lambda>") params body scope (freeOf F.env.cells scope.names []) ((g.mg "__name__").getD .none) cv ctv) }).get? b = some o := fun b o e => Heap.get?_push_of_some _ (hk b o e)
    exact ⟨_, rfl, Pur.grow st.wd hk', Heap.get?_none_of_le hsz, _, _, _, Heap.get?_push_size _ rfl, hrec.keeps hk'⟩

theorem lamCall {n : Nat} {fa : Addr} {q : Str} {params : Arguments} {body : Expr} {scope : Scope} {cells : List (Str × Addr)} {x : Str} {v : Value} {Q : Value → Shared → Prop} (H : Base g) (w : Wd g s) (hA : AOk (n + 1) A) (hL : LamAt s.heap fa q params body scope cells)
    (hsc : scope.kind = .function) (hco : scope.isCoroutine = false) (hgen : scope.isGenerator = false) (hx : scope.names.lookup x = some .local) (hnc : ∀ y ∈ scope.names, y.2 ≠ .cell)
    (hb : ∀ pm cv ctv, bindArgs (kla_fn "<lambda>" q params body scope (freeOf cells scope.names []) pm cv ctv) ⟨[v], []⟩ = pure [(x, v)])
    (hX : ∀ A' s' env, AOk n A' → Pur g s s' → env.scope = scope → env.cells = freeOf cells scope.names [] → env.globals = mainGlobals → env.builtins = builtinsNs → (∃ m, s'.heap.Ns env.locals m ∧ m x = some v) → wpAny g.M A' (eval body env) Q noE s') :
    wpAny g.M A (call (.ref fa) [v]) Q noE s := by
  refine ngI fun hNg => ?_
  obtain ⟨cv, ctv, pm, ho, hcd⟩ := hL
  refine ngE hNg ?_
  refine wpAny_call (kla_callFunE hA.room ho rfl hco hgen rfl hcd ?_)
  rw [hb]
  refine wpAny_pure (wpAny_newFunctionEnv hnc (fun y hy => ?_) (fun h₁ hns hsb => ⟨((H.glb.nolimit).keeps w.keep).fresh _ hsb, ?_⟩) hsc)
  · rw [List.mem_singleton.mp hy]; exact hx
  · have hk₁ : ∀ b o, s.heap.get? b = some o → h₁.get? b = some o := fun b o e => hsb.extBut b o (Nat.ne_of_lt (Heap.lt_size e)) (Heap.get?_push_of_some _ e)
    refine kla_codeExpr (wpAny_mono (hX _ _ _ hA.deeper (Pur.grow w hk₁) rfl rfl rfl rfl ⟨_, hns, by simp⟩) (fun v s' h => h) fun zz zz e => e.elim)
end
end
section
section
variable {A : Around} {F : Fx} {ρ : Rho} {O : List (Str × Addr)} {s s₀ : Shared} {U₀ : Addr → Prop} {Q : Res → Prop} {rest : List Stmt}
theorem X.insByLam {n f fx x kw xp fp e kp cpos pos xs d k} {c P : Addr} {q : Str} {params : Arguments} {body : Expr} {scope : Scope} {lpos : Pos} (H : Base g) (hm : ((x : Str), Sl.own xs) ∈ ρ) (hf : EvV g A F ρ (.Name fx fp) f) (he : Ev g A F ρ e d) (hA : AOk n A)
    (hq : (c, P, q) ∈ g.tabs) (hcode : F.env.code = .ref c) (hqual : F.env.qual ++ "<lambda>" = q) (hfree : ∀ s O, StO g F ρ O s → ∀ n, (n, NameKind.free) ∈ scope.names → ∃ c, F.env.cells.lookup n = some c) (hdef : defaultsOf params F.env = ([], []))
    (hI : ∀ s O fa, StO g F ρ O s → LamAt s.heap fa q params body scope F.env.cells → Ins g n f [kw] s (UU F O) xs d [.val (.ref fa)] k) (hd : (x == ("__debug__" : Str)) = false)
    (hs : starEach [.Name x xp, e] F.env = [(false, eval (.Name x xp) F.env), (false, eval e F.env)]) (hkw : backToKw cpos (keywordEach [⟨some kw, .Lambda params body scope lpos, kp⟩] F.env) = [(some kw, do let v ← eval (.Lambda params body scope lpos) F.env; standAt cpos; pure v)]) (hin : interactive F.env = false) (hsw : swapsWith (.Call (.Name fx fp) [.Name x xp, e] [⟨some kw, .Lambda params body scope lpos, kp⟩] cpos) none pos.line F.env = pure false)
    (hfn : ∃ fa fd, f = .ref fa ∧ ∃ o, g.B.get? fa = some o ∧ o.data = .func fd ∧ o.cls ≠ .none)
    (kk : X g A F (ρ.put x (.own (putIn k d xs))) rest Q) : X g A F ρ (.Expr (.Call (.Name fx fp) [.Name x xp, e] [⟨some kw, .Lambda params body scope lpos, kp⟩] cpos) pos :: rest) Q := ⟨fun O s st => by
  refine wpAny_execs_cons (wpAny_Expr ?_ hin hsw)
  refine wpAny_Call_Name_kw (runQ (hf.run O s st) fun fv s₁ p₁ r₁ => ?_)
  subst r₁
  have st₁ := st.step p₁
  refine ngI fun hNg => ?_
  obtain ⟨fa, fdd, rfl, fo, hfo, hfd, hfc⟩ := hfn
  refine ngE hNg ?_
  refine ngI fun hNg => ?_
  obtain ⟨a, vs, hbd, hO, hL, hr⟩ := st₁.ownL hm
  refine ngE hNg ?_
  refine callWith_function_kw (o := fo) (fd := fdd) ?_
  rw [hkw, hs]
  refine evalArgs_kw rfl (Calls.spliced_cons (load_bound st₁.kind hbd (Calls.spliced_cons (runQ (he.run O s₁ st₁) fun v s₂ p₂ r₂ => Calls.spliced_nil ?_)) hd))
  have st₂ := st₁.step p₂
  refine wpAny_evalAll_cons (wpAny_bind (wpAny_mono (evLam H st₂ hq hcode hqual (hfree _ _ st₂) hdef) (fun v₁ s₃ q₃ => ?_) fun zz zz x => x.elim))
  refine ngI fun hNg => ?_
  obtain ⟨la, rfl, p₃, hlnone, hlam⟩ := q₃
  refine ngE hNg ?_
  refine wpAny_bind (wpAny_standAt (wpAny_pure (wpAny_evalAll_nil ?_)))
  have st₃ := st₂.step p₃
  have hat : s₃.heap.get? fa = some fo := st₃.wd.keep _ _ hfo
  refine ⟨⟨hat, hfd⟩, ?_⟩
  have p := p₂.trans p₃
  have hL₃ := p.plainL st₁.wd hL
  have hr₃ := st₁.reps p hr
  have c := hI s₃ O la st₃ hlam
  have sub : ∀ {d v}, Rep g s₃.heap (UU F O) d v → Rep g s₃.heap (fun b => UU F O b ∧ b ≠ a) d v := fun r => Rep.mono (fun zz u n zz => n u.1) (fun zz zz zz e => e) r
  refine wpAny_mono (c.run A s₃ (fun b => UU F O b ∧ b ≠ a) a vs v [.ref la] hA (Pur.refl st₃.wd) (fun b u => st₃.live u.1) (fun q hq => ⟨.inl (st₃.tabU q hq), fun e => ?_⟩) (fun b u => .inl u.1) (fun u => u.2 rfl) hL₃ (Reps.mono (fun zz u n zz => n u.1) (fun zz zz zz e => e) hr₃) (sub (st₂.rep p₃ r₂)) (.one (.val _))) (fun r s₄ q => ?_) fun zz zz x => x
  · have := st₃.tabNe (st₃.newO _ hO) q hq
    exact this e
  · obtain ⟨rfl, s₅, h', t, p₅, rfl, hsb, hpl⟩ := q
    have st₅ := st₃.step p₅
    exact kk.run _ _ (st₅.setList (t := t) hm ((p.trans p₅).bound st₁.wd hbd) hO (p₅.plainL st₃.wd hL₃) hsb hpl (st₃.reps p₅ (reps_putIn hr₃ (st₂.rep p₃ r₂) k)))⟩

theorem codeRec_ne (w : Wd g s) {x : Value} {q : Str} (r : s.heap.CodeRec x q) : ∃ b, x = .ref b ∧ ∀ t ∈ g.tabs, t.2.1 ≠ b := by
  refine ngI fun hNg => ?_
  obtain ⟨b, o, vs, tt, e, hb, hd, hv⟩ := r
  refine ngE hNg ?_
  refine ⟨b, e, fun t ht e' => ?_⟩
  refine ngI fun hNg => ?_
  obtain ⟨ps, hP, hok, _⟩ := w.tab t ht
  refine ngE hNg ?_
  rw [e', hb] at hP; cases hP; cases hd
  cases hl : vs.toList with
  | nil =>
    have : vs[1]? = none := by rw [← Array.getElem?_toList, hl]; rfl
    rw [this] at hv; cases hv
  | cons y r =>
    rw [hl] at hok
    match y, r, hok with
    | .int a' ta, .int b' tb :: _ :: _, _ =>
      have : vs[1]? = some (.int b' tb) := by rw [← Array.getElem?_toList, hl]; rfl
      rw [this] at hv; cases hv
theorem Pur.codeRec {s s' : Shared} (p : Pur g s s') (w : Wd g s) {x : Value} {q : Str} (r : s.heap.CodeRec x q) : s'.heap.CodeRec x q := by
  obtain ⟨b, e, hne⟩ := codeRec_ne w r
  obtain ⟨b', o, vs, tt, e', hb, hd, hv⟩ := r
  cases e.symm.trans e'
  exact ⟨b, o, vs, tt, e, p.keep _ _ hne hb, hd, hv⟩
theorem Pur.lamAt {s s' : Shared} (p : Pur g s s') (w : Wd g s) {fa : Addr} {q : Str} {params : Arguments} {body : Expr} {scope : Scope} {cells : List (Str × Addr)} (L : LamAt s.heap fa q params body scope cells) : LamAt s'.heap fa q params body scope cells := by
  obtain ⟨cv, ctv, pm, ho, hc⟩ := L
  exact ⟨cv, ctv, pm, p.keep _ _ (tab_ne_obj w ho nofun) ho, p.codeRec w hc⟩
theorem carry {s : Shared} (w₀ : Wd g s₀) (p : Pur g s₀ s) {U : Addr → Prop} (tabU : ∀ q ∈ g.tabs, U q.2.1) (hU₀ : ∀ a, U a → U₀ a ∨ s₀.heap.get? a = none) {d v} (r : Rep g s₀.heap U₀ d v) : Rep g s.heap U d v := by
  refine r.mono (fun a u n h => ?_) fun a o n e => p.keep a o (fun q hq e' => ?_) e
  · rcases hU₀ a u with h' | h'
    · exact n h'
    · exact h h'
  · obtain ⟨ps, hP, _⟩ := w₀.tab q hq
    rcases hU₀ _ (tabU q hq) with h' | h'
    · exact n (e' ▸ h')
    · rw [h'] at hP; cases hP
theorem X.freezeL {sts x xs} (hm : ((x : Str), Sl.own xs) ∈ ρ) (h : X g A F (ρ.put x (.imm (.lst xs))) sts Q) : X g A F ρ sts Q := X.freeze hm h
theorem X.freezeD {sts x es} (hm : ((x : Str), Sl.ownD es) ∈ ρ) (h : X g A F (ρ.put x (.imm (.dct es))) sts Q) : X g A F ρ sts Q := X.freeze hm h
theorem Ev.itemI {e i pos xs} {j : Int} {k : Nat} {d} (h₁ : Ev g A F ρ e (.lst xs)) (h₂ : Ev g A F ρ i (.int j)) (hj : j = (k : Int)) (hx : xs[k]? = some d) (hz : k < 1000000) (hs : ∀ o v, subscripted i false o v = operate [o, v] (getItem o v)) : Ev g A F ρ (.Subscript e i pos) d := by
  subst hj
  exact .item h₁ h₂ (Int.natCast_nonneg k) (by rw [Int.toNat_natCast]; exact hx) (by lia) hs
theorem Ev.itemTI {e i pos xs} {j : Int} {k : Nat} {d} (h₁ : Ev g A F ρ e (.tup xs)) (h₂ : Ev g A F ρ i (.int j)) (hj : j = (k : Int)) (hx : xs[k]? = some d) (hz : k < 1000000) (hs : ∀ o v, subscripted i false o v = operate [o, v] (getItem o v)) : Ev g A F ρ (.Subscript e i pos) d := by
  subst hj
  exact .itemT h₁ h₂ (Int.natCast_nonneg k) (by rw [Int.toNat_natCast]; exact hx) (by lia) hs
end
end
section
section
variable {prog : Program} {w : World} {A : Around} {E : Value → Shared → Prop} {s : Shared}
noncomputable def Draws1 (s : Shared) (it t : Addr) (i : Nat) (Q E : Value → Shared → Prop) : Option Value → Prop
  | some x => ∀ h', h'.IsTupleIter it t (i + 1) → Heap.SameBut it s.heap h' → Q x { s with heap := h' }
  | none => ∀ h' e, Heap.ExtBut it s.heap h' → (∃ o, h'.get? e = some o ∧ o.cls = .type "StopIteration") → E (.ref e) { s with heap := h' }
theorem stops {α : Type} {Q : α → Shared → Prop} (hh : A.handled = none) (h : ∀ h' e, (∀ b o, s.heap.get? b = some o → h'.get? b = some o) → (∃ o, h'.get? e = some o ∧ o.cls = .type "StopIteration") → E (.ref e) { s with heap := h' }) :
    wpAny (model prog w) A (Builtin.SmallTypes.stopIteration : Sem α) Q E s := by
  refine wpAny_bind (m := newExc (.type "StopIteration") []) ?_
  unfold newExc newTuple
  refine wpAny_bind (wpAny_newObj_type (wpAny_bind (m := firstArgMember _ _) (wpAny_of_eq (a := Value.none) rfl (wpAny_newObj_type (wpAny_raiseNew_none hh ?_) ?_))) ?_)
  · exact h _ _ (fun b o q => Heap.get?_push_of_some _ (Heap.get?_push_of_some _ q)) ⟨_, Heap.get?_push_size _ rfl, rfl⟩
  · size_fits
  · size_fits
theorem draw1 {it t : Addr} {i : Nat} {items : Array Value} {Q : Value → Shared → Prop} (hh : A.handled = none) (hit : s.heap.IsTupleIter it t i) (ht : s.heap.IsTuple t items) (hQ : Draws1 s it t i Q E items[i]?) : wpAny (model prog w) A (Builtin.SmallTypes.nextOf (.ref it)) Q E s := by
  have ty := hit.typeIs
  cases hit with
  | intro oi ki =>
  cases ht with
  | intro ot kt =>
  cases kt.2.2 with
  | intro n kd =>
  refine wpAny_bind (m := callSpecial? (.ref it) "__next__") (wpAny_callSpecial?_slot ty F.slot_tuple_iterator_next (wpAny_call_entry F.slot_tuple_iterator_next ty F.entry_tuple_iterator_next ?_ (F.args_tuple_iterator_next_1 _)))
  refine wpAny_bind (m := slotArgs "__next__" 0 _) (wpAny_pure (wpAny_bind (m := field (.ref it) 0) (wpAny_field ki.1 ki.2.2 rfl ?_)))
  dsimp only
  refine wpAny_ite_false rfl (wpAny_bind (m := field (.ref it) 1) (wpAny_field ki.1 ki.2.2 rfl (wpAny_bind (m := seqItems? (.ref t)) (wpAny_seqItems kt.1 kd ?_))))
  rw [Int.toNat_natCast]
  dsimp only
  have put := fun (k : Nat) (x : Value) => Heap.get?_update_self (f := Obj.mapFields (·.setIfInBounds k x)) ki.1 (Obj.isFreed_of_fields (Obj.data_mapFields ki.2.2 _))
  generalize items[i]? = r at hQ
  cases r with
  | some x =>
    refine wpAny_bind (wpAny_setField (i := 1) ki.1 ki.2.2 (show 1 < 2 from by decide) ?_)
    exact wpAny_pure ⟨x, rfl, wpAny_pure (hQ _ ⟨_, put 1 _, (Obj.cls_mapFields ..).trans ki.2.1, Obj.data_mapFields ki.2.2 _⟩ (Heap.SameBut.update ..))⟩
  | none =>
    refine wpAny_bind (wpAny_rule ?_)
    refine wpAny_bind (wpAny_setField (i := 0) ki.1 ki.2.2 (show 0 < 2 from by decide) ?_)
    exact stops hh fun h' e k => hQ h' e fun b o n q => k b o ((Heap.SameBut.update ..).extBut b o n q)
noncomputable def OffZip (z TI TO : Addr) (E : Value → Shared → Prop) (e : Value) (s : Shared) : Prop := IsZip s.heap z TI TO .ellipsis ∧ ∀ h', Heap.SameBut z s.heap h' → E e { s with heap := h' }
theorem OffZip.set {z TI TO : Addr} {e : Value} (x : OffZip z TI TO E e s) : wpAny (model prog w) A (setField (.ref z) 0 .none) (fun zz s' => E e s') E s :=
  wpAny_setField_rec x.1 (show 0 < 5 from by decide) fun h' zz k => x.2 h' k
theorem zipRun {z TI TO i1 i2 : Addr} {a b : Value} {Q : Value → Shared → Prop} (hz : IsZip s.heap z TI TO .none) (hTI : IsPair s.heap TI (.ref i1) (.ref i2))
    (h : ∀ h₁, IsZip h₁ z TI TO .ellipsis → Heap.SameBut z s.heap h₁ → wpAny (model prog w) A (Builtin.SmallTypes.nextOf (.ref i1)) (fun x s₂ => IsPair s₂.heap TO a b ∧ ∀ h₃, IsPair h₃ TO x b → Heap.SameBut TO s₂.heap h₃ →
      wpAny (model prog w) A (Builtin.SmallTypes.nextOf (.ref i2)) (fun y s₄ => IsPair s₄.heap TO x b ∧ IsZip s₄.heap z TI TO .ellipsis ∧ ∀ h', IsZip h' z TI TO (rawInt s₄.heap.objs.size) → IsPair h' TO x y → IsPair h' s₄.heap.objs.size x y → (∀ c o, c ≠ z → c ≠ TO → s₄.heap.get? c = some o → h'.get? c = some o) → Q (.ref s₄.heap.objs.size) { s₄ with heap := h' }) (OffZip z TI TO E) { s₂ with heap := h₃ }) (OffZip z TI TO E) { s with heap := h₁ }) :
    wpAny (model prog w) A (Builtin.«zip.__next__» ⟨[.ref z], []⟩) (fun fin s' => ∃ v, fin = .done (.ret v) ∧ Q v s') E s := by
  refine wpAny_bind (m := slotArgs "__next__" 0 _) (wpAny_pure (wpAny_bind (m := field (.ref z) 2) (wpAny_field hz rfl rfl (wpAny_bind (m := field (.ref z) 3) (wpAny_field hz rfl rfl (wpAny_bind (wpAny_seqItems hTI rfl ?_)))))))
  dsimp only
  refine wpAny_ite_false rfl (wpAny_bind (m := Builtin.SmallTypes.ownedTupleIsFree (.ref z)) (wpAny_bind (m := field (.ref z) 0) (wpAny_field hz rfl rfl (wpAny_pure ?_))))
  refine wpAny_ite_true rfl ?_
  refine wpAny_bind (wpAny_rule ?_)
  refine wpAny_bind (wpAny_field hz rfl rfl ?_)
  refine wpAny_bind (wpAny_setField_rec hz (show 0 < 5 from by decide) fun h₁ z₁ k₁ => ?_)
  simp only [List.zipIdx, List.forIn_cons, List.forIn_nil]
  refine wpAny_bind (wpAny_bind (wpAny_bind (wpAny_onRaise (wpAny_bind (m := Builtin.SmallTypes.nextOf (.ref i1)) (wpAny_mono (h h₁ z₁ k₁) (fun x s₂ p => wpAny_pure ?_) fun e s₂ o => o.set)))))
  refine wpAny_bind (wpAny_seqItems p.1 rfl (wpAny_bind (wpAny_updateSeq_pair p.1 fun h₃ p₃ k₃ => wpAny_bind (wpAny_letGo (wpAny_pure ?_)))))
  refine wpAny_bind (wpAny_bind (wpAny_onRaise (wpAny_bind (m := Builtin.SmallTypes.nextOf (.ref i2)) (wpAny_mono (p.2 h₃ p₃ k₃) (fun y s₄ q => wpAny_pure ?_) fun e s₄ o => o.set))))
  refine wpAny_bind (wpAny_seqItems q.1 rfl (wpAny_bind (wpAny_updateSeq_pair q.1 fun h₅ p₅ k₅ => wpAny_bind (wpAny_letGo (wpAny_pure (wpAny_pure ?_))))))
  have ne : TO ≠ z := fun e => by
    subst e
    exact absurd (q.1.symm.trans q.2.1) (by simp)
  have z₅ := k₅.extBut _ _ ne.symm q.2.1
  have hs : h₅.objs.size = s₄.heap.objs.size := k₅.1
  have n5 := Heap.lt_size z₅
  replace p₅ : IsPair h₅ TO x y := p₅
  refine wpAny_bind (wpAny_seqItems p₅ rfl (wpAny_bind (wpAny_newTuple (wpAny_bind (m := Builtin.SmallTypes.ownedTupleHandOut (.ref z) (.ref h₅.objs.size)) ?_))))
  refine wpAny_bind (wpAny_setField_rec (Heap.get?_push_of_some _ z₅) (show 0 < 5 from by decide) fun h₆ z₆ k₆ => wpAny_setField_rec z₆ (show 1 < 5 from by decide) fun h₇ z₇ k₇ => wpAny_pure ⟨_, rfl, ?_⟩)
  have up : ∀ c o, c ≠ z → (h₅.push { cls := .type "tuple", data := .seq #[x, y] }).get? c = some o → h₇.get? c = some o := fun c o n e => k₇.extBut _ _ n (k₆.extBut _ _ n e)
  have hT := up _ _ (Nat.ne_of_gt n5) (Heap.get?_push_size _ rfl)
  have res := q.2.2 h₇
  rw [← hs] at res
  exact res z₇ (up _ _ ne (Heap.get?_push_of_some _ p₅)) hT fun c o n1 n2 e => up c o n1 (Heap.get?_push_of_some _ (k₅.extBut _ _ n2 e))
structure ZipAt (h : Heap) (z TI TO i1 i2 t1 t2 : Addr) (f0 : Value) (xs ys : Array Value) (j1 j2 : Nat) : Prop where
  z : IsZip h z TI TO f0
  TI : IsPair h TI (.ref i1) (.ref i2)
  TO : ∃ a b, IsPair h TO a b
  i1 : h.IsTupleIter i1 t1 j1
  i2 : h.IsTupleIter i2 t2 j2
  t1 : h.IsTuple t1 xs
  t2 : h.IsTuple t2 ys
theorem ZipAt.keep {h h' : Heap} {z TI TO i1 i2 t1 t2 : Addr} {f0 : Value} {xs ys : Array Value} {j1 j2 : Nat} (Z : ZipAt h z TI TO i1 i2 t1 t2 f0 xs ys j1 j2) (k : ∀ c ∈ [TI, TO, i1, i2, t1, t2], ∀ o, h.get? c = some o → h'.get? c = some o) {f : Value} (hz : IsZip h' z TI TO f) : ZipAt h' z TI TO i1 i2 t1 t2 f xs ys j1 j2 where
  z := hz
  TI := k _ (.head _) _ Z.TI
  TO := let ⟨a, b, p⟩ := Z.TO; ⟨a, b, k _ (.tail _ (.head _)) _ p⟩
  i1 := Z.i1.at (k _ (.tail _ (.tail _ (.head _))))
  i2 := Z.i2.at (k _ (.tail _ (.tail _ (.tail _ (.head _)))))
  t1 := Z.t1.at (k _ (.tail _ (.tail _ (.tail _ (.tail _ (.head _))))))
  t2 := Z.t2.at (k _ (.tail _ (.tail _ (.tail _ (.tail _ (.tail _ (.head _)))))))
theorem zipGives {z TI TO i1 i2 t1 t2 : Addr} {i : Nat} {xs ys : Array Value} {x y : Value} {Q : Value → Shared → Prop} (hh : A.handled = none) (D : ZipApart z TI TO i1 i2 t1 t2) (Z : ZipAt s.heap z TI TO i1 i2 t1 t2 .none xs ys i i) (hx : xs[i]? = some x) (hy : ys[i]? = some y)
    (hQ : ∀ h', ZipAt h' z TI TO i1 i2 t1 t2 (rawInt s.heap.objs.size) xs ys (i + 1) (i + 1) → IsPair h' s.heap.objs.size x y →
      (∀ c o, c ≠ z → c ≠ TO → c ≠ i1 → c ≠ i2 → s.heap.get? c = some o → h'.get? c = some o) → Q (.ref s.heap.objs.size) { s with heap := h' }) :
    wpAny (model prog w) A (Builtin.«zip.__next__» ⟨[.ref z], []⟩) (fun fin s' => ∃ v, fin = .done (.ret v) ∧ Q v s') E s := by
  cases Z.TO with
  | intro a hb =>
  cases hb with
  | intro b hTO =>
  refine zipRun (a := a) (b := b) Z.z Z.TI fun h₁ z₁ k₁ => draw1 hh (Z.i1.at fun o => k₁.extBut _ o D.i1z) (Z.t1.at fun o => k₁.extBut _ o D.l1z) ?_
  rw [hx]
  intro h₂ g₂ k₂
  refine ⟨k₂.extBut _ _ D.TOi1 (k₁.extBut _ _ D.TOz hTO), fun h₃ p₃ k₃ => ?_⟩
  have old : ∀ c o, c ≠ z → c ≠ i1 → c ≠ TO → s.heap.get? c = some o → h₃.get? c = some o := fun c o n1 n2 n3 e => k₃.extBut _ _ n3 (k₂.extBut _ _ n2 (k₁.extBut _ _ n1 e))
  refine draw1 hh (Z.i2.at fun o => old _ o D.i2z D.i12.symm D.TOi2.symm) (Z.t2.at fun o => old _ o D.l2z D.l2i1 D.l2TO) ?_
  rw [hy]
  intro h₄ g₄ k₄
  have n : h₄.objs.size = s.heap.objs.size := k₄.1.trans (k₃.1.trans (k₂.1.trans k₁.1))
  refine ⟨k₄.extBut _ _ D.TOi2 p₃, k₄.extBut _ _ D.i2z.symm (k₃.extBut _ _ D.TOz.symm (k₂.extBut _ _ D.i1z.symm z₁)), fun h' z' p' r' up => ?_⟩
  dsimp only at z' r' up ⊢
  rw [n] at z' r' ⊢
  have far : ∀ c o, c ≠ z → c ≠ TO → c ≠ i1 → c ≠ i2 → s.heap.get? c = some o → h'.get? c = some o := fun c o n1 n2 n3 n4 e => up c o n1 n2 (k₄.extBut _ _ n4 (old c o n1 n3 n2 e))
  exact hQ h' ⟨z', far _ _ D.TIz D.TITO D.TIi1 D.TIi2 Z.TI, ⟨x, y, p'⟩, g₂.at fun o e => up _ o D.i1z D.TOi1.symm (k₄.extBut _ o D.i12 (k₃.extBut _ o D.TOi1.symm e)), g₄.at fun o => up _ o D.i2z D.TOi2.symm,
    Z.t1.at fun o => far _ o D.l1z D.l1TO D.l1i1 D.l1i2, Z.t2.at fun o => far _ o D.l2z D.l2TO D.l2i1 D.l2i2⟩ r' far
theorem zipEnds {z TI TO i1 i2 t1 t2 : Addr} {i : Nat} {xs ys : Array Value} {Q : Fin → Shared → Prop} (hh : A.handled = none) (D : ZipApart z TI TO i1 i2 t1 t2) (Z : ZipAt s.heap z TI TO i1 i2 t1 t2 .none xs ys i i) (hx : xs[i]? = none)
    (hE : ∀ h' e, (∀ c o, c ≠ z → c ≠ i1 → s.heap.get? c = some o → h'.get? c = some o) → (∃ o, h'.get? e = some o ∧ o.cls = .type "StopIteration") → E (.ref e) { s with heap := h' }) :
    wpAny (model prog w) A (Builtin.«zip.__next__» ⟨[.ref z], []⟩) Q E s := by
  refine wpAny_mono (zipRun (Q := fun zz zz => False) (E := E) (a := .none) (b := .none) Z.z Z.TI fun h₁ z₁ k₁ => draw1 hh (Z.i1.at fun o => k₁.extBut _ o D.i1z) (Z.t1.at fun o => k₁.extBut _ o D.l1z) ?_) (fun zz zz x => x.choose_spec.2.elim) fun zz zz x => x
  rw [hx]
  intro h₂ e k₂ he
  cases he with
  | intro o ho =>
  have z₂ := k₂ _ _ D.i1z.symm z₁
  refine ⟨z₂, fun h' k' => hE h' e (fun c o n1 n2 q => k'.extBut _ _ n1 (k₂ _ _ n2 (k₁.extBut _ _ n1 q))) ⟨o, k'.extBut _ _ (fun q => ?_) ho.1, ho.2⟩⟩
  subst q
  have := z₂.symm.trans ho.1
  rw [← Option.some.inj this] at ho
  exact absurd ho.2 (by simp)
end
end
section
noncomputable def lay (h : Heap) : List Obj → Heap
  | [] => h
  | o :: os => lay (h.push o) os
theorem lay_keep {c : Addr} {o : Obj} : ∀ {os : List Obj} {h : Heap}, h.get? c = some o → (lay h os).get? c = some o
  | [], _, e => e
  | p :: os, h, e => lay_keep (os := os) (h := h.push p) (Heap.get?_push_of_some _ e)
theorem lay_get {o : Obj} (f : o.isFreed = false) : ∀ {os : List Obj} {h : Heap} (k : Nat), os[k]? = some o → (lay h os).get? (h.objs.size + k) = some o
  | p :: os, h, 0, e => by cases e; exact lay_keep (os := os) (h := h.push o) (Heap.get?_push_size _ f)
  | p :: os, h, k + 1, e => by rw [show h.objs.size + (k + 1) = (h.push p).objs.size + k by rw [Heap.size_push]; lia]; exact lay_get (os := os) (h := h.push p) f k e
noncomputable def zipLaid (n : Nat) (t1 t2 : Addr) : List Obj := [{ cls := .type "tuple_iterator", data := .fields #[.ref t1, .int 0 0] }, { cls := .type "tuple_iterator", data := .fields #[.ref t2, .int 0 0] }, { cls := .type "tuple", data := .seq #[.ref n, .ref (n + 1)] },
  { cls := .type "tuple", data := .seq #[.none, .none] }, { cls := .type "zip", data := .fields #[.none, .bool false, .bool false, .ref (n + 2), .ref (n + 3)] }]
theorem zip_new (t1 t2 : Addr) (xs ys : Array Value) : PySem.Meets (Builtin.«zip.__new__» ⟨[.type "zip", .ref t1, .ref t2], []⟩) (fun zz R s => s.heap.IsTuple t1 xs ∧ s.heap.IsTuple t2 ys ∧
    R (.ok (.ret (.ref (s.heap.objs.size + 4)))) { s with heap := lay s.heap (zipLaid s.heap.objs.size t1 t2) }) :=
  .of_wp fun prog w A R s h => by
    have S := sub_zip
    have two := fun o => h.2.1.at (h' := s.heap.push o) fun zz e => Heap.get?_push_of_some _ e
    wp_walk using wpAny_pyIter_tuple h.1, wpAny_pyIter_tuple (two _)
    simp only [Heap.size_push]
    exact ⟨_, rfl, h.2.2⟩
section
variable {prog : Program} {w : World} {A : Around} {E : Value → Shared → Prop} {s : Shared}
theorem zipCall {t1 t2 : Addr} {xs ys : Array Value} {Q : Value → Shared → Prop} (ht1 : s.heap.IsTuple t1 xs) (ht2 : s.heap.IsTuple t2 ys)
    (h : ∀ h' n, n = s.heap.objs.size → ZipAt h' (n + 4) (n + 2) (n + 3) n (n + 1) t1 t2 .none xs ys 0 0 → (∀ c o, s.heap.get? c = some o → h'.get? c = some o) → Q (.ref (n + 4)) { s with heap := h' }) :
    wpAny (model prog w) A (call (.type "zip") [.ref t1, .ref t2]) Q E s := by
  refine callType_new F.called_zip (by decide) (F.typeCall_zip_2 _ _) (F.newCall_zip_2 _ _) (fun obj => F.args_object_init_3 obj _ _) F.entry_zip_new (zip_new t1 t2 xs ys) ⟨ht1, ht2, ⟨_, lay_get rfl 4 rfl, rfl⟩, ?_⟩
  exact h _ _ rfl ⟨lay_get rfl 4 rfl, lay_get rfl 2 rfl, ⟨_, _, lay_get rfl 3 rfl⟩, ⟨_, lay_get rfl 0 rfl, rfl, rfl⟩, ⟨_, lay_get rfl 1 rfl, rfl, rfl⟩, ht1.at fun zz => lay_keep, ht2.at fun zz => lay_keep⟩ fun zz zz => lay_keep
theorem apartZ {z TI TO i1 i2 t1 t2 : Addr} (D : ZipApart z TI TO i1 i2 t1 t2) : ∀ c ∈ [TI, TO, i1, i2, t1, t2], c ≠ z := by
  simp only [List.forall_mem_cons]
  exact ⟨D.TIz, D.TOz, D.i1z, D.i2z, D.l1z, D.l2z, nofun⟩
theorem zipWalk (hh : A.handled = none) (z TI TO i1 i2 t1 t2 : Addr) (D : ZipApart z TI TO i1 i2 t1 t2) (xs ys : Array Value) (hsz : xs.size = ys.size) :
    WalksU prog w A z [z, TI, TO, i1, i2, t1, t2] [z, TO, i1, i2] xs.size (fun i vals => ∃ x y, xs[i]? = some x ∧ ys[i]? = some y ∧ vals = #[x, y])
      (fun i h => ZipAt h z TI TO i1 i2 t1 t2 .none xs ys i i) (fun i T h => ZipAt h z TI TO i1 i2 t1 t2 (rawInt T) xs ys (i + 1) (i + 1) ∧ T ∉ [z, TO, i1, i2]) where
  sub := fun zz m => (List.Sublist.cons_cons z (.cons TI (.cons_cons TO (.cons_cons i1 (.cons_cons i2 (.cons t1 (.cons t2 .slnil))))))).subset m
  frame := fun zz h h' Z k => Z.keep (fun c hc => k c (.tail _ hc)) (k z (.head _) _ Z.z)
  item := fun i s Q E hi Z hQ => by
    have ty : s.TypeIs (.ref z) "zip" := ⟨_, Z.z, rfl⟩
    have new : s.heap.objs.size ∉ [z, TO, i1, i2] := by
      have fresh : ∀ {c o}, s.heap.get? c = some o → s.heap.objs.size ≠ c := fun q => Nat.ne_of_gt (Heap.lt_size q)
      simp only [List.mem_cons, List.not_mem_nil, or_false, not_or]
      exact ⟨fresh Z.z, fresh Z.TO.choose_spec.choose_spec, fresh Z.i1.choose_spec.1, fresh Z.i2.choose_spec.1⟩
    refine wpAny_bind (m := (callSpecial? (.ref z) "__next__").attempt) (wpAny_attempt (wpAny_callSpecial?_slot ty F.slot_zip_next (wpAny_call_entry F.slot_zip_next ty F.entry_zip_next (zipGives hh D Z (Array.getElem?_eq_getElem hi) (Array.getElem?_eq_getElem (hsz ▸ hi)) fun h' Z' p k => wpAny_pure ?_) (F.args_zip_next_1 _))))
    refine hQ _ _ h' s.toks ⟨_, _, Array.getElem?_eq_getElem hi, Array.getElem?_eq_getElem (hsz ▸ hi), rfl⟩ ⟨_, p, rfl, _, rfl⟩ ⟨Z', new⟩ fun c o n e => ?_
    simp only [List.mem_cons, List.not_mem_nil, or_false, not_or] at n
    exact k c o n.1 n.2.1 n.2.2.1 n.2.2.2 e
  go := fun elts k pos i T s Q E m hQ => wpAny_letOwnedTupleGo_zip m.1.z fun h' z' k' => hQ h' (m.1.keep (fun c hc o => k'.extBut c o (apartZ D c hc)) z') fun c o n e => k'.extBut _ _ (fun q => n (q ▸ .head _)) e
  apart := fun zz zz zz m => m.2
  done := fun s Q E Z hQ => by
    have ty : s.TypeIs (.ref z) "zip" := ⟨_, Z.z, rfl⟩
    refine wpAny_bind (m := (callSpecial? (.ref z) "__next__").attempt) (wpAny_attempt (wpAny_callSpecial?_slot ty F.slot_zip_next (wpAny_call_entry F.slot_zip_next ty F.entry_zip_next (zipEnds hh D Z (Array.getElem?_eq_none (Nat.le_refl _)) fun h' e k he => ?_) (F.args_zip_next_1 _))))
    refine wpAny_bind (wpAny_isInstance (T := "StopIteration") (b := true) he isSubtype_stop (wpAny_pure (hQ h' s.toks fun c o n q => ?_)))
    simp only [List.mem_cons, List.not_mem_nil, or_false, not_or] at n
    exact k c o n.1 n.2.2.1 q
  self := fun zz zz zz zz Z => wpAny_pyIter_zip Z.z
end
end
section
noncomputable def genScope : Scope := { kind := .function, names := [(".0", .local), ("i", .local), ("j", .local)], isGenerator := true, isCoroutine := false }
theorem passing_all (n : Nat) : passing (fun zz => true) n 0 = List.range n := by simp [passing]
section
variable {A : Around} {F : Fx} {ρ : Rho} {O : List (Str × Addr)} {s s₀ : Shared}
theorem codeGen (H : Base g) (w : Wd g s) {env : Env} {c P : Addr} {q : Str} {gp : Pos} {scope : Scope} {Q : Value → Shared → Prop} (hq : (c, P, q) ∈ g.tabs) (hcode : env.code = .ref c)
    (hQ : ∀ cv s', Pur g s s' → s'.heap.objs.size ≥ s.heap.objs.size → Q cv s') : wpAny g.M A (genexprCode env gp q scope) Q noE s := by
  obtain ⟨ps, hP, ht, hcs⟩ := w.tab _ hq
  have hP' : s.heap.get? P = some (tabObj ps) := hP
  have C : CodeHd s.heap c P := (H.hds _ hq).keeps w.keep
  cases hf : codeAmong gp ps.toList with
  | some cv => exact wpAny_genexprCode_hit hcode (C.code hP' ht) hf (hQ _ _ (Pur.refl w) (Nat.le_refl _))
  | none =>
    refine wpAny_genexprCodeX hcode (C.code hP' ht) (C.tab hP') hf fun c' h' tk hx hge hlt zz hrec htab zz => ?_
    exact hQ _ _ (Pur.table H w hq hP' ht hcs hx htab.2 hrec) (by show s.heap.objs.size ≤ h'.objs.size; lia)

theorem Ev.zipSum (H : Base g) (hA : AOk 1 A) {c P : Addr} {q : Str} {ea eb : Expr} {tp zp pi pj pp qi qj qp gp pos zpos : Pos} {kt : Nat} {xs ys : List Int} (hq : (c, P, q) ∈ g.tabs) (hcode : F.env.code = .ref c) (hqual : F.env.qual ++ "<genexpr>" = q)
    (h₁ : Ev g A F ρ ea (.tup (xs.map .int))) (h₂ : Ev g A F ρ eb (.tup (ys.map .int))) (hlen : xs.length = ys.length) (hz : xs.length ≤ 1000)
    (hxt : F.env.kindOf "tuple" = some .globalImplicit) (hxz : F.env.kindOf "zip" = some .globalImplicit) (hmt : nsIn g.K mainGlobals "tuple" = some Option.none) (hmz : nsIn g.K mainGlobals "zip" = some Option.none)
    (he : starEach [ea, eb] F.env = [(false, eval ea F.env), (false, eval eb F.env)]) (e2 : starEach [eb] F.env = [(false, eval eb F.env)]) :
    Ev g A F ρ (.Call (.Name "tuple" tp) [.GeneratorExp (.BinOp (.Name "i" pi) .Add (.Name "j" pj) pp) [⟨.Tuple [.Name "i" qi, .Name "j" qj] kt qp, .Call (.Name "zip" zp) [ea, eb] [] zpos, [], 0⟩] genScope gp] [] pos) (.tup ((xs.zip ys).map fun q => .int (q.1 + q.2))) := ⟨fun O s st => by
  subst hqual
  have hh := hA.hh
  refine Call_Name rfl (runQ ((EvV.buiK (v := .type "tuple") H hxt hmt (by kernel_rfl) (by decide)).run O s st) fun v s₁ p₁ r₁ => ?_)
  subst r₁
  have st₁ := st.step p₁
  refine PyProof.Rows.callWith_type1 ?_ (by rfl) (by rfl)
  refine Calls.spliced_cons ?_
  refine wpAny_GeneratorExp_walksQT (xa := "i") (xb := "j") hh rfl (closureFor_cells (scope := genScope) (fun n h => by simp [genScope] at h)) (by decide) (by rfl) (by rfl) (by rfl) (by decide) rfl hA.room ?_ (by intro _; rfl)
  refine Call_Name rfl (runQ ((EvV.buiK (v := .type "zip") H hxz hmz (by kernel_rfl) (by decide)).run O s₁ st₁) fun v s₂ p₂ r₂ => ?_)
  subst r₂
  have st₂ := st₁.step p₂
  have e1 : starEach (ea :: [eb]) F.env = (false, eval ea F.env) :: [(false, eval eb F.env)] := he
  refine PyProof.Rows.callWith_type1 ?_ (by rw [e1, e2]) (by rw [e2]; rfl)
  rw [e1]
  refine Calls.spliced_cons (runQ (h₁.run O s₂ st₂) fun v₁ s₃ p₃ r₃ => ?_)
  have st₃ := st₂.step p₃
  refine Calls.spliced_cons (runQ (h₂.run O s₃ st₃) fun v₂ s₄ p₄ r₄ => Calls.spliced_nil ?_)
  have st₄ := st₃.step p₄
  have r₃' := st₃.rep p₄ r₃
  cases r₃' using cT with
  | @tup t1 vs1 _ n1 hL1 hr1 =>
  cases r₄ using cT with
  | @tup t2 vs2 _ n2 hL2 hr2 =>
  have hv1 := hr1.length
  have hv2 := hr2.length
  rw [List.length_map] at hv1 hv2
  refine zipCall hL1 hL2 fun h' n hn Z hk => ?_
  have p₅ : Pur g s₄ { s₄ with heap := h' } := Pur.grow (t := s₄.toks) st₄.wd hk
  have hn0 : ∀ k, s₄.heap.get? (n + k) = Option.none := fun k => Heap.get?_none_of_le (by lia)
  have tlt1 : t1 < n := by rw [hn]; exact Heap.lt_size hL1.choose_spec.1
  have tlt2 : t2 < n := by rw [hn]; exact Heap.lt_size hL2.choose_spec.1
  have D := zipApart_new tlt1 tlt2
  have W := fun (A' : Around) (hA' : A'.handled = Option.none) => zipWalk (prog := g.prog) (w := g.w) hA' (n + 4) (n + 2) (n + 3) n (n + 1) t1 t2 D vs1.toArray vs2.toArray (by simp only [List.size_toArray]; lia)
  refine (W A hh).self 0 _ _ _ Z ?_
  refine ⟨H.glb.nolimit.keeps p₅.wd.keep, ?_⟩
  refine codeGen H p₅.wd hq hcode fun cv s₆ p₆ hsz => ?_
  have w₆ := p₆.wd
  refine ngI fun hNg => ?_
  obtain ⟨bm, ob, hb1, hb2, hb3, hb4, hb5, hb6, hb7⟩ := H.bm
  refine ngE hNg ?_
  refine wpAny_builtinsFor (m := g.mg) (by rw [st.glob]; exact H.glb.ng.keeps w₆.keep) hb1 hb2 (w₆.keep _ _ hb4) hb5 hb6 hb7 ?_
  have kTup : ∀ {a xs}, h'.IsTuple a xs → s₆.heap.IsTuple a xs := fun k => PySem.Heap.IsTuple.at k fun o e => p₆.keep _ o (fun q hq e' => tab_ne_obj p₅.wd (s := { s₄ with heap := h' }) (b := _) k.choose_spec.1 (by rw [k.choose_spec.2.1]; nofun) q hq e') e
  have kOld : ∀ b o, o.cls ≠ .none → h'.get? b = some o → s₆.heap.get? b = some o := fun b o hc e => p₆.keep b o (tab_ne_obj (s := { s₄ with heap := h' }) p₅.wd e hc) e
  have Z₆ : ZipAt s₆.heap (n + 4) (n + 2) (n + 3) n (n + 1) t1 t2 .none vs1.toArray vs2.toArray 0 0 := by
    refine ngI fun hNg => ?_
    obtain ⟨hz, hTI, ⟨a, b, hTO⟩, h1, h2, ht1, ht2⟩ := Z
    refine ngE hNg ?_
    refine ⟨kOld _ _ nofun hz, kOld _ _ nofun hTI, ⟨a, b, kOld _ _ nofun hTO⟩, ?_, ?_, kTup ht1, kTup ht2⟩
    · obtain ⟨o, e1, e2, e3⟩ := h1; exact ⟨o, kOld _ _ (by rw [e2]; nofun) e1, e2, e3⟩
    · obtain ⟨o, e1, e2, e3⟩ := h2; exact ⟨o, kOld _ _ (by rw [e2]; nofun) e1, e2, e3⟩
  have lt₆ : ∀ {a o}, s₆.heap.get? a = some o → a < s₆.heap.objs.size := fun e => Heap.lt_size e
  have i1lt : n < s₆.heap.objs.size := lt₆ Z₆.i1.choose_spec.1
  have i2lt : n + 1 < s₆.heap.objs.size := lt₆ Z₆.i2.choose_spec.1
  have TOlt : n + 3 < s₆.heap.objs.size := by obtain ⟨a, b, e⟩ := Z₆.TO; exact lt₆ e
  have zlt : n + 4 < s₆.heap.objs.size := lt₆ Z₆.z
  have TIlt : n + 2 < s₆.heap.objs.size := lt₆ Z₆.TI
  have cn : cStatics ∉ [n + 4, n + 3, n, n + 1] := fun hm => by
    have hc : cStatics < n := by
      rw [hn]
      refine ngI fun hNg => ?_
      obtain ⟨mc, hns, _⟩ := H.glb.nolimit.keeps st₄.wd.keep
      refine ngE hNg ?_
      refine ngI fun hNg => ?_
      obtain ⟨o, es, ep, ho, _⟩ := hns
      refine ngE hNg ?_
      exact Heap.lt_size ho
    simp only [List.mem_cons, List.not_mem_nil, or_false] at hm
    rcases hm with h | h | h | h <;> rw [h] at hc
    · exact Nat.not_lt.mpr (Nat.le_add_right n 4) hc
    · exact Nat.not_lt.mpr (Nat.le_add_right n 3) hc
    · exact Nat.not_lt.mpr (Nat.le_add_right n 0) hc
    · exact Nat.not_lt.mpr (Nat.le_add_right n 1) hc
  have hInts : ∀ (zs : List Int) (vs : List Value) (h : Heap) (U : Addr → Prop), Reps g h U (zs.map V.int) vs → ∀ i x, vs.toArray[i]? = some x → ∃ a t, zs[i]? = some a ∧ x = Value.int a t := fun zs vs h U r i x e => by
    refine ngI fun hNg => ?_
    obtain ⟨d, hd, rd⟩ := r.get (i := i) (v := x) (by rw [List.getElem?_toArray] at e; exact e)
    refine ngE hNg ?_
    rw [List.getElem?_map] at hd
    cases hz : zs[i]? with
    | none => rw [hz] at hd; cases hd
    | some a => rw [hz] at hd; cases hd; cases rd using cI; exact ⟨a, _, hz, rfl⟩
  refine ⟨n + 4, [n + 4, n + 2, n + 3, n, n + 1, t1, t2], [n + 4, n + 3, n, n + 1], vs1.toArray.size, _, _, _, fun zz => true, fun i y => ∃ a b t, xs[i]? = some a ∧ ys[i]? = some b ∧ y = .int (a + b) t, rfl, W, (fun i vals hv => by obtain ⟨x, y, _, _, e⟩ := hv; exact ⟨x, y, e⟩), Z₆, ?_, H.glb.nolimit.keeps w₆.keep, cn, ?_, ?_⟩
  · intro b hb
    simp only [List.mem_cons, List.not_mem_nil, or_false] at hb
    rcases hb with rfl | rfl | rfl | rfl | rfl | rfl | rfl
    · exact zlt
    · exact TIlt
    · exact TOlt
    · exact i1lt
    · exact i2lt
    · exact Nat.lt_trans tlt1 i1lt
    · exact Nat.lt_trans tlt2 i1lt
  · intro href hhref
    constructor
    · intro A' E' i va vb s₂' m₂ hA' hP hns hma hmb hkp
      rw [List.forIn_nil]
      exact wpAny_pure ⟨rfl, s₂'.heap, s₂'.toks, rfl, fun zz zz e => e⟩
    · intro A' E' i va vb s₂' m₂ hA' hP _ hns hma hmb hkp
      refine ngI fun hNg => ?_
      obtain ⟨x, y, hx, hy, e⟩ := hP
      refine ngE hNg ?_
      obtain ⟨e1, e2⟩ : va = x ∧ vb = y := by simpa using congrArg Array.toList e
      subst e1 e2
      refine ngI fun hNg => ?_
      obtain ⟨a, ta, ha, rfl⟩ := hInts _ _ _ _ hr1 i va hx
      refine ngE hNg ?_
      refine ngI fun hNg => ?_
      obtain ⟨b, tb, hb, rfl⟩ := hInts _ _ _ _ hr2 i vb hy
      refine ngE hNg ?_
      refine wpAny_BinOp (wpAny_Name (wpAny_loadName_local rfl (by rfl) hns hma (wpAny_Name (wpAny_loadName_local rfl (by rfl) hns hmb ?_) (by decide))) (by decide))
      with_reducible refine wpAny_add_int ?_
      exact ⟨⟨a, b, _, ha, hb, rfl⟩, _, _, rfl, fun zz zz e => e⟩
  · intro a h₅ tk gs hgb hag hsz₅ hk₅ WS hat
    refine Calls.spliced_nil ?_
    have fr4 : ∀ {b o}, s₄.heap.get? b = some o → b < n := fun e => by rw [hn]; exact Heap.lt_size e
    refine call_tuple_gen WS.in4_3 (fun i s' h => h.1.typeIs) hat (fun b hb => ?_) (List.mem_cons_self ..) (fun s₈ acc hm hacc => ?_) ?_
    · rw [show ({ s₆ with gens := s₆.gens.push gs, toks := tk, heap := h₅ } : Shared).heap.objs.size = a + 1 from hsz₅]
      rcases List.mem_cons.mp hb with rfl | hb
      · exact Nat.lt_succ_self _
      · rcases List.mem_cons.mp hb with rfl | hb
        · exact Nat.lt_succ_of_lt hag
        · exact Nat.lt_succ_of_lt (Nat.lt_trans (List.mem_range.mp hb) hag)
    · rw [passing_all] at hacc
      have keepA : ∀ b o, b < n → s₆.heap.get? b = some o → s₈.heap.get? b = some o := fun b o hb e => by
        refine hm.heap b o (fun hmem => ?_) (hk₅ b o e)
        rcases List.mem_cons.mp hmem with h | h
        · rw [h] at hb; exact absurd (Nat.lt_trans i1lt hb) (Nat.lt_irrefl _)
        · simp only [List.mem_cons, List.not_mem_nil, or_false] at h
          rcases h with h | h | h | h <;> rw [h] at hb
          · exact Nat.not_lt.mpr (Nat.le_add_right n 4) hb
          · exact Nat.not_lt.mpr (Nat.le_add_right n 3) hb
          · exact Nat.not_lt.mpr (Nat.le_add_right n 0) hb
          · exact Nat.not_lt.mpr (Nat.le_add_right n 1) hb
      have pEnd : Pur g s₄ { s₈ with heap := s₈.heap.push { cls := .type "tuple", data := .seq acc } } := by
        have kB : ∀ b o, g.B.get? b = some o → (s₈.heap.push { cls := .type "tuple", data := .seq acc }).get? b = some o := fun b o e => Heap.get?_push_of_some _ (keepA b o (fr4 (st₄.wd.keep _ _ e)) (w₆.keep _ _ e))
        refine ⟨fun b o hnt e => Heap.get?_push_of_some _ (keepA b o (fr4 e) (p₆.keep _ _ hnt (hk _ _ e))), kB, fun r hr => ?_, ?_, ?_⟩
        · obtain ⟨ps, h1, h2, h3⟩ := w₆.tab r hr
          have rlt : r.2.1 < n := by
            refine ngI fun hNg => ?_
            obtain ⟨ps', h1', _⟩ := st₄.wd.tab r hr
            refine ngE hNg ?_
            exact fr4 h1'
          refine ⟨ps, Heap.get?_push_of_some _ (keepA _ _ rlt h1), h2, fun pos y e => ?_⟩
          refine ngI fun hNg => ?_
          obtain ⟨b', o', vs', tt, e1, e2, e3, e4⟩ := h3 pos y e
          refine ngE hNg ?_
          refine ⟨b', o', vs', tt, e1, Heap.get?_push_of_some _ (hm.heap b' o' (fun hmem => ?_) (hk₅ b' o' e2)), e3, e4⟩
          rcases List.mem_cons.mp hmem with h | h
          · rw [h] at e2; exact absurd (lt₆ e2) (Nat.lt_irrefl _)
          · simp only [List.mem_cons, List.not_mem_nil, or_false] at h
            rcases h with h | h | h | h <;> rw [h] at e2
            · rw [Z₆.z] at e2; cases e2; cases e3; simp at e4
            · obtain ⟨x, y, e⟩ := Z₆.TO
              rw [e] at e2; cases e2; cases e3
            · obtain ⟨o, f1, f2, f3⟩ := Z₆.i1
              rw [f1] at e2; cases e2; rw [f3] at e3; cases e3; simp at e4
            · obtain ⟨o, f1, f2, f3⟩ := Z₆.i2
              rw [f1] at e2; cases e2; rw [f3] at e3; cases e3; simp at e4
        · have hab : AllBare s₈.gens := AllBare.movedS (s := { s₆ with gens := s₆.gens.push gs, toks := tk, heap := h₅ }) (s' := s₈) (w₆.gens.push hgb) hm
          exact hab
        · exact hm.os.trans w₆.os
      refine ⟨(((p₁.trans p₂).trans p₃).trans p₄).trans pEnd, ?_⟩
      have hfr : s₄.heap.get? s₈.heap.objs.size = Option.none := by
        cases q : s₄.heap.get? s₈.heap.objs.size with
        | none => rfl
        | some o =>
          refine ngI fun hNg => ?_
          obtain ⟨o', e'⟩ := pEnd.live ⟨o, q⟩
          refine ngE hNg ?_
          by_cases ht : ∃ q ∈ g.tabs, q.2.1 = s₈.heap.objs.size
          · obtain ⟨r, hr, e⟩ := ht
            refine ngI fun hNg => ?_
            obtain ⟨ps, h1, _⟩ := st₄.wd.tab r hr
            refine ngE hNg ?_
            refine ngI fun hNg => ?_
            obtain ⟨ps', h1', _⟩ := w₆.tab r hr
            refine ngE hNg ?_
            have := keepA _ _ (fr4 h1) h1'
            rw [e] at this
            exact absurd (Heap.lt_size this) (Nat.lt_irrefl _)
          · have hlt := keepA _ _ (fr4 q) (p₆.keep _ _ (fun r hr e => ht ⟨r, hr, e⟩) (hk _ _ q))
            exact absurd (Heap.lt_size hlt) (Nat.lt_irrefl _)
      refine .tup (vs := acc.toList) (st₄.fresh hfr) ⟨_, Heap.get?_push_size _ rfl, rfl, 0, by simp⟩ ?_
      have hal : acc.toList.length = xs.length := by rw [Array.length_toList, hacc.1, List.length_range, List.size_toArray]; lia
      refine reps_of_get (by rw [hal, List.length_map, List.length_zip]; lia) fun j d v h1 h2 => ?_
      have h2' : acc[j]? = some v := by rw [← Array.getElem?_toList]; exact h2
      refine ngI fun hNg => ?_
      obtain ⟨i, hi, a', b', t', ha, hb, rfl⟩ := hacc.2 j v h2'
      refine ngE hNg ?_
      have hij : i = j := by
        refine ngI fun hNg => ?_
        obtain ⟨hlt, e⟩ := List.getElem?_eq_some_iff.mp hi
        refine ngE hNg ?_
        rw [List.getElem_range] at e
        exact e.symm
      subst hij
      have hzz : (xs.zip ys)[i]? = some (a', b') := List.getElem?_zip_eq_some.mpr ⟨ha, hb⟩
      rw [List.getElem?_map, hzz] at h1
      cases h1
      exact .int _ _
    · rw [passing_all, List.length_range, List.size_toArray, sizeLine_eq]; lia⟩
end
end
section
section
variable {A : Around} {F : Fx} {ρ : Rho} {O : List (Str × Addr)} {s s₀ : Shared} {Q : Res → Prop} {rest : List Stmt}
noncomputable def Joins (ρ₁ : Rho) : Res → Prop
  | .next ρ' => ∀ p ∈ ρ₁, p ∈ ρ'
  | .ret _ => False
theorem X.ifJoin {t body orelse pos b} (ρ₁ : Rho) (h : Tr g A F ρ t b) (h₁ : b = true → X g A F ρ body (Joins ρ₁)) (h₂ : b = false → X g A F ρ orelse (Joins ρ₁)) (k : X g A F ρ₁ rest Q) : X g A F ρ (.If t body orelse pos :: rest) Q :=
  .ifS h (fun e => (h₁ e).mono fun r hr => match r, hr with | .next _, hr => X.sub hr k) fun e => (h₂ e).mono fun r hr => match r, hr with | .next _, hr => X.sub hr k
theorem pick_to {xs : List V} (b : Int) (h : 0 ≤ b) : pick none (some b) xs = xs.take b.toNat := by
  unfold pick
  have e1 : kms_lo none xs.length = 0 := rfl
  have e2 : kms_hi (some b) xs.length = min b.toNat xs.length := by
    show (if b < 0 then _ else min b.toNat xs.length) = _
    rw [if_neg (by lia)]
  rw [e1, e2, List.drop_zero, Nat.sub_zero]
  rcases Nat.le_total b.toNat xs.length with h | h
  · rw [Nat.min_eq_left h]
  · rw [Nat.min_eq_right h, List.take_of_length_le (Nat.le_refl _), List.take_of_length_le h]
theorem pick_from {xs : List V} (a : Int) (h : 0 ≤ a) : pick (some a) none xs = xs.drop a.toNat := by
  unfold pick
  have e1 : kms_hi none xs.length = xs.length := rfl
  have e2 : kms_lo (some a) xs.length = min a.toNat xs.length := by
    show (if a < 0 then _ else min a.toNat xs.length) = _
    rw [if_neg (by lia)]
  rw [e1, e2]
  rcases Nat.le_total a.toNat xs.length with h | h
  · rw [Nat.min_eq_left h, List.take_of_length_le (by rw [List.length_drop]; lia)]
  · rw [Nat.min_eq_right h, List.drop_of_length_le (Nat.le_refl _), List.drop_of_length_le h, List.take_nil]
theorem Ev.menuT {e i pos xs j} (h₁ : Ev g A F ρ e (.tup xs)) (h₂ : Ev g A F ρ i (.int j)) (h0 : 0 ≤ j) (h1 : j.toNat < xs.length) (hz : j < 1000) (hs : ∀ o v, subscripted i false o v = operate [o, v] (getItem o v)) : Ev g A F ρ (.Subscript e i pos) (xs.getD j.toNat .none) :=
  .itemT h₁ h₂ h0 (by rw [List.getD_eq_getElem?_getD, List.getElem?_eq_getElem h1]; rfl) (by lia) hs
theorem Ev.menuL {e i pos xs j} (h₁ : Ev g A F ρ e (.lst xs)) (h₂ : Ev g A F ρ i (.int j)) (h0 : 0 ≤ j) (h1 : j.toNat < xs.length) (hz : j < 1000) (hs : ∀ o v, subscripted i false o v = operate [o, v] (getItem o v)) : Ev g A F ρ (.Subscript e i pos) (xs.getD j.toNat .none) :=
  .item h₁ h₂ h0 (by rw [List.getD_eq_getElem?_getD, List.getElem?_eq_getElem h1]; rfl) (by lia) hs
theorem fmod_in (a : Int) {b : Int} (hb : 0 < b) : 0 ≤ a.fmod b ∧ a.fmod b < b := ⟨Int.fmod_nonneg_of_pos _ hb, Int.fmod_lt_of_pos _ hb⟩
theorem getD_map {α β : Type} (f : α → β) (xs : List α) (k : Nat) (d : β) (d' : α) (h : k < xs.length) : (xs.map f).getD k d = f (xs.getD k d') := by
  rw [List.getD_eq_getElem?_getD, List.getD_eq_getElem?_getD, List.getElem?_map, List.getElem?_eq_getElem h]; rfl
end
end
section
inductive Runs (lt : Nat → Nat → Bool) (n : Nat) {α : Type} : KasT α → α → Prop
  | ret (a : α) : Runs lt n (.ret a) a
  | ask {i j : Nat} {k : Bool → KasT α} {a : α} : i < n → j < n → Runs lt n (k (lt i j)) a → Runs lt n (.ask i j k) a
theorem Runs.wp {lt : Nat → Nat → Bool} {n : Nat} {α : Type} {t : KasT α} {a : α} (h : Runs lt n t a) {cmp : Nat → Nat → (Bool → Shared → Prop) → Shared → Prop} {I : Shared → Prop} (hc : ∀ i j s C, i < n → j < n → I s → (∀ s', I s' → C (lt i j) s') → cmp i j C s) {Q : α → Shared → Prop} :
    ∀ {s : Shared}, I s → (∀ s', I s' → Q a s') → t.kasWp cmp Q s := by
  induction h with
  | ret a => intro s hI hQ; exact hQ s hI
  | ask h1 h2 _ ih => intro s hI hQ; exact hc _ _ s _ h1 h2 hI fun s' hI' => ih hI' hQ

structure LtOk (lt : Nat → Nat → Bool) : Prop where
  as : ∀ a b, lt a b = true → lt b a = false
  tr : ∀ a b c, lt b a = false → lt c b = false → lt c a = false
noncomputable def sl (lt : Nat → Nat → Bool) (a b : Nat) : Prop := lt a b = true ∨ (lt b a = false ∧ a < b)
noncomputable abbrev Fct := List (Nat × Nat × Bool)
noncomputable def leF (F : Fct) : Nat → Nat → Nat → Bool
  | 0, a, b => Nat.beq a b
  | k + 1, a, b => F.any fun f => match f.2.2 with
    | true => Nat.beq f.1 a && leF F k f.2.1 b
    | false => Nat.beq f.2.1 a && leF F k f.1 b
noncomputable def stF (F : Fct) : Nat → Nat → Nat → Bool
  | 0, _, _ => false
  | k + 1, a, b => F.any fun f => match f.2.2 with
    | true => Nat.beq f.1 a && leF F k f.2.1 b
    | false => Nat.beq f.2.1 a && stF F k f.1 b
noncomputable def slF (F : Fct) (a b : Nat) : Nat → Bool
  | 0 => false
  | k + 1 => slF F a b k || (stF F (k + 1) a b || (Nat.blt a b && leF F (k + 1) a b))
noncomputable def adjF (F : Fct) (n : Nat) : List Nat → Bool
  | a :: b :: l => slF F a b n && adjF F n (b :: l)
  | _ => true
noncomputable def chk (n : Nat) : KasT (Array Nat) → Fct → Bool
  | .ret p, F => p.toList.isPerm (List.range n) && adjF F n p.toList
  | .ask i j k, F => Nat.blt i n && (Nat.blt j n && (chk n (k true) ((i, j, true) :: F) && chk n (k false) ((i, j, false) :: F)))
noncomputable def chkTop (n : Nat) : Nat → KasT (Array Nat) → Bool
  | d + 1, .ask i j k => Nat.blt i n && (Nat.blt j n && (chkTop n d (k true) && chkTop n d (k false)))
  | _, _ => true
noncomputable def dn : List Bool → KasT (Array Nat) → Fct → KasT (Array Nat) × Fct
  | b :: bs, .ask i j k, F => dn bs (k b) ((i, j, b) :: F)
  | _, t, F => (t, F)
noncomputable def chkAt (n : Nat) (bs : List Bool) (t : KasT (Array Nat)) (F : Fct) : Bool := chk n (dn bs t F).1 (dn bs t F).2
theorem chk_dn {n : Nat} : ∀ {d : Nat} {t : KasT (Array Nat)} {F : Fct}, chkTop n d t = true → (∀ bs : List Bool, bs.length = d → chkAt n bs t F = true) → chk n t F = true
  | 0, t, F, _, h => h [] rfl
  | d + 1, .ret p, F, _, h => h (List.replicate (d + 1) true) (List.length_replicate ..)
  | d + 1, .ask i j k, F, h1, h => by
    rw [chkTop, Bool.and_eq_true, Bool.and_eq_true, Bool.and_eq_true] at h1
    rw [chk, Bool.and_eq_true, Bool.and_eq_true, Bool.and_eq_true]
    exact ⟨h1.1, h1.2.1, chk_dn h1.2.2.1 fun bs e => h (true :: bs) (congrArg Nat.succ e), chk_dn h1.2.2.2 fun bs e => h (false :: bs) (congrArg Nat.succ e)⟩
noncomputable def Holds (lt : Nat → Nat → Bool) (F : Fct) : Prop := ∀ f ∈ F, lt f.1 f.2.1 = f.2.2
section
variable {lt : Nat → Nat → Bool} (L : LtOk lt) {F : Fct}
include L
theorem lt_le {a b c : Nat} (h : lt a b = true) (k : lt c b = false) : lt a c = true := by
  cases e : lt a c with
  | true => rfl
  | false => rw [L.tr b c a k e] at h; cases h
theorem le_lt {a b c : Nat} (h : lt b a = false) (k : lt b c = true) : lt a c = true := by
  cases e : lt a c with
  | true => rfl
  | false => rw [L.tr c a b e h] at k; cases k
theorem sl_tr {a b c : Nat} (h : sl lt a b) (k : sl lt b c) : sl lt a c := by
  rcases h with h | ⟨h, h'⟩ <;> rcases k with k | ⟨k, k'⟩
  · exact .inl (lt_le L h (L.as _ _ k))
  · exact .inl (lt_le L h k)
  · exact .inl (le_lt L h k)
  · exact .inr ⟨L.tr _ _ _ h k, Nat.lt_trans h' k'⟩
variable (hF : Holds lt F)
include hF
theorem leF_ok : ∀ {k a b : Nat}, leF F k a b = true → lt b a = false
  | 0, a, b, h => by
    rw [← Nat.eq_of_beq_eq_true h]
    cases e : lt a a with
    | false => rfl
    | true => rw [L.as _ _ e] at e; cases e
  | k + 1, a, b, h => by
    obtain ⟨⟨i, j, v⟩, hf, e⟩ := List.any_eq_true.mp h
    have hv := hF _ hf
    cases v with
    | true =>
      have e := Bool.and_eq_true_iff.mp e
      have e1 : i = a := Nat.eq_of_beq_eq_true e.1
      subst e1
      exact L.tr _ _ _ (L.as _ _ hv) (leF_ok e.2)
    | false =>
      have e := Bool.and_eq_true_iff.mp e
      have e1 : j = a := Nat.eq_of_beq_eq_true e.1
      subst e1
      exact L.tr _ _ _ hv (leF_ok e.2)
theorem stF_ok : ∀ {k a b : Nat}, stF F k a b = true → lt a b = true
  | 0, _, _, h => by cases h
  | k + 1, a, b, h => by
    obtain ⟨⟨i, j, v⟩, hf, e⟩ := List.any_eq_true.mp h
    have hv := hF _ hf
    cases v with
    | true =>
      have e := Bool.and_eq_true_iff.mp e
      have e1 : i = a := Nat.eq_of_beq_eq_true e.1
      subst e1
      exact lt_le L hv (leF_ok L hF e.2)
    | false =>
      have e := Bool.and_eq_true_iff.mp e
      have e1 : j = a := Nat.eq_of_beq_eq_true e.1
      subst e1
      exact le_lt L hv (stF_ok e.2)
theorem slF_ok {a b : Nat} : ∀ {k : Nat}, slF F a b k = true → sl lt a b
  | 0, h => by cases h
  | k + 1, h => by
    rcases Bool.or_eq_true_iff.mp h with h | h
    · exact slF_ok h
    · rcases Bool.or_eq_true_iff.mp h with h | h
      · exact .inl (stF_ok L hF h)
      · have h := Bool.and_eq_true_iff.mp h
        exact .inr ⟨leF_ok L hF h.2, Nat.blt_eq.mp h.1⟩
theorem adjF_ok {n : Nat} : ∀ {l : List Nat}, adjF F n l = true → l.Pairwise (sl lt)
  | [], _ => .nil
  | [a], _ => List.pairwise_singleton ..
  | a :: b :: l, h => by
    have h := Bool.and_eq_true_iff.mp h
    have ih := adjF_ok h.2
    have hab := slF_ok L hF h.1
    refine List.pairwise_cons.mpr ⟨fun c hc => ?_, ih⟩
    rcases List.mem_cons.mp hc with e | hc
    · rw [e]; exact hab
    · exact sl_tr L hab ((List.pairwise_cons.mp ih).1 c hc)
end
theorem chk_ok {lt : Nat → Nat → Bool} (L : LtOk lt) {n : Nat} : ∀ {t : KasT (Array Nat)} {F : Fct}, Holds lt F → chk n t F = true → ∃ p, Runs lt n t p ∧ p.toList.Perm (List.range n) ∧ p.toList.Pairwise (sl lt)
  | .ret p, F, hF, h => by
    have h := Bool.and_eq_true_iff.mp h
    exact ⟨p, .ret p, List.isPerm_iff.mp h.1, adjF_ok L hF h.2⟩
  | .ask i j k, F, hF, h => by
    rw [chk, Bool.and_eq_true, Bool.and_eq_true, Bool.and_eq_true] at h
    have hi := Nat.blt_eq.mp h.1
    have hj := Nat.blt_eq.mp h.2.1
    have next : ∀ {b}, lt i j = b → Holds lt ((i, j, b) :: F) := fun e f hf => by
      rcases List.mem_cons.mp hf with q | hf
      · rw [q]; exact e
      · exact hF f hf
    cases e : lt i j with
    | true =>
      obtain ⟨p, r, q⟩ := chk_ok L (next e) h.2.2.1
      exact ⟨p, .ask hi hj (by rw [e]; exact r), q⟩
    | false =>
      obtain ⟨p, r, q⟩ := chk_ok L (next e) h.2.2.2
      exact ⟨p, .ask hi hj (by rw [e]; exact r), q⟩
theorem chk1 : chk 1 (kas_sort 1) [] = true := by decide +kernel
theorem chk2 : chk 2 (kas_sort 2) [] = true := by decide +kernel
theorem chk3 : chk 3 (kas_sort 3) [] = true := by decide +kernel
theorem chk4 : chk 4 (kas_sort 4) [] = true := by decide +kernel
theorem chk5 : chk 5 (kas_sort 5) [] = true := by decide +kernel
theorem top6 : chkTop 6 3 (kas_sort 6) = true := by decide +kernel
theorem c6n0 : chkAt 6 [true, true, true] (kas_sort 6) [] = true := by decide +kernel
theorem c6n1 : chkAt 6 [true, true, false] (kas_sort 6) [] = true := by decide +kernel
theorem c6n2 : chkAt 6 [true, false, true] (kas_sort 6) [] = true := by decide +kernel
theorem c6n3 : chkAt 6 [true, false, false] (kas_sort 6) [] = true := by decide +kernel
theorem c6n4 : chkAt 6 [false, true, true] (kas_sort 6) [] = true := by decide +kernel
theorem c6n5 : chkAt 6 [false, true, false] (kas_sort 6) [] = true := by decide +kernel
theorem c6n6 : chkAt 6 [false, false, true] (kas_sort 6) [] = true := by decide +kernel
theorem c6n7 : chkAt 6 [false, false, false] (kas_sort 6) [] = true := by decide +kernel
theorem bits3 {P : List Bool → Prop} (h0 : P [true, true, true]) (h1 : P [true, true, false]) (h2 : P [true, false, true]) (h3 : P [true, false, false]) (h4 : P [false, true, true]) (h5 : P [false, true, false]) (h6 : P [false, false, true]) (h7 : P [false, false, false]) : ∀ bs : List Bool, bs.length = 3 → P bs
  | [a, b, c], _ => by cases a <;> cases b <;> cases c <;> assumption
theorem chk6 : chk 6 (kas_sort 6) [] = true := chk_dn top6 (bits3 c6n0 c6n1 c6n2 c6n3 c6n4 c6n5 c6n6 c6n7)
theorem run_sort {lt : Nat → Nat → Bool} {n : Nat} (L : LtOk lt) (hn : 1 ≤ n) (h6 : n ≤ 6) : ∃ p, Runs lt n (kas_sort n) p ∧ p.toList.Perm (List.range n) ∧ p.toList.Pairwise (sl lt) := by
  refine chk_ok L (F := []) (fun f hf => nomatch hf) ?_
  rcases Nat.eq_or_lt_of_le h6 with rfl | h
  · exact chk6
  rcases Nat.eq_or_lt_of_le (Nat.le_of_lt_succ h) with rfl | h
  · exact chk5
  rcases Nat.eq_or_lt_of_le (Nat.le_of_lt_succ h) with rfl | h
  · exact chk4
  rcases Nat.eq_or_lt_of_le (Nat.le_of_lt_succ h) with rfl | h
  · exact chk3
  rcases Nat.eq_or_lt_of_le (Nat.le_of_lt_succ h) with rfl | h
  · exact chk2
  rcases Nat.eq_or_lt_of_le (Nat.le_of_lt_succ h) with rfl | h
  · exact chk1
  exact absurd hn (Nat.not_le_of_lt h)
end
section
section
variable {A : Around} {E : Value → Shared → Prop} {s s₁ : Shared}
theorem Pur.touchNew (w : Wd g s) (p : Pur g s s₁) {D : Addr} (hD : s.heap.get? D = none) {h' : Heap} {t : Nat} (hs : Heap.ExtBut D s₁.heap h') (hd : ∀ o, s₁.heap.get? D = some o → NoCode o) : Pur g s { s₁ with heap := h', toks := t } := by
  have hB : g.B.get? D = none := by
    cases q : g.B.get? D with
    | none => rfl
    | some o => rw [w.keep _ _ q] at hD; cases hD
  have hT : ∀ q ∈ g.tabs, q.2.1 ≠ D := fun q hq e => by
    obtain ⟨ps, hp, _⟩ := w.tab q hq
    rw [e, hD] at hp; cases hp
  exact ⟨fun b o n e => hs b o (fun q => by rw [q, hD] at e; cases e) (p.keep b o n e), p.wd.touch hs hB hT fun c q x => codeRec_touch hs hd x⟩
theorem noCodeSeq {c : String} {xs : Array Value} {n : Nat} : NoCode (seqObj c xs n) := fun vs e => by cases e
theorem sortCore {ks vs : List Value} {lt : Nat → Nat → Bool} (L : LtOk lt) (hl : ks.length = vs.length) (h2 : 2 ≤ vs.length) (h64 : vs.length ≤ 6) {κ : SortKind} (I : Shared → Prop)
    (hask : ∀ i j x y s', ks[i]? = some x → ks[j]? = some y → I s' → wpAny g.M A (keyLt' κ x y) (fun b s'' => b = lt i j ∧ I s'') noE s') (hI : I s) :
    wpAny g.M A ((sortRuns').run (SortSt.mk' κ (ks.toArray.zip vs.toArray) #[] 7 none)) (fun r s' => ∃ p : List Nat, p.Perm (List.range vs.length) ∧ p.Pairwise (sl lt) ∧ (arrOf r.2).map (·.2) = List.toArray (p.map fun i => vs.getD i Value.none) ∧ failedOf r.2 = none ∧ I s') E s := by
  refine ngI fun hNg => ?_
  obtain ⟨p, hr, hp, hs⟩ := run_sort (n := vs.length) L (by omega) h64
  refine ngE hNg ?_
  refine kat_run (Q := fun st s' => ∃ p : List Nat, p.Perm (List.range vs.length) ∧ p.Pairwise (sl lt) ∧ (arrOf st).map (·.2) = List.toArray (p.map fun i => vs.getD i Value.none) ∧ failedOf st = none ∧ I s') (G := fun p' s' => p' = p ∧ I s') hl h2 (Nat.lt_of_le_of_lt h64 (by decide)) (fun p' st' s' e1 e2 e3 h => ?_) (hr.wp (I := I) (fun i j s C hi hj hI hC => ?_) hI fun s' h => ⟨rfl, h⟩)
  · obtain ⟨rfl, hI'⟩ := h
    exact ⟨p'.toList, hp, hs, kat_snds hl e2, e3, hI'⟩
  · have e1 : ks[i]? = some (ks.getD i Value.none) := by rw [List.getD_eq_getElem?_getD, List.getElem?_eq_getElem (by omega)]; rfl
    have e2 : ks[j]? = some (ks.getD j Value.none) := by rw [List.getD_eq_getElem?_getD, List.getElem?_eq_getElem (by omega)]; rfl
    exact wpAny_mono (hask i j _ _ s e1 e2 hI) (fun b s' hb => by obtain ⟨rfl, h⟩ := hb; exact hC s' h) fun zz zz x => x

theorem range_pick (vs : List Value) : ((List.range vs.length).map fun i => vs.getD i Value.none) = vs := by
  refine List.ext_getElem (by simp) fun i h1 h2 => ?_
  simp [List.getD_eq_getElem?_getD, h2]
noncomputable def SortedTo' (g : G) (s : Shared) (vs : List Value) (lt : Nat → Nat → Bool) (v : Value) (s' : Shared) : Prop :=
  ∃ (D : Addr) (p : List Nat), v = .ref D ∧ Pur g s s' ∧ s.heap.get? D = none ∧ p.Perm (List.range vs.length) ∧ p.Pairwise (sl lt) ∧ s'.heap.PlainList D (List.toArray (p.map fun i => vs.getD i Value.none))
theorem sortedFrom {kw : List (Str × Value)} {a : Addr} {P : List Value → Prop} {Q : Value → Shared → Prop} (w : Wd g s) (ha1 : argsOk "sorted" ⟨[.ref a], kw⟩) (ha2 : ∀ x : Addr, argsOk "list.sort" ⟨[.ref x], kw⟩) (hP : ∀ vs, P vs → vs.length ≤ 6)
    (hc : ∀ R : List Value → Shared → Prop, (∀ vs h' tk, P vs → (∀ b o, s.heap.get? b = some o → h'.get? b = some o) → R vs { s with heap := h', toks := tk }) → wpAny g.M A.in1 (collect (.ref a)) R noE s)
    (h : ∀ D s₁ vs, P vs → Pur g s s₁ → s.heap.get? D = none → s₁.heap.get? D = some (seqObj "list" vs.toArray 0) → wpAny g.M A.in1.in1 (Builtin.«list.sort» ⟨[.ref D], kw⟩) (fun fin s' => ∃ v, fin = .done (.ret v) ∧ Q (.ref D) s') noE s₁) :
    wpAny g.M A (call (.builtin "sorted") [.ref a] kw) Q noE s := by
  refine call_function_entry_kw kind_sorted plain_sorted entry_sorted ha1 (wpAny_bind (m := checkCount "sorted" 1 1 _) (wpAny_pure (wpAny_bind (hc _ fun vs h' tk pv up => ?_))))
  refine wpAny_bind (wpAny_newList ?_ (Nat.le_trans (hP vs pv) (by rw [sizeLine_eq]; decide)))
  have there : (h'.push (seqObj "list" vs.toArray 0)).get? h'.objs.size = some (seqObj "list" vs.toArray 0) := Heap.get?_push_size _ rfl
  have was : s.heap.get? h'.objs.size = none := Option.eq_none_iff_forall_ne_some.mpr fun o q => Nat.lt_irrefl _ (Heap.lt_size (up _ o q))
  refine wpAny_bind (wpAny_holding (wpAny_call_entry_kw slot_list_sort ⟨_, there, rfl⟩ entry_list_sort (wpAny_mono (h _ _ vs pv (Pur.grow w fun b o q => Heap.get?_push_of_some _ (up b o q)) was there) (fun fin s' d => ?_) fun zz zz x => x.elim) (ha2 _)))
  exact ⟨_, d.choose_spec.1, wpAny_pure ⟨_, rfl, d.choose_spec.2⟩⟩
theorem sortedStart {kw : List (Str × Value)} {l : Addr} {vs : List Value} {Q : Value → Shared → Prop} (w : Wd g s) (hl : s.heap.IsList l vs.toArray) (h64 : vs.length ≤ 6) (ha1 : argsOk "sorted" ⟨[.ref l], kw⟩) (ha2 : ∀ x : Addr, argsOk "list.sort" ⟨[.ref x], kw⟩)
    (h : ∀ D s₁, Pur g s s₁ → s.heap.get? D = none → s₁.heap.get? D = some (seqObj "list" vs.toArray 0) → wpAny g.M A.in1.in1 (Builtin.«list.sort» ⟨[.ref D], kw⟩) (fun fin s' => ∃ v, fin = .done (.ret v) ∧ Q (.ref D) s') noE s₁) :
    wpAny g.M A (call (.builtin "sorted") [.ref l] kw) Q noE s :=
  sortedFrom (P := (· = vs)) w ha1 ha2 (fun zz e => e ▸ h64) (fun R k => collect_list hl (k vs _ s.toks rfl fun b o q => (Heap.SameBut.update ..).extBut b o (Nat.ne_of_lt (Heap.lt_size q)) (Heap.get?_push_of_some _ q)) (Nat.le_trans h64 (by rw [sizeLine_eq]; decide)))
    fun D s₁ zz e => e ▸ h D s₁

theorem if_bind {α β : Type} {c : Prop} [Decidable c] (a b : Sem α) (k : α → Sem β) : (if c then a >>= k else b >>= k) = (if c then a else b) >>= k := by split <;> rfl
theorem callSorted {l : Addr} {vs : List Value} {lt : Nat → Nat → Bool} (L : LtOk lt) (w : Wd g s) (hl : s.heap.IsList l vs.toArray) (h64 : vs.length ≤ 6) {κ : SortKind}
    (hkind : 2 ≤ vs.length → ∀ s', Pur g s s' → wpAny g.M A.in1.in1 (keyKind' vs.toArray) (fun k s'' => k = κ ∧ Pur g s' s'') noE s')
    (hask : ∀ i j x y s', vs[i]? = some x → vs[j]? = some y → Pur g s s' → wpAny g.M A.in1.in1 (keyLt' κ x y) (fun b s'' => b = lt i j ∧ Pur g s' s'') noE s') :
    wpAny g.M A (call (.builtin "sorted") [.ref l]) (SortedTo' g s vs lt) noE s := by
  refine sortedStart (kw := []) w hl h64 (args_sorted1 _) (fun x => args_list_sort (.ref x)) fun D s₁ p₁ hD hoD => ?_
  rw [list_sort_plain]
  have k1 := Heap.SameBut.update s₁.heap D (Obj.mapSeq fun zz => (#[] : Array Value))
  obtain ⟨e1, ho1⟩ : ∃ e1, (s₁.heap.update D (Obj.mapSeq fun zz => (#[] : Array Value))).get? D = some (seqObj "list" #[] e1) := ⟨_, get?_update_seq hoD fun zz => #[]⟩
  refine wpAny_bind (listItems_at hoD rfl ?_)
  refine wpAny_bind (listUpdate_at hoD rfl ?_ (by rw [List.size_toArray, sizeLine_eq]; omega) (Nat.zero_le _))
  refine wpAny_bind (seqEpoch_at ho1 rfl ?_)
  refine wpAny_bind (wpAny_newTuple ?_ (by show vs.length ≤ _; rw [sizeLine_eq]; omega))
  refine wpAny_bind (wpAny_newList ?_ (Nat.zero_le _))
  refine wpAny_holding ?_
  have hnc : ∀ o, s₁.heap.get? D = some o → NoCode o := fun o e => by rw [hoD] at e; cases e; exact noCodeSeq
  have p₂ : Pur g s { s₁ with heap := ((s₁.heap.update D (Obj.mapSeq fun zz => (#[] : Array Value))).push (seqObj "tuple" vs.toArray 0)).push (seqObj "list" #[] 0) } :=
    Pur.touchNew (t := s₁.toks) w p₁ hD (fun b o hb e => Heap.get?_push_of_some _ (Heap.get?_push_of_some _ (k1.extBut b o hb e))) hnc
  have hD₂ : (((s₁.heap.update D (Obj.mapSeq fun zz => (#[] : Array Value))).push (seqObj "tuple" vs.toArray 0)).push (seqObj "list" #[] 0)).get? D = some (seqObj "list" #[] e1) := Heap.get?_push_of_some _ (Heap.get?_push_of_some _ ho1)
  show wpAny g.M A.in1.in1 _ _ noE { s₁ with heap := ((s₁.heap.update D (Obj.mapSeq fun zz => (#[] : Array Value))).push (seqObj "tuple" vs.toArray 0)).push (seqObj "list" #[] 0) }
  dsimp only
  rw [if_bind]
  refine wpAny_bind (wpAny_mono (Q := fun k s₃ => (2 ≤ vs.length → k = κ) ∧ Pur g s s₃ ∧ s₃.heap.get? D = some (seqObj "list" #[] e1)) ?kind (fun k s₃ hk => wpAny_bind (wpAny_mono (Q := fun (r : _ × SortSt) s₄ => ∃ p : List Nat, p.Perm (List.range vs.length) ∧ p.Pairwise (sl lt) ∧ (arrOf r.2).map (·.2) = List.toArray (p.map fun i => vs.getD i Value.none) ∧ failedOf r.2 = none ∧ Pur g s s₄ ∧ s₄.heap.get? D = some (seqObj "list" #[] e1)) ?runs (fun r s₄ hr => ?rest) fun zz zz x => x)) fun zz zz x => x)
  case kind =>
    split
    · next few => exact wpAny_pure ⟨fun q => absurd few (Nat.not_lt.mpr (by rw [List.size_toArray]; exact q)), p₂, hD₂⟩
    · next many =>
      rw [List.size_toArray] at many
      exact wpAny_mono (hkind (Nat.not_lt.mp many) _ p₂) (fun k s₃ q => ⟨fun zz => q.1, p₂.trans q.2, q.2.keep _ _ (tab_ne_obj p₂.wd hD₂ nofun) hD₂⟩) fun zz zz x => x
  case runs =>
    split
    · next few =>
      rw [List.size_toArray] at few
      refine wpAny_pure ⟨List.range vs.length, .refl _, ?_, ?_, rfl, hk.2⟩
      · match vs.length, few with
        | 0, _ => exact .nil
        | 1, _ => exact List.pairwise_singleton ..
      · rw [range_pick]
        show ((vs.toArray.zip vs.toArray).map (·.2)) = vs.toArray
        exact Array.toList_inj.mp (by rw [Array.toList_map, ksk_zip]; exact List.map_snd_zip (Nat.le_refl _))
    · next many =>
      rw [List.size_toArray] at many
      rw [hk.1 (Nat.not_lt.mp many)]
      exact sortCore (E := noE) (ks := vs) (vs := vs) L rfl (Nat.not_lt.mp many) h64 (fun s' => Pur g s s' ∧ s'.heap.get? D = some (seqObj "list" #[] e1)) (fun i j x y s' hx hy hI => wpAny_mono (hask i j x y s' hx hy hI.1) (fun b s'' hb => ⟨hb.1, hI.1.trans hb.2, hb.2.keep _ _ (tab_ne_obj hI.1.wd hI.2 nofun) hI.2⟩) fun zz zz x => x) hk.2
  case rest =>
    obtain ⟨p, hp, hs, har, hf, p', hD'⟩ := hr
    rw [har]
    have k2 := Heap.SameBut.update s₄.heap D (Obj.mapSeq fun zz => List.toArray (p.map fun i => vs.getD i Value.none))
    refine wpAny_bind (seqEpoch_at hD' rfl (wpAny_bind (listUpdate_at hD' rfl ?_ (Nat.zero_le _) (by rw [List.size_toArray, List.length_map, hp.length_eq, List.length_range, sizeLine_eq]; lia))))
    rw [hf, if_neg (by rw [bne_self_eq_false]; decide)]
    exact wpAny_pure ⟨_, rfl, D, p, rfl, Pur.touchNew (t := s₄.toks) w p' hD k2.extBut (fun o e => by rw [hD'] at e; cases e; exact noCodeSeq), hD, hp, hs, _, get?_update_seq hD' _⟩
end
end
section
section
variable {A : Around} {E : Value → Shared → Prop} {s s₁ : Shared}
theorem collectR {prog : Program} {w : World} {Q : List Value → Shared → Prop} {r : Addr} {a b c : Int} {t u v : Tok} {n : Nat} (hh : A.handled = none) (hr : IsRange s.heap r a b c t u v) (hsmall : Builtin.Range.small a b c = true) (hn : Builtin.Range.rangeSize a b c = n) (hlen : n ≤ 2 ^ 24)
    (hQ : ∀ h' tk acc', (∀ b o, s.heap.get? b = some o → h'.get? b = some o) → ItemsOf (fun i v => ∃ t, v = .int (a + i * c) t) acc' n → Q acc'.toList { s with heap := h', toks := tk }) :
    wpAny (model prog w) A (collect (.ref r)) Q E s := by
  unfold collect
  refine wpAny_bind (wpAny_runValue (codeAny_builtin F.entry_proto_collect ?_))
  rw [Around.under_plainId F.plain_proto_collect _]
  refine wpAny_bind (m := newList []) (wpAny_newObj_type ?_)
  refine wpAny_pure ⟨plainId_quiet F.plain_list_iadd _, codeAny_builtin F.entry_list_iadd ?_⟩
  rw [Around.under_plainId F.plain_list_iadd _]
  have hS : (s.heap.push { cls := .type "list", data := .seq #[] }).get? s.heap.objs.size = some { cls := .type "list", data := .seq #[] } := Heap.get?_push_size _ rfl
  show wpAny _ A.in1 (Builtin.List.listExtendWith (.ref s.heap.objs.size) (.ref r) (.ref s.heap.objs.size)) _ _ { s with heap := s.heap.push { cls := .type "list", data := .seq #[] } }
  refine wpAny_mono (wpAny_extend_range (R := fun r s' => r = .ok (.ret (.ref s.heap.objs.size)) ∧ wpAny (model prog w) A (do
      let o ← load s.heap.objs.size
      match o.data with
      | .seq xs _ => pure xs.toList
      | _ => unsupported "internal:collect") Q E s') (s := { s with heap := s.heap.push { cls := .type "list", data := .seq #[] } }) hh (Heap.get?_push_of_some _ hr) hsmall hn hlen s.heap.objs.size _ 0 hS fun h' tk acc' c' hk hS' hacc => ?_) (fun fin s' h => ?_) (fun e s' h => ?_)
  · exact ⟨rfl, wpAny_bind (wpAny_load hS' (wpAny_pure (hQ h' tk acc' (fun b o e => hk b o (Nat.ne_of_lt (Heap.lt_size e)) (Heap.get?_push_of_some _ e)) hacc)))⟩
  · cases fin with
    | done f => obtain ⟨e, hp⟩ := h; cases e; exact hp
    | again c' => exact ⟨h.1, codeAny_mono h.2 fun r s'' hr => by obtain ⟨rfl, hp⟩ := hr; exact hp⟩
  · cases h.1
theorem sortedStartR {kw : List (Str × Value)} {r : Addr} {b : Int} {t u v : Tok} {n : Nat} {Q : Value → Shared → Prop} (hh : A.handled = none) (w : Wd g s) (hr : IsRange s.heap r 0 b 1 t u v) (hsmall : Builtin.Range.small 0 b 1 = true) (hn : Builtin.Range.rangeSize 0 b 1 = n) (h64 : n ≤ 6) (ha1 : argsOk "sorted" ⟨[.ref r], kw⟩) (ha2 : ∀ x : Addr, argsOk "list.sort" ⟨[.ref x], kw⟩)
    (h : ∀ (D : Addr) (s₁ : Shared) (vs : List Value), Pur g s s₁ → s.heap.get? D = none → s₁.heap.get? D = some (seqObj "list" vs.toArray 0) → vs.length = n → (∀ (i : Nat) x, vs[i]? = some x → ∃ t, x = Value.int (i : Int) t) → wpAny g.M A.in1.in1 (Builtin.«list.sort» ⟨[.ref D], kw⟩) (fun fin s' => ∃ v, fin = .done (.ret v) ∧ Q (.ref D) s') noE s₁) :
    wpAny g.M A (call (.builtin "sorted") [.ref r] kw) Q noE s :=
  sortedFrom (P := fun vs => vs.length = n ∧ ∀ (i : Nat) x, vs[i]? = some x → ∃ t, x = Value.int (i : Int) t) w ha1 ha2 (fun zz p => p.1 ▸ h64)
    (fun R k => collectR hh hr hsmall hn (by lia) fun h' tk acc up it => k _ h' tk ⟨by rw [Array.length_toList]; exact it.1, fun i x hx => (it.2 i x (by rw [← Array.getElem?_toList]; exact hx)).imp fun t e => by rw [e]; congr 1; lia⟩ up)
    fun D s₁ vs p p₁ hD hoD => h D s₁ vs p₁ hD hoD p.1 p.2

theorem callSortedK {r f : Addr} {b : Int} {t u v : Tok} {n : Nat} {lt : Nat → Nat → Bool} (L : LtOk lt) (hh : A.handled = none) (w : Wd g s) (hr : IsRange s.heap r 0 b 1 t u v) (hsmall : Builtin.Range.small 0 b 1 = true) (hn : Builtin.Range.rangeSize 0 b 1 = n) (h64 : n ≤ 6) {κ : SortKind}
    (kv : Nat → Value)
    (hkey : ∀ (i : Nat) t s', i < n → Pur g s s' → wpAny g.M A.in1.in1 (call (.ref f) [.int (i : Int) t]) (fun k s'' => k = kv i ∧ Pur g s' s'') noE s')
    (hkind : 2 ≤ n → ∀ s', Pur g s s' → wpAny g.M A.in1.in1 (keyKind' (List.toArray ((List.range n).map kv))) (fun k s'' => k = κ ∧ Pur g s' s'') noE s')
    (hask : ∀ i j s', i < n → j < n → Pur g s s' → wpAny g.M A.in1.in1 (keyLt' κ (kv i) (kv j)) (fun b s'' => b = lt i j ∧ Pur g s' s'') noE s') :
    wpAny g.M A (call (.builtin "sorted") [.ref r] [(Str.ofString "key", .ref f)]) (fun v s' => ∃ vs : List Value, vs.length = n ∧ (∀ (i : Nat) x, vs[i]? = some x → ∃ t, x = Value.int (i : Int) t) ∧ SortedTo' g s vs lt v s') noE s := by
  refine sortedStartR hh w hr hsmall hn h64 (ksk_s1 _ _) (fun x => ksk_l1 _ _) fun D s₁ vs p₁ hD hoD hln hvs => ?_
  rw [ksk_t1]
  have hvsz : vs.toArray.size = n := by rw [List.size_toArray, hln]
  have k1 := Heap.SameBut.update s₁.heap D (Obj.mapSeq fun zz => (#[] : Array Value))
  obtain ⟨e1, ho1⟩ : ∃ e1, (s₁.heap.update D (Obj.mapSeq fun zz => (#[] : Array Value))).get? D = some (seqObj "list" #[] e1) := ⟨_, get?_update_seq hoD fun zz => #[]⟩
  unfold ksk_tree
  refine wpAny_bind (listItems_at hoD rfl ?_)
  refine wpAny_bind (listUpdate_at hoD rfl ?_ (by rw [hvsz, sizeLine_eq]; lia) (Nat.zero_le _))
  refine wpAny_bind (seqEpoch_at ho1 rfl ?_)
  refine wpAny_bind (wpAny_newTuple ?_ (by show vs.length ≤ _; rw [hln, sizeLine_eq]; lia))
  refine wpAny_bind (wpAny_newList ?_ (Nat.zero_le _))
  refine wpAny_holding ?_
  have hnc : ∀ o, s₁.heap.get? D = some o → NoCode o := fun o e => by rw [hoD] at e; cases e; exact noCodeSeq
  have p₂ : Pur g s { s₁ with heap := ((s₁.heap.update D (Obj.mapSeq fun zz => (#[] : Array Value))).push (seqObj "tuple" vs.toArray 0)).push (seqObj "list" #[] 0) } :=
    Pur.touchNew (t := s₁.toks) w p₁ hD (fun b o hb e => Heap.get?_push_of_some _ (Heap.get?_push_of_some _ (k1.extBut b o hb e))) hnc
  have hD₂ : (((s₁.heap.update D (Obj.mapSeq fun zz => (#[] : Array Value))).push (seqObj "tuple" vs.toArray 0)).push (seqObj "list" #[] 0)).get? D = some (seqObj "list" #[] e1) := Heap.get?_push_of_some _ (Heap.get?_push_of_some _ ho1)
  obtain ⟨kS, hkS⟩ : ∃ kS, kS = ((s₁.heap.update D (Obj.mapSeq fun zz => (#[] : Array Value))).push (seqObj "tuple" vs.toArray 0)).objs.size := ⟨_, rfl⟩
  have hk₂ : (((s₁.heap.update D (Obj.mapSeq fun zz => (#[] : Array Value))).push (seqObj "tuple" vs.toArray 0)).push (seqObj "list" #[] 0)).get? kS = some (seqObj "list" #[] 0) := by rw [hkS]; exact Heap.get?_push_size _ rfl
  have hkN : s.heap.get? kS = none := by
    cases q : s.heap.get? kS with
    | none => rfl
    | some o =>
      obtain ⟨o', e'⟩ := p₁.live ⟨o, q⟩
      have h1 := Heap.lt_size e'
      rw [hkS, size_push', Heap.size_update] at h1
      exact absurd h1 (Nat.not_lt.mpr (Nat.le_succ _))
  have hkD : kS ≠ D := fun e => by
    have h1 := Heap.lt_size hoD
    rw [← e, hkS, size_push', Heap.size_update] at h1
    exact absurd h1 (Nat.not_lt.mpr (Nat.le_succ _))
  rw [← hkS]
  show wpAny g.M A.in1.in1 _ _ noE { s₁ with heap := ((s₁.heap.update D (Obj.mapSeq fun zz => (#[] : Array Value))).push (seqObj "tuple" vs.toArray 0)).push (seqObj "list" #[] 0) }
  unfold ksk_rest
  refine wpAny_bind (wpAny_rule ?_)
  rw [List.forIn_toArray]
  have hkc : ∀ {c : Nat} {ks : List Value} {s' : Shared}, s'.heap.get? kS = some (seqObj "list" ks.toArray c) → ∀ o, s'.heap.get? kS = some o → NoCode o := fun h o e => by rw [h] at e; cases e; exact noCodeSeq
  have hDc : ∀ {s' : Shared}, s'.heap.get? D = some (seqObj "list" #[] e1) → ∀ o, s'.heap.get? D = some o → NoCode o := fun h o e => by rw [h] at e; cases e; exact noCodeSeq
  refine wpAny_bind (ksk_fold (fun j s' => Pur g s s' ∧ s'.heap.get? D = some (seqObj "list" #[] e1) ∧ ∃ e : Nat, s'.heap.get? kS = some (seqObj "list" (List.toArray ((List.range j).map kv)) e)) vs 0 _ ⟨p₂, hD₂, 0, hk₂⟩ (fun j x s' hx hI => ?_) fun s₃ hI => ?_)
  · rw [Nat.zero_add] at hI ⊢
    obtain ⟨p', hD', e, hk'⟩ := hI
    obtain ⟨tt, rfl⟩ := hvs j x hx
    have hj : j < n := by rw [← hln]; exact (List.getElem?_eq_some_iff.mp hx).1
    refine wpAny_bind (wpAny_attempt (wpAny_mono (hkey j tt s' hj p') (fun k s'' hk => ?_) fun zz zz x => x.elim))
    obtain ⟨rfl, p''⟩ := hk
    have hk'' := p''.keep _ _ (tab_ne_obj p'.wd hk' nofun) hk'
    have hD'' := p''.keep _ _ (tab_ne_obj p'.wd hD' nofun) hD'
    have kk := Heap.SameBut.update s''.heap kS (Obj.mapSeq (·.push (kv j)))
    have ea : (List.toArray ((List.range j).map kv)).push (kv j) = List.toArray ((List.range (j + 1)).map kv) := by simp [List.range_succ]
    have hup := get?_update_seq hk'' (·.push (kv j))
    rw [ea] at hup
    have hl2 : (List.toArray ((List.range j).map kv)).size = j := by simp
    dsimp only
    refine wpAny_bind (listUpdate_at hk'' rfl ?_ (by rw [hl2, sizeLine_eq]; lia) (Nat.le_trans (Nat.le_of_eq (Array.size_push ..)) (by rw [hl2, sizeLine_eq]; lia)))
    have p₃ : Pur g s { s'' with heap := s''.heap.update kS (Obj.mapSeq (·.push (kv j))) } := Pur.touchNew (t := s''.toks) w (p'.trans p'') hkN kk.extBut (hkc hk'')
    exact wpAny_pure ⟨rfl, p₃, (kk.extBut _ _ hkD.symm hD''), _, hup⟩
  · rw [Nat.zero_add] at hI
    obtain ⟨p₃, hD₃, e, hk₃⟩ := hI
    rw [hln] at hk₃
    have hks : ((List.range n).map kv).length = vs.length := by simp [hln]
    refine wpAny_bind (listItems_at hk₃ rfl ?_)
    unfold ksk_end
    have tail : ∀ (st : SortSt) s' (p : List Nat), p.Perm (List.range vs.length) → p.Pairwise (sl lt) → (arrOf st).map (·.2) = List.toArray (p.map fun i => vs.getD i Value.none) → failedOf st = none → Pur g s s' → s'.heap.get? D = some (seqObj "list" #[] e1) → s'.heap.get? kS = some (seqObj "list" (List.toArray ((List.range n).map kv)) e) →
        wpAny g.M A.in1.in1 (ksk_tail D false e1 (.ref kS) st) (fun fin s' => ∃ v, fin = .done (.ret v) ∧ ∃ vs : List Value, vs.length = n ∧ (∀ (i : Nat) x, vs[i]? = some x → ∃ t, x = Value.int (i : Int) t) ∧ SortedTo' g s vs lt (.ref D) s') noE s' := fun st s' p hp hs har hf p' hD' hk' => by
      unfold ksk_tail
      dsimp only
      have kk := Heap.SameBut.update s'.heap kS (Obj.mapSeq fun zz => (#[] : Array Value))
      have hD2 := kk.extBut _ _ hkD.symm hD'
      have p2 : Pur g s { s' with heap := s'.heap.update kS (Obj.mapSeq fun zz => (#[] : Array Value)) } := Pur.touchNew (t := s'.toks) w p' hkN kk.extBut (hkc hk')
      refine wpAny_bind (listUpdate_at hk' rfl ?_ (by rw [List.size_toArray, hks, hln, sizeLine_eq]; lia) (Nat.zero_le _))
      refine wpAny_bind (wpAny_letGo ?_)
      simp only [Bool.false_eq_true, if_false]
      rw [har]
      have k2 := Heap.SameBut.update (s'.heap.update kS (Obj.mapSeq fun zz => (#[] : Array Value))) D (Obj.mapSeq fun zz => List.toArray (p.map fun i => vs.getD i Value.none))
      have hlp : p.length = vs.length := by rw [hp.length_eq, List.length_range]
      refine wpAny_bind (seqEpoch_at hD2 rfl ?_)
      refine wpAny_bind (listUpdate_at hD2 rfl ?_ (Nat.zero_le _) (by rw [List.size_toArray, List.length_map, hlp, sizeLine_eq]; lia))
      rw [hf]
      simp only [bne_self_eq_false, Bool.false_eq_true, if_false]
      refine wpAny_pure ⟨_, rfl, vs, hln, hvs, D, p, rfl, Pur.touchNew (t := s'.toks) w p2 hD k2.extBut (fun o e => by rw [hD2] at e; cases e; exact noCodeSeq), hD, hp, hs, _, get?_update_seq hD2 _⟩
    by_cases h2 : n < 2
    · have h2' : vs.toArray.size < 2 := by rw [hvsz]; exact h2
      dsimp only
      simp only [Bool.false_eq_true, if_false]
      rw [if_pos h2', if_pos h2']
      refine wpAny_bind (wpAny_pure ?_)
      refine wpAny_bind (wpAny_pure ?_)
      refine tail _ _ (List.range vs.length) (.refl _) ?_ ?_ rfl p₃ hD₃ hk₃
      · rw [hln]
        match n, h2 with
        | 0, _ => exact .nil
        | 1, _ => exact List.pairwise_singleton ..
      · rw [range_pick]
        show (((List.toArray ((List.range n).map kv)).zip vs.toArray).map (·.2)) = vs.toArray
        apply Array.toList_inj.mp
        rw [Array.toList_map, ksk_zip]
        show ((((List.range n).map kv).zip vs).map Prod.snd) = vs
        rw [List.map_snd_zip]; rw [hks]; exact Nat.le_refl _
    · have h2' : ¬ vs.toArray.size < 2 := by rw [hvsz]; exact h2
      dsimp only
      simp only [Bool.false_eq_true, if_false]
      rw [if_neg h2', if_neg h2']
      refine wpAny_bind (wpAny_mono (hkind (by lia) _ p₃) (fun k s₄ hk => ?_) fun zz zz x => x)
      obtain ⟨rfl, p₄⟩ := hk
      have hD₄ := p₄.keep _ _ (tab_ne_obj p₃.wd hD₃ nofun) hD₃
      have hk₄ := p₄.keep _ _ (tab_ne_obj p₃.wd hk₃ nofun) hk₃
      refine wpAny_bind (wpAny_mono (sortCore (E := noE) (ks := (List.range n).map kv) (vs := vs) L hks (by lia) (by lia) (fun s' => Pur g s s' ∧ s'.heap.get? D = some (seqObj "list" #[] e1) ∧ s'.heap.get? kS = some (seqObj "list" (List.toArray ((List.range n).map kv)) e)) (fun i j x y s' hx hy hI => ?_) ⟨p₃.trans p₄, hD₄, hk₄⟩) (fun r s₅ hr => ?_) fun zz zz x => x)
      · obtain ⟨hi, rfl⟩ := List.getElem?_eq_some_iff.mp hx
        obtain ⟨hj, rfl⟩ := List.getElem?_eq_some_iff.mp hy
        rw [List.length_map, List.length_range] at hi hj
        rw [List.getElem_map, List.getElem_map, List.getElem_range, List.getElem_range]
        refine wpAny_mono (hask i j s' hi hj hI.1) (fun b s'' hb => ⟨hb.1, hI.1.trans hb.2, hb.2.keep _ _ (tab_ne_obj hI.1.wd hI.2.1 nofun) hI.2.1, hb.2.keep _ _ (tab_ne_obj hI.1.wd hI.2.2 nofun) hI.2.2⟩) fun zz zz x => x
      · obtain ⟨p, hp, hs, har, hf, p₅, hD₅, hk₅⟩ := hr
        exact tail r.2 s₅ p hp hs har hf p₅ hD₅ hk₅
end
end
section
noncomputable def lexI : List Int → List Int → Bool
  | x :: xs, y :: ys => if x == y then lexI xs ys else decide (x < y)
  | _, _ => false
theorem head_drop (items : Array Value) (i : Nat) : items[((i : Nat) : Int).toNat]? = (items.toList.drop i)[0]? := by simp
theorem tail_ints {l : List Value} {i : Nat} {n : Int} {ns : List Int} (h : IntsAre (l.drop i) (n :: ns)) : (∃ t, (l.drop i)[0]? = some (Value.int n t)) ∧ IntsAre (l.drop (i + 1)) ns := by
  rw [← List.tail_drop]
  generalize l.drop i = vs at h
  cases h with
  | cons _ t r => exact ⟨⟨t, rfl⟩, r⟩
theorem ints_nil {l : List Value} {i : Nat} (h : IntsAre (l.drop i) []) : (l.drop i)[0]? = none := by
  generalize l.drop i = vs at h
  cases h
  rfl
section
variable {prog : Program} {w : World} {A : Around} {E : Value → Shared → Prop} {R : Result → Shared → Prop} {s : Shared}
theorem lt_from {l b : Addr} {items items2 : Array Value} (hl : s.heap.IsList l items) (hb : s.heap.IsList b items2) (hsz : items.size = items2.size) : ∀ (xs ys : List Int) (i : Nat), IntsAre (items.toList.drop i) xs → IntsAre (items2.toList.drop i) ys → xs.length = ys.length →
    R (.ok (.ret (.bool (lexI xs ys)))) s → codeAny (model prog w) A (.builtin "list.__eq__.loop" ⟨[.ref l, .ref b, rawInt i, rawInt 0], []⟩) R s := by
  cases hl with
  | intro o k =>
  cases hb with
  | intro o2 k2 =>
  cases k.2.2 with
  | intro n d =>
  cases k2.2.2 with
  | intro n2 d2 =>
  intro xs
  induction xs with
  | nil =>
    intro ys i hx hy hn hR
    cases ys with
    | cons => cases hn
    | nil =>
    refine codeAny_builtin MeetsSeq3.entry_eq_loop ?_
    rw [Around.under_plainId MeetsSeq3.plain_eq_loop _]
    refine wpAny_bind (listItems_at k.1 d (wpAny_bind (listItems_at k2.1 d2 ?_)))
    rw [head_drop items i, head_drop items2 i, ints_nil hx, ints_nil hy]
    refine wpAny_bind (listItems_at k.1 d (wpAny_bind (listItems_at k2.1 d2 (wpAny_pure ?_))))
    show R (.ok (.ret (.bool (decide (items.size < items2.size))))) s
    rw [hsz, decide_eq_false (Nat.lt_irrefl _)]
    exact hR
  | cons x xs ih =>
    intro ys i hx hy hn hR
    cases ys with
    | nil => cases hn
    | cons y ys =>
    obtain ⟨⟨t, e1⟩, hx'⟩ := tail_ints hx
    obtain ⟨⟨u, e2⟩, hy'⟩ := tail_ints hy
    rw [← head_drop] at e1 e2
    refine codeAny_builtin MeetsSeq3.entry_eq_loop ?_
    rw [Around.under_plainId MeetsSeq3.plain_eq_loop _]
    refine wpAny_bind (listItems_at k.1 d (wpAny_bind (listItems_at k2.1 d2 ?_)))
    rw [e1, e2]
    refine wpAny_bind (wpAny_eqBool_int ?_)
    rw [lexI] at hR
    cases q : x == y with
    | true =>
      rw [q, if_pos rfl] at hR
      exact wpAny_pure ⟨plainId_quiet MeetsSeq3.plain_eq_loop _, ih ys (i + 1) hx' hy' (Nat.succ.inj hn) hR⟩
    | false =>
      rw [q, if_neg (by simp)] at hR
      refine wpAny_bind (listItems_at k.1 d (wpAny_bind (listItems_at k2.1 d2 ?_)))
      rw [e1, e2]
      exact wpAny_bind (richCompare_gives (typeIs_int _ _ _) (typeIs_int _ _ _) F.slot_int_lt F.entry_int_lt (PySem.args_int_lt _ _) (gives_int_lt _ _ _ _) nofun (wpAny_pure hR))
end
theorem lt_lists {l b : Addr} {items items2 : Array Value} {xs ys : List Int} (hx : IntsAre items.toList xs) (hy : IntsAre items2.toList ys) (hsz : xs.length = ys.length) :
    PySem.Meets (Builtin.«list.__lt__» ⟨[.ref l, .ref b], []⟩) (fun zz R s => s.heap.IsList l items ∧ s.heap.IsList b items2 ∧ R (.ok (.ret (.bool (lexI xs ys)))) s) := fun prog w A R s h => by
  have z : items.size = items2.size := by rw [← Array.length_toList, ← Array.length_toList, hx.length, hy.length, hsz]
  refine wpAny_bind (m := slotArgs "__lt__" 1 _) (wpAny_pure (wpAny_bind (wpAny_isInstance (T := "list") (b := true) h.2.1.typeIs AutoSeq1.sub_list_list ?_)))
  exact wpAny_pure ⟨plainId_quiet MeetsSeq3.plain_eq_loop _, lt_from h.1 h.2.1 z xs ys 0 hx hy hsz h.2.2⟩
section
variable {prog : Program} {w : World} {A : Around} {E : Value → Shared → Prop} {s : Shared}
theorem oneLt_lists {l b : Addr} {items items2 : Array Value} {xs ys : List Int} {Q : Bool → Shared → Prop} (hl : s.heap.IsList l items) (hb : s.heap.IsList b items2) (hx : IntsAre items.toList xs) (hy : IntsAre items2.toList ys) (hsz : xs.length = ys.length) (hu : A.units < cLine)
    (h : Q (lexI xs ys) s) : wpAny (model prog w) A (keyLt' oneType' (.ref l) (.ref b)) Q E s := by
  rw [keyLt'_oneType, oneLt'_eq, if_pos rfl]
  exact wpAny_bind (wpAny_cRoomFor hu (wpAny_bind (wpAny_callSpecialIfBound?_slot hl.typeIs F.slot_list_lt (call_meets F.slot_list_lt hl.typeIs F.entry_list_lt (F.args_list_lt_2 _ _) (lt_lists hx hy hsz) ⟨hl, hb, wpAny_truthy_bool h⟩))))
end
end
section
section
noncomputable def Ord (lt : Nat → Nat → Bool) (n : Nat) (p : List Nat) : Prop := p.Perm (List.range n) ∧ p.Pairwise (sl lt)
theorem sl_asymm {lt : Nat → Nat → Bool} (L : LtOk lt) {a b : Nat} (h : sl lt a b) (k : sl lt b a) : False := by
  rcases h with h | ⟨h, h'⟩ <;> rcases k with k | ⟨k, k'⟩
  · rw [L.as _ _ h] at k; cases k
  · rw [h] at k; cases k
  · rw [h] at k; cases k
  · lia
theorem asymm_uniq {α : Type} {R : α → α → Prop} (as : ∀ a b, R a b → R b a → False) : ∀ {p q : List α}, p.Perm q → p.Pairwise R → q.Pairwise R → p = q
  | [], q, h, _, _ => (List.Perm.nil_eq h)
  | a :: p, [], h, _, _ => (List.Perm.eq_nil h)
  | a :: p, b :: q, h, hp, hq => by
    have ha : a ∈ b :: q := h.subset (List.mem_cons_self ..)
    have hb : b ∈ a :: p := h.symm.subset (List.mem_cons_self ..)
    have e : a = b := by
      rcases List.mem_cons.mp ha with e | ha
      · exact e
      rcases List.mem_cons.mp hb with e | hb
      · exact e.symm
      exact (as _ _ ((List.pairwise_cons.mp hp).1 _ hb) ((List.pairwise_cons.mp hq).1 _ ha)).elim
    subst e
    rw [asymm_uniq as ((List.perm_cons a).mp h) (List.pairwise_cons.mp hp).2 (List.pairwise_cons.mp hq).2]
theorem Ord.uniq {lt : Nat → Nat → Bool} (L : LtOk lt) {n : Nat} {p q : List Nat} (h : Ord lt n p) (k : Ord lt n q) : p = q := asymm_uniq (fun zz zz => sl_asymm L) (h.1.trans k.1.symm) h.2 k.2
theorem Ord.lt {lt : Nat → Nat → Bool} {n : Nat} {p : List Nat} (h : Ord lt n p) : ∀ i ∈ p, i < n := fun zz hi => List.mem_range.mp (h.1.subset hi)

noncomputable def strLt (xs : List Str) (i j : Nat) : Bool := decide ((xs.getD i "").cps.toList < (xs.getD j "").cps.toList)
noncomputable def intLt (xs : List Int) (i j : Nat) : Bool := decide (xs.getD i 0 < xs.getD j 0)
noncomputable def lexLt (m : Nat) (xs : List (List Int)) (i j : Nat) : Bool := lexI (xs.getD i (List.replicate m 0)) (xs.getD j (List.replicate m 0))
theorem strLt_ok (xs : List Str) : LtOk (strLt xs) := ⟨fun a b h => by
    simp only [strLt, decide_eq_true_eq, decide_eq_false_iff_not] at h ⊢
    exact List.lt_asymm h, fun a b c h k => by
    simp only [strLt, decide_eq_false_iff_not] at h k ⊢
    exact List.not_lt.mpr (List.le_trans (List.not_lt.mp h) (List.not_lt.mp k))⟩
theorem intLt_ok (xs : List Int) : LtOk (intLt xs) := ⟨fun a b h => by
    simp only [intLt, decide_eq_true_eq, decide_eq_false_iff_not] at h ⊢; lia, fun a b c h k => by
    simp only [intLt, decide_eq_false_iff_not] at h k ⊢; lia⟩
theorem lexI_as : ∀ (x y : List Int), lexI x y = true → lexI y x = false
  | [], _, h => by simp [lexI] at h
  | a :: x, [], h => by simp [lexI] at h
  | a :: x, b :: y, h => by
    rw [lexI] at h ⊢
    by_cases e : a = b
    · subst e
      simp only [beq_self_eq_true, if_true] at h ⊢
      exact lexI_as x y h
    · have e1 : (a == b) = false := by simpa using e
      have e2 : (b == a) = false := by simpa using fun q => e q.symm
      rw [e1] at h; rw [e2]
      simp only [Bool.false_eq_true, if_false, decide_eq_true_eq, decide_eq_false_iff_not] at h ⊢
      lia
theorem lexI_tr : ∀ (x y z : List Int), x.length = y.length → y.length = z.length → lexI y x = false → lexI z y = false → lexI z x = false
  | [], [], [], _, _, _, _ => rfl
  | a :: x, b :: y, c :: z, e1, e2, h, k => by
    rw [lexI] at h k ⊢
    have r := lexI_tr x y z (by simpa using e1) (by simpa using e2)
    by_cases ab : b = a <;> by_cases bc : c = b
    · subst ab; subst bc
      simp only [beq_self_eq_true, if_true] at h k ⊢
      exact r h k
    · have u : (c == b) = false := by simpa using bc
      rw [u] at k; simp only [Bool.false_eq_true, if_false, decide_eq_false_iff_not] at k
      have u2 : (c == a) = false := by simpa using fun q => bc (by lia)
      rw [u2]; simp only [Bool.false_eq_true, if_false, decide_eq_false_iff_not]; lia
    · have u : (b == a) = false := by simpa using ab
      rw [u] at h; simp only [Bool.false_eq_true, if_false, decide_eq_false_iff_not] at h
      have u2 : (c == a) = false := by simpa using fun q => ab (by lia)
      rw [u2]; simp only [Bool.false_eq_true, if_false, decide_eq_false_iff_not]; lia
    · have u : (b == a) = false := by simpa using ab
      have v : (c == b) = false := by simpa using bc
      rw [u] at h; rw [v] at k
      simp only [Bool.false_eq_true, if_false, decide_eq_false_iff_not] at h k
      have u2 : (c == a) = false := by simpa using fun q => ab (by lia)
      rw [u2]; simp only [Bool.false_eq_true, if_false, decide_eq_false_iff_not]; lia
  | [], _ :: _, _, e, _, _, _ => by simp at e
  | _ :: _, [], _, e, _, _, _ => by simp at e
  | _, [], _ :: _, _, e, _, _ => by simp at e
  | _, _ :: _, [], _, e, _, _ => by simp at e
theorem lexLt_ok {xs : List (List Int)} {m : Nat} (h : ∀ r ∈ xs, r.length = m) : LtOk (lexLt m xs) := by
  have hl : ∀ i, (xs.getD i (List.replicate m 0)).length = m := fun i => by
    rw [List.getD_eq_getElem?_getD]
    cases e : xs[i]? with
    | none => simp
    | some r => exact h r (List.mem_of_getElem? e)
  exact ⟨fun a b k => lexI_as _ _ k, fun a b c k k' => lexI_tr _ _ _ (by rw [hl, hl]) (by rw [hl, hl]) k k'⟩
end

section
variable {A : Around} {F : Fx} {ρ : Rho} {O : List (Str × Addr)} {s : Shared}
theorem reps_pickN {h : Heap} {U : Addr → Prop} {ds : List V} {vs : List Value} (r : Reps g h U ds vs) : ∀ (p : List Nat), (∀ i ∈ p, i < ds.length) → Reps g h U (p.map fun i => ds.getD i .none) (p.map fun i => vs.getD i Value.none)
  | [], _ => .nil
  | i :: p, hp => by
    have hi : i < ds.length := hp i (.head _)
    obtain ⟨v, hv, hr⟩ := r.getD (List.getElem?_eq_getElem hi)
    refine .cons (?_ : Rep g h U (ds.getD i .none) (vs.getD i Value.none)) (reps_pickN r p fun j hj => hp j (.tail _ hj))
    rw [List.getD_eq_getElem?_getD, List.getD_eq_getElem?_getD, hv, List.getElem?_eq_getElem hi]
    exact hr
theorem SortedTo'.fresh {U : Addr → Prop} {lt : Nat → Nat → Bool} (L : LtOk lt) {ds : List V} {vs : List Value} {v : Value} {s' : Shared} (htab : ∀ q ∈ g.tabs, U q.2.1) (r : Reps g s.heap U ds vs) {p : List Nat} (hp : Ord lt ds.length p) (h : SortedTo' g s vs lt v s') :
    Pur g s s' ∧ Fresh g U s (p.map fun i => ds.getD i .none) v s' := by
  refine ngI fun hNg => ?_
  obtain ⟨D, q, rfl, pp, hD, hq, hs, hl⟩ := h
  refine ngE hNg ?_
  have e := r.length
  rw [e] at hq
  have : q = p := Ord.uniq L ⟨hq, hs⟩ hp
  subst this
  refine ⟨pp, D, _, rfl, hD, hl, ?_⟩
  have := reps_pickN r q hp.lt
  exact this.mono (fun a u n k => u.elim n fun e => k (e ▸ hD)) fun a o n e => pp.keep a o (fun t ht e' => n (e' ▸ htab t ht)) e

theorem kat_same {prog : Program} {w : World} {b fin : Bool} {Q : Bool → Shared → Prop} {s : Shared} (h : Q fin s) : ∀ (l : List Value) (i : Nat), KatLex prog w A b fin Q (l.zip l) i s
  | [], _ => kat_nil h
  | x :: l, i => kat_cons ((SeqAt.EqAt.same x) _ _ _ _ (kat_yes (kat_same h l (i + 1))))

theorem CallF.sortedS {xs : List Str} {p : List Nat} (hz : xs.length ≤ 6) (hp : Ord (strLt xs) xs.length p) : CallF g A F ρ (.builtin "sorted") [.lst (xs.map .str)] (p.map fun i => (.str (xs.getD i "") : V)) := ⟨fun O s vs st r => by
  cases r using cC with
  | cons r r' =>
    cases r' using cE
    cases r using cL with
    | @lst a us _ n hL hr =>
      have hlen : us.length = xs.length := by rw [hr.length, List.length_map]
      have strsA : ∀ (i : Nat) v, us[i]? = some v → ∃ t, v = .str (xs.getD i "") t := fun i v hv => by
        obtain ⟨d, hd, rd⟩ := hr.get hv
        rw [List.getElem?_map] at hd
        cases hx : xs[i]? with
        | none => rw [hx] at hd; cases hd
        | some x =>
          rw [hx] at hd; cases hd
          cases rd using cS
          exact ⟨_, by rw [List.getD_eq_getElem?_getD, hx]; rfl⟩
      refine wpAny_mono (callSorted (A := A) (strLt_ok xs) st.wd hL (by lia) (κ := oneType') (fun h2 s' p' => ?_) fun i j x y s' hx hy p' => ?_) (fun v s' q => ?_) fun zz zz x => x
      · refine kas_kind (T := .type "str") h2 (fun v hv => ?_) rfl rfl ⟨rfl, Pur.refl p'.wd⟩
        obtain ⟨i, hi, rfl⟩ := List.mem_iff_getElem.mp hv
        obtain ⟨t, e⟩ := strsA i _ (List.getElem?_eq_getElem hi)
        rw [e]; exact Looks.of_pure rfl
      · obtain ⟨t, rfl⟩ := strsA i _ hx
        obtain ⟨u, rfl⟩ := strsA j _ hy
        exact kas_lt_str ⟨rfl, Pur.refl p'.wd⟩
      · have := q.fresh (strLt_ok xs) (fun q hq => .inl (st.tabU q hq)) hr (p := p) (by rw [List.length_map]; exact hp)
        refine ⟨this.1, ?_⟩
        have e : (p.map fun i => (xs.map V.str).getD i .none) = p.map fun i => (.str (xs.getD i "") : V) := List.map_congr_left fun i hi => by
          have := hp.lt i hi
          rw [List.getD_eq_getElem?_getD, List.getElem?_map, List.getElem?_eq_getElem this, List.getD_eq_getElem?_getD, List.getElem?_eq_getElem this]; rfl
        rw [← e]; exact this.2⟩
theorem CallF.sortedT {cs : List (Int × List V)} {p : List Nat} (hz : cs.length ≤ 6) (hd : ∀ i j, i < cs.length → j < cs.length → i ≠ j → (cs.map (·.1)).getD i 0 ≠ (cs.map (·.1)).getD j 0) (hp : Ord (intLt (cs.map (·.1))) cs.length p) : CallF g A F ρ (.builtin "sorted") [.lst (cs.map fun c => .tup (.int c.1 :: c.2))] (p.map fun i => ((cs.map fun c => (.tup (.int c.1 :: c.2) : V)).getD i .none)) := ⟨fun O s vs st r => by
  cases r using cC with
  | cons r r' =>
    cases r' using cE
    cases r using cL with
    | @lst a us _ n hL hr =>
      have hlen : us.length = cs.length := by rw [hr.length, List.length_map]
      have tups : ∀ (i : Nat) v, us[i]? = some v → ∃ (a : Addr) (o : Obj) (ws : List Value) (n : Nat) (t : Tok), v = .ref a ∧ s.heap.get? a = some o ∧ o.cls = .type "tuple" ∧ o.data = .seq (List.toArray (.int ((cs.map (·.1)).getD i 0) t :: ws)) n := fun i v hv => by
        refine ngI fun hNg => ?_
        obtain ⟨d, hd, rd⟩ := hr.get hv
        refine ngE hNg ?_
        rw [List.getElem?_map] at hd
        cases hx : cs[i]? with
        | none => rw [hx] at hd; cases hd
        | some x =>
          rw [hx] at hd; cases hd
          cases rd using cT with
          | tup n hT rs =>
            cases rs using cC with
            | cons r1 rs =>
              cases r1 using cI
              refine ngI fun hNg => ?_
              obtain ⟨o, ho, hc, m, hdd⟩ := hT
              refine ngE hNg ?_
              exact ⟨_, o, _, m, _, rfl, ho, hc, by rw [List.getD_eq_getElem?_getD, List.getElem?_map, hx]; exact hdd⟩
      have keepT : ∀ {s' : Shared} {a : Addr} {o : Obj}, Pur g s s' → s.heap.get? a = some o → o.cls = .type "tuple" → s'.heap.get? a = some o := fun p' e hc => p'.keep _ _ (tab_ne_obj st.wd e (by rw [hc]; nofun)) e
      refine wpAny_mono (callSorted (A := A) (intLt_ok (cs.map (·.1))) st.wd hL (by lia) (κ := tuples' true) (fun h2 s' p' => ?_) fun i j x y s' hx hy p' => ?_) (fun v s' q => ?_) fun zz zz x => x
      · have K : ∃ fs, KatTups s'.heap us fs ∧ fs.length = us.length ∧ ∀ v ∈ fs, ∃ i t, v = Value.int i t := by
          have : ∀ (l : List Value), (∀ v ∈ l, v ∈ us) → ∃ fs, KatTups s'.heap l fs ∧ fs.length = l.length ∧ ∀ v ∈ fs, ∃ i t, v = Value.int i t := by
            intro l
            induction l with
            | nil => exact fun zz => ⟨[], trivial, rfl, fun zz h => (nomatch h)⟩
            | cons v l ih =>
              intro hm
              refine ngI fun hNg => ?_
              obtain ⟨fs, k1, k2, k3⟩ := ih fun v hv => hm v (.tail _ hv)
              refine ngE hNg ?_
              refine ngI fun hNg => ?_
              obtain ⟨i, hi, e⟩ := List.mem_iff_getElem.mp (hm v (.head _))
              refine ngE hNg ?_
              refine ngI fun hNg => ?_
              obtain ⟨a, o, ws, n, t, rfl, ho, hc, hdd⟩ := tups i v (e ▸ List.getElem?_eq_getElem hi)
              refine ngE hNg ?_
              exact ⟨_, KatTups.cons (keepT p' ho hc) hc hdd rfl k1, by simp [k2], fun v hv => by
                rcases List.mem_cons.mp hv with e | hv
                · exact ⟨_, _, e⟩
                · exact k3 v hv⟩
          exact this us fun zz h => h
        refine ngI fun hNg => ?_
        obtain ⟨fs, k1, k2, k3⟩ := K
        refine ngE hNg ?_
        refine kat_kind (T := .type "int") k1 (by lia) (fun v hv => ?_) rfl ⟨rfl, Pur.refl p'.wd⟩
        refine ngI fun hNg => ?_
        obtain ⟨i, t, rfl⟩ := k3 v hv
        refine ngE hNg ?_
        exact Looks.of_pure rfl
      · by_cases ne : i = j
        · subst ne
          have exy : x = y := Option.some.inj (hx.symm.trans hy)
          subst exy
          refine ngI fun hNg => ?_
          obtain ⟨a, o, ws, n, t, rfl, ho, hc, hdd⟩ := tups i _ hx
          refine ngE hNg ?_
          refine kat_lt (keepT p' ho hc) hdd (keepT p' ho hc) hdd ?_
          refine kat_same ⟨?_, Pur.refl p'.wd⟩ _ _
          simp [intLt]
        refine ngI fun hNg => ?_
        obtain ⟨a, o, ws, n, t, rfl, ho, hc, hdd⟩ := tups i _ hx
        refine ngE hNg ?_
        refine ngI fun hNg => ?_
        obtain ⟨a', o', ws', n', t', rfl, ho', hc', hdd'⟩ := tups j _ hy
        refine ngE hNg ?_
        refine kat_lt (keepT p' ho hc) hdd (keepT p' ho' hc') hdd' ?_
        have hi := (List.getElem?_eq_some_iff.mp hx).1
        have hj := (List.getElem?_eq_some_iff.mp hy).1
        refine kat_cons ((SeqAt.EqAt.int_int _ _ _ _) _ _ _ _ ?_)
        have e1 : ((cs.map (·.1)).getD i 0 == (cs.map (·.1)).getD j 0) = false := by simpa using hd i j (by lia) (by lia) ne
        rw [e1]
        exact kat_no (oneLt_int ⟨rfl, Pur.refl p'.wd⟩)
      · have := q.fresh (intLt_ok (cs.map (·.1))) (fun q hq => .inl (st.tabU q hq)) hr (p := p) (by rw [List.length_map]; exact hp)
        exact this⟩
end
end
section
local macro_rules | `(tactic| walk_at "same") => `(tactic| first | with_reducible rfl | (congr 2; omega) | (congr 2; simp; done) | (congr 3; omega))
local macro_rules | `(tactic| walk_at "mem") => `(tactic| (repeat (first | with_reducible exact mem_at | with_reducible exact mem_put_at | ((with_reducible refine' mem_put_eq ?_); walk_at "same") | (with_reducible refine' mem_put_of ?_ (by decide)) | ((with_reducible refine' mem_at_eq ?_); walk_at "same") | with_reducible refine' mem_of ?_)))
local macro_rules | `(tactic| walk_at "sub") => `(tactic| (repeat (first | with_reducible exact sub_nil | ((with_reducible refine' sub_cons ?_ ?_); walk_at "mem"))))
local macro_rules | `(tactic| walk_at "apart") => `(tactic| (repeat (first | with_reducible exact apart_nil | (with_reducible refine' apart_cons (by decide) ?_))))
local macro_rules | `(tactic| walk_at "loc") => `(tactic| (with_reducible refine' cs_local ?_; kernel_rfl!))
local macro_rules | `(tactic| walk_at "at") => `(tactic| ((with_reducible apply isAt); with_unfolding_all rfl))
local macro_rules | `(tactic| walk_at "eq") => `(tactic| ((with_reducible apply idEq); first | assumption | walk_at "at" | with_reducible rfl | kernel_rfl! | rfl | with_unfolding_all rfl | decide))
local macro_rules | `(tactic| walk_at "prop") => `(tactic| ((with_reducible apply idP); first | assumption | walk_at "eq" | exact Nat.le_of_ble_eq_true rfl | (intro _ _; rfl) | (intro _; rfl) | decide))
local macro_rules | `(tactic| walk_at "leaf") => `(tactic| first | ((with_reducible apply isMem); walk_at "mem"; done) | ((with_reducible apply idEq); decide) | walk_at "prop" | skip)
local macro_rules | `(tactic| walk_at "evp") => `(tactic| (first | (with_reducible (first | exact Ev.int | exact Ev.str | exact Ev.bool | exact Ev.none)) | ((with_reducible apply Ev.name) <;> walk_at "leaf") | ((with_reducible (first | apply Ev.bin | apply Ev.neg | apply Ev.cmp | apply Ev.tuple | apply Ev.tupToI | apply Ev.tupFromI | apply Ev.sliceS | apply Ev.orB)) <;> walk_at "go")))
local macro_rules | `(tactic| walk_at "evc") => `(tactic| ((with_reducible (first | apply Ev.len | apply Ev.lenS | apply Ev.abs | apply Ev.range1 | apply Ev.range2 | apply Ev.strI | apply Ev.startswith | apply Ev.endswith | apply Ev.find)) <;> walk_at "go"))
local macro_rules | `(tactic| walk_at "evi") => `(tactic| ((with_reducible (first | apply Ev.itemT | apply Ev.itemN)) <;> walk_at "go"))
local macro_rules | `(tactic| walk_at "op") => `(tactic| (first | (with_reducible (first | exact Op.add | exact Op.sub)) | ((with_reducible (first | apply Op.mul | apply Op.mod | apply Op.fdiv | apply Op.pow | apply Op.cat | apply Op.catT | apply Op.braces | apply Op.fmt3)) <;> walk_at "go")))
local macro_rules | `(tactic| walk_at "cmp") => `(tactic| (with_reducible (first | exact Cmp.lt | exact Cmp.le | exact Cmp.gt | exact Cmp.eq | exact Cmp.ne | exact Cmp.eqS | exact Cmp.neS | exact Cmp.ltS | exact Cmp.gtS | exact Cmp.isNone | exact Cmp.isNoneObj | exact Cmp.isNoneInt | exact Cmp.isNot)))
local macro_rules | `(tactic| walk_at "tr") => `(tactic| first
  | ((with_reducible apply Tr.cmp) <;> walk_at "go")
  | ((with_reducible apply Tr.not) <;> walk_at "go")
  | ((with_reducible refine' Tr.or ?_ (fun zz => ?_)) <;> walk_at "go")
  | ((with_reducible refine' Tr.and ?_ (fun zz => ?_)) <;> walk_at "go")
  | ((with_reducible refine' Tr.val ?_ Tru.bool ?_) <;> walk_at "go"))
local macro_rules | `(tactic| walk_at "go") => `(tactic| first
  | walk_at "evp"
  | ((with_reducible apply isEv); first | walk_at "evi" | walk_at "evc")
  | ((with_reducible apply isOp); walk_at "op")
  | ((with_reducible apply isCmp); walk_at "cmp")
  | ((with_reducible apply isTr); walk_at "tr")
  | with_reducible exact Evs.nil
  | ((with_reducible apply Evs.cons) <;> walk_at "go")
  | ((with_reducible apply Asg.name) <;> walk_at "loc")
  | walk_at "loc"
  | walk_at "prop"
  | skip)
local macro_rules | `(tactic| walk_at "assign") => `(tactic| ((with_reducible apply X.assign) <;> walk_at "go"))
local macro_rules | `(tactic| walk_at "ret") => `(tactic| ((with_reducible apply X.ret) <;> walk_at "go"))
section
variable {s₀ : Shared} {U₀ : Addr → Prop}
theorem bisect_left_body (H : Base g) {xs : List V} {x : V} {c : Nat} (hc : c ≤ xs.length) (hlen : xs.length ≤ 100) (hcmp : ∀ A F ρ i d, xs[i]? = some d → Cmp g A F ρ .Lt d x (decide (i < c))) {A : Around} {U : Addr → Prop} {s : Shared} (hA : AOk 0 A) :
    X g A (mkF (fd g 99) 99 U s) (slots ["a", "x", "lo", "hi", "key"] [.lst xs, x, .int 0, .none, .none]) (bodyOf (fd g 99)) (Ends (.int c)) := by
  have hh := hA.hh
  show X g A (mkF (fd g 99) 99 U s) [("a", .imm (.lst xs)), ("x", .imm x), ("lo", .imm (.int 0)), ("hi", .imm .none), ("key", .imm .none)] (bodyOf (fd g 99)) (Ends _)
  conv => arg 5; whnf
  with_reducible apply X.ifE
  · walk_at "tr"
  · decide
  with_reducible apply X.ifT
  · walk_at "tr"
  · rfl
  with_reducible apply X.assignAs (d := (.int xs.length))
  (· rfl); (· walk_at "loc"); walk_at "go"
  · lia
  · rfl
  with_reducible apply X.nilK
  with_reducible apply X.ifT
  · walk_at "tr"
  · rfl
  refine X.whileS (α := Nat × Nat) (fun q => [("a", .imm (.lst xs)), ("x", .imm x), ("lo", .imm (.int q.1)), ("hi", .imm (.int q.2))]) (fun q => q.1 ≤ c ∧ c ≤ q.2 ∧ q.2 ≤ xs.length) (fun q => q.2 - q.1) (fun q => decide ((q.1 : Int) < q.2)) (0, xs.length) ⟨Nat.zero_le _, hc, Nat.le_refl _⟩ (by simp only [Int.natCast_zero]; walk_at "sub") ?_ ?_ ?_
  all_goals (rintro ⟨lo, hi⟩ ⟨h1, h2, h3⟩; simp only at h1 h2 h3)
  · walk_at "tr"
  · intro hb
    have hlt : lo < hi := by simpa using hb
    with_reducible apply X.assignAs (d := (.int ((lo + hi) / 2 : Nat)))
    (· rfl); (· walk_at "loc"); walk_at "go"
    · show V.int (((lo : Int) + hi).fdiv 2) = _
      exact congrArg V.int (mid_i lo hi)
    have hm : (lo + hi) / 2 < xs.length := Nat.lt_of_lt_of_le (mid_lt hlt) h3
    have hx := List.getElem?_eq_getElem hm
    with_reducible apply X.ifS (b := decide ((lo + hi) / 2 < c))
    · with_reducible apply Tr.cmp
      · (with_reducible apply Ev.itemN) <;> walk_at "go"
        lia
      · walk_at "go"
      · exact hcmp _ _ _ _ _ hx
      · rfl
    · intro hb
      have hb' : (lo + hi) / 2 < c := by simpa using hb
      with_reducible apply X.assignAs (d := (.int ((lo + hi) / 2 + 1 : Nat)))
      (· rfl); (· walk_at "loc"); walk_at "go"
      · push_cast; rfl
      with_reducible apply X.nilK
      with_reducible apply X.nil
      exact ⟨((lo + hi) / 2 + 1, hi), ⟨Nat.succ_le_of_lt hb', h2, h3⟩, mid_r hlt, by walk_at "sub"⟩
    · intro hb
      have hb' : c ≤ (lo + hi) / 2 := by simpa using hb
      with_reducible apply X.assignAs (d := (.int ((lo + hi) / 2 : Nat)))
      (· rfl); (· walk_at "loc"); walk_at "go"
      · rfl
      with_reducible apply X.nilK
      with_reducible apply X.nil
      exact ⟨(lo, (lo + hi) / 2), ⟨h1, hb', Nat.le_of_lt hm⟩, mid_l hlt, by walk_at "sub"⟩
  · intro hb
    have hge : ¬ lo < hi := by simpa using hb
    have e : lo = c := Nat.le_antisymm h1 (Nat.le_trans h2 (Nat.not_lt.mp hge))
    with_reducible apply X.nilK
    with_reducible apply X.ret
    · walk_at "go"
    · rw [e]; rfl
theorem bisect_left_none (H : Base g) (w₀ : Wd g s₀) {xs : List V} {x : V} {c : Nat} (hc : c ≤ xs.length) (hlen : xs.length ≤ 100) (hcmp : ∀ A F ρ i d, xs[i]? = some d → Cmp g A F ρ .Lt d x (decide (i < c))) : Fn g 1 (.ref 99) [] s₀ U₀ [.lst xs, x] [] (.int c) := by
  refine Fn.def (names := ["a", "x", "lo", "hi", "key"]) (ds := [.lst xs, x, .int 0, .none, .none]) H (by kernel_rfl) w₀ ?_ fun A U s hA zz zz => bisect_left_body H hc hlen hcmp hA
  intro vsP vsK hP hK
  obtain ⟨v1, v2, rfl⟩ := len2 hP
  obtain rfl := len0 hK
  refine ⟨[v1, v2, .int 0 310, .none, .none], fun S => by kernel_rfl, fun h U r zz => ?_⟩
  cases r using cC with | cons r1 r => cases r using cC with | cons r2 r => exact .cons r1 (.cons r2 (.cons (.int _ _) (.cons .none (.cons .none .nil))))
end
section
variable {s₀ : Shared} {U₀ : Addr → Prop}
theorem bisect_right_body (H : Base g) {xs : List V} {x : V} {c : Nat} (hc : c ≤ xs.length) (hlen : xs.length ≤ 100) (hcmp : ∀ A F ρ i d, xs[i]? = some d → Cmp g A F ρ .Lt x d (decide (c ≤ i))) {A : Around} {U : Addr → Prop} {s : Shared} (hA : AOk 0 A) :
    X g A (mkF (fd g 81) 81 U s) (slots ["a", "x", "lo", "hi", "key"] [.lst xs, x, .int 0, .none, .none]) (bodyOf (fd g 81)) (Ends (.int c)) := by
  have hh := hA.hh
  show X g A (mkF (fd g 81) 81 U s) [("a", .imm (.lst xs)), ("x", .imm x), ("lo", .imm (.int 0)), ("hi", .imm .none), ("key", .imm .none)] (bodyOf (fd g 81)) (Ends _)
  conv => arg 5; whnf
  with_reducible apply X.ifE
  · walk_at "tr"
  · decide
  with_reducible apply X.ifT
  · walk_at "tr"
  · rfl
  with_reducible apply X.assignAs (d := (.int xs.length))
  (· rfl); (· walk_at "loc"); walk_at "go"
  · lia
  · rfl
  with_reducible apply X.nilK
  with_reducible apply X.ifT
  · walk_at "tr"
  · rfl
  refine X.whileS (α := Nat × Nat) (fun q => [("a", .imm (.lst xs)), ("x", .imm x), ("lo", .imm (.int q.1)), ("hi", .imm (.int q.2))]) (fun q => q.1 ≤ c ∧ c ≤ q.2 ∧ q.2 ≤ xs.length) (fun q => q.2 - q.1) (fun q => decide ((q.1 : Int) < q.2)) (0, xs.length) ⟨Nat.zero_le _, hc, Nat.le_refl _⟩ (by simp only [Int.natCast_zero]; walk_at "sub") ?_ ?_ ?_
  all_goals (rintro ⟨lo, hi⟩ ⟨h1, h2, h3⟩; simp only at h1 h2 h3)
  · walk_at "tr"
  · intro hb
    have hlt : lo < hi := by simpa using hb
    with_reducible apply X.assignAs (d := (.int ((lo + hi) / 2 : Nat)))
    (· rfl); (· walk_at "loc"); walk_at "go"
    · show V.int (((lo : Int) + hi).fdiv 2) = _
      exact congrArg V.int (mid_i lo hi)
    have hm : (lo + hi) / 2 < xs.length := Nat.lt_of_lt_of_le (mid_lt hlt) h3
    have hx := List.getElem?_eq_getElem hm
    with_reducible apply X.ifS (b := decide (c ≤ (lo + hi) / 2))
    · with_reducible apply Tr.cmp
      · walk_at "go"
      · (with_reducible apply Ev.itemN) <;> walk_at "go"
        lia
      · exact hcmp _ _ _ _ _ hx
      · rfl
    · intro hb
      have hb' : c ≤ (lo + hi) / 2 := by simpa using hb
      with_reducible apply X.assignAs (d := (.int ((lo + hi) / 2 : Nat)))
      (· rfl); (· walk_at "loc"); walk_at "go"
      · rfl
      with_reducible apply X.nilK
      with_reducible apply X.nil
      exact ⟨(lo, (lo + hi) / 2), ⟨h1, hb', Nat.le_of_lt hm⟩, mid_l hlt, by walk_at "sub"⟩
    · intro hb
      have hb' : (lo + hi) / 2 < c := by simpa using hb
      with_reducible apply X.assignAs (d := (.int ((lo + hi) / 2 + 1 : Nat)))
      (· rfl); (· walk_at "loc"); walk_at "go"
      · push_cast; rfl
      with_reducible apply X.nilK
      with_reducible apply X.nil
      exact ⟨((lo + hi) / 2 + 1, hi), ⟨Nat.succ_le_of_lt hb', h2, h3⟩, mid_r hlt, by walk_at "sub"⟩
  · intro hb
    have hge : ¬ lo < hi := by simpa using hb
    have e : lo = c := Nat.le_antisymm h1 (Nat.le_trans h2 (Nat.not_lt.mp hge))
    with_reducible apply X.nilK
    with_reducible apply X.ret
    · walk_at "go"
    · rw [e]; rfl
theorem bisect_right_none4 (H : Base g) (w₀ : Wd g s₀) {xs : List V} {x : V} {c : Nat} (hc : c ≤ xs.length) (hlen : xs.length ≤ 100) (hcmp : ∀ A F ρ i d, xs[i]? = some d → Cmp g A F ρ .Lt x d (decide (c ≤ i))) : Fn g 1 (.ref 81) [] s₀ U₀ [.lst xs, x, .int 0, .none] [] (.int c) := by
  refine Fn.def (names := ["a", "x", "lo", "hi", "key"]) (ds := [.lst xs, x, .int 0, .none, .none]) H (by kernel_rfl) w₀ ?_ fun A U s hA zz zz => bisect_right_body H hc hlen hcmp hA
  intro vsP vsK hP hK
  obtain ⟨v1, v2, v3, v4, rfl⟩ := len4 hP
  obtain rfl := len0 hK
  exact ⟨[v1, v2, v3, v4, .none], fun S => by kernel_rfl, fun h U r zz => r.append (.one .none)⟩
end
section
variable {s₀ : Shared} {U₀ : Addr → Prop}
theorem bisect_left_key (H : Base g) (w₀ : Wd g s₀) {n : Nat} {kf : Addr} {kd : V → V} {xs : List V} {x : V} {c : Nat} (hc : c ≤ xs.length) (hlen : xs.length ≤ 100) (hkey : ∀ d ∈ xs, Fn g n (.ref kf) [] s₀ U₀ [d] [] (kd d)) (hcmp : ∀ A F ρ i d, xs[i]? = some d → Cmp g A F ρ .Lt (kd d) x (decide (i < c))) :
    Fn g (n + 1) (.ref 99) ["key"] s₀ U₀ [.lst xs, x, .int 0, .none] [.val (.ref kf)] (.int c) := by
  refine Fn.def (names := ["a", "x", "lo", "hi", "key"]) (ds := [.lst xs, x, .int 0, .none, .val (.ref kf)]) H (by kernel_rfl) w₀ ?_ ?_
  · intro vsP vsK hP hK
    obtain ⟨v1, v2, v3, v4, rfl⟩ := len4 hP
    obtain ⟨v5, rfl⟩ := len1 hK
    refine ⟨[v1, v2, v3, v4, v5], fun S => by kernel_rfl, fun h U r q => ?_⟩
    exact r.append q
  · intro A U s hA p hU
    have hh := hA.hh
    have I : InFn g (mkF (fd g 99) 99 U s) s₀ U₀ := ⟨w₀, p, hU⟩
    show X g A (mkF (fd g 99) 99 U s) [("a", .imm (.lst xs)), ("x", .imm x), ("lo", .imm (.int 0)), ("hi", .imm .none), ("key", .imm (.val (.ref kf)))] (bodyOf (fd g 99)) (Ends _)
    conv => arg 5; whnf
    with_reducible apply X.ifE
    · walk_at "tr"
    · decide
    with_reducible apply X.ifT
    · walk_at "tr"
    · rfl
    with_reducible apply X.assignAs (d := (.int xs.length))
    (· rfl); (· walk_at "loc"); walk_at "go"
    · lia
    · rfl
    with_reducible apply X.nilK
    with_reducible apply X.ifF
    · with_reducible apply Tr.cmp
      · walk_at "go"
      · walk_at "go"
      · with_reducible exact Cmp.isNoneVal
      · rfl
    · rfl
    refine X.whileS (α := Nat × Nat) (fun q => [("a", .imm (.lst xs)), ("x", .imm x), ("lo", .imm (.int q.1)), ("hi", .imm (.int q.2)), ("key", .imm (.val (.ref kf)))]) (fun q => q.1 ≤ c ∧ c ≤ q.2 ∧ q.2 ≤ xs.length) (fun q => q.2 - q.1) (fun q => decide ((q.1 : Int) < q.2)) (0, xs.length) ⟨Nat.zero_le _, hc, Nat.le_refl _⟩ (by simp only [Int.natCast_zero]; walk_at "sub") ?_ ?_ ?_
    all_goals (rintro ⟨lo, hi⟩ ⟨h1, h2, h3⟩; simp only at h1 h2 h3)
    · walk_at "tr"
    · intro hb
      have hlt : lo < hi := by simpa using hb
      with_reducible apply X.assignAs (d := (.int ((lo + hi) / 2 : Nat)))
      (· rfl); (· walk_at "loc"); walk_at "go"
      · show V.int (((lo : Int) + hi).fdiv 2) = _
        exact congrArg V.int (mid_i lo hi)
      have hm : (lo + hi) / 2 < xs.length := Nat.lt_of_lt_of_le (mid_lt hlt) h3
      have hx := List.getElem?_eq_getElem hm
      with_reducible apply X.ifS (b := decide ((lo + hi) / 2 < c))
      · with_reducible apply Tr.cmp
        · refine Ev.callFn (EvV.nameVal ?_ (by decide)) (Evs.cons ?_ .nil rfl) (hkey _ (List.getElem_mem hm)) I hA
          · walk_at "mem"
          · (with_reducible apply Ev.itemN) <;> walk_at "go"
            lia
        · walk_at "go"
        · exact hcmp _ _ _ _ _ hx
        · rfl
      · intro hb
        have hb' : (lo + hi) / 2 < c := by simpa using hb
        with_reducible apply X.assignAs (d := (.int ((lo + hi) / 2 + 1 : Nat)))
        (· rfl); (· walk_at "loc"); walk_at "go"
        · push_cast; rfl
        with_reducible apply X.nilK
        with_reducible apply X.nil
        exact ⟨((lo + hi) / 2 + 1, hi), ⟨Nat.succ_le_of_lt hb', h2, h3⟩, mid_r hlt, by walk_at "sub"⟩
      · intro hb
        have hb' : c ≤ (lo + hi) / 2 := by simpa using hb
        with_reducible apply X.assignAs (d := (.int ((lo + hi) / 2 : Nat)))
        (· rfl); (· walk_at "loc"); walk_at "go"
        · rfl
        with_reducible apply X.nilK
        with_reducible apply X.nil
        exact ⟨(lo, (lo + hi) / 2), ⟨h1, hb', Nat.le_of_lt hm⟩, mid_l hlt, by walk_at "sub"⟩
    · intro hb
      have hge : ¬ lo < hi := by simpa using hb
      have e : lo = c := Nat.le_antisymm h1 (Nat.le_trans h2 (Nat.not_lt.mp hge))
      with_reducible apply X.nilK
      with_reducible apply X.ret
      · walk_at "go"
      · rw [e]; rfl
end
section
variable {s₀ : Shared} {U₀ : Addr → Prop}
theorem bisect_right_key (H : Base g) (w₀ : Wd g s₀) {n : Nat} {kf : Addr} {kd : V → V} {xs : List V} {x : V} {c : Nat} (hc : c ≤ xs.length) (hlen : xs.length ≤ 100) (hkey : ∀ d ∈ xs, Fn g n (.ref kf) [] s₀ U₀ [d] [] (kd d)) (hcmp : ∀ A F ρ i d, xs[i]? = some d → Cmp g A F ρ .Lt x (kd d) (decide (c ≤ i))) :
    Fn g (n + 1) (.ref 81) ["key"] s₀ U₀ [.lst xs, x, .int 0, .none] [.val (.ref kf)] (.int c) := by
  refine Fn.def (names := ["a", "x", "lo", "hi", "key"]) (ds := [.lst xs, x, .int 0, .none, .val (.ref kf)]) H (by kernel_rfl) w₀ ?_ ?_
  · intro vsP vsK hP hK
    obtain ⟨v1, v2, v3, v4, rfl⟩ := len4 hP
    obtain ⟨v5, rfl⟩ := len1 hK
    refine ⟨[v1, v2, v3, v4, v5], fun S => by kernel_rfl, fun h U r q => ?_⟩
    exact r.append q
  · intro A U s hA p hU
    have hh := hA.hh
    have I : InFn g (mkF (fd g 81) 81 U s) s₀ U₀ := ⟨w₀, p, hU⟩
    show X g A (mkF (fd g 81) 81 U s) [("a", .imm (.lst xs)), ("x", .imm x), ("lo", .imm (.int 0)), ("hi", .imm .none), ("key", .imm (.val (.ref kf)))] (bodyOf (fd g 81)) (Ends _)
    conv => arg 5; whnf
    with_reducible apply X.ifE
    · walk_at "tr"
    · decide
    with_reducible apply X.ifT
    · walk_at "tr"
    · rfl
    with_reducible apply X.assignAs (d := (.int xs.length))
    (· rfl); (· walk_at "loc"); walk_at "go"
    · lia
    · rfl
    with_reducible apply X.nilK
    with_reducible apply X.ifF
    · with_reducible apply Tr.cmp
      · walk_at "go"
      · walk_at "go"
      · with_reducible exact Cmp.isNoneVal
      · rfl
    · rfl
    refine X.whileS (α := Nat × Nat) (fun q => [("a", .imm (.lst xs)), ("x", .imm x), ("lo", .imm (.int q.1)), ("hi", .imm (.int q.2)), ("key", .imm (.val (.ref kf)))]) (fun q => q.1 ≤ c ∧ c ≤ q.2 ∧ q.2 ≤ xs.length) (fun q => q.2 - q.1) (fun q => decide ((q.1 : Int) < q.2)) (0, xs.length) ⟨Nat.zero_le _, hc, Nat.le_refl _⟩ (by simp only [Int.natCast_zero]; walk_at "sub") ?_ ?_ ?_
    all_goals (rintro ⟨lo, hi⟩ ⟨h1, h2, h3⟩; simp only at h1 h2 h3)
    · walk_at "tr"
    · intro hb
      have hlt : lo < hi := by simpa using hb
      with_reducible apply X.assignAs (d := (.int ((lo + hi) / 2 : Nat)))
      (· rfl); (· walk_at "loc"); walk_at "go"
      · show V.int (((lo : Int) + hi).fdiv 2) = _
        exact congrArg V.int (mid_i lo hi)
      have hm : (lo + hi) / 2 < xs.length := Nat.lt_of_lt_of_le (mid_lt hlt) h3
      have hx := List.getElem?_eq_getElem hm
      with_reducible apply X.ifS (b := decide (c ≤ (lo + hi) / 2))
      · with_reducible apply Tr.cmp
        · walk_at "go"
        · refine Ev.callFn (EvV.nameVal ?_ (by decide)) (Evs.cons ?_ .nil rfl) (hkey _ (List.getElem_mem hm)) I hA
          · walk_at "mem"
          · (with_reducible apply Ev.itemN) <;> walk_at "go"
            lia
        · exact hcmp _ _ _ _ _ hx
        · rfl
      · intro hb
        have hb' : c ≤ (lo + hi) / 2 := by simpa using hb
        with_reducible apply X.assignAs (d := (.int ((lo + hi) / 2 : Nat)))
        (· rfl); (· walk_at "loc"); walk_at "go"
        · rfl
        with_reducible apply X.nilK
        with_reducible apply X.nil
        exact ⟨(lo, (lo + hi) / 2), ⟨h1, hb', Nat.le_of_lt hm⟩, mid_l hlt, by walk_at "sub"⟩
      · intro hb
        have hb' : (lo + hi) / 2 < c := by simpa using hb
        with_reducible apply X.assignAs (d := (.int ((lo + hi) / 2 + 1 : Nat)))
        (· rfl); (· walk_at "loc"); walk_at "go"
        · push_cast; rfl
        with_reducible apply X.nilK
        with_reducible apply X.nil
        exact ⟨((lo + hi) / 2 + 1, hi), ⟨Nat.succ_le_of_lt hb', h2, h3⟩, mid_r hlt, by walk_at "sub"⟩
    · intro hb
      have hge : ¬ lo < hi := by simpa using hb
      have e : lo = c := Nat.le_antisymm h1 (Nat.le_trans h2 (Nat.not_lt.mp hge))
      with_reducible apply X.nilK
      with_reducible apply X.ret
      · walk_at "go"
      · rw [e]; rfl
end
section
variable {s₀ : Shared} {U₀ : Addr → Prop}
theorem insort_right_none (H : Base g) (w₀ : Wd g s₀) {xs : List V} {x : V} {c : Nat} (hc : c ≤ xs.length) (hlen : xs.length ≤ 100)
    (hbis : ∀ s U, Wd g s → Fn g 1 (.ref 81) [] s U [.lst xs, x, .int 0, .none] [] (.int c)) : Ins g 2 (.ref 72) [] s₀ U₀ xs x [] c where
  at' := let ⟨o, h1, h2, h3⟩ := (IsFn.of H (a := 72) (names := ["a", "x", "lo", "hi", "key"]) (by kernel_rfl)).at'; ⟨72, o, _, rfl, w₀.keep _ _ h1, h2, h3⟩
  run := fun A s U l vs v vsK hA hp hU tabU hU₀ hl hL hr hv hk => by
    cases hk
    refine callRaw (n := 1) (names := ["a", "x", "lo", "hi", "key"]) (vals := [.ref l, v, .int 0 270, .none, .none]) H (by kernel_rfl) hp.wd hA (fun S => by kernel_rfl) hU tabU fun A' s' hA' mk => ?_
    have st1 := mk [.lst xs, x, .int 0, .none, .none] (.cons (.lst hl hL.isList hr) (.cons hv (.cons (.int _ _) (.cons .none (.cons .none .nil)))))
    have st2 := mk [.val (.ref l), .val v, .int 0, .none, .none] (.cons (.val _) (.cons (.val _) (.cons (.int _ _) (.cons .none (.cons .none .nil)))))
    have st := st1.both st2
    have hh := hA'.hh
    have I : InFn g (mkF (fd g 72) 72 U s) s U := ⟨hp.wd, Pur.refl hp.wd, fun zz u => .inl u⟩
    have hB := hbis s U hp.wd
    conv => arg 3; arg 1; whnf
    refine wpAny_execs_cons ?_
    refine wpAny_mono (S1.run (Q := fun r => ∃ ρ', r = .next ρ' ∧ ((("a" : Str), Sl.imm (.val (.ref l))) : Str × Sl) ∈ ρ' ∧ ((("x" : Str), Sl.imm (.val v)) : Str × Sl) ∈ ρ' ∧ ((("lo" : Str), Sl.imm (.int (c : Int))) : Str × Sl) ∈ ρ') ?_ [] s' st) (fun fl s₂ m => ?_) fun zz zz x => x
    · with_reducible apply S1.ifS (b := true)
      · show Tr g A' _ ([("a", .imm (.lst xs)), ("x", .imm x), ("lo", .imm (.int 0)), ("hi", .imm .none), ("key", .imm .none), ("a", .imm (.val (.ref l))), ("x", .imm (.val v)), ("lo", .imm (.int 0)), ("hi", .imm .none), ("key", .imm .none)] : Rho) _ true
        walk_at "tr"
      · intro _
        show X g A' _ ([("a", .imm (.lst xs)), ("x", .imm x), ("lo", .imm (.int 0)), ("hi", .imm .none), ("key", .imm .none), ("a", .imm (.val (.ref l))), ("x", .imm (.val v)), ("lo", .imm (.int 0)), ("hi", .imm .none), ("key", .imm .none)] : Rho) _ _
        with_reducible apply X.assignAs (d := .int (c : Int))
        · rfl
        · walk_at "loc"
        · with_reducible apply Ev.callFn
          case hf => exact EvV.globK (v := .ref 81) H (by kernel_rfl) (by kernel_rfl)
          case h => walk_at "go"
          case k => exact hB
          case I => exact I
          case hA => exact hA'
          all_goals rfl
        · rfl
        · with_reducible apply X.nil
          refine ⟨_, rfl, ?_, ?_, ?_⟩
          all_goals walk_at "mem"
      · intro h; cases h
    · cases fl with
      | next =>
        refine ngI fun hNg => ?_
        obtain ⟨ρ', O', ⟨ρ'', e, ha, hx, hlo⟩, st'⟩ := m
        refine ngE hNg ?_
        cases e
        have p' := st'.pur
        refine wpAny_mono (insertLast st' ha hlo (p'.plainL hp.wd hL) (by rw [hr.length]; exact hc) (by rw [hr.length]; exact Nat.le_trans hlen (by decide)) hx (by rfl) (by rfl) (by decide) (by rfl) (by rfl)) (fun fl s₃ q => ?_) fun zz zz x => x
        refine ngI fun hNg => ?_
        obtain ⟨rfl, q⟩ := q
        refine ngE hNg ?_
        exact ⟨rfl, q.after p'⟩
      | ret v' =>
        refine ngI fun hNg => ?_
        obtain ⟨d, ⟨ρ'', e, _⟩, _⟩ := m
        refine ngE hNg ?_
        cases e
      | brk => exact m.elim
      | cont => exact m.elim
end
section
variable {s₀ : Shared} {U₀ : Addr → Prop}
noncomputable def textOf (sp : Str) (ln : Int) (nm : Str) : Str := if (sp != "~" || ln != 0) = true then sp ++ ":" ++ (toString ln : String) ++ "(" ++ nm ++ ")" else if (nm == "<f>") = true then "{f}" else nm
theorem law_text (H : Base g) (w₀ : Wd g s₀) {sp nm : Str} {ln : Int} (h1 : sp.length ≤ 100) (h2 : nm.length ≤ 100) (h3 : ln.natAbs < 10 ^ 12) : Fn g 1 (.ref 137) [] s₀ U₀ [.tup [.str sp, .int ln, .str nm]] [] (.str (textOf sp ln nm)) := by
  refine Fn.def (names := ["func"]) (ds := [.tup [.str sp, .int ln, .str nm]]) H (by kernel_rfl) w₀ ?_ ?_
  · intro vsP vsK hP hK
    obtain ⟨v1, rfl⟩ := len1 hP
    obtain rfl := len0 hK
    exact ⟨[v1], fun S => by kernel_rfl, fun h U r zz => r⟩
  · intro A U s hA p hU
    have hh := hA.hh
    show X g A (mkF (fd g 137) 137 U s) [("func", .imm (.tup [.str sp, .int ln, .str nm]))] (bodyOf (fd g 137)) (Ends _)
    conv => arg 5; whnf
    with_reducible apply X.assignT
    · walk_at "go"
    · refine Asg.tup hh (.cons (.cons (.cons .nil))) (.cons (.cons (.cons .nil))) ?_
      intro x hx
      simp only [List.mem_cons, List.not_mem_nil, or_false] at hx
      rcases hx with rfl | rfl | rfl <;> walk_at "loc"
    · with_reducible apply X.ifS (b := (sp != "~" || ln != 0))
      · walk_at "tr"
      · intro hb
        have hL : (Str.ofString (toString ln)).length ≤ 13 := by
          have e := int_text_length_le10 (k := 12) (by decide) h3
          rw [PySem.ofString_length]; lia
        have hz : sizeLine = 16777216 := sizeLine_eq
        have l1 : (Str.ofString ":").length = 1 := by decide
        have l2 : (Str.ofString "(").length = 1 := by decide
        have l3 : (Str.ofString ")").length = 1 := by decide
        with_reducible apply X.retAs (d := .str (textOf sp ln nm))
        · with_reducible refine' Ev.bin ?a1 ?b1 ?c1
          case' b1 => walk_at "go"
          case' a1 =>
            with_reducible refine' Ev.bin ?a2 ?b2 ?c2
            case' b2 => walk_at "go"
            case' a2 =>
              with_reducible refine' Ev.bin ?a3 ?b3 ?c3
              case' b3 => walk_at "go"
              case' a3 =>
                with_reducible refine' Ev.bin ?a4 ?b4 ?c4
                case' b4 =>
                  with_reducible refine' Ev.strI ?HH ?aa ?zz ?xx ?mm ?ee
                  case' aa => walk_at "go"
                  case' HH => assumption
                  case' xx => walk_at "prop"
                  case' mm => walk_at "prop"
                  case' ee => walk_at "prop"
                case' a4 => walk_at "go"
          case' c1 => walk_at "op"
          case' c2 => walk_at "op"
          case' c3 => walk_at "op"
          case' c4 => walk_at "op"
          all_goals first | (simp only [PySem.Str.length_append]; lia) | skip
          case' a4 => rw [l1, hz]; lia
          rcases Nat.eq_zero_or_pos ln.natAbs with h0 | h0
          · rw [h0]; exact Nat.le_of_ble_eq_true rfl
          · exact (Nat.log2_lt (by lia)).mpr (Nat.lt_of_lt_of_le h3 (Nat.le_of_ble_eq_true rfl))
        · unfold textOf; rw [if_pos hb]
        · rfl
      · intro hb
        with_reducible apply X.nilK
        have hb' : ¬ (sp != "~" || ln != 0) = true := by rw [hb]; exact Bool.false_ne_true
        with_reducible apply X.ret
        · with_reducible apply Ev.ifte (b := (nm == "<f>")) (d := .str (textOf sp ln nm))
          · walk_at "tr"
          · intro e
            have e2 : textOf sp ln nm = "{f}" := by unfold textOf; rw [if_neg hb', if_pos e]
            rw [e2]; with_reducible exact Ev.str
          · intro e
            have e2 : textOf sp ln nm = nm := by unfold textOf; rw [if_neg hb', if_neg (by rw [e]; exact Bool.false_ne_true)]
            rw [e2]; walk_at "go"
        · rfl
    · rfl
    · rfl
end
section
variable {s₀ : Shared} {U₀ : Addr → Prop}
theorem func_std_string (H : Base g) (w₀ : Wd g s₀) {sp nm : Str} {ln : Int} (h1 : sp.length ≤ 100) (h2 : nm.length ≤ 100) (h3 : ln.natAbs < 10 ^ 12) (hnm : nm = "<f>" ∨ nm = "f" ∨ nm = "<f" ∨ nm = "f>") : Fn g 1 (.ref 49) [] s₀ U₀ [.tup [.str sp, .int ln, .str nm]] [] (.str (textOf sp ln nm)) := by
  refine Fn.def (names := ["func_name"]) (ds := [.tup [.str sp, .int ln, .str nm]]) H (by kernel_rfl) w₀ ?_ ?_
  · intro vsP vsK hP hK
    obtain ⟨v1, rfl⟩ := len1 hP
    obtain rfl := len0 hK
    exact ⟨[v1], fun S => by kernel_rfl, fun h U r zz => r⟩
  · intro A U s hA p hU
    have hh := hA.hh
    have hun : A.units < cLine := hA.units0
    show X g A (mkF (fd g 49) 49 U s) [("func_name", .imm (.tup [.str sp, .int ln, .str nm]))] (bodyOf (fd g 49)) (Ends _)
    conv => arg 5; whnf
    with_reducible apply X.ifS (b := feqs [.str sp, .int ln] [.str "~", .int 0])
    · with_reducible apply Tr.cmp
      · walk_at "go"
      · walk_at "go"
      · exact Cmp.eqT hun rfl rfl
      · kernel_rfl
    · intro hb
      simp only [feqs, feq, Bool.and_true, Bool.and_eq_true, beq_iff_eq] at hb
      obtain ⟨rfl, rfl⟩ := hb
      have hT : textOf "~" 0 nm = if (nm == "<f>") = true then (Str.ofString "{f}") else nm := by unfold textOf; rw [if_neg (by decide)]
      walk_at "assign"
      rcases hnm with rfl | rfl | rfl | rfl
      · with_reducible apply X.ifT
        · walk_at "go"
        · decide +kernel
        · with_reducible apply X.retAs (d := .str (textOf "~" 0 "<f>"))
          · walk_at "go"
          · rw [hT]; congr 1
          · rfl
      all_goals
        with_reducible apply X.ifF
        · walk_at "go"
        · decide +kernel
        · with_reducible apply X.ret
          · walk_at "go"
          · rw [hT, if_neg (by decide)]; rfl
    · intro hb
      have hb' : (sp != "~" || ln != 0) = true := by
        simp only [feqs, feq, Bool.and_true] at hb
        cases h : (sp == "~") <;> simp_all
      with_reducible apply X.retAs (d := .str (textOf sp ln nm))
      · walk_at "go"
        all_goals lia
      · unfold textOf; rw [if_pos hb']
      · rfl
end
section
noncomputable def ltV : V → V → Bool
  | .int a, .int b => decide (a < b)
  | .str x, .str y => decide (x.cps.toList < y.cps.toList)
  | _, _ => false
noncomputable def alikeV : V → V → Bool
  | .int _, .int _ => true
  | .str _, .str _ => true
  | _, _ => false
noncomputable abbrev Keys := List (Nat × Int)
noncomputable def keyV (q : Nat × Int) : V := .tup [.int q.1, .int q.2]
noncomputable def cmpK : Keys → List V → List V → Int
  | [], _, _ => 0
  | (c, d) :: ks, l, r => if ltV (l.getD c .none) (r.getD c .none) = true then -d else if ltV (r.getD c .none) (l.getD c .none) = true then d else cmpK ks l r
theorem alike_inv {a b : V} (h : alikeV a b = true) : (∃ i j, a = .int i ∧ b = .int j) ∨ ∃ x y, a = .str x ∧ b = .str y := by
  unfold alikeV at h
  split at h
  · exact .inl ⟨_, _, rfl, rfl⟩
  · exact .inr ⟨_, _, rfl, rfl⟩
  · cases h
section
variable {A : Around} {F : Fx} {ρ : Rho}
theorem Cmp.ltV {a b : V} (h : alikeV a b = true) : Cmp g A F ρ .Lt a b (Mine.Internal.ltV a b) := by
  rcases alike_inv h with ⟨i, j, rfl, rfl⟩ | ⟨x, y, rfl, rfl⟩
  · exact Cmp.lt
  · exact Cmp.ltS
theorem Cmp.gtV {a b : V} (h : alikeV a b = true) : Cmp g A F ρ .Gt a b (Mine.Internal.ltV b a) := by
  rcases alike_inv h with ⟨i, j, rfl, rfl⟩ | ⟨x, y, rfl, rfl⟩
  · exact Cmp.gt
  · exact Cmp.gtS
theorem Ev.itemTN {e i pos xs} {k : Nat} {d} (h₁ : Ev g A F ρ e (.tup xs)) (h₂ : Ev g A F ρ i (.int (k : Int))) (hx : xs[k]? = some d) (hz : (k : Int) < 2 ^ 63) (hs : ∀ o v, subscripted i false o v = operate [o, v] (getItem o v)) : Ev g A F ρ (.Subscript e i pos) d :=
  .itemT h₁ h₂ (Int.natCast_nonneg k) (by rw [Int.toNat_natCast]; exact hx) hz hs
end
variable {s₀ : Shared} {U₀ : Addr → Prop}
theorem tup_compare (H : Base g) (w₀ : Wd g s₀) {keys : Keys} {l r : List V} (hl : l.length = 8) (hr : r.length = 8) (hk : ∀ q ∈ keys, q.1 < 8) (hal : ∀ c < 8, alikeV (l.getD c .none) (r.getD c .none) = true) :
    Fn g 1 (.ref 35) [] s₀ U₀ [.inst (.lst (keys.map keyV)), .tup l, .tup r] [] (.int (cmpK keys l r)) := by
  refine Fn.def (names := ["self", "left", "right"]) (ds := [.inst (.lst (keys.map keyV)), .tup l, .tup r]) H (by kernel_rfl) w₀ ?_ ?_
  · intro vsP vsK hP hK
    obtain ⟨v1, v2, v3, rfl⟩ := len3 hP
    obtain rfl := len0 hK
    exact ⟨[v1, v2, v3], fun S => by kernel_rfl, fun h U r zz => r⟩
  · intro A U s hA p hU
    have hh := hA.hh
    show X g A (mkF (fd g 35) 35 U s) [("self", .imm (.inst (.lst (keys.map keyV)))), ("left", .imm (.tup l)), ("right", .imm (.tup r))] (bodyOf (fd g 35)) (Ends _)
    conv => arg 5; whnf
    refine X.forL (xs := keys.map keyV) "%i" "%s" hh (Ev.selList H (by walk_at "go")) (.inr ⟨_, _, _, rfl, ?_⟩) (fun zz => [("left", .imm (.tup l)), ("right", .imm (.tup r))]) (fun k => cmpK keys l r = cmpK (keys.drop k) l r) (by decide) (fun zz => by walk_at "apart") rfl (by walk_at "sub") ?_ ?_
    · intro d hd
      obtain ⟨q, _, rfl⟩ := List.mem_map.mp hd
      exact ⟨_, rfl⟩
    · intro k d hd hP hid₁ hid₂
      rw [List.getElem?_map] at hd
      cases hq : keys[k]? with
      | none => rw [hq] at hd; cases hd
      | some q =>
        rw [hq] at hd; cases hd
        obtain ⟨c, dd⟩ := q
        have hc : c < 8 := hk _ (List.mem_of_getElem? hq)
        have hdrop : keys.drop k = (c, dd) :: keys.drop (k + 1) := by
          obtain ⟨hlt, e⟩ := List.getElem?_eq_some_iff.mp hq
          rw [List.drop_eq_getElem_cons hlt, e]
        rw [hdrop] at hP
        have hlc : l[c]? = some (l.getD c .none) := by rw [List.getD_eq_getElem?_getD, List.getElem?_eq_getElem (by lia)]; rfl
        have hrc : r[c]? = some (r.getD c .none) := by rw [List.getD_eq_getElem?_getD, List.getElem?_eq_getElem (by lia)]; rfl
        have hc63 : (c : Int) < 2 ^ 63 := by lia
        refine ⟨_, Asg.tup hh (.cons (.cons .nil)) (.cons (.cons .nil)) ?_, ?_⟩
        · intro x hx
          simp only [List.mem_cons, List.not_mem_nil, or_false] at hx
          rcases hx with rfl | rfl <;> walk_at "loc"
        · with_reducible apply X.assign
          case h => exact Ev.itemTN (by walk_at "go") (by walk_at "go") hlc hc63 (by intro _ _; rfl)
          case hx => walk_at "loc"
          case hs => walk_at "prop"
          with_reducible apply X.assign
          case h => exact Ev.itemTN (by walk_at "go") (by walk_at "go") hrc hc63 (by intro _ _; rfl)
          case hx => walk_at "loc"
          case hs => walk_at "prop"
          with_reducible apply X.ifS (b := ltV (l.getD c .none) (r.getD c .none))
          · exact Tr.cmp (by walk_at "go") (by walk_at "go") (Cmp.ltV (hal c hc)) (by rfl)
          · intro hb
            with_reducible apply X.ret
            · walk_at "go"
            · show V.int (-dd) = _
              rw [hP, cmpK, if_pos hb]
          · intro hb
            with_reducible apply X.nilK
            with_reducible apply X.ifS (b := ltV (r.getD c .none) (l.getD c .none))
            · exact Tr.cmp (by walk_at "go") (by walk_at "go") (Cmp.gtV (hal c hc)) (by rfl)
            · intro hb'
              with_reducible apply X.ret
              · walk_at "go"
              · show V.int dd = _
                rw [hP, cmpK, if_neg (by rw [hb]; decide), if_pos hb']
            · intro hb'
              with_reducible apply X.nilK
              with_reducible apply X.nil
              refine ⟨?_, ?_⟩
              · rw [hP, cmpK, if_neg (by rw [hb]; decide), if_neg (by rw [hb']; decide)]
              · walk_at "sub"
    · intro hP
      rw [List.length_map, List.drop_length] at hP
      with_reducible apply X.ret
      · walk_at "go"
      · rw [hP]; rfl
end
section
variable {s₀ : Shared} {U₀ : Addr → Prop}
theorem insort_right_key (H : Base g) (w₀ : Wd g s₀) {n : Nat} {kf : Addr} {kd : V → V} {xs : List V} {x : V} {c : Nat} (hc : c ≤ xs.length) (hlen : xs.length ≤ 100) (hkx : Fn g n (.ref kf) [] s₀ U₀ [x] [] (kd x)) (hkey : ∀ d ∈ xs, Fn g n (.ref kf) [] s₀ U₀ [d] [] (kd d))
    (hcmp : ∀ A F ρ i d, xs[i]? = some d → Cmp g A F ρ .Lt (kd x) (kd d) (decide (c ≤ i))) : Ins g (n + 2) (.ref 72) ["key"] s₀ U₀ xs x [.val (.ref kf)] c where
  at' := let ⟨o, h1, h2, h3⟩ := (IsFn.of H (a := 72) (names := ["a", "x", "lo", "hi", "key"]) (by kernel_rfl)).at'; ⟨72, o, _, rfl, w₀.keep _ _ h1, h2, h3⟩
  run := fun A s U l vs v vsK hA hp hU tabU hU₀ hl hL hr hv hk => by
    rcases hk with _ | ⟨hk1, hk⟩
    cases hk; cases hk1
    refine callRaw (n := n + 1) (names := ["a", "x", "lo", "hi", "key"]) (vals := [.ref l, v, .int 0 270, .none, .ref kf]) H (by kernel_rfl) hp.wd hA (fun S => by kernel_rfl) hU tabU fun A' s' hA' mk => ?_
    have st1 := mk [.lst xs, x, .int 0, .none, .val (.ref kf)] (.cons (.lst hl hL.isList hr) (.cons hv (.cons (.int _ _) (.cons .none (.cons (.val _) .nil)))))
    have st2 := mk [.val (.ref l), .val v, .int 0, .none, .val (.ref kf)] (.cons (.val _) (.cons (.val _) (.cons (.int _ _) (.cons .none (.cons (.val _) .nil)))))
    have st := st1.both st2
    have hh := hA'.hh
    have I : InFn g (mkF (fd g 72) 72 U s) s₀ U₀ := ⟨w₀, hp, hU₀⟩
    have hB := bisect_right_key (U₀ := U₀) H w₀ hc hlen hkey hcmp
    conv => arg 3; arg 1; whnf
    refine wpAny_execs_cons ?_
    refine wpAny_mono (S1.run (Q := fun r => ∃ ρ', r = .next ρ' ∧ ((("a" : Str), Sl.imm (.val (.ref l))) : Str × Sl) ∈ ρ' ∧ ((("x" : Str), Sl.imm (.val v)) : Str × Sl) ∈ ρ' ∧ ((("lo" : Str), Sl.imm (.int (c : Int))) : Str × Sl) ∈ ρ') ?_ [] s' st) (fun fl s₂ m => ?_) fun zz zz x => x
    · show S1 g A' _ ([("a", .imm (.lst xs)), ("x", .imm x), ("lo", .imm (.int 0)), ("hi", .imm .none), ("key", .imm (.val (.ref kf))), ("a", .imm (.val (.ref l))), ("x", .imm (.val v)), ("lo", .imm (.int 0)), ("hi", .imm .none), ("key", .imm (.val (.ref kf)))] : Rho) _ _
      with_reducible apply S1.ifS (b := false)
      · exact Tr.cmp (by walk_at "go") (by walk_at "go") Cmp.isNoneVal (by rfl)
      · intro h; cases h
      · intro _
        with_reducible apply X.assignAs (d := .int (c : Int))
        · walk_at "prop"
        · walk_at "loc"
        · with_reducible apply Ev.callKw
          case hf => exact EvV.globK (v := .ref 81) H (by kernel_rfl) (by kernel_rfl)
          case h =>
            refine .cons (d := .lst xs) (by walk_at "go") (.cons (d := kd x) ?_ (by walk_at "go") (by rfl)) (by rfl)
            exact Ev.callFn (EvV.nameVal (v := .ref kf) (by walk_at "mem") (by decide)) (by walk_at "go") hkx I (hA'.le (Nat.le_succ n))
          case h₁ => exact Ev.name (d := .val (.ref kf)) (by walk_at "mem") (by decide)
          case k => exact hB
          case I => exact I
          case hA => exact hA'
          all_goals rfl
        · rfl
        · with_reducible apply X.nil
          refine ⟨_, rfl, ?_, ?_, ?_⟩
          all_goals walk_at "mem"
    · cases fl with
      | next =>
        refine ngI fun hNg => ?_
        obtain ⟨ρ', O', ⟨ρ'', e, ha, hx, hlo⟩, st'⟩ := m
        refine ngE hNg ?_
        cases e
        have p' := st'.pur
        refine wpAny_mono (insertLast st' ha hlo (p'.plainL hp.wd hL) (by rw [hr.length]; exact hc) (by rw [hr.length]; exact Nat.le_trans hlen (by decide)) hx (by rfl) (by rfl) (by decide) (by rfl) (by rfl)) (fun fl s₃ q => ?_) fun zz zz x => x
        refine ngI fun hNg => ?_
        obtain ⟨rfl, q⟩ := q
        refine ngE hNg ?_
        exact ⟨rfl, q.after p'⟩
      | ret v' =>
        refine ngI fun hNg => ?_
        obtain ⟨d, ⟨ρ'', e, _⟩, _⟩ := m
        refine ngE hNg ?_
        cases e
      | brk => exact m.elim
      | cont => exact m.elim
theorem insort_left_key (H : Base g) (w₀ : Wd g s₀) {n : Nat} {kf : Addr} {kd : V → V} {xs : List V} {x : V} {c : Nat} (hc : c ≤ xs.length) (hlen : xs.length ≤ 100) (hkx : Fn g n (.ref kf) [] s₀ U₀ [x] [] (kd x)) (hkey : ∀ d ∈ xs, Fn g n (.ref kf) [] s₀ U₀ [d] [] (kd d))
    (hcmp : ∀ A F ρ i d, xs[i]? = some d → Cmp g A F ρ .Lt (kd d) (kd x) (decide (i < c))) : Ins g (n + 2) (.ref 90) ["key"] s₀ U₀ xs x [.val (.ref kf)] c where
  at' := let ⟨o, h1, h2, h3⟩ := (IsFn.of H (a := 90) (names := ["a", "x", "lo", "hi", "key"]) (by kernel_rfl)).at'; ⟨90, o, _, rfl, w₀.keep _ _ h1, h2, h3⟩
  run := fun A s U l vs v vsK hA hp hU tabU hU₀ hl hL hr hv hk => by
    rcases hk with _ | ⟨hk1, hk⟩
    cases hk; cases hk1
    refine callRaw (n := n + 1) (names := ["a", "x", "lo", "hi", "key"]) (vals := [.ref l, v, .int 0 297, .none, .ref kf]) H (by kernel_rfl) hp.wd hA (fun S => by kernel_rfl) hU tabU fun A' s' hA' mk => ?_
    have st1 := mk [.lst xs, x, .int 0, .none, .val (.ref kf)] (.cons (.lst hl hL.isList hr) (.cons hv (.cons (.int _ _) (.cons .none (.cons (.val _) .nil)))))
    have st2 := mk [.val (.ref l), .val v, .int 0, .none, .val (.ref kf)] (.cons (.val _) (.cons (.val _) (.cons (.int _ _) (.cons .none (.cons (.val _) .nil)))))
    have st := st1.both st2
    have hh := hA'.hh
    have I : InFn g (mkF (fd g 90) 90 U s) s₀ U₀ := ⟨w₀, hp, hU₀⟩
    have hB := bisect_left_key (U₀ := U₀) H w₀ hc hlen hkey hcmp
    conv => arg 3; arg 1; whnf
    refine wpAny_execs_cons ?_
    refine wpAny_mono (S1.run (Q := fun r => ∃ ρ', r = .next ρ' ∧ ((("a" : Str), Sl.imm (.val (.ref l))) : Str × Sl) ∈ ρ' ∧ ((("x" : Str), Sl.imm (.val v)) : Str × Sl) ∈ ρ' ∧ ((("lo" : Str), Sl.imm (.int (c : Int))) : Str × Sl) ∈ ρ') ?_ [] s' st) (fun fl s₂ m => ?_) fun zz zz x => x
    · show S1 g A' _ ([("a", .imm (.lst xs)), ("x", .imm x), ("lo", .imm (.int 0)), ("hi", .imm .none), ("key", .imm (.val (.ref kf))), ("a", .imm (.val (.ref l))), ("x", .imm (.val v)), ("lo", .imm (.int 0)), ("hi", .imm .none), ("key", .imm (.val (.ref kf)))] : Rho) _ _
      with_reducible apply S1.ifS (b := false)
      · exact Tr.cmp (by walk_at "go") (by walk_at "go") Cmp.isNoneVal (by rfl)
      · intro h; cases h
      · intro _
        with_reducible apply X.assignAs (d := .int (c : Int))
        · walk_at "prop"
        · walk_at "loc"
        · with_reducible apply Ev.callKw
          case hf => exact EvV.globK (v := .ref 99) H (by kernel_rfl) (by kernel_rfl)
          case h =>
            refine .cons (d := .lst xs) (by walk_at "go") (.cons (d := kd x) ?_ (by walk_at "go") (by rfl)) (by rfl)
            exact Ev.callFn (EvV.nameVal (v := .ref kf) (by walk_at "mem") (by decide)) (by walk_at "go") hkx I (hA'.le (Nat.le_succ n))
          case h₁ => exact Ev.name (d := .val (.ref kf)) (by walk_at "mem") (by decide)
          case k => exact hB
          case I => exact I
          case hA => exact hA'
          all_goals rfl
        · rfl
        · with_reducible apply X.nil
          refine ⟨_, rfl, ?_, ?_, ?_⟩
          all_goals walk_at "mem"
    · cases fl with
      | next =>
        refine ngI fun hNg => ?_
        obtain ⟨ρ', O', ⟨ρ'', e, ha, hx, hlo⟩, st'⟩ := m
        refine ngE hNg ?_
        cases e
        have p' := st'.pur
        refine wpAny_mono (insertLast st' ha hlo (p'.plainL hp.wd hL) (by rw [hr.length]; exact hc) (by rw [hr.length]; exact Nat.le_trans hlen (by decide)) hx (by rfl) (by rfl) (by decide) (by rfl) (by rfl)) (fun fl s₃ q => ?_) fun zz zz x => x
        refine ngI fun hNg => ?_
        obtain ⟨rfl, q⟩ := q
        refine ngE hNg ?_
        exact ⟨rfl, q.after p'⟩
      | ret v' =>
        refine ngI fun hNg => ?_
        obtain ⟨d, ⟨ρ'', e, _⟩, _⟩ := m
        refine ngE hNg ?_
        cases e
      | brk => exact m.elim
      | cont => exact m.elim
end
section
variable {s₀ : Shared} {U₀ : Addr → Prop}
noncomputable def lamArgs (x : Str) (pp : Pos) : Arguments := { posonlyargs := [], args := [{ arg := x, annotation := none, pos := pp }], vararg := none, kwonlyargs := [], kw_defaults := [], kwarg := none, defaults := [] }
noncomputable def cmpBody (p1 p2 p3 p4 p5 : Pos) : Expr := .Call (.Attribute (.Name "comp" p1) "compare" p2) [.Name "one" p3, .Name "row" p4] [] p5
noncomputable def cmpScope : Scope := { kind := .function, names := [("one", .local), ("comp", .free), ("row", .free)], isGenerator := false, isCoroutine := false }
set_option tactic.hygienic true in
theorem lam_compare (H : Base g) (w₀ : Wd g s₀) {fa : Addr} {q : Str} {pp p1 p2 p3 p4 p5 : Pos} {cells : List (Str × Addr)} (hL : LamAt s₀.heap fa q (lamArgs "one" pp) (cmpBody p1 p2 p3 p4 p5) cmpScope cells) {c1 c2 : Addr} {v1 v2 : Value} {keys : Keys} {l row : List V}
    (hl1 : cells.lookup ("comp" : Str) = some c1) (hl2 : cells.lookup ("row" : Str) = some c2) (hc1 : s₀.heap.IsCell c1 (some v1)) (hc2 : s₀.heap.IsCell c2 (some v2)) (r1 : Rep g s₀.heap U₀ (.inst (.lst (keys.map keyV))) v1) (r2 : Rep g s₀.heap U₀ (.tup row) v2)
    (hl : l.length = 8) (hr : row.length = 8) (hk : ∀ q ∈ keys, q.1 < 8) (hal : ∀ c < 8, alikeV (l.getD c .none) (row.getD c .none) = true) {pl : Env → Sem Bool} (hev : ∀ env, eval (cmpBody p1 p2 p3 p4 p5) env = (do
      let ov ← eval (.Name "comp" p1) env
      standAt p2.atName
      let (f, first) ← holding [ov] (getMethod ov "compare" (pl env))
      callWith p5 f first (backTo p5 (starEach [Expr.Name "one" p3, Expr.Name "row" p4] env)) [])) :
    Fn g 2 (.ref fa) [] s₀ U₀ [.tup l] [] (.int (cmpK keys l row)) where
  at' := let ⟨_, _, _, ho, _⟩ := hL; ⟨fa, _, _, rfl, ho, rfl, nofun⟩
  run := fun A s U vsP vsK hA hp hU tabU hU₀ rP rK => by
    cases rK using cE
    rcases rP with _ | ⟨ra, rP⟩
    cases rP
    rename_i va
    refine lamCall (x := "one") (n := 1) H hp.wd hA (hp.lamAt w₀ hL) rfl rfl rfl (by decide) (by decide) (fun pm cv ctv => by rfl) ?_
    rintro A' s' env hA' p' hsc hcl hgl hbu ⟨m, hns, hm⟩
    have hh := hA'.hh
    have kk : env.scope.kind = .function := by rw [hsc]; rfl
    have kd : ∀ x, env.kindOf x = cmpScope.names.lookup x := fun x => by show env.scope.names.lookup x = _; rw [hsc]
    have e1 : env.cells.lookup ("comp" : Str) = some c1 := by rw [hcl]; exact freeOf_lookup hl1 _ _ (.inl (by decide)) nofun
    have e2 : env.cells.lookup ("row" : Str) = some c2 := by rw [hcl]; exact freeOf_lookup hl2 _ _ (.inl (by decide)) nofun
    have pA := hp.trans p'
    have hc1' := pA.isCell w₀ hc1
    have hc2' := pA.isCell w₀ hc2
    have r1' := carry w₀ pA tabU hU₀ r1
    have r2' := carry w₀ pA tabU hU₀ r2
    have ra' : Rep g s'.heap U (.tup l) va := ra.mono (fun zz u n zz => n u) fun b o n e => p'.keep b o (fun q hq e' => n (e' ▸ tabU q hq)) e
    have X' : g.K.In s'.heap := H.inK.keeps p'.wd.keep
    refine MethodCall_ (pl := pl env) ?_ (hev env)
    refine wpAny_Name (wpAny_loadName_free kk ((kd _).trans (by rfl)) e1 hc1' ?_ (by decide)) (by decide)
    cases r1' with
    | @inst x dx od v k n n' hx hd hsl hno r =>
      refine method_fn (K := g.K) (f := 35) X' (instAt hx hd) (by kernel_rfl!) (by kernel_rfl!) (by kernel_rfl!) (by kernel_rfl!) (by show Option.map _ (lookIn "compare" od) = _; rw [hno]; rfl) ?_
      refine ngI fun hNg => ?_
      obtain ⟨o, h1, h2, h3⟩ := (IsFn.of H (a := 35) (names := ["self", "left", "right"]) (by kernel_rfl)).at'
      refine ngE hNg ?_
      refine callWith_function_kw (o := o) (fd := fd g 35) ?_
      have hst : backTo p5 (starEach [Expr.Name "one" p3, Expr.Name "row" p4] env) = [(false, eval (.Name "one" p3) env), (false, eval (.Name "row" p4) env)] := by rfl
      rw [hst]
      refine evalArgs_kw rfl (Calls.spliced_cons (wpAny_Name (wpAny_loadName_local kk ((kd _).trans (by rfl)) hns hm (Calls.spliced_cons (wpAny_Name (wpAny_loadName_free kk ((kd _).trans (by rfl)) e2 hc2' (Calls.spliced_nil (wpAny_evalAll_nil ?_)) (by decide)) (by decide)))) (by decide)))
      refine ⟨⟨p'.wd.keep _ _ h1, h2⟩, ?_⟩
      have T := tup_compare (s₀ := s') (U₀ := U) H p'.wd hl hr hk hal
      refine wpAny_mono (T.run A' s' U [.ref x, va, v2] [] hA' (Pur.refl p'.wd) (fun a u => p'.live (hU a u)) tabU (fun a u => .inl u) (.cons (.inst n n' hx hd hsl hno r) (.cons ra' (.one r2'))) .nil) (fun v s₂ q => ⟨p'.trans q.1, q.2⟩) fun zz zz x => x
end
section
noncomputable def keyT (total : Int) (k : Nat) : Int := total.fdiv (3 * 20 ^ k)
noncomputable def keyAt (total : Int) (k : Nat) : Nat × Int :=
  (((keyT total k).fmod 8).toNat, if (((keyT total k).fdiv 8).fmod 2 == 1) = true then 1 + (if keyT total k < 0 then -keyT total k else keyT total k) else -1 - (if keyT total k < 0 then -keyT total k else keyT total k))
noncomputable def lawKeys (total : Int) : Keys := (List.range (1 + total.fmod 3).toNat).map (keyAt total)
theorem fmod3 (total : Int) : 0 ≤ total.fmod 3 ∧ total.fmod 3 < 3 := ⟨Int.fmod_nonneg_of_pos _ (by decide), Int.fmod_lt_of_pos _ (by decide)⟩
theorem lawKeys_col {total : Int} : ∀ q ∈ lawKeys total, q.1 < 8 := fun q hq => by
  obtain ⟨k, _, rfl⟩ := List.mem_map.mp hq
  show ((keyT total k).fmod 8).toNat < 8
  have := Int.fmod_lt_of_pos (keyT total k) (b := 8) (by decide)
  have := Int.fmod_nonneg_of_pos (keyT total k) (b := 8) (by decide)
  lia
variable {s₀ : Shared} {U₀ : Addr → Prop}
theorem law_keys (H : Base g) (w₀ : Wd g s₀) {total : Int} : Fn g 1 (.ref 120) [] s₀ U₀ [.int total] [] (.lst ((lawKeys total).map keyV)) := by
  refine Fn.def (names := ["total"]) (ds := [.int total]) H (by kernel_rfl) w₀ ?_ ?_
  · intro vsP vsK hP hK
    obtain ⟨v1, rfl⟩ := len1 hP
    obtain rfl := len0 hK
    exact ⟨[v1], fun S => by kernel_rfl, fun h U r zz => r⟩
  · intro A U s hA p hU
    have hh := hA.hh
    have h3 := fmod3 total
    show X g A (mkF (fd g 120) 120 U s) [("total", .imm (.int total))] (bodyOf (fd g 120)) (Ends _)
    conv => arg 5; whnf
    with_reducible apply X.assignF
    case h => exact EvF.list .nil (by decide)
    case hx => walk_at "loc"
    case hs => walk_at "prop"
    refine X.forR (a := 0) (b := 1 + total.fmod 3) "%i" "%s" hh ?_ (by decide) (by decide) (by lia) (by lia) (by walk_at "loc") (fun k => [("total", .imm (.int total)), ("keys", .own (((List.range k).map (keyAt total)).map keyV))]) (fun zz => True) (by decide) (fun zz => by walk_at "apart") trivial (by walk_at "sub") ?_ ?_ (by intro _; rfl)
    · walk_at "go"
    · intro k hk _ hid₁ hid₂
      rw [show (0 : Int) + (k : Int) = k from Int.zero_add _]
      have hk3 : k < 3 := by lia
      have hpow : (3 * 20 ^ k : Int).natAbs < 1073741824 ∧ (3 * 20 ^ k : Int) ≠ 0 := by
        match k, hk3 with
        | 0, _ => exact ⟨by decide, by decide⟩
        | 1, _ => exact ⟨by decide, by decide⟩
        | 2, _ => exact ⟨by decide, by decide⟩
      have hbits : Builtin.Int.intBits 20 = 5 := by decide +kernel
      with_reducible apply X.assignAs (d := .int (keyT total k))
      · walk_at "prop"
      · walk_at "loc"
      · walk_at "go"
        · lia
        · rw [hbits]; lia
        · exact .of_left (by decide +kernel)
        · exact hpow.2
        · exact hpow.1
      · rfl
      with_reducible apply X.append (xs := ((List.range k).map (keyAt total)).map keyV) (d := keyV (keyAt total k))
      · walk_at "mem"
      · refine Ev.cast (d := .tup [.int ((keyT total k).fmod 8), .int (if (((keyT total k).fdiv 8).fmod 2 == 1) = true then 1 + (if keyT total k < 0 then -keyT total k else keyT total k) else -1 - (if keyT total k < 0 then -keyT total k else keyT total k))]) ?_ ?_
        · refine Ev.tuple (.cons (by walk_at "go") (.cons ?_ .nil (by rfl)) (by rfl)) (Nat.le_of_ble_eq_true rfl)
          with_reducible apply Ev.ifte (b := ((keyT total k).fdiv 8).fmod 2 == 1)
          · walk_at "go"
          · intro hb; rw [if_pos hb]; walk_at "go"
          · intro hb; rw [if_neg (by rw [hb]; decide)]; walk_at "go"
        · have : (((keyT total k).fmod 8).toNat : Int) = (keyT total k).fmod 8 := Int.toNat_of_nonneg (Int.fmod_nonneg_of_pos _ (by decide))
          simp only [keyV, keyAt, this]
      · rw [List.length_map, List.length_map, List.length_range, sizeLine_eq]; lia
      all_goals (try walk_at "prop")
      with_reducible apply X.nil
      refine ⟨trivial, ?_⟩
      rw [List.range_succ, List.map_append, List.map_append]
      walk_at "sub"
    · intro _
      rw [show (1 + total.fmod 3 - 0).toNat = (1 + total.fmod 3).toNat by lia]
      refine X.freezeL (x := "keys") (by walk_at "mem") ?_
      with_reducible apply X.ret
      · walk_at "go"
      · rfl
end
section
noncomputable def fitsGo (n : Nat) : Int → Bool → List Nat → List Bool → Bool
  | place, free, [], _ => free || place == (n : Int) - 1
  | place, free, p :: ps, gs => if (decide ((p : Int) ≤ place) || (decide ((p : Int) > place + 1) && !free)) = true then false else fitsGo n p (gs.headD false) ps gs.tail
noncomputable def fits (picks : List Nat) (gaps : List Bool) (n : Nat) : Bool := fitsGo n (-1) (gaps.headD false) picks gaps.tail
noncomputable def natsV (xs : List Nat) : List V := xs.map fun (k : Nat) => .int (k : Int)
noncomputable def boolsV (xs : List Bool) : List V := xs.map .bool
noncomputable def placeAt (picks : List Nat) (k : Nat) : Int := if k = 0 then -1 else (picks.getD (k - 1) 0 : Nat)
variable {s₀ : Shared} {U₀ : Addr → Prop}
theorem sub0 {k n : Nat} (h : k < ((n : Int) - 0).toNat) : k < n := by
  rw [Int.sub_zero, Int.toNat_natCast] at h; exact h
theorem law_fits (H : Base g) (w₀ : Wd g s₀) {picks : List Nat} {gaps : List Bool} {n : Nat} (hg : gaps.length = picks.length + 1) (hz : picks.length ≤ 1000) : Fn g 1 (.ref 154) [] s₀ U₀ [.lst (natsV picks), .lst (boolsV gaps), .int n] [] (.bool (fits picks gaps n)) := by
  refine Fn.def (names := ["picks", "gaps", "n"]) (ds := [.lst (natsV picks), .lst (boolsV gaps), .int n]) H (by kernel_rfl) w₀ ?_ ?_
  · intro vsP vsK hP hK
    obtain ⟨v1, v2, v3, rfl⟩ := len3 hP
    obtain rfl := len0 hK
    exact ⟨[v1, v2, v3], fun S => by kernel_rfl, fun h U r zz => r⟩
  · intro A U s hA p hU
    have hh := hA.hh
    have gi : ∀ k, k ≤ picks.length → (boolsV gaps)[k]? = some (.bool (gaps.getD k false)) := fun k hk => by
      rw [boolsV, List.getElem?_map, List.getD_eq_getElem?_getD, List.getElem?_eq_getElem (by lia)]; rfl
    have pi : ∀ k, k < picks.length → (natsV picks)[k]? = some (.int (picks.getD k 0 : Nat)) := fun k hk => by
      rw [natsV, List.getElem?_map, List.getD_eq_getElem?_getD, List.getElem?_eq_getElem (by lia)]; rfl
    have hpl : (natsV picks).length = picks.length := by rw [natsV, List.length_map]
    show X g A (mkF (fd g 154) 154 U s) [("picks", .imm (.lst (natsV picks))), ("gaps", .imm (.lst (boolsV gaps))), ("n", .imm (.int n))] (bodyOf (fd g 154)) (Ends _)
    conv => arg 5; whnf
    with_reducible apply X.assignSw (ds := [.int (-1), .bool (gaps.getD 0 false)]) (names := ["place", "free"])
    case hh => exact hh
    case h =>
      refine Ev.tuple (.cons (by walk_at "go") (.cons ?_ .nil (by rfl)) (by rfl)) (Nat.le_of_ble_eq_true rfl)
      exact Ev.itemI (by walk_at "go") (by walk_at "go") (by rfl) (gi 0 (Nat.zero_le _)) (by decide) (by intro _ _; rfl)
    case hlen => rfl
    case p => exact .cons (.cons .nil)
    case hx =>
      intro x hx
      simp only [List.reverse_cons, List.reverse_nil, List.nil_append, List.cons_append, List.mem_cons, List.not_mem_nil, or_false] at hx
      rcases hx with rfl | rfl <;> walk_at "loc"
    case hs => walk_at "prop"
    case hw => walk_at "prop"
    refine X.forR (a := 0) (b := picks.length) "%i" "%s" hh ?_ (by decide) (by decide) (by lia) (by lia) (by walk_at "loc")
      (fun k => [("picks", .imm (.lst (natsV picks))), ("gaps", .imm (.lst (boolsV gaps))), ("n", .imm (.int n)), ("place", .imm (.int (placeAt picks k))), ("free", .imm (.bool (gaps.getD k false)))])
      (fun k => fits picks gaps n = fitsGo n (placeAt picks k) (gaps.getD k false) (picks.drop k) (gaps.drop (k + 1))) (by decide) (fun zz => by walk_at "apart") ?_ (by rw [show placeAt picks 0 = -1 from rfl]; walk_at "sub") ?_ ?_ (by intro _; rfl)
    · rw [← hpl]; walk_at "go"
      rw [hpl]; lia
    · show _ = fitsGo n (-1) (gaps.getD 0 false) picks (gaps.drop 1)
      rw [fits]; cases gaps <;> rfl
    · intro k hk hP hid₁ hid₂
      have hk' : k < picks.length := sub0 hk
      rw [show (0 : Int) + (k : Int) = k from Int.zero_add _]
      have hdrop : picks.drop k = picks.getD k 0 :: picks.drop (k + 1) := by
        rw [List.drop_eq_getElem_cons hk', List.getD_eq_getElem?_getD, List.getElem?_eq_getElem hk']; rfl
      have hgd : gaps.drop (k + 1) = gaps.getD (k + 1) false :: gaps.drop (k + 2) := by
        rw [List.drop_eq_getElem_cons (by lia), List.getD_eq_getElem?_getD, List.getElem?_eq_getElem (by lia)]; rfl
      have hpe : ∀ {ρ i pos x}, Ev g A (mkF (fd g 154) 154 U s) ρ x (.lst (natsV picks)) → Ev g A (mkF (fd g 154) 154 U s) ρ i (.int (k : Int)) → (∀ o v, subscripted i false o v = operate [o, v] (getItem o v)) → Ev g A (mkF (fd g 154) 154 U s) ρ (.Subscript x i pos) (.int (picks.getD k 0 : Nat)) := fun h1 h2 hs => Ev.itemI h1 h2 (by rfl) (pi k hk') (by lia) hs
      rw [hdrop, hgd, fitsGo] at hP
      with_reducible apply X.ifS (b := (decide (((picks.getD k 0 : Nat) : Int) ≤ placeAt picks k) || (decide (((picks.getD k 0 : Nat) : Int) > placeAt picks k + 1) && !(gaps.getD k false))))
      · refine Tr.or (Tr.cmp (hpe (by walk_at "go") (by walk_at "go") (by intro _ _; rfl)) (by walk_at "go") Cmp.le (by rfl)) fun zz => Tr.and (Tr.cmp (hpe (by walk_at "go") (by walk_at "go") (by intro _ _; rfl)) (by walk_at "go") Cmp.gt (by rfl)) fun zz => ?_
        walk_at "tr"
      · intro hb
        with_reducible apply X.ret
        · walk_at "go"
        · rw [hP, if_pos hb]; rfl
      · intro hb
        with_reducible apply X.nilK
        rw [if_neg (by rw [hb]; decide)] at hP
        with_reducible apply X.assignSw (ds := [.int (picks.getD k 0 : Nat), .bool (gaps.getD (k + 1) false)]) (names := ["place", "free"])
        case hh => exact hh
        case h =>
          refine Ev.tuple (.cons (hpe (by walk_at "go") (by walk_at "go") (by intro _ _; rfl)) (.cons ?_ .nil (by rfl)) (by rfl)) (Nat.le_of_ble_eq_true rfl)
          exact Ev.itemI (by walk_at "go") (by walk_at "go") (by push_cast; rfl) (gi (k + 1) (by lia)) (by lia) (by intro _ _; rfl)
        case hlen => rfl
        case p => exact .cons (.cons .nil)
        case hx =>
          intro x hx
          simp only [List.reverse_cons, List.reverse_nil, List.nil_append, List.cons_append, List.mem_cons, List.not_mem_nil, or_false] at hx
          rcases hx with rfl | rfl <;> walk_at "loc"
        case hs => walk_at "prop"
        case hw => walk_at "prop"
        with_reducible apply X.nil
        refine ⟨hP, ?_⟩
        rw [show placeAt picks (k + 1) = ((picks.getD k 0 : Nat) : Int) from rfl]
        walk_at "sub"
    · intro hP
      have e : ((picks.length : Int) - 0).toNat = picks.length := by lia
      rw [e, List.drop_length, fitsGo] at hP
      rw [e]
      with_reducible apply X.ret
      · walk_at "go"
      · rw [hP]; rfl
end
section
inductive Cnt where
  | one (i : Int)
  | four (a b c d : Int)
noncomputable def Cnt.v : Cnt → V
  | .one i => .int i
  | .four a b c d => .tup [.int a, .int b, .int c, .int d]
noncomputable def Cnt.isFour : Cnt → Bool
  | .one _ => false
  | .four .. => true
noncomputable def Cnt.add : Cnt → Cnt → Cnt
  | .one i, .one j => .one (i + j)
  | .four a b c d, .four a' b' c' d' => .four (a + a') (b + b') (c + c') (d + d')
  | x, _ => x
noncomputable abbrev Cal := List (Str × Cnt)
noncomputable def calV (cs : Cal) : List (Str × V) := cs.map fun q => (q.1, q.2.v)
noncomputable def lookC (cs : Cal) (k : Str) : Option Cnt := (cs.find? fun e => e.1 = k).map (·.2)
noncomputable def putC (cs : Cal) (k : Str) (c : Cnt) : Cal := if (cs.any fun e => e.1 = k) = true then cs.map (fun e => if e.1 = k then (e.1, c) else e) else cs ++ [(k, c)]
noncomputable def addC1 (acc : Cal) (q : Str × Cnt) : Cal := match lookC acc q.1 with
  | some c => putC acc q.1 (c.add q.2)
  | none => putC acc q.1 q.2
noncomputable def addCal (t s : Cal) : Cal := s.foldl addC1 t
theorem calV_put (cs : Cal) (k : Str) (c : Cnt) : calV (putC cs k c) = putD (calV cs) k c.v := by
  have e : hasD (calV cs) k = cs.any fun e => e.1 = k := by unfold hasD calV; rw [List.any_map]; rfl
  unfold putC putD
  rw [e]
  split
  · unfold calV
    rw [List.map_map, List.map_map]
    refine List.map_congr_left fun q zz => ?_
    simp only [Function.comp]
    split <;> rfl
  · unfold calV; rw [List.map_append]; rfl
theorem calV_look (cs : Cal) (k : Str) : lookD (calV cs) k = (lookC cs k).map Cnt.v := by
  unfold lookD lookC calV
  rw [List.find?_map, Option.map_map, Option.map_map]
  rfl
theorem calV_has (cs : Cal) (k : Str) : hasD (calV cs) k = (lookC cs k).isSome := by
  unfold hasD lookC calV
  rw [List.any_map, Option.isSome_map]
  induction cs with
  | nil => rfl
  | cons q r ih =>
    rw [List.any_cons, List.find?_cons, ih]
    by_cases h : q.1 = k <;> simp [h]
theorem copyCal (t : Cal) (nd : (t.map (·.1)).Nodup) : ∀ k, (t.take k).foldl (fun acc q => putC acc q.1 q.2) [] = t.take k := by
  intro k
  induction k with
  | zero => rfl
  | succ k ih =>
    by_cases h : k < t.length
    · rw [List.take_succ_eq_append_getElem h, List.foldl_append, ih, List.foldl_cons, List.foldl_nil]
      unfold putC
      rw [if_neg]
      intro ha
      obtain ⟨e, he, e'⟩ := List.any_eq_true.mp ha
      have e' : e.1 = t[k].1 := by simpa using e'
      obtain ⟨i, hi, rfl⟩ := List.mem_take_iff_getElem.mp he
      have : (t.map (·.1))[i]'(by rw [List.length_map]; lia) = (t.map (·.1))[k]'(by rw [List.length_map]; lia) := by simpa using e'
      have := (List.getElem_inj nd).mp this
      lia
    · rw [List.take_of_length_le (by lia), ← List.take_of_length_le (i := k) (l := t) (by lia), ih]
theorem putC_four {b : Bool} {cs : Cal} {k : Str} {c : Cnt} (h : ∀ q ∈ cs, q.2.isFour = b) (hc : c.isFour = b) : ∀ q ∈ putC cs k c, q.2.isFour = b := by
  intro q hq
  unfold putC at hq
  split at hq
  · obtain ⟨e, he, rfl⟩ := List.mem_map.mp hq
    split
    · exact hc
    · exact h e he
  · rcases List.mem_append.mp hq with hq | hq
    · exact h q hq
    · rw [List.mem_singleton.mp hq]; exact hc
theorem add_four {b : Bool} {x y : Cnt} (hx : x.isFour = b) (hy : y.isFour = b) : (x.add y).isFour = b := by
  cases x <;> cases y <;> simp_all [Cnt.add, Cnt.isFour]
theorem lookC_mem {cs : Cal} {k : Str} {c : Cnt} (h : lookC cs k = some c) : (k, c) ∈ cs := by
  unfold lookC at h
  obtain ⟨e, he, rfl⟩ := Option.map_eq_some_iff.mp h
  have h1 := List.mem_of_find?_eq_some he
  have h2 : e.1 = k := by simpa using List.find?_some he
  rw [← h2]; exact h1
set_option tactic.hygienic true in
theorem addC1_four {b : Bool} {cs : Cal} {q : Str × Cnt} (h : ∀ q ∈ cs, q.2.isFour = b) (hq : q.2.isFour = b) : ∀ r ∈ addC1 cs q, r.2.isFour = b := by
  unfold addC1
  split
  · rename_i c hc
    exact putC_four h (add_four (h _ (lookC_mem hc)) hq)
  · exact putC_four h hq
theorem addCal_four {b : Bool} {s : Cal} (hs : ∀ q ∈ s, q.2.isFour = b) : ∀ {t : Cal}, (∀ q ∈ t, q.2.isFour = b) → ∀ r ∈ addCal t s, r.2.isFour = b := by
  induction s with
  | nil => intro t ht; exact ht
  | cons q s ih => intro t ht; exact ih (fun r hr => hs r (.tail _ hr)) (addC1_four ht (hs q (.head _)))
theorem putC_len {cs : Cal} {k : Str} {c : Cnt} : (putC cs k c).length ≤ cs.length + 1 := by
  unfold putC; split
  · rw [List.length_map]; lia
  · rw [List.length_append]; exact Nat.le_refl _
theorem addCal_len {s : Cal} : ∀ {t : Cal}, (addCal t s).length ≤ t.length + s.length := by
  induction s with
  | nil => intro t; exact Nat.le_refl _
  | cons q s ih =>
    intro t
    have h1 := ih (t := addC1 t q)
    have h2 : (addC1 t q).length ≤ t.length + 1 := by unfold addC1; split <;> exact putC_len
    show (addCal (addC1 t q) s).length ≤ _
    rw [List.length_cons]; lia
variable {s₀ : Shared} {U₀ : Addr → Prop}
theorem add_callers (H : Base g) (w₀ : Wd g s₀) {tg src : Cal} {b : Bool} (nd : (tg.map (·.1)).Nodup) (ht : ∀ q ∈ tg, q.2.isFour = b) (hs : ∀ q ∈ src, q.2.isFour = b) (hz1 : tg.length ≤ 100) (hz2 : src.length ≤ 100) :
    Fn g 2 (.ref 63) [] s₀ U₀ [.dct (calV tg), .dct (calV src)] [] (.dct (calV (addCal tg src))) := by
  refine Fn.def (names := ["target", "source"]) (ds := [.dct (calV tg), .dct (calV src)]) H (by kernel_rfl) w₀ ?_ ?_
  · intro vsP vsK hP hK
    obtain ⟨v1, v2, rfl⟩ := len2 hP
    obtain rfl := len0 hK
    exact ⟨[v1, v2], fun S => by kernel_rfl, fun h U r zz => r⟩
  · intro A U s hA p hU
    have hh := hA.hh
    show X g A (mkF (fd g 63) 63 U s) [("target", .imm (.dct (calV tg))), ("source", .imm (.dct (calV src)))] (bodyOf (fd g 63)) (Ends _)
    conv => arg 5; whnf
    with_reducible apply X.assignD0
    case H => exact H.glb
    case hx => walk_at "loc"
    case hs => kernel_rfl!
    have itm : ∀ (cs : Cal) k d, (itemsV (calV cs))[k]? = some d → ∃ q : Str × Cnt, cs[k]? = some q ∧ d = V.tup [.str q.1, q.2.v] := fun cs k d h => by
      obtain ⟨x, y, h1, h2⟩ := itemsV_at h
      rw [calV, List.getElem?_map] at h1
      cases hq : cs[k]? with
      | none => rw [hq] at h1; cases h1
      | some q => rw [hq] at h1; cases h1; exact ⟨q, hq, h2⟩
    have hlen : ∀ cs : Cal, (itemsV (calV cs)).length = cs.length := fun cs => by rw [itemsV, calV, List.length_map, List.length_map]
    refine X.forS (ds := itemsV (calV tg)) "%i" "%s" (Src.items hh (by walk_at "go") (by rfl) (by decide)) (fun k => [("source", .imm (.dct (calV src))), ("new_callers", .ownD (calV (tg.take k)))]) (fun zz => True) (by decide) (fun zz => by walk_at "apart") trivial (by walk_at "sub") ?_ ?_ (by intro _; rfl)
    · intro k d hd _ hid₁ hid₂
      obtain ⟨q, hq, rfl⟩ := itm tg k d hd
      have hk : k < tg.length := (List.getElem?_eq_some_iff.mp hq).1
      refine ⟨_, Asg.tup hh (.cons (.cons .nil)) (.cons (.cons .nil)) ?_, ?_⟩
      · intro x hx
        simp only [List.mem_cons, List.not_mem_nil, or_false] at hx
        rcases hx with rfl | rfl <;> walk_at "loc"
      · with_reducible apply X.setItemD (es := calV (tg.take k)) (k := q.1) (d := q.2.v)
        · walk_at "mem"
        · walk_at "go"
        · walk_at "go"
        · rw [calV, List.length_map, List.length_take, sizeLine_eq]; lia
        · decide
        · kernel_rfl!
        with_reducible apply X.nil
        refine ⟨trivial, ?_⟩
        have e : putD (calV (tg.take k)) q.1 q.2.v = calV (tg.take (k + 1)) := by
          rw [← calV_put, ← copyCal tg nd (k + 1), List.take_succ_eq_append_getElem hk, List.foldl_append, copyCal tg nd k, List.foldl_cons, List.foldl_nil, (List.getElem?_eq_some_iff.mp hq).2]
        rw [e]
        walk_at "sub"
    · intro _
      rw [hlen, List.take_length]
      refine X.forS (ds := itemsV (calV src)) "%i" "%s" (Src.items hh (by walk_at "go") (by rfl) (by decide)) (fun k => [("new_callers", .ownD (calV (addCal tg (src.take k))))]) (fun zz => True) (by decide) (fun zz => by walk_at "apart") trivial (by walk_at "sub") ?_ ?_ (by intro _; rfl)
      · intro k d hd _ hid₁ hid₂
        obtain ⟨q, hq, rfl⟩ := itm src k d hd
        have hk : k < src.length := (List.getElem?_eq_some_iff.mp hq).1
        have hnext : addCal tg (src.take (k + 1)) = addC1 (addCal tg (src.take k)) q := by
          rw [List.take_succ_eq_append_getElem hk, (List.getElem?_eq_some_iff.mp hq).2, addCal, List.foldl_append]; rfl
        have h4 := addCal_four (fun r hr => hs r (List.mem_of_mem_take hr)) ht (s := src.take k)
        have hl : (calV (addCal tg (src.take k))).length ≤ sizeLine := by
          have := addCal_len (t := tg) (s := src.take k)
          rw [calV, List.length_map, sizeLine_eq]; rw [List.length_take] at this; lia
        have hqb : q.2.isFour = b := hs q (List.mem_of_getElem? hq)
        refine ⟨_, Asg.tup hh (.cons (.cons .nil)) (.cons (.cons .nil)) ?_, ?_⟩
        · intro x hx
          simp only [List.mem_cons, List.not_mem_nil, or_false] at hx
          rcases hx with rfl | rfl <;> walk_at "loc"
        · with_reducible apply X.ifS (b := hasD (calV (addCal tg (src.take k))) q.1)
          · exact Tr.inOwn (by walk_at "mem") (by walk_at "go") (by decide) (by rfl)
          · intro hb
            rw [calV_has] at hb
            obtain ⟨c, hc⟩ := Option.isSome_iff_exists.mp hb
            have hcb : c.isFour = b := h4 _ (lookC_mem hc)
            have hcl : lookD (calV (addCal tg (src.take k))) q.1 = some c.v := by rw [calV_look, hc]; rfl
            have hput : ∀ c', c' = c.add q.2 → putD (calV (addCal tg (src.take k))) q.1 c'.v = calV (addCal tg (src.take (k + 1))) := fun c' e => by
              rw [hnext, addC1, hc, ← calV_put, e]
            obtain ⟨x, cc⟩ := q
            have isi : ∀ {ρ d bb pf pt ps pc}, CallP g A (mkF (fd g 63) 63 U s) ρ (.builtin "isinstance") [d, .typ "tuple"] (.bool bb) → (("caller" : Str), Sl.imm d) ∈ ρ → Tr g A (mkF (fd g 63) 63 U s) ρ (.Call (.Name "isinstance" pf) [.Name "caller" pc, .Name "tuple" pt] [] ps) bb := fun hc hm =>
              Tr.val (d := .bool _) (Ev.callB (EvV.buiK H (by kernel_rfl!) (by kernel_rfl!) (by kernel_rfl) (by decide)) (.cons (Ev.name hm (by decide)) (.cons (Ev.typ (EvV.buiK H (by kernel_rfl!) (by kernel_rfl!) (by kernel_rfl) (by decide))) .nil (by rfl)) (by rfl)) hc (by rfl) (by rfl)) Tru.bool (by rfl)
            cases cc with
            | one j =>
              cases c with
              | four => simp only [Cnt.isFour] at hcb hqb; rw [← hcb] at hqb; cases hqb
              | one i =>
                dsimp only [Cnt.v]
                with_reducible apply X.ifF
                · exact isi CallP.isTupI (by walk_at "mem")
                · rfl
                with_reducible apply X.augD (es := calV (addCal tg (src.take k))) (k := x) (a := i) (b := j)
                · walk_at "mem"
                · walk_at "go"
                · exact hcl
                · walk_at "go"
                · exact hl
                · decide
                with_reducible apply X.nilK
                with_reducible apply X.nilK
                with_reducible apply X.nil
                refine ⟨trivial, ?_⟩
                have e := hput (.one (i + j)) rfl
                rw [show V.int (i + j) = (Cnt.one (i + j)).v from rfl, e]
                walk_at "sub"
            | four a' b' c' d' =>
              cases c with
              | one => simp only [Cnt.isFour] at hcb hqb; rw [← hcb] at hqb; cases hqb
              | four a b c d =>
                dsimp only [Cnt.v]
                with_reducible apply X.ifT
                · exact isi CallP.isTupT (by walk_at "mem")
                · rfl
                with_reducible apply X.setItemD (es := calV (addCal tg (src.take k))) (k := x) (d := (Cnt.four (a + a') (b + b') (c + c') (d + d')).v)
                · walk_at "mem"
                · walk_at "go"
                · refine Ev.cast (d := .tup (([a', b', c', d'].zip [a, b, c, d]).map fun q => .int (q.1 + q.2))) ?_ ?_
                  · refine Ev.zipSum (xs := [a', b', c', d']) (ys := [a, b, c, d]) H hA (c := 62) (P := 58) (q := "add_callers.<locals>.<genexpr>") (by rw [H.tabs]; simp) (by rfl) (by kernel_rfl!) ?_ ?_ rfl (by simp) (by kernel_rfl!) (by kernel_rfl!) (by kernel_rfl!) (by kernel_rfl!) (by rfl) (by rfl)
                    · exact Ev.name (d := .tup [.int a', .int b', .int c', .int d']) (by walk_at "mem") (by decide)
                    · exact Ev.getOwn (by walk_at "mem") (by walk_at "go") hcl (by decide) (by intro _ _; rfl)
                  · show V.tup [.int (a' + a), .int (b' + b), .int (c' + c), .int (d' + d)] = _
                    rw [Int.add_comm a', Int.add_comm b', Int.add_comm c', Int.add_comm d']; rfl
                · exact hl
                · decide
                · kernel_rfl!
                with_reducible apply X.nilK
                with_reducible apply X.nilK
                with_reducible apply X.nil
                refine ⟨trivial, ?_⟩
                rw [hput (.four (a + a') (b + b') (c + c') (d + d')) rfl]
                walk_at "sub"
          · intro hb
            with_reducible apply X.setItemD (es := calV (addCal tg (src.take k))) (k := q.1) (d := q.2.v)
            · walk_at "mem"
            · walk_at "go"
            · walk_at "go"
            · exact hl
            · decide
            · kernel_rfl!
            with_reducible apply X.nilK
            with_reducible apply X.nil
            refine ⟨trivial, ?_⟩
            have hn : lookC (addCal tg (src.take k)) q.1 = none := by
              rw [calV_has] at hb
              cases hx : lookC (addCal tg (src.take k)) q.1 with
              | none => rfl
              | some c => rw [hx] at hb; cases hb
            have e : putD (calV (addCal tg (src.take k))) q.1 q.2.v = calV (addCal tg (src.take (k + 1))) := by
              rw [hnext, addC1, hn, ← calV_put]
            rw [e]
            walk_at "sub"
      · intro _
        rw [hlen, List.take_length]
        refine X.freezeD (x := "new_callers") (by walk_at "mem") ?_
        with_reducible apply X.ret
        · walk_at "go"
        · rfl
end
section
structure Ent where
  cc : Int
  nc : Int
  tt : Int
  ct : Int
  cal : Cal
noncomputable def Ent.v (e : Ent) : V := .tup [.int e.cc, .int e.nc, .int e.tt, .int e.ct, .dct (calV e.cal)]
noncomputable def Ent.add (t s : Ent) : Ent := ⟨s.cc + t.cc, s.nc + t.nc, s.tt + t.tt, s.ct + t.ct, addCal t.cal s.cal⟩
structure Ent.Ok (b : Bool) (e : Ent) : Prop where
  nd : (e.cal.map (·.1)).Nodup
  four : ∀ q ∈ e.cal, q.2.isFour = b
  len : e.cal.length ≤ 100
variable {s₀ : Shared} {U₀ : Addr → Prop}
theorem add_func_stats (H : Base g) (w₀ : Wd g s₀) {t e : Ent} {b : Bool} (ht : t.Ok b) (he : e.Ok b) : Fn g 3 (.ref 56) [] s₀ U₀ [t.v, e.v] [] (t.add e).v := by
  refine Fn.def (names := ["target", "source"]) (ds := [t.v, e.v]) H (by kernel_rfl) w₀ ?_ ?_
  · intro vsP vsK hP hK
    obtain ⟨v1, v2, rfl⟩ := len2 hP
    obtain rfl := len0 hK
    exact ⟨[v1, v2], fun S => by kernel_rfl, fun h U r zz => r⟩
  · intro A U s hA p hU
    have hh := hA.hh
    have I : InFn g (mkF (fd g 56) 56 U s) s₀ U₀ := ⟨w₀, p, hU⟩
    show X g A (mkF (fd g 56) 56 U s) [("target", .imm (.tup [.int t.cc, .int t.nc, .int t.tt, .int t.ct, .dct (calV t.cal)])), ("source", .imm (.tup [.int e.cc, .int e.nc, .int e.tt, .int e.ct, .dct (calV e.cal)]))] (bodyOf (fd g 56)) (Ends _)
    conv => arg 5; whnf
    with_reducible apply X.assignT
    · walk_at "go"
    · refine Asg.tup hh (.cons (.cons (.cons (.cons (.cons .nil))))) (.cons (.cons (.cons (.cons (.cons .nil))))) ?_
      intro x hx
      simp only [List.mem_cons, List.not_mem_nil, or_false] at hx
      rcases hx with rfl | rfl | rfl | rfl | rfl <;> walk_at "loc"
    case hs => walk_at "prop"
    case hw => walk_at "prop"
    with_reducible apply X.assignT
    · walk_at "go"
    · refine Asg.tup hh (.cons (.cons (.cons (.cons (.cons .nil))))) (.cons (.cons (.cons (.cons (.cons .nil))))) ?_
      intro x hx
      simp only [List.mem_cons, List.not_mem_nil, or_false] at hx
      rcases hx with rfl | rfl | rfl | rfl | rfl <;> walk_at "loc"
    case hs => walk_at "prop"
    case hw => walk_at "prop"
    have bin : ∀ {ρ x y px py pp} {a b : Int}, ((x : Str), Sl.imm (.int a)) ∈ ρ → ((y : Str), Sl.imm (.int b)) ∈ ρ → (x == ("__debug__" : Str)) = false → (y == ("__debug__" : Str)) = false → Ev g A (mkF (fd g 56) 56 U s) ρ (.BinOp (.Name x px) .Add (.Name y py) pp) (.int (a + b)) := fun h1 h2 h3 h4 => Ev.bin (Ev.name h1 h3) (Ev.name h2 h4) Op.add
    with_reducible apply X.retAs (d := (t.add e).v)
    · refine Ev.tuple (ds := [.int (e.cc + t.cc), .int (e.nc + t.nc), .int (e.tt + t.tt), .int (e.ct + t.ct), .dct (calV (addCal t.cal e.cal))]) (.cons (bin (by walk_at "mem") (by walk_at "mem") (by decide) (by decide)) (.cons (bin (by walk_at "mem") (by walk_at "mem") (by decide) (by decide)) (.cons (bin (by walk_at "mem") (by walk_at "mem") (by decide) (by decide)) (.cons (bin (by walk_at "mem") (by walk_at "mem") (by decide) (by decide)) (.cons ?_ .nil (by rfl)) (by rfl)) (by rfl)) (by rfl)) (by rfl)) (Nat.le_of_ble_eq_true rfl)
      refine Ev.callFn (EvV.globK (v := .ref 63) H (by kernel_rfl!) (by kernel_rfl)) ?_ (add_callers (b := b) H w₀ ht.nd ht.four he.four ht.len he.len) I hA (by rfl) (by rfl)
      walk_at "go"
    · rfl
    · rfl
end
section
structure Fnc where
  sp : Str
  ln : Int
  nm : Str
noncomputable def Fnc.v (f : Fnc) : V := .tup [.str f.sp, .int f.ln, .str f.nm]
noncomputable def Fnc.text (f : Fnc) : Str := textOf f.sp f.ln f.nm
structure Evt where
  fn : Fnc
  en : Ent
noncomputable def Evt.v (e : Evt) : V := .tup [e.fn.v, e.en.v]
noncomputable def evV (x : Int) : Int := x.fmod 1000000
noncomputable def evR (x : Int) : Int := (evV x).fdiv 16
noncomputable def evFn (total x : Int) : Fnc :=
  ⟨([("a..py" : Str), ("~" : Str)] : List Str).getD ((evV x).fmod 2).toNat "", [0, total.fmod 1000000000000 - 5].getD (((evV x).fdiv 2).fmod 2).toNat 0, ([("<f>" : Str), ("f" : Str), ("<f" : Str), ("f>" : Str)] : List Str).getD (((evV x).fdiv 4).fmod 4).toNat ""⟩
noncomputable def fourB (total : Int) : Bool := (total.fdiv 2).fmod 2 == 1
noncomputable def evCnt (total x : Int) : Cnt := if fourB total = true then .four ((evR x).fdiv 54) ((evR x).fmod 5) x (-evV x) else .one ((evR x).fdiv 54)
noncomputable def evCals (total x : Int) : List Cal := [[], [(("b:1(g)" : Str), evCnt total x)], [((evFn total x).text, evCnt total x)]]
noncomputable def evCal (total x : Int) : Cal := (evCals total x).getD (((evR x).fdiv 18).fmod 3).toNat []
noncomputable def evEnt (total x : Int) : Ent := ⟨(evR x).fmod 2, ((evR x).fdiv 2).fmod 3, x, ((evR x).fdiv 6).fmod 3, evCal total x⟩
noncomputable def evAt (total x : Int) : Evt := ⟨evFn total x, evEnt total x⟩
noncomputable def evXs (script : List Int) : List Int := script.take 3 ++ [2961, 121, 4833]
noncomputable def lawTotal (script : List Int) : Int := (script.take 63).sum
noncomputable def lawEvents (script : List Int) : List Evt := (evXs script).map (evAt (lawTotal script))
theorem tn {a : Int} {n : Nat} (h : 0 ≤ a ∧ a < (n : Int)) : a.toNat < n := (Int.toNat_lt h.1).mpr h.2
theorem evFn_ok (total x : Int) : (evFn total x).sp.length ≤ 100 ∧ (evFn total x).nm.length ≤ 100 ∧ (evFn total x).ln.natAbs < 10 ^ 12 := by
  refine ⟨?_, ?_, ?_⟩
  · show (([("a..py" : Str), ("~" : Str)] : List Str).getD ((evV x).fmod 2).toNat "").length ≤ 100
    match ((evV x).fmod 2).toNat with
    | 0 => decide
    | 1 => decide
    | n + 2 => exact Nat.zero_le _
  · show (([("<f>" : Str), ("f" : Str), ("<f" : Str), ("f>" : Str)] : List Str).getD (((evV x).fdiv 4).fmod 4).toNat "").length ≤ 100
    match (((evV x).fdiv 4).fmod 4).toNat with
    | 0 => decide
    | 1 => decide
    | 2 => decide
    | 3 => decide
    | n + 4 => exact Nat.zero_le _
  · show ([0, total.fmod 1000000000000 - 5].getD (((evV x).fdiv 2).fmod 2).toNat 0).natAbs < 10 ^ 12
    have h := fmod_in total (b := 1000000000000) (by decide)
    match (((evV x).fdiv 2).fmod 2).toNat with
    | 0 => show (0 : Int).natAbs < 10 ^ 12; decide
    | 1 => show (total.fmod 1000000000000 - 5).natAbs < 10 ^ 12; omega
    | n + 2 => show (0 : Int).natAbs < 10 ^ 12; decide
theorem evFn_nm (total x : Int) : (evFn total x).nm = "<f>" ∨ (evFn total x).nm = "f" ∨ (evFn total x).nm = "<f" ∨ (evFn total x).nm = "f>" := by
  show ([("<f>" : Str), ("f" : Str), ("<f" : Str), ("f>" : Str)] : List Str).getD (((evV x).fdiv 4).fmod 4).toNat "" = _ ∨ ([("<f>" : Str), ("f" : Str), ("<f" : Str), ("f>" : Str)] : List Str).getD (((evV x).fdiv 4).fmod 4).toNat "" = _ ∨ ([("<f>" : Str), ("f" : Str), ("<f" : Str), ("f>" : Str)] : List Str).getD (((evV x).fdiv 4).fmod 4).toNat "" = _ ∨ ([("<f>" : Str), ("f" : Str), ("<f" : Str), ("f>" : Str)] : List Str).getD (((evV x).fdiv 4).fmod 4).toNat "" = _
  have h := fmod_in ((evV x).fdiv 4) (b := 4) (by decide)
  have h4 : (((evV x).fdiv 4).fmod 4).toNat < 4 := tn h
  match (((evV x).fdiv 4).fmod 4).toNat, h4 with
  | 0, _ => exact .inl rfl
  | 1, _ => exact .inr (.inl rfl)
  | 2, _ => exact .inr (.inr (.inl rfl))
  | 3, _ => exact .inr (.inr (.inr rfl))
variable {s₀ : Shared} {U₀ : Addr → Prop}
theorem law_events (H : Base g) (w₀ : Wd g s₀) {script : List Int} (hz : script.length ≤ 63) : Fn g 2 (.ref 113) [] s₀ U₀ [.lst (script.map .int)] [] (.lst ((lawEvents script).map Evt.v)) := by
  refine Fn.def (names := ["script"]) (ds := [.lst (script.map .int)]) H (by kernel_rfl) w₀ ?_ ?_
  · intro vsP vsK hP hK
    obtain ⟨v1, rfl⟩ := len1 hP
    obtain rfl := len0 hK
    exact ⟨[v1], fun S => by kernel_rfl, fun h U r zz => r⟩
  · intro A U s hA p hU
    have hh := hA.hh
    have I : InFn g (mkF (fd g 113) 113 U s) s₀ U₀ := ⟨w₀, p, hU⟩
    have hsl : (script.map V.int).length ≤ sizeLine := by rw [List.length_map, sizeLine_eq]; omega
    show X g A (mkF (fd g 113) 113 U s) [("script", .imm (.lst (script.map .int)))] (bodyOf (fd g 113)) (Ends _)
    conv => arg 5; whnf
    with_reducible apply X.assignAs (d := .int (lawTotal script))
    · walk_at "prop"
    · walk_at "loc"
    · refine Ev.sum H hh (ns := script.take 63) ?_ (by kernel_rfl!) (by kernel_rfl!) (by rfl)
      refine (EvF.ev (EvF.slice (l := none) (u := some 63) (by walk_at "go") .none (.some (by walk_at "go")) hsl)).cast ?_
      rw [pick_to _ (by decide), List.map_take]; rfl
    · rfl
    with_reducible apply X.assignF
    case h => exact EvF.list .nil (by decide)
    case hx => walk_at "loc"
    case hs => walk_at "prop"
    have hxl : (evXs script).length ≤ 6 := by unfold evXs; rw [List.length_append, List.length_take]; show min 3 script.length + 3 ≤ 6; exact Nat.add_le_add_right (Nat.min_le_left 3 _) 3
    refine X.forL (xs := (evXs script).map .int) "%i" "%s" hh ?_ (.inl ⟨_, _, rfl⟩) (fun k => [("total", .imm (.int (lawTotal script))), ("events", .own (((evXs script).take k).map fun x => (evAt (lawTotal script) x).v))]) (fun zz => True) (by decide) (fun zz => by walk_at "apart") trivial (by walk_at "sub") ?_ ?_ (by intro _; rfl)
    · refine (EvF.ev (EvF.cat (xs := (script.take 3).map V.int) (ys := [.int 2961, .int 121, .int 4833]) ?_ (EvF.ev (EvF.list (by walk_at "go") (Nat.le_of_ble_eq_true rfl))) ?_)).cast ?_
      · refine EvF.ev (EvF.listList H ?_ ?_ (by kernel_rfl!) (by kernel_rfl!) (by rfl))
        · refine (EvF.ev (EvF.slice (l := none) (u := some 3) (by walk_at "go") .none (.some (by walk_at "go")) hsl)).cast ?_
          rw [pick_to _ (by decide), List.map_take]; rfl
        · rw [List.length_map, List.length_take, sizeLine_eq]; exact Nat.le_trans (Nat.min_le_left 3 _) (by decide)
      · rw [List.length_map, List.length_take, sizeLine_eq]; show min 3 script.length + 3 ≤ _; exact Nat.le_trans (Nat.add_le_add_right (Nat.min_le_left 3 _) 3) (by decide)
      · unfold evXs; rw [List.map_append]; rfl
    · intro k d hd _ hid₁ hid₂
      rw [List.getElem?_map] at hd
      cases hq : (evXs script)[k]? with
      | none => rw [hq] at hd; cases hd
      | some x =>
        rw [hq] at hd; cases hd
        have hk : k < (evXs script).length := (List.getElem?_eq_some_iff.mp hq).1
        refine ⟨_, Asg.name (by walk_at "loc"), ?_⟩
        have hbits : Builtin.Int.intBits 10 = 4 := by decide +kernel
        with_reducible apply X.assignAs (d := .int (evV x))
        · walk_at "prop"
        · walk_at "loc"
        · walk_at "go"
          all_goals (first | (rw [hbits]; omega) | decide)
        · rfl
        with_reducible apply X.assignAs (d := .int (evR x))
        · walk_at "prop"
        · walk_at "loc"
        · walk_at "go"
        · rfl
        have m2 := fmod_in (evV x) (b := 2) (by decide)
        have m22 := fmod_in ((evV x).fdiv 2) (b := 2) (by decide)
        have m44 := fmod_in ((evV x).fdiv 4) (b := 4) (by decide)
        with_reducible apply X.assignAs (d := (evFn (lawTotal script) x).v)
        · walk_at "prop"
        · walk_at "loc"
        · refine Ev.tuple (ds := [.str (evFn (lawTotal script) x).sp, .int (evFn (lawTotal script) x).ln, .str (evFn (lawTotal script) x).nm]) (.cons ?_ (.cons ?_ (.cons ?_ .nil (by rfl)) (by rfl)) (by rfl)) (Nat.le_of_ble_eq_true rfl)
          · refine (Ev.menuT (xs := ([("a..py" : Str), ("~" : Str)] : List Str).map V.str) (j := (evV x).fmod 2) (Ev.cast (d := .tup [.str "a..py", .str "~"]) (by walk_at "go") rfl) (by walk_at "go") m2.1 ?_ ?_ (by intro _ _; rfl)).cast ?_
            · exact tn (n := 2) m2
            · exact Int.lt_trans m2.2 (by decide)
            · rw [getD_map _ _ _ _ ("" : Str) (tn (n := 2) m2)]; rfl
          · refine (Ev.menuT (xs := ([0, (lawTotal script).fmod 1000000000000 - 5] : List Int).map V.int) (j := ((evV x).fdiv 2).fmod 2) ?_ (by walk_at "go") m22.1 ?_ ?_ (by intro _ _; rfl)).cast ?_
            · refine Ev.cast (d := .tup [.int 0, .int ((lawTotal script).fmod (10 ^ (12 : Int).toNat) - 5)]) ?_ rfl
              walk_at "go"
              all_goals (first | (rw [hbits]; omega) | decide)
            · exact tn (n := 2) m22
            · exact Int.lt_trans m22.2 (by decide)
            · rw [getD_map _ _ _ _ (0 : Int) (tn (n := 2) m22)]; rfl
          · refine (Ev.menuT (xs := ([("<f>" : Str), ("f" : Str), ("<f" : Str), ("f>" : Str)] : List Str).map V.str) (j := ((evV x).fdiv 4).fmod 4) (Ev.cast (d := .tup [.str "<f>", .str "f", .str "<f", .str "f>"]) (by walk_at "go") rfl) (by walk_at "go") m44.1 ?_ ?_ (by intro _ _; rfl)).cast ?_
            · exact tn (n := 4) m44
            · exact Int.lt_trans m44.2 (by decide)
            · rw [getD_map _ _ _ _ ("" : Str) (tn (n := 4) m44)]; rfl
        · rfl
        with_reducible apply X.assignAs (d := .int ((evR x).fdiv 54))
        · walk_at "prop"
        · walk_at "loc"
        · walk_at "go"
        · rfl
        refine X.ifJoin (b := fourB (lawTotal script)) [("%i", hid₁), ("%s", hid₂), ("total", .imm (.int (lawTotal script))), ("events", .own (((evXs script).take k).map fun x => (evAt (lawTotal script) x).v)), ("x", .imm (.int x)), ("v", .imm (.int (evV x))), ("r", .imm (.int (evR x))), ("func", .imm (evFn (lawTotal script) x).v), ("count", .imm (evCnt (lawTotal script) x).v)] ?_ ?_ ?_ ?_
        · exact Tr.cast (d := ((lawTotal script).fdiv 2).fmod 2 == 1) (by walk_at "go") rfl
        · intro hb
          have e : (evCnt (lawTotal script) x).v = .tup [.int ((evR x).fdiv 54), .int ((evR x).fmod 5), .int x, .int (-evV x)] := by unfold evCnt; rw [if_pos hb]; rfl
          rw [e]
          walk_at "assign"
          with_reducible apply X.nil
          show ∀ p ∈ _, p ∈ _
          walk_at "sub"
        · intro hb
          have e : (evCnt (lawTotal script) x).v = .int ((evR x).fdiv 54) := by unfold evCnt; rw [if_neg (by rw [hb]; decide)]; rfl
          rw [e]
          with_reducible apply X.nil
          show ∀ p ∈ _, p ∈ _
          walk_at "sub"
        · have m3 := fmod_in ((evR x).fdiv 18) (b := 3) (by decide)
          have hf := evFn_ok (lawTotal script) x
          with_reducible apply X.assignAs (d := .dct (calV (evCal (lawTotal script) x))) (d' := .dct (calV (evCal (lawTotal script) x)))
          case hd => rfl
          case hs => walk_at "prop"
          case hx => walk_at "loc"
          case h =>
            refine (Ev.menuL (xs := (evCals (lawTotal script) x).map fun c => .dct (calV c)) (j := ((evR x).fdiv 18).fmod 3) ?_ (by walk_at "go") m3.1 ?_ ?_ (by intro _ _; rfl)).cast ?_
            · refine EvF.ev (EvF.list (ds := [.dct [], .dct [("b:1(g)", (evCnt (lawTotal script) x).v)], .dct [((evFn (lawTotal script) x).text, (evCnt (lawTotal script) x).v)]]) (.cons (Ev.dict0 H.glb) (.cons (Ev.dict1 H.glb (by walk_at "go") (by walk_at "go")) (.cons (Ev.dict1 H.glb ?_ (by walk_at "go")) .nil (by rfl)) (by rfl)) (by rfl)) (Nat.le_of_ble_eq_true rfl))
              refine Ev.callFn (EvV.globK (v := .ref 137) H (by kernel_rfl!) (by kernel_rfl)) ?_ (law_text H w₀ hf.1 hf.2.1 hf.2.2) I (hA.le (by decide)) (by rfl) (by rfl)
              exact .cons (Ev.name (d := (evFn (lawTotal script) x).v) (by walk_at "mem") (by decide)) .nil (by rfl)
            · exact tn (n := 3) m3
            · exact Int.lt_trans m3.2 (by decide)
            · rw [getD_map _ _ _ _ ([] : Cal) (tn (n := 3) m3)]; rfl
          with_reducible apply X.append (xs := ((evXs script).take k).map fun x => (evAt (lawTotal script) x).v) (d := (evAt (lawTotal script) x).v)
          · walk_at "mem"
          · refine Ev.tuple (ds := [(evFn (lawTotal script) x).v, (evEnt (lawTotal script) x).v]) (.cons (Ev.name (by walk_at "mem") (by decide)) (.cons ?_ .nil (by rfl)) (by rfl)) (Nat.le_of_ble_eq_true rfl)
            refine Ev.cast (d := .tup [.int ((evR x).fmod 2), .int (((evR x).fdiv 2).fmod 3), .int x, .int (((evR x).fdiv 6).fmod 3), .dct (calV (evCal (lawTotal script) x))]) (by walk_at "go") rfl
          · rw [List.length_map, List.length_take, sizeLine_eq]; exact Nat.le_trans (Nat.min_le_right _ _) (Nat.le_trans hxl (by decide))
          all_goals (try walk_at "prop")
          with_reducible apply X.nil
          refine ⟨trivial, ?_⟩
          rw [List.take_succ_eq_append_getElem hk, List.map_append, (List.getElem?_eq_some_iff.mp hq).2]
          walk_at "sub"
    · intro _
      rw [List.length_map, List.take_length]
      refine X.freezeL (x := "events") (by walk_at "mem") ?_
      with_reducible apply X.ret
      · walk_at "go"
      · show V.lst _ = V.lst _
        unfold lawEvents; rw [List.map_map]; rfl
end
section
noncomputable def rankBody (p1 p2 p3 : Pos) : Expr := .Subscript (.Name "ranks" p1) (.Name "k" p2) p3
noncomputable def rankScope : Scope := { kind := .function, names := [("k", .local), ("ranks", .free)], isGenerator := false, isCoroutine := false }
section
variable {A : Around} {F : Fx} {ρ : Rho}
theorem EvF.sortedLam {n : Nat} {ranks : List (List Int)} {m : Nat} {p : List Nat} {c P : Addr} {q : Str} {pp p1 p2 p3 sp lpos kp cpos : Pos} {e : Expr} (H : Base g) (hA : AOk 3 A) (hm : (("ranks" : Str), Sl.imm (.lst (ranks.map fun r => .lst (r.map .int)))) ∈ ρ) (hcell : F.env.kindOf "ranks" = some .cell) (hlen : ranks.length = n) (hsame : ∀ r ∈ ranks, r.length = m) (hn : n ≤ 6)
    (he : Ev g A F ρ e (.rng 0 (n : Int))) (hp : Ord (lexLt m ranks) n p) (hq : (c, P, q) ∈ g.tabs) (hcode : F.env.code = .ref c) (hqual : F.env.qual ++ "<lambda>" = q)
    (hx : F.env.kindOf "sorted" = some .globalImplicit) (hmm : nsIn g.K mainGlobals "sorted" = some Option.none) (hst : starEach [e] F.env = [(false, eval e F.env)])
    (hkw : backToKw cpos (keywordEach [⟨some "key", .Lambda (lamArgs "k" pp) (rankBody p1 p2 p3) rankScope lpos, kp⟩] F.env) = [(some ("key" : Str), do let v ← eval (.Lambda (lamArgs "k" pp) (rankBody p1 p2 p3) rankScope lpos) F.env; standAt cpos; pure v)]) :
    EvF g A F ρ (.Call (.Name "sorted" sp) [e] [⟨some "key", .Lambda (lamArgs "k" pp) (rankBody p1 p2 p3) rankScope lpos, kp⟩] cpos) (p.map fun i : Nat => V.int (i : Int)) := ⟨fun O s st => by
  refine wpAny_Call_Name_kw (runQ ((EvV.buiK (v := .builtin "sorted") H hx hmm (by kernel_rfl) (by decide)).run O s st) fun fv s₁ p₁ r₁ => ?_)
  subst r₁
  have st₁ := st.step p₁
  refine callWith_builtin_kwB (by rw [hst]; rfl) (by rw [hkw]; rfl) ?_
  rw [hkw, hst]
  refine evalArgs_kwB rfl (Calls.spliced_cons (runQ (he.run O s₁ st₁) fun v s₂ p₂ r₂ => Calls.spliced_nil ?_))
  have st₂ := st₁.step p₂
  obtain ⟨v₀, hbd, hr₀⟩ := st₂.facts _ _ hm
  have hbd : Bound F.env s₂.heap "ranks" v₀ := hbd
  have hr₀ : Rep g s₂.heap (UU F O) (.lst (ranks.map fun r => .lst (r.map .int))) v₀ := hr₀
  rcases hbd with ⟨hk, _⟩ | ⟨_, hz, cc, hcl, hcv⟩
  · rw [hcell] at hk; cases hk
  refine wpAny_evalAll_cons (wpAny_bind (wpAny_mono (evLam H st₂ hq hcode hqual (fun nm hnm => ?_) rfl) (fun v₁ s₃ q₃ => ?_) fun zz zz x => x.elim))
  · have : nm = "ranks" := by
      rcases List.mem_cons.mp hnm with e | hnm
      · cases e
      · rcases List.mem_cons.mp hnm with e | hnm
        · cases e; rfl
        · cases hnm
    subst this
    exact ⟨cc, hcl⟩
  obtain ⟨la, rfl, p₃, hlnone, hlam⟩ := q₃
  refine wpAny_bind (wpAny_standAt (wpAny_pure (wpAny_evalAll_nil ?_)))
  have st₃ := st₂.step p₃
  have w₃ := st₃.wd
  have hcv₃ := p₃.isCell st₂.wd hcv
  have hr₃ := st₂.rep p₃ hr₀
  have r₂' := st₂.rep p₃ r₂
  have up : Pur g s s₃ := (p₁.trans p₂).trans p₃
  cases r₂' with
  | rng nu hrng =>
  cases hr₃ with
  | @lst ra vs _ nu2 hL hrs =>
  have hvl : vs.length = n := by rw [hrs.length, List.length_map, hlen]
  have hvals : ∀ i, i < n → ∃ (a : Addr) (us : List Value) (r : List Int), vs.getD i Value.none = .ref a ∧ s₃.heap.IsList a us.toArray ∧ IntsAre us r ∧ r = ranks.getD i (List.replicate m 0) ∧ r.length = m := fun i hi => by
    obtain ⟨d, hd, rd⟩ := hrs.get (i := i) (List.getElem?_eq_getElem (by lia))
    rw [List.getElem?_map, List.getElem?_eq_getElem (by lia : i < ranks.length)] at hd
    cases hd
    generalize hv : vs[i] = vi at rd
    cases rd with
    | @lst a us _ nu hL' hr' =>
      refine ⟨a, us, ranks[i], by rw [List.getD_eq_getElem?_getD, List.getElem?_eq_getElem (by lia), hv]; rfl, hL', ?_, by rw [List.getD_eq_getElem?_getD, List.getElem?_eq_getElem (by lia)]; rfl, hsame _ (List.getElem_mem _)⟩
      exact intsAre_of hr'
  refine wpAny_mono (callSortedK (A := A) (lt := lexLt m ranks) (n := n) (lexLt_ok hsame) hA.hh w₃ hrng ?_ ?_ hn (κ := oneType') (fun i => vs.getD i Value.none) (fun i t s' hi p' => ?_) (fun h2 s' p' => ?_) fun i j s' hi hj p' => ?_) (fun v s' q => ?_) fun zz zz x => x
  · exact small_one (by lia) (by lia) (by lia) (by lia)
  · rw [rangeSize_nat]; lia
  · refine lamCall (x := "k") (n := 0) H p'.wd (hA.in1.in1) (p'.lamAt w₃ hlam) rfl rfl rfl (by decide) (by decide) (fun pm cv ctv => by rfl) ?_
    rintro A' s'' env hA' p'' hsc hcl' hgl hbu ⟨mm, hns, hmm⟩
    have kk : env.scope.kind = .function := by rw [hsc]; rfl
    have kd : ∀ x, env.kindOf x = rankScope.names.lookup x := fun x => by show env.scope.names.lookup x = _; rw [hsc]
    have e1 : env.cells.lookup ("ranks" : Str) = some cc := by rw [hcl']; exact freeOf_lookup hcl _ _ (.inl (by decide)) nofun
    have pA := p'.trans p''
    have hc' := pA.isCell w₃ hcv₃
    refine Subscript_ (wpAny_Name (wpAny_loadName_free kk ((kd _).trans (by rfl)) e1 hc' (wpAny_Name (wpAny_loadName_local kk ((kd _).trans (by rfl)) hns hmm ?_) (by decide)) (by decide)) (by decide))
    have hL' := pA.isList w₃ hL
    refine tail_any hL'.typeIs slot_list_getitem.lookup (wpAny_getItem_list hL' (Int.natCast_nonneg i) (by lia) (x := vs.getD i Value.none) ?_ ⟨rfl, p''⟩) rfl
    rw [Int.toNat_natCast, List.getElem?_toArray, List.getD_eq_getElem?_getD, List.getElem?_eq_getElem (by lia)]; rfl
  · refine kas_kind (T := .type "list") (by simpa using h2) (fun v hv => ?_) rfl rfl ⟨rfl, Pur.refl p'.wd⟩
    obtain ⟨i, hi, rfl⟩ := List.mem_map.mp hv
    obtain ⟨a, us, r, e, hl, _⟩ := hvals i (List.mem_range.mp hi)
    rw [e]
    have hl' := p'.isList w₃ hl
    obtain ⟨o, ho, hc, _⟩ := hl'
    rw [← hc]; exact show Looks g.M s'.heap (typeOf (.ref a)) o.cls from (Looks.ld ho).andThen .now
  · obtain ⟨a, us, r, e, hl, hi1, hi2, hi3⟩ := hvals i hi
    obtain ⟨a', us', r', e', hl', hj1, hj2, hj3⟩ := hvals j hj
    rw [e, e']
    refine oneLt_lists (p'.isList w₃ hl) (p'.isList w₃ hl') hi1 hj1 (by rw [hi3, hj3]) hA.in1.in1.units0 ⟨?_, Pur.refl p'.wd⟩
    rw [hi2, hj2]; rfl
  · obtain ⟨us, hu1, hu2, hS⟩ := q
    have ru : Reps g s₃.heap (UU F O) ((List.range n).map fun i : Nat => V.int (i : Int)) us := by
      have : ∀ (us : List Value) (k : Nat), (∀ (i : Nat) x, us[i]? = some x → ∃ t, x = Value.int ((k + i : Nat) : Int) t) → Reps g s₃.heap (UU F O) ((List.range' k us.length).map fun i : Nat => V.int (i : Int)) us := by
        intro us
        induction us with
        | nil => exact fun zz zz => .nil
        | cons u us ih =>
          intro k hk
          obtain ⟨t, e⟩ := hk 0 u rfl
          rw [e]
          exact .cons (.int _ _) (ih (k + 1) fun i x hx => by
            obtain ⟨t, e⟩ := hk (i + 1) x (by simpa using hx)
            exact ⟨t, by rw [e]; congr 2; lia⟩)
      have := this us 0 fun i x hx => by
        obtain ⟨t, e⟩ := hu2 i x hx
        exact ⟨t, by rw [e, Nat.zero_add]⟩
      rw [hu1, ← List.range_eq_range'] at this
      exact this
    have := hS.fresh (lexLt_ok hsame) (fun q hq => .inl (st.tabU q hq)) ru (p := p) (by rw [List.length_map, List.length_range]; exact hp)
    refine ⟨up.trans this.1, ?_⟩
    have e : (p.map fun i : Nat => ((List.range n).map fun i : Nat => V.int (i : Int)).getD i .none) = p.map fun i : Nat => V.int (i : Int) := List.map_congr_left fun i hi => by
      have := hp.lt i hi
      show ((List.range n).map fun i : Nat => V.int (i : Int)).getD i .none = _
      rw [List.getD_eq_getElem?_getD, List.getElem?_map, List.getElem?_range this]; rfl
    rw [← e]
    exact this.2.back up⟩
end
end
section
section
variable {A : Around} {F : Fx} {ρ ρ' frs : Rho}
theorem Tests.sub {ifs b} (h : Tests g A F ρ ifs b) (k : ∀ p ∈ ρ, p ∈ ρ') : Tests g A F ρ' ifs b := ⟨fun O s st => h.run O s (st.sub k)⟩
theorem CTurn.nm {x px elt ifs d p y} (hx : CanStore F x) (hne : x ≠ "%i" ∧ x ≠ "%s" ∧ x ≠ "%a") (hfr : ∀ q ∈ frs, q.1 ≠ x) (ht : Tests g A F ((x, .imm d) :: frs) ifs p) (he : p = true → Ev g A F ((x, .imm d) :: frs) elt y) :
    CTurn g A F frs (.Name x px) elt ifs d p y := ⟨fun h₁ h₂ h₃ => by
  have sub : ∀ q ∈ baseR h₁ h₂ h₃ frs, q ∈ (baseR h₁ h₂ h₃ frs).put x (.imm d) := fun q hq => by
    refine .tail _ (List.mem_filter.mpr ⟨hq, ?_⟩)
    have : q.1 ≠ x := by
      rcases List.mem_cons.mp hq with e | hq
      · rw [e]; exact hne.1.symm
      rcases List.mem_cons.mp hq with e | hq
      · rw [e]; exact hne.2.1.symm
      rcases List.mem_cons.mp hq with e | hq
      · rw [e]; exact hne.2.2.symm
      exact hfr q hq
    simpa using this
  have sub2 : ∀ q ∈ (x, Sl.imm d) :: frs, q ∈ (baseR h₁ h₂ h₃ frs).put x (.imm d) := fun q hq => by
    rcases List.mem_cons.mp hq with e | hq
    · rw [e]; exact .head _
    · exact sub q (.tail _ (.tail _ (.tail _ hq)))
  exact ⟨_, Asg.name hx, sub, ht.sub sub2, fun hp => (he hp).sub sub2⟩⟩
theorem CTurn.nm2 {x₁ x₂ : Str} {p₁ p₂ k px elt ifs d₁ d₂ p y} (hh : A.handled = none) (hx₁ : CanStore F x₁) (hx₂ : CanStore F x₂) (hne₁ : x₁ ≠ "%i" ∧ x₁ ≠ "%s" ∧ x₁ ≠ "%a") (hne₂ : x₂ ≠ "%i" ∧ x₂ ≠ "%s" ∧ x₂ ≠ "%a") (h12 : x₁ ≠ x₂) (hfr : ∀ q ∈ frs, q.1 ≠ x₁ ∧ q.1 ≠ x₂)
    (ht : Tests g A F ((x₂, .imm d₂) :: (x₁, .imm d₁) :: frs) ifs p) (he : p = true → Ev g A F ((x₂, .imm d₂) :: (x₁, .imm d₁) :: frs) elt y) :
    CTurn g A F frs (.Tuple [.Name x₁ p₁, .Name x₂ p₂] k px) elt ifs (.tup [d₁, d₂]) p y := ⟨fun h₁ h₂ h₃ => by
  have hb : ∀ q ∈ baseR h₁ h₂ h₃ frs, q.1 ≠ x₁ ∧ q.1 ≠ x₂ := fun q hq => by
    rcases List.mem_cons.mp hq with e | hq
    · rw [e]; exact ⟨hne₁.1.symm, hne₂.1.symm⟩
    rcases List.mem_cons.mp hq with e | hq
    · rw [e]; exact ⟨hne₁.2.1.symm, hne₂.2.1.symm⟩
    rcases List.mem_cons.mp hq with e | hq
    · rw [e]; exact ⟨hne₁.2.2.symm, hne₂.2.2.symm⟩
    exact hfr q hq
  have sub1 : ∀ q ∈ baseR h₁ h₂ h₃ frs, q ∈ (baseR h₁ h₂ h₃ frs).put x₁ (.imm d₁) := fun q hq => .tail _ (List.mem_filter.mpr ⟨hq, by simpa using (hb q hq).1⟩)
  have sub : ∀ q ∈ baseR h₁ h₂ h₃ frs, q ∈ ((baseR h₁ h₂ h₃ frs).put x₁ (.imm d₁)).put x₂ (.imm d₂) := fun q hq => .tail _ (List.mem_filter.mpr ⟨sub1 q hq, by simpa using (hb q hq).2⟩)
  have sub2 : ∀ q ∈ (x₂, Sl.imm d₂) :: (x₁, Sl.imm d₁) :: frs, q ∈ ((baseR h₁ h₂ h₃ frs).put x₁ (.imm d₁)).put x₂ (.imm d₂) := fun q hq => by
    rcases List.mem_cons.mp hq with e | hq
    · rw [e]; exact .head _
    rcases List.mem_cons.mp hq with e | hq
    · rw [e]; exact .tail _ (List.mem_filter.mpr ⟨.head _, by simpa using h12⟩)
    · exact sub q (.tail _ (.tail _ (.tail _ hq)))
  exact ⟨_, Asg.tup hh (.cons (.cons .nil)) (.cons (.cons .nil)) (fun x hx => by
    simp only [List.mem_cons, List.not_mem_nil, or_false] at hx
    rcases hx with rfl | rfl
    · exact hx₁
    · exact hx₂), sub, ht.sub sub2, fun hp => (he hp).sub sub2⟩⟩
theorem InFn.comp {s₀ : Shared} {U₀ : Addr → Prop} {scope L cells C U} {s : Shared} (w₀ : Wd g s₀) (hp : Pur g s₀ s) (hU : ∀ a, U a → U₀ a ∨ s₀.heap.get? a = none) : InFn g (compF F scope L cells C U s) s₀ U₀ := ⟨w₀, hp, hU⟩
theorem cs_cell {fd : FuncData} {a : Addr} {U : Addr → Prop} {s : Shared} {x : Str} (h : fd.scope.names.lookup x = some .cell) : CanStore (mkF fd a U s) x := by
  obtain ⟨q, hq, e⟩ := List.mem_map.mp (cellsFrom_has fd.scope.names (s.heap.objs.size + 1) [] x (.inl (PySem.mem_of_lookup h)))
  exact .inr ⟨q.2, by show (x, q.2) ∈ cellsFrom (s.heap.objs.size + 1) fd.scope.names []; rw [← e]; exact hq⟩
theorem Src.rangeN {iter x px} {n : Nat} (hh : A.handled = none) (he : Ev g A F ρ iter (.rng 0 (n : Int))) (hn : n ≤ 1000000) : Src g A F ρ iter (.Name x px) ((List.range n).map fun k : Nat => V.int (k : Int)) := by
  have := Src.range (x := x) (px := px) hh he (by decide) (by decide) (by lia) (by lia)
  rw [upto, Int.sub_zero, Int.toNat_natCast, List.map_map] at this
  have e : (V.int ∘ fun k : Nat => (0 : Int) + (k : Int)) = fun k : Nat => V.int (k : Int) := funext fun k => by show V.int (0 + (k : Int)) = _; rw [Int.zero_add]
  rw [e] at this
  exact this
theorem hap_nil {P : Str → Prop} : ∀ q ∈ ([] : Rho), P q.1 := fun zz h => absurd h List.not_mem_nil
theorem hap_cons {P : Str → Prop} {ρ : Rho} {x : Str} {sl : Sl} (h : P x) (k : ∀ q ∈ ρ, P q.1) : ∀ q ∈ (x, sl) :: ρ, P q.1 := fun q hq => by
  rcases List.mem_cons.mp hq with e | hq
  · rw [e]; exact h
  · exact k q hq
theorem hap_put {P : Str → Prop} {ρ : Rho} {x : Str} {sl : Sl} (h : P x) (k : ∀ q ∈ ρ, P q.1) : ∀ q ∈ ρ.put x sl, P q.1 := fun q hq => by
  rcases List.mem_cons.mp hq with e | hq
  · rw [e]; exact h
  · exact k q (List.mem_filter.mp hq).1
noncomputable abbrev farN (x : Str) : Prop := x ≠ "%a" ∧ x ≠ "%l"
theorem hap_of {ρ : Rho} (h : ∀ q ∈ ρ, farN q.1) : ∀ q ∈ ρ, q.1 ≠ "%a" ∧ q.1 ≠ "%l" := h
end
end
section
section
variable {A : Around} {F : Fx} {ρ : Rho} {s₀ : Shared} {U₀ : Addr → Prop}
theorem Ev.lenOwn (H : Base g) {x p xp pos xs} (hm : ((x : Str), Sl.own xs) ∈ ρ) (hz : xs.length < 2 ^ 62) (hd : (x == ("__debug__" : Str)) = false) (hx : F.env.kindOf "len" = some .globalImplicit) (hmm : nsIn g.K mainGlobals "len" = some Option.none) (he : starEach [.Name x xp] F.env = [(false, eval (.Name x xp) F.env)]) :
    Ev g A F ρ (.Call (.Name "len" p) [.Name x xp] [] pos) (.int xs.length) := ⟨fun O s st => by
  refine Call_Name rfl (runQ ((EvV.buiK (v := .builtin "len") H hx hmm (by kernel_rfl) (by decide)).run O s st) fun f s₁ p₁ r₁ => ?_)
  subst r₁
  have st₁ := st.step p₁
  refine ngI fun hNg => ?_
  obtain ⟨a, vs, hbd, hO, hL, hr⟩ := st₁.ownL hm
  refine ngE hNg ?_
  refine PyProof.Rows.callWith_builtin1 (rest := []) ?_ he rfl
  refine Calls.spliced_cons (load_bound st₁.kind hbd (Calls.spliced_nil ?_) hd)
  have e := hr.length
  refine call_len_list hL.isList (by rw [List.size_toArray, e]; lia) ?_
  rw [List.size_toArray, e]
  exact ⟨p₁.trans (Pur.toks st₁.wd _), .int _ _⟩⟩
theorem Ev.itemOwn {x xp i pos xs} {j : Int} {k : Nat} {d} (hm : ((x : Str), Sl.own xs) ∈ ρ) (h₂ : Ev g A F ρ i (.int j)) (hj : j = (k : Int)) (hx : xs[k]? = some d) (hz : k < 1000000) (hd : (x == ("__debug__" : Str)) = false)
    (hs : ∀ o v, subscripted i false o v = operate [o, v] (getItem o v)) : Ev g A F ρ (.Subscript (.Name x xp) i pos) d := ⟨fun O s st => by
  refine ngI fun hNg => ?_
  obtain ⟨a, vs, hbd, hO, hL, hr⟩ := st.ownL hm
  refine ngE hNg ?_
  refine Subscript_ (load_bound st.kind hbd (runQ (h₂.run O s st) fun v₂ s₂ p₂ r₂ => ?_) hd)
  subst hj
  cases r₂
  refine ngI fun hNg => ?_
  obtain ⟨v, hv, hd'⟩ := hr.getD hx
  refine ngE hNg ?_
  have hL₂ := p₂.plainL st.wd hL
  exact tail_any hL₂.isList.typeIs slot_list_getitem.lookup (wpAny_getItem_list hL₂.isList (Int.natCast_nonneg k) (by lia) (x := v) (by rw [Int.toNat_natCast]; simpa using hv) ⟨p₂, st.rep p₂ hd'⟩) (hs _ _)⟩
theorem Ev.itemOwnLast {x xp i pos xs d} (hm : ((x : Str), Sl.own xs) ∈ ρ) (h₂ : Ev g A F ρ i (.int (-1))) (hx : xs.getLast? = some d) (hd : (x == ("__debug__" : Str)) = false)
    (hs : ∀ o v, subscripted i false o v = operate [o, v] (getItem o v)) : Ev g A F ρ (.Subscript (.Name x xp) i pos) d := ⟨fun O s st => by
  refine ngI fun hNg => ?_
  obtain ⟨a, vs, hbd, hO, hL, hr⟩ := st.ownL hm
  refine ngE hNg ?_
  refine Subscript_ (load_bound st.kind hbd (runQ (h₂.run O s st) fun v₂ s₂ p₂ r₂ => ?_) hd)
  cases r₂
  rw [List.getLast?_eq_getElem?] at hx
  refine ngI fun hNg => ?_
  obtain ⟨v, hv, hd'⟩ := hr.getD hx
  refine ngE hNg ?_
  have hL₂ := p₂.plainL st.wd hL
  have hlen := hr.length
  have hpos : 0 < xs.length := by
    cases xs with
    | nil => simp at hx
    | cons => simp
  exact tail_any hL₂.isList.typeIs slot_list_getitem.lookup (wpAny_getItem_list_neg hL₂.isList (by decide) (by simp [hlen]; lia) (by decide) (x := v) (by
    have : ((-1 : Int) + (vs.toArray.size : Int)).toNat = xs.length - 1 := by rw [List.size_toArray, hlen]; lia
    rw [this]; simpa using hv) ⟨p₂, st.rep p₂ hd'⟩) (hs _ _)⟩
theorem Ev.callOwn2 {n f fx x xp fp e cpos xs d} {i : Int} (hm : ((x : Str), Sl.own xs) ∈ ρ) (hf : EvV g A F ρ (.Name fx fp) f) (he : Ev g A F ρ e d) (I : InFn g F s₀ U₀) (hA : AOk n A) (c : Fn g n f [] s₀ U₀ [.lst xs, d] [] (.int i)) (hd : (x == ("__debug__" : Str)) = false)
    (hs : starEach [.Name x xp, e] F.env = [(false, eval (.Name x xp) F.env), (false, eval e F.env)]) : Ev g A F ρ (.Call (.Name fx fp) [.Name x xp, e] [] cpos) (.int i) := ⟨fun O s st => by
  refine Call_Name rfl (runQ (hf.run O s st) fun fv s₁ p₁ r₁ => ?_)
  subst r₁
  have st₁ := st.step p₁
  refine ngI fun hNg => ?_
  obtain ⟨fa, fo, fdd, rfl, hfo, hfd, hfc⟩ := c.at'
  refine ngE hNg ?_
  refine ngI fun hNg => ?_
  obtain ⟨a, vs, hbd, hO, hL, hr⟩ := st₁.ownL hm
  refine ngE hNg ?_
  refine callWith_function_kw (o := fo) (fd := fdd) ?_
  rw [hs]
  refine evalArgs_kw rfl (Calls.spliced_cons (load_bound st₁.kind hbd (Calls.spliced_cons (runQ (he.run O s₁ st₁) fun v s₂ p₂ r₂ => Calls.spliced_nil ?_)) hd))
  have st₂ := st₁.step p₂
  refine wpAny_evalAll_nil ?_
  have hat : s₂.heap.get? fa = some fo := (I.pur.trans st₂.pur).keep fa fo (tab_ne_obj I.wd0 hfo hfc) hfo
  refine ⟨⟨hat, hfd⟩, ?_⟩
  have hL₂ := p₂.plainL st₁.wd hL
  have hr₂ := st₁.reps p₂ hr
  have sub : ∀ {d v}, Rep g s₂.heap (UU F O) d v → Rep g s₂.heap (fun b => UU F O b ∧ b ≠ a) d v := fun r => Rep.mono (fun zz u n zz => n u.1) (fun zz zz zz e => e) r
  refine wpAny_mono (c.run A s₂ (fun b => UU F O b ∧ b ≠ a) [.ref a, v] [] hA (I.pur.trans st₂.pur) (fun b u => st₂.live u.1) (fun q hq => ⟨.inl (st₂.tabU q hq), fun e => st₂.tabNe (st₂.newO _ hO) q hq e⟩) (fun b u => I.new st₂ b u.1) (.cons (.lst (fun u => u.2 rfl) hL₂.isList (Reps.mono (fun zz u n zz => n u.1) (fun zz zz zz e => e) hr₂)) (.one (sub r₂))) .nil) (fun r s₄ q => ?_) fun zz zz x => x
  refine ngI fun hNg => ?_
  obtain ⟨p₄, r₄⟩ := q
  refine ngE hNg ?_
  refine ⟨(p₁.trans p₂).trans p₄, ?_⟩
  cases r₄
  exact .int _ _⟩
end
end
local macro_rules | `(tactic| walk_at "loc") => `(tactic| (with_reducible refine' cs_cell ?_; kernel_rfl!))
local macro_rules | `(tactic| walk_at "hap") => `(tactic| ((refine hap_of ?_); repeat (first | with_reducible exact hap_nil | (with_reducible refine' hap_cons (by decide) ?_) | (with_reducible refine' hap_put (by decide) ?_))))
local macro_rules | `(tactic| walk_at "frs") => `(tactic| ((dsimp only [frRho, List.map]); walk_at "sub"))
local macro_rules | `(tactic| walk_at "cloc") => `(tactic| exact .inl (by kernel_rfl!))
local macro_rules | `(tactic| walk_at "cne") => `(tactic| ((dsimp only [frRho, List.map]); walk_at "apart"))
section
noncomputable def pickAt (total : Int) (w : Nat) (k : Nat) : Bool := ((total.fdiv 3 + 29 * w).fdiv (2 ^ k)).fmod 2 == 0
noncomputable def gapAt (total : Int) (w : Nat) (k : Nat) : Bool := ((total + 5 * w).fdiv (3 ^ k)).fmod 3 != 1
noncomputable abbrev Want := List Nat × List Bool
noncomputable def wantV (q : Want) : V := .tup [.lst (natsV q.1), .lst (boolsV q.2)]
noncomputable def want0 (n : Nat) : Want := (List.range n, List.replicate (n + 1) false)
noncomputable def wantW (n : Nat) (total : Int) (w : Nat) : Want := ((List.range n).filter (pickAt total w), (List.range (((List.range n).filter (pickAt total w)).length + 1)).map (gapAt total w))
noncomputable def pairT (total : Int) (i j : Nat) : Int := total.fdiv 2 + i + 2 * j
noncomputable def want2 (n : Nat) (total : Int) (i j : Nat) : Want :=
  if ((total + i + j).fmod 2 == 0) = true then ([i, j], [(pairT total i j).fmod 2 == 1, ((pairT total i j).fdiv 2).fmod 2 == 1, ((pairT total i j).fdiv 4).fmod 2 == 1])
  else (List.range (i + 1) ++ List.range' j (n - j), (List.range (i + 2 + n - j)).map fun k => k == i + 1)
noncomputable def wantRow (n : Nat) (total : Int) (i : Nat) : List Want := (List.range n).map (want2 n total i)
noncomputable def wantHd (n : Nat) (total : Int) : List Want := want0 n :: (List.range 3).map (wantW n total)
noncomputable def wantTl (n : Nat) (total : Int) (m : Nat) : List Want := ((List.range m).map (wantRow n total)).flatten
noncomputable def lawWants (n : Nat) (total : Int) (all : Bool) : List Want := wantHd n total ++ wantTl n total (if all = true then n else 0)
theorem wantTl_len (n : Nat) (total : Int) (m : Nat) : (wantTl n total m).length = m * n := by
  induction m with
  | zero => simp [wantTl]
  | succ m ih =>
    have : wantTl n total (m + 1) = wantTl n total m ++ wantRow n total m := by simp [wantTl, List.range_succ]
    rw [this, List.length_append, ih, wantRow, List.length_map, List.length_range, Nat.succ_mul]
theorem natsV_cast {xs : List Int} {ns : List Nat} (h : xs = ns.map fun k : Nat => (k : Int)) : xs.map V.int = natsV ns := by
  subst h; rw [natsV, List.map_map]; rfl
variable {s₀ : Shared} {U₀ : Addr → Prop}
theorem law_wants (H : Base g) (w₀ : Wd g s₀) {n : Nat} {total : Int} {all : Bool} (hn : n ≤ 10) : Fn g 1 (.ref 147) [] s₀ U₀ [.int n, .int total, .bool all] [] (.lst ((lawWants n total all).map wantV)) := by
  refine Fn.def (names := ["n", "total", "all_pairs"]) (ds := [.int n, .int total, .bool all]) H (by kernel_rfl) w₀ ?_ ?_
  · intro vsP vsK hP hK
    obtain ⟨v1, v2, v3, rfl⟩ := len3 hP
    obtain rfl := len0 hK
    exact ⟨[v1, v2, v3], fun S => by kernel_rfl, fun h U r zz => r⟩
  · intro A U s hA p hU
    have hh := hA.hh
    have b2 : Builtin.Int.intBits 2 = 2 := by decide +kernel
    have b3 : Builtin.Int.intBits 3 = 2 := by decide +kernel
    show X g A (mkF (fd g 147) 147 U s) [("n", .imm (.int n)), ("total", .imm (.int total)), ("all_pairs", .imm (.bool all))] (bodyOf (fd g 147)) (Ends _)
    conv => arg 5; whnf
    have up0 : ∀ m : Nat, upto 0 (m : Int) = (List.range m).map fun k : Nat => (k : Int) := fun m => by
      rw [upto, Int.sub_zero, Int.toNat_natCast]
      exact List.map_congr_left fun k zz => Int.zero_add _
    with_reducible apply X.assignL (xs := [wantV (want0 n)]) (xs' := [wantV (want0 n)])
    case hd => rfl
    case hs => walk_at "prop"
    case hx => walk_at "loc"
    case h =>
      refine EvF.list (.cons ?_ .nil (by rfl)) (Nat.le_of_ble_eq_true rfl)
      refine Ev.tuple (ds := [.lst (natsV (List.range n)), .lst (boolsV (List.replicate (n + 1) false))]) (.cons ?_ (.cons ?_ .nil (by rfl)) (by rfl)) (Nat.le_of_ble_eq_true rfl)
      · refine (EvF.ev (EvF.listRange H hh (a := 0) (b := n) (by walk_at "go") (by decide) (by decide) (by lia) (by lia) (by lia) (by kernel_rfl!) (by kernel_rfl!) (by rfl))).cast ?_
        rw [natsV_cast (up0 n)]
      · refine (EvF.ev (EvF.times (xs := [.bool false]) (k := n + 1) (EvF.ev (EvF.list (by walk_at "go") (Nat.le_of_ble_eq_true rfl))) (by walk_at "go") (by lia) (by lia) (by simp only [List.length_cons, List.length_nil]; lia))).cast ?_
        rw [show ((n : Int) + 1).toNat = n + 1 by lia, boolsV, List.map_replicate]
        congr 1
        have : ∀ m, (List.replicate m [V.bool false]).flatten = List.replicate m (V.bool false) := fun m => by
          induction m with
          | zero => rfl
          | succ m ih => rw [List.replicate_succ, List.flatten_cons, ih]; rfl
        exact this _
    refine X.forR (a := 0) (b := 3) "%i" "%s" hh (by walk_at "go") (by decide) (by decide) (by decide) (by decide) (by walk_at "loc") (fun k => [("n", .imm (.int n)), ("total", .imm (.int total)), ("all_pairs", .imm (.bool all)), ("wants", .own ((want0 n :: (List.range k).map (wantW n total)).map wantV))]) (fun zz => True) (by decide) (fun zz => by walk_at "apart") trivial (by walk_at "sub") ?_ ?_ (by intro _; rfl)
    · intro w hw _ hid₁ hid₂
      rw [show (0 : Int) + (w : Int) = w from Int.zero_add _]
      have hw3 : w < 3 := by lia
      have q2 : ∀ k : Nat, k ≤ 11 → ((2 : Int) ^ k).natAbs < 1073741824 := fun k hk => by
        rw [Int.natAbs_pow]; exact Nat.lt_of_le_of_lt (Nat.pow_le_pow_right (by decide) hk) (by decide)
      have q3 : ∀ k : Nat, k ≤ 11 → ((3 : Int) ^ k).natAbs < 1073741824 := fun k hk => by
        rw [Int.natAbs_pow]; exact Nat.lt_of_le_of_lt (Nat.pow_le_pow_right (by decide) hk) (by decide)
      have pos2 : ∀ k : Nat, (2 : Int) ^ k ≠ 0 := fun k => Int.pow_ne_zero (by decide)
      have pos3 : ∀ k : Nat, (3 : Int) ^ k ≠ 0 := fun k => Int.pow_ne_zero (by decide)
      refine X.assignC (as := List.range n) (enc := fun k : Nat => .int (k : Int)) (p := pickAt total w) (f := fun k : Nat => .int (k : Int)) (fr := [("total", .int total), ("w", .int w)]) ?c1 ?c2 (CompOk.of (by kernel_rfl!)) ?c3 ?c4 ?c5 ?c6 ?c7 ?c8 ?c9 ?c10
      case c1 => walk_at "prop"
      case c2 => walk_at "loc"
      case c3 => walk_at "frs"
      case c4 =>
        exact Src.rangeN hh (by walk_at "go") (by lia)
      case c5 => rw [List.length_range, sizeLine_eq]; lia
      case c6 =>
        intro L cells C U' s' w' hC k hk
        have hk' := List.mem_range.mp hk
        refine CTurn.nm (.inl (by kernel_rfl!)) (by decide) (by walk_at "cne") (Tests.one ?_) fun zz => ?_
        · show Tr _ _ _ [(("k" : Str), Sl.imm (.int (k : Int))), (("total" : Str), Sl.imm (.int total)), (("w" : Str), Sl.imm (.int w))] _ _
          refine Tr.cast (d := (((total.fdiv 3 + 29 * (w : Int)).fdiv (2 ^ ((k : Int).toNat))).fmod 2 == 0)) ?_ (by rw [Int.toNat_natCast]; rfl)
          walk_at "go"
          · exact .of_left (by decide +kernel)
          · lia
          · rw [b2]; lia
          · rw [Int.toNat_natCast]; exact pos2 k
          · rw [Int.toNat_natCast]; exact q2 k (by lia)
        · show Ev _ _ _ [(("k" : Str), Sl.imm (.int (k : Int))), (("total" : Str), Sl.imm (.int total)), (("w" : Str), Sl.imm (.int w))] _ _
          walk_at "go"
      case c7 => intro _; rfl
      case c8 => walk_at "hap"
      case c9 => decide
      case c10 =>
      have hpl : ((List.range n).filter (pickAt total w)).length ≤ n := Nat.le_trans (List.length_filter_le _ _) (by rw [List.length_range]; exact Nat.le_refl _)
      refine X.freezeL (x := "picks") (by walk_at "mem") ?_
      with_reducible apply X.append (xs := (want0 n :: (List.range w).map (wantW n total)).map wantV) (d := wantV (wantW n total w))
      · walk_at "mem"
      · refine Ev.tuple (ds := [.lst (natsV (wantW n total w).1), .lst (boolsV (wantW n total w).2)]) (.cons ?_ (.cons ?_ .nil (by rfl)) (by rfl)) (Nat.le_of_ble_eq_true rfl)
        · refine Ev.name ?_ (by decide)
          show (_, Sl.imm (.lst (((List.range n).filter (pickAt total w)).map fun k : Nat => V.int (k : Int)))) ∈ _
          walk_at "mem"
        · refine EvF.ev (EvF.cast (d := ((List.range (((List.range n).filter (pickAt total w)).length + 1)).filter fun zz => true).map fun k => .bool (gapAt total w k)) (EvF.comp (as := List.range (((List.range n).filter (pickAt total w)).length + 1)) (enc := fun k : Nat => .int (k : Int)) (p := fun zz => true) (f := fun k : Nat => .bool (gapAt total w k)) (fr := [("total", .int total), ("w", .int w)]) (CompOk.of (by kernel_rfl!)) (by walk_at "frs") ?_ ?_ ?_ (by intro _; rfl)) ?_)
          · refine Src.rangeN hh ?_ (by lia)
            have hl : (((List.range n).filter (pickAt total w)).map fun k : Nat => V.int (k : Int)).length = ((List.range n).filter (pickAt total w)).length := List.length_map _
            refine Ev.range1 H (Ev.cast (d := .int ((((List.range n).filter (pickAt total w)).map fun k : Nat => V.int (k : Int)).length + 1)) (by walk_at "go"; all_goals (first | lia | (rw [hl]; lia))) ?_) (by kernel_rfl!) (by kernel_rfl!) (by rfl)
            rw [hl]; push_cast; rfl
          · rw [List.length_range, sizeLine_eq]; lia
          · intro L cells C U' s' w' hC k hk
            have hk' := List.mem_range.mp hk
            refine CTurn.nm (.inl (by kernel_rfl!)) (by decide) (by walk_at "cne") Tests.nil fun zz => ?_
            show Ev _ _ _ [(("k" : Str), Sl.imm (.int (k : Int))), (("total" : Str), Sl.imm (.int total)), (("w" : Str), Sl.imm (.int w))] _ _
            refine Ev.cast (d := .bool (((total + 5 * (w : Int)).fdiv (3 ^ ((k : Int).toNat))).fmod 3 != 1)) ?_ (by rw [Int.toNat_natCast]; rfl)
            walk_at "go"
            · exact .of_left (by decide +kernel)
            · lia
            · rw [b3]; lia
            · rw [Int.toNat_natCast]; exact pos3 k
            · rw [Int.toNat_natCast]; exact q3 k (by lia)
          · rw [List.filter_eq_self.mpr fun zz zz => rfl]; simp only [boolsV, wantW, List.map_map]; rfl
      · rw [List.length_map, List.length_cons, List.length_map, List.length_range, sizeLine_eq]; lia
      all_goals (try walk_at "prop")
      with_reducible apply X.nil
      refine ⟨trivial, ?_⟩
      have e : (want0 n :: (List.range (w + 1)).map (wantW n total)).map wantV = ((want0 n :: (List.range w).map (wantW n total)).map wantV) ++ [wantV (wantW n total w)] := by simp [List.range_succ]
      rw [e]
      walk_at "sub"
    · intro _
      rw [show (3 - 0 : Int).toNat = 3 from rfl]
      have hm : ∃ m, m = (if all = true then n else 0) := ⟨_, rfl⟩
      obtain ⟨m, hm⟩ := hm
      have hmn : m ≤ n := by rw [hm]; split <;> lia
      refine X.forR (a := 0) (b := m) "%i" "%s" hh ?_ (by decide) (by decide) (by lia) (by lia) (by walk_at "loc") (fun k => [("n", .imm (.int n)), ("total", .imm (.int total)), ("all_pairs", .imm (.bool all)), ("wants", .own ((wantHd n total ++ wantTl n total k).map wantV))]) (fun zz => True) (by decide) (fun zz => by walk_at "apart") trivial ?_ ?_ ?_ (by intro _; rfl)
      · refine Ev.range1 H (Ev.ifte (b := all) (by walk_at "tr") (fun e => ?_) fun e => ?_) (by kernel_rfl!) (by kernel_rfl!) (by rfl)
        · rw [hm, if_pos e]; walk_at "go"
        · rw [hm, if_neg (by rw [e]; decide)]; exact Ev.int
      · rw [show wantHd n total ++ wantTl n total 0 = want0 n :: (List.range 3).map (wantW n total) from List.append_nil _]
        walk_at "sub"
      · intro i hi _ hid₁ hid₂
        rw [show (0 : Int) + (i : Int) = i from Int.zero_add _]
        have hi' : i < n := by lia
        refine X.forR (a := 0) (b := n) "%j" "%t" hh (by walk_at "go") (by decide) (by decide) (by lia) (by lia) (by walk_at "loc") (fun k => [("%i", hid₁), ("%s", hid₂), ("n", .imm (.int n)), ("total", .imm (.int total)), ("all_pairs", .imm (.bool all)), ("i", .imm (.int i)), ("wants", .own ((wantHd n total ++ wantTl n total i ++ (List.range k).map (want2 n total i)).map wantV))]) (fun zz => True) (by decide) (fun zz => by walk_at "apart") trivial ?_ ?_ ?_ (by intro _; rfl)
        · rw [show wantHd n total ++ wantTl n total i ++ (List.range 0).map (want2 n total i) = wantHd n total ++ wantTl n total i from List.append_nil _]
          walk_at "sub"
        · intro j hj _ hid₃ hid₄
          rw [show (0 : Int) + (j : Int) = j from Int.zero_add _]
          have hj' : j < n := sub0 hj
          have hlen : ((wantHd n total ++ wantTl n total i ++ (List.range j).map (want2 n total i)).map wantV).length ≤ sizeLine := by
            rw [List.length_map, List.length_append, List.length_append, wantTl_len, List.length_map, List.length_range, wantHd, List.length_cons, List.length_map, List.length_range, sizeLine_eq]
            have : i * n ≤ 10 * 10 := Nat.mul_le_mul (by lia) hn
            lia
          have snoc : (wantHd n total ++ wantTl n total i ++ (List.range (j + 1)).map (want2 n total i)).map wantV = (wantHd n total ++ wantTl n total i ++ (List.range j).map (want2 n total i)).map wantV ++ [wantV (want2 n total i j)] := by simp [List.range_succ]
          with_reducible apply X.assignAs (d := .int (pairT total i j))
          · walk_at "prop"
          · walk_at "loc"
          · walk_at "go"
            exact .of_left (by decide +kernel)
          · rfl
          with_reducible apply X.ifS (b := (total + i + j).fmod 2 == 0)
          · walk_at "go"
          · intro hb
            with_reducible apply X.append (xs := (wantHd n total ++ wantTl n total i ++ (List.range j).map (want2 n total i)).map wantV) (d := wantV (want2 n total i j))
            · walk_at "mem"
            · refine Ev.cast (d := .tup [.lst [.int i, .int j], .lst [.bool ((pairT total i j).fmod 2 == 1), .bool (((pairT total i j).fdiv 2).fmod 2 == 1), .bool (((pairT total i j).fdiv 4).fmod 2 == 1)]]) ?_ (by unfold want2; rw [if_pos hb]; rfl)
              refine Ev.tuple (.cons (EvF.ev (EvF.list (by walk_at "go") (Nat.le_of_ble_eq_true rfl))) (.cons (EvF.ev (EvF.list (by walk_at "go") (Nat.le_of_ble_eq_true rfl))) .nil (by rfl)) (by rfl)) (Nat.le_of_ble_eq_true rfl)
            · exact hlen
            all_goals (try walk_at "prop")
            with_reducible apply X.nilK
            with_reducible apply X.nil
            refine ⟨trivial, ?_⟩
            rw [snoc]
            walk_at "sub"
          · intro hb
            with_reducible apply X.append (xs := (wantHd n total ++ wantTl n total i ++ (List.range j).map (want2 n total i)).map wantV) (d := wantV (want2 n total i j))
            · walk_at "mem"
            · refine Ev.cast (d := .tup [.lst (natsV (List.range (i + 1) ++ List.range' j (n - j))), .lst (boolsV ((List.range (i + 2 + n - j)).map fun k => k == i + 1))]) ?_ (by unfold want2; rw [if_neg (by rw [hb]; decide)]; rfl)
              refine Ev.tuple (.cons ?_ (.cons ?_ .nil (by rfl)) (by rfl)) (Nat.le_of_ble_eq_true rfl)
              · refine (EvF.ev (EvF.cat (xs := natsV (List.range (i + 1))) (ys := natsV (List.range' j (n - j))) ?_ ?_ ?_)).cast (by rw [natsV, natsV, natsV, List.map_append])
                · refine (EvF.ev (EvF.listRange H hh (a := 0) (b := ((i + 1 : Nat) : Int)) (Ev.cast (d := .rng 0 (i + 1)) (by walk_at "go") (by push_cast; rfl)) (by decide) (by decide) (by lia) (by lia) (by lia) (by kernel_rfl!) (by kernel_rfl!) (by rfl))).cast ?_
                  rw [natsV_cast (up0 (i + 1))]
                · refine (EvF.ev (EvF.listRange H hh (a := j) (b := n) (by walk_at "go") (by lia) (by lia) (by lia) (by lia) (by lia) (by kernel_rfl!) (by kernel_rfl!) (by rfl))).cast ?_
                  rw [natsV_cast (ns := List.range' j (n - j)) ?_]
                  rw [upto, show ((n : Int) - j).toNat = n - j by lia, List.range'_eq_map_range, List.map_map]
                  exact List.map_congr_left fun k zz => by show (j : Int) + (k : Int) = ((j + k : Nat) : Int); push_cast; rfl
                · rw [natsV, natsV, List.length_map, List.length_map, List.length_range, List.length_range', sizeLine_eq]; lia
              · refine EvF.ev (EvF.cast (d := ((List.range (i + 2 + n - j)).filter fun zz => true).map fun k => .bool (k == i + 1)) (EvF.comp (as := List.range (i + 2 + n - j)) (enc := fun k : Nat => .int (k : Int)) (p := fun zz => true) (f := fun k : Nat => .bool (k == i + 1)) (fr := [("i", .int i)]) (CompOk.of (by kernel_rfl!)) (by walk_at "frs") ?_ ?_ ?_ (by intro _; rfl)) ?_)
                · refine Src.rangeN hh (Ev.cast (d := .rng 0 ((i : Int) + 2 + n - j)) (by walk_at "go") ?_) (by lia)
                  congr 1; lia
                · rw [List.length_range, sizeLine_eq]; lia
                · intro L cells C U' s' w' hC k hk
                  refine CTurn.nm (.inl (by kernel_rfl!)) (by decide) (by walk_at "cne") Tests.nil fun zz => ?_
                  show Ev _ _ _ [(("k" : Str), Sl.imm (.int (k : Int))), (("i" : Str), Sl.imm (.int (i : Int)))] _ _
                  refine Ev.cast (d := .bool ((k : Int) == (i : Int) + 1)) (by walk_at "go") ?_
                  congr 1
                  rw [Bool.eq_iff_iff, beq_iff_eq, beq_iff_eq]; lia
                · rw [List.filter_eq_self.mpr fun zz zz => rfl, boolsV, List.map_map]; rfl
            · exact hlen
            all_goals (try walk_at "prop")
            with_reducible apply X.nilK
            with_reducible apply X.nil
            refine ⟨trivial, ?_⟩
            rw [snoc]
            walk_at "sub"
        · intro _
          with_reducible apply X.nil
          refine ⟨trivial, ?_⟩
          rw [show ((n : Int) - 0).toNat = n by lia]
          have e : wantHd n total ++ wantTl n total (i + 1) = wantHd n total ++ wantTl n total i ++ (List.range n).map (want2 n total i) := by simp [wantTl, List.range_succ, wantRow]
          rw [e]
          walk_at "sub"
      · intro _
        rw [show ((m : Int) - 0).toNat = m by lia]
        refine X.freezeL (x := "wants") (by walk_at "mem") ?_
        with_reducible apply X.ret
        · walk_at "go"
        · show V.lst _ = V.lst _
          rw [hm]; rfl
end
section
noncomputable def Rows8 (rows : List (List V)) : Prop := (∀ r ∈ rows, r.length = 8) ∧ ∀ r ∈ rows, ∀ r' ∈ rows, ∀ c < 8, alikeV (r.getD c .none) (r'.getD c .none) = true
noncomputable def lessAt (rows : List (List V)) (row : List V) (c : Nat) : Nat := (rows.filter fun o => ltV (o.getD c .none) (row.getD c .none)).length
noncomputable def rankAt (rows : List (List V)) (row : List V) (q : Nat × Int) : Int := if decide (q.2 > 0) = true then (lessAt rows row q.1 : Int) else -(lessAt rows row q.1 : Int)
noncomputable def rankOf (rows : List (List V)) (keys : Keys) (row : List V) : List Int := keys.map (rankAt rows row)
noncomputable def ranksOf (rows : List (List V)) (keys : Keys) : List (List Int) := rows.map (rankOf rows keys)
variable {s₀ : Shared} {U₀ : Addr → Prop}
theorem law_sorted (H : Base g) (w₀ : Wd g s₀) {rows : List (List V)} {keys : Keys} {p : List Nat} (hR : Rows8 rows) (hk : ∀ q ∈ keys, q.1 < 8) (hn : rows.length ≤ 6) (hkn : keys.length < 64) (hp : Ord (lexLt keys.length (ranksOf rows keys)) rows.length p) :
    Fn g 4 (.ref 142) [] s₀ U₀ [.lst (rows.map .tup), .lst (keys.map keyV)] [] (.lst (p.map fun i => .tup (rows.getD i []))) := by
  refine Fn.def (names := ["rows", "keys"]) (ds := [.lst (rows.map .tup), .lst (keys.map keyV)]) H (by kernel_rfl) w₀ ?_ ?_
  · intro vsP vsK hP hK
    obtain ⟨v1, v2, rfl⟩ := len2 hP
    obtain rfl := len0 hK
    exact ⟨[v1, v2], fun S => by kernel_rfl, fun h U r zz => r⟩
  · intro A U s hA p' hU
    have hh := hA.hh
    have hml : (rows.map V.tup).length = rows.length := List.length_map _
    have hkl : (keys.map keyV).length = keys.length := List.length_map _
    show X g A (mkF (fd g 142) 142 U s) [("rows", .imm (.lst (rows.map .tup))), ("keys", .imm (.lst (keys.map keyV)))] (bodyOf (fd g 142)) (Ends _)
    conv => arg 5; whnf
    with_reducible apply X.assignF
    case h => exact EvF.list .nil (by decide)
    case hx => walk_at "loc"
    case hs => walk_at "prop"
    refine X.forL (xs := rows.map .tup) "%i" "%s" hh (by walk_at "go") (.inl ⟨_, _, rfl⟩) (fun k => [("rows", .imm (.lst (rows.map .tup))), ("keys", .imm (.lst (keys.map keyV))), ("ranks", .own ((rows.take k).map fun r => .lst ((rankOf rows keys r).map .int)))]) (fun zz => True) (by decide) (fun zz => by walk_at "apart") trivial (by walk_at "sub") ?_ ?_ (by intro _; rfl)
    · intro k d hd _ hid₁ hid₂
      rw [List.getElem?_map] at hd
      cases hq : rows[k]? with
      | none => rw [hq] at hd; cases hd
      | some row =>
        rw [hq] at hd; cases hd
        have hk' : k < rows.length := (List.getElem?_eq_some_iff.mp hq).1
        have hrow : row ∈ rows := List.mem_of_getElem? hq
        refine ⟨_, Asg.name (by walk_at "loc"), ?_⟩
        refine X.assignF (EvF.comp (as := keys) (enc := keyV) (p := fun zz => true) (f := fun q => .int (lessAt rows row q.1)) (fr := [("row", .tup row), ("rows", .lst (rows.map .tup))]) (CompOk.of (by kernel_rfl!)) ?c3 ?c4 ?c5 ?c6 ?c7) ?c2 ?c10 ?c1
        case c1 => walk_at "prop"
        case c2 => walk_at "loc"
        case c3 => walk_at "frs"
        case c4 =>
          refine Src.list hh (by walk_at "go") (.inr ⟨_, _, _, rfl, fun d hd => ?_⟩)
          obtain ⟨q, _, rfl⟩ := List.mem_map.mp hd
          exact ⟨_, rfl⟩
        case c5 => rw [sizeLine_eq]; lia
        case c6 =>
          intro L cells C U' s' w' hC q hq
          have hc8 := hk q hq
          refine CTurn.nm2 hh (.inr (hC "column" (by decide))) (.inl (by kernel_rfl!)) (by decide) (by decide) (by decide) (fun z hz => ⟨?_, ?_⟩) Tests.nil fun zz => ?_
          · revert z; walk_at "cne"
          · revert z; walk_at "cne"
          · show Ev _ _ _ [(("way" : Str), Sl.imm (.int q.2)), (("column" : Str), Sl.imm (.int (q.1 : Int))), (("row" : Str), Sl.imm (.tup row)), (("rows" : Str), Sl.imm (.lst (rows.map .tup)))] _ _
            have hfl : ((rows.filter fun o => ltV (o.getD q.1 .none) (row.getD q.1 .none)).map V.tup).length = lessAt rows row q.1 := List.length_map _
            have hll : lessAt rows row q.1 ≤ rows.length := List.length_filter_le _ _
            refine Ev.cast (d := .int ((rows.filter fun o => ltV (o.getD q.1 .none) (row.getD q.1 .none)).map V.tup).length) ?_ (by rw [hfl])
            refine Ev.len H (EvF.ev (EvF.comp (as := rows) (enc := .tup) (p := fun o => ltV (o.getD q.1 .none) (row.getD q.1 .none)) (f := .tup) (fr := [("column", .int (q.1 : Int)), ("row", .tup row)]) (CompOk.of (by kernel_rfl!)) (by walk_at "frs") (Src.list hh (by walk_at "go") (.inl ⟨_, _, rfl⟩)) (by rw [sizeLine_eq]; lia) ?_ (by intro _; rfl))) (by rw [hfl]; lia) (by kernel_rfl!) (by kernel_rfl!) (by rfl)
            intro L2 cells2 C2 U2 s2 w2 hC2 o ho
            refine CTurn.nm (.inl (by kernel_rfl!)) (by decide) (by walk_at "cne") (Tests.one ?_) fun zz => ?_
            · show Tr _ _ _ [(("other" : Str), Sl.imm (.tup o)), (("column" : Str), Sl.imm (.int (q.1 : Int))), (("row" : Str), Sl.imm (.tup row))] _ _
              have l1 := hR.1 o ho
              have l2 := hR.1 row hrow
              refine Tr.cmp (Ev.itemTN (k := q.1) (d := o.getD q.1 .none) (by walk_at "go") (by walk_at "go") ?_ (by lia) (by intro _ _; rfl)) (Ev.itemTN (k := q.1) (d := row.getD q.1 .none) (by walk_at "go") (by walk_at "go") ?_ (by lia) (by intro _ _; rfl)) (Cmp.ltV (hR.2 o ho row hrow _ hc8)) (by rfl)
              · rw [List.getD_eq_getElem?_getD, List.getElem?_eq_getElem (by lia)]; rfl
              · rw [List.getD_eq_getElem?_getD, List.getElem?_eq_getElem (by lia)]; rfl
            · show Ev _ _ _ [(("other" : Str), Sl.imm (.tup o)), (("column" : Str), Sl.imm (.int (q.1 : Int))), (("row" : Str), Sl.imm (.tup row))] _ _
              walk_at "go"
        case c7 => intro _; rfl
        case c10 =>
        rw [List.filter_eq_self.mpr fun zz zz => rfl]
        refine X.freezeL (x := "less") (by walk_at "mem") ?_
        with_reducible apply X.append (xs := (rows.take k).map fun r => .lst ((rankOf rows keys r).map .int)) (d := .lst ((rankOf rows keys row).map .int))
        · walk_at "mem"
        · refine EvF.ev (EvF.cast (d := ((List.range keys.length).filter fun zz => true).map fun j => .int (rankAt rows row (keys.getD j (0, 0)))) (EvF.comp (as := List.range keys.length) (enc := fun k : Nat => .int (k : Int)) (p := fun zz => true) (f := fun j : Nat => .int (rankAt rows row (keys.getD j (0, 0)))) (fr := [("keys", .lst (keys.map keyV)), ("less", .lst (keys.map fun q => .int (lessAt rows row q.1)))]) (CompOk.of (by kernel_rfl!)) (by walk_at "frs") ?_ ?_ ?_ (by intro _; rfl)) ?_)
          · refine Src.rangeN hh (Ev.range1 H (Ev.cast (d := .int (keys.map keyV).length) (by walk_at "go"; all_goals (rw [hkl]; lia)) (by rw [hkl])) (by kernel_rfl!) (by kernel_rfl!) (by rfl)) (by lia)
          · rw [List.length_range, sizeLine_eq]; lia
          · intro L cells C U' s' w' hC j hj
            have hj' := List.mem_range.mp hj
            refine CTurn.nm (.inl (by kernel_rfl!)) (by decide) (by walk_at "cne") Tests.nil fun zz => ?_
            show Ev _ _ _ [(("k" : Str), Sl.imm (.int (j : Int))), (("keys" : Str), Sl.imm (.lst (keys.map keyV))), (("less" : Str), Sl.imm (.lst (keys.map fun q => .int (lessAt rows row q.1))))] _ _
            have kq : keys[j]? = some (keys.getD j (0, 0)) := by rw [List.getD_eq_getElem?_getD, List.getElem?_eq_getElem hj']; rfl
            have hl : ∀ {F ρ pos p1 p2}, (("k" : Str), Sl.imm (.int (j : Int))) ∈ ρ → (("less" : Str), Sl.imm (.lst (keys.map fun q => .int (lessAt rows row q.1)))) ∈ ρ → (∀ o v, subscripted (.Name "k" p2) false o v = operate [o, v] (getItem o v)) → Ev g A F ρ (.Subscript (.Name "less" p1) (.Name "k" p2) pos) (.int (lessAt rows row (keys.getD j (0, 0)).1)) := fun h1 h2 hs => Ev.itemI (k := j) (Ev.name h2 (by decide)) (Ev.name h1 (by decide)) rfl (by rw [List.getElem?_map, kq]; rfl) (by lia) hs
            with_reducible apply Ev.ifte (b := decide ((keys.getD j (0, 0)).2 > 0))
            · refine Tr.cmp (Ev.itemTI (j := 1) (k := 1) (xs := [.int ((keys.getD j (0, 0)).1 : Int), .int (keys.getD j (0, 0)).2]) (Ev.itemI (k := j) (by walk_at "go") (by walk_at "go") rfl (by rw [List.getElem?_map, kq]; rfl) (by lia) (by intro _ _; rfl)) (by walk_at "go") (by rfl) (by rfl) (by decide) (by intro _ _; rfl)) (by walk_at "go") Cmp.gt (by rfl)
            · intro hb
              rw [rankAt, if_pos hb]
              exact hl (by walk_at "mem") (by walk_at "mem") (by intro _ _; rfl)
            · intro hb
              rw [rankAt, if_neg (by rw [hb]; decide)]
              exact Ev.neg (hl (by walk_at "mem") (by walk_at "mem") (by intro _ _; rfl))
          · rw [List.filter_eq_self.mpr fun zz zz => rfl, rankOf, List.map_map]
            refine List.ext_getElem (by simp) fun i h1 h2 => ?_
            have : i < keys.length := by simpa using h1
            simp [List.getD_eq_getElem?_getD, this]
        · rw [List.length_map, List.length_take, sizeLine_eq]; lia
        all_goals (try walk_at "prop")
        with_reducible apply X.nil
        refine ⟨trivial, ?_⟩
        rw [List.take_succ_eq_append_getElem hk', List.map_append, (List.getElem?_eq_some_iff.mp hq).2]
        walk_at "sub"
    · intro _
      rw [List.length_map, List.take_length]
      refine X.freezeL (x := "ranks") (by walk_at "mem") ?_
      with_reducible apply X.ret (d := .lst (p.map fun i => .tup (rows.getD i [])))
      · refine EvF.ev (EvF.cast (d := (p.filter fun zz => true).map fun i => .tup (rows.getD i [])) (EvF.comp (as := p) (enc := fun k : Nat => .int (k : Int)) (p := fun zz => true) (f := fun i : Nat => .tup (rows.getD i [])) (fr := [("rows", .lst (rows.map .tup))]) (CompOk.of (by kernel_rfl!)) (by walk_at "frs") ?_ ?_ ?_ (by intro _; rfl)) (by rw [List.filter_eq_self.mpr fun zz zz => rfl]))
        · refine Src.list hh (EvF.ev (EvF.sortedLam (n := rows.length) (ranks := ranksOf rows keys) (m := keys.length) (c := 141) (P := 139) (q := "_law_sorted.<locals>.<lambda>") H hA ?_ (by kernel_rfl!) ?_ ?_ hn ?_ hp ?_ (by kernel_rfl!) (by kernel_rfl!) (by kernel_rfl!) (by kernel_rfl!) (by rfl) (by rfl))) (.inl ⟨_, _, rfl⟩)
          · rw [ranksOf, List.map_map]
            show ((_ : Str), Sl.imm (.lst (rows.map fun r => .lst ((rankOf rows keys r).map V.int)))) ∈ _
            walk_at "mem"
          · rw [ranksOf, List.length_map]
          · intro r hr
            obtain ⟨r', _, rfl⟩ := List.mem_map.mp hr
            rw [rankOf, List.length_map]
          · refine Ev.range1 H (Ev.cast (d := .int (rows.map V.tup).length) (by walk_at "go"; all_goals (rw [hml]; lia)) (by rw [hml])) (by kernel_rfl!) (by kernel_rfl!) (by rfl)
          · rw [H.tabs]; exact .head _
        · rw [hp.1.length_eq, List.length_range, sizeLine_eq]; lia
        · intro L cells C U' s' w' hC i hi
          have hi' := hp.lt i hi
          refine CTurn.nm (.inl (by kernel_rfl!)) (by decide) (by walk_at "cne") Tests.nil fun zz => ?_
          show Ev _ _ _ [(("k" : Str), Sl.imm (.int (i : Int))), (("rows" : Str), Sl.imm (.lst (rows.map .tup)))] _ _
          refine Ev.itemI (k := i) (by walk_at "go") (by walk_at "go") rfl ?_ (by lia) (by intro _ _; rfl)
          rw [List.getElem?_map, List.getElem?_eq_getElem hi', List.getD_eq_getElem?_getD, List.getElem?_eq_getElem hi']; rfl
      · rfl
end
section
noncomputable def b1g : Str := "b:1(g)"
noncomputable def ent0 : Ent := ⟨0, 0, 0, 0, []⟩
noncomputable def fnEq (a b : Fnc) : Bool := feqs [.str a.sp, .int a.ln, .str a.nm] [.str b.sp, .int b.ln, .str b.nm]
noncomputable def mineOf (evs : List Evt) (fn : Fnc) : List Ent := (evs.filter fun e => fnEq e.fn fn).map (·.en)
noncomputable def hasC (who : Str) (e : Ent) : Bool := (lookC e.cal who).isSome
noncomputable def cntsOf (mine : List Ent) (who : Str) : List Cnt := (mine.filter (hasC who)).map fun e => (lookC e.cal who).getD (.one 0)
noncomputable def firstOf (mine : List Ent) (who : Str) : List Nat := (List.range mine.length).filter fun k => hasC who (mine.getD k ent0)
noncomputable def Cnt.part : Cnt → Nat → Int
  | .four a b c d, k => [a, b, c, d].getD k 0
  | .one i, _ => i
noncomputable def Ent.part (e : Ent) (k : Nat) : Int := [e.cc, e.nc, e.tt, e.ct].getD k 0
noncomputable def sumC (b : Bool) (cs : List Cnt) : Cnt := if b = true then .four (cs.map (·.part 0)).sum (cs.map (·.part 1)).sum (cs.map (·.part 2)).sum (cs.map (·.part 3)).sum else .one (cs.map (·.part 0)).sum
structure Led where
  at_ : Nat
  who : Str
  cnt : Cnt
noncomputable def Led.tl (r : Led) : List V := [.str r.who, r.cnt.v]
noncomputable def Led.v (r : Led) : V := .tup (.int r.at_ :: r.tl)
noncomputable def ledRow (b : Bool) (mine : List Ent) (who : Str) : Option Led := if (cntsOf mine who).isEmpty = true then none else some ⟨(firstOf mine who).headD 0, who, sumC b (cntsOf mine who)⟩
noncomputable def ledRows (b : Bool) (mine : List Ent) (text : Str) : List Led := [b1g, text].filterMap (ledRow b mine)
noncomputable def entSum (mine : List Ent) : V := .tup [.int (mine.map (·.part 0)).sum, .int (mine.map (·.part 1)).sum, .int (mine.map (·.part 2)).sum, .int (mine.map (·.part 3)).sum]
noncomputable def led0 : Led := ⟨0, "", .one 0⟩
theorem isEmpty_counts {mine : List Ent} {who : Str} (h : (cntsOf mine who).isEmpty = false) : ∃ c cs k ks, cntsOf mine who = c :: cs ∧ firstOf mine who = k :: ks := by
  cases hc : cntsOf mine who with
  | nil => rw [hc] at h; cases h
  | cons c cs =>
    cases hf : firstOf mine who with
    | cons k ks => exact ⟨c, cs, k, ks, rfl, rfl⟩
    | nil =>
      exfalso
      unfold cntsOf at hc
      cases hm : mine.filter (hasC who) with
      | nil => rw [hm] at hc; cases hc
      | cons e es =>
        have he : e ∈ mine.filter (hasC who) := by rw [hm]; exact .head _
        obtain ⟨he1, he2⟩ := List.mem_filter.mp he
        obtain ⟨i, hi, rfl⟩ := List.mem_iff_getElem.mp he1
        have : i ∈ firstOf mine who := List.mem_filter.mpr ⟨List.mem_range.mpr hi, by rw [List.getD_eq_getElem?_getD, List.getElem?_eq_getElem hi]; exact he2⟩
        rw [hf] at this; cases this
variable {s₀ : Shared} {U₀ : Addr → Prop}
theorem law_ledger (H : Base g) (w₀ : Wd g s₀) {evs : List Evt} {fn : Fnc} {b : Bool} {p : List Nat} (hev : evs.length ≤ 1000) (hok : ∀ e ∈ evs, ∀ q ∈ e.en.cal, q.2.isFour = b) (hfn : fn.sp.length ≤ 100 ∧ fn.nm.length ≤ 100 ∧ fn.ln.natAbs < 10 ^ 12)
    (hd : ∀ i j, i < (ledRows b (mineOf evs fn) fn.text).length → j < (ledRows b (mineOf evs fn) fn.text).length → i ≠ j → ((ledRows b (mineOf evs fn) fn.text).map fun r => (r.at_ : Int)).getD i 0 ≠ ((ledRows b (mineOf evs fn) fn.text).map fun r => (r.at_ : Int)).getD j 0)
    (hp : Ord (intLt ((ledRows b (mineOf evs fn) fn.text).map fun r => (r.at_ : Int))) (ledRows b (mineOf evs fn) fn.text).length p) :
    Fn g 3 (.ref 130) [] s₀ U₀ [.lst (evs.map Evt.v), fn.v] [] (.tup [entSum (mineOf evs fn), .lst (p.map fun i => .tup ((ledRows b (mineOf evs fn) fn.text).getD i led0).tl)]) := by
  refine Fn.def (names := ["events", "func"]) (ds := [.lst (evs.map Evt.v), fn.v]) H (by kernel_rfl) w₀ ?_ ?_
  · intro vsP vsK hP hK
    obtain ⟨v1, v2, rfl⟩ := len2 hP
    obtain rfl := len0 hK
    exact ⟨[v1, v2], fun S => by kernel_rfl, fun h U r zz => r⟩
  · intro A U s hA p' hU
    have hh := hA.hh
    have I : InFn g (mkF (fd g 130) 130 U s) s₀ U₀ := ⟨w₀, p', hU⟩
    show X g A (mkF (fd g 130) 130 U s) [("events", .imm (.lst (evs.map Evt.v))), ("func", .imm fn.v)] (bodyOf (fd g 130)) (Ends _)
    conv => arg 5; whnf
    refine X.assignF (EvF.comp (as := evs) (enc := Evt.v) (p := fun e => fnEq e.fn fn) (f := fun e => e.en.v) (fr := [("func", fn.v)]) (CompOk.of (by kernel_rfl!)) ?c3 ?c4 ?c5 ?c6 ?c7) ?c2 ?c10 ?c1
    case c1 => walk_at "prop"
    case c2 => walk_at "loc"
    case c3 => walk_at "frs"
    case c4 =>
      refine Src.list hh (by walk_at "go") (.inr ⟨_, _, _, rfl, fun d hd => ?_⟩)
      obtain ⟨q, _, rfl⟩ := List.mem_map.mp hd
      exact ⟨_, rfl⟩
    case c5 => rw [sizeLine_eq]; lia
    case c6 =>
      intro L cells C U' s' w' hC e he
      refine CTurn.nm2 hh (.inl (by kernel_rfl!)) (.inl (by kernel_rfl!)) (by decide) (by decide) (by decide) (fun z hz => ⟨?_, ?_⟩) (Tests.one ?_) fun zz => ?_
      · revert z; walk_at "cne"
      · revert z; walk_at "cne"
      · show Tr _ _ _ [(("entry" : Str), Sl.imm e.en.v), (("one" : Str), Sl.imm e.fn.v), (("func" : Str), Sl.imm fn.v)] _ _
        exact Tr.cmp (Ev.name (d := e.fn.v) (by walk_at "mem") (by decide)) (Ev.name (d := fn.v) (by walk_at "mem") (by decide)) (Cmp.eqT hA.units0 rfl rfl) (by rfl)
      · show Ev _ _ _ [(("entry" : Str), Sl.imm e.en.v), (("one" : Str), Sl.imm e.fn.v), (("func" : Str), Sl.imm fn.v)] _ _
        exact Ev.name (by walk_at "mem") (by decide)
    case c7 => intro _; rfl
    case c10 =>
    have emine : ((evs.filter fun e => fnEq e.fn fn).map fun e => e.en.v) = (mineOf evs fn).map Ent.v := by rw [mineOf, List.map_map]; rfl
    rw [emine]
    obtain ⟨mine, hmine⟩ : ∃ m, m = mineOf evs fn := ⟨_, rfl⟩
    rw [← hmine] at hd hp ⊢
    have hml : mine.length ≤ 1000 := by
      rw [hmine, mineOf, List.length_map]
      exact Nat.le_trans (List.length_filter_le _ _) hev
    have hmok : ∀ e ∈ mine, ∀ q ∈ e.cal, q.2.isFour = b := fun e he => by
      rw [hmine] at he
      obtain ⟨e', he', rfl⟩ := List.mem_map.mp he
      exact hok e' (List.mem_filter.mp he').1
    have hmvl : (mine.map Ent.v).length = mine.length := List.length_map _
    refine X.freezeL (x := "mine") (by walk_at "mem") ?_
    with_reducible apply X.assignF
    case h => exact EvF.list .nil (by decide)
    case hx => walk_at "loc"
    case hs => walk_at "prop"
    refine X.forL (xs := ([b1g, fn.text] : List Str).map V.str) "%i" "%s" hh ?_ (.inl ⟨_, _, rfl⟩) (fun k => [("func", .imm fn.v), ("mine", .imm (.lst (mine.map Ent.v))), ("callers", .own (((([b1g, fn.text] : List Str).take k).filterMap (ledRow b mine)).map Led.v))]) (fun zz => True) (by decide) (fun zz => by walk_at "apart") trivial (by walk_at "sub") ?_ ?_ (by intro _; rfl)
    · refine EvF.ev (EvF.list (ds := [.str b1g, .str fn.text]) (.cons (Ev.str (x := b1g)) (.cons ?_ .nil (by rfl)) (by rfl)) (Nat.le_of_ble_eq_true rfl))
      refine Ev.callFn (EvV.globK (v := .ref 137) H (by kernel_rfl!) (by kernel_rfl)) ?_ (law_text H w₀ hfn.1 hfn.2.1 hfn.2.2) I (hA.le (by decide)) (by rfl) (by rfl)
      exact .cons (Ev.name (d := fn.v) (by walk_at "mem") (by decide)) .nil (by rfl)
    · intro k d hdd _ hid₁ hid₂
      rw [List.getElem?_map] at hdd
      cases hq : ([b1g, fn.text] : List Str)[k]? with
      | none => rw [hq] at hdd; cases hdd
      | some who =>
        rw [hq] at hdd; cases hdd
        have hk2 : k < 2 := (List.getElem?_eq_some_iff.mp hq).1
        have tks : (([b1g, fn.text] : List Str).take (k + 1)).filterMap (ledRow b mine) = (([b1g, fn.text] : List Str).take k).filterMap (ledRow b mine) ++ (ledRow b mine who).toList := by
          rw [List.take_succ_eq_append_getElem hk2, List.filterMap_append, (List.getElem?_eq_some_iff.mp hq).2]
          cases h : ledRow b mine who <;> simp [h]
        refine ⟨_, Asg.name (by walk_at "loc"), ?_⟩
        have ent4 : ∀ {F ρ x p1 p2 p3 p4} {e : Ent}, Ev g A F ρ (.Name x p1) e.v → Ev g A F ρ (.Subscript (.Name x p1) (.Constant (.int 4) p2 p3) p4) (.dct (calV e.cal)) := fun h => Ev.itemTI (j := 4) (k := 4) h Ev.int rfl rfl (by decide) (by intro _ _; rfl)
        refine X.assignF (EvF.comp (as := mine) (enc := Ent.v) (p := hasC who) (f := fun e => ((lookC e.cal who).getD (.one 0)).v) (fr := [("who", .str who)]) (CompOk.of (by kernel_rfl!)) ?d3 ?d4 ?d5 ?d6 ?d7) ?d2 ?d10 ?d1
        case d1 => walk_at "prop"
        case d2 => walk_at "loc"
        case d3 => walk_at "frs"
        case d4 => exact Src.list hh (by walk_at "go") (.inl ⟨_, _, rfl⟩)
        case d5 => rw [sizeLine_eq]; lia
        case d6 =>
          intro L cells C U' s' w' hC e he
          refine CTurn.nm (.inl (by kernel_rfl!)) (by decide) (by walk_at "cne") (Tests.one ?_) fun hb => ?_
          · show Tr _ _ _ [(("entry" : Str), Sl.imm e.v), (("who" : Str), Sl.imm (.str who))] _ _
            refine Tr.cast (d := hasD (calV e.cal) who) (Tr.cmp (by walk_at "go") (ent4 (Ev.name (by walk_at "mem") (by decide))) Cmp.inD (by rfl)) (calV_has _ _)
          · show Ev _ _ _ [(("entry" : Str), Sl.imm e.v), (("who" : Str), Sl.imm (.str who))] _ _
            refine Ev.getD (ent4 (Ev.name (by walk_at "mem") (by decide))) (by walk_at "go") ?_ (by intro _ _; rfl)
            rw [calV_look]
            unfold hasC at hb
            cases hl : lookC e.cal who with
            | none => rw [hl] at hb; cases hb
            | some c => rfl
        case d7 => intro _; rfl
        case d10 =>
        have ecnt : ((mine.filter (hasC who)).map fun e => ((lookC e.cal who).getD (.one 0)).v) = (cntsOf mine who).map Cnt.v := by rw [cntsOf, List.map_map]; rfl
        rw [ecnt]
        refine X.freezeL (x := "counts") (by walk_at "mem") ?_
        refine X.assignC (as := List.range mine.length) (enc := fun k : Nat => .int (k : Int)) (p := fun k => hasC who (mine.getD k ent0)) (f := fun k : Nat => .int (k : Int)) (fr := [("mine", .lst (mine.map Ent.v)), ("who", .str who)]) ?f1 ?f2 (CompOk.of (by kernel_rfl!)) ?f3 ?f4 ?f5 ?f6 ?f7 ?f8 ?f9 ?f10
        case f1 => walk_at "prop"
        case f2 => walk_at "loc"
        case f3 => walk_at "frs"
        case f4 => exact Src.rangeN hh (Ev.range1 H (Ev.cast (d := .int (mine.map Ent.v).length) (by walk_at "go"; all_goals (rw [hmvl]; lia)) (by rw [hmvl])) (by kernel_rfl!) (by kernel_rfl!) (by rfl)) (by lia)
        case f5 => rw [List.length_range, sizeLine_eq]; lia
        case f6 =>
          intro L cells C U' s' w' hC j hj
          have hj' := List.mem_range.mp hj
          refine CTurn.nm (.inl (by kernel_rfl!)) (by decide) (by walk_at "cne") (Tests.one ?_) fun hb => ?_
          · show Tr _ _ _ [(("k" : Str), Sl.imm (.int (j : Int))), (("mine" : Str), Sl.imm (.lst (mine.map Ent.v))), (("who" : Str), Sl.imm (.str who))] _ _
            refine Tr.cast (d := hasD (calV (mine.getD j ent0).cal) who) (Tr.cmp (by walk_at "go") (Ev.itemTI (j := 4) (k := 4) (xs := [.int (mine.getD j ent0).cc, .int (mine.getD j ent0).nc, .int (mine.getD j ent0).tt, .int (mine.getD j ent0).ct, .dct (calV (mine.getD j ent0).cal)]) (Ev.itemI (k := j) (by walk_at "go") (by walk_at "go") rfl ?_ (by lia) (by intro _ _; rfl)) Ev.int rfl rfl (by decide) (by intro _ _; rfl)) Cmp.inD (by rfl)) (calV_has _ _)
            rw [List.getElem?_map, List.getElem?_eq_getElem hj', List.getD_eq_getElem?_getD, List.getElem?_eq_getElem hj']; rfl
          · show Ev _ _ _ [(("k" : Str), Sl.imm (.int (j : Int))), (("mine" : Str), Sl.imm (.lst (mine.map Ent.v))), (("who" : Str), Sl.imm (.str who))] _ _
            walk_at "go"
        case f7 => intro _; rfl
        case f8 => walk_at "hap"
        case f9 => decide
        case f10 =>
        show X g A _ (Rho.put _ "first" (.own ((firstOf mine who).map fun k : Nat => V.int (k : Int)))) _ _
        refine X.freezeL (x := "first") (by walk_at "mem") ?_
        with_reducible apply X.ifS (b := !(cntsOf mine who).isEmpty)
        · refine Tr.cast (d := !((cntsOf mine who).map Cnt.v).isEmpty) (Tr.cmp (by walk_at "go") (EvF.ev (EvF.list .nil (Nat.zero_le _))) (Cmp.neNil hA.units0) (by rfl)) (by rw [List.isEmpty_map])
        · intro hb
          have hb' : (cntsOf mine who).isEmpty = false := by simpa using hb
          obtain ⟨c, cs, i, is, hcs, his⟩ := isEmpty_counts hb'
          have hrow : ledRow b mine who = some ⟨i, who, sumC b (cntsOf mine who)⟩ := by
            unfold ledRow; rw [if_neg (by rw [hb']; decide), his]; rfl
          have hfour : ∀ x ∈ cntsOf mine who, x.isFour = b := fun x hx => by
            obtain ⟨e, he, rfl⟩ := List.mem_map.mp hx
            obtain ⟨he1, he2⟩ := List.mem_filter.mp he
            unfold hasC at he2
            cases hl : lookC e.cal who with
            | none => rw [hl] at he2; cases he2
            | some c => exact hmok e he1 _ (lookC_mem hl)
          have hcl : (cntsOf mine who).length ≤ 1000 := by
            rw [cntsOf, List.length_map]
            exact Nat.le_trans (List.length_filter_le _ _) hml
          have hcf : c.isFour = b := hfour c (by rw [hcs]; exact .head _)
          with_reducible apply X.assignAs (d := .bool b) (d' := .bool b)
          case hd => rfl
          case hs => walk_at "prop"
          case hx => walk_at "loc"
          case h =>
            refine Ev.callB (ds := [c.v, .typ "tuple"]) (EvV.buiK (v := .builtin "isinstance") H (by kernel_rfl!) (by kernel_rfl!) (by kernel_rfl) (by decide)) (.cons ?_ (.cons (Ev.typ (EvV.buiK (v := .type "tuple") H (by kernel_rfl!) (by kernel_rfl!) (by kernel_rfl) (by decide))) .nil (by rfl)) (by rfl)) ?_ (by rfl) (by rfl)
            · refine Ev.itemI (j := 0) (k := 0) (by walk_at "go") (by walk_at "go") rfl ?_ (by decide) (by intro _ _; rfl)
              rw [hcs]; rfl
            · cases c with
              | one i => cases b with
                | false => exact CallP.isTupI
                | true => cases hcf
              | four a b' c' d' => cases b with
                | true => exact CallP.isTupT
                | false => cases hcf
          with_reducible apply X.append (xs := (((([b1g, fn.text] : List Str).take k).filterMap (ledRow b mine)).map Led.v)) (d := Led.v ⟨i, who, sumC b (cntsOf mine who)⟩)
          · walk_at "mem"
          · refine Ev.tuple (ds := [.int (i : Int), .str who, (sumC b (cntsOf mine who)).v]) (.cons ?_ (.cons (by walk_at "go") (.cons ?_ .nil (by rfl)) (by rfl)) (by rfl)) (Nat.le_of_ble_eq_true rfl)
            · refine Ev.itemI (j := 0) (k := 0) (by walk_at "go") (by walk_at "go") rfl ?_ (by decide) (by intro _ _; rfl)
              rw [his]; rfl
            · with_reducible apply Ev.ifte (b := b)
              · exact Tr.val (Ev.name (d := .bool b) (by walk_at "mem") (by decide)) Tru.bool (by rfl)
              · intro e
                have hv : (sumC b (cntsOf mine who)).v = .tup ((List.range 4).map fun c => .int ((cntsOf mine who).map (·.part c)).sum) := by rw [sumC, if_pos e]; rfl
                rw [hv]
                refine Ev.callT (EvV.buiK (v := .type "tuple") H (by kernel_rfl!) (by kernel_rfl!) (by kernel_rfl) (by decide)) (.cons (EvF.ev (EvF.cast (d := ((List.range 4).filter fun zz => true).map fun c => .int ((cntsOf mine who).map (·.part c)).sum) (EvF.comp (as := List.range 4) (enc := fun k : Nat => .int (k : Int)) (p := fun zz => true) (f := fun c : Nat => .int ((cntsOf mine who).map (·.part c)).sum) (fr := [("counts", .lst ((cntsOf mine who).map Cnt.v))]) (CompOk.of (by kernel_rfl!)) (by walk_at "frs") (Src.rangeN (n := 4) hh (Ev.cast (d := .rng 0 4) (by walk_at "go") rfl) (by decide)) (by decide) ?_ (by intro _; rfl)) rfl)) .nil (by rfl)) (CallP.tupleL (Nat.le_of_ble_eq_true rfl)) (by rfl) (by rfl)
                intro L cells C U' s' w' hC j hj
                have hj' := List.mem_range.mp hj
                refine CTurn.nm (.inr (hC "c" (by decide))) (by decide) (by walk_at "cne") Tests.nil fun zz => ?_
                show Ev _ _ _ [(("c" : Str), Sl.imm (.int (j : Int))), (("counts" : Str), Sl.imm (.lst ((cntsOf mine who).map Cnt.v)))] _ _
                refine Ev.cast (d := .int ((cntsOf mine who).map fun x : Cnt => x.part j).sum) ?_ rfl
                refine Ev.sum H hh (ns := (cntsOf mine who).map fun x : Cnt => x.part j) ?_ (by kernel_rfl!) (by kernel_rfl!) (by rfl)
                refine EvF.ev (EvF.cast (d := ((cntsOf mine who).filter fun zz => true).map fun x => .int (x.part j)) ?_ (by rw [PyProof.Rows.filter_const_true, List.map_map]; rfl))
                refine EvF.comp (as := cntsOf mine who) (enc := Cnt.v) (p := fun zz => true) (f := fun x => .int (x.part j)) (fr := [("c", .int (j : Int))]) (CompOk.of (by kernel_rfl!)) (by walk_at "frs") (Src.list hh (by walk_at "go") (.inl ⟨_, _, rfl⟩)) (by rw [sizeLine_eq]; lia) ?_ (by intro _; rfl)
                intro L2 cells2 C2 U2 s2 w2 hC2 x hx
                refine CTurn.nm (.inl (by kernel_rfl!)) (by decide) (by walk_at "cne") Tests.nil fun zz => ?_
                show Ev _ _ _ [(("one" : Str), Sl.imm x.v), (("c" : Str), Sl.imm (.int (j : Int)))] _ _
                have hxf := hfour x hx
                rw [e] at hxf
                cases x with
                | one i => cases hxf
                | four a1 a2 a3 a4 =>
                  refine Ev.itemTI (k := j) (xs := [.int a1, .int a2, .int a3, .int a4]) (Ev.cast (d := (Cnt.four a1 a2 a3 a4).v) (Ev.name (by walk_at "mem") (by decide)) rfl) (by walk_at "go") rfl ?_ (by lia) (by intro _ _; rfl)
                  match j, hj' with
                  | 0, _ => rfl
                  | 1, _ => rfl
                  | 2, _ => rfl
                  | 3, _ => rfl
              · intro e
                rw [sumC, if_neg (by rw [e]; decide)]
                refine Ev.cast (d := .int ((cntsOf mine who).map fun x : Cnt => x.part 0).sum) ?_ rfl
                refine Ev.sum H hh (ns := (cntsOf mine who).map fun x : Cnt => x.part 0) ?_ (by kernel_rfl!) (by kernel_rfl!) (by rfl)
                refine Ev.cast (d := .lst ((cntsOf mine who).map Cnt.v)) (by walk_at "go") ?_
                rw [List.map_map]
                congr 1
                refine List.map_congr_left fun x hx => ?_
                have hxf := hfour x hx
                rw [e] at hxf
                cases x with
                | one i => rfl
                | four => cases hxf
          · rw [List.length_map, sizeLine_eq]
            have h1 := List.length_filterMap_le (ledRow b mine) (([b1g, fn.text] : List Str).take k)
            have h2 := List.length_take_le k ([b1g, fn.text] : List Str)
            lia
          all_goals (try walk_at "prop")
          with_reducible apply X.nilK
          with_reducible apply X.nil
          refine ⟨trivial, ?_⟩
          rw [tks, hrow, List.map_append]
          walk_at "sub"
        · intro hb
          have hb' : (cntsOf mine who).isEmpty = true := by simpa using hb
          have hrow : ledRow b mine who = none := by unfold ledRow; rw [if_pos hb']
          with_reducible apply X.nilK
          with_reducible apply X.nil
          refine ⟨trivial, ?_⟩
          rw [tks, hrow, Option.toList_none, List.append_nil]
          walk_at "sub"
    · intro _
      show X g A _ [(("func" : Str), Sl.imm fn.v), (("mine" : Str), Sl.imm (.lst (mine.map Ent.v))), (("callers" : Str), Sl.own ((ledRows b mine fn.text).map Led.v))] _ _
      refine X.freezeL (x := "callers") (by walk_at "mem") ?_
      have hll : (ledRows b mine fn.text).length ≤ 2 := List.length_filterMap_le _ _
      with_reducible apply X.ret (d := .tup [entSum mine, .lst (p.map fun i => .tup ((ledRows b mine fn.text).getD i led0).tl)])
      · refine Ev.tuple (.cons ?_ (.cons ?_ .nil (by rfl)) (by rfl)) (Nat.le_of_ble_eq_true rfl)
        · show Ev _ _ _ _ _ (.tup ((List.range 4).map fun c => .int (mine.map (·.part c)).sum))
          refine Ev.callT (EvV.buiK (v := .type "tuple") H (by kernel_rfl!) (by kernel_rfl!) (by kernel_rfl) (by decide)) (.cons (EvF.ev (EvF.cast (d := ((List.range 4).filter fun zz => true).map fun c => .int (mine.map (·.part c)).sum) (EvF.comp (as := List.range 4) (enc := fun k : Nat => .int (k : Int)) (p := fun zz => true) (f := fun c : Nat => .int (mine.map (·.part c)).sum) (fr := [("mine", .lst (mine.map Ent.v))]) (CompOk.of (by kernel_rfl!)) (by walk_at "frs") (Src.rangeN (n := 4) hh (Ev.cast (d := .rng 0 4) (by walk_at "go") rfl) (by decide)) (by decide) ?_ (by intro _; rfl)) rfl)) .nil (by rfl)) (CallP.tupleL (Nat.le_of_ble_eq_true rfl)) (by rfl) (by rfl)
          intro L cells C U' s' w' hC j hj
          have hj' := List.mem_range.mp hj
          refine CTurn.nm (.inr (hC "c" (by decide))) (by decide) (by walk_at "cne") Tests.nil fun zz => ?_
          show Ev _ _ _ [(("c" : Str), Sl.imm (.int (j : Int))), (("mine" : Str), Sl.imm (.lst (mine.map Ent.v)))] _ _
          refine Ev.cast (d := .int (mine.map fun x : Ent => x.part j).sum) ?_ rfl
          refine Ev.sum H hh (ns := mine.map fun x : Ent => x.part j) ?_ (by kernel_rfl!) (by kernel_rfl!) (by rfl)
          refine EvF.ev (EvF.cast (d := (mine.filter fun zz => true).map fun x => .int (x.part j)) ?_ (by rw [PyProof.Rows.filter_const_true, List.map_map]; rfl))
          refine EvF.comp (as := mine) (enc := Ent.v) (p := fun zz => true) (f := fun x => .int (x.part j)) (fr := [("c", .int (j : Int))]) (CompOk.of (by kernel_rfl!)) (by walk_at "frs") (Src.list hh (by walk_at "go") (.inl ⟨_, _, rfl⟩)) (by rw [sizeLine_eq]; lia) ?_ (by intro _; rfl)
          intro L2 cells2 C2 U2 s2 w2 hC2 x hx
          refine CTurn.nm (.inl (by kernel_rfl!)) (by decide) (by walk_at "cne") Tests.nil fun zz => ?_
          show Ev _ _ _ [(("entry" : Str), Sl.imm x.v), (("c" : Str), Sl.imm (.int (j : Int)))] _ _
          refine Ev.itemTI (k := j) (xs := [.int x.cc, .int x.nc, .int x.tt, .int x.ct, .dct (calV x.cal)]) (Ev.cast (d := x.v) (Ev.name (by walk_at "mem") (by decide)) rfl) (by walk_at "go") rfl ?_ (by lia) (by intro _ _; rfl)
          match j, hj' with
          | 0, _ => rfl
          | 1, _ => rfl
          | 2, _ => rfl
          | 3, _ => rfl
        · refine EvF.ev (EvF.cast (d := (p.filter fun zz => true).map fun i => .tup ((ledRows b mine fn.text).getD i led0).tl) (EvF.comp (as := p) (enc := fun i => ((ledRows b mine fn.text).getD i led0).v) (p := fun zz => true) (f := fun i : Nat => .tup ((ledRows b mine fn.text).getD i led0).tl) (fr := []) (CompOk.of (by kernel_rfl!)) (by walk_at "frs") ?_ ?_ ?_ (by intro _; rfl)) (by rw [PyProof.Rows.filter_const_true]))
          · refine Src.list hh ?_ (.inl ⟨_, _, rfl⟩)
            have e1 : (ledRows b mine fn.text).map Led.v = (((ledRows b mine fn.text).map fun r => ((r.at_ : Int), r.tl)).map fun c => .tup (.int c.1 :: c.2)) := by rw [List.map_map]; rfl
            have e2 : ((ledRows b mine fn.text).map fun r => ((r.at_ : Int), r.tl)).map (·.1) = (ledRows b mine fn.text).map fun r => (r.at_ : Int) := by rw [List.map_map]; rfl
            have e3 : ((ledRows b mine fn.text).map fun r => ((r.at_ : Int), r.tl)).length = (ledRows b mine fn.text).length := List.length_map _
            refine EvF.ev (EvF.cast (d := p.map fun i => ((((ledRows b mine fn.text).map fun r => ((r.at_ : Int), r.tl)).map fun c => V.tup (.int c.1 :: c.2)).getD i .none)) ?_ ?_)
            · refine EvF.callB (ds := [.lst (((ledRows b mine fn.text).map fun r => ((r.at_ : Int), r.tl)).map fun c => .tup (.int c.1 :: c.2))]) (EvV.buiK (v := .builtin "sorted") H (by kernel_rfl!) (by kernel_rfl!) (by kernel_rfl) (by decide)) ?_ (CallF.sortedT (p := p) (by rw [e3]; lia) (by rw [e2, e3]; exact hd) (by rw [e2, e3]; exact hp)) (by rfl) (by rfl)
              exact .cons (Ev.cast (d := .lst ((ledRows b mine fn.text).map Led.v)) (by walk_at "go") (by rw [e1])) .nil (by rfl)
            refine List.map_congr_left fun i hi => ?_
            have hi' := hp.lt i hi
            rw [← e1, List.getD_eq_getElem?_getD, List.getElem?_map, List.getElem?_eq_getElem hi', List.getD_eq_getElem?_getD, List.getElem?_eq_getElem hi']; rfl
          · rw [hp.1.length_eq, List.length_range, sizeLine_eq]; lia
          · intro L cells C U' s' w' hC i hi
            refine CTurn.nm (.inl (by kernel_rfl!)) (by decide) (by walk_at "cne") Tests.nil fun zz => ?_
            show Ev _ _ _ [(("one" : Str), Sl.imm ((ledRows b mine fn.text).getD i led0).v)] _ _
            exact Ev.tupFromI (k := 1) (xs := .int ((ledRows b mine fn.text).getD i led0).at_ :: ((ledRows b mine fn.text).getD i led0).tl) (Ev.cast (d := ((ledRows b mine fn.text).getD i led0).v) (Ev.name (by walk_at "mem") (by decide)) rfl) Ev.int (by decide) (by show 1 ≤ 3; decide) (by show 3 ≤ sizeLine; rw [sizeLine_eq]; decide)
      · rfl
end
section
theorem eraseMap {α β : Type} {f : α → β} : ∀ (l : List α) (k : Nat), (l.eraseIdx k).map f = (l.map f).eraseIdx k
  | [], _ => rfl
  | _ :: _, 0 => rfl
  | a :: l, k + 1 => by show f a :: (l.eraseIdx k).map f = _; rw [eraseMap l k]; rfl
noncomputable def dots : Str := "..."
noncomputable def hasDots (want : Str) : Bool := !(Builtin.Str.occurrences want dots 0 want.length 1).isEmpty
noncomputable def ellGo (got : Str) (e : Int) : Int → List Str → Bool
  | _, [] => true
  | s, w :: ws => if decide (find4 got w s e < 0) = true then false else ellGo got e (find4 got w s e + (w.length : Int)) ws
noncomputable def full (w : Str) : Bool := (w.length : Int) != 0
noncomputable def ws1 (ws : List Str) : List Str := if full (ws.headD "") = true then ws.eraseIdx 0 else ws
noncomputable def st1 (ws : List Str) : Int := if full (ws.headD "") = true then ((ws.headD "").length : Int) else 0
noncomputable def w1 (ws : List Str) : Str := (ws1 ws).getLastD ""
noncomputable def ws2 (ws : List Str) : List Str := if full (w1 ws) = true then (ws1 ws).eraseIdx ((ws1 ws).length - 1) else ws1 ws
noncomputable def en1 (got : Str) (ws : List Str) : Int := if full (w1 ws) = true then (got.length : Int) - ((w1 ws).length : Int) else (got.length : Int)
noncomputable def curAt (got : Str) (e s : Int) (ws : List Str) (k : Nat) : Int := (ws.take k).foldl (fun s w => find4 got w s e + (w.length : Int)) s
noncomputable def ellM (got : Str) (ws : List Str) : Bool :=
  (!full (ws.headD "") || Txt.startswith got (ws.headD "")) && ((!full (w1 ws) || Txt.endswith got (w1 ws)) && (!decide (st1 ws > en1 got ws) && ellGo got (en1 got ws) (st1 ws) (ws2 ws)))
section
variable {A : Around} {F : Fx} {ρ : Rho} {rest : List Stmt} {Q : Res → Prop}
theorem Cmp.ge {a b} : Cmp g A F ρ .GtE (.int a) (.int b) (decide (a ≥ b)) := ⟨fun zz zz zz zz zz st r₁ r₂ q => by
  cases r₁ using cI; cases r₂ using cI; with_reducible refine PySem.P.ge_int ?_
  exact q _ (Pur.refl st.wd)⟩
noncomputable def JoinsP (P : Prop) (ρ₁ : Rho) (Q : Res → Prop) : Res → Prop
  | .next ρ' => P ∧ ∀ p ∈ ρ₁, p ∈ ρ'
  | .ret d => Q (.ret d)
theorem X.ifJoinP {t body orelse pos b} (P : Prop) (ρ₁ : Rho) (h : Tr g A F ρ t b) (h₁ : b = true → X g A F ρ body (JoinsP P ρ₁ Q)) (h₂ : b = false → X g A F ρ orelse (JoinsP P ρ₁ Q)) (k : P → X g A F ρ₁ rest Q) : X g A F ρ (.If t body orelse pos :: rest) Q :=
  .ifS h (fun e => (h₁ e).mono fun r hr => match r, hr with | .next _, hr => X.sub hr.2 (k hr.1) | .ret _, hr => hr) fun e => (h₂ e).mono fun r hr => match r, hr with | .next _, hr => X.sub hr.2 (k hr.1) | .ret _, hr => hr
end
variable {s₀ : Shared} {U₀ : Addr → Prop}
theorem ellipsis_match (H : Base g) (w₀ : Wd g s₀) {want got : Str} {ws : List Str} (hws : hasDots want = true → Txt.split want dots = ws) (h2 : 2 ≤ ws.length) (hw : want.length ≤ 1000000) (hg : got.length ≤ 1000000) (hl : ∀ w ∈ ws, w.length ≤ 1000000) (hn : ws.length ≤ 1000000) :
    Fn g 1 (.ref 106) [] s₀ U₀ [.str want, .str got] [] (.bool (if hasDots want = true then ellM got ws else want == got)) := by
  refine Fn.def (names := ["want", "got"]) (ds := [.str want, .str got]) H (by kernel_rfl) w₀ ?_ ?_
  · intro vsP vsK hP hK
    obtain ⟨v1, v2, rfl⟩ := len2 hP
    obtain rfl := len0 hK
    exact ⟨[v1, v2], fun S => by kernel_rfl, fun h U r zz => r⟩
  · intro A U s hA p hU
    have hh := hA.hh
    have emark : ∀ {ρ pos}, Ev g A (mkF (fd g 106) 106 U s) ρ (.Name "ELLIPSIS_MARKER" pos) (.str dots) := fun {ρ pos} => ⟨fun O s st =>
      wpAny_mono ((EvV.globK (v := .str dots 326) H (by kernel_rfl!) (by kernel_rfl)).run O s st) (fun v s' q => ⟨q.1, by rw [q.2]; exact .str _ _⟩) fun zz zz x => x⟩
    have szl : sizeLine = sizeLine := rfl
    have hwS : want.length ≤ sizeLine := by rw [sizeLine_eq]; lia
    have hgS : got.length ≤ sizeLine := by rw [sizeLine_eq]; lia
    have hlS : ∀ w ∈ ws, w.length ≤ sizeLine := fun w hw => by have := hl w hw; rw [sizeLine_eq]; lia
    show X g A (mkF (fd g 106) 106 U s) [("want", .imm (.str want)), ("got", .imm (.str got))] (bodyOf (fd g 106)) (Ends _)
    conv => arg 5; whnf
    with_reducible apply X.ifS (b := !hasDots want)
    · exact Tr.cmp emark (Ev.name (by walk_at "mem") (by decide)) Cmp.notInS (by rfl)
    · intro hb
      have hb' : hasDots want = false := by simpa using hb
      rw [if_neg (by rw [hb']; decide)]
      with_reducible apply X.ret
      · walk_at "go"
      · rfl
    · intro hb
      have hb' : hasDots want = true := by simpa using hb
      have hws := hws hb'
      rw [if_pos hb']
      with_reducible apply X.nilK
      with_reducible apply X.assignL (xs := ws.map V.str) (xs' := (Txt.split want dots).map .str)
      case hd => rw [hws]
      case hs => walk_at "prop"
      case hx => walk_at "loc"
      case h =>
        refine EvF.split (Ev.name (by walk_at "mem") (by decide)) emark (by decide) hwS ?_ (by rfl) (by rfl) (by rfl)
        have e : Builtin.Str.partsBetween want (Builtin.Str.occurrences want dots 0 want.length (want.length + 1)) dots.length = ws := by
          unfold Txt.split at hws
          split at hws
          · rw [← hws] at h2; simp at h2
          split at hws
          · rw [← hws] at h2; simp at h2
          · exact hws
        rw [e, sizeLine_eq]; lia
      have ewl : (ws.map V.str).length = ws.length := List.length_map _
      have get1 : ∀ l : List Str, l.length ≠ 0 → (l.map V.str)[0]? = some (.str (l.headD "")) := fun l h => by
        cases l with
        | nil => exact absurd rfl h
        | cons a l => rfl
      have getL : ∀ l : List Str, l.length ≠ 0 → (l.map V.str).getLast? = some (.str (l.getLastD "")) := fun l h => by
        rw [List.getLast?_map]
        cases l with
        | nil => exact absurd rfl h
        | cons a l => rw [List.getLast?_eq_some_getLast (List.cons_ne_nil _ _), List.getLastD_cons, List.getLast_eq_getLastD]; rfl
      have hw0 : (ws.headD "").length ≤ 1000000 := by
        cases ws with
        | nil => decide
        | cons a l => exact hl a (.head _)
      with_reducible apply X.assert
      · refine Tr.cast (d := decide (((ws.map V.str).length : Int) ≥ 2)) (Tr.cmp (Ev.lenOwn H (by walk_at "mem") (by rw [ewl]; lia) (by decide) (by kernel_rfl!) (by kernel_rfl!) (by rfl)) Ev.int Cmp.ge (by rfl)) (by rw [ewl]; simp; lia)
      with_reducible apply X.assignSw (ds := [.int 0, .int got.length]) (names := ["startpos", "endpos"])
      case hh => exact hh
      case h =>
        refine Ev.tuple (.cons (by walk_at "go") (.cons ?_ .nil (by rfl)) (by rfl)) (Nat.le_of_ble_eq_true rfl)
        exact Ev.lenS H (by walk_at "go") hgS (by kernel_rfl!) (by kernel_rfl!) (by rfl)
      case hlen => rfl
      case p => exact .cons (.cons .nil)
      case hx =>
        intro x hx
        simp only [List.reverse_cons, List.reverse_nil, List.nil_append, List.cons_append, List.mem_cons, List.not_mem_nil, or_false] at hx
        rcases hx with rfl | rfl <;> walk_at "loc"
      case hs => walk_at "prop"
      case hw => walk_at "prop"
      with_reducible apply X.assignAs (d := .str (ws.headD "")) (d' := .str (ws.headD ""))
      case hd => rfl
      case hs => walk_at "prop"
      case hx => walk_at "loc"
      case h => exact Ev.itemOwn (j := 0) (k := 0) (by walk_at "mem") Ev.int rfl (get1 ws (by lia)) (by decide) (by decide) (by intro _ _; rfl)
      have hw0S : (ws.headD "").length ≤ sizeLine := by rw [sizeLine_eq]; lia
      refine X.ifJoinP (b := full (ws.headD "")) (full (ws.headD "") = true → Txt.startswith got (ws.headD "") = true) [("got", .imm (.str got)), ("ws", .own ((ws1 ws).map V.str)), ("startpos", .imm (.int (st1 ws))), ("endpos", .imm (.int got.length))] ?_ ?_ ?_ ?_
      · exact Tr.val (Ev.name (by walk_at "mem") (by decide)) (Tru.str hw0S) (by rfl)
      · intro hf
        have e1 : ws1 ws = ws.eraseIdx 0 := by unfold ws1; rw [if_pos hf]
        have e2 : st1 ws = ((ws.headD "").length : Int) := by unfold st1; rw [if_pos hf]
        with_reducible apply X.ifS (b := Txt.startswith got (ws.headD ""))
        · refine Tr.val (Ev.startswith (by walk_at "go") (by walk_at "go") (by rfl) (by rfl) (by rfl)) Tru.bool (by rfl)
        · intro hs
          with_reducible apply X.assignAs (d := .int (ws.headD "").length) (d' := .int (ws.headD "").length)
          case hd => rfl
          case hs => walk_at "prop"
          case hx => walk_at "loc"
          case h => exact Ev.lenS H (by walk_at "go") hw0S (by kernel_rfl!) (by kernel_rfl!) (by rfl)
          with_reducible apply X.del (xs := ws.map V.str) (j := 0) (k := 0)
          · walk_at "mem"
          · exact Ev.int
          · decide
          · rw [ewl]; unfold seqIndex?
            have : ¬ ws = [] := fun e => by rw [e] at h2; simp at h2
            simp [this]
          · rw [ewl, sizeLine_eq]; lia
          · decide
          with_reducible apply X.nilK
          with_reducible apply X.nil
          refine ⟨fun zz => hs, ?_⟩
          rw [e1, e2, show (ws.eraseIdx 0).map V.str = (ws.map V.str).eraseIdx 0 by cases ws <;> rfl]
          walk_at "sub"
        · intro hs
          with_reducible apply X.ret
          · walk_at "go"
          · show V.bool false = V.bool (ellM got ws)
            unfold ellM; rw [hf, hs]; rfl
      · intro hf
        have e1 : ws1 ws = ws := by unfold ws1; rw [if_neg (by rw [hf]; decide)]
        have e2 : st1 ws = 0 := by unfold st1; rw [if_neg (by rw [hf]; decide)]
        with_reducible apply X.nil
        refine ⟨fun e => absurd e (by rw [hf]; decide), ?_⟩
        rw [e1, e2]
        walk_at "sub"
      intro P1
      have l1 : (ws1 ws).length ≠ 0 ∧ (ws1 ws).length ≤ ws.length := by
        unfold ws1; split
        · cases ws with
          | nil => simp at h2
          | cons a l =>
            have e : (a :: l).eraseIdx 0 = l := rfl
            rw [e]; rw [List.length_cons] at h2 ⊢; lia
        · lia
      have hl1 : ∀ w ∈ ws1 ws, w ∈ ws := fun w hw => by
        unfold ws1 at hw; split at hw
        · exact List.mem_of_mem_eraseIdx hw
        · exact hw
      have ew1 : ((ws1 ws).map V.str).length = (ws1 ws).length := List.length_map _
      have hw1m : w1 ws ∈ ws1 ws := by
        unfold w1
        cases hq : ws1 ws with
        | nil => rw [hq] at l1; exact absurd rfl l1.1
        | cons a l => rw [List.getLastD_cons, ← List.getLast_eq_getLastD (a := a) (l := l) (h := List.cons_ne_nil a l)]; exact List.getLast_mem _
      have hw1S : (w1 ws).length ≤ sizeLine := hlS _ (hl1 _ hw1m)
      with_reducible apply X.assignAs (d := .str (w1 ws)) (d' := .str (w1 ws))
      case hd => rfl
      case hs => walk_at "prop"
      case hx => walk_at "loc"
      case h => exact Ev.itemOwnLast (by walk_at "mem") (by exact Ev.neg Ev.int) (getL (ws1 ws) l1.1) (by decide) (by intro _ _; rfl)
      refine X.ifJoinP (b := full (w1 ws)) (full (w1 ws) = true → Txt.endswith got (w1 ws) = true) [("got", .imm (.str got)), ("ws", .own ((ws2 ws).map V.str)), ("startpos", .imm (.int (st1 ws))), ("endpos", .imm (.int (en1 got ws)))] ?_ ?_ ?_ ?_
      · exact Tr.val (Ev.name (by walk_at "mem") (by decide)) (Tru.str hw1S) (by rfl)
      · intro hf
        have e1 : ws2 ws = (ws1 ws).eraseIdx ((ws1 ws).length - 1) := by unfold ws2; rw [if_pos hf]
        have e2 : en1 got ws = (got.length : Int) - ((w1 ws).length : Int) := by unfold en1; rw [if_pos hf]
        with_reducible apply X.ifS (b := Txt.endswith got (w1 ws))
        · refine Tr.val (Ev.endswith (by walk_at "go") (by walk_at "go") (by rfl) (by rfl) (by rfl)) Tru.bool (by rfl)
        · intro hs
          with_reducible apply X.augSub (a := (got.length : Int)) (b := ((w1 ws).length : Int))
          · walk_at "mem"
          · exact Ev.lenS H (by walk_at "go") hw1S (by kernel_rfl!) (by kernel_rfl!) (by rfl)
          · walk_at "loc"
          with_reducible apply X.del (xs := (ws1 ws).map V.str) (j := -1) (k := (ws1 ws).length - 1)
          · walk_at "mem"
          · exact Ev.neg Ev.int
          · decide
          · rw [ew1]; unfold seqIndex?
            have : (0 : Int) ≤ -1 + ((ws1 ws).length : Int) := by lia
            have h3 : (-1 : Int) + ((ws1 ws).length : Int) < ((ws1 ws).length : Int) := by lia
            have h4 : ((-1 : Int) + ((ws1 ws).length : Int)).toNat = (ws1 ws).length - 1 := by lia
            simp [this, h3, h4]
          · rw [ew1, sizeLine_eq]; lia
          · decide
          with_reducible apply X.nilK
          with_reducible apply X.nil
          refine ⟨fun zz => hs, ?_⟩
          rw [e1, e2, show ((ws1 ws).eraseIdx ((ws1 ws).length - 1)).map V.str = ((ws1 ws).map V.str).eraseIdx ((ws1 ws).length - 1) from eraseMap _ _]
          walk_at "sub"
        · intro hs
          with_reducible apply X.ret
          · walk_at "go"
          · show V.bool false = V.bool (ellM got ws)
            unfold ellM; rw [hf, hs]; simp
      · intro hf
        have e1 : ws2 ws = ws1 ws := by unfold ws2; rw [if_neg (by rw [hf]; decide)]
        have e2 : en1 got ws = (got.length : Int) := by unfold en1; rw [if_neg (by rw [hf]; decide)]
        with_reducible apply X.nil
        refine ⟨fun e => absurd e (by rw [hf]; decide), ?_⟩
        rw [e1, e2]
        walk_at "sub"
      intro P2
      have q1 : (!full (ws.headD "") || Txt.startswith got (ws.headD "")) = true := by
        cases hq : full (ws.headD "") with
        | false => rfl
        | true => rw [P1 hq]; rfl
      have q2 : (!full (w1 ws) || Txt.endswith got (w1 ws)) = true := by
        cases hq : full (w1 ws) with
        | false => rfl
        | true => rw [P2 hq]; rfl
      have l2 : (ws2 ws).length ≤ ws.length ∧ ∀ w ∈ ws2 ws, w ∈ ws := by
        unfold ws2; split
        · exact ⟨Nat.le_trans (List.length_eraseIdx_le _ _) l1.2, fun w hw => hl1 w (List.mem_of_mem_eraseIdx hw)⟩
        · exact ⟨l1.2, hl1⟩
      refine X.freezeL (x := "ws") (by walk_at "mem") ?_
      with_reducible apply X.ifS (b := decide (st1 ws > en1 got ws))
      · walk_at "go"
      · intro hb
        with_reducible apply X.ret
        · walk_at "go"
        · show V.bool false = V.bool (ellM got ws)
          unfold ellM; rw [hb, q1, q2]; rfl
      · intro hb
        with_reducible apply X.nilK
        have eM : ellM got ws = ellGo got (en1 got ws) (st1 ws) (ws2 ws) := by
          unfold ellM; rw [hb, q1, q2]; rfl
        rw [eM]
        refine X.forL (xs := (ws2 ws).map V.str) "%i" "%s" hh (by walk_at "go") (.inl ⟨_, _, rfl⟩) (fun k => [("got", .imm (.str got)), ("endpos", .imm (.int (en1 got ws))), ("startpos", .imm (.int (curAt got (en1 got ws) (st1 ws) (ws2 ws) k)))]) (fun k => ellGo got (en1 got ws) (st1 ws) (ws2 ws) = ellGo got (en1 got ws) (curAt got (en1 got ws) (st1 ws) (ws2 ws) k) ((ws2 ws).drop k)) (by decide) (fun zz => by walk_at "apart") rfl (by rw [show curAt got (en1 got ws) (st1 ws) (ws2 ws) 0 = st1 ws from rfl]; walk_at "sub") ?_ ?_ (by intro _; rfl)
        · intro k d hd hP hid₁ hid₂
          rw [List.getElem?_map] at hd
          cases hq : (ws2 ws)[k]? with
          | none => rw [hq] at hd; cases hd
          | some w =>
            rw [hq] at hd; cases hd
            have hk : k < (ws2 ws).length := (List.getElem?_eq_some_iff.mp hq).1
            have hdrop : (ws2 ws).drop k = w :: (ws2 ws).drop (k + 1) := by rw [List.drop_eq_getElem_cons hk, (List.getElem?_eq_some_iff.mp hq).2]
            have hwS : w.length ≤ sizeLine := hlS w (l2.2 w (List.mem_of_getElem? hq))
            have hcur : curAt got (en1 got ws) (st1 ws) (ws2 ws) (k + 1) = find4 got w (curAt got (en1 got ws) (st1 ws) (ws2 ws) k) (en1 got ws) + (w.length : Int) := by
              unfold curAt; rw [List.take_succ_eq_append_getElem hk, List.foldl_append, (List.getElem?_eq_some_iff.mp hq).2]; rfl
            rw [hdrop, ellGo] at hP
            refine ⟨_, Asg.name (by walk_at "loc"), ?_⟩
            with_reducible apply X.assignAs (d := .int (find4 got w (curAt got (en1 got ws) (st1 ws) (ws2 ws) k) (en1 got ws))) (d' := .int (find4 got w (curAt got (en1 got ws) (st1 ws) (ws2 ws) k) (en1 got ws)))
            case hd => rfl
            case hs => walk_at "prop"
            case hx => walk_at "loc"
            case h => exact Ev.find (by walk_at "go") (by walk_at "go") (by walk_at "go") (by walk_at "go") (by rfl) (by rfl) (by rfl)
            with_reducible apply X.ifS (b := decide (find4 got w (curAt got (en1 got ws) (st1 ws) (ws2 ws) k) (en1 got ws) < 0))
            · walk_at "go"
            · intro hb
              with_reducible apply X.ret
              · walk_at "go"
              · rw [hP, if_pos hb]; rfl
            · intro hb
              rw [if_neg (by rw [hb]; decide)] at hP
              with_reducible apply X.nilK
              with_reducible apply X.augAdd (a := find4 got w (curAt got (en1 got ws) (st1 ws) (ws2 ws) k) (en1 got ws)) (b := (w.length : Int))
              · walk_at "mem"
              · exact Ev.lenS H (by walk_at "go") hwS (by kernel_rfl!) (by kernel_rfl!) (by rfl)
              · walk_at "loc"
              with_reducible apply X.nil
              refine ⟨?_, ?_⟩
              · rw [hcur]; exact hP
              · rw [hcur]; walk_at "sub"
        · intro hP
          rw [List.length_map, List.drop_length, ellGo] at hP
          with_reducible apply X.ret
          · walk_at "go"
          · rw [hP]; rfl
end
section
noncomputable abbrev farFive (z : Str) : Prop := ∀ y ∈ (["%1", "%2", "%3", "%4", "%5"] : List Str), z ≠ y
noncomputable def strOf : V → Str
  | .str s => s
  | _ => ""
noncomputable def rowOf (e : Ent) (f : Fnc) : List V := [.int e.cc, .int e.nc, .int e.tt, .int e.ct, .str f.sp, .int f.ln, .str f.nm, .str f.text]
noncomputable def otherT (t : Str) (r : List V) : Bool := strOf (r.getD 7 .none) != t
structure KS where
  names : List Str
  sums : List Ent
  steps : List Ent
  behind : List (List V)
  ahead : List (List V)
noncomputable def KS.nil : KS := ⟨[], [], [], [], []⟩
structure Plc where
  k : Nat
  new : Bool
  cb : Nat
  ca : Nat
noncomputable def sumsIn (st : KS) (q : Plc) : List Ent := if q.new = true then putIn q.k ent0 st.sums else st.sums
noncomputable def sumAt (st : KS) (e : Evt) (q : Plc) : Ent := ((sumsIn st q).getD q.k ent0).add e.en
noncomputable def KS.next (st : KS) (e : Evt) (q : Plc) : KS where
  names := if q.new = true then putIn q.k e.fn.text st.names else st.names
  sums := (sumsIn st q).set q.k (sumAt st e q)
  steps := st.steps ++ [sumAt st e q]
  behind := putIn q.cb (rowOf (sumAt st e q) e.fn) (st.behind.filter (otherT e.fn.text))
  ahead := putIn q.ca (rowOf (sumAt st e q) e.fn) (st.ahead.filter (otherT e.fn.text))
noncomputable def lessS (x y : Str) : Bool := decide (x.cps.toList < y.cps.toList)
structure StepOk (b : Bool) (keys : Keys) (st : KS) (e : Evt) (q : Plc) : Prop where
  hk : q.k ≤ st.names.length
  hl : ∀ i x, st.names[i]? = some x → lessS x e.fn.text = decide (i < q.k)
  hn : q.new = (q.k == st.names.length || st.names.getD q.k "" != e.fn.text)
  hr : q.new = true → ∀ i x, st.names[i]? = some x → lessS e.fn.text x = decide (q.k ≤ i)
  fn : e.fn.sp.length ≤ 100 ∧ e.fn.nm.length ≤ 100 ∧ e.fn.ln.natAbs < 10 ^ 12
  nm : e.fn.nm = "<f>" ∨ e.fn.nm = "f" ∨ e.fn.nm = "<f" ∨ e.fn.nm = "f>"
  ok1 : ((sumsIn st q).getD q.k ent0).Ok b
  ok2 : e.en.Ok b
  r8 : ∀ r, r ∈ st.behind ∨ r ∈ st.ahead → r.length = 8 ∧ ∀ c < 8, alikeV (r.getD c .none) ((rowOf (sumAt st e q) e.fn).getD c .none) = true
  hcb : q.cb ≤ (st.behind.filter (otherT e.fn.text)).length
  hb : ∀ i r, (st.behind.filter (otherT e.fn.text))[i]? = some r → decide (cmpK keys (rowOf (sumAt st e q) e.fn) (rowOf (sumAt st e q) e.fn) < cmpK keys r (rowOf (sumAt st e q) e.fn)) = decide (q.cb ≤ i)
  hca : q.ca ≤ (st.ahead.filter (otherT e.fn.text)).length
  ha : ∀ i r, (st.ahead.filter (otherT e.fn.text))[i]? = some r → decide (cmpK keys r (rowOf (sumAt st e q) e.fn) < cmpK keys (rowOf (sumAt st e q) e.fn) (rowOf (sumAt st e q) e.fn)) = decide (i < q.ca)
noncomputable def KS.v (st : KS) : V := .tup [.lst (st.names.map .str), .lst (st.steps.map Ent.v), .lst (st.behind.map .tup), .lst (st.ahead.map .tup)]
noncomputable def kdV (keys : Keys) (row : List V) : V → V
  | .tup l => .int (cmpK keys l row)
  | _ => .none
theorem row_alike (e : Ent) (f : Fnc) : ∀ c < 8, alikeV ((rowOf e f).getD c .none) ((rowOf e f).getD c .none) = true := fun c hc =>
  List.all_eq_true.mp (show (List.range 8).all (fun c => alikeV ((rowOf e f).getD c .none) ((rowOf e f).getD c .none)) = true from rfl) c (List.mem_range.mpr hc)
theorem map_putIn {α β : Type} (f : α → β) (k : Nat) (x : α) (xs : List α) : (putIn k x xs).map f = putIn k (f x) (xs.map f) := by simp [putIn, List.map_take, List.map_drop]
theorem putIn_len {α : Type} (k : Nat) (x : α) (xs : List α) (h : k ≤ xs.length) : (putIn k x xs).length = xs.length + 1 := by simp [putIn]; lia
variable {s₀ : Shared} {U₀ : Addr → Prop}
theorem law_kept (H : Base g) (w₀ : Wd g s₀) {evs : List Evt} {keys : Keys} {b : Bool} {S : Nat → KS} {qs : Nat → Plc} (hev : evs.length ≤ 50) (hkey : ∀ q ∈ keys, q.1 < 8) (h0 : S 0 = KS.nil)
    (hS : ∀ k e, evs[k]? = some e → StepOk b keys (S k) e (qs k) ∧ S (k + 1) = (S k).next e (qs k)) :
    Fn g 5 (.ref 125) [] s₀ U₀ [.lst (evs.map Evt.v), .lst (keys.map keyV)] [] (S evs.length).v := by
  refine Fn.def (names := ["events", "keys"]) (ds := [.lst (evs.map Evt.v), .lst (keys.map keyV)]) H (by kernel_rfl) w₀ ?_ ?_
  · intro vsP vsK hP hK
    refine ngI fun hNg => ?_
    obtain ⟨v1, v2, rfl⟩ := len2 hP
    refine ngE hNg ?_
    obtain rfl := len0 hK
    exact ⟨[v1, v2], fun S => by kernel_rfl, fun h U r zz => r⟩
  · intro A U s hA p' hU
    have hh := hA.hh
    have I : InFn g (mkF (fd g 125) 125 U s) s₀ U₀ := ⟨w₀, p', hU⟩
    show X g A (mkF (fd g 125) 125 U s) [("events", .imm (.lst (evs.map Evt.v))), ("keys", .imm (.lst (keys.map keyV)))] (bodyOf (fd g 125)) (Ends _)
    conv => arg 5; whnf
    with_reducible apply X.assignAs (d := .inst (.lst (keys.map keyV))) (d' := .inst (.lst (keys.map keyV)))
    case hd => rfl
    case hs => walk_at "prop"
    case hx => walk_at "loc"
    case h => exact Ev.newTC H (hA.le (by decide)) (by walk_at "go") (by kernel_rfl!) (by rfl)
    with_reducible apply X.assignOwns (xs := ["names", "sums", "steps", "behind", "ahead"]) (hid := ["%1", "%2", "%3", "%4", "%5"])
    case hh => exact hh
    case n => exact .cons (.cons (.cons (.cons (.cons .nil))))
    case hn => exact .cons (.cons (.cons (.cons (.cons .nil))))
    case hlen => rfl
    case hh' => rfl
    case hx =>
      intro x hx
      simp only [List.mem_cons, List.not_mem_nil, or_false] at hx
      rcases hx with rfl | rfl | rfl | rfl | rfl <;> walk_at "loc"
    case nd => decide
    case hno => exact fun y hy p hp => (hap_put (P := farFive) (by decide) (hap_cons (P := farFive) (by decide) (hap_cons (P := farFive) (by decide) hap_nil)) p hp) y hy
    case hnx => decide
    case hz => decide
    case hs => walk_at "prop"
    case hw => walk_at "prop"
    case kk =>
    dsimp only [putsOwn]
    have hinv : ∀ k, k ≤ evs.length → (S k).names.length ≤ k ∧ (S k).sums.length = (S k).names.length ∧ (S k).behind.length ≤ k ∧ (S k).ahead.length ≤ k ∧ (S k).steps.length ≤ k := by
      intro k
      induction k with
      | zero => intro _; rw [h0]; exact ⟨Nat.le_refl _, rfl, Nat.le_refl _, Nat.le_refl _, Nat.le_refl _⟩
      | succ k ih =>
        intro hk
        refine ngI fun hNg => ?_
        obtain ⟨i1, i2, i3, i4, i5⟩ := ih (by lia)
        refine ngE hNg ?_
        refine ngI fun hNg => ?_
        obtain ⟨ok, e⟩ := hS k _ (List.getElem?_eq_getElem (by lia))
        refine ngE hNg ?_
        rw [e]
        refine ⟨?_, ?_, ?_, ?_, ?_⟩
        · show (if _ then _ else _ : List Str).length ≤ _
          split
          · rw [putIn_len _ _ _ ok.hk]; lia
          · lia
        · show ((sumsIn (S k) (qs k)).set _ _).length = (if _ then _ else _ : List Str).length
          rw [List.length_set]; unfold sumsIn
          split
          · rw [putIn_len _ _ _ ok.hk, putIn_len _ _ _ (by rw [i2]; exact ok.hk), i2]
          · exact i2
        · show (putIn _ _ _).length ≤ _
          rw [putIn_len _ _ _ ok.hcb]
          have := List.length_filter_le (otherT evs[k].fn.text) (S k).behind
          lia
        · show (putIn _ _ _).length ≤ _
          rw [putIn_len _ _ _ ok.hca]
          have := List.length_filter_le (otherT evs[k].fn.text) (S k).ahead
          lia
        · show (_ ++ [_] : List Ent).length ≤ _
          rw [List.length_append]; simp; lia
    refine X.forL (xs := evs.map Evt.v) "%i" "%s" hh (by walk_at "go") (.inr ⟨_, _, _, rfl, fun d hd => ?_⟩) (fun k => [("comp", .imm (.inst (.lst (keys.map keyV)))), ("names", .own ((S k).names.map .str)), ("sums", .own ((S k).sums.map Ent.v)), ("steps", .own ((S k).steps.map Ent.v)), ("behind", .own ((S k).behind.map .tup)), ("ahead", .own ((S k).ahead.map .tup))]) (fun zz => True) (by decide) (fun zz => by walk_at "apart") trivial ?_ ?_ ?_ (by intro _; rfl)
    · obtain ⟨q, _, rfl⟩ := List.mem_map.mp hd
      exact ⟨_, rfl⟩
    · rw [h0]
      show ∀ p ∈ [(("comp" : Str), Sl.imm (.inst (.lst (keys.map keyV)))), ("names", .own []), ("sums", .own []), ("steps", .own []), ("behind", .own []), ("ahead", .own [])], p ∈ (((((Rho.put _ "names" (.own [])).put "sums" (.own [])).put "steps" (.own [])).put "behind" (.own [])).put "ahead" (.own []))
      walk_at "sub"
    · intro k d hd _ hid₁ hid₂
      rw [List.getElem?_map] at hd
      cases hq : evs[k]? with
      | none => rw [hq] at hd; cases hd
      | some e =>
        rw [hq] at hd; cases hd
        have hk : k < evs.length := (List.getElem?_eq_some_iff.mp hq).1
        refine ngI fun hNg => ?_
        obtain ⟨i1, i2, i3, i4, i5⟩ := hinv k (by lia)
        refine ngE hNg ?_
        refine ngI fun hNg => ?_
        obtain ⟨ok, eS⟩ := hS k e hq
        refine ngE hNg ?_
        rw [eS]
        generalize S k = st at *
        generalize qs k = q at *
        have hqk := ok.hk
        refine ⟨_, Asg.tup hh (.cons (.cons .nil)) (ds := [e.fn.v, e.en.v]) (.cons (.cons .nil)) ?_, ?_⟩
        · intro x hx
          simp only [List.mem_cons, List.not_mem_nil, or_false] at hx
          rcases hx with rfl | rfl <;> walk_at "loc"
        have hnl : (st.names.map V.str).length = st.names.length := List.length_map _
        have hsl : (st.sums.map Ent.v).length = st.sums.length := List.length_map _
        with_reducible apply X.assignAs (d := .str e.fn.text) (d' := .str e.fn.text)
        case hd => rfl
        case hs => walk_at "prop"
        case hx => walk_at "loc"
        case h =>
          refine Ev.callFn (EvV.globK (v := .ref 49) H (by kernel_rfl!) (by kernel_rfl)) ?_ (func_std_string H w₀ ok.fn.1 ok.fn.2.1 ok.fn.2.2 ok.nm) I (hA.le (by decide)) (by rfl) (by rfl)
          exact .cons (Ev.name (d := e.fn.v) (by walk_at "mem") (by decide)) .nil (by rfl)
        with_reducible apply X.assignAs (d := .int q.k) (d' := .int q.k)
        case hd => rfl
        case hs => walk_at "prop"
        case hx => walk_at "loc"
        case h =>
          refine Ev.callOwn2 (xs := st.names.map V.str) (d := .str e.fn.text) (by walk_at "mem") (EvV.globK (v := .ref 99) H (by kernel_rfl!) (by kernel_rfl)) (by walk_at "go") I (hA.le (by decide)) (bisect_left_none H w₀ (by rw [hnl]; exact hqk) (by rw [hnl]; lia) ?_) (by decide) (by rfl)
          intro A F ρ i d hd
          rw [List.getElem?_map] at hd
          cases hx : st.names[i]? with
          | none => rw [hx] at hd; cases hd
          | some x =>
            rw [hx] at hd; cases hd
            rw [← ok.hl i x hx]
            exact Cmp.ltS
        refine X.ifJoin (b := q.new) [("%i", hid₁), ("%s", hid₂), ("comp", .imm (.inst (.lst (keys.map keyV)))), ("names", .own ((if q.new = true then putIn q.k e.fn.text st.names else st.names).map .str)), ("sums", .own ((sumsIn st q).map Ent.v)), ("steps", .own (st.steps.map Ent.v)), ("behind", .own (st.behind.map .tup)), ("ahead", .own (st.ahead.map .tup)), ("func", .imm e.fn.v), ("entry", .imm e.en.v), ("text", .imm (.str e.fn.text)), ("k", .imm (.int q.k))] ?_ ?_ ?_ ?_
        · refine Tr.cast (d := ((q.k : Int) == (st.names.map V.str).length || st.names.getD q.k "" != e.fn.text)) (Tr.or (Tr.cmp (by walk_at "go") (Ev.lenOwn H (by walk_at "mem") (by rw [hnl]; lia) (by decide) (by kernel_rfl!) (by kernel_rfl!) (by rfl)) Cmp.eq (by rfl)) fun h => Tr.cmp (Ev.itemOwn (k := q.k) (by walk_at "mem") (by walk_at "go") rfl (d := .str (st.names.getD q.k "")) ?_ (by lia) (by decide) (by intro _ _; rfl)) (by walk_at "go") Cmp.neS (by rfl)) ?_
          · rw [hnl] at h
            have h' : q.k ≠ st.names.length := fun e' => by rw [e'] at h; simp at h
            rw [List.getElem?_map, List.getD_eq_getElem?_getD, List.getElem?_eq_getElem (by lia)]; rfl
          · rw [ok.hn, hnl]
            congr 1
            rw [Bool.eq_iff_iff, beq_iff_eq, beq_iff_eq]; lia
        · intro hb
          have es : sumsIn st q = putIn q.k ent0 st.sums := by unfold sumsIn; rw [if_pos hb]
          rw [if_pos hb, es]
          with_reducible apply X.insBy (xs := st.names.map V.str) (d := .str e.fn.text) (k := q.k)
          case hm => walk_at "mem"
          case hf => exact EvV.globK (v := .ref 72) H (by kernel_rfl!) (by kernel_rfl)
          case he => walk_at "go"
          case I => exact I
          case hA => exact hA.le (by decide : 2 ≤ 4)
          case c =>
            refine insort_right_none H w₀ (by rw [hnl]; exact hqk) (by rw [hnl]; lia) fun s U w => bisect_right_none4 H w (by rw [hnl]; exact hqk) (by rw [hnl]; lia) ?_
            intro A F ρ i d hd
            rw [List.getElem?_map] at hd
            cases hx : st.names[i]? with
            | none => rw [hx] at hd; cases hd
            | some x =>
              rw [hx] at hd; cases hd
              rw [← ok.hr hb i x hx]
              exact Cmp.ltS
          case hd => decide
          case hs => rfl
          case hin => rfl
          case hsw => walk_at "prop"
          case kk =>
          with_reducible apply X.insert (xs := st.sums.map Ent.v) (d := ent0.v) (k := q.k)
          case hm => walk_at "mem"
          case hi => walk_at "go"
          case he => exact Ev.cast (d := .tup [.int 0, .int 0, .int 0, .int 0, .dct []]) (Ev.tuple (.cons Ev.int (.cons Ev.int (.cons Ev.int (.cons Ev.int (.cons (Ev.dict0 H.glb) .nil (by rfl)) (by rfl)) (by rfl)) (by rfl)) (by rfl)) (Nat.le_of_ble_eq_true rfl)) rfl
          case hk => rw [hsl, i2]; exact hqk
          case hz => rw [hsl, i2, sizeLine_eq]; lia
          case hd => decide
          case hb => rfl
          case hs => rfl
          case hl => rfl
          case hin => rfl
          case hsw => walk_at "prop"
          case kk =>
          with_reducible apply X.nil
          show ∀ p ∈ _, p ∈ _
          rw [map_putIn, map_putIn]
          walk_at "sub"
        · intro hb
          have es : sumsIn st q = st.sums := by unfold sumsIn; rw [if_neg (by rw [hb]; decide)]
          rw [if_neg (by rw [hb]; decide), es]
          with_reducible apply X.nil
          show ∀ p ∈ _, p ∈ _
          walk_at "sub"
        have hsi : q.k < (sumsIn st q).length ∧ (sumsIn st q).length ≤ k + 1 := by
          have hn := ok.hn
          unfold sumsIn
          split
          · rw [putIn_len _ _ _ (by rw [i2]; exact hqk), i2]; lia
          · rename_i h
            rw [Bool.not_eq_true] at h
            rw [h] at hn
            have h1 : (q.k == st.names.length) = false := by
              cases hx : (q.k == st.names.length) with
              | false => rfl
              | true => rw [hx] at hn; cases hn
            have h2 : q.k ≠ st.names.length := by simpa using h1
            lia
        have hsim : ((sumsIn st q).map Ent.v).length = (sumsIn st q).length := List.length_map _
        have hget : ((sumsIn st q).map Ent.v)[q.k]? = some ((sumsIn st q).getD q.k ent0).v := by
          rw [List.getElem?_map, List.getD_eq_getElem?_getD, List.getElem?_eq_getElem hsi.1]; rfl
        with_reducible apply X.setItemL (xs := (sumsIn st q).map Ent.v) (d := (sumAt st e q).v) (k := q.k)
        case hm => walk_at "mem"
        case hi => walk_at "go"
        case he =>
          refine Ev.callFn (EvV.globK (v := .ref 56) H (by kernel_rfl!) (by kernel_rfl)) ?_ (add_func_stats H w₀ ok.ok1 ok.ok2) I (hA.le (by decide)) (by rfl) (by rfl)
          exact .cons (Ev.itemOwn (k := q.k) (by walk_at "mem") (by walk_at "go") rfl hget (by lia) (by decide) (by intro _ _; rfl)) (.cons (Ev.name (d := e.en.v) (by walk_at "mem") (by decide)) .nil (by rfl)) (by rfl)
        case hk => rw [hsim]; exact hsi.1
        case hz => lia
        case hd => decide
        case hsw => walk_at "prop"
        case kk =>
        have hget2 : (((sumsIn st q).map Ent.v).set q.k (sumAt st e q).v)[q.k]? = some (sumAt st e q).v := by
          rw [List.getElem?_set_self (by rw [hsim]; exact hsi.1)]
        with_reducible apply X.append (xs := st.steps.map Ent.v) (d := (sumAt st e q).v)
        case hm => walk_at "mem"
        case he => exact Ev.itemOwn (k := q.k) (by walk_at "mem") (by walk_at "go") rfl hget2 (by lia) (by decide) (by intro _ _; rfl)
        case hz => rw [List.length_map, sizeLine_eq]; lia
        case hd => decide
        case hb => rfl
        case hs => rfl
        case hl => rfl
        case hi => rfl
        case hsw => walk_at "prop"
        case k =>
        obtain ⟨row, hrow⟩ : ∃ r, r = rowOf (sumAt st e q) e.fn := ⟨_, rfl⟩
        have hr8 : ∀ r, r ∈ st.behind ∨ r ∈ st.ahead → r.length = 8 ∧ ∀ c < 8, alikeV (r.getD c .none) (row.getD c .none) = true := by rw [hrow]; exact ok.r8
        have hrr : row.length = 8 ∧ ∀ c < 8, alikeV (row.getD c .none) (row.getD c .none) = true := by rw [hrow]; exact ⟨rfl, row_alike _ _⟩
        have hr7 : row.getD 7 .none = .str e.fn.text := by rw [hrow]; rfl
        have ot : ∀ r, r ∈ st.behind ∨ r ∈ st.ahead → r[7]? = some (.str (strOf (r.getD 7 .none))) := fun r hr => by
          refine ngI fun hNg => ?_
          obtain ⟨h1, h2⟩ := hr8 r hr
          refine ngE hNg ?_
          have h3 := h2 7 (by decide)
          rw [hr7] at h3
          have h4 : r[7]? = some (r.getD 7 .none) := by rw [List.getD_eq_getElem?_getD, List.getElem?_eq_getElem (by lia)]; rfl
          rw [h4]
          generalize r.getD 7 .none = x at h3
          cases x <;> first | rfl | cases h3
        with_reducible apply X.assignAs (d := .tup row) (d' := .tup row)
        case hd => rfl
        case hs => walk_at "prop"
        case hx => walk_at "loc"
        case h =>
          refine Ev.cast (d := .tup (([.int (sumAt st e q).cc, .int (sumAt st e q).nc, .int (sumAt st e q).tt, .int (sumAt st e q).ct] ++ [.str e.fn.sp, .int e.fn.ln, .str e.fn.nm]) ++ [.str e.fn.text])) ?_ (by rw [hrow]; rfl)
          refine Ev.bin (Ev.bin (d₁ := .tup [.int (sumAt st e q).cc, .int (sumAt st e q).nc, .int (sumAt st e q).tt, .int (sumAt st e q).ct]) (d₂ := .tup [.str e.fn.sp, .int e.fn.ln, .str e.fn.nm]) ?_ ?_ (Op.catT (by simp) (by simp) (Nat.le_of_ble_eq_true rfl))) (Ev.tuple (ds := [.str e.fn.text]) (.cons (by walk_at "go") .nil (by rfl)) (Nat.le_of_ble_eq_true rfl)) (Op.catT (by simp) (by simp) (Nat.le_of_ble_eq_true rfl))
          · refine Ev.cast (d := .tup (([.int (sumAt st e q).cc, .int (sumAt st e q).nc, .int (sumAt st e q).tt, .int (sumAt st e q).ct, .dct (calV (sumAt st e q).cal)] : List V).take 4)) (Ev.tupToI (k := 4) (Ev.itemOwn (d := (sumAt st e q).v) (k := q.k) (by walk_at "mem") (by walk_at "go") rfl hget2 (by lia) (by decide) (by intro _ _; rfl)) Ev.int (by decide) (by show 4 < 5; decide) (Nat.le_of_ble_eq_true rfl)) rfl
          · exact Ev.name (d := e.fn.v) (by walk_at "mem") (by decide)
        have frest : ∀ l : List (List V), (l.filter (otherT e.fn.text)).map V.tup = (l.filter fun r => otherT e.fn.text r).map V.tup := fun zz => rfl
        refine X.freezeL (x := "behind") (by walk_at "mem") ?_
        refine X.assignC (as := st.behind) (enc := .tup) (p := otherT e.fn.text) (f := .tup) (fr := [("text", .str e.fn.text)]) ?c1 ?c2 (CompOk.of (by kernel_rfl!)) ?c3 ?c4 ?c5 ?c6 ?c7 ?c8 ?c9 ?c10
        case c1 => walk_at "prop"
        case c2 => walk_at "loc"
        case c3 => walk_at "frs"
        case c4 => exact Src.list hh (by walk_at "go") (.inl ⟨_, _, rfl⟩)
        case c5 => rw [sizeLine_eq]; lia
        case c6 =>
          intro L cells C U' s' w' hC r hr
          refine CTurn.nm (.inl (by kernel_rfl!)) (by decide) (by walk_at "cne") (Tests.one ?_) fun zz => ?_
          · show Tr _ _ _ [(("one" : Str), Sl.imm (.tup r)), (("text" : Str), Sl.imm (.str e.fn.text))] _ _
            exact Tr.cmp (Ev.itemTI (j := 7) (k := 7) (by walk_at "go") Ev.int rfl (ot r (.inl hr)) (by decide) (by intro _ _; rfl)) (by walk_at "go") Cmp.neS (by rfl)
          · show Ev _ _ _ [(("one" : Str), Sl.imm (.tup r)), (("text" : Str), Sl.imm (.str e.fn.text))] _ _
            walk_at "go"
        case c7 => intro _; rfl
        case c8 => walk_at "hap"
        case c9 => decide
        case c10 =>
        refine X.freezeL (x := "ahead") (by walk_at "mem") ?_
        refine X.assignC (as := st.ahead) (enc := .tup) (p := otherT e.fn.text) (f := .tup) (fr := [("text", .str e.fn.text)]) ?d1 ?d2 (CompOk.of (by kernel_rfl!)) ?d3 ?d4 ?d5 ?d6 ?d7 ?d8 ?d9 ?d10
        case d1 => walk_at "prop"
        case d2 => walk_at "loc"
        case d3 => walk_at "frs"
        case d4 => exact Src.list hh (by walk_at "go") (.inl ⟨_, _, rfl⟩)
        case d5 => rw [sizeLine_eq]; lia
        case d6 =>
          intro L cells C U' s' w' hC r hr
          refine CTurn.nm (.inl (by kernel_rfl!)) (by decide) (by walk_at "cne") (Tests.one ?_) fun zz => ?_
          · show Tr _ _ _ [(("one" : Str), Sl.imm (.tup r)), (("text" : Str), Sl.imm (.str e.fn.text))] _ _
            exact Tr.cmp (Ev.itemTI (j := 7) (k := 7) (by walk_at "go") Ev.int rfl (ot r (.inr hr)) (by decide) (by intro _ _; rfl)) (by walk_at "go") Cmp.neS (by rfl)
          · show Ev _ _ _ [(("one" : Str), Sl.imm (.tup r)), (("text" : Str), Sl.imm (.str e.fn.text))] _ _
            walk_at "go"
        case d7 => intro _; rfl
        case d8 => walk_at "hap"
        case d9 => decide
        case d10 =>
        have hbf : ((st.behind.filter (otherT e.fn.text)).map V.tup).length = (st.behind.filter (otherT e.fn.text)).length := List.length_map _
        have haf : ((st.ahead.filter (otherT e.fn.text)).map V.tup).length = (st.ahead.filter (otherT e.fn.text)).length := List.length_map _
        have hbl := List.length_filter_le (otherT e.fn.text) st.behind
        have hal := List.length_filter_le (otherT e.fn.text) st.ahead
        have cellOf : ∀ {F : Fx} {ρ O s x} {d : V}, StO g F ρ O s → ((x : Str), Sl.imm d) ∈ ρ → F.env.kindOf x = some .cell → ∃ c v, F.env.cells.lookup x = some c ∧ s.heap.IsCell c (some v) ∧ Rep g s.heap (UU F O) d v := fun {F ρ O s x d} st hm hk => by
          refine ngI fun hNg => ?_
          obtain ⟨v, hb, hr⟩ := st.facts _ _ hm
          refine ngE hNg ?_
          rcases hb with ⟨h, _⟩ | ⟨_, _, c, hc, hv⟩
          · rw [hk] at h; cases h
          · exact ⟨c, v, hc, hv, hr⟩
        have tk : ∃ o, g.B.get? 72 = some o ∧ o.data = .func (fd g 72) ∧ o.cls ≠ .none := (IsFn.of H (a := 72) (names := ["a", "x", "lo", "hi", "key"]) (by kernel_rfl)).at'
        have tl : ∃ o, g.B.get? 90 = some o ∧ o.data = .func (fd g 90) ∧ o.cls ≠ .none := (IsFn.of H (a := 90) (names := ["a", "x", "lo", "hi", "key"]) (by kernel_rfl)).at'
        have hfr : ∀ {ρ}, (("comp" : Str), Sl.imm (.inst (.lst (keys.map keyV)))) ∈ ρ → (("row" : Str), Sl.imm (.tup row)) ∈ ρ → ∀ s' O, StO g (mkF (fd g 125) 125 U s) ρ O s' → ∀ n, (n, NameKind.free) ∈ cmpScope.names → ∃ c, (mkF (fd g 125) 125 U s).env.cells.lookup n = some c := fun h1 h2 s' O st' n hn => by
          simp only [cmpScope, List.mem_cons, Prod.mk.injEq, reduceCtorEq, and_false, and_true, false_or, List.not_mem_nil, or_false] at hn
          rcases hn with rfl | rfl
          · obtain ⟨c, _, hc, _⟩ := cellOf st' h1 (by kernel_rfl!)
            exact ⟨c, hc⟩
          · obtain ⟨c, _, hc, _⟩ := cellOf st' h2 (by kernel_rfl!)
            exact ⟨c, hc⟩
        with_reducible apply X.insByLam (xs := (st.behind.filter (otherT e.fn.text)).map V.tup) (d := .tup row) (k := q.cb) (q := "_law_kept.<locals>.<lambda>") (c := 124) (P := 122) (n := 4)
        case H => exact H
        case hm => walk_at "mem"
        case hf => exact EvV.globK (v := .ref 72) H (by kernel_rfl!) (by kernel_rfl)
        case he => walk_at "go"
        case hA => exact hA
        case hq => rw [H.tabs]; exact .tail _ (.head _)
        case hcode => kernel_rfl!
        case hqual => kernel_rfl!
        case hfree => exact hfr (by walk_at "mem") (by walk_at "mem")
        case hdef => rfl
        case hI =>
          intro s' O fa st' hL
          refine ngI fun hNg => ?_
          obtain ⟨c1, v1, hc1, hv1, r1⟩ := cellOf (x := "comp") (d := .inst (.lst (keys.map keyV))) st' (by walk_at "mem") (by kernel_rfl!)
          refine ngE hNg ?_
          refine ngI fun hNg => ?_
          obtain ⟨c2, v2, hc2, hv2, r2⟩ := cellOf (x := "row") (d := .tup row) st' (by walk_at "mem") (by kernel_rfl!)
          refine ngE hNg ?_
          have lam : ∀ l : List V, l.length = 8 → (∀ c < 8, alikeV (l.getD c .none) (row.getD c .none) = true) → Fn g 2 (.ref fa) [] s' (UU (mkF (fd g 125) 125 U s) O) [.tup l] [] (.int (cmpK keys l row)) := fun l h1 h2 => lam_compare H st'.wd hL hc1 hc2 hv1 hv2 r1 r2 h1 hrr.1 hkey h2 (fun env => rfl)
          refine insort_right_key (n := 2) (kd := kdV keys row) H st'.wd (by rw [hbf]; exact ok.hcb) (by rw [hbf]; lia) (lam row hrr.1 hrr.2) (fun d hd => ?_) ?_
          · obtain ⟨r, hr, rfl⟩ := List.mem_map.mp hd
            have := hr8 r (.inl (List.mem_filter.mp hr).1)
            exact lam r this.1 this.2
          · intro A F ρ i d hd
            rw [List.getElem?_map] at hd
            cases hx : (st.behind.filter (otherT e.fn.text))[i]? with
            | none => rw [hx] at hd; cases hd
            | some r =>
              rw [hx] at hd; cases hd
              rw [← ok.hb i r hx, ← hrow]
              exact Cmp.lt
        case hd => decide
        case hs => rfl
        case hkw => rfl
        case hin => rfl
        case hsw => walk_at "prop"
        case hfn => exact ⟨72, _, rfl, tk⟩
        case kk =>
        with_reducible apply X.insByLam (xs := (st.ahead.filter (otherT e.fn.text)).map V.tup) (d := .tup row) (k := q.ca) (q := "_law_kept.<locals>.<lambda>") (c := 124) (P := 122) (n := 4)
        case H => exact H
        case hm => walk_at "mem"
        case hf => exact EvV.globK (v := .ref 90) H (by kernel_rfl!) (by kernel_rfl)
        case he => walk_at "go"
        case hA => exact hA
        case hq => rw [H.tabs]; exact .tail _ (.head _)
        case hcode => kernel_rfl!
        case hqual => kernel_rfl!
        case hfree => exact hfr (by walk_at "mem") (by walk_at "mem")
        case hdef => rfl
        case hI =>
          intro s' O fa st' hL
          refine ngI fun hNg => ?_
          obtain ⟨c1, v1, hc1, hv1, r1⟩ := cellOf (x := "comp") (d := .inst (.lst (keys.map keyV))) st' (by walk_at "mem") (by kernel_rfl!)
          refine ngE hNg ?_
          refine ngI fun hNg => ?_
          obtain ⟨c2, v2, hc2, hv2, r2⟩ := cellOf (x := "row") (d := .tup row) st' (by walk_at "mem") (by kernel_rfl!)
          refine ngE hNg ?_
          have lam : ∀ l : List V, l.length = 8 → (∀ c < 8, alikeV (l.getD c .none) (row.getD c .none) = true) → Fn g 2 (.ref fa) [] s' (UU (mkF (fd g 125) 125 U s) O) [.tup l] [] (.int (cmpK keys l row)) := fun l h1 h2 => lam_compare H st'.wd hL hc1 hc2 hv1 hv2 r1 r2 h1 hrr.1 hkey h2 (fun env => rfl)
          refine insort_left_key (n := 2) (kd := kdV keys row) H st'.wd (by rw [haf]; exact ok.hca) (by rw [haf]; lia) (lam row hrr.1 hrr.2) (fun d hd => ?_) ?_
          · obtain ⟨r, hr, rfl⟩ := List.mem_map.mp hd
            have := hr8 r (.inr (List.mem_filter.mp hr).1)
            exact lam r this.1 this.2
          · intro A F ρ i d hd
            rw [List.getElem?_map] at hd
            cases hx : (st.ahead.filter (otherT e.fn.text))[i]? with
            | none => rw [hx] at hd; cases hd
            | some r =>
              rw [hx] at hd; cases hd
              rw [← ok.ha i r hx, ← hrow]
              exact Cmp.lt
        case hd => decide
        case hs => rfl
        case hkw => rfl
        case hin => rfl
        case hsw => walk_at "prop"
        case hfn => exact ⟨90, _, rfl, tl⟩
        case kk =>
        with_reducible apply X.nil
        refine ⟨trivial, ?_⟩
        have e1 : (st.next e q).names = (if q.new = true then putIn q.k e.fn.text st.names else st.names) := rfl
        have e2 : (st.next e q).sums.map Ent.v = ((sumsIn st q).map Ent.v).set q.k (sumAt st e q).v := List.map_set ..
        have e3 : (st.next e q).steps.map Ent.v = st.steps.map Ent.v ++ [(sumAt st e q).v] := List.map_append ..
        have e4 : (st.next e q).behind.map V.tup = putIn q.cb (.tup row) ((st.behind.filter (otherT e.fn.text)).map V.tup) := by rw [hrow]; exact map_putIn ..
        have e5 : (st.next e q).ahead.map V.tup = putIn q.ca (.tup row) ((st.ahead.filter (otherT e.fn.text)).map V.tup) := by rw [hrow]; exact map_putIn ..
        rw [e1, e2, e3, e4, e5]
        walk_at "sub"
    · intro _
      rw [List.length_map]
      refine X.freezeL (x := "names") (by walk_at "mem") ?_
      refine X.freezeL (x := "steps") (by walk_at "mem") ?_
      refine X.freezeL (x := "behind") (by walk_at "mem") ?_
      refine X.freezeL (x := "ahead") (by walk_at "mem") ?_
      with_reducible apply X.ret
      · walk_at "go"
      · rfl
end
section
noncomputable def sumEnt (mine : List Ent) : Ent := ⟨(mine.map (·.part 0)).sum, (mine.map (·.part 1)).sum, (mine.map (·.part 2)).sum, (mine.map (·.part 3)).sum, []⟩
noncomputable def rowAt (evs : List Evt) (fn : Fnc) : List V := rowOf (sumEnt (mineOf evs fn)) fn
noncomputable def evt0 : Evt := ⟨⟨"", 0, ""⟩, ent0⟩
noncomputable def lastsOf (evs : List Evt) : List Nat := (List.range evs.length).filter fun k => ((evs.drop (k + 1)).filter fun o => fnEq o.fn (evs.getD k evt0).fn).isEmpty
noncomputable def rowsOf (evs : List Evt) : List (List V) := (lastsOf evs).map fun k => rowAt evs (evs.getD k evt0).fn
noncomputable def rowsT (evs : List Evt) (t : Nat) : List (List V) := if t = 0 then rowsOf evs else (rowsOf evs).reverse
noncomputable def intOf : V → Int
  | .int i => i
  | _ => 0
noncomputable def tabS : Str := "\t"
noncomputable def spcS : Str := " "
noncomputable def nlS : Str := "\n"
noncomputable def lineOf (r : List V) : Str := tabS ++ (toString (intOf (r.getD 1 .none)) : String) ++ spcS ++ strOf (r.getD 7 .none) ++ nlS
noncomputable def gapS (b : Bool) : Str := if b = true then dots else ""
noncomputable def wantAt (lines : List Str) (q : Want) : Nat → Str
  | 0 => gapS (q.2.getD 0 false)
  | k + 1 => wantAt lines q k ++ lines.getD (q.1.getD k 0) "" ++ gapS (q.2.getD (k + 1) false)
noncomputable def wantS (lines : List Str) (q : Want) : Str := wantAt lines q q.1.length
noncomputable def listing (st : KS) (t : Nat) : List (List V) := if t = 0 then st.behind else st.ahead
structure LedOk (b : Bool) (evs : List Evt) (fn : Fnc) (p : List Nat) : Prop where
  hd : ∀ i j, i < (ledRows b (mineOf evs fn) fn.text).length → j < (ledRows b (mineOf evs fn) fn.text).length → i ≠ j → ((ledRows b (mineOf evs fn) fn.text).map fun r => (r.at_ : Int)).getD i 0 ≠ ((ledRows b (mineOf evs fn) fn.text).map fun r => (r.at_ : Int)).getD j 0
  hp : Ord (intLt ((ledRows b (mineOf evs fn) fn.text).map fun r => (r.at_ : Int))) (ledRows b (mineOf evs fn) fn.text).length p
structure LawOk (evs : List Evt) (keys : Keys) (total : Int) (b : Bool) (S : Nat → KS) (qs : Nat → Plc) (pl pf ps : Nat → List Nat) (pn : List Nat) : Prop where
  h0 : S 0 = KS.nil
  hS : ∀ (k : Nat) (e : Evt), evs[k]? = some e → StepOk b keys (S k) e (qs k) ∧ S (k + 1) = (S k).next e (qs k)
  evl : evs.length ≤ 6
  four : ∀ e ∈ evs, ∀ q ∈ e.en.cal, q.2.isFour = b
  one : ∀ e ∈ evs, e.en.cal.length ≤ 1
  led : ∀ (k : Nat) (e : Evt), evs[k]? = some e → LedOk b (evs.take (k + 1)) e.fn (pl k)
  ledEq : ∀ (k : Nat) (e : Evt), evs[k]? = some e → ∃ x, (S evs.length).steps[k]? = some x ∧ x.cal.length ≤ 100 ∧ entSum (mineOf (evs.take (k + 1)) e.fn) = .tup [.int x.cc, .int x.nc, .int x.tt, .int x.ct] ∧ ((pl k).map fun i => V.tup ((ledRows b (mineOf (evs.take (k + 1)) e.fn) e.fn.text).getD i led0).tl) = itemsV (calV x.cal)
  ledF : ∀ (k : Nat) (e : Evt), evs[k]? = some e → LedOk b evs e.fn (pf k)
  namesOk : Ord (strLt ((rowsOf evs).map fun r => strOf (r.getD 7 .none))) (rowsOf evs).length pn
  namesEq : (S evs.length).names = pn.map fun i => ((rowsOf evs).map fun r => strOf (r.getD 7 .none)).getD i ""
  r8 : Rows8 (rowsOf evs)
  nc : ∀ (k : Nat) (e : Evt), evs[k]? = some e → ((mineOf evs e.fn).map fun x : Ent => x.part 1).sum.natAbs ≤ 1000
  told : ∀ t : Nat, t < 2 → Ord (lexLt keys.length (ranksOf (rowsT evs t) keys)) (rowsT evs t).length (ps t) ∧ ((ps t).map fun i => (rowsT evs t).getD i []) = listing (S evs.length) t
  wants : ∀ t : Nat, t < 2 → ∀ q ∈ lawWants (rowsOf evs).length total ((t : Int) == total.fmod 2), ∃ ws : List Str,
    let lines := (listing (S evs.length) t).map lineOf
    let want := wantS lines q
    let report := Txt.join "" lines
    (hasDots want = true → Txt.split want dots = ws) ∧ 2 ≤ ws.length ∧ (∀ w ∈ ws, w.length ≤ 1000000) ∧ ws.length ≤ 1000000 ∧ (if hasDots want = true then ellM report ws else want == report) = fits q.1 q.2 (rowsOf evs).length
theorem X.assignTT {A : Around} {F : Fx} {ρ : Rho} {rest : List Stmt} {Q : Res → Prop} {es k px e pos ρ₂} (d : V) (th : Ev g A F ρ e d) (ta : Asg g A F ρ (.Tuple es k px) d ρ₂) (ts : swapsWithSole [.Tuple es k px] e pos.line F.env = pure false) (tw : swappedStores [.Tuple es k px] e F.env = pure none) (tk : X g A F ρ₂ rest Q) :
    X g A F ρ (.Assign [.Tuple es k px] e pos :: rest) Q := X.assignT th ta tk ts tw
theorem okEs_of {l : List V} (h : ∀ x ∈ l, x.okE = true) : okEs l = true := by
  induction l with
  | nil => rfl
  | cons x l ih => rw [okEs, h x (.head _), ih fun y hy => h y (.tail _ hy)]; rfl
theorem deeps_of {l : List V} {n : Nat} (h : ∀ x ∈ l, x.deep ≤ n) : deeps l ≤ n := by
  induction l with
  | nil => exact Nat.zero_le _
  | cons x l ih => rw [deeps]; exact Nat.max_le.mpr ⟨h x (.head _), ih fun y hy => h y (.tail _ hy)⟩
theorem cnt_ok (c : Cnt) : c.v.okE = true ∧ c.v.deep ≤ 1 := by cases c <;> exact ⟨rfl, Nat.le_of_ble_eq_true rfl⟩
theorem evt_ok (e : Evt) (h : e.en.cal.length ≤ 1) : e.v.okE = true ∧ e.v.deep ≤ 5 := by
  obtain ⟨⟨sp, ln, nm⟩, ⟨cc, nc, tt, ct, cal⟩⟩ := e
  cases cal with
  | nil => exact ⟨rfl, Nat.le_of_ble_eq_true rfl⟩
  | cons q r =>
    cases r with
    | nil => obtain ⟨k, c⟩ := q; cases c <;> exact ⟨rfl, Nat.le_of_ble_eq_true rfl⟩
    | cons _ _ => exact absurd (Nat.le_of_succ_le_succ h) (Nat.not_succ_le_zero _)
theorem itemsV_ok (q : V) (l : List (Str × Cnt)) (hq : q ∈ itemsV (calV l)) : q.okE = true ∧ q.deep ≤ 2 := by
  obtain ⟨p, hp, rfl⟩ := List.mem_map.mp hq
  obtain ⟨r, _, rfl⟩ := List.mem_map.mp hp
  obtain ⟨s, c⟩ := r
  cases c <;> exact ⟨rfl, Nat.le_of_ble_eq_true rfl⟩
theorem entV_ok (x : Ent) : okEs [V.tup [.int x.cc, .int x.nc, .int x.tt, .int x.ct], .lst (itemsV (calV x.cal))] = true ∧ deeps [V.tup [.int x.cc, .int x.nc, .int x.tt, .int x.ct], .lst (itemsV (calV x.cal))] ≤ 5 := by
  have h1 : okEs (itemsV (calV x.cal)) = true := okEs_of fun y hy => (itemsV_ok y _ hy).1
  have h2 : deeps (itemsV (calV x.cal)) ≤ 2 := deeps_of fun y hy => (itemsV_ok y _ hy).2
  constructor
  · show (true && (okEs (itemsV (calV x.cal)) && true)) = true
    rw [h1]; rfl
  · show Nat.max 1 (Nat.max (deeps (itemsV (calV x.cal)) + 1) 0) ≤ 5
    exact Nat.max_le.mpr ⟨by decide, Nat.max_le.mpr ⟨Nat.le_trans (Nat.succ_le_succ h2) (by decide), by decide⟩⟩
theorem text_len {f : Fnc} (h1 : f.sp.length ≤ 100) (h2 : f.nm.length ≤ 100) (h3 : f.ln.natAbs < 10 ^ 12) : f.text.length ≤ 300 := by
  have hL : (Str.ofString (toString f.ln)).length ≤ 13 := by
    have e := int_text_length_le10 (k := 12) (by decide) h3
    rw [PySem.ofString_length]; lia
  have l1 : (Str.ofString ":").length = 1 := by decide
  have l2 : (Str.ofString "(").length = 1 := by decide
  have l3 : (Str.ofString ")").length = 1 := by decide
  have l4 : (Str.ofString "{f}").length = 3 := by decide
  unfold Fnc.text textOf
  split
  · simp only [PySem.Str.length_append]; lia
  · split
    · lia
    · lia
theorem line_len {r : List V} (h1 : (intOf (r.getD 1 .none)).natAbs ≤ 1000) (h2 : (strOf (r.getD 7 .none)).length ≤ 300) : (lineOf r).length ≤ 400 := by
  have hL : (Str.ofString (toString (intOf (r.getD 1 .none)))).length ≤ 13 := by
    have e := int_text_length_le10 (k := 12) (a := intOf (r.getD 1 .none)) (by decide) (Nat.lt_of_le_of_lt h1 (by decide))
    rw [PySem.ofString_length]; lia
  have l1 : tabS.length = 1 := by decide
  have l2 : spcS.length = 1 := by decide
  have l3 : nlS.length = 1 := by decide
  unfold lineOf
  simp only [PySem.Str.length_append]; lia
theorem itemStr (l : List Str) (k : Nat) (h : k < l.length) : (l.map V.str)[k]? = some (.str (l.getD k "")) := by
  rw [List.getElem?_map, List.getD_eq_getElem?_getD, List.getElem?_eq_getElem h]; rfl
theorem memD (l : List Str) (k : Nat) (h : k < l.length) : l.getD k "" ∈ l := by
  rw [List.getD_eq_getElem?_getD, List.getElem?_eq_getElem h]; exact List.getElem_mem _
theorem gapS_len (b : Bool) : (gapS b).length ≤ 3 := by cases b <;> decide
theorem wantAt_len {lines : List Str} {q : Want} (h : ∀ l ∈ lines, l.length ≤ 400) : ∀ k, (wantAt lines q k).length ≤ 3 + 403 * k
  | 0 => by have := gapS_len (q.2.getD 0 false); rw [wantAt]; lia
  | k + 1 => by
    have h1 := wantAt_len h (q := q) k
    have h2 := gapS_len (q.2.getD (k + 1) false)
    have h3 : (lines.getD (q.1.getD k 0) "").length ≤ 400 := by
      rw [List.getD_eq_getElem?_getD]
      cases e : lines[q.1.getD k 0]? with
      | none => decide
      | some l => exact h l (List.mem_of_getElem? e)
    rw [wantAt]
    simp only [PySem.Str.length_append]; lia
noncomputable def WantOk (n : Nat) (q : Want) : Prop := (∀ p ∈ q.1, p < n) ∧ q.2.length = q.1.length + 1 ∧ q.1.length ≤ 2 * n + 2
theorem wants_ok {n : Nat} {total : Int} {all : Bool} : ∀ q ∈ lawWants n total all, WantOk n q := by
  intro q hq
  unfold lawWants wantHd at hq
  rcases List.mem_append.mp hq with hq | hq
  · rcases List.mem_cons.mp hq with rfl | hq
    · exact ⟨fun p hp => List.mem_range.mp hp, by simp [want0], by simp [want0]; lia⟩
    · obtain ⟨w, _, rfl⟩ := List.mem_map.mp hq
      refine ⟨fun p hp => List.mem_range.mp (List.mem_filter.mp hp).1, by simp [wantW], ?_⟩
      have := List.length_filter_le (pickAt total w) (List.range n)
      rw [List.length_range] at this
      show ((List.range n).filter _).length ≤ _
      lia
  · unfold wantTl at hq
    obtain ⟨l, hl, hq⟩ := List.mem_flatten.mp hq
    obtain ⟨i, hi, rfl⟩ := List.mem_map.mp hl
    obtain ⟨j, hj, rfl⟩ := List.mem_map.mp hq
    have hj := List.mem_range.mp hj
    have hi : i < n := by
      have := List.mem_range.mp hi
      split at this <;> lia
    unfold want2
    split
    · refine ⟨fun p hp => ?_, rfl, by simp⟩
      simp only [List.mem_cons, List.not_mem_nil, or_false] at hp
      rcases hp with rfl | rfl <;> lia
    · refine ⟨fun p hp => ?_, ?_, ?_⟩
      · rcases List.mem_append.mp hp with hp | hp
        · have := List.mem_range.mp hp; lia
        · have := List.mem_range'_1.mp hp; lia
      · simp; lia
      · simp; lia
theorem join_ok {ts : List Str} (h : ∀ t ∈ ts, t.length ≤ 400) (hn : ts.length ≤ 100) : JoinOk "" ts = true := by
  have : ∀ (l : List Str) (a : Nat), (∀ t ∈ l, t.length ≤ 400) → l.foldl (fun n t => n + t.length + ("" : Str).length) a ≤ a + 400 * l.length := by
    intro l
    induction l with
    | nil => intro a _; simp
    | cons t l ih =>
      intro a h
      have h1 := ih (a + t.length + ("" : Str).length) fun x hx => h x (.tail _ hx)
      have h2 := h t (.head _)
      have h3 : ("" : Str).length = 0 := by decide
      rw [List.foldl_cons, List.length_cons]; lia
  have h1 := this ts 0 h
  unfold JoinOk
  rw [List.foldl_toArray]
  show (!decide (_ > sizeLine)) = true
  have h2 : ¬ (ts.foldl (fun n t => n + t.length + ("" : Str).length) 0 > sizeLine) := by rw [sizeLine_eq]; lia
  rw [decide_eq_false h2]; rfl
variable {s₀ : Shared} {U₀ : Addr → Prop}
theorem law_true (H : Base g) (w₀ : Wd g s₀) {script : List Int} {WS : Nat → KS} {Wqs : Nat → Plc} {Wpl Wpf Wps : Nat → List Nat} {Wpn : List Nat} (hz : script.length ≤ 63) (W : LawOk (lawEvents script) (lawKeys (lawTotal script)) (lawTotal script) (fourB (lawTotal script)) WS Wqs Wpl Wpf Wps Wpn) :
    Fn g 6 (.ref 159) [] s₀ U₀ [.lst (script.map .int)] [] (.bool true) := by
  refine Fn.def (names := ["script"]) (ds := [.lst (script.map .int)]) H (by kernel_rfl) w₀ ?_ ?_
  · intro vsP vsK hP hK
    refine ngI fun hNg => ?_
    obtain ⟨v1, rfl⟩ := len1 hP
    refine ngE hNg ?_
    obtain rfl := len0 hK
    exact ⟨[v1], fun S => by kernel_rfl, fun h U r zz => r⟩
  · intro A U s hA p' hU
    have hh := hA.hh
    have I : InFn g (mkF (fd g 159) 159 U s) s₀ U₀ := ⟨w₀, p', hU⟩
    have hsl : (script.map V.int).length ≤ sizeLine := by rw [List.length_map, sizeLine_eq]; lia
    show X g A (mkF (fd g 159) 159 U s) [("script", .imm (.lst (script.map .int)))] (bodyOf (fd g 159)) (Ends _)
    conv => arg 5; whnf
    with_reducible apply X.assignAs (d := .int (lawTotal script))
    · walk_at "prop"
    · walk_at "loc"
    · refine Ev.sum H hh (ns := script.take 63) ?_ (by kernel_rfl!) (by kernel_rfl!) (by rfl)
      refine (EvF.ev (EvF.slice (l := none) (u := some 63) (by walk_at "go") .none (.some (by walk_at "go")) hsl)).cast ?_
      rw [pick_to _ (by decide), List.map_take]; rfl
    · rfl
    have hlev : ∀ {ρ pos x p1 p2}, Ev g A (mkF (fd g 159) 159 U s) ρ (.Name x p1) (.lst (script.map .int)) → starEach [.Name x p1] (mkF (fd g 159) 159 U s).env = [(false, eval (.Name x p1) (mkF (fd g 159) 159 U s).env)] → Ev g A (mkF (fd g 159) 159 U s) ρ (.Call (.Name "_law_events" p2) [.Name x p1] [] pos) (.lst ((lawEvents script).map Evt.v)) := fun h hs =>
      Ev.callFn (EvV.globK (v := .ref 113) H (by kernel_rfl!) (by kernel_rfl)) (.cons h .nil hs) (law_events H w₀ hz) I (hA.le (by decide)) hs (by rfl)
    with_reducible apply X.assignTT (d := .tup [.lst ((lawEvents script).map Evt.v), .lst ((lawKeys (lawTotal script)).map keyV)])
    case th =>
      refine Ev.tuple (.cons (hlev (by walk_at "go") (by rfl)) (.cons ?_ .nil (by rfl)) (by rfl)) (Nat.le_of_ble_eq_true rfl)
      exact Ev.callFn (EvV.globK (v := .ref 120) H (by kernel_rfl!) (by kernel_rfl)) (.cons (Ev.name (d := .int (lawTotal script)) (by walk_at "mem") (by decide)) .nil (by rfl)) (law_keys H w₀) I (hA.le (by decide)) (by rfl) (by rfl)
    case ta =>
      refine Asg.tup hh (.cons (.cons .nil)) (.cons (.cons .nil)) ?_
      intro x hx
      simp only [List.mem_cons, List.not_mem_nil, or_false] at hx
      rcases hx with rfl | rfl <;> walk_at "loc"
    case ts => walk_at "prop"
    case tw => walk_at "prop"
    case tk =>
    have hkeys : ∀ q ∈ lawKeys (lawTotal script), q.1 < 8 := lawKeys_col
    have hkl : (lawKeys (lawTotal script)).length ≤ 3 := by
      have := fmod3 (lawTotal script)
      unfold lawKeys; rw [List.length_map, List.length_range]; lia
    have hfn : ∀ e ∈ lawEvents script, e.fn.sp.length ≤ 100 ∧ e.fn.nm.length ≤ 100 ∧ e.fn.ln.natAbs < 10 ^ 12 := fun e he => by
      refine ngI fun hNg => ?_
      obtain ⟨x, _, rfl⟩ := List.mem_map.mp he
      refine ngE hNg ?_
      exact evFn_ok _ _
    obtain ⟨evs, hevs⟩ : ∃ l, l = lawEvents script := ⟨_, rfl⟩
    obtain ⟨keys, hke⟩ : ∃ l, l = lawKeys (lawTotal script) := ⟨_, rfl⟩
    obtain ⟨total, htot⟩ : ∃ l, l = lawTotal script := ⟨_, rfl⟩
    rw [← hevs] at hlev hfn W ⊢
    rw [← hke] at hkeys hkl W ⊢
    rw [← htot] at W ⊢
    generalize fourB total = b at W
    have hevn := W.evl
    have hvl : (evs.map Evt.v).length = evs.length := List.length_map _
    obtain ⟨S, hS⟩ : ∃ x, x = WS evs.length := ⟨_, rfl⟩
    with_reducible apply X.assignTT (d := (WS evs.length).v)
    case th => exact Ev.callFn (EvV.globK (v := .ref 125) H (by kernel_rfl!) (by kernel_rfl)) (.cons (Ev.name (d := .lst (evs.map Evt.v)) (by walk_at "mem") (by decide)) (.cons (Ev.name (d := .lst (keys.map keyV)) (by walk_at "mem") (by decide)) .nil (by rfl)) (by rfl)) (law_kept (b := b) (S := WS) (qs := Wqs) H w₀ (by lia) hkeys W.h0 W.hS) I hA (by rfl) (by rfl)
    case ta =>
      rw [← hS]
      refine Asg.tup hh (.cons (.cons (.cons (.cons .nil)))) (.cons (.cons (.cons (.cons .nil)))) ?_
      intro x hx
      simp only [List.mem_cons, List.not_mem_nil, or_false] at hx
      rcases hx with rfl | rfl | rfl | rfl <;> walk_at "loc"
    case ts => walk_at "prop"
    case tw => walk_at "prop"
    case tk =>
    with_reducible apply X.ifE (b := false)
    · refine Tr.cmp (by walk_at "go") (hlev (by walk_at "go") (by rfl)) (Cmp.neL (okEs_of fun x hx => ?_) ?_) (by rfl)
      · obtain ⟨e, he, rfl⟩ := List.mem_map.mp hx
        exact (evt_ok e (W.one e he)).1
      · have := deeps_of (l := evs.map Evt.v) (n := 5) fun x hx => by
          refine ngI fun hNg => ?_
          obtain ⟨e, he, rfl⟩ := List.mem_map.mp hx
          refine ngE hNg ?_
          exact (evt_ok e (W.one e he)).2
        have h2 := hA.units (k := 10) (by decide)
        lia
    · rfl
    have hnames : ∀ l : List Str, okEs (l.map V.str) = true ∧ deeps (l.map V.str) ≤ 0 := fun l => ⟨okEs_of fun x hx => by obtain ⟨y, _, rfl⟩ := List.mem_map.mp hx; rfl, deeps_of fun x hx => by obtain ⟨y, _, rfl⟩ := List.mem_map.mp hx; exact Nat.le_refl _⟩
    have hun := hA.units (k := 20) (by decide)
    have evAtT : ∀ {F ρ x1 x2 p1 p2 p3 p4 p5 p6} {k : Nat} {e : Evt}, evs[k]? = some e → ((x1 : Str), Sl.imm (.lst (evs.map Evt.v))) ∈ ρ → ((x2 : Str), Sl.imm (.int (k : Int))) ∈ ρ → (x1 == ("__debug__" : Str)) = false → (x2 == ("__debug__" : Str)) = false → (∀ o v, subscripted (.Name x2 p2) false o v = operate [o, v] (getItem o v)) → (∀ o v, subscripted (.Constant (.int 0) p4 p5) false o v = operate [o, v] (getItem o v)) →
        Ev g A F ρ (.Subscript (.Subscript (.Name x1 p1) (.Name x2 p2) p3) (.Constant (.int 0) p4 p5) p6) e.fn.v := fun {F ρ x1 x2 p1 p2 p3 p4 p5 p6 k e} he h1 h2 d1 d2 s1 s2 => by
      have hk : k < evs.length := (List.getElem?_eq_some_iff.mp he).1
      exact Ev.itemTI (j := 0) (k := 0) (xs := [e.fn.v, e.en.v]) (Ev.cast (d := e.v) (Ev.itemI (k := k) (Ev.name h1 d1) (Ev.name h2 d2) rfl (by rw [List.getElem?_map, he]; rfl) (by lia) s1) rfl) Ev.int rfl rfl (by decide) s2
    refine X.forR (a := 0) (b := evs.length) "%i" "%s" hh ?_ (by decide) (by decide) (by lia) (by lia) (by walk_at "loc") (fun zz => [("total", .imm (.int total)), ("events", .imm (.lst (evs.map Evt.v))), ("keys", .imm (.lst (keys.map keyV))), ("names", .imm (.lst (S.names.map .str))), ("steps", .imm (.lst (S.steps.map Ent.v))), ("behind", .imm (.lst (S.behind.map .tup))), ("ahead", .imm (.lst (S.ahead.map .tup)))]) (fun zz => True) (by decide) (fun zz => by walk_at "apart") trivial (by walk_at "sub") ?_ ?_ (by intro _; rfl)
    · refine Ev.range1 H (Ev.cast (d := .int (evs.map Evt.v).length) (by walk_at "go"; all_goals (rw [hvl]; lia)) (by rw [hvl])) (by kernel_rfl!) (by kernel_rfl!) (by rfl)
    · intro k hk _ hid₁ hid₂
      rw [show (0 : Int) + (k : Int) = k from Int.zero_add _]
      have hk' : k < evs.length := sub0 hk
      obtain ⟨e, he⟩ : ∃ e, evs[k]? = some e := ⟨_, List.getElem?_eq_getElem hk'⟩
      refine ngI fun hNg => ?_
      obtain ⟨x, hx1, hxl, hx2, hx3⟩ := W.ledEq k e he
      refine ngE hNg ?_
      rw [← hS] at hx1
      have hem : e ∈ evs := List.mem_of_getElem? he
      have hL := W.led k e he
      with_reducible apply X.assignTT (d := x.v)
      case th => exact Ev.itemI (k := k) (by walk_at "go") (by walk_at "go") rfl (by rw [List.getElem?_map, hx1]; rfl) (by lia) (by intro _ _; rfl)
      case ta =>
        refine Asg.tup (ds := [.int x.cc, .int x.nc, .int x.tt, .int x.ct, .dct (calV x.cal)]) hh (.cons (.cons (.cons (.cons (.cons .nil))))) (.cons (.cons (.cons (.cons (.cons .nil))))) ?_
        intro x hx
        simp only [List.mem_cons, List.not_mem_nil, or_false] at hx
        rcases hx with rfl | rfl | rfl | rfl | rfl <;> walk_at "loc"
      case ts => walk_at "prop"
      case tw => walk_at "prop"
      case tk =>
      have hcl : (calV x.cal).length = x.cal.length := List.length_map _
      with_reducible apply X.ifE (b := false)
      · refine Tr.cmp (d₁ := .tup [.tup [.int x.cc, .int x.nc, .int x.tt, .int x.ct], .lst (itemsV (calV x.cal))]) (d₂ := .tup [.tup [.int x.cc, .int x.nc, .int x.tt, .int x.ct], .lst (itemsV (calV x.cal))]) ?_ ?_ (Cmp.neT ?_ ?_) (by rfl)
        · refine Ev.tuple (.cons (by walk_at "go") (.cons ?_ .nil (by rfl)) (by rfl)) (Nat.le_of_ble_eq_true rfl)
          exact Ev.listItems hh (EvV.buiK (v := .type "list") H (by kernel_rfl!) (by kernel_rfl!) (by kernel_rfl) (by decide)) (by walk_at "go") (by rw [hcl, sizeLine_eq]; lia) (by rfl) (by rfl) (by rfl)
        · rw [← hx2, ← hx3]
          refine Ev.callFn (EvV.globK (v := .ref 130) H (by kernel_rfl!) (by kernel_rfl)) ?_ (law_ledger (b := b) (p := Wpl k) H w₀ (by rw [List.length_take]; lia) (fun e he => W.four e (List.mem_of_mem_take he)) (hfn e hem) hL.hd hL.hp) I (hA.le (by decide)) (by rfl) (by rfl)
          refine .cons ?_ (.cons (evAtT he (by walk_at "mem") (by walk_at "mem") (by decide) (by decide) (by intro _ _; rfl) (by intro _ _; rfl)) .nil (by rfl)) (by rfl)
          refine (EvF.ev (EvF.slice (l := none) (u := some ((k : Int) + 1)) (by walk_at "go") .none (.some (by walk_at "go")) (by rw [hvl, sizeLine_eq]; lia))).cast ?_
          rw [pick_to _ (by lia), List.map_take, show ((k : Int) + 1).toNat = k + 1 by lia]
        · exact (entV_ok x).1
        · exact Nat.lt_of_le_of_lt (Nat.add_le_add_left (Nat.succ_le_succ (entV_ok x).2) _) (hA.units (k := 6) (by decide))
      · rfl
      with_reducible apply X.nil
      refine ⟨trivial, ?_⟩
      walk_at "sub"
    · intro _
      have hlast : ∀ k ∈ lastsOf evs, k < evs.length := fun k hk => List.mem_range.mp (List.mem_filter.mp hk).1
      have hlastl : (lastsOf evs).length ≤ 6 := Nat.le_trans (List.length_filter_le _ _) (by rw [List.length_range]; exact hevn)
      have hrl : (rowsOf evs).length = (lastsOf evs).length := List.length_map _
      refine X.assignC (as := List.range evs.length) (enc := fun k : Nat => .int (k : Int)) (p := fun k => ((evs.drop (k + 1)).filter fun o => fnEq o.fn (evs.getD k evt0).fn).isEmpty) (f := fun k : Nat => .int (k : Int)) (fr := [("events", .lst (evs.map Evt.v))]) ?c1 ?c2 (CompOk.of (by kernel_rfl!)) ?c3 ?c4 ?c5 ?c6 ?c7 ?c8 ?c9 ?c10
      case c1 => walk_at "prop"
      case c2 => walk_at "loc"
      case c3 => walk_at "frs"
      case c4 => exact Src.rangeN hh (Ev.range1 H (Ev.cast (d := .int (evs.map Evt.v).length) (by walk_at "go"; all_goals (rw [hvl]; lia)) (by rw [hvl])) (by kernel_rfl!) (by kernel_rfl!) (by rfl)) (by lia)
      case c5 => rw [List.length_range, sizeLine_eq]; lia
      case c6 =>
        intro L cells C U' s' w' hC k hk
        have hk' := List.mem_range.mp hk
        have he : evs[k]? = some (evs.getD k evt0) := by rw [List.getD_eq_getElem?_getD, List.getElem?_eq_getElem hk']; rfl
        refine CTurn.nm (.inr (hC "k" (by decide))) (by decide) (by walk_at "cne") (Tests.one ?_) fun zz => ?_
        · show Tr _ _ _ [(("k" : Str), Sl.imm (.int (k : Int))), (("events" : Str), Sl.imm (.lst (evs.map Evt.v)))] _ _
          refine Tr.cast (d := (((evs.drop (k + 1)).filter fun o => fnEq o.fn (evs.getD k evt0).fn).map Evt.v).isEmpty) ?_ (by rw [List.isEmpty_map])
          refine Tr.cmp (EvF.ev ?_) (EvF.ev (EvF.list .nil (Nat.zero_le _))) (Cmp.eqNil hA.units0) (by rfl)
          refine EvF.comp (as := evs.drop (k + 1)) (enc := Evt.v) (p := fun o => fnEq o.fn (evs.getD k evt0).fn) (f := Evt.v) (fr := [("events", .lst (evs.map Evt.v)), ("k", .int (k : Int))]) (CompOk.of (by kernel_rfl!)) (by walk_at "frs") ?_ ?_ ?_ (by intro _; rfl)
          · refine Src.list hh (Ev.cast (d := .lst ((evs.map Evt.v).drop (k + 1))) ?_ (by rw [List.map_drop])) (.inl ⟨_, _, rfl⟩)
            refine (EvF.ev (EvF.slice (l := some ((k : Int) + 1)) (u := none) (by walk_at "go") (.some (by walk_at "go")) .none (by rw [hvl, sizeLine_eq]; lia))).cast ?_
            rw [pick_from _ (by lia), show ((k : Int) + 1).toNat = k + 1 by lia]
          · rw [List.length_drop, sizeLine_eq]; lia
          · intro L2 cells2 C2 U2 s2 w2 hC2 o ho
            refine CTurn.nm (.inl (by kernel_rfl!)) (by decide) (by walk_at "cne") (Tests.one ?_) fun zz => ?_
            · show Tr _ _ _ [(("one" : Str), Sl.imm o.v), (("events" : Str), Sl.imm (.lst (evs.map Evt.v))), (("k" : Str), Sl.imm (.int (k : Int)))] _ _
              refine Tr.cmp (d₁ := o.fn.v) (d₂ := (evs.getD k evt0).fn.v) (Ev.itemTI (j := 0) (k := 0) (xs := [o.fn.v, o.en.v]) (Ev.cast (d := o.v) (Ev.name (by walk_at "mem") (by decide)) rfl) Ev.int rfl rfl (by decide) (by intro _ _; rfl)) (evAtT he (by walk_at "mem") (by walk_at "mem") (by decide) (by decide) (by intro _ _; rfl) (by intro _ _; rfl)) (Cmp.eqT hA.units0 rfl rfl) (by rfl)
            · show Ev _ _ _ [(("one" : Str), Sl.imm o.v), (("events" : Str), Sl.imm (.lst (evs.map Evt.v))), (("k" : Str), Sl.imm (.int (k : Int)))] _ _
              exact Ev.name (by walk_at "mem") (by decide)
        · show Ev _ _ _ [(("k" : Str), Sl.imm (.int (k : Int))), (("events" : Str), Sl.imm (.lst (evs.map Evt.v)))] _ _
          walk_at "go"
      case c7 => intro _; rfl
      case c8 => walk_at "hap"
      case c9 => decide
      case c10 =>
      show X g A _ (Rho.put _ "lasts" (.own ((lastsOf evs).map fun k : Nat => V.int (k : Int)))) _ _
      refine X.freezeL (x := "lasts") (by walk_at "mem") ?_
      refine X.assignC (as := lastsOf evs) (enc := fun k : Nat => .int (k : Int)) (p := fun zz => true) (f := fun k : Nat => .tup (rowAt evs (evs.getD k evt0).fn)) (fr := [("events", .lst (evs.map Evt.v))]) ?d1 ?d2 (CompOk.of (by kernel_rfl!)) ?d3 ?d4 ?d5 ?d6 ?d7 ?d8 ?d9 ?d10
      case d1 => walk_at "prop"
      case d2 => walk_at "loc"
      case d3 => walk_at "frs"
      case d4 => exact Src.list hh (by walk_at "go") (.inl ⟨_, _, rfl⟩)
      case d5 => rw [sizeLine_eq]; lia
      case d6 =>
        intro L cells C U' s' w' hC k hk
        have hk' := hlast k hk
        have he : evs[k]? = some (evs.getD k evt0) := by rw [List.getD_eq_getElem?_getD, List.getElem?_eq_getElem hk']; rfl
        have hem := List.mem_of_getElem? he
        have hL := W.ledF k _ he
        have I' : ∀ sc, InFn g (compF (mkF (fd g 159) 159 U s) sc L cells C U' s') s' U' := fun sc => InFn.comp w' (Pur.refl w') fun zz u => .inl u
        have hf := hfn _ hem
        refine CTurn.nm (.inl (by kernel_rfl!)) (by decide) (by walk_at "cne") Tests.nil fun zz => ?_
        show Ev _ _ _ [(("k" : Str), Sl.imm (.int (k : Int))), (("events" : Str), Sl.imm (.lst (evs.map Evt.v)))] _ _
        generalize evs.getD k evt0 = e at he hem hL hf
        refine Ev.cast (d := .tup (([.int ((mineOf evs e.fn).map fun x : Ent => x.part 0).sum, .int ((mineOf evs e.fn).map fun x : Ent => x.part 1).sum, .int ((mineOf evs e.fn).map fun x : Ent => x.part 2).sum, .int ((mineOf evs e.fn).map fun x : Ent => x.part 3).sum] ++ [.str e.fn.sp, .int e.fn.ln, .str e.fn.nm]) ++ [.str e.fn.text])) ?_ rfl
        refine Ev.bin (Ev.bin (d₁ := entSum (mineOf evs e.fn)) (d₂ := .tup [.str e.fn.sp, .int e.fn.ln, .str e.fn.nm]) ?_ ?_ (Op.catT (by simp) (by simp) (Nat.le_of_ble_eq_true rfl))) (Ev.tuple (ds := [.str e.fn.text]) (.cons ?_ .nil (by rfl)) (Nat.le_of_ble_eq_true rfl)) (Op.catT (by simp) (by simp) (Nat.le_of_ble_eq_true rfl))
        · refine Ev.itemTI (j := 0) (k := 0) (xs := [entSum (mineOf evs e.fn), .lst ((Wpf k).map fun i => .tup ((ledRows b (mineOf evs e.fn) e.fn.text).getD i led0).tl)]) ?_ Ev.int rfl rfl (by decide) (by intro _ _; rfl)
          refine Ev.callFn (EvV.globK (v := .ref 130) H (by kernel_rfl!) (by kernel_rfl)) ?_ (law_ledger (b := b) (p := Wpf k) H w' (by lia) W.four hf hL.hd hL.hp) (I' _) (hA.le (by decide)) (by rfl) (by rfl)
          exact .cons (Ev.name (d := .lst (evs.map Evt.v)) (by walk_at "mem") (by decide)) (.cons (evAtT he (by walk_at "mem") (by walk_at "mem") (by decide) (by decide) (by intro _ _; rfl) (by intro _ _; rfl)) .nil (by rfl)) (by rfl)
        · exact evAtT he (by walk_at "mem") (by walk_at "mem") (by decide) (by decide) (by intro _ _; rfl) (by intro _ _; rfl)
        · refine Ev.callFn (EvV.globK (v := .ref 137) H (by kernel_rfl!) (by kernel_rfl)) ?_ (law_text H w' hf.1 hf.2.1 hf.2.2) (I' _) (hA.le (by decide)) (by rfl) (by rfl)
          exact .cons (evAtT he (by walk_at "mem") (by walk_at "mem") (by decide) (by decide) (by intro _ _; rfl) (by intro _ _; rfl)) .nil (by rfl)
      case d7 => intro _; rfl
      case d8 => walk_at "hap"
      case d9 => decide
      case d10 =>
      have erows : (((lastsOf evs).filter fun zz => true).map fun k : Nat => V.tup (rowAt evs (evs.getD k evt0).fn)) = (rowsOf evs).map V.tup := by rw [PyProof.Rows.filter_const_true, rowsOf, List.map_map]; rfl
      rw [erows]
      obtain ⟨rows, hrows⟩ : ∃ r, r = rowsOf evs := ⟨_, rfl⟩
      rw [← hrows]
      refine X.freezeL (x := "rows") (by walk_at "mem") ?_
      have hrn : rows.length ≤ 6 := by rw [hrows, hrl]; exact hlastl
      have hR := W.r8
      rw [← hrows] at hR
      have r7 : ∀ r ∈ rows, r[7]? = some (.str (strOf (r.getD 7 .none))) ∧ (∃ i : Int, r[1]? = some (.int i) ∧ intOf (r.getD 1 .none) = i ∧ i.natAbs ≤ 1000) ∧ (strOf (r.getD 7 .none)).length ≤ 300 := fun r hr => by
        rw [hrows] at hr
        refine ngI fun hNg => ?_
        obtain ⟨k, hk, rfl⟩ := List.mem_map.mp hr
        refine ngE hNg ?_
        have he : evs[k]? = some (evs.getD k evt0) := by rw [List.getD_eq_getElem?_getD, List.getElem?_eq_getElem (hlast k hk)]; rfl
        have hf := hfn _ (List.mem_of_getElem? he)
        exact ⟨rfl, ⟨_, rfl, rfl, W.nc k _ he⟩, text_len hf.1 hf.2.1 hf.2.2⟩
      have hN := W.namesOk
      have hNe := W.namesEq
      rw [← hrows, ← hS] at hNe
      rw [← hrows] at hN
      have hrm : (rows.map V.tup).length = rows.length := List.length_map _
      with_reducible apply X.ifE (b := false)
      · refine Tr.cmp (d₁ := .lst (S.names.map V.str)) (d₂ := .lst (S.names.map V.str)) (by walk_at "go") (EvF.ev (EvF.cast (d := Wpn.map fun i => V.str ((rows.map fun r => strOf (r.getD 7 .none)).getD i "")) ?_ ?_)) (Cmp.neL (hnames _).1 ?_) (by rfl)
        · refine EvF.callB (ds := [.lst ((rows.map fun r => strOf (r.getD 7 .none)).map V.str)]) (EvV.buiK (v := .builtin "sorted") H (by kernel_rfl!) (by kernel_rfl!) (by kernel_rfl) (by decide)) ?_ (CallF.sortedS (by rw [List.length_map]; lia) (by rw [List.length_map]; exact hN)) (by rfl) (by rfl)
          refine .cons (EvF.ev (EvF.cast (d := (rows.filter fun zz => true).map fun r => .str (strOf (r.getD 7 .none))) ?_ (by rw [PyProof.Rows.filter_const_true, List.map_map]; rfl))) .nil (by rfl)
          refine EvF.comp (as := rows) (enc := .tup) (p := fun zz => true) (f := fun r => .str (strOf (r.getD 7 .none))) (fr := []) (CompOk.of (by kernel_rfl!)) (by walk_at "frs") (Src.list hh (by walk_at "go") (.inl ⟨_, _, rfl⟩)) (by rw [sizeLine_eq]; lia) ?_ (by intro _; rfl)
          intro L cells C U' s' w' hC r hr
          refine CTurn.nm (.inl (by kernel_rfl!)) (by decide) (by walk_at "cne") Tests.nil fun zz => ?_
          show Ev _ _ _ [(("row" : Str), Sl.imm (.tup r))] _ _
          exact Ev.itemTI (j := 7) (k := 7) (by walk_at "go") Ev.int rfl (r7 r hr).1 (by decide) (by intro _ _; rfl)
        · rw [hNe, List.map_map]; rfl
        · have := (hnames S.names).2; lia
      · rfl
      have hrt : ∀ t, (rowsT evs t).length = rows.length ∧ ∀ r ∈ rowsT evs t, r ∈ rows := fun t => by
        unfold rowsT; rw [← hrows]; split
        · exact ⟨rfl, fun zz h => h⟩
        · exact ⟨List.length_reverse, fun r h => List.mem_reverse.mp h⟩
      have told := W.told
      have wants := W.wants
      rw [← hS] at told wants
      rw [← hrows] at wants
      have hls : ∀ t, t < 2 → (listing S t).length = rows.length ∧ ∀ r ∈ listing S t, r ∈ rows := fun t ht => by
        refine ngI fun hNg => ?_
        obtain ⟨h1, h2⟩ := told t ht
        refine ngE hNg ?_
        rw [← h2]
        refine ⟨by rw [List.length_map, h1.1.length_eq, List.length_range, (hrt t).1], fun r hr => ?_⟩
        refine ngI fun hNg => ?_
        obtain ⟨i, hi, rfl⟩ := List.mem_map.mp hr
        refine ngE hNg ?_
        have := h1.lt i hi
        rw [List.getD_eq_getElem?_getD, List.getElem?_eq_getElem this]
        exact (hrt t).2 _ (List.getElem_mem _)
      refine X.forR (a := 0) (b := 2) "%i" "%s" hh (by walk_at "go") (by decide) (by decide) (by decide) (by decide) (by walk_at "loc") (fun zz => [("total", .imm (.int total)), ("keys", .imm (.lst (keys.map keyV))), ("behind", .imm (.lst (S.behind.map .tup))), ("ahead", .imm (.lst (S.ahead.map .tup))), ("rows", .imm (.lst (rows.map .tup)))]) (fun zz => True) (by decide) (fun zz => by walk_at "apart") trivial (by walk_at "sub") ?_ ?_ (by intro _; rfl)
      · intro t ht _ hid₁ hid₂
        rw [show (0 : Int) + (t : Int) = t from Int.zero_add _]
        have ht' : t < 2 := by lia
        refine ngI fun hNg => ?_
        obtain ⟨hp, hte⟩ := told t ht'
        refine ngE hNg ?_
        refine ngI fun hNg => ?_
        obtain ⟨hl1, hl2⟩ := hls t ht'
        refine ngE hNg ?_
        obtain ⟨lst, hlst⟩ : ∃ l, l = listing S t := ⟨_, rfl⟩
        have wnt := wants t ht'
        rw [← hlst] at hte hl1 hl2 wnt
        have hlm : (lst.map V.tup).length = lst.length := List.length_map _
        with_reducible apply X.assignAs (d := .lst (lst.map .tup)) (d' := .lst ((Wps t).map fun i => .tup ((rowsT evs t).getD i [])))
        case hd => rw [← hte, List.map_map]; rfl
        case hs => walk_at "prop"
        case hx => walk_at "loc"
        case h =>
          refine Ev.callFn (EvV.globK (v := .ref 142) H (by kernel_rfl!) (by kernel_rfl)) ?_ (law_sorted (p := Wps t) (rows := rowsT evs t) (keys := keys) H w₀ ⟨fun r hr => hR.1 r ((hrt t).2 r hr), fun r hr r' hr' => hR.2 r ((hrt t).2 r hr) r' ((hrt t).2 r' hr')⟩ hkeys (by rw [(hrt t).1]; lia) (by lia) hp) I (hA.le (by decide)) (by rfl) (by rfl)
          refine .cons ?_ (.cons (Ev.name (d := .lst (keys.map keyV)) (by walk_at "mem") (by decide)) .nil (by rfl)) (by rfl)
          with_reducible apply Ev.ifte (b := ((t : Int) == 0))
          · walk_at "go"
          · intro hb
            have : t = 0 := by simpa using hb
            unfold rowsT; rw [if_pos this, ← hrows]
            walk_at "go"
          · intro hb
            have : ¬ t = 0 := fun e => by rw [e] at hb; simp at hb
            unfold rowsT; rw [if_neg this, ← hrows, List.map_reverse]
            exact EvF.ev (EvF.rev (by walk_at "go") (.some (Ev.neg Ev.int)) (by rw [hrm, sizeLine_eq]; lia))
        have linE : ∀ {F : Fx} {ρ : Rho} {r : List V} {k1 k2 k3 k4 k5 p1 p2 p3 p4 p5 p6 p7 p8 p9 p10 p11 p12 p13 p14 p15}, r ∈ rows → (("row" : Str), Sl.imm (.tup r)) ∈ ρ → F.env.kindOf "str" = some .globalImplicit →
            starEach [.Subscript (.Name "row" p4) (.Constant (.int 1) k2 p5) p6] F.env = [(false, eval (.Subscript (.Name "row" p4) (.Constant (.int 1) k2 p5) p6) F.env)] → (∀ o v, subscripted (.Constant (.int 1) k2 p5) false o v = operate [o, v] (getItem o v)) → (∀ o v, subscripted (.Constant (.int 7) k4 p12) false o v = operate [o, v] (getItem o v)) →
            Ev g A F ρ (.BinOp (.BinOp (.BinOp (.BinOp (.Constant (.str tabS) k1 p1) .Add (.Call (.Name "str" p2) [.Subscript (.Name "row" p4) (.Constant (.int 1) k2 p5) p6] [] p7) p8) .Add (.Constant (.str spcS) k3 p9) p10) .Add (.Subscript (.Name "row" p11) (.Constant (.int 7) k4 p12) p13) p14) .Add (.Constant (.str nlS) k5 p15) p3) (.str (lineOf r)) := fun {F ρ r k1 k2 k3 k4 k5 p1 p2 p3 p4 p5 p6 p7 p8 p9 p10 p11 p12 p13 p14 p15} hr hm hk hst hs1 hs2 => by
          refine ngI fun hNg => ?_
          obtain ⟨h7, ⟨i, h1, h2, h3⟩, hl7⟩ := r7 r hr
          refine ngE hNg ?_
          have hL : (Str.ofString (toString i)).length ≤ 13 := by
            have e := int_text_length_le10 (k := 12) (a := i) (by decide) (Nat.lt_of_le_of_lt h3 (by decide))
            rw [PySem.ofString_length]; lia
          have l1 : tabS.length = 1 := by decide
          have l2 : spcS.length = 1 := by decide
          have l3 : nlS.length = 1 := by decide
          rw [lineOf, h2]
          refine Ev.bin (Ev.bin (Ev.bin (Ev.bin Ev.str (Ev.strI H (a := i) (Ev.itemTI (j := 1) (k := 1) (Ev.name hm (by decide)) Ev.int rfl h1 (by decide) hs1) ?_ hk (by kernel_rfl!) hst) (Op.cat ?_)) Ev.str (Op.cat ?_)) (Ev.itemTI (j := 7) (k := 7) (Ev.name hm (by decide)) Ev.int rfl h7 (by decide) hs2) (Op.cat ?_)) Ev.str (Op.cat ?_)
          · have : i.natAbs.log2 ≤ i.natAbs := Nat.log2_le_self _
            lia
          all_goals (simp only [PySem.Str.length_append, sizeLine_eq]; lia)
        have hlineL : ∀ l ∈ lst.map lineOf, l.length ≤ 400 := fun l hl => by
          refine ngI fun hNg => ?_
          obtain ⟨r, hr, rfl⟩ := List.mem_map.mp hl
          refine ngE hNg ?_
          refine ngI fun hNg => ?_
          obtain ⟨_, ⟨i, _, h2, h3⟩, h4⟩ := r7 r (hl2 r hr)
          refine ngE hNg ?_
          exact line_len (by rw [h2]; exact h3) h4
        refine X.assignC (as := lst) (enc := .tup) (p := fun zz => true) (f := fun r => .str (lineOf r)) (fr := []) ?e1 ?e2 (CompOk.of (by kernel_rfl!)) ?e3 ?e4 ?e5 ?e6 ?e7 ?e8 ?e9 ?e10
        case e1 => walk_at "prop"
        case e2 => walk_at "loc"
        case e3 => walk_at "frs"
        case e4 => exact Src.list hh (by walk_at "go") (.inl ⟨_, _, rfl⟩)
        case e5 => rw [sizeLine_eq]; lia
        case e6 =>
          intro L cells C U' s' w' hC r hr
          refine CTurn.nm (.inl (by kernel_rfl!)) (by decide) (by walk_at "cne") Tests.nil fun zz => ?_
          show Ev _ _ _ [(("row" : Str), Sl.imm (.tup r))] _ _
          exact linE (hl2 r hr) (by walk_at "mem") (by kernel_rfl!) (by rfl) (by intro _ _; rfl) (by intro _ _; rfl)
        case e7 => intro _; rfl
        case e8 => walk_at "hap"
        case e9 => decide
        case e10 =>
        rw [PyProof.Rows.filter_const_true, show (lst.map fun r => V.str (lineOf r)) = (lst.map lineOf).map V.str by rw [List.map_map]; rfl]
        obtain ⟨lines, hlines⟩ : ∃ l, l = lst.map lineOf := ⟨_, rfl⟩
        rw [← hlines] at hlineL wnt ⊢
        have hln : lines.length = rows.length := by rw [hlines, List.length_map, hl1]
        have hlnm : (lines.map V.str).length = lines.length := List.length_map _
        refine X.freezeL (x := "lines") (by walk_at "mem") ?_
        with_reducible apply X.assignAs (d := .str (Txt.join "" lines)) (d' := .str (Txt.join "" lines))
        case hd => rfl
        case hs => walk_at "prop"
        case hx => walk_at "loc"
        case h =>
          refine Ev.join Ev.str (EvF.ev (EvF.cast (d := (lst.filter fun zz => true).map fun r => .str (lineOf r)) ?_ (by rw [PyProof.Rows.filter_const_true, hlines, List.map_map]; rfl))) (join_ok hlineL (by lia)) (by rfl) (by rfl) (by rfl)
          refine EvF.comp (as := lst) (enc := .tup) (p := fun zz => true) (f := fun r => .str (lineOf r)) (fr := []) (CompOk.of (by kernel_rfl!)) (by walk_at "frs") (Src.list hh ?_ (.inl ⟨_, _, rfl⟩)) (by rw [sizeLine_eq]; lia) ?_ (by intro _; rfl)
          · refine Ev.itemTI (j := t) (k := t) (xs := [.lst (S.behind.map .tup), .lst (S.ahead.map .tup)]) (by walk_at "go") (by walk_at "go") rfl ?_ (by lia) (by intro _ _; rfl)
            rw [hlst]
            (rcases (by lia : t = 0 ∨ t = 1) with h0 | h0) <;> (rw [h0]; rfl)
          · intro L cells C U' s' w' hC r hr
            refine CTurn.nm (.inl (by kernel_rfl!)) (by decide) (by walk_at "cne") Tests.nil fun zz => ?_
            show Ev _ _ _ [(("row" : Str), Sl.imm (.tup r))] _ _
            exact linE (hl2 r hr) (by walk_at "mem") (by kernel_rfl!) (by rfl) (by intro _ _; rfl) (by intro _ _; rfl)
        obtain ⟨report, hrep⟩ : ∃ r, r = Txt.join "" lines := ⟨_, rfl⟩
        rw [← hrep]
        have hrepl : report.length ≤ 1000000 := by
          have h1 := StrLaws.join_length_le "" lines
          have h2 : ∀ l : List Str, (∀ x ∈ l, x.length ≤ 400) → (l.map (·.length)).sum ≤ 400 * l.length := fun l => by
            induction l with
            | nil => intro _; exact Nat.zero_le _
            | cons x l ih =>
              intro h
              have a := ih fun y hy => h y (.tail _ hy)
              have b := h x (.head _)
              simp only [List.map_cons, List.sum_cons, List.length_cons]; lia
          have h3 := h2 lines hlineL
          have h4 : ("" : Str).length = 0 := by decide
          rw [h4, Nat.mul_zero] at h1
          have h5 : report.length ≤ (lines.map (·.length)).sum := by rw [hrep]; show (Builtin.Str.glued "" lines).length ≤ _; rw [StrLaws.glued_eq_join]; exact h1
          lia
        obtain ⟨bb, hbb⟩ : ∃ x, x = ((t : Int) == total.fmod 2) := ⟨_, rfl⟩
        rw [← hbb] at wnt
        refine X.forL (xs := (lawWants rows.length total bb).map wantV) "%w" "%v" hh ?_ (.inr ⟨_, _, _, rfl, fun d hd => ?_⟩) (fun zz => [("%i", hid₁), ("%s", hid₂), ("total", .imm (.int total)), ("keys", .imm (.lst (keys.map keyV))), ("behind", .imm (.lst (S.behind.map .tup))), ("ahead", .imm (.lst (S.ahead.map .tup))), ("rows", .imm (.lst (rows.map .tup))), ("lines", .imm (.lst (lines.map .str))), ("report", .imm (.str report))]) (fun zz => True) (by decide) (fun zz => by walk_at "apart") trivial (by walk_at "sub") ?_ ?_ (by intro _; rfl)
        · refine Ev.callFn (EvV.globK (v := .ref 147) H (by kernel_rfl!) (by kernel_rfl)) ?_ (law_wants (n := rows.length) (total := total) (all := bb) H w₀ (by lia)) I (hA.le (by decide)) (by rfl) (by rfl)
          refine .cons (Ev.cast (d := .int (lines.map V.str).length) (by walk_at "go"; all_goals (rw [hlnm]; lia)) (by rw [hlnm, hln])) (.cons (Ev.name (d := .int total) (by walk_at "mem") (by decide)) (.cons ?_ .nil (by rfl)) (by rfl)) (by rfl)
          rw [hbb]
          walk_at "go"
        · obtain ⟨q, _, rfl⟩ := List.mem_map.mp hd
          exact ⟨_, rfl⟩
        · intro k d hd _ hid₃ hid₄
          rw [List.getElem?_map] at hd
          cases hq : (lawWants rows.length total bb)[k]? with
          | none => rw [hq] at hd; cases hd
          | some q =>
            rw [hq] at hd; cases hd
            have hqm : q ∈ lawWants rows.length total bb := List.mem_of_getElem? hq
            refine ngI fun hNg => ?_
            obtain ⟨hq1, hq2, hq3⟩ := wants_ok q hqm
            refine ngE hNg ?_
            refine ngI fun hNg => ?_
            obtain ⟨ws, hw1, hw2, hw3, hw4, hw5⟩ := wnt q hqm
            refine ngE hNg ?_
            have hpl : (natsV q.1).length = q.1.length := List.length_map _
            refine ⟨_, Asg.tup hh (.cons (.cons .nil)) (ds := [.lst (natsV q.1), .lst (boolsV q.2)]) (.cons (.cons .nil)) ?_, ?_⟩
            · intro x hx
              simp only [List.mem_cons, List.not_mem_nil, or_false] at hx
              rcases hx with rfl | rfl <;> walk_at "loc"
            have gi : ∀ k, k ≤ q.1.length → (boolsV q.2)[k]? = some (.bool (q.2.getD k false)) := fun k hk => by
              rw [boolsV, List.getElem?_map, List.getD_eq_getElem?_getD, List.getElem?_eq_getElem (by lia)]; rfl
            with_reducible apply X.assignAs (d := .str (wantAt lines q 0)) (d' := .str (wantAt lines q 0))
            case hd => rfl
            case hs => walk_at "prop"
            case hx => walk_at "loc"
            case h =>
              with_reducible apply Ev.ifte (b := q.2.getD 0 false)
              · exact Tr.val (Ev.itemI (j := 0) (k := 0) (Ev.name (d := .lst (boolsV q.2)) (by walk_at "mem") (by decide)) Ev.int rfl (gi 0 (Nat.zero_le _)) (by decide) (by intro _ _; rfl)) Tru.bool (by rfl)
              · intro e; rw [wantAt, gapS, if_pos e]; exact Ev.str
              · intro e; rw [wantAt, gapS, if_neg (by rw [e]; decide)]; exact Ev.str
            refine X.forR (a := 0) (b := q.1.length) "%x" "%y" hh ?_ (by decide) (by decide) (by lia) (by lia) (by walk_at "loc") (fun k => [("%w", hid₃), ("%v", hid₄), ("%i", hid₁), ("%s", hid₂), ("total", .imm (.int total)), ("keys", .imm (.lst (keys.map keyV))), ("behind", .imm (.lst (S.behind.map .tup))), ("ahead", .imm (.lst (S.ahead.map .tup))), ("rows", .imm (.lst (rows.map .tup))), ("lines", .imm (.lst (lines.map .str))), ("report", .imm (.str report)), ("picks", .imm (.lst (natsV q.1))), ("gaps", .imm (.lst (boolsV q.2))), ("want", .imm (.str (wantAt lines q k)))]) (fun zz => True) (by decide) (fun zz => by walk_at "apart") trivial (by walk_at "sub") ?_ ?_ (by intro _; rfl)
            · refine Ev.range1 H (Ev.cast (d := .int (natsV q.1).length) (by walk_at "go"; all_goals (rw [hpl]; lia)) (by rw [hpl])) (by kernel_rfl!) (by kernel_rfl!) (by rfl)
            · intro j hj _ hid₅ hid₆
              rw [show (0 : Int) + (j : Int) = j from Int.zero_add _]
              have hj' : j < q.1.length := sub0 hj
              have hpj : (natsV q.1)[j]? = some (.int (q.1.getD j 0 : Nat)) := by
                rw [natsV, List.getElem?_map, List.getD_eq_getElem?_getD, List.getElem?_eq_getElem hj']; rfl
              have hpn : q.1.getD j 0 < lines.length := by
                rw [hln, List.getD_eq_getElem?_getD, List.getElem?_eq_getElem hj']
                exact hq1 _ (List.getElem_mem _)
              have hli : (lines.map V.str)[q.1.getD j 0]? = some (.str (lines.getD (q.1.getD j 0) "")) := by
                exact itemStr lines _ hpn
              have b1 := wantAt_len hlineL (q := q) j
              have b2 : (lines.getD (q.1.getD j 0) "").length ≤ 400 := by
                exact hlineL _ (memD lines _ hpn)
              have b3 := gapS_len (q.2.getD (j + 1) false)
              with_reducible apply X.assignAs (d := .str (wantAt lines q (j + 1))) (d' := .str (wantAt lines q (j + 1)))
              case hd => rfl
              case hs => walk_at "prop"
              case hx => walk_at "loc"
              case h =>
                rw [wantAt]
                refine Ev.bin (d₁ := .str (wantAt lines q j ++ lines.getD (q.1.getD j 0) "")) (d₂ := .str (gapS (q.2.getD (j + 1) false))) (Ev.bin (d₁ := .str (wantAt lines q j)) (d₂ := .str (lines.getD (q.1.getD j 0) "")) (Ev.name (by walk_at "mem") (by decide)) ?_ (Op.cat ?_)) ?_ (Op.cat ?_)
                · refine Ev.itemI (k := q.1.getD j 0) (Ev.name (d := .lst (lines.map V.str)) (by walk_at "mem") (by decide)) (Ev.itemI (k := j) (Ev.name (d := .lst (natsV q.1)) (by walk_at "mem") (by decide)) (Ev.name (d := .int (j : Int)) (by walk_at "mem") (by decide)) rfl hpj (by lia) (by intro _ _; rfl)) rfl hli (by lia) (by intro _ _; rfl)
                · rw [sizeLine_eq]; lia
                · with_reducible apply Ev.ifte (b := q.2.getD (j + 1) false)
                  · exact Tr.val (Ev.itemI (j := (j : Int) + 1) (k := j + 1) (Ev.name (d := .lst (boolsV q.2)) (by walk_at "mem") (by decide)) (Ev.bin (Ev.name (d := .int (j : Int)) (by walk_at "mem") (by decide)) Ev.int Op.add) (by push_cast; rfl) (gi (j + 1) (by lia)) (by lia) (by intro _ _; rfl)) Tru.bool (by rfl)
                  · intro e; rw [gapS, if_pos e]; exact Ev.str
                  · intro e; rw [gapS, if_neg (by rw [e]; decide)]; exact Ev.str
                · simp only [PySem.Str.length_append]; rw [sizeLine_eq]; lia
              with_reducible apply X.nil
              refine ⟨trivial, ?_⟩
              walk_at "sub"
            · intro _
              rw [show ((q.1.length : Int) - 0).toNat = q.1.length by lia]
              have hwl : (wantS lines q).length ≤ 1000000 := by
                have := wantAt_len hlineL (q := q) q.1.length
                unfold wantS; lia
              have hfit : (if hasDots (wantS lines q) = true then ellM report ws else wantS lines q == report) = fits q.1 q.2 rows.length := by rw [hrep]; exact hw5
              with_reducible apply X.ifE (b := (fits q.1 q.2 rows.length != fits q.1 q.2 rows.length))
              · refine Tr.cmp (d₁ := .bool (fits q.1 q.2 rows.length)) (d₂ := .bool (fits q.1 q.2 rows.length)) (Ev.cast (d := .bool (if hasDots (wantS lines q) = true then ellM report ws else wantS lines q == report)) ?_ (by rw [hfit])) ?_ Cmp.isNot (by rfl)
                · refine Ev.callFn (EvV.globK (v := .ref 106) H (by kernel_rfl!) (by kernel_rfl)) ?_ (ellipsis_match (want := wantS lines q) (got := report) (ws := ws) H w₀ hw1 hw2 hwl hrepl hw3 hw4) I (hA.le (by decide)) (by rfl) (by rfl)
                  exact .cons (Ev.name (d := .str (wantAt lines q q.1.length)) (by walk_at "mem") (by decide)) (.cons (Ev.name (d := .str report) (by walk_at "mem") (by decide)) .nil (by rfl)) (by rfl)
                · refine Ev.callFn (EvV.globK (v := .ref 154) H (by kernel_rfl!) (by kernel_rfl)) ?_ (law_fits (picks := q.1) (gaps := q.2) (n := rows.length) H w₀ hq2 (by lia)) I (hA.le (by decide)) (by rfl) (by rfl)
                  refine .cons (Ev.name (d := .lst (natsV q.1)) (by walk_at "mem") (by decide)) (.cons (Ev.name (d := .lst (boolsV q.2)) (by walk_at "mem") (by decide)) (.cons (Ev.cast (d := .int (lines.map V.str).length) (by walk_at "go"; all_goals (rw [hlnm]; lia)) (by rw [hlnm, hln])) .nil (by rfl)) (by rfl)) (by rfl)
              · simp
              with_reducible apply X.nil
              refine ⟨trivial, ?_⟩
              walk_at "sub"
        · intro _
          with_reducible apply X.nil
          refine ⟨trivial, ?_⟩
          walk_at "sub"
      · intro _
        with_reducible apply X.ret
        · walk_at "go"
        · rfl
end
end
section
theorem ltV_as {a b : V} (h : alikeV a b = true) (k : ltV a b = true) : ltV b a = false := by
  rcases alike_inv h with ⟨i, j, rfl, rfl⟩ | ⟨x, y, rfl, rfl⟩
  · exact decide_eq_false (Int.lt_asymm (of_decide_eq_true k))
  · exact decide_eq_false (List.lt_asymm (of_decide_eq_true k))
theorem alike_tr {a b c : V} (h1 : alikeV a b = true) (h2 : alikeV b c = true) : alikeV a c = true := by
  rcases alike_inv h1 with ⟨i, j, rfl, rfl⟩ | ⟨x, y, rfl, rfl⟩ <;> rcases alike_inv h2 with ⟨i', j', e, rfl⟩ | ⟨x', y', e, rfl⟩
  · rfl
  · cases e
  · cases e
  · rfl
theorem ltV_tr {a b c : V} (h1 : alikeV a b = true) (h2 : alikeV b c = true) (k : ltV b a = false) (k' : ltV c b = false) : ltV c a = false := by
  rcases alike_inv h1 with ⟨i, j, rfl, rfl⟩ | ⟨x, y, rfl, rfl⟩ <;> rcases alike_inv h2 with ⟨i', j', e, rfl⟩ | ⟨x', y', e, rfl⟩
  · exact decide_eq_false (Int.not_lt.mpr (Int.le_trans (Int.not_lt.mp (of_decide_eq_false k)) (Int.not_lt.mp (of_decide_eq_false k'))))
  · cases e
  · cases e
  · exact decide_eq_false (List.not_lt.mpr (List.le_trans (List.not_lt.mp (of_decide_eq_false k)) (List.not_lt.mp (of_decide_eq_false k'))))
theorem alike_symm {a b : V} (h : alikeV a b = true) : alikeV b a = true := by
  rcases alike_inv h with ⟨i, j, rfl, rfl⟩ | ⟨x, y, rfl, rfl⟩ <;> rfl
noncomputable def Alike (l r : List V) : Prop := ∀ c < 8, alikeV (l.getD c .none) (r.getD c .none) = true
theorem Alike.symm {l r : List V} (h : Alike l r) : Alike r l := fun c hc => alike_symm (h c hc)
noncomputable def keyLt (q : Nat × Int) (l r : List V) : Bool := if decide (q.2 > 0) = true then ltV (l.getD q.1 .none) (r.getD q.1 .none) else ltV (r.getD q.1 .none) (l.getD q.1 .none)
theorem keyLt_as {q : Nat × Int} (hq : q.1 < 8) {l r : List V} (h : Alike l r) (k : keyLt q l r = true) : keyLt q r l = false := by
  unfold keyLt at k ⊢
  split at k <;> rename_i hd
  · rw [if_pos hd]; exact ltV_as (h _ hq) k
  · rw [if_neg hd]; exact ltV_as (h.symm _ hq) k
theorem keyLt_tr {q : Nat × Int} (hq : q.1 < 8) {a b c : List V} (h1 : Alike a b) (h2 : Alike b c) (k : keyLt q b a = false) (k' : keyLt q c b = false) : keyLt q c a = false := by
  unfold keyLt at k k' ⊢
  split at k <;> rename_i hd
  · rw [if_pos hd] at k' ⊢; exact ltV_tr (h1 _ hq) (h2 _ hq) k k'
  · rw [if_neg hd] at k' ⊢; exact ltV_tr (h2.symm _ hq) (h1.symm _ hq) k' k
noncomputable def keysLt : Keys → List V → List V → Bool
  | [], _, _ => false
  | q :: ks, l, r => keyLt q l r || (!keyLt q r l && keysLt ks l r)
noncomputable def KeysOk (keys : Keys) : Prop := ∀ q ∈ keys, q.1 < 8 ∧ q.2 ≠ 0
theorem KeysOk.tl {q : Nat × Int} {ks : Keys} (h : KeysOk (q :: ks)) : KeysOk ks := fun r hr => h r (.tail _ hr)
theorem cmpK_swap : ∀ {keys : Keys}, KeysOk keys → ∀ {l r : List V}, Alike l r → cmpK keys r l = -cmpK keys l r
  | [], _, _, _, _ => rfl
  | (c, d) :: ks, hk, l, r, h => by
    have ih := cmpK_swap hk.tl h
    have hc := (hk (c, d) (.head _)).1
    rw [cmpK, cmpK]
    cases e1 : ltV (l.getD c .none) (r.getD c .none) with
    | true =>
      rw [ltV_as (h c hc) e1]
      simp
    | false =>
      cases e2 : ltV (r.getD c .none) (l.getD c .none) with
      | true => simp
      | false => simp [ih]
theorem cmpK_lt : ∀ {keys : Keys}, KeysOk keys → ∀ {l r : List V}, Alike l r → (cmpK keys l r < 0 ↔ keysLt keys l r = true)
  | [], _, _, _, _ => by simp [cmpK, keysLt]
  | (c, d) :: ks, hk, l, r, h => by
    have ih := cmpK_lt hk.tl h
    obtain ⟨hc, hd⟩ := hk (c, d) (.head _)
    simp only at hc hd
    rw [cmpK, keysLt]
    unfold keyLt
    by_cases hp : d > 0
    · simp only [hp, decide_true, if_true]
      cases e1 : ltV (l.getD c .none) (r.getD c .none) with
      | true => simp; lia
      | false =>
        cases e2 : ltV (r.getD c .none) (l.getD c .none) with
        | true => simp; lia
        | false => simp [ih]
    · have hp' : decide (d > 0) = false := by simpa using hp
      simp only [hp', Bool.false_eq_true, if_false]
      cases e1 : ltV (l.getD c .none) (r.getD c .none) with
      | true =>
        rw [ltV_as (h c hc) e1]
        simp; lia
      | false =>
        cases e2 : ltV (r.getD c .none) (l.getD c .none) with
        | true => simp; lia
        | false => simp [ih]
theorem keysLt_as : ∀ {keys : Keys}, KeysOk keys → ∀ {l r : List V}, Alike l r → keysLt keys l r = true → keysLt keys r l = false
  | [], _, _, _, _, _ => rfl
  | q :: ks, hk, l, r, h, k => by
    have hq := (hk q (.head _)).1
    rw [keysLt] at k ⊢
    cases e1 : keyLt q l r with
    | true => rw [keyLt_as hq h e1]; simp
    | false =>
      rw [e1] at k
      simp only [Bool.false_or, Bool.and_eq_true, Bool.not_eq_true'] at k
      rw [k.1, keysLt_as hk.tl h k.2]; simp
theorem keysLt_tr : ∀ {keys : Keys}, KeysOk keys → ∀ {a b c : List V}, Alike a b → Alike b c → keysLt keys b a = false → keysLt keys c b = false → keysLt keys c a = false
  | [], _, _, _, _, _, _, _, _ => rfl
  | q :: ks, hk, a, b, c, h1, h2, k, k' => by
    have hq := (hk q (.head _)).1
    have h3 : Alike a c := fun i hi => alike_tr (h1 i hi) (h2 i hi)
    rw [keysLt] at k k' ⊢
    simp only [Bool.or_eq_false_iff, Bool.and_eq_false_iff, Bool.not_eq_false'] at k k' ⊢
    refine ⟨keyLt_tr hq h1 h2 k.1 k'.1, ?_⟩
    cases e : keyLt q a c with
    | true => exact .inl rfl
    | false =>
      have e1 : keyLt q a b = false := keyLt_tr hq h2 h3.symm k'.1 e
      have e2 : keyLt q b c = false := keyLt_tr hq (a := c) (b := a) (c := b) h3.symm h1 e k.1
      rw [e1] at k; rw [e2] at k'
      exact .inr (keysLt_tr hk.tl h1 h2 (k.2.resolve_left nofun) (k'.2.resolve_left nofun))
theorem cmpK_self {keys : Keys} {l : List V} (hk : KeysOk keys) (h : Alike l l) : cmpK keys l l = 0 := by
  have := cmpK_swap hk h; lia
end
section
theorem filter_len_le {α : Type} {p p' : α → Bool} : ∀ (l : List α), (∀ o ∈ l, p o = true → p' o = true) → (l.filter p).length ≤ (l.filter p').length
  | [], _ => Nat.le_refl _
  | x :: l, h => by
    have ih := filter_len_le l fun o ho => h o (.tail _ ho)
    rw [List.filter_cons, List.filter_cons]
    cases e : p x with
    | true => rw [h x (.head _) e]; simp; exact ih
    | false =>
      cases p' x with
      | true => simp; lia
      | false => simp; exact ih
theorem filter_len_lt {α : Type} {p p' : α → Bool} : ∀ (l : List α), (∀ o ∈ l, p o = true → p' o = true) → ∀ x ∈ l, p' x = true → p x = false → (l.filter p).length < (l.filter p').length
  | y :: l, h, x, hx, h1, h2 => by
    have ih := filter_len_le l fun o ho => h o (.tail _ ho)
    rw [List.filter_cons, List.filter_cons]
    rcases List.mem_cons.mp hx with rfl | hx
    · rw [h1, h2]; simp; lia
    · have ih := filter_len_lt l (fun o ho => h o (.tail _ ho)) x hx h1 h2
      cases e : p y with
      | true => rw [h y (.head _) e]; simp; exact ih
      | false =>
        cases p' y with
        | true => simp; lia
        | false => simp; exact ih
theorem less_iff {rows : List (List V)} (hR : Rows8 rows) {r r' : List V} (h1 : r ∈ rows) (h2 : r' ∈ rows) {c : Nat} (hc : c < 8) : lessAt rows r c < lessAt rows r' c ↔ ltV (r.getD c .none) (r'.getD c .none) = true := by
  have al : ∀ x ∈ rows, ∀ y ∈ rows, alikeV (x.getD c .none) (y.getD c .none) = true := fun x hx y hy => hR.2 x hx y hy c hc
  have le : ∀ x ∈ rows, ∀ y ∈ rows, ltV (x.getD c .none) (y.getD c .none) = false → ∀ o ∈ rows, ltV (o.getD c .none) (y.getD c .none) = true → ltV (o.getD c .none) (x.getD c .none) = true := fun x hx y hy h o ho k => by
    cases e : ltV (o.getD c .none) (x.getD c .none) with
    | true => rfl
    | false => rw [ltV_tr (al y hy x hx) (al x hx o ho) h e] at k; cases k
  unfold lessAt
  constructor
  · intro h
    cases e : ltV (r.getD c .none) (r'.getD c .none) with
    | true => rfl
    | false => exact absurd (filter_len_le rows (le r h1 r' h2 e)) (by lia)
  · intro h
    refine filter_len_lt rows (le r' h2 r h1 (ltV_as (al r h1 r' h2) h)) r h1 h ?_
    cases e : ltV (r.getD c .none) (r.getD c .none) with
    | false => rfl
    | true => rw [ltV_as (al r h1 r h1) e] at e; cases e
theorem rank_iff {rows : List (List V)} (hR : Rows8 rows) {r r' : List V} (h1 : r ∈ rows) (h2 : r' ∈ rows) {q : Nat × Int} (hq : q.1 < 8) : rankAt rows r q < rankAt rows r' q ↔ keyLt q r r' = true := by
  unfold rankAt keyLt
  split
  · rw [← less_iff hR h1 h2 hq]; lia
  · rw [← less_iff hR h2 h1 hq]; lia
theorem rank_lex {rows : List (List V)} (hR : Rows8 rows) {r r' : List V} (h1 : r ∈ rows) (h2 : r' ∈ rows) : ∀ {keys : Keys}, KeysOk keys → lexI (rankOf rows keys r) (rankOf rows keys r') = keysLt keys r r'
  | [], _ => rfl
  | q :: ks, hk => by
    have hq := (hk q (.head _)).1
    have ih := rank_lex hR h1 h2 hk.tl
    have a := rank_iff hR h1 h2 hq
    have b := rank_iff hR h2 h1 hq
    unfold rankOf at ih ⊢
    rw [List.map_cons, List.map_cons, lexI, keysLt, ih]
    cases e1 : keyLt q r r' with
    | true =>
      have := a.mpr e1
      rw [if_neg (by simp; lia)]; simp; exact this
    | false =>
      have n1 : ¬ rankAt rows r q < rankAt rows r' q := fun h => by rw [a.mp h] at e1; cases e1
      cases e2 : keyLt q r' r with
      | true =>
        have := b.mpr e2
        rw [if_neg (by simp; lia)]; simp; lia
      | false =>
        have n2 : ¬ rankAt rows r' q < rankAt rows r q := fun h => by rw [b.mp h] at e2; cases e2
        rw [if_pos (by simp; lia)]; simp
theorem told_of {rows out : List (List V)} {keys : Keys} (hR : Rows8 rows) (hk : KeysOk keys) {p : List Nat} (hp : p.Perm (List.range rows.length)) (hs : p.Pairwise fun i j => keysLt keys (rows.getD i []) (rows.getD j []) = true ∨ (keysLt keys (rows.getD j []) (rows.getD i []) = false ∧ i < j)) (he : p.map (fun i => rows.getD i []) = out) :
    Ord (lexLt keys.length (ranksOf rows keys)) rows.length p ∧ p.map (fun i => rows.getD i []) = out := by
  refine ⟨⟨hp, ?_⟩, he⟩
  have hlt : ∀ i ∈ p, i < rows.length := fun i hi => List.mem_range.mp (hp.subset hi)
  have lx : ∀ i j, i < rows.length → j < rows.length → lexLt keys.length (ranksOf rows keys) i j = keysLt keys (rows.getD i []) (rows.getD j []) := fun i j hi hj => by
    unfold lexLt ranksOf
    have g : ∀ i, i < rows.length → (rows.map (rankOf rows keys)).getD i (List.replicate keys.length 0) = rankOf rows keys (rows.getD i []) ∧ rows.getD i [] ∈ rows := fun i hi => by
      rw [List.getD_eq_getElem?_getD, List.getElem?_map, List.getElem?_eq_getElem hi, List.getD_eq_getElem?_getD, List.getElem?_eq_getElem hi]
      exact ⟨rfl, List.getElem_mem _⟩
    rw [(g i hi).1, (g j hj).1]
    exact rank_lex hR (g i hi).2 (g j hj).2 hk
  refine List.Pairwise.imp_of_mem (fun {i j} hi hj h => ?_) hs
  unfold sl
  rw [lx i j (hlt i hi) (hlt j hj), lx j i (hlt j hj) (hlt i hi)]
  exact h
end
section
noncomputable def plc {α : Type} (P : α → Bool) (L : List α) : Nat := (L.takeWhile P).length
theorem plc_le {α : Type} (P : α → Bool) (L : List α) : plc P L ≤ L.length := (List.takeWhile_sublist P).length_le
theorem plc_spec {α : Type} {P : α → Bool} : ∀ {L : List α}, L.Pairwise (fun a b => P b = true → P a = true) → ∀ (i : Nat) x, L[i]? = some x → P x = decide (i < plc P L)
  | [], _, i, x, h => by simp at h
  | a :: L, hp, i, x, h => by
    obtain ⟨h1, h2⟩ := List.pairwise_cons.mp hp
    unfold plc
    rw [List.takeWhile_cons]
    cases e : P a with
    | true =>
      rw [if_pos rfl, List.length_cons]
      cases i with
      | zero => simp at h; subst h; rw [e]; simp
      | succ i =>
        have := plc_spec h2 i x (by simpa using h)
        rw [this]; unfold plc; simp
    | false =>
      rw [if_neg (by simp)]
      have : P x = false := by
        cases i with
        | zero => simp at h; subst h; exact e
        | succ i =>
          have hx : x ∈ L := List.mem_of_getElem? (by simpa using h)
          cases k : P x with
          | false => rfl
          | true => rw [h1 x hx k] at e; cases e
      rw [this]; simp
theorem take_plc {α : Type} (P : α → Bool) : ∀ (L : List α), L.take (plc P L) = L.takeWhile P
  | [] => rfl
  | a :: L => by
    have ih := take_plc P L
    unfold plc at ih ⊢
    rw [List.takeWhile_cons]
    split
    · rw [List.length_cons, List.take_succ_cons, ih]
    · rfl
theorem mem_take_plc {α : Type} {P : α → Bool} : ∀ {L : List α} {x : α}, x ∈ L.take (plc P L) → x ∈ L ∧ P x = true
  | a :: L, x, h => by
    rw [take_plc] at h
    exact ⟨(List.takeWhile_sublist P).subset h, by
      have : ∀ (L : List α), x ∈ L.takeWhile P → P x = true := fun L => by
        induction L with
        | nil => intro h; cases h
        | cons b L ih =>
          intro h
          rw [List.takeWhile_cons] at h
          split at h
          · rename_i hb
            rcases List.mem_cons.mp h with rfl | h
            · exact hb
            · exact ih h
          · cases h
      exact this _ h⟩
theorem mem_drop_plc {α : Type} {P : α → Bool} {L : List α} (hp : L.Pairwise (fun a b => P b = true → P a = true)) {x : α} (h : x ∈ L.drop (plc P L)) : x ∈ L ∧ P x = false := by
  obtain ⟨i, hi, rfl⟩ := List.mem_iff_getElem.mp h
  rw [List.getElem_drop]
  have hl : plc P L + i < L.length := by rw [List.length_drop] at hi; lia
  refine ⟨List.getElem_mem _, ?_⟩
  rw [plc_spec hp (plc P L + i) _ (List.getElem?_eq_getElem hl)]
  simp
theorem pairwise_putIn {α : Type} {R : α → α → Prop} {L : List α} {x : α} {c : Nat} (h : L.Pairwise R) (h1 : ∀ y ∈ L.take c, R y x) (h2 : ∀ y ∈ L.drop c, R x y) : (putIn c x L).Pairwise R := by
  unfold putIn
  rw [← List.take_append_drop c L] at h
  obtain ⟨a, b, d⟩ := List.pairwise_append.mp h
  refine List.pairwise_append.mpr ⟨a, List.pairwise_cons.mpr ⟨h2, b⟩, fun y hy z hz => ?_⟩
  rcases List.mem_cons.mp hz with rfl | hz
  · exact h1 y hy
  · exact d y hy z hz
theorem perm_putIn {α : Type} (L : List α) (x : α) (c : Nat) : (putIn c x L).Perm (x :: L) := by
  unfold putIn
  exact List.perm_middle.trans (by rw [List.take_append_drop])
theorem mem_putIn {α : Type} {L : List α} {x y : α} {c : Nat} : y ∈ putIn c x L ↔ y = x ∨ y ∈ L := by
  rw [(perm_putIn L x c).mem_iff, List.mem_cons]
noncomputable abbrev TRow := List V × Nat
noncomputable def Behind (keys : Keys) (a b : TRow) : Prop := keysLt keys a.1 b.1 = true ∨ (keysLt keys b.1 a.1 = false ∧ a.2 < b.2)
noncomputable def Ahead (keys : Keys) (a b : TRow) : Prop := keysLt keys a.1 b.1 = true ∨ (keysLt keys b.1 a.1 = false ∧ b.2 < a.2)
theorem behind_put {keys : Keys} (hk : KeysOk keys) {L : List TRow} {x : TRow} (hal : ∀ a ∈ L, ∀ b ∈ L, Alike a.1 b.1) (hax : ∀ a ∈ L, Alike a.1 x.1) (hxx : Alike x.1 x.1) (ht : ∀ a ∈ L, a.2 < x.2) (h : L.Pairwise (Behind keys)) :
    (∀ (i : Nat) r, (L.map (·.1))[i]? = some r → decide (cmpK keys x.1 x.1 < cmpK keys r x.1) = decide (plc (fun r => !keysLt keys x.1 r) (L.map (·.1)) ≤ i)) ∧
    ∃ L' : List TRow, L'.map (·.1) = putIn (plc (fun r => !keysLt keys x.1 r) (L.map (·.1))) x.1 (L.map (·.1)) ∧ L'.Perm (x :: L) ∧ L'.Pairwise (Behind keys) := by
  have mono : (L.map (·.1)).Pairwise fun a b => (!keysLt keys x.1 b) = true → (!keysLt keys x.1 a) = true := by
    refine List.pairwise_map.mpr (List.Pairwise.imp_of_mem (fun {a b} ha hb r k => ?_) h)
    simp only [Bool.not_eq_true'] at k ⊢
    have hba : keysLt keys b.1 a.1 = false := by
      rcases r with r | r
      · exact keysLt_as hk (hal a ha b hb) r
      · exact r.1
    exact keysLt_tr hk (hal a ha b hb) (hax b hb) hba k
  refine ⟨fun i r hr => ?_, putIn (plc (fun r => !keysLt keys x.1 r) (L.map (·.1))) x L, map_putIn .., perm_putIn .., ?_⟩
  · have hrm := List.mem_of_getElem? hr
    obtain ⟨a, ha, rfl⟩ := List.mem_map.mp hrm
    have sp := plc_spec mono i _ hr
    rw [cmpK_self hk hxx, cmpK_swap hk (hax a ha).symm]
    have e : decide (0 < -cmpK keys x.1 a.1) = keysLt keys x.1 a.1 := by
      rw [Bool.eq_iff_iff, decide_eq_true_eq, ← cmpK_lt hk (hax a ha).symm]; lia
    rw [e]
    have : keysLt keys x.1 a.1 = !(decide (i < plc (fun r => !keysLt keys x.1 r) (L.map (·.1)))) := by rw [← sp]; simp
    rw [this]
    rw [Bool.eq_iff_iff]; simp
  · have hm : ∀ y ∈ L.take (plc (fun r => !keysLt keys x.1 r) (L.map (·.1))), y ∈ L ∧ keysLt keys x.1 y.1 = false := fun y hy => by
      have : y.1 ∈ (L.map (·.1)).take (plc (fun r => !keysLt keys x.1 r) (L.map (·.1))) := by rw [← List.map_take]; exact List.mem_map.mpr ⟨y, hy, rfl⟩
      exact ⟨List.mem_of_mem_take hy, by simpa using (mem_take_plc this).2⟩
    have hn : ∀ y ∈ L.drop (plc (fun r => !keysLt keys x.1 r) (L.map (·.1))), y ∈ L ∧ keysLt keys x.1 y.1 = true := fun y hy => by
      have : y.1 ∈ (L.map (·.1)).drop (plc (fun r => !keysLt keys x.1 r) (L.map (·.1))) := by rw [← List.map_drop]; exact List.mem_map.mpr ⟨y, hy, rfl⟩
      exact ⟨List.mem_of_mem_drop hy, by simpa using (mem_drop_plc mono this).2⟩
    refine pairwise_putIn h (fun y hy => ?_) fun y hy => .inl (hn y hy).2
    obtain ⟨h1, h2⟩ := hm y hy
    exact .inr ⟨h2, ht y h1⟩
end
section
theorem ahead_put {keys : Keys} (hk : KeysOk keys) {L : List TRow} {x : TRow} (hal : ∀ a ∈ L, ∀ b ∈ L, Alike a.1 b.1) (hax : ∀ a ∈ L, Alike a.1 x.1) (hxx : Alike x.1 x.1) (ht : ∀ a ∈ L, a.2 < x.2) (h : L.Pairwise (Ahead keys)) :
    (∀ (i : Nat) r, (L.map (·.1))[i]? = some r → decide (cmpK keys r x.1 < cmpK keys x.1 x.1) = decide (i < plc (fun r => keysLt keys r x.1) (L.map (·.1)))) ∧
    ∃ L' : List TRow, L'.map (·.1) = putIn (plc (fun r => keysLt keys r x.1) (L.map (·.1))) x.1 (L.map (·.1)) ∧ L'.Perm (x :: L) ∧ L'.Pairwise (Ahead keys) := by
  have mono : (L.map (·.1)).Pairwise fun a b => keysLt keys b x.1 = true → keysLt keys a x.1 = true := by
    refine List.pairwise_map.mpr (List.Pairwise.imp_of_mem (fun {a b} ha hb r k => ?_) h)
    have hba : keysLt keys b.1 a.1 = false := by
      rcases r with r | r
      · exact keysLt_as hk (hal a ha b hb) r
      · exact r.1
    cases e : keysLt keys a.1 x.1 with
    | true => rfl
    | false => rw [keysLt_tr hk (a := x.1) (b := a.1) (c := b.1) (hax a ha).symm (hal a ha b hb) e hba] at k; cases k
  refine ⟨fun i r hr => ?_, putIn (plc (fun r => keysLt keys r x.1) (L.map (·.1))) x L, map_putIn .., perm_putIn .., ?_⟩
  · have hrm := List.mem_of_getElem? hr
    obtain ⟨a, ha, rfl⟩ := List.mem_map.mp hrm
    have sp := plc_spec mono i _ hr
    rw [cmpK_self hk hxx]
    have e : decide (cmpK keys a.1 x.1 < 0) = keysLt keys a.1 x.1 := by
      rw [Bool.eq_iff_iff, decide_eq_true_eq, ← cmpK_lt hk (hax a ha)]
    rw [e, sp]
  · have hm : ∀ y ∈ L.take (plc (fun r => keysLt keys r x.1) (L.map (·.1))), y ∈ L ∧ keysLt keys y.1 x.1 = true := fun y hy => by
      have : y.1 ∈ (L.map (·.1)).take (plc (fun r => keysLt keys r x.1) (L.map (·.1))) := by rw [← List.map_take]; exact List.mem_map.mpr ⟨y, hy, rfl⟩
      exact ⟨List.mem_of_mem_take hy, (mem_take_plc this).2⟩
    have hn : ∀ y ∈ L.drop (plc (fun r => keysLt keys r x.1) (L.map (·.1))), y ∈ L ∧ keysLt keys y.1 x.1 = false := fun y hy => by
      have : y.1 ∈ (L.map (·.1)).drop (plc (fun r => keysLt keys r x.1) (L.map (·.1))) := by rw [← List.map_drop]; exact List.mem_map.mpr ⟨y, hy, rfl⟩
      exact ⟨List.mem_of_mem_drop hy, (mem_drop_plc mono this).2⟩
    refine pairwise_putIn h (fun y hy => .inl (hm y hy).2) fun y hy => ?_
    obtain ⟨h1, h2⟩ := hn y hy
    exact .inr ⟨h2, ht y h1⟩
theorem lessS_as {x y : Str} (h : lessS x y = true) : lessS y x = false := by
  simp only [lessS, decide_eq_true_eq, decide_eq_false_iff_not] at h ⊢
  exact List.lt_asymm h
theorem lessS_tr {x y z : Str} (h : lessS y x = false) (k : lessS z y = false) : lessS z x = false := by
  simp only [lessS, decide_eq_false_iff_not] at h k ⊢
  exact List.not_lt.mpr (List.le_trans (List.not_lt.mp h) (List.not_lt.mp k))
theorem str_eq_of {x y : Str} (h : lessS x y = false) (k : lessS y x = false) : x = y := by
  simp only [lessS, decide_eq_false_iff_not] at h k
  have := List.le_antisymm (List.not_lt.mp k) (List.not_lt.mp h)
  cases x; cases y
  simp only [PySem.Str.mk.injEq]
  exact Array.toList_inj.mp this
theorem lessS_irrefl (x : Str) : lessS x x = false := by
  cases e : lessS x x with
  | false => rfl
  | true => rw [lessS_as e] at e; cases e
theorem names_place {L : List Str} (h : L.Pairwise fun a b => lessS a b = true) (t : Str) :
    (∀ (i : Nat) x, L[i]? = some x → lessS x t = decide (i < plc (lessS · t) L)) ∧
    (t ∈ L → (plc (lessS · t) L == L.length || L.getD (plc (lessS · t) L) "" != t) = false ∧ L[plc (lessS · t) L]? = some t) ∧
    (t ∉ L → (plc (lessS · t) L == L.length || L.getD (plc (lessS · t) L) "" != t) = true ∧ (∀ (i : Nat) x, L[i]? = some x → lessS t x = decide (plc (lessS · t) L ≤ i)) ∧ (putIn (plc (lessS · t) L) t L).Pairwise fun a b => lessS a b = true) := by
  have mono : L.Pairwise fun a b => lessS b t = true → lessS a t = true := by
    refine h.imp fun {a b} r k => ?_
    cases e : lessS a t with
    | true => rfl
    | false => rw [lessS_tr e (lessS_as r)] at k; cases k
  have sp := plc_spec mono
  refine ⟨sp, fun ht => ?_, fun ht => ?_⟩
  · obtain ⟨i, hi, e⟩ := List.mem_iff_getElem.mp ht
    have h1 := sp i t (by rw [List.getElem?_eq_getElem hi, e])
    rw [lessS_irrefl] at h1
    have h2 : ¬ i < plc (lessS · t) L := by simpa using h1.symm
    have h3 : plc (lessS · t) L = i := by
      refine Classical.byContradiction fun ne => ?_
      have hlt : plc (lessS · t) L < i := by lia
      have hl : plc (lessS · t) L < L.length := by lia
      have h4 := sp _ _ (List.getElem?_eq_getElem hl)
      have h5 := List.pairwise_iff_getElem.mp h _ _ hl hi hlt
      rw [e] at h5
      rw [h5] at h4
      simp at h4
    have h6 : L[plc (lessS · t) L]? = some t := by rw [h3, List.getElem?_eq_getElem hi, e]
    refine ⟨?_, h6⟩
    rw [List.getD_eq_getElem?_getD, h6]
    have : (plc (lessS · t) L == L.length) = false := by rw [h3]; simp; lia
    rw [this]; simp
  · have hne : ∀ x ∈ L, x ≠ t := fun x hx e => ht (e ▸ hx)
    have hr : ∀ (i : Nat) x, L[i]? = some x → lessS t x = decide (plc (lessS · t) L ≤ i) := fun i x hx => by
      have h1 := sp i x hx
      have h2 := hne x (List.mem_of_getElem? hx)
      cases e : lessS x t with
      | true =>
        rw [e] at h1
        have h3 : i < plc (lessS · t) L := by simpa using h1.symm
        rw [lessS_as e]; simp; lia
      | false =>
        rw [e] at h1
        have h3 : ¬ i < plc (lessS · t) L := by simpa using h1.symm
        have h4 : lessS t x = true := by
          cases k : lessS t x with
          | true => rfl
          | false => exact absurd (str_eq_of e k) h2
        rw [h4]; simp; lia
    refine ⟨?_, hr, pairwise_putIn h (fun y hy => (mem_take_plc hy).2) fun y hy => ?_⟩
    · by_cases e : plc (lessS · t) L = L.length
      · rw [e]; simp
      · have hl : plc (lessS · t) L < L.length := by have := plc_le (lessS · t) L; lia
        have h1 := hne _ (List.getElem_mem hl)
        rw [List.getD_eq_getElem?_getD, List.getElem?_eq_getElem hl]
        simp [h1]
    · obtain ⟨h1, h2⟩ := mem_drop_plc mono hy
      cases k : lessS t y with
      | true => rfl
      | false => exact absurd (str_eq_of h2 k) (hne y h1)
end
section
theorem toStr_inj {a b : Int} (h : (Str.ofString (toString a)) = Str.ofString (toString b)) : a = b := by
  have e1 : ∀ i : Int, toString i = i.repr := fun i => by cases i <;> rfl
  rw [e1, e1, Str.ofString_eq_toList, Str.ofString_eq_toList] at h
  have h2 := congrArg (fun s : Str => s.cps.toList) h
  simp only at h2
  have h3 : a.repr.toList = b.repr.toList := by
    refine List.map_inj_right (f := Char.toNat) (fun x y k => ?_) |>.mp h2
    exact Char.toNat_inj.mp k
  exact Int.repr_inj.mp (String.toList_inj.mp h3)
noncomputable def cp (x : Str) : List Nat := x.cps.toList
theorem cp_app (x y : Str) : cp (x ++ y) = cp x ++ cp y := by
  show (x ++ y).cps.toList = _
  rw [PySem.Str.cps_append]; simp [cp]
theorem cp_inj {x y : Str} (h : cp x = cp y) : x = y := by
  cases x; cases y
  simp only [PySem.Str.mk.injEq]
  exact Array.toList_inj.mp h

noncomputable def SpOk (sp : Str) : Prop := sp = "a..py" ∨ sp = "~"
noncomputable def NmOk (nm : Str) : Prop := nm = "<f>" ∨ nm = "f" ∨ nm = "<f" ∨ nm = "f>"
noncomputable def longT (sp : Str) (ln : Int) (nm : Str) : Str := sp ++ ":" ++ (toString ln : String) ++ "(" ++ nm ++ ")"
noncomputable def shortT (nm : Str) : Str := if (nm == "<f>") = true then "{f}" else nm
theorem cp_sp {sp : Str} (h : SpOk sp) : cp sp = [97, 46, 46, 112, 121] ∨ cp sp = [126] := by
  rcases h with rfl | rfl
  · exact .inl (by decide)
  · exact .inr (by decide)
theorem cp_nm {nm : Str} (h : NmOk nm) : cp nm = [60, 102, 62] ∨ cp nm = [102] ∨ cp nm = [60, 102] ∨ cp nm = [102, 62] := by
  rcases h with rfl | rfl | rfl | rfl
  · exact .inl (by decide)
  · exact .inr (.inl (by decide))
  · exact .inr (.inr (.inl (by decide)))
  · exact .inr (.inr (.inr (by decide)))
theorem cp_short {nm : Str} (h : NmOk nm) : cp (shortT nm) = [123, 102, 125] ∧ nm = "<f>" ∨ cp (shortT nm) = [102] ∧ nm = "f" ∨ cp (shortT nm) = [60, 102] ∧ nm = "<f" ∨ cp (shortT nm) = [102, 62] ∧ nm = "f>" := by
  rcases h with rfl | rfl | rfl | rfl
  · exact .inl ⟨by decide, rfl⟩
  · exact .inr (.inl ⟨by decide, rfl⟩)
  · exact .inr (.inr (.inl ⟨by decide, rfl⟩))
  · exact .inr (.inr (.inr ⟨by decide, rfl⟩))
theorem cp_long (sp : Str) (ln : Int) (nm : Str) : cp (longT sp ln nm) = cp sp ++ ([58] ++ (cp (Str.ofString (toString ln)) ++ ([40] ++ (cp nm ++ [41])))) := by
  unfold longT
  simp only [cp_app, List.append_assoc]
  rfl
theorem sep_inj {d : Nat} : ∀ {x y u v : List Nat}, d ∉ u → d ∉ v → x ++ d :: u = y ++ d :: v → x = y ∧ u = v
  | [], [], _, _, _, _, e => ⟨rfl, (List.cons.inj e).2⟩
  | [], _ :: _, _, _, hu, _, e => absurd ((List.cons.inj e).2 ▸ List.mem_append_right _ (List.mem_cons_self ..)) hu
  | _ :: _, [], _, _, _, hv, e => absurd ((List.cons.inj e).2 ▸ List.mem_append_right _ (List.mem_cons_self ..)) hv
  | _ :: _, _ :: _, _, _, hu, hv, e => ⟨congr (congrArg _ (List.cons.inj e).1) (sep_inj hu hv (List.cons.inj e).2).1, (sep_inj hu hv (List.cons.inj e).2).2⟩
noncomputable def nms : List Str := ["<f>", "f", "<f", "f>"]
theorem nms_of {nm : Str} (h : NmOk nm) : nm ∈ nms := by rcases h with rfl | rfl | rfl | rfl <;> decide
theorem nm40 : ∀ nm ∈ nms, 40 ∉ cp nm ++ [41] := by decide
theorem sh40 : ∀ nm ∈ nms, 40 ∉ cp (shortT nm) := by decide
theorem shI : ∀ a ∈ nms, ∀ b ∈ nms, shortT a = shortT b → a = b := by decide
theorem tail_inj {x y : List Nat} {nm nm' : Str} (h : NmOk nm) (h' : NmOk nm') (e : x ++ ([40] ++ (cp nm ++ [41])) = y ++ ([40] ++ (cp nm' ++ [41]))) : x = y ∧ nm = nm' :=
  have k := sep_inj (nm40 _ (nms_of h)) (nm40 _ (nms_of h')) e
  ⟨k.1, cp_inj (List.append_cancel_right k.2)⟩
theorem long_inj {sp sp' nm nm' : Str} {ln ln' : Int} (h1 : SpOk sp) (h1' : SpOk sp') (h2 : NmOk nm) (h2' : NmOk nm') (e : longT sp ln nm = longT sp' ln' nm') : sp = sp' ∧ ln = ln' ∧ nm = nm' := by
  have e2 := congrArg cp e
  rw [cp_long, cp_long] at e2
  have key : ∀ {x y : List Nat}, x ++ ([40] ++ (cp nm ++ [41])) = y ++ ([40] ++ (cp nm' ++ [41])) → x = cp (Str.ofString (toString ln)) → y = cp (Str.ofString (toString ln')) → ln = ln' ∧ nm = nm' := fun h a b => by
    obtain ⟨p, q⟩ := tail_inj h2 h2' h
    exact ⟨toStr_inj (cp_inj (a ▸ b ▸ p)), q⟩
  rcases cp_sp h1 with a | a <;> rcases cp_sp h1' with b | b <;> rw [a, b] at e2
  · refine ⟨cp_inj (a.trans b.symm), key ?_ rfl rfl⟩
    simpa using e2
  · simp at e2
  · simp at e2
  · refine ⟨cp_inj (a.trans b.symm), key ?_ rfl rfl⟩
    simpa using e2
theorem long_short {sp nm nm' : Str} {ln : Int} (h1 : SpOk sp) (h2' : NmOk nm') (e : longT sp ln nm = shortT nm') : False := by
  have e2 := sh40 _ (nms_of h2')
  rw [← e, cp_long] at e2
  exact e2 (List.mem_append_right _ (List.mem_append_right _ (List.mem_append_right _ (List.mem_cons_self ..))))
theorem short_inj {nm nm' : Str} (h : NmOk nm) (h' : NmOk nm') (e : shortT nm = shortT nm') : nm = nm' := shI _ (nms_of h) _ (nms_of h') e
theorem textOf_eq (sp : Str) (ln : Int) (nm : Str) : textOf sp ln nm = if (sp != "~" || ln != 0) = true then longT sp ln nm else shortT nm := rfl
theorem textOf_inj {sp sp' nm nm' : Str} {ln ln' : Int} (h1 : SpOk sp) (h1' : SpOk sp') (h2 : NmOk nm) (h2' : NmOk nm') (e : textOf sp ln nm = textOf sp' ln' nm') : sp = sp' ∧ ln = ln' ∧ nm = nm' := by
  rw [textOf_eq, textOf_eq] at e
  split at e <;> split at e
  · exact long_inj h1 h1' h2 h2' e
  · exact (long_short h1 h2' e).elim
  · exact (long_short h1' h2 e.symm).elim
  · rename_i a b
    have p : ∀ {sp : Str} {ln : Int}, ¬ (sp != "~" || ln != 0) = true → sp = "~" ∧ ln = 0 := fun h => by simpa using h
    obtain ⟨a1, a2⟩ := p a
    obtain ⟨b1, b2⟩ := p b
    exact ⟨a1.trans b1.symm, a2.trans b2.symm, short_inj h2 h2' e⟩
theorem textOf_b1g {sp nm : Str} {ln : Int} (h1 : SpOk sp) (h2 : NmOk nm) : textOf sp ln nm ≠ b1g := fun e => by
  have hb : cp b1g = [98, 58, 49, 40, 103, 41] := by decide
  have e2 := congrArg cp e
  rw [textOf_eq, hb] at e2
  split at e2
  · rw [cp_long] at e2
    rcases cp_sp h1 with a | a <;> rw [a] at e2 <;> simp at e2
  · rcases cp_short h2 with b | b | b | b <;> rw [b.1] at e2 <;> simp at e2
end
section
structure EvOk (b : Bool) (e : Evt) : Prop where
  sp : SpOk e.fn.sp
  nm : NmOk e.fn.nm
  fn : e.fn.sp.length ≤ 100 ∧ e.fn.nm.length ≤ 100 ∧ e.fn.ln.natAbs < 10 ^ 12
  cal : e.en.cal = [] ∨ ∃ c : Cnt, c.isFour = b ∧ (e.en.cal = [(b1g, c)] ∨ e.en.cal = [(e.fn.text, c)])
  nc : 0 ≤ e.en.nc ∧ e.en.nc ≤ 2
theorem evAt_ok (total x : Int) : EvOk (fourB total) (evAt total x) where
  sp := by
    show SpOk (([("a..py" : Str), ("~" : Str)] : List Str).getD ((evV x).fmod 2).toNat "")
    have h := fmod_in (evV x) (b := 2) (by decide)
    have h4 : ((evV x).fmod 2).toNat < 2 := by omega
    match ((evV x).fmod 2).toNat, h4 with
    | 0, _ => exact .inl rfl
    | 1, _ => exact .inr rfl
  nm := evFn_nm total x
  fn := evFn_ok total x
  cal := by
    have hc : (evCnt total x).isFour = fourB total := by
      unfold evCnt; split
      · rename_i h; rw [h]; rfl
      · rename_i h; rw [Bool.not_eq_true] at h; rw [h]; rfl
    show evCal total x = [] ∨ ∃ c : Cnt, c.isFour = fourB total ∧ (evCal total x = [(b1g, c)] ∨ evCal total x = [((evFn total x).text, c)])
    unfold evCal evCals
    match (((evR x).fdiv 18).fmod 3).toNat with
    | 0 => exact .inl rfl
    | 1 => exact .inr ⟨_, hc, .inl rfl⟩
    | 2 => exact .inr ⟨_, hc, .inr rfl⟩
    | n + 3 => exact .inl rfl
  nc := by
    have h := fmod_in ((evR x).fdiv 2) (b := 3) (by decide)
    show 0 ≤ ((evR x).fdiv 2).fmod 3 ∧ ((evR x).fdiv 2).fmod 3 ≤ 2
    omega
theorem events_ok (script : List Int) : ∀ e ∈ lawEvents script, EvOk (fourB (lawTotal script)) e := fun e he => by
  obtain ⟨x, _, rfl⟩ := List.mem_map.mp he
  exact evAt_ok _ _
theorem events_len (script : List Int) : (lawEvents script).length ≤ 6 := by
  unfold lawEvents evXs
  rw [List.length_map, List.length_append, List.length_take]
  show min 3 script.length + 3 ≤ 6
  omega
theorem keys_ok (total : Int) : KeysOk (lawKeys total) := fun q hq => by
  refine ⟨lawKeys_col q hq, ?_⟩
  obtain ⟨k, _, rfl⟩ := List.mem_map.mp hq
  dsimp only [keyAt]
  have a0 : 0 ≤ (if keyT total k < 0 then -keyT total k else keyT total k) := by split <;> omega
  intro h
  split at h <;> omega
section
variable {b : Bool}
theorem EvOk.four {e : Evt} (h : EvOk b e) : ∀ q ∈ e.en.cal, q.2.isFour = b := fun q hq => by
  rcases h.cal with c | ⟨c, hc, d | d⟩
  · rw [c] at hq; cases hq
  · rw [d] at hq; rw [List.mem_singleton.mp hq]; exact hc
  · rw [d] at hq; rw [List.mem_singleton.mp hq]; exact hc
theorem EvOk.one {e : Evt} (h : EvOk b e) : e.en.cal.length ≤ 1 := by
  rcases h.cal with c | ⟨c, hc, d | d⟩
  · rw [c]; exact Nat.zero_le _
  · rw [d]; exact Nat.le_refl _
  · rw [d]; exact Nat.le_refl _
theorem EvOk.en {e : Evt} (h : EvOk b e) : e.en.Ok b := ⟨by
  rcases h.cal with c | ⟨c, hc, d | d⟩
  · rw [c]; exact List.nodup_nil
  · rw [d]; simp
  · rw [d]; simp, h.four, Nat.le_trans h.one (by decide)⟩
theorem fnEq_iff {a c : Fnc} : fnEq a c = true ↔ a.sp = c.sp ∧ a.ln = c.ln ∧ a.nm = c.nm := by
  unfold fnEq
  simp [feqs, feq]
theorem fnEq_text {e e' : Evt} (h : EvOk b e) (h' : EvOk b e') : fnEq e.fn e'.fn = true ↔ e.fn.text = e'.fn.text := by
  rw [fnEq_iff]
  constructor
  · rintro ⟨a, c, d⟩
    unfold Fnc.text; rw [a, c, d]
  · exact fun k => textOf_inj h.sp h'.sp h.nm h'.nm k
theorem EvOk.notB {e : Evt} (h : EvOk b e) : e.fn.text ≠ b1g := textOf_b1g h.sp h.nm
end
end
section
noncomputable def plc0 (st : KS) (e : Evt) : Plc := ⟨plc (lessS · e.fn.text) st.names, (plc (lessS · e.fn.text) st.names == st.names.length || st.names.getD (plc (lessS · e.fn.text) st.names) "" != e.fn.text), 0, 0⟩
noncomputable def rowIn (st : KS) (e : Evt) : List V := rowOf (sumAt st e (plc0 st e)) e.fn
noncomputable def bookPlc (keys : Keys) (st : KS) (e : Evt) : Plc := { plc0 st e with cb := plc (fun r => !keysLt keys (rowIn st e) r) (st.behind.filter (otherT e.fn.text)), ca := plc (fun r => keysLt keys r (rowIn st e)) (st.ahead.filter (otherT e.fn.text)) }
noncomputable def bookAt (keys : Keys) (evs : List Evt) : Nat → KS
  | 0 => KS.nil
  | k + 1 => (bookAt keys evs k).next (evs.getD k evt0) (bookPlc keys (bookAt keys evs k) (evs.getD k evt0))
noncomputable def ofT (t : Str) (e : Evt) : Bool := e.fn.text == t
noncomputable def totalT (l : List Evt) (t : Str) : Ent := ((l.filter (ofT t)).map (·.en)).foldl Ent.add ent0
theorem totalT_snoc_same {l : List Evt} {e : Evt} : totalT (l ++ [e]) e.fn.text = (totalT l e.fn.text).add e.en := by
  unfold totalT
  rw [List.filter_append, List.map_append, List.foldl_append]
  have : [e].filter (ofT e.fn.text) = [e] := by simp [ofT]
  rw [this]; rfl
theorem totalT_snoc_other {l : List Evt} {e : Evt} {t : Str} (h : e.fn.text ≠ t) : totalT (l ++ [e]) t = totalT l t := by
  unfold totalT
  rw [List.filter_append]
  have : [e].filter (ofT t) = [] := by simp [ofT, h]
  rw [this, List.append_nil]
theorem totalT_none {l : List Evt} {t : Str} (h : ∀ e ∈ l, e.fn.text ≠ t) : totalT l t = ent0 := by
  unfold totalT
  have : l.filter (ofT t) = [] := List.filter_eq_nil_iff.mpr fun e he => by simpa [ofT] using h e he
  rw [this]; rfl
structure BookA (l : List Evt) (st : KS) : Prop where
  sorted : st.names.Pairwise fun a b => lessS a b = true
  mem : ∀ t, t ∈ st.names ↔ ∃ e ∈ l, e.fn.text = t
  len : st.sums.length = st.names.length
  sum : ∀ (i : Nat) t, st.names[i]? = some t → st.sums[i]? = some (totalT l t)
theorem putIn_get {α : Type} {k : Nat} {x : α} {xs : List α} (h : k ≤ xs.length) (i : Nat) : (putIn k x xs)[i]? = if i < k then xs[i]? else if i = k then some x else xs[i - 1]? := by
  unfold putIn
  have hl : (xs.take k).length = k := by rw [List.length_take]; lia
  by_cases h1 : i < k
  · rw [if_pos h1, List.getElem?_append_left (by lia), List.getElem?_take, if_pos h1]
  · rw [if_neg h1, List.getElem?_append_right (by lia), hl]
    by_cases h2 : i = k
    · rw [if_pos h2, h2, Nat.sub_self]; rfl
    · rw [if_neg h2]
      obtain ⟨j, hj⟩ : ∃ j, i - k = j + 1 := ⟨i - k - 1, by lia⟩
      rw [hj, List.getElem?_cons_succ, List.getElem?_drop]
      congr 1; lia
theorem book_sum {l : List Evt} {st : KS} (B : BookA l st) (e : Evt) : (sumsIn st (plc0 st e)).getD (plc0 st e).k ent0 = totalT l e.fn.text ∧ (plc0 st e).k < (sumsIn st (plc0 st e)).length ∧ (plc0 st e).k ≤ st.names.length := by
  obtain ⟨_, p2, p3⟩ := names_place B.sorted e.fn.text
  have hle := plc_le (lessS · e.fn.text) st.names
  by_cases h : e.fn.text ∈ st.names
  · obtain ⟨q1, q2⟩ := p2 h
    have hs := B.sum _ _ q2
    have e1 : sumsIn st (plc0 st e) = st.sums := by unfold sumsIn; rw [if_neg]; show ¬ (_ || _) = true; rw [q1]; decide
    rw [e1, List.getD_eq_getElem?_getD]
    refine ⟨?_, (List.getElem?_eq_some_iff.mp hs).1, hle⟩
    show (st.sums[plc (lessS · e.fn.text) st.names]?).getD ent0 = _
    rw [hs]; rfl
  · obtain ⟨q1, q2, q3⟩ := p3 h
    have e1 : sumsIn st (plc0 st e) = putIn (plc (lessS · e.fn.text) st.names) ent0 st.sums := by unfold sumsIn; exact if_pos q1
    rw [e1, List.getD_eq_getElem?_getD]
    have hk : plc (lessS · e.fn.text) st.names ≤ st.sums.length := by rw [B.len]; exact hle
    refine ⟨?_, by rw [putIn_len _ _ _ hk]; show plc _ _ < _; lia, hle⟩
    show ((putIn (plc (lessS · e.fn.text) st.names) ent0 st.sums)[plc (lessS · e.fn.text) st.names]?).getD ent0 = _
    rw [putIn_get hk, if_neg (by lia), if_pos rfl, totalT_none fun e' he' hx => h ((B.mem _).mpr ⟨e', he', hx⟩)]; rfl
theorem book_sumAt {l : List Evt} {st : KS} (B : BookA l st) (e : Evt) : sumAt st e (plc0 st e) = totalT (l ++ [e]) e.fn.text := by
  unfold sumAt; rw [(book_sum B e).1, totalT_snoc_same]
theorem book_next {l : List Evt} {st : KS} (B : BookA l st) (e : Evt) {q : Plc} (hk : q.k = (plc0 st e).k) (hn : q.new = (plc0 st e).new) : BookA (l ++ [e]) (st.next e q) := by
  obtain ⟨p1, p2, p3⟩ := names_place B.sorted e.fn.text
  have hle := plc_le (lessS · e.fn.text) st.names
  have hsl : sumsIn st q = sumsIn st (plc0 st e) := by unfold sumsIn; rw [hk, hn]
  have hsa : sumAt st e q = totalT (l ++ [e]) e.fn.text := by
    rw [← book_sumAt B e]; unfold sumAt; rw [hsl, hk]
  obtain ⟨_, hlt, _⟩ := book_sum B e
  have hss : (st.next e q).sums = (sumsIn st (plc0 st e)).set (plc0 st e).k (totalT (l ++ [e]) e.fn.text) := by
    show (sumsIn st q).set q.k (sumAt st e q) = _
    rw [hsl, hsa, hk]
  have hmem : ∀ t, (∃ x ∈ l ++ [e], x.fn.text = t) ↔ (t ∈ st.names ∨ t = e.fn.text) := fun t => by
    rw [B.mem]
    constructor
    · rintro ⟨x, hx, rfl⟩
      rcases List.mem_append.mp hx with hx | hx
      · exact .inl ⟨x, hx, rfl⟩
      · rw [List.mem_singleton.mp hx]; exact .inr rfl
    · rintro (⟨x, hx, rfl⟩ | rfl)
      · exact ⟨x, List.mem_append_left _ hx, rfl⟩
      · exact ⟨e, List.mem_append_right _ (.head _), rfl⟩
  by_cases h : e.fn.text ∈ st.names
  · obtain ⟨q1, q2⟩ := p2 h
    have e0 : sumsIn st (plc0 st e) = st.sums := by unfold sumsIn; exact if_neg (by show ¬ (_ || _) = true; rw [q1]; decide)
    have en : (st.next e q).names = st.names := by
      show (if q.new = true then _ else _) = _
      rw [hn]; exact if_neg (by show ¬ (_ || _) = true; rw [q1]; decide)
    rw [e0] at hss hlt
    refine ⟨by rw [en]; exact B.sorted, fun t => ?_, by rw [hss, en, List.length_set]; exact B.len, fun i t ht => ?_⟩
    · rw [en, hmem]
      exact ⟨.inl, fun k => k.elim id fun k => k ▸ h⟩
    · rw [en] at ht
      rw [hss]
      by_cases hi : i = (plc0 st e).k
      · subst hi
        have : t = e.fn.text := Option.some.inj (ht.symm.trans q2)
        rw [this, List.getElem?_set_self hlt]
      · rw [List.getElem?_set_ne (Ne.symm hi), B.sum i t ht]
        congr 1
        refine (totalT_snoc_other fun k => ?_).symm
        have h1 := (List.getElem?_eq_some_iff.mp ht)
        have h2 := (List.getElem?_eq_some_iff.mp q2)
        rcases Nat.lt_or_gt_of_ne hi with hlt' | hlt'
        · have := List.pairwise_iff_getElem.mp B.sorted _ _ h1.1 h2.1 hlt'
          rw [h1.2, h2.2, k, lessS_irrefl] at this; cases this
        · have := List.pairwise_iff_getElem.mp B.sorted _ _ h2.1 h1.1 hlt'
          rw [h1.2, h2.2, k, lessS_irrefl] at this; cases this
  · obtain ⟨q1, q2, q3⟩ := p3 h
    have e0 : sumsIn st (plc0 st e) = putIn (plc (lessS · e.fn.text) st.names) ent0 st.sums := by unfold sumsIn; exact if_pos q1
    have en : (st.next e q).names = putIn (plc (lessS · e.fn.text) st.names) e.fn.text st.names := by
      show (if q.new = true then putIn q.k _ _ else _) = _
      rw [hn, hk]; exact if_pos q1
    have hk' : plc (lessS · e.fn.text) st.names ≤ st.sums.length := by rw [B.len]; exact hle
    rw [e0] at hss hlt
    refine ⟨by rw [en]; exact q3, fun t => ?_, by rw [hss, en, List.length_set, putIn_len _ _ _ hk', putIn_len _ _ _ hle, B.len], fun i t ht => ?_⟩
    · rw [en, hmem, mem_putIn]; exact ⟨fun k => k.symm, fun k => k.symm⟩
    · rw [en, putIn_get hle] at ht
      rw [hss]
      by_cases hi : i = plc (lessS · e.fn.text) st.names
      · rw [if_neg (by lia), if_pos hi] at ht
        cases ht
        rw [hi]
        exact List.getElem?_set_self hlt
      · rw [List.getElem?_set_ne (show (plc0 st e).k ≠ i from fun k => hi k.symm), putIn_get hk']
        have old : ∀ (j : Nat), st.names[j]? = some t → st.sums[j]? = some (totalT (l ++ [e]) t) := fun j hj => by
          rw [B.sum j t hj]
          congr 1
          exact (totalT_snoc_other fun k => h (k ▸ List.mem_of_getElem? hj)).symm
        by_cases hl : i < plc (lessS · e.fn.text) st.names
        · rw [if_pos hl] at ht ⊢; exact old _ ht
        · rw [if_neg hl, if_neg hi] at ht ⊢; exact old _ ht
end
section
theorem rowOf_alike (e e' : Ent) (f f' : Fnc) : Alike (rowOf e f) (rowOf e' f') := fun c hc =>
  List.all_eq_true.mp (show (List.range 8).all (fun c => alikeV ((rowOf e f).getD c .none) ((rowOf e' f').getD c .none)) = true from rfl) c (List.mem_range.mpr hc)
noncomputable def lastT (l : List Evt) : List Nat := (List.range l.length).filter fun k => ((l.drop (k + 1)).filter (ofT (l.getD k evt0).fn.text)).isEmpty
noncomputable def trow (l : List Evt) (t : Nat) : TRow := (rowOf (totalT l (l.getD t evt0).fn.text) (l.getD t evt0).fn, t)
theorem lastT_lt {l : List Evt} {t : Nat} (h : t ∈ lastT l) : t < l.length := List.mem_range.mp (List.mem_filter.mp h).1
theorem getD_snoc {l : List Evt} {e : Evt} {t : Nat} (h : t < l.length) : (l ++ [e]).getD t evt0 = l.getD t evt0 := by
  rw [List.getD_eq_getElem?_getD, List.getElem?_append_left h, List.getD_eq_getElem?_getD]
theorem getD_last {l : List Evt} {e : Evt} : (l ++ [e]).getD l.length evt0 = e := by
  rw [List.getD_eq_getElem?_getD, List.getElem?_append_right (Nat.le_refl _), Nat.sub_self]; rfl
theorem lastT_snoc {l : List Evt} {e : Evt} : lastT (l ++ [e]) = ((lastT l).filter fun t => !ofT (l.getD t evt0).fn.text e) ++ [l.length] := by
  unfold lastT
  rw [List.length_append, List.length_singleton, List.range_succ, List.filter_append, List.filter_filter]
  congr 1
  · refine List.filter_congr fun t ht => ?_
    have ht := List.mem_range.mp ht
    rw [getD_snoc ht, List.drop_append_of_le_length (by lia), List.filter_append]
    generalize (l.getD t evt0).fn.text = x
    cases h : ofT x e with
    | true => simp [h]
    | false => simp [h]
  · have : (l ++ [e]).drop (l.length + 1) = [] := by simp
    rw [List.filter_cons, this]; rfl
theorem trow_snoc {l : List Evt} {e : Evt} {t : Nat} (h : t < l.length) (ho : ofT (l.getD t evt0).fn.text e = false) : trow (l ++ [e]) t = trow l t := by
  unfold trow
  rw [getD_snoc h, totalT_snoc_other (by simpa [ofT] using ho)]
theorem trow_other {l : List Evt} {t : Nat} {x : Str} : otherT x (trow l t).1 = ((l.getD t evt0).fn.text != x) := rfl
structure BookB (keys : Keys) (l : List Evt) (st : KS) : Prop where
  behind : ∃ B : List TRow, B.map (·.1) = st.behind ∧ B.Perm ((lastT l).map (trow l)) ∧ B.Pairwise (Behind keys)
  ahead : ∃ B : List TRow, B.map (·.1) = st.ahead ∧ B.Perm ((lastT l).map (trow l)) ∧ B.Pairwise (Ahead keys)
theorem perm_step {l : List Evt} {e : Evt} {B : List TRow} (h : B.Perm ((lastT l).map (trow l))) : (trow (l ++ [e]) l.length :: B.filter fun r => otherT e.fn.text r.1).Perm ((lastT (l ++ [e])).map (trow (l ++ [e]))) := by
  rw [lastT_snoc, List.map_append]
  refine List.Perm.trans ?_ (List.perm_append_comm)
  refine List.Perm.cons _ ?_
  refine (h.filter _).trans ?_
  rw [List.filter_map]
  have e1 : (lastT l).filter ((fun r : TRow => otherT e.fn.text r.1) ∘ trow l) = (lastT l).filter fun t => !ofT (l.getD t evt0).fn.text e := by
    refine List.filter_congr fun t zz => ?_
    show otherT e.fn.text (trow l t).1 = _
    rw [trow_other]
    unfold ofT
    generalize (l.getD t evt0).fn.text = x
    generalize e.fn.text = y
    show (!(x == y)) = !(y == x)
    rw [BEq.comm]
  rw [e1]
  refine List.Perm.of_eq (List.map_congr_left fun t ht => ?_)
  obtain ⟨h1, h2⟩ := List.mem_filter.mp ht
  exact (trow_snoc (lastT_lt h1) (by simpa using h2)).symm
theorem mem_trow {l : List Evt} {B : List TRow} (h : B.Perm ((lastT l).map (trow l))) {r : TRow} (hr : r ∈ B) : ∃ t ∈ lastT l, r = trow l t := by
  obtain ⟨t, ht, e⟩ := List.mem_map.mp (h.subset hr)
  exact ⟨t, ht, e.symm⟩
theorem bookB_next {keys : Keys} (hk : KeysOk keys) {l : List Evt} {st : KS} (A : BookA l st) (B : BookB keys l st) (e : Evt) :
    BookB keys (l ++ [e]) (st.next e (bookPlc keys st e)) ∧
    (∀ (i : Nat) r, (st.behind.filter (otherT e.fn.text))[i]? = some r → decide (cmpK keys (rowIn st e) (rowIn st e) < cmpK keys r (rowIn st e)) = decide ((bookPlc keys st e).cb ≤ i)) ∧
    (∀ (i : Nat) r, (st.ahead.filter (otherT e.fn.text))[i]? = some r → decide (cmpK keys r (rowIn st e) < cmpK keys (rowIn st e) (rowIn st e)) = decide (i < (bookPlc keys st e).ca)) ∧
    (∀ r, r ∈ st.behind ∨ r ∈ st.ahead → ∃ (x : Ent) (f : Fnc), r = rowOf x f) := by
  refine ngI fun hNg => ?_
  obtain ⟨L, hL1, hL2, hL3⟩ := B.behind
  refine ngE hNg ?_
  refine ngI fun hNg => ?_
  obtain ⟨M, hM1, hM2, hM3⟩ := B.ahead
  refine ngE hNg ?_
  have hrow : rowIn st e = (trow (l ++ [e]) l.length).1 := by
    unfold rowIn trow
    rw [book_sumAt A e, getD_last]
  have hf : ∀ N : List TRow, (N.filter fun r => otherT e.fn.text r.1).map (·.1) = (N.map (·.1)).filter (otherT e.fn.text) := fun N => by
    rw [List.filter_map]; rfl
  have al : ∀ {N : List TRow}, N.Perm ((lastT l).map (trow l)) → ∀ a ∈ N.filter fun r => otherT e.fn.text r.1, ∃ (x : Ent) (f : Fnc), a.1 = rowOf x f ∧ a.2 < l.length := fun h a ha => by
    refine ngI fun hNg => ?_
    obtain ⟨t, ht, rfl⟩ := mem_trow h (List.mem_filter.mp ha).1
    refine ngE hNg ?_
    exact ⟨_, _, rfl, lastT_lt ht⟩
  have all : ∀ {N : List TRow}, N.Perm ((lastT l).map (trow l)) → ∀ r ∈ N.map (·.1), ∃ (x : Ent) (f : Fnc), r = rowOf x f := fun h r hr => by
    refine ngI fun hNg => ?_
    obtain ⟨a, ha, rfl⟩ := List.mem_map.mp hr
    refine ngE hNg ?_
    refine ngI fun hNg => ?_
    obtain ⟨t, ht, rfl⟩ := mem_trow h ha
    refine ngE hNg ?_
    exact ⟨_, _, rfl⟩
  have pb := behind_put hk (L := L.filter fun r => otherT e.fn.text r.1) (x := trow (l ++ [e]) l.length) (fun a ha b hb => by
      refine ngI fun hNg => ?_
      obtain ⟨_, _, h1, _⟩ := al hL2 a ha
      refine ngE hNg ?_
      refine ngI fun hNg => ?_
      obtain ⟨_, _, h2, _⟩ := al hL2 b hb
      refine ngE hNg ?_
      rw [h1, h2]; exact rowOf_alike _ _ _ _) (fun a ha => by
      refine ngI fun hNg => ?_
      obtain ⟨_, _, h1, _⟩ := al hL2 a ha
      refine ngE hNg ?_
      rw [h1]; exact rowOf_alike _ _ _ _) (rowOf_alike _ _ _ _) (fun a ha => by
      refine ngI fun hNg => ?_
      obtain ⟨_, _, _, h1⟩ := al hL2 a ha
      refine ngE hNg ?_
      exact h1) (hL3.filter _)
  have pa := ahead_put hk (L := M.filter fun r => otherT e.fn.text r.1) (x := trow (l ++ [e]) l.length) (fun a ha b hb => by
      refine ngI fun hNg => ?_
      obtain ⟨_, _, h1, _⟩ := al hM2 a ha
      refine ngE hNg ?_
      refine ngI fun hNg => ?_
      obtain ⟨_, _, h2, _⟩ := al hM2 b hb
      refine ngE hNg ?_
      rw [h1, h2]; exact rowOf_alike _ _ _ _) (fun a ha => by
      refine ngI fun hNg => ?_
      obtain ⟨_, _, h1, _⟩ := al hM2 a ha
      refine ngE hNg ?_
      rw [h1]; exact rowOf_alike _ _ _ _) (rowOf_alike _ _ _ _) (fun a ha => by
      refine ngI fun hNg => ?_
      obtain ⟨_, _, _, h1⟩ := al hM2 a ha
      refine ngE hNg ?_
      exact h1) (hM3.filter _)
  rw [hf, hL1, ← hrow] at pb
  rw [hf, hM1, ← hrow] at pa
  refine ngI fun hNg => ?_
  obtain ⟨b1, L', b2, b3, b4⟩ := pb
  refine ngE hNg ?_
  refine ngI fun hNg => ?_
  obtain ⟨a1, M', a2, a3, a4⟩ := pa
  refine ngE hNg ?_
  refine ⟨⟨⟨L', b2, b3.trans (perm_step hL2), b4⟩, ⟨M', a2, a3.trans (perm_step hM2), a4⟩⟩, b1, a1, fun r hr => ?_⟩
  rcases hr with hr | hr
  · exact all hL2 r (hL1 ▸ hr)
  · exact all hM2 r (hM1 ▸ hr)
end
section
theorem putC_nd {cs : Cal} {k : Str} {c : Cnt} (h : (cs.map (·.1)).Nodup) : ((putC cs k c).map (·.1)).Nodup := by
  unfold putC
  split
  · have : ((cs.map fun e => if e.1 = k then (e.1, c) else e).map (·.1)) = cs.map (·.1) := by
      rw [List.map_map]
      exact List.map_congr_left fun e zz => by show (if e.1 = k then (e.1, c) else e).1 = e.1; split <;> rfl
    rw [this]; exact h
  · rename_i hn
    rw [List.map_append, List.nodup_append]
    refine ⟨h, by simp, fun a ha b hb => ?_⟩
    obtain ⟨e, he, rfl⟩ := List.mem_map.mp ha
    have hb : b = k := by simpa using hb
    rw [hb]
    intro e2
    exact hn (List.any_eq_true.mpr ⟨e, he, by simpa using e2⟩)
theorem addC1_nd {cs : Cal} {q : Str × Cnt} (h : (cs.map (·.1)).Nodup) : ((addC1 cs q).map (·.1)).Nodup := by
  unfold addC1; split <;> exact putC_nd h
theorem addCal_nd : ∀ {s t : Cal}, (t.map (·.1)).Nodup → ((addCal t s).map (·.1)).Nodup
  | [], _, h => h
  | q :: s, _, h => addCal_nd (s := s) (addC1_nd (q := q) h)
theorem fold_ok {b : Bool} : ∀ (es : List Ent) (acc : Ent), (∀ e ∈ es, (∀ q ∈ e.cal, q.2.isFour = b) ∧ e.cal.length ≤ 1) → (acc.cal.map (·.1)).Nodup → (∀ q ∈ acc.cal, q.2.isFour = b) →
    ((es.foldl Ent.add acc).cal.map (·.1)).Nodup ∧ (∀ q ∈ (es.foldl Ent.add acc).cal, q.2.isFour = b) ∧ (es.foldl Ent.add acc).cal.length ≤ acc.cal.length + es.length
  | [], acc, _, h1, h2 => ⟨h1, h2, Nat.le_refl _⟩
  | e :: es, acc, h, h1, h2 => by
    obtain ⟨a1, a2⟩ := h e (.head _)
    have ih := fold_ok es (acc.add e) (fun x hx => h x (.tail _ hx)) (addCal_nd h1) (addCal_four a1 h2)
    refine ⟨ih.1, ih.2.1, Nat.le_trans ih.2.2 ?_⟩
    have : (acc.add e).cal.length ≤ acc.cal.length + e.cal.length := addCal_len
    rw [List.length_cons]; lia
theorem total_ok {b : Bool} {l : List Evt} (h : ∀ e ∈ l, EvOk b e) (hl : l.length ≤ 50) (t : Str) : (totalT l t).Ok b := by
  have := fold_ok (b := b) ((l.filter (ofT t)).map (·.en)) ent0 (fun x hx => by
    obtain ⟨e, he, rfl⟩ := List.mem_map.mp hx
    have := h e (List.mem_filter.mp he).1
    exact ⟨this.four, this.one⟩) List.nodup_nil (fun q hq => nomatch hq)
  refine ⟨this.1, this.2.1, Nat.le_trans this.2.2 ?_⟩
  have h1 := List.length_filter_le (ofT t) l
  rw [List.length_map]
  show 0 + _ ≤ 100
  lia
theorem step_ok {b : Bool} {keys : Keys} (hk : KeysOk keys) {l : List Evt} {st : KS} (A : BookA l st) (B : BookB keys l st) (hl : l.length ≤ 50) (hall : ∀ x ∈ l, EvOk b x) {e : Evt} (he : EvOk b e) : StepOk b keys st e (bookPlc keys st e) := by
  obtain ⟨p1, p2, p3⟩ := names_place A.sorted e.fn.text
  obtain ⟨_, b1, a1, r1⟩ := bookB_next hk A B e
  have hrow : rowOf (sumAt st e (bookPlc keys st e)) e.fn = rowIn st e := rfl
  exact {
    hk := plc_le _ _
    hl := p1
    hn := rfl
    hr := fun hn => by
      by_cases h : e.fn.text ∈ st.names
      · have : (bookPlc keys st e).new = false := (p2 h).1
        rw [this] at hn; cases hn
      · exact (p3 h).2.1
    fn := he.fn
    nm := he.nm
    ok1 := by
      have := (book_sum A e).1
      show ((sumsIn st (plc0 st e)).getD (plc0 st e).k ent0).Ok b
      rw [this]; exact total_ok hall hl _
    ok2 := he.en
    r8 := fun r hr => by
      obtain ⟨x, f, rfl⟩ := r1 r hr
      exact ⟨rfl, rowOf_alike _ _ _ _⟩
    hcb := plc_le _ _
    hb := b1
    hca := plc_le _ _
    ha := a1 }
theorem book_inv {b : Bool} {keys : Keys} (hk : KeysOk keys) {evs : List Evt} (hl : evs.length ≤ 50) (hall : ∀ x ∈ evs, EvOk b x) : ∀ k, k ≤ evs.length → BookA (evs.take k) (bookAt keys evs k) ∧ BookB keys (evs.take k) (bookAt keys evs k)
  | 0, _ => ⟨⟨List.Pairwise.nil, fun t => ⟨fun h => (nomatch h), fun ⟨_, h, _⟩ => (nomatch h)⟩, rfl, fun i t h => by simp [bookAt, KS.nil] at h⟩, ⟨[], rfl, .nil, .nil⟩, ⟨[], rfl, .nil, .nil⟩⟩
  | k + 1, h => by
    obtain ⟨A, B⟩ := book_inv hk hl hall k (by lia)
    have e1 : evs.take (k + 1) = evs.take k ++ [evs.getD k evt0] := by
      rw [List.take_succ_eq_append_getElem (by lia), List.getD_eq_getElem?_getD, List.getElem?_eq_getElem (by lia)]; rfl
    rw [e1]
    exact ⟨book_next A _ rfl rfl, (bookB_next hk A B _).1⟩
theorem book_steps {b : Bool} {keys : Keys} (hk : KeysOk keys) {evs : List Evt} (hl : evs.length ≤ 50) (hall : ∀ x ∈ evs, EvOk b x) : ∀ k e, evs[k]? = some e → StepOk b keys (bookAt keys evs k) e (bookPlc keys (bookAt keys evs k) e) ∧ bookAt keys evs (k + 1) = (bookAt keys evs k).next e (bookPlc keys (bookAt keys evs k) e) := fun k e he => by
  have hlt := (List.getElem?_eq_some_iff.mp he).1
  obtain ⟨A, B⟩ := book_inv hk hl hall k (by lia)
  have e1 : evs.getD k evt0 = e := by rw [List.getD_eq_getElem?_getD, he]; rfl
  refine ⟨step_ok hk A B (by rw [List.length_take]; lia) (fun x hx => hall x (List.mem_of_mem_take hx)) (hall e (List.mem_of_getElem? he)), ?_⟩
  rw [bookAt, e1]
theorem book_stepsAt {b : Bool} {keys : Keys} (hk : KeysOk keys) {evs : List Evt} (hl : evs.length ≤ 50) (hall : ∀ x ∈ evs, EvOk b x) : ∀ k, k ≤ evs.length → (bookAt keys evs k).steps = (List.range k).map fun j => totalT (evs.take (j + 1)) (evs.getD j evt0).fn.text
  | 0, _ => rfl
  | k + 1, h => by
    have ih := book_stepsAt hk hl hall k (by lia)
    obtain ⟨A, B⟩ := book_inv hk hl hall k (by lia)
    rw [List.range_succ, List.map_append, ← ih]
    show (bookAt keys evs k).steps ++ [sumAt _ _ (plc0 _ _)] = _
    rw [book_sumAt A]
    have e1 : evs.take (k + 1) = evs.take k ++ [evs.getD k evt0] := by
      rw [List.take_succ_eq_append_getElem (by lia), List.getD_eq_getElem?_getD, List.getElem?_eq_getElem (by lia)]; rfl
    rw [List.map_singleton, e1]
end
section
section
variable {b : Bool}
theorem mine_eq {l : List Evt} (h : ∀ x ∈ l, EvOk b x) {e : Evt} (he : EvOk b e) : mineOf l e.fn = (l.filter (ofT e.fn.text)).map (·.en) := by
  unfold mineOf
  congr 1
  refine List.filter_congr fun x hx => ?_
  rw [Bool.eq_iff_iff, fnEq_text (h x hx) he]
  unfold ofT; simp
theorem lt4 {k : Nat} (hk : k < 4) : k = 0 ∨ k = 1 ∨ k = 2 ∨ k = 3 := by lia
theorem add_part (t s : Ent) (k : Nat) (hk : k < 4) : (t.add s).part k = s.part k + t.part k := by
  rcases lt4 hk with rfl | rfl | rfl | rfl <;> rfl
theorem fold_part (k : Nat) (hk : k < 4) : ∀ (es : List Ent) (acc : Ent), (es.foldl Ent.add acc).part k = acc.part k + (es.map fun x : Ent => x.part k).sum
  | [], acc => by simp
  | e :: es, acc => by
    rw [List.foldl_cons, fold_part k hk es, add_part _ _ _ hk, List.map_cons, List.sum_cons]; lia
theorem total_part {l : List Evt} {t : Str} (k : Nat) (hk : k < 4) : (totalT l t).part k = (((l.filter (ofT t)).map (·.en)).map fun x : Ent => x.part k).sum := by
  unfold totalT
  rw [fold_part k hk]
  have : ent0.part k = 0 := by
    rcases lt4 hk with rfl | rfl | rfl | rfl <;> rfl
  rw [this, Int.zero_add]
theorem total_nums {l : List Evt} (h : ∀ x ∈ l, EvOk b x) {e : Evt} (he : EvOk b e) :
    (totalT l e.fn.text).cc = ((mineOf l e.fn).map fun x : Ent => x.part 0).sum ∧ (totalT l e.fn.text).nc = ((mineOf l e.fn).map fun x : Ent => x.part 1).sum ∧ (totalT l e.fn.text).tt = ((mineOf l e.fn).map fun x : Ent => x.part 2).sum ∧ (totalT l e.fn.text).ct = ((mineOf l e.fn).map fun x : Ent => x.part 3).sum := by
  rw [mine_eq h he]
  exact ⟨total_part 0 (by decide), total_part 1 (by decide), total_part 2 (by decide), total_part 3 (by decide)⟩
theorem entSum_eq {l : List Evt} (h : ∀ x ∈ l, EvOk b x) {e : Evt} (he : EvOk b e) : entSum (mineOf l e.fn) = .tup [.int (totalT l e.fn.text).cc, .int (totalT l e.fn.text).nc, .int (totalT l e.fn.text).tt, .int (totalT l e.fn.text).ct] := by
  refine ngI fun hNg => ?_
  obtain ⟨a, c, d, f⟩ := total_nums h he
  refine ngE hNg ?_
  rw [a, c, d, f]; rfl
theorem row_eq {l : List Evt} (h : ∀ x ∈ l, EvOk b x) {e : Evt} (he : EvOk b e) : rowAt l e.fn = rowOf (totalT l e.fn.text) e.fn := by
  obtain ⟨a, c, d, f⟩ := total_nums h he
  unfold rowAt rowOf
  rw [a, c, d, f]; rfl
theorem getD_ok {l : List Evt} (h : ∀ x ∈ l, EvOk b x) {k : Nat} (hk : k < l.length) : EvOk b (l.getD k evt0) := by
  rw [List.getD_eq_getElem?_getD, List.getElem?_eq_getElem hk]; exact h _ (List.getElem_mem _)
theorem lasts_eq {l : List Evt} (h : ∀ x ∈ l, EvOk b x) : lastsOf l = lastT l := by
  unfold lastsOf lastT
  refine List.filter_congr fun k hk => ?_
  have hk := List.mem_range.mp hk
  congr 1
  refine List.filter_congr fun x hx => ?_
  rw [Bool.eq_iff_iff, fnEq_text (h x (List.mem_of_mem_drop hx)) (getD_ok h hk)]
  unfold ofT; simp
theorem rowsOf_eq {l : List Evt} (h : ∀ x ∈ l, EvOk b x) : rowsOf l = (lastT l).map fun t => (trow l t).1 := by
  unfold rowsOf
  rw [lasts_eq h]
  exact List.map_congr_left fun t ht => row_eq h (getD_ok h (lastT_lt ht))
theorem nc_bound {l : List Evt} (h : ∀ x ∈ l, EvOk b x) (hl : l.length ≤ 50) {e : Evt} (he : EvOk b e) : ((mineOf l e.fn).map fun x : Ent => x.part 1).sum.natAbs ≤ 1000 := by
  have : ∀ es : List Ent, (∀ x ∈ es, 0 ≤ x.nc ∧ x.nc ≤ 2) → 0 ≤ (es.map fun x : Ent => x.part 1).sum ∧ (es.map fun x : Ent => x.part 1).sum ≤ 2 * es.length := fun es => by
    induction es with
    | nil => intro _; exact ⟨Int.le_refl _, Int.le_refl _⟩
    | cons x es ih =>
      intro hh
      obtain ⟨i1, i2⟩ := ih fun y hy => hh y (.tail _ hy)
      obtain ⟨j1, j2⟩ := hh x (.head _)
      have e1 : x.part 1 = x.nc := rfl
      rw [List.map_cons, List.sum_cons, e1, List.length_cons]
      push_cast
      lia
  obtain ⟨a, c⟩ := this (mineOf l e.fn) fun x hx => by
    obtain ⟨y, hy, rfl⟩ := List.mem_map.mp hx
    exact (h y (List.mem_filter.mp hy).1).nc
  have hm : (mineOf l e.fn).length ≤ l.length := by
    unfold mineOf; rw [List.length_map]; exact List.length_filter_le _ _
  lia
theorem rows8 {l : List Evt} (h : ∀ x ∈ l, EvOk b x) : Rows8 (rowsOf l) := by
  have hr : ∀ r ∈ rowsOf l, ∃ (x : Ent) (f : Fnc), r = rowOf x f := fun r hr => by
    obtain ⟨k, _, rfl⟩ := List.mem_map.mp hr
    exact ⟨_, _, rfl⟩
  refine ⟨fun r hr' => ?_, fun r hr1 r' hr2 => ?_⟩
  · obtain ⟨x, f, rfl⟩ := hr r hr'; rfl
  · obtain ⟨x, f, rfl⟩ := hr r hr1
    obtain ⟨x', f', rfl⟩ := hr r' hr2
    exact rowOf_alike _ _ _ _
end
end
section
theorem lastT_inc (l : List Evt) : (lastT l).Pairwise (· < ·) := List.Pairwise.filter _ List.pairwise_lt_range
theorem idx_of {T : List Nat} {t : Nat} (h : t ∈ T) : ∃ hi : T.idxOf t < T.length, T[T.idxOf t] = t := ⟨List.idxOf_lt_length_of_mem h, List.getElem_idxOf _⟩
theorem idx_lt {T : List Nat} (inc : T.Pairwise (· < ·)) {a c : Nat} (ha : a ∈ T) (hc : c ∈ T) (h : a < c) : T.idxOf a < T.idxOf c := by
  obtain ⟨i1, i2⟩ := idx_of ha
  obtain ⟨j1, j2⟩ := idx_of hc
  refine Classical.byContradiction fun n => ?_
  rcases Nat.lt_or_ge (T.idxOf c) (T.idxOf a) with k | k
  · have := List.pairwise_iff_getElem.mp inc _ _ j1 i1 k
    rw [i2, j2] at this; omega
  · have e : T.idxOf a = T.idxOf c := by omega
    have : a = c := by rw [← i2, ← j2]; simp only [e]
    omega
theorem idx_range {T : List Nat} (inc : T.Pairwise (· < ·)) : T.map (T.idxOf ·) = List.range T.length := by
  refine List.ext_getElem (by simp) fun i h1 h2 => ?_
  have hi : i < T.length := by simpa using h1
  rw [List.getElem_map, List.getElem_range]
  obtain ⟨j1, j2⟩ := idx_of (List.getElem_mem hi)
  rcases Nat.lt_trichotomy (T.idxOf T[i]) i with k | k | k
  · have := List.pairwise_iff_getElem.mp inc _ _ j1 hi k
    rw [j2] at this; omega
  · exact k
  · have := List.pairwise_iff_getElem.mp inc _ _ hi j1 k
    rw [j2] at this; omega
section
variable {b : Bool} {keys : Keys} {l : List Evt}
theorem told0 (hk : KeysOk keys) (h : ∀ x ∈ l, EvOk b x) {B : List TRow} (hB : B.Perm ((lastT l).map (trow l))) (hp : B.Pairwise (Behind keys)) :
    Ord (lexLt keys.length (ranksOf (rowsOf l) keys)) (rowsOf l).length (B.map fun r => (lastT l).idxOf r.2) ∧ (B.map fun r => (lastT l).idxOf r.2).map (fun i => (rowsOf l).getD i []) = B.map (·.1) := by
  have hm : ∀ r ∈ B, r.2 ∈ lastT l ∧ (rowsOf l).getD ((lastT l).idxOf r.2) [] = r.1 := fun r hr => by
    obtain ⟨t, ht, rfl⟩ := mem_trow hB hr
    refine ⟨ht, ?_⟩
    obtain ⟨i1, i2⟩ := idx_of ht
    rw [rowsOf_eq h, List.getD_eq_getElem?_getD, List.getElem?_map]
    show (Option.map _ (lastT l)[(lastT l).idxOf t]?).getD [] = _
    rw [List.getElem?_eq_getElem i1, i2]; rfl
  have hlen : (rowsOf l).length = (lastT l).length := by rw [rowsOf_eq h, List.length_map]
  refine told_of (rows8 h) hk ?_ ?_ ?_
  · rw [hlen, ← idx_range (lastT_inc l)]
    have := hB.map fun r : TRow => (lastT l).idxOf r.2
    rw [List.map_map] at this
    exact this
  · refine List.pairwise_map.mpr (List.Pairwise.imp_of_mem (fun {x y} hx hy r => ?_) hp)
    rw [(hm x hx).2, (hm y hy).2]
    rcases r with r | r
    · exact .inl r
    · exact .inr ⟨r.1, idx_lt (lastT_inc l) (hm x hx).1 (hm y hy).1 r.2⟩
  · rw [List.map_map]
    exact List.map_congr_left fun r hr => (hm r hr).2
theorem told1 (hk : KeysOk keys) (h : ∀ x ∈ l, EvOk b x) {B : List TRow} (hB : B.Perm ((lastT l).map (trow l))) (hp : B.Pairwise (Ahead keys)) :
    Ord (lexLt keys.length (ranksOf (rowsOf l).reverse keys)) (rowsOf l).reverse.length (B.map fun r => (lastT l).length - 1 - (lastT l).idxOf r.2) ∧ (B.map fun r => (lastT l).length - 1 - (lastT l).idxOf r.2).map (fun i => (rowsOf l).reverse.getD i []) = B.map (·.1) := by
  have hlen : (rowsOf l).length = (lastT l).length := by rw [rowsOf_eq h, List.length_map]
  have hm : ∀ r ∈ B, r.2 ∈ lastT l ∧ (rowsOf l).reverse.getD ((lastT l).length - 1 - (lastT l).idxOf r.2) [] = r.1 := fun r hr => by
    obtain ⟨t, ht, rfl⟩ := mem_trow hB hr
    refine ⟨ht, ?_⟩
    obtain ⟨i1, i2⟩ := idx_of ht
    show (rowsOf l).reverse.getD ((lastT l).length - 1 - (lastT l).idxOf t) [] = _
    rw [List.getD_eq_getElem?_getD, List.getElem?_reverse (by omega), hlen, show (lastT l).length - 1 - ((lastT l).length - 1 - (lastT l).idxOf t) = (lastT l).idxOf t by omega, rowsOf_eq h, List.getElem?_map, List.getElem?_eq_getElem i1, i2]; rfl
  have hR : Rows8 (rowsOf l).reverse := by
    have := rows8 h
    exact ⟨fun r hr => this.1 r (List.mem_reverse.mp hr), fun r hr r' hr' => this.2 r (List.mem_reverse.mp hr) r' (List.mem_reverse.mp hr')⟩
  refine told_of hR hk ?_ ?_ ?_
  · rw [List.length_reverse, hlen]
    have h1 := hB.map fun r : TRow => (lastT l).idxOf r.2
    rw [List.map_map] at h1
    have h2 : (B.map fun r : TRow => (lastT l).idxOf r.2).Perm (List.range (lastT l).length) := by rw [← idx_range (lastT_inc l)]; exact h1
    have h3 := h2.map fun i => (lastT l).length - 1 - i
    rw [List.map_map] at h3
    refine h3.trans ?_
    have : (List.range (lastT l).length).map (fun i => (lastT l).length - 1 - i) = (List.range (lastT l).length).reverse := by
      refine List.ext_getElem (by simp) fun i a c => ?_
      simp
    rw [this]; exact List.reverse_perm _
  · refine List.pairwise_map.mpr (List.Pairwise.imp_of_mem (fun {x y} hx hy r => ?_) hp)
    rw [(hm x hx).2, (hm y hy).2]
    rcases r with r | r
    · exact .inl r
    · have h1 := idx_lt (lastT_inc l) (hm y hy).1 (hm x hx).1 r.2
      obtain ⟨i1, _⟩ := idx_of (hm x hx).1
      exact .inr ⟨r.1, by omega⟩
  · rw [List.map_map]
    exact List.map_congr_left fun r hr => (hm r hr).2
end
end
section
theorem last_mem : ∀ (n : Nat) (l : List Evt), l.length = n → ∀ t, (∃ e ∈ l, e.fn.text = t) → ∃ k ∈ lastT l, (l.getD k evt0).fn.text = t
  | 0, l, h, t, ⟨e, he, _⟩ => by rw [List.length_eq_zero_iff.mp h] at he; cases he
  | n + 1, l, h, t, ⟨e, he, ht⟩ => by
    obtain ⟨l', x, rfl⟩ : ∃ l' x, l = l' ++ [x] := by
      rcases List.eq_nil_or_concat l with rfl | ⟨l', x, e⟩
      · cases h
      · exact ⟨l', x, by rw [e]; simp⟩
    rw [lastT_snoc]
    by_cases hx : x.fn.text = t
    · exact ⟨l'.length, List.mem_append_right _ (.head _), by rw [getD_last]; exact hx⟩
    · have he' : e ∈ l' := by
        rcases List.mem_append.mp he with he | he
        · exact he
        · rw [List.mem_singleton.mp he] at ht; exact absurd ht hx
      obtain ⟨k, hk, hkt⟩ := last_mem n l' (by simpa using h) t ⟨e, he', ht⟩
      refine ⟨k, List.mem_append_left _ (List.mem_filter.mpr ⟨hk, ?_⟩), by rw [getD_snoc (lastT_lt hk)]; exact hkt⟩
      unfold ofT
      rw [hkt]; simpa using hx
theorem last_inj {l : List Evt} {k j : Nat} (hk : k ∈ lastT l) (hj : j ∈ lastT l) (h : k < j) (e : (l.getD k evt0).fn.text = (l.getD j evt0).fn.text) : False := by
  have h1 := (List.mem_filter.mp hk).2
  have hj' := lastT_lt hj
  have h2 : l.getD j evt0 ∈ (l.drop (k + 1)).filter (ofT (l.getD k evt0).fn.text) := by
    refine List.mem_filter.mpr ⟨?_, by unfold ofT; rw [e]; simp⟩
    refine List.mem_iff_getElem?.mpr ⟨j - (k + 1), ?_⟩
    rw [List.getElem?_drop, show k + 1 + (j - (k + 1)) = j by omega, List.getD_eq_getElem?_getD, List.getElem?_eq_getElem hj']; rfl
  rw [List.isEmpty_iff.mp h1] at h2; cases h2
noncomputable def textsOf (l : List Evt) : List Str := (lastT l).map fun t => (l.getD t evt0).fn.text
theorem texts_nd (l : List Evt) : (textsOf l).Nodup := by
  unfold textsOf
  refine List.pairwise_map.mpr (List.Pairwise.imp_of_mem (fun {a c} ha hc h e => last_inj ha hc h e) (lastT_inc l))
theorem texts_mem {l : List Evt} {t : Str} : t ∈ textsOf l ↔ ∃ e ∈ l, e.fn.text = t := by
  constructor
  · intro h
    obtain ⟨k, hk, rfl⟩ := List.mem_map.mp h
    have := lastT_lt hk
    exact ⟨l.getD k evt0, by rw [List.getD_eq_getElem?_getD, List.getElem?_eq_getElem this]; exact List.getElem_mem _, rfl⟩
  · intro h
    obtain ⟨k, hk, e⟩ := last_mem _ l rfl t h
    exact List.mem_map.mpr ⟨k, hk, e⟩
theorem texts_eq {b : Bool} {l : List Evt} (h : ∀ x ∈ l, EvOk b x) : ((rowsOf l).map fun r => strOf (r.getD 7 .none)) = textsOf l := by
  rw [rowsOf_eq h, List.map_map]; rfl
theorem names_ord {L T : List Str} (hs : L.Pairwise fun a b => lessS a b = true) (nd : T.Nodup) (hm : ∀ t, t ∈ L ↔ t ∈ T) :
    Ord (strLt T) T.length (L.map (T.idxOf ·)) ∧ L = (L.map (T.idxOf ·)).map fun i => T.getD i "" := by
  have ndL : L.Nodup := hs.imp fun {a b} h e => by rw [e, lessS_irrefl] at h; cases h
  have pm : L.Perm T := (List.perm_ext_iff_of_nodup ndL nd).mpr hm
  have ix : ∀ t ∈ T, T.getD (T.idxOf t) "" = t := fun t ht => by
    rw [List.getD_eq_getElem?_getD, List.getElem?_eq_getElem (List.idxOf_lt_length_of_mem ht), List.getElem_idxOf]; rfl
  refine ⟨⟨?_, ?_⟩, ?_⟩
  · have : T.map (T.idxOf ·) = List.range T.length := List.ext_getElem (by simp) fun i h1 h2 => by
      have hi : i < T.length := by simpa using h1
      rw [List.getElem_map, List.getElem_range]
      have j1 := List.idxOf_lt_length_of_mem (List.getElem_mem hi)
      have j2 : T[T.idxOf T[i]] = T[i] := List.getElem_idxOf _
      exact (List.getElem_inj nd).mp j2
    rw [← this]
    exact pm.map _
  · refine List.pairwise_map.mpr (List.Pairwise.imp_of_mem (fun {a c} ha hc h => .inl ?_) hs)
    unfold strLt
    rw [ix a ((hm a).mp ha), ix c ((hm c).mp hc)]
    exact h
  · rw [List.map_map]
    exact (List.map_id L).symm.trans (List.map_congr_left fun t ht => (ix t ((hm t).mp ht)).symm)
end
section
theorem ord_ex {lt : Nat → Nat → Bool} (L : LtOk lt) (n : Nat) (h2 : n ≤ 2) : ∃ p, Ord lt n p := by
  match n, h2 with
  | 0, _ => exact ⟨[], .refl _, .nil⟩
  | 1, _ => exact ⟨[0], .refl _, List.pairwise_singleton ..⟩
  | 2, _ =>
    cases h : lt 1 0 with
    | false => exact ⟨[0, 1], .refl _, List.pairwise_cons.mpr ⟨fun y hy => by rw [List.mem_singleton.mp hy]; exact .inr ⟨h, by decide⟩, List.pairwise_singleton ..⟩⟩
    | true => exact ⟨[1, 0], List.Perm.swap 0 1 [], List.pairwise_cons.mpr ⟨fun y hy => by rw [List.mem_singleton.mp hy]; exact .inl h, List.pairwise_singleton ..⟩⟩
theorem first_has {mine : List Ent} {who : Str} {k : Nat} (h : k ∈ firstOf mine who) : hasC who (mine.getD k ent0) = true := (List.mem_filter.mp h).2
theorem hasC_both {b : Bool} {e : Evt} (h : EvOk b e) {f : Fnc} (hf : f.text = e.fn.text) (h1 : hasC b1g e.en = true) (h2 : hasC f.text e.en = true) : False := by
  rw [hf] at h2
  unfold hasC lookC at h1 h2
  have nb := h.notB
  rcases h.cal with c | ⟨c, _, d | d⟩
  · rw [c] at h1; cases h1
  · rw [d] at h2
    simp [Ne.symm nb] at h2
  · rw [d] at h1
    simp [nb] at h1
theorem led_ok {b : Bool} {l : List Evt} (h : ∀ x ∈ l, EvOk b x) {e : Evt} (he : EvOk b e) : ∃ p, LedOk b l e.fn p := by
  obtain ⟨p, hp⟩ := ord_ex (intLt_ok ((ledRows b (mineOf l e.fn) e.fn.text).map fun r => (r.at_ : Int))) (ledRows b (mineOf l e.fn) e.fn.text).length (List.length_filterMap_le _ _)
  refine ⟨p, ?_, hp⟩
  have key : ∀ r1 r2, ledRow b (mineOf l e.fn) b1g = some r1 → ledRow b (mineOf l e.fn) e.fn.text = some r2 → r1.at_ ≠ r2.at_ := fun r1 r2 h1 h2 eq => by
    unfold ledRow at h1 h2
    split at h1 <;> cases h1
    split at h2 <;> cases h2
    rename_i n1 n2
    rw [Bool.not_eq_true] at n1 n2
    obtain ⟨_, _, i, is, _, hi⟩ := isEmpty_counts n1
    obtain ⟨_, _, j, js, _, hj⟩ := isEmpty_counts n2
    simp only [hi, hj, List.headD_cons] at eq
    subst eq
    have a1 := first_has (who := b1g) (mine := mineOf l e.fn) (k := i) (by rw [hi]; exact .head _)
    have a2 := first_has (who := e.fn.text) (mine := mineOf l e.fn) (k := i) (by rw [hj]; exact .head _)
    have hlt : i < (mineOf l e.fn).length := List.mem_range.mp (List.mem_filter.mp (show i ∈ firstOf (mineOf l e.fn) b1g by rw [hi]; exact .head _)).1
    have hm : (mineOf l e.fn).getD i ent0 ∈ mineOf l e.fn := by
      rw [List.getD_eq_getElem?_getD, List.getElem?_eq_getElem hlt]; exact List.getElem_mem _
    obtain ⟨x, hx, hxe⟩ := List.mem_map.mp hm
    obtain ⟨hx1, hx2⟩ := List.mem_filter.mp hx
    rw [← hxe] at a1 a2
    exact hasC_both (h x hx1) (f := e.fn) ((fnEq_text (h x hx1) he).mp hx2).symm a1 a2
  intro i j hi hj ne
  unfold ledRows at hi hj ⊢
  cases c1 : ledRow b (mineOf l e.fn) b1g with
  | none =>
    cases c2 : ledRow b (mineOf l e.fn) e.fn.text with
    | none => simp [c1, c2] at hi
    | some r2 => simp [c1, c2] at hi hj; lia
  | some r1 =>
    cases c2 : ledRow b (mineOf l e.fn) e.fn.text with
    | none => simp [c1, c2] at hi hj; lia
    | some r2 =>
      have k := key r1 r2 c1 c2
      simp [c1, c2] at hi hj ⊢
      match i, j, hi, hj, ne with
      | 0, 1, _, _, _ => simp; lia
      | 1, 0, _, _, _ => simp; lia
      | 0, 0, _, _, ne => exact absurd rfl ne
      | 1, 1, _, _, ne => exact absurd rfl ne
end
section
theorem sumC_one {b : Bool} {c : Cnt} (h : c.isFour = b) : sumC b [c] = c := by
  cases c with
  | one i => cases b with
    | true => cases h
    | false => simp [sumC, Cnt.part]
  | four a1 a2 a3 a4 => cases b with
    | false => cases h
    | true => simp [sumC, Cnt.part]
theorem sumC_snoc {b : Bool} {cs : List Cnt} {c : Cnt} (h : c.isFour = b) : sumC b (cs ++ [c]) = (sumC b cs).add c := by
  cases c with
  | one i => cases b with
    | true => cases h
    | false => simp [sumC, Cnt.part, Cnt.add]
  | four a1 a2 a3 a4 => cases b with
    | false => cases h
    | true => simp [sumC, Cnt.part, Cnt.add]
theorem cnts_snoc {es : List Ent} {e : Ent} {who : Str} : cntsOf (es ++ [e]) who = cntsOf es who ++ (lookC e.cal who).toList := by
  unfold cntsOf
  rw [List.filter_append, List.map_append]
  congr 1
  unfold hasC
  cases h : lookC e.cal who <;> simp [h]
theorem first_snoc {es : List Ent} {e : Ent} {who : Str} : firstOf (es ++ [e]) who = firstOf es who ++ (if hasC who e = true then [es.length] else []) := by
  unfold firstOf
  rw [List.length_append, List.length_singleton, List.range_succ, List.filter_append]
  congr 1
  · refine List.filter_congr fun k hk => ?_
    have hk := List.mem_range.mp hk
    rw [List.getD_eq_getElem?_getD, List.getElem?_append_left hk, List.getD_eq_getElem?_getD]
  · have : (es ++ [e]).getD es.length ent0 = e := by rw [List.getD_eq_getElem?_getD, List.getElem?_append_right (Nat.le_refl _), Nat.sub_self]; rfl
    rw [List.filter_cons, this]; rfl
end
section
noncomputable def CalIs (b : Bool) (mine : List Ent) (ws : List Str) (cal : Cal) : Prop :=
  cal = ws.map (fun w => (w, sumC b (cntsOf mine w))) ∧ (∀ w, w ∈ ws ↔ (cntsOf mine w).isEmpty = false) ∧ ws.Pairwise fun a c => (firstOf mine a).headD 0 < (firstOf mine c).headD 0
theorem CalIs.nd {b : Bool} {mine : List Ent} {ws : List Str} {cal : Cal} (h : CalIs b mine ws cal) : ws.Nodup := h.2.2.imp fun h e => by rw [e] at h; exact absurd h (Nat.lt_irrefl _)
theorem first_of_in {b : Bool} {mine : List Ent} {ws : List Str} {cal : Cal} (h : CalIs b mine ws cal) {w : Str} (hw : w ∈ ws) : ∃ k ks, firstOf mine w = k :: ks ∧ k < mine.length := by
  refine ngI fun hNg => ?_
  obtain ⟨_, _, k, ks, _, e⟩ := isEmpty_counts ((h.2.1 w).mp hw)
  refine ngE hNg ?_
  refine ⟨k, ks, e, ?_⟩
  have : k ∈ firstOf mine w := by rw [e]; exact .head _
  exact List.mem_range.mp (List.mem_filter.mp this).1
theorem lookC_ws {g : Str → Cnt} {who : Str} : ∀ {ws : List Str}, lookC (ws.map fun w => (w, g w)) who = if who ∈ ws then some (g who) else none
  | [] => rfl
  | w :: ws => by
    unfold lookC
    rw [List.map_cons, List.find?_cons]
    by_cases h : w = who
    · subst h; simp
    · have hd : decide ((w, g w).1 = who) = false := by simpa using h
      rw [hd]
      have ih := lookC_ws (g := g) (who := who) (ws := ws)
      unfold lookC at ih
      show Option.map _ (List.find? _ _) = _
      rw [ih]
      by_cases h2 : who ∈ ws
      · rw [if_pos h2, if_pos (List.mem_cons_of_mem _ h2)]
      · rw [if_neg h2, if_neg (fun x => (List.mem_cons.mp x).elim (fun y => h y.symm) h2)]
theorem putC_in {g : Str → Cnt} {who : Str} {c : Cnt} {ws : List Str} (h : who ∈ ws) : putC (ws.map fun w => (w, g w)) who c = ws.map fun w => (w, if w = who then c else g w) := by
  unfold putC
  rw [if_pos (List.any_eq_true.mpr ⟨(who, g who), List.mem_map.mpr ⟨who, h, rfl⟩, by simp⟩), List.map_map]
  refine List.map_congr_left fun w zz => ?_
  show (if w = who then (w, c) else (w, g w)) = _
  split <;> rfl
theorem putC_out {g : Str → Cnt} {who : Str} {c : Cnt} {ws : List Str} (h : who ∉ ws) : putC (ws.map fun w => (w, g w)) who c = (ws.map fun w => (w, g w)) ++ [(who, c)] := by
  unfold putC
  rw [if_neg]
  intro x
  obtain ⟨q, hq, e⟩ := List.any_eq_true.mp x
  obtain ⟨w, hw, rfl⟩ := List.mem_map.mp hq
  have : w = who := by simpa using e
  exact h (this ▸ hw)
theorem look_one {who w : Str} {c : Cnt} : lookC [(who, c)] w = if w = who then some c else none := by
  have := lookC_ws (g := fun zz => c) (who := w) (ws := [who])
  show lookC ([who].map fun w => (w, c)) w = _
  rw [this]
  simp
theorem CalIs.next {b : Bool} {mine : List Ent} {ws : List Str} {cal : Cal} (h : CalIs b mine ws cal) {e : Ent} (he : e.cal = [] ∨ ∃ who c, c.isFour = b ∧ e.cal = [(who, c)]) : ∃ ws', CalIs b (mine ++ [e]) ws' (addCal cal e.cal) := by
  have keep : ∀ {w}, w ∈ ws → (firstOf (mine ++ [e]) w).headD 0 = (firstOf mine w).headD 0 := fun {w} hw => by
    refine ngI fun hNg => ?_
    obtain ⟨k, ks, e1, _⟩ := first_of_in h hw
    refine ngE hNg ?_
    rw [first_snoc, e1]; rfl
  have inc : ws.Pairwise fun a c => (firstOf (mine ++ [e]) a).headD 0 < (firstOf (mine ++ [e]) c).headD 0 := h.2.2.imp_of_mem fun ha hc x => by rw [keep ha, keep hc]; exact x
  rcases he with he | ⟨who, c, hc, he⟩
  · have same : ∀ w, cntsOf (mine ++ [e]) w = cntsOf mine w := fun w => by rw [cnts_snoc, he]; exact List.append_nil _
    refine ⟨ws, ?_, fun w => by rw [same]; exact h.2.1 w, inc⟩
    rw [he]
    show cal = _
    rw [h.1]
    exact List.map_congr_left fun w zz => by rw [same]
  · have cs : ∀ w, cntsOf (mine ++ [e]) w = if w = who then cntsOf mine w ++ [c] else cntsOf mine w := fun w => by
      rw [cnts_snoc, he, look_one]
      split
      · rfl
      · exact List.append_nil _
    have hadd : addCal cal e.cal = addC1 cal (who, c) := by rw [he]; rfl
    rw [hadd]
    unfold addC1
    rw [h.1, lookC_ws]
    by_cases hw : who ∈ ws
    · rw [if_pos hw]
      refine ⟨ws, ?_, fun w => ?_, inc⟩
      · show putC _ who ((sumC b (cntsOf mine who)).add c) = _
        rw [putC_in hw]
        refine List.map_congr_left fun w zz => ?_
        rw [cs w]
        split
        · rename_i e1; rw [sumC_snoc hc, e1]
        · rfl
      · rw [cs w]
        split
        · rename_i e1
          constructor
          · intro _; simp
          · intro _; rw [e1]; exact hw
        · exact h.2.1 w
    · rw [if_neg hw]
      have hno : cntsOf mine who = [] := by
        cases hx : (cntsOf mine who).isEmpty with
        | true => exact List.isEmpty_iff.mp hx
        | false => exact absurd ((h.2.1 who).mpr hx) hw
      refine ⟨ws ++ [who], ?_, fun w => ?_, ?_⟩
      · show putC _ who c = _
        rw [putC_out hw, List.map_append]
        congr 1
        · refine List.map_congr_left fun w hw' => ?_
          rw [cs w, if_neg (show ¬ w = who from fun e1 => hw (e1 ▸ hw'))]
        · rw [List.map_singleton, cs who, if_pos rfl, hno]
          exact congrArg (fun x => [(who, x)]) (sumC_one hc).symm
      · rw [cs w, List.mem_append, List.mem_singleton]
        split
        · rename_i e1
          exact ⟨fun zz => by simp, fun zz => .inr e1⟩
        · rename_i e1
          rw [← h.2.1 w]
          exact ⟨fun x => x.elim id fun y => absurd y e1, .inl⟩
      · refine List.pairwise_append.mpr ⟨inc, List.pairwise_singleton .., fun a ha x hx => ?_⟩
        rw [List.mem_singleton.mp hx, keep ha]
        refine ngI fun hNg => ?_
        obtain ⟨k, ks, e1, hk⟩ := first_of_in h ha
        refine ngE hNg ?_
        have hf : firstOf mine who = [] := by
          refine List.eq_nil_iff_forall_not_mem.mpr fun k hk => ?_
          have h1 := first_has hk
          have h2 := List.mem_range.mp (List.mem_filter.mp hk).1
          have : cntsOf mine who ≠ [] := by
            unfold cntsOf
            refine fun x => ?_
            have x := List.map_eq_nil_iff.mp x
            have m : mine.getD k ent0 ∈ mine.filter (hasC who) := List.mem_filter.mpr ⟨by rw [List.getD_eq_getElem?_getD, List.getElem?_eq_getElem h2]; exact List.getElem_mem _, h1⟩
            rw [x] at m; cases m
          exact this hno
        have hh : hasC who e = true := by unfold hasC; rw [he, look_one, if_pos rfl]; rfl
        rw [e1, first_snoc, hf, hh]
        exact hk
theorem cal_is {b : Bool} : ∀ (n : Nat) (mine : List Ent), mine.length = n → (∀ e ∈ mine, e.cal = [] ∨ ∃ who c, c.isFour = b ∧ e.cal = [(who, c)]) → ∃ ws, CalIs b mine ws (mine.foldl Ent.add ent0).cal
  | 0, mine, h, _ => by
    rw [List.length_eq_zero_iff.mp h]
    exact ⟨[], rfl, fun w => ⟨fun x => (nomatch x), fun x => (nomatch x)⟩, .nil⟩
  | n + 1, mine, h, he => by
    rcases List.eq_nil_or_concat mine with rfl | ⟨m, e, rfl⟩
    · cases h
    · rw [List.concat_eq_append] at h he ⊢
      obtain ⟨ws, hw⟩ := cal_is n m (by simpa using h) fun x hx => he x (List.mem_append_left _ hx)
      obtain ⟨ws', hw'⟩ := hw.next (he e (List.mem_append_right _ (.head _)))
      refine ⟨ws', ?_⟩
      rw [List.foldl_append]
      exact hw'
noncomputable def rowW (b : Bool) (mine : List Ent) (w : Str) : Led := ⟨(firstOf mine w).headD 0, w, sumC b (cntsOf mine w)⟩
theorem ledRows_eq {b : Bool} {mine : List Ent} {text : Str} : ledRows b mine text = ([b1g, text].filter fun w => !(cntsOf mine w).isEmpty).map (rowW b mine) := by
  unfold ledRows
  generalize [b1g, text] = l
  induction l with
  | nil => rfl
  | cons w l ih =>
    rw [List.filterMap_cons, List.filter_cons]
    unfold ledRow
    cases h : (cntsOf mine w).isEmpty with
    | true => exact ih
    | false => exact congrArg _ ih
theorem led_items {b : Bool} {mine : List Ent} {text : Str} (hn : text ≠ b1g) {ws : List Str} {cal : Cal} (h : CalIs b mine ws cal) (hw : ∀ w ∈ ws, w = b1g ∨ w = text) {p : List Nat}
    (hp : Ord (intLt ((ledRows b mine text).map fun r => (r.at_ : Int))) (ledRows b mine text).length p) : (p.map fun i => V.tup ((ledRows b mine text).getD i led0).tl) = itemsV (calV cal) := by
  obtain ⟨F, hF⟩ : ∃ F, F = [b1g, text].filter fun w => !(cntsOf mine w).isEmpty := ⟨_, rfl⟩
  have hr : ledRows b mine text = F.map (rowW b mine) := by rw [hF]; exact ledRows_eq
  have ndF : F.Nodup := by rw [hF]; exact List.Pairwise.filter _ (show [b1g, text].Nodup by simp [Ne.symm hn])
  have pm : ws.Perm F := (List.perm_ext_iff_of_nodup h.nd ndF).mpr fun w => by
    rw [hF, List.mem_filter, Bool.not_eq_true', ← h.2.1 w]
    refine ⟨fun x => ⟨?_, x⟩, fun x => x.2⟩
    rcases hw w x with e | e <;> simp [e]
  have ix : ∀ w ∈ ws, (ledRows b mine text).getD (F.idxOf w) led0 = rowW b mine w := fun w hw => by
    have hm := pm.subset hw
    rw [hr, List.getD_eq_getElem?_getD, List.getElem?_map, List.getElem?_eq_getElem (List.idxOf_lt_length_of_mem hm), List.getElem_idxOf]; rfl
  have ixA : ∀ w ∈ ws, ((ledRows b mine text).map fun r => (r.at_ : Int)).getD (F.idxOf w) 0 = ((firstOf mine w).headD 0 : Nat) := fun w hw => by
    have hm := pm.subset hw
    rw [hr, List.map_map, List.getD_eq_getElem?_getD, List.getElem?_map, List.getElem?_eq_getElem (List.idxOf_lt_length_of_mem hm), List.getElem_idxOf]; rfl
  have o : Ord (intLt ((ledRows b mine text).map fun r => (r.at_ : Int))) (ledRows b mine text).length (ws.map (F.idxOf ·)) := by
    refine ⟨?_, List.pairwise_map.mpr (List.Pairwise.imp_of_mem (fun {a c} ha hc x => .inl ?_) h.2.2)⟩
    · have : F.map (F.idxOf ·) = List.range F.length := List.ext_getElem (by simp) fun i h1 h2 => by
        have hi : i < F.length := by simpa using h1
        rw [List.getElem_map, List.getElem_range]
        exact (List.getElem_inj ndF).mp (List.getElem_idxOf (List.idxOf_lt_length_of_mem (List.getElem_mem hi)))
      rw [hr, List.length_map, ← this]
      exact pm.map _
    · unfold intLt
      rw [ixA a ha, ixA c hc]
      exact decide_eq_true (by exact_mod_cast x)
  rw [Ord.uniq (intLt_ok _) hp o, List.map_map, h.1]
  unfold itemsV calV
  rw [List.map_map, List.map_map]
  exact List.map_congr_left fun w hw => by
    show V.tup ((ledRows b mine text).getD (F.idxOf w) led0).tl = _
    rw [ix w hw]; rfl
theorem led_eq {b : Bool} {l : List Evt} (h : ∀ x ∈ l, EvOk b x) {e : Evt} (he : EvOk b e) {p : List Nat} (hp : Ord (intLt ((ledRows b (mineOf l e.fn) e.fn.text).map fun r => (r.at_ : Int))) (ledRows b (mineOf l e.fn) e.fn.text).length p) :
    (p.map fun i => V.tup ((ledRows b (mineOf l e.fn) e.fn.text).getD i led0).tl) = itemsV (calV (totalT l e.fn.text).cal) := by
  have hm : ∀ x ∈ mineOf l e.fn, x.cal = [] ∨ ∃ c : Cnt, c.isFour = b ∧ (x.cal = [(b1g, c)] ∨ x.cal = [(e.fn.text, c)]) := fun x hx => by
    obtain ⟨y, hy, rfl⟩ := List.mem_map.mp hx
    obtain ⟨h1, h2⟩ := List.mem_filter.mp hy
    have := (h y h1).cal
    rw [(fnEq_text (h y h1) he).mp h2] at this
    exact this
  have hm' : ∀ x ∈ mineOf l e.fn, x.cal = [] ∨ ∃ who c, c.isFour = b ∧ x.cal = [(who, c)] := fun x hx => by
    rcases hm x hx with a | ⟨c, hc, a | a⟩
    · exact .inl a
    · exact .inr ⟨_, c, hc, a⟩
    · exact .inr ⟨_, c, hc, a⟩
  obtain ⟨ws, hw⟩ := cal_is _ (mineOf l e.fn) rfl hm'
  have ht : totalT l e.fn.text = (mineOf l e.fn).foldl Ent.add ent0 := by unfold totalT; rw [mine_eq h he]
  rw [ht]
  refine led_items he.notB hw (fun w hx => ?_) hp
  obtain ⟨c, cs, _, _, e1, _⟩ := isEmpty_counts ((hw.2.1 w).mp hx)
  unfold cntsOf at e1
  have : ∃ x, x ∈ (mineOf l e.fn).filter (hasC w) := by
    cases hz : (mineOf l e.fn).filter (hasC w) with
    | nil => rw [hz] at e1; cases e1
    | cons x _ => exact ⟨x, .head _⟩
  obtain ⟨x, hx⟩ := this
  obtain ⟨h1, h2⟩ := List.mem_filter.mp hx
  unfold hasC at h2
  rcases hm x h1 with a | ⟨c, hc, a | a⟩
  · rw [a] at h2; cases h2
  · rw [a, look_one] at h2
    split at h2
    · rename_i e2; exact .inl e2
    · cases h2
  · rw [a, look_one] at h2
    split at h2
    · rename_i e2; exact .inr e2
    · cases h2
end
section
noncomputable def Line (l : List Nat) : Prop := ∃ m, l = 9 :: (m ++ [10]) ∧ 9 ∉ m ∧ 10 ∉ m
theorem Line.pos {l : List Nat} (h : Line l) : 0 < l.length := by obtain ⟨m, rfl, _⟩ := h; simp
theorem line_first : ∀ {m m' r r' : List Nat}, 10 ∉ m → 10 ∉ m' → m ++ 10 :: r = m' ++ 10 :: r' → m = m' ∧ r = r'
  | [], [], _, _, _, _, h => ⟨rfl, (List.cons.inj h).2⟩
  | [], a :: m', _, _, _, h2, h => absurd (List.mem_cons.mpr (.inl (List.cons.inj h).1)) h2
  | a :: m, [], _, _, h1, _, h => absurd (List.mem_cons.mpr (.inl (List.cons.inj h).1.symm)) h1
  | a :: m, a' :: m', r, r', h1, h2, h => by
    obtain ⟨e1, e2⟩ := List.cons.inj h
    obtain ⟨e3, e4⟩ := line_first (fun x => h1 (.tail _ x)) (fun x => h2 (.tail _ x)) e2
    exact ⟨by rw [e1, e3], e4⟩
theorem line_cut {l l' r r' : List Nat} (h : Line l) (h' : Line l') (e : l ++ r = l' ++ r') : l = l' ∧ r = r' := by
  obtain ⟨m, rfl, _, a⟩ := h
  obtain ⟨m', rfl, _, a'⟩ := h'
  simp only [List.cons_append, List.append_assoc, List.nil_append, List.cons.injEq, true_and] at e
  obtain ⟨e1, e2⟩ := line_first a a' e
  exact ⟨by rw [e1], e2⟩
theorem lines_pre : ∀ {c ls : List (List Nat)}, (∀ l ∈ c, Line l) → (∀ l ∈ ls, Line l) → c.flatten <+: ls.flatten → c <+: ls
  | [], _, _, _, _ => List.nil_prefix
  | l :: c, [], hc, _, h => by
    have p := (hc l (.head _)).pos
    have h := h.length_le
    rw [List.flatten_cons, List.length_append, List.flatten_nil, List.length_nil] at h; lia
  | l :: c, l' :: ls, hc, hl, h => by
    obtain ⟨t, h⟩ := h
    rw [List.flatten_cons, List.flatten_cons, List.append_assoc] at h
    obtain ⟨e1, e2⟩ := line_cut (hc l (.head _)) (hl l' (.head _)) h
    subst e1
    exact List.cons_prefix_cons.mpr ⟨rfl, lines_pre (fun x hx => hc x (.tail _ hx)) (fun x hx => hl x (.tail _ hx)) ⟨t, e2⟩⟩
theorem line_in {m r : List Nat} {k x : Nat} {t : List Nat} (h9 : 9 ∉ m) (hk : k ≤ m.length) (h : (m ++ 10 :: r).drop k = x :: t) : x ≠ 9 := by
  intro e
  subst e
  have g : (m ++ 10 :: r)[k]? = some 9 := by
    have : ((m ++ 10 :: r).drop k)[0]? = some 9 := by rw [h]; rfl
    rwa [List.getElem?_drop] at this
  rcases Nat.lt_or_ge k m.length with hk | hk'
  · rw [List.getElem?_append_left hk] at g
    exact h9 (List.mem_of_getElem? g)
  · have : k = m.length := by lia
    subst this
    rw [List.getElem?_append_right (Nat.le_refl _), Nat.sub_self] at g
    cases g
theorem lines_at : ∀ {ls c : List (List Nat)} {k : Nat}, c ≠ [] → (∀ l ∈ c, Line l) → (∀ l ∈ ls, Line l) → c.flatten <+: ls.flatten.drop k → ∃ i, i ≤ ls.length ∧ k = (ls.take i).flatten.length ∧ c <+: ls.drop i
  | [], c, k, hn, hc, _, h => by
    cases c with
    | nil => exact absurd rfl hn
    | cons l c =>
      have p := (hc l (.head _)).pos
      have h := h.length_le
      rw [List.flatten_cons, List.length_append, List.flatten_nil, List.drop_nil, List.length_nil] at h; lia
  | l :: ls, c, k, hn, hc, hl, h => by
    by_cases hk : l.length ≤ k
    · rw [List.flatten_cons, List.drop_append, List.drop_of_length_le hk, List.nil_append] at h
      obtain ⟨i, h1, h2, h3⟩ := lines_at hn hc (fun x hx => hl x (.tail _ hx)) h
      refine ⟨i + 1, Nat.succ_le_succ h1, ?_, h3⟩
      rw [List.take_succ_cons, List.flatten_cons, List.length_append]; lia
    · match k, hk with
      | 0, _ => exact ⟨0, Nat.zero_le _, by simp, lines_pre hc hl h⟩
      | k + 1, hk =>
        exfalso
        obtain ⟨m, rfl, h9, _⟩ := hl l (.head _)
        cases c with
        | nil => exact absurd rfl hn
        | cons l' c =>
          obtain ⟨m', rfl, _, _⟩ := hc l' (.head _)
          obtain ⟨t, h⟩ := h
          rw [List.flatten_cons, List.flatten_cons] at h
          simp only [List.cons_append, List.append_assoc, List.nil_append, List.drop_succ_cons] at h
          simp only [List.length_cons, List.length_append, List.length_nil] at hk
          exact line_in h9 (by lia) h.symm rfl
noncomputable def offL (ls : List (List Nat)) (i : Nat) : Nat := (ls.take i).flatten.length
theorem offL_step {ls : List (List Nat)} (h : ∀ l ∈ ls, Line l) {i : Nat} (hi : i < ls.length) : offL ls i < offL ls (i + 1) := by
  unfold offL
  rw [List.take_succ_eq_append_getElem hi, List.flatten_append, List.length_append, List.flatten_singleton]
  have := (h _ (List.getElem_mem hi)).pos
  lia
theorem offL_lt {ls : List (List Nat)} (h : ∀ l ∈ ls, Line l) {i : Nat} : ∀ {j : Nat}, i < j → j ≤ ls.length → offL ls i < offL ls j
  | 0, h1, _ => absurd h1 (Nat.not_lt_zero _)
  | j + 1, h1, h2 => by
    have s := offL_step h (i := j) h2
    rcases Nat.lt_or_ge i j with g | g
    · have := offL_lt h g (Nat.le_of_lt h2); lia
    · have : i = j := by lia
      subst this; exact s
theorem offL_le {ls : List (List Nat)} (h : ∀ l ∈ ls, Line l) {i j : Nat} (hi : i ≤ ls.length) (hj : j ≤ ls.length) : offL ls i ≤ offL ls j ↔ i ≤ j := by
  constructor
  · intro e
    rcases Nat.lt_or_ge j i with g | g
    · have := offL_lt h g hi; lia
    · exact g
  · intro e
    rcases Nat.lt_or_ge i j with g | g
    · exact Nat.le_of_lt (offL_lt h g hj)
    · have : i = j := by lia
      rw [this]; exact Nat.le_refl _
theorem offL_all {ls : List (List Nat)} : offL ls ls.length = ls.flatten.length := by rw [offL, List.take_length]
noncomputable def chL (ls : List (List Nat)) (c : List Nat) : List Nat := (c.map fun p => ls.getD p []).flatten
theorem chL_lines {ls : List (List Nat)} (h : ∀ l ∈ ls, Line l) {c : List Nat} (hc : ∀ p ∈ c, p < ls.length) : ∀ l ∈ c.map fun p => ls.getD p [], Line l := by
  intro l hl
  obtain ⟨p, hp, rfl⟩ := List.mem_map.mp hl
  rw [List.getD_eq_getElem?_getD, List.getElem?_eq_getElem (hc p hp)]
  exact h _ (List.getElem_mem _)
theorem nodup_at {α : Type} {l : List α} (hd : l.Nodup) {i j : Nat} (hi : i < l.length) (hj : j < l.length) (e : l[i] = l[j]) : i = j := by
  have P := List.pairwise_iff_getElem.mp hd
  rcases Nat.lt_trichotomy i j with g | g | g
  · exact absurd e (P i j hi hj g)
  · exact g
  · exact absurd e.symm (P j i hj hi g)
theorem run_of_pre {ls : List (List Nat)} (hd : ls.Nodup) : ∀ {c : List Nat} {i : Nat}, (∀ p ∈ c, p < ls.length) → (c.map fun p => ls.getD p []) <+: ls.drop i → c = List.range' i c.length
  | [], _, _, _ => rfl
  | p :: c, i, hc, h => by
    have hp := hc p (.head _)
    have hi : i < ls.length := by
      have := h.length_le
      rw [List.length_drop, List.length_map, List.length_cons] at this; lia
    rw [List.map_cons, List.drop_eq_getElem_cons hi] at h
    obtain ⟨h1, h2⟩ := List.cons_prefix_cons.mp h
    rw [List.getD_eq_getElem?_getD, List.getElem?_eq_getElem hp] at h1
    have e : p = i := nodup_at hd hp hi h1
    subst e
    rw [List.length_cons, List.range'_succ, ← run_of_pre hd (fun x hx => hc x (.tail _ hx)) h2]
theorem pre_of_run {ls : List (List Nat)} : ∀ {m i : Nat}, i + m ≤ ls.length → ((List.range' i m).map fun p => ls.getD p []) = (ls.drop i).take m
  | 0, _, _ => by simp
  | m + 1, i, h => by
    rw [List.range'_succ, List.map_cons, pre_of_run (by lia), List.drop_eq_getElem_cons (i := i) (by lia), List.take_succ_cons, List.getD_eq_getElem?_getD, List.getElem?_eq_getElem (by lia)]; rfl
noncomputable def isRun (c : List Nat) : Prop := c = List.range' (c.headD 0) c.length
theorem run_bound {c : List Nat} {n : Nat} (hr : isRun c) (hn : c ≠ []) (hc : ∀ p ∈ c, p < n) : c.headD 0 + c.length ≤ n := by
  have : 0 < c.length := List.length_pos_iff.mpr hn
  have h : c.headD 0 + (c.length - 1) ∈ List.range' (c.headD 0) c.length := List.mem_range'_1.mpr (by lia)
  rw [← hr] at h
  have := hc _ h; lia
theorem chL_at {ls : List (List Nat)} (h : ∀ l ∈ ls, Line l) (hd : ls.Nodup) {c : List Nat} (hn : c ≠ []) (hc : ∀ p ∈ c, p < ls.length) {k : Nat} : chL ls c <+: ls.flatten.drop k ↔ isRun c ∧ k = offL ls (c.headD 0) := by
  constructor
  · intro e
    obtain ⟨i, h1, h2, h3⟩ := lines_at (fun x => hn (List.map_eq_nil_iff.mp x)) (chL_lines h hc) h e
    have r := run_of_pre hd hc h3
    have hi : c.headD 0 = i := by
      cases c with
      | nil => exact absurd rfl hn
      | cons p c => rw [List.length_cons, List.range'_succ] at r; exact (List.cons.inj r).1
    refine ⟨by rw [isRun, hi]; exact r, by rw [hi]; exact h2⟩
  · rintro ⟨r, rfl⟩
    have b := run_bound r hn hc
    have e : chL ls c = ((ls.drop (c.headD 0)).take c.length).flatten := by
      unfold chL
      rw [← pre_of_run b, ← r]
    have e2 : ls.flatten.drop (offL ls (c.headD 0)) = (ls.drop (c.headD 0)).flatten := by
      conv => lhs; rw [← List.take_append_drop (c.headD 0) ls]
      rw [List.flatten_append, offL, List.drop_left' (by rw [List.take_append_drop])]
    rw [e, e2]
    refine ⟨((ls.drop (c.headD 0)).drop c.length).flatten, ?_⟩
    rw [← List.flatten_append, List.take_append_drop]
theorem chL_len {ls : List (List Nat)} {c : List Nat} (hn : c ≠ []) (hc : ∀ p ∈ c, p < ls.length) (r : isRun c) : offL ls (c.headD 0) + (chL ls c).length = offL ls (c.headD 0 + c.length) := by
  have b := run_bound r hn hc
  have e : chL ls c = ((ls.drop (c.headD 0)).take c.length).flatten := by
    unfold chL
    rw [← pre_of_run b, ← r]
  rw [e, offL, offL, ← List.length_append, ← List.flatten_append, ← List.take_add]
theorem chL_pos {ls : List (List Nat)} (h : ∀ l ∈ ls, Line l) {c : List Nat} (hn : c ≠ []) (hc : ∀ p ∈ c, p < ls.length) : 0 < (chL ls c).length := by
  cases c with
  | nil => exact absurd rfl hn
  | cons p c =>
    have := (chL_lines h hc (ls.getD p []) (.head _)).pos
    unfold chL
    rw [List.map_cons, List.flatten_cons, List.length_append]; lia
end
section
noncomputable def pack : List Nat → List Bool → List (List Nat)
  | [], _ => [[]]
  | p :: ps, gs => if gs.headD false = true then [p] :: pack ps gs.tail else (p :: (pack ps gs.tail).headD []) :: (pack ps gs.tail).tail
noncomputable def pieces (q : Want) : List (List Nat) := if q.2.headD false = true then [] :: pack q.1 q.2.tail else pack q.1 q.2.tail
theorem pack_ne : ∀ (ps : List Nat) (gs : List Bool), ∃ c cs, pack ps gs = c :: cs
  | [], _ => ⟨_, _, rfl⟩
  | p :: ps, gs => by
    rw [pack]
    split
    · exact ⟨_, _, rfl⟩
    · exact ⟨_, _, rfl⟩
theorem pack_first : ∀ {ps : List Nat} {gs : List Bool} {cs : List (List Nat)}, pack ps gs = [] :: cs → ps = [] ∧ cs = []
  | [], _, cs, h => by cases h; exact ⟨rfl, rfl⟩
  | p :: ps, gs, cs, h => by
    rw [pack] at h
    split at h
    · cases h
    · cases h
noncomputable def PP (n : Nat) : Nat → Bool → List (List Nat) → Prop
  | _, _, [] => True
  | a, free, c :: cs =>
    if c = [] then (match cs with
      | [] => free = true ∨ a = n
      | c' :: cs' => PP n a true (c' :: cs'))
    else (isRun c ∧ a ≤ c.headD 0 ∧ (free = true ∨ c.headD 0 = a)) ∧ (match cs with
      | [] => c.headD 0 + c.length = n
      | c' :: cs' => PP n (c.headD 0 + c.length) true (c' :: cs'))
theorem run_one (p : Nat) : isRun [p] := rfl
theorem run_cons {p : Nat} {c : List Nat} (hn : c ≠ []) : isRun (p :: c) ↔ isRun c ∧ c.headD 0 = p + 1 := by
  cases c with
  | nil => exact absurd rfl hn
  | cons q c =>
    unfold isRun
    rw [List.length_cons, List.headD_cons, List.headD_cons, List.range'_succ]
    constructor
    · intro h
      have h := (List.cons.inj h).2
      have hq : q = p + 1 := by
        rw [List.length_cons, List.range'_succ] at h; exact (List.cons.inj h).1
      exact ⟨by rw [hq] at h ⊢; exact h, hq⟩
    · rintro ⟨h, rfl⟩
      rw [← h]
theorem fitsGo_PP (n : Nat) : ∀ (ps : List Nat) (gs : List Bool) (a : Nat) (free : Bool), fitsGo n ((a : Int) - 1) free ps gs = true ↔ PP n a free (pack ps gs)
  | [], gs, a, free => by
    rw [fitsGo, pack, PP, if_pos rfl]
    simp only [Bool.or_eq_true, beq_iff_eq]
    constructor
    · rintro (h | h)
      · exact .inl h
      · exact .inr (by lia)
    · rintro (h | h)
      · exact .inl h
      · exact .inr (by lia)
  | p :: ps, gs, a, free => by
    have ih := fitsGo_PP n ps gs.tail (p + 1) (gs.headD false)
    have ep : ((p + 1 : Nat) : Int) - 1 = (p : Int) := by lia
    rw [ep] at ih
    have hcond : (decide ((p : Int) ≤ (a : Int) - 1) || (decide ((p : Int) > (a : Int) - 1 + 1) && !free)) = true ↔ ¬ (a ≤ p ∧ (free = true ∨ p = a)) := by
      cases free <;> simp <;> lia
    rw [fitsGo]
    have main : ((if (decide ((p : Int) ≤ (a : Int) - 1) || (decide ((p : Int) > (a : Int) - 1 + 1) && !free)) = true then false else fitsGo n p (gs.headD false) ps gs.tail) = true) ↔ (a ≤ p ∧ (free = true ∨ p = a)) ∧ PP n (p + 1) (gs.headD false) (pack ps gs.tail) := by
      rw [← ih]
      split
      · rename_i h
        have := hcond.mp h
        constructor
        · intro x; cases x
        · intro x; exact absurd x.1 this
      · rename_i h
        have : a ≤ p ∧ (free = true ∨ p = a) := Classical.byContradiction fun x => h (hcond.mpr x)
        exact ⟨fun x => ⟨this, x⟩, fun x => x.2⟩
    rw [main, pack]
    obtain ⟨c, cs, e⟩ := pack_ne ps gs.tail
    split
    · rename_i hg
      rw [hg, e]
      rw [PP, if_neg (by simp)]
      simp only [List.headD_cons, List.length_cons, List.length_nil]
      exact ⟨fun x => ⟨⟨run_one p, x.1⟩, x.2⟩, fun x => ⟨x.1.2, x.2⟩⟩
    · rename_i hg
      have hg' : gs.headD false = false := by simpa using hg
      rw [hg', e]
      simp only [List.headD_cons, List.tail_cons]
      by_cases hc : c = []
      · subst hc
        obtain ⟨_, rfl⟩ := pack_first e
        rw [PP, PP, if_pos rfl]
        conv => rhs; rw [if_neg (by simp)]
        simp only [List.headD_cons, List.length_cons, List.length_nil]
        constructor
        · rintro ⟨x, y | y⟩
          · cases y
          · exact ⟨⟨run_one p, x⟩, y⟩
        · rintro ⟨⟨_, x⟩, y⟩
          exact ⟨x, .inr y⟩
      · have hL : ∀ h, h = p + 1 → h + c.length = p + (c.length + 1) := fun h e => by lia
        rcases cs with _ | ⟨d, ds⟩
        all_goals
          rw [PP, PP, if_neg hc]
          conv => rhs; rw [if_neg (by simp)]
          rw [run_cons hc]
          simp only [List.headD_cons, List.length_cons]
          constructor
          · rintro ⟨x, ⟨r, _, y | y⟩, z⟩
            · cases y
            · exact ⟨⟨⟨r, y⟩, x⟩, by rw [hL _ y] at z; exact z⟩
          · rintro ⟨⟨⟨r, y⟩, x⟩, z⟩
            refine ⟨x, ⟨r, Nat.le_of_eq y.symm, .inr y⟩, ?_⟩
            rw [hL _ y]; exact z
noncomputable def mid (b : Nat) : Nat → List (List Nat) → Prop
  | _, [] => True
  | a, c :: cs => if c = [] then mid b a cs else (isRun c ∧ a ≤ c.headD 0 ∧ c.headD 0 + c.length ≤ b) ∧ mid b (c.headD 0 + c.length) cs
noncomputable def lastOk (n : Nat) (c : List Nat) : Prop := c ≠ [] → isRun c ∧ c.headD 0 + c.length = n
theorem PP_mid {n : Nat} {cl : List Nat} (hl : ∀ p ∈ cl, p < n) : ∀ (cs : List (List Nat)) (a : Nat), a ≤ n → (∀ c ∈ cs, ∀ p ∈ c, p < n) → (PP n a true (cs ++ [cl]) ↔ lastOk n cl ∧ a + cl.length ≤ n ∧ mid (n - cl.length) a cs)
  | [], a, ha, _ => by
    rw [List.nil_append, PP, mid]
    by_cases hc : cl = []
    · subst hc
      rw [if_pos rfl]
      exact ⟨fun zz => ⟨fun x => absurd rfl x, ha, trivial⟩, fun zz => .inl rfl⟩
    · rw [if_neg hc]
      constructor
      · rintro ⟨⟨r, h1, _⟩, h2⟩
        exact ⟨fun zz => ⟨r, h2⟩, by lia, trivial⟩
      · rintro ⟨h1, h2, _⟩
        obtain ⟨r, h3⟩ := h1 hc
        exact ⟨⟨r, by lia, .inl rfl⟩, h3⟩
  | c :: cs, a, ha, hcs => by
    have hne : ∃ d ds, cs ++ [cl] = d :: ds := by cases cs <;> exact ⟨_, _, rfl⟩
    obtain ⟨d, ds, e⟩ := hne
    rw [List.cons_append, e, PP, mid]
    by_cases hc : c = []
    · rw [if_pos hc, if_pos hc]
      show PP n a true (d :: ds) ↔ _
      rw [← e]
      exact PP_mid hl cs a ha fun c hc => hcs c (.tail _ hc)
    · rw [if_neg hc, if_neg hc]
      show _ ∧ PP n _ true (d :: ds) ↔ _
      rw [← e]
      constructor
      · rintro ⟨⟨r, h1, _⟩, h2⟩
        have hb := run_bound r hc (hcs c (.head _))
        obtain ⟨h3, h4, h5⟩ := (PP_mid hl cs _ hb fun c hc => hcs c (.tail _ hc)).mp h2
        have h0 : 0 < c.length := List.length_pos_iff.mpr hc
        exact ⟨h3, by lia, ⟨r, h1, by lia⟩, h5⟩
      · rintro ⟨h3, h4, ⟨r, h1, h2⟩, h5⟩
        have hb := run_bound r hc (hcs c (.head _))
        refine ⟨⟨r, h1, .inl rfl⟩, (PP_mid hl cs _ hb fun c hc => hcs c (.tail _ hc)).mpr ⟨h3, ?_, h5⟩⟩
        lia
noncomputable def ellP (n : Nat) (c0 : List Nat) (cs : List (List Nat)) (cl : List Nat) : Prop :=
  (c0 ≠ [] → isRun c0 ∧ c0.headD 0 = 0) ∧ lastOk n cl ∧ c0.length + cl.length ≤ n ∧ mid (n - cl.length) c0.length cs
theorem fits_many {n : Nat} {q : Want} {c0 cl : List Nat} {cs : List (List Nat)} (e : pieces q = c0 :: (cs ++ [cl])) (hc : ∀ c ∈ pieces q, ∀ p ∈ c, p < n) : fits q.1 q.2 n = true ↔ ellP n c0 cs cl := by
  have hl : ∀ p ∈ cl, p < n := hc cl (by rw [e]; simp)
  have hcs : ∀ c ∈ cs, ∀ p ∈ c, p < n := fun c h => hc c (by rw [e]; simp [h])
  unfold fits
  have := fitsGo_PP n q.1 q.2.tail 0 (q.2.headD false)
  rw [show ((0 : Nat) : Int) - 1 = -1 from rfl] at this
  rw [this]
  unfold pieces at e
  unfold ellP
  split at e
  · rename_i hg
    obtain ⟨e1, e2⟩ := List.cons.inj e
    subst e1
    rw [hg, e2, PP_mid hl cs 0 (Nat.zero_le _) hcs]
    exact ⟨fun x => ⟨fun y => absurd rfl y, x⟩, fun x => x.2⟩
  · rename_i hg
    have hg' : q.2.headD false = false := by simpa using hg
    rw [hg', e]
    have hne : ∃ d ds, cs ++ [cl] = d :: ds := by cases cs <;> exact ⟨_, _, rfl⟩
    obtain ⟨d, ds, e3⟩ := hne
    rw [e3, PP]
    by_cases hc0 : c0 = []
    · subst hc0
      obtain ⟨_, e2⟩ := pack_first e
      cases cs <;> cases e2
    · rw [if_neg hc0]
      show _ ∧ PP n _ true (d :: ds) ↔ _
      rw [← e3]
      have h0 : ∀ p ∈ c0, p < n := hc c0 (by unfold pieces; rw [if_neg hg, e]; exact .head _)
      constructor
      · rintro ⟨⟨r, _, y | y⟩, z⟩
        · cases y
        · have hb := run_bound r hc0 h0
          have z := (PP_mid hl cs _ hb hcs).mp z
          rw [y, Nat.zero_add] at z
          exact ⟨fun zz => ⟨r, y⟩, z⟩
      · rintro ⟨x, z⟩
        obtain ⟨r, y⟩ := x hc0
        have hb := run_bound r hc0 h0
        refine ⟨⟨r, Nat.zero_le _, .inr y⟩, (PP_mid hl cs _ hb hcs).mpr ?_⟩
        rw [y, Nat.zero_add]; exact z
theorem fits_one {n : Nat} {q : Want} {c : List Nat} (e : pieces q = [c]) : fits q.1 q.2 n = true ↔ c = List.range' 0 n := by
  unfold fits
  have := fitsGo_PP n q.1 q.2.tail 0 (q.2.headD false)
  rw [show ((0 : Nat) : Int) - 1 = -1 from rfl] at this
  rw [this]
  unfold pieces at e
  split at e
  · obtain ⟨d, ds, e2⟩ := pack_ne q.1 q.2.tail
    rw [e2] at e; cases e
  · rename_i hg
    have hg' : q.2.headD false = false := by simpa using hg
    rw [hg', e, PP]
    by_cases hc : c = []
    · subst hc
      rw [if_pos rfl]
      constructor
      · rintro (x | x)
        · cases x
        · rw [← x]; rfl
      · intro x
        have := congrArg List.length x
        rw [List.length_range'] at this
        exact .inr this
    · rw [if_neg hc]
      constructor
      · rintro ⟨⟨r, _, x | x⟩, y⟩
        · cases x
        · have y : c.headD 0 + c.length = n := y
          rw [x, Nat.zero_add] at y
          rw [isRun, x, y] at r; exact r
      · intro x
        have hL := congrArg List.length x
        rw [List.length_range'] at hL
        have h0 : c.headD 0 = 0 := by
          cases n with
          | zero => exact absurd x (by simpa using hc)
          | succ n => rw [x]; rfl
        refine ⟨⟨by rw [isRun, h0, hL]; exact x, Nat.zero_le _, .inr h0⟩, ?_⟩
        show c.headD 0 + c.length = n
        lia
end
section
section
open Builtin Builtin.Str StrLaws
theorem cp_len (x : Str) : (cp x).length = x.length := by simp [cp, Str.length]
theorem cp_sub (x : Str) (i j : Nat) : cp (strSub x i j) = ((cp x).drop i).take (j - i) := strSub_toList x i j
theorem cp_join : ∀ l : List Str, cp (Txt.join "" l) = (l.map cp).flatten := fun l => by
  show cp (glued "" l) = _
  rw [StrLaws.glued_eq_join]
  induction l with
  | nil => rfl
  | cons x l ih =>
    cases l with
    | nil => show cp x = _; simp
    | cons y l =>
      show cp (x ++ ("" : Str) ++ Str.join "" (y :: l)) = _
      rw [cp_app, cp_app, ih, List.map_cons (a := x), List.flatten_cons, show cp ("" : Str) = [] from by decide, List.append_nil]
theorem at_iff {x y : Str} {hi i : Nat} : At x y hi i ↔ i + (cp y).length ≤ hi ∧ cp y <+: (cp x).drop i := by
  unfold At
  rw [subAt_eq, cp_len, beq_iff_eq, List.prefix_iff_eq_take, cp_len]
  exact ⟨fun h => ⟨h.1, h.2.symm⟩, fun h => ⟨h.1, h.2.symm⟩⟩
theorem occ_head_to (x y : Str) (lo hi limit : Nat) (hl : 1 ≤ limit) :
    (occurrences x y lo hi limit = [] ∧ ∀ i, lo ≤ i → ¬ At x y hi i) ∨
    ∃ i r, occurrences x y lo hi limit = i :: r ∧ lo ≤ i ∧ At x y hi i ∧ ∀ k, lo ≤ k → k < i → ¬ At x y hi k := by
  have first := occ_first x y hi limit hl (List.range' lo (hi + 1 - lo)) lo fun i q => (List.mem_range'_1.mp q).1
  rw [occ_eq]
  generalize (forIn (List.range' lo (hi + 1 - lo)) ((#[] : Array Nat), lo) (occBody x y hi limit)).run.fst = found at first ⊢
  match first with
  | .inl ⟨nil, no⟩ => exact .inl ⟨by rw [nil], fun i le yes => no i (List.mem_range'_1.mpr ⟨le, by have := yes.1; lia⟩) yes⟩
  | .inr ⟨pre, a, post, parts, fst, yes, no⟩ =>
    have before := range'_split_from parts
    have head : found.toList.head? = some a := by simpa [List.head?_eq_getElem?] using fst
    have ⟨rest, e⟩ := List.head?_eq_some_iff.mp head
    exact .inr ⟨a, rest, e, before.1, yes, fun k le lt => no k (before.2 k le lt)⟩
theorem fromIndex_nat (n k : Nat) : fromIndex n (k : Int) = k := by
  unfold fromIndex
  rw [if_neg (by lia)]; lia
section
variable {ls : List (List Nat)} {got : Str}
theorem find_empty {w : Str} (hw : cp w = []) {s e : Nat} (h1 : s ≤ e) (h2 : e ≤ got.length) : find4 got w s e = s := by
  unfold find4
  rw [fromIndex_nat, fromIndex_nat, Nat.min_eq_left h2]
  have hA : At got w e s := at_iff.mpr ⟨by rw [hw]; exact h1, by rw [hw]; exact List.nil_prefix⟩
  rcases occ_head_to got w s e 1 (Nat.le_refl 1) with ⟨_, hn⟩ | ⟨k, r, h0, hlo, hk, hn⟩
  · exact absurd hA (hn s (Nat.le_refl _))
  · rw [h0]
    have : k = s := by
      rcases Nat.lt_or_ge s k with g | g
      · exact absurd hA (hn s (Nat.le_refl _) g)
      · lia
    rw [this]
theorem got_len (hg : cp got = ls.flatten) : got.length = offL ls ls.length := by rw [offL_all, ← hg, cp_len]
variable (hL : ∀ l ∈ ls, Line l) (hd : ls.Nodup) (hg : cp got = ls.flatten)
include hL hd hg
theorem at_piece {w : Str} {c : List Nat} (hw : cp w = chL ls c) (hn : c ≠ []) (hc : ∀ p ∈ c, p < ls.length) {b k : Nat} (hb : b ≤ ls.length) : At got w (offL ls b) k ↔ isRun c ∧ k = offL ls (c.headD 0) ∧ c.headD 0 + c.length ≤ b := by
  rw [at_iff, hw, hg, chL_at hL hd hn hc]
  constructor
  · rintro ⟨h1, r, rfl⟩
    have bb := run_bound r hn hc
    rw [chL_len hn hc r, offL_le hL bb hb] at h1
    exact ⟨r, rfl, h1⟩
  · rintro ⟨r, rfl, h1⟩
    have bb := run_bound r hn hc
    rw [chL_len hn hc r, offL_le hL bb hb]
    exact ⟨h1, r, rfl⟩
theorem find_piece {w : Str} {c : List Nat} (hw : cp w = chL ls c) (hn : c ≠ []) (hc : ∀ p ∈ c, p < ls.length) {a b : Nat} (ha : a ≤ ls.length) (hb : b ≤ ls.length) :
    (find4 got w (offL ls a) (offL ls b) = -1 ∧ ¬ (isRun c ∧ a ≤ c.headD 0 ∧ c.headD 0 + c.length ≤ b)) ∨ (find4 got w (offL ls a) (offL ls b) = offL ls (c.headD 0) ∧ isRun c ∧ a ≤ c.headD 0 ∧ c.headD 0 + c.length ≤ b) := by
  have hbL : offL ls b ≤ got.length := by rw [got_len hg]; exact (offL_le hL hb (Nat.le_refl _)).mpr hb
  unfold find4
  rw [fromIndex_nat, fromIndex_nat, Nat.min_eq_left hbL]
  rcases occ_head_to got w (offL ls a) (offL ls b) 1 (Nat.le_refl 1) with ⟨h0, hx⟩ | ⟨k, r, h0, hlo, hk, _⟩
  · rw [h0]
    refine .inl ⟨rfl, fun ⟨r, h1, h2⟩ => ?_⟩
    have bb := run_bound r hn hc
    exact hx _ ((offL_le hL ha (by lia)).mpr h1) ((at_piece hL hd hg hw hn hc hb).mpr ⟨r, rfl, h2⟩)
  · rw [h0]
    obtain ⟨r, rfl, h2⟩ := (at_piece hL hd hg hw hn hc hb).mp hk
    have bb := run_bound r hn hc
    exact .inr ⟨rfl, r, (offL_le hL ha (by lia)).mp hlo, h2⟩
theorem ellGo_mid {b : Nat} (hb : b ≤ ls.length) : ∀ {ws : List Str} {cs : List (List Nat)} {a : Nat}, a ≤ b → ws.map cp = cs.map (chL ls) → (∀ c ∈ cs, ∀ p ∈ c, p < ls.length) → (ellGo got (offL ls b) (offL ls a) ws = true ↔ mid b a cs)
  | [], [], a, _, _, _ => by rw [ellGo, mid]; simp
  | [], _ :: _, _, _, h, _ => by cases h
  | _ :: _, [], _, _, h, _ => by cases h
  | w :: ws, c :: cs, a, hab, h0, hc => by
    rw [List.map_cons, List.map_cons] at h0
    obtain ⟨hw, h⟩ := List.cons.inj h0
    have hcs := fun d hd => hc d (.tail _ hd)
    rw [ellGo, mid]
    by_cases hn : c = []
    · subst hn
      rw [if_pos rfl, find_empty hw ((offL_le hL (by lia) hb).mpr hab) (by rw [got_len hg]; exact (offL_le hL hb (Nat.le_refl _)).mpr hb), if_neg (by simp)]
      have : w.length = 0 := by rw [← cp_len, hw]; rfl
      rw [this]
      exact ellGo_mid hb hab h hcs
    · rw [if_neg hn]
      rcases find_piece hL hd hg hw hn (hc c (.head _)) (a := a) (b := b) (by lia) hb with ⟨e, hno⟩ | ⟨e, r, h1, h2⟩
      · rw [e, if_pos (by decide)]
        exact ⟨fun x => (by cases x), fun x => absurd x.1 hno⟩
      · have bb := run_bound r hn (hc c (.head _))
        rw [e, if_neg (by simp)]
        have : ((offL ls (c.headD 0) : Nat) : Int) + (w.length : Int) = (offL ls (c.headD 0 + c.length) : Nat) := by
          rw [← chL_len hn (hc c (.head _)) r, ← cp_len, hw]; lia
        rw [this, ellGo_mid hb h2 h hcs]
        exact ⟨fun x => ⟨⟨r, h1, h2⟩, x⟩, fun x => x.2⟩
theorem starts_piece {w : Str} {c : List Nat} (hw : cp w = chL ls c) (hn : c ≠ []) (hc : ∀ p ∈ c, p < ls.length) : Txt.startswith got w = true ↔ isRun c ∧ c.headD 0 = 0 := by
  have e : Txt.startswith got w = true ↔ At got w got.length 0 := by
    unfold Txt.startswith At; simp
  rw [e, got_len hg, at_piece hL hd hg hw hn hc (Nat.le_refl _)]
  constructor
  · rintro ⟨r, h1, h2⟩
    refine ⟨r, ?_⟩
    have bb := run_bound r hn hc
    have h0 : offL ls 0 = 0 := by rw [offL]; rfl
    rw [← h0] at h1
    exact Nat.le_zero.mp ((offL_le hL (by lia) (Nat.zero_le _)).mp (Nat.le_of_eq h1.symm))
  · rintro ⟨r, h1⟩
    refine ⟨r, ?_, run_bound r hn hc⟩
    rw [h1, offL]; rfl
theorem ends_piece {w : Str} {c : List Nat} (hw : cp w = chL ls c) (hn : c ≠ []) (hc : ∀ p ∈ c, p < ls.length) : Txt.endswith got w = true ↔ isRun c ∧ c.headD 0 + c.length = ls.length := by
  have e : Txt.endswith got w = true ↔ w.length ≤ got.length ∧ At got w got.length (got.length - w.length) := by
    unfold Txt.endswith At; simp; lia
  rw [e, got_len hg, at_piece hL hd hg hw hn hc (Nat.le_refl _)]
  constructor
  · rintro ⟨h0, r, h1, h2⟩
    refine ⟨r, ?_⟩
    have l := chL_len hn hc r
    rw [← hw, cp_len, ← h1] at l
    have : offL ls ls.length ≤ offL ls (c.headD 0 + c.length) := by lia
    have := (offL_le hL (Nat.le_refl _) h2).mp this
    lia
  · rintro ⟨r, h1⟩
    have l := chL_len hn hc r
    rw [← hw, cp_len, h1] at l
    exact ⟨by lia, r, by lia, by lia⟩
end
end
end
section
section
variable {ls : List (List Nat)} {got : Str} (hL : ∀ l ∈ ls, Line l) (hd : ls.Nodup) (hg : cp got = ls.flatten)
theorem mid_snoc {b : Nat} : ∀ {cs : List (List Nat)} {a : Nat}, mid b a (cs ++ [[]]) ↔ mid b a cs
  | [], a => by
    show mid b a [[]] ↔ mid b a []
    rw [mid.eq_2, if_pos rfl]
  | c :: cs, a => by
    rw [List.cons_append, mid, mid]
    by_cases hc : c = []
    · rw [if_pos hc, if_pos hc]; exact mid_snoc
    · rw [if_neg hc, if_neg hc, mid_snoc]
theorem full_no {w : Str} (h : cp w = []) : full w = false := by
  have : w.length = 0 := by rw [← cp_len, h]; rfl
  unfold full; rw [this]; rfl
theorem full_yes {w : Str} (h : 0 < (cp w).length) : full w = true := by
  rw [cp_len] at h
  unfold full; simp; lia
theorem last_of {a : Str} {l : List Str} {x d : Str} : (a :: (l ++ [x])).getLastD d = x := by
  rw [← List.cons_append, List.getLastD_eq_getLast?, List.getLast?_concat]; rfl
theorem last_of' {l : List Str} {x d : Str} : (l ++ [x]).getLastD d = x := by
  rw [List.getLastD_eq_getLast?, List.getLast?_concat]; rfl
theorem erase_last {α : Type} {l : List α} {x : α} : (l ++ [x]).eraseIdx ((l ++ [x]).length - 1) = l := by
  rw [List.length_append, List.length_singleton, Nat.add_sub_cancel, List.eraseIdx_append_of_length_le (Nat.le_refl _), Nat.sub_self]; simp
include hL hd hg
theorem ellM_go {w0 wl : Str} {wm ws' : List Str} {c0 cl : List Nat} {cs cs' : List (List Nat)} (hm : ws'.map cp = cs'.map (chL ls)) (hcs' : ∀ c ∈ cs', ∀ p ∈ c, p < ls.length) (hmid : ∀ b a, mid b a cs' ↔ mid b a cs)
    {A B : Bool} (hA : A = true ↔ (c0 ≠ [] → isRun c0 ∧ c0.headD 0 = 0)) (hB : B = true ↔ lastOk ls.length cl) {st en : Int} (hst : A = true → st = offL ls c0.length ∧ c0.length ≤ ls.length) (hen : B = true → en = offL ls (ls.length - cl.length) ∧ cl.length ≤ ls.length) :
    (A && (B && (!decide (st > en) && ellGo got en st ws'))) = true ↔ ellP ls.length c0 cs cl := by
  unfold ellP
  cases A with
  | false => exact ⟨fun x => (by cases x), fun x => (by cases hA.mpr x.1)⟩
  | true =>
    cases B with
    | false => exact ⟨fun x => (by cases x), fun x => (by cases hB.mpr x.2.1)⟩
    | true =>
      obtain ⟨rfl, h1⟩ := hst rfl
      obtain ⟨rfl, h2⟩ := hen rfl
      simp only [Bool.true_and, Bool.and_eq_true, Bool.not_eq_true', decide_eq_false_iff_not]
      have o := offL_le hL h1 (Nat.sub_le ls.length cl.length)
      have hle : ¬ ((offL ls c0.length : Nat) : Int) > (offL ls (ls.length - cl.length) : Nat) ↔ c0.length + cl.length ≤ ls.length := by lia
      rw [hle]
      constructor
      · rintro ⟨x, y⟩
        exact ⟨hA.mp rfl, hB.mp rfl, x, (hmid _ _).mp ((ellGo_mid hL hd hg (Nat.sub_le _ _) (by lia) hm hcs').mp y)⟩
      · rintro ⟨_, _, x, y⟩
        exact ⟨x, (ellGo_mid hL hd hg (Nat.sub_le _ _) (by lia) hm hcs').mpr ((hmid _ _).mpr y)⟩
theorem ellM_iff {w0 wl : Str} {wm : List Str} {c0 cl : List Nat} {cs : List (List Nat)} (h0 : cp w0 = chL ls c0) (hl : cp wl = chL ls cl) (hm : wm.map cp = cs.map (chL ls))
    (hc0 : ∀ p ∈ c0, p < ls.length) (hcl : ∀ p ∈ cl, p < ls.length) (hcs : ∀ c ∈ cs, ∀ p ∈ c, p < ls.length) : ellM got (w0 :: (wm ++ [wl])) = true ↔ ellP ls.length c0 cs cl := by
  have e0 : c0 = [] → full w0 = false := fun e => full_no (by rw [h0, e]; rfl)
  have f0 : c0 ≠ [] → full w0 = true := fun e => full_yes (by rw [h0]; exact chL_pos hL e hc0)
  have el : cl = [] → full wl = false := fun e => full_no (by rw [hl, e]; rfl)
  have fl : cl ≠ [] → full wl = true := fun e => full_yes (by rw [hl]; exact chL_pos hL e hcl)
  have hw1 : w1 (w0 :: (wm ++ [wl])) = wl := by
    unfold w1 ws1
    rw [List.headD_cons]
    split
    · rw [List.eraseIdx_cons_zero]; exact last_of'
    · exact last_of
  have nil : ∀ c ∈ ([[]] : List (List Nat)), ∀ p ∈ c, p < ls.length := fun c hc => by rw [List.mem_singleton.mp hc]; intro p hp; cases hp
  unfold ellM
  rw [hw1, List.headD_cons]
  have hA : (!full w0 || Txt.startswith got w0) = true ↔ (c0 ≠ [] → isRun c0 ∧ c0.headD 0 = 0) := by
    by_cases e : c0 = []
    · rw [e0 e]; exact ⟨fun zz x => absurd e x, fun zz => rfl⟩
    · rw [f0 e, Bool.not_true, Bool.false_or, starts_piece hL hd hg h0 e hc0]
      exact ⟨fun x zz => x, fun x => x e⟩
  have hB : (!full wl || Txt.endswith got wl) = true ↔ lastOk ls.length cl := by
    unfold lastOk
    by_cases e : cl = []
    · rw [el e]; exact ⟨fun zz x => absurd e x, fun zz => rfl⟩
    · rw [fl e, Bool.not_true, Bool.false_or, ends_piece hL hd hg hl e hcl]
      exact ⟨fun x zz => x, fun x => x e⟩
  have hst : (!full w0 || Txt.startswith got w0) = true → st1 (w0 :: (wm ++ [wl])) = offL ls c0.length ∧ c0.length ≤ ls.length := fun x => by
    unfold st1
    rw [List.headD_cons]
    by_cases e : c0 = []
    · rw [e0 e, if_neg (by simp), e]; exact ⟨rfl, Nat.zero_le _⟩
    · obtain ⟨r, y⟩ := hA.mp x e
      have l := chL_len e hc0 r
      have b := run_bound r e hc0
      rw [y, Nat.zero_add] at l b
      rw [f0 e, if_pos rfl, ← l, ← h0, cp_len]
      exact ⟨by rw [offL]; simp, b⟩
  have hen : (!full wl || Txt.endswith got wl) = true → en1 got (w0 :: (wm ++ [wl])) = offL ls (ls.length - cl.length) ∧ cl.length ≤ ls.length := fun x => by
    unfold en1
    rw [hw1]
    by_cases e : cl = []
    · rw [el e, if_neg (by simp), e, got_len hg]; exact ⟨rfl, Nat.zero_le _⟩
    · obtain ⟨r, y⟩ := hB.mp x e
      have l := chL_len e hcl r
      rw [y, ← hl, cp_len] at l
      have z : ls.length - cl.length = cl.headD 0 := by lia
      rw [fl e, if_pos rfl, got_len hg, z]
      exact ⟨by lia, by lia⟩
  by_cases a0 : c0 = []
  · have x1 : ws1 (w0 :: (wm ++ [wl])) = w0 :: (wm ++ [wl]) := by
      unfold ws1; rw [List.headD_cons, e0 a0, if_neg (by simp)]
    by_cases al : cl = []
    · have x2 : ws2 (w0 :: (wm ++ [wl])) = w0 :: (wm ++ [wl]) := by
        unfold ws2; rw [hw1, el al, if_neg (by simp), x1]
      rw [x2]
      refine ellM_go (wm := wm) (w0 := w0) (wl := wl) (cs' := c0 :: (cs ++ [cl])) hL hd hg (by rw [List.map_cons, List.map_append, h0, hm]; simp [hl]) ?_ ?_ hA hB hst hen
      · intro c hc
        rcases List.mem_cons.mp hc with rfl | hc
        · exact hc0
        · rcases List.mem_append.mp hc with hc | hc
          · exact hcs c hc
          · rw [List.mem_singleton.mp hc]; exact hcl
      · intro b a
        rw [mid, if_pos a0, al]; exact mid_snoc
    · have x2 : ws2 (w0 :: (wm ++ [wl])) = w0 :: wm := by
        unfold ws2; rw [hw1, fl al, if_pos rfl, x1, ← List.cons_append]; exact erase_last
      rw [x2]
      refine ellM_go (wm := wm) (w0 := w0) (wl := wl) (cs' := c0 :: cs) hL hd hg (by rw [List.map_cons, List.map_cons, h0, hm]) ?_ ?_ hA hB hst hen
      · intro c hc
        rcases List.mem_cons.mp hc with rfl | hc
        · exact hc0
        · exact hcs c hc
      · intro b a
        rw [mid, if_pos a0]
  · have x1 : ws1 (w0 :: (wm ++ [wl])) = wm ++ [wl] := by
      unfold ws1; rw [List.headD_cons, f0 a0, if_pos rfl]; rfl
    by_cases al : cl = []
    · have x2 : ws2 (w0 :: (wm ++ [wl])) = wm ++ [wl] := by
        unfold ws2; rw [hw1, el al, if_neg (by simp), x1]
      rw [x2]
      refine ellM_go (wm := wm) (w0 := w0) (wl := wl) (cs' := cs ++ [cl]) hL hd hg (by rw [List.map_append, List.map_append, hm]; simp [hl]) ?_ ?_ hA hB hst hen
      · intro c hc
        rcases List.mem_append.mp hc with hc | hc
        · exact hcs c hc
        · rw [List.mem_singleton.mp hc]; exact hcl
      · intro b a
        rw [al]; exact mid_snoc
    · have x2 : ws2 (w0 :: (wm ++ [wl])) = wm := by
        unfold ws2; rw [hw1, fl al, if_pos rfl, x1]; exact erase_last
      rw [x2]
      exact ellM_go (wm := wm) (w0 := w0) (wl := wl) (cs' := cs) hL hd hg hm hcs (fun zz zz => .rfl) hA hB hst hen
end
end
section
section
open Builtin Builtin.Str StrLaws
noncomputable def Dot3 (l : List Nat) (k : Nat) : Prop := l[k]? = some 46 ∧ l[k + 1]? = some 46 ∧ l[k + 2]? = some 46
noncomputable def Free (l : List Nat) : Prop := ∀ k, ¬ Dot3 l k
noncomputable def D3 : List Nat := [46, 46, 46]
theorem dot3_iff {l : List Nat} {k : Nat} : D3 <+: l.drop k ↔ Dot3 l k := by
  unfold Dot3 D3
  have e0 : l[k]? = (l.drop k)[0]? := by rw [List.getElem?_drop]; rfl
  have e1 : l[k + 1]? = (l.drop k)[1]? := by rw [List.getElem?_drop]
  have e2 : l[k + 2]? = (l.drop k)[2]? := by rw [List.getElem?_drop]
  rw [e0, e1, e2]
  generalize l.drop k = m
  constructor
  · rintro ⟨t, rfl⟩; exact ⟨rfl, rfl, rfl⟩
  · intro h
    match m, h with
    | a :: b :: c :: t, h =>
      simp at h
      obtain ⟨rfl, rfl, rfl⟩ := h
      exact ⟨t, rfl⟩
    | [], h => simp at h
    | [a], h => simp at h
    | [a, b], h => simp at h
theorem dot3_in {m r : List Nat} {k x : Nat} (hx : x ≠ 46) (hk : k ≤ m.length) (h : Dot3 (m ++ x :: r) k) : Dot3 m k := by
  have at_ : ∀ j, (m ++ x :: r)[j]? = some 46 → j ≠ m.length := fun j h e => by
    subst e
    rw [List.getElem?_append_right (Nat.le_refl _), Nat.sub_self] at h
    exact hx (Option.some.inj h)
  obtain ⟨h0, h1, h2⟩ := h
  have n0 := at_ _ h0
  have n1 := at_ _ h1
  have n2 := at_ _ h2
  rw [List.getElem?_append_left (by lia)] at h0 h1 h2
  exact ⟨h0, h1, h2⟩
theorem free_sep {m r : List Nat} {x : Nat} (hx : x ≠ 46) (h1 : Free m) (h2 : Free r) : Free (m ++ x :: r) := fun k h => by
  rcases Nat.lt_or_ge m.length k with g | g
  · obtain ⟨a, b, c⟩ := h
    rw [List.getElem?_append_right (by lia)] at a b c
    have e : k - m.length = (k - m.length - 1) + 1 := by lia
    have e1 : k + 1 - m.length = (k - m.length - 1 + 1) + 1 := by lia
    have e2 : k + 2 - m.length = (k - m.length - 1 + 2) + 1 := by lia
    rw [e, List.getElem?_cons_succ] at a
    rw [e1, List.getElem?_cons_succ] at b
    rw [e2, List.getElem?_cons_succ] at c
    exact h2 _ ⟨a, b, c⟩
  · exact h1 k (dot3_in hx g h)
theorem free_no {m : List Nat} (h : 46 ∉ m) : Free m := fun zz x => h (List.mem_of_getElem? x.1)
noncomputable def Piece (b : List Nat) : Prop := Free b ∧ (b = [] ∨ ∃ m, b = m ++ [10])
theorem piece_first {b r : List Nat} (h : Piece b) {k : Nat} (hk : k < b.length) : ¬ Dot3 (b ++ r) k := fun x => by
  obtain ⟨hf, h⟩ := h
  rcases h with rfl | ⟨m, rfl⟩
  · cases hk
  · rw [List.append_assoc] at x
    have y := dot3_in (by decide) (by simp at hk; lia) x
    have hf : Free (m ++ [10]) := hf
    refine hf k ⟨?_, ?_, ?_⟩
    · rw [List.getElem?_append_left (List.getElem?_eq_some_iff.mp y.1).1]; exact y.1
    · rw [List.getElem?_append_left (List.getElem?_eq_some_iff.mp y.2.1).1]; exact y.2.1
    · rw [List.getElem?_append_left (List.getElem?_eq_some_iff.mp y.2.2).1]; exact y.2.2
theorem piece_chL {ls : List (List Nat)} (hL : ∀ l ∈ ls, Line l) (hF : ∀ l ∈ ls, Free l) : ∀ {c : List Nat}, (∀ p ∈ c, p < ls.length) → Piece (chL ls c)
  | [], _ => ⟨fun k h => (by unfold Dot3 at h; cases h.1), .inl rfl⟩
  | p :: c, hc => by
    obtain ⟨f, e⟩ := piece_chL hL hF (c := c) fun x hx => hc x (.tail _ hx)
    have hp := hc p (.head _)
    have hm : ls.getD p [] ∈ ls := by rw [List.getD_eq_getElem?_getD, List.getElem?_eq_getElem hp]; exact List.getElem_mem _
    have e0 : chL ls (p :: c) = ls.getD p [] ++ chL ls c := by unfold chL; rw [List.map_cons, List.flatten_cons]
    obtain ⟨m, hl, _, _⟩ := hL _ hm
    have hf := hF _ hm
    rw [e0]
    rw [hl] at hf ⊢
    have hf' : Free (9 :: m) := fun k x => hf k ⟨by
      rw [← List.cons_append, List.getElem?_append_left (List.getElem?_eq_some_iff.mp x.1).1]; exact x.1, by
      rw [← List.cons_append, List.getElem?_append_left (List.getElem?_eq_some_iff.mp x.2.1).1]; exact x.2.1, by
      rw [← List.cons_append, List.getElem?_append_left (List.getElem?_eq_some_iff.mp x.2.2).1]; exact x.2.2⟩
    have e1 : 9 :: (m ++ [10]) ++ chL ls c = (9 :: m) ++ 10 :: chL ls c := by simp
    refine ⟨by rw [e1]; exact free_sep (by decide) hf' f, .inr ?_⟩
    rcases e with e | ⟨m', e⟩
    · rw [e]; exact ⟨9 :: m, by simp⟩
    · rw [e]; exact ⟨9 :: (m ++ [10]) ++ m', by simp⟩
noncomputable def glueD : List (List Nat) → List Nat
  | [] => []
  | [b] => b
  | b :: c :: bs => b ++ D3 ++ glueD (c :: bs)
theorem glueD_cons {b : List Nat} {bs : List (List Nat)} (h : bs ≠ []) : glueD (b :: bs) = b ++ D3 ++ glueD bs := by
  cases bs with
  | nil => exact absurd rfl h
  | cons c bs => rfl
theorem cp_dots : cp dots = D3 := by decide
theorem at_dots {x : Str} {k : Nat} : At x dots x.length k ↔ Dot3 (cp x) k := by
  rw [at_iff, cp_dots, dot3_iff]
  refine ⟨fun h => h.2, fun h => ⟨?_, h⟩⟩
  have := (List.getElem?_eq_some_iff.mp h.2.2).1
  rw [cp_len] at this
  show k + 3 ≤ _
  lia
theorem parts_glue (x : Str) : ∀ (bs : List (List Nat)) (A : List Nat) (cuts : List Nat) (f : Nat), bs ≠ [] → (∀ b ∈ bs, Piece b) → cp x = A ++ glueD bs → ChainG x dots x.length A.length cuts f → (∀ k, f ≤ k → ¬ At x dots x.length k) → (partsFrom x dots.length A.length cuts).map cp = bs
  | [], _, _, _, h, _, _, _, _ => absurd rfl h
  | [b], A, cuts, f, _, hb, hx, hc, hn => by
    have hp := hb b (.head _)
    have no : ∀ c, A.length ≤ c → ¬ At x dots x.length c := fun c h1 h2 => by
      have h2 := at_dots.mp h2
      rw [hx] at h2
      obtain ⟨a1, a2, a3⟩ := h2
      rw [List.getElem?_append_right (by lia)] at a1 a2 a3
      refine hp.1 (c - A.length) ⟨a1, ?_, ?_⟩
      · rw [show c - A.length + 1 = c + 1 - A.length by lia]; exact a2
      · rw [show c - A.length + 2 = c + 2 - A.length by lia]; exact a3
    cases cuts with
    | nil =>
      rw [partsFrom, List.map_singleton, cp_sub, hx, List.drop_left' rfl, List.take_of_length_le ?_]
      · rfl
      · rw [← cp_len, hx, List.length_append]; show b.length ≤ _ + b.length - _; lia
    | cons c r => exact absurd hc.2.1 (no c hc.1)
  | b :: b2 :: bs, A, cuts, f, _, hb, hx, hc, hn => by
    have hp := hb b (.head _)
    rw [glueD_cons (by simp), List.append_assoc] at hx
    have first : ∀ c, A.length ≤ c → c < A.length + b.length → ¬ At x dots x.length c := fun c h1 h3 h2 => by
      have h2 := at_dots.mp h2
      rw [hx] at h2
      obtain ⟨a1, a2, a3⟩ := h2
      rw [List.getElem?_append_right (by lia)] at a1 a2 a3
      refine piece_first hp (k := c - A.length) (by lia) ⟨a1, ?_, ?_⟩
      · rw [show c - A.length + 1 = c + 1 - A.length by lia]; exact a2
      · rw [show c - A.length + 2 = c + 2 - A.length by lia]; exact a3
    have here : At x dots x.length (A.length + b.length) := at_dots.mpr (dot3_iff.mp (by
      rw [hx, ← List.append_assoc, List.drop_left' (by simp)]; exact ⟨_, rfl⟩))
    cases cuts with
    | nil =>
      have : f = A.length := hc
      exact absurd here (hn _ (by lia))
    | cons c r =>
      obtain ⟨h1, h2, h3, h4⟩ := hc
      have ec : c = A.length + b.length := by
        rcases Nat.lt_trichotomy c (A.length + b.length) with g | g | g
        · exact absurd h2 (first c h1 g)
        · exact g
        · exact absurd here (h3 _ (by lia) g)
      subst ec
      rw [partsFrom, List.map_cons, cp_sub, hx]
      have e1 : ((A ++ (b ++ (D3 ++ glueD (b2 :: bs)))).drop A.length).take (A.length + b.length - A.length) = b := by
        rw [List.drop_left' rfl, Nat.add_sub_cancel_left, List.take_left' rfl]
      rw [e1]
      congr 1
      have eL : (A ++ b ++ D3).length = A.length + b.length + dots.length := by rw [List.length_append, List.length_append]; rfl
      have := parts_glue x (b2 :: bs) (A ++ b ++ D3) r f (by simp) (fun y hy => hb y (.tail _ hy)) (by rw [hx]; simp only [List.append_assoc]) (by rw [eL]; exact h4) hn
      rw [eL] at this
      exact this
theorem hasDots_iff {x : Str} : hasDots x = true ↔ ∃ k, Dot3 (cp x) k := by
  unfold hasDots
  rw [found_iff]
  exact ⟨fun ⟨i, h⟩ => ⟨i, at_dots.mp h⟩, fun ⟨i, h⟩ => ⟨i, at_dots.mpr h⟩⟩
theorem split_glue {x : Str} {bs : List (List Nat)} (h0 : bs ≠ []) (hb : ∀ b ∈ bs, Piece b) (hx : cp x = glueD bs) (hd : hasDots x = true) : (Txt.split x dots).map cp = bs := by
  obtain ⟨k, hk⟩ := hasDots_iff.mp hd
  have hA := at_dots.mpr hk
  obtain ⟨f, hG, hn⟩ := occ_tight x dots (by decide)
  unfold Txt.split
  rw [if_neg, if_neg, partsBetween_eq]
  · exact parts_glue x bs [] _ f h0 hb hx hG hn
  · intro he
    rw [List.isEmpty_iff.mp he] at hG
    have : f = 0 := hG
    exact hn k (by lia) hA
  · rw [Bool.or_eq_true, decide_eq_true_eq, decide_eq_true_eq]
    rintro (h | h)
    · have := hA.1; lia
    · have := PySem.W.kind_le x dots hA.2; lia
theorem glue_dots {b c : List Nat} {bs : List (List Nat)} : ∃ k, Dot3 (glueD (b :: c :: bs)) k := ⟨b.length, dot3_iff.mp (by
  rw [glueD_cons (by simp), List.append_assoc, List.drop_left' rfl]; exact ⟨_, rfl⟩)⟩
noncomputable def gapL (b : Bool) : List Nat := if b = true then D3 else []
theorem cp_gap (b : Bool) : cp (gapS b) = gapL b := by cases b <;> decide
noncomputable def restL (ls : List (List Nat)) : List Nat → List Bool → List Nat
  | [], _ => []
  | p :: ps, gs => ls.getD p [] ++ gapL (gs.headD false) ++ restL ls ps gs.tail
theorem chL_cons {ls : List (List Nat)} {p : Nat} {c : List Nat} : chL ls (p :: c) = ls.getD p [] ++ chL ls c := by unfold chL; rw [List.map_cons, List.flatten_cons]
theorem restL_glue {ls : List (List Nat)} : ∀ (ps : List Nat) (gs : List Bool), restL ls ps gs = glueD ((pack ps gs).map (chL ls))
  | [], _ => rfl
  | p :: ps, gs => by
    rw [restL, pack, restL_glue ps gs.tail]
    refine ngI fun hNg => ?_
    obtain ⟨c, cs, e⟩ := pack_ne ps gs.tail
    refine ngE hNg ?_
    rw [e]
    split
    · rename_i hg
      rw [hg, List.map_cons (a := [p]), glueD_cons (b := chL ls [p]) (by simp), chL_cons]
      show _ ++ D3 ++ _ = _ ++ [] ++ D3 ++ _
      rw [List.append_nil]
    · rename_i hg
      have hg' : gs.headD false = false := by simpa using hg
      rw [hg', List.headD_cons, List.tail_cons, List.map_cons, List.map_cons, chL_cons]
      show _ ++ [] ++ _ = _
      rw [List.append_nil]
      cases cs with
      | nil => rfl
      | cons d ds => rw [glueD_cons (by simp), glueD_cons (by simp), List.append_assoc, List.append_assoc]; simp only [List.append_assoc]
theorem getD_map_cp {lines : List Str} {p : Nat} : cp (lines.getD p "") = (lines.map cp).getD p [] := by
  rw [List.getD_eq_getElem?_getD, List.getD_eq_getElem?_getD, List.getElem?_map]
  cases lines[p]? with
  | none => decide
  | some x => rfl
theorem wantAt_rest {lines : List Str} {q : Want} : ∀ k, k ≤ q.1.length → cp (wantAt lines q k) ++ restL (lines.map cp) (q.1.drop k) (q.2.drop (k + 1)) = gapL (q.2.headD false) ++ restL (lines.map cp) q.1 q.2.tail
  | 0, _ => by
    rw [wantAt, cp_gap, List.drop_zero]
    congr 2
    · cases q.2 <;> rfl
    · cases q.2 <;> rfl
  | k + 1, hk => by
    rw [← wantAt_rest k (by lia), wantAt, cp_app, cp_app, cp_gap, getD_map_cp]
    rw [List.drop_eq_getElem_cons (i := k) hk, restL]
    have e1 : q.1.getD k 0 = q.1[k] := by rw [List.getD_eq_getElem?_getD, List.getElem?_eq_getElem hk]; rfl
    have e2 : (q.2.drop (k + 1)).headD false = q.2.getD (k + 1) false := by
      rw [List.getD_eq_getElem?_getD, ← List.head?_drop, List.headD_eq_head?_getD]
    have e3 : (q.2.drop (k + 1)).tail = q.2.drop (k + 1 + 1) := by rw [List.tail_drop]
    rw [e1, e2, e3]
    simp only [List.append_assoc]
theorem wantS_glue {lines : List Str} {q : Want} : cp (wantS lines q) = glueD ((pieces q).map (chL (lines.map cp))) := by
  have h := wantAt_rest (lines := lines) (q := q) q.1.length (Nat.le_refl _)
  rw [List.drop_length, restL, List.append_nil] at h
  unfold wantS
  rw [h, restL_glue]
  unfold pieces
  obtain ⟨c, cs, e⟩ := pack_ne q.1 q.2.tail
  split
  · rename_i hg
    rw [hg, e, List.map_cons (a := []), glueD_cons (b := chL _ []) (by simp)]; rfl
  · rename_i hg
    have hg' : q.2.headD false = false := by simpa using hg
    rw [hg']; rfl
end
end
section
theorem pack_mem : ∀ {ps : List Nat} {gs : List Bool} {c : List Nat} {p : Nat}, c ∈ pack ps gs → p ∈ c → p ∈ ps
  | [], _, c, p, h, hp => by rw [pack] at h; rw [List.mem_singleton.mp h] at hp; cases hp
  | a :: ps, gs, c, p, h, hp => by
    rw [pack] at h
    obtain ⟨d, ds, e⟩ := pack_ne ps gs.tail
    rw [e] at h
    split at h
    · rcases List.mem_cons.mp h with rfl | h
      · rw [List.mem_singleton.mp hp]; exact .head _
      · exact .tail _ (pack_mem (by rw [e]; exact h) hp)
    · rw [List.headD_cons, List.tail_cons] at h
      rcases List.mem_cons.mp h with rfl | h
      · rcases List.mem_cons.mp hp with rfl | hp
        · exact .head _
        · exact .tail _ (pack_mem (by rw [e]; exact .head _) hp)
      · exact .tail _ (pack_mem (by rw [e]; exact .tail _ h) hp)
theorem pieces_mem {q : Want} {c : List Nat} {p : Nat} (h : c ∈ pieces q) (hp : p ∈ c) : p ∈ q.1 := by
  unfold pieces at h
  split at h
  · rcases List.mem_cons.mp h with rfl | h
    · cases hp
    · exact pack_mem h hp
  · exact pack_mem h hp
theorem le_sumN : ∀ {l : List Nat} {x : Nat}, x ∈ l → x ≤ l.sum
  | a :: l, x, h => by
    rw [List.sum_cons]
    rcases List.mem_cons.mp h with rfl | h
    · lia
    · have := le_sumN h; lia
theorem pieces_ne (q : Want) : ∃ c cs, pieces q = c :: cs := by
  unfold pieces
  split
  · exact ⟨_, _, rfl⟩
  · exact pack_ne _ _
section
variable {lines : List Str} (hL : ∀ l ∈ lines, Line (cp l)) (hF : ∀ l ∈ lines, Free (cp l)) (hd : lines.Nodup)
include hL hF hd
theorem whole_iff {c : List Nat} (hc : ∀ p ∈ c, p < lines.length) : chL (lines.map cp) c = (lines.map cp).flatten ↔ c = List.range' 0 lines.length := by
  have hL' : ∀ l ∈ lines.map cp, Line l := fun l h => by obtain ⟨x, hx, rfl⟩ := List.mem_map.mp h; exact hL x hx
  have hd' : (lines.map cp).Nodup := List.pairwise_map.mpr (hd.imp fun {a b} h e => h (cp_inj e))
  have hc' : ∀ p ∈ c, p < (lines.map cp).length := fun p hp => by rw [List.length_map]; exact hc p hp
  have hn : (lines.map cp).length = lines.length := List.length_map _
  constructor
  · intro e
    by_cases hz : c = []
    · subst hz
      have h0 : (lines.map cp).flatten = [] := e.symm
      have := offL_all (ls := lines.map cp)
      rw [h0, List.length_nil] at this
      rcases Nat.eq_zero_or_pos lines.length with g | g
      · rw [g]; rfl
      · have := offL_lt hL' (i := 0) (j := (lines.map cp).length) (by lia) (Nat.le_refl _)
        lia
    · have h := (chL_at hL' hd' hz hc' (k := 0)).mp (by rw [e, List.drop_zero]; exact List.prefix_refl _)
      have l := chL_len hz hc' h.1
      have bb := run_bound h.1 hz hc'
      rw [← h.2, e, Nat.zero_add, ← offL_all] at l
      have a1 : c.headD 0 = 0 := by
        have : offL (lines.map cp) (c.headD 0) ≤ offL (lines.map cp) 0 := by rw [← h.2]; exact Nat.zero_le _
        have := (offL_le hL' (by lia) (Nat.zero_le _)).mp this
        lia
      have a2 := (offL_le hL' (Nat.le_refl _) bb).mp (Nat.le_of_eq l)
      have a3 : c.length = lines.length := by lia
      have r := h.1
      unfold isRun at r
      rw [a1, a3] at r; exact r
  · intro e
    have h := pre_of_run (ls := lines.map cp) (m := lines.length) (i := 0) (by lia)
    unfold chL
    rw [e, h, List.drop_zero, List.take_of_length_le (by lia)]
theorem want_fits {q : Want} (hq : WantOk lines.length q) (h400 : ∀ l ∈ lines, l.length ≤ 400) (h10 : lines.length ≤ 10) : ∃ ws : List Str,
    (hasDots (wantS lines q) = true → Txt.split (wantS lines q) dots = ws) ∧ 2 ≤ ws.length ∧ (∀ w ∈ ws, w.length ≤ 1000000) ∧ ws.length ≤ 1000000 ∧ (if hasDots (wantS lines q) = true then ellM (Txt.join "" lines) ws else wantS lines q == Txt.join "" lines) = fits q.1 q.2 lines.length := by
  have hL' : ∀ l ∈ lines.map cp, Line l := fun l h => by obtain ⟨x, hx, rfl⟩ := List.mem_map.mp h; exact hL x hx
  have hF' : ∀ l ∈ lines.map cp, Free l := fun l h => by obtain ⟨x, hx, rfl⟩ := List.mem_map.mp h; exact hF x hx
  have hd' : (lines.map cp).Nodup := List.pairwise_map.mpr (hd.imp fun {a b} h e => h (cp_inj e))
  have hn : (lines.map cp).length = lines.length := List.length_map _
  have hp : ∀ c ∈ pieces q, ∀ p ∈ c, p < (lines.map cp).length := fun c hc p h => by rw [hn]; exact hq.1 p (pieces_mem hc h)
  have hp' : ∀ c ∈ pieces q, ∀ p ∈ c, p < lines.length := fun c hc p h => hq.1 p (pieces_mem hc h)
  have hg : cp (Txt.join "" lines) = (lines.map cp).flatten := cp_join lines
  have hw := wantS_glue (lines := lines) (q := q)
  have hpc : ∀ b ∈ (pieces q).map (chL (lines.map cp)), Piece b := fun b hb => by
    obtain ⟨c, hc, rfl⟩ := List.mem_map.mp hb
    exact piece_chL hL' hF' (hp c hc)
  obtain ⟨c, cs, e⟩ := pieces_ne q
  rcases List.eq_nil_or_concat cs with rfl | ⟨cm, cl, e2⟩
  · -- no dots
    have hno : ¬ hasDots (wantS lines q) = true := fun h => by
      obtain ⟨k, hk⟩ := hasDots_iff.mp h
      rw [hw, e] at hk
      exact (hpc (chL (lines.map cp) c) (by rw [e]; exact .head _)).1 k hk
    refine ⟨["", ""], fun h => absurd h hno, Nat.le_refl _, fun w hw => ?_, by decide, ?_⟩
    · have : w = "" := by simpa using hw
      rw [this]; decide
    · rw [if_neg hno, Bool.eq_iff_iff, fits_one e, beq_iff_eq, ← whole_iff hL hF hd (hp' c (by rw [e]; exact .head _))]
      have e3 : cp (wantS lines q) = chL (lines.map cp) c := by rw [hw, e]; rfl
      rw [← e3, ← hg]
      exact ⟨fun h => by rw [h], fun h => cp_inj h⟩
  · -- dots
    have e3 : pieces q = c :: (cm ++ [cl]) := by rw [e, e2, List.concat_eq_append]
    have hyes : hasDots (wantS lines q) = true := by
      refine hasDots_iff.mpr ?_
      rw [hw, e3, List.map_cons]
      obtain ⟨d, ds, e4⟩ : ∃ d ds, (cm ++ [cl]).map (chL (lines.map cp)) = d :: ds := by cases cm <;> exact ⟨_, _, rfl⟩
      rw [e4]; exact glue_dots
    have hs := split_glue (by rw [e3]; simp) hpc hw hyes
    have hlen := congrArg List.length hs
    rw [List.length_map, List.length_map] at hlen
    have wt := PyProof.Rows.split_weight (wantS lines q) dots (by decide)
    have wl : (wantS lines q).length ≤ 100000 := by
      have := wantAt_len (lines := lines) (q := q) h400 q.1.length
      have := hq.2.2
      show (wantAt lines q q.1.length).length ≤ _
      lia
    refine ⟨Txt.split (wantS lines q) dots, fun zz => rfl, ?_, fun w hw => ?_, by lia, ?_⟩
    · rw [hlen, e3, List.length_cons, List.length_append, List.length_singleton]; lia
    · have : w.length ≤ ((Txt.split (wantS lines q) dots).map (·.length)).sum := le_sumN (List.mem_map.mpr ⟨w, hw, rfl⟩)
      lia
    · rw [if_pos hyes, Bool.eq_iff_iff, fits_many e3 hp']
      rw [e3, List.map_cons, List.map_append, List.map_singleton] at hs
      generalize Txt.split (wantS lines q) dots = ws at hs
      match ws, hs with
      | w0 :: wr, hs =>
        rw [List.map_cons] at hs
        obtain ⟨h0, h1⟩ := List.cons.inj hs
        rcases List.eq_nil_or_concat wr with rfl | ⟨wm, wl, e5⟩
        · have := congrArg List.length h1
          simp at this
        · subst e5
          rw [List.concat_eq_append, List.map_append, List.map_singleton] at h1
          obtain ⟨h2, h3⟩ := List.append_inj' h1 rfl
          rw [List.concat_eq_append, ← hn]
          exact ellM_iff hL' hd' hg h0 (List.cons.inj h3).1 h2 (hp c (by rw [e3]; exact .head _)) (hp cl (by rw [e3]; simp)) fun d hd => hp d (by rw [e3]; simp [hd])
      | [], hs => cases hs
end
end
section
noncomputable def Dig (c : Nat) : Prop := c = 45 ∨ 48 ≤ c ∧ c ≤ 57
theorem int_dig (i : Int) : ∀ c ∈ cp (Str.ofString (toString i)), Dig c := by
  have e1 : toString i = i.repr := by cases i <;> rfl
  have key : ∀ n : Nat, ∀ c ∈ n.repr.toList, Dig c.toNat := fun n c hc => by
    have : c.isDigit = true := Nat.isDigit_of_mem_toDigits (b := 10) (n := n) (by decide) (by decide) (by simpa [Nat.repr] using hc)
    unfold Char.isDigit at this
    simp only [Bool.and_eq_true, decide_eq_true_eq] at this
    exact .inr ⟨this.1, this.2⟩
  rw [e1]
  unfold cp
  rw [Str.ofString_eq_toList]
  intro c hc
  have hc : c ∈ i.repr.toList.map Char.toNat := hc
  obtain ⟨d, hd, rfl⟩ := List.mem_map.mp hc
  cases i with
  | ofNat n => exact key n d hd
  | negSucc n =>
    have hd : d ∈ ("-" ++ (n + 1).repr).toList := hd
    rw [String.toList_append] at hd
    rcases List.mem_append.mp hd with hd | hd
    · have : d = '-' := by simpa using hd
      rw [this]; exact .inl rfl
    · exact key _ d hd
noncomputable def Tame (l : List Nat) : Prop := 9 ∉ l ∧ 10 ∉ l ∧ Free l
theorem dig_tame {l : List Nat} (h : ∀ c ∈ l, Dig c) : Tame l := by
  refine ⟨fun x => ?_, fun x => ?_, free_no fun x => ?_⟩ <;> (have := h _ x; unfold Dig at this; lia)
theorem tame_nil : Tame [] := ⟨by simp, by simp, free_no (by simp)⟩
theorem tame_sep {m r : List Nat} {x : Nat} (hx : x ≠ 46 ∧ x ≠ 9 ∧ x ≠ 10) (h1 : Tame m) (h2 : Tame r) : Tame (m ++ x :: r) := by
  refine ⟨fun h => ?_, fun h => ?_, free_sep hx.1 h1.2.2 h2.2.2⟩
  · rcases List.mem_append.mp h with h | h
    · exact h1.1 h
    · rcases List.mem_cons.mp h with h | h
      · exact hx.2.1 h.symm
      · exact h2.1 h
  · rcases List.mem_append.mp h with h | h
    · exact h1.2.1 h
    · rcases List.mem_cons.mp h with h | h
      · exact hx.2.2 h.symm
      · exact h2.2.1 h
theorem tame_no {l : List Nat} (h : ∀ c ∈ l, c ≠ 46 ∧ c ≠ 9 ∧ c ≠ 10) : Tame l := ⟨fun x => (h _ x).2.1 rfl, fun x => (h _ x).2.2 rfl, free_no fun x => (h _ x).1 rfl⟩
theorem text_tame {sp nm : Str} {ln : Int} (h1 : SpOk sp) (h2 : NmOk nm) : Tame (cp (textOf sp ln nm)) := by
  have nm_t : Tame (cp nm ++ [41]) := by
    refine tame_sep (by decide) ?_ tame_nil
    rcases cp_nm h2 with a | a | a | a <;> rw [a] <;> exact tame_no (by decide)
  rw [textOf_eq]
  split
  · rw [cp_long]
    refine tame_sep (by decide) ?_ (tame_sep (by decide) (dig_tame (int_dig ln)) nm_t)
    rcases cp_sp h1 with a | a <;> rw [a]
    · refine tame_sep (m := [97, 46, 46]) (r := [121]) (x := 112) (by decide) ⟨by decide, by decide, fun k h => ?_⟩ (tame_no (by decide))
      have hk := (List.getElem?_eq_some_iff.mp h.2.2).1
      have : k = 0 := by simp at hk; lia
      subst this
      cases h.1
    · exact tame_no (by decide)
  · rcases cp_short h2 with b | b | b | b <;> rw [b.1] <;> exact tame_no (by decide)
theorem cp_line (x : Ent) (f : Fnc) : cp (lineOf (rowOf x f)) = 9 :: ((cp (Str.ofString (toString x.nc)) ++ 32 :: cp f.text) ++ [10]) := by
  have e : lineOf (rowOf x f) = tabS ++ (toString x.nc : String) ++ spcS ++ f.text ++ nlS := rfl
  rw [e]
  simp only [cp_app]
  rw [show cp tabS = [9] from by decide, show cp spcS = [32] from by decide, show cp nlS = [10] from by decide]
  simp
theorem line_tame {x : Ent} {f : Fnc} (h1 : SpOk f.sp) (h2 : NmOk f.nm) : Line (cp (lineOf (rowOf x f))) ∧ Free (cp (lineOf (rowOf x f))) := by
  have t := tame_sep (x := 32) (by decide) (dig_tame (int_dig x.nc)) (text_tame (ln := f.ln) h1 h2)
  rw [cp_line]
  refine ⟨⟨_, rfl, t.1, t.2.1⟩, ?_⟩
  have : (9 :: ((cp (Str.ofString (toString x.nc)) ++ 32 :: cp f.text) ++ [10])) = [] ++ 9 :: ((cp (Str.ofString (toString x.nc)) ++ 32 :: cp f.text) ++ 10 :: []) := rfl
  rw [this]
  exact free_sep (by decide) (free_no (by simp)) (free_sep (by decide) t.2.2 (free_no (by simp)))
theorem line_text {x x' : Ent} {f f' : Fnc} (e : lineOf (rowOf x f) = lineOf (rowOf x' f')) : f.text = f'.text := by
  have e := congrArg cp e
  rw [cp_line, cp_line, List.cons.injEq] at e
  have e := List.append_cancel_right e.2
  have cut : ∀ {a a' b b' : List Nat}, (∀ c ∈ a, Dig c) → (∀ c ∈ a', Dig c) → a ++ 32 :: b = a' ++ 32 :: b' → b = b' := fun {a} => by
    induction a with
    | nil =>
      intro a' b b' _ h' h
      cases a' with
      | nil => exact (List.cons.inj h).2
      | cons c a' =>
        have := h' c (.head _)
        rw [← (List.cons.inj h).1] at this
        unfold Dig at this; lia
    | cons c a ih =>
      intro a' b b' h1 h' h
      cases a' with
      | nil =>
        have := h1 c (.head _)
        rw [(List.cons.inj h).1] at this
        unfold Dig at this; lia
      | cons c' a' => exact ih (fun y hy => h1 y (.tail _ hy)) (fun y hy => h' y (.tail _ hy)) (List.cons.inj h).2
  exact cp_inj (cut (int_dig _) (int_dig _) e)
end
section
section
variable {b : Bool} {keys : Keys} {evs : List Evt}
theorem listing_lines (hk : KeysOk keys) (hl : evs.length ≤ 6) (h : ∀ x ∈ evs, EvOk b x) (t : Nat) :
    let lines := (listing (bookAt keys evs evs.length) t).map lineOf
    (∀ l ∈ lines, Line (cp l)) ∧ (∀ l ∈ lines, Free (cp l)) ∧ lines.Nodup ∧ (∀ l ∈ lines, l.length ≤ 400) ∧ lines.length = (rowsOf evs).length ∧ lines.length ≤ 10 := by
  obtain ⟨A, B⟩ := book_inv hk (by lia) h evs.length (Nat.le_refl _)
  rw [List.take_length] at A B
  have hB : ∃ B' : List TRow, B'.map (·.1) = listing (bookAt keys evs evs.length) t ∧ B'.Perm ((lastT evs).map (trow evs)) := by
    unfold listing
    split
    · obtain ⟨L, a, c, _⟩ := B.behind; exact ⟨L, a, c⟩
    · obtain ⟨L, a, c, _⟩ := B.ahead; exact ⟨L, a, c⟩
  obtain ⟨L, e, pm⟩ := hB
  have hrow : ∀ r ∈ listing (bookAt keys evs evs.length) t, ∃ k, k ∈ lastT evs ∧ r = rowOf (totalT evs (evs.getD k evt0).fn.text) (evs.getD k evt0).fn := fun r hr => by
    rw [← e] at hr
    obtain ⟨a, ha, rfl⟩ := List.mem_map.mp hr
    obtain ⟨k, hk, rfl⟩ := mem_trow pm ha
    exact ⟨k, hk, rfl⟩
  have ok : ∀ k ∈ lastT evs, EvOk b (evs.getD k evt0) := fun k hk => getD_ok h (lastT_lt hk)
  have hlen : (listing (bookAt keys evs evs.length) t).length = (lastT evs).length := by
    rw [← e, List.length_map, pm.length_eq, List.length_map]
  have hlr : (rowsOf evs).length = (lastT evs).length := by rw [rowsOf_eq h, List.length_map]
  have h6 : (lastT evs).length ≤ 6 := Nat.le_trans (Nat.le_trans (List.length_filter_le _ _) (by rw [List.length_range]; exact Nat.le_refl _)) hl
  refine ⟨fun l hl' => ?_, fun l hl' => ?_, ?_, fun l hl' => ?_, by rw [List.length_map, hlen, hlr], by rw [List.length_map, hlen]; lia⟩
  · obtain ⟨r, hr, rfl⟩ := List.mem_map.mp hl'
    obtain ⟨k, hk, rfl⟩ := hrow r hr
    exact (line_tame (ok k hk).sp (ok k hk).nm).1
  · obtain ⟨r, hr, rfl⟩ := List.mem_map.mp hl'
    obtain ⟨k, hk, rfl⟩ := hrow r hr
    exact (line_tame (ok k hk).sp (ok k hk).nm).2
  · have e2 : (listing (bookAt keys evs evs.length) t).map lineOf = L.map fun r => lineOf r.1 := by rw [← e, List.map_map]; rfl
    rw [e2]
    have nd : ((lastT evs).map fun k => lineOf (trow evs k).1).Nodup := List.pairwise_map.mpr (List.Pairwise.imp_of_mem (fun {a c} ha hc hlt e3 => last_inj ha hc hlt (line_text e3)) (lastT_inc evs))
    have pm2 := pm.map fun r : TRow => lineOf r.1
    rw [List.map_map] at pm2
    exact pm2.nodup_iff.mpr nd
  · obtain ⟨r, hr, rfl⟩ := List.mem_map.mp hl'
    obtain ⟨k, hk, rfl⟩ := hrow r hr
    have o := ok k hk
    refine line_len ?_ (text_len o.fn.1 o.fn.2.1 o.fn.2.2)
    have := nc_bound h (by lia) o
    rw [← (total_nums h o).2.1] at this
    exact this
theorem theLaw (hk : KeysOk keys) (hl : evs.length ≤ 6) (h : ∀ x ∈ evs, EvOk b x) (total : Int) : ∃ S qs pl pf ps pn, LawOk evs keys total b S qs pl pf ps pn := by
  have inv := book_inv hk (Nat.le_trans hl (by decide)) h evs.length (Nat.le_refl _)
  rw [List.take_length] at inv
  have ht : ∀ k, ∀ x ∈ evs.take k, EvOk b x := fun k x hx => h x (List.mem_of_mem_take hx)
  have led : ∀ k : Nat, ∃ p : List Nat, ∀ e : Evt, evs[k]? = some e → LedOk b (evs.take (k + 1)) e.fn p := fun k => by
    cases hx : evs[k]? with
    | none => exact ⟨[], fun zz x => by cases x⟩
    | some y =>
      obtain ⟨p, hp⟩ := led_ok (ht (k + 1)) (h y (List.mem_of_getElem? hx))
      exact ⟨p, fun zz x => by cases x; exact hp⟩
  have ledF : ∀ k : Nat, ∃ p : List Nat, ∀ e : Evt, evs[k]? = some e → LedOk b evs e.fn p := fun k => by
    cases hx : evs[k]? with
    | none => exact ⟨[], fun zz x => by cases x⟩
    | some y =>
      obtain ⟨p, hp⟩ := led_ok h (h y (List.mem_of_getElem? hx))
      exact ⟨p, fun zz x => by cases x; exact hp⟩
  have told : ∀ t : Nat, ∃ p : List Nat, t < 2 → Ord (lexLt keys.length (ranksOf (rowsT evs t) keys)) (rowsT evs t).length p ∧ (p.map fun i => (rowsT evs t).getD i []) = listing (bookAt keys evs evs.length) t := fun t => by
    by_cases h0 : t = 0
    · subst h0
      obtain ⟨L, a, c, d⟩ := inv.2.behind
      have := told0 hk h c d
      exact ⟨_, fun zz => ⟨this.1, this.2.trans a⟩⟩
    · obtain ⟨L, a, c, d⟩ := inv.2.ahead
      have := told1 hk h c d
      have e1 : rowsT evs t = (rowsOf evs).reverse := if_neg h0
      have e2 : listing (bookAt keys evs evs.length) t = (bookAt keys evs evs.length).ahead := if_neg h0
      exact ⟨_, fun zz => by rw [e1, e2]; exact ⟨this.1, this.2.trans a⟩⟩
  have nm := names_ord inv.1.sorted (texts_nd evs) fun t => (inv.1.mem t).trans texts_mem.symm
  exact ⟨bookAt keys evs, fun k => bookPlc keys (bookAt keys evs k) (evs.getD k evt0), fun k => Classical.choose (led k), fun k => Classical.choose (ledF k), fun t => Classical.choose (told t), (bookAt keys evs evs.length).names.map ((textsOf evs).idxOf ·), {
    h0 := rfl
    hS := fun k e he => by
      have := book_steps hk (Nat.le_trans hl (by decide)) h k e he
      have e1 : evs.getD k evt0 = e := by rw [List.getD_eq_getElem?_getD, he]; rfl
      rw [e1]; exact this
    evl := hl
    four := fun e he => (h e he).four
    one := fun e he => (h e he).one
    led := fun k e he => Classical.choose_spec (led k) e he
    ledEq := fun k e he => by
      have hlt := (List.getElem?_eq_some_iff.mp he).1
      have e1 : evs.getD k evt0 = e := by rw [List.getD_eq_getElem?_getD, he]; rfl
      have ho := h e (List.mem_of_getElem? he)
      refine ⟨totalT (evs.take (k + 1)) e.fn.text, ?_, ?_, entSum_eq (ht _) ho, led_eq (ht _) ho (Classical.choose_spec (led k) e he).hp⟩
      · rw [book_stepsAt hk (Nat.le_trans hl (by decide)) h _ (Nat.le_refl _), List.getElem?_map, List.getElem?_range hlt, ← e1]; rfl
      · exact (total_ok (ht (k + 1)) (by rw [List.length_take]; lia) _).len
    ledF := fun k e he => Classical.choose_spec (ledF k) e he
    namesOk := by
      have e2 : (rowsOf evs).length = (textsOf evs).length := by rw [← texts_eq h, List.length_map]
      rw [texts_eq h, e2]; exact nm.1
    namesEq := by rw [texts_eq h]; exact nm.2
    r8 := rows8 h
    nc := fun k e he => nc_bound h (Nat.le_trans hl (by decide)) (h e (List.mem_of_getElem? he))
    told := fun t ht => Classical.choose_spec (told t) ht
    wants := fun t ht q hq => by
      obtain ⟨h1, h2, h3, h4, h5, h6⟩ := listing_lines hk hl h t
      have hw := wants_ok q hq
      rw [← h5] at hw ⊢
      exact want_fits h1 h2 h3 hw h4 h6 }⟩
end
theorem law_holds {s₀ : Shared} {U₀ : Addr → Prop} (H : Base g) (w₀ : Wd g s₀) {script : List Int} (hz : script.length ≤ 63) : Fn g 6 (.ref 159) [] s₀ U₀ [.lst (script.map .int)] [] (.bool true) := by
  obtain ⟨_, _, _, _, _, _, W⟩ := theLaw (keys_ok _) (events_len script) (events_ok script) (lawTotal script)
  exact law_true H w₀ hz W
end
section
section
variable {p : Program} {loose : List Str} {mean : ExcName → Option Value} {w : World} {s : Shared} {mg mb : Str → Option Value} {q : Program}
theorem tab58 {K : Frag} (KX : K.In s.heap) (T : Top q loose mean mg mb s.heap) (hr : (recsOf q).any (fun d => d.name == "add_callers") = true) (ht : tabIn K "add_callers" = some (62, 58)) (hc : codeHdIn K 62 58 = true) : s.heap.get? 58 = some (tabObj #[]) := by
  refine ngI fun hNg => ?_
  obtain ⟨d, hd, e⟩ := List.any_eq_true.mp hr
  refine ngE hNg ?_
  have e := eq_of_beq e
  refine ngI fun hNg => ?_
  obtain ⟨a, o, fd, c, P, h1, h2, h3, h4, h5, h6⟩ := T.tab d hd
  refine ngE hNg ?_
  rw [e] at h1
  have hcd := law_code KX T.g ht h1 h2 h3
  rw [h4] at hcd
  cases hcd
  refine ngI fun hNg => ?_
  obtain ⟨o', vs, _, _, _, _, _, _, _, g1, _, g3, g4, _⟩ := codeHd_of_K KX hc
  refine ngE hNg ?_
  refine ngI fun hNg => ?_
  obtain ⟨⟨o'', vs'', k1, _, k3, k4⟩, k5⟩ := h6
  refine ngE hNg ?_
  rw [g1] at k1; cases k1
  rw [g3] at k3; cases k3
  rw [g4] at k4; cases k4
  exact k5
theorem ns_hide {h : Heap} {a : Addr} {m : Str → Option Value} (x : h.Ns a m) (ha : a ∉ hid3) : (hideAll h hid3).Ns a m :=
  let ⟨o, es, ep, e, r⟩ := x
  ⟨o, es, ep, hideAll_get _ e ha, r⟩
theorem base_of (KX : (pk.heap_1 w.params).In s.heap) (T : Top q loose mean mg mb s.heap) (h3 : ∀ P ∈ hid3, s.heap.get? P = some (tabObj #[])) (hK : hid3.all (fun P => ((pk.heap_1 w.params).lookup P).isNone) = true) (hC : tabs3.all (fun t => codeHdIn (pk.heap_1 w.params) t.1 t.2.1) = true) : Base (gOf p w s mg mb) := by
  have inK : (pk.heap_1 w.params).In (hideAll s.heap hid3) := fun a o e => hideAll_get _ (KX a o e) fun hm => by
    have := List.all_eq_true.mp hK a hm
    rw [e] at this; cases this
  refine {
    glb := ⟨ns_hide T.g (by decide), ns_hide T.b (by decide), T.builtins, ?_⟩
    inK := inK
    tabs := rfl
    tabNone := fun t ht => ?_
    hds := fun t ht => codeHd_of_K inK (List.all_eq_true.mp hC t ht)
    bm := ?_ }
  · obtain ⟨mc, h1, h2⟩ := T.nolimit
    exact ⟨mc, ns_hide h1 (by decide), h2⟩
  · refine hideAll_none _ ?_
    have ht : t ∈ tabs3 := ht
    simp only [tabs3, List.mem_cons, List.not_mem_nil, or_false] at ht
    rcases ht with rfl | rfl | rfl <;> decide
  · obtain ⟨bm, ob, h1, h2, h4, h5, h6, h7⟩ := T.bmain
    refine ⟨bm, ob, h1, h2, fun e => ?_, hideAll_get _ h4 fun hm => ?_, h5, h6, h7⟩
    · obtain ⟨o, es, ep, k1, k2, _⟩ := T.g
      rw [← e, h4] at k1; cases k1
      rw [h7] at k2; cases k2
    · have := h3 bm hm
      rw [h4] at this; cases this
      cases h5
theorem wd_of (h3 : ∀ P ∈ hid3, s.heap.get? P = some (tabObj #[])) (hg : s.gens = #[]) : Wd (gOf p w s mg mb) s where
  keep := fun b o e => of_hideAll _ e
  tab := fun t ht => by
    have : t.2.1 ∈ hid3 := by
      have ht : t ∈ tabs3 := ht
      simp only [tabs3, List.mem_cons, List.not_mem_nil, or_false] at ht
      rcases ht with rfl | rfl | rfl <;> decide
    exact ⟨#[], h3 _ this, trivial, fun pos c e => by cases e⟩
  gens := .of_eq hg
  os := rfl
theorem old_of {s' : Shared} (h3 : ∀ P ∈ hid3, s.heap.get? P = some (tabObj #[])) (hc : ∀ t ∈ tabs3, isCodeTable s.heap t.2.1) (hp : Pur (gOf p w s mg mb) s s') : OldK s.heap s'.heap := by
  have ht : ∀ P ∈ hid3, ∃ t ∈ tabs3, t.2.1 = P := fun P hP => by
    simp only [hid3, List.mem_cons, List.not_mem_nil, or_false] at hP
    rcases hP with rfl | rfl | rfl
    · exact ⟨_, .head _, rfl⟩
    · exact ⟨_, .tail _ (.head _), rfl⟩
    · exact ⟨_, .tail _ (.tail _ (.head _)), rfl⟩
  have key : ∀ b o, s.heap.get? b = some o → asItWas s.heap s'.heap b o ∧ ∃ o', s'.heap.get? b = some o' := fun b o e => by
    by_cases hb : b ∈ hid3
    · obtain ⟨t, h1, h2⟩ := ht b hb
      obtain ⟨ps, e1, _⟩ := hp.wd.tab t h1
      rw [h2] at e1
      have := h3 b hb
      rw [e] at this; cases this
      refine ⟨.inr (.inl ⟨h2 ▸ hc t h1, rfl, #[], ps, rfl, ?_⟩), _, e1⟩
      rw [e1]; simp
    · have := hp.keep b o (fun t h1 e1 => hb (by
        have h1 : t ∈ tabs3 := h1
        simp only [tabs3, List.mem_cons, List.not_mem_nil, or_false] at h1
        rcases h1 with rfl | rfl | rfl <;> rw [← e1] <;> decide)) e
      exact ⟨.inl this, _, this⟩
  exact ⟨fun b o e => (key b o e).1, fun b o e => (key b o e).2⟩
end
set_option tactic.hygienic true in
theorem law_end : PySem.Challenge.rw_ph0149_01.Holds := pk.2 topLeft (fix5 (by
  obtain ⟨w, hw⟩ : ∃ x, x = cx.1 := ⟨_, rfl⟩
  obtain ⟨s₁, hs⟩ : ∃ x, x = cx.2.2.1 := ⟨_, rfl⟩
  obtain ⟨mg, hmg'⟩ : ∃ x, x = cx.2.2.2.1 := ⟨_, rfl⟩
  obtain ⟨mb, hmb'⟩ : ∃ x, x = cx.2.2.2.2 := ⟨_, rfl⟩
  have eg : g = gOf PySem.Challenge.rw_ph0149_01.row.prog w s₁ mg mb := by rw [g, hw, hs, hmg', hmb']
  rw [← hw, ← hs, ← hmg', ← hmb']
  clear hw hs hmg' hmb'
  intro G Y fa o pm cd doc dV kV ho hd' hcd hD hmg hg args vals as hpre hlay hrd hwl hlo
  have KX := km_in_of Y
  have KT := km_tabs_of Y
  refine Ground.open G ?_
  intro T B D TE TW
  clear TE TW D B Y G
  wrow_args hpre hlay hrd hwl hlo
  rename_i zs _ _ _ _ _ _ _ l ws _ hL _ _ _ hI _ hz _
  have hz : zs.length ≤ 63 := by omega
  have h58 : s₁.heap.get? 58 = some (tabObj #[]) := tab58 KX T (by kernel_rfl!) (by kernel_rfl!) (by kernel_rfl!)
  have h3 : ∀ P ∈ hid3, s₁.heap.get? P = some (tabObj #[]) := fun P hP => by
    simp only [hid3, List.mem_cons, List.not_mem_nil, or_false] at hP
    rcases hP with rfl | rfl | rfl
    · exact KT _ (by simp)
    · exact KT _ (by simp)
    · exact h58
  have H0 : Base (gOf PySem.Challenge.rw_ph0149_01.row.prog w s₁ mg mb) := base_of KX T h3 (by kernel_rfl!) (by kernel_rfl!)
  have H : Base g := by rw [eg]; exact H0
  have w₀' : Wd (gOf PySem.Challenge.rw_ph0149_01.row.prog w s₁ mg mb) s₁ := wd_of h3 hg
  have w₀ : Wd g s₁ := by rw [eg]; exact w₀'
  have efa : fa = 159 := by
    have e := mg_of (n := "law") (v := .ref 159) KX T.g (by kernel_rfl!)
    have e2 : mg "law" = some (.ref fa) := hmg
    rw [e] at e2
    injection e2 with e2
    injection e2 with e2
    exact e2.symm
  subst efa
  clear ho hd' hcd hD hmg
  have F := law_holds (U₀ := fun a => a ∈ hid3) H w₀ (script := zs) hz
  have hl : l ∉ hid3 := fun hm => by
    refine ngI fun hNg => ?_
    obtain ⟨o, e, e1, _⟩ := hL
    refine ngE hNg ?_
    rw [h3 l hm] at e
    cases e
    cases e1
  have hr : ∀ (vs : List Value) (zs : List Int), IntsAre vs zs → Reps g s₁.heap (fun a => a ∈ hid3) (zs.map .int) vs := fun vs zs h => by
    induction h with
    | nil => exact .nil
    | cons n t _ ih => exact .cons (.int n t) ih
  have R := F.run callerA s₁ (fun a => a ∈ hid3) [.ref l] [] ⟨rfl, by decide, by decide⟩ (Pur.refl w₀) (fun a h => ⟨_, h3 a h⟩) (fun t ht => by
    rw [eg] at ht
    have ht : t ∈ tabs3 := ht
    simp only [tabs3, List.mem_cons, List.not_mem_nil, or_false] at ht
    rcases ht with rfl | rfl | rfl <;> (show _ ∈ hid3) <;> decide) (fun a h => .inl h) (.cons (.lst hl hL (hr _ _ hI)) .nil) .nil
  rw [eg] at R
  refine wpAny_mono R (fun v s' ⟨hp, r⟩ => ?_) (fun e s' h => h.elim)
  · cases r
    have hold := old_of h3 (fun t ht => by
      refine ngI fun hNg => ?_
      obtain ⟨o', vs, _, _, _, _, _, _, _, g1, g2, g3, g4, _⟩ := H0.hds t ht
      refine ngE hNg ?_
      exact ⟨t.1, o', vs, of_hideAll _ g1, g2, g3, g4⟩) hp
    refine ⟨.inl ⟨.bool true, .bool true, [], rfl, raisesW_false (by wrow_none_raised), ?_, by wrow_post, ?_⟩, hold, hp.wd.os, hp.wd.gens⟩
    · w_reads
    · exact unshared_nil))
end
end Internal
end Mine
theorem PySem.Challenge.cw_ph0149_01_holds : PySem.Challenge.rw_ph0149_01.Holds :=
  Mine.Internal.law_end
