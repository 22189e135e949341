import PyProof.Rows.All
import Wide.All
import OpenK.AllK
import Wide.FinOn
import OpenK.KWalk
import KE.KSortTup
import KE.KPar
import KE.KStrWords
import KE.KItemsList
import Lean
import PySem.Challenge.RW_uq0034_01
set_option Elab.async false
set_option linter.unusedVariables false
set_option linter.unusedSimpArgs false
set_option maxRecDepth 100000
set_option maxHeartbeats 4000000
local macro_rules | `(tactic| omega) => `(tactic| lia)
section
open PySem PySem.W PyProof.Rows
set_option maxHeartbeats 8000000
namespace Uq
/-- what `openEnds` gives, in quick form: the library's own quick equations say which form -/
noncomputable def quickEnds (p : Program) (w : World) (N : Nat) : { x : Option Shared // openEnds treeTable p w N = x } := ⟨_, by
  unfold openEnds fencedOpening topFrom
  rw [PySem.W.Fast.te10274390034422433532, PySem.W.Fast.te1435165496053646825, PySem.W.Fast.te14289696077712309145, PySem.W.Fast.te14082659384304107361, PySem.W.Fast.te14364793385576792824]⟩
noncomputable abbrev endsQ (p : Program) (w : World) (N : Nat) : Option Shared := (quickEnds p w N).1
theorem endsQ_eq (p : Program) (w : World) (N : Nat) : openEnds treeTable p w N = endsQ p w N := (quickEnds p w N).2
theorem leftO_q {p q : Program} {loose : List Str} {Xt : Shared → Bool} {α : Type} {Yf : Shared → α} {Ya : World → α} {N : Nat} (row : String)
    (hf : ∀ w : World, (endsQ p (w.withFollow row false) N).map (fun s => (PySem.W.Fast.tw4187177175401517315 q loose (importedModules p.main.body) Xt true s, Yf s)) = some (openGood q loose, Ya (w.withFollow row false)))
    (ht : ∀ w : World, (endsQ p (w.withFollow row true) N).map (fun s => (PySem.W.Fast.tw4187177175401517315 q loose (importedModules p.main.body) Xt true s, Yf s)) = some (openGood q loose, Ya (w.withFollow row true))) : LeftO p q loose Xt Yf Ya N := by
  have e : LeftO p q loose Xt Yf Ya N = ∀ w : World, (endsQ p w N).map (fun s => (PySem.W.Fast.tw4187177175401517315 q loose (importedModules p.main.body) Xt true s, Yf s)) = some (openGood q loose, Ya w) := by
    unfold LeftO
    rw [PySem.W.Fast.te4187177175401517315]
    simp only [endsQ_eq]
  rw [e]
  exact fun w => byRow2 row (P := fun w => (endsQ p w N).map (fun s => (PySem.W.Fast.tw4187177175401517315 q loose (importedModules p.main.body) Xt true s, Yf s)) = some (openGood q loose, Ya w)) hf ht w

noncomputable def hdView : Program := view PySem.Challenge.rw_uq0034_01.row.prog [0, 1, 3, 4, 5, 7, 8, 9, 11, 12, 13, 14, 15, 16, 17, 18, 19, 20, 22, 23, 24, 25, 26, 27]
noncomputable def hdLoose : List Str := ["_name_disallowed_re", "_value_disallowed_re", "_twin_re_1", "_namespace_map", "_looks_like_prefix_name", "C14NWriterTarget"]

theorem said1 : OpenLaw.wellSaid PySem.Challenge.rw_uq0034_01 = true := by
  rw [PySem.W.Fast.te9446332074065402090]
  decide +kernel
section
local macro_rules | `(tactic| o_head $_) => `(tactic| assumption)
theorem hd (h : PySem.Challenge.rw_uq0034_01.row.Holds) : PySem.Challenge.rw_uq0034_01.row.Holds := by km_head
end
noncomputable def kAs : List Addr := [2, 3, 32, 34, 35, 37, 38, 39, 41, 42, 44, 45, 46, 48, 49, 51, 52, 53, 55, 56, 58, 59, 63, 64, 68, 69, 77, 78, 80, 81, 83, 84, 85, 87, 88, 90, 91, 92, 94, 95, 97, 98, 99, 101, 102, 104, 105, 106, 109, 110, 111, 113, 114, 116, 117, 118, 120, 121, 123, 124, 125, 127, 128, 130, 131, 132, 133, 135, 136, 138, 139, 140, 143, 144, 145, 148, 149, 150, 152, 153, 155, 156, 157, 159, 160, 162, 163, 164, 167, 168, 169, 171, 172, 174, 175, 176, 178, 179, 181, 182, 183, 185, 186, 188, 189, 190, 191, 192, 193, 194, 200, 201, 202, 203, 205, 206, 208, 209, 210, 212, 213, 215, 216, 217, 219, 220, 222, 223, 224, 226, 227, 229, 230, 231, 239, 240, 242, 243, 245, 246, 247, 248, 250, 251, 253, 254, 255, 257, 258, 260, 261, 262, 263, 265, 266, 268, 269, 270, 272, 273, 275, 276, 277, 278, 279, 281, 282, 284, 285, 286, 288, 289, 291, 292, 293, 295, 296, 298, 299, 300, 301, 304, 305, 306, 308, 309, 311, 312, 313, 315, 316, 318, 319, 320, 322, 323, 325, 326, 327, 328, 329, 330, 331, 334, 336, 337, 339, 340, 341, 343, 344, 346, 347, 348, 351, 352, 353, 355, 356, 358, 359, 360, 362, 363, 365, 366, 367, 370, 371, 372, 375, 376, 377, 379, 380, 382, 383]
theorem kAs_eq : ∀ P, kAs = (hd.heap_1 P).map (·.1) := fun P => by kernel_rfl
noncomputable abbrev kH : Hook := kHook hd.heap_1 kAs kAs_eq
noncomputable abbrev prog0 : Program := PySem.Challenge.rw_uq0034_01.row.toRowW.prog
noncomputable abbrev hdXt (s : Shared) : Bool := xlAt hdView [] s && recOk (RowW.records PySem.Challenge.rw_uq0034_01.row.toRowW) s
theorem both {σ α β : Type} {x : Option σ} {f : σ → α} {g : σ → β} {a : α} {b : β} (h : x.map f = some a) (h' : x.map g = some b) : x.map (fun s => (f s, g s)) = some (a, b) := by
  cases x with
  | none => exact absurd h (fun e => by cases e)
  | some s =>
    have e : f s = a := Option.some.inj h
    have e' : g s = b := Option.some.inj h'
    subst e e'
    rfl
noncomputable abbrev endsR (b : Bool) (w : World) : Option Shared := endsQ prog0 (w.withFollow "special-get-raises" b) 4662
noncomputable abbrev goodR (s : Shared) := PySem.W.Fast.tw4187177175401517315 hdView hdLoose (importedModules prog0.main.body) hdXt true s
theorem goodF : ∀ w : World, (endsR false w).map goodR = some (openGood hdView hdLoose) := fun w => by kernel_rfl
theorem goodT : ∀ w : World, (endsR true w).map goodR = some (openGood hdView hdLoose) := fun w => by kernel_rfl
theorem obsF : ∀ w : World, (endsR false w).map (Hook.obs kH) = some (Hook.val kH (w.withFollow "special-get-raises" false)) := fun w => by kernel_rfl
theorem obsT : ∀ w : World, (endsR true w).map (Hook.obs kH) = some (Hook.val kH (w.withFollow "special-get-raises" true)) := fun w => by kernel_rfl
theorem left0 : LeftO prog0 hdView hdLoose hdXt (Hook.obs kH) (Hook.val kH) 4662 := leftO_q "special-get-raises" (fun w => both (goodF w) (obsF w)) (fun w => both (goodT w) (obsT w))
end Uq
end

section
open PySem PySem.Calls PyProof.Rows
namespace Uq

/-- abstract values -/
inductive V where
  | none | bool (b : Bool) | int (i : Int) | str (x : Str)
  | imm (v : Value) | lst (k : Nat) | tup (xs : List V) | rng (n : Nat)
  deriving Inhabited

noncomputable abbrev Hp := List (List V)
noncomputable abbrev Fn := List V → Hp → Option (V × Hp)
noncomputable abbrev Loc := List (Str × V)
noncomputable def getL : Loc → Str → Option V
  | [], _ => none
  | (y, u) :: r, x => match decide (y = x) with
    | true => some u
    | false => getL r x
noncomputable def setL : Loc → Str → V → Loc
  | [], x, v => [(x, v)]
  | (y, u) :: r, x, v => match decide (y = x) with
    | true => (y, v) :: r
    | false => (y, u) :: setL r x v
theorem getL_cons (y : Str) (u : V) (r : Loc) (x : Str) : getL ((y, u) :: r) x = if y = x then some u else getL r x := by
  show (match decide (y = x) with | true => some u | false => getL r x) = _
  by_cases h : y = x <;> simp [h]
theorem setL_cons (y : Str) (u : V) (r : Loc) (x : Str) (v : V) : setL ((y, u) :: r) x v = if y = x then (y, v) :: r else (y, u) :: setL r x v := by
  show (match decide (y = x) with | true => (y, v) :: r | false => (y, u) :: setL r x v) = _
  by_cases h : y = x <;> simp [h]
theorem getL_setL (l : Loc) (x : Str) (v : V) (y : Str) : getL (setL l x v) y = if x = y then some v else getL l y := by
  induction l with
  | nil => show getL [(x, v)] y = _; rw [getL_cons]
  | cons p r ih =>
    obtain ⟨z, u⟩ := p
    rw [setL_cons]
    by_cases hz : z = x
    · subst hz
      rw [if_pos rfl, getL_cons, getL_cons]
      by_cases h : z = y <;> simp [h]
    · rw [if_neg hz, getL_cons, getL_cons, ih]
      by_cases h : x = y
      · subst h
        simp [hz]
      · simp [h]

mutual
inductive RV (ρ : Nat → Addr) (n : Nat) (h : Heap) : V → Value → Prop
  | none : RV ρ n h .none .none
  | bool (b : Bool) : RV ρ n h (.bool b) (.bool b)
  | int (i : Int) (t : Tok) : RV ρ n h (.int i) (.int i t)
  | str (x : Str) (t : Tok) : RV ρ n h (.str x) (.str x t)
  | imm (v : Value) : RV ρ n h (.imm v) v
  | lst (k : Nat) : k < n → RV ρ n h (.lst k) (.ref (ρ k))
  | tup (xs : List V) (a : Addr) (vs : List Value) : h.IsTuple a vs.toArray → RVs ρ n h xs vs → RV ρ n h (.tup xs) (.ref a)
  | rng (m : Nat) (a : Addr) (t u v : Tok) : IsRange h a 0 (m : Int) 1 t u v → RV ρ n h (.rng m) (.ref a)
inductive RVs (ρ : Nat → Addr) (n : Nat) (h : Heap) : List V → List Value → Prop
  | nil : RVs ρ n h [] []
  | cons {x : V} {v : Value} {xs : List V} {vs : List Value} : RV ρ n h x v → RVs ρ n h xs vs → RVs ρ n h (x :: xs) (v :: vs)
end

theorem RVs.ind {ρ : Nat → Addr} {n : Nat} {h : Heap} {P : List V → List Value → Prop} (p0 : P [] []) (p1 : ∀ x v xs vs, RV ρ n h x v → P xs vs → P (x :: xs) (v :: vs)) {xs : List V} {vs : List Value} (H : RVs ρ n h xs vs) : P xs vs :=
  RVs.rec (motive_1 := fun _ _ _ => True) (motive_2 := fun xs vs _ => P xs vs) trivial (fun _ => trivial) (fun _ _ => trivial) (fun _ _ => trivial) (fun _ => trivial) (fun _ _ => trivial) (fun _ _ _ _ _ _ => trivial) (fun _ _ _ _ _ _ => trivial) p0
    (fun a _ _ ih => p1 _ _ _ _ a ih) H
theorem RVs.length {ρ : Nat → Addr} {n : Nat} {h : Heap} {xs : List V} {vs : List Value} (H : RVs ρ n h xs vs) : xs.length = vs.length :=
  H.ind (P := fun xs vs => xs.length = vs.length) rfl fun _ _ _ _ _ ih => congrArg Nat.succ ih
theorem RVs.append {ρ : Nat → Addr} {n : Nat} {h : Heap} {xs ys : List V} {vs us : List Value} (H : RVs ρ n h xs vs) (K : RVs ρ n h ys us) : RVs ρ n h (xs ++ ys) (vs ++ us) :=
  H.ind (P := fun xs vs => RVs ρ n h (xs ++ ys) (vs ++ us)) K fun _ _ _ _ a ih => .cons a ih
theorem RVs.get {ρ : Nat → Addr} {n : Nat} {h : Heap} {xs : List V} {vs : List Value} (H : RVs ρ n h xs vs) {i : Nat} {x : V} (e : xs[i]? = some x) : ∃ v, vs[i]? = some v ∧ RV ρ n h x v :=
  H.ind (P := fun xs vs => ∀ i, xs[i]? = some x → ∃ v, vs[i]? = some v ∧ RV ρ n h x v) (fun _ e => by cases e) (fun _ v _ _ a ih i e => by
    cases i with
    | zero => exact ⟨v, rfl, Option.some.inj e ▸ a⟩
    | succ i => exact ih i e) i e
theorem RVs.get_none {ρ : Nat → Addr} {n : Nat} {h : Heap} {xs : List V} {vs : List Value} (H : RVs ρ n h xs vs) {i : Nat} (e : xs[i]? = none) : vs[i]? = none := by
  rw [List.getElem?_eq_none_iff] at e ⊢
  rw [← H.length]; exact e
theorem RVs.drop {ρ : Nat → Addr} {n : Nat} {h : Heap} {xs : List V} {vs : List Value} (H : RVs ρ n h xs vs) (k : Nat) : RVs ρ n h (xs.drop k) (vs.drop k) :=
  (H.ind (P := fun xs vs => RVs ρ n h xs vs ∧ ∀ k, RVs ρ n h (xs.drop k) (vs.drop k)) ⟨.nil, fun k => by rw [List.drop_nil, List.drop_nil]; exact .nil⟩ fun _ _ _ _ a ih => ⟨.cons a ih.1, fun k => by
    cases k with
    | zero => exact .cons a ih.1
    | succ k => exact ih.2 k⟩).2 k
theorem RVs.take {ρ : Nat → Addr} {n : Nat} {h : Heap} {xs : List V} {vs : List Value} (H : RVs ρ n h xs vs) (k : Nat) : RVs ρ n h (xs.take k) (vs.take k) :=
  H.ind (P := fun xs vs => ∀ k, RVs ρ n h (xs.take k) (vs.take k)) (fun k => by rw [List.take_nil, List.take_nil]; exact .nil) (fun _ _ _ _ a ih k => by
    cases k with
    | zero => exact .nil
    | succ k => exact .cons a (ih k)) k

/-- tuples stand -/
inductive Stays (o : Obj) : Prop
  | tup (hc : o.cls = .type "tuple") (vs : Array Value) (m : Nat) (hd : o.data = .seq vs m)
  | rng (hc : o.cls = .type "range") (vs : Array Value) (hd : o.data = .fields vs)
theorem range_ne_list : (Value.type "range") ≠ .type "list" := by intro h; exact absurd (Value.type.inj h) (by decide)
theorem tuple_ne_list : (Value.type "tuple") ≠ .type "list" := by intro h; exact absurd (Value.type.inj h) (by decide)
theorem Stays.ne_list {o : Obj} (h : Stays o) : o.cls ≠ .type "list" := by
  cases h with
  | tup hc => rw [hc]; exact tuple_ne_list
  | rng hc => rw [hc]; exact range_ne_list
theorem Stays.data {o : Obj} (h : Stays o) : (∃ vs m, o.data = .seq vs m) ∨ ∃ vs, o.data = .fields vs := by
  cases h with
  | tup _ vs m hd => exact .inl ⟨vs, m, hd⟩
  | rng _ vs hd => exact .inr ⟨vs, hd⟩
noncomputable def Tups (h h' : Heap) : Prop := ∀ b o, h.get? b = some o → Stays o → h'.get? b = some o
theorem RV.mono {ρ ρ' : Nat → Addr} {n n' : Nat} {h h' : Heap} (hρ : ∀ k, k < n → ρ' k = ρ k) (hn : n ≤ n') (ht : Tups h h') {x : V} {v : Value} (H : RV ρ n h x v) : RV ρ' n' h' x v :=
  RV.rec (motive_1 := fun x v _ => RV ρ' n' h' x v) (motive_2 := fun xs vs _ => RVs ρ' n' h' xs vs) .none .bool .int .str .imm
    (fun k hk => hρ k hk ▸ .lst k (Nat.lt_of_lt_of_le hk hn))
    (fun xs a vs hi _ K => by
      obtain ⟨o, ho, hc, m, hd⟩ := hi
      exact .tup xs a vs ⟨o, ht a o ho (.tup hc _ m hd), hc, m, hd⟩ K)
    (fun m a t u v hr => .rng m a t u v (ht a _ hr (.rng rfl _ rfl))) .nil (fun _ _ => .cons) H
theorem RVs.mono {ρ ρ' : Nat → Addr} {n n' : Nat} {h h' : Heap} (hρ : ∀ k, k < n → ρ' k = ρ k) (hn : n ≤ n') (ht : Tups h h') {xs : List V} {vs : List Value} (H : RVs ρ n h xs vs) : RVs ρ' n' h' xs vs :=
  H.ind (P := RVs ρ' n' h') .nil fun _ _ _ _ a ih => .cons (a.mono hρ hn ht) ih

/-- the abstract heap: lists of the call's own, by handles; `B` says what stands for good -/
structure Rel (B : Addr → Option Obj) (pins : List (Nat × Addr)) (ρ : Nat → Addr) (st : Hp) (h : Heap) : Prop where
  base : ∀ b o, B b = some o → h.get? b = some o
  cell : ∀ k xs, st[k]? = some xs → ∃ vs, h.PlainList (ρ k) (List.toArray vs) ∧ RVs ρ st.length h xs vs
  new : ∀ k, k < st.length → B (ρ k) = none
  inj : ∀ i j, i < st.length → j < st.length → ρ i = ρ j → i = j
  pin : ∀ p ∈ pins, ρ p.1 = p.2 ∧ p.1 < st.length

structure Ext (ρ : Nat → Addr) (n : Nat) (fr : Addr → Prop) (s : Shared) (ρ' : Nat → Addr) (n' : Nat) (s' : Shared) : Prop where
  rho : ∀ k, k < n → ρ' k = ρ k
  le : n ≤ n'
  keep : ∀ b o, s.heap.get? b = some o → (∀ k, k < n → ρ k ≠ b) → ¬ fr b → s'.heap.get? b = some o ∧ ∀ k, k < n' → ρ' k ≠ b
  os : s'.os = s.os
  bare : AllBare s.gens → AllBare s'.gens
  gsz : s.gens.size ≤ s'.gens.size
  gens : ∀ g, g < s.gens.size → s'.gens[g]? = s.gens[g]?
  tk : s.toks ≤ s'.toks

theorem Ext.refl (ρ : Nat → Addr) (n : Nat) (fr : Addr → Prop) (s : Shared) : Ext ρ n fr s ρ n s :=
  ⟨fun _ _ => rfl, Nat.le_refl _, fun _ _ e h _ => ⟨e, h⟩, rfl, id, Nat.le_refl _, fun _ _ => rfl, Nat.le_refl _⟩
theorem Ext.trans {ρ ρ' ρ'' : Nat → Addr} {n n' n'' : Nat} {fr : Addr → Prop} {s s' s'' : Shared} (X : Ext ρ n fr s ρ' n' s') (Y : Ext ρ' n' fr s' ρ'' n'' s'') : Ext ρ n fr s ρ'' n'' s'' where
  rho k hk := (Y.rho k (Nat.lt_of_lt_of_le hk X.le)).trans (X.rho k hk)
  le := Nat.le_trans X.le Y.le
  keep b o e h1 h2 := have z := X.keep b o e h1 h2; Y.keep b o z.1 z.2 h2
  os := Y.os.trans X.os
  bare h := Y.bare (X.bare h)
  gsz := Nat.le_trans X.gsz Y.gsz
  gens g hg := (Y.gens g (Nat.lt_of_lt_of_le hg X.gsz)).trans (X.gens g hg)
  tk := Nat.le_trans X.tk Y.tk
theorem Ext.wider {ρ ρ' : Nat → Addr} {n n' : Nat} {fr fr' : Addr → Prop} {s s' : Shared} (X : Ext ρ n fr s ρ' n' s') (h : ∀ b, fr b → fr' b) : Ext ρ n fr' s ρ' n' s' :=
  { X with keep := fun b o e h1 h2 => X.keep b o e h1 fun hb => h2 (h b hb) }
end Uq
end

section
open PySem PySem.Calls PyProof.Rows
namespace Uq

structure Room (n : Nat) (A : Around) : Prop where
  hd : A.handled = none
  dp : A.depth + n ≤ 900
  un : A.units + 10 * n ≤ 9000
theorem Room.mono {n m : Nat} {A : Around} (R : Room n A) (h : m ≤ n) : Room m A := ⟨R.hd, by have := R.dp; omega, by have := R.un; omega⟩
theorem Room.depth {n : Nat} {A : Around} (R : Room n A) : A.depth < recursionLimit := by have := R.dp; show A.depth < 1000; omega
theorem Room.units {n : Nat} {A : Around} (R : Room n A) : A.units < cLine := by have := R.un; show A.units < 9900; omega
theorem Room.deeper {n : Nat} {A : Around} (R : Room (n + 1) A) (env : Env) : Room n (A.deeper env) := ⟨R.hd, by have := R.dp; show A.depth + 1 + n ≤ 900; omega, by have := R.un; show A.units + 3 + 10 * n ≤ 9000; omega⟩

noncomputable def noF : Addr → Prop := fun _ => False
noncomputable def frs (env : Env) : Addr → Prop := fun b => b = env.locals ∨ ∃ x, env.cells.lookup x = some b

structure EnvOK (B : Addr → Option Obj) (env : Env) : Prop where
  fn : env.scope.kind = .function
  gl : env.globals = mainGlobals
  bi : env.builtins = builtinsNs
  one : ∀ x y c, env.cells.lookup x = some c → env.cells.lookup y = some c → x = y
  cof : ∀ x, env.kindOf x = some .cell → ∃ c, env.cells.lookup x = some c
  nb : ∀ b, frs env b → B b = none

structure Frm (ρ : Nat → Addr) (n : Nat) (s : Shared) (env : Env) (loc : Loc) : Prop where
  ns : ∃ m, s.heap.Ns env.locals m ∧ ∀ x v, getL loc x = some v → env.kindOf x = some .local → ∃ u, m x = some u ∧ RV ρ n s.heap v u
  cl : ∀ x v, getL loc x = some v → env.kindOf x = some .local ∨
    (env.kindOf x = some .cell ∧ ∃ c u, env.cells.lookup x = some c ∧ s.heap.IsCell c (some u) ∧ RV ρ n s.heap v u)
  ck : ∀ x c, env.cells.lookup x = some c → ∃ u, s.heap.IsCell c u
  tk : 0 < s.toks

section
variable {B : Addr → Option Obj} {pins : List (Nat × Addr)} {ρ ρ' : Nat → Addr} {st st' : Hp} {s s' : Shared} {h h' : Heap} {env : Env} {loc : Loc} {n n' : Nat}

theorem Rel.ne_of_data (R : Rel B pins ρ st h) {b : Addr} {o : Obj} (e : h.get? b = some o) (hd : ∀ vs m, o.data ≠ .seq vs m) : ∀ k, k < st.length → ρ k ≠ b := fun k hk q => by
  obtain ⟨xs, hx⟩ : ∃ xs, st[k]? = some xs := ⟨st[k], List.getElem?_eq_getElem hk⟩
  obtain ⟨vs, ⟨m, ho'⟩, _⟩ := R.cell k xs hx
  rw [q, e] at ho'; cases ho'
  exact hd _ _ rfl
theorem Rel.ne_of_cls (R : Rel B pins ρ st h) {b : Addr} {o : Obj} (e : h.get? b = some o) (hc : o.cls ≠ .type "list") : ∀ k, k < st.length → ρ k ≠ b := fun k hk q => by
  obtain ⟨xs, hx⟩ : ∃ xs, st[k]? = some xs := ⟨st[k], List.getElem?_eq_getElem hk⟩
  obtain ⟨vs, ⟨m, ho'⟩, _⟩ := R.cell k xs hx
  rw [q, e] at ho'; cases ho'
  exact hc rfl

theorem Ext.tups {fr : Addr → Prop} (R : Rel B pins ρ st s.heap) (X : Ext ρ st.length fr s ρ' n' s') (K : ∀ b, fr b → ∃ o, s.heap.get? b = some o ∧ ¬ Stays o ∧ ∀ vs m, o.data ≠ .seq vs m) : Tups s.heap s'.heap := fun b o ho hs =>
  (X.keep b o ho (R.ne_of_cls ho hs.ne_list) fun hb => by
    obtain ⟨o', ho', hn, _⟩ := K b hb
    rw [ho] at ho'; cases ho'
    exact hn hs).1

theorem Frm.kinds (F : Frm ρ n s env loc) : ∀ b, frs env b → ∃ o, s.heap.get? b = some o ∧ ¬ Stays o ∧ ∀ vs m, o.data ≠ .seq vs m := fun b hb => by
  rcases hb with rfl | ⟨x, hx⟩
  · obtain ⟨m, ⟨o, es, ep, ho, hd, _⟩, _⟩ := F.ns
    exact ⟨o, ho, fun hs => by rcases hs.data with ⟨_, _, q⟩ | ⟨_, q⟩ <;> (rw [hd] at q; cases q), fun vs k q => by rw [hd] at q; cases q⟩
  · obtain ⟨u, o, ho, hd⟩ := F.ck x b hx
    exact ⟨o, ho, fun hs => by rcases hs.data with ⟨_, _, q⟩ | ⟨_, q⟩ <;> (rw [hd] at q; cases q), fun vs k q => by rw [hd] at q; cases q⟩

/-- a frame stands where all but lists stands -/
theorem Frm.keeps (F : Frm ρ n s env loc) (R : Rel B pins ρ st s.heap) (hn : n = st.length) (X : Ext ρ st.length noF s ρ' n' s') : Frm ρ' n' s' env loc := by
  subst hn
  have T := X.tups R (fun b hb => hb.elim)
  have M : ∀ {v u}, RV ρ st.length s.heap v u → RV ρ' n' s'.heap v u := fun H => H.mono X.rho X.le T
  have C : ∀ {c u}, s.heap.IsCell c u → s'.heap.IsCell c u := fun ⟨o, ho, hd⟩ => ⟨o, (X.keep _ o ho (R.ne_of_data ho fun vs m q => by rw [hd] at q; cases q) id).1, hd⟩
  refine ⟨?_, fun x v e => ?_, fun x c e => ?_, Nat.lt_of_lt_of_le F.tk X.tk⟩
  · obtain ⟨m, hN, hv⟩ := F.ns
    refine ⟨m, ?_, fun x v e k => ?_⟩
    · obtain ⟨o, es, ep, ho, hd, r⟩ := hN
      exact ⟨o, es, ep, (X.keep _ o ho (R.ne_of_data ho fun vs m q => by rw [hd] at q; cases q) id).1, hd, r⟩
    · obtain ⟨u, hu, hr⟩ := hv x v e k
      exact ⟨u, hu, M hr⟩
  · rcases F.cl x v e with k | ⟨k, c, u, hc, hi, hr⟩
    · exact .inl k
    · exact .inr ⟨k, c, u, hc, C hi, M hr⟩
  · obtain ⟨u, hu⟩ := F.ck x c e
    exact ⟨u, C hu⟩
end
end Uq
end

section
open PySem PySem.Calls PyProof.Rows
namespace Uq

section
variable {B : Addr → Option Obj} {pins : List (Nat × Addr)} {ρ ρ' : Nat → Addr} {st st' : Hp} {s s' : Shared} {h h' : Heap} {n n' : Nat}

theorem Rel.upd (R : Rel B pins ρ st h) (x : Addr → Prop) (K : ∀ b o, h.get? b = some o → ¬ x b → h'.get? b = some o) (h1 : ∀ k, k < st.length → ¬ x (ρ k))
    (h2 : ∀ b o, B b = some o → ¬ x b) (h3 : ∀ b o, h.get? b = some o → Stays o → ¬ x b) : Rel B pins ρ st h' where
  base b o e := K b o (R.base b o e) (h2 b o e)
  cell k xs e := by
    obtain ⟨vs, ⟨m, ho⟩, hr⟩ := R.cell k xs e
    have hk : k < st.length := (List.getElem?_eq_some_iff.mp e).1
    exact ⟨vs, ⟨m, K _ _ ho (h1 k hk)⟩, hr.mono (fun _ _ => rfl) (Nat.le_refl _) fun b o' e' hs => K b o' e' (h3 b o' e' hs)⟩
  new := R.new
  inj := R.inj
  pin := R.pin
theorem Rel.keeps (R : Rel B pins ρ st h) (K : ∀ b o, h.get? b = some o → h'.get? b = some o) : Rel B pins ρ st h' :=
  R.upd noF (fun b o e _ => K b o e) (fun _ _ => id) (fun _ _ _ => id) (fun _ _ _ _ => id)
theorem Rel.push (R : Rel B pins ρ st h) (o : Obj) : Rel B pins ρ st (h.push o) := R.keeps fun _ _ e => Heap.get?_push_of_some o e
theorem Rel.lt (R : Rel B pins ρ st h) {k : Nat} (hk : k < st.length) : ρ k < h.objs.size := by
  obtain ⟨vs, ⟨m, ho⟩, _⟩ := R.cell k st[k] (List.getElem?_eq_getElem hk)
  exact Heap.lt_size ho

noncomputable def put (ρ : Nat → Addr) (n : Nat) (a : Addr) : Nat → Addr := fun k => if k = n then a else ρ k
theorem put_lt {k : Nat} {a : Addr} (hk : k < n) : put ρ n a k = ρ k := by unfold put; rw [if_neg (Nat.ne_of_lt hk)]
theorem put_eq {a : Addr} : put ρ n a n = a := by unfold put; rw [if_pos rfl]

/-- a new list -/
theorem Rel.new_list (R : Rel B pins ρ st h) {xs : List V} {vs : List Value} {a : Addr} (ha : h.objs.size ≤ a) (K : ∀ b o, h.get? b = some o → h'.get? b = some o)
    (hl : h'.PlainList a vs.toArray) (H : RVs ρ st.length h' xs vs) : Rel B pins (put ρ st.length a) (st ++ [xs]) h' := by
  have R' := R.keeps K
  have M : ∀ {ys us}, RVs ρ st.length h' ys us → RVs (put ρ st.length a) (st ++ [xs]).length h' ys us := fun H => H.mono (fun k hk => put_lt hk) (by simp) fun _ _ e _ => e
  refine ⟨R'.base, fun k ys e => ?_, fun k hk => ?_, fun i j hi hj e => ?_, fun p hp => ?_⟩
  · by_cases hk : k < st.length
    · rw [List.getElem?_append_left hk] at e
      obtain ⟨us, hi, hr⟩ := R'.cell k ys e
      rw [put_lt hk]
      exact ⟨us, hi, M hr⟩
    · have : k = st.length := by
        have := (List.getElem?_eq_some_iff.mp e).1
        simp at this; omega
      subst this
      rw [List.getElem?_append_right (Nat.le_refl _), Nat.sub_self] at e
      cases e
      rw [put_eq]
      exact ⟨vs, hl, M H⟩
  · by_cases h1 : k < st.length
    · rw [put_lt h1]; exact R.new k h1
    · have : k = st.length := by simp at hk; omega
      subst this
      rw [put_eq]
      cases q : B a with
      | none => rfl
      | some o => exact absurd (Heap.lt_size (R.base a o q)) (Nat.not_lt.mpr ha)
  · have key : ∀ i, i < st.length → put ρ st.length a i ≠ a := fun i hi q => by
      rw [put_lt hi] at q
      have := R.lt hi
      rw [q] at this
      exact absurd this (Nat.not_lt.mpr ha)
    by_cases h1 : i < st.length
    · by_cases h2 : j < st.length
      · rw [put_lt h1, put_lt h2] at e; exact R.inj i j h1 h2 e
      · have : j = st.length := by simp at hj; omega
        subst this
        rw [put_eq] at e
        exact absurd e (key i h1)
    · have : i = st.length := by simp at hi; omega
      subst this
      by_cases h2 : j < st.length
      · rw [put_eq] at e
        exact absurd e.symm (key j h2)
      · have : j = st.length := by simp at hj; omega
        exact this.symm
  · have := R.pin p hp
    exact ⟨by rw [put_lt this.2]; exact this.1, by simp; omega⟩

theorem Ext.same {fr : Addr → Prop} (K : ∀ b o, s.heap.get? b = some o → ¬ fr b → s'.heap.get? b = some o) (os : s'.os = s.os) (g : s'.gens = s.gens) (tk : s.toks ≤ s'.toks) : Ext ρ n fr s ρ n s' :=
  ⟨fun _ _ => rfl, Nat.le_refl _, fun b o e h1 h2 => ⟨K b o e h2, h1⟩, os, fun h => g ▸ h, by rw [g]; exact Nat.le_refl _, fun _ _ => by rw [g], tk⟩
theorem Ext.put {fr : Addr → Prop} {a : Addr} (ha : s.heap.objs.size ≤ a) (K : ∀ b o, s.heap.get? b = some o → s'.heap.get? b = some o) (os : s'.os = s.os) (g : s'.gens = s.gens) (tk : s.toks ≤ s'.toks) : Ext ρ n fr s (put ρ n a) (n + 1) s' :=
  ⟨fun k hk => put_lt hk, Nat.le_succ _, fun b o e h1 _ => ⟨K b o e, fun k hk q => by
    by_cases h : k < n
    · rw [put_lt h] at q; exact h1 k h q
    · have : k = n := by omega
      subst this
      rw [put_eq] at q
      subst q
      exact absurd (Heap.lt_size e) (Nat.not_lt.mpr ha)⟩, os, fun h => g ▸ h, by rw [g]; exact Nat.le_refl _, fun _ _ => by rw [g], tk⟩

/-- a list grows: one item laid -/
theorem Rel.set (R : Rel B pins ρ st h) {k : Nat} (hk : k < st.length) {xs : List V} {vs : List Value} (K : Heap.SameBut (ρ k) h h') (hl : h'.PlainList (ρ k) vs.toArray) (H : RVs ρ st.length h xs vs) : Rel B pins ρ (st.set k xs) h' := by
  have T : Tups h h' := fun b o ho hs => (K.2 b fun q => R.ne_of_cls ho hs.ne_list k hk q.symm).trans ho
  refine ⟨fun b o e => (K.2 b fun q => ?_).trans (R.base b o e), fun j ys e => ?_, fun j hj => R.new j (by simpa using hj), fun i j hi hj => R.inj i j (by simpa using hi) (by simpa using hj), fun p hp => by have := R.pin p hp; exact ⟨this.1, by simpa using this.2⟩⟩
  · subst q
    rw [R.new k hk] at e; cases e
  · rw [List.length_set]
    by_cases hj : j = k
    · subst hj
      rw [List.getElem?_set_self hk] at e
      cases e
      exact ⟨vs, hl, H.mono (fun _ _ => rfl) (Nat.le_refl _) T⟩
    · rw [List.getElem?_set_ne (Ne.symm hj)] at e
      obtain ⟨us, ⟨m, ho⟩, hr⟩ := R.cell j ys e
      have hjl : j < st.length := (List.getElem?_eq_some_iff.mp e).1
      exact ⟨us, ⟨m, (K.2 _ fun q => hj (R.inj j k hjl hk q)).trans ho⟩, hr.mono (fun _ _ => rfl) (Nat.le_refl _) T⟩
theorem Ext.set {fr : Addr → Prop} (R : Rel B pins ρ st s.heap) {k : Nat} (hk : k < st.length) (K : Heap.SameBut (ρ k) s.heap s'.heap) (os : s'.os = s.os) (g : s'.gens = s.gens) (tk : s.toks ≤ s'.toks) : Ext ρ st.length fr s ρ st.length s' :=
  ⟨fun _ _ => rfl, Nat.le_refl _, fun b o e h1 _ => ⟨(K.2 b fun q => h1 k hk q.symm).trans e, h1⟩, os, fun h => g ▸ h, by rw [g]; exact Nat.le_refl _, fun _ _ => by rw [g], tk⟩
end

section
variable (prog : Program) (w : World) (B : Addr → Option Obj) (pins : List (Nat × Addr))

noncomputable def Does (A : Around) (t : Sem Value) (ρ : Nat → Addr) (st : Hp) (s : Shared) (v : V) (st' : Hp) : Prop :=
  ∀ (Q : Value → Shared → Prop) (E : Value → Shared → Prop), (∀ ρ' s' u, Rel B pins ρ' st' s'.heap → Ext ρ st.length noF s ρ' st'.length s' → RV ρ' st'.length s'.heap v u → Q u s') → wpAny (model prog w) A t Q E s
noncomputable def DoesB (A : Around) (t : Sem Bool) (ρ : Nat → Addr) (st : Hp) (s : Shared) (b : Bool) (st' : Hp) : Prop :=
  ∀ (Q : Bool → Shared → Prop) (E : Value → Shared → Prop), (∀ ρ' s', Rel B pins ρ' st' s'.heap → Ext ρ st.length noF s ρ' st'.length s' → Q b s') → wpAny (model prog w) A t Q E s
noncomputable def DoesL (A : Around) (t : Sem (List Value)) (ρ : Nat → Addr) (st : Hp) (s : Shared) (vs : List V) (st' : Hp) : Prop :=
  ∀ (Q : List Value → Shared → Prop) (E : Value → Shared → Prop), (∀ ρ' s' us, Rel B pins ρ' st' s'.heap → Ext ρ st.length noF s ρ' st'.length s' → RVs ρ' st'.length s'.heap vs us → Q us s') → wpAny (model prog w) A t Q E s

inductive Fl where | next | brk | cont | ret (v : V)
inductive FlR (ρ : Nat → Addr) (n : Nat) (h : Heap) : Fl → Flow → Prop
  | next : FlR ρ n h .next .next
  | brk : FlR ρ n h .brk .brk
  | cont : FlR ρ n h .cont .cont
  | ret (v u) : RV ρ n h v u → FlR ρ n h (.ret v) (.ret u)

noncomputable def DoesS (A : Around) (t : Sem Flow) (env : Env) (ρ : Nat → Addr) (st : Hp) (s : Shared) (f : Fl) (loc' : Loc) (st' : Hp) : Prop :=
  ∀ (Q : Flow → Shared → Prop) (E : Value → Shared → Prop), (∀ ρ' s' fl, Rel B pins ρ' st' s'.heap → Ext ρ st.length (frs env) s ρ' st'.length s' → Frm ρ' st'.length s' env loc' → FlR ρ' st'.length s'.heap f fl → Q fl s') → wpAny (model prog w) A t Q E s
noncomputable def DoesUF (fr : Addr → Prop) (A : Around) (t : Sem Unit) (env : Env) (ρ : Nat → Addr) (st : Hp) (s : Shared) (loc' : Loc) (st' : Hp) : Prop :=
  ∀ (Q : Unit → Shared → Prop) (E : Value → Shared → Prop), (∀ ρ' s', Rel B pins ρ' st' s'.heap → Ext ρ st.length fr s ρ' st'.length s' → Frm ρ' st'.length s' env loc' → Q () s') → wpAny (model prog w) A t Q E s
noncomputable def DoesU (A : Around) (t : Sem Unit) (env : Env) (ρ : Nat → Addr) (st : Hp) (s : Shared) (loc' : Loc) (st' : Hp) : Prop :=
  ∀ (Q : Unit → Shared → Prop) (E : Value → Shared → Prop), (∀ ρ' s', Rel B pins ρ' st' s'.heap → Ext ρ st.length (frs env) s ρ' st'.length s' → Frm ρ' st'.length s' env loc' → Q () s') → wpAny (model prog w) A t Q E s
end

section
variable {prog : Program} {w : World} {B : Addr → Option Obj} {pins : List (Nat × Addr)} {A : Around} {ρ : Nat → Addr} {st st' : Hp} {s : Shared} {env : Env}

/-- from a rule that keeps the heap -/
theorem Does.val {t : Sem Value} {v : V} (R : Rel B pins ρ st s.heap)
    (h : ∀ (Q : Value → Shared → Prop) (E : Value → Shared → Prop), (∀ u tk, RV ρ st.length s.heap v u → Q u { s with toks := tk }) → wpAny (model prog w) A t Q E s) : Does prog w B pins A t ρ st s v st := fun Q E k =>
  wpAny_with_toks (Nat.le_refl s.toks) (h (fun u s' => s.toks ≤ s'.toks → Q u s') (fun e s' => s.toks ≤ s'.toks → E e s') fun u tk hu hle => k ρ _ u R (Ext.same (fun _ _ e _ => e) rfl rfl hle) hu)
theorem Does.bool {t : Sem Value} {b : Bool} (R : Rel B pins ρ st s.heap)
    (h : ∀ (Q : Value → Shared → Prop) (E : Value → Shared → Prop), Q (.bool b) s → wpAny (model prog w) A t Q E s) : Does prog w B pins A t ρ st s (.bool b) st := fun Q E k =>
  h Q E (k ρ _ _ R (Ext.refl ..) (.bool b))
theorem DoesB.of {t : Sem Bool} {b : Bool} (R : Rel B pins ρ st s.heap)
    (h : ∀ (Q : Bool → Shared → Prop) (E : Value → Shared → Prop), (∀ tk, Q b { s with toks := tk }) → wpAny (model prog w) A t Q E s) : DoesB prog w B pins A t ρ st s b st := fun Q E k =>
  wpAny_with_toks (Nat.le_refl s.toks) (h (fun u s' => s.toks ≤ s'.toks → Q u s') (fun e s' => s.toks ≤ s'.toks → E e s') fun tk hle => k ρ _ R (Ext.same (fun _ _ e _ => e) rfl rfl hle))
end
end Uq
end

section
open PySem PySem.Calls PyProof.Rows
namespace Uq

structure Cx where
  sc : Scope
  glob : Str → Option V
  fn : Value → Option Fn
  meth : Addr → Str → List Str → Option Fn
  attr : Addr → Str → Option V
  gen : Value → Option (List V → Option (List V))
  setI : Addr → Option (V → V → Hp → Option Hp)
  delI : Addr → Option (V → Hp → Option Hp)
  smeth : Str → Str → List V → Hp → Option (V × Hp)
  ext : Addr → Option (List V)

noncomputable def constV : Const → Option V
  | .none => some .none
  | .bool b => some (.bool b)
  | .int i => some (.int i)
  | .str x => some (.str x)
  | _ => none
noncomputable def nameV (cx : Cx) (loc : Loc) (x : Str) : Option V := match getL loc x with
  | some v => some v
  | none => match decide (cx.sc.names.lookup x = some .globalImplicit) with
    | true => cx.glob x
    | false => none
noncomputable def strIn (y x : Str) : Bool := !(Builtin.Str.occurrences x y 0 x.length 1).isEmpty

section
variable {α β γ : Type}
noncomputable def ob (x : Option (α × β)) (F : α → β → Option γ) : Option γ := match x with
  | none => none
  | some (v, t) => F v t
noncomputable def oc (x : Option α) (F : α → Option γ) : Option γ := match x with
  | none => none
  | some v => F v
noncomputable def ot (b : Bool) (F : Option γ) : Option γ := match b with
  | true => none
  | false => F
noncomputable def ou (b : Bool) (F : Option γ) : Option γ := match b with
  | false => none
  | true => F
noncomputable def oif (x : Option (Bool × β)) (F G : β → Option γ) : Option γ := match x with
  | none => none
  | some (true, t) => F t
  | some (false, t) => G t
end
noncomputable def sel {γ : Type} (b : Bool) (F G : Option γ) : Option γ := match b with
  | true => F
  | false => G
noncomputable def arg0 {α γ : Type} (x : List α) (F : Option γ) : Option γ := match x with
  | [] => F
  | _ :: _ => none
noncomputable def two2 {α γ : Type} (x : List α) (F : α → Option γ) : Option γ := match x with
  | [a] => F a
  | _ => none
noncomputable def evRef {γ : Type} (x : Option (V × Hp)) (F : Addr → Hp → Option γ) : Option γ := match x with
  | some (.imm (.ref a), t) => F a t
  | _ => none

noncomputable def intOf : V → Option Int
  | .int i => some i
  | _ => none
noncomputable def strOf : V → Option Str
  | .str x => some x
  | _ => none
noncomputable def lstOf : V → Option Nat
  | .lst k => some k
  | _ => none
noncomputable def i2 {γ : Type} (a b : V) (F : Int → Int → Option γ) : Option γ := oc (intOf a) fun i => oc (intOf b) fun j => F i j
noncomputable def addV (a b : V) (st : Hp) : Option (V × Hp) := match a with
  | .int i => oc (intOf b) fun j => some (.int (i + j), st)
  | .str x => oc (strOf b) fun y => if x.length + y.length ≤ sizeLine then some (.str (x ++ y), st) else none
  | .lst i => oc (lstOf b) fun j => oc st[i]? fun xs => oc st[j]? fun ys => if xs.length + ys.length ≤ sizeLine then some (.lst st.length, st ++ [xs ++ ys]) else none
  | _ => none
noncomputable def binV (op : Operator) (a b : V) (st : Hp) : Option (V × Hp) := match op with
  | .Add => addV a b st
  | .Sub => i2 a b fun a b => some (.int (a - b), st)
  | .FloorDiv => i2 a b fun a b => if b = 0 ∨ Builtin.divisionGoesByPylong a b = true then none else some (.int (a.fdiv b), st)
  | .Mod => i2 a b fun a b => if b = 0 then none else some (.int (a.fmod b), st)
  | .Pow => i2 a b fun a b => if a = 10 ∧ b = 6 then some (.int 1000000, st) else none
  | _ => none
noncomputable def augV (op : Operator) (a b : V) : Option V := match op with
  | .Add => i2 a b fun a b => some (.int (a + b))
  | .Sub => i2 a b fun a b => some (.int (a - b))
  | _ => none
noncomputable def isNone : V → Option Bool
  | .none => some true
  | .imm v => some (v == .none)
  | _ => some false
noncomputable def intsIn (i : Int) : List V → Option Bool
  | [] => some false
  | .int j :: r => (intsIn i r).map fun b => (j == i) || b
  | _ => none
noncomputable def typOf : V → Option String
  | .imm (.type a) => some a
  | _ => none
noncomputable def eqV (a b : V) : Option Bool := match a with
  | .int i => oc (intOf b) fun j => some (i == j)
  | .str x => oc (strOf b) fun y => some (x == y)
  | _ => none
noncomputable def isV (a b : V) : Option Bool := match b with
  | .none => isNone a
  | .bool j => (match a with
    | .bool i => some (i == j)
    | _ => none)
  | .imm u => oc (typOf (.imm u)) fun y => oc (typOf a) fun x => some (x == y)
  | _ => none
noncomputable def inV (a b : V) (st : Hp) : Option Bool := match b with
  | .str x => oc (strOf a) fun y => some (strIn y x)
  | .lst k => oc (intOf a) fun i => (st[k]?).bind (intsIn i)
  | _ => none
noncomputable def cmpV (op : CmpOp) (a b : V) (st : Hp) : Option Bool := match op with
  | .Eq => eqV a b
  | .NotEq => (eqV a b).map fun c => !c
  | .Lt => i2 a b fun i j => some (decide (i < j))
  | .Is => isV a b
  | .IsNot => (isV a b).map fun c => !c
  | .In => inV a b st
  | .NotIn => oc (strOf a) fun y => oc (strOf b) fun x => some (!strIn y x)
  | _ => none
noncomputable def truthV (v : V) (st : Hp) : Option Bool := match v with
  | .none => some false
  | .bool b => some b
  | .int i => some (i != 0)
  | .str x => if x.length ≤ sizeLine then some ((x.length : Int) != 0) else none
  | .lst k => oc st[k]? fun xs => if xs.length ≤ sizeLine then some (!xs.isEmpty) else none
  | _ => none
noncomputable def ixI (i : Int) : Option Nat := if 0 ≤ i ∧ i < 2 ^ 62 then some i.toNat else none
noncomputable def ixOf (v : V) : Option Nat := oc (intOf v) ixI
noncomputable def subV (v i : V) (st : Hp) : Option V := match v with
  | .lst k => oc (ixOf i) fun j => oc st[k]? fun xs => xs[j]?
  | .tup xs => oc (ixOf i) fun j => xs[j]?
  | .str x => oc (ixOf i) fun j => (x.cps[j]?).map fun c => .str ⟨#[c]⟩
  | _ => none
noncomputable def cutL {α : Type} (xs : List α) (lo hi : Option Int) : List α := (xs.drop (lo.elim 0 (clipAt xs.length))).take (hi.elim xs.length (clipAt xs.length) - lo.elim 0 (clipAt xs.length))
noncomputable def cutN (xs : List V) (lo hi : Option Int) (st : Hp) : Option (V × Hp) := if xs.length ≤ sizeLine then some (.lst st.length, st ++ [cutL xs lo hi]) else none
noncomputable def slcX (cx : Cx) (v : V) (lo hi : Option Int) (st : Hp) : Option (V × Hp) := match v with
  | .str x => if x.length ≤ sizeLine then some (.str (Txt.slice x lo hi), st) else none
  | .lst k => oc st[k]? fun xs => cutN xs lo hi st
  | .imm u => (match u with
    | .ref a => oc (cx.ext a) fun xs => cutN xs lo hi st
    | _ => none)
  | _ => none

inductive Src where | items (xs : List V) | live (k : Nat)
noncomputable def iterS (src : Src) (i : Nat) (st : Hp) : Option (Option V) := match src with
  | .items xs => some xs[i]?
  | .live k => match st[k]? with
    | some ys => some ys[i]?
    | none => none
noncomputable def srcOf : V → Option Src
  | .lst k => some (.live k)
  | .str x => some (.items (x.cps.toList.map fun c => .str ⟨#[c]⟩))
  | .rng n => if n ≤ sizeLine then some (.items ((List.range n).map fun (i : Nat) => V.int (i : Int))) else none
  | _ => none

noncomputable def isLoc (sc : Scope) (x : Str) : Bool := decide (sc.names.lookup x = some .local) || decide (sc.names.lookup x = some .cell)
noncomputable def nmOf : Expr → Option Str
  | .Name x _ => some x
  | _ => none
noncomputable def bindTs (sc : Scope) : List Expr → List V → Loc → Option Loc
  | [], vs, loc => (match vs with
    | [] => some loc
    | _ :: _ => none)
  | t :: ts, vs, loc => (match vs with
    | [] => none
    | v :: vs => oc (nmOf t) fun x => ou (isLoc sc x) (bindTs sc ts vs (setL loc x v)))
noncomputable def bindT (sc : Scope) (t : Expr) (v : V) (loc : Loc) : Option Loc := match t with
  | .Name x _ => ou (isLoc sc x) (some (setL loc x v))
  | .Tuple ts _ _ => (match v with
    | .tup xs => bindTs sc ts xs loc
    | _ => none)
  | _ => none

noncomputable abbrev EvT := Loc → Hp → Expr → Option (V × Hp)
noncomputable def evs (ev : EvT) (loc : Loc) : List Expr → Hp → Option (List V × Hp)
  | [], st => some ([], st)
  | e :: es, st => ob (ev loc st e) fun v st1 => ob (evs ev loc es st1) fun vs st2 => some (v :: vs, st2)
noncomputable def partOf : V → Option (Option Int)
  | .int i => some (some i)
  | .none => some none
  | _ => none
noncomputable def evPart (ev : EvT) (loc : Loc) (st : Hp) : Option Expr → Option (Option Int × Hp)
  | none => some (none, st)
  | some e => ob (ev loc st e) fun v st1 => (partOf v).map fun i => (i, st1)
noncomputable def cstr : PySem.Expr → Option Str
  | .Constant c _ _ => (match c with
    | .str y => some y
    | _ => none)
  | _ => none
noncomputable def fmtOf : PySem.Expr → Option PySem.Expr
  | .FormattedValue e c f _ => (match f with
    | none => ou (decide (c = -1)) (some e)
    | some _ => none)
  | _ => none
noncomputable def joinPart (ev : EvT) (loc : Loc) (st : Hp) (e : PySem.Expr) : Option (Str × Hp) := match cstr e with
  | some y => some (y, st)
  | none => oc (fmtOf e) fun e' => ob (ev loc st e') fun v st1 => oc (strOf v) fun y => if y.length ≤ sizeLine then some (y, st1) else none
noncomputable def evJoin (ev : EvT) (loc : Loc) : List PySem.Expr → Str → Hp → Option (Str × Hp)
  | [], acc, st => some (acc, st)
  | e :: es, acc, st => ob (joinPart ev loc st e) fun y st1 => if (acc ++ y).length ≤ sizeLine then evJoin ev loc es (acc ++ y) st1 else none
noncomputable def kwNames : List Keyword → Option (List Str)
  | [] => some []
  | k :: ks => oc k.arg fun x => (kwNames ks).map (x :: ·)
noncomputable def callV (cx : Cx) (f : V) (args : List V) (st : Hp) : Option (V × Hp) := match f with
  | .imm fv => match cx.fn fv with
    | some spec => spec args st
    | none => none
  | _ => none
noncomputable def methV (cx : Cx) (o : V) (m : Str) (kw : List Str) (args : List V) (st : Hp) : Option (V × Hp) := match o with
  | .str x => arg0 kw (cx.smeth x m args st)
  | .imm u => (match u with
    | .ref a => oc (cx.meth a m kw) fun spec => spec args st
    | _ => none)
  | .lst k => arg0 kw (ou (decide (m = ("append" : Str))) (two2 args fun v => oc st[k]? fun xs => if xs.length ≤ sizeLine then some (.none, st.set k (xs ++ [v])) else none))
  | _ => none

noncomputable def replArgs (m : Str) (args : List PySem.Expr) (kws : List Keyword) : Option (Str × Str) := ou (decide (m = ("replace" : Str))) (arg0 kws (match args with
  | [a, b] => oc (cstr a) fun y => oc (cstr b) fun z => some (y, z)
  | _ => none))
noncomputable def replV (y z : Str) (v : V) : Option V := oc (strOf v) fun x => if (y == z) = false ∧ x.length + (x.length + 1) * z.length ≤ 16777216 then some (.str (Txt.replace x y z)) else none

noncomputable def loopF (body : V → Loc → Hp → Option (Fl × Loc × Hp)) (src : Src) : Nat → Nat → Loc → Hp → Option (Fl × Loc × Hp)
  | 0, _, _, _ => none
  | f + 1, i, loc, st => match iterS src i st with
    | none => none
    | some none => some (.next, loc, st)
    | some (some x) => match body x loc st with
      | none => none
      | some (.next, loc', st') => loopF body src f (i + 1) loc' st'
      | some (.cont, loc', st') => loopF body src f (i + 1) loc' st'
      | some (.brk, loc', st') => some (.next, loc', st')
      | some (.ret v, loc', st') => some (.ret v, loc', st')
noncomputable def whileF (test : Loc → Hp → Option (Bool × Hp)) (body : Loc → Hp → Option (Fl × Loc × Hp)) : Nat → Loc → Hp → Option (Fl × Loc × Hp)
  | 0, _, _ => none
  | f + 1, loc, st => match test loc st with
    | none => none
    | some (false, st1) => some (.next, loc, st1)
    | some (true, st1) => match body loc st1 with
      | none => none
      | some (.next, loc', st') => whileF test body f loc' st'
      | some (.cont, loc', st') => whileF test body f loc' st'
      | some (.brk, loc', st') => some (.next, loc', st')
      | some (.ret v, loc', st') => some (.ret v, loc', st')
/-- one turn of a comprehension; its list has the handle `k` -/
noncomputable def compB (bind : V → Loc → Option Loc) (test : Loc → Hp → Option (Bool × Hp)) (elt : Loc → Hp → Option (V × Hp)) (k : Nat) (x : V) (loc : Loc) (st : Hp) : Option (Fl × Loc × Hp) := oc (bind x loc) fun loc' =>
  oif (test loc' st) (fun st1 => ob (elt loc' st1) fun v st2 => oc st2[k]? fun xs => if xs.length ≤ sizeLine then some (.next, loc', st2.set k (xs ++ [v])) else none) fun st1 => some (.next, loc', st1)

structure Lv where
  ev : Cx → Loc → Hp → Expr → Option (V × Hp)
  tv : Cx → Loc → Hp → Expr → Option (Bool × Hp)
  ex : Cx → Loc → Hp → Stmt → Option (Fl × Loc × Hp)
noncomputable def exs (ex : Loc → Hp → Stmt → Option (Fl × Loc × Hp)) : List Stmt → Loc → Hp → Option (Fl × Loc × Hp)
  | [], loc, st => some (.next, loc, st)
  | c :: cs, loc, st => match ex loc st c with
    | none => none
    | some (.next, loc', st') => exs ex cs loc' st'
    | some r => some r
noncomputable def tvs (tv : Loc → Hp → Expr → Option (Bool × Hp)) (loc : Loc) (and : Bool) : List Expr → Hp → Option (Bool × Hp)
  | [], st => some (and, st)
  | e :: es, st => match tv loc st e with
    | none => none
    | some (b, st1) => match and, b with
      | true, false => some (false, st1)
      | false, true => some (true, st1)
      | _, _ => tvs tv loc and es st1

/-- the scope in which a comprehension's own frame stands -/
noncomputable def compScope (sc : Scope) (env : Scope) : Scope := { sc with names := sc.names.map fun p => if (p.2 == NameKind.free && decide (env.names.lookup p.1 = some .cell)) = true then (p.1, .cell) else p }
/-- what kind of an expression: a comprehension, a set -/
noncomputable def kindE : Expr → Nat
  | .ListComp .. => 1
  | .SetComp .. => 1
  | .DictComp .. => 1
  | .Set .. => 2
  | _ => 0
noncomputable def isSet (e : Expr) : Bool := kindE e == 2

noncomputable def tgtL : PySem.Expr → List PySem.Expr
  | .Tuple ts _ _ => ts
  | t => [t]
noncomputable def tgtOK (sc : Scope) (t : PySem.Expr) : Bool := (tgtL t).all fun e => match e with
  | .Name x _ => decide (sc.names.lookup x = some .local)
  | _ => true
noncomputable def compOK (sc env : Scope) (t : PySem.Expr) : Bool := decide (sc.kind = .function) && (sc.names.all fun p => match p.2 with
  | .cell => false
  | .free => decide (env.names.lookup p.1 = some .cell)
  | .local => decide (sc.names.lookup p.1 = some .local)
  | _ => true) && tgtOK (compScope sc env) t
noncomputable def freeLoc (sc env : Scope) (loc : Loc) : Loc := sc.names.foldr (fun p r => match decide ((compScope sc env).names.lookup p.1 = some .cell) && decide (env.names.lookup p.1 = some .cell) with
  | true => match getL loc p.1 with
    | some v => (p.1, v) :: r
    | none => r
  | false => r) []
noncomputable def fuelF : Nat := 1000000
noncomputable def isComp (e : Expr) : Bool := kindE e == 1
noncomputable def plainBase : Expr → Bool
  | .Call (.Name ..) [] [] _ => false
  | _ => true

noncomputable def compE (r : Lv) (cx : Cx) (loc : Loc) (st : Hp) (elt tgt iter : Expr) (ifs : List Expr) (sc : Scope) : Option (V × Hp) :=
  ob (r.ev cx loc st iter) fun v st1 => oc (srcOf v) fun src => ou (compOK sc cx.sc tgt && !isSet iter)
    (match loopF (compB (bindT (compScope sc cx.sc) tgt) (fun l t => tvs (r.tv { cx with sc := compScope sc cx.sc }) l true ifs t)
            (fun l t => r.ev { cx with sc := compScope sc cx.sc } l t elt) st1.length) src fuelF 0 (freeLoc sc cx.sc loc) (st1 ++ [[]]) with
          | some (.next, _, st2) => some (.lst st1.length, st2)
          | _ => none)

noncomputable def sliceOf : Expr → Option (Option Expr × Option Expr)
  | .Slice lo hi none _ => some (lo, hi)
  | _ => none
noncomputable def attrOf : Expr → Option (Expr × Str × Pos)
  | .Attribute o m p => some (o, m, p)
  | _ => none
noncomputable def isFull : Expr → Bool
  | .Slice none none none _ => true
  | _ => false
noncomputable def subK (r : Lv) (cx : Cx) (loc : Loc) (o : Expr) (st : Hp) (i : Expr) : Option (V × Hp) := match sliceOf i with
  | some (lo, hi) => ob (r.ev cx loc st o) fun v st1 => ob (evPart (r.ev cx) loc st1 lo) fun l st2 => ob (evPart (r.ev cx) loc st2 hi) fun h st3 => slcX cx v l h st3
  | none => ob (r.ev cx loc st o) fun v st1 => ob (r.ev cx loc st1 i) fun j st2 => (subV v j st2).map fun u => (u, st2)
noncomputable def methK (r : Lv) (cx : Cx) (loc : Loc) (st : Hp) (o : Expr) (m : Str) (args : List Expr) (kws : List Keyword) : Option (V × Hp) :=
  ob (r.ev cx loc st o) fun v st1 => match replArgs m args kws with
    | some yz => (replV yz.1 yz.2 v).map fun u => (u, st1)
    | none => oc (kwNames kws) fun kn => ob (evs (r.ev cx) loc (args ++ kws.map (·.value)) st1) fun vs st2 => methV cx v m kn vs st2
noncomputable def callK (r : Lv) (cx : Cx) (loc : Loc) (st : Hp) (args : List Expr) (kws : List Keyword) (p : Pos) (f : Expr) : Option (V × Hp) := match attrOf f with
  | some (o, m, ap) => ou (plainBase o && decide (args.length + kws.length + 1 < 30) && decide (ap.endLine = p.line)) (methK r cx loc st o m args kws)
  | none => arg0 kws (ob (r.ev cx loc st f) fun fv st1 => ob (evs (r.ev cx) loc args st1) fun vs st2 => callV cx fv vs st2)
noncomputable def listK (r : Lv) (cx : Cx) (loc : Loc) (st : Hp) (elt : Expr) (sc : Scope) (gs : List Comprehension) : Option (V × Hp) := two2 gs fun g => match g with
  | ⟨tgt, iter, ifs, 0⟩ => compE r cx loc st elt tgt iter ifs sc
  | _ => none

noncomputable def nextEv (r : Lv) (cx : Cx) (loc : Loc) (st : Hp) : Expr → Option (V × Hp)
  | .Name x _ => match decide (x = ("__debug__" : Str)) with
    | true => some (.bool true, st)
    | false => (nameV cx loc x).map fun v => (v, st)
  | .Constant c _ _ => (constV c).map fun v => (v, st)
  | .BinOp l op rr _ => ob (r.ev cx loc st l) fun a st1 => ob (r.ev cx loc st1 rr) fun b st2 => binV op a b st2
  | .Compare l ops rrs _ => two2 ops fun op => two2 rrs fun rr => ob (r.ev cx loc st l) fun a st1 => ob (r.ev cx loc st1 rr) fun b st2 => ot (behindInMarks op rr) ((cmpV op a b st2).map fun c => (.bool c, st2))
  | .IfExp t b e _ => oif (r.tv cx loc st t) (fun st1 => r.ev cx loc st1 b) (fun st1 => r.ev cx loc st1 e)
  | .List es _ => ob (evs (r.ev cx) loc es st) fun vs st1 => if vs.length ≤ sizeLine then some (.lst st1.length, st1 ++ [vs]) else none
  | .Tuple es _ _ => ob (evs (r.ev cx) loc es st) fun vs st1 => if vs.length ≤ sizeLine then some (.tup vs, st1) else none
  | .JoinedStr es _ => match es with
    | v1 :: v2 :: rest => ob (evJoin (r.ev cx) loc (v1 :: v2 :: rest) Str.empty st) fun x st1 => if x.length ≤ sizeLine then some (.str x, st1) else none
    | _ => none
  | .Subscript o i _ => subK r cx loc o st i
  | .Attribute o a _ => ou (plainBase o) (evRef (r.ev cx loc st o) fun ad st1 => (cx.attr ad a).map fun v => (v, st1))
  | .Call f args kws p => callK r cx loc st args kws p f
  | .ListComp elt gs sc _ => listK r cx loc st elt sc gs
  | _ => none

noncomputable def nextTv (r : Lv) (cx : Cx) (loc : Loc) (st : Hp) : Expr → Option (Bool × Hp)
  | .UnaryOp op e _ => match op with
    | .Not => ob (r.tv cx loc st e) fun b st1 => some (!b, st1)
    | _ => none
  | .BoolOp op es _ => match op with
    | .And => tvs (r.tv cx) loc true es st
    | .Or => tvs (r.tv cx) loc false es st
  | .Compare l ops rrs _ => two2 ops fun op => two2 rrs fun rr => ob (r.ev cx loc st l) fun a st1 => ob (r.ev cx loc st1 rr) fun b st2 => ot (behindInMarks op rr) ((cmpV op a b st2).map fun c => (c, st2))
  | .Name x p => ob (r.ev cx loc st (.Name x p)) fun v st1 => (truthV v st1).map fun b => (b, st1)
  | .Call f a k p => ob (r.ev cx loc st (.Call f a k p)) fun v st1 => (truthV v st1).map fun b => (b, st1)
  | .Attribute o a p => ob (r.ev cx loc st (.Attribute o a p)) fun v st1 => (truthV v st1).map fun b => (b, st1)
  | _ => none

noncomputable def bodyB (r : Lv) (cx : Cx) (tgt : Expr) (b : List Stmt) : V → Loc → Hp → Option (Fl × Loc × Hp) := fun x l u => match bindT cx.sc tgt x l with
  | none => none
  | some l' => exs (r.ex cx) b l' u
noncomputable def genN (cx : Cx) (loc : Loc) (f : Str) : Option (List V → Option (List V)) := match nameV cx loc f with
  | some (.imm fv) => cx.gen fv
  | _ => none
noncomputable def sliceB (r : Lv) (cx : Cx) (loc : Loc) (st : Hp) (o e : Expr) : Option (Fl × Loc × Hp) := ob (r.ev cx loc st e) fun v st1 => match r.ev cx loc st1 o with
  | some (.lst k, st2) => match v with
    | .lst j => match st2[j]?, st2[k]? with
      | some xs, some ys => if ys.length + xs.length ≤ sizeLine ∧ j ≠ k then some (.next, loc, st2.set k xs) else none
      | _, _ => none
    | _ => none
  | _ => none
noncomputable def itemB (r : Lv) (cx : Cx) (loc : Loc) (st : Hp) (o i e : Expr) : Option (Fl × Loc × Hp) :=
  ot (isComp e) (ob (r.ev cx loc st e) fun v st1 => evRef (r.ev cx loc st1 o) fun a st2 => ob (r.ev cx loc st2 i) fun j st3 => oc (cx.setI a) fun f => (f j v st3).map fun st4 => (.next, loc, st4))
noncomputable def putB (r : Lv) (cx : Cx) (loc : Loc) (st : Hp) (o e i : Expr) : Option (Fl × Loc × Hp) := match isFull i with
  | true => sliceB r cx loc st o e
  | false => itemB r cx loc st o i e
noncomputable def asgB (r : Lv) (cx : Cx) (loc : Loc) (st : Hp) (e : Expr) : Expr → Option (Fl × Loc × Hp)
  | .Name x _ => ou (isLoc cx.sc x && !isComp e) (ob (r.ev cx loc st e) fun v st1 => some (.next, setL loc x v, st1))
  | .Tuple ts k p => match e with
    | .Subscript o i q => ob (r.ev cx loc st (.Subscript o i q)) fun v st1 => (bindT cx.sc (.Tuple ts k p) v loc).map fun l => (.next, l, st1)
    | _ => none
  | .Subscript o i _ => putB r cx loc st o e i
  | _ => none
noncomputable def forI (r : Lv) (cx : Cx) (loc : Loc) (st : Hp) (tgt it : Expr) (b : List Stmt) : Option (Fl × Loc × Hp) :=
  ob (r.ev cx loc st it) fun v st1 => oc (srcOf v) fun src => loopF (bodyB r cx tgt b) src fuelF 0 loc st1
noncomputable def forG (r : Lv) (cx : Cx) (loc : Loc) (st : Hp) (tgt : Expr) (args : List Expr) (b : List Stmt) (cp : Pos) : Expr → Option (Fl × Loc × Hp)
  | .Name f np => match genN cx loc f with
    | some g => ot (decide (f = ("__debug__" : Str))) (ob (evs (r.ev cx) loc args st) fun vs st1 => oc (g vs) fun items => loopF (bodyB r cx tgt b) (.items items) fuelF 0 loc st1)
    | none => forI r cx loc st tgt (.Call (.Name f np) args [] cp) b
  | f => forI r cx loc st tgt (.Call f args [] cp) b
noncomputable def forB' (r : Lv) (cx : Cx) (loc : Loc) (st : Hp) (tgt : Expr) (b : List Stmt) : Expr → Option (Fl × Loc × Hp)
  | .Call f args kws cp => match kws with
    | [] => forG r cx loc st tgt args b cp f
    | k :: ks => forI r cx loc st tgt (.Call f args (k :: ks) cp) b
  | it => ot (isSet it) (forI r cx loc st tgt it b)
noncomputable def delB (r : Lv) (cx : Cx) (loc : Loc) (st : Hp) : Expr → Option (Fl × Loc × Hp)
  | .Subscript o i _ => evRef (r.ev cx loc st o) fun a st1 => ob (r.ev cx loc st1 i) fun j st2 => oc (cx.delI a) fun f => (f j st2).map fun st3 => (.next, loc, st3)
  | _ => none

noncomputable def nextEx (r : Lv) (cx : Cx) (loc : Loc) (st : Hp) : Stmt → Option (Fl × Loc × Hp)
  | .Pass _ => some (.next, loc, st)
  | .Expr e _ => ot (isComp e) (ob (r.ev cx loc st e) fun _ st1 => some (.next, loc, st1))
  | .Assign ts e _ => two2 ts fun t => asgB r cx loc st e t
  | .AugAssign t op e _ => match t with
    | .Name x _ => ou (isLoc cx.sc x) (oc (getL loc x) fun a => ob (r.ev cx loc st e) fun b st1 => (augV op a b).map fun v => (.next, setL loc x v, st1))
    | _ => none
  | .Return e _ => match e with
    | some e => ob (r.ev cx loc st e) fun v st1 => some (.ret v, loc, st1)
    | none => some (.ret .none, loc, st)
  | .If t b e _ => oif (r.tv cx loc st t) (fun st1 => exs (r.ex cx) b loc st1) (fun st1 => exs (r.ex cx) e loc st1)
  | .While t b o _ => match o with
    | [] => whileF (fun l u => r.tv cx l u t) (fun l u => exs (r.ex cx) b l u) fuelF loc st
    | _ :: _ => none
  | .For tgt it b o _ => match o with
    | [] => forB' r cx loc st tgt b it
    | _ :: _ => none
  | .Delete ts _ => two2 ts fun t => delB r cx loc st t
  | .Try b hs o f _ => match hs, o, f with
    | _ :: _, [], [] => exs (r.ex cx) b loc st
    | _, _, _ => none
  | _ => none

noncomputable def lv : Nat → Lv
  | 0 => ⟨fun _ _ _ _ => none, fun _ _ _ _ => none, fun _ _ _ _ => none⟩
  | n + 1 => ⟨nextEv (lv n), nextTv (lv n), nextEx (lv n)⟩
noncomputable def run (n : Nat) (cx : Cx) (body : List Stmt) (loc : Loc) (st : Hp) : Option (Fl × Loc × Hp) := exs ((lv n).ex cx) body loc st
end Uq
end

section
open PySem PySem.Calls PyProof.Rows
namespace Uq

section
variable {α β γ : Type} {P : Prop} {r : γ}
theorem ob_el {x : Option (α × β)} {F : α → β → Option γ} (h : ob x F = some r) (k : ∀ v t, F v t = some r → x = some (v, t) → P) : P := by
  match x, h with
  | none, h => cases h
  | some (v, t), h => exact k v t h rfl
theorem oc_el {x : Option α} {F : α → Option γ} (h : oc x F = some r) (k : ∀ v, F v = some r → x = some v → P) : P := by
  match x, h with
  | none, h => cases h
  | some v, h => exact k v h rfl
theorem ot_el {x : Bool} {F : Option γ} (h : ot x F = some r) (k : F = some r → x = false → P) : P := by
  match x, h with
  | true, h => cases h
  | false, h => exact k h rfl
theorem ou_el {x : Bool} {F : Option γ} (h : ou x F = some r) (k : F = some r → x = true → P) : P := by
  match x, h with
  | false, h => cases h
  | true, h => exact k h rfl
theorem oif_el {x : Option (Bool × β)} {F G : β → Option γ} (h : oif x F G = some r) (k : ∀ b t, (cond b (F t) (G t)) = some r → x = some (b, t) → P) : P := by
  match x, h with
  | none, h => cases h
  | some (true, t), h => exact k true t h rfl
  | some (false, t), h => exact k false t h rfl
theorem evRef_el {x : Option (V × Hp)} {F : Addr → Hp → Option γ} (h : evRef x F = some r) (k : ∀ a t, F a t = some r → x = some (.imm (.ref a), t) → P) : P := by
  unfold evRef at h
  split at h
  · exact k _ _ h rfl
  · cases h
theorem two2_el {x : List α} {F : α → Option γ} (h : two2 x F = some r) (k : ∀ a, F a = some r → x = [a] → P) : P := by
  match x, h with
  | [a], h => exact k a h rfl
  | [], h => cases h
  | _ :: _ :: _, h => cases h
theorem om_el {x : Option α} {f : α → γ} (h : x.map f = some r) (k : ∀ v, some (f v) = some r → x = some v → P) : P := by
  match x, h with
  | none, h => cases h
  | some v, h => exact k v h rfl
theorem oi_el {c : Prop} [Decidable c] {F : Option γ} (h : (if c then F else none) = some r) (k : F = some r → c → P) : P := by
  by_cases hc : c
  · rw [if_pos hc] at h; exact k h hc
  · rw [if_neg hc] at h; cases h
theorem oj_el {c : Prop} [Decidable c] {F : Option γ} (h : (if c then none else F) = some r) (k : F = some r → ¬ c → P) : P := by
  by_cases hc : c
  · rw [if_pos hc] at h; cases h
  · rw [if_neg hc] at h; exact k h hc
theorem nmOf_el {t : PySem.Expr} {x : Str} (h : nmOf t = some x) : ∃ p, t = .Name x p := by
  unfold nmOf at h
  split at h
  · cases h; exact ⟨_, rfl⟩
  · cases h
theorem sel_el {b : Bool} {F G : Option γ} (h : sel b F G = some r) (k1 : F = some r → b = true → P) (k2 : G = some r → b = false → P) : P := by
  match b, h with
  | true, h => exact k1 h rfl
  | false, h => exact k2 h rfl
theorem arg0_el {x : List α} {F : Option γ} (h : arg0 x F = some r) (k : F = some r → x = [] → P) : P := by
  match x, h with
  | [], h => exact k h rfl
  | _ :: _, h => cases h
theorem fmtOf_el {t e : PySem.Expr} (h : fmtOf t = some e) : ∃ p, t = .FormattedValue e (-1) none p := by
  cases t with
  | FormattedValue e' c f p =>
    cases f with
    | none =>
      refine ou_el h fun h hc => ?_
      obtain rfl := of_decide_eq_true hc
      obtain rfl := Option.some.inj h
      exact ⟨p, rfl⟩
    | some _ => cases h
  | _ => cases h
theorem sliceOf_el {t : PySem.Expr} {x : Option PySem.Expr × Option PySem.Expr} (h : sliceOf t = some x) : ∃ p, t = .Slice x.1 x.2 none p := by
  unfold sliceOf at h
  split at h
  · cases h; exact ⟨_, rfl⟩
  · cases h
theorem attrOf_el {t : PySem.Expr} {x : PySem.Expr × Str × Pos} (h : attrOf t = some x) : t = .Attribute x.1 x.2.1 x.2.2 := by
  unfold attrOf at h
  split at h
  · cases h; rfl
  · cases h
theorem isFull_el {t : PySem.Expr} (h : isFull t = true) : ∃ p, t = .Slice none none none p := by
  unfold isFull at h
  split at h
  · exact ⟨_, rfl⟩
  · cases h
theorem cstr_el {t : PySem.Expr} {x : Str} (h : cstr t = some x) : ∃ k p, t = .Constant (.str x) k p := by
  cases t with
  | Constant c k p =>
    cases c with
    | str y => cases h; exact ⟨k, p, rfl⟩
    | _ => cases h
  | _ => cases h
theorem no_el (h : (none : Option γ) = some r) : P := by cases h
/-- the end: what was found is what was asked -/
theorem sm1 {a b : α} {G : α → Prop} (h : some a = some b) (k : G a) : G b := Option.some.inj h ▸ k
theorem sm2 {a a' : α} {b b' : β} {G : α → β → Prop} (h : some (a, b) = some (a', b')) (k : G a b) : G a' b' := by
  cases h; exact k
theorem sm3 {a a' : α} {b b' : β} {c c' : γ} {G : α → β → γ → Prop} (h : some (a, b, c) = some (a', b', c')) (k : G a b c) : G a' b' c' := by
  cases h; exact k
theorem cps {P : Prop} (h : ∀ G : Prop, (P → G) → G) : P := h P id
end
section
variable {ρ : Nat → Addr} {n : Nat} {hp : Heap} {u : Value}
theorem RV.none_inv (h : RV ρ n hp .none u) : u = .none := by cases h; rfl
theorem RV.bool_inv {b : Bool} (h : RV ρ n hp (.bool b) u) : u = .bool b := by cases h; rfl
theorem RV.imm_inv {v : Value} (h : RV ρ n hp (.imm v) u) : u = v := by cases h; rfl
theorem RV.int_inv {i : Int} (h : RV ρ n hp (.int i) u) : ∃ t, u = .int i t := by cases h; exact ⟨_, rfl⟩
theorem RV.str_inv {x : Str} (h : RV ρ n hp (.str x) u) : ∃ t, u = .str x t := by cases h; exact ⟨_, rfl⟩
theorem RV.lst_inv {k : Nat} (h : RV ρ n hp (.lst k) u) : u = .ref (ρ k) ∧ k < n := by cases h; exact ⟨rfl, by assumption⟩
theorem RV.tup_inv {xs : List V} (h : RV ρ n hp (.tup xs) u) : ∃ a vs, u = .ref a ∧ hp.IsTuple a vs.toArray ∧ RVs ρ n hp xs vs := by cases h; exact ⟨_, _, rfl, by assumption, by assumption⟩
theorem RVs.nil_inv {us : List Value} (h : RVs ρ n hp [] us) : us = [] := by cases h; rfl
theorem RVs.cons_inv {x : V} {xs : List V} {us : List Value} (h : RVs ρ n hp (x :: xs) us) : ∃ v vs, us = v :: vs ∧ RV ρ n hp x v ∧ RVs ρ n hp xs vs := by cases h; exact ⟨_, _, rfl, by assumption, by assumption⟩
theorem FlR.next_inv {fl : Flow} (h : FlR ρ n hp .next fl) : fl = .next := by cases h; rfl
theorem FlR.cont_inv {fl : Flow} (h : FlR ρ n hp .cont fl) : fl = .cont := by cases h; rfl
theorem intOf_rv {v : V} {i : Int} (e : intOf v = some i) (h : RV ρ n hp v u) : ∃ t, u = .int i t := by
  cases v with
  | int j => cases e; exact h.int_inv
  | _ => cases e
theorem strOf_rv {v : V} {x : Str} (e : strOf v = some x) (h : RV ρ n hp v u) : ∃ t, u = .str x t := by
  cases v with
  | str j => cases e; exact h.str_inv
  | _ => cases e
theorem lstOf_rv {v : V} {k : Nat} (e : lstOf v = some k) (h : RV ρ n hp v u) : u = .ref (ρ k) ∧ k < n := by
  cases v with
  | lst j => cases e; exact h.lst_inv
  | _ => cases e
theorem typOf_rv {v : V} {x : String} (e : typOf v = some x) (h : RV ρ n hp v u) : u = .type x := by
  unfold typOf at e
  split at e
  · cases e; exact h.imm_inv
  · cases e
theorem i2_rv {γ : Type} {a b : V} {F : Int → Int → Option γ} {x y : Value} {r : γ} {G : Value → Value → Prop} (ha : RV ρ n hp a x) (hb : RV ρ n hp b y) (h : i2 a b F = some r) (k : ∀ i j t u, F i j = some r → G (.int i t) (.int j u)) : G x y :=
  oc_el h fun i h e1 => oc_el h fun j h e2 => by
    obtain ⟨t, rfl⟩ := intOf_rv e1 ha
    obtain ⟨u, rfl⟩ := intOf_rv e2 hb
    exact k i j t u h
theorem s2_rv {γ : Type} {a b : V} {F : Str → Str → Option γ} {x y : Value} {r : γ} {G : Value → Value → Prop} (ha : RV ρ n hp a x) (hb : RV ρ n hp b y) (h : (oc (strOf a) fun i => oc (strOf b) fun j => F i j) = some r) (k : ∀ i j t u, F i j = some r → G (.str i t) (.str j u)) : G x y :=
  oc_el h fun i h e1 => oc_el h fun j h e2 => by
    obtain ⟨t, rfl⟩ := strOf_rv e1 ha
    obtain ⟨u, rfl⟩ := strOf_rv e2 hb
    exact k i j t u h
end
section
variable {body : V → Loc → Hp → Option (Fl × Loc × Hp)} {src : Src} {m i : Nat} {loc l' : Loc} {st t' : Hp} {f : Fl} {P : Prop}
/-- how a loop goes on behind a turn -/
noncomputable def goOn (body : V → Loc → Hp → Option (Fl × Loc × Hp)) (src : Src) (m i : Nat) (f1 : Fl) (l1 : Loc) (t1 : Hp) : Option (Fl × Loc × Hp) := match f1 with
  | .next => loopF body src m (i + 1) l1 t1
  | .cont => loopF body src m (i + 1) l1 t1
  | .brk => some (.next, l1, t1)
  | .ret v => some (.ret v, l1, t1)
theorem loopF_el {R : Fl × Loc × Hp} (h : loopF body src m i loc st = some R) (k0 : some (Fl.next, loc, st) = some R → iterS src i st = some none → P)
    (k1 : ∀ m' x f1 l1 t1, goOn body src m' i f1 l1 t1 = some R → body x loc st = some (f1, l1, t1) → iterS src i st = some (some x) → m' < m → P) : P := by
  cases m with
  | zero => exact no_el h
  | succ m =>
    unfold loopF at h
    cases e : iterS src i st with
    | none => rw [e] at h; exact no_el h
    | some o =>
      rw [e] at h
      cases o with
      | none => exact k0 h e
      | some x =>
        dsimp only at h
        cases hb : body x loc st with
        | none => rw [hb] at h; exact no_el h
        | some q =>
          obtain ⟨f1, l1, t1⟩ := q
          rw [hb] at h
          refine k1 m x f1 l1 t1 ?_ hb e (Nat.lt_succ_self m)
          cases f1 <;> exact h
theorem compB_el {bind : V → Loc → Option Loc} {test : Loc → Hp → Option (Bool × Hp)} {elt : Loc → Hp → Option (V × Hp)} {k : Nat} {x : V} {R : Fl × Loc × Hp} (h : compB bind test elt k x loc st = some R)
    (k0 : ∀ loc' t1, some (Fl.next, loc', t1) = some R → bind x loc = some loc' → test loc' st = some (false, t1) → P)
    (k1 : ∀ loc' t1 v t2 xs, some (Fl.next, loc', t2.set k (xs ++ [v])) = some R → bind x loc = some loc' → test loc' st = some (true, t1) → elt loc' t1 = some (v, t2) → t2[k]? = some xs → xs.length ≤ sizeLine → P) : P :=
  oc_el h fun loc' h h1 => oif_el h fun b t1 h h2 => by
    cases b with
    | false => exact k0 loc' t1 h h1 h2
    | true => exact ob_el h fun v t2 h h3 => oc_el h fun xs h h4 => oi_el h fun h h5 => k1 loc' t1 v t2 xs h h1 h2 h3 h4 h5
end
theorem q_gen {prog : Program} {w : World} {A : Around} {α : Type} {t : Sem α} {Q : α → Shared → Prop} {E : Value → Shared → Prop} {s : Shared} (h : ∀ Q' : α → Shared → Prop, (∀ a s', Q a s' → Q' a s') → wpAny (model prog w) A t Q' E s) : wpAny (model prog w) A t Q E s := h Q fun _ _ x => x
end Uq
end

section
open PySem PySem.Calls PyProof.Rows
namespace Uq

/-- what a step of an iterator may turn -/
structure Mv (fp : Addr → Prop) (gp : Nat → Prop) (s s' : Shared) : Prop where
  keep : ∀ b o, s.heap.get? b = some o → ¬ fp b → s'.heap.get? b = some o
  os : s'.os = s.os
  bare : AllBare s.gens → AllBare s'.gens
  gsz : s.gens.size ≤ s'.gens.size
  gens : ∀ g, g < s.gens.size → ¬ gp g → s'.gens[g]? = s.gens[g]?
  tk : s.toks ≤ s'.toks

structure Itr (prog : Program) (w : World) (B : Addr → Option Obj) (pins : List (Nat × Addr)) (A : Around) (it : Value) (src : Src) (a : Addr) (fp : Addr → Prop) (gp : Nat → Prop) (St : Nat → Shared → Prop) (z : Bool) : Prop where
  alive : ∀ i s b, (0 < i ∨ z = true) → St i s → fp b → ∃ o, s.heap.get? b = some o ∧ ¬ Stays o
  stay : ∀ i s b o, St i s → fp b → s.heap.get? b = some o → ¬ Stays o
  frame : ∀ i s s', (0 < i ∨ z = true) → St i s → (∀ b o, fp b → s.heap.get? b = some o → s'.heap.get? b = some o) → s.gens.size ≤ s'.gens.size → (∀ g, g < s.gens.size → s'.gens[g]? = s.gens[g]?) → s.toks ≤ s'.toks → St i s'
  own : ∀ i tgt u s (Q : Unit → Shared → Prop) (E : Value → Shared → Prop), St i s → Q () s → wpAny (model prog w) A (letOwnedTupleGo tgt it u) Q E s
  self : ∀ i s (Q : Value → Shared → Prop) (E : Value → Shared → Prop), St i s → Q it s → wpAny (model prog w) A (pyIter it) Q E s
  item : ∀ i x ρ st s (Q : Option Value → Shared → Prop) (E : Value → Shared → Prop), St i s → Rel B pins ρ st s.heap → (∀ k, src = .live k → ρ k = a) → iterS src i st = some (some x) →
    (∀ s' u, St (i + 1) s' → Mv fp gp s s' → RV ρ st.length s'.heap x u → Q (some u) s') → wpAny (model prog w) A (pyNext it) Q E s
  done : ∀ i ρ st s (Q : Option Value → Shared → Prop) (E : Value → Shared → Prop), St i s → Rel B pins ρ st s.heap → (∀ k, src = .live k → ρ k = a) → iterS src i st = some none →
    (∀ s', Mv fp gp s s' → Q none s') → wpAny (model prog w) A (pyNext it) Q E s

noncomputable def ItK (prog : Program) (w : World) (B : Addr → Option Obj) (pins : List (Nat × Addr)) (A : Around) (z : Bool) (ρ : Nat → Addr) (st : Hp) (s : Shared) (st' : Hp) (src : Src) (Q : Value → Shared → Prop) : Prop :=
  ∀ ρ' s' it a fp gp St, Rel B pins ρ' st' s'.heap → Ext ρ st.length noF s ρ' st'.length s' → Itr prog w B pins A it src a fp gp St z → St 0 s' →
    (∀ b, fp b → B b = none ∧ s.heap.get? b = none ∧ ∀ k, k < st'.length → ρ' k ≠ b) → (∀ g, gp g → s.gens.size ≤ g) → (∀ k, src = .live k → ρ' k = a ∧ k < st'.length) → Q it s'
noncomputable def Iters (prog : Program) (w : World) (B : Addr → Option Obj) (pins : List (Nat × Addr)) (A : Around) (t : Sem Value) (ρ : Nat → Addr) (st : Hp) (s : Shared) (st' : Hp) (src : Src) : Prop :=
  ∀ (Q : Value → Shared → Prop) (E : Value → Shared → Prop), ItK prog w B pins A true ρ st s st' src Q → wpAny (model prog w) A t Q E s
noncomputable def ItersC (prog : Program) (w : World) (B : Addr → Option Obj) (pins : List (Nat × Addr)) (A : Around) (f : Value) (us : List Value) (ρ : Nat → Addr) (st : Hp) (s : Shared) (src : Src) : Prop :=
  ∀ (Q : Value → Shared → Prop) (E : Value → Shared → Prop), ItK prog w B pins A false ρ st s st src Q → wpAny (model prog w) A (call f us) (fun x s1 => wpAny (model prog w) A (pyIter x) Q E s1) E s

section
variable (prog : Program) (w : World) (B : Addr → Option Obj) (pins : List (Nat × Addr))

noncomputable def KeepOK (f : Value) : Prop := ∀ h : Heap, (∀ b o, B b = some o → h.get? b = some o) → ∃ k, (k = Keeper.frame ∨ k = Keeper.machine ∨ k = Keeper.boundFrame) ∧ PySem.W.Looks (model prog w) h (keeperOf f) k
noncomputable def FnOK (n : Nat) (f : Value) (spec : Fn) : Prop :=
  ∀ args st v st', spec args st = some (v, st') → ∀ A ρ s us, Room n A → 0 < s.toks → Rel B pins ρ st s.heap → RVs ρ st.length s.heap args us → Does prog w B pins A (call f us) ρ st s v st'
noncomputable def MethOK (n : Nat) (o : Value) (m : Str) (kn : List Str) (spec : Fn) : Prop :=
  ∃ f first, KeepOK prog w B f ∧ (∀ A (s : Shared) pl Q E, (∀ b o, B b = some o → s.heap.get? b = some o) → (∀ tk, s.toks ≤ tk → Q (f, first) { s with toks := tk }) → wpAny (model prog w) A (getMethod o m pl) Q E s) ∧
    ∀ args st v st', spec args st = some (v, st') → ∀ A ρ s us ks, Room n A → 0 < s.toks → Rel B pins ρ st s.heap → RVs ρ st.length s.heap args (us ++ ks) → ks.length = kn.length → Does prog w B pins A (call f (first ++ us) (kn.zip ks)) ρ st s v st'

structure CxOK (n : Nat) (mg mb : Str → Option Value) (cx : Cx) : Prop where
  glb : ∀ h : Heap, (∀ b o, B b = some o → h.get? b = some o) → h.Ns mainGlobals mg ∧ h.Ns builtinsNs mb
  glob : ∀ x v, cx.glob x = some v → ∃ u, v = .imm u ∧ (mg x = some u ∨ (mg x = none ∧ mb x = some u))
  keep : ∀ f spec, cx.fn f = some spec → KeepOK prog w B f
  fn : ∀ f spec, cx.fn f = some spec → FnOK prog w B pins n f spec
  meth : ∀ a m kn spec, cx.meth a m kn = some spec → MethOK prog w B pins n (.ref a) m kn spec
  attr : ∀ a m v, cx.attr a m = some v → ∀ A ρ st s, Room n A → 0 < s.toks → Rel B pins ρ st s.heap → Does prog w B pins A (getAttr (.ref a) m true) ρ st s v st
  smeth : ∀ x m args st v st', cx.smeth x m args st = some (v, st') → ∀ t, ∃ f first, KeepOK prog w B f ∧ (∀ A (s : Shared) pl Q E, Q (f, first) s → wpAny (model prog w) A (getMethod (.str x t) m pl) Q E s) ∧
    ∀ A ρ s us, Room n A → 0 < s.toks → Rel B pins ρ st s.heap → RVs ρ st.length s.heap args us → Does prog w B pins A (call f (first ++ us)) ρ st s v st'
  setI : ∀ a f, cx.setI a = some f → ∀ j v st st', f j v st = some st' → ∀ A ρ s ju vu Q E, Room n A → 0 < s.toks → Rel B pins ρ st s.heap → RV ρ st.length s.heap j ju → RV ρ st.length s.heap v vu →
    (∀ ρ' s', Rel B pins ρ' st' s'.heap → Ext ρ st.length noF s ρ' st'.length s' → Q () s') → wpAny (model prog w) A (setItem (.ref a) ju vu) Q E s
  delI : ∀ a f, cx.delI a = some f → ∀ j st st', f j st = some st' → ∀ A ρ s ju Q E, Room n A → 0 < s.toks → Rel B pins ρ st s.heap → RV ρ st.length s.heap j ju →
    (∀ ρ' s', Rel B pins ρ' st' s'.heap → Ext ρ st.length noF s ρ' st'.length s' → Q () s') → wpAny (model prog w) A (delItem (.ref a) ju) Q E s
  ext : ∀ a xs, cx.ext a = some xs → ∃ o vs m, B a = some o ∧ o.cls = .type "list" ∧ o.data = .seq (List.toArray vs) m ∧ ∀ ρ n h, RVs ρ n h xs vs
  gen : ∀ f g, cx.gen f = some g → KeepOK prog w B f ∧ ∀ args items, g args = some items → ∀ A ρ st s us, Room n A → 0 < s.toks → Rel B pins ρ st s.heap → RVs ρ st.length s.heap args us → ItersC prog w B pins A f us ρ st s (.items items)

noncomputable def EvOK (n : Nat) (mg mb : Str → Option Value) (ev : Cx → Loc → Hp → Expr → Option (V × Hp)) : Prop :=
  (∀ cx loc st e p, ev cx loc st (.Starred e p) = none) ∧
  ∀ cx, CxOK prog w B pins n mg mb cx → ∀ loc st e v st', ev cx loc st e = some (v, st') → ∀ A ρ s env, Room n A → EnvOK B env → env.scope = cx.sc → Rel B pins ρ st s.heap → Frm ρ st.length s env loc →
    Does prog w B pins A (eval e env) ρ st s v st'
noncomputable def TvOK (n : Nat) (mg mb : Str → Option Value) (tv : Cx → Loc → Hp → Expr → Option (Bool × Hp)) : Prop :=
  ∀ cx, CxOK prog w B pins n mg mb cx → ∀ loc st e b st', tv cx loc st e = some (b, st') → ∀ A ρ s env, Room n A → EnvOK B env → env.scope = cx.sc → Rel B pins ρ st s.heap → Frm ρ st.length s env loc →
    DoesB prog w B pins A (isTrue e env (eval e env)) ρ st s b st'
noncomputable def ExOK (n : Nat) (mg mb : Str → Option Value) (ex : Cx → Loc → Hp → Stmt → Option (Fl × Loc × Hp)) : Prop :=
  ∀ cx, CxOK prog w B pins n mg mb cx → ∀ loc st c f loc' st', ex cx loc st c = some (f, loc', st') → ∀ A ρ s env, Room n A → EnvOK B env → env.scope = cx.sc → Rel B pins ρ st s.heap → Frm ρ st.length s env loc →
    DoesS prog w B pins A (exec c env) env ρ st s f loc' st'
end

section
variable {prog : Program} {w : World} {B : Addr → Option Obj} {pins : List (Nat × Addr)} {n : Nat} {mg mb : Str → Option Value} {cx : Cx} {A : Around} {ρ : Nat → Addr} {st st' st1 st2 : Hp} {s : Shared} {env : Env} {loc : Loc}

theorem CxOK.scope (C : CxOK prog w B pins n mg mb cx) (sc : Scope) : CxOK prog w B pins n mg mb { cx with sc := sc } :=
  ⟨C.glb, C.glob, C.keep, C.fn, C.meth, C.attr, C.smeth, C.setI, C.delI, C.ext, C.gen⟩

theorem name_ok (C : CxOK prog w B pins n mg mb cx) (EO : EnvOK B env) (hs : env.scope = cx.sc) (R : Rel B pins ρ st s.heap) (F : Frm ρ st.length s env loc) {x : Str} {p : Pos} {v : V}
    (h : nameV cx loc x = some v) (hd : decide (x = ("__debug__" : Str)) = false) : Does prog w B pins A (eval (.Name x p) env) ρ st s v st := by
  have hd' : (x == ("__debug__" : Str)) = false := by simpa using hd
  refine Does.val R fun Q E k => ?_
  unfold nameV at h
  cases g : getL loc x with
  | some u =>
    rw [g] at h
    cases h
    rcases F.cl x v g with q | ⟨q, c, u, hc, hi, hr⟩
    · obtain ⟨m, hN, hv⟩ := F.ns
      obtain ⟨u, hu, hr⟩ := hv x v g q
      exact wpAny_Name (wpAny_loadName_local EO.fn q hN hu (k u s.toks hr)) hd'
    · exact wpAny_Name (wpAny_loadName_cell EO.fn q hc hi (k u s.toks hr)) hd'
  | none =>
    rw [g] at h
    dsimp only at h
    split at h
    · rename_i q
      obtain ⟨u, rfl, hu⟩ := C.glob x v h
      have N := C.glb s.heap R.base
      have hx : env.kindOf x = some .globalImplicit := by
        show env.scope.names.lookup x = _
        rw [hs]; exact of_decide_eq_true q
      refine Name_function_global EO.fn hx ?_ hd'
      rcases hu with hu | ⟨hu, hb⟩
      · exact loadGlobal_global (by rw [EO.gl]; exact N.1) hu (k u s.toks (.imm u))
      · exact loadGlobal_builtin (by rw [EO.gl]; exact N.1) hu (by rw [EO.bi]; exact N.2) hb (k u s.toks (.imm u))
    · cases h

theorem const_ok (R : Rel B pins ρ st s.heap) {c : Const} {k : Nat} {p : Pos} {v : V} (h : constV c = some v) : Does prog w B pins A (eval (.Constant c k p) env) ρ st s v st := by
  refine Does.val R fun Q E q => ?_
  cases c <;> first | (cases h; done) | skip
  all_goals cases h
  · exact wpAny_Constant_none (q _ s.toks .none)
  · exact wpAny_Constant_bool (q _ s.toks (.bool _))
  · exact wpAny_Constant_int (q _ _ (.int _ _))
  · exact wpAny_Constant_str (q _ _ (.str _ _))

end
end Uq
end

section
open PySem PySem.Calls PyProof.Rows
namespace Uq

section
variable {prog : Program} {w : World} {B : Addr → Option Obj} {pins : List (Nat × Addr)} {n : Nat} {mg mb : Str → Option Value} {cx : Cx} {A : Around} {ρ : Nat → Addr} {st st' st1 st2 : Hp} {s : Shared} {env : Env} {loc : Loc}

theorem RV.ref_ne {v : V} {h : Heap} {u : Value} (H : RV ρ n h v u) : True := trivial
theorem isNone_ok {v : V} {u : Value} {m : Nat} {h : Heap} {b : Bool} (H : RV ρ m h v u) (e : isNone v = some b) : (u == .none) = b := by
  cases H <;> cases e <;> rfl

theorem intsIn_ok {i : Int} {h : Heap} {m : Nat} : ∀ {xs : List V} {vs : List Value} {b : Bool}, RVs ρ m h xs vs → intsIn i xs = some b → ∃ ns, IntsAre vs ns ∧ (ns.any fun j => j == i) = b
  | [], _, b, .nil, e => by cases e; exact ⟨[], .nil, rfl⟩
  | x :: xs, _, b, .cons (v := v) (vs := vs) H K, e => by
    cases x <;> first | (cases e; done) | skip
    rename_i j
    unfold intsIn at e
    cases q : intsIn i xs with
    | none => rw [q] at e; cases e
    | some c =>
      rw [q] at e
      cases e
      obtain ⟨ns, hI, hb⟩ := intsIn_ok K q
      cases H
      exact ⟨j :: ns, .cons _ _ hI, by rw [List.any_cons, hb]⟩

theorem pow_ok {Q : Value → Shared → Prop} {E : Value → Shared → Prop} {t u : Tok} (h : Q (.int 1000000 s.toks) { s with toks := s.toks + 1 }) : wpAny (model prog w) A (binaryOp .Pow (.int 10 t) (.int 6 u)) Q E s :=
  PyProof.Rows.pow_int (by decide) (by decide +kernel) h

/-- what a new list leaves -/
theorem Does.new_list {Q : Value → Shared → Prop} (R : Rel B pins ρ st s.heap) {h' : Heap} {xs : List V} {vs : List Value} {a : Addr} (ha : s.heap.objs.size ≤ a) (K : ∀ b o, s.heap.get? b = some o → h'.get? b = some o) (hl : h'.PlainList a vs.toArray)
    (H : RVs ρ st.length s.heap xs vs)
    (k : ∀ ρ' s' u, Rel B pins ρ' (st ++ [xs]) s'.heap → Ext ρ st.length noF s ρ' (st ++ [xs]).length s' → RV ρ' (st ++ [xs]).length s'.heap (.lst st.length) u → Q u s') (tk : Nat) (htk : s.toks ≤ tk) : Q (.ref a) { s with heap := h', toks := tk } := by
  refine k (put ρ st.length a) { s with heap := h', toks := tk } _ (R.new_list ha K hl (H.mono (fun _ _ => rfl) (Nat.le_refl _) fun b o e _ => K b o e)) ?_ ?_
  · have := Ext.put (ρ := ρ) (n := st.length) (fr := noF) (s := s) (s' := { s with heap := h', toks := tk }) ha K rfl rfl htk
    simpa using this
  · have := RV.lst (ρ := put ρ st.length a) (n := (st ++ [xs]).length) (h := h') st.length (by simp)
    rwa [put_eq] at this

noncomputable abbrev DV (prog : Program) (w : World) (B : Addr → Option Obj) (pins : List (Nat × Addr)) (A : Around) (op : Operator) (ρ : Nat → Addr) (st : Hp) (s : Shared) (v : V) (st' : Hp) (x y : Value) : Prop := Does prog w B pins A (binaryOp op x y) ρ st s v st'
theorem add_lst (R : Rel B pins ρ st s.heap) {i j : Nat} {xs ys : List V} (ex : st[i]? = some xs) (ey : st[j]? = some ys) (hz : xs.length + ys.length ≤ sizeLine) : DV prog w B pins A .Add ρ st s (.lst st.length) (st ++ [xs ++ ys]) (.ref (ρ i)) (.ref (ρ j)) := fun Q E k => by
  obtain ⟨vs, hl, H1⟩ := R.cell _ _ ex
  obtain ⟨ws, hk, H2⟩ := R.cell _ _ ey
  obtain ⟨n, ho⟩ := id hl
  obtain ⟨n2, ho2⟩ := id hk
  have K : ∀ b o, s.heap.get? b = some o → (s.heap.push { cls := .type "list", data := .seq (vs ++ ws).toArray }).get? b = some o := fun b o e => Heap.get?_push_of_some _ e
  refine concat_meets ⟨_, ho, rfl⟩ ⟨_, ho2, rfl⟩ noFill_list_add seq_list_add PySem.F.slot_list_add PySem.F.entry_list_add (PySem.F.args_list_add_2 _ _) (list_addW _ _ vs.toArray ws.toArray n n2 none none #[] #[] (by rw [List.size_toArray, List.size_toArray, ← H1.length, ← H2.length]; exact hz)) ⟨ho, ho2, ?_⟩
  rw [List.append_toArray]
  exact Does.new_list (h' := s.heap.push { cls := .type "list", data := .seq (vs ++ ws).toArray }) R (Nat.le_refl _) K ⟨_, Heap.get?_push_size _ rfl⟩ (H1.append H2) k s.toks (Nat.le_refl _)
theorem add_ok (R : Rel B pins ρ st s.heap) {a b : V} {x y : Value} {v : V} (ha : RV ρ st.length s.heap a x) (hb : RV ρ st.length s.heap b y) (h : addV a b st = some (v, st')) : DV prog w B pins A .Add ρ st s v st' x y := by
  cases a with
  | int i =>
    obtain ⟨t, rfl⟩ := ha.int_inv
    refine oc_el h fun j h e => ?_
    obtain ⟨u, rfl⟩ := intOf_rv e hb
    exact sm2 (G := fun v t => DV prog w B pins A .Add ρ st s v t _ _) h (Does.val R fun Q E k => PyProof.Rows.add_int (k _ _ (.int _ _)))
  | str i =>
    obtain ⟨t, rfl⟩ := ha.str_inv
    refine oc_el h fun j h e => oi_el h fun h hz => ?_
    obtain ⟨u, rfl⟩ := strOf_rv e hb
    exact sm2 (G := fun v t => DV prog w B pins A .Add ρ st s v t _ _) h (Does.val R fun Q E k => PyProof.Rows.add_str (fun t' tk => k _ tk (.str _ _)) hz)
  | lst i =>
    obtain ⟨rfl, _⟩ := ha.lst_inv
    refine oc_el h fun j h e => oc_el h fun xs h ex => oc_el h fun ys h ey => oi_el h fun h hz => ?_
    obtain ⟨rfl, _⟩ := lstOf_rv e hb
    exact sm2 (G := fun v t => DV prog w B pins A .Add ρ st s v t _ _) h (add_lst R ex ey hz)
  | _ => exact no_el h
theorem bin_ok (R : Rel B pins ρ st s.heap) {op : Operator} {a b : V} {x y : Value} {v : V} (ha : RV ρ st.length s.heap a x) (hb : RV ρ st.length s.heap b y) (h : binV op a b st = some (v, st')) :
    Does prog w B pins A (binaryOp op x y) ρ st s v st' := by
  cases op with
  | Add => exact add_ok R ha hb h
  | Sub => exact i2_rv (G := DV prog w B pins A .Sub ρ st s v st') ha hb h fun i j t u h => sm2 (G := fun v t' => DV prog w B pins A .Sub ρ st s v t' _ _) h (Does.val R fun Q E k => PyProof.Rows.sub_int (k _ _ (.int _ _)))
  | FloorDiv => exact i2_rv (G := DV prog w B pins A .FloorDiv ρ st s v st') ha hb h fun i j t u h => oj_el h fun h hz => sm2 (G := fun v t' => DV prog w B pins A .FloorDiv ρ st s v t' _ _) h (Does.val R fun Q E k => PyProof.Rows.floordiv_int (fun e => hz (.inl e)) (k _ _ (.int _ _)) (.inl (Bool.eq_false_iff.mpr fun q => hz (.inr q))))
  | Mod => exact i2_rv (G := DV prog w B pins A .Mod ρ st s v st') ha hb h fun i j t u h => oj_el h fun h hz => sm2 (G := fun v t' => DV prog w B pins A .Mod ρ st s v t' _ _) h (Does.val R fun Q E k => PyProof.Rows.mod_int hz (k _ _ (.int _ _)))
  | Pow => exact i2_rv (G := DV prog w B pins A .Pow ρ st s v st') ha hb h fun i j t u h => oi_el h fun h hz => sm2 (G := fun v t' => DV prog w B pins A .Pow ρ st s v t' _ _) h (hz.1 ▸ hz.2 ▸ Does.val R fun Q E k => pow_ok (k _ _ (.int _ _)))
  | _ => exact no_el h

theorem bool_beq (a b : Bool) : (Value.bool a == Value.bool b) = (a == b) := by cases a <;> cases b <;> rfl
theorem plainIs_bool (a b : Bool) : plainIs (.bool a) (.bool b) = true := by cases a <;> cases b <;> rfl

theorem type_beq (a b : String) : (Value.type a == Value.type b) = (a == b) := by
  by_cases h : a = b
  · subst h; simp
  · rw [beq_false_of_ne h, beq_false_of_ne fun e => h (Value.type.inj e)]
theorem plainIs_type (a b : String) : plainIs (.type a) (.type b) = true := by rfl

noncomputable abbrev CV (prog : Program) (w : World) (B : Addr → Option Obj) (pins : List (Nat × Addr)) (A : Around) (op : CmpOp) (ρ : Nat → Addr) (st : Hp) (s : Shared) (v : Bool) (x y : Value) : Prop := Does prog w B pins A (compareOp op x y) ρ st s (.bool v) st
theorem eqV_ok (R : Rel B pins ρ st s.heap) {a b : V} {x y : Value} {v : Bool} (ha : RV ρ st.length s.heap a x) (hb : RV ρ st.length s.heap b y) (h : eqV a b = some v) : CV prog w B pins A .Eq ρ st s v x y ∧ CV prog w B pins A .NotEq ρ st s (!v) x y := by
  cases a with
  | int i =>
    obtain ⟨t, rfl⟩ := ha.int_inv
    refine oc_el h fun j h e => ?_
    obtain ⟨u, rfl⟩ := intOf_rv e hb
    exact sm1 (G := fun v => CV prog w B pins A .Eq ρ st s v _ _ ∧ CV prog w B pins A .NotEq ρ st s (!v) _ _) h ⟨Does.bool R fun Q E k => PyProof.Rows.eq_int k, Does.bool R fun Q E k => PyProof.Rows.ne_int k⟩
  | str i =>
    obtain ⟨t, rfl⟩ := ha.str_inv
    refine oc_el h fun j h e => ?_
    obtain ⟨u, rfl⟩ := strOf_rv e hb
    exact sm1 (G := fun v => CV prog w B pins A .Eq ρ st s v _ _ ∧ CV prog w B pins A .NotEq ρ st s (!v) _ _) h ⟨Does.bool R fun Q E k => PyProof.Rows.eq_str k, Does.bool R fun Q E k => PyProof.Rows.ne_str k⟩
  | _ => exact no_el h
theorem isV_ok (R : Rel B pins ρ st s.heap) {a b : V} {x y : Value} {v : Bool} (ha : RV ρ st.length s.heap a x) (hb : RV ρ st.length s.heap b y) (h : isV a b = some v) : CV prog w B pins A .Is ρ st s v x y ∧ CV prog w B pins A .IsNot ρ st s (!v) x y := by
  cases b with
  | none =>
    obtain rfl := hb.none_inv
    exact ⟨Does.bool R fun Q E k => is_none (by rw [isNone_ok ha h]; exact k), Does.bool R fun Q E k => isNot_none (by rw [isNone_ok ha h]; exact k)⟩
  | bool j =>
    obtain rfl := hb.bool_inv
    cases a with
    | bool i =>
      obtain rfl := ha.bool_inv
      exact sm1 (G := fun v => CV prog w B pins A .Is ρ st s v _ _ ∧ CV prog w B pins A .IsNot ρ st s (!v) _ _) h ⟨Does.bool R fun Q E k => wpAny_is_plain (plainIs_bool _ _) (by rw [bool_beq]; exact k), Does.bool R fun Q E k => wpAny_isNot_plain (plainIs_bool _ _) (by rw [bool_beq]; exact k)⟩
    | _ => exact no_el h
  | imm u =>
    refine oc_el h fun y h e => oc_el h fun x h e2 => ?_
    obtain rfl := typOf_rv e hb
    obtain rfl := typOf_rv e2 ha
    exact sm1 (G := fun v => CV prog w B pins A .Is ρ st s v _ _ ∧ CV prog w B pins A .IsNot ρ st s (!v) _ _) h ⟨Does.bool R fun Q E k => wpAny_is_plain (plainIs_type _ _) (by rw [type_beq]; exact k), Does.bool R fun Q E k => wpAny_isNot_plain (plainIs_type _ _) (by rw [type_beq]; exact k)⟩
  | _ => exact no_el h
theorem inV_ok (R : Rel B pins ρ st s.heap) {a b : V} {x y : Value} {v : Bool} (ha : RV ρ st.length s.heap a x) (hb : RV ρ st.length s.heap b y) (h : inV a b st = some v) : CV prog w B pins A .In ρ st s v x y := by
  cases b with
  | str j =>
    obtain ⟨u, rfl⟩ := hb.str_inv
    refine oc_el h fun i h e => ?_
    obtain ⟨t, rfl⟩ := strOf_rv e ha
    exact sm1 (G := fun v => CV prog w B pins A .In ρ st s v _ _) h (Does.bool R fun Q E k => PyProof.Rows.in_str k)
  | lst j =>
    obtain ⟨rfl, _⟩ := hb.lst_inv
    refine oc_el h fun i h e => ?_
    obtain ⟨t, rfl⟩ := intOf_rv e ha
    obtain ⟨xs, q, h⟩ := Option.bind_eq_some_iff.mp h
    obtain ⟨vs, hl, H⟩ := R.cell _ _ q
    obtain ⟨ns, hI, e⟩ := intsIn_ok H h
    exact Does.bool R fun Q E k => in_list_ints hl.isList hI (by rw [e]; exact k)
  | _ => exact no_el h
theorem cmp_ok (R : Rel B pins ρ st s.heap) (hA : A.units < cLine) {op : CmpOp} {a b : V} {x y : Value} {v : Bool} (ha : RV ρ st.length s.heap a x) (hb : RV ρ st.length s.heap b y) (h : cmpV op a b st = some v) :
    Does prog w B pins A (compareOp op x y) ρ st s (.bool v) st := by
  cases op with
  | Eq => exact (eqV_ok R ha hb h).1
  | NotEq => exact om_el h fun c h e => sm1 (G := fun v => CV prog w B pins A .NotEq ρ st s v x y) h (eqV_ok R ha hb e).2
  | Lt => exact i2_rv (G := CV prog w B pins A .Lt ρ st s v) ha hb h fun i j t u h => sm1 (G := fun v => CV prog w B pins A .Lt ρ st s v _ _) h (Does.bool R fun Q E k => PyProof.Rows.lt_int k)
  | Is => exact (isV_ok R ha hb h).1
  | IsNot => exact om_el h fun c h e => sm1 (G := fun v => CV prog w B pins A .IsNot ρ st s v x y) h (isV_ok R ha hb e).2
  | In => exact inV_ok R ha hb h
  | NotIn => exact s2_rv (G := CV prog w B pins A .NotIn ρ st s v) ha hb h fun i j t u h => sm1 (G := fun v => CV prog w B pins A .NotIn ρ st s v _ _) h (Does.bool R fun Q E k => PyProof.Rows.notIn_str k)
  | _ => exact no_el h

theorem truth_ok (R : Rel B pins ρ st s.heap) {v : V} {u : Value} {b : Bool} (hv : RV ρ st.length s.heap v u) (h : truthV v st = some b) : DoesB prog w B pins A (truthy u) ρ st s b st := by
  cases hv with
  | none => exact sm1 (G := fun b => DoesB prog w B pins A (truthy .none) ρ st s b st) h (DoesB.of R fun Q E k => (fun _ _ _ => k s.toks : wpAny (model prog w) A (truthy .none) Q E s))
  | bool c => exact sm1 (G := fun b => DoesB prog w B pins A (truthy (.bool c)) ρ st s b st) h (DoesB.of R fun Q E k => wpAny_truthy_bool (k s.toks))
  | int i t => exact sm1 (G := fun b => DoesB prog w B pins A (truthy (.int i t)) ρ st s b st) h (DoesB.of R fun Q E k => PySem.P.truthy_int (k s.toks))
  | str x t => exact oi_el h fun h hz => sm1 (G := fun b => DoesB prog w B pins A (truthy (.str x t)) ρ st s b st) h (DoesB.of R fun Q E k => PySem.P.truthy_str (by rw [sizeLine_eq] at hz; omega) (k _))
  | lst k hk =>
    refine oc_el h fun xs h e => oi_el h fun h hz => sm1 (G := fun b => DoesB prog w B pins A (truthy (.ref (ρ k))) ρ st s b st) h ?_
    obtain ⟨vs, hl, H⟩ := R.cell _ _ e
    have hlen := H.length
    refine DoesB.of R fun Q E k => wpAny_truthy_list hl.isList (by rw [sizeLine_eq] at hz; rw [List.size_toArray, ← hlen]; omega) ?_
    have e2 : (!vs.toArray.isEmpty) = !xs.isEmpty := by
      cases H <;> rfl
    rw [e2]; exact k _
  | _ => exact no_el h

theorem seqIndex_nonneg {i : Int} {m : Nat} (h0 : 0 ≤ i) (h : i.toNat < m) : seqIndex? i m = some i.toNat := by
  unfold seqIndex?
  have h1 : ¬ i < 0 := by omega
  simp only [h1, if_false]
  have : (decide (0 ≤ i) && decide (i < (m : Int))) = true := by simp; omega
  simp [this]

theorem isTuple_tup {h : Heap} {a : Addr} {vs : Array Value} (x : h.IsTuple a vs) : IsTup h a vs := x

theorem ixOf_rv {ρ : Nat → Addr} {n : Nat} {hp : Heap} {v : V} {u : Value} {j : Nat} (e : ixOf v = some j) (h : RV ρ n hp v u) : ∃ i t, u = .int i t ∧ 0 ≤ i ∧ i < 2 ^ 62 ∧ j = i.toNat :=
  oc_el e fun i e h1 => oi_el e fun e hz => (intOf_rv h1 h).elim fun t ht => ⟨i, t, ht, hz.1, hz.2, (Option.some.inj e).symm⟩
theorem sub_ok (R : Rel B pins ρ st s.heap) {a b v : V} {x y : Value} (ha : RV ρ st.length s.heap a x) (hb : RV ρ st.length s.heap b y) (h : subV a b st = some v) {o i : PySem.Expr} (hi : ∀ l u p, i ≠ .Slice l u none p) :
    Does prog w B pins A (subscriptTail o i x y) ρ st s v st := by
  have hs : ∀ (x y : Value), subscripted i false x y = operate [x, y] (getItem x y) := fun x y => by
    cases i <;> first | rfl | skip
    rename_i l u t p
    cases t with
    | none => exact absurd rfl (hi l u p)
    | some _ => rfl
  cases a with
  | lst k0 =>
    refine oc_el h fun j h e => oc_el h fun xs h q => ?_
    obtain ⟨rfl, _⟩ := ha.lst_inv
    obtain ⟨i0, t, rfl, hz1, hz2, rfl⟩ := ixOf_rv e hb
    obtain ⟨vs, hl, H⟩ := R.cell _ _ q
    obtain ⟨u, hu, hr⟩ := H.get h
    exact Does.val R fun Q E k => tail_any hl.isList.typeIs PySem.F.slot_list_getitem.lookup (wpAny_getItem_list hl.isList hz1 (by omega) (by simpa using hu) (k u s.toks hr)) (hs _ _)
  | tup xs =>
    refine oc_el h fun j h e => ?_
    obtain ⟨i0, t, rfl, hz1, hz2, rfl⟩ := ixOf_rv e hb
    obtain ⟨a, vs, rfl, hT, H⟩ := ha.tup_inv
    obtain ⟨u, hu, hr⟩ := H.get h
    have hlt : i0.toNat < vs.length := (List.getElem?_eq_some_iff.mp hu).1
    exact Does.val R fun Q E k => tail_any hT.typeIs PyProof.Rows.slot_tuple_getitem.lookup (PyProof.Rows.getItem_tuple (isTuple_tup hT) (by omega) (by omega) (seqIndex_nonneg hz1 (by simpa using hlt)) (by simpa using hu) (k u s.toks hr)) (hs _ _)
  | str x0 =>
    refine oc_el h fun j h e => om_el h fun c h2 q => ?_
    obtain ⟨i0, t, rfl, hz1, hz2, rfl⟩ := ixOf_rv e hb
    obtain ⟨t', rfl⟩ := ha.str_inv
    have hlt : i0.toNat < x0.length := (Array.getElem?_eq_some_iff.mp q).1
    exact sm1 (G := fun v => Does prog w B pins A (subscriptTail o i (.str x0 t') (.int i0 t)) ρ st s v st) h2
      (Does.val R fun Q E k => tail_any (typeIs_str s x0 _) PyProof.Rows.slot_str_getitem.lookup (PyProof.Rows.getItem_str (by simp; omega) (by rw [seqIndex_nonneg hz1 hlt]; exact q) (k _ _ (.str _ _))) (hs _ _))
  | _ => exact no_el h

noncomputable def PartR (lo : Option Int) (u : Value) : Prop := ∃ l : Option (Int × Tok), u = partValue l ∧ l.map (·.1) = lo
theorem PartR.is {lo : Option Int} {u : Value} (h : PartR lo u) : IsPart u lo := by
  obtain ⟨l, rfl, rfl⟩ := h
  cases l with
  | none => exact .none
  | some p => exact .int p.1 p.2

/-- a slice of a list -/
theorem cutN_ok (R : Rel B pins ρ st s.heap) {v : V} {xs : List V} {vs : List Value} {a : Addr} {lo hi : Option Int} {ul uh : Value} (hls : s.heap.IsList a vs.toArray) (H : RVs ρ st.length s.heap xs vs) (hl : PartR lo ul) (hh : PartR hi uh) (h : cutN xs lo hi st = some (v, st')) {o : PySem.Expr} {l u : Option PySem.Expr} {p : Pos}
    {Q E : Value → Shared → Prop} (k : ∀ ρ' s' u, Rel B pins ρ' st' s'.heap → Ext ρ st.length noF s ρ' st'.length s' → RV ρ' st'.length s'.heap v u → Q u s') :
    wpAny (model prog w) A (subscriptTail o (.Slice l u none p) (.ref a) (.ref s.heap.objs.size)) Q E { s with heap := s.heap.push { cls := .type "slice", data := .fields #[ul, uh, .none] } } :=
  oi_el h fun h hz => sm2 (G := fun v st' => (∀ ρ' s' u, Rel B pins ρ' st' s'.heap → Ext ρ st.length noF s ρ' st'.length s' → RV ρ' st'.length s'.heap v u → Q u s') → wpAny (model prog w) A (subscriptTail o (.Slice l u none p) (.ref a) (.ref s.heap.objs.size)) Q E { s with heap := s.heap.push { cls := .type "slice", data := .fields #[ul, uh, .none] } }) h (fun k => by
    have K : ∀ b o, s.heap.get? b = some o → (s.heap.push { cls := .type "slice", data := .fields #[ul, uh, .none] }).get? b = some o := fun b o e => Heap.get?_push_of_some _ e
    have hls' := hls.push { cls := .type "slice", data := .fields #[ul, uh, .none] }
    refine tail_any hls'.typeIs PySem.F.slot_list_getitem.lookup (wpAny_getItem_list_slice hls' ⟨_, Heap.get?_push_size _ rfl, rfl, rfl⟩ hl.is hh.is .none (by simp) ?_ ?_) (by with_unfolding_all rfl)
    · have hs : slicePick vs.toArray lo hi none = (cutL vs lo hi).toArray := by
        rw [slicePick_plain]; unfold cutL; simp
      rw [hs]
      have hc : RVs ρ st.length s.heap (cutL xs lo hi) (cutL vs lo hi) := by
        unfold cutL
        rw [H.length]
        exact (H.drop _).take _
      exact Does.new_list R (a := (s.heap.push { cls := .type "slice", data := .fields #[ul, uh, .none] }).objs.size) (by rw [Heap.size_push]; exact Nat.le_succ _) (fun b o e => Heap.get?_push_of_some _ (K b o e)) ⟨_, Heap.get?_push_size _ rfl⟩ hc k s.toks (Nat.le_refl _)
    · rw [List.size_toArray, ← H.length]; exact hz) k

theorem slcX_ok (C : CxOK prog w B pins n mg mb cx) (R : Rel B pins ρ st s.heap) {a v : V} {x : Value} {lo hi : Option Int} {ul uh : Value} (ha : RV ρ st.length s.heap a x) (hl : PartR lo ul) (hh : PartR hi uh) (h : slcX cx a lo hi st = some (v, st')) {o : PySem.Expr} {l u : Option PySem.Expr} {p : Pos}
    {Q E : Value → Shared → Prop} (k : ∀ ρ' s' u, Rel B pins ρ' st' s'.heap → Ext ρ st.length noF s ρ' st'.length s' → RV ρ' st'.length s'.heap v u → Q u s') :
    wpAny (model prog w) A (subscriptTail o (.Slice l u none p) x (.ref s.heap.objs.size)) Q E { s with heap := s.heap.push { cls := .type "slice", data := .fields #[ul, uh, .none] } } := by
  cases a with
  | str x0 =>
    refine oi_el h fun h hz => sm2 (G := fun v st' => (∀ ρ' s' u, Rel B pins ρ' st' s'.heap → Ext ρ st.length noF s ρ' st'.length s' → RV ρ' st'.length s'.heap v u → Q u s') → wpAny (model prog w) A (subscriptTail o (.Slice l u none p) x (.ref s.heap.objs.size)) Q E { s with heap := s.heap.push { cls := .type "slice", data := .fields #[ul, uh, .none] } }) h (fun k => ?_) k
    have K : ∀ b o, s.heap.get? b = some o → (s.heap.push { cls := .type "slice", data := .fields #[ul, uh, .none] }).get? b = some o := fun b o e => Heap.get?_push_of_some _ e
    obtain ⟨t, rfl⟩ := ha.str_inv
    obtain ⟨pl, rfl, rfl⟩ := hl
    obtain ⟨ph, rfl, rfl⟩ := hh
    refine wpAny_with_toks (Nat.le_refl s.toks) ?_
    refine tail_any (typeIs_str _ x0 _) PyProof.Rows.slot_str_getitem.lookup (wpAny_getItem_str_slice (l := pl) (u := ph) (st := none) ⟨_, Heap.get?_push_size _ rfl, rfl, rfl⟩ rfl ?_) (by with_unfolding_all rfl)
    exact post_val_or_str ⟨Nat.le_trans (Txt.slice_le x0 _ _) hz, fun t' tk hle => k ρ _ _ (R.keeps K) (Ext.same (fun b o e _ => K b o e) rfl rfl hle) (.str _ t')⟩
  | lst k0 =>
    obtain ⟨rfl, _⟩ := ha.lst_inv
    exact oc_el h fun xs h e => (R.cell _ _ e).elim fun vs H => cutN_ok R H.1.isList H.2 hl hh h k
  | imm u0 =>
    obtain rfl := ha.imm_inv
    cases x with
    | ref a0 =>
      refine oc_el h fun xs h e => ?_
      obtain ⟨ob, vs, m, hB, hc, hd, H⟩ := C.ext _ _ e
      exact cutN_ok R ⟨ob, R.base _ _ hB, hc, m, hd⟩ (H ρ st.length s.heap) hl hh h k
    | _ => exact no_el h
  | _ => exact no_el h
end
end Uq
end

section
open PySem PySem.Calls PyProof.Rows
namespace Uq

section
variable {prog : Program} {w : World} {B : Addr → Option Obj} {pins : List (Nat × Addr)} {n : Nat} {mg mb : Str → Option Value} {cx : Cx} {A : Around} {ρ : Nat → Addr} {st st' st1 st2 st3 : Hp} {s : Shared} {env : Env} {loc : Loc}

theorem Ext.up {ρ' : Nat → Addr} {n' : Nat} {s' : Shared} (R : Rel B pins ρ st s.heap) (X : Ext ρ st.length noF s ρ' n' s') {v : V} {u : Value} (H : RV ρ st.length s.heap v u) : RV ρ' n' s'.heap v u :=
  H.mono X.rho X.le (X.tups R fun b hb => hb.elim)
theorem Ext.ups {ρ' : Nat → Addr} {n' : Nat} {s' : Shared} (R : Rel B pins ρ st s.heap) (X : Ext ρ st.length noF s ρ' n' s') {v : List V} {u : List Value} (H : RVs ρ st.length s.heap v u) : RVs ρ' n' s'.heap v u :=
  H.mono X.rho X.le (X.tups R fun b hb => hb.elim)

/-- one step, then a step with its value -/
theorem Does.then {t T : Sem Value} {k : Value → Sem Value} {a v : V} (R : Rel B pins ρ st s.heap) (h1 : Does prog w B pins A t ρ st s a st1)
    (h2 : ∀ ρ1 s1 x, Rel B pins ρ1 st1 s1.heap → Ext ρ st.length noF s ρ1 st1.length s1 → RV ρ1 st1.length s1.heap a x → Does prog w B pins A (k x) ρ1 st1 s1 v st2)
    (hT : ∀ Q E, wpAny (model prog w) A t (fun x s1 => wpAny (model prog w) A (k x) Q E s1) E s → wpAny (model prog w) A T Q E s) : Does prog w B pins A T ρ st s v st2 := fun Q E q =>
  hT Q E (h1 _ E fun ρ1 s1 x R1 X1 V1 => h2 ρ1 s1 x R1 X1 V1 Q E fun ρ2 s2 u R2 X2 V2 => q ρ2 s2 u R2 (X1.trans X2) V2)
/-- two steps, then one with both values -/
theorem Does.then2 {t t' T : Sem Value} {k : Value → Value → Sem Value} {a b v : V} (R : Rel B pins ρ st s.heap) (F : Frm ρ st.length s env loc) (h1 : Does prog w B pins A t ρ st s a st1)
    (h2 : ∀ ρ1 s1, Rel B pins ρ1 st1 s1.heap → Frm ρ1 st1.length s1 env loc → Does prog w B pins A t' ρ1 st1 s1 b st2)
    (h3 : ∀ ρ2 s2 x y, Rel B pins ρ2 st2 s2.heap → RV ρ2 st2.length s2.heap a x → RV ρ2 st2.length s2.heap b y → Does prog w B pins A (k x y) ρ2 st2 s2 v st3)
    (hT : ∀ Q E, wpAny (model prog w) A t (fun x s1 => wpAny (model prog w) A t' (fun y s2 => wpAny (model prog w) A (k x y) Q E s2) E s1) E s → wpAny (model prog w) A T Q E s) : Does prog w B pins A T ρ st s v st3 := fun Q E q =>
  hT Q E (h1 _ E fun ρ1 s1 x R1 X1 V1 => h2 ρ1 s1 R1 (F.keeps R rfl X1) _ E fun ρ2 s2 y R2 X2 V2 => h3 ρ2 s2 x y R2 (X2.up R1 V1) V2 Q E fun ρ3 s3 u R3 X3 V3 => q ρ3 s3 u R3 (X1.trans (X2.trans X3)) V3)

variable {ev : Cx → Loc → Hp → PySem.Expr → Option (V × Hp)} {tv : Cx → Loc → Hp → PySem.Expr → Option (Bool × Hp)}

theorem star_each (H : EvOK prog w B pins n mg mb ev) {e : PySem.Expr} {es : List PySem.Expr} {r : V × Hp} (h1 : ev cx loc st e = some r) : starEach (e :: es) env = (false, eval e env) :: starEach es env := by
  cases e <;> first | rfl | skip
  rw [H.1 cx loc st _ _] at h1; cases h1
theorem evs_ok (H : EvOK prog w B pins n mg mb ev) (C : CxOK prog w B pins n mg mb cx) (RA : Room n A) (EO : EnvOK B env) (hs : env.scope = cx.sc) {pos : Pos} :
    ∀ (es : List PySem.Expr) (st : Hp) (vs : List V) (st' : Hp), evs (ev cx) loc es st = some (vs, st') → ∀ ρ s, Rel B pins ρ st s.heap → Frm ρ st.length s env loc →
      DoesL prog w B pins A (spliced (backTo pos (starEach es env))) ρ st s vs st'
  | [], st, vs, st', h, ρ, s, R, F => sm2 (G := DoesL prog w B pins A (spliced (backTo pos (starEach [] env))) ρ st s) h fun Q E k => wpAny_items_nil (k ρ s [] R (Ext.refl ..) .nil)
  | e :: es, st, vs, st', h, ρ, s, R, F => ob_el h fun v st1 h h1 => ob_el h fun us st2 h h2 => sm2 (G := DoesL prog w B pins A (spliced (backTo pos (starEach (e :: es) env))) ρ st s) h fun Q E k =>
    wpAny_items_cons (H.2 cx C loc st e v st1 h1 A ρ s env RA EO hs R F _ E fun ρ1 s1 u R1 X1 V1 =>
      evs_ok H C RA EO hs es st1 us st2 h2 ρ1 s1 R1 (F.keeps R rfl X1) _ E fun ρ2 s2 w2 R2 X2 V2 => k ρ2 s2 (u :: w2) R2 (X1.trans X2) (.cons (X2.up R1 V1) V2)) (star_each H h1)

theorem evAll_ok (H : EvOK prog w B pins n mg mb ev) (C : CxOK prog w B pins n mg mb cx) (RA : Room n A) (EO : EnvOK B env) (hs : env.scope = cx.sc) {pos : Pos} :
    ∀ (ks : List Keyword) (st : Hp) (vs : List V) (st' : Hp), evs (ev cx) loc (ks.map (·.value)) st = some (vs, st') → ∀ ρ s, Rel B pins ρ st s.heap → Frm ρ st.length s env loc →
      DoesL prog w B pins A (evalAll ((backToKw pos (keywordEach ks env)).map (·.2))) ρ st s vs st'
  | [], st, vs, st', h, ρ, s, R, F => sm2 (G := DoesL prog w B pins A (evalAll ((backToKw pos (keywordEach [] env)).map fun (x : Option Str × Sem Value) => x.2)) ρ st s) h fun Q E k => wpAny_evalAll_nil (k ρ s [] R (Ext.refl ..) .nil)
  | ⟨nm, e, p⟩ :: es, st, vs, st', h, ρ, s, R, F => ob_el h fun v st1 h h1 => ob_el h fun us st2 h h2 => sm2 (G := DoesL prog w B pins A (evalAll ((backToKw pos (keywordEach (⟨nm, e, p⟩ :: es) env)).map fun (x : Option Str × Sem Value) => x.2)) ρ st s) h fun Q E k =>
    wpAny_evalAll_cons (x := do let v ← eval e env; standAt pos; pure v) (wpAny_bind (H.2 cx C loc st e v st1 h1 A ρ s env RA EO hs R F _ E fun ρ1 s1 u R1 X1 V1 => wpAny_bind (wpAny_standAt (wpAny_pure
      (evAll_ok (pos := pos) H C RA EO hs es st1 us st2 h2 ρ1 s1 R1 (F.keeps R rfl X1) _ E fun ρ2 s2 w2 R2 X2 V2 => k ρ2 s2 (u :: w2) R2 (X1.trans X2) (.cons (X2.up R1 V1) V2))))))

theorem evs_app {P : Prop} (f : EvT) (loc : Loc) : ∀ (es fs : List PySem.Expr) (st : Hp) (R : List V × Hp), evs f loc (es ++ fs) st = some R → (∀ as sta bs stb, evs f loc es st = some (as, sta) → evs f loc fs sta = some (bs, stb) → R = (as ++ bs, stb) → P) → P
  | [], fs, st, R, h, k => k [] st R.1 R.2 rfl h rfl
  | e :: es, fs, st, R, h, k => ob_el h fun v st1 h h1 => ob_el h fun vs st2 h h2 => evs_app f loc es fs st1 _ h2 fun as sta bs stb ha hb e1 => by
      obtain ⟨rfl, rfl⟩ := Prod.mk.inj e1
      exact k (v :: as) sta bs _ (by rw [evs, h1]; show ob _ _ = _; unfold ob; dsimp only; rw [ha]) hb (Option.some.inj h).symm
theorem evs_len (f : EvT) (loc : Loc) : ∀ (es : List PySem.Expr) (st : Hp) (R : List V × Hp), evs f loc es st = some R → R.1.length = es.length
  | [], st, R, h => Option.some.inj h ▸ rfl
  | e :: es, st, R, h => ob_el h fun v st1 h h1 => ob_el h fun vs st2 h h2 => Option.some.inj h ▸ congrArg (· + 1) (evs_len f loc es st1 _ h2)

theorem part_ok (H : EvOK prog w B pins n mg mb ev) (C : CxOK prog w B pins n mg mb cx) (RA : Room n A) (EO : EnvOK B env) (hs : env.scope = cx.sc) {e : Option PySem.Expr} {lo : Option Int} (h : evPart (ev cx) loc st e = some (lo, st')) (R : Rel B pins ρ st s.heap) (F : Frm ρ st.length s env loc)
    {Q E : Value → Shared → Prop} (k : ∀ ρ' s' u, Rel B pins ρ' st' s'.heap → Ext ρ st.length noF s ρ' st'.length s' → PartR lo u → Q u s') : wpAny (model prog w) A (evalPart e env) Q E s := by
  cases e with
  | none => exact sm2 (G := fun lo t => (∀ ρ' s' u, Rel B pins ρ' t s'.heap → Ext ρ st.length noF s ρ' t.length s' → PartR lo u → Q u s') → wpAny (model prog w) A (evalPart none env) Q E s) h (fun k => evalPart_none_step (k ρ s _ R (Ext.refl ..) ⟨none, rfl, rfl⟩)) k
  | some e =>
    refine ob_el h fun v st1 h h1 => om_el h fun i h e1 => sm2 (G := fun lo t => (∀ ρ' s' u, Rel B pins ρ' t s'.heap → Ext ρ st.length noF s ρ' t.length s' → PartR lo u → Q u s') → wpAny (model prog w) A (evalPart (some e) env) Q E s) h (fun k => ?_) k
    refine evalPart_some_step (H.2 cx C loc st e _ _ h1 A ρ s env RA EO hs R F _ E fun ρ1 s1 u R1 X1 V1 => k ρ1 s1 _ R1 X1 ?_)
    cases v with
    | int i =>
      obtain ⟨t, rfl⟩ := V1.int_inv
      exact sm1 (G := fun lo => PartR lo (.int i t)) e1 ⟨some (i, t), rfl, rfl⟩
    | none =>
      obtain rfl := V1.none_inv
      exact sm1 (G := fun lo => PartR lo .none) e1 ⟨none, rfl, rfl⟩
    | _ => exact no_el e1

theorem join_ok (H : EvOK prog w B pins n mg mb ev) (C : CxOK prog w B pins n mg mb cx) (RA : Room n A) (EO : EnvOK B env) (hs : env.scope = cx.sc) {E : Value → Shared → Prop} :
    ∀ (es : List PySem.Expr) (acc : Str) (st : Hp) (x : Str) (st' : Hp), evJoin (ev cx) loc es acc st = some (x, st') → ∀ ρ s (Q : Str → Shared → Prop), Rel B pins ρ st s.heap → Frm ρ st.length s env loc →
      (∀ ρ' s', Rel B pins ρ' st' s'.heap → Ext ρ st.length noF s ρ' st'.length s' → Q x s') → Joins (model prog w) A E (evalEach es env) acc Q s
  | [], acc, st, x, st', h, ρ, s, Q, R, F, k => sm2 (G := fun x t => (∀ ρ' s', Rel B pins ρ' t s'.heap → Ext ρ st.length noF s ρ' t.length s' → Q x s') → Joins (model prog w) A E (evalEach [] env) acc Q s) h (fun k => k ρ s R (Ext.refl ..)) k
  | e :: es, acc, st, x, st', h, ρ, s, Q, R, F, k => ob_el h fun y st1 h h1 => oi_el h fun h hz => by
    show wpAny (model prog w) A (eval e env) (fun v s₁ => ∃ y t, v = .str y t ∧ (acc ++ y).length ≤ sizeLine ∧ Joins (model prog w) A E (evalEach es env) (acc ++ y) Q s₁) E s
    have go : ∀ ρ1 s1 t, Rel B pins ρ1 st1 s1.heap → Ext ρ st.length noF s ρ1 st1.length s1 → ∃ y' t', (Value.str y t) = .str y' t' ∧ (acc ++ y').length ≤ sizeLine ∧ Joins (model prog w) A E (evalEach es env) (acc ++ y') Q s1 := fun ρ1 s1 t R1 X1 =>
      ⟨y, t, rfl, hz, join_ok H C RA EO hs es (acc ++ y) st1 x st' h ρ1 s1 Q R1 (F.keeps R rfl X1) fun ρ2 s2 R2 X2 => k ρ2 s2 R2 (X1.trans X2)⟩
    unfold joinPart at h1
    cases e1 : cstr e with
    | some z =>
      rw [e1] at h1
      obtain ⟨a, b⟩ := Prod.mk.inj (Option.some.inj h1)
      subst a b
      obtain ⟨k', p', rfl⟩ := cstr_el e1
      exact wpAny_Constant_str (go ρ _ _ R (Ext.same (fun _ _ e _ => e) rfl rfl (Nat.le_succ _)))
    | none =>
      rw [e1] at h1
      refine oc_el h1 fun e' h1 e2 => ob_el h1 fun v st1' h1 h2 => oc_el h1 fun y' h1 e3 => oi_el h1 fun h1 hy => ?_
      obtain ⟨a, b⟩ := Prod.mk.inj (Option.some.inj h1)
      subst a b
      obtain ⟨p', rfl⟩ := fmtOf_el e2
      refine wpAny_FormattedValue_plain (H.2 cx C loc st e' _ _ h2 A ρ s env RA EO hs R F _ E fun ρ1 s1 u R1 X1 V1 => ?_)
      obtain ⟨t, rfl⟩ := strOf_rv e3 V1
      exact wpAny_formatField_str (go ρ1 s1 t R1 X1) (go ρ1 _ _ R1 (X1.trans (Ext.same (fun _ _ e _ => e) rfl rfl (Nat.le_succ _)))) hy

theorem kw_facts {pos : Pos} : ∀ {ks : List Keyword} {kn : List Str}, kwNames ks = some kn → (backToKw pos (keywordEach ks env)).filterMap (·.1) = kn ∧ (backToKw pos (keywordEach ks env)).all (·.1.isSome) = true ∧ ks.length = kn.length ∧ (backToKw pos (keywordEach ks env)).any (·.1.isNone) = false
  | [], kn, h => Option.some.inj h ▸ ⟨rfl, rfl, rfl, rfl⟩
  | ⟨x, e, p⟩ :: ks, kn, h => oc_el h fun x' h e1 => om_el h fun kn' h q => by
    obtain rfl := Option.some.inj h
    have e1 : x = some x' := e1
    subst e1
    obtain ⟨a, b, c, d⟩ := kw_facts (pos := pos) q
    refine ⟨?_, ?_, congrArg (· + 1) c, ?_⟩
    · show x' :: (backToKw pos (keywordEach ks env)).filterMap (·.1) = _
      rw [a]
    · show (true && (backToKw pos (keywordEach ks env)).all (·.1.isSome)) = true
      rw [b]; rfl
    · show (false || (backToKw pos (keywordEach ks env)).any (·.1.isNone)) = false
      rw [d]; rfl

theorem plain_args (H : EvOK prog w B pins n mg mb ev) {pos : Pos} : ∀ {es : List PySem.Expr} {st : Hp} {r : List V × Hp}, evs (ev cx) loc es st = some r → (backTo pos (starEach es env)).any (·.1) = false ∧ (∀ e es', es = e :: es' → starEach es env = (false, eval e env) :: starEach es' env)
  | [], _, _, _ => ⟨rfl, fun _ _ h => by cases h⟩
  | e :: es, st, r, h => ob_el h fun v st1 h h1 => ob_el h fun us st2 h h2 => by
    have he := star_each (env := env) (es := es) H h1
    refine ⟨?_, fun e' es' q => by cases q; exact he⟩
    rw [he]
    show (false || (backTo pos (starEach es env)).any (·.1)) = false
    rw [(plain_args H (pos := pos) h2).1]; rfl

theorem callWith_k (H : EvOK prog w B pins n mg mb ev) (C : CxOK prog w B pins n mg mb cx) (RA : Room n A) (EO : EnvOK B env) (hs : env.scope = cx.sc) {pos : Pos} {f : Value} {first : List Value} {args : List PySem.Expr} {kws : List Keyword} {kn : List Str} {vs : List V} 
    (hk : KeepOK prog w B f) (hn : kwNames kws = some kn) (h : evs (ev cx) loc (args ++ kws.map (·.value)) st = some (vs, st1)) (R : Rel B pins ρ st s.heap) (F : Frm ρ st.length s env loc)
    {Q : Value → Shared → Prop} {E : Value → Shared → Prop} (hc : ∀ ρ1 s1 us ks, Rel B pins ρ1 st1 s1.heap → Ext ρ st.length noF s ρ1 st1.length s1 → RVs ρ1 st1.length s1.heap vs (us ++ ks) → ks.length = kn.length → wpAny (model prog w) A (call f (first ++ us) (kn.zip ks)) Q E s1) :
    wpAny (model prog w) A (callWith pos f first (backTo pos (starEach args env)) (backToKw pos (keywordEach kws env))) Q E s := by
  refine evs_app _ _ args (kws.map (·.value)) st _ h fun as sta bs stb ha hb e0 => ?_
  obtain ⟨rfl, rfl⟩ := Prod.mk.inj e0
  obtain ⟨k1, k2, k3, k4⟩ := kw_facts (env := env) (pos := pos) hn
  obtain ⟨p1, p2⟩ := plain_args (env := env) (pos := pos) H ha
  have bl : bs.length = kws.length := (evs_len _ _ _ _ _ hb).trans (List.length_map _)
  refine PySem.W.callWith_of (P := fun h => ∀ b o, B b = some o → h.get? b = some o) (by rw [p1, k4]; rfl) (fun h hB => hk h hB) ?_
  have fin : ∀ (us : List Value) (ρ1 : Nat → Addr) (s1 : Shared), Rel B pins ρ1 sta s1.heap → Ext ρ st.length noF s ρ1 sta.length s1 → RVs ρ1 sta.length s1.heap as us →
      wpAny (model prog w) A (evalAll ((backToKw pos (keywordEach kws env)).map (·.2))) (fun ks s₂ => (∀ b o, B b = some o → s₂.heap.get? b = some o) ∧ wpAny (model prog w) A (call f (first ++ us) (((backToKw pos (keywordEach kws env)).filterMap (·.1)).zip ks)) Q E s₂) E s1 := fun us ρ1 s1 R1 X1 V1 =>
    evAll_ok H C RA EO hs kws sta bs st1 hb ρ1 s1 R1 (F.keeps R rfl X1) _ E fun ρ2 s2 ks R2 X2 V2 => ⟨R2.base, by
      rw [k1]
      exact hc ρ2 s2 us ks R2 (X1.trans X2) ((X2.ups R1 V1).append V2) (by rw [← V2.length, bl, k3])⟩
  cases args with
  | nil =>
    obtain ⟨ea, es⟩ := Prod.mk.inj (Option.some.inj ha)
    subst ea es
    exact evalArgs_kw_nil k2 (by
      have := fin [] ρ s R (Ext.refl ..) .nil
      exact this)
  | cons e es =>
    have he := p2 e es rfl
    have hE : backTo pos (starEach (e :: es) env) = (false, eval e env) :: backTo pos (starEach es env) := by rw [he]; rfl
    rw [hE]
    refine evalArgs_kw k2 ?_
    rw [← hE]
    exact evs_ok H C RA EO hs (e :: es) st as sta ha ρ s R F _ E fun ρ1 s1 us R1 X1 V1 => fin us ρ1 s1 R1 X1 V1

theorem callWith_ok (H : EvOK prog w B pins n mg mb ev) (C : CxOK prog w B pins n mg mb cx) (RA : Room n A) (EO : EnvOK B env) (hs : env.scope = cx.sc) {pos : Pos} {f : Value} {first : List Value} {args : List PySem.Expr} {kws : List Keyword} {kn : List Str} {vs : List V} {v : V}
    (hk : KeepOK prog w B f) (hn : kwNames kws = some kn) (h : evs (ev cx) loc (args ++ kws.map (·.value)) st = some (vs, st1)) (R : Rel B pins ρ st s.heap) (F : Frm ρ st.length s env loc)
    (hc : ∀ ρ1 s1 us ks, Rel B pins ρ1 st1 s1.heap → Ext ρ st.length noF s ρ1 st1.length s1 → RVs ρ1 st1.length s1.heap vs (us ++ ks) → ks.length = kn.length → Does prog w B pins A (call f (first ++ us) (kn.zip ks)) ρ1 st1 s1 v st2) :
    Does prog w B pins A (callWith pos f first (backTo pos (starEach args env)) (backToKw pos (keywordEach kws env))) ρ st s v st2 :=
  fun Q E k => callWith_k H C RA EO hs hk hn h R F fun ρ1 s1 us ks R1 X1 V1 hl => hc ρ1 s1 us ks R1 X1 V1 hl Q E fun ρ3 s3 u R3 X3 V3 => k ρ3 s3 u R3 (X1.trans X3) V3
end
end Uq
end

section
open PySem PySem.Calls PyProof.Rows
namespace Uq

section
variable {prog : Program} {w : World} {B : Addr → Option Obj} {pins : List (Nat × Addr)} {n : Nat} {mg mb : Str → Option Value} {cx : Cx} {A : Around} {ρ : Nat → Addr} {st st' st1 st2 st3 : Hp} {s : Shared} {env : Env} {loc : Loc}
variable {r : Lv}

theorem base_plain {o : PySem.Expr} {m : Str} {whole : Sem Value} (h : plainBase o = true) : attributeBase o m env whole = whole := by
  cases o <;> first | rfl | skip
  rename_i f args kws p
  cases f <;> first | rfl | skip
  cases args <;> first | rfl | skip
  cases kws <;> first | rfl | skip
  cases h

theorem keep_append : KeepOK prog w B (.builtin "list.append") := fun _ _ => ⟨.machine, .inr (.inl rfl), PySem.W.Looks.of_pure rfl⟩

theorem append_ok (R : Rel B pins ρ st s.heap) {k : Nat} {xs : List V} {v : V} {u : Value} (hk : k < st.length) (hx : st[k]? = some xs) (hz : xs.length ≤ sizeLine) (hv : RV ρ st.length s.heap v u) :
    Does prog w B pins A (call (.builtin "list.append") [.ref (ρ k), u]) ρ st s .none (st.set k (xs ++ [v])) := by
  obtain ⟨vs, hl, H⟩ := R.cell k xs hx
  intro Q E q
  refine wpAny_list_append_plain hl (fun h' hl' hs => ?_) (by rw [List.size_toArray, ← H.length]; exact hz)
  have e : vs.toArray.push u = (vs ++ [u]).toArray := by simp
  rw [e] at hl'
  have X : Ext ρ st.length noF s ρ (st.set k (xs ++ [v])).length { s with heap := h' } := by
    rw [List.length_set]; exact Ext.set R hk hs rfl rfl (Nat.le_refl _)
  exact q ρ { s with heap := h' } .none (R.set hk hs hl' (H.append (.cons hv .nil))) X .none

theorem meth_open {o : PySem.Expr} {m : Str} {ap pos : Pos} {args : List PySem.Expr} {kws : List Keyword} (hb : plainBase o = true) (hline : ap.endLine = pos.line)
    (hform : methodCallForm (args.length + kws.length) (backTo pos (starEach args env)) (backToKw pos (keywordEach kws env)) = true) (Q E : Value → Shared → Prop)
    (h : wpAny (model prog w) A (eval o env) (fun x s1 => wpAny (model prog w) A (getMethod x m (do return (← importBound o env).getD true)) (fun p s2 => wpAny (model prog w) A (callWith pos p.1 p.2 (backTo pos (starEach args env)) (backToKw pos (keywordEach kws env))) Q E s2) E s1) E s) :
    wpAny (model prog w) A (eval (.Call (.Attribute o m ap) args kws pos) env) Q E s := by
  have hpos : methodCallPos true o env ap pos = pure pos := by unfold methodCallPos; simp [hline]
  rw [arm_eval_Call, base_plain hb]
  refine wpAny_bind (wpAny_mono h (fun x s1 h1 => wpAny_bind (wpAny_standAt ?_)) fun _ _ e => e)
  unfold methodCall
  rw [hform]
  exact wpAny_bind (wpAny_holding (wpAny_mono h1 (fun p s2 h2 => wpAny_bind (wpAny_of_eq hpos h2)) fun _ _ e => e))

theorem repl_ok (hr : EvOK prog w B pins n mg mb r.ev) (C : CxOK prog w B pins n mg mb cx) (RA : Room n A) (EO : EnvOK B env) (hs : env.scope = cx.sc) {o : PySem.Expr} {ap pos p1 p2 : Pos} {y z : Str} {k1 k2 : Nat} {v u : V}
    (hb : plainBase o = true) (hline : ap.endLine = pos.line) (R : Rel B pins ρ st s.heap) (F : Frm ρ st.length s env loc) (h1 : r.ev cx loc st o = some (v, st1)) (h2 : replV y z v = some u) :
    Does prog w B pins A (eval (.Call (.Attribute o "replace" ap) [.Constant (.str y) k1 p1, .Constant (.str z) k2 p2] [] pos) env) ρ st s u st1 := by
  refine oc_el h2 fun x h2 e => oi_el h2 fun h2 hyz => sm1 (G := fun u => Does prog w B pins A (eval (.Call (.Attribute o "replace" ap) [.Constant (.str y) k1 p1, .Constant (.str z) k2 p2] [] pos) env) ρ st s u st1) h2 fun Q E q => ?_
  refine meth_open hb hline (by rfl) Q E (hr.2 cx C loc st o _ st1 h1 A ρ s env RA EO hs R F _ E fun ρ1 s1 xv R1 X1 V1 => ?_)
  obtain ⟨t, rfl⟩ := strOf_rv e V1
  refine GM.replace ?_
  have tk := (F.keeps R rfl X1).tk
  refine PySem.W.callWith_of (P := fun _ => True) (by rfl) (fun h _ => ⟨.machine, .inr (.inl rfl), PySem.W.Looks.of_pure (by rfl)⟩) ?_
  refine evalArgs_kw (by rfl) ?_
  refine wpAny_items_cons (wpAny_Constant_str (wpAny_items_cons (wpAny_Constant_str (wpAny_items_nil ?_)) rfl)) rfl
  refine wpAny_evalAll_nil ?_
  refine ⟨trivial, ?_⟩
  refine wpAny_with_toks (Nat.le_refl _) ?_
  refine SC.replace (Nat.pos_iff_ne_zero.mp tk) (Nat.succ_ne_zero _) (Nat.ne_of_lt (Nat.lt_succ_self _)) hyz.1 hyz.2 fun t' k hle => ?_
  exact q ρ1 _ _ R1 (X1.trans (Ext.same (fun _ _ e _ => e) rfl rfl (Nat.le_trans (Nat.le_add_right _ 2) hle))) (.str _ _)

theorem kwNames_nil {kws : List Keyword} (h : kwNames kws = some []) : kws = [] := by
  match kws, h with
  | [], _ => rfl
  | ⟨none, _, _⟩ :: _, h => cases h
  | ⟨some x, _, _⟩ :: ks, h => exact om_el (x := kwNames ks) h fun l h _ => by cases h
theorem meth_form (hr : EvOK prog w B pins n mg mb r.ev) {pos : Pos} {args : List PySem.Expr} {kws : List Keyword} {kn : List Str} {vs : List V}
    (hfew : args.length + kws.length + 1 < 30) (h2 : kwNames kws = some kn) (h3 : evs (r.ev cx) loc (args ++ kws.map (·.value)) st1 = some (vs, st2)) :
    methodCallForm (args.length + kws.length) (backTo pos (starEach args env)) (backToKw pos (keywordEach kws env)) = true := by
  obtain ⟨k1, k2, k3, k4⟩ := kw_facts (env := env) (pos := pos) h2
  have hargs : (backTo pos (starEach args env)).any (·.1) = false := by
    exact evs_app _ _ args (kws.map (·.value)) st1 _ h3 fun as sta bs stb ha _ _ => (plain_args (env := env) (pos := pos) hr ha).1
  unfold methodCallForm
  rw [k2]
  have e1 : (backTo pos (starEach args env)).all (fun x => !x.1) = true := by
    rw [List.all_eq_true]
    intro x hx
    have := List.any_eq_false.mp hargs x hx
    simpa using this
  rw [e1]
  have e2 : (args.length + kws.length + (if (backToKw pos (keywordEach kws env)).isEmpty = true then 0 else 1)) < 30 := by split <;> omega
  simpa using e2

theorem meth_ok (C : CxOK prog w B pins n mg mb cx) (hr : EvOK prog w B pins n mg mb r.ev) (RA : Room n A) (EO : EnvOK B env) (hs : env.scope = cx.sc) {o : PySem.Expr} {m : Str} {ap pos : Pos} {args : List PySem.Expr} {kws : List Keyword} {kn : List Str} {ov v : V} {vs : List V}
    (hb : plainBase o = true) (hfew : args.length + kws.length + 1 < 30) (hline : ap.endLine = pos.line) (R : Rel B pins ρ st s.heap) (F : Frm ρ st.length s env loc)
    (h1 : r.ev cx loc st o = some (ov, st1)) (h2 : kwNames kws = some kn) (h3 : evs (r.ev cx) loc (args ++ kws.map (·.value)) st1 = some (vs, st2)) (h4 : methV cx ov m kn vs st2 = some (v, st3)) :
    Does prog w B pins A (eval (.Call (.Attribute o m ap) args kws pos) env) ρ st s v st3 :=
  fun Q E q => meth_open hb hline (meth_form hr hfew h2 h3) Q E (hr.2 cx C loc st o ov st1 h1 A ρ s env RA EO hs R F _ E fun ρ1 s1 x R1 X1 V1 => by
    have F1 := F.keeps R rfl X1
    cases ov with
    | str y =>
      obtain ⟨t, rfl⟩ := V1.str_inv
      refine arg0_el h4 fun h4 e => ?_
      subst e
      obtain rfl := kwNames_nil h2
      refine (C.smeth _ _ _ _ _ _ h4 t).elim fun f H => H.elim fun first H => H.2.1 A s1 _ _ E ?_
      exact callWith_ok hr C RA EO hs H.1 h2 h3 R1 F1 (fun ρ2 s2 us ks R2 X2 V2 hl => by
        obtain rfl := List.eq_nil_of_length_eq_zero hl
        rw [List.append_nil] at V2
        exact H.2.2 A ρ2 s2 us RA (Nat.lt_of_lt_of_le F1.tk X2.tk) R2 V2) Q E fun ρ3 s3 u R3 X3 V3 => q ρ3 s3 u R3 (X1.trans X3) V3
    | imm u =>
      obtain rfl := V1.imm_inv
      cases x with
      | ref a =>
        refine oc_el h4 fun spec h4 hsp => (C.meth _ _ _ _ hsp).elim fun f H => H.elim fun first H => H.2.1 A s1 _ _ E R1.base fun tk htk => ?_
        have Xt : Ext ρ1 st1.length noF s1 ρ1 st1.length { s1 with toks := tk } := Ext.same (fun _ _ e _ => e) rfl rfl htk
        have Ft := F1.keeps R1 rfl Xt
        exact callWith_ok (s := { s1 with toks := tk }) hr C RA EO hs H.1 h2 h3 R1 Ft (fun ρ2 s2 us ks R2 X2 V2 hl => H.2.2 _ _ _ _ h4 A ρ2 s2 us ks RA (Nat.lt_of_lt_of_le Ft.tk X2.tk) R2 V2 hl) Q E fun ρ3 s3 u R3 X3 V3 => q ρ3 s3 u R3 (X1.trans (Xt.trans X3)) V3
      | _ => exact no_el h4
    | lst k =>
      obtain ⟨rfl, hk⟩ := V1.lst_inv
      refine arg0_el h4 fun h4 e => ou_el h4 fun h4 hm => two2_el h4 fun v' h4 e2 => oc_el h4 fun xs h4 hx => oi_el h4 fun h5 hz => ?_
      subst e e2
      obtain rfl := of_decide_eq_true hm
      refine sm2 (G := fun v st3 => (∀ ρ' s' u, Rel B pins ρ' st3 s'.heap → Ext ρ st.length noF s ρ' st3.length s' → RV ρ' st3.length s'.heap v u → Q u s') → wpAny (model prog w) A (getMethod (.ref (ρ1 k)) "append" _) _ E s1) h5 (fun q => ?_) q
      obtain ⟨vs1, ⟨m1, hl⟩, _⟩ := R1.cell k _ (List.getElem?_eq_getElem hk)
      refine Calls.getMethod_list_append hl rfl rfl ?_
      exact callWith_ok hr C RA EO hs keep_append h2 h3 R1 F1 (fun ρ2 s2 us ks R2 X2 V2 hl2 => by
        obtain rfl := List.eq_nil_of_length_eq_zero hl2
        rw [List.append_nil] at V2
        obtain ⟨u, us, rfl, a, b⟩ := V2.cons_inv
        obtain rfl := b.nil_inv
        have := append_ok (prog := prog) (w := w) (A := A) R2 (List.getElem?_eq_some_iff.mp hx).1 hx hz a
        rwa [X2.rho k hk] at this) Q E fun ρ3 s3 u R3 X3 V3 => q ρ3 s3 u R3 (X1.trans X3) V3
    | _ => exact no_el h4)
end
end Uq
end

section
open PySem PySem.Calls PyProof.Rows
namespace Uq

section
variable {prog : Program} {w : World} {B : Addr → Option Obj} {pins : List (Nat × Addr)} {n : Nat} {mg mb : Str → Option Value} {cx : Cx} {A : Around} {ρ : Nat → Addr} {st st' st1 st2 st3 : Hp} {s : Shared} {env : Env} {loc : Loc}
variable {r : Lv}

theorem list_ok (C : CxOK prog w B pins n mg mb cx) (hr : EvOK prog w B pins n mg mb r.ev) (RA : Room n A) (EO : EnvOK B env) (hs : env.scope = cx.sc) (R : Rel B pins ρ st s.heap) (F : Frm ρ st.length s env loc)
    {es : List PySem.Expr} {p : Pos} {vs : List V} (h : evs (r.ev cx) loc es st = some (vs, st1)) (hz : vs.length ≤ sizeLine) : Does prog w B pins A (eval (.List es p) env) ρ st s (.lst st1.length) (st1 ++ [vs]) := fun Q E k => by
  refine wpAny_List (evs_ok hr C RA EO hs es st vs st1 h ρ s R F _ E fun ρ1 s1 us R1 X1 V1 => ⟨by rw [← V1.length]; exact hz, ?_⟩)
  exact Does.new_list R1 (Nat.le_refl _) (fun b o e => Heap.get?_push_of_some _ e) ⟨_, Heap.get?_push_size _ rfl⟩ V1 (fun ρ' s' u R' X' V' => k ρ' s' u R' (X1.trans X') V') s1.toks (Nat.le_refl _)

theorem tuple_made {Q : Value → Shared → Prop} (R : Rel B pins ρ st s.heap) {vs : List V} {us : List Value} (V1 : RVs ρ st.length s.heap vs us)
    (k : ∀ ρ' s' u, Rel B pins ρ' st s'.heap → Ext ρ st.length noF s ρ' st.length s' → RV ρ' st.length s'.heap (.tup vs) u → Q u s') : Q (.ref s.heap.objs.size) { s with heap := s.heap.push { cls := .type "tuple", data := .seq us.toArray } } := by
  have K : ∀ b o, s.heap.get? b = some o → (s.heap.push { cls := .type "tuple", data := .seq us.toArray }).get? b = some o := fun b o e => Heap.get?_push_of_some _ e
  exact k ρ _ _ (R.keeps K) (Ext.same (fun b o e _ => K b o e) rfl rfl (Nat.le_refl _)) (.tup _ _ us ⟨_, Heap.get?_push_size _ rfl, rfl, _, rfl⟩ (V1.mono (fun _ _ => rfl) (Nat.le_refl _) fun b o e _ => K b o e))

theorem eval_Call_plain {f : PySem.Expr} {args : List PySem.Expr} {pos : Pos} (hf : ∀ o m p, f ≠ .Attribute o m p) : eval (.Call f args [] pos) env = (do callWith pos (← eval f env) [] (backTo pos (starEach args env)) (backToKw pos (keywordEach [] env))) := by
  cases f <;> first | rfl | skip
  rename_i o m p
  exact absurd rfl (hf o m p)

/-- all that an expression's step may lean on -/
structure HE (prog : Program) (w : World) (B : Addr → Option Obj) (pins : List (Nat × Addr)) (n : Nat) (mg mb : Str → Option Value) (r : Lv) (cx : Cx) (A : Around) (ρ : Nat → Addr) (st : Hp) (s : Shared) (env : Env) (loc : Loc) : Prop where
  hr : EvOK prog w B pins n mg mb r.ev
  ht : TvOK prog w B pins n mg mb r.tv
  C : CxOK prog w B pins n mg mb cx
  RA : Room n A
  EO : EnvOK B env
  hs : env.scope = cx.sc
  R : Rel B pins ρ st s.heap
  F : Frm ρ st.length s env loc

variable {v : V} {e : PySem.Expr} {p : Pos}
theorem HE.ev (H : HE prog w B pins n mg mb r cx A ρ st s env loc) (h : r.ev cx loc st e = some (v, st')) : Does prog w B pins A (eval e env) ρ st s v st' :=
  H.hr.2 cx H.C loc st e v st' h A ρ s env H.RA H.EO H.hs H.R H.F
theorem HE.tv (H : HE prog w B pins n mg mb r cx A ρ st s env loc) {b : Bool} (h : r.tv cx loc st e = some (b, st')) : DoesB prog w B pins A (isTrue e env (eval e env)) ρ st s b st' :=
  H.ht cx H.C loc st e b st' h A ρ s env H.RA H.EO H.hs H.R H.F
theorem HE.next (H : HE prog w B pins n mg mb r cx A ρ st s env loc) {ρ1 : Nat → Addr} {s1 : Shared} (R1 : Rel B pins ρ1 st1 s1.heap) (X1 : Ext ρ st.length noF s ρ1 st1.length s1) : HE prog w B pins n mg mb r cx A ρ1 st1 s1 env loc :=
  ⟨H.hr, H.ht, H.C, H.RA, H.EO, H.hs, R1, H.F.keeps H.R rfl X1⟩

theorem e_name {x : Str} (H : HE prog w B pins n mg mb r cx A ρ st s env loc) (h : nextEv r cx loc st (.Name x p) = some (v, st')) : Does prog w B pins A (eval (.Name x p) env) ρ st s v st' := by
  change (match decide (x = ("__debug__" : Str)) with | true => some (V.bool true, st) | false => (nameV cx loc x).map fun v => (v, st)) = _ at h
  cases hd : decide (x = ("__debug__" : Str)) with
  | true =>
    rw [hd] at h
    refine sm2 (G := Does prog w B pins A (eval (.Name x p) env) ρ st s) h (Does.bool H.R fun Q E k => ?_)
    have hd : x = "__debug__" := of_decide_eq_true hd
    subst hd
    show wpAny (model prog w) A debugConstant Q E s
    unfold debugConstant
    exact wpAny_bind (wpAny_rule (wpAny_pure k))
  | false =>
    rw [hd] at h
    exact om_el h fun u h q => sm2 (G := Does prog w B pins A (eval (.Name x p) env) ρ st s) h (name_ok H.C H.EO H.hs H.R H.F q hd)
theorem e_const {c : Const} {k : Nat} (H : HE prog w B pins n mg mb r cx A ρ st s env loc) (h : ((constV c).map fun v => (v, st)) = some (v, st')) : Does prog w B pins A (eval (.Constant c k p) env) ρ st s v st' :=
  om_el h fun u h q => sm2 (G := Does prog w B pins A (eval (.Constant c k p) env) ρ st s) h (const_ok H.R q)
theorem e_bin {l rr : PySem.Expr} {op : Operator} (H : HE prog w B pins n mg mb r cx A ρ st s env loc) (h : (ob (r.ev cx loc st l) fun a st1 => ob (r.ev cx loc st1 rr) fun b st2 => binV op a b st2) = some (v, st')) :
    Does prog w B pins A (eval (.BinOp l op rr p) env) ρ st s v st' :=
  ob_el h fun a st1 h h1 => ob_el h fun b st2 h h2 => Does.then2 H.R H.F (H.ev h1) (fun ρ1 s1 R1 F1 => H.hr.2 cx H.C loc st1 rr b st2 h2 A ρ1 s1 env H.RA H.EO H.hs R1 F1)
    (fun ρ2 s2 x y R2 V1 V2 => bin_ok R2 V1 V2 h) fun Q E k => wpAny_BinOp k
theorem e_cmp {l : PySem.Expr} {ops : List CmpOp} {rrs : List PySem.Expr} (H : HE prog w B pins n mg mb r cx A ρ st s env loc)
    (h : (two2 ops fun op => two2 rrs fun rr => ob (r.ev cx loc st l) fun a st1 => ob (r.ev cx loc st1 rr) fun b st2 => ot (behindInMarks op rr) ((cmpV op a b st2).map fun c => (V.bool c, st2))) = some (v, st')) :
    Does prog w B pins A (eval (.Compare l ops rrs p) env) ρ st s v st' :=
  two2_el h fun op h e1 => two2_el h fun rr h e2 => ob_el h fun a st1 h h1 => ob_el h fun b st2 h h2 => ot_el h fun h hb => om_el h fun c h q => sm2 (G := Does prog w B pins A (eval (.Compare l ops rrs p) env) ρ st s) h (by
    rw [e1, e2]
    exact Does.then2 H.R H.F (H.ev h1) (fun ρ1 s1 R1 F1 => H.hr.2 cx H.C loc st1 rr b _ h2 A ρ1 s1 env H.RA H.EO H.hs R1 F1)
      (fun ρ2 s2 x y R2 V1 V2 => cmp_ok R2 H.RA.units V1 V2 q) fun Q E k => wpAny_Compare1 k hb)
theorem e_if {t b e : PySem.Expr} (H : HE prog w B pins n mg mb r cx A ρ st s env loc) (h : oif (r.tv cx loc st t) (fun st1 => r.ev cx loc st1 b) (fun st1 => r.ev cx loc st1 e) = some (v, st')) :
    Does prog w B pins A (eval (.IfExp t b e p) env) ρ st s v st' :=
  oif_el h fun c st1 h h1 Q E k => wpAny_IfExp (H.tv h1 _ E fun ρ1 s1 R1 X1 => by
    cases c with
    | true => exact (H.next R1 X1).ev (e := b) h Q E fun ρ2 s2 u R2 X2 V2 => k ρ2 s2 u R2 (X1.trans X2) V2
    | false => exact (H.next R1 X1).ev (e := e) h Q E fun ρ2 s2 u R2 X2 V2 => k ρ2 s2 u R2 (X1.trans X2) V2)
theorem e_list {es : List PySem.Expr} (H : HE prog w B pins n mg mb r cx A ρ st s env loc) (h : (ob (evs (r.ev cx) loc es st) fun vs st1 => if vs.length ≤ sizeLine then some (V.lst st1.length, st1 ++ [vs]) else none) = some (v, st')) :
    Does prog w B pins A (eval (.List es p) env) ρ st s v st' :=
  ob_el h fun vs st1 h h1 => oi_el h fun h hz => sm2 (G := Does prog w B pins A (eval (.List es p) env) ρ st s) h (list_ok H.C H.hr H.RA H.EO H.hs H.R H.F h1 hz)
theorem e_tuple {es : List PySem.Expr} {k : Nat} (H : HE prog w B pins n mg mb r cx A ρ st s env loc) (h : (ob (evs (r.ev cx) loc es st) fun vs st1 => if vs.length ≤ sizeLine then some (V.tup vs, st1) else none) = some (v, st')) :
    Does prog w B pins A (eval (.Tuple es k p) env) ρ st s v st' :=
  ob_el h fun vs st1 h h1 => oi_el h fun h hz => sm2 (G := Does prog w B pins A (eval (.Tuple es k p) env) ρ st s) h
    fun Q E k => wpAny_Tuple (evs_ok H.hr H.C H.RA H.EO H.hs es st vs _ h1 ρ s H.R H.F _ E fun ρ1 s1 us R1 X1 V1 => ⟨V1.length ▸ hz, tuple_made R1 V1 fun ρ' s' u R' X' V' => k ρ' s' u R' (X1.trans X') V'⟩)
theorem e_join {v1 v2 : PySem.Expr} {rest : List PySem.Expr} (H : HE prog w B pins n mg mb r cx A ρ st s env loc)
    (h : (ob (evJoin (r.ev cx) loc (v1 :: v2 :: rest) Str.empty st) fun x st1 => if x.length ≤ sizeLine then some (V.str x, st1) else none) = some (v, st')) :
    Does prog w B pins A (eval (.JoinedStr (v1 :: v2 :: rest) p) env) ρ st s v st' :=
  ob_el h fun x st1 h h1 => oi_el h fun h hz => sm2 (G := Does prog w B pins A (eval (.JoinedStr (v1 :: v2 :: rest) p) env) ρ st s) h
    fun Q E k => wpAny_JoinedStr (join_ok H.hr H.C H.RA H.EO H.hs _ _ st x _ h1 ρ s _ H.R H.F fun ρ1 s1 R1 X1 => ⟨hz, k ρ1 _ _ R1 (X1.trans (Ext.same (fun _ _ e _ => e) rfl rfl (Nat.le_succ _))) (.str _ _)⟩)
theorem e_slice {o : PySem.Expr} {lo hi : Option PySem.Expr} {sp : Pos} (H : HE prog w B pins n mg mb r cx A ρ st s env loc)
    (h : (ob (r.ev cx loc st o) fun v st1 => ob (evPart (r.ev cx) loc st1 lo) fun l st2 => ob (evPart (r.ev cx) loc st2 hi) fun h st3 => slcX cx v l h st3) = some (v, st')) :
    Does prog w B pins A (eval (.Subscript o (.Slice lo hi none sp) p) env) ρ st s v st' :=
  ob_el h fun a st1 h h1 => ob_el h fun l st2 h h2 => ob_el h fun u st3 h h3 Q E k => Subscript_ (H.ev h1 _ E fun ρ1 s1 x R1 X1 V1 => wpAny_Slice (part_ok H.hr H.C H.RA H.EO H.hs h2 R1 (H.next R1 X1).F fun ρ2 s2 ul R2 X2 P2 =>
    part_ok H.hr H.C H.RA H.EO H.hs h3 R2 ((H.next R1 X1).next R2 X2).F fun ρ3 s3 uh R3 X3 P3 => by
      rw [evalPart_none]
      exact wpAny_pure (slcX_ok H.C R3 ((X2.trans X3).up R1 V1) P2 P3 h fun ρ4 s4 u4 R4 X4 V4 => k ρ4 s4 u4 R4 (X1.trans (X2.trans (X3.trans X4))) V4)))
theorem e_sub {o i : PySem.Expr} (hns : ∀ l u p, i ≠ .Slice l u none p) (H : HE prog w B pins n mg mb r cx A ρ st s env loc)
    (h : (ob (r.ev cx loc st o) fun v st1 => ob (r.ev cx loc st1 i) fun j st2 => (subV v j st2).map fun u => (u, st2)) = some (v, st')) :
    Does prog w B pins A (eval (.Subscript o i p) env) ρ st s v st' :=
  ob_el h fun a st1 h h1 => ob_el h fun j st2 h h2 => om_el h fun u h q => sm2 (G := Does prog w B pins A (eval (.Subscript o i p) env) ρ st s) h
    (Does.then2 (k := fun x y => subscriptTail o i x y) H.R H.F (H.ev h1) (fun ρ1 s1 R1 F1 => H.hr.2 cx H.C loc st1 i j _ h2 A ρ1 s1 env H.RA H.EO H.hs R1 F1)
      (fun ρ2 s2 x y R2 V1 V2 => sub_ok R2 V1 V2 q fun l u p e => hns l u p e) fun Q E k => Subscript_ k)
theorem e_attr {o : PySem.Expr} {a : Str} (H : HE prog w B pins n mg mb r cx A ρ st s env loc) (h : ou (plainBase o) (evRef (r.ev cx loc st o) fun ad st1 => (cx.attr ad a).map fun v => (v, st1)) = some (v, st')) :
    Does prog w B pins A (eval (.Attribute o a p) env) ρ st s v st' :=
  ou_el h fun h hb => evRef_el h fun ad st1 h h1 => om_el h fun u h q => sm2 (G := Does prog w B pins A (eval (.Attribute o a p) env) ρ st s) h fun Q E k => by
    rw [arm_eval_Attribute, base_plain hb]
    refine wpAny_bind (H.ev h1 _ E fun ρ1 s1 x R1 X1 V1 => wpAny_bind (wpAny_standAt (wpAny_bind (wpAny_holding ?_))))
    obtain rfl := V1.imm_inv
    exact H.C.attr ad a _ q A ρ1 _ s1 H.RA (H.next R1 X1).F.tk R1 _ E fun ρ2 s2 u R2 X2 V2 => wpAny_bind (wpAny_letTemporaryGo (wpAny_pure (k ρ2 s2 u R2 (X1.trans X2) V2)))
theorem replArgs_el {P : Prop} {m y z : Str} {args : List PySem.Expr} {kws : List Keyword} (h : replArgs m args kws = some (y, z)) (k : ∀ j p j' p', m = "replace" → args = [.Constant (.str y) j p, .Constant (.str z) j' p'] → kws = [] → P) : P :=
  ou_el h fun h hm => arg0_el h fun h hk => by
    match args, h with
    | [a, b], h =>
      refine oc_el h fun y' h e1 => oc_el h fun z' h e2 => ?_
      obtain ⟨j, p, rfl⟩ := cstr_el e1
      obtain ⟨j', p', rfl⟩ := cstr_el e2
      exact sm2 (G := fun y z => (∀ j p j' p', m = "replace" → _ = [PySem.Expr.Constant (.str y) j p, .Constant (.str z) j' p'] → kws = [] → P) → P) h (fun k => k j p j' p' (of_decide_eq_true hm) rfl hk) k
    | [], h => exact no_el h
    | [_], h => exact no_el h
    | _ :: _ :: _ :: _, h => exact no_el h
theorem e_meth {o : PySem.Expr} {m : Str} {ap : Pos} {args : List PySem.Expr} {kws : List Keyword} (H : HE prog w B pins n mg mb r cx A ρ st s env loc)
    (h : ou (plainBase o && decide (args.length + kws.length + 1 < 30) && decide (ap.endLine = p.line)) (methK r cx loc st o m args kws) = some (v, st')) :
    Does prog w B pins A (eval (.Call (.Attribute o m ap) args kws p) env) ρ st s v st' :=
  ou_el h fun h hb => by
    obtain ⟨hb, hb3⟩ := Bool.and_eq_true_iff.mp hb
    obtain ⟨hb1, hb2⟩ := Bool.and_eq_true_iff.mp hb
    refine ob_el h fun ov st1 h h1 => ?_
    cases z : replArgs m args kws with
    | some yz =>
      rw [z] at h
      refine replArgs_el z fun j p1 j' p2 em ea ek => ?_
      subst em ea ek
      exact om_el h fun u h z => sm2 (G := Does prog w B pins A _ ρ st s) h (repl_ok H.hr H.C H.RA H.EO H.hs hb1 (of_decide_eq_true hb3) H.R H.F h1 z)
    | none =>
      rw [z] at h
      exact oc_el h fun kn h h2 => ob_el h fun vs st2 h h3 => meth_ok H.C H.hr H.RA H.EO H.hs hb1 (of_decide_eq_true hb2) (of_decide_eq_true hb3) H.R H.F h1 h2 h3 h
theorem callV_el {P : Prop} {fv : V} {vs : List V} {R : V × Hp} (h : callV cx fv vs st = some R) (k : ∀ f spec, spec vs st = some R → fv = .imm f → cx.fn f = some spec → P) : P := by
  unfold callV at h
  split at h
  · split at h
    · rename_i f _ spec e
      exact k f spec h rfl e
    · cases h
  · cases h
theorem e_call {f : PySem.Expr} {args : List PySem.Expr} (hf : ∀ o m p, f ≠ .Attribute o m p) (H : HE prog w B pins n mg mb r cx A ρ st s env loc)
    (h : (ob (r.ev cx loc st f) fun fv st1 => ob (evs (r.ev cx) loc args st1) fun vs st2 => callV cx fv vs st2) = some (v, st')) :
    Does prog w B pins A (eval (.Call f args [] p) env) ρ st s v st' :=
  ob_el h fun fv st1 h h1 => ob_el h fun vs st2 h h2 => callV_el h fun fu spec hv e1 hsp Q E k => by
    subst e1
    rw [eval_Call_plain hf]
    refine wpAny_bind (H.ev h1 _ E fun ρ1 s1 x R1 X1 V1 => ?_)
    obtain rfl := V1.imm_inv
    refine callWith_ok (kws := []) (kn := []) H.hr H.C H.RA H.EO H.hs (H.C.keep _ _ hsp) rfl (by rw [List.map_nil, List.append_nil]; exact h2) R1 (H.next R1 X1).F (fun ρ2 s2 us ks R2 X2 V2 hl => ?_) Q E fun ρ3 s3 u R3 X3 V3 => k ρ3 s3 u R3 (X1.trans X3) V3
    obtain rfl := List.eq_nil_of_length_eq_zero hl
    rw [List.append_nil] at V2
    exact H.C.fn _ _ hsp _ _ _ _ hv A ρ2 s2 us H.RA ((H.next R1 X1).next R2 X2).F.tk R2 V2

theorem e_subk {o i : PySem.Expr} (H : HE prog w B pins n mg mb r cx A ρ st s env loc) (h : subK r cx loc o st i = some (v, st')) : Does prog w B pins A (eval (.Subscript o i p) env) ρ st s v st' := by
  unfold subK at h
  cases e : sliceOf i with
  | some x =>
    rw [e] at h
    obtain ⟨q, rfl⟩ := sliceOf_el e
    exact e_slice H h
  | none =>
    rw [e] at h
    exact e_sub (fun l u p q => by rw [q] at e; cases e) H h
theorem e_callk {f : PySem.Expr} {args : List PySem.Expr} {kws : List Keyword} (H : HE prog w B pins n mg mb r cx A ρ st s env loc) (h : callK r cx loc st args kws p f = some (v, st')) : Does prog w B pins A (eval (.Call f args kws p) env) ρ st s v st' := by
  unfold callK at h
  cases e : attrOf f with
  | some x =>
    rw [e] at h
    rw [attrOf_el e]
    exact e_meth H h
  | none =>
    rw [e] at h
    exact arg0_el h fun h e2 => e2 ▸ e_call (fun o m p q => by rw [q] at e; cases e) H h

theorem nextEv_ok (hr : EvOK prog w B pins n mg mb r.ev) (ht : TvOK prog w B pins n mg mb r.tv)
    (hcomp : ∀ cx, CxOK prog w B pins n mg mb cx → ∀ loc st elt tgt iter ifs sc p v st', nextEv r cx loc st (.ListComp elt [⟨tgt, iter, ifs, 0⟩] sc p) = some (v, st') → ∀ A ρ s env, Room n A → EnvOK B env → env.scope = cx.sc → Rel B pins ρ st s.heap → Frm ρ st.length s env loc →
      Does prog w B pins A (eval (.ListComp elt [⟨tgt, iter, ifs, 0⟩] sc p) env) ρ st s v st') : EvOK prog w B pins n mg mb (nextEv r) := by
  refine ⟨fun cx loc st e p => rfl, fun cx C loc st e v st' h A ρ s env RA EO hs R F => ?_⟩
  have H : HE prog w B pins n mg mb r cx A ρ st s env loc := ⟨hr, ht, C, RA, EO, hs, R, F⟩
  cases e with
  | Name x p => exact e_name H h
  | Constant c k p => exact e_const H h
  | BinOp l op rr p => exact e_bin H h
  | Compare l ops rrs p => exact e_cmp H h
  | IfExp t b e p => exact e_if H h
  | List es p => exact e_list H h
  | Tuple es k p => exact e_tuple H h
  | JoinedStr es p =>
    cases es with
    | nil => exact no_el h
    | cons v1 es =>
      cases es with
      | nil => exact no_el h
      | cons v2 es => exact e_join H h
  | Subscript o i p => exact e_subk H h
  | Attribute o a p => exact e_attr H h
  | Call f args kws p => exact e_callk H h
  | ListComp elt gs sc p =>
    cases gs with
    | nil => exact no_el h
    | cons g gs =>
      cases gs with
      | cons => exact no_el h
      | nil =>
        obtain ⟨tgt, iter, ifs, k⟩ := g
        cases k with
        | ofNat k =>
          cases k with
          | zero => exact hcomp cx C loc st _ _ _ _ _ _ v st' h A ρ s env RA EO hs R F
          | succ => exact no_el h
        | negSucc => exact no_el h
  | _ => exact no_el h
end
end Uq
end

section
open PySem PySem.Calls PyProof.Rows
namespace Uq

section
variable {prog : Program} {w : World} {B : Addr → Option Obj} {pins : List (Nat × Addr)} {n : Nat} {mg mb : Str → Option Value} {cx : Cx} {A : Around} {ρ : Nat → Addr} {st st' st1 st2 st3 : Hp} {s : Shared} {env : Env} {loc : Loc}
variable {r : Lv} {tv : Cx → Loc → Hp → PySem.Expr → Option (Bool × Hp)}

theorem tvs_ok (H : TvOK prog w B pins n mg mb tv) (C : CxOK prog w B pins n mg mb cx) (RA : Room n A) (EO : EnvOK B env) (hs : env.scope = cx.sc) {op : BoolOp} {and : Bool} (hop : op = if and then .And else .Or) :
    ∀ (es : List PySem.Expr) (st : Hp) (b : Bool) (st' : Hp), tvs (tv cx) loc and es st = some (b, st') → ∀ ρ s, Rel B pins ρ st s.heap → Frm ρ st.length s env loc →
      DoesB prog w B pins A (allTrue op es env) ρ st s b st'
  | [], st, b, st', h, ρ, s, R, F => by
    cases h
    intro Q E k
    cases and with
    | true => subst hop; exact wpAny_allTrue_And_nil (k ρ s R (Ext.refl ..))
    | false => subst hop; exact wpAny_allTrue_Or_nil (k ρ s R (Ext.refl ..))
  | e :: es, st, b, st', h, ρ, s, R, F => by
    unfold tvs at h
    split at h
    · cases h
    · rename_i c st1 h1
      intro Q E k
      cases and with
      | true =>
        subst hop
        refine wpAny_allTrue_And_cons (H cx C loc st e c st1 h1 A ρ s env RA EO hs R F _ E fun ρ1 s1 R1 X1 => ?_)
        cases c with
        | false =>
          cases h
          rw [if_neg (by simp)]
          exact k ρ1 s1 R1 X1
        | true =>
          rw [if_pos rfl]
          exact tvs_ok H C RA EO hs (and := true) rfl es st1 b st' h ρ1 s1 R1 (F.keeps R rfl X1) _ E fun ρ2 s2 R2 X2 => k ρ2 s2 R2 (X1.trans X2)
      | false =>
        subst hop
        refine wpAny_allTrue_Or_cons (H cx C loc st e c st1 h1 A ρ s env RA EO hs R F _ E fun ρ1 s1 R1 X1 => ?_)
        cases c with
        | true =>
          cases h
          rw [if_pos rfl]
          exact k ρ1 s1 R1 X1
        | false =>
          rw [if_neg (by simp)]
          exact tvs_ok H C RA EO hs (and := false) rfl es st1 b st' h ρ1 s1 R1 (F.keeps R rfl X1) _ E fun ρ2 s2 R2 X2 => k ρ2 s2 R2 (X1.trans X2)

theorem value_true (hr : EvOK prog w B pins n mg mb r.ev) (C : CxOK prog w B pins n mg mb cx) (RA : Room n A) (EO : EnvOK B env) (hs : env.scope = cx.sc) (R : Rel B pins ρ st s.heap) (F : Frm ρ st.length s env loc) {e : PySem.Expr} {v : V} {b : Bool}
    (he : isTrue e env (eval e env) = (do let v ← eval e env; standAt e.pos; holding [v] (truthy v))) (h1 : r.ev cx loc st e = some (v, st1)) (h2 : truthV v st1 = some b) : DoesB prog w B pins A (isTrue e env (eval e env)) ρ st s b st1 := fun Q E k =>
  wpAny_isTrue_value (hr.2 cx C loc st e v st1 h1 A ρ s env RA EO hs R F _ E fun ρ1 s1 u R1 X1 V1 => truth_ok R1 V1 h2 Q E fun ρ2 s2 R2 X2 => k ρ2 s2 R2 (X1.trans X2)) he

theorem tv_val {e : PySem.Expr} {b : Bool} (H : HE prog w B pins n mg mb r cx A ρ st s env loc) (he : isTrue e env (eval e env) = (do let v ← eval e env; standAt e.pos; holding [v] (truthy v)))
    (h : (ob (r.ev cx loc st e) fun v st1 => (truthV v st1).map fun b => (b, st1)) = some (b, st')) : DoesB prog w B pins A (isTrue e env (eval e env)) ρ st s b st' :=
  ob_el h fun v st1 h h1 => om_el h fun c h q => sm2 (G := DoesB prog w B pins A (isTrue e env (eval e env)) ρ st s) h (value_true H.hr H.C H.RA H.EO H.hs H.R H.F he h1 q)
theorem tv_cmpk {l : PySem.Expr} {ops : List CmpOp} {rrs : List PySem.Expr} {p : Pos} {b : Bool} (H : HE prog w B pins n mg mb r cx A ρ st s env loc)
    (h : (two2 ops fun op => two2 rrs fun rr => ob (r.ev cx loc st l) fun a st1 => ob (r.ev cx loc st1 rr) fun b st2 => ot (behindInMarks op rr) ((cmpV op a b st2).map fun c => (c, st2))) = some (b, st')) :
    DoesB prog w B pins A (isTrue (.Compare l ops rrs p) env (eval (.Compare l ops rrs p) env)) ρ st s b st' :=
  two2_el h fun op h e1 => two2_el h fun rr h e2 => ob_el h fun a st1 h h1 => ob_el h fun b' st2 h h2 => ot_el h fun h hb => om_el h fun c h q => sm2 (G := DoesB prog w B pins A (isTrue (.Compare l ops rrs p) env (eval (.Compare l ops rrs p) env)) ρ st s) h (by
    rw [e1, e2]
    exact fun Q E k => wpAny_isTrue_Compare1 (H.ev h1 _ E fun ρ1 s1 x R1 X1 V1 => (H.next R1 X1).ev h2 _ E fun ρ2 s2 y R2 X2 V2 =>
      cmp_ok R2 H.RA.units (X2.up R1 V1) V2 q _ E fun ρ3 s3 u R3 X3 V3 => by
        obtain rfl := V3.bool_inv
        exact wpAny_truthy_bool (k ρ3 s3 R3 (X1.trans (X2.trans X3)))) hb)

theorem nextTv_ok (hr : EvOK prog w B pins n mg mb r.ev) (ht : TvOK prog w B pins n mg mb r.tv) : TvOK prog w B pins n mg mb (nextTv r) := fun cx C loc st e b st' h A ρ s env RA EO hs R F => by
  have H : HE prog w B pins n mg mb r cx A ρ st s env loc := ⟨hr, ht, C, RA, EO, hs, R, F⟩
  cases e with
  | UnaryOp op e p =>
    cases op with
    | Not => exact ob_el h fun c st1 h h1 => sm2 (G := DoesB prog w B pins A (isTrue (.UnaryOp .Not e p) env (eval (.UnaryOp .Not e p) env)) ρ st s) h fun Q E k => wpAny_isTrue_Not (H.tv h1 _ E fun ρ1 s1 R1 X1 => k ρ1 s1 R1 X1)
    | _ => exact no_el h
  | BoolOp op es p =>
    cases op with
    | And => exact fun Q E k => wpAny_isTrue_BoolOp (tvs_ok ht C RA EO hs (and := true) rfl es st b st' h ρ s R F Q E k)
    | Or => exact fun Q E k => wpAny_isTrue_BoolOp (tvs_ok ht C RA EO hs (and := false) rfl es st b st' h ρ s R F Q E k)
  | Compare l ops rrs p => exact tv_cmpk H h
  | Name x p => exact tv_val H rfl h
  | Call f a k p => exact tv_val H rfl h
  | Attribute o a p => exact tv_val H rfl h
  | _ => exact no_el h
end
end Uq
end

section
open PySem PySem.Calls PyProof.Rows
namespace Uq

section
variable {prog : Program} {w : World} {B : Addr → Option Obj} {pins : List (Nat × Addr)} {n : Nat} {mg mb : Str → Option Value} {cx : Cx} {A : Around} {ρ : Nat → Addr} {st st' st1 st2 st3 : Hp} {s : Shared} {env : Env} {loc : Loc}
variable {r : Lv}

theorem isLoc_kind {x : Str} (hs : env.scope = cx.sc) (h : isLoc cx.sc x = true) : env.kindOf x = some .local ∨ env.kindOf x = some .cell := by
  unfold isLoc at h
  show env.scope.names.lookup x = _ ∨ env.scope.names.lookup x = _
  rw [hs]
  simpa using h

/-- a change at one address of the frame's own -/
theorem frame_upd (EO : EnvOK B env) (R : Rel B pins ρ st s.heap) (F : Frm ρ st.length s env loc) {b : Addr} (hb : frs env b) {h' : Heap} {tk : Nat} (hs : Heap.SameBut b s.heap h') (htk : s.toks ≤ tk) :
    Rel B pins ρ st h' ∧ Ext ρ st.length (fun a => a = b) s ρ st.length { s with heap := h', toks := tk } ∧ Tups s.heap h' := by
  obtain ⟨o, ho, hns, hd⟩ := F.kinds b hb
  have K : ∀ a o, s.heap.get? a = some o → ¬ (a = b) → h'.get? a = some o := fun a o e q => (hs.2 a q).trans e
  have T : ∀ a o', s.heap.get? a = some o' → Stays o' → ¬ (a = b) := fun a o' ho' hs' q => by
    subst q
    rw [ho] at ho'; cases ho'
    exact hns hs'
  refine ⟨R.upd (fun a => a = b) K (fun k hk => R.ne_of_data ho hd k hk) (fun a o e q => ?_) T, Ext.same (fun a o e q => K a o e q) rfl rfl htk, fun a o' ho' hs' => K a o' ho' (T a o' ho' hs')⟩
  · subst q
    rw [EO.nb _ hb] at e; cases e

theorem store_loc_sz (EO : EnvOK B env) (R : Rel B pins ρ st s.heap) (F : Frm ρ st.length s env loc) {x : Str} {v : V} {u : Value} (hv : RV ρ st.length s.heap v u) (hk : env.kindOf x = some .local) :
    ∀ (Q : Unit → Shared → Prop) (E : Value → Shared → Prop), (∀ ρ' s', Rel B pins ρ' st s'.heap → Ext ρ st.length (fun b => b = env.locals) s ρ' st.length s' → Frm ρ' st.length s' env (setL loc x v) → s'.heap.objs.size = s.heap.objs.size → Q () s') → wpAny (model prog w) A (storeName env x u) Q E s := fun Q E q => by
  obtain ⟨m, hN, hm⟩ := F.ns
  refine wpAny_storeName_local hk hN (fun h' hN' hs => ?_) (by rw [EO.fn]; rfl)
  obtain ⟨R', X', T⟩ := frame_upd (tk := s.toks + 1) EO R F (.inl rfl) hs (Nat.le_succ _)
  have M : ∀ {v u}, RV ρ st.length s.heap v u → RV ρ st.length h' v u := fun H => H.mono (fun _ _ => rfl) (Nat.le_refl _) T
  have C : ∀ {c u}, s.heap.IsCell c u → h'.IsCell c u := fun {c u} ⟨o, ho, hd⟩ => ⟨o, (hs.2 c fun e => by
    obtain ⟨o', es, ep, ho', hd', _⟩ := hN
    rw [← e, ho] at ho'; cases ho'
    rw [hd] at hd'; cases hd').trans ho, hd⟩
  refine q ρ _ R' X' ⟨⟨_, hN', fun y v' e k => ?_⟩, fun y v' e => ?_, fun y c e => ?_, Nat.succ_pos _⟩ hs.1
  · rw [getL_setL] at e
    by_cases hxy : x = y
    · subst hxy
      rw [if_pos rfl] at e
      cases e
      exact ⟨u, by simp, M hv⟩
    · rw [if_neg hxy] at e
      obtain ⟨u', hu, hr⟩ := hm y v' e k
      exact ⟨u', by simp [Ne.symm hxy, hu], M hr⟩
  · rw [getL_setL] at e
    by_cases hxy : x = y
    · subst hxy
      exact .inl hk
    · rw [if_neg hxy] at e
      rcases F.cl y v' e with k | ⟨k, c, u', hc, hi, hr⟩
      · exact .inl k
      · exact .inr ⟨k, c, u', hc, C hi, M hr⟩
  · obtain ⟨u', hu⟩ := F.ck y c e
    exact ⟨u', C hu⟩

theorem store_loc (EO : EnvOK B env) (R : Rel B pins ρ st s.heap) (F : Frm ρ st.length s env loc) {x : Str} {v : V} {u : Value} (hv : RV ρ st.length s.heap v u) (hk : env.kindOf x = some .local) :
    DoesUF prog w B pins (fun b => b = env.locals) A (storeName env x u) env ρ st s (setL loc x v) st := fun Q E q => store_loc_sz EO R F hv hk Q E fun ρ' s' R X F _ => q ρ' s' R X F

theorem store_ok (EO : EnvOK B env) (R : Rel B pins ρ st s.heap) (F : Frm ρ st.length s env loc) {x : Str} {v : V} {u : Value} (hv : RV ρ st.length s.heap v u) (hk : env.kindOf x = some .local ∨ env.kindOf x = some .cell) :
    DoesU prog w B pins A (storeName env x u) env ρ st s (setL loc x v) st := fun Q E q => by
  rcases hk with hk | hk
  · exact store_loc EO R F hv hk Q E fun ρ' s' R' X' F' => q ρ' s' R' (X'.wider fun _ h => .inl h) F'
  · obtain ⟨c, hc⟩ := EO.cof x hk
    obtain ⟨u₀, hu₀⟩ := F.ck x c hc
    refine wpAny_storeName_cell EO.fn hk hc hu₀ fun h' hi' hs => ?_
    obtain ⟨R', X', T⟩ := frame_upd (tk := s.toks) EO R F (.inr ⟨x, hc⟩) hs (Nat.le_refl _)
    have M : ∀ {v u}, RV ρ st.length s.heap v u → RV ρ st.length h' v u := fun H => H.mono (fun _ _ => rfl) (Nat.le_refl _) T
    refine q ρ _ R' (X'.wider fun _ h => h ▸ .inr ⟨x, hc⟩) ⟨?_, fun y v' e => ?_, fun y c' e => ?_, F.tk⟩
    · obtain ⟨m, hN, hm⟩ := F.ns
      refine ⟨m, hN.sameBut hs fun e => ?_, fun y v' e k => ?_⟩
      · obtain ⟨o', es, ep, ho', hd', _⟩ := hN
        obtain ⟨o, ho, hd⟩ := hu₀
        rw [e, ho] at ho'; cases ho'
        rw [hd] at hd'; cases hd'
      · rw [getL_setL] at e
        by_cases hxy : x = y
        · subst hxy
          rw [hk] at k; cases k
        · rw [if_neg hxy] at e
          obtain ⟨u', hu, hr⟩ := hm y v' e k
          exact ⟨u', hu, M hr⟩
    · rw [getL_setL] at e
      by_cases hxy : x = y
      · subst hxy
        rw [if_pos rfl] at e
        cases e
        exact .inr ⟨hk, c, u, hc, hi', M hv⟩
      · rw [if_neg hxy] at e
        rcases F.cl y v' e with k | ⟨k, c', u', hc', hi, hr⟩
        · exact .inl k
        · refine .inr ⟨k, c', u', hc', hi.sameBut hs fun e => ?_, M hr⟩
          subst e
          exact hxy (EO.one x y _ hc hc')
    · by_cases hcc : c' = c
      · subst hcc
        exact ⟨_, hi'⟩
      · obtain ⟨u', hu⟩ := F.ck y c' e
        exact ⟨u', hu.sameBut hs hcc⟩

/-- names of a target -/
noncomputable def StOK (prog : Program) (w : World) (B : Addr → Option Obj) (pins : List (Nat × Addr)) (fr : Addr → Prop) (A : Around) (env : Env) (st : Hp) (x : Str) : Prop :=
  ∀ v u loc ρ s, Rel B pins ρ st s.heap → Frm ρ st.length s env loc → RV ρ st.length s.heap v u → DoesUF prog w B pins fr A (storeName env x u) env ρ st s (setL loc x v) st

theorem binds_gen {fr : Addr → Prop} (hfr : ∀ b, fr b → frs env b) : ∀ (ts : List PySem.Expr) (vs : List V) (loc loc' : Loc), bindTs cx.sc ts vs loc = some loc' → (∀ x p, .Name x p ∈ ts → isLoc cx.sc x = true → StOK prog w B pins fr A env st x) → ∀ ρ s us, Rel B pins ρ st s.heap → Frm ρ st.length s env loc → RVs ρ st.length s.heap vs us →
    DoesUF prog w B pins fr A (assignInOrder ((assignEach ts env).map (·.2)) us) env ρ st s loc' st
  | [], vs, loc, loc', h, hst, ρ, s, us, R, F, V => by
    cases vs with
    | cons => exact no_el h
    | nil =>
      obtain rfl := V.nil_inv
      exact sm1 (G := fun l => DoesUF prog w B pins fr A (assignInOrder ((assignEach [] env).map (·.2)) []) env ρ st s l st) h fun Q E q => wpAny_assignInOrder_none (q ρ s R (Ext.refl ..) F)
  | t :: ts, vs, loc, loc', h, hst, ρ, s, us, R, F, V => by
    cases vs with
    | nil => exact no_el h
    | cons v vs =>
      refine oc_el h fun x h e => ou_el h fun hm hl => ?_
      obtain ⟨p, rfl⟩ := nmOf_el e
      obtain ⟨u, us, rfl, a, b⟩ := V.cons_inv
      exact fun Q E q => wpAny_assignInOrder_more (wpAny_assign_Name (hst x p List.mem_cons_self hl v u loc ρ s R F a _ E fun ρ1 s1 R1 X1 F1 =>
        binds_gen hfr ts vs _ loc' hm (fun x p hx => hst x p (List.mem_cons_of_mem _ hx)) ρ1 s1 us R1 F1 (b.mono X1.rho X1.le (X1.tups R fun b hb => F.kinds b (hfr b hb))) Q E fun ρ2 s2 R2 X2 F2 => q ρ2 s2 R2 (X1.trans X2) F2))

theorem bindTs_len : ∀ (ts : List PySem.Expr) (vs : List V) (loc loc' : Loc) {sc : Scope}, bindTs sc ts vs loc = some loc' → ts.length = vs.length ∧ (assignEach ts env).length = ts.length ∧ (assignEach ts env).findIdx? (·.1) = none
  | [], vs, _, _, _, h => by
    cases vs with
    | nil => exact ⟨rfl, rfl, rfl⟩
    | cons => exact no_el h
  | t :: ts, vs, loc, loc', sc, h => by
    cases vs with
    | nil => exact no_el h
    | cons v vs =>
      refine oc_el h fun x h e => ou_el h fun hm hl => ?_
      obtain ⟨p, rfl⟩ := nmOf_el e
      obtain ⟨a, b, c⟩ := bindTs_len ts vs _ _ hm
      refine ⟨congrArg (· + 1) a, congrArg (· + 1) b, ?_⟩
      show ((false, assign (.Name x p) env) :: assignEach ts env).findIdx? (·.1) = none
      rw [List.findIdx?_cons, c]; rfl

theorem bind_gen {fr : Addr → Prop} (hfr : ∀ b, fr b → frs env b) (hA : A.handled = none) {t : PySem.Expr} {v : V} {loc' : Loc} (h : bindT cx.sc t v loc = some loc') (hst : ∀ x p, .Name x p ∈ tgtL t → isLoc cx.sc x = true → StOK prog w B pins fr A env st x) (R : Rel B pins ρ st s.heap) (F : Frm ρ st.length s env loc) {u : Value} (hv : RV ρ st.length s.heap v u) :
    DoesUF prog w B pins fr A (assign t env u) env ρ st s loc' st := fun Q E q => by
  cases t with
  | Name x p =>
    exact ou_el h fun h hl => sm1 (G := fun l => (∀ ρ' s', Rel B pins ρ' st s'.heap → Ext ρ st.length fr s ρ' st.length s' → Frm ρ' st.length s' env l → Q () s') → wpAny (model prog w) A (assign (.Name x p) env u) Q E s) h
      (fun q => wpAny_assign_Name (hst x p (by simp [tgtL]) hl v u loc ρ s R F hv Q E q)) q
  | Tuple ts k p =>
    cases v with
    | tup xs =>
      obtain ⟨a, us, rfl, hT, V⟩ := hv.tup_inv
      obtain ⟨l1, l2, l3⟩ := bindTs_len (env := env) ts xs loc loc' h
      refine wpAny_assign_Tuple hA hT (by rw [l2, l1, V.length, List.size_toArray]) l3 fun h' hx => ?_
      have K : ∀ b o, s.heap.get? b = some o → h'.get? b = some o := fun b o e => hx b o (Nat.ne_of_lt (Heap.lt_size e)) e
      have X0 : Ext ρ st.length noF s ρ st.length { s with heap := h' } := Ext.same (fun b o e _ => K b o e) rfl rfl (Nat.le_refl _)
      exact binds_gen hfr ts xs loc loc' h hst ρ { s with heap := h' } us (R.keeps K) (F.keeps R rfl X0) (X0.ups R V) Q E fun ρ2 s2 R2 X2 F2 => q ρ2 s2 R2 ((X0.wider fun _ hb => hb.elim).trans X2) F2
    | _ => exact no_el h
  | _ => exact no_el h

theorem bind_ok (EO : EnvOK B env) (hs : env.scope = cx.sc) (hA : A.handled = none) {t : PySem.Expr} {v : V} {loc' : Loc} (h : bindT cx.sc t v loc = some loc') (R : Rel B pins ρ st s.heap) (F : Frm ρ st.length s env loc) {u : Value} (hv : RV ρ st.length s.heap v u) :
    DoesU prog w B pins A (assign t env u) env ρ st s loc' st :=
  bind_gen (fr := frs env) (fun _ h => h) hA h (fun x p _ hl v u loc ρ s R F V => store_ok EO R F V (isLoc_kind hs hl)) R F hv

noncomputable def DoesX (prog : Program) (w : World) (B : Addr → Option Obj) (pins : List (Nat × Addr)) (A : Around) (ss : List Stmt) (env : Env) (ρ : Nat → Addr) (st : Hp) (s : Shared) (f : Fl) (loc' : Loc) (st' : Hp) : Prop := DoesS prog w B pins A (execs ss env) env ρ st s f loc' st'

theorem exs_ok {ex : Cx → Loc → Hp → Stmt → Option (Fl × Loc × Hp)} (H : ExOK prog w B pins n mg mb ex) (C : CxOK prog w B pins n mg mb cx) (RA : Room n A) (EO : EnvOK B env) (hs : env.scope = cx.sc) :
    ∀ (ss : List Stmt) (loc : Loc) (st : Hp) (f : Fl) (loc' : Loc) (st' : Hp), exs (ex cx) ss loc st = some (f, loc', st') → ∀ ρ s, Rel B pins ρ st s.heap → Frm ρ st.length s env loc →
      DoesS prog w B pins A (execs ss env) env ρ st s f loc' st'
  | [], loc, st, f, loc', st', h, ρ, s, R, F => by
    cases h
    exact fun Q E q => wpAny_execs_nil (q ρ s .next R (Ext.refl ..) F .next)
  | c :: cs, loc, st, f, loc', st', h, ρ, s, R, F => by
    unfold exs at h
    intro Q E q
    split at h
    · cases h
    · rename_i loc1 st1 h1
      refine wpAny_execs_cons (H cx C loc st c _ _ _ h1 A ρ s env RA EO hs R F _ E fun ρ1 s1 fl R1 X1 F1 V1 => ?_)
      first | obtain rfl := V1.imm_inv | obtain rfl := V1.next_inv | obtain rfl := V1.none_inv | obtain rfl := V1.bool_inv | cases V1
      exact exs_ok H C RA EO hs cs loc1 st1 f loc' st' h ρ1 s1 R1 F1 Q E fun ρ2 s2 fl R2 X2 F2 V2 => q ρ2 s2 fl R2 (X1.trans X2) F2 V2
    · rename_i r hne h1
      cases h
      refine wpAny_execs_cons (H cx C loc st c _ _ _ h1 A ρ s env RA EO hs R F _ E fun ρ1 s1 fl R1 X1 F1 V1 => ?_)
      cases V1 with
      | next => exact (hne _ _ rfl).elim
      | brk => exact q ρ1 s1 .brk R1 X1 F1 .brk
      | cont => exact q ρ1 s1 .cont R1 X1 F1 .cont
      | ret v u hv => exact q ρ1 s1 (.ret u) R1 X1 F1 (.ret v u hv)
end
end Uq
end

section
open PySem PySem.Calls PyProof.Rows
namespace Uq

section
variable {prog : Program} {w : World} {B : Addr → Option Obj} {pins : List (Nat × Addr)} {n : Nat} {mg mb : Str → Option Value} {cx : Cx} {A : Around} {ρ ρ0 : Nat → Addr} {st st' st0 st1 st2 st3 : Hp} {s s' s0 : Shared} {env : Env} {loc : Loc}
variable {r : Lv} {it : Value} {src : Src} {a : Addr} {fp : Addr → Prop} {gp : Nat → Prop} {St : Nat → Shared → Prop}

/-- behind a step of the iterator -/
theorem Mv.rel (M : Mv fp gp s s') (R : Rel B pins ρ st s.heap) (h1 : ∀ b, fp b → ∀ k, k < st.length → ρ k ≠ b) (h2 : ∀ b, fp b → B b = none) (h3 : ∀ b o, fp b → s.heap.get? b = some o → ¬ Stays o) : Rel B pins ρ st s'.heap :=
  R.upd fp M.keep (fun k hk hf => h1 _ hf k hk rfl) (fun b o e hf => by rw [h2 b hf] at e; cases e) fun b o e hs hf => by
    exact h3 b o hf e hs
theorem Mv.ext (M : Mv fp gp s s') (fr : Addr → Prop) (X : Ext ρ0 n fr s0 ρ st.length s) (hnew : ∀ b, fp b → s0.heap.get? b = none) (hg : ∀ g, gp g → s0.gens.size ≤ g) : Ext ρ0 n fr s0 ρ st.length s' where
  rho := X.rho
  le := X.le
  keep b o e h1 h2 := have z := X.keep b o e h1 h2; ⟨M.keep b o z.1 (fun hf => by rw [hnew b hf] at e; cases e), z.2⟩
  os := M.os.trans X.os
  bare h := M.bare (X.bare h)
  gsz := Nat.le_trans X.gsz M.gsz
  gens g h := (M.gens g (Nat.lt_of_lt_of_le h X.gsz) fun hf => Nat.lt_irrefl _ (Nat.lt_of_lt_of_le h (hg g hf))).trans (X.gens g h)
  tk := Nat.le_trans X.tk M.tk
theorem Mv.frm (M : Mv fp gp s s') (R : Rel B pins ρ st s.heap) (F : Frm ρ st.length s env loc) (h3 : ∀ b o, fp b → s.heap.get? b = some o → ¬ Stays o) (h4 : ∀ b, frs env b → ¬ fp b) : Frm ρ st.length s' env loc := by
  have T : Tups s.heap s'.heap := fun b o e hs => M.keep b o e fun hf => by
    exact h3 b o hf e hs
  have V : ∀ {v u}, RV ρ st.length s.heap v u → RV ρ st.length s'.heap v u := fun H => H.mono (fun _ _ => rfl) (Nat.le_refl _) T
  have C : ∀ {x c u}, env.cells.lookup x = some c → s.heap.IsCell c u → s'.heap.IsCell c u := fun hx ⟨o, ho, hd⟩ => ⟨o, M.keep _ o ho (h4 _ (.inr ⟨_, hx⟩)), hd⟩
  refine ⟨?_, fun x v e => ?_, fun x c e => ?_, Nat.lt_of_lt_of_le F.tk M.tk⟩
  · obtain ⟨m, ⟨o, es, ep, ho, r⟩, hv⟩ := F.ns
    exact ⟨m, ⟨o, es, ep, M.keep _ o ho (h4 _ (.inl rfl)), r⟩, fun x v e k => by obtain ⟨u, hu, hr⟩ := hv x v e k; exact ⟨u, hu, V hr⟩⟩
  · rcases F.cl x v e with k | ⟨k, c, u, hc, hi, hr⟩
    · exact .inl k
    · exact .inr ⟨k, c, u, hc, C hc hi, V hr⟩
  · obtain ⟨u, hu⟩ := F.ck x c e
    exact ⟨u, C e hu⟩

/-- where a loop stands -/
structure LA (B : Addr → Option Obj) (pins : List (Nat × Addr)) (env : Env) (fr : Addr → Prop) (ρ0 : Nat → Addr) (n : Nat) (s0 : Shared) (src : Src) (a : Addr) (fp : Addr → Prop) (St : Nat → Shared → Prop) (i : Nat) (loc : Loc) (st : Hp) (ρ : Nat → Addr) (s : Shared) : Prop where
  stt : St i s
  R : Rel B pins ρ st s.heap
  F : Frm ρ st.length s env loc
  X : Ext ρ0 n fr s0 ρ st.length s
  hk : ∀ b, fp b → ∀ k, k < st.length → ρ k ≠ b
  live : ∀ k, src = .live k → ρ k = a ∧ k < st.length
structure LH (B : Addr → Option Obj) (env : Env) (fr : Addr → Prop) (s0 : Shared) (fp : Addr → Prop) (gp : Nat → Prop) : Prop where
  hB : ∀ b, fp b → B b = none
  hfr : ∀ b, frs env b → ¬ fp b
  fr : ∀ b, fr b → ¬ fp b
  hnew : ∀ b, fp b → s0.heap.get? b = none
  hg : ∀ g, gp g → s0.gens.size ≤ g
section
variable {fr : Addr → Prop} {i : Nat} {z : Bool}
theorem LA.rel (L : LA B pins env fr ρ0 n s0 src a fp St i loc st ρ s) (H : LH B env fr s0 fp gp) (I : Itr prog w B pins A it src a fp gp St z) (M : Mv fp gp s s') : Rel B pins ρ st s'.heap := M.rel L.R L.hk H.hB fun b o hb => I.stay i s b o L.stt hb
theorem LA.ext (L : LA B pins env fr ρ0 n s0 src a fp St i loc st ρ s) (H : LH B env fr s0 fp gp) (M : Mv fp gp s s') : Ext ρ0 n fr s0 ρ st.length s' := M.ext _ L.X H.hnew H.hg
theorem LA.frm (L : LA B pins env fr ρ0 n s0 src a fp St i loc st ρ s) (H : LH B env fr s0 fp gp) (I : Itr prog w B pins A it src a fp gp St z) (M : Mv fp gp s s') : Frm ρ st.length s' env loc := M.frm L.R L.F (fun b o hb => I.stay i s b o L.stt hb) H.hfr
/-- a turn leads on -/
theorem LA.goes (L : LA B pins env fr ρ0 n s0 src a fp St i loc st ρ s) (H : LH B env fr s0 fp gp) (I : Itr prog w B pins A it src a fp gp St z) (M : Mv fp gp s s') (h1 : St (i + 1) s') {ρ' : Nat → Addr} {loc' : Loc} {s1 : Shared}
    (Y : Ext ρ st.length fr s' ρ' st'.length s1) (R' : Rel B pins ρ' st' s1.heap) (F' : Frm ρ' st'.length s1 env loc') : LA B pins env fr ρ0 n s0 src a fp St (i + 1) loc' st' ρ' s1 where
  stt := I.frame _ s' s1 (.inl (Nat.succ_pos i)) h1 (fun b o hb e => (Y.keep b o e (L.hk b hb) fun hf => H.fr b hf hb).1) Y.gsz Y.gens Y.tk
  R := R'
  F := F'
  X := (L.ext H M).trans Y
  hk b hb := (I.alive (i + 1) s' b (.inl (Nat.succ_pos i)) h1 hb).elim fun o ho => (Y.keep b o ho.1 (L.hk b hb) fun hf => H.fr b hf hb).2
  live k hs := have h := L.live k hs; ⟨(Y.rho k h.2).trans h.1, Nat.lt_of_lt_of_le h.2 Y.le⟩
end

noncomputable def LoopInv (B : Addr → Option Obj) (pins : List (Nat × Addr)) (body : V → Loc → Hp → Option (Fl × Loc × Hp)) (src : Src) (a : Addr) (fp : Addr → Prop) (St : Nat → Shared → Prop) (env : Env) (fr : Addr → Prop) (ρ0 : Nat → Addr) (n : Nat) (s0 : Shared) (res : Fl × Loc × Hp) (m : Nat) (s : Shared) : Prop :=
  ∃ i loc st ρ, loopF body src m i loc st = some res ∧ LA B pins env fr ρ0 n s0 src a fp St i loc st ρ s
theorem LoopInv.el {P : Prop} {body : V → Loc → Hp → Option (Fl × Loc × Hp)} {fr : Addr → Prop} {res : Fl × Loc × Hp} {m : Nat} (h : LoopInv B pins body src a fp St env fr ρ0 n s0 res m s)
    (k : ∀ i loc st ρ, loopF body src m i loc st = some res → LA B pins env fr ρ0 n s0 src a fp St i loc st ρ s → P) : P := by
  obtain ⟨i, loc, st, ρ, h, L⟩ := h
  exact k i loc st ρ h L

/-- a for loop over an iterator -/
theorem loop_ok {tgt : PySem.Expr} {bodyS : List Stmt} {body : V → Loc → Hp → Option (Fl × Loc × Hp)} {z : Bool} (I : Itr prog w B pins A it src a fp gp St z)
    (hbody : ∀ x loc st f loc' st', body x loc st = some (f, loc', st') → ∀ ρ s u (Q : Flow → Shared → Prop) (E : Value → Shared → Prop), Rel B pins ρ st s.heap → Frm ρ st.length s env loc → RV ρ st.length s.heap x u →
      (∀ ρ' s' fl, Rel B pins ρ' st' s'.heap → Ext ρ st.length (frs env) s ρ' st'.length s' → Frm ρ' st'.length s' env loc' → FlR ρ' st'.length s'.heap f fl → Q fl s') →
      wpAny (model prog w) A (assign tgt env u) (fun _ s2 => wpAny (model prog w) A (execs bodyS env) Q E s2) E s)
    (hB : ∀ b, fp b → B b = none) (hfr : ∀ b, frs env b → ¬ fp b) (hnew : ∀ b, fp b → s0.heap.get? b = none) (hg : ∀ g, gp g → s0.gens.size ≤ g)
    {i fuel : Nat} {f : Fl} {locF : Loc} {stF : Hp} (h : loopF body src fuel i loc st = some (f, locF, stF)) (hst : St i s) (R : Rel B pins ρ st s.heap) (F : Frm ρ st.length s env loc) (X : Ext ρ0 n (frs env) s0 ρ st.length s)
    (hk : ∀ b, fp b → ∀ k, k < st.length → ρ k ≠ b) (hlive : ∀ k, src = .live k → ρ k = a ∧ k < st.length) {Rs : Result → Shared → Prop}
    (q : ∀ ρ' s' fl, Rel B pins ρ' stF s'.heap → Ext ρ0 n (frs env) s0 ρ' stF.length s' → Frm ρ' stF.length s' env locF → FlR ρ' stF.length s'.heap f fl → Rs (.ok fl) s') :
    codeAny (model prog w) A (.forLoop tgt it bodyS [] env) Rs s := by
  have H : LH B env (frs env) s0 fp gp := ⟨hB, hfr, hfr, hnew, hg⟩
  refine codeAny_forLoop_any (LoopInv B pins body src a fp St env (frs env) ρ0 n s0 (f, locF, stF)) (fun m s hI => hI.el fun i loc st ρ h L => ?_) fuel ⟨i, loc, st, ρ, h, hst, R, F, X, hk, hlive⟩
  refine loopF_el h (fun h e => ?_) fun m' x f1 l1 t1 h h1 e hm => ?_
  · exact sm3 (G := fun f l t => (∀ ρ' s' fl, Rel B pins ρ' t s'.heap → Ext ρ0 n (frs env) s0 ρ' t.length s' → Frm ρ' t.length s' env l → FlR ρ' t.length s'.heap f fl → Rs (.ok fl) s') → wpAny (model prog w) A (pyNext it) _ _ s) h (fun q => I.done i ρ _ s _ _ L.stt L.R (fun k e => (L.live k e).1) e fun s' M => wpAny_execs_nil (q ρ s' .next (L.rel H I M) (L.ext H M) (L.frm H I M) .next)) q
  · refine I.item i x ρ st s _ _ L.stt L.R (fun k e => (L.live k e).1) e fun s1 u hst1 M V => I.own (i + 1) _ _ s1 _ _ hst1 (hbody x loc st _ _ _ h1 ρ s1 u _ _ (L.rel H I M) (L.frm H I M) V fun ρ2 s2 fl R2 X2 F2 V2 => ?_)
    cases V2 with
    | next => exact ⟨m', hm, i + 1, l1, t1, ρ2, h, L.goes H I M hst1 X2 R2 F2⟩
    | cont => exact ⟨m', hm, i + 1, l1, t1, ρ2, h, L.goes H I M hst1 X2 R2 F2⟩
    | brk => exact sm3 (G := fun f l t => (∀ ρ' s' fl, Rel B pins ρ' t s'.heap → Ext ρ0 n (frs env) s0 ρ' t.length s' → Frm ρ' t.length s' env l → FlR ρ' t.length s'.heap f fl → Rs (.ok fl) s') → Rs (.ok .next) s2) h (fun q => q ρ2 s2 .next R2 ((L.ext H M).trans X2) F2 .next) q
    | ret v u' hv => exact sm3 (G := fun f l t => (∀ ρ' s' fl, Rel B pins ρ' t s'.heap → Ext ρ0 n (frs env) s0 ρ' t.length s' → Frm ρ' t.length s' env l → FlR ρ' t.length s'.heap f fl → Rs (.ok fl) s') → Rs (.ok (.ret u')) s2) h (fun q => q ρ2 s2 (.ret u') R2 ((L.ext H M).trans X2) F2 (.ret v u' hv)) q

theorem own_tup {M : Model} {I : Addr} {o : Obj} {N : String} {es : List PySem.Expr} {k : Nat} {p : Pos} {u : Value} {Q : Unit → Shared → Prop} {E : Value → Shared → Prop} (ho : s.heap.get? I = some o) (hc : o.cls = .type N)
    (hn : ["enumerate", "zip", "dict_itemiterator", "dict_reverseitemiterator", "odict_iterator", "itertools.zip_longest", "itertools.pairwise"].contains N = false) (h : Q () s) : wpAny M A (letOwnedTupleGo (.Tuple es k p) (.ref I) u) Q E s := by
  cases u with
  | ref a =>
    refine wpAny_bind (wpAny_load ho ?_)
    rw [hc]
    cases o.data with
    | fields vs =>
      show wpAny M A (if (_ && _) = true then _ else _) Q E s
      rw [hn]
      exact wpAny_pure h
    | _ => exact wpAny_pure h
  | _ => exact wpAny_pure h
theorem own_ok {M : Model} {I : Addr} {o : Obj} {N : String} {tgt : PySem.Expr} {u : Value} {Q : Unit → Shared → Prop} {E : Value → Shared → Prop} (ho : s.heap.get? I = some o) (hc : o.cls = .type N)
    (hn : ["enumerate", "zip", "dict_itemiterator", "dict_reverseitemiterator", "odict_iterator", "itertools.zip_longest", "itertools.pairwise"].contains N = false) (h : Q () s) : wpAny M A (letOwnedTupleGo tgt (.ref I) u) Q E s := by
  have H := own_tup (M := M) (A := A) (E := E) (es := []) (k := 0) (p := default) (u := u) ho hc hn h
  have G : wpAny M A (pure ()) Q E s := wpAny_pure h
  cases tgt with
  | Tuple => exact H
  | List => exact H
  | _ => exact G

theorem no_stays {h : Heap} {I : Addr} {o : Obj} {N : String} (_ : h.get? I = some o) (hc : o.cls = .type N) (h1 : N ≠ "tuple") (h2 : N ≠ "range") : ¬ Stays o := fun hs => by
  cases hs with
  | tup hc' => rw [hc] at hc'; exact h1 (Value.type.inj hc')
  | rng hc' => rw [hc] at hc'; exact h2 (Value.type.inj hc')

theorem iter_list (hA : A.handled = none) (R : Rel B pins ρ st s.heap) {k : Nat} (hk : k < st.length) : Iters prog w B pins A (pyIter (.ref (ρ k))) ρ st s st (.live k) := fun Q E q => by
  obtain ⟨vs, hl, _⟩ := R.cell k st[k] (List.getElem?_eq_getElem hk)
  refine wpAny_pyIter_list hl.isList ?_
  have K : ∀ b o, s.heap.get? b = some o → (s.heap.push { cls := .type "list_iterator", data := .fields #[.ref (ρ k), .int 0 0] }).get? b = some o := fun b o e => Heap.get?_push_of_some _ e
  have fresh : s.heap.get? s.heap.objs.size = none := by
    cases z : s.heap.get? s.heap.objs.size with
    | none => rfl
    | some o => exact absurd (Heap.lt_size z) (Nat.lt_irrefl _)
  refine q ρ _ _ (ρ k) (fun b => b = s.heap.objs.size) (fun _ => False) (fun i s' => s'.heap.IsListIter s.heap.objs.size (ρ k) i) (R.keeps K) (Ext.same (fun b o e _ => K b o e) rfl rfl (Nat.le_refl _)) ?_ ⟨_, Heap.get?_push_size _ rfl, rfl, rfl⟩ ?_ (fun _ h => h.elim) (fun j e => by cases e; exact ⟨rfl, hk⟩)
  · refine ⟨fun i s' b _ ⟨o, ho, hc, hd⟩ hb => ?_, fun i s' b o' ⟨o, ho, hc, hd⟩ hb e => ?_, fun i s1 s2 _ ⟨o, ho, r⟩ hk1 _ _ _ => ⟨o, hk1 _ o rfl ho, r⟩, fun i tgt u s1 Q E ⟨o, ho, hc, hd⟩ h => own_ok ho hc (by decide) h, fun i s1 Q E hst h => wpAny_pyIter_listiter hst h, fun i x ρ1 st1 s1 Q E hst R1 ha e q => ?_, fun i ρ1 st1 s1 Q E hst R1 ha e q => ?_⟩
    · subst hb; exact ⟨o, ho, no_stays ho hc (by decide) (by decide)⟩
    · subst hb; rw [ho] at e; cases e; exact no_stays ho hc (by decide) (by decide)
    · have hρ := ha k rfl
      unfold iterS at e
      dsimp only at e
      split at e
      · rename_i ys hy
        cases e2 : ys[i]? with
        | none => rw [e2] at e; cases e
        | some y =>
          rw [e2] at e
          cases e
          obtain ⟨us, hl1, H1⟩ := R1.cell k ys hy
          obtain ⟨u, hu, hr⟩ := H1.get e2
          rw [hρ] at hl1
          refine wpAny_pyNext_list_item hst hl1.isList (by simpa using hu) fun h' hit' hs => ?_
          have K1 : ∀ b o, s1.heap.get? b = some o → ¬ (b = s.heap.objs.size) → h'.get? b = some o := fun b o e hb => (hs.2 b hb).trans e
          refine q { s1 with heap := h' } u hit' ⟨K1, rfl, id, Nat.le_refl _, fun _ _ _ => rfl, Nat.le_refl _⟩ (hr.mono (fun _ _ => rfl) (Nat.le_refl _) fun b o e hs' => K1 b o e fun hb => ?_)
          obtain ⟨o', ho', hc', _⟩ := hst
          rw [hb, ho'] at e; cases e
          exact no_stays ho' hc' (by decide) (by decide) hs'
      · cases e
    · have hρ := ha k rfl
      unfold iterS at e
      dsimp only at e
      split at e
      · rename_i ys hy
        cases e2 : ys[i]? with
        | some y => rw [e2] at e; cases e
        | none =>
          obtain ⟨us, hl1, H1⟩ := R1.cell k ys hy
          rw [hρ] at hl1
          exact wpAny_pyNext_list_end hA hst hl1.isList (by simpa using H1.get_none e2) fun h' hx => q { s1 with heap := h' } ⟨fun b o e hb => hx b o hb e, rfl, id, Nat.le_refl _, fun _ _ _ => rfl, Nat.le_refl _⟩
      · cases e
  · intro b hb
    subst hb
    refine ⟨?_, fresh, fun j hj z => ?_⟩
    · cases z : B s.heap.objs.size with
      | none => rfl
      | some o => have := R.base _ o z; rw [fresh] at this; cases this
    · have := R.lt hj; rw [z] at this; exact absurd this (Nat.lt_irrefl _)

theorem fresh_none (h : Heap) : h.get? h.objs.size = none := by
  cases z : h.get? h.objs.size with
  | none => rfl
  | some o => exact absurd (Heap.lt_size z) (Nat.lt_irrefl _)

/-- an iterator of one object over written items -/
theorem iter_simple (R : Rel B pins ρ st s.heap) {o : Obj} {xs : List V} {N : String} (P : Nat → Heap → Prop) (hN1 : N ≠ "tuple") (hN2 : N ≠ "range")
    (hN3 : ["enumerate", "zip", "dict_itemiterator", "dict_reverseitemiterator", "odict_iterator", "itertools.zip_longest", "itertools.pairwise"].contains N = false)
    (hP : ∀ i h, P i h → ∃ o, h.get? s.heap.objs.size = some o ∧ o.cls = .type N) (hf : ∀ i h h', P i h → (∀ o, h.get? s.heap.objs.size = some o → h'.get? s.heap.objs.size = some o) → P i h') (h0 : P 0 (s.heap.push o))
    (hself : ∀ i s1 (Q : Value → Shared → Prop) (E : Value → Shared → Prop), P i s1.heap → Q (.ref s.heap.objs.size) s1 → wpAny (model prog w) A (pyIter (.ref s.heap.objs.size)) Q E s1)
    (item : ∀ i x s1 (Q : Option Value → Shared → Prop) (E : Value → Shared → Prop), P i s1.heap → xs[i]? = some x → (∀ h' tk u, s1.toks ≤ tk → P (i + 1) h' → (∀ b o, b ≠ s.heap.objs.size → s1.heap.get? b = some o → h'.get? b = some o) → (∀ ρ n, RV ρ n h' x u) → Q (some u) { s1 with heap := h', toks := tk }) →
      wpAny (model prog w) A (pyNext (.ref s.heap.objs.size)) Q E s1)
    (done : ∀ i s1 (Q : Option Value → Shared → Prop) (E : Value → Shared → Prop), P i s1.heap → xs[i]? = none → (∀ h', (∀ b o, b ≠ s.heap.objs.size → s1.heap.get? b = some o → h'.get? b = some o) → Q none { s1 with heap := h' }) →
      wpAny (model prog w) A (pyNext (.ref s.heap.objs.size)) Q E s1)
    {t : Sem Value} (ht : ∀ (Q E : Value → Shared → Prop), Q (.ref s.heap.objs.size) { s with heap := s.heap.push o } → wpAny (model prog w) A t Q E s) : Iters prog w B pins A t ρ st s st (.items xs) := fun Q E q => by
  have K : ∀ b o', s.heap.get? b = some o' → (s.heap.push o).get? b = some o' := fun b o' e => Heap.get?_push_of_some _ e
  refine ht Q E ?_
  refine q ρ _ _ 0 (fun b => b = s.heap.objs.size) (fun _ => False) (fun i s' => P i s'.heap) (R.keeps K) (Ext.same (fun b o e _ => K b o e) rfl rfl (Nat.le_refl _)) ?_ h0 ?_ (fun _ h => h.elim) (fun j e => by cases e)
  · refine ⟨fun i s' b _ hp hb => ?_, fun i s' b o' hp hb e => ?_, fun i s1 s2 _ hp hk1 _ _ _ => hf i _ _ hp fun o e => hk1 _ o rfl e, fun i tgt u s1 Q E hp h => ?_, fun i s1 Q E hp h => hself i s1 Q E hp h, fun i x ρ1 st1 s1 Q E hst R1 ha e q => ?_, fun i ρ1 st1 s1 Q E hst R1 ha e q => ?_⟩
    · subst hb
      obtain ⟨o, ho, hc⟩ := hP i _ hp
      exact ⟨o, ho, no_stays ho hc hN1 hN2⟩
    · subst hb
      obtain ⟨o, ho, hc⟩ := hP i _ hp
      rw [ho] at e; cases e
      exact no_stays ho hc hN1 hN2
    · obtain ⟨o, ho, hc⟩ := hP i _ hp
      exact own_ok ho hc hN3 h
    · exact item i x s1 Q E hst (by unfold iterS at e; exact Option.some.inj e) fun h' tk u hle hp hk hv => q _ u hp ⟨fun b o e hb => hk b o hb e, rfl, id, Nat.le_refl _, fun _ _ _ => rfl, hle⟩ (hv _ _)
    · exact done i s1 Q E hst (by unfold iterS at e; exact Option.some.inj e) fun h' hk => q _ ⟨fun b o e hb => hk b o hb e, rfl, id, Nat.le_refl _, fun _ _ _ => rfl, Nat.le_refl _⟩
  · intro b hb
    subst hb
    refine ⟨?_, fresh_none _, fun j hj z => ?_⟩
    · cases z : B s.heap.objs.size with
      | none => rfl
      | some o => have := R.base _ o z; rw [fresh_none] at this; cases this
    · have := R.lt hj; rw [z] at this; exact absurd this (Nat.lt_irrefl _)

theorem chars_get {x : Str} {i : Nat} {v : V} (h : (x.cps.toList.map fun c => V.str ⟨#[c]⟩)[i]? = some v) : ∃ c, x.cps[i]? = some c ∧ v = .str ⟨#[c]⟩ := by
  rw [List.getElem?_map] at h
  cases e : x.cps.toList[i]? with
  | none => rw [e] at h; cases h
  | some c => rw [e] at h; cases h; exact ⟨c, by simpa using e, rfl⟩
theorem chars_none {x : Str} {i : Nat} (h : (x.cps.toList.map fun c => V.str ⟨#[c]⟩)[i]? = none) : x.cps[i]? = none := by
  rw [List.getElem?_map] at h
  simpa using h

theorem iter_str (hA : A.handled = none) (R : Rel B pins ρ st s.heap) (x : Str) (t : Tok) : Iters prog w B pins A (pyIter (.str x t)) ρ st s st (.items (x.cps.toList.map fun c => .str ⟨#[c]⟩)) := by
  cases ha : x.cps.all (· < 128)
  · refine iter_simple (o := { cls := .type "str_iterator", data := .fields #[.str x t, .int 0 0] }) R (N := "str_iterator") (fun i h => h.IsStrIter s.heap.objs.size "str_iterator" x t i) (by decide) (by decide) (by decide) (fun i h ⟨o, ho, hc, _⟩ => ⟨o, ho, hc⟩) (fun i h h' ⟨o, ho, r⟩ hk => ⟨o, hk o ho, r⟩) ⟨_, Heap.get?_push_size _ rfl, rfl, rfl⟩ (fun i s1 Q E hp h => wpAny_pyIter_striter_wide hp h) (fun i v s1 Q E hp e q => ?_) (fun i s1 Q E hp e q => ?_) (fun Q E h => wpAny_pyIter_wide ha h)
    · obtain ⟨c, hc, rfl⟩ := chars_get e
      exact wpAny_pyNext_wide_item hp hc fun h' hit hs => q h' _ _ (by first | exact Nat.le_refl _ | exact Nat.le_succ _) hit (fun b o hb e => (hs.2 b hb).trans e) fun _ _ => .str _ _
    · exact wpAny_pyNext_wide_end hA hp (chars_none e) fun h' hx => q h' fun b o hb e => hx b o hb e
  · refine iter_simple (o := { cls := .type "str_ascii_iterator", data := .fields #[.str x t, .int 0 0] }) R (N := "str_ascii_iterator") (fun i h => h.IsStrIter s.heap.objs.size "str_ascii_iterator" x t i) (by decide) (by decide) (by decide) (fun i h ⟨o, ho, hc, _⟩ => ⟨o, ho, hc⟩) (fun i h h' ⟨o, ho, r⟩ hk => ⟨o, hk o ho, r⟩) ⟨_, Heap.get?_push_size _ rfl, rfl, rfl⟩ (fun i s1 Q E hp h => wpAny_pyIter_striter_ascii hp h) (fun i v s1 Q E hp e q => ?_) (fun i s1 Q E hp e q => ?_) (fun Q E h => wpAny_pyIter_ascii ha h)
    · obtain ⟨c, hc, rfl⟩ := chars_get e
      exact wpAny_pyNext_ascii_item hp hc fun h' hit hs => q h' _ _ (by first | exact Nat.le_refl _ | exact Nat.le_succ _) hit (fun b o hb e => (hs.2 b hb).trans e) fun _ _ => .str _ _
    · exact wpAny_pyNext_ascii_end hA hp (chars_none e) fun h' hx => q h' fun b o hb e => hx b o hb e

theorem range_small {m : Nat} (h : m ≤ sizeLine) : Builtin.Range.small 0 (m : Int) 1 = true := by
  rw [sizeLine_eq] at h
  unfold Builtin.Range.small
  rw [rangeSize_nat]
  have f : ∀ i : Int, 0 ≤ i → i ≤ 16777217 → Builtin.Range.rangeFitsLong i = true := fun i a b => by unfold Builtin.Range.rangeFitsLong; simp; omega
  simp only [Bool.and_eq_true, Bool.or_eq_true]
  refine ⟨⟨⟨⟨f _ (by omega) (by omega), f _ (by omega) (by omega)⟩, f _ (by omega) (by omega)⟩, f _ (by omega) (by omega)⟩, .inr ?_⟩
  rw [if_pos (by decide)]
  exact f _ (by omega) (by omega)

theorem iter_rng (hA : A.handled = none) (R : Rel B pins ρ st s.heap) {m : Nat} {a : Addr} {t u v : Tok} (hr : IsRange s.heap a 0 (m : Int) 1 t u v) (hm : m ≤ sizeLine) : Iters prog w B pins A (pyIter (.ref a)) ρ st s st (.items ((List.range m).map fun (i : Nat) => V.int (i : Int))) := by
  have hsz : Builtin.Range.rangeSize 0 (m : Int) 1 = (m : Int) := by rw [rangeSize_nat]; omega
  refine iter_simple (o := { cls := .type "range_iterator", data := .fields #[rawInt 0, rawInt (Builtin.Range.rangeSize 0 (m : Int) 1), rawInt 1] }) R (N := "range_iterator") (fun i h => IsRangeIter h s.heap.objs.size (i : Int) ((m : Int) - i) 1) (by decide) (by decide) (by decide) (fun i h e => ⟨_, e, rfl⟩) (fun i h h' e hk => hk _ e) (by
    show IsRangeIter _ _ _ _ _
    rw [hsz]
    have : ((m : Int) - ((0 : Nat) : Int)) = m := by omega
    rw [this]
    exact Heap.get?_push_size _ rfl) (fun i s1 Q E hp h => wpAny_pyIter_rangeiter hp h) (fun i x s1 Q E hp e q => ?_) (fun i s1 Q E hp e q => ?_) (fun Q E h => wpAny_pyIter_range hr (range_small hm) h)
  · rw [List.getElem?_map] at e
    cases z : (List.range m)[i]? with
    | none => rw [z] at e; cases e
    | some j =>
      rw [z] at e
      cases e
      have hlt : i < m := by
        have := (List.getElem?_eq_some_iff.mp z).1
        simpa using this
      rw [List.getElem?_range hlt] at z
      cases z
      refine wpAny_pyNext_range_item hp (by omega) fun h' hit hs => q h' _ _ (by first | exact Nat.le_refl _ | exact Nat.le_succ _) ?_ (fun b o hb e => (hs.2 b hb).trans e) fun _ _ => .int _ _
      have e1 : ((i + 1 : Nat) : Int) = (i : Int) + 1 := by omega
      have e2 : (m : Int) - ((i + 1 : Nat) : Int) = (m : Int) - i - 1 := by omega
      rw [e2, e1]
      exact hit
  · rw [List.getElem?_map] at e
    have : m ≤ i := by
      cases z : (List.range m)[i]? with
      | none =>
        have := List.getElem?_eq_none_iff.mp z
        simpa using this
      | some j => rw [z] at e; cases e
    exact wpAny_pyNext_range_end hA hp (by omega) fun h' hx => q h' fun b o hb e => hx b o hb e

theorem iter_ok (hA : A.handled = none) (R : Rel B pins ρ st s.heap) {v : V} {u : Value} {src : Src} (hv : RV ρ st.length s.heap v u) (h : srcOf v = some src) : Iters prog w B pins A (pyIter u) ρ st s st src := by
  unfold srcOf at h
  split at h
  · cases h; cases hv
    rename_i hk
    exact iter_list hA R hk
  · cases h; cases hv
    exact iter_str hA R _ _
  · split at h
    · rename_i hz
      cases h; cases hv
      rename_i a t u v hr
      exact iter_rng hA R hr hz
    · cases h
  · cases h
end
end Uq
end

section
open PySem PySem.Calls PyProof.Rows
namespace Uq

section
variable {prog : Program} {w : World} {B : Addr → Option Obj} {pins : List (Nat × Addr)} {n : Nat} {mg mb : Str → Option Value} {cx : Cx} {A : Around} {ρ ρ0 : Nat → Addr} {st st' st0 st1 st2 st3 : Hp} {s s' s0 : Shared} {env : Env} {loc : Loc}
variable {r : Lv}

noncomputable def SliceSet (prog : Program) (w : World) (B : Addr → Option Obj) (pins : List (Nat × Addr)) : Prop :=
  ∀ A ρ st s k j xs ys, A.handled = none → Rel B pins ρ st s.heap → st[k]? = some ys → st[j]? = some xs → ys.length + xs.length ≤ sizeLine → j ≠ k → ∀ (Q : Unit → Shared → Prop) (E : Value → Shared → Prop) sl, s.heap.IsSliceOf sl .none .none .none →
    (∀ ρ' s', Rel B pins ρ' (st.set k xs) s'.heap → Ext ρ st.length noF s ρ' (st.set k xs).length s' → Q () s') → wpAny (model prog w) A (setItem (.ref (ρ k)) (.ref sl) (.ref (ρ j))) Q E s

theorem swaps_plain {e : PySem.Expr} {t : Option PySem.Expr} {l : Nat} (h : isComp e = false) : swapsWith e t l env = pure false := by
  cases e <;> first | rfl | cases h

theorem noninteractive (EO : EnvOK B env) : interactive env = false := by
  unfold interactive
  rw [EO.fn]; rfl

structure WA (B : Addr → Option Obj) (pins : List (Nat × Addr)) (env : Env) (ρ0 : Nat → Addr) (n : Nat) (s0 : Shared) (loc : Loc) (st : Hp) (ρ : Nat → Addr) (s : Shared) : Prop where
  R : Rel B pins ρ st s.heap
  F : Frm ρ st.length s env loc
  X : Ext ρ0 n (frs env) s0 ρ st.length s
noncomputable def WhileInv (B : Addr → Option Obj) (pins : List (Nat × Addr)) (test : Loc → Hp → Option (Bool × Hp)) (body : Loc → Hp → Option (Fl × Loc × Hp)) (env : Env) (ρ0 : Nat → Addr) (n : Nat) (s0 : Shared) (res : Fl × Loc × Hp) (m : Nat) (s : Shared) : Prop :=
  ∃ loc st ρ, whileF test body m loc st = some res ∧ WA B pins env ρ0 n s0 loc st ρ s
theorem WhileInv.el {P : Prop} {test : Loc → Hp → Option (Bool × Hp)} {body : Loc → Hp → Option (Fl × Loc × Hp)} {res : Fl × Loc × Hp} {m : Nat} (h : WhileInv B pins test body env ρ0 n s0 res m s)
    (k : ∀ loc st ρ, whileF test body m loc st = some res → WA B pins env ρ0 n s0 loc st ρ s → P) : P := by
  obtain ⟨loc, st, ρ, h, W⟩ := h
  exact k loc st ρ h W
/-- how a while loop goes on behind a turn -/
noncomputable def wOn (test : Loc → Hp → Option (Bool × Hp)) (body : Loc → Hp → Option (Fl × Loc × Hp)) (m : Nat) (f1 : Fl) (l1 : Loc) (t1 : Hp) : Option (Fl × Loc × Hp) := match f1 with
  | .next => whileF test body m l1 t1
  | .cont => whileF test body m l1 t1
  | .brk => some (.next, l1, t1)
  | .ret v => some (.ret v, l1, t1)
theorem whileF_el {P : Prop} {test : Loc → Hp → Option (Bool × Hp)} {body : Loc → Hp → Option (Fl × Loc × Hp)} {m : Nat} {R : Fl × Loc × Hp} (h : whileF test body m loc st = some R)
    (k0 : ∀ t1, some (Fl.next, loc, t1) = some R → test loc st = some (false, t1) → P)
    (k1 : ∀ m' t1 f1 l1 t2, wOn test body m' f1 l1 t2 = some R → test loc st = some (true, t1) → body loc t1 = some (f1, l1, t2) → m' < m → P) : P := by
  cases m with
  | zero => exact no_el h
  | succ m =>
    unfold whileF at h
    cases e : test loc st with
    | none => rw [e] at h; exact no_el h
    | some q =>
      obtain ⟨b, t1⟩ := q
      rw [e] at h
      cases b with
      | false => exact k0 t1 h e
      | true =>
        dsimp only at h
        cases hb : body loc t1 with
        | none => rw [hb] at h; exact no_el h
        | some q =>
          obtain ⟨f1, l1, t2⟩ := q
          rw [hb] at h
          refine k1 m t1 f1 l1 t2 ?_ e hb (Nat.lt_succ_self m)
          cases f1 <;> exact h

theorem while_ok {t : PySem.Expr} {bodyS : List Stmt} {test : Loc → Hp → Option (Bool × Hp)} {body : Loc → Hp → Option (Fl × Loc × Hp)}
    (htest : ∀ loc st b st', test loc st = some (b, st') → ∀ ρ s, Rel B pins ρ st s.heap → Frm ρ st.length s env loc → DoesB prog w B pins A (isTrue t env (eval t env)) ρ st s b st')
    (hbody : ∀ loc st f loc' st', body loc st = some (f, loc', st') → ∀ ρ s, Rel B pins ρ st s.heap → Frm ρ st.length s env loc → DoesS prog w B pins A (execs bodyS env) env ρ st s f loc' st')
    {fuel : Nat} {f : Fl} {locF : Loc} {stF : Hp} (h : whileF test body fuel loc st = some (f, locF, stF)) (R : Rel B pins ρ st s.heap) (F : Frm ρ st.length s env loc) {Rs : Result → Shared → Prop}
    (q : ∀ ρ' s' fl, Rel B pins ρ' stF s'.heap → Ext ρ st.length (frs env) s ρ' stF.length s' → Frm ρ' stF.length s' env locF → FlR ρ' stF.length s'.heap f fl → Rs (.ok fl) s') :
    codeAny (model prog w) A (.whileLoop t bodyS [] env) Rs s := by
  refine codeAny_whileLoop (WhileInv B pins test body env ρ st.length s (f, locF, stF)) (fun m s1 hI => hI.el fun loc st1 ρ1 h W => ?_) fuel ⟨loc, st, ρ, h, R, F, Ext.refl ..⟩
  refine whileF_el h (fun t1 h h1 => ?_) fun m' t1 f1 l1 t2 h h1 h2 hm => ?_
  · exact htest _ _ false _ h1 ρ1 s1 W.R W.F _ _ fun ρ2 s2 R2 X2 => sm3 (G := fun f l t => (∀ ρ' s' fl, Rel B pins ρ' t s'.heap → Ext ρ st.length (frs env) s ρ' t.length s' → Frm ρ' t.length s' env l → FlR ρ' t.length s'.heap f fl → Rs (.ok fl) s') → wpAny (model prog w) A (execs [] env) (fun fl s' => Rs (.ok fl) s') _ s2) h
      (fun q => wpAny_execs_nil (q ρ2 s2 .next R2 (W.X.trans (X2.wider fun _ hb => hb.elim)) (W.F.keeps W.R rfl X2) .next)) q
  · refine htest _ _ true _ h1 ρ1 s1 W.R W.F _ _ fun ρ2 s2 R2 X2 => ?_
    have X2' := W.X.trans (X2.wider (fr' := frs env) fun _ hb => hb.elim)
    refine hbody _ _ _ _ _ h2 ρ2 s2 R2 (W.F.keeps W.R rfl X2) _ _ fun ρ3 s3 fl R3 X3 F3 V3 => ?_
    cases V3 with
    | next => exact ⟨m', hm, l1, t2, ρ3, h, R3, F3, X2'.trans X3⟩
    | cont => exact ⟨m', hm, l1, t2, ρ3, h, R3, F3, X2'.trans X3⟩
    | brk => exact sm3 (G := fun f l t => (∀ ρ' s' fl, Rel B pins ρ' t s'.heap → Ext ρ st.length (frs env) s ρ' t.length s' → Frm ρ' t.length s' env l → FlR ρ' t.length s'.heap f fl → Rs (.ok fl) s') → Rs (.ok .next) s3) h (fun q => q ρ3 s3 .next R3 (X2'.trans X3) F3 .next) q
    | ret v u hv => exact sm3 (G := fun f l t => (∀ ρ' s' fl, Rel B pins ρ' t s'.heap → Ext ρ st.length (frs env) s ρ' t.length s' → Frm ρ' t.length s' env l → FlR ρ' t.length s'.heap f fl → Rs (.ok fl) s') → Rs (.ok (.ret u)) s3) h (fun q => q ρ3 s3 (.ret u) R3 (X2'.trans X3) F3 (.ret v u hv)) q

theorem for_ok (hex : ExOK prog w B pins n mg mb r.ex) (C : CxOK prog w B pins n mg mb cx) (RA : Room n A) (EO : EnvOK B env) (hs : env.scope = cx.sc) {tgt : PySem.Expr} {b : List Stmt} {src : Src} {f : Fl} {loc' : Loc} {fuel : Nat}
    (h : loopF (bodyB r cx tgt b) src fuel 0 loc st1 = some (f, loc', st'))
    (F : Frm ρ st.length s env loc) {ρ1 : Nat → Addr} {s1 s2 : Shared} (R1 : Rel B pins ρ1 st1 s1.heap) (F1 : Frm ρ1 st1.length s1 env loc) (X1 : Ext ρ st.length noF s ρ1 st1.length s1)
    {it : Value} {a : Addr} {fp : Addr → Prop} {gp : Nat → Prop} {St : Nat → Shared → Prop} {ρ2 : Nat → Addr} (R2 : Rel B pins ρ2 st1 s2.heap) (X2 : Ext ρ1 st1.length noF s1 ρ2 st1.length s2) {z : Bool} (I : Itr prog w B pins A it src a fp gp St z) (h0 : St 0 s2)
    (hfp : ∀ b, fp b → B b = none ∧ s1.heap.get? b = none ∧ ∀ k, k < st1.length → ρ2 k ≠ b) (hg : ∀ g, gp g → s1.gens.size ≤ g) (hl : ∀ k, src = .live k → ρ2 k = a ∧ k < st1.length)
    {Rs : Result → Shared → Prop} (q : ∀ ρ' s' fl, Rel B pins ρ' st' s'.heap → Ext ρ st.length (frs env) s ρ' st'.length s' → Frm ρ' st'.length s' env loc' → FlR ρ' st'.length s'.heap f fl → Rs (.ok fl) s') :
    codeAny (model prog w) A (.forLoop tgt it b [] env) Rs s2 := by
  refine loop_ok (ρ0 := ρ1) (n := st1.length) (s0 := s1) I (fun x loc st f loc' st' hb ρ s u Q E R F V q => ?_) (fun b hb => (hfp b hb).1) (fun b hb hf => ?_) (fun b hb => (hfp b hb).2.1) hg h h0 R2 (F1.keeps R1 rfl X2) (X2.wider fun _ hb => hb.elim) (fun b hb => (hfp b hb).2.2) hl
    fun ρ' s' fl R' X' F' V' => q ρ' s' fl R' ((X1.wider fun _ hb => hb.elim).trans X') F' V'
  · unfold bodyB at hb
    split at hb
    · cases hb
    · rename_i l' hbt
      refine bind_ok EO hs RA.hd hbt R F V _ E fun ρ1 s1 R1 X1 F1 => ?_
      exact exs_ok hex C RA EO hs b l' _ f loc' st' hb ρ1 s1 R1 F1 Q E fun ρ2 s2 fl R2 X2 F2 V2 => q ρ2 s2 fl R2 (X1.trans X2) F2 V2
  · obtain ⟨o, ho, _⟩ := F1.kinds b hb
    rw [(hfp b hf).2.1] at ho; cases ho

theorem load_ok (EO : EnvOK B env) (R : Rel B pins ρ st s.heap) (F : Frm ρ st.length s env loc) {x : Str} {v : V} (g : getL loc x = some v) (Q : Value → Shared → Prop) (E : Value → Shared → Prop)
    (k : ∀ u, RV ρ st.length s.heap v u → Q u s) : wpAny (model prog w) A (loadName env x) Q E s := by
  rcases F.cl x v g with q | ⟨q, c, u, hc, hi, hr⟩
  · obtain ⟨m, hN, hv⟩ := F.ns
    obtain ⟨u, hu, hr⟩ := hv x v g q
    exact wpAny_loadName_local EO.fn q hN hu (k u hr)
  · exact wpAny_loadName_cell EO.fn q hc hi (k u hr)

theorem aug_ok {op : Operator} {a b v : V} {x y : Value} (h : augV op a b = some v) {nn : Nat} {hh : Heap} (V0 : RV ρ nn hh a x) (V1 : RV ρ nn hh b y) (Q : Value → Shared → Prop) (E : Value → Shared → Prop)
    (k : ∀ u tk, s.toks ≤ tk → RV ρ nn hh v u → Q u { s with toks := tk }) : wpAny (model prog w) A (inplaceOp op x y) Q E s := by
  cases op with
  | Add => exact i2_rv (G := fun x y => wpAny (model prog w) A (inplaceOp .Add x y) Q E s) V0 V1 h fun i j t u h => PyProof.Rows.iadd_int (k _ _ (Nat.le_succ _) (Option.some.inj h ▸ .int _ _))
  | Sub => exact i2_rv (G := fun x y => wpAny (model prog w) A (inplaceOp .Sub x y) Q E s) V0 V1 h fun i j t u h => PyProof.Rows.isub_int (k _ _ (Nat.le_succ _) (Option.some.inj h ▸ .int _ _))
  | _ => exact no_el h

/-- all that a statement's step may lean on -/
structure HX (prog : Program) (w : World) (B : Addr → Option Obj) (pins : List (Nat × Addr)) (n : Nat) (mg mb : Str → Option Value) (r : Lv) (cx : Cx) (A : Around) (ρ : Nat → Addr) (st : Hp) (s : Shared) (env : Env) (loc : Loc) : Prop where
  hr : EvOK prog w B pins n mg mb r.ev
  ht : TvOK prog w B pins n mg mb r.tv
  hex : ExOK prog w B pins n mg mb r.ex
  hset : SliceSet prog w B pins
  C : CxOK prog w B pins n mg mb cx
  RA : Room n A
  EO : EnvOK B env
  hs : env.scope = cx.sc
  R : Rel B pins ρ st s.heap
  F : Frm ρ st.length s env loc

theorem Ext.W {ρ' : Nat → Addr} {n m : Nat} (X : Ext ρ n noF s ρ' m s') : Ext ρ n (frs env) s ρ' m s' := X.wider fun _ hb => hb.elim

variable {f fl : Fl} {loc' : Loc} {v : V}
theorem HX.ev (H : HX prog w B pins n mg mb r cx A ρ st s env loc) {e : PySem.Expr} (h : r.ev cx loc st e = some (v, st')) : Does prog w B pins A (eval e env) ρ st s v st' :=
  H.hr.2 cx H.C loc st e v st' h A ρ s env H.RA H.EO H.hs H.R H.F
theorem HX.tv (H : HX prog w B pins n mg mb r cx A ρ st s env loc) {e : PySem.Expr} {b : Bool} (h : r.tv cx loc st e = some (b, st')) : DoesB prog w B pins A (isTrue e env (eval e env)) ρ st s b st' :=
  H.ht cx H.C loc st e b st' h A ρ s env H.RA H.EO H.hs H.R H.F
theorem HX.next (H : HX prog w B pins n mg mb r cx A ρ st s env loc) {ρ1 : Nat → Addr} {s1 : Shared} (R1 : Rel B pins ρ1 st1 s1.heap) (X1 : Ext ρ st.length noF s ρ1 st1.length s1) : HX prog w B pins n mg mb r cx A ρ1 st1 s1 env loc :=
  ⟨H.hr, H.ht, H.hex, H.hset, H.C, H.RA, H.EO, H.hs, R1, H.F.keeps H.R rfl X1⟩
theorem HX.b (H : HX prog w B pins n mg mb r cx A ρ st s env loc) {b : List Stmt} (h : exs (r.ex cx) b loc st = some (f, loc', st')) : DoesS prog w B pins A (execs b env) env ρ st s f loc' st' :=
  exs_ok H.hex H.C H.RA H.EO H.hs b loc st f loc' st' h ρ s H.R H.F

theorem x_expr {e : PySem.Expr} {p : Pos} (H : HX prog w B pins n mg mb r cx A ρ st s env loc) (h : ot (isComp e) (ob (r.ev cx loc st e) fun _ st1 => some (Fl.next, loc, st1)) = some (f, loc', st')) :
    DoesS prog w B pins A (exec (.Expr e p) env) env ρ st s f loc' st' :=
  ot_el h fun h hc => ob_el h fun v st1 h h1 => sm3 (G := fun f l t => DoesS prog w B pins A (exec (.Expr e p) env) env ρ st s f l t) h
    fun Q E q => wpAny_Expr_any (H.ev h1 _ E fun ρ1 s1 u R1 X1 V1 => q ρ1 s1 .next R1 X1.W (H.F.keeps H.R rfl X1) .next) (noninteractive H.EO) (swaps_plain hc)
theorem x_name {x : Str} {px p : Pos} {e : PySem.Expr} (H : HX prog w B pins n mg mb r cx A ρ st s env loc) (h : ou (isLoc cx.sc x && !isComp e) (ob (r.ev cx loc st e) fun v st1 => some (Fl.next, setL loc x v, st1)) = some (f, loc', st')) :
    DoesS prog w B pins A (exec (.Assign [.Name x px] e p) env) env ρ st s f loc' st' :=
  ou_el h fun h hc => ob_el h fun v st1 h h1 => sm3 (G := fun f l t => DoesS prog w B pins A (exec (.Assign [.Name x px] e p) env) env ρ st s f l t) h
    fun Q E q => wpAny_Assign_Name (H.ev h1 _ E fun ρ1 s1 u R1 X1 V1 => store_ok H.EO R1 (H.F.keeps H.R rfl X1) V1 (isLoc_kind H.hs (Bool.and_eq_true_iff.mp hc).1) _ E fun ρ2 s2 R2 X2 F2 => q ρ2 s2 .next R2 (X1.W.trans X2) F2 .next) (swaps_plain (Bool.not_eq_true' _ ▸ (Bool.and_eq_true_iff.mp hc).2))
theorem x_unpack {ts : List PySem.Expr} {k : Nat} {p pq p' : Pos} {o i : PySem.Expr} (H : HX prog w B pins n mg mb r cx A ρ st s env loc)
    (h : (ob (r.ev cx loc st (.Subscript o i pq)) fun v st1 => (bindT cx.sc (.Tuple ts k p) v loc).map fun l => (Fl.next, l, st1)) = some (f, loc', st')) :
    DoesS prog w B pins A (exec (.Assign [.Tuple ts k p] (.Subscript o i pq) p') env) env ρ st s f loc' st' :=
  ob_el h fun v st1 h h1 => om_el h fun l h z => sm3 (G := fun f l t => DoesS prog w B pins A (exec (.Assign [.Tuple ts k p] (.Subscript o i pq) p') env) env ρ st s f l t) h
    fun Q E q => wpAny_Assign_stores (H.ev h1 _ E fun ρ1 s1 u R1 X1 V1 => bind_ok H.EO H.hs H.RA.hd z R1 (H.F.keeps H.R rfl X1) V1 _ E fun ρ2 s2 R2 X2 F2 => q ρ2 s2 .next R2 (X1.W.trans X2) F2 .next) rfl rfl
theorem sliceB_el {o e : PySem.Expr} {P : Prop} {R : Fl × Loc × Hp} (h : sliceB r cx loc st o e = some R)
    (k : ∀ j st1 k st2 xs ys, some (Fl.next, loc, st2.set k xs) = some R → r.ev cx loc st e = some (.lst j, st1) → r.ev cx loc st1 o = some (.lst k, st2) → st2[j]? = some xs → st2[k]? = some ys → ys.length + xs.length ≤ sizeLine ∧ j ≠ k → P) : P := by
  unfold sliceB at h
  refine ob_el h fun v st1 h h1 => ?_
  split at h
  · rename_i i st2 h2
    split at h
    · rename_i j
      split at h
      · rename_i xs ys hj hk
        exact oi_el h fun h hz => k j st1 i st2 xs ys h h1 h2 hj hk hz
      · exact no_el h
    · exact no_el h
  · exact no_el h
theorem x_slice {o e : PySem.Expr} {sp pp p : Pos} (H : HX prog w B pins n mg mb r cx A ρ st s env loc) (h : sliceB r cx loc st o e = some (f, loc', st')) :
    DoesS prog w B pins A (exec (.Assign [.Subscript o (.Slice none none none sp) pp] e p) env) env ρ st s f loc' st' :=
  sliceB_el h fun j st1 k st2 xs ys h h1 h2 hj hk hz => sm3 (G := fun f l t => DoesS prog w B pins A (exec (.Assign [.Subscript o (.Slice none none none sp) pp] e p) env) env ρ st s f l t) h
    fun Q E q => wpAny_Assign_Subscript (H.ev h1 _ E fun ρ1 s1 u R1 X1 V1 => (H.next R1 X1).ev h2 _ E fun ρ2 s2 x R2 X2 V2 =>
      wpAny_Slice (by
        refine wpAny_pure (wpAny_pure (wpAny_pure ?_))
        obtain ⟨rfl, hj1⟩ := V1.lst_inv
        obtain ⟨rfl, hk1⟩ := V2.lst_inv
        rw [← X2.rho j hj1]
        have X3 : Ext ρ2 st2.length noF s2 ρ2 st2.length { s2 with heap := s2.heap.push { cls := .type "slice", data := .fields #[.none, .none, .none] } } := Ext.same (fun _ _ e _ => Heap.get?_push_of_some _ e) rfl rfl (Nat.le_refl _)
        have R3 : Rel B pins ρ2 st2 (s2.heap.push { cls := .type "slice", data := .fields #[.none, .none, .none] }) := R2.push _
        refine H.hset A ρ2 st2 _ k j xs ys H.RA.hd R3 hk hj hz.1 hz.2 _ E _ (Heap.IsSliceOf.new ..) fun ρ4 s4 R4 X4 => ?_
        have X14 := X1.trans (X2.trans (X3.trans X4))
        exact q ρ4 s4 .next R4 X14.W (H.F.keeps H.R rfl X14) .next)) (by cases e <;> rfl)
theorem x_item {o i e : PySem.Expr} {pp p : Pos} (H : HX prog w B pins n mg mb r cx A ρ st s env loc)
    (h : ot (isComp e) (ob (r.ev cx loc st e) fun v st1 => evRef (r.ev cx loc st1 o) fun a st2 => ob (r.ev cx loc st2 i) fun j st3 => oc (cx.setI a) fun g => (g j v st3).map fun st4 => (Fl.next, loc, st4)) = some (f, loc', st')) :
    DoesS prog w B pins A (exec (.Assign [.Subscript o i pp] e p) env) env ρ st s f loc' st' :=
  ot_el h fun h hc => ob_el h fun v st1 h h1 => evRef_el h fun a st2 h h2 => ob_el h fun j st3 h h3 => oc_el h fun g h hg => om_el h fun st4 h z => sm3 (G := fun f l t => DoesS prog w B pins A (exec (.Assign [.Subscript o i pp] e p) env) env ρ st s f l t) h
    fun Q E q => wpAny_Assign_Subscript (H.ev h1 _ E fun ρ1 s1 u R1 X1 V1 => (H.next R1 X1).ev h2 _ E fun ρ2 s2 x R2 X2 V2 => ((H.next R1 X1).next R2 X2).ev h3 _ E fun ρ3 s3 y R3 X3 V3 => by
      obtain rfl := V2.imm_inv
      exact H.C.setI a g hg j v st3 _ z A ρ3 s3 y u _ E H.RA (((H.next R1 X1).next R2 X2).next R3 X3).F.tk R3 V3 ((X2.trans X3).up R1 V1) fun ρ4 s4 R4 X4 => q ρ4 s4 .next R4 (X1.trans (X2.trans (X3.trans X4))).W (H.F.keeps H.R rfl (X1.trans (X2.trans (X3.trans X4)))) .next) (swaps_plain hc)
theorem x_aug {x : Str} {px p : Pos} {op : Operator} {e : PySem.Expr} (H : HX prog w B pins n mg mb r cx A ρ st s env loc)
    (h : ou (isLoc cx.sc x) (oc (getL loc x) fun a => ob (r.ev cx loc st e) fun b st1 => (augV op a b).map fun v => (Fl.next, setL loc x v, st1)) = some (f, loc', st')) :
    DoesS prog w B pins A (exec (.AugAssign (.Name x px) op e p) env) env ρ st s f loc' st' :=
  ou_el h fun h hc => oc_el h fun a h ha => ob_el h fun b st1 h h1 => om_el h fun v h z => sm3 (G := fun f l t => DoesS prog w B pins A (exec (.AugAssign (.Name x px) op e p) env) env ρ st s f l t) h
    fun Q E q => wpAny_AugAssign_Name (load_ok H.EO H.R H.F ha _ E fun u V0 => H.ev h1 _ E fun ρ1 s1 x R1 X1 V1 => aug_ok z (X1.up H.R V0) V1 _ E fun y tk2 htk Vy =>
      have X1' : Ext ρ st.length noF s ρ1 st1.length { s1 with toks := tk2 } := ⟨X1.rho, X1.le, X1.keep, X1.os, X1.bare, X1.gsz, X1.gens, Nat.le_trans X1.tk htk⟩
      store_ok (s := { s1 with toks := tk2 }) H.EO R1 (H.F.keeps H.R rfl X1') Vy (isLoc_kind H.hs hc) _ E fun ρ2 s2 R2 X2 F2 => q ρ2 s2 .next R2 (X1'.W.trans X2) F2 .next)
theorem x_ret {e : PySem.Expr} {p : Pos} (H : HX prog w B pins n mg mb r cx A ρ st s env loc) (h : (ob (r.ev cx loc st e) fun v st1 => some (Fl.ret v, loc, st1)) = some (f, loc', st')) :
    DoesS prog w B pins A (exec (.Return (some e) p) env) env ρ st s f loc' st' :=
  ob_el h fun v st1 h h1 => sm3 (G := fun f l t => DoesS prog w B pins A (exec (.Return (some e) p) env) env ρ st s f l t) h
    fun Q E q => wpAny_Return_some (H.ev h1 _ E fun ρ1 s1 u R1 X1 V1 => q ρ1 s1 (.ret u) R1 X1.W (H.F.keeps H.R rfl X1) (.ret v u V1))
theorem x_if {t : PySem.Expr} {b e : List Stmt} {p : Pos} (H : HX prog w B pins n mg mb r cx A ρ st s env loc) (h : oif (r.tv cx loc st t) (fun st1 => exs (r.ex cx) b loc st1) (fun st1 => exs (r.ex cx) e loc st1) = some (f, loc', st')) :
    DoesS prog w B pins A (exec (.If t b e p) env) env ρ st s f loc' st' :=
  oif_el h fun c st1 h h1 Q E q => wpAny_If (H.tv h1 _ E fun ρ1 s1 R1 X1 => by
    cases c with
    | true => exact (H.next R1 X1).b (b := b) h Q E fun ρ2 s2 fl R2 X2 F2 V2 => q ρ2 s2 fl R2 (X1.W.trans X2) F2 V2
    | false => exact (H.next R1 X1).b (b := e) h Q E fun ρ2 s2 fl R2 X2 F2 V2 => q ρ2 s2 fl R2 (X1.W.trans X2) F2 V2)
theorem x_for {tgt it : PySem.Expr} {b : List Stmt} {p : Pos} (H : HX prog w B pins n mg mb r cx A ρ st s env loc) (hset : isSet it = false)
    (h : (ob (r.ev cx loc st it) fun v st1 => oc (srcOf v) fun src => loopF (bodyB r cx tgt b) src fuelF 0 loc st1) = some (f, loc', st')) :
    DoesS prog w B pins A (exec (.For tgt it b [] p) env) env ρ st s f loc' st' :=
  ob_el h fun v st1 h h1 => oc_el h fun src h hsrc Q E q => wpAny_For (H.ev h1 _ E fun ρ1 s1 u R1 X1 V1 => iter_ok H.RA.hd R1 V1 hsrc _ E fun ρ2 s2 itv a fp gp St R2 X2 I h0 hfp hg hl =>
    for_ok H.hex H.C H.RA H.EO H.hs h H.F R1 (H.F.keeps H.R rfl X1) X1 R2 X2 I h0 hfp hg hl q) (fun x => by cases it <;> first | rfl | cases hset)
theorem x_gen {tgt : PySem.Expr} {ff : Str} {np cp p : Pos} {args : List PySem.Expr} {b : List Stmt} {fv : Value} {g : List V → Option (List V)} (H : HX prog w B pins n mg mb r cx A ρ st s env loc) (hfv : nameV cx loc ff = some (.imm fv)) (hg : cx.gen fv = some g)
    (h : ot (decide (ff = ("__debug__" : Str))) (ob (evs (r.ev cx) loc args st) fun vs st1 => oc (g vs) fun items => loopF (bodyB r cx tgt b) (.items items) fuelF 0 loc st1) = some (f, loc', st')) :
    DoesS prog w B pins A (exec (.For tgt (.Call (.Name ff np) args [] cp) b [] p) env) env ρ st s f loc' st' :=
  ot_el h fun h hd => ob_el h fun vs st1 h h1 => oc_el h fun items h hi Q E q => by
    refine wpAny_For ?_ (fun x => rfl)
    rw [eval_Call_plain fun o m p e => by cases e]
    refine wpAny_bind (name_ok H.C H.EO H.hs H.R H.F hfv hd _ E fun ρ1 s1 u R1 X1 V1 => ?_)
    obtain rfl := V1.imm_inv
    refine callWith_k (kws := []) (kn := []) H.hr H.C H.RA H.EO H.hs (H.C.gen _ _ hg).1 rfl (by rw [List.map_nil, List.append_nil]; exact h1) R1 (H.next R1 X1).F fun ρ2 s2 us ks R2 X2 V2 hl => ?_
    obtain rfl := List.eq_nil_of_length_eq_zero hl
    rw [List.append_nil] at V2
    exact (H.C.gen _ _ hg).2 vs items hi A ρ2 st1 s2 us H.RA ((H.next R1 X1).next R2 X2).F.tk R2 V2 _ E fun ρ3 s3 itv a fp gp St R3 X3 I h0 hfp hgp hl =>
      for_ok H.hex H.C H.RA H.EO H.hs h H.F R2 ((H.next R1 X1).next R2 X2).F (X1.trans X2) R3 X3 I h0 hfp hgp hl q
theorem x_del {o i : PySem.Expr} {pp p : Pos} (H : HX prog w B pins n mg mb r cx A ρ st s env loc)
    (h : (evRef (r.ev cx loc st o) fun a st1 => ob (r.ev cx loc st1 i) fun j st2 => oc (cx.delI a) fun g => (g j st2).map fun st3 => (Fl.next, loc, st3)) = some (f, loc', st')) :
    DoesS prog w B pins A (exec (.Delete [.Subscript o i pp] p) env) env ρ st s f loc' st' :=
  evRef_el h fun a st1 h h1 => ob_el h fun j st2 h h2 => oc_el h fun g h hg => om_el h fun st3 h z => sm3 (G := fun f l t => DoesS prog w B pins A (exec (.Delete [.Subscript o i pp] p) env) env ρ st s f l t) h
    fun Q E q => wpAny_Delete (wpAny_deleteEach_cons (wpAny_delete_Subscript (H.ev h1 _ E fun ρ1 s1 x R1 X1 V1 => (H.next R1 X1).ev h2 _ E fun ρ2 s2 y R2 X2 V2 => by
      obtain rfl := V1.imm_inv
      exact H.C.delI a g hg j st2 _ z A ρ2 s2 y _ E H.RA ((H.next R1 X1).next R2 X2).F.tk R2 V2 fun ρ3 s3 R3 X3 => wpAny_deleteEach_nil (q ρ3 s3 .next R3 (X1.trans (X2.trans X3)).W (H.F.keeps H.R rfl (X1.trans (X2.trans X3))) .next))))
theorem x_try {b : List Stmt} {hd : ExceptHandler} {hds : List ExceptHandler} {p : Pos} (H : HX prog w B pins n mg mb r cx A ρ st s env loc) (h : exs (r.ex cx) b loc st = some (f, loc', st')) :
    DoesS prog w B pins A (exec (.Try b (hd :: hds) [] [] p) env) env ρ st s f loc' st' := fun Q E q =>
  wpAny_Try_except (H.b h _ _ fun ρ1 s1 fl R1 X1 F1 V1 => by
    cases V1 with
    | next => exact wpAny_execs_nil (q ρ1 s1 .next R1 X1 F1 .next)
    | brk => exact q ρ1 s1 .brk R1 X1 F1 .brk
    | cont => exact q ρ1 s1 .cont R1 X1 F1 .cont
    | ret v u hv => exact q ρ1 s1 (.ret u) R1 X1 F1 (.ret v u hv))
theorem genN_el {x : Str} {P : Prop} {g : List V → Option (List V)} (h : genN cx loc x = some g) (k : ∀ fv, nameV cx loc x = some (.imm fv) → cx.gen fv = some g → P) : P := by
  unfold genN at h
  split at h
  · rename_i fv e
    exact k fv e h
  · exact no_el h
theorem x_forc {tgt f : PySem.Expr} {cp p : Pos} {args : List PySem.Expr} {b : List Stmt} (H : HX prog w B pins n mg mb r cx A ρ st s env loc)
    (h : forG r cx loc st tgt args b cp f = some (fl, loc', st')) : DoesS prog w B pins A (exec (.For tgt (.Call f args [] cp) b [] p) env) env ρ st s fl loc' st' := by
  cases f with
  | Name ff np =>
    change (match genN cx loc ff with
      | some g => ot (decide (ff = ("__debug__" : Str))) (ob (evs (r.ev cx) loc args st) fun vs st1 => oc (g vs) fun items => loopF (bodyB r cx tgt b) (.items items) fuelF 0 loc st1)
      | none => forI r cx loc st tgt (.Call (.Name ff np) args [] cp) b) = _ at h
    cases z : genN cx loc ff with
    | some g =>
      rw [z] at h
      exact genN_el z fun fv h1 h2 => x_gen H h1 h2 h
    | none =>
      rw [z] at h
      exact x_for H rfl h
  | _ => exact x_for H rfl h
theorem x_put {o i e : PySem.Expr} {q p : Pos} (H : HX prog w B pins n mg mb r cx A ρ st s env loc) (h : putB r cx loc st o e i = some (f, loc', st')) : DoesS prog w B pins A (exec (.Assign [.Subscript o i q] e p) env) env ρ st s f loc' st' := by
  unfold putB at h
  cases e1 : isFull i with
  | true =>
    rw [e1] at h
    obtain ⟨q', rfl⟩ := isFull_el e1
    exact x_slice H h
  | false =>
    rw [e1] at h
    exact x_item H h
theorem x_assign {t e : PySem.Expr} {p : Pos} (H : HX prog w B pins n mg mb r cx A ρ st s env loc) (h : asgB r cx loc st e t = some (f, loc', st')) : DoesS prog w B pins A (exec (.Assign [t] e p) env) env ρ st s f loc' st' := by
  cases t with
  | Name x px => exact x_name H h
  | Tuple ts k p =>
    cases e with
    | Subscript o i q => exact x_unpack H h
    | _ => exact no_el h
  | Subscript o i q => exact x_put H h
  | _ => exact no_el h
theorem x_delt {t : PySem.Expr} {p : Pos} (H : HX prog w B pins n mg mb r cx A ρ st s env loc) (h : delB r cx loc st t = some (f, loc', st')) : DoesS prog w B pins A (exec (.Delete [t] p) env) env ρ st s f loc' st' := by
  cases t with
  | Subscript o i q => exact x_del H h
  | _ => exact no_el h
theorem x_fort {tgt it : PySem.Expr} {b : List Stmt} {p : Pos} (H : HX prog w B pins n mg mb r cx A ρ st s env loc) (h : forB' r cx loc st tgt b it = some (f, loc', st')) : DoesS prog w B pins A (exec (.For tgt it b [] p) env) env ρ st s f loc' st' := by
  cases it with
  | Call f args kws cp =>
    cases kws with
    | cons => exact x_for H rfl h
    | nil => exact x_forc H h
  | Set => exact no_el h
  | _ => exact x_for H rfl h

theorem nextEx_hx {c : Stmt} (H : HX prog w B pins n mg mb r cx A ρ st s env loc) (h : nextEx r cx loc st c = some (f, loc', st')) : DoesS prog w B pins A (exec c env) env ρ st s f loc' st' := by
  cases c with
  | Pass p => exact sm3 (G := fun f l t => DoesS prog w B pins A (exec (.Pass p) env) env ρ st s f l t) h fun Q E q => wpAny_Pass (q ρ s .next H.R (Ext.refl ..) H.F .next)
  | Expr e p => exact x_expr H h
  | Assign ts e p => exact two2_el h fun t h e1 => e1 ▸ x_assign H h
  | AugAssign t op e p =>
    cases t with
    | Name x px => exact x_aug H h
    | _ => exact no_el h
  | Return e p =>
    cases e with
    | some e => exact x_ret H h
    | none => exact sm3 (G := fun f l t => DoesS prog w B pins A (exec (.Return none p) env) env ρ st s f l t) h fun Q E q => wpAny_Return_none (q ρ s (.ret .none) H.R (Ext.refl ..) H.F (.ret _ _ .none))
  | If t b e p => exact x_if H h
  | While t b e p =>
    cases e with
    | nil => exact fun Q E q => wpAny_While (while_ok (test := fun l u => r.tv cx l u t) (body := fun l u => exs (r.ex cx) b l u) (fun l u bb u' hh ρ s R F => H.ht cx H.C l u t bb u' hh A ρ s env H.RA H.EO H.hs R F)
        (fun l u ff l' u' hh ρ s R F => exs_ok H.hex H.C H.RA H.EO H.hs b l u ff l' u' hh ρ s R F) h H.R H.F q)
    | cons => exact no_el h
  | For tgt it b e p =>
    cases e with
    | cons => exact no_el h
    | nil => exact x_fort H h
  | Delete ts p => exact two2_el h fun t h e1 => e1 ▸ x_delt H h
  | Try b hs e fn p =>
    cases hs with
    | nil => exact no_el h
    | cons hd hds =>
      cases e with
      | cons => exact no_el h
      | nil =>
        cases fn with
        | cons => exact no_el h
        | nil => exact x_try H h
  | _ => exact no_el h

theorem nextEx_ok (hr : EvOK prog w B pins n mg mb r.ev) (ht : TvOK prog w B pins n mg mb r.tv) (hex : ExOK prog w B pins n mg mb r.ex) (hset : SliceSet prog w B pins) : ExOK prog w B pins n mg mb (nextEx r) :=
  fun cx C loc st c f loc' st' h A ρ s env RA EO hs R F => nextEx_hx ⟨hr, ht, hex, hset, C, RA, EO, hs, R, F⟩ h
end
end Uq
end

section
open PySem PySem.Calls PyProof.Rows
namespace Uq

section
variable {prog : Program} {w : World} {B : Addr → Option Obj} {pins : List (Nat × Addr)} {n : Nat} {mg mb : Str → Option Value} {cx : Cx} {A : Around} {ρ ρ0 : Nat → Addr} {st st' st0 st1 st2 st3 : Hp} {s s' s0 : Shared} {env : Env} {loc : Loc}
variable {r : Lv} {it : Value} {src : Src} {a : Addr} {fp : Addr → Prop} {gp : Nat → Prop} {St : Nat → Shared → Prop}

theorem relabel_eq {sc : Scope} (hk : env.scope.kind = .function) : relabel sc env = compScope sc env.scope := by
  unfold relabel compScope
  congr 1
  apply List.map_congr_left
  intro p _
  obtain ⟨n, k⟩ := p
  have h1 : (env.scope.kind == ScopeKind.function) = true := by rw [hk]; rfl
  have h2 : (env.kindOf n == some NameKind.cell) = decide (env.scope.names.lookup n = some .cell) := by
    show (env.scope.names.lookup n == some NameKind.cell) = _
    by_cases h : env.scope.names.lookup n = some .cell
    · rw [h]; rfl
    · simp [h]
  simp only [h1, h2, Bool.and_true]

theorem clos_gen : ∀ (names : List (Str × NameKind)) (cs : List (Str × Addr)), (∀ p ∈ names, p.2 = .free → ∃ c, env.cells.lookup p.1 = some c) → (∀ x c, cs.lookup x = some c → env.cells.lookup x = some c) →
    ∃ cl, (forIn names cs fun (p : Str × NameKind) (r : List (Str × Addr)) => (if (p.2 == NameKind.free) = true then (do let c ← cellOf env p.1; pure (ForInStep.yield ((p.1, c) :: r))) else pure (ForInStep.yield r) : Sem _)) = pure cl ∧
      (∀ x c, cl.lookup x = some c → env.cells.lookup x = some c) ∧ (∀ p ∈ names, p.2 = .free → ∃ c, cl.lookup p.1 = some c) ∧ (∀ x c, cs.lookup x = some c → ∃ c', cl.lookup x = some c')
  | [], cs, _, h2 => ⟨cs, rfl, h2, (fun p hp _ => by cases hp), fun x c h => ⟨c, h⟩⟩
  | p :: names, cs, h1, h2 => by
    obtain ⟨x, k⟩ := p
    by_cases hk : k = .free
    · subst hk
      obtain ⟨c, hc⟩ := h1 (x, .free) (by simp) rfl
      obtain ⟨cl, e1, e2, e3, e4⟩ := clos_gen names ((x, c) :: cs) (fun p hp => h1 p (by simp [hp])) (fun y c' h => by
        by_cases hy : y = x
        · subst hy
          rw [List.lookup_cons_self] at h
          cases h; exact hc
        · rw [List.lookup_cons, beq_false_of_ne hy] at h
          exact h2 y c' h)
      refine ⟨cl, ?_, e2, fun p hp hf => ?_, fun y c' h => ?_⟩
      · rw [List.forIn_cons]
        have : cellOf env x = pure c := by unfold cellOf; rw [hc]
        simp only [beq_self_eq_true, if_true, this]
        exact e1
      · rcases List.mem_cons.mp hp with rfl | hp
        · exact e4 x c (by rw [List.lookup_cons_self])
        · exact e3 p hp hf
      · by_cases hy : y = x
        · subst hy
          exact e4 y c (by rw [List.lookup_cons_self])
        · exact e4 y c' (by rw [List.lookup_cons, beq_false_of_ne hy]; exact h)
    · obtain ⟨cl, e1, e2, e3, e4⟩ := clos_gen names cs (fun p hp => h1 p (by simp [hp])) h2
      refine ⟨cl, ?_, e2, fun p hp hf => ?_, e4⟩
      · rw [List.forIn_cons]
        have : (k == NameKind.free) = false := beq_false_of_ne hk
        simp only [this, Bool.false_eq_true, if_false]
        exact e1
      · rcases List.mem_cons.mp hp with rfl | hp
        · exact absurd hf hk
        · exact e3 p hp hf

theorem clos_ok {sc : Scope} (h1 : ∀ p ∈ sc.names, p.2 = .free → ∃ c, env.cells.lookup p.1 = some c) : ∃ cl, closureFor sc env = pure cl ∧ (∀ x c, cl.lookup x = some c → env.cells.lookup x = some c) ∧ (∀ p ∈ sc.names, p.2 = .free → ∃ c, cl.lookup p.1 = some c) := by
  obtain ⟨cl, e1, e2, e3, _⟩ := clos_gen sc.names [] h1 (fun _ _ h => by cases h)
  refine ⟨cl, ?_, e2, e3⟩
  show ((forIn sc.names [] fun (p : Str × NameKind) (r : List (Str × Addr)) => (if (p.2 == NameKind.free) = true then (do let c ← cellOf env p.1; pure (ForInStep.yield ((p.1, c) :: r))) else pure (ForInStep.yield r) : Sem _)) >>= fun r => pure r) = pure cl
  rw [e1]; rfl

theorem freeLoc_ok {sc esc : Scope} {x : Str} {v : V} : ∀ {names : List (Str × NameKind)}, getL (names.foldr (fun p r => match decide ((compScope sc esc).names.lookup p.1 = some .cell) && decide (esc.names.lookup p.1 = some .cell) with
  | true => match getL loc p.1 with
    | some v => (p.1, v) :: r
    | none => r
  | false => r) []) x = some v → getL loc x = some v ∧ (compScope sc esc).names.lookup x = some .cell ∧ esc.names.lookup x = some .cell
  | [], h => by cases h
  | p :: names, h => by
    rw [List.foldr_cons] at h
    split at h
    · rename_i hc
      simp only [Bool.and_eq_true, decide_eq_true_eq] at hc
      split at h
      · rename_i u hu
        rw [getL_cons] at h
        by_cases hx : p.1 = x
        · rw [if_pos hx] at h
          cases h
          subst hx
          exact ⟨hu, hc⟩
        · rw [if_neg hx] at h
          exact freeLoc_ok h
      · exact freeLoc_ok h
    · exact freeLoc_ok h

theorem tests_false {f : PySem.Expr → Bool → Sem (ForInStep Bool)} (hf : ∀ c, f c false = pure (ForInStep.yield false)) : ∀ es : List PySem.Expr, forIn es false f = (pure false : Sem Bool)
  | [] => rfl
  | e :: es => by
    rw [List.forIn_cons, hf]
    exact tests_false hf es

theorem tests_ok (H : TvOK prog w B pins n mg mb r.tv) (C : CxOK prog w B pins n mg mb cx) (RA : Room n A) (EO : EnvOK B env) (hs : env.scope = cx.sc) :
    ∀ (es : List PySem.Expr) (st : Hp) (b : Bool) (st' : Hp), tvs (r.tv cx) loc true es st = some (b, st') → ∀ ρ s, Rel B pins ρ st s.heap → Frm ρ st.length s env loc →
      DoesB prog w B pins A (forIn es true fun c r => if r = true then do let ok ← isTrue c env (eval c env); pure (ForInStep.yield ok) else pure (ForInStep.yield r)) ρ st s b st'
  | [], st, b, st', h, ρ, s, R, F => by
    cases h
    exact fun Q E k => wpAny_pure (k ρ s R (Ext.refl ..))
  | e :: es, st, b, st', h, ρ, s, R, F => by
    unfold tvs at h
    intro Q E k
    rw [List.forIn_cons]
    simp only [if_true]
    split at h
    · cases h
    · rename_i c st1 h1
      refine wpAny_bind (wpAny_bind (H cx C loc st e c st1 h1 A ρ s env RA EO hs R F _ E fun ρ1 s1 R1 X1 => ?_))
      refine wpAny_pure ?_
      cases c with
      | false =>
        cases h
        show wpAny _ _ (forIn es false _) _ _ _
        rw [tests_false (fun c => by simp)]
        exact wpAny_pure (k ρ1 s1 R1 X1)
      | true =>
        exact tests_ok H C RA EO hs es st1 b st' h ρ1 s1 R1 (F.keeps R rfl X1) Q E fun ρ2 s2 R2 X2 => k ρ2 s2 R2 (X1.trans X2)

theorem compLoop_own {elt target iter : PySem.Expr} {ifs : List PySem.Expr} {scope : Scope} {pos : Pos} {it acc : Value} {env : Env} {R : Result → Shared → Prop} (I : Nat → Shared → Prop)
    (turn : ∀ n s, I n s → ∀ E, wpAny (model prog w) A (pyNext it) (fun r s₁ => match r with
      | none => R (.ok .next) s₁
      | some v => wpAny (model prog w) A (letOwnedTupleGo target it v) (fun _ s₁ => wpAny (model prog w) A (assign target env v) (fun _ s₂ =>
          wpAny (model prog w) A (forIn ifs true fun c r => if r = true then do let ok ← isTrue c env (eval c env); pure (ForInStep.yield ok) else pure (ForInStep.yield r)) (fun ok s₃ =>
            if ok = true then wpAny (model prog w) A (eval elt env) (fun x s₄ =>
              wpAny (model prog w) A (call (.builtin "list.append") [acc, x]) (fun _ s₅ => ∃ m, m < n ∧ I m s₅) E s₄) E s₃
            else ∃ m, m < n ∧ I m s₃) E s₂) E s₁) E s₁) E s)
    (n : Nat) (h : I n s) : codeAny (model prog w) A (.compLoop (.ListComp elt [⟨target, iter, ifs, 0⟩] scope pos) 0 it acc env) R s := by
  refine codeAny_loop rfl I (fun n s hI => ?_) n h
  show wpAny _ A ((compTurn (.ListComp elt [⟨target, iter, ifs, 0⟩] scope pos) 0 it acc env).onRaise (fun x => do noteFrame x env; theTreesLotGoes x)) _ _ s
  refine wpAny_noted ?_
  rw [compTurn_list]
  refine wpAny_bind (wpAny_standAt (wpAny_bind (wpAny_mono (turn n s hI _) (fun r s₁ h₁ => ?_) fun _ _ h' => h')))
  cases r with
  | none => exact wpAny_pure h₁
  | some v =>
    refine wpAny_bind (wpAny_mono h₁ (fun _ s₁ h₁ => ?_) fun _ _ h' => h')
    refine wpAny_bind (wpAny_mono h₁ (fun _ s₂ h₂ => wpAny_bind (wpAny_mono h₂ (fun ok s₃ h₃ => ?_) fun _ _ h' => h')) fun _ _ h' => h')
    cases ok with
    | false => exact wpAny_pure ⟨rfl, h₃⟩
    | true =>
      exact wpAny_bind (wpAny_bind (wpAny_mono h₃ (fun x s₄ h₄ => wpAny_bind (wpAny_mono h₄ (fun _ s₅ h₅ => wpAny_pure (wpAny_pure ⟨rfl, h₅⟩)) fun _ _ h' => h')) fun _ _ h' => h'))

theorem Ext.drop {fr : Addr → Prop} {n' : Nat} {ρ' : Nat → Addr} (X : Ext ρ n fr s ρ' n' s') (h : ∀ b, fr b → s.heap.get? b = none) : Ext ρ n noF s ρ' n' s' :=
  { X with keep := fun b o e h1 _ => X.keep b o e h1 fun hb => by rw [h b hb] at e; cases e }

noncomputable def CompInv (B : Addr → Option Obj) (pins : List (Nat × Addr)) (body : V → Loc → Hp → Option (Fl × Loc × Hp)) (src : Src) (a : Addr) (fp : Addr → Prop) (St : Nat → Shared → Prop) (env : Env) (ρ0 : Nat → Addr) (n : Nat) (s0 : Shared) (k : Nat) (D : Addr) (res : Fl × Loc × Hp) (m : Nat) (s : Shared) : Prop :=
  ∃ i loc st ρ, loopF body src m i loc st = some res ∧ LA B pins env (fun b => b = env.locals) ρ0 n s0 src a fp St i loc st ρ s ∧ ρ k = D ∧ k < st.length
theorem CompInv.el {P : Prop} {body : V → Loc → Hp → Option (Fl × Loc × Hp)} {k : Nat} {D : Addr} {res : Fl × Loc × Hp} {m : Nat} (h : CompInv B pins body src a fp St env ρ0 n s0 k D res m s)
    (g : ∀ i loc st ρ, loopF body src m i loc st = some res → LA B pins env (fun b => b = env.locals) ρ0 n s0 src a fp St i loc st ρ s → ρ k = D → k < st.length → P) : P := by
  obtain ⟨i, loc, st, ρ, h, L, e, l⟩ := h
  exact g i loc st ρ h L e l

/-- one turn of a comprehension -/
theorem compTurn_ok (ht : TvOK prog w B pins n mg mb r.tv) (hr : EvOK prog w B pins n mg mb r.ev) (C : CxOK prog w B pins n mg mb cx) (RA : Room n A) (EO : EnvOK B env) (hs : env.scope = cx.sc) {tgt elt : PySem.Expr} {ifs : List PySem.Expr} {k : Nat} {D : Addr}
    (htg : tgtOK cx.sc tgt = true) {x : V} {u : Value} {f1 : Fl} {l1 : Loc} {t1 : Hp} (h : compB (bindT cx.sc tgt) (fun l t => tvs (r.tv cx) l true ifs t) (fun l t => r.ev cx l t elt) k x loc st = some (f1, l1, t1)) (R : Rel B pins ρ st s.heap) (F : Frm ρ st.length s env loc) (V : RV ρ st.length s.heap x u)
    (hD : ρ k = D) (hkl : k < st.length) {G : Shared → Prop} {E : Value → Shared → Prop} (q : ∀ ρ' s', Rel B pins ρ' t1 s'.heap → Ext ρ st.length (fun b => b = env.locals) s ρ' t1.length s' → Frm ρ' t1.length s' env l1 → f1 = .next → ρ' k = D → k < t1.length → G s') :
    wpAny (model prog w) A (assign tgt env u) (fun _ s₂ =>
      wpAny (model prog w) A (forIn ifs true fun c r => if r = true then do let ok ← isTrue c env (eval c env); pure (ForInStep.yield ok) else pure (ForInStep.yield r)) (fun ok s₃ =>
      if ok = true then wpAny (model prog w) A (eval elt env) (fun x s₄ => wpAny (model prog w) A (call (.builtin "list.append") [.ref D, x]) (fun _ s₅ => G s₅) E s₄) E s₃
      else G s₃) E s₂) E s := by
  have W : ∀ {ρ n s ρ' n' s'}, Ext ρ n noF s ρ' n' s' → Ext ρ n (fun b => b = env.locals) s ρ' n' s' := fun X => X.wider fun _ hb => hb.elim
  have B : ∀ {loc'}, bindT cx.sc tgt x loc = some loc' → DoesUF prog w B pins (fun b => b = env.locals) A (assign tgt env u) env ρ st s loc' st := fun hbt => bind_gen (fr := fun b => b = env.locals) (fun b hb => .inl hb) RA.hd hbt (fun x p hx hl v u loc ρ s R F V => store_loc EO R F V (by
    have := List.all_eq_true.mp htg _ hx
    show env.scope.names.lookup x = _
    rw [hs]
    exact of_decide_eq_true this)) R F V
  refine compB_el h (fun loc' t h hb h1 => ?_) fun loc' t v t2 xs h hb h1 h2 h3 h4 => ?_
  · exact B hb _ E fun ρ2 s2 R2 X2 F2 => tests_ok ht C RA EO hs ifs _ _ _ h1 ρ2 s2 R2 F2 _ E fun ρ3 s3 R3 X3 => sm3 (G := fun f l t => (∀ ρ' s', Rel _ pins ρ' t s'.heap → Ext ρ st.length (fun b => b = env.locals) s ρ' t.length s' → Frm ρ' t.length s' env l → f = .next → ρ' k = D → k < t.length → G s') → G s3) h (fun q => q ρ3 s3 R3 (X2.trans (W X3)) (F2.keeps R2 rfl X3) rfl (((X2.trans (W X3)).rho k hkl).trans hD) (Nat.lt_of_lt_of_le hkl (X2.trans (W X3)).le)) q
  · exact B hb _ E fun ρ2 s2 R2 X2 F2 => tests_ok ht C RA EO hs ifs _ _ _ h1 ρ2 s2 R2 F2 _ E fun ρ3 s3 R3 X3 => hr.2 cx C _ _ elt _ _ h2 A ρ3 s3 env RA EO hs R3 (F2.keeps R2 rfl X3) _ E fun ρ4 s4 y R4 X4 V4 => by
      have X24 := X2.trans ((W X3).trans (W X4))
      have e4 := (X24.rho k hkl).trans hD
      rw [← e4]
      exact append_ok R4 (Nat.lt_of_lt_of_le hkl X24.le) h3 h4 V4 _ E fun ρ5 s5 z R5 X5 V5 => sm3 (G := fun f l t => (∀ ρ' s', Rel _ pins ρ' t s'.heap → Ext ρ st.length (fun b => b = env.locals) s ρ' t.length s' → Frm ρ' t.length s' env l → f = .next → ρ' k = D → k < t.length → G s') → G s5) h (fun q => q ρ5 s5 R5 (X24.trans (W X5)) (((F2.keeps R2 rfl X3).keeps R3 rfl X4).keeps R4 rfl X5) rfl (((X24.trans (W X5)).rho k hkl).trans hD) (Nat.lt_of_lt_of_le hkl (X24.trans (W X5)).le)) q

theorem compLoop_ok (ht : TvOK prog w B pins n mg mb r.tv) (hr : EvOK prog w B pins n mg mb r.ev) (C : CxOK prog w B pins n mg mb cx) (RA : Room n A) (EO : EnvOK B env) (hs : env.scope = cx.sc) {tgt elt iter : PySem.Expr} {ifs : List PySem.Expr} {sc : Scope} {pos : Pos} {k : Nat} {D : Addr}
    {z : Bool} (I : Itr prog w B pins A it src a fp gp St z) (htg : tgtOK cx.sc tgt = true) {n0 : Nat}
    (hB : ∀ b, fp b → B b = none) (hfr : ∀ b, frs env b → ¬ fp b) (hnew : ∀ b, fp b → s0.heap.get? b = none) (hg : ∀ g, gp g → s0.gens.size ≤ g)
    {i fuel : Nat} {f : Fl} {locF : Loc} {stF : Hp} (h : loopF (compB (bindT cx.sc tgt) (fun l t => tvs (r.tv cx) l true ifs t) (fun l t => r.ev cx l t elt) k) src fuel i loc st = some (f, locF, stF)) (hst : St i s) (R : Rel B pins ρ st s.heap) (F : Frm ρ st.length s env loc) (X : Ext ρ0 n0 (fun b => b = env.locals) s0 ρ st.length s)
    (hk : ∀ b, fp b → ∀ k, k < st.length → ρ k ≠ b) (hlive : ∀ k, src = .live k → ρ k = a ∧ k < st.length) (hD : ρ k = D) (hkl : k < st.length) {Rs : Result → Shared → Prop}
    (q : ∀ ρ' s', Rel B pins ρ' stF s'.heap → Ext ρ0 n0 (fun b => b = env.locals) s0 ρ' stF.length s' → Frm ρ' stF.length s' env locF → ρ' k = D → k < stF.length → Rs (.ok .next) s') :
    codeAny (model prog w) A (.compLoop (.ListComp elt [⟨tgt, iter, ifs, 0⟩] sc pos) 0 it (.ref D) env) Rs s := by
  have H : LH B env (fun b => b = env.locals) s0 fp gp := ⟨hB, hfr, fun b hb => hfr b (.inl hb), hnew, hg⟩
  refine compLoop_own (CompInv B pins (compB (bindT cx.sc tgt) (fun l t => tvs (r.tv cx) l true ifs t) (fun l t => r.ev cx l t elt) k) src a fp St env ρ0 n0 s0 k D (f, locF, stF)) (fun m s hI E => hI.el fun i loc st ρ h L hD hkl => ?_) fuel ⟨i, loc, st, ρ, h, ⟨hst, R, F, X, hk, hlive⟩, hD, hkl⟩
  refine loopF_el h (fun h e => ?_) fun m' x f1 l1 t1 h h1 e hm => ?_
  · exact sm3 (G := fun f l t => (∀ ρ' s', Rel B pins ρ' t s'.heap → Ext ρ0 n0 (fun b => b = env.locals) s0 ρ' t.length s' → Frm ρ' t.length s' env l → ρ' k = D → k < t.length → Rs (.ok .next) s') → wpAny (model prog w) A (pyNext it) _ _ s) h (fun q => I.done i ρ _ s _ _ L.stt L.R (fun k e => (L.live k e).1) e fun s' M => q ρ s' (L.rel H I M) (L.ext H M) (L.frm H I M) hD hkl) q
  · refine I.item i x ρ st s _ _ L.stt L.R (fun k e => (L.live k e).1) e fun s1 u hst1 M V => I.own (i + 1) _ _ s1 _ _ hst1 (compTurn_ok (G := fun s => ∃ m', m' < m ∧ CompInv B pins _ src a fp St env ρ0 n0 s0 k D (f, locF, stF) m' s) ht hr C RA EO hs htg h1 (L.rel H I M) (L.frm H I M) V hD hkl fun ρ2 s2 R2 X2 F2 hn h5 h6 => ?_)
    subst hn
    exact ⟨m', hm, i + 1, l1, t1, ρ2, h, L.goes H I M hst1 X2 R2 F2, h5, h6⟩
end
end Uq
end

section
open PySem PySem.Calls PyProof.Rows
namespace Uq

section
variable {prog : Program} {w : World} {B : Addr → Option Obj} {pins : List (Nat × Addr)} {n : Nat} {mg mb : Str → Option Value} {cx : Cx} {A : Around} {ρ ρ0 : Nat → Addr} {st st' st0 st1 st2 st3 : Hp} {s s' s0 : Shared} {env : Env} {loc : Loc}
variable {r : Lv}

theorem compOK_facts {sc esc : Scope} {t : PySem.Expr} (h : compOK sc esc t = true) : sc.kind = .function ∧ (∀ p ∈ sc.names, p.2 ≠ .cell) ∧ (∀ p ∈ sc.names, p.2 = .free → esc.names.lookup p.1 = some .cell) ∧
    (∀ p ∈ sc.names, p.2 = .local → sc.names.lookup p.1 = some .local) ∧ tgtOK (compScope sc esc) t = true := by
  unfold compOK at h
  simp only [Bool.and_eq_true, decide_eq_true_eq] at h
  obtain ⟨⟨h1, h2⟩, h3⟩ := h
  have h2 := fun p hp => List.all_eq_true.mp h2 p hp
  refine ⟨h1, fun p hp e => ?_, fun p hp e => ?_, fun p hp e => ?_, h3⟩
  · have := h2 p hp
    rw [e] at this; cases this
  · have := h2 p hp
    rw [e] at this; exact of_decide_eq_true this
  · have := h2 p hp
    rw [e] at this; exact of_decide_eq_true this

theorem lookup_compScope {sc esc : Scope} {x : Str} (hc : ∀ p ∈ sc.names, p.2 ≠ .cell) (h : (compScope sc esc).names.lookup x = some .cell) : (x, NameKind.free) ∈ sc.names := by
  have : ∀ names : List (Str × NameKind), (∀ p ∈ names, p.2 ≠ .cell) → (names.map fun p => if (p.2 == NameKind.free && decide (esc.names.lookup p.1 = some .cell)) = true then (p.1, NameKind.cell) else p).lookup x = some .cell → (x, NameKind.free) ∈ names := by
    intro names
    induction names with
    | nil => intro _ h; cases h
    | cons p r ih =>
      intro hc h
      obtain ⟨y, k⟩ := p
      rw [List.map_cons, List.lookup_cons] at h
      by_cases hy : x = y
      · subst hy
        by_cases hk : k = .free
        · subst hk; exact List.mem_cons_self
        · have e : (k == NameKind.free) = false := beq_false_of_ne hk
          simp only [e, Bool.false_and, Bool.false_eq_true, if_false, beq_self_eq_true] at h
          exact absurd (Option.some.inj h) (hc (x, k) List.mem_cons_self)
      · have e1 : ∀ b : Bool, (x == (if b = true then (y, NameKind.cell) else (y, k)).1) = false := fun b => by cases b <;> exact beq_false_of_ne hy
        rw [e1] at h
        exact List.mem_cons_of_mem _ (ih (fun p hp => hc p (List.mem_cons_of_mem _ hp)) h)
  exact this sc.names hc h

theorem comp_core (ht : TvOK prog w B pins n mg mb r.tv) (hr : EvOK prog w B pins n mg mb r.ev) (C : CxOK prog w B pins n mg mb cx) (RA : Room n A) (EO : EnvOK B env) (hs : env.scope = cx.sc) {tgt elt iter : PySem.Expr} {ifs : List PySem.Expr} {sc : Scope} {pos : Pos}
    {v : V} {src : Src} {l2 : Loc} (h1 : r.ev cx loc st iter = some (v, st1)) (hsrc : srcOf v = some src) (hok : compOK sc cx.sc tgt = true)
    (hl : loopF (compB (bindT (compScope sc cx.sc) tgt) (fun l t => tvs (r.tv { cx with sc := compScope sc cx.sc }) l true ifs t) (fun l t => r.ev { cx with sc := compScope sc cx.sc } l t elt) st1.length) src fuelF 0 (freeLoc sc cx.sc loc) (st1 ++ [[]]) = some (.next, l2, st2))
    (R : Rel B pins ρ st s.heap) (F : Frm ρ st.length s env loc) {cl : List (Str × Addr)} (hcl : closureFor sc env = pure cl) (hc1 : ∀ x c, cl.lookup x = some c → env.cells.lookup x = some c) (hc2 : ∀ p ∈ sc.names, p.2 = .free → ∃ c, cl.lookup p.1 = some c)
    {RR : Value → Addr → Result → Shared → Prop} {E : Value → Shared → Prop}
    (q : ∀ ρ' s' D m, Rel B pins ρ' st2 s'.heap → Ext ρ st.length noF s ρ' st2.length s' → st1.length < st2.length → s'.heap.Ns D m → s.heap.get? D = none → B D = none → RR (.ref (ρ' st1.length)) D (.ok .next) s') :
    wpAny (model prog w) A (eval iter env) (fun x s₁ => wpAny (model prog w) A (pyIter x) (fun it s₂ => wpAny (model prog w) A (newList []) (fun acc s₃ => wpAny (model prog w) A (newFunctionEnv sc env.globals cl [] env.qual none .none (some env)) (fun cenv s₄ =>
      codeAny (model prog w) A (.compStart (.ListComp elt [⟨tgt, iter, ifs, 0⟩] sc pos) 0 it acc { cenv with scope := relabel sc env }) (RR acc cenv.locals) s₄) E s₃) E s₂) E s₁) E s := by
  obtain ⟨ok1, ok2, ok3, ok4, ok5⟩ := compOK_facts hok
  refine hr.2 cx C loc st iter v st1 h1 A ρ s env RA EO hs R F _ E fun ρ1 s1 u R1 X1 V1 => iter_ok RA.hd R1 V1 hsrc _ E fun ρ2 s2 itv a fp gp St R2 X2 I h0 hfp hg hlv => ?_
  refine wpAny_newObj_type ?_
  have F2 := (F.keeps R rfl X1).keeps R1 rfl X2
  have X12 := X1.trans X2
  -- the list
  have K3 : ∀ b o, s2.heap.get? b = some o → (s2.heap.push { cls := .type "list", data := .seq ([] : List Value).toArray }).get? b = some o := fun b o e => Heap.get?_push_of_some _ e
  have R3 : Rel B pins (put ρ2 st1.length s2.heap.objs.size) (st1 ++ [[]]) (s2.heap.push { cls := .type "list", data := .seq ([] : List Value).toArray }) := R2.new_list (Nat.le_refl _) K3 ⟨_, Heap.get?_push_size _ rfl⟩ .nil
  have X3 : Ext ρ2 st1.length noF s2 (put ρ2 st1.length s2.heap.objs.size) (st1 ++ [[]]).length { s2 with heap := s2.heap.push { cls := .type "list", data := .seq ([] : List Value).toArray } } := by
    have := Ext.put (ρ := ρ2) (n := st1.length) (fr := noF) (s := s2) (s' := { s2 with heap := s2.heap.push { cls := .type "list", data := .seq ([] : List Value).toArray } }) (Nat.le_refl s2.heap.objs.size) K3 rfl rfl (Nat.le_refl _)
    simpa using this
  have F3 := F2.keeps R2 rfl X3
  refine wpAny_newFunctionEnv ok2 (by intro y hy; simp at hy) (fun h₁ hns₁ hsb₁ => ?_) ok1
  dsimp only at hns₁ hsb₁ ⊢
  generalize hH3 : s2.heap.push { cls := .type "list", dict := none, data := .seq ([] : List Value).toArray } = H3 at hns₁ hsb₁ K3 R3 X3 F3 ⊢
  have old : ∀ b o, H3.get? b = some o → h₁.get? b = some o := fun b o e => hsb₁.extBut b o (Nat.ne_of_lt (Heap.lt_size e)) (Heap.get?_push_of_some _ e)
  have R4 : Rel B pins (put ρ2 st1.length s2.heap.objs.size) (st1 ++ [[]]) h₁ := R3.keeps old
  have X4 : Ext (put ρ2 st1.length s2.heap.objs.size) (st1 ++ [[]]).length noF { s2 with heap := H3 } (put ρ2 st1.length s2.heap.objs.size) (st1 ++ [[]]).length { s2 with heap := h₁, toks := s2.toks + ([] : List (Str × Value)).length } := Ext.same (fun b o e _ => old b o e) rfl rfl (Nat.le_add_right _ _)
  have F4 := F3.keeps R3 rfl X4
  have X24 := X3.trans X4
  have X04 := X12.trans X24
  have fresh3 : ∀ b, H3.objs.size ≤ b → H3.get? b = none := fun b hb => by
    cases e : H3.get? b with
    | none => rfl
    | some o' => exact absurd (Heap.lt_size e) (Nat.not_lt.mpr hb)
  have C3 : H3.get? H3.objs.size = none := fresh3 _ (Nat.le_refl _)
  have up : ∀ {h : Heap} {b : Addr}, (∀ o, h.get? b = some o → H3.get? b = some o) → H3.get? b = none → h.get? b = none := fun {h b} k e => by
    cases z : h.get? b with
    | none => rfl
    | some o => rw [k o z] at e; cases e
  have BC : B H3.objs.size = none := by
    cases z : B H3.objs.size with
    | none => rfl
    | some o => rw [R3.base _ o z] at C3; cases C3
  have nl : ∀ {ρ : Nat → Addr} {n : Nat} {s : Shared}, True := fun {_ _ _} => trivial
  -- the new frame
  have hrel : relabel sc env = compScope sc cx.sc := by rw [relabel_eq EO.fn, hs]
  have hkind : ∀ x, (compEnvC sc cl H3.objs.size env).kindOf x = (compScope sc cx.sc).names.lookup x := fun x => by
    show (relabel sc env).names.lookup x = _
    rw [hrel]
  have cells : ∀ x, (compScope sc cx.sc).names.lookup x = some .cell → ∃ c, cl.lookup x = some c := fun x hx => hc2 (x, .free) (lookup_compScope ok2 hx) rfl
  have sold : ∀ b o, s.heap.get? b = some o → (∀ k, k < st.length → ρ k ≠ b) → H3.get? b = some o := fun b o e hn => (X12.trans X3).keep b o e hn id |>.1
  have Cs : s.heap.get? H3.objs.size = none := by
    cases z : s.heap.get? H3.objs.size with
    | none => rfl
    | some o =>
      have lt := Heap.lt_size z
      by_cases hx : ∃ k, k < st.length ∧ ρ k = H3.objs.size
      · obtain ⟨k, hk, e⟩ := hx
        have hk3 : k < (st1 ++ [[]]).length := Nat.lt_of_lt_of_le hk (X12.trans X3).le
        have := R3.lt hk3
        rw [(X12.trans X3).rho k hk, e] at this
        exact absurd this (Nat.lt_irrefl _)
      · have := sold _ o z fun k hk e => hx ⟨k, hk, e⟩
        rw [C3] at this; cases this
  have frK := F2.kinds
  have EC : EnvOK B (compEnvC sc cl H3.objs.size env) := by
    refine ⟨?_, EO.gl, EO.bi, fun x y c e1 e2 => EO.one x y c (hc1 _ _ e1) (hc1 _ _ e2), fun x hx => ?_, fun b hb => ?_⟩
    · show (relabel sc env).kind = _
      rw [hrel]; exact ok1
    · rw [hkind] at hx; exact cells x hx
    · rcases hb with rfl | ⟨x, hx⟩
      · exact BC
      · exact EO.nb _ (.inr ⟨x, hc1 _ _ hx⟩)
  have FC : Frm (put ρ2 st1.length s2.heap.objs.size) (st1 ++ [[]]).length { s2 with heap := h₁, toks := s2.toks + ([] : List (Str × Value)).length } (compEnvC sc cl H3.objs.size env) (freeLoc sc cx.sc loc) := by
    refine ⟨⟨_, hns₁, fun x v e k => ?_⟩, fun x v e => ?_, fun x c e => F4.ck x c (hc1 _ _ e), F4.tk⟩
    · obtain ⟨_, e2, _⟩ := freeLoc_ok e
      rw [hkind, e2] at k; cases k
    · obtain ⟨e1, e2, e3⟩ := freeLoc_ok e
      refine .inr ⟨by rw [hkind]; exact e2, ?_⟩
      rcases F4.cl x v e1 with k | ⟨k, c, u, hc, hi, hr⟩
      · have : env.kindOf x = some .cell := by show env.scope.names.lookup x = _; rw [hs]; exact e3
        rw [this] at k; cases k
      · obtain ⟨c', hc'⟩ := cells x e2
        have := hc1 _ _ hc'
        rw [hc] at this; cases this
        exact ⟨c, u, hc', hi, hr⟩
  have fpH3 : ∀ b, fp b → ∃ o, H3.get? b = some o := fun b hb => by
    obtain ⟨o, ho, _⟩ := I.alive 0 s2 b (.inr rfl) h0 hb
    exact ⟨o, K3 b o ho⟩
  have h04 : St 0 { s2 with heap := h₁, toks := s2.toks + ([] : List (Str × Value)).length } := I.frame 0 s2 _ (.inr rfl) h0 (fun b o hb e => old b o (K3 b o e)) (Nat.le_refl _) (fun _ _ => rfl) (Nat.le_add_right _ _)
  have rest : ∀ s4 : Shared, s4 = { s2 with heap := h₁, toks := s2.toks + ([] : List (Str × Value)).length } →
      codeAny (model prog w) A (.compLoop (.ListComp elt [⟨tgt, iter, ifs, 0⟩] sc pos) 0 itv (.ref s2.heap.objs.size) (compEnvC sc cl H3.objs.size env)) (RR (.ref s2.heap.objs.size) H3.objs.size) s4 := by
    rintro s4 rfl
    refine compLoop_ok (cx := { cx with sc := compScope sc cx.sc }) (ρ := put ρ2 st1.length s2.heap.objs.size) (ρ0 := ρ1) (n0 := st1.length) (s0 := s1) ht hr (C.scope _) RA EC (by show relabel sc env = _; exact hrel) I ok5 (fun b hb => (hfp b hb).1) (fun b hb hf => ?_) (fun b hb => (hfp b hb).2.1) hg hl h04 R4 FC ((X2.trans X24).wider fun _ hb => hb.elim) (fun b hb k hk => ?_) (fun k e => ?_) put_eq (by simp) fun ρ' s' R' X' F' hD hkl => ?_
    · rcases hb with rfl | ⟨x, hx⟩
      · obtain ⟨o, ho⟩ := fpH3 _ hf
        have : (compEnvC sc cl H3.objs.size env).locals = H3.objs.size := rfl
        rw [this, C3] at ho; cases ho
      · obtain ⟨o, ho, _⟩ := (F.keeps R rfl X1).kinds b (.inr ⟨x, hc1 _ _ hx⟩)
        rw [(hfp b hf).2.1] at ho; cases ho
    · by_cases h : k < st1.length
      · rw [put_lt h]; exact (hfp b hb).2.2 k h
      · have : k = st1.length := by simp at hk; omega
        subst this
        rw [put_eq]
        intro e
        obtain ⟨o, ho, _⟩ := I.alive 0 s2 b (.inr rfl) h0 hb
        rw [← e, fresh_none] at ho; cases ho
    · obtain ⟨e1, e2⟩ := hlv k e
      exact ⟨by rw [put_lt e2]; exact e1, by simp; omega⟩
    · obtain ⟨m, hN, _⟩ := F'.ns
      rw [← hD]
      have XX : Ext ρ st.length (fun b => b = H3.objs.size) s ρ' st2.length s' := (X1.wider fun _ hb => hb.elim).trans X'
      exact q ρ' s' H3.objs.size m R' (XX.drop fun b hb => hb ▸ Cs) hkl hN Cs BC
  exact codeAny_compStart_list (rest _ rfl) (I.self 0 _ _ _ h04 (rest _ rfl))

/-- behind the letting go of the comprehension's names -/
theorem comp_gone {st2 : Hp} {D : Addr} {m : Str → Option Value} {h' : Heap} {fr : Addr → Prop} {n' : Nat} (R : Rel B pins ρ st2 s'.heap) (X : Ext ρ0 n fr s ρ n' s') (hN : s'.heap.Ns D m) (hs : s.heap.get? D = none) (hB : B D = none) (hd : Heap.SameBut D s'.heap h') :
    Rel B pins ρ st2 h' ∧ Ext ρ0 n fr s ρ n' { s' with heap := h' } ∧ Tups s'.heap h' := by
  obtain ⟨o, es, ep, ho, hdat, _⟩ := hN
  have K : ∀ b o, s'.heap.get? b = some o → ¬ (b = D) → h'.get? b = some o := fun b o e hb => (hd.2 b hb).trans e
  have NS : ∀ b o', s'.heap.get? b = some o' → Stays o' → ¬ (b = D) := fun b o' e hs hb => by
    rw [hb, ho] at e; cases e
    rcases hs.data with ⟨_, _, q⟩ | ⟨_, q⟩ <;> (rw [hdat] at q; cases q)
  refine ⟨R.upd (fun b => b = D) K (fun k hk => R.ne_of_data ho (fun vs m q => by rw [hdat] at q; cases q) k hk) (fun b o e hb => by rw [hb, hB] at e; cases e) NS, { X with keep := fun b o e h1 h2 => ?_, os := X.os, bare := X.bare, gsz := X.gsz, gens := X.gens, tk := X.tk }, fun b o' e hs => K b o' e (NS b o' e hs)⟩
  have z := X.keep b o e h1 h2
  exact ⟨K b o z.1 (fun hb => by rw [hb, hs] at e; cases e), z.2⟩

theorem comp_free {sc : Scope} {t : PySem.Expr} (EO : EnvOK B env) (hs : env.scope = cx.sc) (hok : compOK sc cx.sc t = true) : ∀ p ∈ sc.names, p.2 = .free → ∃ c, env.cells.lookup p.1 = some c := fun p hp hf => by
  obtain ⟨_, _, ok3, _⟩ := compOK_facts hok
  exact EO.cof p.1 (by show env.scope.names.lookup p.1 = _; rw [hs]; exact ok3 p hp hf)

theorem compE_el {elt tgt iter : PySem.Expr} {ifs : List PySem.Expr} {sc : Scope} {v : V} {P : Prop} (h : compE r cx loc st elt tgt iter ifs sc = some (v, st'))
    (k : ∀ iv st1 src l2, r.ev cx loc st iter = some (iv, st1) → srcOf iv = some src → compOK sc cx.sc tgt = true → isSet iter = false →
      loopF (compB (bindT (compScope sc cx.sc) tgt) (fun l t => tvs (r.tv { cx with sc := compScope sc cx.sc }) l true ifs t) (fun l t => r.ev { cx with sc := compScope sc cx.sc } l t elt) st1.length) src fuelF 0 (freeLoc sc cx.sc loc) (st1 ++ [[]]) = some (.next, l2, st') →
      v = .lst st1.length → P) : P :=
  ob_el h fun iv st1 h h1 => oc_el h fun src h hsrc => ou_el h fun h hok => by
    split at h
    · rename_i l2 st2 hl
      obtain ⟨a, b⟩ := Bool.and_eq_true_iff.mp hok
      cases h
      exact k iv st1 src l2 h1 hsrc a (by rw [Bool.not_eq_true'] at b; exact b) hl rfl
    · cases h

theorem hcomp_ok (hr : EvOK prog w B pins n mg mb r.ev) (ht : TvOK prog w B pins n mg mb r.tv) (C : CxOK prog w B pins n mg mb cx) {elt tgt iter : PySem.Expr} {ifs : List PySem.Expr} {sc : Scope} {p : Pos} {v : V}
    (h : nextEv r cx loc st (.ListComp elt [⟨tgt, iter, ifs, 0⟩] sc p) = some (v, st')) (RA : Room n A) (EO : EnvOK B env) (hs : env.scope = cx.sc) (R : Rel B pins ρ st s.heap) (F : Frm ρ st.length s env loc) :
    Does prog w B pins A (eval (.ListComp elt [⟨tgt, iter, ifs, 0⟩] sc p) env) ρ st s v st' := by
  refine compE_el h fun iv st1 src l2 h1 hsrc hok hset hl hv => ?_
  subst hv
  obtain ⟨cl, hcl, hc1, hc2⟩ := clos_ok (comp_free EO hs hok)
  obtain ⟨ok1, ok2, ok3, ok4, ok5⟩ := compOK_facts hok
  intro Q E k
  rw [eval_ListComp]
  refine wpAny_comprehension_free (use := none) rfl (fun x => ?_) hcl ok1 ok4 (comp_core (RR := fun acc D => compPost (model prog w) A E none Q acc D) ht hr C RA EO hs h1 hsrc hok hl R F hcl hc1 hc2 fun ρ' s' D m R' X' hlt hN hD hBD => ?_)
  · have : ∀ e, r.ev cx loc st e = some (iv, st1) → isSet e = false → foldedSetIterable e env x = pure x := fun e _ he => by cases e <;> first | rfl | cases he
    exact this iter h1 hset
  · refine ⟨m, hN, fun h' hd => ?_⟩
    obtain ⟨R2, X2, _⟩ := comp_gone R' X' hN hD hBD hd
    exact k ρ' { s' with heap := h' } _ R2 X2 (.lst _ hlt)

theorem lv_ok (hset : SliceSet prog w B pins) : ∀ k, EvOK prog w B pins n mg mb (lv k).ev ∧ TvOK prog w B pins n mg mb (lv k).tv ∧ ExOK prog w B pins n mg mb (lv k).ex
  | 0 => ⟨⟨fun _ _ _ _ _ => rfl, (fun _ _ _ _ _ _ _ h => by cases h)⟩, (fun _ _ _ _ _ _ _ h => by cases h), (fun _ _ _ _ _ _ _ _ h => by cases h)⟩
  | k + 1 => by
    obtain ⟨a, b, c⟩ := lv_ok hset k
    exact ⟨nextEv_ok a b fun cx C loc st elt tgt iter ifs sc p v st' h A ρ s env RA EO hs R F => hcomp_ok a b C h RA EO hs R F, nextTv_ok a b, nextEx_ok a b c hset⟩

/-- a comprehension that is stored at once -/
theorem comp_assign (hr : EvOK prog w B pins n mg mb r.ev) (ht : TvOK prog w B pins n mg mb r.tv) (C : CxOK prog w B pins n mg mb cx) {elt tgt iter : PySem.Expr} {ifs : List PySem.Expr} {sc : Scope} {p px sp : Pos} {x : Str} {v : V}
    (h : nextEv r cx loc st (.ListComp elt [⟨tgt, iter, ifs, 0⟩] sc p) = some (v, st')) (RA : Room n A) (EO : EnvOK B env) (hs : env.scope = cx.sc) (R : Rel B pins ρ st s.heap) (F : Frm ρ st.length s env loc)
    (hx : isLoc cx.sc x = true) (hsw : swapsWith (.ListComp elt [⟨tgt, iter, ifs, 0⟩] sc p) (some (.Name x px)) sp.line env = pure true) :
    DoesS prog w B pins A (exec (.Assign [.Name x px] (.ListComp elt [⟨tgt, iter, ifs, 0⟩] sc p) sp) env) env ρ st s .next (setL loc x v) st' := by
  refine compE_el h fun iv st1 src l2 h1 hsrc hok hset hl hv => ?_
  subst hv
  obtain ⟨cl, hcl, hc1, hc2⟩ := clos_ok (comp_free EO hs hok)
  obtain ⟨ok1, ok2, ok3, ok4, ok5⟩ := compOK_facts hok
  intro Q E k
  rw [exec_Assign_Name_used _ _ _ _ hsw]
  refine wpAny_bind (wpAny_standAt (wpAny_bind ?_))
  show wpAny _ A (do let _ ← comprehension (.ListComp elt [⟨tgt, iter, ifs, 0⟩] sc p) sc env _ (newList []) false (eval iter env) (some (assign (.Name x px) env))) _ _ s
  refine wpAny_bind (wpAny_mono (wpAny_comprehension_free (Q := fun _ s' => Q Flow.next s') (E := E) rfl (fun x => ?_) hcl ok1 ok4 (comp_core (RR := fun acc D => compPost (model prog w) A E (some (assign (.Name x px) env)) (fun _ s' => Q Flow.next s') acc D) ht hr C RA EO hs h1 hsrc hok hl R F hcl hc1 hc2 fun ρ' s' D m R' X' hlt hN hD hBD => ?_)) (fun _ s' q => wpAny_pure (wpAny_pure q)) fun _ _ e => e)
  · have : ∀ e, r.ev cx loc st e = some (iv, st1) → isSet e = false → foldedSetIterable e env x = pure x := fun e _ he => by cases e <;> first | rfl | cases he
    exact this iter h1 hset
  · refine wpAny_assign_Name (store_ok EO R' (F.keeps R rfl X') (.lst (ρ := ρ') (n := st'.length) (h := s'.heap) _ hlt) (isLoc_kind hs hx) _ E fun ρ2 s2 R2 X2 F2 => ?_)
    obtain ⟨o, es, ep, ho, hdat, hrest⟩ := hN
    have hnf : ¬ frs env D := fun hf => by
      obtain ⟨o', ho', _⟩ := F.kinds D hf
      rw [hD] at ho'; cases ho'
    have ho2 := (X2.keep D o ho (R'.ne_of_data ho fun vs m q => by rw [hdat] at q; cases q) hnf).1
    have hN2 : s2.heap.Ns D m := ⟨o, es, ep, ho2, hdat, hrest⟩
    refine ⟨m, hN2, fun h' hd => ?_⟩
    have X02 : Ext ρ st.length (frs env) s ρ2 st'.length s2 := (X'.wider fun _ hb => hb.elim).trans X2
    obtain ⟨R3, X3, T3⟩ := comp_gone R2 X02 hN2 hD hBD hd
    refine k ρ2 { s2 with heap := h' } .next R3 X3 ?_ .next
    have X23 : Ext ρ2 st'.length (fun b => b = D) s2 ρ2 st'.length { s2 with heap := h' } := Ext.same (fun b o e hb => (hd.2 b hb).trans e) rfl rfl (Nat.le_refl _)
    have CC : ∀ {y c u}, env.cells.lookup y = some c → s2.heap.IsCell c u → h'.IsCell c u := fun {y c u} hy ⟨o, ho, hd1⟩ => ⟨o, (hd.2 c fun e => hnf (e ▸ .inr ⟨y, hy⟩)).trans ho, hd1⟩
    refine ⟨?_, fun y v e => ?_, fun y c e => ?_, F2.tk⟩
    · obtain ⟨m2, hm2, hv2⟩ := F2.ns
      exact ⟨m2, hm2.sameBut hd fun e => hnf (e ▸ .inl rfl), fun y v e k => by obtain ⟨u, hu, hr⟩ := hv2 y v e k; exact ⟨u, hu, hr.mono (fun _ _ => rfl) (Nat.le_refl _) T3⟩⟩
    · rcases F2.cl y v e with k | ⟨k, c, u, hc, hi, hr⟩
      · exact .inl k
      · exact .inr ⟨k, c, u, hc, CC hc hi, hr.mono (fun _ _ => rfl) (Nat.le_refl _) T3⟩
    · obtain ⟨u, hu⟩ := F2.ck y c e
      exact ⟨u, CC e hu⟩
end
end Uq
end

section
open PySem PySem.Calls PyProof.Rows
namespace Uq
open PySem.Builtin.List

section
variable {prog : Program} {w : World} {B : Addr → Option Obj} {pins : List (Nat × Addr)} {A : Around} {E : Value → Shared → Prop} {s : Shared}

theorem setItem_whole {l d sl : Addr} {xs ys : Array Value} {Q : Unit → Shared → Prop} (hl : s.heap.PlainList l ys) (hd : s.heap.PlainList d xs) (hne : d ≠ l) (hs : s.heap.IsSliceOf sl .none .none .none) (hx : xs.size ≤ sizeLine) (hy : ys.size + xs.size ≤ sizeLine)
    (h : ∀ h', h'.PlainList l xs → Heap.SameBut l s.heap h' → Q () { s with heap := h' }) : wpAny (model prog w) A (setItem (.ref l) (.ref sl) (.ref d)) Q E s := by
  obtain ⟨m, ho⟩ := hl
  obtain ⟨m2, hd2⟩ := id hd
  obtain ⟨os, hos, hcs, hds⟩ := id hs
  have hL : s.heap.IsList l ys := ⟨_, ho, rfl, m, rfl⟩
  have hD : s.heap.IsList d xs := ⟨_, hd2, rfl, m2, rfl⟩
  have hTs : s.TypeIs (.ref sl) "slice" := ⟨os, hos, hcs⟩
  unfold setItem
  try with_reducible refine wpAny_holding ?_
  first | refine wpAny_bind (wpAny_pure ?_) | skip
  refine wpAny_bind (wpAny_sequenceKey hL.typeIs (by decide) ?_)
  refine wpAny_bind (wpAny_callSpecial?_slot (name := Str.ofString "__setitem__") hL.typeIs slot_list_setitem
    (wpAny_call_entry slot_list_setitem hL.typeIs entry_list_setitem ?_ (args_list_setitem _ _ _)))
  show wpAny _ _ (Builtin.List.listSubscript? (.ref sl) >>= _) _ _ s
  refine wpAny_bind ?_
  unfold Builtin.List.listSubscript?
  refine wpAny_bind (wpAny_specialOf hTs slice_no_index ?_)
  simp only [Option.isNone_none, if_true]
  refine wpAny_pure ?_
  show wpAny _ _ (typeOf (.ref sl) >>= _) _ _ s
  refine wpAny_bind (wpAny_typeOf hTs ?_)
  rw [if_neg (by decide)]
  rw [listSliceParts_eq]
  refine wpAny_bind (wpAny_bind (wpAny_field hos hds (x := .none) rfl (wpAny_bind (wpAny_listPart .none ?_))))
  rw [if_neg (show ¬ ((rawPart none == rawInt 0) = true) from Bool.false_ne_true)]
  refine wpAny_bind (wpAny_field hos hds (x := .none) rfl (wpAny_bind (wpAny_listPart .none ?_)))
  refine wpAny_bind (wpAny_field hos hds (x := .none) rfl (wpAny_bind (wpAny_listPart .none (wpAny_pure ?_))))
  have e0 : listSameRef (.ref l) (.ref d) = false := by
    show (l == d) = false
    exact beq_false_of_ne (Ne.symm hne)
  rw [e0, if_neg Bool.false_ne_true]
  unfold listAllItems
  refine wpAny_bind (wpAny_bind (wpAny_typeOf hD.typeIs ?_))
  rw [if_pos (by decide)]
  refine listItems_at hd2 rfl ?_
  refine wpAny_bind (listItems_at ho rfl ?_)
  refine wpAny_bind (wpAny_of_eq (sliceIndices_raw none none none ys.size (by simp)) ?_)
  have eb : sliceBounds none none none ys.size = (0, (ys.size : Int), 1) := by
    unfold sliceBounds; simp
  rw [eb]
  dsimp only
  rw [if_pos (by decide)]
  refine wpAny_bind (wpAny_rule ?_)
  rw [if_neg (by unfold listTooLong; simp; exact hy)]
  have em : ys.extract 0 (0 : Int).toNat ++ xs ++ ys.extract (max (0 : Int) (ys.size : Int)).toNat ys.size = xs := by
    simp
  refine wpAny_bind (listUpdate_at ho rfl ?_ (by omega) (by rw [em]; omega))
  refine wpAny_bind (wpAny_letGo ?_)
  refine wpAny_pure ⟨.none, rfl, wpAny_pure (h _ ?_ (Heap.SameBut.update ..))⟩
  have key : ∀ f : Array Value → Array Value, f ys = xs → (s.heap.update l (Obj.mapSeq f)).PlainList l xs := fun f hf => by
    have e := Heap.get?_update_self (Obj.mapSeq f) ho rfl
    have e2 : Obj.mapSeq f { cls := Value.type "list", data := Data.seq ys m } = { cls := Value.type "list", data := Data.seq (f ys) (if (f ys).size == ys.size then m else m + 1) } := by
      simp [Obj.mapSeq]
    rw [e2, hf] at e
    exact ⟨_, e⟩
  exact key _ em

theorem sliceSet_ok : SliceSet prog w B pins := fun A ρ st s k j xs ys hA R hk hj hz hne Q E sl hs q => by
  obtain ⟨us, hl, H⟩ := R.cell k ys hk
  obtain ⟨vs, hd, H2⟩ := R.cell j xs hj
  have hkl : k < st.length := (List.getElem?_eq_some_iff.mp hk).1
  have hjl : j < st.length := (List.getElem?_eq_some_iff.mp hj).1
  have l1 := H.length
  have l2 := H2.length
  refine setItem_whole hl hd (fun e => hne (R.inj j k hjl hkl e)) hs (by rw [List.size_toArray]; omega) (by rw [List.size_toArray, List.size_toArray]; omega) fun h' hl' hsb => ?_
  have X : Ext ρ st.length noF s ρ (st.set k xs).length { s with heap := h' } := by
    rw [List.length_set]; exact Ext.set R hkl hsb rfl rfl (Nat.le_refl _)
  exact q ρ { s with heap := h' } (R.set hkl hsb hl' H2) X
end
end Uq
end

section
open PySem PySem.Calls PyProof.Rows
namespace Uq

section
variable {prog : Program} {w : World} {B : Addr → Option Obj} {pins : List (Nat × Addr)} {n : Nat} {mg mb : Str → Option Value} {cx : Cx} {A : Around} {ρ ρ0 : Nat → Addr} {st st' st0 st1 st2 st3 : Hp} {s s' s0 : Shared} {env : Env} {loc : Loc}

noncomputable def Based (B : Addr → Option Obj) (h : Heap) : Prop := ∀ b o, B b = some o → h.get? b = some o

theorem cellsFrom_acc : ∀ (names : List (Str × NameKind)) (k : Nat) (acc : List (Str × Addr)) (x : Str), (acc.lookup x).isSome = true → ((cellsFrom k names acc).lookup x).isSome = true
  | [], _, _, _, h => h
  | (y, kind) :: r, k, acc, x, h => by
    unfold cellsFrom
    split
    · refine cellsFrom_acc r _ _ x ?_
      rw [List.lookup_cons]
      split
      · rfl
      · exact h
    · exact cellsFrom_acc r _ _ x h
theorem cellsFrom_has : ∀ (names : List (Str × NameKind)) (k : Nat) (acc : List (Str × Addr)) (x : Str), (x, NameKind.cell) ∈ names → ((cellsFrom k names acc).lookup x).isSome = true
  | (y, kind) :: r, k, acc, x, h => by
    unfold cellsFrom
    rcases List.mem_cons.mp h with e | h
    · cases e
      exact cellsFrom_acc r (k + 1) ((y, k) :: acc) y (by rw [List.lookup_cons_self]; rfl)
    · split
      · exact cellsFrom_has r _ _ x h
      · exact cellsFrom_has r _ _ x h

theorem bindL_other {kf : Str → Option NameKind} {x : Str} : ∀ (bs : List (Str × Value)) (m : Str → Option Value), (∀ p ∈ bs, p.1 ≠ x) → bindL kf bs m x = m x
  | [], _, _ => rfl
  | (y, u) :: r, m, h => by
    unfold bindL
    rw [bindL_other r _ fun p hp => h p (List.mem_cons_of_mem _ hp)]
    split
    · exact if_neg (Ne.symm (h (y, u) List.mem_cons_self))
    · rfl
theorem bindC_other {kf : Str → Option NameKind} {x : Str} : ∀ (bs : List (Str × Value)) (m : Str → Option Value), (∀ p ∈ bs, p.1 ≠ x) → bindC kf bs m x = m x
  | [], _, _ => rfl
  | (y, u) :: r, m, h => by
    unfold bindC
    rw [bindC_other r _ fun p hp => h p (List.mem_cons_of_mem _ hp)]
    split
    · rfl
    · exact if_neg (Ne.symm (h (y, u) List.mem_cons_self))

theorem zip_fst {α β : Type} {x : α} : ∀ {xs : List α} {ys : List β}, x ∉ xs → ∀ p ∈ xs.zip ys, p.1 ≠ x := fun {xs ys} h p hp e => h (e ▸ (List.of_mem_zip hp).1)

theorem bind_rel {kf : Str → Option NameKind} {h : Heap} : ∀ {nms : List Str} {args : List V} {us : List Value} (m c : Str → Option Value), RVs ρ n h args us → nms.Nodup → ∀ x v, getL (nms.zip args) x = some v →
    (kf x = some .local → ∃ u, bindL kf (nms.zip us) m x = some u ∧ RV ρ n h v u) ∧ (kf x ≠ some .local → ∃ u, bindC kf (nms.zip us) c x = some u ∧ RV ρ n h v u) ∧ x ∈ nms
  | [], args, us, m, c, H, hn, x, v, e => by cases args <;> cases e
  | y :: nms, [], us, m, c, H, hn, x, v, e => by cases e
  | y :: nms, a :: args, us, m, c, H, hn, x, v, e => by
    cases H with
    | cons h1 H =>
      rename_i u us
      obtain ⟨hy, hn⟩ := List.nodup_cons.mp hn
      rw [List.zip_cons_cons, getL_cons] at e
      rw [List.zip_cons_cons]
      by_cases hx : y = x
      · subst hx
        rw [if_pos rfl] at e
        cases e
        refine ⟨fun hk => ⟨u, ?_, h1⟩, fun hk => ⟨u, ?_, h1⟩, List.mem_cons_self⟩
        · unfold bindL
          rw [if_pos hk, bindL_other _ _ (zip_fst hy), if_pos rfl]
        · unfold bindC
          rw [if_neg hk, bindC_other _ _ (zip_fst hy), if_pos rfl]
      · rw [if_neg hx] at e
        unfold bindL bindC
        obtain ⟨a, b, c⟩ := bind_rel (kf := kf) (if kf y = some .local then fun z => if z = y then some u else m z else m) (if kf y = some .local then c else fun z => if z = y then some u else c z) H hn x v e
        exact ⟨a, b, List.mem_cons_of_mem _ c⟩

noncomputable def flV : Fl → Option V
  | .ret v => some v
  | .next => some .none
  | _ => none

structure UserOK (B : Addr → Option Obj) (a : Addr) (nms : List Str) (first kn : List Str) (scope : Scope) (body : List Stmt) : Prop where
  data : ∃ o name qual params dV kV doc pm an cdv ct, B a = some o ∧ o.data = .func (PySem.W.fnOf name qual params body scope dV kV doc pm an cdv ct) ∧ (∀ h, Based B h → h.CodeRec cdv qual) ∧
    ∀ us ks, us.length = first.length → ks.length = kn.length → ∀ s, Based B s.heap → BindsTo s (PySem.W.fnOf name qual params body scope dV kV doc pm an cdv ct) ⟨us, kn.zip ks⟩ (nms.zip (us ++ ks))
  len : nms.length = first.length + kn.length
  kinds : ∀ x ∈ nms, scope.names.lookup x = some .local ∨ scope.names.lookup x = some .cell
  nod : nms.Nodup
  co : scope.isCoroutine = false
  gen : scope.isGenerator = false
  fn : scope.kind = .function
  lim : ∀ h, Based B h → h.NoLimit

theorem UserOK.el {a : Addr} {nms first kn : List Str} {scope : Scope} {body : List Stmt} {P : Prop} (U : UserOK B a nms first kn scope body)
    (k : ∀ o name qual params dV kV doc pm an cdv ct, B a = some o → o.data = .func (PySem.W.fnOf name qual params body scope dV kV doc pm an cdv ct) → (∀ h, Based B h → h.CodeRec cdv qual) →
      (∀ us ks, us.length = first.length → ks.length = kn.length → ∀ s, Based B s.heap → BindsTo s (PySem.W.fnOf name qual params body scope dV kV doc pm an cdv ct) ⟨us, kn.zip ks⟩ (nms.zip (us ++ ks))) → P) : P := by
  obtain ⟨o, name, qual, params, dV, kV, doc, pm, an, cdv, ct, hB, hdata, hcd, hbind⟩ := U.data
  exact k o name qual params dV kV doc pm an cdv ct hB hdata hcd hbind

/-- what stands behind the entry of a call -/
structure Entered (B : Addr → Option Obj) (pins : List (Nat × Addr)) (ρ : Nat → Addr) (st : Hp) (s s1 : Shared) (env : Env) (loc : Loc) : Prop where
  EO : EnvOK B env
  R : Rel B pins ρ st s1.heap
  F : Frm ρ st.length s1 env loc
  X : Ext ρ st.length noF s ρ st.length s1
  new : ∀ b, frs env b → s.heap.get? b = none
theorem entered {scope : Scope} {nms : List Str} {args : List V} {us : List Value} (hfn : scope.kind = .function) (hkinds : ∀ x ∈ nms, scope.names.lookup x = some .local ∨ scope.names.lookup x = some .cell) (hnod : nms.Nodup) (htk : 0 < s.toks)
    (R : Rel B pins ρ st s.heap) (V : RVs ρ st.length s.heap args us) {s1 : Shared} {env' : Env} (hsc : env'.scope = scope) (hgl : env'.globals = mainGlobals) (hbi : env'.builtins = builtinsNs) (hcl : env'.cells = cellsFrom (s.heap.objs.size + 1) scope.names [])
    (x : InCallC s env'.locals (bindL env'.kindOf (nms.zip us) fun _ => none) env'.cells (bindC env'.kindOf (nms.zip us) fun _ => none) s1) (hle : s.toks ≤ s1.toks) : Entered B pins ρ st s s1 env' (nms.zip args) := by
  have keep := x.toInCall.keep
  have hLs : s.heap.objs.size ≤ env'.locals := x.toInCall.fresh
  have fresh : ∀ b, s.heap.objs.size ≤ b → s.heap.get? b = none := fun b hb => by
    cases z : s.heap.get? b with
    | none => rfl
    | some o => exact absurd (Heap.lt_size z) (Nat.not_lt.mpr hb)
  have new : ∀ b, frs env' b → s.heap.get? b = none := fun b hb => by
    rcases hb with rfl | ⟨y, hy⟩
    · exact fresh _ hLs
    · exact fresh _ (Nat.le_of_lt (Nat.lt_of_le_of_lt hLs (x.above _ _ (mem_of_lookup hy))))
  have EO : EnvOK B env' := by
    refine ⟨by rw [hsc]; exact hfn, hgl, hbi, fun y z c h1 h2 => name_of_addr x.apart (mem_of_lookup h1) (mem_of_lookup h2), fun y hy => ?_, fun b hb => ?_⟩
    · have hy' : scope.names.lookup y = some .cell := by rw [← hsc]; exact hy
      have := cellsFrom_has scope.names (s.heap.objs.size + 1) [] y (mem_of_lookup hy')
      rw [hcl]
      exact Option.isSome_iff_exists.mp this
    · cases z : B b with
      | none => rfl
      | some o => have := R.base _ _ z; rw [new b hb] at this; cases this
  have X1 : Ext ρ st.length noF s ρ st.length s1 := by
    obtain ⟨h1, tk, he1, _⟩ := x.done
    subst he1
    exact Ext.same (fun b o e _ => keep b o e) rfl rfl hle
  have V1 := X1.ups R V
  refine ⟨EO, R.keeps keep, ⟨⟨_, x.toInCall.ns, fun y v e k => ((bind_rel (kf := env'.kindOf) (fun _ => none) (fun _ => none) V1 hnod y v e).1 k)⟩, fun y v e => ?_, fun y c e => ⟨_, x.cell y c e⟩, Nat.lt_of_lt_of_le htk hle⟩, X1, new⟩
  obtain ⟨_, b2, b3⟩ := bind_rel (kf := env'.kindOf) (fun _ => none) (fun _ => none) V1 hnod y v e
  have hk : env'.kindOf y = some .local ∨ env'.kindOf y = some .cell := by
    show env'.scope.names.lookup y = _ ∨ env'.scope.names.lookup y = _
    rw [hsc]; exact hkinds y b3
  rcases hk with k | k
  · exact .inl k
  · obtain ⟨c, hc⟩ := EO.cof y k
    obtain ⟨u, hu, hr⟩ := b2 (by rw [k]; decide)
    exact .inr ⟨k, c, u, hc, by rw [← hu]; exact x.cell y c hc, hr⟩
theorem entry_kind {scope : Scope} {nms : List Str} {us : List Value} {n : Nat} (hkinds : ∀ x ∈ nms, scope.names.lookup x = some .local ∨ scope.names.lookup x = some .cell) :
    ∀ x ∈ nms.zip us, scope.names.lookup x.1 = some .local ∨ (scope.names.lookup x.1 = some .cell ∧ ((cellsFrom n scope.names []).lookup x.1).isSome = true) := fun x hx => by
  rcases hkinds _ (List.of_mem_zip hx).1 with h | h
  · exact .inl h
  · exact .inr ⟨h, cellsFrom_has _ _ _ _ (mem_of_lookup h)⟩

/-- a call of a function that the program wrote, its body by hand -/
theorem user_code {a : Addr} {nms first kn : List Str} {scope : Scope} {body : List Stmt} (U : UserOK B a nms first kn scope body) {args : List V} {us ks : List Value} {Rs : Result → Shared → Prop}
    (hu : us.length = first.length) (hks : ks.length = kn.length) (htk : 0 < s.toks) (RA : Room (n + 1) A) (R : Rel B pins ρ st s.heap) (V : RVs ρ st.length s.heap args (us ++ ks))
    (hb : ∀ A s1 env, Room n A → EnvOK B env → env.scope = scope → Rel B pins ρ st s1.heap → Frm ρ st.length s1 env (nms.zip args) → Ext ρ st.length noF s ρ st.length s1 → (∀ b, frs env b → s.heap.get? b = none) →
      wpAny (model prog w) A (execs body env) (fun fl s' => Rs (.ok (.ret (match fl with | .ret v => v | _ => .none))) s') (fun _ _ => False) s1) :
    codeAny (model prog w) A (.call (.ref a) ⟨us, kn.zip ks⟩) Rs s := by
  refine U.el fun o name qual params dV kV doc pm an cdv ct hB hdata hcd hbind => ?_
  refine codeAny_call_function (body := body) RA.depth (R.base _ _ hB) hdata U.co U.gen rfl (hcd _ R.base) (hbind us ks hu hks s R.base _ _ _ _ ?_)
  refine wpAny_with_toks (Nat.le_refl s.toks) ?_
  refine wpAny_newFunctionEnv_cells U.fn (entry_kind U.kinds) fun env' he s1 x hle => ?_
  refine ⟨(U.lim _ R.base).keeps x.toInCall.keep, codeAny_func ?_⟩
  have E := entered U.fn U.kinds U.nod htk R V (scope := scope) (by subst he; rfl) (by subst he; rfl) (by subst he; rfl) (by subst he; rfl) x hle
  exact wpAny_mono (hb (A.deeper env') s1 env' (RA.deeper env') E.EO (by subst he; rfl) E.R E.F E.X E.new) (fun _ _ h => h) fun _ _ h => h.elim

/-- a call of a function that the program wrote -/
theorem user_core {a : Addr} {nms first kn : List Str} {scope : Scope} {body : List Stmt} (U : UserOK B a nms first kn scope body) {args : List V} {us ks : List Value} {f : Fl} {loc' : Loc} {v : V}
    (hu : us.length = first.length) (hks : ks.length = kn.length) (htk : 0 < s.toks) (RA : Room (n + 1) A) (R : Rel B pins ρ st s.heap) (V : RVs ρ st.length s.heap args (us ++ ks)) (hv : flV f = some v)
    (hb : ∀ A s env, Room n A → EnvOK B env → env.scope = scope → Rel B pins ρ st s.heap → Frm ρ st.length s env (nms.zip args) → DoesS prog w B pins A (execs body env) env ρ st s f loc' st') :
    Does prog w B pins A (call (.ref a) us (kn.zip ks)) ρ st s v st' := fun Q E q =>
  wpAny_call (user_code U hu hks htk RA R V fun A s1 env RA EO hsc R1 F1 X1 new => hb A s1 env RA EO hsc R1 F1 _ _ fun ρ2 s2 fl R2 X2 F2 V2 => by
    have X : Ext ρ st.length noF s ρ2 st'.length s2 := Ext.drop ((X1.wider fun _ hb => hb.elim).trans X2) new
    cases V2 with
    | next => cases hv; exact q ρ2 s2 _ R2 X .none
    | ret v u hr => cases hv; exact q ρ2 s2 _ R2 X hr
    | brk => cases hv
    | cont => cases hv)

noncomputable def userF (r : Lv) (cx : Cx) (scope : Scope) (body : List Stmt) (nms : List Str) (args : List V) (st : Hp) : Option (V × Hp) := match decide (args.length = nms.length) with
  | false => none
  | true => match exs (r.ex { cx with sc := scope }) body (nms.zip args) st with
    | none => none
    | some (f, _, st') => (flV f).map fun v => (v, st')

theorem user_ok {r : Lv} (hex : ExOK prog w B pins n mg mb r.ex) (C : CxOK prog w B pins n mg mb cx) {a : Addr} {nms first kn : List Str} {scope : Scope} {body : List Stmt} (U : UserOK B a nms first kn scope body) {args : List V} {us ks : List Value} {v : V}
    (h : userF r cx scope body nms args st = some (v, st')) (hks : ks.length = kn.length) (htk : 0 < s.toks) (RA : Room (n + 1) A) (R : Rel B pins ρ st s.heap) (V : RVs ρ st.length s.heap args (us ++ ks)) :
    Does prog w B pins A (call (.ref a) us (kn.zip ks)) ρ st s v st' := by
  unfold userF at h
  split at h
  · cases h
  · rename_i hl
    have hl : args.length = nms.length := of_decide_eq_true hl
    have hl2 := V.length
    have hl3 := U.len
    rw [List.length_append] at hl2
    split at h
    · cases h
    · rename_i f loc' st1 h1
      cases z : flV f with
      | none => rw [z] at h; cases h
      | some u =>
        rw [z] at h
        cases h
        exact user_core U (by omega) hks htk RA R V z fun A s env RA EO hs R F => exs_ok hex (C.scope scope) RA EO hs body _ _ f loc' st' h1 ρ s R F
end
end Uq
end

section
open PySem PySem.Calls PyProof.Rows
namespace Uq
open Builtin Builtin.Str

section
variable {prog : Program} {w : World} {B : Addr → Option Obj} {pins : List (Nat × Addr)} {n : Nat} {A : Around} {ρ : Nat → Addr} {st st' : Hp} {s : Shared}

theorem keep_builtin {id : String} (h : keeperOf (.builtin id) = pure .machine) : KeepOK prog w B (.builtin id) := fun h _ => ⟨.machine, .inr (.inl rfl), PySem.W.Looks.of_pure ‹_›⟩
theorem keep_type {id : String} (h : keeperOf (.type id) = pure .machine) : KeepOK prog w B (.type id) := fun h _ => ⟨.machine, .inr (.inl rfl), PySem.W.Looks.of_pure ‹_›⟩

noncomputable def strsOf : List V → Option (List Str)
  | [] => some []
  | v :: r => oc (strOf v) fun x => (strsOf r).map (x :: ·)

theorem strsOf_ok {ρ : Nat → Addr} {n : Nat} {h : Heap} : ∀ {xs : List V} {vs : List Value} {texts : List Str}, strsOf xs = some texts → RVs ρ n h xs vs → ∃ l : List (Str × Tok), vs = strValues l ∧ l.map (·.1) = texts
  | [], vs, texts, e, H => by
    obtain rfl := H.nil_inv
    exact sm1 (G := fun texts => ∃ l : List (Str × Tok), [] = strValues l ∧ l.map (·.1) = texts) e ⟨[], rfl, rfl⟩
  | x :: xs, vs, texts, e, H => by
    obtain ⟨u, us, rfl, a, Ht⟩ := H.cons_inv
    refine oc_el e fun y e h1 => om_el e fun tx e h2 => ?_
    obtain ⟨t, rfl⟩ := strOf_rv h1 a
    obtain ⟨l, rfl, rfl⟩ := strsOf_ok h2 Ht
    exact sm1 (G := fun texts => ∃ l' : List (Str × Tok), _ = strValues l' ∧ l'.map (·.1) = texts) e ⟨(y, t) :: l, rfl, rfl⟩

theorem rvs_strs {ρ : Nat → Addr} {n : Nat} {h : Heap} : ∀ l : List (Str × Tok), RVs ρ n h (l.map fun p => .str p.1) (strValues l)
  | [] => .nil
  | (x, t) :: l => .cons (.str x t) (rvs_strs l)

/-- what the methods of a str answer -/
noncomputable def smethU (x m : Str) (args : List V) (st : Hp) : Option (V × Hp) :=
  sel (decide (m = ("lower" : Str))) (arg0 args (if tooLong (Txt.lower x).length = false then some (.str (Txt.lower x), st) else none)) <|
  sel (decide (m = ("upper" : Str))) (arg0 args (if tooLong (Txt.upper x).length = false then some (.str (Txt.upper x), st) else none)) <|
  sel (decide (m = ("swapcase" : Str))) (arg0 args (if tooLong (Txt.swapcase x).length = false then some (.str (Txt.swapcase x), st) else none)) <|
  sel (decide (m = ("join" : Str))) (two2 args fun v => oc (lstOf v) fun k => oc st[k]? fun xs => oc (strsOf xs) fun texts => if JoinOk x texts = true then some (.str (Txt.join x texts), st) else none) <|
  sel (decide (m = ("split" : Str))) (two2 args fun v => oc (strOf v) fun y => if (y.length == 0) = false ∧ x.length ≤ sizeLine ∧ (partsBetween x (occurrences x y 0 x.length (x.length + 1)) y.length).length ≤ sizeLine then some (.lst st.length, st ++ [(Txt.split x y).map .str]) else none) none

theorem split_plain {x y : Str} {t u : Tok} {E : Value → Shared → Prop} {Q : Value → Shared → Prop} (hy : (y.length == 0) = false) (hsz : x.length ≤ sizeLine) (hsz2 : (partsBetween x (occurrences x y 0 x.length (x.length + 1)) y.length).length ≤ sizeLine)
    (hq : ∀ (l : List (Str × Tok)) tk, l.map (·.1) = Txt.split x y → Q (.ref s.heap.objs.size) { s with heap := s.heap.push { cls := .type "list", data := .seq (strValues l).toArray }, toks := tk }) :
    wpAny (model prog w) A (call (.builtin "str.split") [.str x t, .str y u]) Q E s := by
  cases h1 : (decide (x.length < y.length) || decide (strKind x < strKind y))
  · cases hf : (occurrences x y 0 x.length (x.length + 1)).isEmpty
    · refine call_meets F.slot_str_split (typeIs_str _ _ _) F.entry_str_split (F.args_str_split_2 _ _) (meets_str_split_sep x y t u h1 hy hf hsz hsz2) ?_
      show wants Q E _ { s with toks := _, heap := s.heap.push { cls := .type "list", data := .seq (strsFrom s.toks (partsBetween x (occurrences x y 0 x.length (x.length + 1)) y.length)).toArray } }
      rw [strsFrom_eq]
      exact hq (numbered s.toks _) _ ((numbered_texts _ _).trans ((if_neg (ne_true_of_eq_false h1)).trans (if_neg (ne_true_of_eq_false hf))).symm)
    · exact call_meets F.slot_str_split (typeIs_str _ _ _) F.entry_str_split (F.args_str_split_2 _ _) (meets_str_split_not_found x y t u h1 hy hf)
        (hq [(x, t)] s.toks ((if_neg (ne_true_of_eq_false h1)).trans (if_pos hf)).symm)
  · exact call_meets F.slot_str_split (typeIs_str _ _ _) F.entry_str_split (F.args_str_split_2 _ _) (meets_str_split_cannot_occur x y t u h1)
      (hq [(x, t)] s.toks (if_pos h1).symm)

noncomputable def SM (prog : Program) (w : World) (B : Addr → Option Obj) (pins : List (Nat × Addr)) (n : Nat) (x : Str) (t : Tok) (args : List V) (st : Hp) (m : Str) (v : V) (st' : Hp) : Prop := ∃ f first, KeepOK prog w B f ∧ (∀ A (s : Shared) pl Q E, Q (f, first) s → wpAny (model prog w) A (getMethod (.str x t) m pl) Q E s) ∧
    ∀ A ρ s us, Room n A → 0 < s.toks → Rel B pins ρ st s.heap → RVs ρ st.length s.heap args us → Does prog w B pins A (call f (first ++ us)) ρ st s v st'
theorem sm_of {x m : Str} {t : Tok} {args : List V} {v : V} {id : String} (hk : keeperOf (.builtin id) = pure .machine) (g : ∀ A (s : Shared) pl Q E, Q (.builtin id, [.str x t]) s → wpAny (model prog w) A (getMethod (.str x t) m pl) Q E s)
    (k : ∀ A ρ s us, Rel B pins ρ st s.heap → RVs ρ st.length s.heap args us → Does prog w B pins A (call (.builtin id) (.str x t :: us)) ρ st s v st') : SM prog w B pins n x t args st m v st' :=
  ⟨_, _, keep_builtin hk, g, fun A ρ s us _ _ R V => k A ρ s us R V⟩
theorem smethU_sm {x m : Str} {args : List V} {v : V} (h : smethU x m args st = some (v, st')) (t : Tok) : SM prog w B pins n x t args st m v st' := by
  refine sel_el h (fun h hm => ?_) fun h _ => sel_el h (fun h hm => ?_) fun h _ => sel_el h (fun h hm => ?_) fun h _ => sel_el h (fun h hm => ?_) fun h _ => sel_el h (fun h hm => ?_) fun h _ => no_el h
  · exact arg0_el h fun h ha => oi_el h fun h hf => sm2 (G := SM prog w B pins n x t args st m) h (of_decide_eq_true hm ▸ ha ▸ sm_of (by rfl) (fun A s pl Q E h => GM.lower h) fun A ρ s us R V => by
      obtain rfl := V.nil_inv
      exact Does.val R fun Q E k => SC.lower hf (k _ _ (.str _ _)))
  · exact arg0_el h fun h ha => oi_el h fun h hf => sm2 (G := SM prog w B pins n x t args st m) h (of_decide_eq_true hm ▸ ha ▸ sm_of (by rfl) (fun A s pl Q E h => GM.upper h) fun A ρ s us R V => by
      obtain rfl := V.nil_inv
      exact Does.val R fun Q E k => SC.upper hf (k _ _ (.str _ _)))
  · exact arg0_el h fun h ha => oi_el h fun h hf => sm2 (G := SM prog w B pins n x t args st m) h (of_decide_eq_true hm ▸ ha ▸ sm_of (by rfl) (fun A s pl Q E h => GM.swapcase h) fun A ρ s us R V => by
      obtain rfl := V.nil_inv
      exact Does.val R fun Q E k => SC.swapcase hf (k _ _ (.str _ _)))
  · exact two2_el h fun a h ha => oc_el h fun k h hk => oc_el h fun xs h hx => oc_el h fun texts h htx => oi_el h fun h hok => sm2 (G := SM prog w B pins n x t args st m) h (of_decide_eq_true hm ▸ ha ▸ sm_of (by rfl) (fun A s pl Q E h => GM.join h) fun A ρ s us R V => by
      obtain ⟨u, us, rfl, a, V⟩ := V.cons_inv
      obtain rfl := V.nil_inv
      obtain ⟨rfl, _⟩ := lstOf_rv hk a
      obtain ⟨vs, hl, H⟩ := R.cell k xs hx
      obtain ⟨l, rfl, hl2⟩ := strsOf_ok htx H
      exact Does.val R fun Q E kk => SC.join hl.isList hl2 hok fun t' k => kk _ _ (.str _ _))
  · exact two2_el h fun a h ha => oc_el h fun y h hk => oi_el h fun h hz => sm2 (G := SM prog w B pins n x t args st m) h (of_decide_eq_true hm ▸ ha ▸ sm_of (by rfl) (fun A s pl Q E h => GM.split h) fun A ρ s us R V => by
      obtain ⟨u, us, rfl, a, V⟩ := V.cons_inv
      obtain rfl := V.nil_inv
      obtain ⟨u', rfl⟩ := strOf_rv hk a
      intro Q E q
      refine wpAny_with_toks (Nat.le_refl s.toks) (split_plain hz.1 hz.2.1 hz.2.2 fun l tk hl hle => ?_)
      have e : (Txt.split x y).map Uq.V.str = l.map fun p => .str p.1 := by rw [← hl, List.map_map]; rfl
      rw [e] at q
      exact Does.new_list R (Nat.le_refl _) (fun b o e => Heap.get?_push_of_some _ e) ⟨_, Heap.get?_push_size _ rfl⟩ (rvs_strs l) q tk hle)
theorem smethU_ok {x m : Str} {args : List V} {v : V} (h : smethU x m args st = some (v, st')) (t : Tok) : ∃ f first, KeepOK prog w B f ∧ (∀ A (s : Shared) pl Q E, Q (f, first) s → wpAny (model prog w) A (getMethod (.str x t) m pl) Q E s) ∧
    ∀ A ρ s us, Room n A → 0 < s.toks → Rel B pins ρ st s.heap → RVs ρ st.length s.heap args us → Does prog w B pins A (call f (first ++ us)) ρ st s v st' := smethU_sm h t
end
end Uq
end

section
open PySem PySem.Calls PyProof.Rows
namespace Uq

section
variable {prog : Program} {w : World} {B : Addr → Option Obj} {pins : List (Nat × Addr)} {n : Nat} {A : Around} {ρ : Nat → Addr} {st st' : Hp} {s : Shared}

noncomputable def fnLen : Fn := fun args st => two2 args fun v => match v with
  | .str x => if x.length ≤ sizeLine then some (.int (x.length : Nat), st) else none
  | .lst k => oc st[k]? fun xs => if xs.length ≤ sizeLine then some (.int (xs.length : Nat), st) else none
  | _ => none
theorem fnLen_lst {st : Hp} {k : Nat} {xs : List V} (hk : st[k]? = some xs) (hz : xs.length ≤ sizeLine) : fnLen [.lst k] st = some (.int (xs.length : Nat), st) := by
  show oc st[k]? _ = _
  unfold oc
  rw [hk]
  exact if_pos hz
/-- of one argument -/
theorem fn_one {f : Value} {spec : V → Hp → Option (V × Hp)} (h : ∀ v st u st', spec v st = some (u, st') → ∀ A ρ s x, Rel B pins ρ st s.heap → RV ρ st.length s.heap v x → Does prog w B pins A (call f [x]) ρ st s u st') :
    FnOK prog w B pins n f fun args st => two2 args fun v => spec v st := fun args st u st' e A ρ s us _ _ R V => two2_el e fun v e e0 => by
  rw [e0] at V
  obtain ⟨x, us, rfl, a, V⟩ := V.cons_inv
  obtain rfl := V.nil_inv
  exact h v st u st' e A ρ s x R a
theorem fnLen_ok : FnOK prog w B pins n (.builtin "len") fnLen := fn_one fun v st u st' h A ρ s x R a => by
  cases v with
  | str y =>
    obtain ⟨t, rfl⟩ := a.str_inv
    exact oi_el h fun h hz => sm2 (G := Does prog w B pins A (call (.builtin "len") [.str y t]) ρ st s) h (Does.val R fun Q E k => PySem.P.len_str (by rw [sizeLine_eq] at hz; omega) (k _ _ (.int _ _)))
  | lst k =>
    obtain ⟨rfl, _⟩ := a.lst_inv
    refine oc_el h fun xs h hx => oi_el h fun h hz => sm2 (G := Does prog w B pins A (call (.builtin "len") [.ref (ρ k)]) ρ st s) h ?_
    obtain ⟨vs, hl, H⟩ := R.cell k xs hx
    have e : (vs.toArray.size : Int) = (xs.length : Nat) := by rw [List.size_toArray, H.length]
    refine Does.val R fun Q E kk => call_len_list hl.isList (by rw [e]; rw [sizeLine_eq] at hz; omega) ?_
    rw [e]
    exact kk _ _ (.int _ _)
  | _ => exact no_el h

noncomputable def fnRange : Fn := fun args st => two2 args fun v => oc (intOf v) fun i => if 0 ≤ i then some (.rng i.toNat, st) else none
theorem fnRange_ok : FnOK prog w B pins n (.type "range") fnRange := fn_one fun v st u st' h A ρ s x R a => by
  refine oc_el h fun i h e => oi_el h fun h hi => sm2 (G := Does prog w B pins A (call (.type "range") [x]) ρ st s) h fun Q E q => ?_
  obtain ⟨t, rfl⟩ := intOf_rv e a
  refine call_range_1 ?_
  have K : ∀ b o, s.heap.get? b = some o → (s.heap.push { cls := .type "range", data := .fields #[.int 0 s.toks, .int i t, .int 1 (s.toks + 1)] }).get? b = some o := fun b o e => Heap.get?_push_of_some _ e
  refine q ρ _ _ (R.keeps K) (Ext.same (fun b o e _ => K b o e) rfl rfl (Nat.le_add_right _ 2)) ?_
  have e : ((i.toNat : Nat) : Int) = i := Int.toNat_of_nonneg hi
  exact .rng i.toNat _ s.toks t (s.toks + 1) (by rw [e]; exact IsRange.new ..)

noncomputable def fnType : Fn := fun args st => two2 args fun v => match v with
  | .str x => some (.imm (.type "str"), st)
  | .lst k => some (.imm (.type "list"), st)
  | _ => none
theorem fnType_ok : FnOK prog w B pins n (.type "type") fnType := fn_one fun v st u st' h A ρ s x R a => by
  cases v with
  | str y =>
    obtain ⟨t, rfl⟩ := a.str_inv
    exact sm2 (G := Does prog w B pins A (call (.type "type") [.str y t]) ρ st s) h (Does.val R fun Q E k => call_type_of (typeIs_str _ _ _) (by decide) (k _ s.toks (.imm _)))
  | lst k =>
    obtain ⟨rfl, hk⟩ := a.lst_inv
    obtain ⟨vs, hl, H⟩ := R.cell k _ (List.getElem?_eq_getElem hk)
    exact sm2 (G := Does prog w B pins A (call (.type "type") [.ref (ρ k)]) ρ st s) h (Does.val R fun Q E k => call_type_of hl.isList.typeIs (by decide) (k _ s.toks (.imm _)))
  | _ => exact no_el h

theorem keep_len : KeepOK prog w B (.builtin "len") := keep_builtin (by rfl)
theorem keep_sorted : KeepOK prog w B (.builtin "sorted") := keep_builtin (by rfl)
theorem keep_range : KeepOK prog w B (.type "range") := keep_type (by rfl)
theorem keep_ttype : KeepOK prog w B (.type "type") := keep_type (by rfl)
end
end Uq
end

section
open PySem PySem.Calls PyProof.Rows PySem.W
namespace Uq

section
variable (K : Nat → Int) (N : Nat)
noncomputable def cmpK (i j : Nat) (C : Bool → Shared → Prop) (s : Shared) : Prop := (i < N ∧ j < N ∧ i ≠ j) ∧ C (decide (K i < K j)) s
noncomputable def WK {α : Type} (t : KasT α) (Q : α → Prop) (s : Shared) : Prop := t.kasWp (cmpK K N) (fun a s' => s' = s ∧ Q a) s
noncomputable def kp (p : Array Nat) (i : Nat) : Int := K (p.getD i 0)
noncomputable def Adj (p : Array Nat) (m : Nat) : Prop := ∀ i, 1 ≤ i → i < m → kp K p (i - 1) ≤ kp K p i
structure Good (p : Array Nat) : Prop where
  size : p.size = N
  perm : p.toList.Perm (List.range N)
end

section
variable {K : Nat → Int} {N : Nat} {s : Shared}

theorem WK.ret {α : Type} {a : α} {Q : α → Prop} (h : Q a) : WK K N (.ret a) Q s := ⟨rfl, h⟩
theorem WK.ask {α : Type} {i j : Nat} {k : Bool → KasT α} {Q : α → Prop} (hi : i < N ∧ j < N ∧ i ≠ j) (h : WK K N (k (decide (K i < K j))) Q s) : WK K N (.ask i j k) Q s := ⟨hi, h⟩
theorem wk_mono {α : Type} {Q Q' : α → Shared → Prop} (hq : ∀ a s', Q a s' → Q' a s') : ∀ (t : KasT α) (s : Shared), t.kasWp (cmpK K N) Q s → t.kasWp (cmpK K N) Q' s
  | .ret a, s, h => hq a s h
  | .ask _ _ k, s, h => ⟨h.1, wk_mono hq (k _) s h.2⟩
theorem WK.bind {α β : Type} {t : KasT α} {f : α → KasT β} {Q : β → Prop} (h : WK K N t (fun a => WK K N (f a) Q s) s) : WK K N (t.bind f) Q s := by
  unfold WK
  rw [KasT.kasWp_bind]
  exact wk_mono (fun a s' h => by obtain ⟨rfl, h⟩ := h; exact h) t s h

theorem Good.getD {p : Array Nat} (g : Good N p) {i : Nat} (hi : i < N) : p.getD i 0 < N := by
  have h : i < p.size := by rw [g.size]; exact hi
  have e : p.getD i 0 = p[i] := by simp [Array.getD, h]
  rw [e]
  have : p[i] ∈ p.toList := Array.getElem_mem_toList h
  exact List.mem_range.mp (g.perm.mem_iff.mp this)
theorem Good.inj {p : Array Nat} (g : Good N p) {i j : Nat} (hi : i < N) (hj : j < N) (e : p.getD i 0 = p.getD j 0) : i = j := by
  have hi' : i < p.size := by rw [g.size]; exact hi
  have hj' : j < p.size := by rw [g.size]; exact hj
  have e1 : p.getD i 0 = p.toList[i]'(by simpa using hi') := by simp [Array.getD, hi']
  have e2 : p.getD j 0 = p.toList[j]'(by simpa using hj') := by simp [Array.getD, hj']
  rw [e1, e2] at e
  have nd : p.toList.Nodup := g.perm.nodup_iff.mpr List.nodup_range
  rcases Nat.lt_trichotomy i j with h | h | h
  · exact absurd e (List.pairwise_iff_getElem.mp nd i j _ _ h)
  · exact h
  · exact absurd e.symm (List.pairwise_iff_getElem.mp nd j i _ _ h)
theorem Good.ask {p : Array Nat} (g : Good N p) {i j : Nat} (hi : i < N) (hj : j < N) (h : i ≠ j) : p.getD i 0 < N ∧ p.getD j 0 < N ∧ p.getD i 0 ≠ p.getD j 0 := ⟨g.getD hi, g.getD hj, fun e => h (g.inj hi hj e)⟩
theorem Good.one {p : Array Nat} (g : Good N p) (hK : ∀ i j, i < N → j < N → K i = K j → i = j) {i j : Nat} (hi : i < N) (hj : j < N) (h : kp K p i = kp K p j) : i = j := by
  have e := hK _ _ (g.getD hi) (g.getD hj) h
  exact g.inj hi hj e
theorem Adj.le {p : Array Nat} {m : Nat} (a : Adj K p m) {i j : Nat} (hij : i ≤ j) (hj : j < m) : kp K p i ≤ kp K p j := by
  induction j with
  | zero => have : i = 0 := by omega
            subst this; exact Int.le_refl _
  | succ j ih =>
    by_cases h : i = j + 1
    · subst h; exact Int.le_refl _
    · exact Int.le_trans (ih (by omega) (by omega)) (a (j + 1) (by omega) hj)

theorem asc_ok {p : Array Nat} (g : Good N p) {Q : Nat → Prop} : ∀ (f a : Nat), 1 ≤ a → a + f ≤ N →
    (∀ m, a ≤ m → m ≤ a + f → (∀ i, a ≤ i → i < m → kp K p (i - 1) ≤ kp K p i) → (m < a + f → kp K p m < kp K p (m - 1)) → Q m) → WK K N (kas_asc p f a) Q s
  | 0, a, h1, h2, q => .ret (q a (Nat.le_refl _) (Nat.le_refl _) (fun i _ _ => by omega) fun h => by omega)
  | f + 1, a, h1, h2, q => by
    refine .ask (g.ask (by omega) (by omega) (by omega)) ?_
    by_cases h : K (p.getD a 0) < K (p.getD (a - 1) 0)
    · rw [decide_eq_true h, if_pos rfl]
      exact .ret (q a (Nat.le_refl _) (by omega) (fun i _ _ => by omega) fun _ => h)
    · rw [decide_eq_false h, if_neg (by simp)]
      refine asc_ok g f (a + 1) (by omega) (by omega) fun m m1 m2 m3 m4 => q m (by omega) (by omega) (fun i i1 i2 => ?_) fun h => m4 (by omega)
      by_cases e : i = a
      · subst e; exact Int.not_lt.mp h
      · exact m3 i (by omega) i2

theorem desc_ok {p : Array Nat} (g : Good N p) (hK : ∀ i j, i < N → j < N → K i = K j → i = j) {Q : Array Nat × Nat × Nat → Prop} : ∀ (f a : Nat), 1 ≤ a → a + f ≤ N →
    (∀ m, a ≤ m → m ≤ a + f → (∀ i, a ≤ i → i < m → kp K p i < kp K p (i - 1)) → Q (p, m, 0)) → WK K N (kas_desc f p a 0) Q s
  | 0, a, h1, h2, q => .ret (q a (Nat.le_refl _) (Nat.le_refl _) (fun i _ _ => by omega))
  | f + 1, a, h1, h2, q => by
    refine .ask (g.ask (by omega) (by omega) (by omega)) ?_
    by_cases h : K (p.getD a 0) < K (p.getD (a - 1) 0)
    · rw [decide_eq_true h, if_pos rfl, if_neg (by omega)]
      refine desc_ok g hK f (a + 1) (by omega) (by omega) fun m m1 m2 m3 => q m (by omega) (by omega) (fun i i1 i2 => ?_)
      by_cases e : i = a
      · subst e; exact h
      · exact m3 i (by omega) i2
    · rw [decide_eq_false h, if_neg (by simp)]
      refine .ask (g.ask (by omega) (by omega) (by omega)) ?_
      have : K (p.getD (a - 1) 0) < K (p.getD a 0) := by
        have ne : kp K p a ≠ kp K p (a - 1) := fun e => by have := g.one hK (by omega) (by omega) e; omega
        have : K (p.getD a 0) ≠ K (p.getD (a - 1) 0) := ne
        omega
      rw [decide_eq_true this, if_pos rfl]
      exact .ret (q a (Nat.le_refl _) (by omega) (fun i _ _ => by omega))

theorem rev_good {p : Array Nat} (g : Good N p) (i j : Nat) : Good N (kas_rev p i j) :=
  ⟨(mirror_size _ _ _ _).trans g.size, (Array.perm_iff_toList_perm.mp (mirror_perm p i j _)).trans g.perm⟩
theorem rev_kp {p : Array Nat} (g : Good N p) {n : Nat} (hn : n ≤ N) (k : Nat) : kp K (kas_rev p 0 n) k = if k < n then kp K p (n - 1 - k) else kp K p k := by
  unfold kp kas_rev
  have e := getElem?_mirror_all (xs := p) (i := 0) (j := n) (by rw [g.size]; exact hn) k
  have d : ∀ (q : Array Nat) (j : Nat), q.getD j 0 = (q[j]?).getD 0 := fun q j => by simp
  rw [d, e]
  by_cases h : k < n
  · rw [if_pos ⟨Nat.zero_le _, h⟩, if_pos h, d, Nat.zero_add]
  · rw [if_neg fun x => h x.2, if_neg h, d]

theorem tail3_ok {p : Array Nat} (g : Good N p) {n : Nat} (h1 : 1 ≤ n) (hn : n ≤ N) (hd : ∀ i, 1 ≤ i → i < n → kp K p i < kp K p (i - 1)) :
    WK K N (kas_tail3 n N p) (fun r => 1 ≤ r.1 ∧ r.1 ≤ N ∧ Good N r.2 ∧ Adj K r.2 r.1) s := by
  refine .bind (asc_ok (rev_good g 0 n) (N - n) n h1 (by omega) fun m m1 m2 m3 _ => .ret ⟨by omega, by omega, rev_good g 0 n, fun i i1 i2 => ?_⟩)
  by_cases h : n ≤ i
  · exact m3 i h i2
  · have h := Nat.not_le.mp h
    dsimp only
    rw [rev_kp g hn, rev_kp g hn, if_pos (by omega), if_pos h]
    have := hd (n - 1 - (i - 1)) (by omega) (by omega)
    have e : n - 1 - (i - 1) - 1 = n - 1 - i := by omega
    rw [e] at this
    omega

theorem count_ok {p : Array Nat} (g : Good N p) (hK : ∀ i j, i < N → j < N → K i = K j → i = j) (hN : 1 ≤ N) : WK K N (kas_count N p) (fun r => 1 ≤ r.1 ∧ r.1 ≤ N ∧ Good N r.2 ∧ Adj K r.2 r.1) s := by
  refine .bind (asc_ok g (N - 1) 1 (Nat.le_refl _) (by omega) fun m m1 m2 m3 m4 => ?_)
  by_cases h : m = N
  · rw [if_pos (by simp [h])]
    exact .ret ⟨m1, by omega, g, m3⟩
  · rw [if_neg (by simp [h])]
    by_cases h1 : m > 1
    · rw [if_pos h1]
      refine .ask (g.ask (by omega) (by omega) (by omega)) ?_
      have a : Adj K p m := m3
      have le := a.le (i := 0) (j := m - 1) (by omega) (by omega)
      have ne : kp K p 0 ≠ kp K p (m - 1) := fun e => by have := g.one hK (by omega) (by omega) e; omega
      have : K (p.getD 0 0) < K (p.getD (m - 1) 0) := by
        have e1 : kp K p 0 = K (p.getD 0 0) := rfl
        have e2 : kp K p (m - 1) = K (p.getD (m - 1) 0) := rfl
        omega
      rw [decide_eq_true this, if_pos rfl]
      exact .ret ⟨m1, by omega, g, m3⟩
    · rw [if_neg h1]
      have hm : m = 1 := by omega
      subst hm
      have d1 := m4 (by omega)
      have hN2 : 2 ≤ N := by omega
      refine .bind (desc_ok g hK (N - 2) 2 (by omega) (by omega) fun m m1 m2 m3 => ?_)
      rw [if_neg (by show ¬ (0 > 0); omega)]
      refine tail3_ok (n := m) g (by omega) (by omega) fun i i1 i2 => ?_
      by_cases e : i = 1
      · subst e; exact d1
      · exact m3 i (by omega) i2

theorem place_ok {p : Array Nat} (g : Good N p) {k : Nat} (hk : k < N) (a : Adj K p k) {Q : Nat → Prop} : ∀ (f l r : Nat), l ≤ r → r ≤ k → r - l ≤ f → (∀ i, i < l → kp K p i ≤ kp K p k) → (∀ i, r ≤ i → i < k → kp K p k < kp K p i) →
    (∀ m, m ≤ k → (∀ i, i < m → kp K p i ≤ kp K p k) → (∀ i, m ≤ i → i < k → kp K p k < kp K p i) → Q m) → WK K N (kas_place p k f l r) Q s
  | 0, l, r, h1, h2, h3, h4, h5, q => .ret (q l (by omega) h4 fun i i1 i2 => h5 i (by omega) i2)
  | f + 1, l, r, h1, h2, h3, h4, h5, q => by
    unfold kas_place
    by_cases h : l ≥ r
    · rw [if_pos h]
      exact .ret (q l (by omega) h4 fun i i1 i2 => h5 i (by omega) i2)
    · rw [if_neg h]
      refine .ask (g.ask hk (by omega) (by omega)) ?_
      by_cases c : K (p.getD k 0) < K (p.getD ((l + r) / 2) 0)
      · rw [decide_eq_true c, if_pos rfl]
        exact place_ok g hk a f l ((l + r) / 2) (by omega) (by omega) (by omega) h4 (fun i i1 i2 => Int.lt_of_lt_of_le c (a.le i1 i2)) q
      · rw [decide_eq_false c, if_neg (by simp)]
        exact place_ok g hk a f ((l + r) / 2 + 1) r (by omega) h2 (by omega) (fun i i1 => Int.le_trans (a.le (j := (l + r) / 2) (by omega) (by omega)) (Int.not_lt.mp c)) h5 q

theorem bub_good {p : Array Nat} (g : Good N p) (i j : Nat) : Good N (bubble p i j) :=
  ⟨(bubble_size _ _ _).trans g.size, (Array.perm_iff_toList_perm.mp (bubble_perm p i j)).trans g.perm⟩
theorem bub_kp {p : Array Nat} (g : Good N p) {k l : Nat} (hk : k < N) (hl : l ≤ k) (j : Nat) : kp K (bubble p k (k - l)) j = if j = l then kp K p k else if l < j ∧ j ≤ k then kp K p (j - 1) else kp K p j := by
  unfold kp
  have e := getElem?_bubble (xs := p) (src := k) (by rw [g.size]; exact hk) (k - l) (by omega) j
  have d : ∀ (q : Array Nat) (j : Nat), q.getD j 0 = (q[j]?).getD 0 := fun q j => by simp
  have el : k - (k - l) = l := by omega
  rw [el] at e
  rw [d, e]
  by_cases h : j = l
  · rw [if_pos h, if_pos h, d]
  · rw [if_neg h, if_neg h]
    by_cases h2 : l < j ∧ j ≤ k
    · rw [if_pos h2, if_pos h2, d]
    · rw [if_neg h2, if_neg h2, d]

theorem ins_ok : ∀ (f : Nat) {p : Array Nat} (g : Good N p) {k : Nat}, f + k = N → 1 ≤ k → Adj K p k → WK K N (kas_bin f p k) (fun p => Good N p ∧ Adj K p N) s
  | 0, p, g, k, h, _, a => by
    have e : k = N := by omega
    rw [e] at a
    exact .ret ⟨g, a⟩
  | f + 1, p, g, k, h, h1, a => by
    refine .bind (place_ok g (by omega) a k 0 k (by omega) (Nat.le_refl _) (by omega) (fun i i1 => by omega) (fun i i1 i2 => by omega) fun m m1 m2 m3 => ?_)
    refine ins_ok f (bub_good g k (k - m)) (by omega) (by omega) fun i i1 i2 => ?_
    rw [bub_kp g (by omega) m1, bub_kp g (by omega) m1]
    by_cases e : i = m
    · rw [if_pos e, if_neg (by omega), if_neg (by omega)]
      exact m2 (i - 1) (by omega)
    · rw [if_neg e]
      by_cases e2 : m < i
      · by_cases e3 : i - 1 = m
        · rw [if_pos e3, if_pos (show m < i ∧ i ≤ k by omega)]
          exact Int.le_of_lt (m3 (i - 1) (by omega) (by omega))
        · rw [if_neg e3, if_pos (show m < i - 1 ∧ i - 1 ≤ k by omega), if_pos (show m < i ∧ i ≤ k by omega)]
          exact a (i - 1) (by omega) (by omega)
      · rw [if_neg (by omega), if_neg (by omega), if_neg (by omega)]
        exact a i i1 (by omega)

theorem sort_ok (hK : ∀ i j, i < N → j < N → K i = K j → i = j) (hN : 1 ≤ N) : WK K N (kas_sort N) (fun p => Good N p ∧ Adj K p N) s := by
  have g0 : Good N (List.toArray (List.range N)) := ⟨by simp, by simp⟩
  refine .bind ?_
  refine wk_mono (fun r s' h => ?_) _ _ (count_ok g0 hK hN)
  obtain ⟨rfl, h1, h2, g, a⟩ := h
  refine ⟨rfl, ?_⟩
  have e : max r.1 1 = r.1 := by omega
  show WK K N (if r.1 < N then kas_bin (N - max r.1 1) r.2 (max r.1 1) else .ret r.2) _ _
  by_cases c : r.1 < N
  · rw [if_pos c, e]
    exact ins_ok _ g (by omega) h1 a
  · rw [if_neg c]
    have e2 : r.1 = N := by omega
    rw [e2] at a
    exact .ret ⟨g, a⟩
end
end Uq
end

section
open PySem PySem.Calls PyProof.Rows PySem.W
namespace Uq

noncomputable def keyV : V → Int
  | .tup (.int k :: _) => k
  | _ => 0
noncomputable def keyI : V → Option Int
  | .tup xs => (match xs with
    | x :: _ => intOf x
    | [] => none)
  | _ => none
noncomputable def keysOf : List V → Option (List Int)
  | [] => some []
  | v :: r => oc (keyI v) fun k => (keysOf r).map (k :: ·)
noncomputable def Strict (ys : List V) : Prop := ys.Pairwise fun a b => keyV a < keyV b
open Classical in
noncomputable def sortV (xs : List V) : List V := if h : ∃ ys : List V, ys.Perm xs ∧ Strict ys then Classical.choose h else xs

theorem strict_uniq : ∀ (a b : List V), a.Perm b → Strict a → Strict b → a = b
  | [], b, h, _, _ => by rw [List.nil_perm.mp h]
  | x :: a, [], h, _, _ => by have := h.length_eq; simp at this
  | x :: a, y :: b, h, ha, hb => by
    obtain ⟨ha1, ha2⟩ := List.pairwise_cons.mp ha
    obtain ⟨hb1, hb2⟩ := List.pairwise_cons.mp hb
    have e : x = y := by
      have hx : x ∈ y :: b := h.mem_iff.mp List.mem_cons_self
      have hy : y ∈ x :: a := h.mem_iff.mpr List.mem_cons_self
      rcases List.mem_cons.mp hx with e | hx
      · exact e
      · rcases List.mem_cons.mp hy with e | hy
        · exact e.symm
        · have := hb1 x hx; have := ha1 y hy; omega
    subst e
    rw [strict_uniq a b (List.Perm.cons_inv h) ha2 hb2]
theorem sortV_eq {xs ys : List V} (h1 : ys.Perm xs) (h2 : Strict ys) : sortV xs = ys := by
  have h : ∃ ys : List V, ys.Perm xs ∧ Strict ys := ⟨ys, h1, h2⟩
  unfold sortV
  rw [dif_pos h]
  obtain ⟨a, b⟩ := Classical.choose_spec h
  exact strict_uniq _ _ (a.trans h1.symm) b h2

open Classical in
noncomputable def fnSorted : Fn := fun args st => two2 args fun v => oc (lstOf v) fun k => oc st[k]? fun xs => oc (keysOf xs) fun ks => if xs.length < 64 ∧ ks.Nodup then some (.lst st.length, st ++ [sortV xs]) else none

section
variable {prog : Program} {w : World} {B : Addr → Option Obj} {pins : List (Nat × Addr)} {n : Nat} {A : Around} {ρ : Nat → Addr} {st st' : Hp} {s : Shared} {E : Value → Shared → Prop}

theorem KatTups.keep {h h' : Heap} (k : ∀ b o, h.get? b = some o → o.cls = .type "tuple" → h'.get? b = some o) : ∀ {vs fs : List Value}, KatTups h vs fs → KatTups h' vs fs
  | [], [], _ => trivial
  | v :: vs, f :: fs, t => by
    obtain ⟨⟨a, o, xs, n, e, ho, hc, hd, hf⟩, t⟩ := t
    exact ⟨⟨a, o, xs, n, e, k a o ho hc, hc, hd, hf⟩, KatTups.keep k t⟩
  | [], _ :: _, t => t.elim
  | _ :: _, [], t => t.elim
theorem KatTups.get {h : Heap} : ∀ {vs fs : List Value} {i : Nat} {f : Value}, KatTups h vs fs → fs[i]? = some f → ∃ a o xs n, vs.getD i .none = .ref a ∧ h.get? a = some o ∧ o.data = .seq xs n ∧ xs[0]? = some f
  | [], [], i, f, _, e => by cases e
  | v :: vs, g :: fs, 0, f, t, e => by
    obtain ⟨⟨a, o, xs, n, e1, ho, hc, hd, hf⟩, t⟩ := t
    cases e
    exact ⟨a, o, xs, n, e1, ho, hd, hf⟩
  | v :: vs, g :: fs, i + 1, f, t, e => by
    obtain ⟨a, o, xs, n, e1, r⟩ := KatTups.get (i := i) t.2 (by simpa using e)
    exact ⟨a, o, xs, n, by simpa using e1, r⟩
  | [], _ :: _, _, _, t, _ => t.elim
  | _ :: _, [], _, _, t, _ => t.elim

structure TupsAs (h : Heap) (xs : List V) (vs : List Value) (ks : List Int) (fs : List Value) : Prop where
  T : KatTups h vs fs
  l1 : fs.length = vs.length
  l2 : ks.length = vs.length
  m : xs.map keyV = ks
  k : ∀ (i : Nat) (k : Int), ks[i]? = some k → ∃ t, fs[i]? = some (Value.int k t)
theorem keyI_rv {ρ : Nat → Addr} {n : Nat} {h : Heap} {v : V} {u : Value} {k : Int} (e : keyI v = some k) (H : RV ρ n h v u) : ∃ a o vs m t, u = .ref a ∧ h.get? a = some o ∧ o.cls = .type "tuple" ∧ o.data = .seq vs m ∧ vs[0]? = some (Value.int k t) ∧ keyV v = k := by
  cases v with
  | tup xs =>
    cases xs with
    | nil => exact no_el e
    | cons x xs =>
      obtain ⟨a, vs, rfl, ⟨o, ho, hc, m, hd⟩, K⟩ := H.tup_inv
      obtain ⟨y, ys, rfl, hy, _⟩ := K.cons_inv
      cases x with
      | int i =>
        obtain ⟨t, rfl⟩ := hy.int_inv
        exact sm1 (G := fun k => ∃ a' o vs m t', Value.ref a = .ref a' ∧ h.get? a' = some o ∧ o.cls = .type "tuple" ∧ o.data = .seq vs m ∧ vs[0]? = some (Value.int k t') ∧ keyV (.tup (.int i :: xs)) = k) e ⟨a, o, _, m, t, rfl, ho, hc, hd, rfl, rfl⟩
      | _ => exact no_el e
  | _ => exact no_el e
theorem tups_of {ρ : Nat → Addr} {n : Nat} {h : Heap} : ∀ {xs : List V} {vs : List Value} {ks : List Int}, keysOf xs = some ks → RVs ρ n h xs vs → ∃ fs : List Value, TupsAs h xs vs ks fs
  | [], vs, ks, e, H => by
    obtain rfl := H.nil_inv
    exact sm1 (G := fun ks => ∃ fs : List Value, TupsAs h [] [] ks fs) e ⟨[], trivial, rfl, rfl, rfl, fun i k h => by cases h⟩
  | x :: xs, vs, ks, e, H => by
    obtain ⟨u, us, rfl, ha, Ht⟩ := H.cons_inv
    refine oc_el e fun k0 e h1 => om_el e fun tx e h2 => sm1 (G := fun ks => ∃ fs : List Value, TupsAs h (x :: xs) (u :: us) ks fs) e ?_
    obtain ⟨fs, Z⟩ := tups_of h2 Ht
    obtain ⟨a, o, vs, m, t, rfl, ho, hc, hd, hv, hk⟩ := keyI_rv h1 ha
    refine ⟨.int k0 t :: fs, ⟨⟨a, o, _, m, rfl, ho, hc, hd, hv⟩, Z.T⟩, congrArg (· + 1) Z.l1, congrArg (· + 1) Z.l2, by rw [List.map_cons, hk, Z.m], fun i k h => ?_⟩
    cases i with
    | zero => exact ⟨t, congrArg (fun o => o.map fun k => Value.int k t) h⟩
    | succ i => exact Z.k i k h

theorem wk_to {α : Type} {K : Nat → Int} {N : Nat} {cmp : Nat → Nat → (Bool → Shared → Prop) → Shared → Prop} {Q : α → Shared → Prop} (hc : ∀ i j C, cmpK K N i j C s → cmp i j C s) : ∀ t : KasT α, t.kasWp (cmpK K N) Q s → t.kasWp cmp Q s
  | .ret a, h => h
  | .ask i j k, h => hc i j _ ⟨h.1, wk_to hc (k _) h.2⟩

noncomputable def keyAt (ks : List Int) (i : Nat) : Int := ks.getD i 0

theorem keys_inj {ks : List Int} (hn : ks.Nodup) : ∀ i j, i < ks.length → j < ks.length → keyAt ks i = keyAt ks j → i = j := fun i j hi hj e => by
  unfold keyAt at e
  have e1 : ks.getD i 0 = ks[i] := by simp [hi]
  have e2 : ks.getD j 0 = ks[j] := by simp [hj]
  rw [e1, e2] at e
  rcases Nat.lt_trichotomy i j with h | h | h
  · exact absurd e (List.pairwise_iff_getElem.mp hn i j hi hj h)
  · exact h
  · exact absurd e.symm (List.pairwise_iff_getElem.mp hn j i hj hi h)

theorem cmp_tups {vs fs : List Value} {ks : List Int} (T : KatTups s.heap vs fs) (hk : ∀ (i : Nat) (k : Int), ks[i]? = some k → ∃ t, fs[i]? = some (Value.int k t)) (hn : ks.Nodup) : ∀ i j C, cmpK (keyAt ks) ks.length i j C s → kas_ask prog w A (tuples' true) vs i j C s := fun i j C h => by
  obtain ⟨⟨hi, hj, hij⟩, h⟩ := h
  have e1 : ks[i]? = some (keyAt ks i) := by unfold keyAt; simp [hi]
  have e2 : ks[j]? = some (keyAt ks j) := by unfold keyAt; simp [hj]
  obtain ⟨t1, f1⟩ := hk _ _ e1
  obtain ⟨t2, f2⟩ := hk _ _ e2
  obtain ⟨a1, o1, x1, n1, v1, g1, d1, z1⟩ := KatTups.get T f1
  obtain ⟨a2, o2, x2, n2, v2, g2, d2, z2⟩ := KatTups.get T f2
  unfold kas_ask
  rw [v1, v2]
  refine kat_lt g1 d1 g2 d2 ?_
  obtain ⟨r1, q1⟩ : ∃ r, x1.toList = .int (keyAt ks i) t1 :: r := by
    cases q : x1.toList with
    | nil => rw [← Array.getElem?_toList, q] at z1; cases z1
    | cons y r => rw [← Array.getElem?_toList, q] at z1; cases z1; exact ⟨r, rfl⟩
  obtain ⟨r2, q2⟩ : ∃ r, x2.toList = .int (keyAt ks j) t2 :: r := by
    cases q : x2.toList with
    | nil => rw [← Array.getElem?_toList, q] at z2; cases z2
    | cons y r => rw [← Array.getElem?_toList, q] at z2; cases z2; exact ⟨r, rfl⟩
  rw [q1, q2, List.zip_cons_cons]
  refine kat_cons (wpAny_eqBool_int ?_)
  have ne : (keyAt ks i == keyAt ks j) = false := beq_false_of_ne fun e => hij (keys_inj hn i j hi hj e)
  rw [ne]
  exact kat_no (oneLt_int h)

noncomputable def permV {α : Type} (p : Array Nat) (xs : List α) (d : α) : List α := p.toList.map fun i => xs.getD i d

theorem tup_sort {a : Addr} {vs fs : List Value} {ks : List Int} {m : Nat} {P : PySem.Fin → Shared → Prop} (ho : s.heap.get? a = some (seqObj "list" vs.toArray m)) (T : KatTups s.heap vs fs) (hfl : fs.length = vs.length) (hkl : ks.length = vs.length)
    (hk : ∀ (i : Nat) (k : Int), ks[i]? = some k → ∃ t, fs[i]? = some (Value.int k t)) (hn : ks.Nodup) (h64 : vs.length < 64)
    (h : ∀ p : Array Nat, Good vs.length p → Adj (keyAt ks) p vs.length → P (.done (.ret .none)) { s with heap := sortedHeap s.heap a vs (permV p vs .none).toArray }) :
    wpAny (model prog w) A (Builtin.«list.sort» ⟨[.ref a], []⟩) P E s := by
  rw [list_sort_plain]
  have ha : a < s.heap.objs.size := Heap.lt_size ho
  refine wpAny_bind (listItems_at ho rfl ?_)
  refine wpAny_bind (listUpdate_at ho rfl ?_ (by rw [List.size_toArray, sizeLine_eq]; omega) (Nat.zero_le _))
  obtain ⟨e1, ho1⟩ : ∃ e1, (s.heap.update a (Obj.mapSeq fun _ => #[])).get? a = some (seqObj "list" #[] e1) := ⟨_, get?_update_seq ho (fun _ => #[])⟩
  refine wpAny_bind (seqEpoch_at ho1 rfl ?_)
  refine wpAny_bind (wpAny_newTuple ?_ (by show vs.length ≤ _; rw [sizeLine_eq]; omega))
  refine wpAny_bind (wpAny_newList ?_ (Nat.zero_le _))
  refine wpAny_holding ?_
  have ho6 : (((s.heap.update a (Obj.mapSeq fun _ => #[])).push (seqObj "tuple" vs.toArray 0)).push (seqObj "list" #[] 0)).get? a = some (seqObj "list" #[] e1) := by
    rw [Heap.get?_push_ne _ _ _ (by rw [size_push', Heap.size_update]; exact Nat.ne_of_lt (Nat.lt_succ_of_lt ha)), Heap.get?_push_ne _ _ _ (by rw [Heap.size_update]; exact Nat.ne_of_lt ha)]
    exact ho1
  show wpAny (model prog w) A _ P E { s with heap := ((s.heap.update a (Obj.mapSeq fun _ => #[])).push (seqObj "tuple" vs.toArray 0)).push (seqObj "list" #[] 0) }
  dsimp only
  have T6 : KatTups (((s.heap.update a (Obj.mapSeq fun _ => #[])).push (seqObj "tuple" vs.toArray 0)).push (seqObj "list" #[] 0)) vs fs := by
    refine KatTups.keep (fun b o e hc => ?_) T
    have hb : b ≠ a := fun q => by
      rw [q, ho] at e
      cases e
      exact absurd hc (by show Value.type "list" ≠ Value.type "tuple"; exact fun q => absurd (Value.type.inj q) (by decide))
    exact Heap.get?_push_of_some _ (Heap.get?_push_of_some _ (by rw [Heap.get?_update_ne _ _ _ _ hb]; exact e))
  have hsz : vs.toArray.size = vs.length := by simp
  by_cases h2 : vs.toArray.size < 2
  · rw [if_pos h2, if_pos h2]
    refine wpAny_bind (wpAny_pure ?_)
    rw [StateT.run_pure]
    refine wpAny_bind (wpAny_pure ?_)
    dsimp only
    refine wpAny_bind (seqEpoch_at ho6 rfl ?_)
    have em : Array.map (fun x => x.2) (arrOf (SortSt.mk' general' (vs.toArray.zip vs.toArray) #[] 7 none)) = (permV (List.range vs.length).toArray vs .none).toArray := by
      show Array.map (fun x => x.2) (vs.toArray.zip vs.toArray) = _
      match vs, h2 with
      | [], _ => simp [permV]
      | [v], _ => simp [permV, List.range, List.range.loop]
      | _ :: _ :: _, h =>
        exfalso
        simp at h
        omega
    rw [em]
    refine wpAny_bind (listUpdate_at ho6 rfl ?_ (Nat.zero_le _) (by show (permV (List.range vs.length).toArray vs .none).toArray.size ≤ _; unfold permV; rw [List.size_toArray, List.length_map, sizeLine_eq]; simp; omega))
    simp only [bne_self_eq_false, Bool.false_eq_true, if_false]
    refine wpAny_pure (h _ ⟨by simp, by simp⟩ fun i i1 i2 => by omega)
  · rw [if_neg h2, if_neg h2]
    have h2' : 2 ≤ vs.length := by omega
    have hTy : ∀ v ∈ fs, Looks (model prog w) (((s.heap.update a (Obj.mapSeq fun _ => #[])).push (seqObj "tuple" vs.toArray 0)).push (seqObj "list" #[] 0)) (typeOf v) (.type "int") := fun v hv => by
      obtain ⟨i, hi, e⟩ := List.getElem_of_mem hv
      have hi' : i < ks.length := by omega
      obtain ⟨t, ht⟩ := hk i ks[i] (List.getElem?_eq_getElem hi')
      rw [List.getElem?_eq_getElem hi, e] at ht
      cases ht
      exact Looks.of_pure rfl
    refine wpAny_bind (kat_kind (s := { s with heap := ((s.heap.update a (Obj.mapSeq fun _ => #[])).push (seqObj "tuple" vs.toArray 0)).push (seqObj "list" #[] 0) }) (T := .type "int") T6 (by omega) hTy (by decide) ?_)
    have hb : (Value.type "int" != Value.type "tuple") = true := by decide
    rw [hb]
    have N0 : 1 ≤ ks.length := by omega
    have tree := wk_to (s := { s with heap := ((s.heap.update a (Obj.mapSeq fun _ => #[])).push (seqObj "tuple" vs.toArray 0)).push (seqObj "list" #[] 0) }) (cmp := kas_ask prog w A (tuples' true) vs) (cmp_tups (s := { s with heap := ((s.heap.update a (Obj.mapSeq fun _ => #[])).push (seqObj "tuple" vs.toArray 0)).push (seqObj "list" #[] 0) }) T6 hk hn) (kas_sort ks.length) (sort_ok (keys_inj hn) N0)
    rw [hkl] at tree
    refine wpAny_bind (wpAny_mono (kat_run (Q := fun st' s' => s' = { s with heap := ((s.heap.update a (Obj.mapSeq fun _ => #[])).push (seqObj "tuple" vs.toArray 0)).push (seqObj "list" #[] 0) } ∧ failedOf st' = none ∧ ∃ p : Array Nat, Good vs.length p ∧ Adj (keyAt ks) p vs.length ∧ arrOf st' = p.map (kas_item (vs.toArray.zip vs.toArray)))
      rfl h2' h64 (fun p' st' s' a1 a2 a3 a4 => ⟨a4.1, a3, p', a4.2.1, a4.2.2, a2⟩) tree) ?_ fun _ _ e => e)
    rintro ⟨⟨⟩, st'⟩ s' ⟨rfl, hf, p, g, ad, har⟩
    dsimp only
    have hout := kat_snds (ks := vs) (vs := vs) rfl har
    have e1' : (p.toList.map fun i => vs.getD i Value.none) = permV p vs .none := rfl
    rw [e1'] at hout
    refine wpAny_bind (seqEpoch_at ho6 rfl ?_)
    rw [hout]
    refine wpAny_bind (listUpdate_at ho6 rfl ?_ (Nat.zero_le _) (by show (permV p vs .none).toArray.size ≤ _; unfold permV; rw [List.size_toArray, List.length_map, Array.length_toList, g.size, sizeLine_eq]; omega))
    rw [hf]
    simp only [bne_self_eq_false, Bool.false_eq_true, if_false]
    exact wpAny_pure (h p g ad)

theorem perm_map {α : Type} {xs : List α} {d : α} {p : Array Nat} (g : Good xs.length p) : (permV p xs d).Perm xs := by
  unfold permV
  have e : (List.range xs.length).map (fun i => xs.getD i d) = xs := by
    apply List.ext_getElem
    · simp
    · intro i h1 h2
      simp [h2]
  have := g.perm.map fun i => xs.getD i d
  rwa [e] at this

theorem perm_rvs {ρ : Nat → Addr} {n : Nat} {h : Heap} {xs : List V} {vs : List Value} (H : RVs ρ n h xs vs) : ∀ l : List Nat, (∀ i ∈ l, i < xs.length) → RVs ρ n h (l.map fun i => xs.getD i .none) (l.map fun i => vs.getD i .none)
  | [], _ => .nil
  | i :: l, hl => by
    have hi := hl i List.mem_cons_self
    obtain ⟨v, hv, r⟩ := H.get (List.getElem?_eq_getElem hi)
    have e1 : xs.getD i .none = xs[i] := by simp [hi]
    have e2 : vs.getD i .none = v := by simp [hv]
    refine .cons ?_ (perm_rvs H l fun j hj => hl j (List.mem_cons_of_mem _ hj))
    dsimp only
    rw [e1, e2]; exact r

theorem perm_strict {xs : List V} {ks : List Int} (hk : xs.map keyV = ks) (hn : ks.Nodup) {p : Array Nat} (g : Good xs.length p) (a : Adj (keyAt ks) p xs.length) : Strict (permV p xs .none) := by
  have hl : ks.length = xs.length := by rw [← hk, List.length_map]
  have key : ∀ i, i < xs.length → keyV (xs.getD i .none) = keyAt ks i := fun i hi => by
    unfold keyAt
    rw [← hk]
    simp [hi]
  unfold Strict permV
  rw [List.pairwise_iff_getElem]
  intro i j hi hj hij
  simp only [List.length_map, Array.length_toList, g.size] at hi hj
  simp only [List.getElem_map]
  have pi : p.toList[i]'(by simpa [g.size] using hi) = p.getD i 0 := by simp [Array.getD, g.size, hi]
  have pj : p.toList[j]'(by simpa [g.size] using hj) = p.getD j 0 := by simp [Array.getD, g.size, hj]
  rw [pi, pj, key _ (g.getD hi), key _ (g.getD hj)]
  have le := a.le (i := i) (j := j) (by omega) hj
  have ne : kp (keyAt ks) p i ≠ kp (keyAt ks) p j := fun e => by
    have := g.one (K := keyAt ks) (fun i j hi hj e => keys_inj hn i j (by omega) (by omega) e) hi hj e
    omega
  have e1 : kp (keyAt ks) p i = keyAt ks (p.getD i 0) := rfl
  have e2 : kp (keyAt ks) p j = keyAt ks (p.getD j 0) := rfl
  omega

theorem fnSorted_ok : FnOK prog w B pins n (.builtin "sorted") fnSorted := fun args st v st' h A ρ s us RA tk R V => by
  refine two2_el h fun v h e0 => oc_el h fun k h e1 => oc_el h fun xs h hx => oc_el h fun ks h hks => oi_el h fun h hz => sm2 (G := Does prog w B pins A (call (.builtin "sorted") us) ρ st s) h ?_
  rw [e0] at V
  obtain ⟨u, us, rfl, a, V⟩ := V.cons_inv
  obtain rfl := V.nil_inv
  obtain ⟨rfl, _⟩ := lstOf_rv e1 a
  obtain ⟨vs, hl, H⟩ := R.cell k xs hx
  obtain ⟨fs, ⟨T, t1, t2, t5, t3⟩⟩ := tups_of hks H
  have hlen := H.length
  have h64 : vs.length < 64 := by rw [← hlen]; exact hz.1
  intro Q E q
  refine Calls.call_function_entry kind_sorted plain_sorted entry_sorted (args_sorted1 _) ?_
  unfold Builtin.«sorted»
  refine wpAny_bind (m := checkCount "sorted" 1 1 _) (wpAny_pure ?_)
  refine wpAny_bind (collect_list hl.isList ?_ (by rw [sizeLine_eq]; omega))
  refine wpAny_bind (wpAny_newList ?_ (by rw [sizeLine_eq]; omega))
  have hsz : ((s.heap.push (seqObj "list" #[] 0)).update s.heap.objs.size (Obj.mapSeq (· ++ vs.toArray))).objs.size = s.heap.objs.size + 1 := by
    rw [Heap.size_update, size_push']
  have hoL : (((s.heap.push (seqObj "list" #[] 0)).update s.heap.objs.size (Obj.mapSeq (· ++ vs.toArray))).push (seqObj "list" vs.toArray 0)).get? (s.heap.objs.size + 1) = some (seqObj "list" vs.toArray 0) := by
    rw [← hsz]; exact Heap.get?_push_size _ rfl
  have keep : ∀ b o, s.heap.get? b = some o → (((s.heap.push (seqObj "list" #[] 0)).update s.heap.objs.size (Obj.mapSeq (· ++ vs.toArray))).push (seqObj "list" vs.toArray 0)).get? b = some o := fun b o q => by
    have hlt : b < s.heap.objs.size := Heap.lt_size q
    rw [Heap.get?_push_ne _ _ _ (by rw [hsz]; exact Nat.ne_of_lt (Nat.lt_succ_of_lt hlt)), Heap.get?_update_ne _ _ _ _ (Nat.ne_of_lt hlt), Heap.get?_push_ne _ _ _ (Nat.ne_of_lt hlt)]
    exact q
  show wpAny _ _ _ _ _ { s with heap := ((s.heap.push (seqObj "list" #[] 0)).update s.heap.objs.size (Obj.mapSeq (· ++ vs.toArray))).push (seqObj "list" vs.toArray 0) }
  rw [hsz]
  refine wpAny_bind (wpAny_holding (wpAny_call_entry slot_list_sort ⟨_, hoL, rfl⟩ entry_list_sort ?body (args_list_sort _)))
  refine tup_sort (s := { s with heap := ((s.heap.push (seqObj "list" #[] 0)).update s.heap.objs.size (Obj.mapSeq (· ++ vs.toArray))).push (seqObj "list" vs.toArray 0) }) hoL (KatTups.keep (fun b o e _ => keep b o e) T) t1 t2 t3 hz.2 h64 fun p g ad => ⟨_, rfl, wpAny_pure ⟨_, rfl, ?_⟩⟩
  have g' : Good xs.length p := by rw [hlen]; exact g
  have ad' : Adj (keyAt ks) p xs.length := by rw [hlen]; exact ad
  have es : sortV xs = permV p xs .none := sortV_eq (perm_map g') (perm_strict t5 hz.2 g' ad')
  rw [es] at q
  have hv : RVs ρ st.length s.heap (permV p xs .none) (permV p vs .none) := perm_rvs H p.toList fun i hi => by
    have := g'.perm.mem_iff.mp hi
    exact List.mem_range.mp this
  obtain ⟨e, he⟩ := sortedAll_at s.heap vs (permV p vs .none).toArray
  exact Does.new_list R (a := s.heap.objs.size + 1) (h' := sortedAll s.heap vs (permV p vs .none).toArray) (Nat.le_succ _) (fun b o e => sortedAll_old e) ⟨e, he⟩ hv q s.toks (Nat.le_refl _)
end
end Uq
end

section
open PySem PySem.Calls PyProof.Rows
namespace Uq
open PySem.Builtin PySem.Builtin.Re

theorem slot_search : Slot "re.Pattern" "search" "re.Pattern.search" :=
  .of (owner := "re.Pattern") (n := "search") (by rw [typeLookup_type, builtinLookup_eq_fast]; kernel_rfl) (by decide +kernel) (by decide +kernel) (by decide +kernel)
    (by first | exact .inl (by decide +kernel) | exact .inr (by decide +kernel)) (by rw [isSubtype_type]; kernel_rfl)
theorem type_search : typeOf (.builtin "re.Pattern.search") = pure (.type "method_descriptor") := by show builtinType _ = _; rw [builtinType_eq_fast]; kernel_rfl
theorem entry_search : entryFor table "re.Pattern.search" = some Builtin.«re.Pattern.search» := entryFor_of_tree (by kernel_rfl)
theorem attrs_pattern : PlainAttrs "re.Pattern" :=
  ⟨⟨"object.__getattribute__", by rw [typeLookup_type, builtinLookup_eq_fast]; kernel_rfl, by decide +kernel⟩, by rw [typeLookup_type, builtinLookup_eq_fast]; kernel_rfl⟩
theorem owner_pattern : Manifest.owners.lookup (String.ofList ['n', 'r', 'e', 't', 't', 'a', 'P', '.', 'e', 'r'].reverse) = some Manifest.sig_re_Pattern := by kernel_rfl
theorem args_search (a b : Value) : argsOk "re.Pattern.search" ⟨[a, b], []⟩ := by
  unfold argsOk; rw [signature?_of (id := "re.Pattern.search") (n := ['h', 'c', 'r', 'a', 'e', 's']) (o := ['n', 'r', 'e', 't', 't', 'a', 'P', '.', 'e', 'r']) (by kernel_rfl) owner_pattern]; kernel_rfl

theorem admitted_none (m : Sre.M) (h : ∀ s, s < m.lim → ∀ seen, ∃ seen', Sre.inSet m.code (m.text.getD s 0) m.code.size 5 true seen = .ok (false, seen')) : ∀ fuel s seen, ∃ seen', Sre.M.admitted m fuel s seen = .ok (none, seen')
  | 0, s, seen => ⟨seen, rfl⟩
  | fuel + 1, s, seen => by
    unfold Sre.M.admitted
    by_cases hs : s ≥ m.lim
    · rw [if_pos hs]; exact ⟨seen, rfl⟩
    · rw [if_neg hs]
      obtain ⟨seen', e⟩ := h s (Nat.lt_of_not_le hs) seen
      rw [e]
      exact admitted_none m h fuel (s + 1) seen'

theorem admitted_res {m : Sre.M} {code text : Array Nat} {f s : Nat} {seen : Sre.Seen} {r : Except String (Option Nat × Sre.Seen)} (e : Sre.M.admitted m f s seen = r) (hc : m.code = code) (ht : m.text = text) (hl : m.lim = text.size)
    (hset : ∀ s, s < text.size → ∀ seen, ∃ seen', Sre.inSet code (text.getD s 0) code.size 5 true seen = .ok (false, seen')) : ∃ seen', r = .ok (none, seen') := by
  obtain ⟨seen', e'⟩ := admitted_none m (by rw [hc, ht, hl]; exact hset) f s seen
  exact ⟨seen', e ▸ e'⟩

structure Fails (m : Sre.M) : Prop where
  ans : m.answer = some false
  fr : m.frames = []
  out : m.outcome = none

theorem forSearch_fails {code text : Array Nat} (h1 : Sre.header code = (1, 1 + code.getD 1 0)) (h2 : code.getD 2 0 = 4) (h3 : code.getD 0 0 = 14) (hset : ∀ s, s < text.size → ∀ seen, ∃ seen', Sre.inSet code (text.getD s 0) code.size 5 true seen = .ok (false, seen')) :
    Fails (Sre.forSearch code text 0 0 text.size false) := by
  unfold Sre.forSearch
  dsimp only
  split
  · exact ⟨rfl, rfl, rfl⟩
  · unfold Sre.M.attemptFrom
    have hf : ∀ m : Sre.M, m.code = code → m.hasFirstSet = true := fun m e => by
      unfold Sre.M.hasFirstSet
      rw [e, h2, h3]; rfl
    rw [hf _ rfl]
    simp only [Bool.not_true, Bool.false_eq_true, if_false]
    split
    · rename_i e
      obtain ⟨seen', e'⟩ := admitted_res e rfl rfl rfl hset
      cases e'
    · exact ⟨rfl, rfl, rfl⟩
    · rename_i e
      obtain ⟨seen', e'⟩ := admitted_res e rfl rfl rfl hset
      cases e'

section
variable {prog : Program} {w : World} {B : Addr → Option Obj} {pins : List (Nat × Addr)} {n : Nat} {M : Model} {A : Around} {ρ : Nat → Addr} {st st' : Hp} {s : Shared} {E : Value → Shared → Prop}

theorem rules_ok {f : Nat → PUnit → Sem (ForInStep PUnit)} (hf : ∀ i u (Q : ForInStep PUnit → Shared → Prop) (s : Shared), Q (.yield ⟨⟩) s → wpAny M A (f i u) Q E s) {Q : PUnit → Shared → Prop} (h : Q ⟨⟩ s) : ∀ l : List Nat, wpAny M A (forIn l PUnit.unit f) Q E s
  | [] => wpAny_pure h
  | i :: l => by
    rw [List.forIn_cons]
    exact wpAny_bind (hf i _ _ s (rules_ok hf h l))

theorem runToEnd_fails {m : Sre.M} (F : Fails m) {Q : Option Sre.M → Shared → Prop} (h : Q none s) : wpAny M A (reRunToEnd m) Q E s := by
  have hs : ({ m with outcome := some .failed } : Sre.M).outcome.isSome = true := rfl
  have h1 : m.step = { m with outcome := some .failed } := by
    unfold Sre.M.step
    rw [F.out]
    simp only [Option.isSome_none, Bool.false_eq_true, if_false]
    rw [F.ans, F.fr]
    rfl
  have h4 : m.runFor 4 = { m with outcome := some .failed } := by
    unfold Sre.M.runFor
    rw [F.out]
    simp only [Option.isSome_none, Bool.false_eq_true, if_false]
    rw [h1]
    unfold Sre.M.runFor
    rfl
  have hd : reDrive (2 ^ 64) m = pure { m with outcome := some .failed } := by
    have e : (2 ^ 64 : Nat) = (2 ^ 64 - 1) + 1 := by decide
    rw [e, reDrive]
    show (if (m.runFor 4).outcome.isSome = true then _ else _) = _
    have h4' : m.runFor reTurnSteps = { m with outcome := some .failed } := h4
    rw [h4', h4]
    rfl
  unfold reRunToEnd
  rw [hd]
  refine wpAny_bind (wpAny_pure ?_)
  refine wpAny_bind (rules_ok (fun i u Q s h => ?_) ?_ _)
  · dsimp only
    split
    · exact wpAny_bind (wpAny_rule (wpAny_pure h))
    · exact wpAny_pure h
  exact wpAny_pure h

/-- a pattern's object and its code -/
structure PatAt (B : Addr → Option Obj) (a : Addr) (code : List Nat) : Prop where
  at_ : ∃ src f1 c t1 t2 g1 g2, B a = some { cls := .type "re.Pattern", data := .fields #[src, f1, .int 0 t1, g1, g2, .ref c, .int 0 t2] } ∧ ∃ vs m, B c = some { cls := .type "tuple", data := .seq vs m } ∧ (vs.toList.map fun v => (reRawOf v).toNat) = code
  h1 : Sre.header code.toArray = (1, 1 + code.toArray.getD 1 0)
  h2 : code.toArray.getD 2 0 = 4
  h3 : code.toArray.getD 0 0 = 14
  
noncomputable def fnSearch (good : List Nat) : Fn := fun args st => two2 args fun v => oc (strOf v) fun x => if x.cps.all (fun c => good.contains c) = true ∧ x.length ≤ sizeLine then some (.none, st) else none

theorem search_ok {a : Addr} {code good : List Nat} (P : PatAt B a code) (hg : ∀ c ∈ good, ∀ seen, ∃ seen', Sre.inSet code.toArray c code.toArray.size 5 true seen = .ok (false, seen')) : MethOK prog w B pins n (.ref a) "search" [] (fnSearch good) := by
  obtain ⟨⟨src, f1, c, t1, t2, g1, g2, hB, vs, m, hC, hv⟩, h1, h2, h3⟩ := P
  have hv : (vs.map reRawOf).map (·.toNat) = code.toArray := by
    apply Array.toList_inj.mp
    rw [← hv]
    simp
  refine ⟨.builtin "re.Pattern.search", [.ref a], fun h _ => ⟨.machine, .inr (.inl rfl), PySem.W.Looks.of_pure (by rfl)⟩, fun A s pl Q E hb h => getMethod_builtin ⟨_, hb _ _ hB, rfl⟩ attrs_pattern slot_search type_search (fun b e => by cases e; exact ⟨_, hb _ _ hB, rfl⟩) (h s.toks (Nat.le_refl _)), ?_⟩
  intro args st v st' h A ρ s us ks RA tk R V hk
  have : ks = [] := List.eq_nil_of_length_eq_zero hk
  subst this
  rw [List.append_nil] at V
  refine two2_el h fun a0 h e0 => oc_el h fun x h e1 => oi_el h fun h hall => sm2 (G := Does prog w B pins A _ ρ st s) h ?_
  rw [e0] at V
  obtain ⟨u, us, rfl, a1, V⟩ := V.cons_inv
  obtain rfl := V.nil_inv
  obtain ⟨t, rfl⟩ := strOf_rv e1 a1
  obtain ⟨hall, hz⟩ := hall
  refine Does.val R fun Q E k => ?_
  have hp := R.base _ _ hB
  have hc := R.base _ _ hC
  refine wpAny_call_entry slot_search ⟨_, hp, rfl⟩ entry_search ?_ (args_search _ _)
  show wpAny _ _ (reTarget "re.Pattern.search" "search" ⟨[.ref a, .str x t], []⟩ >>= _) _ _ s
  refine wpAny_bind ?_
  unfold reTarget
  refine wpAny_bind (wpAny_of_eq (a := [some (.str x t), none, none]) (by rfl) ?_)
  dsimp only
  refine wpAny_bind (wpAny_pure ?_)
  refine wpAny_bind (wpAny_pure ?_)
  refine wpAny_bind (wpAny_fieldsOf hp rfl ?_)
  refine wpAny_bind (wpAny_of_eq (a := (x.cps, 0)) (by rfl) ?_)
  dsimp only
  rw [if_neg (by simp), if_neg (by show ¬ ((0 == 1 && (0 : Nat) == 0) = true); decide)]
  refine wpAny_bind (wpAny_of_eq (a := ()) (by rfl) ?_)
  refine wpAny_bind ?_
  unfold reRawItems
  refine wpAny_bind (wpAny_seqItems hc rfl (wpAny_pure ?_))
  refine wpAny_pure ?_
  have e1 : (Array.map (fun x => x.toNat) (Array.map reRawOf ((some vs).getD #[]))) = code.toArray := hv
  rw [e1]
  have e2 : min (2 ^ 63 - 1 : Int).toNat x.cps.size = x.cps.size := by
    have hz' : x.cps.size ≤ 16777216 := by
      have := hz
      rw [sizeLine_eq] at this
      exact this
    omega
  show wpAny _ _ (reAnswer _ (Sre.forSearch code.toArray x.cps 0 0 (min (2 ^ 63 - 1 : Int).toNat x.cps.size) false)) _ _ s
  rw [e2]
  unfold reAnswer
  refine wpAny_bind (runToEnd_fails (forSearch_fails h1 h2 h3 fun s hs seen => ?_) ?_)
  · have := hg x.cps[s] (by
      have := (Array.all_eq_true.mp hall) s hs
      simpa using this) seen
    have e3 : x.cps.getD s 0 = x.cps[s] := by simp [Array.getD, hs]
    rw [e3]; exact this
  · exact wpAny_pure ⟨.none, rfl, k .none s.toks .none⟩
end
end Uq
end

section
open PySem PySem.Calls PyProof.Rows PySem.W
namespace Uq

section
variable {prog : Program} {w : World} {B : Addr → Option Obj} {pins : List (Nat × Addr)} {n : Nat} {mg mb : Str → Option Value} {cx : Cx} {A : Around} {ρ : Nat → Addr} {st st' : Hp} {s : Shared} {K : Frag}

noncomputable def HasK (B : Addr → Option Obj) (K : Frag) : Prop := ∀ a o, K.lookup a = some o → B a = some o
theorem HasK.in_ (H : HasK B K) {h : Heap} (hb : Based B h) : K.In h := fun a o e => hb a o (H a o e)

theorem keep_K (H : HasK B K) {f : Value} (hk : keepIn K f = true) : KeepOK prog w B f := fun h hb => keeps_K hk h (H.in_ hb)

theorem userOK_K (H : HasK B K) (hlim : ∀ h, Based B h → h.NoLimit) {f : Addr} {name qual : Str} {params : Arguments} {body : List Stmt} {scope : Scope} {dV kV doc pm cdv ct oc : Value} {an od : Option Addr} {osl : Array (Option Value)} {nms first kn : List Str}
    (ho : K.lookup f = some ⟨oc, od, .func (fnOf name qual params body scope dV kV doc pm an cdv ct), osl⟩) (hcd : codeIn K cdv qual = true)
    (hbind : ∀ us ks, us.length = first.length → ks.length = kn.length → ∀ S, peek K S (bindArgs (fnOf name qual params body scope dV kV doc pm an cdv ct) ⟨us, kn.zip ks⟩) = some (nms.zip (us ++ ks)))
    (hlen : nms.length = first.length + kn.length) (hkinds : (nms.all fun x => decide (scope.names.lookup x = some .local) || decide (scope.names.lookup x = some .cell)) = true) (hnod : nms.Nodup)
    (hco : scope.isCoroutine = false) (hgen : scope.isGenerator = false) (hfn : scope.kind = .function) : UserOK B f nms first kn scope body where
  data := ⟨_, name, qual, params, dV, kV, doc, pm, an, cdv, ct, H _ _ ho, rfl, fun h hb => codeRec_of (H.in_ hb) hcd, fun us ks h1 h2 s hb => kp_binds (H.in_ hb) (hbind us ks h1 h2)⟩
  len := hlen
  kinds x hx := by
    have := List.all_eq_true.mp hkinds x hx
    simpa using this
  nod := hnod
  co := hco
  gen := hgen
  fn := hfn
  lim := hlim

theorem fnUser_ok {r : Lv} (hex : ExOK prog w B pins n mg mb r.ex) (C : CxOK prog w B pins n mg mb cx) {a : Addr} {nms first : List Str} {scope : Scope} {body : List Stmt} (U : UserOK B a nms first [] scope body) :
    FnOK prog w B pins (n + 1) (.ref a) (userF r cx scope body nms) := fun args st v st' h A ρ s us RA tk R V =>
  user_ok (kn := []) (ks := []) hex C U h rfl tk RA R (by rw [List.append_nil]; exact V)

/-- a method of an instance, `self` put first -/
theorem methUser_ok {r : Lv} (hex : ExOK prog w B pins n mg mb r.ex) (C : CxOK prog w B pins n mg mb cx) {a f : Addr} {m : Str} {nms first kn : List Str} {scope : Scope} {body : List Stmt} (U : UserOK B f nms first kn scope body) (hk : KeepOK prog w B (.ref f))
    (hm : ∀ A (s : Shared) pl Q E, Based B s.heap → Q (.ref f, [.ref a]) s → wpAny (model prog w) A (getMethod (.ref a) m pl) Q E s) :
    MethOK prog w B pins (n + 1) (.ref a) m kn (fun args st => userF r cx scope body nms (.imm (.ref a) :: args) st) :=
  ⟨.ref f, [.ref a], hk, fun A s pl Q E hb h => hm A s pl Q E hb (h s.toks (Nat.le_refl _)), fun args st v st' h A ρ s us ks RA tk R V hl => user_ok (us := .ref a :: us) hex C U h hl tk RA R (.cons (.imm _) V)⟩

theorem FnOK.mono {f : Value} {spec : Fn} {k : Nat} (h : FnOK prog w B pins k f spec) (hk : k ≤ n) : FnOK prog w B pins n f spec := fun args st v st' e A ρ s us RA => h args st v st' e A ρ s us (RA.mono hk)
theorem MethOK.mono {o : Value} {m : Str} {kn : List Str} {spec : Fn} {k : Nat} (h : MethOK prog w B pins k o m kn spec) (hk : k ≤ n) : MethOK prog w B pins n o m kn spec := by
  obtain ⟨f, first, a, b, c⟩ := h
  exact ⟨f, first, a, b, fun args st v st' e A ρ s us ks RA => c args st v st' e A ρ s us ks (RA.mono hk)⟩
end
end Uq
end

section
open PySem PySem.Calls PyProof.Rows PySem.W
namespace Uq

noncomputable def bodyAt (K : Frag) (a : Addr) : List Stmt := match K.lookup a with
  | some ⟨_, _, .func fd, _⟩ => match fd.body with
    | .stmts b => b
    | _ => []
  | _ => []
noncomputable def scopeAt (K : Frag) (a : Addr) : Scope := match K.lookup a with
  | some ⟨_, _, .func fd, _⟩ => fd.scope
  | _ => default

section
variable {α : Type} {P : List α → Prop}
@[elab_as_elim] theorem ln0 (l : List α) (h : l.length = 0) (k : P []) : P l := by
  cases l with
  | nil => exact k
  | cons a t => cases h
@[elab_as_elim] theorem ln1 (l : List α) (h : l.length = 1) (k : ∀ a, P [a]) : P l := by
  cases l with
  | nil => cases h
  | cons a t => exact ln0 (P := fun t => P (a :: t)) t (Nat.succ.inj h) (k a)
@[elab_as_elim] theorem ln2 (l : List α) (h : l.length = 2) (k : ∀ a b, P [a, b]) : P l := by
  cases l with
  | nil => cases h
  | cons a t => exact ln1 (P := fun t => P (a :: t)) t (Nat.succ.inj h) (k a)
@[elab_as_elim] theorem ln3 (l : List α) (h : l.length = 3) (k : ∀ a b c, P [a, b, c]) : P l := by
  cases l with
  | nil => cases h
  | cons a t => exact ln2 (P := fun t => P (a :: t)) t (Nat.succ.inj h) (k a)
end
section
variable {prog : Program} {w : World} {B : Addr → Option Obj} {P : Params}

theorem user_spelled (H : HasK B (hd.heap_1 P)) (hlim : ∀ h, Based B h → h.NoLimit) : UserOK B 366 ["piece", "hand"] ["", ""] [] (scopeAt (hd.heap_1 P) 366) (bodyAt (hd.heap_1 P) 366) :=
  userOK_K H hlim (f := 366) (by rfl) (by rfl) (fun us ks h1 h2 S => ln2 us h1 fun u1 u2 => ln0 ks h2 rfl) rfl (by rfl) (by decide) (by rfl) (by rfl) (by rfl)
end
end Uq
end

section
open PySem PySem.Calls PyProof.Rows PySem.W
namespace Uq
open PySem.Builtin

noncomputable def nameCode : List Nat := [14, 10, 4, 1, 1, 22, 0, 31, 16, 127, 0, 13, 7, 22, 0, 31, 16, 127, 0, 1]
noncomputable def valueCode : List Nat := [14, 14, 4, 1, 1, 9, 4294966783, 0, 0, 2147483648, 0, 0, 0, 0, 0, 13, 11, 9, 4294966783, 0, 0, 2147483648, 0, 0, 0, 0, 0, 1]
/-- the signs that a draft or a name can hold -/
noncomputable def goodSigns : List Nat := [40, 41, 34, 92, 38, 59, 60, 97, 109, 112, 113, 117, 111, 116, 108, 98, 99, 65, 66, 67]

theorem name_good : ∀ c ∈ goodSigns, ∀ seen, ∃ seen', Sre.inSet nameCode.toArray c nameCode.toArray.size 5 true seen = .ok (false, seen') := by
  unfold goodSigns
  repeat (first | exact List.forall_mem_nil _ | refine List.forall_mem_cons.mpr ⟨fun seen => ⟨_, rfl⟩, ?_⟩)
theorem value_good : ∀ c ∈ goodSigns, ∀ seen, ∃ seen', Sre.inSet valueCode.toArray c valueCode.toArray.size 5 true seen = .ok (false, seen') := by
  unfold goodSigns
  repeat (first | exact List.forall_mem_nil _ | refine List.forall_mem_cons.mpr ⟨fun seen => ⟨_, rfl⟩, ?_⟩)

section
variable {prog : Program} {w : World} {B : Addr → Option Obj} {P : Params}
theorem pat_name (H : HasK B (hd.heap_1 P)) : PatAt B 64 nameCode :=
  ⟨⟨_, _, 63, _, _, _, _, H 64 _ (by rfl), _, _, H 63 _ (by rfl), by rfl⟩, by rfl, by rfl, by rfl⟩
theorem pat_value (H : HasK B (hd.heap_1 P)) : PatAt B 69 valueCode :=
  ⟨⟨_, _, 68, _, _, _, _, H 69 _ (by rfl), _, _, H 68 _ (by rfl), by rfl⟩, by rfl, by rfl, by rfl⟩
end
end Uq
end

section
open PySem PySem.Calls PyProof.Rows PySem.W
namespace Uq

section
variable {B : Addr → Option Obj} {P : Params}

theorem user_strip (H : HasK B (hd.heap_1 P)) (hlim : ∀ h, Based B h → h.NoLimit) : UserOK B 52 ["addr"] [""] [] (scopeAt (hd.heap_1 P) 52) (bodyAt (hd.heap_1 P) 52) :=
  userOK_K H hlim (f := 52) (by rfl) (by rfl) (fun us ks h1 h2 S => ln1 us h1 fun u0 => ln0 ks h2 rfl) rfl (by rfl) (by decide) (by rfl) (by rfl) (by rfl)
theorem user_check (H : HasK B (hd.heap_1 P)) (hlim : ∀ h, Based B h → h.NoLimit) : UserOK B 59 ["addr"] [""] [] (scopeAt (hd.heap_1 P) 59) (bodyAt (hd.heap_1 P) 59) :=
  userOK_K H hlim (f := 59) (by rfl) (by rfl) (fun us ks h1 h2 S => ln1 us h1 fun u0 => ln0 ks h2 rfl) rfl (by rfl) (by decide) (by rfl) (by rfl) (by rfl)
theorem user_conv (H : HasK B (hd.heap_1 P)) (hlim : ∀ h, Based B h → h.NoLimit) : UserOK B 91 ["self", "value", "name"] ["", ""] ["name"] (scopeAt (hd.heap_1 P) 91) (bodyAt (hd.heap_1 P) 91) :=
  userOK_K H hlim (f := 91) (by rfl) (by rfl) (fun us ks h1 h2 S => ln2 us h1 fun u0 u1 => ln1 ks h2 fun k0 => rfl) rfl (by rfl) (by decide) (by rfl) (by rfl) (by rfl)
theorem user_setitem (H : HasK B (hd.heap_1 P)) (hlim : ∀ h, Based B h → h.NoLimit) : UserOK B 105 ["self", "name", "val"] ["", "", ""] [] (scopeAt (hd.heap_1 P) 105) (bodyAt (hd.heap_1 P) 105) :=
  userOK_K H hlim (f := 105) (by rfl) (by rfl) (fun us ks h1 h2 S => ln3 us h1 fun u0 u1 u2 => ln0 ks h2 rfl) rfl (by rfl) (by decide) (by rfl) (by rfl) (by rfl)
theorem user_delitem (H : HasK B (hd.heap_1 P)) (hlim : ∀ h, Based B h → h.NoLimit) : UserOK B 110 ["self", "name"] ["", ""] [] (scopeAt (hd.heap_1 P) 110) (bodyAt (hd.heap_1 P) 110) :=
  userOK_K H hlim (f := 110) (by rfl) (by rfl) (fun us ks h1 h2 S => ln2 us h1 fun u0 u1 => ln0 ks h2 rfl) rfl (by rfl) (by decide) (by rfl) (by rfl) (by rfl)
theorem user_get (H : HasK B (hd.heap_1 P)) (hlim : ∀ h, Based B h → h.NoLimit) : UserOK B 139 ["self", "name", "default"] ["", "", ""] [] (scopeAt (hd.heap_1 P) 139) (bodyAt (hd.heap_1 P) 139) :=
  userOK_K H hlim (f := 139) (by rfl) (by rfl) (fun us ks h1 h2 S => ln3 us h1 fun u0 u1 u2 => ln0 ks h2 rfl) rfl (by rfl) (by decide) (by rfl) (by rfl) (by rfl)
theorem user_items (H : HasK B (hd.heap_1 P)) (hlim : ∀ h, Based B h → h.NoLimit) : UserOK B 156 ["self"] [""] [] (scopeAt (hd.heap_1 P) 156) (bodyAt (hd.heap_1 P) 156) :=
  userOK_K H hlim (f := 156) (by rfl) (by rfl) (fun us ks h1 h2 S => ln1 us h1 fun u0 => ln0 ks h2 rfl) rfl (by rfl) (by decide) (by rfl) (by rfl) (by rfl)
theorem user_cdata (H : HasK B (hd.heap_1 P)) (hlim : ∀ h, Based B h → h.NoLimit) : UserOK B 216 ["text"] [""] [] (scopeAt (hd.heap_1 P) 216) (bodyAt (hd.heap_1 P) 216) :=
  userOK_K H hlim (f := 216) (by rfl) (by rfl) (fun us ks h1 h2 S => ln1 us h1 fun u0 => ln0 ks h2 rfl) rfl (by rfl) (by decide) (by rfl) (by rfl) (by rfl)
theorem user_attrib (H : HasK B (hd.heap_1 P)) (hlim : ∀ h, Based B h → h.NoLimit) : UserOK B 223 ["text"] [""] [] (scopeAt (hd.heap_1 P) 223) (bodyAt (hd.heap_1 P) 223) :=
  userOK_K H hlim (f := 223) (by rfl) (by rfl) (fun us ks h1 h2 S => ln1 us h1 fun u0 => ln0 ks h2 rfl) rfl (by rfl) (by decide) (by rfl) (by rfl) (by rfl)
theorem user_html (H : HasK B (hd.heap_1 P)) (hlim : ∀ h, Based B h → h.NoLimit) : UserOK B 230 ["text"] [""] [] (scopeAt (hd.heap_1 P) 230) (bodyAt (hd.heap_1 P) 230) :=
  userOK_K H hlim (f := 230) (by rfl) (by rfl) (fun us ks h1 h2 S => ln1 us h1 fun u0 => ln0 ks h2 rfl) rfl (by rfl) (by decide) (by rfl) (by rfl) (by rfl)
theorem user_c14nc (H : HasK B (hd.heap_1 P)) (hlim : ∀ h, Based B h → h.NoLimit) : UserOK B 340 ["text"] [""] [] (scopeAt (hd.heap_1 P) 340) (bodyAt (hd.heap_1 P) 340) :=
  userOK_K H hlim (f := 340) (by rfl) (by rfl) (fun us ks h1 h2 S => ln1 us h1 fun u0 => ln0 ks h2 rfl) rfl (by rfl) (by decide) (by rfl) (by rfl) (by rfl)
theorem user_c14na (H : HasK B (hd.heap_1 P)) (hlim : ∀ h, Based B h → h.NoLimit) : UserOK B 347 ["text"] [""] [] (scopeAt (hd.heap_1 P) 347) (bodyAt (hd.heap_1 P) 347) :=
  userOK_K H hlim (f := 347) (by rfl) (by rfl) (fun us ks h1 h2 S => ln1 us h1 fun u0 => ln0 ks h2 rfl) rfl (by rfl) (by decide) (by rfl) (by rfl) (by rfl)
theorem user_pi (H : HasK B (hd.heap_1 P)) (hlim : ∀ h, Based B h → h.NoLimit) : UserOK B 326 ["self", "target", "data"] ["", "", ""] [] (scopeAt (hd.heap_1 P) 326) (bodyAt (hd.heap_1 P) 326) :=
  userOK_K H hlim (f := 326) (by rfl) (by rfl) (fun us ks h1 h2 S => ln3 us h1 fun u0 u1 u2 => ln0 ks h2 rfl) rfl (by rfl) (by decide) (by rfl) (by rfl) (by rfl)
theorem user_deeds (H : HasK B (hd.heap_1 P)) (hlim : ∀ h, Based B h → h.NoLimit) : UserOK B 352 ["script"] [""] [] (scopeAt (hd.heap_1 P) 352) (bodyAt (hd.heap_1 P) 352) :=
  userOK_K H hlim (f := 352) (by rfl) (by rfl) (fun us ks h1 h2 S => ln1 us h1 fun u0 => ln0 ks h2 rfl) rfl (by rfl) (by decide) (by rfl) (by rfl) (by rfl)
theorem user_run (H : HasK B (hd.heap_1 P)) (hlim : ∀ h, Based B h → h.NoLimit) : UserOK B 359 ["deeds"] [""] [] (scopeAt (hd.heap_1 P) 359) (bodyAt (hd.heap_1 P) 359) :=
  userOK_K H hlim (f := 359) (by rfl) (by rfl) (fun us ks h1 h2 S => ln1 us h1 fun u0 => ln0 ks h2 rfl) rfl (by rfl) (by decide) (by rfl) (by rfl) (by rfl)
theorem user_closed (H : HasK B (hd.heap_1 P)) (hlim : ∀ h, Based B h → h.NoLimit) : UserOK B 371 ["text"] [""] [] (scopeAt (hd.heap_1 P) 371) (bodyAt (hd.heap_1 P) 371) :=
  userOK_K H hlim (f := 371) (by rfl) (by rfl) (fun us ks h1 h2 S => ln1 us h1 fun u0 => ln0 ks h2 rfl) rfl (by rfl) (by decide) (by rfl) (by rfl) (by rfl)
theorem user_told (H : HasK B (hd.heap_1 P)) (hlim : ∀ h, Based B h → h.NoLimit) : UserOK B 376 ["deeds"] [""] [] (scopeAt (hd.heap_1 P) 376) (bodyAt (hd.heap_1 P) 376) :=
  userOK_K H hlim (f := 376) (by rfl) (by rfl) (fun us ks h1 h2 S => ln1 us h1 fun u0 => ln0 ks h2 rfl) rfl (by rfl) (by decide) (by rfl) (by rfl) (by rfl)
end
end Uq
end

section
open PySem PySem.Calls PyProof.Rows
namespace Uq
open Sem (wp)

section
variable {M : Model} {A : Around} {R : GenEnd} {Y : Protocol} {n : Nat} {s₀ : Shared} {c : Code} {fs : List Frame} {s : Shared} {env : Env}
  {K : Flow → Sem PySem.Fin} {H : Value → Sem PySem.Fin} {gd : Bool → Bool} {lv : List Value → List Value}

theorem seg_If {test : PySem.Expr} {body orelse : List Stmt} {pos : Pos}
    (h : wpAny M (A.over c fs) (isTrue test env (eval test env)) (fun b s' => if b = true then Seg M A R Y n s₀ c ((execs body env).wrap K H gd lv) fs s' else Seg M A R Y n s₀ c ((execs orelse env).wrap K H gd lv) fs s')
      (fun x s' => Seg M A R Y n s₀ c (H x) fs s') s) :
    Seg M A R Y n s₀ c ((exec (.If test body orelse pos) env).wrap K H gd lv) fs s := by
  rw [exec_If]
  show Seg M A R Y n s₀ c (.at pos fun _ => (isTrue test env (eval test env) >>= fun b => if b = true then execs body env else execs orelse env).wrap K H gd lv) fs s
  refine seg_at ?_
  rw [Sem.bind_eq_wrap', Sem.wrap_wrap]
  refine seg_wrap (wpAny_mono h (fun b s' hb => ?_) fun _ _ x => x)
  cases b with
  | true => simpa using hb
  | false => simpa using hb

/-- a statement without a yield -/
theorem seg_plain {st : Stmt} (h : wpAny M (A.over c fs) (exec st env) (fun f s' => Seg M A R Y n s₀ c (K f) fs s') (fun x s' => Seg M A R Y n s₀ c (H x) fs s') s) :
    Seg M A R Y n s₀ c ((exec st env).wrap K H gd lv) fs s := seg_wrap h

theorem seg_For {target iter : PySem.Expr} {body orelse : List Stmt} {pos : Pos} {it : Value}
    (h : wpAny M (A.over c fs) (eval iter env) (fun x s₁ => wpAny M (A.over c fs) (pyIter x) (fun it s₂ => ∀ p, Seg M A R Y n s₀ (.forLoop target it body orelse env) (M.den (.forLoop target it body orelse env))
      (.ret (fun r => ((match r with | .ok f => (.pure f : Sem Flow) | .error e => .raise e).onRaise fun (x : Value) => do
        if (← field x 1) == Value.none then unsupported "frame.own-activation:exception-without-traceback"
        setFlight x env.frame).wrap K H gd lv) none (gd false) (lv []) c p [] :: fs) s₂) (fun x s' => Seg M A R Y n s₀ c (H x) fs s') s₁) (fun x s' => Seg M A R Y n s₀ c (H x) fs s') s)
    (hs : ∀ x, foldedSetIterable iter env x = pure x) :
    Seg M A R Y n s₀ c ((exec (.For target iter body orelse pos) env).wrap K H gd lv) fs s := by
  have e : exec (.For target iter body orelse pos) env = (standAt pos >>= fun _ => (eval iter env >>= fun x => (foldedSetIterable iter env x >>= fun x => (standAt iter.pos >>= fun _ => (holding [x] (pyIter x) >>= fun it => runOwn (.forLoop target it body orelse env) env))))) := exec_For ..
  rw [e]
  refine seg_at ?_
  show Seg M A R Y n s₀ c ((eval iter env >>= fun x => (foldedSetIterable iter env x >>= fun x => (standAt iter.pos >>= fun _ => (holding [x] (pyIter x) >>= fun it => runOwn (.forLoop target it body orelse env) env)))).wrap K H gd lv) fs s
  rw [Sem.bind_eq_wrap', Sem.wrap_wrap]
  refine seg_wrap (wpAny_mono h (fun x s₁ h₁ => ?_) fun _ _ x => x)
  rw [hs]
  refine seg_at ?_
  show Seg M A R Y n s₀ c ((holding [x] (pyIter x) >>= fun it => runOwn (.forLoop target it body orelse env) env).wrap K H gd lv) fs s₁
  rw [Sem.bind_eq_wrap', Sem.wrap_wrap]
  refine seg_wrap (wpAny_holding (wpAny_mono h₁ (fun it s₂ h₂ => ?_) fun _ _ x => x))
  exact seg_call h₂
end
end Uq
end

section
open PySem PySem.Calls PyProof.Rows
namespace Uq

section
variable {prog : Program} {w : World} {A : Around} {R : GenEnd} {Y : Protocol} {n : Nat} {s₀ : Shared} {fs : List Frame} {s : Shared} {env : Env}

noncomputable def noRaise : Value → Shared → Prop := fun _ _ => False

theorem seg_forLoop {target : PySem.Expr} {body orelse : List Stmt} {it : Value}
    (h : wpAny (model prog w) (A.over (.forLoop target it body orelse env) fs) (pyNext it) (fun r s₁ => match r with
      | none => Seg (model prog w) A R Y n s₀ (.block orelse env) ((model prog w).den (.block orelse env)) fs s₁
      | some v => wpAny (model prog w) (A.over (.forLoop target it body orelse env) fs) (letOwnedTupleGo target it v) (fun _ s₂ => wpAny (model prog w) (A.over (.forLoop target it body orelse env) fs) (assign target env v) (fun _ s₃ =>
          Seg (model prog w) A R Y n s₀ (.forLoop target it body orelse env) ((execs body env).wrap (fun f => match f with
            | .next | .cont => .pure (.again (.forLoop target it body orelse env))
            | .brk => .pure (.done .next)
            | .ret v => .pure (.done (.ret v))) (fun e => (do noteFrame e env; theTreesLotGoes e : Sem Unit).wrap (fun _ => .raise e) .raise id id) id id) fs s₃) noRaise s₂) noRaise s₁) noRaise s) :
    Seg (model prog w) A R Y n s₀ (.forLoop target it body orelse env) ((model prog w).den (.forLoop target it body orelse env)) fs s := by
  show Seg _ A R Y n s₀ _ ((forTurn target it body orelse env).onRaise (fun x => do noteFrame x env; theTreesLotGoes x)) fs s
  unfold forTurn
  rw [Sem.onRaise_eq_wrap]
  refine seg_at ?_
  show Seg (model prog w) A R Y n s₀ _ (((pyNext it).onRaise (fun _ => standAt { target.pos with line := 0 }) >>= fun r => _).wrap _ _ _ _) fs s
  rw [Sem.bind_eq_wrap', Sem.wrap_wrap, Sem.onRaise_eq_wrap, Sem.wrap_wrap]
  refine seg_wrap (wpAny_mono h (fun r s₁ h₁ => ?_) fun _ _ x => x.elim)
  cases r with
  | none => exact seg_again (by rfl) h₁
  | some v =>
    show Seg (model prog w) A R Y n s₀ _ ((letOwnedTupleGo target it v >>= fun _ => assign target env v >>= fun _ => execs body env >>= fun f => match f with
      | .next | .cont => again (.forLoop target it body orelse env)
      | .brk => pure (.done .next)
      | .ret v => pure (.done (.ret v))).wrap _ _ _ _) fs s₁
    rw [Sem.bind_eq_wrap', Sem.wrap_wrap]
    refine seg_wrap (wpAny_mono h₁ (fun _ s₂ h₂ => ?_) fun _ _ x => x.elim)
    rw [Sem.bind_eq_wrap', Sem.wrap_wrap]
    refine seg_wrap (wpAny_mono h₂ (fun _ s₃ h₃ => ?_) fun _ _ x => x.elim)
    rw [Sem.bind_eq_wrap', Sem.wrap_wrap]
    rw [Sem.wrap_congr (execs body env) _ _ (K' := fun f => match f with
            | .next | .cont => .pure (.again (.forLoop target it body orelse env))
            | .brk => .pure (.done .next)
            | .ret v => .pure (.done (.ret v))) (H' := (fun e => (do noteFrame e env; theTreesLotGoes e : Sem Unit).wrap (fun _ => .raise e) .raise id id))
        (fun f => by cases f <;> rfl)
        (fun e => by first | exact Sem.bind_eq_wrap _ _ | (show (do noteFrame e env; theTreesLotGoes e : Sem Unit).bind (fun _ => .raise e) = _; rw [Sem.bind_eq_wrap]))]
    exact h₃
/-- the same, its code and what follows by name -/
theorem seg_loop {cod : Code} {target : PySem.Expr} {body orelse : List Stmt} {it : Value} (hc : cod = .forLoop target it body orelse env)
    (h : ∀ K' H', K' Flow.next = .pure (.again cod) → wpAny (model prog w) (A.over cod fs) (pyNext it) (fun r s₁ => match r with
      | none => Seg (model prog w) A R Y n s₀ (.block orelse env) ((model prog w).den (.block orelse env)) fs s₁
      | some v => wpAny (model prog w) (A.over cod fs) (letOwnedTupleGo target it v) (fun _ s₂ => wpAny (model prog w) (A.over cod fs) (assign target env v) (fun _ s₃ =>
          Seg (model prog w) A R Y n s₀ cod ((execs body env).wrap K' H' id id) fs s₃) noRaise s₂) noRaise s₁) noRaise s) : Seg (model prog w) A R Y n s₀ cod ((model prog w).den cod) fs s := by
  subst hc
  exact seg_forLoop (h _ _ rfl)
theorem seg_cons {c : Code} {st : Stmt} {rest : List Stmt} {K : Flow → Sem PySem.Fin} {H : Value → Sem PySem.Fin} {gd : Bool → Bool} {lv : List Value → List Value}
    (h : ∀ K' : Flow → Sem PySem.Fin, K' .next = (execs rest env).wrap K H gd lv → Seg (model prog w) A R Y n s₀ c ((exec st env).wrap K' H gd lv) fs s) : Seg (model prog w) A R Y n s₀ c ((execs (st :: rest) env).wrap K H gd lv) fs s :=
  seg_execs_cons (h _ rfl)
end
end Uq
end

section
open PySem PySem.Calls PyProof.Rows
namespace Uq
open Sem (wp)

section
variable {prog : Program} {w : World} {A : Around} {E : Value → Shared → Prop} {s : Shared}

theorem gen_next {a : Addr} {g n : Nat} {gs : GenState} {P : Nat → Shared → Shared → Prop} {Y : Protocol} {Q : Option Value → Shared → Prop} (hh : A.handled = none)
    (hl : s.heap.NoLimit) (hroom : A.depth < recursionLimit) (hg : s.heap.IsGen a g) (hgs : s.gens[g]? = some gs)
    (hgo : gs.Goes (model prog w) A.in1 (fun n s₀ r s₁ => r = .ok (.ret .none) ∧ P n s₀ s₁) Y n (.send .none) (s.setGen g .running))
    (hY : ∀ v s₁ gs', gs'.bare = true → Y (n - 1) (s.setGen g .running) v s₁ (fun r' s'' => match n with
        | 0 => False
        | m + 1 => gs'.Goes (model prog w) A.in1 (fun n s₀ r s₁ => r = .ok (.ret .none) ∧ P n s₀ s₁) Y m r' s'') → Q (some v) (s₁.setGen g gs'))
    (hP : ∀ s₁, P n (s.setGen g .running) s₁ → ∀ h', (∀ b o, s₁.heap.get? b = some o → h'.get? b = some o) → Q none { s₁.setGen g .finished with heap := h' }) :
    wpAny (model prog w) A (pyNext (.ref a)) Q E s := by
  unfold pyNext
  refine wpAny_bind (wpAny_attempt (wpAny_callSpecial?_slot (name := Str.ofString "__next__") hg.typeIs slot_gen_next
    (wpAny_call_entry slot_gen_next hg.typeIs entry_gen_next ?_ (args_gen_next _))))
  show wpAny _ A.in1 (Builtin.Generator.genWake (.ref a) (.send .none)) _ _ s
  unfold Builtin.Generator.genWake
  refine wpAny_bind (wpAny_holding (wpAny_genNumber hg (wpAny_bind (wpAny_genState hgs ?_))))
  cases gs with
  | running => exact hgo.elim
  | finished => exact hgo.elim
  | _ =>
    refine wpAny_bind (wpAny_roomToWake hl hroom ?_)
    show wpAny _ A.in1 (.resume g (.send .none) [] _) _ _ s
    refine wpAny_resumeQ hgs hgo (fun x s₁ hx => ?_) (fun v s₁ gs' hb hv => ?_)
    · obtain ⟨rfl, hp⟩ := hx
      show wpAny _ A.in1 (newExc (.type "StopIteration") [] >>= _) _ _ _
      refine wpAny_bind ?_
      simp only [newExc, newTuple]
      refine wpAny_bind (wpAny_newObj_type ?_ (by size_fits))
      refine wpAny_bind (m := firstArgMember _ _) (wpAny_of_eq (a := Value.none) (by first | rfl | (simp only [firstArgMember]; rfl)) ?_)
      refine wpAny_newObj_type ?_ (by size_fits)
      simp only [raiseNew]
      refine wpAny_bind (wpAny_bind (wpAny_handled ?_))
      first | rw [show A.in1.handled = none from hh] | rw [hh]
      refine wpAny_throw ?_
      refine wpAny_bind (wpAny_isInstance (T := "StopIteration") (b := true) ⟨_, Heap.get?_push_size _ rfl, rfl⟩ isSubtype_stop ?_)
      exact wpAny_pure (hP s₁ hp _ fun b o hb => Heap.get?_push_of_some _ (Heap.get?_push_of_some _ hb))
    · exact wpAny_pure ⟨v, rfl, wpAny_pure (hY v s₁ gs' hb hv)⟩

theorem draws_str (hh : A.handled = none) (it : Addr) (x : Str) (t : Tok) :
    Draws prog w A it [it] x.cps.size (fun i v => ∃ c u, x.cps[i]? = some c ∧ v = .str ⟨#[c]⟩ u) (fun i h => h.IsStrIter it (strIterType x) x t i) := by
  unfold strIterType
  split
  · exact Draws.strAscii hh it x t
  · exact Draws.strWide hh it x t
end

noncomputable def escGo : List Nat → Nat → Int → Bool → List V
  | [], _, p, true => [.tup [.int p, .str "\\"]]
  | [], _, _, false => []
  | c :: cs, i, _, true => .tup [.int i, .str ("\\" ++ ⟨#[c]⟩)] :: escGo cs (i + 1) i false
  | c :: cs, i, _, false => match ((⟨#[c]⟩ : Str) == "\\") with
    | true => escGo cs (i + 1) i true
    | false => .tup [.int i, .str ⟨#[c]⟩] :: escGo cs (i + 1) i false

noncomputable def loc3 (x : Str) (p : Int) (b : Bool) : Loc := [("addr", .str x), ("pos", .int p), ("escape", .bool b)]
noncomputable def loc4 (x : Str) (p : Int) (b : Bool) (c : Str) : Loc := [("addr", .str x), ("pos", .int p), ("escape", .bool b), ("ch", .str c)]

structure GCode (cx : Cx) (r : Lv) (A3 A4 : Stmt) (tgt t1 t2 t3 y1 y2 y3 : PySem.Expr) : Prop where
  a3 : ∀ x p c, r.ex cx (loc4 x p true c) [] A3 = some (Fl.next, loc4 x p false c, [])
  a4 : ∀ x p c, r.ex cx (loc4 x p false c) [] A4 = some (Fl.next, loc4 x p true c, [])
  tg : ∀ x p b i c, bindT cx.sc tgt (.tup [.int i, .str c]) (loc3 x p b) = some (loc4 x i b c)
  t1 : ∀ x p b c, r.tv cx (loc4 x p b c) [] t1 = some (b, [])
  t2 : ∀ x p c, r.tv cx (loc4 x p false c) [] t2 = some (c == ("\\" : Str), [])
  t3 : ∀ x p b, r.tv cx (loc3 x p b) [] t3 = some (b, [])
  y1 : ∀ x p (c : Nat), r.ev cx (loc4 x p true ⟨#[c]⟩) [] y1 = some (V.tup [.int p, .str ("\\" ++ ⟨#[c]⟩)], [])
  y2 : ∀ x p c, r.ev cx (loc4 x p false c) [] y2 = some (V.tup [.int p, .str c], [])
  y3 : ∀ x p, r.ev cx (loc3 x p true) [] y3 = some (V.tup [.int p, .str "\\"], [])

noncomputable def gR (fp : Addr → Prop) : GenEnd := fun n s₀ r s₁ => r = .ok (.ret .none) ∧ (n = 0 ∧ Mv fp (fun _ => False) s₀ s₁)
noncomputable def Alive (fp : Addr → Prop) (s : Shared) : Prop := ∀ b, fp b → ∃ o, s.heap.get? b = some o ∧ ¬ Stays o
noncomputable def gY (items : List V) (fp : Addr → Prop) (B : Addr → Option Obj) : Protocol := fun m s₀ v s kap =>
  (∃ x, items[items.length - 1 - m]? = some x ∧ ∀ ρ n, RV ρ n s.heap x v) ∧ Mv fp (fun _ => False) s₀ s ∧ Alive fp s ∧ 0 < s.toks ∧
  ∀ s'' : Shared, (∀ b o, fp b → s.heap.get? b = some o → s''.heap.get? b = some o) → Based B s''.heap → 0 < s''.toks → kap (.send .none) s''

section
variable {prog : Program} {w : World} {B : Addr → Option Obj} {n : Nat} {mg mb : Str → Option Value} {cx : Cx} {A : Around} {ρ ρ' : Nat → Addr} {s s' s'' s₀ : Shared} {env : Env} {loc loc' : Loc} {fp : Addr → Prop} {n' : Nat}

theorem Mv.refl (fp : Addr → Prop) (gp : Nat → Prop) (s : Shared) : Mv fp gp s s := ⟨fun _ _ e _ => e, rfl, id, Nat.le_refl _, fun _ _ _ => rfl, Nat.le_refl _⟩
theorem Mv.trans {gp : Nat → Prop} (X : Mv fp gp s s') (Y : Mv fp gp s' s'') : Mv fp gp s s'' :=
  ⟨fun b o e h => Y.keep b o (X.keep b o e h) h, Y.os.trans X.os, fun h => Y.bare (X.bare h), Nat.le_trans X.gsz Y.gsz, fun g hg h => (Y.gens g (Nat.lt_of_lt_of_le hg X.gsz) h).trans (X.gens g hg h), Nat.le_trans X.tk Y.tk⟩
theorem Ext.mv {fr : Addr → Prop} (X : Ext ρ 0 fr s ρ' n' s') (h : ∀ b, fr b → fp b) : Mv fp (fun _ => False) s s' :=
  ⟨fun b o e hb => (X.keep b o e (fun k hk => absurd hk (Nat.not_lt_zero k)) fun hf => hb (h b hf)).1, X.os, X.bare, X.gsz, fun g hg _ => X.gens g hg, X.tk⟩

noncomputable def FlatL (loc : Loc) : Prop := ∀ x v, getL loc x = some v → (∃ i, v = .int i) ∨ (∃ b, v = .bool b) ∨ ∃ y, v = .str y
theorem rv_flat {v : V} {u : Value} {h h' : Heap} (H : RV ρ n h v u) (hf : (∃ i, v = .int i) ∨ (∃ b, v = .bool b) ∨ ∃ y, v = .str y) : RV ρ' n' h' v u := by
  rcases hf with ⟨i, rfl⟩ | ⟨b, rfl⟩ | ⟨y, rfl⟩ <;> cases H
  · exact .int _ _
  · exact .bool _
  · exact .str _ _
theorem Frm.again (F : Frm ρ n s env loc) (hl : FlatL loc) (hc : ∀ x, env.cells.lookup x = none) (h : ∀ o, s.heap.get? env.locals = some o → s''.heap.get? env.locals = some o) (ht : 0 < s''.toks) : Frm ρ' n' s'' env loc := by
  refine ⟨?_, fun x v e => ?_, fun x c e => (by rw [hc] at e; cases e), ht⟩
  · obtain ⟨m, ⟨o, es, ep, ho, r⟩, hv⟩ := F.ns
    exact ⟨m, ⟨o, es, ep, h o ho, r⟩, fun x v e k => by obtain ⟨u, hu, hr⟩ := hv x v e k; exact ⟨u, hu, rv_flat hr (hl x v e)⟩⟩
  · rcases F.cl x v e with k | ⟨k, c, u, hx, _⟩
    · exact .inl k
    · rw [hc] at hx; cases hx
theorem Frm.less (F : Frm ρ n s env loc) (h : ∀ x v, getL loc' x = some v → getL loc x = some v) : Frm ρ n s env loc' :=
  ⟨let ⟨m, hN, hv⟩ := F.ns; ⟨m, hN, fun x v e k => hv x v (h x v e) k⟩, fun x v e => F.cl x v (h x v e), F.ck, F.tk⟩
theorem flat3 (x : Str) (p : Int) (b : Bool) : FlatL (loc3 x p b) := fun y v e => by
  unfold loc3 at e
  rw [getL_cons, getL_cons, getL_cons] at e
  split at e
  · cases e; exact .inr (.inr ⟨_, rfl⟩)
  · split at e
    · cases e; exact .inl ⟨_, rfl⟩
    · split at e
      · cases e; exact .inr (.inl ⟨_, rfl⟩)
      · cases e
theorem flat4 (x : Str) (p : Int) (b : Bool) (c : Str) : FlatL (loc4 x p b c) := fun y v e => by
  unfold loc4 at e
  rw [getL_cons, getL_cons, getL_cons, getL_cons] at e
  split at e
  · cases e; exact .inr (.inr ⟨_, rfl⟩)
  · split at e
    · cases e; exact .inl ⟨_, rfl⟩
    · split at e
      · cases e; exact .inr (.inl ⟨_, rfl⟩)
      · split at e
        · cases e; exact .inr (.inr ⟨_, rfl⟩)
        · cases e
theorem less34 (x : Str) (p : Int) (b : Bool) (c : Str) : ∀ y v, getL (loc3 x p b) y = some v → getL (loc4 x p b c) y = some v := fun y v e => by
  unfold loc3 at e
  unfold loc4
  rw [getL_cons, getL_cons, getL_cons] at e
  rw [getL_cons, getL_cons, getL_cons, getL_cons]
  split at e
  · rename_i h; rw [if_pos h]; exact e
  · rename_i h; rw [if_neg h]
    split at e
    · rename_i h; rw [if_pos h]; exact e
    · rename_i h; rw [if_neg h]
      split at e
      · rename_i h; rw [if_pos h]; exact e
      · cases e
theorem rel0 (h : Based B s.heap) : Rel B [] ρ [] s.heap :=
  ⟨h, fun k xs e => (by cases e), fun k hk => absurd hk (Nat.not_lt_zero k), fun i j hi _ _ => absurd hi (Nat.not_lt_zero i), fun p hp => (by cases hp)⟩
end
end Uq
end

section
open PySem PySem.Calls PyProof.Rows
namespace Uq
open Sem (wp)
open Builtin Builtin.Str

section
variable {prog : Program} {w : World} {A : Around} {E : Value → Shared → Prop} {s : Shared}

/-- the end of a text's iterator: it still stands -/
theorem str_end_ascii {it : Addr} {x : Str} {t : Tok} {i : Nat} {Q : Value → Shared → Prop} (hh : A.handled = none)
    (hit : s.heap.IsStrIter it "str_ascii_iterator" x t i) (hx : x.cps[i]? = none)
    (hE : ∀ h' e, Heap.ExtBut it s.heap h' → (∃ o, h'.get? it = some o ∧ o.cls = .type "str_ascii_iterator") → (∃ o, h'.get? e = some o ∧ o.cls = .type "StopIteration") → E (.ref e) { s with heap := h' }) :
    wpAny (model prog w) A (Builtin.SmallTypes.nextOf (.ref it)) Q E s := by
  obtain ⟨o, ho, hc, hd⟩ := id hit
  have live : ∀ f : Array Value → Array Value, ∃ o', (s.heap.update it (Obj.mapFields f)).get? it = some o' ∧ o'.cls = .type "str_ascii_iterator" := fun f =>
    ⟨_, Heap.get?_update_self _ ho (Obj.isFreed_of_fields (Obj.data_mapFields hd _)), (Obj.cls_mapFields ..).trans hc⟩
  unfold Builtin.SmallTypes.nextOf
  refine wpAny_bind (wpAny_callSpecial?_slot (name := Str.ofString "__next__") hit.typeIs F.slot_str_ascii_iterator_next
    (wpAny_call_entry F.slot_str_ascii_iterator_next hit.typeIs F.entry_str_ascii_iterator_next ?_ (F.args_str_ascii_iterator_next_1 _)))
  show wpAny _ _ (field (.ref it) 0 >>= _) _ _ s
  refine wpAny_bind (wpAny_field ho hd (x := .str x t) rfl ?_)
  show wpAny _ _ (field (.ref it) 1 >>= _) _ _ s
  refine wpAny_bind (wpAny_field ho hd (x := .int i 0) rfl ?_)
  simp only [Int.toNat_natCast, hx]
  refine wpAny_bind (wpAny_rule (wpAny_bind (wpAny_setField ho hd (by simp) (wpAny_bind (wpAny_letGo ?_)))))
  show wpAny _ _ (newExc (.type "StopIteration") [] >>= _) _ _ _
  refine wpAny_bind ?_
  simp only [newExc, newTuple]
  refine wpAny_bind (wpAny_newObj_type ?_ (by size_fits))
  refine wpAny_bind (m := firstArgMember _ _) (wpAny_of_eq (a := Value.none) (by first | rfl | (simp only [firstArgMember]; rfl)) ?_)
  refine wpAny_newObj_type ?_ (by size_fits)
  simp only [raiseNew]
  refine wpAny_bind (wpAny_handled ?_)
  first | rw [show A.in1.handled = none from hh] | rw [hh]
  refine wpAny_bind (wpAny_pure (wpAny_throw ?_))
  refine hE _ _ (((Heap.SameBut.update ..).extBut.push _).push _) ?_ ⟨_, Heap.get?_push_size _ rfl, rfl⟩
  obtain ⟨o', h1, h2⟩ := live _
  exact ⟨o', Heap.get?_push_of_some _ (Heap.get?_push_of_some _ h1), h2⟩

theorem str_end_wide {it : Addr} {x : Str} {t : Tok} {i : Nat} {Q : Value → Shared → Prop} (hh : A.handled = none)
    (hit : s.heap.IsStrIter it "str_iterator" x t i) (hx : x.cps[i]? = none)
    (hE : ∀ h' e, Heap.ExtBut it s.heap h' → (∃ o, h'.get? it = some o ∧ o.cls = .type "str_iterator") → (∃ o, h'.get? e = some o ∧ o.cls = .type "StopIteration") → E (.ref e) { s with heap := h' }) :
    wpAny (model prog w) A (Builtin.SmallTypes.nextOf (.ref it)) Q E s := by
  obtain ⟨o, ho, hc, hd⟩ := id hit
  have live : ∀ f : Array Value → Array Value, ∃ o', (s.heap.update it (Obj.mapFields f)).get? it = some o' ∧ o'.cls = .type "str_iterator" := fun f =>
    ⟨_, Heap.get?_update_self _ ho (Obj.isFreed_of_fields (Obj.data_mapFields hd _)), (Obj.cls_mapFields ..).trans hc⟩
  unfold Builtin.SmallTypes.nextOf
  refine wpAny_bind (wpAny_callSpecial?_slot (name := Str.ofString "__next__") hit.typeIs F.slot_str_iterator_next
    (wpAny_call_entry F.slot_str_iterator_next hit.typeIs F.entry_str_iterator_next ?_ (F.args_str_iterator_next_1 _)))
  show wpAny _ _ (field (.ref it) 0 >>= _) _ _ s
  refine wpAny_bind (wpAny_field ho hd (x := .str x t) rfl ?_)
  show wpAny _ _ (field (.ref it) 1 >>= _) _ _ s
  refine wpAny_bind (wpAny_field ho hd (x := .int i 0) rfl ?_)
  simp only [Int.toNat_natCast, hx]
  refine wpAny_bind (wpAny_rule (wpAny_bind (wpAny_setField ho hd (by simp) (wpAny_bind (wpAny_letGo ?_)))))
  show wpAny _ _ (newExc (.type "StopIteration") [] >>= _) _ _ _
  refine wpAny_bind ?_
  simp only [newExc, newTuple]
  refine wpAny_bind (wpAny_newObj_type ?_ (by size_fits))
  refine wpAny_bind (m := firstArgMember _ _) (wpAny_of_eq (a := Value.none) (by first | rfl | (simp only [firstArgMember]; rfl)) ?_)
  refine wpAny_newObj_type ?_ (by size_fits)
  simp only [raiseNew]
  refine wpAny_bind (wpAny_handled ?_)
  first | rw [show A.in1.handled = none from hh] | rw [hh]
  refine wpAny_bind (wpAny_pure (wpAny_throw ?_))
  refine hE _ _ (((Heap.SameBut.update ..).extBut.push _).push _) ?_ ⟨_, Heap.get?_push_size _ rfl, rfl⟩
  obtain ⟨o', h1, h2⟩ := live _
  exact ⟨o', Heap.get?_push_of_some _ (Heap.get?_push_of_some _ h1), h2⟩

theorem strType_ne (x : Str) : strIterType x ≠ "tuple" ∧ strIterType x ≠ "range" := by
  unfold strIterType
  split <;> exact ⟨by decide, by decide⟩

/-- the end of enumerate over a text -/
theorem enum_end {e it : Addr} {x : Str} {t : Tok} {j : Int} {i : Nat} {old : Value} {Q : Option Value → Shared → Prop} (hh : A.handled = none)
    (he : IsEnum s.heap e it j old) (hit : s.heap.IsStrIter it (strIterType x) x t i) (hx : x.cps[i]? = none)
    (hQ : ∀ h', Heap.ExtBut it s.heap h' → (∃ o, h'.get? it = some o ∧ ¬ Stays o) → Q none { s with heap := h' }) : wpAny (model prog w) A (pyNext (.ref e)) Q E s := by
  have hT : s.TypeIs (.ref e) "enumerate" := ⟨_, he, rfl⟩
  unfold pyNext
  refine wpAny_bind (wpAny_attempt (wpAny_callSpecial?_slot (name := Str.ofString "__next__") hT F.slot_enumerate_next
    (wpAny_call_entry F.slot_enumerate_next hT F.entry_enumerate_next ?_ (F.args_enumerate_next_1 _))))
  show wpAny _ _ (field (.ref e) 2 >>= _) _ _ _
  refine wpAny_bind (wpAny_field he rfl (x := .ref it) rfl ?_)
  refine wpAny_bind ?_
  cases ha : x.cps.all (· < 128) with
  | true =>
    have hn : strIterType x = "str_ascii_iterator" := by unfold strIterType; rw [ha]; rfl
    rw [hn] at hit
    refine str_end_ascii hh hit hx fun h' b he' ⟨o1, h1, hc1⟩ ⟨o, ho, hc⟩ => ?_
    refine wpAny_bind (wpAny_isInstance (T := "StopIteration") (b := true) ⟨o, ho, hc⟩ isSubtype_stop ?_)
    exact wpAny_pure (hQ _ he' ⟨o1, h1, no_stays h1 hc1 (by decide) (by decide)⟩)
  | false =>
    have hn : strIterType x = "str_iterator" := by unfold strIterType; rw [ha]; rfl
    rw [hn] at hit
    refine str_end_wide hh hit hx fun h' b he' ⟨o1, h1, hc1⟩ ⟨o, ho, hc⟩ => ?_
    refine wpAny_bind (wpAny_isInstance (T := "StopIteration") (b := true) ⟨o, ho, hc⟩ isSubtype_stop ?_)
    exact wpAny_pure (hQ _ he' ⟨o1, h1, no_stays h1 hc1 (by decide) (by decide)⟩)
end
end Uq
end

section
open PySem PySem.Calls PyProof.Rows
namespace Uq
open Sem (wp)

section
variable {prog : Program} {w : World} {B : Addr → Option Obj} {mg mb : Str → Option Value} {cx : Cx} {A : Around} {ρ ρ' : Nat → Addr} {s s' s'' s₀ : Shared} {env : Env} {loc loc' : Loc} {fp : Addr → Prop}
variable {r : Lv} {A3 A4 : Stmt} {tgt t1 t2 t3 y1 y2 y3 : PySem.Expr} {c : Code} {fs : List Frame}
  {K : Flow → Sem PySem.Fin} {H : Value → Sem PySem.Fin} {gd : Bool → Bool} {lv : List Value → List Value}

theorem rv_any {v : V} {u : Value} {h : Heap} (H : RV ρ 0 h v u) : ∀ ρ' n, RV ρ' n h v u := fun ρ' n => H.mono (fun k hk => absurd hk (Nat.not_lt_zero k)) (Nat.zero_le _) fun _ _ e _ => e

/-- what the generator owns, at a step -/
structure GSt (fp : Addr → Prop) (e it : Addr) (x : Str) (t : Tok) (i : Nat) (env : Env) (s : Shared) : Prop where
  en : ∃ old, IsEnum s.heap e it (i : Int) old
  si : s.heap.IsStrIter it (strIterType x) x t i

structure GAd (fp : Addr → Prop) (e it : Addr) (env : Env) : Prop where
  mem : ∀ b, fp b ↔ b = env.locals ∨ b = e ∨ b = it
  ne1 : e ≠ it
  ne2 : e ≠ env.locals
  ne3 : it ≠ env.locals
  cl : ∀ y, env.cells.lookup y = none

theorem GAd.fr (G : GAd fp e it env) : ∀ b, frs env b → fp b := fun b hb => by
  rcases hb with rfl | ⟨y, hy⟩
  · exact (G.mem _).mpr (.inl rfl)
  · rw [G.cl] at hy; cases hy
theorem GAd.nfr (G : GAd fp e it env) {b : Addr} (h : b ≠ env.locals) : ¬ frs env b := fun hb => by
  rcases hb with rfl | ⟨y, hy⟩
  · exact h rfl
  · rw [G.cl] at hy; cases hy

theorem GSt.at {e it : Addr} {x : Str} {t : Tok} {i : Nat} (S : GSt fp e it x t i env s) (h1 : ∀ o, s.heap.get? e = some o → s'.heap.get? e = some o) (h2 : ∀ o, s.heap.get? it = some o → s'.heap.get? it = some o) : GSt fp e it x t i env s' :=
  ⟨let ⟨old, h⟩ := S.en; ⟨old, h1 _ h⟩, let ⟨o, ho, r⟩ := S.si; ⟨o, h2 o ho, r⟩⟩
theorem GSt.ext {e it : Addr} {x : Str} {t : Tok} {i : Nat} {n' : Nat} (G : GAd fp e it env) (S : GSt fp e it x t i env s) (X : Ext ρ 0 (frs env) s ρ' n' s') : GSt fp e it x t i env s' :=
  S.at (fun o h => (X.keep e o h (fun k hk => absurd hk (Nat.not_lt_zero k)) (G.nfr G.ne2)).1) fun o h => (X.keep it o h (fun k hk => absurd hk (Nat.not_lt_zero k)) (G.nfr G.ne3)).1
theorem GSt.alive {e it : Addr} {x : Str} {t : Tok} {i : Nat} (G : GAd fp e it env) (S : GSt fp e it x t i env s) (F : Frm ρ 0 s env loc) : Alive fp s := fun b hb => by
  rcases (G.mem b).mp hb with rfl | rfl | rfl
  · obtain ⟨o, ho, hn, _⟩ := F.kinds _ (.inl rfl)
    exact ⟨o, ho, hn⟩
  · obtain ⟨old, h⟩ := S.en
    exact ⟨_, h, no_stays h rfl (by decide) (by decide)⟩
  · obtain ⟨o, ho, hc, _⟩ := S.si
    refine ⟨o, ho, no_stays ho hc ?_ ?_⟩ <;> unfold strIterType <;> split <;> decide

theorem seg_yield_item {y : PySem.Expr} {yp p : Pos} {v : V} {rest items pre : List V} (hr : EvOK prog w B [] 0 mg mb r.ev) (C : CxOK prog w B [] 0 mg mb cx) (RA : Room 0 (A.over c fs)) (EO : EnvOK B env) (hs : env.scope = cx.sc) (hco : env.scope.isCoroutine = false)
    (hfs : splitAtGen fs = none) (hgd : gd false = false) (hfg : fs.any Frame.guarded = false) (hl : FlatL loc) (hc : ∀ y, env.cells.lookup y = none) (hL : fp env.locals)
    (hy : r.ev cx loc [] y = some (v, [])) (hb : Based B s.heap) (F : Frm ρ 0 s env loc) (M : Mv fp (fun _ => False) s₀ s) (al : Alive fp s) (hit : items = pre ++ v :: rest)
    (next : ∀ s'' ρ, Frm ρ 0 s'' env loc → Based B s''.heap → (∀ b o, fp b → s.heap.get? b = some o → s''.heap.get? b = some o) → Seg (model prog w) A (gR fp) (gY items fp B) rest.length s'' c (K .next) fs s'') :
    Seg (model prog w) A (gR fp) (gY items fp B) (rest.length + 1) s₀ c ((exec (.Expr (.Yield (some y) yp) p) env).wrap K H gd lv) fs s := by
  refine seg_Expr_Yield hfs hgd hfg ?_ hco (noninteractive EO)
  refine hr.2 cx C loc [] y v [] hy _ ρ s env RA EO hs (rel0 hb) F _ _ fun ρ1 s1 u R1 X1 V1 kap hk => ?_
  have keep : ∀ b o, s.heap.get? b = some o → s1.heap.get? b = some o := fun b o e => (X1.keep b o e (fun k hk => absurd hk (Nat.not_lt_zero k)) id).1
  refine ⟨⟨v, ?_, rv_any V1⟩, M.trans (X1.mv (fun _ h => h.elim)), fun b hb => ?_, Nat.lt_of_lt_of_le F.tk X1.tk, fun s'' h1 h2 h3 => ?_⟩
  · rw [hit]
    have : (pre ++ v :: rest).length - 1 - rest.length = pre.length := by simp
    rw [this]; simp
  · obtain ⟨o, ho, hn⟩ := al b hb
    exact ⟨o, keep b o ho, hn⟩
  · exact hk .none s'' (next s'' ρ1 (F.again hl hc (fun o e => h1 _ o hL (keep _ o e)) h3) h2 fun b o hb e => h1 b o hb (keep b o e))

theorem seg_gen_loop {q1 q2 q3 q4 q5 q6 tp : Pos} {ts : List PySem.Expr} {tk : Nat} {cod c₀ : Code} {p₀ : Pos} {kk : Result → Sem PySem.Fin} {e it : Addr} {x : Str} {t : Tok} {items : List V} {body : List Stmt}
    (hbody : body = [.If t1 [.Expr (.Yield (some y1) q1) q2, A3] [.If t2 [A4] [.Expr (.Yield (some y2) q3) q4] q5] q6])
    (hcode : cod = .forLoop (.Tuple ts tk tp) (.ref e) body [] env) (hfs : fs = [.ret kk none false [] c₀ p₀ []])
    (hr : EvOK prog w B [] 0 mg mb r.ev) (ht : TvOK prog w B [] 0 mg mb r.tv) (hex : ExOK prog w B [] 0 mg mb r.ex) (C : CxOK prog w B [] 0 mg mb cx) (Gc : GCode cx r A3 A4 (.Tuple ts tk tp) t1 t2 t3 y1 y2 y3)
    (hA : A.handled = none) (RA : Room 0 (A.over cod fs)) (EO : EnvOK B env) (hs : env.scope = cx.sc) (hco : env.scope.isCoroutine = false) (G : GAd fp e it env)
    (hend : ∀ i p b pre s₀ s ρ, items = pre ++ escGo [] i p b → Frm ρ 0 s env (loc3 x p b) → Based B s.heap → Mv fp (fun _ => False) s₀ s → Alive fp s → (∀ b, fp b → B b = none) →
      Seg (model prog w) A (gR fp) (gY items fp B) (escGo [] i p b).length s₀ c₀ (kk (.ok .next)) [] s) (hB : ∀ b, fp b → B b = none) :
    ∀ (cs : List Nat) (i : Nat) (p : Int) (b : Bool) (pre : List V) (s₀ s : Shared) (ρ : Nat → Addr), cs = x.cps.toList.drop i → i ≤ x.cps.size → items = pre ++ escGo cs i p b → Frm ρ 0 s env (loc3 x p b) → Based B s.heap → GSt fp e it x t i env s → Mv fp (fun _ => False) s₀ s →
      Seg (model prog w) A (gR fp) (gY items fp B) (escGo cs i p b).length s₀ cod ((model prog w).den cod) fs s := by
  have hA' : (A.over cod fs).handled = none := RA.hd
  have hqu : cod.quiet = true := by rw [hcode]; rfl
  have hf1 : splitAtGen fs = none := by rw [hfs]; rfl
  have hf2 : fs.any Frame.guarded = false := by rw [hfs]; rfl
  have W := WalksT.enumerateD (draws_str (prog := prog) (w := w) (A := (A.over cod fs).in1) hA' it x t) e G.ne1 (by simpa using G.ne1) (by simp)
  have nst : ∀ {s : Shared} {i : Nat}, GSt fp e it x t i env s → (∀ b o, b ∈ [e, it] → s.heap.get? b = some o → ¬ Stays o) := fun {s i} S b o hb ho => by
    rcases List.mem_cons.mp hb with rfl | hb
    · obtain ⟨old, h⟩ := S.en
      rw [h] at ho; cases ho
      exact no_stays h rfl (by decide) (by decide)
    · have := List.mem_singleton.mp hb
      subst this
      obtain ⟨o', ho', hc, _⟩ := S.si
      rw [ho'] at ho; cases ho
      refine no_stays ho' hc ?_ ?_ <;> unfold strIterType <;> split <;> decide
  have hw : ∀ b, b ∈ [e, it] → fp b := fun b hb => by
    rcases List.mem_cons.mp hb with rfl | hb
    · exact (G.mem _).mpr (.inr (.inl rfl))
    · exact (G.mem _).mpr (.inr (.inr (List.mem_singleton.mp hb)))
  have hBw : ∀ {h h' : Heap}, Based B h → (∀ b o, b ∉ [e, it] → h.get? b = some o → h'.get? b = some o) → Based B h' := fun hb hk b o q => hk b o (fun hm => by rw [hB b (hw b hm)] at q; cases q) (hb b o q)
  intro cs
  induction cs with
  | nil =>
    intro i p b pre s₀ s ρ hcs hi hit F hb S M
    have hin : i = x.cps.size := by
      have h2 := congrArg List.length hcs
      simp at h2
      omega
    subst hin
    refine seg_loop hcode fun K' H' eK => ?_
    obtain ⟨old, he⟩ := S.en
    refine enum_end hA' he S.si (by simp) fun h' hx hi' => ?_
    have hk : ∀ b o, b ∉ [e, it] → s.heap.get? b = some o → h'.get? b = some o := fun b o hb q => hx b o (fun q => hb (by simp [q])) q
    show Seg (model prog w) A (gR fp) (gY items fp B) (escGo [] x.cps.size p b).length s₀ (.block [] env) (leafOf (.ok .next)) fs { s with heap := h' }
    rw [hfs]
    have F' : Frm ρ 0 { s with heap := h' } env (loc3 x p b) := F.again (flat3 x p b) G.cl (fun o q => hx _ o (Ne.symm G.ne3) q) F.tk
    refine seg_leaf (.ok .next) (hend x.cps.size p b pre s₀ { s with heap := h' } ρ hit F' (hBw hb hk)
      (M.trans ⟨fun b o q hn => hk b o (fun hm => hn (hw b hm)) q, rfl, id, Nat.le_refl _, fun _ _ _ => rfl, Nat.le_refl _⟩) (fun b hb => ?_) hB)
    rcases (G.mem b).mp hb with rfl | rfl | rfl
    · obtain ⟨o, ho, hn, _⟩ := F'.kinds _ (.inl rfl)
      exact ⟨o, ho, hn⟩
    · exact ⟨_, hx _ _ G.ne1 he, no_stays he rfl (by decide) (by decide)⟩
    · exact hi'
  | cons ch cs ih =>
    intro i p b pre s₀ s ρ hcs hi hit F hb S M
    have hlt : i < x.cps.size := by
      have h2 := congrArg List.length hcs
      simp at h2
      omega
    have hch : x.cps[i]? = some ch := by
      have h2 := congrArg (fun l => l[0]?) hcs
      simpa using h2.symm
    have hcs' : cs = x.cps.toList.drop (i + 1) := by
      have h2 := congrArg List.tail hcs
      simpa using h2
    refine seg_loop hcode fun K' H' eK => ?_
    refine wpAny_with_toks (Nat.le_refl s.toks) (W.item i s _ _ hlt ⟨S.en, S.si⟩ fun T vals h' tk' hP hT hi' hm hk hle => ?_)
    obtain ⟨t', x', ⟨c', u', hc', rfl⟩, rfl⟩ := hP
    rw [hch] at hc'; cases hc'
    have hTw := W.apart i T h' hm
    refine W.go ts tk tp i T { s with heap := h', toks := tk' } _ _ hm fun h2 hst2 hk2 => ?_
    have K : ∀ b o, b ∉ [e, it] → s.heap.get? b = some o → h2.get? b = some o := fun b o hb q => hk2 b o hb (hk b o hb q)
    have F1 : Frm ρ 0 { s with heap := h2, toks := tk' } env (loc3 x p b) := F.again (flat3 x p b) G.cl (fun o q => K _ o (by simp [Ne.symm G.ne2, Ne.symm G.ne3]) q) (Nat.lt_of_lt_of_le F.tk hle)
    have B1 : Based B h2 := hBw hb K
    have M1 : Mv fp (fun _ => False) s₀ { s with heap := h2, toks := tk' } := M.trans ⟨fun b o q hn => K b o (fun hm => hn (hw b hm)) q, rfl, id, Nat.le_refl _, fun _ _ _ => rfl, hle⟩
    have S1 : GSt fp e it x t (i + 1) env { s with heap := h2, toks := tk' } := ⟨hst2.1, hst2.2⟩
    have V1 : RV ρ 0 h2 (.tup [.int i, .str ⟨#[ch]⟩]) (.ref T) := by
      obtain ⟨o, ho, hc, m, hd⟩ := hi'
      exact .tup _ T [.int i t', .str ⟨#[ch]⟩ u'] ⟨o, hk2 T o hTw ho, hc, m, hd⟩ (.cons (.int _ _) (.cons (.str _ _) .nil))
    refine bind_ok EO hs hA' (Gc.tg x p b i ⟨#[ch]⟩) (rel0 B1) F1 V1 _ _ fun ρ2 s2 R2 X2 F2 => ?_
    have B2 := R2.base
    have M2 := M1.trans (X2.mv G.fr)
    have S2 := S1.ext G X2
    rw [hbody]
    refine seg_cons fun K1 e1 => seg_If ?_
    refine ht cx C _ [] t1 b [] (Gc.t1 x i b ⟨#[ch]⟩) _ ρ2 s2 env RA EO hs R2 F2 _ _ fun ρ3 s3 R3 X3 => ?_
    have F3 := F2.keeps R2 rfl X3
    have B3 := R3.base
    have X3' := X3.wider (fr' := frs env) fun _ hb => hb.elim
    have M3 := M2.trans (X3'.mv G.fr)
    have S3 := S2.ext G X3'
    cases b with
    | true =>
      rw [if_pos rfl]
      refine seg_cons fun K2 e2 => ?_
      refine seg_yield_item hr C RA EO hs hco hf1 rfl hf2 (flat4 x i true ⟨#[ch]⟩) G.cl ((G.mem _).mpr (.inl rfl)) (Gc.y1 x i ch) B3 F3 M3 (S3.alive G F3) hit fun s4 ρ4 F4 B4 hk4 => ?_
      have S4 : GSt fp e it x t (i + 1) env s4 := S3.at (fun o => hk4 e o ((G.mem _).mpr (.inr (.inl rfl)))) (fun o => hk4 it o ((G.mem _).mpr (.inr (.inr rfl))))
      rw [e2]
      refine seg_cons fun K3 e3 => seg_plain ?_
      refine hex cx C _ [] A3 .next _ [] (Gc.a3 x i ⟨#[ch]⟩) _ ρ4 s4 env RA EO hs (rel0 B4) F4 _ _ fun ρ5 s5 fl R5 X5 F5 V5 => ?_
      obtain rfl := V5.next_inv
      rw [e3]
      refine seg_execs_nil ?_
      rw [e1]
      refine seg_execs_nil ?_
      rw [eK]
      refine seg_again hqu ?_
      refine ih (i + 1) i false (pre ++ [.tup [.int i, .str ("\\" ++ ⟨#[ch]⟩)]]) s4 s5 ρ5 hcs' hlt (by rw [hit]; simp [escGo]) (F5.less (less34 _ _ _ _)) R5.base (S4.ext G X5) (X5.mv G.fr)
    | false =>
      rw [if_neg (by decide)]
      refine seg_cons fun K2 e2 => seg_If ?_
      refine ht cx C _ [] t2 _ [] (Gc.t2 x i ⟨#[ch]⟩) _ ρ3 s3 env RA EO hs R3 F3 _ _ fun ρ4 s4 R4 X4 => ?_
      have F4 := F3.keeps R3 rfl X4
      have B4 := R4.base
      have X4' := X4.wider (fr' := frs env) fun _ hb => hb.elim
      have M4 := M3.trans (X4'.mv G.fr)
      have S4 := S3.ext G X4'
      unfold escGo at hit ⊢
      cases hq : ((⟨#[ch]⟩ : Str) == "\\") with
      | true =>
        rw [hq] at hit
        dsimp only at hit ⊢
        rw [if_pos rfl]
        refine seg_cons fun K3 e3 => seg_plain ?_
        refine hex cx C _ [] A4 .next _ [] (Gc.a4 x i ⟨#[ch]⟩) _ ρ4 s4 env RA EO hs R4 F4 _ _ fun ρ5 s5 fl R5 X5 F5 V5 => ?_
        obtain rfl := V5.next_inv
        rw [e3]
        refine seg_execs_nil ?_
        rw [e2]
        refine seg_execs_nil ?_
        rw [e1]
        refine seg_execs_nil ?_
        rw [eK]
        refine seg_again hqu ?_
        exact ih (i + 1) i true pre s₀ s5 ρ5 hcs' hlt hit (F5.less (less34 _ _ _ _)) R5.base (S4.ext G X5) (M4.trans (X5.mv G.fr))
      | false =>
        rw [hq] at hit
        dsimp only at hit ⊢
        rw [if_neg (by decide)]
        refine seg_cons fun K3 e3 => ?_
        refine seg_yield_item hr C RA EO hs hco hf1 rfl hf2 (flat4 x i false ⟨#[ch]⟩) G.cl ((G.mem _).mpr (.inl rfl)) (Gc.y2 x i ⟨#[ch]⟩) B4 F4 M4 (S4.alive G F4) hit fun s5 ρ5 F5 B5 hk5 => ?_
        have S5 : GSt fp e it x t (i + 1) env s5 := S4.at (fun o => hk5 e o ((G.mem _).mpr (.inr (.inl rfl)))) (fun o => hk5 it o ((G.mem _).mpr (.inr (.inr rfl))))
        rw [e3]
        refine seg_execs_nil ?_
        rw [e2]
        refine seg_execs_nil ?_
        rw [e1]
        refine seg_execs_nil ?_
        rw [eK]
        refine seg_again hqu ?_
        exact ih (i + 1) i false (pre ++ [.tup [.int i, .str ⟨#[ch]⟩]]) s5 s5 ρ5 hcs' hlt (by rw [hit]; simp) (F5.less (less34 _ _ _ _)) B5 S5 (Mv.refl _ _ _)
end
end Uq
end

section
open PySem PySem.Calls PyProof.Rows
namespace Uq
open Sem (wp)

section
variable {prog : Program} {w : World} {B : Addr → Option Obj} {mg mb : Str → Option Value} {cx : Cx} {A : Around} {ρ ρ' : Nat → Addr} {s s' s'' s₀ : Shared} {env : Env} {loc loc' : Loc}
variable {r : Lv} {A3 A4 : Stmt} {t1 t2 t3 y1 y2 y3 : PySem.Expr}

noncomputable def gfp (L N0 : Addr) : Addr → Prop := fun b => b = L ∨ b = N0 + 1 ∨ b = N0

/-- the code of the generator: its shape -/
noncomputable def GShape (cx : Cx) (r : Lv) (body : List Stmt) : Prop := ∀ G : Prop,
  (∀ (xp xe xf xa : Str) (p1 p2 p3 p4 p5 p6 np ap cp tp q1 q2 q3 q4 q5 q6 p7 p8 p9 p10 : Pos) (k1 k2 tk : Nat) (ts : List PySem.Expr) (A3 A4 : Stmt) (t1 t2 t3 y1 y2 y3 : PySem.Expr),
    body = [.Assign [.Name xp p1] (.Constant (.int 0) k1 p2) p3, .Assign [.Name xe p4] (.Constant (.bool false) k2 p5) p6,
      .For (.Tuple ts tk tp) (.Call (.Name xf np) [.Name xa ap] [] cp) [.If t1 [.Expr (.Yield (some y1) q1) q2, A3] [.If t2 [A4] [.Expr (.Yield (some y2) q3) q4] q5] q6] [] p7,
      .If t3 [.Expr (.Yield (some y3) p8) p9] [] p10] →
    (∀ x, setL (setL [("addr", .str x)] xp (.int 0)) xe (.bool false) = loc3 x 0 false) → cx.sc.names.lookup xp = some .local → cx.sc.names.lookup xe = some .local →
    cx.sc.names.lookup xf = some .globalImplicit → cx.glob xf = some (.imm (.type "enumerate")) → decide (xf = ("__debug__" : Str)) = false → decide (xa = ("__debug__" : Str)) = false →
    (∀ x, getL (loc3 x 0 false) xa = some (.str x)) → cx.sc.names.lookup xa = some .local → GCode cx r A3 A4 (.Tuple ts tk tp) t1 t2 t3 y1 y2 y3 → G) → G

theorem room_over {c : Code} {n : Nat} (R : Room (n + 1) A) (h1 : c.weight = 1) (h2 : c.cUnits = 3) : Room n (A.in1.over c []) :=
  ⟨R.hd, by have := R.dp; show A.depth + 0 + c.weight + n ≤ 900; omega, by have := R.un; show A.units + 1 + 0 + c.cUnits + 10 * n ≤ 9000; omega⟩

theorem seg_gen {body : List Stmt} (S : GShape cx r body) (hr : EvOK prog w B [] 0 mg mb r.ev) (ht : TvOK prog w B [] 0 mg mb r.tv) (hex : ExOK prog w B [] 0 mg mb r.ex) (C : CxOK prog w B [] 0 mg mb cx)
    (RA : Room 2 A) (EO : EnvOK B env) (hs : env.scope = cx.sc) (hco : env.scope.isCoroutine = false) (hcl : ∀ y, env.cells.lookup y = none) {x : Str} {N0 : Addr} (hb : Based B s.heap) (F : Frm ρ 0 s env [("addr", .str x)]) (hN : s.heap.objs.size = N0) (hL : env.locals < N0) :
    Seg (model prog w) A.in1 (gR (gfp env.locals N0)) (gY (escGo x.cps.toList 0 0 false) (gfp env.locals N0) B) (escGo x.cps.toList 0 0 false).length s (.func body env) ((model prog w).den (.func body env)) [] s := by
  refine S _ fun xp xe xf xa p1 p2 p3 p4 p5 p6 np ap cp tp q1 q2 q3 q4 q5 q6 p7 p8 p9 p10 k1 k2 tk ts A3 A4 t1 t2 t3 y1 y2 y3 hbody hset kp ke kf gf df da ga ka Gc => ?_
  generalize hitems : escGo x.cps.toList 0 0 false = items
  have hBn : ∀ b, gfp env.locals N0 b → B b = none := fun b h => by
    cases z : B b with
    | none => rfl
    | some o =>
      rcases h with rfl | h | h
      · rw [EO.nb _ (.inl rfl)] at z; cases z
      · have q := Heap.lt_size (hb b o z)
        rw [h, hN] at q
        exact absurd (Nat.lt_of_succ_lt q) (Nat.lt_irrefl _)
      · have q := Heap.lt_size (hb b o z)
        rw [h, hN] at q
        exact absurd q (Nat.lt_irrefl _)
  have G : GAd (gfp env.locals N0) (N0 + 1) N0 env := ⟨fun b => Iff.rfl, Nat.succ_ne_self N0, Ne.symm (Nat.ne_of_lt (Nat.lt_succ_of_lt hL)), Ne.symm (Nat.ne_of_lt hL), hcl⟩
  have RA1 : Room 1 (A.in1.over (.func body env) []) := room_over RA rfl rfl
  have kind : ∀ {y k}, cx.sc.names.lookup y = some k → env.kindOf y = some k := fun {y k} h => by show env.scope.names.lookup y = _; rw [hs]; exact h
  refine seg_func ?_
  generalize hcode : Code.func body env = c₀
  rw [hcode] at RA1
  rw [hbody]
  -- pos = 0
  refine seg_cons fun K1 e1 => seg_plain (wpAny_Assign_Name (wpAny_Constant_int ?_) rfl)
  have F0 : Frm ρ 0 { s with toks := s.toks + 1 } env [("addr", .str x)] := ⟨F.ns, F.cl, F.ck, Nat.succ_pos _⟩
  refine store_loc_sz (s := { s with toks := s.toks + 1 }) (st := []) EO (rel0 (ρ := ρ) hb) F0 (.int 0 _) (kind kp) _ _ fun ρ1 s1 R1 X1 F1 z1 => ?_
  rw [e1]
  refine seg_cons fun K2 e2 => seg_plain (wpAny_Assign_Name (wpAny_Constant_bool ?_) rfl)
  refine store_loc_sz EO R1 F1 (.bool false) (kind ke) _ _ fun ρ2 s2 R2 X2 F2 z2 => ?_
  rw [hset] at F2
  have M0 : Mv (gfp env.locals N0) (fun _ => False) s { s with toks := s.toks + 1 } := ⟨fun _ _ e _ => e, rfl, id, Nat.le_refl _, fun _ _ _ => rfl, Nat.le_succ _⟩
  have M2 : Mv (gfp env.locals N0) (fun _ => False) s s2 := M0.trans ((X1.mv fun b h => .inl h).trans (X2.mv fun b h => .inl h))
  have hN2 : s2.heap.objs.size = N0 := z2.trans (z1.trans hN)
  rw [e2]
  refine seg_cons fun K3 e3 => ?_
  refine seg_For (it := .none) ?_ (fun _ => rfl)
  rw [eval_Call_plain fun o m p e => by cases e]
  refine wpAny_bind ?_
  obtain ⟨u, hu, hg⟩ := C.glob xf _ gf
  cases hu
  have Nm := C.glb s2.heap R2.base
  have df' : (xf == ("__debug__" : Str)) = false := by simpa using df
  have da' : (xa == ("__debug__" : Str)) = false := by simpa using da
  refine Name_function_global EO.fn (kind kf) ?_ df'
  have load : ∀ (Q E : Value → Shared → Prop), Q (.type "enumerate") s2 → wpAny (model prog w) (A.in1.over c₀ []) (loadGlobal env xf) Q E s2 := fun Q E h => by
    rcases hg with hu | ⟨hu, hbu⟩
    · exact loadGlobal_global (by rw [EO.gl]; exact Nm.1) hu h
    · exact loadGlobal_builtin (by rw [EO.gl]; exact Nm.1) hu (by rw [EO.bi]; exact Nm.2) hbu h
  refine load _ _ ?_
  refine PyProof.Rows.callWith_type1 (T := "enumerate") (e := .Name xa ap) (rest := []) (env := env) ?_
  refine wpAny_items_cons ?_
  obtain ⟨m, hNs, hv⟩ := F2.ns
  obtain ⟨ua, hua, hra⟩ := hv xa _ (ga x) (kind ka)
  refine wpAny_Name (wpAny_loadName_local EO.fn (kind ka) hNs hua ?_) da'
  refine wpAny_items_nil ?_
  cases hra
  rename_i ta
  refine call_enumerate_str fun h' he hit hz hk => ?_
  rw [hN2] at he hit hz
  rw [hN2]
  refine wpAny_pyIter_enum he fun p => ?_
  have X3 : Mv (gfp env.locals N0) (fun _ => False) s2 { s2 with heap := h' } := ⟨fun b o e _ => hk b o e, rfl, id, Nat.le_refl _, fun _ _ _ => rfl, Nat.le_refl _⟩
  have hb3 : Based B h' := fun b o e => hk b o (R2.base b o e)
  have F3 : Frm ρ2 0 { s2 with heap := h' } env (loc3 x 0 false) := F2.again (flat3 x 0 false) hcl (fun o e => hk _ o e) F2.tk
  have RA3 : ∀ (k : Result → Sem PySem.Fin) (p : Pos) (b : List Stmt), Room 0 (A.in1.over (.forLoop (.Tuple ts tk tp) (.ref (N0 + 1)) b [] env) [.ret k none false [] c₀ p []]) := fun k p b => by
    subst hcode
    refine ⟨RA.hd, ?_, ?_⟩
    · have := RA.dp; show A.depth + (1 + 0) + 0 + 0 ≤ 900; omega
    · have := RA.un; show A.units + 1 + (3 + 0) + 0 + 10 * 0 ≤ 9000; omega
  rw [← hitems]
  refine seg_gen_loop (A := A.in1) (cod := .forLoop (.Tuple ts tk tp) (.ref (N0 + 1)) _ [] env) (c₀ := c₀) (e := N0 + 1) (it := N0) (t := ta) rfl rfl rfl hr ht hex C Gc RA.hd (RA3 _ p _) EO hs hco G (fun i p b pre s₀ s ρ hit F hb M al _ => ?_) hBn x.cps.toList 0 0 false [] s { s2 with heap := h' } ρ2 rfl (Nat.zero_le _) rfl F3 hb3 ⟨⟨_, he⟩, hit⟩ (M2.trans X3)
  show Seg (model prog w) A.in1 _ _ _ s₀ c₀ (K3 .next) [] s
  rw [e3]
  refine seg_cons fun K4 e4 => seg_If ?_
  refine ht cx C _ [] t3 b [] (Gc.t3 x p b) _ ρ s env ⟨RA1.hd, RA1.mono (Nat.zero_le _) |>.dp, RA1.mono (Nat.zero_le _) |>.un⟩ EO hs (rel0 hb) F _ _ fun ρ4 s4 R4 X4 => ?_
  have F4 := F.keeps (rel0 hb) rfl X4
  have X4' := X4.wider (fr' := frs env) fun _ hb => hb.elim
  have M4 := M.trans (X4'.mv G.fr)
  have al4 : Alive (gfp env.locals N0) s4 := fun b hb => by
    obtain ⟨o, ho, hn⟩ := al b hb
    exact ⟨o, (X4.keep b o ho (fun k hk => absurd hk (Nat.not_lt_zero k)) id).1, hn⟩
  cases b with
  | true =>
    rw [if_pos rfl]
    refine seg_cons fun K5 e5 => ?_
    refine seg_yield_item (rest := []) hr C (RA1.mono (Nat.zero_le _)) EO hs hco rfl rfl rfl (flat3 x p true) hcl (.inl rfl) (Gc.y3 x p) R4.base F4 M4 al4 hit fun s5 ρ5 F5 B5 hk5 => ?_
    rw [e5]
    refine seg_execs_nil ?_
    rw [e4]
    refine seg_execs_nil ?_
    exact seg_end (.ok (.ret .none)) ⟨rfl, rfl, Mv.refl _ _ _⟩
  | false =>
    rw [if_neg (by decide)]
    refine seg_execs_nil ?_
    rw [e4]
    refine seg_execs_nil ?_
    exact seg_end (.ok (.ret .none)) ⟨rfl, rfl, M4⟩
end
end Uq
end

section
open PySem PySem.Calls PyProof.Rows
namespace Uq
open Sem (wp)

section
variable {prog : Program} {w : World} {B : Addr → Option Obj} {pins : List (Nat × Addr)} {mg mb : Str → Option Value} {cx : Cx} {A : Around} {ρ ρ' : Nat → Addr} {st : Hp} {s s' s'' s₀ : Shared} {env : Env} {loc loc' : Loc}
variable {r : Lv}

theorem setGen_bare {g : Nat} {x : GenState} (hx : x.bare = true) (h : AllBare s.gens) : AllBare (s.setGen g x).gens := fun y hy => by
  obtain ⟨i, hi, rfl⟩ := Array.mem_iff_getElem.mp hy
  by_cases e : i = g
  · subst e
    have hi' : i < s.gens.size := by rw [(GenOnly.setGen s i x).1] at hi; exact hi
    have h2 : (s.setGen i x).gens[i]? = some x := by simp [Shared.setGen, hi']
    rw [Array.getElem?_eq_getElem hi] at h2
    rw [Option.some.inj h2]; exact hx
  · have h1 := (GenOnly.setGen s g x).2 i e
    rw [Array.getElem?_eq_getElem hi] at h1
    obtain ⟨hi', e'⟩ := Array.getElem?_eq_some_iff.mp h1.symm
    exact e' ▸ h _ (Array.getElem_mem hi')
theorem setGen_size {g : Nat} {x : GenState} : (s.setGen g x).gens.size = s.gens.size := (GenOnly.setGen s g x).1
theorem setGen_at {g : Nat} {x : GenState} (h : g < s.gens.size) : (s.setGen g x).gens[g]? = some x := by simp [Shared.setGen, h]

structure GItr (prog : Program) (w : World) (B : Addr → Option Obj) (A : Around) (items : List V) (fp : Addr → Prop) (N0 a : Addr) (g : Nat) (i : Nat) (s : Shared) : Prop where
  gen : s.heap.IsGen a g
  go : ∃ gs, s.gens[g]? = some gs ∧ ∀ s'' : Shared, (∀ b o, fp b → s.heap.get? b = some o → s''.heap.get? b = some o) → (i = 0 → s''.heap.objs.size = N0) → Based B s''.heap → 0 < s''.toks →
    gs.Goes (model prog w) A.in1 (gR fp) (gY items fp B) (items.length - i) (.send .none) s''
  tk : 0 < s.toks
  al : 0 < i → Alive fp s
  sz : i = 0 → s.heap.objs.size = N0
  ns : ∀ b o, fp b → s.heap.get? b = some o → ¬ Stays o

theorem Alive.ns {fp : Addr → Prop} (h : Alive fp s) : ∀ b o, fp b → s.heap.get? b = some o → ¬ Stays o := fun b o hb e => by
  obtain ⟨o', e', hn⟩ := h b hb
  rw [e] at e'; cases e'
  exact hn

theorem gen_itr {items : List V} {fp : Addr → Prop} {N0 a : Addr} {g : Nat} (RA : Room 2 A) (hl : ∀ h, Based B h → h.NoLimit) (hfa : ¬ fp a) (hB : ∀ b, fp b → B b = none) :
    Itr prog w B pins A (.ref a) (.items items) 0 (fun b => fp b ∨ b = a) (fun k => k = g) (fun i s => GItr prog w B A items fp N0 a g i s) false where
  alive i s b hi S hb := by
    rcases hi with hi | hi
    · rcases hb with hb | rfl
      · exact S.al hi b hb
      · obtain ⟨o, nm, qn, ho, hc, _⟩ := S.gen
        exact ⟨o, ho, no_stays ho hc (by decide) (by decide)⟩
    · cases hi
  stay i s b o S hb e := by
    rcases hb with hb | rfl
    · exact S.ns b o hb e
    · obtain ⟨o', nm, qn, ho, hc, _⟩ := S.gen
      rw [ho] at e; cases e
      exact no_stays ho hc (by decide) (by decide)
  frame i s s' hi S hk hg hgs ht := by
    have hi : 0 < i := by rcases hi with h | h; exact h; cases h
    obtain ⟨gs, hgs0, hgo⟩ := S.go
    have hlt : g < s.gens.size := (Array.getElem?_eq_some_iff.mp hgs0).1
    have al' : Alive fp s' := fun b hb => by
      obtain ⟨o, ho, hn⟩ := S.al hi b hb
      exact ⟨o, hk b o (.inl hb) ho, hn⟩
    refine ⟨let ⟨o, nm, qn, ho, r⟩ := S.gen; ⟨o, nm, qn, hk a o (.inr rfl) ho, r⟩, ⟨gs, (hgs g hlt).trans hgs0, fun s'' h1 h2 h3 h4 => hgo s'' (fun b o hb e => h1 b o hb (hk b o (.inl hb) e)) (fun h => absurd h (Nat.ne_of_gt hi)) h3 h4⟩, Nat.lt_of_lt_of_le S.tk ht, fun _ => al', fun h => absurd h (Nat.ne_of_gt hi), al'.ns⟩
  own i tgt u s Q E S h := by
    obtain ⟨o, nm, qn, ho, hc, _⟩ := S.gen
    exact own_ok ho hc (by decide) h
  self i s Q E S h := wpAny_pyIter_gen S.gen h
  item i x ρ st s Q E S R _ e q := by
    unfold iterS at e
    dsimp only at e
    have e := Option.some.inj e
    have hlt : i < items.length := (List.getElem?_eq_some_iff.mp e).1
    obtain ⟨gs, hgs, hgo⟩ := S.go
    have hg : g < s.gens.size := (Array.getElem?_eq_some_iff.mp hgs).1
    obtain ⟨m, hm⟩ : ∃ m, items.length - i = m + 1 := ⟨items.length - i - 1, by omega⟩
    rw [hm] at hgo
    refine gen_next (P := fun n s₀ s₁ => n = 0 ∧ Mv fp (fun _ => False) s₀ s₁) (Y := gY items fp B) (n := m + 1) RA.hd (hl _ R.base) RA.depth S.gen hgs (hgo _ (fun _ _ _ e => e) (fun h => S.sz h) R.base S.tk) (fun v s₁ gs' hb hv => ?_) (fun s₁ hp => absurd hp.1 (Nat.succ_ne_zero m))
    obtain ⟨⟨x', hx', hr⟩, M, al, tk, hkap⟩ := hv
    have hidx : items.length - 1 - (m + 1 - 1) = i := by omega
    rw [hidx, e] at hx'
    cases hx'
    have hg1 : g < s₁.gens.size := Nat.lt_of_lt_of_le (by rw [setGen_size]; exact hg) M.gsz
    refine q (s₁.setGen g gs') v ⟨let ⟨o, nm, qn, ho, r⟩ := S.gen; ⟨o, nm, qn, M.keep a o ho hfa, r⟩, ⟨gs', setGen_at hg1, fun s'' h1 _ h3 h4 => ?_⟩, tk, fun _ => al, fun h => absurd h (Nat.succ_ne_zero i), al.ns⟩ ?_ (hr _ _)
    · have e : items.length - (i + 1) = m := by omega
      rw [e]
      exact hkap s'' (fun b o hb e => h1 b o hb e) h3 h4
    · refine ⟨fun b o ho hn => M.keep b o ho fun h => hn (.inl h), M.os, fun h => setGen_bare hb (M.bare (setGen_bare rfl h)), ?_, fun k hk hn => ?_, M.tk⟩
      · rw [setGen_size]; exact Nat.le_trans (Nat.le_of_eq setGen_size.symm) M.gsz
      · rw [(GenOnly.setGen s₁ g gs').2 k hn, M.gens k (by rw [setGen_size]; exact hk) id, (GenOnly.setGen s g _).2 k hn]
  done i ρ st s Q E S R _ e q := by
    unfold iterS at e
    dsimp only at e
    have e := Option.some.inj e
    have hge : items.length ≤ i := List.getElem?_eq_none_iff.mp e
    obtain ⟨gs, hgs, hgo⟩ := S.go
    have h0 : items.length - i = 0 := by omega
    rw [h0] at hgo
    refine wpAny_with_toks (Nat.le_refl s.toks) (gen_next (P := fun n s₀ s₁ => n = 0 ∧ Mv fp (fun _ => False) s₀ s₁) (Y := gY items fp B) (n := 0) RA.hd (hl _ R.base) RA.depth S.gen hgs (hgo _ (fun _ _ _ e => e) (fun h => S.sz h) R.base S.tk) (fun v s₁ gs' hb hv => ?_) (fun s₁ hp h' hk hle => ?_))
    · obtain ⟨_, M, al, tk, hkap⟩ := hv
      exact False.elim (hkap s₁ (fun _ _ _ e => e) (fun b o e => M.keep b o (R.base b o e) fun h => by rw [hB b h] at e; cases e) tk)
    · obtain ⟨_, M⟩ := hp
      refine q _ ⟨fun b o ho hn => hk b o (M.keep b o ho fun h => hn (.inl h)), M.os, fun h => setGen_bare rfl (M.bare (setGen_bare rfl h)), ?_, fun k hk hn => ?_, M.tk⟩
      · show _ ≤ (s₁.setGen g GenState.finished).gens.size
        rw [setGen_size]; exact Nat.le_trans (Nat.le_of_eq setGen_size.symm) M.gsz
      · show (s₁.setGen g GenState.finished).gens[k]? = _
        rw [(GenOnly.setGen s₁ g _).2 k hn, M.gens k (by rw [setGen_size]; exact hk) id, (GenOnly.setGen s g _).2 k hn]

structure GenOK (B : Addr → Option Obj) (a : Addr) (scope : Scope) (body : List Stmt) : Prop where
  data : ∃ o name qual params dV kV doc pm an cdv ct, B a = some o ∧ o.data = .func (PySem.W.fnOf name qual params body scope dV kV doc pm an cdv ct) ∧ (∀ h, Based B h → h.CodeRec cdv qual) ∧
    ∀ u, ∀ s, Based B s.heap → BindsTo s (PySem.W.fnOf name qual params body scope dV kV doc pm an cdv ct) ⟨[u], []⟩ [(("addr" : Str), u)]
  kinds : scope.names.lookup ("addr" : Str) = some NameKind.local
  nocell : ∀ p ∈ scope.names, p.2 ≠ .cell
  co : scope.isCoroutine = false
  gen : scope.isGenerator = true
  fn : scope.kind = .function
  lim : ∀ h, Based B h → h.NoLimit

theorem GenOK.el {a : Addr} {scope : Scope} {body : List Stmt} {P : Prop} (U : GenOK B a scope body)
    (k : ∀ o name qual params dV kV doc pm an cdv ct, B a = some o → o.data = .func (PySem.W.fnOf name qual params body scope dV kV doc pm an cdv ct) → (∀ h, Based B h → h.CodeRec cdv qual) →
      (∀ u, ∀ s, Based B s.heap → BindsTo s (PySem.W.fnOf name qual params body scope dV kV doc pm an cdv ct) ⟨[u], []⟩ [(("addr" : Str), u)]) → P) : P := by
  obtain ⟨o, name, qual, params, dV, kV, doc, pm, an, cdv, ct, hB, hdata, hcd, hbind⟩ := U.data
  exact k o name qual params dV kV doc pm an cdv ct hB hdata hcd hbind
theorem cellsFrom_none : ∀ (names : List (Str × NameKind)) (k : Nat) (acc : List (Str × Addr)), (∀ p ∈ names, p.2 ≠ .cell) → cellsFrom k names acc = acc
  | [], _, _, _ => rfl
  | (y, kind) :: r, k, acc, h => by
    unfold cellsFrom
    have : (kind == NameKind.cell) = false := by
      have := h (y, kind) List.mem_cons_self
      cases kind <;> first | rfl | exact absurd rfl this
    rw [this]
    exact cellsFrom_none r k acc fun p hp => h p (List.mem_cons_of_mem _ hp)

noncomputable def genItems (args : List V) : Option (List V) := two2 args fun v => oc (strOf v) fun x => some (escGo x.cps.toList 0 0 false)

theorem gen_iters {a : Addr} {body : List Stmt} (U : GenOK B a cx.sc body) (S : GShape cx r body) (hr : EvOK prog w B [] 0 mg mb r.ev) (ht : TvOK prog w B [] 0 mg mb r.tv) (hex : ExOK prog w B [] 0 mg mb r.ex) (C : CxOK prog w B [] 0 mg mb cx) {n : Nat}
    {args items : List V} (h : genItems args = some items) {us : List Value} (RA : Room (n + 2) A) (htk : 0 < s.toks) (R : Rel B pins ρ st s.heap) (V : RVs ρ st.length s.heap args us) : ItersC prog w B pins A (.ref a) us ρ st s (.items items) := fun Q E q => by
  refine two2_el h fun v h e0 => oc_el h fun x h e1 => ?_
  rw [e0] at V
  obtain ⟨u, us, rfl, V0, V1⟩ := V.cons_inv
  obtain rfl := V1.nil_inv
  obtain ⟨t, rfl⟩ := strOf_rv e1 V0
  obtain rfl := Option.some.inj h
  have hkind := U.kinds
  have hnc := U.nocell
  have hco := U.co
  have hgen := U.gen
  have hfn := U.fn
  have hlim := U.lim
  refine U.el fun o name qual params dV kV doc pm an cdv ct hB hdata hcd hbind => ?_
  have RA2 : Room 2 A := RA.mono (Nat.le_add_left 2 n)
  refine wpAny_call (codeAny_call_generator (body := body) RA.depth (R.base _ _ hB) hdata hco hgen rfl (hcd _ R.base) (hbind _ s R.base _ _ _ _ ?_))
  refine wpAny_with_toks (Nat.le_refl s.toks) ?_
  refine wpAny_newFunctionEnv_cells hfn (fun y hy => ?_) fun env' he s1 y hle => ?_
  · have := List.mem_singleton.mp hy
    subst this
    exact .inl hkind
  have keep := y.toInCall.keep
  have hLs : s.heap.objs.size ≤ env'.locals := y.toInCall.fresh
  refine ⟨(hlim _ R.base).keeps keep, ?_⟩
  have hsc : env'.scope = cx.sc := by subst he; rfl
  have hcl : ∀ z, env'.cells.lookup z = none := fun z => by
    subst he
    show (cellsFrom _ _ _).lookup z = none
    rw [cellsFrom_none _ _ _ hnc]; rfl
  have fresh : ∀ b, s.heap.objs.size ≤ b → s.heap.get? b = none := fun b hb => by
    cases z : s.heap.get? b with
    | none => rfl
    | some o => exact absurd (Heap.lt_size z) (Nat.not_lt.mpr hb)
  have Bn : ∀ b, s.heap.objs.size ≤ b → B b = none := fun b hb => by
    cases z : B b with
    | none => rfl
    | some o => have := R.base _ _ z; rw [fresh b hb] at this; cases this
  have EO : EnvOK B env' := by
    refine ⟨by rw [hsc]; exact hfn, by subst he; rfl, by subst he; rfl, fun y z c h1 h2 => (by rw [hcl] at h1; cases h1), fun y hy => ?_, fun b hb => ?_⟩
    · have hy' : cx.sc.names.lookup y = some .cell := by rw [← hsc]; exact hy
      exact absurd rfl (hnc _ (mem_of_lookup hy'))
    · rcases hb with rfl | ⟨z, hz⟩
      · exact Bn _ hLs
      · rw [hcl] at hz; cases hz
  have hL1 : env'.locals < s1.heap.objs.size := by
    obtain ⟨o', es, ep, ho', _⟩ := y.toInCall.ns
    exact Heap.lt_size ho'
  obtain ⟨h1, tk1, he1, _⟩ := y.done
  have R1 : Rel B pins ρ st s1.heap := R.keeps keep
  have F1 : Frm (fun _ => 0) 0 s1 env' [("addr", .str x)] := by
    refine ⟨⟨_, y.toInCall.ns, fun z v e k => ?_⟩, fun z v e => ?_, fun z c e => (by rw [hcl] at e; cases e), Nat.lt_of_lt_of_le htk hle⟩
    · rw [getL_cons] at e
      split at e
      · rename_i hz
        cases e
        subst hz
        refine ⟨.str x t, ?_, .str _ _⟩
        show bindL env'.kindOf [("addr", .str x t)] (fun _ => none) "addr" = _
        unfold bindL
        rw [if_pos k]
        unfold bindL
        exact if_pos rfl
      · cases e
    · rw [getL_cons] at e
      split at e
      · rename_i hz
        subst hz
        left
        show env'.scope.names.lookup ("addr" : Str) = _
        rw [hsc]; exact hkind
      · cases e
  have hgs1 : s1.gens = s.gens := by subst he1; rfl
  have hos1 : s1.os = s.os := by subst he1; rfl
  let G : Obj := { cls := .type "generator", data := .fields #[.int s1.gens.size 0, .str name s1.toks, .str qual (s1.toks + 1)] }
  let s2 : Shared := { s1 with gens := s1.gens.push (.fresh (.func body env')), toks := s1.toks + 1 + 1, heap := s1.heap.push G }
  have K2 : ∀ b o, s1.heap.get? b = some o → s2.heap.get? b = some o := fun b o e => Heap.get?_push_of_some _ e
  have K02 : ∀ b o, s.heap.get? b = some o → s2.heap.get? b = some o := fun b o e => K2 b o (keep b o e)
  have ig : s2.heap.IsGen s1.heap.objs.size s1.gens.size := ⟨G, _, _, Heap.get?_push_size _ rfl, rfl, rfl, rfl⟩
  have hsz : s2.heap.objs.size = s1.heap.objs.size + 1 := Heap.size_push ..
  have hgne : ∀ b, gfp env'.locals (s1.heap.objs.size + 1) b → s.heap.objs.size ≤ b := fun b hb => by
    have h0 : s.heap.objs.size ≤ s1.heap.objs.size := Nat.le_of_lt (Nat.lt_of_le_of_lt hLs hL1)
    rcases hb with rfl | h | h
    · exact hLs
    · rw [h]; exact Nat.le_succ_of_le (Nat.le_succ_of_le h0)
    · rw [h]; exact Nat.le_succ_of_le h0
  have hfa : ¬ gfp env'.locals (s1.heap.objs.size + 1) s1.heap.objs.size := fun h => by
    rcases h with h | h | h
    · exact Nat.lt_irrefl _ (h ▸ hL1)
    · exact absurd h (Nat.ne_of_lt (Nat.lt_succ_of_lt (Nat.lt_succ_self _)))
    · exact absurd h (Nat.ne_of_lt (Nat.lt_succ_self _))
  refine wpAny_pyIter_gen ig ?_
  refine q ρ s2 (.ref s1.heap.objs.size) 0 (fun b => gfp env'.locals (s1.heap.objs.size + 1) b ∨ b = s1.heap.objs.size) (fun k => k = s1.gens.size) (fun i s => GItr prog w B A (escGo x.cps.toList 0 0 false) (gfp env'.locals (s1.heap.objs.size + 1)) (s1.heap.objs.size + 1) s1.heap.objs.size s1.gens.size i s)
    (R.keeps K02) ⟨fun _ _ => rfl, Nat.le_refl _, fun b o e h _ => ⟨K02 b o e, h⟩, hos1, fun h => ?_, ?_, fun k hk => ?_, Nat.le_trans hle (Nat.le_add_right _ 2)⟩ (gen_itr RA2 hlim hfa fun b hb => Bn b (hgne b hb)) ?_ (fun b hb => ?_) (fun g hg => ?_) (fun k e => by cases e)
  · show AllBare (s1.gens.push _)
    rw [hgs1]
    intro y hy
    rcases Array.mem_push.mp hy with hy | rfl
    · exact h y hy
    · rfl
  · show s.gens.size ≤ (s1.gens.push _).size
    rw [hgs1, Array.size_push]; exact Nat.le_succ _
  · show (s1.gens.push _)[k]? = _
    rw [hgs1, Array.getElem?_push_lt hk, Array.getElem?_eq_getElem hk]
  · refine ⟨ig, ⟨_, Array.getElem?_push_size .., fun s'' h1 h2 h3 h4 => ⟨rfl, ?_⟩⟩, Nat.succ_pos _, fun h => absurd h (Nat.lt_irrefl 0), fun _ => hsz, fun b o hb e hs => ?_⟩
    · refine seg_gen (A := A) S hr ht hex C RA2 EO hsc (by rw [hsc]; exact hco) hcl (ρ := fun _ => 0) h3 (F1.again (fun z v e => ?_) hcl (fun o e => h1 _ o (.inl rfl) (K2 _ o e)) h4) (h2 rfl) (Nat.lt_succ_of_lt hL1)
      rw [getL_cons] at e
      split at e
      · cases e; exact .inr (.inr ⟨_, rfl⟩)
      · cases e
    · rcases hb with rfl | h | h
      · obtain ⟨o', es, ep, ho', hd', _⟩ := y.toInCall.ns
        rw [K2 _ _ ho'] at e; cases e
        rcases hs.data with ⟨_, _, q⟩ | ⟨_, q⟩ <;> (rw [hd'] at q; cases q)
      · have := Heap.lt_size e
        rw [h, hsz] at this
        exact absurd (Nat.lt_of_succ_lt this) (Nat.lt_irrefl _)
      · have := Heap.lt_size e
        rw [h, hsz] at this
        exact absurd this (Nat.lt_irrefl _)
  · have hb' : s.heap.objs.size ≤ b := by
      rcases hb with hb | rfl
      · exact hgne b hb
      · exact Nat.le_of_lt (Nat.lt_of_le_of_lt hLs hL1)
    exact ⟨Bn b hb', fresh b hb', fun k hk e => by
      have := R.lt hk
      rw [e] at this
      exact absurd this (Nat.not_lt.mpr hb')⟩
  · rw [hg, hgs1]; exact Nat.le_refl _
end
end Uq
end

section
open PySem PySem.Calls PyProof.Rows PySem.W
namespace Uq

noncomputable def cxG (P : Params) : Cx where
  sc := scopeAt (hd.heap_1 P) 45
  glob := fun x => match decide (x = ("enumerate" : Str)) with
    | true => some (.imm (.type "enumerate"))
    | false => none
  fn := fun _ => none
  meth := fun _ _ _ => none
  attr := fun _ _ => none
  gen := fun _ => none
  setI := fun _ => none
  delI := fun _ => none
  smeth := fun _ _ _ _ => none
  ext := fun _ => none

section
variable {prog : Program} {w : World} {B : Addr → Option Obj} {P : Params} {n : Nat} {mg mb : Str → Option Value}

theorem genOK_45 (H : HasK B (hd.heap_1 P)) (hlim : ∀ h, Based B h → h.NoLimit) : GenOK B 45 (scopeAt (hd.heap_1 P) 45) (bodyAt (hd.heap_1 P) 45) where
  data := ⟨_, _, _, _, _, _, _, _, _, _, _, H 45 _ rfl, rfl, fun h hb => codeRec_of (H.in_ hb) (by rfl), fun u s hb => kp_binds (H.in_ hb) (fun S => by rfl)⟩
  kinds := by rfl
  nocell := by
    have : ((scopeAt (hd.heap_1 P) 45).names.all fun p => match p.2 with | .cell => false | _ => true) = true := by rfl
    intro p hp e
    have := List.all_eq_true.mp this p hp
    rw [e] at this
    cases this
  co := by rfl
  gen := by rfl
  fn := by rfl
  lim := hlim

theorem shape_45 : GShape (cxG P) (lv 5) (bodyAt (hd.heap_1 P) 45) := fun G k =>
  k _ _ _ _ _ _ _ _ _ _ _ _ _ _ _ _ _ _ _ _ _ _ _ _ _ _ _ _ _ _ _ _ _ _ _ _ rfl (fun x => rfl) rfl rfl rfl rfl rfl rfl (fun x => rfl) rfl
    ⟨fun x p c => rfl, fun x p c => rfl, fun x p b i c => rfl, fun x p b c => rfl, fun x p c => rfl, fun x p b => rfl, fun x p c => rfl, fun x p c => rfl, fun x p => rfl⟩
end
end Uq
end

section
open PySem PySem.Calls PyProof.Rows PySem.W
namespace Uq

theorem isStr_str (n y : Str) (t : Tok) : (Value.str n t).isStr y = (n == y) := rfl

noncomputable def AL (es : List DictEntry) (m : Str → Option Value) : Prop := (∀ e ∈ es, ∃ n t, e.key = .str n t) ∧ ∀ name, (es.find? (·.key.isStr name)).map (·.val) = m name

theorem putL_find' (name : Str) (hsh : Int) (tk : Tok) (v : Value) (name' : Str) : ∀ es : List DictEntry, (∀ e ∈ es, ∃ n t, e.key = .str n t) →
    ((putL name hsh (.str name tk) v es).find? (·.key.isStr name')).map (·.val) = if name' = name then some v else (es.find? (·.key.isStr name')).map (·.val)
  | [], _ => by
    unfold putL
    rw [List.find?_cons, isStr_str]
    by_cases h : name' = name
    · subst h; simp
    · have : (name == name') = false := by simpa using Ne.symm h
      rw [this, if_neg h]
  | e :: r, hk => by
    obtain ⟨n, t, he⟩ := hk e List.mem_cons_self
    have ih := putL_find' name hsh tk v name' r fun e he => hk e (List.mem_cons_of_mem _ he)
    unfold putL
    split
    · rename_i h
      rw [he, isStr_str] at h
      have h : n = name := by simpa using h
      subst h
      rw [List.find?_cons, List.find?_cons]
      dsimp only
      rw [he, isStr_str]
      by_cases h : name' = n
      · subst h; simp
      · have : (n == name') = false := by simpa using Ne.symm h
        rw [this, if_neg h]
    · rename_i h
      rw [List.find?_cons, List.find?_cons]
      cases z : e.key.isStr name' with
      | true =>
        dsimp only
        have : name' ≠ name := fun q => h (q ▸ z)
        rw [if_neg this]
      | false => dsimp only; exact ih
theorem putL_keys (name : Str) (hsh : Int) (tk : Tok) (v : Value) : ∀ es : List DictEntry, (∀ e ∈ es, ∃ n t, e.key = .str n t) → ∀ e ∈ putL name hsh (.str name tk) v es, ∃ n t, e.key = .str n t
  | [], _, e, he => by
    unfold putL at he
    rw [List.mem_singleton.mp he]
    exact ⟨_, _, rfl⟩
  | a :: r, hk, e, he => by
    unfold putL at he
    split at he
    · rcases List.mem_cons.mp he with rfl | he
      · exact hk a List.mem_cons_self
      · exact hk e (List.mem_cons_of_mem _ he)
    · rcases List.mem_cons.mp he with rfl | he
      · exact hk _ List.mem_cons_self
      · exact putL_keys name hsh tk v r (fun e he => hk e (List.mem_cons_of_mem _ he)) e he
theorem putL_len (name : Str) (hsh : Int) (key v : Value) : ∀ es : List DictEntry, (putL name hsh key v es).length ≤ es.length + 1
  | [] => Nat.le_refl _
  | a :: r => by
    unfold putL
    split
    · simp
    · have := putL_len name hsh key v r
      simp only [List.length_cons]; omega
theorem AL.put {es : List DictEntry} {m : Str → Option Value} (h : AL es m) (name : Str) (hsh : Int) (tk : Tok) (v : Value) : AL (putL name hsh (.str name tk) v es) (fun y => if y = name then some v else m y) :=
  ⟨putL_keys name hsh tk v es h.1, fun name' => by rw [putL_find' name hsh tk v name' es h.1, h.2]⟩
theorem AL.look {es : List DictEntry} {m : Str → Option Value} (h : AL es m) (n : Nat) (name : Str) : lookIn name (dictOf es n) = some (m name) := by
  rw [lookIn_dict]
  unfold PySem.W.getL
  rw [← h.2 name]
  cases z : es.find? (·.key.isStr name) with
  | some e => rfl
  | none =>
    have : es.any (·.refKey) = false := by
      rw [List.any_eq_false]
      intro e he hr
      obtain ⟨n, t, hq⟩ := h.1 e he
      unfold DictEntry.refKey at hr
      rw [hq] at hr
      cases hr
    rw [this]; rfl

/-- an instance whose own dict says `m`, at most `k` names -/
structure InstS (h : Heap) (x C dx : Addr) (k : Nat) (m : Str → Option Value) : Prop where
  at_ : h.get? x = some (instObj C dx)
  ns : ∃ es n, h.get? dx = some (dictOf es n) ∧ es.length ≤ k ∧ AL es m

theorem InstS.inst {h : Heap} {x C dx : Addr} {k : Nat} {m : Str → Option Value} (I : InstS h x C dx k m) : ∃ od, InstAt h x (instObj C dx) C (some od) ∧ ∀ name, lookIn name od = some (m name) := by
  obtain ⟨es, n, hd, _, ha⟩ := I.ns
  exact ⟨_, ⟨I.at_, rfl, rfl, hd⟩, fun name => ha.look n name⟩

section
variable {prog : Program} {w : World} {A : Around} {E : Value → Shared → Prop} {s : Shared} {K : Frag} {x C dx : Addr} {k : Nat} {m : Str → Option Value} {name : Str} {v : Value}

theorem set_ns {Q : Unit → Shared → Prop} (X : K.In s.heap) (I : InstS s.heap x C dx k m) (hs : findIn K (.ref C) "__setattr__" = some (some (.builtin "object.__setattr__"))) (hp : plainOver K C = true) (ht : takerIn K C name = some none) (hh : hasDictIn K C = true) (hne : x ≠ dx) (hk : k ≤ 900)
    (h : ∀ h', InstS h' x C dx (k + 1) (fun y => if y = name then some v else m y) → Heap.SameBut dx s.heap h' → Q () { s with heap := h', toks := s.toks + 2 }) : wpAny (model prog w) A (setAttr (.ref x) name v) Q E s := by
  obtain ⟨hh', g, d, tk, os⟩ := s
  obtain ⟨es, n, D, hlen, ha⟩ := I.ns
  have I' : InstAt hh' x (instObj C dx) C (some (dictOf es n)) := ⟨I.at_, rfl, rfl, D⟩
  refine set_plain (s := ⟨hh', g, d, tk, os⟩) X I' hs ?_
  refine osa_open (s := ⟨hh', g, d, tk + 1, os⟩) X I' hp ht fun b => ?_
  obtain ⟨cd, hc, hd'⟩ := any_some hh
  have hx : hh'.get? x = some (instObj C dx) := I.at_
  replace D : hh'.get? dx = some (dictOf es n) := D
  refine wpAny_bind (wpAny_pure (wpAny_bind (wpAny_bind (wpAny_loadPart hx (wpAny_bind ((looks_clsIn X hc).at ?_))))))
  rw [hd']
  refine wpAny_pure (a := some dx) (wpAny_bind (wpAny_pure (wpAny_bind ?_)))
  unfold nsSet
  refine wpAny_bind (wpAny_bind (wpAny_askSetting (wpAny_pure (wpAny_bind (wpAny_mkText (wpAny_bind (wpAny_loadPart D ?_)))))))
  have c : (!es.toArray.any (·.key.isStr name) && es.toArray.any (·.refKey)) = false := by
    have : es.toArray.any (·.refKey) = false := by
      rw [← Array.any_toList, List.any_eq_false]
      intro e he hr
      obtain ⟨n, t, hq⟩ := ha.1 e (by simpa using he)
      unfold DictEntry.refKey at hr
      rw [hq] at hr
      cases hr
    rw [this, Bool.and_false]
  unfold dictOf
  dsimp only
  rw [aRefKeyMayBeTheName_at, c]
  have D' : (hh'.update dx (Obj.putName name (PyData.keyHash w.params name) (.str name (tk + 1)) v)).get? dx = some (dictOf (putL name (PyData.keyHash w.params name) (.str name (tk + 1)) v es) (putN name es n)) := by
    have := Heap.get?_update_self (h := hh') (Obj.putName name (PyData.keyHash w.params name) (.str name (tk + 1)) v) D (by rw [putName_dict]; rfl)
    rw [putName_dict] at this
    exact this
  have hsb : Heap.SameBut dx hh' (hh'.update dx (Obj.putName name (PyData.keyHash w.params name) (.str name (tk + 1)) v)) := Heap.SameBut.update ..
  have hlen' := putL_len name (PyData.keyHash w.params name) (.str name (tk + 1)) v es
  refine wpAny_updatePart D ?_
  refine wpAny_bind (wpAny_lookBehind D' (pastItsLine_dict (by rw [List.size_toArray, sizeLine_eq]; omega)) ?_)
  exact wpAny_pure (h _ ⟨(hsb.2 x hne).trans hx, _, _, D', by omega, ha.put _ _ _ _⟩ hsb)

theorem get_ns {expr : Bool} {Q : Value → Shared → Prop} {attr : Option Value} (X : K.In s.heap) (I : InstS s.heap x C dx k m) (hg : plainGet K C name = true) (hh : hasDictIn K C = true)
    (ha : findIn K (.ref C) name = some attr) (hn : noGet K attr = true) (hl : m name = some v) (hv : handedIn v = true) (h : Q v { s with toks := s.toks + 1 }) :
    wpAny (model prog w) A (getAttr (.ref x) name expr) Q E s := by
  obtain ⟨od, I', hl'⟩ := I.inst
  exact get_value X I' (plainGet_of hg).1 (findObj_own hh ha hn (by rw [hl', hl])) hv h

theorem meth_ns {pl : Sem Bool} {Q : Value × List Value → Shared → Prop} {f : Addr} (X : K.In s.heap) (I : InstS s.heap x C dx k m) (hg : plainGet K C name = true)
    (hf : findIn K (.ref C) name = some (some (.ref f))) (ht : isFn K (.ref f) = true) (hl : m name = none) (h : Q (.ref f, [.ref x]) s) : wpAny (model prog w) A (getMethod (.ref x) name pl) Q E s := by
  obtain ⟨od, I', hl'⟩ := I.inst
  exact method_fn X I' (plainGet_of hg).1 (plainGet_of hg).2 hf (beq_iff_eq.mp ht) (by show (lookIn name od).map _ = _; rw [hl', hl]; rfl) h

theorem setItem_ns {i : Value} {Q : Unit → Shared → Prop} {f : Addr} (X : K.In s.heap) (I : InstS s.heap x C dx k m) (hq : noSeq K C = true) (hs : findIn K (.ref C) "__setitem__" = some (some (.ref f))) (hf : isFn K (.ref f) = true)
    (h : wpAny (model prog w) A (call (.ref f) [.ref x, i, v]) (fun _ s' => Q () s') E s) : wpAny (model prog w) A (setItem (.ref x) i v) Q E s := by
  obtain ⟨od, I', hl'⟩ := I.inst
  unfold setItem sequenceKey
  refine wpAny_holding (wpAny_bind (wpAny_bind (I'.type.here ?_)))
  refine wpAny_bind ((anyM_none X hq).here ?_)
  rw [if_pos (show (!false) = true from rfl)]
  exact wpAny_pure (wpAny_bind (special_fn X I' hs (beq_iff_eq.mp hf) (wpAny_mono h (fun _ _ z => wpAny_pure z) fun _ _ z => z)))
theorem delItem_ns {i : Value} {Q : Unit → Shared → Prop} {f : Addr} (X : K.In s.heap) (I : InstS s.heap x C dx k m) (hq : noSeq K C = true) (hs : findIn K (.ref C) "__delitem__" = some (some (.ref f))) (hf : isFn K (.ref f) = true)
    (h : wpAny (model prog w) A (call (.ref f) [.ref x, i]) (fun _ s' => Q () s') E s) : wpAny (model prog w) A (delItem (.ref x) i) Q E s := by
  obtain ⟨od, I', hl'⟩ := I.inst
  unfold delItem sequenceKey
  refine wpAny_holding (wpAny_bind (wpAny_bind (I'.type.here ?_)))
  refine wpAny_bind ((anyM_none X hq).here ?_)
  rw [if_pos (show (!false) = true from rfl)]
  exact wpAny_pure (wpAny_bind (special_fn X I' hs (beq_iff_eq.mp hf) (wpAny_mono h (fun _ _ z => wpAny_pure z) fun _ _ z => z)))
end
end Uq
end

section
open PySem PySem.Calls PyProof.Rows PySem.W
namespace Uq

noncomputable def boundAppend (a : Addr) : Obj := { cls := .type "builtin_function_or_method", data := .fields #[.builtin "list.append", .ref a] }

theorem lk_append : typeLookup (.type "list") "append" = pure (some (.builtin "list.append")) := by rw [typeLookup_type, builtinLookup_eq_fast]; kernel_rfl
theorem md_get : Slot "method_descriptor" "__get__" "method_descriptor.__get__" :=
  .of (owner := "method_descriptor") (n := "__get__") (by rw [typeLookup_type, builtinLookup_eq_fast]; kernel_rfl) (by decide +kernel) (by decide +kernel) (by decide +kernel)
    (by first | exact .inl (by decide +kernel) | exact .inr (by decide +kernel)) (by rw [isSubtype_type]; kernel_rfl)
theorem md_set : typeLookup (.type "method_descriptor") "__set__" = pure none := by rw [typeLookup_type, builtinLookup_eq_fast]; kernel_rfl
theorem md_del : typeLookup (.type "method_descriptor") "__delete__" = pure none := by rw [typeLookup_type, builtinLookup_eq_fast]; kernel_rfl
theorem md_entry : entryFor table "method_descriptor.__get__" = some Builtin.«method_descriptor.__get__» := entryFor_of_tree (by kernel_rfl)
theorem md_args (a b c : Value) : argsOk "method_descriptor.__get__" ⟨[a, b, c], []⟩ := by unfold argsOk; kernel_rfl

theorem run_md {prog : Program} {w : World} {A : Around} {E : Value → Shared → Prop} {Q : Value → Shared → Prop} {hp : Heap} {g : Array GenState} {d : Drawn} {tk : Nat} {os : OsState} {a : Addr} {xs : Array Value} {k : Nat} (hx : hp.get? a = some { cls := .type "list", data := .seq xs k })
    (hs : Q (.ref hp.objs.size) ⟨hp.push (boundAppend a), g, d, tk, os⟩) :
    wpAny (model prog w) A (Builtin.«method_descriptor.__get__» ⟨[.builtin "list.append", .ref a, .type "list"], []⟩) (fun fin s' => ∃ v, fin = .done (.ret v) ∧ Q v s') E ⟨hp, g, d, tk, os⟩ := by
    have hT : (⟨hp, g, d, tk, os⟩ : Shared).TypeIs (.ref a) "list" := ⟨_, hx, rfl⟩
    have f1 := PySem.F.isi_self_list
    unfold Builtin.«method_descriptor.__get__»
    repeat (any_goals (first | assumption | wp_step))
    have f2 : (".".intercalate ("list.append".cutAt '.').dropLast) = "list" := by first | decide +kernel | kernel_rfl
    rw [f2]
    repeat (any_goals (first | assumption | wp_step))
    exact ⟨_, rfl, hs⟩

theorem meets_ga_append (a : Addr) (xs : Array Value) (k : Nat) (u : Tok) : Meets (Builtin.«object.__getattribute__» ⟨[.ref a, .str "append" u], []⟩)
    (fun A R s => s.heap.get? a = some { cls := .type "list", data := .seq xs k } ∧ R (.ok (.ret (.ref s.heap.objs.size))) { s with heap := s.heap.push (boundAppend a) }) :=
  Meets.of_wp fun prog w A R s hs => by
    obtain ⟨hp, g, d, tk, os⟩ := s
    obtain ⟨hx, hs⟩ := hs
    have hT : (⟨hp, g, d, tk, os⟩ : Shared).TypeIs (.ref a) "list" := ⟨_, hx, rfl⟩
    have f1 := lk_append
    have f2 := PySem.type_list_append
    have f3 := md_get.lookup
    have f4 := md_get.bind (.builtin "list.append")
    have f5 := md_set
    have f6 := md_del
    unfold Builtin.«object.__getattribute__»
    repeat (any_goals (first | assumption | ((with_reducible show wpAny _ _ (call (Value.builtin "method_descriptor.__get__") _ _) _ _ _); refine wpAny_call_entry md_get f2 md_entry (run_md hx ?_) (md_args _ _ _)) | wp_step))
    exact ⟨_, rfl, hs⟩

theorem getAttr_append {prog : Program} {w : World} {A : Around} {E : Value → Shared → Prop} {s : Shared} {a : Addr} {xs : Array Value} {k : Nat} {Q : Value → Shared → Prop} (hx : s.heap.get? a = some { cls := .type "list", data := .seq xs k })
    (h : Q (.ref s.heap.objs.size) { s with heap := s.heap.push (boundAppend a), toks := s.toks + 1 }) : wpAny (model prog w) A (getAttr (.ref a) "append" true) Q E s := by
  obtain ⟨hp, g, d, tk, os⟩ := s
  have hT : ∀ tk', (⟨hp, g, d, tk', os⟩ : Shared).TypeIs (.ref a) "list" := fun _ => ⟨_, hx, rfl⟩
  have f3 := F.slot_list_getattribute.lookup
  have f4 := F.slot_list_getattribute.bind (.ref a)
  have f5 := am_list_getattr_none
  unfold getAttr getAttrBy
  repeat (any_goals (first | assumption | exact hT _ | ((with_reducible show wpAny _ _ (call (Value.builtin "list.__getattribute__") _ _) _ _ _); refine call_meets F.slot_list_getattribute (hT _) am_entry_list_getattribute (F.args_list_getattribute_2 _ _) (meets_ga_append a xs k _) ⟨hx, ?_⟩) | wp_step))
  exact wpAny_pure h

end Uq
end

section
open PySem PySem.Calls PyProof.Rows PySem.W
namespace Uq

theorem sub_list_module : isSubtype (.type "list") (.type "module") = pure false := by rw [isSubtype_type]; kernel_rfl
theorem check_bound {M : Model} {A : Around} {E : Value → Shared → Prop} {s : Shared} {a : Addr} {xs : Array Value} {k : Nat} {v : Value} {Q : Unit → Shared → Prop} (hx : s.heap.get? a = some { cls := .type "list", data := .seq xs k }) (h : Q () s) :
    wpAny M A (checkBoundCall "list.append" ⟨[.ref a, v], []⟩) Q E s := by
  have hT : s.TypeIs (.ref a) "list" := ⟨_, hx, rfl⟩
  unfold checkBoundCall
  refine wpAny_bind (wpAny_isInstance (T := "list") (b := false) hT sub_list_module ?_)
  rw [show Manifest.varargsMethods.contains "list.append" = false by decide +kernel]
  refine KFB.if_not rfl ?_
  refine wpAny_bind (m := isType (.ref a)) ?_
  refine wpAny_bind (wpAny_load hx (wpAny_pure ?_))
  refine KFB.if_not rfl ?_
  refine wpAny_bind (wpAny_typeOf hT ?_)
  exact wpAny_of_eq (a := ()) (by kernel_rfl) h

theorem call_bound {prog : Program} {w : World} {A : Around} {E : Value → Shared → Prop} {s : Shared} {m a : Addr} {xs : Array Value} {v : Value} {Q : Value → Shared → Prop} (ho : s.heap.get? m = some (boundAppend a)) (hl : s.heap.PlainList a xs) (hz : xs.size ≤ sizeLine)
    (h : ∀ h', h'.PlainList a (xs.push v) → Heap.SameBut a s.heap h' → Q .none { s with heap := h' }) : wpAny (model prog w) A (call (.ref m) [v]) Q E s := by
  refine wpAny_call (codeAny_of_tree ?_)
  show wpAny _ A.in1 (callAny (.ref m) ⟨[v], []⟩) _ _ s
  simp only [callAny]
  refine wpAny_bind (wpAny_load ho ?_)
  simp only [boundAppend, show (Value.type "builtin_function_or_method" == Value.type "method" || Value.type "builtin_function_or_method" == Value.type "builtin_function_or_method" || Value.type "builtin_function_or_method" == Value.type "method-wrapper") = true by decide, if_true]
  refine KFB.if_so (by decide) ?_
  obtain ⟨n, hx⟩ := hl
  refine wpAny_bind (check_bound hx ?_)
  refine wpAny_bind (wpAny_pure (wpAny_pure ?_))
  refine ⟨Code.quiet_builtin _ (by decide +kernel), codeAny_builtin entry_list_append ?_⟩
  show wpAny _ _ (updateSeq a (·.push v) >>= fun _ => ret .none) _ _ s
  refine wpAny_bind ?_
  refine wpAny_updateSeq hx rfl (wpAny_pure (h _ ⟨n + 1, ?_⟩ (Heap.SameBut.update ..)))
  rw [Heap.get?_update_self _ hx (by rw [Obj.mapSeq_push_plain]; rfl), Obj.mapSeq_push_plain]
end Uq
end

section
open PySem PySem.Calls PyProof.Rows PySem.W
namespace Uq

/-- a new instance while its __init__ runs: frame, lists, its own dict -/
structure IS (B : Addr → Option Obj) (pins : List (Nat × Addr)) (env : Env) (x C dx : Addr) (ρ0 : Nat → Addr) (n0 : Nat) (s0 : Shared) (loc : Loc) (st : Hp) (at_ : Loc) (k : Nat) (ρ : Nat → Addr) (s : Shared) : Prop where
  R : Rel B pins ρ st s.heap
  F : Frm ρ st.length s env loc
  I : ∃ m, InstS s.heap x C dx k m ∧ (∀ a v, getL at_ a = some v → ∃ u, m a = some u ∧ RV ρ st.length s.heap v u) ∧ ∀ a, getL at_ a = none → m a = none
  nx : ∀ j, j < st.length → ρ j ≠ x ∧ ρ j ≠ dx
  fx : ¬ frs env x ∧ ¬ frs env dx
  bx : B x = none ∧ B dx = none
  ne : x ≠ dx
  X : Ext ρ0 n0 (fun b => frs env b ∨ b = dx) s0 ρ st.length s

section
variable {prog : Program} {w : World} {B : Addr → Option Obj} {pins : List (Nat × Addr)} {n : Nat} {mg mb : Str → Option Value} {cx : Cx} {A : Around} {ρ ρ' ρ0 : Nat → Addr} {st st' : Hp} {s s' s0 : Shared} {env : Env} {loc loc' at_ : Loc} {r : Lv} {K : Frag} {x C dx : Addr} {n0 k : Nat}

theorem instS_dict {h : Heap} {m : Str → Option Value} (I : InstS h x C dx k m) : ∃ o, h.get? dx = some o ∧ ¬ Stays o ∧ ∀ vs m, o.data ≠ .seq vs m := by
  obtain ⟨es, n, hd, _⟩ := I.ns
  exact ⟨_, hd, (fun hs => by rcases Stays.data hs with ⟨_, _, q⟩ | ⟨_, q⟩ <;> cases q), fun vs m q => by cases q⟩

theorem IS.ext (S : IS B pins env x C dx ρ0 n0 s0 loc st at_ k ρ s) (X : Ext ρ st.length (frs env) s ρ' st'.length s') (R' : Rel B pins ρ' st' s'.heap) (F' : Frm ρ' st'.length s' env loc') : IS B pins env x C dx ρ0 n0 s0 loc' st' at_ k ρ' s' := by
  obtain ⟨m, I, h1, h2⟩ := S.I
  have T := X.tups S.R S.F.kinds
  obtain ⟨es, n, hd, hl, ha⟩ := I.ns
  have kx := X.keep x _ I.at_ (fun j hj => (S.nx j hj).1) S.fx.1
  have kd := X.keep dx _ hd (fun j hj => (S.nx j hj).2) S.fx.2
  refine ⟨R', F', ⟨m, ⟨kx.1, es, n, kd.1, hl, ha⟩, fun a v e => ?_, h2⟩, fun j hj => ⟨kx.2 j hj, kd.2 j hj⟩, S.fx, S.bx, S.ne, S.X.trans (X.wider fun _ h => .inl h)⟩
  obtain ⟨u, hu, hr⟩ := h1 a v e
  exact ⟨u, hu, hr.mono X.rho X.le T⟩
theorem IS.ext0 (S : IS B pins env x C dx ρ0 n0 s0 loc st at_ k ρ s) (X : Ext ρ st.length noF s ρ' st'.length s') (R' : Rel B pins ρ' st' s'.heap) : IS B pins env x C dx ρ0 n0 s0 loc st' at_ k ρ' s' :=
  S.ext (X.wider fun _ h => h.elim) R' (S.F.keeps S.R rfl X)

theorem init_ex (hex : ExOK prog w B pins n mg mb r.ex) (C' : CxOK prog w B pins n mg mb cx) (RA : Room n A) (EO : EnvOK B env) (hs : env.scope = cx.sc) (S : IS B pins env x C dx ρ0 n0 s0 loc st at_ k ρ s) {c : Stmt} {f : Fl} (h : r.ex cx loc st c = some (f, loc', st')) {Q : Flow → Shared → Prop} {E : Value → Shared → Prop}
    (q : ∀ ρ' s' fl, IS B pins env x C dx ρ0 n0 s0 loc' st' at_ k ρ' s' → FlR ρ' st'.length s'.heap f fl → Q fl s') : wpAny (model prog w) A (exec c env) Q E s :=
  hex cx C' loc st c f loc' st' h A ρ s env RA EO hs S.R S.F Q E fun ρ' s' fl R' X' F' V' => q ρ' s' fl (S.ext X' R' F') V'

theorem init_if (ht : TvOK prog w B pins n mg mb r.tv) (C' : CxOK prog w B pins n mg mb cx) (RA : Room n A) (EO : EnvOK B env) (hs : env.scope = cx.sc) (S : IS B pins env x C dx ρ0 n0 s0 loc st at_ k ρ s) {t : PySem.Expr} {b e : List Stmt} {p : Pos} {c : Bool} (h : r.tv cx loc st t = some (c, st')) {Q : Flow → Shared → Prop} {E : Value → Shared → Prop}
    (q : ∀ ρ' s', IS B pins env x C dx ρ0 n0 s0 loc st' at_ k ρ' s' → wpAny (model prog w) A (execs (match c with | true => b | false => e) env) Q E s') : wpAny (model prog w) A (exec (.If t b e p) env) Q E s := by
  refine wpAny_If (ht cx C' loc st t c st' h A ρ s env RA EO hs S.R S.F _ E fun ρ' s' R' X' => ?_)
  have z := q ρ' s' (S.ext0 X' R')
  cases c with
  | true => exact z
  | false => exact z

theorem swaps_attr {e : PySem.Expr} {o : PySem.Expr} {a : Str} {p : Pos} {l : Nat} (h : isComp e = false) : swapsWith e (some (.Attribute o a p)) l env = pure false := swaps_plain h

structure Sets (K : Frag) (C : Addr) (a : Str) : Prop where
  hs : findIn K (.ref C) "__setattr__" = some (some (.builtin "object.__setattr__"))
  hp : plainOver K C = true
  ht : takerIn K C a = some none
  hh : hasDictIn K C = true

theorem IS.set (S : IS B pins env x C dx ρ0 n0 s0 loc st at_ k ρ s) (EO : EnvOK B env) (H : HasK B K) {a : Str} (T : Sets K C a) (hk : k ≤ 900) {v : V} {u : Value} (hv : RV ρ st.length s.heap v u) {Q : Unit → Shared → Prop} {E : Value → Shared → Prop}
    (q : ∀ s', IS B pins env x C dx ρ0 n0 s0 loc st (setL at_ a v) (k + 1) ρ s' → Q () s') : wpAny (model prog w) A (setAttr (.ref x) a u) Q E s := by
  obtain ⟨m, I, h1, h2⟩ := S.I
  refine set_ns (H.in_ S.R.base) I T.hs T.hp T.ht T.hh S.ne hk fun h' I' hb => q _ ?_
  obtain ⟨o, ho, hn, hd⟩ := instS_dict I
  have T' : Tups s.heap h' := fun b o' e hs => (hb.2 b fun hbd => by
    rw [hbd, ho] at e; cases e
    exact hn hs).trans e
  have keep : ∀ b o', b ≠ dx → s.heap.get? b = some o' → h'.get? b = some o' := fun b o' hbd e => (hb.2 b hbd).trans e
  have M : ∀ {v u}, RV ρ st.length s.heap v u → RV ρ st.length h' v u := fun H => H.mono (fun _ _ => rfl) (Nat.le_refl _) T'
  refine ⟨S.R.upd (fun b => b = dx) (fun b o' e hbd => keep b o' hbd e) (fun j hj e => (S.nx j hj).2 e) (fun b o' e hbd => by rw [hbd, S.bx.2] at e; cases e) (fun b o' e hs hbd => by rw [hbd, ho] at e; cases e; exact hn hs), ?_, ⟨_, I', fun y v' e => ?_, fun y e => ?_⟩, S.nx, S.fx, S.bx, S.ne, S.X.trans ?_⟩
  · obtain ⟨m', ⟨o', es, ep, ho', r'⟩, hv'⟩ := S.F.ns
    have hL : env.locals ≠ dx := fun e => S.fx.2 (e ▸ .inl rfl)
    refine ⟨⟨m', ⟨o', es, ep, keep _ _ hL ho', r'⟩, fun y v e kk => ?_⟩, fun y v e => ?_, fun y c e => ?_, Nat.lt_of_lt_of_le S.F.tk (Nat.le_add_right _ 2)⟩
    · obtain ⟨u', hu', hr'⟩ := hv' y v e kk
      exact ⟨u', hu', M hr'⟩
    · rcases S.F.cl y v e with kk | ⟨kk, c, u', hc, ⟨oc, hoc, hdc⟩, hr'⟩
      · exact .inl kk
      · exact .inr ⟨kk, c, u', hc, ⟨oc, keep _ _ (fun e => S.fx.2 (e ▸ .inr ⟨y, hc⟩)) hoc, hdc⟩, M hr'⟩
    · obtain ⟨u', oc, hoc, hdc⟩ := S.F.ck y c e
      exact ⟨u', oc, keep _ _ (fun e' => S.fx.2 (e' ▸ .inr ⟨y, e⟩)) hoc, hdc⟩
  · rw [getL_setL] at e
    by_cases hy : a = y
    · subst hy
      rw [if_pos rfl] at e
      cases e
      exact ⟨u, if_pos rfl, M hv⟩
    · rw [if_neg hy] at e
      obtain ⟨u', hu', hr'⟩ := h1 y v' e
      exact ⟨u', by rw [if_neg (Ne.symm hy)]; exact hu', M hr'⟩
  · rw [getL_setL] at e
    by_cases hy : a = y
    · rw [if_pos hy] at e; cases e
    · rw [if_neg hy] at e
      rw [if_neg (Ne.symm hy)]
      exact h2 y e
  · exact ⟨fun _ _ => rfl, Nat.le_refl _, fun b o' e hj hbd => ⟨keep b o' (fun q => hbd (.inr q)) e, hj⟩, rfl, id, Nat.le_refl _, fun _ _ => rfl, Nat.le_add_right _ 2⟩

theorem self_ok (C' : CxOK prog w B pins n mg mb cx) (EO : EnvOK B env) (hs : env.scope = cx.sc) (R : Rel B pins ρ st s.heap) (F : Frm ρ st.length s env loc) {xs : Str} {p : Pos} {u : Value} (h : getL loc xs = some (.imm u)) (hd : decide (xs = ("__debug__" : Str)) = false) :
    Does prog w B pins A (eval (.Name xs p) env) ρ st s (.imm u) st := name_ok C' EO hs R F (by unfold nameV; rw [h]) hd

theorem init_set (hr : EvOK prog w B pins n mg mb r.ev) (C' : CxOK prog w B pins n mg mb cx) (RA : Room n A) (EO : EnvOK B env) (hs : env.scope = cx.sc) (H : HasK B K) (S : IS B pins env x C dx ρ0 n0 s0 loc st at_ k ρ s) {xs a : Str} {p1 p2 p3 : Pos} {e : PySem.Expr} {v : V}
    (hself : getL loc xs = some (.imm (.ref x))) (hd : decide (xs = ("__debug__" : Str)) = false) (hc : isComp e = false) (he : r.ev cx loc st e = some (v, st')) (T : Sets K C a) (hk : k ≤ 900) {Q : Flow → Shared → Prop} {E : Value → Shared → Prop}
    (q : ∀ ρ' s', IS B pins env x C dx ρ0 n0 s0 loc st' (setL at_ a v) (k + 1) ρ' s' → Q .next s') : wpAny (model prog w) A (exec (.Assign [.Attribute (.Name xs p1) a p2] e p3) env) Q E s := by
  refine plainObj_wpAny_Assign_Attribute (hr.2 cx C' loc st e v st' he A ρ s env RA EO hs S.R S.F _ E fun ρ1 s1 u R1 X1 V1 => ?_) (swaps_attr hc)
  have S1 := S.ext0 X1 R1
  refine self_ok C' EO hs R1 S1.F hself hd _ E fun ρ2 s2 y R2 X2 V2 => ?_
  first | obtain rfl := V2.imm_inv | obtain rfl := V2.next_inv | obtain rfl := V2.none_inv | obtain rfl := V2.bool_inv | cases V2
  exact (S1.ext0 X2 R2).set EO H T hk (X2.up R1 V1) fun s3 S3 => q ρ2 s3 S3

theorem init_dict (C' : CxOK prog w B pins n mg mb cx) (EO : EnvOK B env) (hs : env.scope = cx.sc) (H : HasK B K) (S : IS B pins env x C dx ρ0 n0 s0 loc st at_ k ρ s) {xs a : Str} {p1 p2 p3 p4 : Pos}
    (hself : getL loc xs = some (.imm (.ref x))) (hd : decide (xs = ("__debug__" : Str)) = false) (T : Sets K C a) (hk : k ≤ 900) {Q : Flow → Shared → Prop} {E : Value → Shared → Prop}
    (q : ∀ u ρ' s', IS B pins env x C dx ρ0 n0 s0 loc st (setL at_ a (.imm u)) (k + 1) ρ' s' → Q .next s') : wpAny (model prog w) A (exec (.Assign [.Attribute (.Name xs p1) a p2] (.Dict [] [] p4) p3) env) Q E s := by
  refine plainObj_wpAny_Assign_Attribute (wpAny_Dict_empty ?_) (swaps_attr rfl)
  have X1 : Ext ρ st.length noF s ρ st.length { s with heap := s.heap.push { cls := .type "dict", data := .dict #[] } } := Ext.same (fun b o e _ => Heap.get?_push_of_some _ e) rfl rfl (Nat.le_refl _)
  have R1 := S.R.push { cls := .type "dict", data := .dict #[] }
  have S1 := S.ext0 X1 R1
  refine self_ok C' EO hs R1 S1.F hself hd _ E fun ρ2 s2 y R2 X2 V2 => ?_
  first | obtain rfl := V2.imm_inv | obtain rfl := V2.next_inv | obtain rfl := V2.none_inv | obtain rfl := V2.bool_inv | cases V2
  exact (S1.ext0 X2 R2).set EO H T hk (.imm _) fun s3 S3 => q _ ρ2 s3 S3
end
end Uq
end

section
open PySem PySem.Calls PyProof.Rows PySem.W
namespace Uq

structure Born (B : Addr → Option Obj) (pins : List (Nat × Addr)) (ρ0 : Nat → Addr) (n0 : Nat) (s0 : Shared) (x C dx : Addr) (at_ : Loc) (st : Hp) (ρ : Nat → Addr) (s : Shared) : Prop where
  R : Rel B pins ρ st s.heap
  X : Ext ρ0 n0 noF s0 ρ st.length s
  I : ∃ k m, InstS s.heap x C dx k m ∧ (∀ a v, getL at_ a = some v → ∃ u, m a = some u ∧ RV ρ st.length s.heap v u) ∧ ∀ a, getL at_ a = none → m a = none
  nx : ∀ j, j < st.length → ρ j ≠ x ∧ ρ j ≠ dx
  bx : B x = none ∧ B dx = none
  ne : x ≠ dx
  nw : s0.heap.get? x = none ∧ s0.heap.get? dx = none
  tk : 0 < s.toks

section
variable {prog : Program} {w : World} {B : Addr → Option Obj} {pins : List (Nat × Addr)} {n : Nat} {A : Around} {ρ ρ' ρ0 : Nat → Addr} {st st' : Hp} {s s' s0 : Shared} {K : Frag} {x C dx : Addr}

theorem room_under {c : Code} {n : Nat} (R : Room (n + 1) A) (h1 : c.weight = 1) (h2 : c.cUnits = 1) : Room n (A.under c) :=
  ⟨R.hd, by have := R.dp; show A.depth + c.weight + n ≤ 900; omega, by have := R.un; show A.units + c.cUnits + 10 * n ≤ 9000; omega⟩

end
end Uq
end

section
open PySem PySem.Calls PyProof.Rows PySem.W
namespace Uq

noncomputable def globT : List (Str × Value) := [("enumerate", .type "enumerate"), ("len", .builtin "len"), ("range", .type "range"), ("type", .type "type"), ("list", .type "list"), ("str", .type "str"), ("sorted", .builtin "sorted"),
  ("_iter_escaped_chars", .ref 45), ("_strip_quoted_realnames", .ref 52), ("_check_parenthesis", .ref 59), ("_name_disallowed_re", .ref 64), ("_value_disallowed_re", .ref 69), ("Headers", .ref 192), ("_namespace_map", .ref 202),
  ("_escape_cdata", .ref 216), ("_escape_attrib", .ref 223), ("_escape_attrib_html", .ref 230), ("C14NWriterTarget", .ref 329), ("_escape_cdata_c14n", .ref 340), ("_escape_attrib_c14n", .ref 347),
  ("_law_deeds", .ref 352), ("_law_run", .ref 359), ("_law_spelled", .ref 366), ("_law_closed", .ref 371), ("_law_told", .ref 376), ("law", .ref 383)]
noncomputable def lkS {α : Type} : List (Str × α) → Str → Option α
  | [], _ => none
  | (y, v) :: r, x => match decide (y = x) with
    | true => some v
    | false => lkS r x
theorem lkS_mem {α : Type} {x : Str} {v : α} : ∀ {l : List (Str × α)}, lkS l x = some v → (x, v) ∈ l
  | [], h => by cases h
  | (y, u) :: r, h => by
    unfold lkS at h
    split at h
    · rename_i hd
      cases h
      have := of_decide_eq_true hd
      subst this
      exact List.mem_cons_self
    · exact List.mem_cons_of_mem _ (lkS_mem h)
noncomputable def chkG (K : Frag) (p : Str × Value) : Bool := match nsIn K 3 p.1 with
  | some (some u) => u == p.2
  | some none => (bootBuiltins p.1 == some p.2) && decide (p.1 ≠ "__name__")
  | none => false
theorem globT_ok (P : Params) : (globT.all (chkG (hd.heap_1 P))) = true := by rfl

noncomputable def lkF : List (Nat × Fn) → Nat → Option Fn
  | [], _ => none
  | (b, f) :: r, a => match Nat.beq b a with
    | true => some f
    | false => lkF r a
theorem lkF_mem {a : Nat} {f : Fn} : ∀ {l : List (Nat × Fn)}, lkF l a = some f → (a, f) ∈ l
  | [], h => by cases h
  | (b, g) :: r, h => by
    unfold lkF at h
    split at h
    · rename_i hd
      cases h
      have := Nat.eq_of_beq_eq_true hd
      subst this
      exact List.mem_cons_self
    · exact List.mem_cons_of_mem _ (lkF_mem h)
noncomputable def fnB : Value → Option Fn
  | .builtin s => match decide (s = "len") with
    | true => some fnLen
    | false => match decide (s = "sorted") with
      | true => some fnSorted
      | false => none
  | .type s => match decide (s = "range") with
    | true => some fnRange
    | false => match decide (s = "type") with
      | true => some fnType
      | false => none
  | _ => none

noncomputable def fnAt (l : List (Nat × Fn)) : Value → Option Fn
  | .ref a => lkF l a
  | f => fnB f
noncomputable def genAt : Value → Option (List V → Option (List V))
  | .ref a => match Nat.beq a 45 with
    | true => some genItems
    | false => none
  | _ => none

structure Parts where
  fns : List (Nat × Fn)
  meth : Addr → Str → List Str → Option Fn
  attr : Addr → Str → Option V
  setI : Addr → Option (V → V → Hp → Option Hp)
  delI : Addr → Option (V → Hp → Option Hp)
  ext : Addr → Option (List V)

noncomputable def mkCx (sc : Scope) (p : Parts) : Cx where
  sc := sc
  glob := fun x => (lkS globT x).map .imm
  fn := fnAt p.fns
  meth := p.meth
  attr := p.attr
  gen := genAt
  setI := p.setI
  delI := p.delI
  smeth := smethU
  ext := p.ext

/-- what the base says of the names -/
structure Base (B : Addr → Option Obj) (P : Params) (mg mb : Str → Option Value) : Prop where
  K : HasK B (hd.heap_1 P)
  ns : ∀ h, Based B h → h.Ns mainGlobals mg ∧ h.Ns builtinsNs mb
  bi : ∀ x : Str, x ≠ "__name__" → mb x = bootBuiltins x
  lim : ∀ h, Based B h → h.NoLimit
  ex : ∃ h, Based B h

section
variable {prog : Program} {w : World} {B : Addr → Option Obj} {P : Params} {pins : List (Nat × Addr)} {n : Nat} {mg mb : Str → Option Value} {A : Around}

theorem ns_nsIn {K : Frag} {h : Heap} {ns : Addr} {m : Str → Option Value} (X : K.In h) (N : h.Ns ns m) {x : Str} {r : Option Value} (e : nsIn K ns x = some r) : m x = r := by
  obtain ⟨o, es, ep, ho, hd, hk, hm⟩ := N
  unfold nsIn at e
  split at e
  · rename_i c d es' n' sl hK
    have := X _ _ hK
    rw [this] at ho
    cases ho
    cases hd
    rw [← hm x]
    unfold nsFind findBy
    rw [← Array.find?_toList]
    split at e
    · rename_i en he
      cases e
      rw [he]; rfl
    · rename_i he
      split at e
      · cases e
      · cases e; rw [he]; rfl
  · cases e

theorem Base.glob (Z : Base B P mg mb) {x : Str} {v : V} (h : (lkS globT x).map V.imm = some v) : ∃ u, v = .imm u ∧ (mg x = some u ∨ (mg x = none ∧ mb x = some u)) := by
  cases z : lkS globT x with
  | none => rw [z] at h; cases h
  | some u =>
    rw [z] at h
    cases h
    have hm := lkS_mem z
    have hc := List.all_eq_true.mp (globT_ok P) _ hm
    obtain ⟨h0, hb0⟩ := Z.ex
    have N := (Z.ns h0 hb0).1
    have X := Z.K.in_ hb0
    refine ⟨u, rfl, ?_⟩
    unfold chkG at hc
    split at hc
    · rename_i u' e
      left
      rw [ns_nsIn X N e]
      exact congrArg some (by simpa using hc)
    · rename_i e
      right
      simp only [Bool.and_eq_true, beq_iff_eq, decide_eq_true_eq] at hc
      exact ⟨ns_nsIn X N e, by rw [Z.bi x hc.2]; exact hc.1⟩
    · cases hc

structure PartsOK (prog : Program) (w : World) (B : Addr → Option Obj) (pins : List (Nat × Addr)) (n : Nat) (p : Parts) : Prop where
  fns : ∀ q ∈ p.fns, KeepOK prog w B (.ref q.1) ∧ FnOK prog w B pins n (.ref q.1) q.2
  meth : ∀ a m kn spec, p.meth a m kn = some spec → MethOK prog w B pins n (.ref a) m kn spec
  attr : ∀ a m v, p.attr a m = some v → ∀ A ρ st s, Room n A → 0 < s.toks → Rel B pins ρ st s.heap → Does prog w B pins A (getAttr (.ref a) m true) ρ st s v st
  setI : ∀ a f, p.setI a = some f → ∀ j v st st', f j v st = some st' → ∀ A ρ s ju vu Q E, Room n A → 0 < s.toks → Rel B pins ρ st s.heap → RV ρ st.length s.heap j ju → RV ρ st.length s.heap v vu →
    (∀ ρ' s', Rel B pins ρ' st' s'.heap → Ext ρ st.length noF s ρ' st'.length s' → Q () s') → wpAny (model prog w) A (setItem (.ref a) ju vu) Q E s
  delI : ∀ a f, p.delI a = some f → ∀ j st st', f j st = some st' → ∀ A ρ s ju Q E, Room n A → 0 < s.toks → Rel B pins ρ st s.heap → RV ρ st.length s.heap j ju →
    (∀ ρ' s', Rel B pins ρ' st' s'.heap → Ext ρ st.length noF s ρ' st'.length s' → Q () s') → wpAny (model prog w) A (delItem (.ref a) ju) Q E s
  ext : ∀ a xs, p.ext a = some xs → ∃ o vs m, B a = some o ∧ o.cls = .type "list" ∧ o.data = .seq (List.toArray vs) m ∧ ∀ ρ n h, RVs ρ n h xs vs

theorem keep_enum : KeepOK prog w B (.type "enumerate") := keep_type (by rfl)

theorem cxG_ok (Z : Base B P mg mb) : CxOK prog w B [] 0 mg mb (cxG P) where
  glb := Z.ns
  glob x v h := by
    have h' : (match decide (x = ("enumerate" : Str)) with | true => some (V.imm (.type "enumerate")) | false => none) = some v := h
    split at h'
    · rename_i hd
      cases h'
      have := of_decide_eq_true hd
      subst this
      exact Z.glob (v := .imm (.type "enumerate")) (by rfl)
    · cases h'
  keep f spec h := by cases h
  fn f spec h := by cases h
  meth a m kn spec h := by cases h
  attr a m v h := by cases h
  smeth x m args st v st' h := by cases h
  setI a f h := by cases h
  delI a f h := by cases h
  ext a xs h := by cases h
  gen f g h := by cases h

theorem cxOK_mk (Z : Base B P mg mb) {sc : Scope} {p : Parts} (O : PartsOK prog w B pins n p) (hn : 2 ≤ n) : CxOK prog w B pins n mg mb (mkCx sc p) where
  glb := Z.ns
  glob x v h := Z.glob h
  keep f spec h := by
    have h' : fnAt p.fns f = some spec := h
    unfold fnAt at h'
    split at h'
    · exact (O.fns _ (lkF_mem h')).1
    · unfold fnB at h'
      split at h'
      · split at h'
        · rename_i hd; rw [of_decide_eq_true hd]; exact keep_len
        · split at h'
          · rename_i hd; rw [of_decide_eq_true hd]; exact keep_sorted
          · cases h'
      · split at h'
        · rename_i hd; rw [of_decide_eq_true hd]; exact keep_range
        · split at h'
          · rename_i hd; rw [of_decide_eq_true hd]; exact keep_ttype
          · cases h'
      · cases h'
  fn f spec h := by
    have h' : fnAt p.fns f = some spec := h
    unfold fnAt at h'
    split at h'
    · exact (O.fns _ (lkF_mem h')).2
    · unfold fnB at h'
      split at h'
      · split at h'
        · rename_i hd; cases h'; rw [of_decide_eq_true hd]; exact fnLen_ok
        · split at h'
          · rename_i hd; cases h'; rw [of_decide_eq_true hd]; exact fnSorted_ok
          · cases h'
      · split at h'
        · rename_i hd; cases h'; rw [of_decide_eq_true hd]; exact fnRange_ok
        · split at h'
          · rename_i hd; cases h'; rw [of_decide_eq_true hd]; exact fnType_ok
          · cases h'
      · cases h'
  meth := O.meth
  attr := O.attr
  smeth x m args st v st' h t := smethU_ok h t
  setI := O.setI
  delI := O.delI
  ext := O.ext
  gen f g h := by
    have h' : genAt f = some g := h
    unfold genAt at h'
    split at h'
    · rename_i a
      split at h'
      · rename_i hd
        cases h'
        have := Nat.eq_of_beq_eq_true hd
        subst this
        refine ⟨keep_K Z.K (by rfl), fun args items hi A ρ st s us RA tk R V => ?_⟩
        have L := lv_ok (prog := prog) (w := w) (B := B) (pins := []) (n := 0) (mg := mg) (mb := mb) sliceSet_ok 5
        obtain ⟨k, rfl⟩ : ∃ k, n = k + 2 := ⟨n - 2, by omega⟩
        exact gen_iters (cx := cxG P) (genOK_45 Z.K Z.lim) shape_45 L.1 L.2.1 L.2.2 (cxG_ok Z) hi RA tk R V
      · cases h'
    · cases h'
end
end Uq
end

section
open PySem PySem.Calls PyProof.Rows
namespace Uq

section
variable {k : Nat} {cx : Cx} {loc loc1 loc2 : Loc} {st st1 st2 st3 : Hp} {a b v : V} {p q ap : Pos}

/-- the rules of the connectives -/
theorem ob_eq {α β γ : Type} {x : Option (α × β)} {v : α} {t : β} {F : α → β → Option γ} {R : Option γ} (h : x = some (v, t)) (h2 : F v t = R) : ob x F = R := h ▸ h2
theorem oc_eq {α γ : Type} {x : Option α} {v : α} {F : α → Option γ} {R : Option γ} (h : x = some v) (h2 : F v = R) : oc x F = R := h ▸ h2
theorem ot_eq {γ : Type} {b : Bool} {F R : Option γ} (h : b = false) (h2 : F = R) : ot b F = R := h ▸ h2
theorem ou_eq {γ : Type} {b : Bool} {F R : Option γ} (h : b = true) (h2 : F = R) : ou b F = R := h ▸ h2
theorem om_eq {α γ : Type} {x : Option α} {v : α} {f : α → γ} (h : x = some v) : x.map f = some (f v) := h ▸ rfl
theorem evRef_eq {γ : Type} {x : Option (V × Hp)} {a : Addr} {t : Hp} {F : Addr → Hp → Option γ} {R : Option γ} (h : x = some (.imm (.ref a), t)) (h2 : F a t = R) : evRef x F = R := h ▸ h2
theorem oif_eq {β γ : Type} {x : Option (Bool × β)} {c : Bool} {t : β} {F G : β → Option γ} {R : Option γ} (h : x = some (c, t)) (h2 : cond c (F t) (G t) = R) : oif x F G = R := by
  subst h
  cases c <;> exact h2

theorem exs_next {ex : Loc → Hp → Stmt → Option (Fl × Loc × Hp)} {c : Stmt} {cs : List Stmt} {R : Option (Fl × Loc × Hp)} (h : ex loc st c = some (.next, loc1, st1)) (h2 : exs ex cs loc1 st1 = R) : exs ex (c :: cs) loc st = R := by
  show (match ex loc st c with | none => none | some (.next, loc', st') => exs ex cs loc' st' | some r => some r) = _
  rw [h]; exact h2
theorem exs_ret {ex : Loc → Hp → Stmt → Option (Fl × Loc × Hp)} {c : Stmt} {cs : List Stmt} (h : ex loc st c = some (.ret v, loc1, st1)) : exs ex (c :: cs) loc st = some (.ret v, loc1, st1) := by
  show (match ex loc st c with | none => none | some (.next, loc', st') => exs ex cs loc' st' | some r => some r) = _
  rw [h]
theorem exs_nil {ex : Loc → Hp → Stmt → Option (Fl × Loc × Hp)} : exs ex [] loc st = some (.next, loc, st) := rfl

theorem ex_if {t : PySem.Expr} {bd e : List Stmt} {c : Bool} {R : Option (Fl × Loc × Hp)} (h : (lv k).tv cx loc st t = some (c, st1)) (h2 : exs ((lv k).ex cx) (cond c bd e) loc st1 = R) : (lv (k + 1)).ex cx loc st (.If t bd e p) = R :=
  (oif_eq h (by cases c <;> exact h2) : nextEx (lv k) cx loc st (.If t bd e p) = R)
theorem ex_assign {x : Str} {e : PySem.Expr} (hc : (isLoc cx.sc x && !isComp e) = true) (h : (lv k).ev cx loc st e = some (v, st1)) : (lv (k + 1)).ex cx loc st (.Assign [.Name x p] e q) = some (.next, setL loc x v, st1) :=
  (ou_eq hc (ob_eq h rfl) : nextEx (lv k) cx loc st (.Assign [.Name x p] e q) = some (.next, setL loc x v, st1))
theorem ex_ret {e : PySem.Expr} (h : (lv k).ev cx loc st e = some (v, st1)) : (lv (k + 1)).ex cx loc st (.Return (some e) p) = some (.ret v, loc, st1) :=
  (ob_eq h rfl : nextEx (lv k) cx loc st (.Return (some e) p) = some (.ret v, loc, st1))
theorem ex_expr {e : PySem.Expr} (hc : isComp e = false) (h : (lv k).ev cx loc st e = some (v, st1)) : (lv (k + 1)).ex cx loc st (.Expr e p) = some (.next, loc, st1) :=
  (ot_eq hc (ob_eq h rfl) : nextEx (lv k) cx loc st (.Expr e p) = some (.next, loc, st1))
theorem ex_try {bd : List Stmt} {h : ExceptHandler} {hs : List ExceptHandler} {R : Option (Fl × Loc × Hp)} (h2 : exs ((lv k).ex cx) bd loc st = R) : (lv (k + 1)).ex cx loc st (.Try bd (h :: hs) [] [] p) = R := h2
theorem ex_unpack {ts : List PySem.Expr} {j : Nat} {o i : PySem.Expr} {p' q' : Pos} (h : (lv k).ev cx loc st (.Subscript o i q') = some (v, st1)) (hb : bindT cx.sc (.Tuple ts j p') v loc = some loc1) : (lv (k + 1)).ex cx loc st (.Assign [.Tuple ts j p'] (.Subscript o i q') q) = some (.next, loc1, st1) :=
  (ob_eq h (om_eq hb) : nextEx (lv k) cx loc st (.Assign [.Tuple ts j p'] (.Subscript o i q') q) = some (.next, loc1, st1))
theorem ev_bin {l r : PySem.Expr} {op : Operator} {R : V × Hp} (h1 : (lv k).ev cx loc st l = some (a, st1)) (h2 : (lv k).ev cx loc st1 r = some (b, st2)) (h3 : binV op a b st2 = some R) : (lv (k + 1)).ev cx loc st (.BinOp l op r p) = some R :=
  (ob_eq h1 (ob_eq h2 h3) : nextEv (lv k) cx loc st (.BinOp l op r p) = some R)
theorem ev_ifexp {t x e : PySem.Expr} {c : Bool} {R : Option (V × Hp)} (h : (lv k).tv cx loc st t = some (c, st1)) (h2 : (lv k).ev cx loc st1 (cond c x e) = R) : (lv (k + 1)).ev cx loc st (.IfExp t x e p) = R :=
  (oif_eq h (by cases c <;> exact h2) : nextEv (lv k) cx loc st (.IfExp t x e p) = R)
theorem ev_sub {o i : PySem.Expr} (hi : ∀ l u p, i ≠ .Slice l u none p) (h1 : (lv k).ev cx loc st o = some (a, st1)) (h2 : (lv k).ev cx loc st1 i = some (b, st2)) (h3 : subV a b st2 = some v) : (lv (k + 1)).ev cx loc st (.Subscript o i p) = some (v, st2) := by
  have e0 : sliceOf i = none := by
    cases e : sliceOf i with
    | none => rfl
    | some x => obtain ⟨q, rfl⟩ := sliceOf_el e; exact absurd rfl (hi _ _ q)
  have e : subK (lv k) cx loc o st i = ob ((lv k).ev cx loc st o) fun v st1 => ob ((lv k).ev cx loc st1 i) fun j st2 => (subV v j st2).map fun u => (u, st2) := by
    unfold subK
    rw [e0]
  exact e.trans (ob_eq h1 (ob_eq h2 (om_eq h3)))
theorem ev_slice {o : PySem.Expr} {lo hi : Option PySem.Expr} {l h : Option Int} {R : V × Hp} (h1 : (lv k).ev cx loc st o = some (a, st1)) (h2 : evPart ((lv k).ev cx) loc st1 lo = some (l, st2)) (h3 : evPart ((lv k).ev cx) loc st2 hi = some (h, st3)) (h4 : slcX cx a l h st3 = some R) :
    (lv (k + 1)).ev cx loc st (.Subscript o (.Slice lo hi none q) p) = some R :=
  (ob_eq h1 (ob_eq h2 (ob_eq h3 h4)) : nextEv (lv k) cx loc st (.Subscript o (.Slice lo hi none q) p) = some R)
theorem ev_attr {o : PySem.Expr} {m : Str} {x : Addr} (hb : plainBase o = true) (h1 : (lv k).ev cx loc st o = some (.imm (.ref x), st1)) (h2 : cx.attr x m = some v) : (lv (k + 1)).ev cx loc st (.Attribute o m p) = some (v, st1) :=
  (ou_eq hb (evRef_eq h1 (om_eq h2)) : nextEv (lv k) cx loc st (.Attribute o m p) = some (v, st1))
theorem ev_meth {o : PySem.Expr} {m : Str} {args : List PySem.Expr} {kws : List Keyword} {kn : List Str} {vs : List V} {R : V × Hp} (hb : (plainBase o && decide (args.length + kws.length + 1 < 30) && decide (ap.endLine = p.line)) = true)
    (h1 : (lv k).ev cx loc st o = some (a, st1)) (hr : replArgs m args kws = none) (hk : kwNames kws = some kn) (h2 : evs ((lv k).ev cx) loc (args ++ kws.map Keyword.value) st1 = some (vs, st2)) (h3 : methV cx a m kn vs st2 = some R) :
    (lv (k + 1)).ev cx loc st (.Call (.Attribute o m ap) args kws p) = some R := ou_eq hb (ob_eq h1 (by
  rw [hr]
  exact oc_eq hk (ob_eq h2 h3)))
theorem ev_repl {o : PySem.Expr} {m : Str} {args : List PySem.Expr} {kws : List Keyword} {y z : Str} (hb : (plainBase o && decide (args.length + kws.length + 1 < 30) && decide (ap.endLine = p.line)) = true)
    (h1 : (lv k).ev cx loc st o = some (a, st1)) (hr : replArgs m args kws = some (y, z)) (h3 : replV y z a = some v) :
    (lv (k + 1)).ev cx loc st (.Call (.Attribute o m ap) args kws p) = some (v, st1) := ou_eq hb (ob_eq h1 (by
  rw [hr]
  exact om_eq h3))
theorem ev_call {f : PySem.Expr} (hf : ∀ o m q, f ≠ .Attribute o m q) {args : List PySem.Expr} {vs : List V} {R : V × Hp} (h1 : (lv k).ev cx loc st f = some (a, st1)) (h2 : evs ((lv k).ev cx) loc args st1 = some (vs, st2)) (h3 : callV cx a vs st2 = some R) :
    (lv (k + 1)).ev cx loc st (.Call f args [] p) = some R := by
  have e0 : attrOf f = none := by
    cases e : attrOf f with
    | none => rfl
    | some x => exact absurd (attrOf_el e) (hf _ _ _)
  have e : callK (lv k) cx loc st args [] p f = ob ((lv k).ev cx loc st f) fun fv st1 => ob (evs ((lv k).ev cx) loc args st1) fun vs st2 => callV cx fv vs st2 := by
    unfold callK
    rw [e0]; rfl
  exact e.trans (ob_eq h1 (ob_eq h2 h3))
theorem ev_tuple {es : List PySem.Expr} {j : Nat} {vs : List V} (h : evs ((lv k).ev cx) loc es st = some (vs, st1)) (hz : vs.length ≤ sizeLine) : (lv (k + 1)).ev cx loc st (.Tuple es j p) = some (.tup vs, st1) :=
  (ob_eq h (if_pos hz) : nextEv (lv k) cx loc st (.Tuple es j p) = some (.tup vs, st1))
theorem ev_list {es : List PySem.Expr} {vs : List V} (h : evs ((lv k).ev cx) loc es st = some (vs, st1)) (hz : vs.length ≤ sizeLine) : (lv (k + 1)).ev cx loc st (.List es p) = some (.lst st1.length, st1 ++ [vs]) :=
  (ob_eq h (if_pos hz) : nextEv (lv k) cx loc st (.List es p) = some (.lst st1.length, st1 ++ [vs]))
theorem evs_cons {ev : EvT} {e : PySem.Expr} {es : List PySem.Expr} {vs : List V} (h1 : ev loc st e = some (v, st1)) (h2 : evs ev loc es st1 = some (vs, st2)) : evs ev loc (e :: es) st = some (v :: vs, st2) := ob_eq h1 (ob_eq h2 rfl)
theorem evs_nil {ev : EvT} : evs ev loc [] st = some ([], st) := rfl
theorem ev_smeth {o : PySem.Expr} {m : Str} {args : List PySem.Expr} {vs : List V} {R : V × Hp} {x : Str} (hb : (plainBase o && decide (args.length + ([] : List Keyword).length + 1 < 30) && decide (ap.endLine = p.line)) = true)
    (h1 : (lv k).ev cx loc st o = some (.str x, st1)) (hr : replArgs m args [] = none) (h2 : evs ((lv k).ev cx) loc args st1 = some (vs, st2)) (h3 : cx.smeth x m vs st2 = some R) :
    (lv (k + 1)).ev cx loc st (.Call (.Attribute o m ap) args [] p) = some R := ev_meth (kn := []) (vs := vs) hb h1 hr rfl (by rw [List.map_nil, List.append_nil]; exact h2) h3
theorem ev_imeth {o : PySem.Expr} {m : Str} {args : List PySem.Expr} {kws : List Keyword} {kn : List Str} {vs : List V} {R : V × Hp} {x : Addr} {spec : Fn} (hb : (plainBase o && decide (args.length + kws.length + 1 < 30) && decide (ap.endLine = p.line)) = true)
    (h1 : (lv k).ev cx loc st o = some (.imm (.ref x), st1)) (hr : replArgs m args kws = none) (hk : kwNames kws = some kn) (h2 : evs ((lv k).ev cx) loc (args ++ kws.map Keyword.value) st1 = some (vs, st2)) (hs : cx.meth x m kn = some spec) (h3 : spec vs st2 = some R) :
    (lv (k + 1)).ev cx loc st (.Call (.Attribute o m ap) args kws p) = some R := ev_meth hb h1 hr hk h2 (oc_eq hs h3)
theorem ev_append {o e : PySem.Expr} {j : Nat} {xs : List V} (hb : (plainBase o && decide ([e].length + ([] : List Keyword).length + 1 < 30) && decide (ap.endLine = p.line)) = true)
    (h1 : (lv k).ev cx loc st o = some (.lst j, st1)) (h2 : (lv k).ev cx loc st1 e = some (v, st2)) (hx : st2[j]? = some xs) (hz : xs.length ≤ sizeLine) :
    (lv (k + 1)).ev cx loc st (.Call (.Attribute o "append" ap) [e] [] p) = some (.none, st2.set j (xs ++ [v])) :=
  ev_meth (kn := []) (vs := [v]) hb h1 rfl rfl (evs_cons h2 rfl) (ou_eq (b := decide (("append" : Str) = ("append" : Str))) (by rfl) (oc_eq hx (if_pos hz)))
theorem ev_cmp {l r : PySem.Expr} {op : CmpOp} {c : Bool} (h1 : (lv k).ev cx loc st l = some (a, st1)) (h2 : (lv k).ev cx loc st1 r = some (b, st2)) (h3 : behindInMarks op r = false) (h4 : cmpV op a b st2 = some c) : (lv (k + 1)).ev cx loc st (.Compare l [op] [r] p) = some (.bool c, st2) :=
  (ob_eq h1 (ob_eq h2 (ot_eq h3 (om_eq h4))) : nextEv (lv k) cx loc st (.Compare l [op] [r] p) = some (.bool c, st2))
theorem tv_cmp {l r : PySem.Expr} {op : CmpOp} {c : Bool} (h1 : (lv k).ev cx loc st l = some (a, st1)) (h2 : (lv k).ev cx loc st1 r = some (b, st2)) (h3 : behindInMarks op r = false) (h4 : cmpV op a b st2 = some c) : (lv (k + 1)).tv cx loc st (.Compare l [op] [r] p) = some (c, st2) :=
  (ob_eq h1 (ob_eq h2 (ot_eq h3 (om_eq h4))) : nextTv (lv k) cx loc st (.Compare l [op] [r] p) = some (c, st2))
theorem tv_call {f : PySem.Expr} {args : List PySem.Expr} {kws : List Keyword} {c : Bool} (h1 : (lv k).ev cx loc st (.Call f args kws p) = some (v, st1)) (h2 : truthV v st1 = some c) : (lv (k + 1)).tv cx loc st (.Call f args kws p) = some (c, st1) :=
  (ob_eq h1 (om_eq h2) : nextTv (lv k) cx loc st (.Call f args kws p) = some (c, st1))
theorem tv_name {x : Str} {c : Bool} (h1 : (lv k).ev cx loc st (.Name x p) = some (v, st1)) (h2 : truthV v st1 = some c) : (lv (k + 1)).tv cx loc st (.Name x p) = some (c, st1) :=
  (ob_eq h1 (om_eq h2) : nextTv (lv k) cx loc st (.Name x p) = some (c, st1))
theorem tv_attr {o : PySem.Expr} {m : Str} {c : Bool} (h1 : (lv k).ev cx loc st (.Attribute o m p) = some (v, st1)) (h2 : truthV v st1 = some c) : (lv (k + 1)).tv cx loc st (.Attribute o m p) = some (c, st1) :=
  (ob_eq h1 (om_eq h2) : nextTv (lv k) cx loc st (.Attribute o m p) = some (c, st1))
theorem tv_not {e : PySem.Expr} {c : Bool} (h : (lv k).tv cx loc st e = some (c, st1)) : (lv (k + 1)).tv cx loc st (.UnaryOp .Not e p) = some (!c, st1) :=
  (ob_eq h rfl : nextTv (lv k) cx loc st (.UnaryOp .Not e p) = some (!c, st1))
theorem tv_and {es : List PySem.Expr} {R : Option (Bool × Hp)} (h : tvs ((lv k).tv cx) loc true es st = R) : (lv (k + 1)).tv cx loc st (.BoolOp .And es p) = R := h
theorem tv_or {es : List PySem.Expr} {R : Option (Bool × Hp)} (h : tvs ((lv k).tv cx) loc false es st = R) : (lv (k + 1)).tv cx loc st (.BoolOp .Or es p) = R := h
theorem tvs_stop {tv : Loc → Hp → PySem.Expr → Option (Bool × Hp)} {and : Bool} {e : PySem.Expr} {es : List PySem.Expr} (h : tv loc st e = some (!and, st1)) : tvs tv loc and (e :: es) st = some (!and, st1) := by
  show (match tv loc st e with | none => none | some (b, st1) => match and, b with | true, false => some (false, st1) | false, true => some (true, st1) | _, _ => tvs tv loc and es st1) = _
  rw [h]; cases and <;> rfl
theorem tvs_go {tv : Loc → Hp → PySem.Expr → Option (Bool × Hp)} {and : Bool} {e : PySem.Expr} {es : List PySem.Expr} {R : Option (Bool × Hp)} (h : tv loc st e = some (and, st1)) (h2 : tvs tv loc and es st1 = R) : tvs tv loc and (e :: es) st = R := by
  show (match tv loc st e with | none => none | some (b, st1) => match and, b with | true, false => some (false, st1) | false, true => some (true, st1) | _, _ => tvs tv loc and es st1) = _
  rw [h]; cases and <;> exact h2

/-- loops -/
theorem loop_end {body : V → Loc → Hp → Option (Fl × Loc × Hp)} {src : Src} {f i : Nat} (h : iterS src i st = some none) : loopF body src (f + 1) i loc st = some (.next, loc, st) := by
  show (match iterS src i st with | none => none | some none => some (Fl.next, loc, st) | some (some x) => _) = _
  rw [h]
theorem loop_next {body : V → Loc → Hp → Option (Fl × Loc × Hp)} {src : Src} {f i : Nat} {x : V} {R : Option (Fl × Loc × Hp)} (h : iterS src i st = some (some x)) (hb : body x loc st = some (.next, loc1, st1)) (h2 : loopF body src f (i + 1) loc1 st1 = R) : loopF body src (f + 1) i loc st = R := by
  unfold loopF
  rw [h]; dsimp only; rw [hb]; exact h2
theorem loop_ret {body : V → Loc → Hp → Option (Fl × Loc × Hp)} {src : Src} {f i : Nat} {x : V} (h : iterS src i st = some (some x)) (hb : body x loc st = some (.ret v, loc1, st1)) : loopF body src (f + 1) i loc st = some (.ret v, loc1, st1) := by
  unfold loopF
  rw [h]; dsimp only; rw [hb]

noncomputable def forB (k : Nat) (cx : Cx) (tgt : PySem.Expr) (b : List Stmt) : V → Loc → Hp → Option (Fl × Loc × Hp) := bodyB (lv k) cx tgt b
theorem ex_for_gen {tgt : PySem.Expr} {f : Str} {np cp : Pos} {args : List PySem.Expr} {b : List Stmt} {fv : Value} {g : List V → Option (List V)} {vs items : List V} {R : Option (Fl × Loc × Hp)}
    (h1 : nameV cx loc f = some (.imm fv)) (h2 : cx.gen fv = some g) (h3 : decide (f = ("__debug__" : Str)) = false) (h4 : evs ((lv k).ev cx) loc args st = some (vs, st1)) (h5 : g vs = some items)
    (h6 : loopF (forB k cx tgt b) (.items items) fuelF 0 loc st1 = R) : (lv (k + 1)).ex cx loc st (.For tgt (.Call (.Name f np) args [] cp) b [] p) = R := by
  have e : genN cx loc f = some g := by
    unfold genN
    rw [h1]; exact h2
  show (match genN cx loc f with
    | some g => ot (decide (f = ("__debug__" : Str))) (ob (evs ((lv k).ev cx) loc args st) fun vs st1 => oc (g vs) fun items => loopF (bodyB (lv k) cx tgt b) (.items items) fuelF 0 loc st1)
    | none => forI (lv k) cx loc st tgt (.Call (.Name f np) args [] cp) b) = _
  rw [e]
  exact ot_eq h3 (ob_eq h4 (oc_eq h5 h6))
theorem ex_for_call {tgt : PySem.Expr} {f : Str} {np cp : Pos} {args : List PySem.Expr} {b : List Stmt} {src : Src} {R : Option (Fl × Loc × Hp)}
    (h1 : (match nameV cx loc f with | some (.imm fv) => cx.gen fv | _ => none) = none) (h2 : (lv k).ev cx loc st (.Call (.Name f np) args [] cp) = some (v, st1)) (h3 : srcOf v = some src)
    (h6 : loopF (forB k cx tgt b) src fuelF 0 loc st1 = R) : (lv (k + 1)).ex cx loc st (.For tgt (.Call (.Name f np) args [] cp) b [] p) = R := by
  show (match genN cx loc f with
    | some g => ot (decide (f = ("__debug__" : Str))) (ob (evs ((lv k).ev cx) loc args st) fun vs st1 => oc (g vs) fun items => loopF (bodyB (lv k) cx tgt b) (.items items) fuelF 0 loc st1)
    | none => forI (lv k) cx loc st tgt (.Call (.Name f np) args [] cp) b) = _
  have e : genN cx loc f = none := h1
  rw [e]
  exact ob_eq h2 (oc_eq h3 h6)
theorem ex_for_name {tgt : PySem.Expr} {x : Str} {np : Pos} {b : List Stmt} {src : Src} {R : Option (Fl × Loc × Hp)}
    (h2 : (lv k).ev cx loc st (.Name x np) = some (v, st1)) (h3 : srcOf v = some src)
    (h6 : loopF (forB k cx tgt b) src fuelF 0 loc st1 = R) : (lv (k + 1)).ex cx loc st (.For tgt (.Name x np) b [] p) = R :=
  (ob_eq h2 (oc_eq h3 h6) : nextEx (lv k) cx loc st (.For tgt (.Name x np) b [] p) = R)
theorem ex_for_const {tgt : PySem.Expr} {c : Const} {j : Nat} {np : Pos} {b : List Stmt} {src : Src} {R : Option (Fl × Loc × Hp)}
    (h2 : (lv k).ev cx loc st (.Constant c j np) = some (v, st1)) (h3 : srcOf v = some src)
    (h6 : loopF (forB k cx tgt b) src fuelF 0 loc st1 = R) : (lv (k + 1)).ex cx loc st (.For tgt (.Constant c j np) b [] p) = R :=
  (ob_eq h2 (oc_eq h3 h6) : nextEx (lv k) cx loc st (.For tgt (.Constant c j np) b [] p) = R)
theorem ex_for_attr {tgt o : PySem.Expr} {m : Str} {np : Pos} {b : List Stmt} {src : Src} {R : Option (Fl × Loc × Hp)}
    (h2 : (lv k).ev cx loc st (.Attribute o m np) = some (v, st1)) (h3 : srcOf v = some src)
    (h6 : loopF (forB k cx tgt b) src fuelF 0 loc st1 = R) : (lv (k + 1)).ex cx loc st (.For tgt (.Attribute o m np) b [] p) = R :=
  (ob_eq h2 (oc_eq h3 h6) : nextEx (lv k) cx loc st (.For tgt (.Attribute o m np) b [] p) = R)
theorem forB_of {tgt : PySem.Expr} {b : List Stmt} {x : V} {R : Option (Fl × Loc × Hp)} (h : bindT cx.sc tgt x loc = some loc1) (h2 : exs ((lv k).ex cx) b loc1 st = R) : forB k cx tgt b x loc st = R := by
  unfold forB bodyB
  rw [h]; exact h2
theorem ex_while {t : PySem.Expr} {b : List Stmt} {R : Option (Fl × Loc × Hp)} (h : whileF (fun l u => (lv k).tv cx l u t) (fun l u => exs ((lv k).ex cx) b l u) fuelF loc st = R) : (lv (k + 1)).ex cx loc st (.While t b [] p) = R := h
theorem while_stop {test : Loc → Hp → Option (Bool × Hp)} {body : Loc → Hp → Option (Fl × Loc × Hp)} {f : Nat} (h : test loc st = some (false, st1)) : whileF test body (f + 1) loc st = some (.next, loc, st1) := by
  unfold whileF
  rw [h]
theorem while_go {test : Loc → Hp → Option (Bool × Hp)} {body : Loc → Hp → Option (Fl × Loc × Hp)} {f : Nat} {R : Option (Fl × Loc × Hp)} (h : test loc st = some (true, st1)) (h2 : body loc st1 = some (.next, loc1, st2)) (h3 : whileF test body f loc1 st2 = R) : whileF test body (f + 1) loc st = R := by
  unfold whileF
  rw [h]; dsimp only; rw [h2]; exact h3
theorem ex_del {o i : PySem.Expr} {x : Addr} {f : V → Hp → Option Hp} {j : V} (h1 : (lv k).ev cx loc st o = some (.imm (.ref x), st1)) (h2 : (lv k).ev cx loc st1 i = some (j, st2)) (h3 : cx.delI x = some f) (h4 : f j st2 = some st3) : (lv (k + 1)).ex cx loc st (.Delete [.Subscript o i q] p) = some (.next, loc, st3) :=
  (evRef_eq h1 (ob_eq h2 (oc_eq h3 (om_eq h4))) : nextEx (lv k) cx loc st (.Delete [.Subscript o i q] p) = some (.next, loc, st3))
theorem ex_set {o e i : PySem.Expr} {x : Addr} {f : V → V → Hp → Option Hp} {j : V} {st4 : Hp} (hi : ∀ q, i ≠ .Slice none none none q) (hc : isComp e = false) (h0 : (lv k).ev cx loc st e = some (v, st1)) (h1 : (lv k).ev cx loc st1 o = some (.imm (.ref x), st2)) (h2 : (lv k).ev cx loc st2 i = some (j, st3)) (h3 : cx.setI x = some f) (h4 : f j v st3 = some st4) :
    (lv (k + 1)).ex cx loc st (.Assign [.Subscript o i q] e p) = some (.next, loc, st4) := by
  have e0 : isFull i = false := by
    cases e1 : isFull i with
    | false => rfl
    | true => obtain ⟨q', rfl⟩ := isFull_el e1; exact absurd rfl (hi q')
  have e1 : putB (lv k) cx loc st o e i = itemB (lv k) cx loc st o i e := by
    unfold putB
    rw [e0]
  exact e1.trans (ot_eq hc (ob_eq h0 (evRef_eq h1 (ob_eq h2 (oc_eq h3 (om_eq h4))))))
theorem ex_whole {o e : PySem.Expr} {i j : Nat} {q' : Pos} {xs ys : List V} (h0 : (lv k).ev cx loc st e = some (.lst j, st1)) (h1 : (lv k).ev cx loc st1 o = some (.lst i, st2)) (hx : st2[j]? = some xs) (hy : st2[i]? = some ys) (hz : ys.length + xs.length ≤ sizeLine ∧ j ≠ i) :
    (lv (k + 1)).ex cx loc st (.Assign [.Subscript o (.Slice none none none q') q] e p) = some (.next, loc, st2.set i xs) := ob_eq h0 (by
  rw [h1]
  show (match st2[j]?, st2[i]? with
    | some xs, some ys => if ys.length + xs.length ≤ sizeLine ∧ j ≠ i then some (Fl.next, loc, st2.set i xs) else none
    | _, _ => none) = _
  rw [hx, hy]
  exact if_pos hz)
theorem ev_comp {elt tgt it : PySem.Expr} {ifs : List PySem.Expr} {sc : Scope} {src : Src} {l' : Loc} (h1 : (lv k).ev cx loc st it = some (v, st1)) (h2 : srcOf v = some src) (h3 : (compOK sc cx.sc tgt && !isSet it) = true)
    (h4 : loopF (compB (bindT (compScope sc cx.sc) tgt) (fun l t => tvs ((lv k).tv { cx with sc := compScope sc cx.sc }) l true ifs t) (fun l t => (lv k).ev { cx with sc := compScope sc cx.sc } l t elt) st1.length) src fuelF 0 (freeLoc sc cx.sc loc) (st1 ++ [[]]) = some (.next, l', st2)) :
    (lv (k + 1)).ev cx loc st (.ListComp elt [⟨tgt, it, ifs, 0⟩] sc p) = some (.lst st1.length, st2) := ob_eq h1 (oc_eq h2 (ou_eq h3 (by rw [h4])))
theorem compB_skip {bind : V → Loc → Option Loc} {test : Loc → Hp → Option (Bool × Hp)} {elt : Loc → Hp → Option (V × Hp)} {j : Nat} {x : V} (h1 : bind x loc = some loc1) (h2 : test loc1 st = some (false, st1)) : compB bind test elt j x loc st = some (.next, loc1, st1) := oc_eq h1 (oif_eq h2 rfl)
theorem compB_put {bind : V → Loc → Option Loc} {test : Loc → Hp → Option (Bool × Hp)} {elt : Loc → Hp → Option (V × Hp)} {j : Nat} {x : V} {xs : List V} (h1 : bind x loc = some loc1) (h2 : test loc1 st = some (true, st1)) (h3 : elt loc1 st1 = some (v, st2)) (h4 : st2[j]? = some xs) (h5 : xs.length ≤ sizeLine) :
    compB bind test elt j x loc st = some (.next, loc1, st2.set j (xs ++ [v])) := oc_eq h1 (oif_eq h2 (ob_eq h3 (oc_eq h4 (if_pos h5))))
end
end Uq
end

section
open PySem PySem.Calls PyProof.Rows PySem.W
namespace Uq

noncomputable def searchM : Addr → Str → List Str → Option Fn := fun a m kn => match Nat.beq a 64 || Nat.beq a 69, decide (m = "search"), kn with
  | true, true, [] => some (fnSearch goodSigns)
  | _, _, _ => none
noncomputable def p0 : Parts := ⟨[], searchM, fun _ _ => none, fun _ => none, fun _ => none, fun _ => none⟩
noncomputable def usr (P : Params) (p : Parts) (a : Nat) (nms : List Str) : Fn := userF (lv 12) (mkCx default p) (scopeAt (hd.heap_1 P) a) (bodyAt (hd.heap_1 P) a) nms

noncomputable def piece : Nat → Str
  | 0 => "("
  | 1 => ")"
  | 2 => "\""
  | 3 => "\\"
  | 4 => "&"
  | 5 => "(("
  | 6 => "))"
  | _ => "<"
noncomputable def spell (p h : Nat) : Str := match p with
  | 2 => match h with
    | 1 | 2 | 3 => "&quot;"
    | _ => "\""
  | 4 => "&amp;"
  | 7 => match h with
    | 2 => "<"
    | _ => "&lt;"
  | p => piece p
noncomputable def handA : Nat → Nat
  | 0 => 216
  | 1 => 223
  | 2 => 230
  | 3 => 347
  | _ => 340

theorem usr_of {P : Params} {p : Parts} {a : Nat} {nms : List Str} {args : List V} {st st' : Hp} {f : Fl} {loc' : Loc} {v : V} (hl : decide (args.length = nms.length) = true)
    (h : exs ((lv 12).ex (mkCx (scopeAt (hd.heap_1 P) a) p)) (bodyAt (hd.heap_1 P) a) (nms.zip args) st = some (f, loc', st')) (hv : flV f = some v) : usr P p a nms args st = some (v, st') := by
  unfold usr userF
  rw [hl]
  dsimp only
  have e : { (mkCx default p) with sc := scopeAt (hd.heap_1 P) a } = mkCx (scopeAt (hd.heap_1 P) a) p := rfl
  rw [e, h]
  dsimp only
  rw [hv]; rfl

end Uq
end

section
open PySem PySem.Calls PyProof.Rows
namespace Uq

/-- split at a sign -/
noncomputable def splitL (c : Nat) : List Nat → List (List Nat)
  | [] => [[]]
  | a :: r => if a = c then [] :: splitL c r else match splitL c r with
    | [] => [[a]]
    | p :: ps => (a :: p) :: ps
theorem splitL_ne (c : Nat) (l : List Nat) : ∃ p ps, splitL c l = p :: ps := by
  cases l with
  | nil => exact ⟨[], [], rfl⟩
  | cons a r =>
    unfold splitL
    split
    · exact ⟨_, _, rfl⟩
    · split
      · exact ⟨_, _, rfl⟩
      · exact ⟨_, _, rfl⟩
theorem splitL_hit (c : Nat) (l : List Nat) : splitL c (c :: l) = [] :: splitL c l := by
  show (if c = c then _ else _) = _
  rw [if_pos rfl]
theorem splitL_miss {c a : Nat} (h : a ≠ c) {l p : List Nat} {ps : List (List Nat)} (e : splitL c l = p :: ps) : splitL c (a :: l) = (a :: p) :: ps := by
  show (if a = c then _ else _) = _
  rw [if_neg h, e]
theorem splitL_free {c : Nat} : ∀ {l : List Nat}, c ∉ l → splitL c l = [l]
  | [], _ => rfl
  | a :: r, h => splitL_miss (fun e => h (by rw [e]; exact List.mem_cons_self)) (splitL_free fun hm => h (List.mem_cons_of_mem _ hm))
theorem splitL_app {c : Nat} {r : List Nat} : ∀ {l : List Nat}, c ∉ l → splitL c (l ++ c :: r) = l :: splitL c r
  | [], _ => splitL_hit c r
  | a :: l, h => splitL_miss (fun e => h (by rw [e]; exact List.mem_cons_self)) (splitL_app fun hm => h (List.mem_cons_of_mem _ hm))

/-- unescaped brackets and marks -/
noncomputable def sgn (c : Nat) : Bool := c == 40 || c == 41 || c == 34
noncomputable def live : Bool → List Nat → List Nat
  | _, [] => []
  | e, c :: cs => if (!e && sgn c) = true then c :: live (c == 92 && !e) cs else live (c == 92 && !e) cs
theorem live_cons (e : Bool) (c : Nat) (cs : List Nat) : live e (c :: cs) = if (!e && sgn c) = true then c :: live (c == 92 && !e) cs else live (c == 92 && !e) cs := rfl
noncomputable def seenP : List (List Nat) → List Nat
  | [] => []
  | [p] => p
  | [p, q] => p ++ q
  | p :: _ :: r :: rs => p ++ seenP (r :: rs)
noncomputable def parens (l : List Nat) : List Nat := l.filter (fun c => !(c == 34))
noncomputable def closeAt : Bool → List Nat → Option (List Nat)
  | _, [] => none
  | e, c :: cs => if (!e && c == 34) = true then some cs else closeAt (c == 92 && !e) cs
theorem close_cons (e : Bool) (c : Nat) (cs : List Nat) : closeAt e (c :: cs) = if (!e && c == 34) = true then some cs else closeAt (c == 92 && !e) cs := rfl
theorem closeAt_len : ∀ {cs r : List Nat} {e : Bool}, closeAt e cs = some r → r.length < cs.length
  | [], r, e, h => by cases h
  | c :: cs, r, e, h => by
    unfold closeAt at h
    split at h
    · cases h; simp
    · have := closeAt_len h
      simp; omega
noncomputable def outM : Bool → Bool → List Nat → List Nat
  | _, _, [] => []
  | true, e, c :: cs => outM (!(!e && c == 34)) (c == 92 && !e) cs
  | false, e, c :: cs => cond (!e && c == 34) (cond (closeAt false cs).isSome (outM true false cs) (34 :: cs)) (c :: outM false (c == 92 && !e) cs)
noncomputable abbrev outK (e : Bool) (cs : List Nat) : List Nat := outM false e cs
theorem outM_plain {e : Bool} {c : Nat} {cs : List Nat} : outM false e (c :: cs) = cond (!e && c == 34) (cond (closeAt false cs).isSome (outM true false cs) (34 :: cs)) (c :: outM false (c == 92 && !e) cs) := rfl
theorem outM_skip : ∀ {cs r : List Nat} {e : Bool}, closeAt e cs = some r → outM true e cs = outM false false r
  | [], r, e, h => by cases h
  | c :: cs, r, e, h => by
    rw [close_cons] at h
    show outM (!(!e && c == 34)) (c == 92 && !e) cs = _
    split at h
    · rename_i q
      cases h
      rw [q]
      obtain ⟨-, q⟩ := Bool.and_eq_true_iff.mp q
      obtain rfl := beq_iff_eq.mp q
      rfl
    · rename_i q
      rw [Bool.eq_false_iff.mpr q]
      exact outM_skip h
theorem outK_nil {e : Bool} : outK e [] = [] := rfl
theorem outK_plain {e : Bool} {c : Nat} {cs : List Nat} (h : (!e && c == 34) = false) : outK e (c :: cs) = c :: outK (c == 92 && !e) cs := by
  show outM _ _ _ = _
  rw [outM_plain, h]; rfl
theorem outK_close {c : Nat} {cs r : List Nat} (h : closeAt false cs = some r) : outK false (34 :: cs) = outK false r := by
  show cond (closeAt false cs).isSome _ _ = _
  rw [h]
  exact outM_skip h
theorem outK_open {cs : List Nat} (h : closeAt false cs = none) : outK false (34 :: cs) = 34 :: cs := by
  show cond (closeAt false cs).isSome _ _ = _
  rw [h]; rfl

theorem close_live : ∀ {cs r : List Nat} {e : Bool}, closeAt e cs = some r → ∃ M, 34 ∉ M ∧ live e cs = M ++ 34 :: live false r
  | [], r, e, h => by cases h
  | c :: cs, r, e, h => by
    unfold closeAt at h
    split at h
    · rename_i hc
      cases h
      simp only [Bool.and_eq_true, Bool.not_eq_true', beq_iff_eq] at hc
      obtain ⟨rfl, rfl⟩ := hc
      exact ⟨[], by simp, by rw [live_cons]; simp [sgn]⟩
    · rename_i hc
      obtain ⟨M, hM, e'⟩ := close_live h
      rw [live_cons]
      split
      · rename_i hs
        refine ⟨c :: M, ?_, by rw [e']; rfl⟩
        intro hm
        rcases List.mem_cons.mp hm with rfl | hm
        · simp only [Bool.and_eq_true, Bool.not_eq_true'] at hs
          exact hc (by simp [hs.1])
        · exact hM hm
      · exact ⟨M, hM, e'⟩
theorem close_none : ∀ {cs : List Nat} {e : Bool}, closeAt e cs = none → 34 ∉ live e cs
  | [], e, h => by simp [live]
  | c :: cs, e, h => by
    unfold closeAt at h
    split at h
    · cases h
    · rename_i hc
      have ih := close_none h
      rw [live_cons]
      split
      · rename_i hs
        intro hm
        rcases List.mem_cons.mp hm with rfl | hm
        · simp only [Bool.and_eq_true, Bool.not_eq_true'] at hs
          exact hc (by simp [hs.1])
        · exact ih hm
      · exact ih
theorem seenP_cons {p : List Nat} {ps : List (List Nat)} (a : Nat) : seenP ((a :: p) :: ps) = a :: seenP (p :: ps) := by
  match ps with
  | [] => rfl
  | [q] => rfl
  | q :: r :: rs => rfl
theorem parens_free {l : List Nat} (h : 34 ∉ l) : parens l = l := by
  unfold parens
  rw [List.filter_eq_self]
  intro a ha
  simp
  exact fun e => h (e ▸ ha)

/-- what is left of a text, its marked parts taken out, has the brackets that are seen -/
theorem seen_out : ∀ (n : Nat) (cs : List Nat) (e : Bool), cs.length ≤ n → parens (live e (outK e cs)) = seenP (splitL 34 (live e cs))
  | _, [], e, _ => by
    rfl
  | 0, c :: cs, e, h => by simp at h
  | n + 1, c :: cs, e, h => by
    have h' : cs.length ≤ n := by simp at h; omega
    by_cases hq : (!e && c == 34) = true
    · have hq' := hq
      simp only [Bool.and_eq_true, Bool.not_eq_true', beq_iff_eq] at hq'
      obtain ⟨rfl, rfl⟩ := hq'
      have e1 : live false (34 :: cs) = 34 :: live false cs := rfl
      cases hcl : closeAt false cs with
      | some r =>
        rw [outK_close (c := 34) hcl, e1]
        obtain ⟨M, hM, e2⟩ := close_live hcl
        rw [e2, splitL_hit, splitL_app hM, seen_out n r false (by have := closeAt_len hcl; omega)]
        obtain ⟨p, ps, e3⟩ := splitL_ne 34 (live false r)
        rw [e3]
        rfl
      | none =>
        rw [outK_open hcl, e1, splitL_hit, splitL_free (close_none hcl)]
        show parens (34 :: live false cs) = [] ++ live false cs
        rw [List.nil_append]
        show List.filter _ (34 :: live false cs) = _
        rw [List.filter_cons_of_neg (by simp)]
        exact parens_free (close_none hcl)
    · have hq := Bool.eq_false_iff.mpr hq
      rw [outK_plain hq]
      have ih := seen_out n cs (c == 92 && !e) h'
      rw [live_cons, live_cons]
      by_cases hs : (!e && sgn c) = true
      · rw [if_pos hs, if_pos hs]
        have hc : c ≠ 34 := by
          intro e1
          subst e1
          simp only [Bool.and_eq_true, Bool.not_eq_true'] at hs
          simp [hs.1] at hq
        obtain ⟨p, ps, e3⟩ := splitL_ne 34 (live (c == 92 && !e) cs)
        rw [splitL_miss hc e3, seenP_cons, ← e3, ← ih]
        unfold parens
        rw [List.filter_cons_of_pos (by simpa using hc)]
      · rw [if_neg hs, if_neg hs]
        exact ih

/-- brackets that close -/
noncomputable def val : List Nat → Int → Option Int
  | [], d => some d
  | c :: cs, d => if c = 40 then val cs (d + 1) else if d - 1 < 0 then none else val cs (d - 1)
noncomputable def okV (l : List Nat) : Bool := decide (val l 0 = some 0)
theorem val_cons (c : Nat) (cs : List Nat) (d : Int) : val (c :: cs) d = if c = 40 then val cs (d + 1) else if d - 1 < 0 then none else val cs (d - 1) := rfl
theorem val_pair : ∀ (u v : List Nat) (d : Int), 0 ≤ d → val (u ++ 40 :: 41 :: v) d = val (u ++ v) d
  | [], v, d, hd => by
    show val (40 :: 41 :: v) d = val v d
    rw [val_cons, if_pos rfl, val_cons, if_neg (by decide), if_neg (by omega)]
    congr 1
    omega
  | c :: u, v, d, hd => by
    show val (c :: (u ++ 40 :: 41 :: v)) d = val (c :: (u ++ v)) d
    rw [val_cons, val_cons]
    split
    · exact val_pair u v (d + 1) (by omega)
    · split
      · rfl
      · exact val_pair u v (d - 1) (by omega)
end Uq
end

section
open PySem PySem.Calls PyProof.Rows
namespace Uq
open Builtin Builtin.Str

noncomputable def T (l : List Nat) : Str := ⟨l.toArray⟩
theorem T_list (l : List Nat) : (T l).cps.toList = l := by simp [T]
theorem T_of (x : Str) : T x.cps.toList = x := by
  apply Str.ext'
  simp [T]

/-- texts joined -/
noncomputable def joinL (z : List Nat) : List (List Nat) → List Nat
  | [] => []
  | [x] => x
  | x :: y :: r => x ++ z ++ joinL z (y :: r)
theorem join_list (z : Str) : ∀ ps : List Str, (Str.join z ps).cps.toList = joinL z.cps.toList (ps.map fun p => p.cps.toList)
  | [] => rfl
  | [x] => rfl
  | x :: y :: r => by
    show (x ++ z ++ Str.join z (y :: r)).cps.toList = x.cps.toList ++ z.cps.toList ++ joinL z.cps.toList ((y :: r).map fun p => p.cps.toList)
    rw [PyProof.Rows.cps_toList_append, PyProof.Rows.cps_toList_append, join_list z (y :: r)]
theorem joinL_nil : ∀ ps : List (List Nat), joinL [] ps = ps.flatten
  | [] => rfl
  | [x] => by simp [joinL]
  | x :: y :: r => by
    show x ++ [] ++ joinL [] (y :: r) = _
    rw [joinL_nil (y :: r)]; simp
theorem txt_join (z : Str) (ps : List Str) : Txt.join z ps = Str.join z ps := StrLaws.glued_eq_join z ps

theorem splitL_uniq {c : Nat} : ∀ (ps : List (List Nat)), ps ≠ [] → (∀ p ∈ ps, c ∉ p) → splitL c (joinL [c] ps) = ps
  | [], h, _ => absurd rfl h
  | [x], _, hf => splitL_free (hf x (by simp))
  | x :: y :: r, _, hf => by
    show splitL c (x ++ [c] ++ joinL [c] (y :: r)) = _
    rw [List.append_assoc]
    show splitL c (x ++ c :: joinL [c] (y :: r)) = _
    rw [splitL_app (hf x (by simp)), splitL_uniq (y :: r) (by simp) fun p hp => hf p (by simp only [List.mem_cons] at hp ⊢; exact .inr hp)]

theorem split_ne (x y : Str) : Txt.split x y ≠ [] := by
  unfold Txt.split
  split
  · simp
  · split
    · simp
    · rw [StrLaws.partsBetween_eq]
      obtain ⟨p, r, e⟩ := StrLaws.partsFrom_ne x y.length 0 (occurrences x y 0 x.length (x.length + 1))
      rw [e]; simp
theorem split_list (x : Str) (c : Nat) : (Txt.split x ⟨#[c]⟩).map (fun p => p.cps.toList) = splitL c x.cps.toList := by
  have h1 := StrLaws.join_split x ⟨#[c]⟩
  have h2 := join_list ⟨#[c]⟩ (Txt.split x ⟨#[c]⟩)
  rw [h1] at h2
  rw [h2]
  symm
  refine splitL_uniq _ ?_ fun p hp => ?_
  · simpa using split_ne x ⟨#[c]⟩
  · obtain ⟨q, hq, rfl⟩ := List.mem_map.mp hp
    exact StrLaws.split_free x c q hq
theorem joinL_split (c : Nat) (z : List Nat) : ∀ l : List Nat, joinL z (splitL c l) = l.flatMap fun a => if a = c then z else [a]
  | [] => rfl
  | a :: r => by
    have ih := joinL_split c z r
    obtain ⟨p, ps, e⟩ := splitL_ne c r
    by_cases h : a = c
    · subst h
      rw [splitL_hit, e]
      rw [e] at ih
      show [] ++ z ++ joinL z (p :: ps) = _
      rw [ih]; simp
    · rw [splitL_miss h e]
      rw [e] at ih
      have : joinL z ((a :: p) :: ps) = a :: joinL z (p :: ps) := by
        cases ps <;> rfl
      rw [this, ih]
      simp [h]
noncomputable def sub1 (c : Nat) (z : List Nat) (l : List Nat) : List Nat := l.flatMap fun a => if a = c then z else [a]
theorem replace_list (x z : Str) (c : Nat) : (Txt.replace x ⟨#[c]⟩ z).cps.toList = sub1 c z.cps.toList x.cps.toList := by
  rw [StrLaws.replace_one, join_list, split_list, joinL_split]
  rfl
theorem sub1_free {c : Nat} {z l : List Nat} (h : c ∉ l) : sub1 c z l = l := by
  unfold sub1
  induction l with
  | nil => rfl
  | cons a r ih =>
    rw [List.flatMap_cons, ih fun hm => h (List.mem_cons_of_mem _ hm), if_neg fun e => h (by rw [e]; exact List.mem_cons_self)]
    rfl

/-- pairs struck out -/
theorem val_join : ∀ (ps : List (List Nat)) (u : List Nat) (d : Int), 0 ≤ d → val (u ++ joinL [40, 41] ps) d = val (u ++ joinL [] ps) d
  | [], u, d, hd => rfl
  | [x], u, d, hd => rfl
  | x :: y :: r, u, d, hd => by
    show val (u ++ (x ++ [40, 41] ++ joinL [40, 41] (y :: r))) d = val (u ++ (x ++ [] ++ joinL [] (y :: r))) d
    have e1 : u ++ (x ++ [40, 41] ++ joinL [40, 41] (y :: r)) = (u ++ x) ++ 40 :: 41 :: joinL [40, 41] (y :: r) := by simp
    have e2 : u ++ (x ++ [] ++ joinL [] (y :: r)) = (u ++ x) ++ joinL [] (y :: r) := by simp
    rw [e1, e2, val_pair _ _ _ hd, val_join (y :: r) (u ++ x) d hd]
theorem join_len (z : List Nat) : ∀ ps : List (List Nat), (joinL z ps).length = (joinL [] ps).length + z.length * (ps.length - 1)
  | [] => by simp [joinL]
  | [x] => by simp [joinL]
  | x :: y :: r => by
    show (x ++ z ++ joinL z (y :: r)).length = (x ++ [] ++ joinL [] (y :: r)).length + z.length * (r.length + 2 - 1)
    simp only [List.length_append, join_len z (y :: r), List.length_cons, List.length_nil]
    have : r.length + 2 - 1 = (r.length + 1 - 1) + 1 := by omega
    rw [this, Nat.mul_add]
    omega
theorem replace_pair (x : Str) : ∃ ps : List (List Nat), x.cps.toList = joinL [40, 41] ps ∧ (Txt.replace x "()" "").cps.toList = joinL [] ps ∧ ((!(occurrences x "()" 0 x.length 1).isEmpty) = true → 2 ≤ ps.length) := by
  obtain ⟨f, hc⟩ := StrLaws.occ_chain x "()" (x.length + 1)
  have hj := StrLaws.join_partsFrom x "()" _ 0 f hc
  rw [StrLaws.sub_whole] at hj
  have h2 := join_list "()" (StrLaws.partsFrom x ("()" : Str).length 0 (occurrences x "()" 0 x.length (x.length + 1)))
  rw [hj] at h2
  have hlen : ∀ (cuts : List Nat) (a : Nat), (StrLaws.partsFrom x ("()" : Str).length a cuts).length = cuts.length + 1 := by
    intro cuts
    induction cuts with
    | nil => intro a; rfl
    | cons c r ih => intro a; show (StrLaws.partsFrom x _ _ r).length + 1 = _; rw [ih]; rfl
  by_cases he : (occurrences x "()" 0 x.length (x.length + 1)).isEmpty = true
  · refine ⟨[x.cps.toList], rfl, ?_, fun h => ?_⟩
    · unfold Txt.replace
      rw [he, Bool.true_or, if_pos rfl]; rfl
    · exfalso
      obtain ⟨i, hi⟩ := (StrLaws.found_iff x "()").mp h
      rcases StrLaws.occ_head_from x "()" 0 (x.length + 1) (by omega) with ⟨_, hn⟩ | ⟨i', r, e, _⟩
      · exact hn i (Nat.zero_le _) hi
      · rw [e] at he; cases he
  · refine ⟨_, h2, ?_, fun _ => ?_⟩
    · unfold Txt.replace
      have he' : (occurrences x "()" 0 x.length (x.length + 1)).isEmpty = false := by simpa using he
      have h0 : (("()" : Str).length == 0) = false := rfl
      rw [he', h0, Bool.false_and, Bool.or_false, if_neg (by simp), StrLaws.glued_eq_join, join_list, StrLaws.partsBetween_eq]
      rfl
    · rw [List.length_map, hlen]
      cases z : occurrences x "()" 0 x.length (x.length + 1) with
      | nil => rw [z] at he; exact absurd rfl he
      | cons a r => simp
end Uq
end

section
open PySem PySem.Calls PyProof.Rows
namespace Uq
open Builtin Builtin.Str

theorem val_tail : ∀ (l : List Nat) (d : Int), 0 < d → (∀ c ∈ l, c = 40 ∨ c = 41) → (∀ i, ¬ ((40 :: l)[i]? = some 40 ∧ (40 :: l)[i + 1]? = some 41)) → val l d ≠ some 0
  | [], d, hd, _, _ => by
    show some d ≠ some 0
    intro e
    have := Option.some.inj e
    omega
  | c :: l, d, hd, hx, hn => by
    have hc : c = 40 := by
      rcases hx c List.mem_cons_self with h | h
      · exact h
      · subst h
        exact absurd ⟨rfl, rfl⟩ (hn 0)
    subst hc
    rw [val_cons, if_pos rfl]
    refine val_tail l (d + 1) (by omega) (fun c hm => hx c (List.mem_cons_of_mem _ hm)) fun i hi => hn (i + 1) ?_
    simpa using hi
theorem no_pair {x : Str} (hx : ∀ c ∈ x.cps.toList, c = 40 ∨ c = 41) (h : (!(occurrences x "()" 0 x.length 1).isEmpty) = false) : okV x.cps.toList = (x == "") := by
  have hn : ∀ i, ¬ (x.cps.toList[i]? = some 40 ∧ x.cps.toList[i + 1]? = some 41) := fun i hi => by
    have := (StrLaws.found_iff x "()").mpr ⟨i, ?_, ?_⟩
    · rw [h] at this; cases this
    · have := (List.getElem?_eq_some_iff.mp hi.2).1
      show i + 2 ≤ x.length
      rw [PySem.W.KWk.len_list]; omega
    · rw [StrLaws.subAt_eq]
      show ((x.cps.toList.drop i).take 2 == [40, 41]) = true
      have e1 := hi.1
      have e2 := hi.2
      have l1 := (List.getElem?_eq_some_iff.mp e1).1
      have l2 := (List.getElem?_eq_some_iff.mp e2).1
      rw [List.drop_eq_getElem_cons l1, List.drop_eq_getElem_cons l2]
      rw [List.getElem?_eq_getElem l1] at e1
      rw [List.getElem?_eq_getElem l2] at e2
      simp [Option.some.inj e1, Option.some.inj e2]
  have e0 : (x == "") = x.cps.toList.isEmpty := by
    rw [Bool.eq_iff_iff, beq_iff_eq, List.isEmpty_iff]
    constructor
    · intro e; rw [e]; rfl
    · intro e; exact PyProof.Rows.str_of_list (by rw [e]; rfl)
  rw [e0]
  generalize hl : x.cps.toList = l at *
  cases l with
  | nil => rfl
  | cons c l =>
    show decide (val (c :: l) 0 = some 0) = false
    rw [decide_eq_false_iff_not]
    rcases hx c List.mem_cons_self with rfl | rfl
    · rw [val_cons, if_pos rfl]
      exact val_tail l _ (by omega) (fun c hm => hx c (List.mem_cons_of_mem _ hm)) hn
    · rw [val_cons, if_neg (by decide), if_pos (by omega)]
      simp

theorem one_in (c : Nat) (x : Str) : (!(occurrences x ⟨#[c]⟩ 0 x.length 1).isEmpty) = decide (c ∈ x.cps.toList) := StrLaws.found_one x c

theorem live_mem : ∀ (l : List Nat) (e : Bool), ∀ c ∈ live e l, c = 40 ∨ c = 41 ∨ c = 34
  | [], e, c, h => by simp [live] at h
  | a :: l, e, c, h => by
    rw [live_cons] at h
    split at h
    · rename_i hs
      rcases List.mem_cons.mp h with rfl | h
      · simp only [Bool.and_eq_true, Bool.not_eq_true', sgn, Bool.or_eq_true, beq_iff_eq] at hs
        rcases hs.2 with (h | h) | h <;> simp [h]
      · exact live_mem l _ c h
    · exact live_mem l _ c h
theorem live_len : ∀ (l : List Nat) (e : Bool), (live e l).length ≤ l.length
  | [], e => by simp [live]
  | a :: l, e => by
    rw [live_cons]
    split
    · have := live_len l (a == 92 && !e); simp; omega
    · have := live_len l (a == 92 && !e); simp; omega
theorem seen_mem : ∀ (ps : List (List Nat)), ∀ c ∈ seenP ps, ∃ p ∈ ps, c ∈ p
  | [], c, h => by simp [seenP] at h
  | [p], c, h => ⟨p, by simp, h⟩
  | [p, q], c, h => by
    rcases List.mem_append.mp (show c ∈ p ++ q from h) with h | h
    · exact ⟨p, by simp, h⟩
    · exact ⟨q, by simp, h⟩
  | p :: q :: r :: rs, c, h => by
    rcases List.mem_append.mp (show c ∈ p ++ seenP (r :: rs) from h) with h | h
    · exact ⟨p, by simp, h⟩
    · obtain ⟨y, hy, hc⟩ := seen_mem (r :: rs) c h
      exact ⟨y, by simp only [List.mem_cons] at hy ⊢; exact .inr (.inr hy), hc⟩
theorem split_mem {c : Nat} : ∀ (l : List Nat), ∀ p ∈ splitL c l, ∀ a ∈ p, a ∈ l ∧ a ≠ c
  | [], p, hp, a, ha => by
    have : p = [] := by simpa [splitL] using hp
    subst this; cases ha
  | b :: l, p, hp, a, ha => by
    by_cases h : b = c
    · subst h
      rw [splitL_hit] at hp
      rcases List.mem_cons.mp hp with rfl | hp
      · cases ha
      · have := split_mem l p hp a ha
        exact ⟨List.mem_cons_of_mem _ this.1, this.2⟩
    · obtain ⟨q, qs, e⟩ := splitL_ne c l
      rw [splitL_miss h e] at hp
      rcases List.mem_cons.mp hp with rfl | hp
      · rcases List.mem_cons.mp ha with rfl | ha
        · exact ⟨List.mem_cons_self, h⟩
        · have := split_mem l q (by rw [e]; exact List.mem_cons_self) a ha
          exact ⟨List.mem_cons_of_mem _ this.1, this.2⟩
      · have := split_mem l p (by rw [e]; exact List.mem_cons_of_mem _ hp) a ha
        exact ⟨List.mem_cons_of_mem _ this.1, this.2⟩
noncomputable def seenOf (cs : List Nat) : List Nat := seenP (splitL 34 (live false cs))
theorem seenOf_mem (cs : List Nat) : ∀ c ∈ seenOf cs, c = 40 ∨ c = 41 := fun c h => by
  obtain ⟨p, hp, hc⟩ := seen_mem _ c h
  obtain ⟨h1, h2⟩ := split_mem _ p hp c hc
  rcases live_mem _ _ c h1 with h | h | h
  · exact .inl h
  · exact .inr h
  · exact absurd h h2
noncomputable def closedB (x : Str) : Bool := okV (seenOf x.cps.toList)
end Uq
end

section
open PySem PySem.Calls PyProof.Rows
namespace Uq
open Builtin Builtin.Str

theorem slice_list (x : Str) {a b : Nat} (hab : a ≤ b) (hb : b ≤ x.length) : (Txt.slice x (some (a : Int)) (some (b : Int))).cps.toList = (x.cps.toList.drop a).take (b - a) := by
  have h := StrLaws.sliced_plain x hab hb
  unfold Txt.slice
  split
  · rename_i hc
    rw [StrLaws.strSliceIndices_plain hab hb] at hc
    simp at hc
    have hl := PySem.W.KWk.len_list (r := x)
    have : a = 0 := by omega
    subst this
    have : b = x.cps.toList.length := by omega
    rw [this, Nat.sub_zero, List.drop_zero, List.take_length]
  · rw [← h]
theorem slice_tail (x : Str) {a : Nat} (ha : a ≤ x.length) : (Txt.slice x (some (a : Int)) none).cps.toList = x.cps.toList.drop a := by
  have e : strSliceIndices (some (a : Int)) none 1 x.length = strSliceIndices (some (a : Int)) (some (x.length : Int)) 1 x.length := by
    unfold strSliceIndices
    have h2 : ¬ ((x.length : Int) < 0) := by omega
    have e2 : max (0 : Int) (min (x.length : Int) (x.length : Int)) = x.length := by omega
    simp only [h2, if_false, e2, show ((1 : Int) > 0) = True from by simp, if_true]
  have h := slice_list x ha (Nat.le_refl _)
  unfold Txt.slice at h ⊢
  rw [e, h]
  rw [List.take_of_length_le]
  have := PySem.W.KWk.len_list (r := x)
  rw [List.length_drop]
  omega

/-- the loop of _strip_quoted_realnames -/
noncomputable def stripL (x : Str) : List Nat → Nat → Bool → Nat → Option Nat → List Str → Nat × Option Nat × List Str
  | [], _, _, s, o, r => (s, o, r)
  | _ :: cs, i, true, s, o, r => stripL x cs (i + 1) false s o r
  | c :: cs, i, false, s, o, r => if c = 92 then stripL x cs (i + 1) true s o r else if c = 34 then (match o with
      | none => stripL x cs (i + 1) false s (some i) r
      | some j => stripL x cs (i + 1) false (i + 1) none (if s = j then r else r ++ [Txt.slice x (some (s : Int)) (some (j : Int))])) else stripL x cs (i + 1) false s o r
noncomputable def flat (r : List Str) : List Nat := (r.map fun t => t.cps.toList).flatten
theorem flat_snoc (r : List Str) (t : Str) : flat (r ++ [t]) = flat r ++ t.cps.toList := by simp [flat]

theorem take_snoc {X cs : List Nat} {c s i : Nat} (hs : s ≤ i) (hd : X.drop i = c :: cs) : (X.drop s).take (i + 1 - s) = (X.drop s).take (i - s) ++ [c] := by
  have e : i + 1 - s = (i - s) + 1 := by omega
  rw [e, List.take_add_one, List.getElem?_drop]
  have : X[s + (i - s)]? = some c := by
    have h := congrArg (fun l => l[0]?) hd
    rw [show s + (i - s) = i by omega]
    simpa using h
  rw [this]; rfl
theorem take_all {X cs : List Nat} {s i : Nat} (hs : s ≤ i) (hd : X.drop i = cs) : (X.drop s).take (i - s) ++ cs = X.drop s := by
  rw [← hd]
  have : X.drop i = (X.drop s).drop (i - s) := by rw [List.drop_drop]; congr 1; omega
  rw [this, List.take_append_drop]

noncomputable def rest (e : Bool) (cs : List Nat) (X : List Nat) (s : Nat) (o : Option Nat) (i : Nat) : List Nat := match o with
  | none => (X.drop s).take (i - s) ++ outK e cs
  | some j => match closeAt e cs with
    | some r => (X.drop s).take (j - s) ++ outK false r
    | none => X.drop s

theorem strip_inv (x : Str) : ∀ (cs : List Nat) (i : Nat) (e : Bool) (s : Nat) (o : Option Nat) (r : List Str), x.cps.toList.drop i = cs → i ≤ x.length → s ≤ i → (∀ j, o = some j → s ≤ j ∧ j < i) →
    flat (stripL x cs i e s o r).2.2 ++ x.cps.toList.drop (stripL x cs i e s o r).1 = flat r ++ rest e cs x.cps.toList s o i ∧ (stripL x cs i e s o r).1 ≤ x.length
  | [], i, e, s, o, r, hd, hi, hs, ho => by
    have hX := PySem.W.KWk.len_list (r := x)
    refine ⟨?_, by show s ≤ x.length; omega⟩
    show flat r ++ x.cps.toList.drop s = _
    congr 1
    unfold rest
    cases o with
    | none =>
      dsimp only
      exact (take_all hs hd).symm
    | some j => rfl
  | c :: cs, i, e, s, o, r, hd, hi, hs, ho => by
    have hX := PySem.W.KWk.len_list (r := x)
    have hlt : i < x.length := by
      have h := congrArg List.length hd
      rw [List.length_drop, List.length_cons] at h
      omega
    have hd' : x.cps.toList.drop (i + 1) = cs := by
      have h := congrArg List.tail hd
      simpa using h
    have hts := take_snoc hs hd
    -- a sign that is no active mark
    have plain : ∀ e', (!e && c == 34) = false → e' = (c == 92 && !e) → flat r ++ rest e' cs x.cps.toList s o (i + 1) = flat r ++ rest e (c :: cs) x.cps.toList s o i := by
      intro e' h1 h2
      subst h2
      congr 1
      unfold rest
      cases o with
      | none =>
        dsimp only
        rw [outK_plain h1, hts, List.append_assoc]
        rfl
      | some j =>
        dsimp only
        rw [close_cons, h1]
        rfl
    cases e with
    | true =>
      have ih := strip_inv x cs (i + 1) false s o r hd' hlt (by omega) fun j hj => ⟨(ho j hj).1, by have := (ho j hj).2; omega⟩
      refine ⟨?_, ih.2⟩
      rw [← plain false rfl (by simp)]
      exact ih.1
    | false =>
      by_cases h92 : c = 92
      · have ih := strip_inv x cs (i + 1) true s o r hd' hlt (by omega) fun j hj => ⟨(ho j hj).1, by have := (ho j hj).2; omega⟩
        have e1 : stripL x (c :: cs) i false s o r = stripL x cs (i + 1) true s o r := by
          show (if c = 92 then _ else _) = _
          rw [if_pos h92]
        rw [e1]
        refine ⟨?_, ih.2⟩
        rw [← plain true (by subst h92; rfl) (by subst h92; rfl)]
        exact ih.1
      · by_cases h34 : c = 34
        · subst h34
          cases o with
          | none =>
            have e1 : stripL x (34 :: cs) i false s none r = stripL x cs (i + 1) false s (some i) r := rfl
            have ih := strip_inv x cs (i + 1) false s (some i) r hd' hlt (by omega) fun j hj => by cases hj; omega
            rw [e1]
            refine ⟨?_, ih.2⟩
            rw [ih.1]
            congr 1
            unfold rest
            dsimp only
            cases hc : closeAt false cs with
            | some q => dsimp only; rw [outK_close (c := 34) hc]
            | none => dsimp only; rw [outK_open hc]; exact (take_all hs hd).symm
          | some j =>
            have hj := ho j rfl
            have e1 : stripL x (34 :: cs) i false s (some j) r = stripL x cs (i + 1) false (i + 1) none (if s = j then r else r ++ [Txt.slice x (some (s : Int)) (some (j : Int))]) := rfl
            have ih := strip_inv x cs (i + 1) false (i + 1) none (if s = j then r else r ++ [Txt.slice x (some (s : Int)) (some (j : Int))]) hd' hlt (Nat.le_refl _) fun j hj => by cases hj
            rw [e1]
            refine ⟨?_, ih.2⟩
            rw [ih.1]
            unfold rest
            dsimp only
            rw [close_cons]
            simp only [Bool.not_false, beq_self_eq_true, Bool.and_self, if_true, Nat.sub_self, List.take_zero, List.nil_append]
            rw [← List.append_assoc]
            congr 1
            split
            · rename_i h
              subst h
              simp
            · rw [flat_snoc, slice_list x hj.1 (by omega)]
        · have ih := strip_inv x cs (i + 1) false s o r hd' hlt (by omega) fun j hj => ⟨(ho j hj).1, by have := (ho j hj).2; omega⟩
          have e1 : stripL x (c :: cs) i false s o r = stripL x cs (i + 1) false s o r := by
            show (if c = 92 then _ else if c = 34 then _ else _) = _
            rw [if_neg h92, if_neg h34]
          rw [e1]
          refine ⟨?_, ih.2⟩
          rw [← plain false (by simp [h34]) (by simp [h92])]
          exact ih.1
theorem outK_free : ∀ (cs : List Nat) (e : Bool), 34 ∉ cs → outK e cs = cs
  | [], e, _ => rfl
  | c :: cs, e, h => by
    rw [outK_plain (by
      have : c ≠ 34 := fun e => h (by rw [e]; exact List.mem_cons_self)
      simp [this]), outK_free cs _ fun hm => h (List.mem_cons_of_mem _ hm)]
theorem outK_len : ∀ (n : Nat) (cs : List Nat) (e : Bool), cs.length ≤ n → (outK e cs).length ≤ cs.length
  | _, [], e, _ => Nat.le_refl _
  | 0, c :: cs, e, h => by simp at h
  | n + 1, c :: cs, e, h => by
    have h' : cs.length ≤ n := by simp at h; omega
    by_cases hq : (!e && c == 34) = true
    · have hq' := hq
      simp only [Bool.and_eq_true, Bool.not_eq_true', beq_iff_eq] at hq'
      obtain ⟨rfl, rfl⟩ := hq'
      cases hcl : closeAt false cs with
      | some r =>
        have h1 := closeAt_len hcl
        rw [outK_close (c := 34) hcl]
        have := outK_len n r false (by omega)
        simp; omega
      | none => rw [outK_open hcl]; exact Nat.le_refl _
    · rw [outK_plain (Bool.eq_false_iff.mpr hq)]
      have := outK_len n cs (c == 92 && !e) h'
      simp; exact this
theorem closed_out (cs : List Nat) : okV (parens (live false (outK false cs))) = okV (seenOf cs) := by rw [seen_out cs.length cs false (Nat.le_refl _)]; rfl
end Uq
end

section
open PySem PySem.Calls PyProof.Rows PySem.W
namespace Uq

noncomputable def sAt : List Stmt → Nat → Stmt
  | s :: _, 0 => s
  | _ :: r, i + 1 => sAt r i
  | [], _ => .Pass default
noncomputable abbrev nm0 : PySem.Expr := .Name "" default
noncomputable def xAt : List PySem.Expr → Nat → PySem.Expr
  | e :: _, 0 => e
  | _ :: r, i + 1 => xAt r i
  | [], _ => nm0
/-- the parts of a statement: its expressions, its blocks -/
noncomputable def stP : Stmt → List PySem.Expr × List Stmt × List Stmt
  | .For t it b o _ => ([t, it], b, o)
  | .While t b o _ => ([t, t], b, o)
  | .If t b o _ => ([t, t], b, o)
  | .Assign ts e _ => (e :: ts, [], [])
  | .Return e _ => (e.toList, [], [])
  | .Expr e _ => ([e], [], [])
  | .Try b _ o _ _ => ([], b, o)
  | _ => ([], [], [])
/-- the parts of an expression -/
noncomputable def exP : PySem.Expr → List PySem.Expr × Pos
  | .BoolOp _ es p => (es, p)
  | .IfExp t b _ p => ([t, b], p)
  | .Call f args _ p => (f :: args, p)
  | .Attribute o _ p => ([o], p)
  | .Tuple es _ p => (nm0 :: es, p)
  | .ListComp e gs _ p => ((match gs with
    | [] => [nm0, e]
    | g :: _ => g.iter :: e :: g.target :: g.ifs), p)
  | e => ([e], default)
noncomputable def fT (s : Stmt) : PySem.Expr := xAt (stP s).1 0
noncomputable def fI (s : Stmt) : PySem.Expr := xAt (stP s).1 1
noncomputable def aV (s : Stmt) : PySem.Expr := xAt (stP s).1 0
noncomputable def fB (s : Stmt) : List Stmt := (stP s).2.1
noncomputable def fE (s : Stmt) : List Stmt := (stP s).2.2
noncomputable def eC (e : PySem.Expr) (i : Nat) : PySem.Expr := xAt (exP e).1 i
noncomputable def eP (e : PySem.Expr) : Pos := (exP e).2
noncomputable def cA (e : PySem.Expr) (i : Nat) : PySem.Expr := xAt (exP e).1 (i + 1)
noncomputable def cElt (e : PySem.Expr) : PySem.Expr := xAt (exP e).1 1
noncomputable def cTgt (e : PySem.Expr) : PySem.Expr := xAt (exP e).1 2
noncomputable def cIfs (e : PySem.Expr) : List PySem.Expr := (exP e).1.drop 3

noncomputable def foldF (body : V → Loc → Hp → Option (Fl × Loc × Hp)) : List V → Loc → Hp → Option (Fl × Loc × Hp)
  | [], loc, st => some (.next, loc, st)
  | x :: xs, loc, st => match body x loc st with
    | none => none
    | some (.next, l, s) => foldF body xs l s
    | some (.cont, l, s) => foldF body xs l s
    | some (.brk, l, s) => some (.next, l, s)
    | some (.ret v, l, s) => some (.ret v, l, s)
theorem loop_fold {body : V → Loc → Hp → Option (Fl × Loc × Hp)} {items : List V} : ∀ (xs : List V) (i f : Nat) (loc : Loc) (st : Hp), items.drop i = xs → xs.length < f → loopF body (.items items) f i loc st = foldF body xs loc st
  | [], i, f, loc, st, hd, hf => by
    obtain ⟨f, rfl⟩ : ∃ g, f = g + 1 := ⟨f - 1, by simp at hf; omega⟩
    refine loop_end ?_
    show some items[i]? = some none
    have : items.length ≤ i := by
      have := congrArg List.length hd
      simp at this
      omega
    rw [List.getElem?_eq_none this]
  | x :: xs, i, f, loc, st, hd, hf => by
    obtain ⟨f, rfl⟩ : ∃ g, f = g + 1 := ⟨f - 1, by simp at hf; omega⟩
    have hx : items[i]? = some x := by
      have := congrArg (fun l => l[0]?) hd
      simpa using this
    have hd' : items.drop (i + 1) = xs := by
      have := congrArg List.tail hd
      simpa using this
    have hf' : xs.length < f := by simp at hf; omega
    show (match iterS (.items items) i st with
      | none => none
      | some none => some (Fl.next, loc, st)
      | some (some x) => match body x loc st with
        | none => none
        | some (.next, loc', st') => loopF body (.items items) f (i + 1) loc' st'
        | some (.cont, loc', st') => loopF body (.items items) f (i + 1) loc' st'
        | some (.brk, loc', st') => some (.next, loc', st')
        | some (.ret v, loc', st') => some (.ret v, loc', st')) = _
    have : iterS (.items items) i st = some (some x) := by
      show some items[i]? = _
      rw [hx]
    rw [this]
    show _ = (match body x loc st with
      | none => none
      | some (.next, l, s) => foldF body xs l s
      | some (.cont, l, s) => foldF body xs l s
      | some (.brk, l, s) => some (.next, l, s)
      | some (.ret v, l, s) => some (.ret v, l, s))
    dsimp only
    cases body x loc st with
    | none => rfl
    | some r =>
      obtain ⟨fl, l, s⟩ := r
      cases fl with
      | next => exact loop_fold xs (i + 1) f l s hd' hf'
      | cont => exact loop_fold xs (i + 1) f l s hd' hf'
      | brk => rfl
      | ret v => rfl
theorem loop_all {body : V → Loc → Hp → Option (Fl × Loc × Hp)} {items : List V} {loc : Loc} {st : Hp} (h : items.length < fuelF) : loopF body (.items items) fuelF 0 loc st = foldF body items loc st := loop_fold items 0 fuelF loc st rfl h
theorem fold_next {body : V → Loc → Hp → Option (Fl × Loc × Hp)} {x : V} {xs : List V} {loc l : Loc} {st s : Hp} (h : body x loc st = some (.next, l, s)) : foldF body (x :: xs) loc st = foldF body xs l s := by
  show (match body x loc st with
      | none => none
      | some (.next, l, s) => foldF body xs l s
      | some (.cont, l, s) => foldF body xs l s
      | some (.brk, l, s) => some (.next, l, s)
      | some (.ret v, l, s) => some (.ret v, l, s)) = _
  rw [h]
theorem fold_ret {body : V → Loc → Hp → Option (Fl × Loc × Hp)} {x v : V} {xs : List V} {loc l : Loc} {st s : Hp} (h : body x loc st = some (.ret v, l, s)) : foldF body (x :: xs) loc st = some (.ret v, l, s) := by
  show (match body x loc st with
      | none => none
      | some (.next, l, s) => foldF body xs l s
      | some (.cont, l, s) => foldF body xs l s
      | some (.brk, l, s) => some (.next, l, s)
      | some (.ret v, l, s) => some (.ret v, l, s)) = _
  rw [h]

theorem sizeL (n : Nat) (h : n ≤ 100000) : n ≤ sizeLine := by rw [sizeLine_eq]; omega

noncomputable abbrev one (n : Str) (v : V) : Loc := [(n, v)]
/-- the loop of _law_closed -/
noncomputable def lc (x l : Str) (r : Nat) : Loc := [("text", .str x), ("live", .str l), ("run", .int r)]
noncomputable def S371 (P : Params) (i : Nat) : Stmt := sAt (bodyAt (hd.heap_1 P) 371) i
noncomputable def cx371 (P : Params) : Cx := mkCx (scopeAt (hd.heap_1 P) 371) p0
theorem in_marks (c : Nat) : strIn (⟨#[c]⟩ : Str) "()\"" = sgn c := by
  show (!(Builtin.Str.occurrences ("()\"" : Str) ⟨#[c]⟩ 0 ("()\"" : Str).length 1).isEmpty) = _
  rw [one_in]
  show decide (c ∈ [40, 41, 34]) = _
  unfold sgn
  by_cases h1 : c = 40
  · subst h1; rfl
  · by_cases h2 : c = 41
    · subst h2; rfl
    · by_cases h3 : c = 34
      · subst h3; rfl
      · simp [h1, h2, h3]
theorem is_back (c : Nat) : ((⟨#[c]⟩ : Str) == "\\") = (c == 92) := by
  rw [Bool.eq_iff_iff, beq_iff_eq, beq_iff_eq]
  constructor
  · intro h
    have : (#[c] : Array Nat) = #[92] := congrArg Str.cps h
    simpa using this
  · intro h; subst h; rfl
theorem even_nat (r : Nat) : ((((r : Nat) : Int).fmod 2) == 0) = (r % 2 == 0) := by
  rw [Int.fmod_eq_emod_of_nonneg _ (by decide), Bool.eq_iff_iff, beq_iff_eq, beq_iff_eq]
  omega

theorem closed_step (P : Params) (x l : Str) (r : Nat) (tl : Loc) (htl : tl = [] ∨ ∃ s, tl = one "sign" (.str s)) (c : Nat) (st : Hp) (hl : l.length + 1 ≤ sizeLine) :
    forB 11 (cx371 P) (fT (S371 P 2)) (fB (S371 P 2)) (.str ⟨#[c]⟩) (lc x l r ++ tl) st =
      some (.next, lc x (if (r % 2 == 0 && sgn c) = true then l ++ ⟨#[c]⟩ else l) (if (c == 92) = true then r + 1 else 0) ++ one "sign" (.str ⟨#[c]⟩), st) := by
  have key : setL (lc x l r ++ tl) "sign" (.str ⟨#[c]⟩) = lc x l r ++ one "sign" (.str ⟨#[c]⟩) := by
    rcases htl with rfl | ⟨s, rfl⟩ <;> rfl
  have hb : bindT (cx371 P).sc (fT (S371 P 2)) (.str ⟨#[c]⟩) (lc x l r ++ tl) = some (lc x l r ++ one "sign" (.str ⟨#[c]⟩)) := by
    have : bindT (cx371 P).sc (fT (S371 P 2)) (.str ⟨#[c]⟩) (lc x l r ++ tl) = some (setL (lc x l r ++ tl) "sign" (.str ⟨#[c]⟩)) := rfl
    rw [this, key]
  refine forB_of hb ?_
  -- live
  have s1 : ∀ rest R, (∀ l', l' = (if (r % 2 == 0 && sgn c) = true then l ++ ⟨#[c]⟩ else l) → exs ((lv 11).ex (cx371 P)) rest (lc x l' r ++ one "sign" (.str ⟨#[c]⟩)) st = R) →
      exs ((lv 11).ex (cx371 P)) (sAt (fB (S371 P 2)) 0 :: rest) (lc x l r ++ one "sign" (.str ⟨#[c]⟩)) st = R := by
    intro rest R h
    cases h1 : sgn c with
    | false =>
      refine exs_next (ex_if (c := false) (tv_and (tvs_stop (tv_cmp (a := .str ⟨#[c]⟩) (b := .str "()\"") rfl rfl rfl ?_))) rfl) (h l (by rw [h1]; simp))
      show some (strIn _ _) = some (!true)
      rw [in_marks, h1]; rfl
    | true =>
      cases h2 : (r % 2 == 0) with
      | false =>
        refine exs_next (ex_if (c := false) (tv_and (tvs_go (tv_cmp (a := .str ⟨#[c]⟩) (b := .str "()\"") rfl rfl rfl ?_) (tvs_stop (tv_cmp (a := .int (((r : Nat) : Int).fmod 2)) (b := .int 0) rfl rfl rfl ?_)))) rfl) (h l (by rw [h2]; simp))
        · show some (strIn _ _) = some true
          rw [in_marks, h1]
        · show some (_ == _) = some (!true)
          rw [even_nat, h2]; rfl
      | true =>
        refine exs_next (ex_if (c := true) (tv_and (tvs_go (tv_cmp (a := .str ⟨#[c]⟩) (b := .str "()\"") rfl rfl rfl ?_) (tvs_go (tv_cmp (a := .int (((r : Nat) : Int).fmod 2)) (b := .int 0) rfl rfl rfl ?_) rfl))) (exs_next (ex_assign rfl (ev_bin (a := .str l) (b := .str ⟨#[c]⟩) rfl rfl (if_pos hl))) rfl)) (h _ (by rw [h2, h1]; rfl))
        · show some (strIn _ _) = some true
          rw [in_marks, h1]
        · show some (_ == _) = some true
          rw [even_nat, h2]
  refine s1 _ _ fun l' hl' => ?_
  rw [hl']
  cases h3 : (c == 92) with
  | true =>
    refine exs_next (ex_assign (v := .int ((r + 1 : Nat) : Int)) rfl (ev_ifexp (c := true) (tv_cmp (a := .str ⟨#[c]⟩) (b := .str "\\") rfl rfl rfl ?_) rfl)) rfl
    show some (_ == _) = some true
    rw [is_back, h3]
  | false =>
    refine exs_next (ex_assign (v := .int 0) rfl (ev_ifexp (c := false) (tv_cmp (a := .str ⟨#[c]⟩) (b := .str "\\") rfl rfl rfl ?_) rfl)) rfl
    show some (_ == _) = some false
    rw [is_back, h3]
end Uq
end

section
open PySem PySem.Calls PyProof.Rows PySem.W
namespace Uq
open Builtin Builtin.Str

noncomputable def chr (c : Nat) : V := .str ⟨#[c]⟩

theorem app_T (l : Str) (c : Nat) (r : List Nat) : T ((l ++ ⟨#[c]⟩ : Str).cps.toList ++ r) = T (l.cps.toList ++ c :: r) := by
  rw [PyProof.Rows.cps_toList_append]; simp

theorem closed_fold (P : Params) (x : Str) (st : Hp) : ∀ (cs : List Nat) (l : Str) (r : Nat) (tl : Loc), (tl = [] ∨ ∃ s, tl = one "sign" (.str s)) → l.length + cs.length ≤ 100000 →
    ∃ r' tl', foldF (forB 11 (cx371 P) (fT (S371 P 2)) (fB (S371 P 2))) (cs.map chr) (lc x l r ++ tl) st = some (.next, lc x (T (l.cps.toList ++ live (!(r % 2 == 0)) cs)) r' ++ tl', st) ∧ (tl' = [] ∨ ∃ s, tl' = one "sign" (.str s))
  | [], l, r, tl, htl, h => ⟨r, tl, by
      show some (Fl.next, lc x l r ++ tl, st) = _
      simp [live, T_of], htl⟩
  | c :: cs, l, r, tl, htl, h => by
    have hlen : l.length + 1 + cs.length ≤ 100000 := by simp at h; omega
    have step := closed_step P x l r tl htl c st (sizeL _ (by omega))
    have hl2 : (if (r % 2 == 0 && sgn c) = true then l ++ ⟨#[c]⟩ else l : Str).length + cs.length ≤ 100000 := by
      split
      · rw [PySem.W.KWk.len_list, PyProof.Rows.cps_toList_append, List.length_append]
        have := PySem.W.KWk.len_list (r := l)
        show l.cps.toList.length + 1 + cs.length ≤ _
        omega
      · omega
    obtain ⟨r', tl', e, ht⟩ := closed_fold P x st cs _ (if (c == 92) = true then r + 1 else 0) (one "sign" (.str ⟨#[c]⟩)) (.inr ⟨_, rfl⟩) hl2
    refine ⟨r', tl', ?_, ht⟩
    refine (fold_next (x := chr c) (xs := cs.map chr) step).trans (e.trans ?_)
    congr 4
    have e2 : (!((if (c == 92) = true then r + 1 else 0) % 2 == 0)) = (c == 92 && !(!(r % 2 == 0))) := by
      cases hc : (c == 92) with
      | true =>
        simp only [if_true, Bool.true_and, Bool.not_not]
        rw [Bool.eq_iff_iff]
        simp
        omega
      | false => simp
    rw [e2]
    rw [live_cons]
    simp only [Bool.not_not]
    cases hh : (r % 2 == 0 && sgn c) with
    | true => simp only [if_true]; rw [app_T]
    | false => simp

theorem occ_len (x : Str) (c : Nat) : (partsBetween x (occurrences x ⟨#[c]⟩ 0 x.length (x.length + 1)) (⟨#[c]⟩ : Str).length).length ≤ x.length + 1 := by
  obtain ⟨f, hc⟩ := StrLaws.occ_chain x ⟨#[c]⟩ (x.length + 1)
  have hj := StrLaws.join_partsFrom x ⟨#[c]⟩ _ 0 f hc
  rw [StrLaws.sub_whole] at hj
  rw [StrLaws.partsBetween_eq]
  have h2 : (Str.join ⟨#[c]⟩ (StrLaws.partsFrom x (⟨#[c]⟩ : Str).length 0 (occurrences x ⟨#[c]⟩ 0 x.length (x.length + 1)))).cps.toList.length = x.cps.toList.length := by rw [hj]
  rw [join_list, join_len, List.length_map] at h2
  have : (⟨#[c]⟩ : Str).cps.toList.length = 1 := rfl
  rw [this] at h2
  have h3 := PySem.W.KWk.len_list (r := x)
  omega
theorem meth_split (x : Str) (c : Nat) (st : Hp) (h : x.length ≤ 100000) : smethU x "split" [.str ⟨#[c]⟩] st = some (.lst st.length, st ++ [(Txt.split x ⟨#[c]⟩).map .str]) := by
  show (if ((⟨#[c]⟩ : Str).length == 0) = false ∧ x.length ≤ sizeLine ∧ (partsBetween x (occurrences x ⟨#[c]⟩ 0 x.length (x.length + 1)) (⟨#[c]⟩ : Str).length).length ≤ sizeLine then _ else _) = _
  refine if_pos ⟨rfl, sizeL _ h, ?_⟩
  have := occ_len x c
  rw [sizeLine_eq]; omega
theorem strsOf_map : ∀ ts : List Str, strsOf (ts.map .str) = some ts
  | [] => rfl
  | t :: ts => by
    show (strsOf (ts.map .str)).map (t :: ·) = _
    rw [strsOf_map ts]; rfl
theorem foldl_len (z : Str) : ∀ (ts : List Str) (a : Nat), ts.foldl (fun (n : Nat) (t : Str) => n + t.length + z.length) a = a + (ts.map fun t => t.length + z.length).sum
  | [], a => by simp
  | t :: ts, a => by
    rw [List.foldl_cons, foldl_len z ts]
    simp only [List.map_cons, List.sum_cons]; omega
theorem joinOk_of (z : Str) (ts : List Str) (h : (ts.map fun t => t.length + z.length).sum ≤ 100000) : JoinOk z ts = true := by
  unfold JoinOk tooLong
  rw [List.foldl_toArray, foldl_len]
  simp only [Nat.zero_add, Bool.not_eq_true', decide_eq_false_iff_not]
  rw [sizeLine_eq]; omega
theorem meth_join (z : Str) (ts : List Str) (st : Hp) (k : Nat) (hk : st[k]? = some (ts.map .str)) (h : (ts.map fun t => t.length + z.length).sum ≤ 100000) : smethU z "join" [.lst k] st = some (.str (Str.join z ts), st) := by
  show (oc st[k]? fun xs => oc (strsOf xs) fun texts => if JoinOk z texts = true then some (V.str (Txt.join z texts), st) else none) = _
  rw [← txt_join]
  exact oc_eq hk (oc_eq (strsOf_map ts) (if_pos (joinOk_of z ts h)))

theorem ixI_nat {i : Nat} (hi : i < 100000) : ixI (i : Nat) = some i := by
  unfold ixI
  rw [if_pos ⟨by omega, by omega⟩, Int.toNat_natCast]
theorem ix_nat {i : Nat} (hi : i < 100000) : ixOf (.int (i : Nat)) = some i := oc_eq (x := intOf (.int (i : Nat))) (v := ((i : Nat) : Int)) rfl (ixI_nat hi)
theorem subV_lst {st : Hp} {k i : Nat} {xs : List V} {v : V} (h : st[k]? = some xs) (hx : xs[i]? = some v) (hi : i < 100000) : subV (.lst k) (.int (i : Nat)) st = some v := by
  unfold subV
  dsimp only
  exact oc_eq (ix_nat hi) (oc_eq h hx)
/-- the parts that are seen -/
noncomputable def pick (n : Nat) : Nat → List (List Nat) → List (List Nat)
  | _, [] => []
  | i, p :: ps => if (i % 2 == 0 || i == n - 1) = true then p :: pick n (i + 1) ps else pick n (i + 1) ps
theorem pick_seen : ∀ (ps : List (List Nat)) (n i : Nat), i % 2 = 0 → i + ps.length = n → (pick n i ps).flatten = seenP ps
  | [], n, i, _, _ => rfl
  | [p], n, i, h, hn => by
    have : (i % 2 == 0 || i == n - 1) = true := by simp [h]
    simp [pick, this, seenP]
  | [p, q], n, i, h, hn => by
    have h1 : (i % 2 == 0 || i == n - 1) = true := by simp [h]
    have h2 : ((i + 1) % 2 == 0 || i + 1 == n - 1) = true := by
      have : i + 1 = n - 1 := by simp at hn; omega
      simp [this]
    unfold pick
    rw [if_pos h1]
    unfold pick
    rw [if_pos h2]
    simp [pick, seenP]
  | p :: q :: r :: rs, n, i, h, hn => by
    have h1 : (i % 2 == 0 || i == n - 1) = true := by simp [h]
    have h2 : ¬ ((i + 1) % 2 == 0 || i + 1 == n - 1) = true := by
      simp at hn ⊢
      omega
    show (if _ then p :: pick n (i + 1) (q :: r :: rs) else _).flatten = _
    rw [if_pos h1]
    show (p :: (if _ then q :: pick n (i + 1 + 1) (r :: rs) else pick n (i + 1 + 1) (r :: rs))).flatten = _
    rw [if_neg h2, List.flatten_cons, pick_seen (r :: rs) n (i + 2) (by omega) (by simp at hn ⊢; omega)]
    rfl

/-- the comprehension's loop, its list at `j` -/
noncomputable def cSc : PySem.Expr → Scope
  | .ListComp _ _ sc _ => sc
  | _ => default
noncomputable def C371 (P : Params) : PySem.Expr := cA (aV (S371 P 4)) 0
noncomputable def scC (P : Params) : Scope := compScope (cSc (C371 P)) (cx371 P).sc
noncomputable def testC (P : Params) : Loc → Hp → Option (Bool × Hp) := fun l t => tvs ((lv 9).tv { (cx371 P) with sc := scC P }) l true (cIfs (C371 P)) t
noncomputable def eltC (P : Params) : Loc → Hp → Option (V × Hp) := fun l t => (lv 9).ev { (cx371 P) with sc := scC P } l t (cElt (C371 P))
noncomputable def bodyC (P : Params) (j : Nat) : V → Loc → Hp → Option (Fl × Loc × Hp) := compB (bindT (scC P) (cTgt (C371 P))) (testC P) (eltC P) j

theorem set_last (st : Hp) (a b : List V) : (st ++ [a]).set st.length b = st ++ [b] := by simp
theorem get_last (st : Hp) (a : List V) : (st ++ [a])[st.length]? = some a := by simp
theorem get_old {st : Hp} {k : Nat} {xs : List V} (h : st[k]? = some xs) (g : Hp) : (st ++ g)[k]? = some xs := by
  rw [List.getElem?_append_left (List.getElem?_eq_some_iff.mp h).1]; exact h

theorem comp_step (P : Params) (st : Hp) (j : Nat) (ps : List (List Nat)) (hj : st[j]? = some (ps.map fun p => .str (T p))) (i : Nat) (p : List Nat) (hp : ps[i]? = some p) (acc : List V) (tl : Loc) (htl : tl = [] ∨ ∃ v, tl = one "k" v) (hn : ps.length ≤ 100000) (ha : acc.length ≤ 100000) :
    bodyC P st.length (.int (i : Nat)) (one "parts" (.lst j) ++ tl) (st ++ [acc]) = some (.next, one "parts" (.lst j) ++ one "k" (.int (i : Nat)), st ++ [if (i % 2 == 0 || i == ps.length - 1) = true then acc ++ [.str (T p)] else acc]) := by
  have hb : bindT (scC P) (cTgt (C371 P)) (.int (i : Nat)) (one "parts" (.lst j) ++ tl) = some (one "parts" (.lst j) ++ one "k" (.int (i : Nat))) := by
    rcases htl with rfl | ⟨v, rfl⟩ <;> rfl
  have hj' : (st ++ [acc])[j]? = some (ps.map fun p => .str (T p)) := get_old hj _
  have hlt : i < ps.length := (List.getElem?_eq_some_iff.mp hp).1
  have hlen : fnLen [.lst j] (st ++ [acc]) = some (.int (ps.length : Nat), st ++ [acc]) := by
    exact (fnLen_lst hj' (by rw [List.length_map]; exact sizeL _ hn)).trans (by rw [List.length_map])
  have helt : eltC P (one "parts" (.lst j) ++ one "k" (.int (i : Nat))) (st ++ [acc]) = some (.str (T p), st ++ [acc]) := by
    refine ev_sub (k := 8) (a := .lst j) (b := .int (i : Nat)) (fun l u q e => by cases e) rfl rfl (subV_lst hj' ?_ (by omega))
    rw [List.getElem?_map, hp]; rfl
  have hput : ∀ R, (i % 2 == 0 || i == ps.length - 1) = true → testC P (one "parts" (.lst j) ++ one "k" (.int (i : Nat))) (st ++ [acc]) = some (true, st ++ [acc]) → R = some (Fl.next, (one "parts" (.lst j) ++ one "k" (.int (i : Nat)) : Loc), st ++ [if (i % 2 == 0 || i == ps.length - 1) = true then acc ++ [.str (T p)] else acc]) →
      bodyC P st.length (.int (i : Nat)) (one "parts" (.lst j) ++ tl) (st ++ [acc]) = R := by
    intro R hc ht hR
    rw [hR, if_pos hc]
    unfold bodyC
    rw [compB_put (st1 := st ++ [acc]) (st2 := st ++ [acc]) hb ht helt (get_last st acc) (sizeL _ ha), set_last]
  cases h1 : (i % 2 == 0) with
  | true =>
    refine hput _ (by rw [h1]; rfl) (tvs_go (tv_or (tvs_stop (tv_cmp (a := .int (((i : Nat) : Int).fmod 2)) (b := .int 0) rfl rfl rfl ?_))) rfl) (by rw [h1])
    show some (_ == _) = some (!false)
    rw [even_nat, h1]; rfl
  | false =>
    have second : (lv 8).tv { (cx371 P) with sc := scC P } (one "parts" (.lst j) ++ one "k" (.int (i : Nat))) (st ++ [acc]) (eC ((cIfs (C371 P)).headD (.Name "" default)) 1) = some (i == ps.length - 1, st ++ [acc]) := by
      refine tv_cmp (a := .int (i : Nat)) (b := .int ((ps.length : Nat) - 1)) rfl (ev_bin (a := .int (ps.length : Nat)) (b := .int 1) (ev_call (fun o m q e => by cases e) (a := .imm (.builtin "len")) (vs := [.lst j]) rfl rfl hlen) rfl rfl) rfl ?_
      show some (((i : Nat) : Int) == ((ps.length : Nat) : Int) - 1) = some (i == ps.length - 1)
      have : (((i : Nat) : Int) == ((ps.length : Nat) : Int) - 1) = (i == ps.length - 1) := by
        rw [Bool.eq_iff_iff, beq_iff_eq, beq_iff_eq]
        omega
      rw [this]
    have first : (lv 8).tv { (cx371 P) with sc := scC P } (one "parts" (.lst j) ++ one "k" (.int (i : Nat))) (st ++ [acc]) (eC ((cIfs (C371 P)).headD (.Name "" default)) 0) = some (false, st ++ [acc]) := by
      refine tv_cmp (a := .int (((i : Nat) : Int).fmod 2)) (b := .int 0) rfl rfl rfl ?_
      show some (_ == _) = some false
      rw [even_nat, h1]
    cases h2 : (i == ps.length - 1) with
    | true =>
      refine hput _ (by rw [h1, h2]; rfl) (tvs_go (tv_or (tvs_go first (tvs_stop (second.trans (by rw [h2]; rfl))))) rfl) (by rw [h1, h2])
    | false =>
      have ht : testC P (one "parts" (.lst j) ++ one "k" (.int (i : Nat))) (st ++ [acc]) = some (false, st ++ [acc]) := tvs_stop (tv_or (tvs_go first (tvs_go (second.trans (by rw [h2])) rfl)))
      refine (compB_skip (elt := eltC P) (j := st.length) hb ht).trans ?_
      rfl
end Uq
end

section
open PySem PySem.Calls PyProof.Rows PySem.W
namespace Uq
open Builtin Builtin.Str

theorem pick_len (n : Nat) : ∀ (ps : List (List Nat)) (i : Nat), (pick n i ps).length ≤ ps.length
  | [], i => Nat.le_refl _
  | p :: ps, i => by
    have := pick_len n ps (i + 1)
    show (if _ then p :: pick n (i + 1) ps else pick n (i + 1) ps).length ≤ ps.length + 1
    split
    · simp; exact this
    · omega
theorem comp_fold (P : Params) (st : Hp) (j : Nat) (ps : List (List Nat)) (hj : st[j]? = some (ps.map fun p => .str (T p))) (hn : ps.length ≤ 50000) : ∀ (qs : List (List Nat)) (i : Nat) (acc : List V) (tl : Loc), ps.drop i = qs → (tl = [] ∨ ∃ v, tl = one "k" v) → acc.length + qs.length ≤ 50000 →
    ∃ tl', foldF (bodyC P st.length) ((List.range' i qs.length).map fun (i : Nat) => V.int (i : Int)) (one "parts" (.lst j) ++ tl) (st ++ [acc]) = some (.next, one "parts" (.lst j) ++ tl', st ++ [acc ++ (pick ps.length i qs).map fun p => .str (T p)])
  | [], i, acc, tl, hd, htl, ha => ⟨tl, by simp [foldF, pick]⟩
  | q :: qs, i, acc, tl, hd, htl, ha => by
    have hq : ps[i]? = some q := by
      have := congrArg (fun l => l[0]?) hd
      simpa using this
    have hd' : ps.drop (i + 1) = qs := by
      have := congrArg List.tail hd
      simpa using this
    have step := comp_step P st j ps hj i q hq acc tl htl (by omega) (by simp at ha; omega)
    obtain ⟨tl', e⟩ := comp_fold P st j ps hj hn qs (i + 1) (if (i % 2 == 0 || i == ps.length - 1) = true then acc ++ [.str (T q)] else acc) (one "k" (.int (i : Nat))) hd' (.inr ⟨_, rfl⟩) (by split <;> (simp at ha ⊢; omega))
    refine ⟨tl', ?_⟩
    rw [List.length_cons, List.range'_succ, List.map_cons, fold_next step, e]
    show some (Fl.next, _, st ++ [_]) = some (Fl.next, _, st ++ [acc ++ (if _ then q :: pick ps.length (i + 1) qs else pick ps.length (i + 1) qs).map _])
    congr 5
    cases hc : (i % 2 == 0 || i == ps.length - 1) with
    | true => simp
    | false => simp

theorem joinL_mem {z : List Nat} {c : Nat} : ∀ {ps : List (List Nat)}, c ∈ joinL [] ps → c ∈ joinL z ps
  | [], h => h
  | [x], h => h
  | x :: y :: r, h => by
    have h' : c ∈ x ++ [] ++ joinL [] (y :: r) := h
    show c ∈ x ++ z ++ joinL z (y :: r)
    simp only [List.append_nil, List.mem_append] at h' ⊢
    rcases h' with h | h
    · exact .inl (.inl h)
    · exact .inr (joinL_mem h)

noncomputable def wtest (P : Params) : Loc → Hp → Option (Bool × Hp) := fun l u => (lv 11).tv (cx371 P) l u (fT (S371 P 5))
noncomputable def wbody (P : Params) : Loc → Hp → Option (Fl × Loc × Hp) := fun l u => exs ((lv 11).ex (cx371 P)) (fB (S371 P 5)) l u
noncomputable def lw (x l : Str) (r : Nat) (tl : Loc) (j : Nat) (s : Str) : Loc := lc x l r ++ tl ++ one "parts" (.lst j) ++ one "seen" (.str s)
theorem while_val (P : Params) (x l : Str) (r : Nat) (tl : Loc) (htl : tl = [] ∨ ∃ v, tl = one "sign" v) (j : Nat) (st : Hp) : ∀ (n f : Nat) (s : Str), s.length ≤ n → n < f → n ≤ 100000 → (∀ c ∈ s.cps.toList, c = 40 ∨ c = 41) →
    ∃ s' : Str, whileF (wtest P) (wbody P) f (lw x l r tl j s) st = some (.next, lw x l r tl j s', st) ∧ okV s.cps.toList = (s' == "")
  | n, 0, s, _, h, _, _ => absurd h (Nat.not_lt_zero n)
  | n, f + 1, s, hs, hf, hz, hm => by
    have ht : wtest P (lw x l r tl j s) st = some (strIn "()" s, st) := by
      rcases htl with rfl | ⟨v, rfl⟩ <;> exact tv_cmp (a := .str "()") (b := .str s) rfl rfl rfl rfl
    cases h : strIn "()" s with
    | false =>
      refine ⟨s, while_stop (by rw [ht, h]), no_pair hm h⟩
    | true =>
      obtain ⟨ps, e1, e2, e3⟩ := replace_pair s
      have h2 := e3 h
      have hl := join_len [40, 41] ps
      rw [← e1, ← e2] at hl
      have l1 := PySem.W.KWk.len_list (r := s)
      have l2 := PySem.W.KWk.len_list (r := (Txt.replace s "()" ""))
      have hl' : s.cps.toList.length = (Txt.replace s "()" "").cps.toList.length + 2 * (ps.length - 1) := hl
      have hlt : (Txt.replace s "()" "").length < s.length := by omega
      have hr : replV "()" "" (.str s) = some (.str (Txt.replace s "()" "")) := by
        refine if_pos ⟨rfl, ?_⟩
        show s.length + (s.length + 1) * 0 ≤ 16777216
        omega
      have hb : wbody P (lw x l r tl j s) st = some (.next, lw x l r tl j (Txt.replace s "()" ""), st) := by
        rcases htl with rfl | ⟨v, rfl⟩ <;> exact exs_next (ex_assign rfl (ev_repl (a := .str s) rfl rfl rfl hr)) rfl
      obtain ⟨n, rfl⟩ : ∃ m, n = m + 1 := ⟨n - 1, by omega⟩
      obtain ⟨s', e, ok⟩ := while_val P x l r tl htl j st n f (Txt.replace s "()" "") (by omega) (by omega) (by omega) fun c hc => by
        rw [e2] at hc
        exact hm c (by rw [e1]; exact joinL_mem hc)
      refine ⟨s', while_go (by rw [ht, h]) hb e, ?_⟩
      rw [← ok]
      unfold okV
      have := val_join ps [] 0 (by omega)
      simp only [List.nil_append] at this
      rw [e1, e2, this]

noncomputable def sumL (ps : List (List Nat)) : Nat := (ps.map List.length).sum
theorem sum_pick (n : Nat) : ∀ (ps : List (List Nat)) (i : Nat), sumL (pick n i ps) ≤ sumL ps
  | [], i => Nat.le_refl _
  | p :: ps, i => by
    have := sum_pick n ps (i + 1)
    show sumL (if _ then p :: pick n (i + 1) ps else pick n (i + 1) ps) ≤ sumL (p :: ps)
    unfold sumL at this ⊢
    split <;> (simp only [List.map_cons, List.sum_cons]; omega)
theorem sum_split (c : Nat) : ∀ l : List Nat, sumL (splitL c l) ≤ l.length
  | [] => Nat.le_refl _
  | a :: l => by
    have ih := sum_split c l
    obtain ⟨p, ps, e⟩ := splitL_ne c l
    by_cases h : a = c
    · subst h
      rw [splitL_hit]
      unfold sumL at ih ⊢
      simp only [List.map_cons, List.sum_cons, List.length_nil, List.length_cons]; omega
    · rw [splitL_miss h e]
      rw [e] at ih
      unfold sumL at ih ⊢
      simp only [List.map_cons, List.sum_cons, List.length_cons] at ih ⊢; omega
theorem sum_texts (ps : List (List Nat)) : ((ps.map T).map fun t => t.length + ("" : Str).length).sum = sumL ps := by
  unfold sumL
  rw [List.map_map]
  congr 1

theorem closed_val (P : Params) (x : Str) (st : Hp) (hx : x.length ≤ 10000) : ∃ g, usr P p0 371 ["text"] [.str x] st = some (.bool (closedB x), st ++ g) := by
  obtain ⟨r', tl, e1, htl⟩ := closed_fold P x st x.cps.toList "" 0 [] (.inl rfl) (by have := PySem.W.KWk.len_list (r := x); show 0 + _ ≤ _; omega)
  have htl' : tl = [] ∨ ∃ v, tl = one "sign" v := by
    rcases htl with h | ⟨s, h⟩
    · exact .inl h
    · exact .inr ⟨_, h⟩
  have e1' : (T (("" : Str).cps.toList ++ live (!(0 % 2 == 0)) x.cps.toList)) = T (live false x.cps.toList) := rfl
  rw [e1'] at e1
  generalize hL : live false x.cps.toList = L at e1
  have hLl : L.length ≤ 10000 := by
    rw [← hL]
    have := live_len x.cps.toList false
    have := PySem.W.KWk.len_list (r := x)
    omega
  -- parts
  have hsp := split_list (T L) 34
  rw [T_list] at hsp
  have hparts : (Txt.split (T L) ⟨#[34]⟩).map V.str = (splitL 34 L).map fun p => V.str (T p) := by
    rw [← hsp, List.map_map]
    exact List.map_congr_left fun p _ => by show V.str p = V.str (T p.cps.toList); rw [T_of]
  have hpl : (splitL 34 L).length ≤ 10001 := by
    have h1 := congrArg List.length (joinL_split 34 [34] L)
    have h2 := join_len [34] (splitL 34 L)
    have h3 : (L.flatMap fun a => if a = 34 then [34] else [a]).length = L.length := by
      have : (fun a : Nat => if a = 34 then [34] else [a]) = fun a => [a] := by
        funext a
        split
        · rename_i h; rw [h]
        · rfl
      rw [this]
      simp
    rw [h3] at h1
    rw [h1] at h2
    simp at h2
    omega
  have hst1 : (st ++ [(splitL 34 L).map fun p => V.str (T p)])[st.length]? = some ((splitL 34 L).map fun p => V.str (T p)) := get_last _ _
  obtain ⟨tlk, e2⟩ := comp_fold P (st ++ [(splitL 34 L).map fun p => V.str (T p)]) st.length (splitL 34 L) hst1 (by omega) (splitL 34 L) 0 [] [] rfl (.inl rfl) (by simp; omega)
  rw [List.nil_append] at e2
  have hseen := pick_seen (splitL 34 L) (splitL 34 L).length 0 rfl (by simp)
  generalize hpk : pick (splitL 34 L).length 0 (splitL 34 L) = pk at e2 hseen
  have hjoin : Str.join "" (pk.map T) = T (seenP (splitL 34 L)) := by
    apply PyProof.Rows.str_of_list
    rw [join_list, T_list, ← hseen]
    show joinL [] _ = _
    rw [joinL_nil, List.map_map]
    congr 1
    have : ((fun p : Str => p.cps.toList) ∘ T) = _root_.id := by
      funext l
      exact T_list l
    rw [this, List.map_id]
  have hsum : sumL pk ≤ 10000 := by
    have h1 := sum_pick (splitL 34 L).length (splitL 34 L) 0
    rw [hpk] at h1
    have h2 := sum_split 34 L
    omega
  have hmap : (pk.map fun p => V.str (T p)) = (pk.map T).map V.str := by rw [List.map_map]; rfl
  rw [hmap] at e2
  have hmem : ∀ c ∈ (T (seenP (splitL 34 L))).cps.toList, c = 40 ∨ c = 41 := by
    rw [T_list, ← hL]; exact seenOf_mem x.cps.toList
  have hslen : (T (seenP (splitL 34 L))).length ≤ 10000 := by
    rw [PySem.W.KWk.len_list, T_list, ← hseen, List.length_flatten]; exact hsum
  obtain ⟨s', e3, hok⟩ := while_val P x (T L) r' tl htl' st.length ((st ++ [(splitL 34 L).map fun p => V.str (T p)]) ++ [(pk.map T).map V.str]) 100000 fuelF (T (seenP (splitL 34 L))) (by omega) (by decide) (Nat.le_refl _) hmem
  have hres : closedB x = (s' == "") := by
    rw [← hok, T_list, ← hL]; rfl
  rw [hres]
  have hfit : x.cps.toList.length < fuelF := by
    have := PySem.W.KWk.len_list (r := x)
    show _ < 1000000
    omega
  have hlenV : fnLen [.lst st.length] (st ++ [(splitL 34 L).map fun p => V.str (T p)]) = some (.int ((splitL 34 L).length : Nat), st ++ [(splitL 34 L).map fun p => V.str (T p)]) := by
    exact (fnLen_lst hst1 (by rw [List.length_map]; exact sizeL _ (by omega))).trans (by rw [List.length_map])
  have hrange : fnRange [.int ((splitL 34 L).length : Nat)] (st ++ [(splitL 34 L).map fun p => V.str (T p)]) = some (.rng (splitL 34 L).length, st ++ [(splitL 34 L).map fun p => V.str (T p)]) := by
    show (if 0 ≤ (((splitL 34 L).length : Nat) : Int) then some (V.rng ((((splitL 34 L).length : Nat) : Int)).toNat, _) else none) = _
    rw [if_pos (by omega), Int.toNat_natCast]
  have hsrc : srcOf (.rng (splitL 34 L).length) = some (.items ((List.range' 0 (splitL 34 L).length).map fun (i : Nat) => V.int (i : Int))) := by
    rw [← List.range_eq_range']
    exact if_pos (sizeL _ (by omega))
  have hfit2 : ((List.range' 0 (splitL 34 L).length).map fun (i : Nat) => V.int (i : Int)).length < fuelF := by
    rw [List.length_map, List.length_range']
    show _ < 1000000
    omega
  have hsplit := meth_split (T L) 34 st (by rw [PySem.W.KWk.len_list, T_list]; omega)
  rw [hparts] at hsplit
  have hj2 : ((st ++ [(splitL 34 L).map fun p => V.str (T p)]) ++ [(pk.map T).map V.str])[(st ++ [(splitL 34 L).map fun p => V.str (T p)]).length]? = some ((pk.map T).map V.str) := get_last _ _
  have hjo := meth_join "" (pk.map T) _ _ hj2 (by rw [sum_texts]; omega)
  rw [hjoin] at hjo
  refine ⟨[(splitL 34 L).map fun p => V.str (T p)] ++ [(pk.map T).map V.str], ?_⟩
  rw [← List.append_assoc]
  have efor : (lv 12).ex (cx371 P) (lc x "" 0 ++ []) st (S371 P 2) = some (.next, lc x (T L) r' ++ tl, st) := ex_for_name (v := .str x) rfl rfl ((loop_all (by rw [List.length_map]; exact hfit)).trans e1)
  rcases htl' with rfl | ⟨v, rfl⟩
  · refine usr_of (f := .ret (.bool (s' == ""))) (loc' := lw x (T L) r' [] st.length s') rfl (exs_next (loc1 := [("text", .str x), ("live", .str "")]) rfl (exs_next (loc1 := lc x "" 0 ++ []) rfl (exs_next efor ?_))) rfl
    refine exs_next (loc1 := lc x (T L) r' ++ [] ++ one "parts" (.lst st.length)) (ex_assign rfl (ev_smeth (x := T L) (vs := [.str ⟨#[34]⟩]) rfl rfl rfl rfl hsplit)) ?_
    refine exs_next (loc1 := lw x (T L) r' [] st.length (T (seenP (splitL 34 L)))) (ex_assign rfl (ev_smeth (x := "") rfl rfl rfl (evs_cons (ev_comp (ev_call (fun o m q e => by cases e) (a := .imm (.type "range")) rfl (evs_cons (ev_call (fun o m q e => by cases e) (a := .imm (.builtin "len")) (vs := [.lst st.length]) rfl rfl hlenV) evs_nil) hrange) hsrc rfl ((loop_all hfit2).trans e2)) evs_nil) hjo)) ?_
    refine exs_next (ex_while e3) (exs_ret (ex_ret (ev_cmp (a := .str s') (b := .str "") rfl rfl rfl rfl)))
  · refine usr_of (f := .ret (.bool (s' == ""))) (loc' := lw x (T L) r' (one "sign" v) st.length s') rfl (exs_next (loc1 := [("text", .str x), ("live", .str "")]) rfl (exs_next (loc1 := lc x "" 0 ++ []) rfl (exs_next efor ?_))) rfl
    refine exs_next (loc1 := lc x (T L) r' ++ one "sign" v ++ one "parts" (.lst st.length)) (ex_assign rfl (ev_smeth (x := T L) (vs := [.str ⟨#[34]⟩]) rfl rfl rfl rfl hsplit)) ?_
    refine exs_next (loc1 := lw x (T L) r' (one "sign" v) st.length (T (seenP (splitL 34 L)))) (ex_assign rfl (ev_smeth (x := "") rfl rfl rfl (evs_cons (ev_comp (ev_call (fun o m q e => by cases e) (a := .imm (.type "range")) rfl (evs_cons (ev_call (fun o m q e => by cases e) (a := .imm (.builtin "len")) (vs := [.lst st.length]) rfl rfl hlenV) evs_nil) hrange) hsrc rfl ((loop_all hfit2).trans e2)) evs_nil) hjo)) ?_
    refine exs_next (ex_while e3) (exs_ret (ex_ret (ev_cmp (a := .str s') (b := .str "") rfl rfl rfl rfl)))
end Uq
end

section
open PySem PySem.Calls PyProof.Rows PySem.W
namespace Uq
open Builtin Builtin.Str

theorem ev_name {k : Nat} {cx : Cx} {loc : Loc} {st : Hp} {v : V} {x : Str} {p : Pos} (hd : decide (x = ("__debug__" : Str)) = false) (h : nameV cx loc x = some v) : (lv (k + 1)).ev cx loc st (.Name x p) = some (v, st) := by
  show (match decide (x = ("__debug__" : Str)) with | true => some (V.bool true, st) | false => (nameV cx loc x).map fun v => (v, st)) = _
  rw [hd, h]; rfl
theorem one_eq (c d : Nat) : ((⟨#[c]⟩ : Str) == ⟨#[d]⟩) = (c == d) := by
  rw [Bool.eq_iff_iff, beq_iff_eq, beq_iff_eq]
  constructor
  · intro h
    have : (#[c] : Array Nat) = #[d] := congrArg Str.cps h
    simpa using this
  · intro h; subst h; rfl
theorem esc_ne (c d : Nat) : (("\\" ++ ⟨#[c]⟩ : Str) == ⟨#[d]⟩) = false := by
  rw [beq_eq_false_iff_ne]
  intro h
  have := congrArg (fun y : Str => y.cps.size) h
  exact absurd this (by show ¬ (2 : Nat) = 1; decide)

noncomputable def ov : Option Nat → V
  | none => .none
  | some j => .int (j : Nat)
noncomputable abbrev two (p : Int) (c : Str) : Loc := [("pos", .int p), ("ch", .str c)]
noncomputable def ls (x : Str) (s : Int) (o : V) (k : Nat) : Loc := [("addr", .str x), ("start", .int s), ("open_pos", o), ("result", .lst k)]
noncomputable def S52 (P : Params) (i : Nat) : Stmt := sAt (bodyAt (hd.heap_1 P) 52) i
noncomputable def cx52 (P : Params) : Cx := mkCx (scopeAt (hd.heap_1 P) 52) p0

theorem strip_step (P : Params) (x : Str) (s : Nat) (o : Option Nat) (st0 : Hp) (r : List Str) (tl : Loc) (htl : tl = [] ∨ ∃ p c, tl = two p c) (i : Int) (y : Str) (hx : x.length ≤ 100000) (hr : r.length ≤ 100000) :
    forB 11 (cx52 P) (fT (S52 P 4)) (fB (S52 P 4)) (.tup [.int i, .str y]) (ls x s (ov o) st0.length ++ tl) (st0 ++ [r.map .str]) =
      (match (y == "\"") with
      | false => some (.next, ls x s (ov o) st0.length ++ two i y, st0 ++ [r.map .str])
      | true => match o with
        | none => some (.next, ls x s (.int i) st0.length ++ two i y, st0 ++ [r.map .str])
        | some j => some (.next, ls x (i + 1) .none st0.length ++ two i y, st0 ++ [(if s = j then r else r ++ [Txt.slice x (some (s : Int)) (some (j : Int))]).map .str])) := by
  have hb : bindT (cx52 P).sc (fT (S52 P 4)) (.tup [.int i, .str y]) (ls x s (ov o) st0.length ++ tl) = some (ls x s (ov o) st0.length ++ two i y) := by
    rcases htl with rfl | ⟨p, c, rfl⟩ <;> rfl
  refine forB_of hb ?_
  cases h : (y == "\"") with
  | false =>
    refine exs_next (ex_if (c := false) (tv_cmp (a := .str y) (b := .str "\"") rfl rfl rfl ?_) rfl) rfl
    show some (y == "\"") = some false
    rw [h]
  | true =>
    have ht : (lv 10).tv (cx52 P) (ls x s (ov o) st0.length ++ two i y) (st0 ++ [r.map .str]) (fI (sAt (fB (S52 P 4)) 0)) = some (true, st0 ++ [r.map .str]) := by
      refine tv_cmp (a := .str y) (b := .str "\"") rfl rfl rfl ?_
      show some (y == "\"") = some true
      rw [h]
    cases o with
    | none =>
      exact exs_next (ex_if (c := true) ht (exs_next (ex_if (c := true) (tv_cmp (a := .none) (b := .none) rfl rfl rfl rfl) (exs_next (ex_assign rfl (v := .int i) rfl) rfl)) rfl)) rfl
    | some j =>
      have hsl : slcX (cx52 P) (.str x) (some (s : Int)) (some (j : Int)) (st0 ++ [r.map .str]) = some (.str (Txt.slice x (some (s : Int)) (some (j : Int))), st0 ++ [r.map .str]) := if_pos (sizeL _ hx)
      have t1 : ∀ c, c = ((s : Int) != (j : Int)) → exs ((lv 8).ex (cx52 P)) (cond c (fB (sAt (fE (sAt (fB (sAt (fB (S52 P 4)) 0)) 0)) 0)) []) (ls x s (ov (some j)) st0.length ++ two i y) (st0 ++ [r.map .str]) =
          some (.next, ls x s (ov (some j)) st0.length ++ two i y, st0 ++ [(if s = j then r else r ++ [Txt.slice x (some (s : Int)) (some (j : Int))]).map .str]) := by
        intro c hc
        cases c with
        | false =>
          have : s = j := by
            have := hc.symm
            simp at this
            omega
          rw [if_pos this]; rfl
        | true =>
          have hne : ¬ s = j := by
            have := hc.symm
            simp at this
            omega
          rw [if_neg hne]
          have ha : (lv 7).ev (cx52 P) (ls x s (ov (some j)) st0.length ++ two i y) (st0 ++ [r.map .str]) (aV (sAt (fB (sAt (fE (sAt (fB (sAt (fB (S52 P 4)) 0)) 0)) 0)) 0)) = some (.none, st0 ++ [(r ++ [Txt.slice x (some (s : Int)) (some (j : Int))]).map .str]) := by
            have e1 : (st0 ++ [r.map V.str]).set st0.length (r.map V.str ++ [.str (Txt.slice x (some (s : Int)) (some (j : Int)))]) = st0 ++ [(r ++ [Txt.slice x (some (s : Int)) (some (j : Int))]).map .str] := by simp
            rw [← e1]
            exact ev_append (j := st0.length) (xs := r.map .str) rfl rfl (ev_slice (a := .str x) (l := some (s : Int)) (h := some (j : Int)) rfl rfl rfl hsl) (get_last _ _) (sizeL _ (by rw [List.length_map]; exact hr))
          exact exs_next (ex_expr rfl ha) rfl
      refine exs_next (ex_if (c := true) ht (exs_next (ex_if (c := false) (tv_cmp (a := .int (j : Int)) (b := .none) rfl rfl rfl rfl) (exs_next (ex_if (c := ((s : Int) != (j : Int))) (tv_cmp (a := .int (s : Int)) (b := .int (j : Int)) rfl rfl rfl rfl) (t1 _ rfl)) (exs_next (ex_assign rfl (v := .int (i + 1)) rfl) (exs_next (ex_assign rfl (v := .none) rfl) rfl)))) rfl)) rfl
end Uq
end

section
open PySem PySem.Calls PyProof.Rows PySem.W
namespace Uq
open Builtin Builtin.Str

theorem stripL_len (x : Str) : ∀ (cs : List Nat) (i : Nat) (e : Bool) (s : Nat) (o : Option Nat) (r : List Str), (stripL x cs i e s o r).2.2.length ≤ r.length + cs.length
  | [], _, _, _, _, r => by show r.length ≤ r.length + 0; omega
  | c :: cs, i, true, s, o, r => by
    have := stripL_len x cs (i + 1) false s o r
    show (stripL x cs (i + 1) false s o r).2.2.length ≤ r.length + (cs.length + 1)
    omega
  | c :: cs, i, false, s, o, r => by
    show (if c = 92 then stripL x cs (i + 1) true s o r else if c = 34 then (match o with
      | none => stripL x cs (i + 1) false s (some i) r
      | some j => stripL x cs (i + 1) false (i + 1) none (if s = j then r else r ++ [Txt.slice x (some (s : Int)) (some (j : Int))])) else stripL x cs (i + 1) false s o r).2.2.length ≤ r.length + (cs.length + 1)
    split
    · have := stripL_len x cs (i + 1) true s o r; omega
    · split
      · cases o with
        | none => have := stripL_len x cs (i + 1) false s (some i) r; dsimp only; omega
        | some j =>
          have := stripL_len x cs (i + 1) false (i + 1) none (if s = j then r else r ++ [Txt.slice x (some (s : Int)) (some (j : Int))])
          have h2 : (if s = j then r else r ++ [Txt.slice x (some (s : Int)) (some (j : Int))]).length ≤ r.length + 1 := by
            split
            · omega
            · simp
          dsimp only
          omega
      · have := stripL_len x cs (i + 1) false s o r; omega

theorem strip_fold (P : Params) (x : Str) (st0 : Hp) (hx : x.length ≤ 10000) : ∀ (cs : List Nat) (i : Nat) (p : Int) (e : Bool) (s : Nat) (o : Option Nat) (r : List Str) (tl : Loc), (tl = [] ∨ ∃ p c, tl = two p c) → r.length + cs.length ≤ 50000 →
    ∃ tl', (tl' = [] ∨ ∃ p c, tl' = two p c) ∧ foldF (forB 11 (cx52 P) (fT (S52 P 4)) (fB (S52 P 4))) (escGo cs i p e) (ls x s (ov o) st0.length ++ tl) (st0 ++ [r.map .str]) =
      some (.next, ls x (stripL x cs i e s o r).1 (ov (stripL x cs i e s o r).2.1) st0.length ++ tl', st0 ++ [(stripL x cs i e s o r).2.2.map .str])
  | [], i, p, e, s, o, r, tl, htl, hr => by
    cases e with
    | false => exact ⟨tl, htl, rfl⟩
    | true =>
      have step := strip_step P x s o st0 r tl htl p "\\" (by omega) (by omega)
      exact ⟨two p "\\", .inr ⟨_, _, rfl⟩, fold_next (x := .tup [.int p, .str "\\"]) step⟩
  | c :: cs, i, p, e, s, o, r, tl, htl, hr => by
    have hr' : r.length + cs.length ≤ 50000 := by simp at hr; omega
    cases e with
    | true =>
      have step := strip_step P x s o st0 r tl htl i ("\\" ++ ⟨#[c]⟩) (by omega) (by omega)
      have hne : (("\\" ++ ⟨#[c]⟩ : Str) == "\"") = false := esc_ne c 34
      rw [hne] at step
      obtain ⟨tl', h1, h2⟩ := strip_fold P x st0 hx cs (i + 1) i false s o r (two i ("\\" ++ ⟨#[c]⟩)) (.inr ⟨_, _, rfl⟩) hr'
      exact ⟨tl', h1, (fold_next (x := .tup [.int i, .str (("\\" : Str) ++ (⟨#[c]⟩ : Str))]) step).trans h2⟩
    | false =>
      by_cases h92 : c = 92
      · have e1 : escGo (c :: cs) i p false = escGo cs (i + 1) i true := by
          show (match ((⟨#[c]⟩ : Str) == "\\") with | true => _ | false => _) = _
          rw [is_back, h92]; rfl
        have e2 : stripL x (c :: cs) i false s o r = stripL x cs (i + 1) true s o r := by
          show (if c = 92 then _ else _) = _
          rw [if_pos h92]
        rw [e1, e2]
        exact strip_fold P x st0 hx cs (i + 1) i true s o r tl htl hr'
      · have e1 : escGo (c :: cs) i p false = .tup [.int i, .str ⟨#[c]⟩] :: escGo cs (i + 1) i false := by
          show (match ((⟨#[c]⟩ : Str) == "\\") with | true => _ | false => _) = _
          have : (c == 92) = false := by simpa using h92
          rw [is_back, this]
        have step := strip_step P x s o st0 r tl htl i ⟨#[c]⟩ (by omega) (by omega)
        have hq : ((⟨#[c]⟩ : Str) == "\"") = (c == 34) := one_eq c 34
        rw [hq] at step
        rw [e1]
        by_cases h34 : c = 34
        · have hb : (c == 34) = true := by simpa using h34
          rw [hb] at step
          cases o with
          | none =>
            have e2 : stripL x (c :: cs) i false s none r = stripL x cs (i + 1) false s (some i) r := by
              show (if c = 92 then _ else if c = 34 then _ else _) = _
              rw [if_neg h92, if_pos h34]
            rw [e2]
            obtain ⟨tl', h1, h2⟩ := strip_fold P x st0 hx cs (i + 1) i false s (some i) r (two i ⟨#[c]⟩) (.inr ⟨_, _, rfl⟩) hr'
            exact ⟨tl', h1, (fold_next (x := .tup [.int i, .str ⟨#[c]⟩]) step).trans h2⟩
          | some j =>
            have e2 : stripL x (c :: cs) i false s (some j) r = stripL x cs (i + 1) false (i + 1) none (if s = j then r else r ++ [Txt.slice x (some (s : Int)) (some (j : Int))]) := by
              show (if c = 92 then _ else if c = 34 then _ else _) = _
              rw [if_neg h92, if_pos h34]
            rw [e2]
            have hl : (if s = j then r else r ++ [Txt.slice x (some (s : Int)) (some (j : Int))]).length + cs.length ≤ 50000 := by
              split
              · exact hr'
              · simp at hr ⊢; omega
            obtain ⟨tl', h1, h2⟩ := strip_fold P x st0 hx cs (i + 1) i false (i + 1) none (if s = j then r else r ++ [Txt.slice x (some (s : Int)) (some (j : Int))]) (two i ⟨#[c]⟩) (.inr ⟨_, _, rfl⟩) hl
            exact ⟨tl', h1, (fold_next (x := .tup [.int i, .str ⟨#[c]⟩]) step).trans h2⟩
        · have hb : (c == 34) = false := by simpa using h34
          rw [hb] at step
          have e2 : stripL x (c :: cs) i false s o r = stripL x cs (i + 1) false s o r := by
            show (if c = 92 then _ else if c = 34 then _ else _) = _
            rw [if_neg h92, if_neg h34]
          rw [e2]
          obtain ⟨tl', h1, h2⟩ := strip_fold P x st0 hx cs (i + 1) i false s o r (two i ⟨#[c]⟩) (.inr ⟨_, _, rfl⟩) hr'
          exact ⟨tl', h1, (fold_next (x := .tup [.int i, .str ⟨#[c]⟩]) step).trans h2⟩

theorem escGo_len : ∀ (cs : List Nat) (i : Nat) (p : Int) (e : Bool), (escGo cs i p e).length ≤ cs.length + 1
  | [], i, p, true => Nat.le_refl _
  | [], i, p, false => Nat.zero_le _
  | c :: cs, i, p, true => by
    have := escGo_len cs (i + 1) i false
    show (escGo cs (i + 1) i false).length + 1 ≤ cs.length + 1 + 1
    omega
  | c :: cs, i, p, false => by
    show (match ((⟨#[c]⟩ : Str) == "\\") with | true => escGo cs (i + 1) i true | false => V.tup [.int i, .str ⟨#[c]⟩] :: escGo cs (i + 1) i false).length ≤ cs.length + 1 + 1
    split
    · have := escGo_len cs (i + 1) i true; omega
    · have := escGo_len cs (i + 1) i false; simp; exact this

noncomputable def stripT (x : Str) : Str := T (outK false x.cps.toList)
theorem mark_in (x : Str) : strIn "\"" x = decide (34 ∈ x.cps.toList) := one_in 34 x
theorem sum_flat (r : List Str) : ((r.map fun t => t.length + ("" : Str).length)).sum = (flat r).length := by
  unfold flat
  rw [List.length_flatten, List.map_map]
  congr 1

theorem strip_val (P : Params) (x : Str) (st : Hp) (hx : x.length ≤ 10000) : ∃ g, usr P p0 52 ["addr"] [.str x] st = some (.str (stripT x), st ++ g) := by
  have hX := PySem.W.KWk.len_list (r := x)
  cases h : strIn "\"" x with
  | false =>
    have hn : 34 ∉ x.cps.toList := by
      rw [mark_in] at h
      simpa using h
    have e : stripT x = x := by
      unfold stripT
      rw [outK_free _ _ hn, T_of]
    refine ⟨[], ?_⟩
    rw [e, List.append_nil]
    refine usr_of (f := .ret (.str x)) rfl (exs_ret (ex_if (c := true) (tv_cmp (a := .str "\"") (b := .str x) rfl rfl rfl ?_) (exs_ret rfl))) rfl
    show some (!strIn "\"" x) = some true
    rw [h]; rfl
  | true =>
    obtain ⟨tl, htl, e1⟩ := strip_fold P x st hx x.cps.toList 0 0 false 0 none [] [] (.inl rfl) (by show 0 + _ ≤ _; omega)
    obtain ⟨inv, hle⟩ := strip_inv x x.cps.toList 0 false 0 none [] rfl (Nat.zero_le _) (Nat.le_refl _) (fun j hj => by cases hj)
    have hrl := stripL_len x x.cps.toList 0 false 0 none []
    have e0 : flat [] ++ rest false x.cps.toList x.cps.toList 0 none 0 = outK false x.cps.toList := by
      show [] ++ ([] ++ outK false x.cps.toList) = _
      simp
    rw [e0] at inv
    generalize hz : stripL x x.cps.toList 0 false 0 none [] = z at e1 inv hle hrl
    obtain ⟨s', o', r'⟩ := z
    dsimp only at e1 inv hle hrl
    have hfit : (escGo x.cps.toList 0 0 false).length < fuelF := by
      have := escGo_len x.cps.toList 0 0 false
      show _ < 1000000
      omega
    have hol := outK_len _ x.cps.toList false (Nat.le_refl _)
    have hlen : (flat r').length + (x.cps.toList.length - s') ≤ 10000 := by
      have := congrArg List.length inv
      rw [List.length_append, List.length_drop] at this
      omega
    have hlenV : ∀ u : Hp, fnLen [.str x] u = some (.int (x.length : Nat), u) := fun u => if_pos (sizeL _ (by omega))
    have h0 : (lv 11).tv (cx52 P) [("addr", .str x)] st (fI (S52 P 0)) = some (false, st) := by
      refine tv_cmp (a := .str "\"") (b := .str x) rfl rfl rfl ?_
      show some (!strIn "\"" x) = some false
      rw [h]; rfl
    have efor : (lv 12).ex (cx52 P) (ls x 0 .none st.length ++ []) (st ++ [([] : List Str).map V.str]) (S52 P 4) = some (.next, ls x s' (ov o') st.length ++ tl, st ++ [r'.map .str]) :=
      ex_for_gen (fv := .ref 45) (g := genItems) (vs := [.str x]) rfl rfl rfl rfl rfl ((loop_all hfit).trans e1)
    have hnm : nameV (cx52 P) (ls x s' (ov o') st.length ++ tl) "len" = some (.imm (.builtin "len")) := by
      rcases htl with rfl | ⟨p, c, rfl⟩ <;> rfl
    by_cases hs : s' < x.length
    · have hsl : slcX (cx52 P) (.str x) (some (s' : Int)) none (st ++ [r'.map .str]) = some (.str (Txt.slice x (some (s' : Int)) none), st ++ [r'.map .str]) := if_pos (sizeL _ (by omega))
      have hst := slice_tail x (a := s') hle
      have hj2 : (st ++ [(r' ++ [Txt.slice x (some (s' : Int)) none]).map V.str])[st.length]? = some ((r' ++ [Txt.slice x (some (s' : Int)) none]).map V.str) := get_last _ _
      have hres : Str.join "" (r' ++ [Txt.slice x (some (s' : Int)) none]) = stripT x := by
        apply PyProof.Rows.str_of_list
        unfold stripT
        rw [T_list, join_list, ← inv, ← hst, ← flat_snoc]
        exact joinL_nil _
      have hjo := meth_join "" (r' ++ [Txt.slice x (some (s' : Int)) none]) (st ++ [(r' ++ [Txt.slice x (some (s' : Int)) none]).map V.str]) st.length hj2 (by
        rw [sum_flat, flat_snoc, hst, List.length_append, List.length_drop]; omega)
      rw [hres] at hjo
      have e3 : (st ++ [r'.map V.str]).set st.length (r'.map V.str ++ [.str (Txt.slice x (some (s' : Int)) none)]) = st ++ [(r' ++ [Txt.slice x (some (s' : Int)) none]).map .str] := by simp
      refine ⟨[(r' ++ [Txt.slice x (some (s' : Int)) none]).map V.str], ?_⟩
      have ht : ((s' : Int) < ((x.length : Nat) : Int)) := by omega
      refine usr_of (f := .ret (.str (stripT x))) rfl (exs_next (ex_if (c := false) h0 rfl) (exs_next (loc1 := [("addr", .str x), ("start", .int 0)]) rfl (exs_next (loc1 := [("addr", .str x), ("start", .int 0), ("open_pos", .none)]) rfl (exs_next (loc1 := ls x 0 .none st.length ++ []) (st1 := st ++ [([] : List Str).map V.str]) rfl (exs_next efor (exs_next (loc1 := ls x s' (ov o') st.length ++ tl) (st1 := st ++ [(r' ++ [Txt.slice x (some (s' : Int)) none]).map V.str]) (ex_if (c := true) (tv_cmp (a := .int (s' : Int)) (b := .int (x.length : Nat)) rfl (ev_call (fun o m q e => by cases e) (a := .imm (.builtin "len")) (vs := [.str x]) (ev_name rfl hnm) rfl (hlenV _)) rfl ?_) (exs_next (ex_expr (v := .none) rfl ?_) rfl)) (exs_ret (ex_ret (ev_smeth (x := "") (vs := [.lst st.length]) rfl rfl rfl rfl hjo))))))))) rfl
      · show some (decide ((s' : Int) < ((x.length : Nat) : Int))) = some true
        rw [decide_eq_true ht]
      · rw [← e3]
        exact ev_append (j := st.length) (xs := r'.map .str) rfl rfl (ev_slice (a := .str x) (l := some (s' : Int)) (h := none) rfl rfl rfl hsl) (get_last _ _) (sizeL _ (by rw [List.length_map]; have : ([] : List Str).length = 0 := rfl; omega))
    · have hj2 : (st ++ [r'.map V.str])[st.length]? = some (r'.map V.str) := get_last _ _
      have hres : Str.join "" r' = stripT x := by
        apply PyProof.Rows.str_of_list
        unfold stripT
        have : x.cps.toList.drop s' = [] := List.drop_of_length_le (by omega)
        rw [this, List.append_nil] at inv
        rw [T_list, join_list, ← inv]
        exact joinL_nil _
      have hjo := meth_join "" r' (st ++ [r'.map V.str]) st.length hj2 (by rw [sum_flat]; omega)
      rw [hres] at hjo
      refine ⟨[r'.map V.str], ?_⟩
      have ht : ¬ ((s' : Int) < ((x.length : Nat) : Int)) := by omega
      refine usr_of (f := .ret (.str (stripT x))) rfl (exs_next (ex_if (c := false) h0 rfl) (exs_next (loc1 := [("addr", .str x), ("start", .int 0)]) rfl (exs_next (loc1 := [("addr", .str x), ("start", .int 0), ("open_pos", .none)]) rfl (exs_next (loc1 := ls x 0 .none st.length ++ []) (st1 := st ++ [([] : List Str).map V.str]) rfl (exs_next efor (exs_next (loc1 := ls x s' (ov o') st.length ++ tl) (st1 := st ++ [r'.map V.str]) (ex_if (c := false) (tv_cmp (a := .int (s' : Int)) (b := .int (x.length : Nat)) rfl (ev_call (fun o m q e => by cases e) (a := .imm (.builtin "len")) (vs := [.str x]) (ev_name rfl hnm) rfl (hlenV _)) rfl ?_) rfl) (exs_ret (ex_ret (ev_smeth (x := "") (vs := [.lst st.length]) rfl rfl rfl rfl hjo))))))))) rfl
      show some (decide ((s' : Int) < ((x.length : Nat) : Int))) = some false
      rw [decide_eq_false ht]
end Uq
end

section
open PySem PySem.Calls PyProof.Rows PySem.W
namespace Uq
open Builtin Builtin.Str

noncomputable def p1 (P : Params) : Parts := ⟨[(52, usr P p0 52 ["addr"]), (366, usr P p0 366 ["piece", "hand"]), (371, usr P p0 371 ["text"]), (216, usr P p0 216 ["text"]), (223, usr P p0 223 ["text"]), (230, usr P p0 230 ["text"]), (340, usr P p0 340 ["text"]), (347, usr P p0 347 ["text"])],
  searchM, fun _ _ => none, fun _ => none, fun _ => none, fun _ => none⟩
noncomputable def S59 (P : Params) (i : Nat) : Stmt := sAt (bodyAt (hd.heap_1 P) 59) i
noncomputable def cx59 (P : Params) : Cx := mkCx (scopeAt (hd.heap_1 P) 59) (p1 P)
noncomputable def lk (x : Str) (d : Int) : Loc := [("addr", .str x), ("opens", .int d)]

theorem check_step (P : Params) (x : Str) (d : Int) (tl : Loc) (htl : tl = [] ∨ ∃ p c, tl = two p c) (i : Int) (y : Str) (st : Hp) :
    forB 11 (cx59 P) (fT (S59 P 2)) (fB (S59 P 2)) (.tup [.int i, .str y]) (lk x d ++ tl) st =
      (match (y == "("), (y == ")") with
      | true, _ => some (.next, lk x (d + 1) ++ two i y, st)
      | false, true => if d - 1 < 0 then some (.ret (.bool false), lk x (d - 1) ++ two i y, st) else some (.next, lk x (d - 1) ++ two i y, st)
      | false, false => some (.next, lk x d ++ two i y, st)) := by
  have hb : bindT (cx59 P).sc (fT (S59 P 2)) (.tup [.int i, .str y]) (lk x d ++ tl) = some (lk x d ++ two i y) := by
    rcases htl with rfl | ⟨p, c, rfl⟩ <;> rfl
  refine forB_of hb ?_
  have t1 : (lv 10).tv (cx59 P) (lk x d ++ two i y) st (fI (sAt (fB (S59 P 2)) 0)) = some (y == "(", st) := tv_cmp (a := .str y) (b := .str "(") rfl rfl rfl rfl
  cases h1 : (y == "(") with
  | true =>
    rw [h1] at t1
    exact exs_next (ex_if (c := true) t1 (exs_next (loc1 := lk x (d + 1) ++ two i y) rfl rfl)) rfl
  | false =>
    rw [h1] at t1
    have t2 : (lv 9).tv (cx59 P) (lk x d ++ two i y) st (fI (sAt (fE (sAt (fB (S59 P 2)) 0)) 0)) = some (y == ")", st) := tv_cmp (a := .str y) (b := .str ")") rfl rfl rfl rfl
    cases h2 : (y == ")") with
    | false =>
      rw [h2] at t2
      exact exs_next (ex_if (c := false) t1 (exs_next (ex_if (c := false) t2 rfl) rfl)) rfl
    | true =>
      rw [h2] at t2
      have t3 : (lv 8).tv (cx59 P) (lk x (d - 1) ++ two i y) st (fI (sAt (fB (sAt (fE (sAt (fB (S59 P 2)) 0)) 0)) 1)) = some (decide (d - 1 < 0), st) := tv_cmp (a := .int (d - 1)) (b := .int 0) rfl rfl rfl rfl
      by_cases h3 : d - 1 < 0
      · rw [decide_eq_true h3] at t3
        show _ = if d - 1 < 0 then _ else _
        rw [if_pos h3]
        exact exs_ret (ex_if (c := false) t1 (exs_ret (ex_if (c := true) t2 (exs_next (loc1 := lk x (d - 1) ++ two i y) rfl (exs_ret (ex_if (c := true) t3 (exs_ret rfl)))))))
      · rw [decide_eq_false h3] at t3
        show _ = if d - 1 < 0 then _ else _
        rw [if_neg h3]
        exact exs_next (ex_if (c := false) t1 (exs_next (ex_if (c := true) t2 (exs_next (loc1 := lk x (d - 1) ++ two i y) rfl (exs_next (ex_if (c := false) t3 rfl) rfl))) rfl)) rfl

theorem check_fold (P : Params) (x : Str) (st : Hp) : ∀ (cs : List Nat) (i : Nat) (p : Int) (e : Bool) (d : Int) (tl : Loc), (tl = [] ∨ ∃ p c, tl = two p c) →
    match val (parens (live e cs)) d with
    | none => ∃ l, foldF (forB 11 (cx59 P) (fT (S59 P 2)) (fB (S59 P 2))) (escGo cs i p e) (lk x d ++ tl) st = some (.ret (.bool false), l, st)
    | some d' => ∃ tl', foldF (forB 11 (cx59 P) (fT (S59 P 2)) (fB (S59 P 2))) (escGo cs i p e) (lk x d ++ tl) st = some (.next, lk x d' ++ tl', st)
  | [], i, p, e, d, tl, htl => by
    show ∃ tl', _
    cases e with
    | false => exact ⟨tl, rfl⟩
    | true =>
      have step := check_step P x d tl htl p "\\" st
      exact ⟨two p "\\", fold_next (x := .tup [.int p, .str "\\"]) step⟩
  | c :: cs, i, p, e, d, tl, htl => by
    cases e with
    | true =>
      have step := check_step P x d tl htl i (("\\" : Str) ++ (⟨#[c]⟩ : Str)) st
      have h1 : ((("\\" : Str) ++ (⟨#[c]⟩ : Str)) == "(") = false := esc_ne c 40
      have h2 : ((("\\" : Str) ++ (⟨#[c]⟩ : Str)) == ")") = false := esc_ne c 41
      rw [h1, h2] at step
      have ih := check_fold P x st cs (i + 1) i false d (two i (("\\" : Str) ++ (⟨#[c]⟩ : Str))) (.inr ⟨_, _, rfl⟩)
      have e1 : live true (c :: cs) = live false cs := by
        rw [live_cons]; simp
      rw [e1]
      have e2 := fold_next (x := .tup [.int i, .str (("\\" : Str) ++ (⟨#[c]⟩ : Str))]) (xs := escGo cs (i + 1) i false) step
      cases hv : val (parens (live false cs)) d with
      | none => rw [hv] at ih; exact ⟨ih.choose, e2.trans ih.choose_spec⟩
      | some d' => rw [hv] at ih; exact ⟨ih.choose, e2.trans ih.choose_spec⟩
    | false =>
      by_cases h92 : c = 92
      · have e1 : escGo (c :: cs) i p false = escGo cs (i + 1) i true := by
          show (match ((⟨#[c]⟩ : Str) == "\\") with | true => _ | false => _) = _
          rw [is_back, h92]; rfl
        have e2 : live false (c :: cs) = live true cs := by
          rw [live_cons, h92]; rfl
        rw [e1, e2]
        exact check_fold P x st cs (i + 1) i true d tl htl
      · have e1 : escGo (c :: cs) i p false = .tup [.int i, .str ⟨#[c]⟩] :: escGo cs (i + 1) i false := by
          show (match ((⟨#[c]⟩ : Str) == "\\") with | true => _ | false => _) = _
          have : (c == 92) = false := by simpa using h92
          rw [is_back, this]
        have e92 : (c == 92 && !false) = false := by simp [h92]
        have step := check_step P x d tl htl i ⟨#[c]⟩ st
        have q1 : ((⟨#[c]⟩ : Str) == "(") = (c == 40) := one_eq c 40
        have q2 : ((⟨#[c]⟩ : Str) == ")") = (c == 41) := one_eq c 41
        rw [q1, q2] at step
        rw [e1, live_cons, e92]
        by_cases h40 : c = 40
        · subst h40
          have ih := check_fold P x st cs (i + 1) i false (d + 1) (two i ⟨#[40]⟩) (.inr ⟨_, _, rfl⟩)
          have e3 : val (parens (if (!false && sgn 40) = true then 40 :: live false cs else live false cs)) d = val (parens (live false cs)) (d + 1) := by
            show val (40 :: parens (live false cs)) d = _
            rw [val_cons, if_pos rfl]
          rw [e3]
          have e2 := fold_next (x := .tup [.int i, .str ⟨#[40]⟩]) (xs := escGo cs (i + 1) i false) step
          cases hv : val (parens (live false cs)) (d + 1) with
          | none => rw [hv] at ih; exact ⟨ih.choose, e2.trans ih.choose_spec⟩
          | some d' => rw [hv] at ih; exact ⟨ih.choose, e2.trans ih.choose_spec⟩
        · have b40 : (c == 40) = false := by simpa using h40
          by_cases h41 : c = 41
          · subst h41
            have e3 : val (parens (if (!false && sgn 41) = true then 41 :: live false cs else live false cs)) d = if d - 1 < 0 then none else val (parens (live false cs)) (d - 1) := by
              show val (41 :: parens (live false cs)) d = _
              rw [val_cons, if_neg (by decide)]
            rw [e3]
            by_cases hd0 : d - 1 < 0
            · rw [if_pos hd0]
              have step' : forB 11 (cx59 P) (fT (S59 P 2)) (fB (S59 P 2)) (.tup [.int i, .str ⟨#[41]⟩]) (lk x d ++ tl) st = some (.ret (.bool false), lk x (d - 1) ++ two i ⟨#[41]⟩, st) := step.trans (if_pos hd0)
              exact ⟨_, fold_ret step'⟩
            · rw [if_neg hd0]
              have step' : forB 11 (cx59 P) (fT (S59 P 2)) (fB (S59 P 2)) (.tup [.int i, .str ⟨#[41]⟩]) (lk x d ++ tl) st = some (.next, lk x (d - 1) ++ two i ⟨#[41]⟩, st) := step.trans (if_neg hd0)
              have ih := check_fold P x st cs (i + 1) i false (d - 1) (two i ⟨#[41]⟩) (.inr ⟨_, _, rfl⟩)
              have e2 := fold_next (xs := escGo cs (i + 1) i false) step'
              cases hv : val (parens (live false cs)) (d - 1) with
              | none => rw [hv] at ih; exact ⟨ih.choose, e2.trans ih.choose_spec⟩
              | some d' => rw [hv] at ih; exact ⟨ih.choose, e2.trans ih.choose_spec⟩
          · have b41 : (c == 41) = false := by simpa using h41
            rw [b40, b41] at step
            have ih := check_fold P x st cs (i + 1) i false d (two i ⟨#[c]⟩) (.inr ⟨_, _, rfl⟩)
            have e3 : parens (if (!false && sgn c) = true then c :: live false cs else live false cs) = parens (live false cs) := by
              split
              · rename_i hs
                have hc : c = 34 := by
                  simp [sgn, h40, h41] at hs
                  exact hs
                unfold parens
                rw [List.filter_cons_of_neg (by simp [hc])]
              · rfl
            rw [e3]
            have e2 := fold_next (x := .tup [.int i, .str ⟨#[c]⟩]) (xs := escGo cs (i + 1) i false) step
            cases hv : val (parens (live false cs)) d with
            | none => rw [hv] at ih; exact ⟨ih.choose, e2.trans ih.choose_spec⟩
            | some d' => rw [hv] at ih; exact ⟨ih.choose, e2.trans ih.choose_spec⟩

theorem check_val (P : Params) (x : Str) (st : Hp) (hx : x.length ≤ 10000) : ∃ g, usr P (p1 P) 59 ["addr"] [.str x] st = some (.bool (closedB x), st ++ g) := by
  obtain ⟨g, hg⟩ := strip_val P x st hx
  have hX := PySem.W.KWk.len_list (r := x)
  have hol := outK_len _ x.cps.toList false (Nat.le_refl _)
  have hy : (stripT x).length ≤ 10000 := by
    rw [PySem.W.KWk.len_list]; unfold stripT; rw [T_list]; omega
  have hfit : (escGo (stripT x).cps.toList 0 0 false).length < fuelF := by
    have := escGo_len (stripT x).cps.toList 0 0 false
    have := PySem.W.KWk.len_list (r := (stripT x))
    show _ < 1000000
    omega
  have hc : closedB x = okV (parens (live false (stripT x).cps.toList)) := by
    unfold closedB stripT
    rw [T_list, closed_out]
  have hf := check_fold P (stripT x) (st ++ g) (stripT x).cps.toList 0 0 false 0 [] (.inl rfl)
  have h0 : (lv 12).ex (cx59 P) [("addr", .str x)] st (S59 P 0) = some (Fl.next, ([("addr", V.str (stripT x))] : Loc), st ++ g) :=
    ex_assign rfl (ev_call (fun o m q e => by cases e) (a := .imm (.ref 52)) (vs := [.str x]) rfl rfl hg)
  refine ⟨g, ?_⟩
  rw [hc]
  unfold okV
  cases hv : val (parens (live false (stripT x).cps.toList)) 0 with
  | none =>
    rw [hv] at hf
    obtain ⟨l, e⟩ := hf
    refine usr_of (f := .ret (.bool false)) (v := .bool (decide ((none : Option Int) = some 0))) rfl (exs_next h0 (exs_next (loc1 := lk (stripT x) 0 ++ []) rfl (exs_ret (ex_for_gen (fv := .ref 45) (g := genItems) (vs := [.str (stripT x)]) rfl rfl rfl rfl rfl ((loop_all hfit).trans e))))) rfl
  | some d =>
    rw [hv] at hf
    obtain ⟨tl, e⟩ := hf
    refine usr_of (f := .ret (.bool (d == 0))) rfl (exs_next h0 (exs_next (loc1 := lk (stripT x) 0 ++ []) rfl (exs_next (ex_for_gen (fv := .ref 45) (g := genItems) (vs := [.str (stripT x)]) rfl rfl rfl rfl rfl ((loop_all hfit).trans e)) (exs_ret (ex_ret (ev_cmp (a := .int d) (b := .int 0) rfl rfl rfl rfl)))))) ?_
    show some (V.bool (d == 0)) = some (V.bool (decide (some d = some 0)))
    have : (d == 0) = decide (some d = some (0 : Int)) := by
      by_cases h : d = 0
      · subst h; rfl
      · simp [h]
    rw [this]
end Uq
end

section
open PySem PySem.Calls PyProof.Rows PySem.W
namespace Uq
open Builtin Builtin.Str

theorem sub1_len (c : Nat) (z : List Nat) (hz : z.length ≤ 6) : ∀ l : List Nat, (sub1 c z l).length ≤ 6 * l.length
  | [] => Nat.le_refl _
  | a :: l => by
    have ih := sub1_len c z hz l
    have e : sub1 c z (a :: l) = (if a = c then z else [a]) ++ sub1 c z l := rfl
    rw [e, List.length_append, List.length_cons]
    split
    · omega
    · simp; omega
theorem esc_if {k : Nat} {cx : Cx} {t : PySem.Expr} {b : List Stmt} {p : Pos} {x : Str} {st : Hp} (c : Nat) (z : Str) (hz : z.length ≤ 6) (hne : ((⟨#[c]⟩ : Str) == z) = false) (hx : x.length ≤ 2000000)
    (ht : (lv k).tv cx [("text", .str x)] st t = some (strIn ⟨#[c]⟩ x, st))
    (hb : replV ⟨#[c]⟩ z (.str x) = some (.str (Txt.replace x ⟨#[c]⟩ z)) → exs ((lv k).ex cx) b [("text", .str x)] st = some (Fl.next, ([("text", V.str (Txt.replace x ⟨#[c]⟩ z))] : Loc), st)) :
    (lv (k + 1)).ex cx [("text", .str x)] st (.If t b [] p) = some (Fl.next, ([("text", V.str (T (sub1 c z.cps.toList x.cps.toList)))] : Loc), st) := by
  cases h : strIn ⟨#[c]⟩ x with
  | true =>
    rw [h] at ht
    have hr : replV ⟨#[c]⟩ z (.str x) = some (.str (Txt.replace x ⟨#[c]⟩ z)) := by
      refine if_pos ⟨hne, ?_⟩
      have : (x.length + 1) * z.length ≤ (x.length + 1) * 6 := Nat.mul_le_mul_left _ hz
      omega
    have e : T (sub1 c z.cps.toList x.cps.toList) = Txt.replace x ⟨#[c]⟩ z := by rw [← replace_list, T_of]
    rw [e]
    exact ex_if (c := true) ht (hb hr)
  | false =>
    rw [h] at ht
    have hn : c ∉ x.cps.toList := by
      have := (one_in c x).symm.trans h
      simpa using this
    rw [sub1_free hn, T_of]
    exact ex_if (c := false) ht rfl
theorem T_len (l : List Nat) : (T l).length = l.length := by rw [PySem.W.KWk.len_list, T_list]
theorem app_nil {α : Type} (l : List α) : l ++ [] = l := List.append_nil l

noncomputable abbrev tryB (s : Stmt) : List Stmt := fB s
noncomputable def esAt (P : Params) (a i : Nat) : Stmt := sAt (tryB (sAt (bodyAt (hd.heap_1 P) a) 0)) i

noncomputable def esc216 (l : List Nat) : List Nat := (sub1 62 [38, 103, 116, 59] (sub1 60 [38, 108, 116, 59] (sub1 38 [38, 97, 109, 112, 59] l)))
theorem esc216_val (P : Params) (x : Str) (st : Hp) (hx : x.length * 36 ≤ 2000000) : usr P p0 216 ["text"] [.str x] st = some (.str (T (esc216 x.cps.toList)), st) := by
  have h0 := PySem.W.KWk.len_list (r := x)
  have l0 := sub1_len 38 [38, 97, 109, 112, 59] (by decide) x.cps.toList
  have l1 := sub1_len 60 [38, 108, 116, 59] (by decide) (sub1 38 [38, 97, 109, 112, 59] x.cps.toList)
  have s0 : (lv 11).ex (mkCx (scopeAt (hd.heap_1 P) 216) p0) [("text", .str x)] st (esAt P 216 0) = some (Fl.next, ([("text", V.str (T (sub1 38 [38, 97, 109, 112, 59] x.cps.toList)))] : Loc), st) :=
    esc_if (x := x) 38 "&amp;" (by decide) rfl (by omega) (tv_cmp (a := .str "&") (b := .str x) rfl rfl rfl rfl) (fun hr => exs_next (ex_assign rfl (ev_repl (a := .str x) rfl rfl rfl hr)) rfl)
  have s1 : (lv 11).ex (mkCx (scopeAt (hd.heap_1 P) 216) p0) [("text", .str (T (sub1 38 [38, 97, 109, 112, 59] x.cps.toList)))] st (esAt P 216 1) = some (Fl.next, ([("text", V.str (T (sub1 60 [38, 108, 116, 59] (T (sub1 38 [38, 97, 109, 112, 59] x.cps.toList)).cps.toList)))] : Loc), st) :=
    esc_if (x := (T (sub1 38 [38, 97, 109, 112, 59] x.cps.toList))) 60 "&lt;" (by decide) rfl (by rw [T_len]; omega) (tv_cmp (a := .str "<") (b := .str (T (sub1 38 [38, 97, 109, 112, 59] x.cps.toList))) rfl rfl rfl rfl) (fun hr => exs_next (ex_assign rfl (ev_repl (a := .str (T (sub1 38 [38, 97, 109, 112, 59] x.cps.toList))) rfl rfl rfl hr)) rfl)
  rw [T_list] at s1
  have s2 : (lv 11).ex (mkCx (scopeAt (hd.heap_1 P) 216) p0) [("text", .str (T (sub1 60 [38, 108, 116, 59] (sub1 38 [38, 97, 109, 112, 59] x.cps.toList))))] st (esAt P 216 2) = some (Fl.next, ([("text", V.str (T (sub1 62 [38, 103, 116, 59] (T (sub1 60 [38, 108, 116, 59] (sub1 38 [38, 97, 109, 112, 59] x.cps.toList))).cps.toList)))] : Loc), st) :=
    esc_if (x := (T (sub1 60 [38, 108, 116, 59] (sub1 38 [38, 97, 109, 112, 59] x.cps.toList)))) 62 "&gt;" (by decide) rfl (by rw [T_len]; omega) (tv_cmp (a := .str ">") (b := .str (T (sub1 60 [38, 108, 116, 59] (sub1 38 [38, 97, 109, 112, 59] x.cps.toList)))) rfl rfl rfl rfl) (fun hr => exs_next (ex_assign rfl (ev_repl (a := .str (T (sub1 60 [38, 108, 116, 59] (sub1 38 [38, 97, 109, 112, 59] x.cps.toList)))) rfl rfl rfl hr)) rfl)
  rw [T_list] at s2
  exact usr_of (f := .ret (.str (T (esc216 x.cps.toList)))) rfl (exs_ret (ex_try (exs_next s0 (exs_next s1 (exs_next s2 (exs_ret (ex_ret rfl))))))) rfl
noncomputable def esc223 (l : List Nat) : List Nat := (sub1 9 [38, 35, 48, 57, 59] (sub1 10 [38, 35, 49, 48, 59] (sub1 13 [38, 35, 49, 51, 59] (sub1 34 [38, 113, 117, 111, 116, 59] (sub1 62 [38, 103, 116, 59] (sub1 60 [38, 108, 116, 59] (sub1 38 [38, 97, 109, 112, 59] l)))))))
theorem esc223_val (P : Params) (x : Str) (st : Hp) (hx : x.length * 46656 ≤ 2000000) : usr P p0 223 ["text"] [.str x] st = some (.str (T (esc223 x.cps.toList)), st) := by
  have h0 := PySem.W.KWk.len_list (r := x)
  have l0 := sub1_len 38 [38, 97, 109, 112, 59] (by decide) x.cps.toList
  have l1 := sub1_len 60 [38, 108, 116, 59] (by decide) (sub1 38 [38, 97, 109, 112, 59] x.cps.toList)
  have l2 := sub1_len 62 [38, 103, 116, 59] (by decide) (sub1 60 [38, 108, 116, 59] (sub1 38 [38, 97, 109, 112, 59] x.cps.toList))
  have l3 := sub1_len 34 [38, 113, 117, 111, 116, 59] (by decide) (sub1 62 [38, 103, 116, 59] (sub1 60 [38, 108, 116, 59] (sub1 38 [38, 97, 109, 112, 59] x.cps.toList)))
  have l4 := sub1_len 13 [38, 35, 49, 51, 59] (by decide) (sub1 34 [38, 113, 117, 111, 116, 59] (sub1 62 [38, 103, 116, 59] (sub1 60 [38, 108, 116, 59] (sub1 38 [38, 97, 109, 112, 59] x.cps.toList))))
  have l5 := sub1_len 10 [38, 35, 49, 48, 59] (by decide) (sub1 13 [38, 35, 49, 51, 59] (sub1 34 [38, 113, 117, 111, 116, 59] (sub1 62 [38, 103, 116, 59] (sub1 60 [38, 108, 116, 59] (sub1 38 [38, 97, 109, 112, 59] x.cps.toList)))))
  have s0 : (lv 11).ex (mkCx (scopeAt (hd.heap_1 P) 223) p0) [("text", .str x)] st (esAt P 223 0) = some (Fl.next, ([("text", V.str (T (sub1 38 [38, 97, 109, 112, 59] x.cps.toList)))] : Loc), st) :=
    esc_if (x := x) 38 "&amp;" (by decide) rfl (by omega) (tv_cmp (a := .str "&") (b := .str x) rfl rfl rfl rfl) (fun hr => exs_next (ex_assign rfl (ev_repl (a := .str x) rfl rfl rfl hr)) rfl)
  have s1 : (lv 11).ex (mkCx (scopeAt (hd.heap_1 P) 223) p0) [("text", .str (T (sub1 38 [38, 97, 109, 112, 59] x.cps.toList)))] st (esAt P 223 1) = some (Fl.next, ([("text", V.str (T (sub1 60 [38, 108, 116, 59] (T (sub1 38 [38, 97, 109, 112, 59] x.cps.toList)).cps.toList)))] : Loc), st) :=
    esc_if (x := (T (sub1 38 [38, 97, 109, 112, 59] x.cps.toList))) 60 "&lt;" (by decide) rfl (by rw [T_len]; omega) (tv_cmp (a := .str "<") (b := .str (T (sub1 38 [38, 97, 109, 112, 59] x.cps.toList))) rfl rfl rfl rfl) (fun hr => exs_next (ex_assign rfl (ev_repl (a := .str (T (sub1 38 [38, 97, 109, 112, 59] x.cps.toList))) rfl rfl rfl hr)) rfl)
  rw [T_list] at s1
  have s2 : (lv 11).ex (mkCx (scopeAt (hd.heap_1 P) 223) p0) [("text", .str (T (sub1 60 [38, 108, 116, 59] (sub1 38 [38, 97, 109, 112, 59] x.cps.toList))))] st (esAt P 223 2) = some (Fl.next, ([("text", V.str (T (sub1 62 [38, 103, 116, 59] (T (sub1 60 [38, 108, 116, 59] (sub1 38 [38, 97, 109, 112, 59] x.cps.toList))).cps.toList)))] : Loc), st) :=
    esc_if (x := (T (sub1 60 [38, 108, 116, 59] (sub1 38 [38, 97, 109, 112, 59] x.cps.toList)))) 62 "&gt;" (by decide) rfl (by rw [T_len]; omega) (tv_cmp (a := .str ">") (b := .str (T (sub1 60 [38, 108, 116, 59] (sub1 38 [38, 97, 109, 112, 59] x.cps.toList)))) rfl rfl rfl rfl) (fun hr => exs_next (ex_assign rfl (ev_repl (a := .str (T (sub1 60 [38, 108, 116, 59] (sub1 38 [38, 97, 109, 112, 59] x.cps.toList)))) rfl rfl rfl hr)) rfl)
  rw [T_list] at s2
  have s3 : (lv 11).ex (mkCx (scopeAt (hd.heap_1 P) 223) p0) [("text", .str (T (sub1 62 [38, 103, 116, 59] (sub1 60 [38, 108, 116, 59] (sub1 38 [38, 97, 109, 112, 59] x.cps.toList)))))] st (esAt P 223 3) = some (Fl.next, ([("text", V.str (T (sub1 34 [38, 113, 117, 111, 116, 59] (T (sub1 62 [38, 103, 116, 59] (sub1 60 [38, 108, 116, 59] (sub1 38 [38, 97, 109, 112, 59] x.cps.toList)))).cps.toList)))] : Loc), st) :=
    esc_if (x := (T (sub1 62 [38, 103, 116, 59] (sub1 60 [38, 108, 116, 59] (sub1 38 [38, 97, 109, 112, 59] x.cps.toList))))) 34 "&quot;" (by decide) rfl (by rw [T_len]; omega) (tv_cmp (a := .str "\"") (b := .str (T (sub1 62 [38, 103, 116, 59] (sub1 60 [38, 108, 116, 59] (sub1 38 [38, 97, 109, 112, 59] x.cps.toList))))) rfl rfl rfl rfl) (fun hr => exs_next (ex_assign rfl (ev_repl (a := .str (T (sub1 62 [38, 103, 116, 59] (sub1 60 [38, 108, 116, 59] (sub1 38 [38, 97, 109, 112, 59] x.cps.toList))))) rfl rfl rfl hr)) rfl)
  rw [T_list] at s3
  have s4 : (lv 11).ex (mkCx (scopeAt (hd.heap_1 P) 223) p0) [("text", .str (T (sub1 34 [38, 113, 117, 111, 116, 59] (sub1 62 [38, 103, 116, 59] (sub1 60 [38, 108, 116, 59] (sub1 38 [38, 97, 109, 112, 59] x.cps.toList))))))] st (esAt P 223 4) = some (Fl.next, ([("text", V.str (T (sub1 13 [38, 35, 49, 51, 59] (T (sub1 34 [38, 113, 117, 111, 116, 59] (sub1 62 [38, 103, 116, 59] (sub1 60 [38, 108, 116, 59] (sub1 38 [38, 97, 109, 112, 59] x.cps.toList))))).cps.toList)))] : Loc), st) :=
    esc_if (x := (T (sub1 34 [38, 113, 117, 111, 116, 59] (sub1 62 [38, 103, 116, 59] (sub1 60 [38, 108, 116, 59] (sub1 38 [38, 97, 109, 112, 59] x.cps.toList)))))) 13 "&#13;" (by decide) rfl (by rw [T_len]; omega) (tv_cmp (a := .str "\r") (b := .str (T (sub1 34 [38, 113, 117, 111, 116, 59] (sub1 62 [38, 103, 116, 59] (sub1 60 [38, 108, 116, 59] (sub1 38 [38, 97, 109, 112, 59] x.cps.toList)))))) rfl rfl rfl rfl) (fun hr => exs_next (ex_assign rfl (ev_repl (a := .str (T (sub1 34 [38, 113, 117, 111, 116, 59] (sub1 62 [38, 103, 116, 59] (sub1 60 [38, 108, 116, 59] (sub1 38 [38, 97, 109, 112, 59] x.cps.toList)))))) rfl rfl rfl hr)) rfl)
  rw [T_list] at s4
  have s5 : (lv 11).ex (mkCx (scopeAt (hd.heap_1 P) 223) p0) [("text", .str (T (sub1 13 [38, 35, 49, 51, 59] (sub1 34 [38, 113, 117, 111, 116, 59] (sub1 62 [38, 103, 116, 59] (sub1 60 [38, 108, 116, 59] (sub1 38 [38, 97, 109, 112, 59] x.cps.toList)))))))] st (esAt P 223 5) = some (Fl.next, ([("text", V.str (T (sub1 10 [38, 35, 49, 48, 59] (T (sub1 13 [38, 35, 49, 51, 59] (sub1 34 [38, 113, 117, 111, 116, 59] (sub1 62 [38, 103, 116, 59] (sub1 60 [38, 108, 116, 59] (sub1 38 [38, 97, 109, 112, 59] x.cps.toList)))))).cps.toList)))] : Loc), st) :=
    esc_if (x := (T (sub1 13 [38, 35, 49, 51, 59] (sub1 34 [38, 113, 117, 111, 116, 59] (sub1 62 [38, 103, 116, 59] (sub1 60 [38, 108, 116, 59] (sub1 38 [38, 97, 109, 112, 59] x.cps.toList))))))) 10 "&#10;" (by decide) rfl (by rw [T_len]; omega) (tv_cmp (a := .str "\n") (b := .str (T (sub1 13 [38, 35, 49, 51, 59] (sub1 34 [38, 113, 117, 111, 116, 59] (sub1 62 [38, 103, 116, 59] (sub1 60 [38, 108, 116, 59] (sub1 38 [38, 97, 109, 112, 59] x.cps.toList))))))) rfl rfl rfl rfl) (fun hr => exs_next (ex_assign rfl (ev_repl (a := .str (T (sub1 13 [38, 35, 49, 51, 59] (sub1 34 [38, 113, 117, 111, 116, 59] (sub1 62 [38, 103, 116, 59] (sub1 60 [38, 108, 116, 59] (sub1 38 [38, 97, 109, 112, 59] x.cps.toList))))))) rfl rfl rfl hr)) rfl)
  rw [T_list] at s5
  have s6 : (lv 11).ex (mkCx (scopeAt (hd.heap_1 P) 223) p0) [("text", .str (T (sub1 10 [38, 35, 49, 48, 59] (sub1 13 [38, 35, 49, 51, 59] (sub1 34 [38, 113, 117, 111, 116, 59] (sub1 62 [38, 103, 116, 59] (sub1 60 [38, 108, 116, 59] (sub1 38 [38, 97, 109, 112, 59] x.cps.toList))))))))] st (esAt P 223 6) = some (Fl.next, ([("text", V.str (T (sub1 9 [38, 35, 48, 57, 59] (T (sub1 10 [38, 35, 49, 48, 59] (sub1 13 [38, 35, 49, 51, 59] (sub1 34 [38, 113, 117, 111, 116, 59] (sub1 62 [38, 103, 116, 59] (sub1 60 [38, 108, 116, 59] (sub1 38 [38, 97, 109, 112, 59] x.cps.toList))))))).cps.toList)))] : Loc), st) :=
    esc_if (x := (T (sub1 10 [38, 35, 49, 48, 59] (sub1 13 [38, 35, 49, 51, 59] (sub1 34 [38, 113, 117, 111, 116, 59] (sub1 62 [38, 103, 116, 59] (sub1 60 [38, 108, 116, 59] (sub1 38 [38, 97, 109, 112, 59] x.cps.toList)))))))) 9 "&#09;" (by decide) rfl (by rw [T_len]; omega) (tv_cmp (a := .str "\t") (b := .str (T (sub1 10 [38, 35, 49, 48, 59] (sub1 13 [38, 35, 49, 51, 59] (sub1 34 [38, 113, 117, 111, 116, 59] (sub1 62 [38, 103, 116, 59] (sub1 60 [38, 108, 116, 59] (sub1 38 [38, 97, 109, 112, 59] x.cps.toList)))))))) rfl rfl rfl rfl) (fun hr => exs_next (ex_assign rfl (ev_repl (a := .str (T (sub1 10 [38, 35, 49, 48, 59] (sub1 13 [38, 35, 49, 51, 59] (sub1 34 [38, 113, 117, 111, 116, 59] (sub1 62 [38, 103, 116, 59] (sub1 60 [38, 108, 116, 59] (sub1 38 [38, 97, 109, 112, 59] x.cps.toList)))))))) rfl rfl rfl hr)) rfl)
  rw [T_list] at s6
  exact usr_of (f := .ret (.str (T (esc223 x.cps.toList)))) rfl (exs_ret (ex_try (exs_next s0 (exs_next s1 (exs_next s2 (exs_next s3 (exs_next s4 (exs_next s5 (exs_next s6 (exs_ret (ex_ret rfl))))))))))) rfl
noncomputable def esc230 (l : List Nat) : List Nat := (sub1 34 [38, 113, 117, 111, 116, 59] (sub1 62 [38, 103, 116, 59] (sub1 38 [38, 97, 109, 112, 59] l)))
theorem esc230_val (P : Params) (x : Str) (st : Hp) (hx : x.length * 36 ≤ 2000000) : usr P p0 230 ["text"] [.str x] st = some (.str (T (esc230 x.cps.toList)), st) := by
  have h0 := PySem.W.KWk.len_list (r := x)
  have l0 := sub1_len 38 [38, 97, 109, 112, 59] (by decide) x.cps.toList
  have l1 := sub1_len 62 [38, 103, 116, 59] (by decide) (sub1 38 [38, 97, 109, 112, 59] x.cps.toList)
  have s0 : (lv 11).ex (mkCx (scopeAt (hd.heap_1 P) 230) p0) [("text", .str x)] st (esAt P 230 0) = some (Fl.next, ([("text", V.str (T (sub1 38 [38, 97, 109, 112, 59] x.cps.toList)))] : Loc), st) :=
    esc_if (x := x) 38 "&amp;" (by decide) rfl (by omega) (tv_cmp (a := .str "&") (b := .str x) rfl rfl rfl rfl) (fun hr => exs_next (ex_assign rfl (ev_repl (a := .str x) rfl rfl rfl hr)) rfl)
  have s1 : (lv 11).ex (mkCx (scopeAt (hd.heap_1 P) 230) p0) [("text", .str (T (sub1 38 [38, 97, 109, 112, 59] x.cps.toList)))] st (esAt P 230 1) = some (Fl.next, ([("text", V.str (T (sub1 62 [38, 103, 116, 59] (T (sub1 38 [38, 97, 109, 112, 59] x.cps.toList)).cps.toList)))] : Loc), st) :=
    esc_if (x := (T (sub1 38 [38, 97, 109, 112, 59] x.cps.toList))) 62 "&gt;" (by decide) rfl (by rw [T_len]; omega) (tv_cmp (a := .str ">") (b := .str (T (sub1 38 [38, 97, 109, 112, 59] x.cps.toList))) rfl rfl rfl rfl) (fun hr => exs_next (ex_assign rfl (ev_repl (a := .str (T (sub1 38 [38, 97, 109, 112, 59] x.cps.toList))) rfl rfl rfl hr)) rfl)
  rw [T_list] at s1
  have s2 : (lv 11).ex (mkCx (scopeAt (hd.heap_1 P) 230) p0) [("text", .str (T (sub1 62 [38, 103, 116, 59] (sub1 38 [38, 97, 109, 112, 59] x.cps.toList))))] st (esAt P 230 2) = some (Fl.next, ([("text", V.str (T (sub1 34 [38, 113, 117, 111, 116, 59] (T (sub1 62 [38, 103, 116, 59] (sub1 38 [38, 97, 109, 112, 59] x.cps.toList))).cps.toList)))] : Loc), st) :=
    esc_if (x := (T (sub1 62 [38, 103, 116, 59] (sub1 38 [38, 97, 109, 112, 59] x.cps.toList)))) 34 "&quot;" (by decide) rfl (by rw [T_len]; omega) (tv_cmp (a := .str "\"") (b := .str (T (sub1 62 [38, 103, 116, 59] (sub1 38 [38, 97, 109, 112, 59] x.cps.toList)))) rfl rfl rfl rfl) (fun hr => exs_next (ex_assign rfl (ev_repl (a := .str (T (sub1 62 [38, 103, 116, 59] (sub1 38 [38, 97, 109, 112, 59] x.cps.toList)))) rfl rfl rfl hr)) rfl)
  rw [T_list] at s2
  exact usr_of (f := .ret (.str (T (esc230 x.cps.toList)))) rfl (exs_ret (ex_try (exs_next s0 (exs_next s1 (exs_next s2 (exs_ret (ex_ret rfl))))))) rfl
noncomputable def esc340 (l : List Nat) : List Nat := (sub1 13 [38, 35, 120, 68, 59] (sub1 62 [38, 103, 116, 59] (sub1 60 [38, 108, 116, 59] (sub1 38 [38, 97, 109, 112, 59] l))))
theorem esc340_val (P : Params) (x : Str) (st : Hp) (hx : x.length * 216 ≤ 2000000) : usr P p0 340 ["text"] [.str x] st = some (.str (T (esc340 x.cps.toList)), st) := by
  have h0 := PySem.W.KWk.len_list (r := x)
  have l0 := sub1_len 38 [38, 97, 109, 112, 59] (by decide) x.cps.toList
  have l1 := sub1_len 60 [38, 108, 116, 59] (by decide) (sub1 38 [38, 97, 109, 112, 59] x.cps.toList)
  have l2 := sub1_len 62 [38, 103, 116, 59] (by decide) (sub1 60 [38, 108, 116, 59] (sub1 38 [38, 97, 109, 112, 59] x.cps.toList))
  have s0 : (lv 11).ex (mkCx (scopeAt (hd.heap_1 P) 340) p0) [("text", .str x)] st (esAt P 340 0) = some (Fl.next, ([("text", V.str (T (sub1 38 [38, 97, 109, 112, 59] x.cps.toList)))] : Loc), st) :=
    esc_if (x := x) 38 "&amp;" (by decide) rfl (by omega) (tv_cmp (a := .str "&") (b := .str x) rfl rfl rfl rfl) (fun hr => exs_next (ex_assign rfl (ev_repl (a := .str x) rfl rfl rfl hr)) rfl)
  have s1 : (lv 11).ex (mkCx (scopeAt (hd.heap_1 P) 340) p0) [("text", .str (T (sub1 38 [38, 97, 109, 112, 59] x.cps.toList)))] st (esAt P 340 1) = some (Fl.next, ([("text", V.str (T (sub1 60 [38, 108, 116, 59] (T (sub1 38 [38, 97, 109, 112, 59] x.cps.toList)).cps.toList)))] : Loc), st) :=
    esc_if (x := (T (sub1 38 [38, 97, 109, 112, 59] x.cps.toList))) 60 "&lt;" (by decide) rfl (by rw [T_len]; omega) (tv_cmp (a := .str "<") (b := .str (T (sub1 38 [38, 97, 109, 112, 59] x.cps.toList))) rfl rfl rfl rfl) (fun hr => exs_next (ex_assign rfl (ev_repl (a := .str (T (sub1 38 [38, 97, 109, 112, 59] x.cps.toList))) rfl rfl rfl hr)) rfl)
  rw [T_list] at s1
  have s2 : (lv 11).ex (mkCx (scopeAt (hd.heap_1 P) 340) p0) [("text", .str (T (sub1 60 [38, 108, 116, 59] (sub1 38 [38, 97, 109, 112, 59] x.cps.toList))))] st (esAt P 340 2) = some (Fl.next, ([("text", V.str (T (sub1 62 [38, 103, 116, 59] (T (sub1 60 [38, 108, 116, 59] (sub1 38 [38, 97, 109, 112, 59] x.cps.toList))).cps.toList)))] : Loc), st) :=
    esc_if (x := (T (sub1 60 [38, 108, 116, 59] (sub1 38 [38, 97, 109, 112, 59] x.cps.toList)))) 62 "&gt;" (by decide) rfl (by rw [T_len]; omega) (tv_cmp (a := .str ">") (b := .str (T (sub1 60 [38, 108, 116, 59] (sub1 38 [38, 97, 109, 112, 59] x.cps.toList)))) rfl rfl rfl rfl) (fun hr => exs_next (ex_assign rfl (ev_repl (a := .str (T (sub1 60 [38, 108, 116, 59] (sub1 38 [38, 97, 109, 112, 59] x.cps.toList)))) rfl rfl rfl hr)) rfl)
  rw [T_list] at s2
  have s3 : (lv 11).ex (mkCx (scopeAt (hd.heap_1 P) 340) p0) [("text", .str (T (sub1 62 [38, 103, 116, 59] (sub1 60 [38, 108, 116, 59] (sub1 38 [38, 97, 109, 112, 59] x.cps.toList)))))] st (esAt P 340 3) = some (Fl.next, ([("text", V.str (T (sub1 13 [38, 35, 120, 68, 59] (T (sub1 62 [38, 103, 116, 59] (sub1 60 [38, 108, 116, 59] (sub1 38 [38, 97, 109, 112, 59] x.cps.toList)))).cps.toList)))] : Loc), st) :=
    esc_if (x := (T (sub1 62 [38, 103, 116, 59] (sub1 60 [38, 108, 116, 59] (sub1 38 [38, 97, 109, 112, 59] x.cps.toList))))) 13 "&#xD;" (by decide) rfl (by rw [T_len]; omega) (tv_cmp (a := .str "\r") (b := .str (T (sub1 62 [38, 103, 116, 59] (sub1 60 [38, 108, 116, 59] (sub1 38 [38, 97, 109, 112, 59] x.cps.toList))))) rfl rfl rfl rfl) (fun hr => exs_next (ex_assign rfl (ev_repl (a := .str (T (sub1 62 [38, 103, 116, 59] (sub1 60 [38, 108, 116, 59] (sub1 38 [38, 97, 109, 112, 59] x.cps.toList))))) rfl rfl rfl hr)) rfl)
  rw [T_list] at s3
  exact usr_of (f := .ret (.str (T (esc340 x.cps.toList)))) rfl (exs_ret (ex_try (exs_next s0 (exs_next s1 (exs_next s2 (exs_next s3 (exs_ret (ex_ret rfl)))))))) rfl
noncomputable def esc347 (l : List Nat) : List Nat := (sub1 13 [38, 35, 120, 68, 59] (sub1 10 [38, 35, 120, 65, 59] (sub1 9 [38, 35, 120, 57, 59] (sub1 34 [38, 113, 117, 111, 116, 59] (sub1 60 [38, 108, 116, 59] (sub1 38 [38, 97, 109, 112, 59] l))))))
theorem esc347_val (P : Params) (x : Str) (st : Hp) (hx : x.length * 7776 ≤ 2000000) : usr P p0 347 ["text"] [.str x] st = some (.str (T (esc347 x.cps.toList)), st) := by
  have h0 := PySem.W.KWk.len_list (r := x)
  have l0 := sub1_len 38 [38, 97, 109, 112, 59] (by decide) x.cps.toList
  have l1 := sub1_len 60 [38, 108, 116, 59] (by decide) (sub1 38 [38, 97, 109, 112, 59] x.cps.toList)
  have l2 := sub1_len 34 [38, 113, 117, 111, 116, 59] (by decide) (sub1 60 [38, 108, 116, 59] (sub1 38 [38, 97, 109, 112, 59] x.cps.toList))
  have l3 := sub1_len 9 [38, 35, 120, 57, 59] (by decide) (sub1 34 [38, 113, 117, 111, 116, 59] (sub1 60 [38, 108, 116, 59] (sub1 38 [38, 97, 109, 112, 59] x.cps.toList)))
  have l4 := sub1_len 10 [38, 35, 120, 65, 59] (by decide) (sub1 9 [38, 35, 120, 57, 59] (sub1 34 [38, 113, 117, 111, 116, 59] (sub1 60 [38, 108, 116, 59] (sub1 38 [38, 97, 109, 112, 59] x.cps.toList))))
  have s0 : (lv 11).ex (mkCx (scopeAt (hd.heap_1 P) 347) p0) [("text", .str x)] st (esAt P 347 0) = some (Fl.next, ([("text", V.str (T (sub1 38 [38, 97, 109, 112, 59] x.cps.toList)))] : Loc), st) :=
    esc_if (x := x) 38 "&amp;" (by decide) rfl (by omega) (tv_cmp (a := .str "&") (b := .str x) rfl rfl rfl rfl) (fun hr => exs_next (ex_assign rfl (ev_repl (a := .str x) rfl rfl rfl hr)) rfl)
  have s1 : (lv 11).ex (mkCx (scopeAt (hd.heap_1 P) 347) p0) [("text", .str (T (sub1 38 [38, 97, 109, 112, 59] x.cps.toList)))] st (esAt P 347 1) = some (Fl.next, ([("text", V.str (T (sub1 60 [38, 108, 116, 59] (T (sub1 38 [38, 97, 109, 112, 59] x.cps.toList)).cps.toList)))] : Loc), st) :=
    esc_if (x := (T (sub1 38 [38, 97, 109, 112, 59] x.cps.toList))) 60 "&lt;" (by decide) rfl (by rw [T_len]; omega) (tv_cmp (a := .str "<") (b := .str (T (sub1 38 [38, 97, 109, 112, 59] x.cps.toList))) rfl rfl rfl rfl) (fun hr => exs_next (ex_assign rfl (ev_repl (a := .str (T (sub1 38 [38, 97, 109, 112, 59] x.cps.toList))) rfl rfl rfl hr)) rfl)
  rw [T_list] at s1
  have s2 : (lv 11).ex (mkCx (scopeAt (hd.heap_1 P) 347) p0) [("text", .str (T (sub1 60 [38, 108, 116, 59] (sub1 38 [38, 97, 109, 112, 59] x.cps.toList))))] st (esAt P 347 2) = some (Fl.next, ([("text", V.str (T (sub1 34 [38, 113, 117, 111, 116, 59] (T (sub1 60 [38, 108, 116, 59] (sub1 38 [38, 97, 109, 112, 59] x.cps.toList))).cps.toList)))] : Loc), st) :=
    esc_if (x := (T (sub1 60 [38, 108, 116, 59] (sub1 38 [38, 97, 109, 112, 59] x.cps.toList)))) 34 "&quot;" (by decide) rfl (by rw [T_len]; omega) (tv_cmp (a := .str "\"") (b := .str (T (sub1 60 [38, 108, 116, 59] (sub1 38 [38, 97, 109, 112, 59] x.cps.toList)))) rfl rfl rfl rfl) (fun hr => exs_next (ex_assign rfl (ev_repl (a := .str (T (sub1 60 [38, 108, 116, 59] (sub1 38 [38, 97, 109, 112, 59] x.cps.toList)))) rfl rfl rfl hr)) rfl)
  rw [T_list] at s2
  have s3 : (lv 11).ex (mkCx (scopeAt (hd.heap_1 P) 347) p0) [("text", .str (T (sub1 34 [38, 113, 117, 111, 116, 59] (sub1 60 [38, 108, 116, 59] (sub1 38 [38, 97, 109, 112, 59] x.cps.toList)))))] st (esAt P 347 3) = some (Fl.next, ([("text", V.str (T (sub1 9 [38, 35, 120, 57, 59] (T (sub1 34 [38, 113, 117, 111, 116, 59] (sub1 60 [38, 108, 116, 59] (sub1 38 [38, 97, 109, 112, 59] x.cps.toList)))).cps.toList)))] : Loc), st) :=
    esc_if (x := (T (sub1 34 [38, 113, 117, 111, 116, 59] (sub1 60 [38, 108, 116, 59] (sub1 38 [38, 97, 109, 112, 59] x.cps.toList))))) 9 "&#x9;" (by decide) rfl (by rw [T_len]; omega) (tv_cmp (a := .str "\t") (b := .str (T (sub1 34 [38, 113, 117, 111, 116, 59] (sub1 60 [38, 108, 116, 59] (sub1 38 [38, 97, 109, 112, 59] x.cps.toList))))) rfl rfl rfl rfl) (fun hr => exs_next (ex_assign rfl (ev_repl (a := .str (T (sub1 34 [38, 113, 117, 111, 116, 59] (sub1 60 [38, 108, 116, 59] (sub1 38 [38, 97, 109, 112, 59] x.cps.toList))))) rfl rfl rfl hr)) rfl)
  rw [T_list] at s3
  have s4 : (lv 11).ex (mkCx (scopeAt (hd.heap_1 P) 347) p0) [("text", .str (T (sub1 9 [38, 35, 120, 57, 59] (sub1 34 [38, 113, 117, 111, 116, 59] (sub1 60 [38, 108, 116, 59] (sub1 38 [38, 97, 109, 112, 59] x.cps.toList))))))] st (esAt P 347 4) = some (Fl.next, ([("text", V.str (T (sub1 10 [38, 35, 120, 65, 59] (T (sub1 9 [38, 35, 120, 57, 59] (sub1 34 [38, 113, 117, 111, 116, 59] (sub1 60 [38, 108, 116, 59] (sub1 38 [38, 97, 109, 112, 59] x.cps.toList))))).cps.toList)))] : Loc), st) :=
    esc_if (x := (T (sub1 9 [38, 35, 120, 57, 59] (sub1 34 [38, 113, 117, 111, 116, 59] (sub1 60 [38, 108, 116, 59] (sub1 38 [38, 97, 109, 112, 59] x.cps.toList)))))) 10 "&#xA;" (by decide) rfl (by rw [T_len]; omega) (tv_cmp (a := .str "\n") (b := .str (T (sub1 9 [38, 35, 120, 57, 59] (sub1 34 [38, 113, 117, 111, 116, 59] (sub1 60 [38, 108, 116, 59] (sub1 38 [38, 97, 109, 112, 59] x.cps.toList)))))) rfl rfl rfl rfl) (fun hr => exs_next (ex_assign rfl (ev_repl (a := .str (T (sub1 9 [38, 35, 120, 57, 59] (sub1 34 [38, 113, 117, 111, 116, 59] (sub1 60 [38, 108, 116, 59] (sub1 38 [38, 97, 109, 112, 59] x.cps.toList)))))) rfl rfl rfl hr)) rfl)
  rw [T_list] at s4
  have s5 : (lv 11).ex (mkCx (scopeAt (hd.heap_1 P) 347) p0) [("text", .str (T (sub1 10 [38, 35, 120, 65, 59] (sub1 9 [38, 35, 120, 57, 59] (sub1 34 [38, 113, 117, 111, 116, 59] (sub1 60 [38, 108, 116, 59] (sub1 38 [38, 97, 109, 112, 59] x.cps.toList)))))))] st (esAt P 347 5) = some (Fl.next, ([("text", V.str (T (sub1 13 [38, 35, 120, 68, 59] (T (sub1 10 [38, 35, 120, 65, 59] (sub1 9 [38, 35, 120, 57, 59] (sub1 34 [38, 113, 117, 111, 116, 59] (sub1 60 [38, 108, 116, 59] (sub1 38 [38, 97, 109, 112, 59] x.cps.toList)))))).cps.toList)))] : Loc), st) :=
    esc_if (x := (T (sub1 10 [38, 35, 120, 65, 59] (sub1 9 [38, 35, 120, 57, 59] (sub1 34 [38, 113, 117, 111, 116, 59] (sub1 60 [38, 108, 116, 59] (sub1 38 [38, 97, 109, 112, 59] x.cps.toList))))))) 13 "&#xD;" (by decide) rfl (by rw [T_len]; omega) (tv_cmp (a := .str "\r") (b := .str (T (sub1 10 [38, 35, 120, 65, 59] (sub1 9 [38, 35, 120, 57, 59] (sub1 34 [38, 113, 117, 111, 116, 59] (sub1 60 [38, 108, 116, 59] (sub1 38 [38, 97, 109, 112, 59] x.cps.toList))))))) rfl rfl rfl rfl) (fun hr => exs_next (ex_assign rfl (ev_repl (a := .str (T (sub1 10 [38, 35, 120, 65, 59] (sub1 9 [38, 35, 120, 57, 59] (sub1 34 [38, 113, 117, 111, 116, 59] (sub1 60 [38, 108, 116, 59] (sub1 38 [38, 97, 109, 112, 59] x.cps.toList))))))) rfl rfl rfl hr)) rfl)
  rw [T_list] at s5
  exact usr_of (f := .ret (.str (T (esc347 x.cps.toList)))) rfl (exs_ret (ex_try (exs_next s0 (exs_next s1 (exs_next s2 (exs_next s3 (exs_next s4 (exs_next s5 (exs_ret (ex_ret rfl)))))))))) rfl


theorem escape_val (P : Params) (st : Hp) : ∀ p, p < 8 → ∀ h, h < 5 → usr P p0 (handA h) ["text"] [.str (piece p)] st = some (.str (spell p h), st) := by
  intro p hp h hh
  have hp : p = 0 ∨ p = 1 ∨ p = 2 ∨ p = 3 ∨ p = 4 ∨ p = 5 ∨ p = 6 ∨ p = 7 := by omega
  have hl : (piece p).length ≤ 2 := by
    rcases hp with rfl | rfl | rfl | rfl | rfl | rfl | rfl | rfl <;> decide
  have hh : h = 0 ∨ h = 1 ∨ h = 2 ∨ h = 3 ∨ h = 4 := by omega
  rcases hh with rfl | rfl | rfl | rfl | rfl
  · refine (esc216_val P (piece p) st (by omega)).trans ?_
    rcases hp with rfl | rfl | rfl | rfl | rfl | rfl | rfl | rfl <;> rfl
  · refine (esc223_val P (piece p) st (by omega)).trans ?_
    rcases hp with rfl | rfl | rfl | rfl | rfl | rfl | rfl | rfl <;> rfl
  · refine (esc230_val P (piece p) st (by omega)).trans ?_
    rcases hp with rfl | rfl | rfl | rfl | rfl | rfl | rfl | rfl <;> rfl
  · refine (esc347_val P (piece p) st (by omega)).trans ?_
    rcases hp with rfl | rfl | rfl | rfl | rfl | rfl | rfl | rfl <;> rfl
  · refine (esc340_val P (piece p) st (by omega)).trans ?_
    rcases hp with rfl | rfl | rfl | rfl | rfl | rfl | rfl | rfl <;> rfl

theorem spelled_val (P : Params) (st : Hp) : ∀ p, p < 8 → ∀ h, h < 5 → ∃ g, usr P p0 366 ["piece", "hand"] [.str (piece p), .int (h : Nat)] st = some (.str (spell p h), st ++ g) := by
  intro p hp h hh
  have hin : ∀ i : Int, cmpV .In (.int i) (.lst st.length) (st ++ [[.int 1, .int 2, .int 3]]) = intsIn i [.int 1, .int 2, .int 3] := fun i => by
    show ((st ++ [[V.int 1, .int 2, .int 3]])[st.length]?).bind (intsIn i) = _
    rw [get_last]; rfl
  have hp : p = 0 ∨ p = 1 ∨ p = 2 ∨ p = 3 ∨ p = 4 ∨ p = 5 ∨ p = 6 ∨ p = 7 := by omega
  have hh : h = 0 ∨ h = 1 ∨ h = 2 ∨ h = 3 ∨ h = 4 := by omega
  rcases hp with rfl | rfl | rfl | rfl | rfl | rfl | rfl | rfl
  case inr.inr.inl =>
    rcases hh with rfl | rfl | rfl | rfl | rfl
    · exact ⟨_, usr_of (f := .ret (.str "\"")) rfl (exs_next (ex_if (c := false) (tv_and (tvs_go (tv_cmp (a := .str "\"") (b := .str "\"") rfl rfl rfl rfl) (tvs_stop (tv_cmp (a := .int 0) (b := .lst st.length) rfl rfl rfl (hin 0))))) rfl) rfl) rfl⟩
    · exact ⟨_, usr_of (f := .ret (.str "&quot;")) rfl (exs_ret (ex_if (c := true) (tv_and (tvs_go (tv_cmp (a := .str "\"") (b := .str "\"") rfl rfl rfl rfl) (tvs_go (tv_cmp (a := .int 1) (b := .lst st.length) rfl rfl rfl (hin 1)) rfl))) (exs_ret rfl))) rfl⟩
    · exact ⟨_, usr_of (f := .ret (.str "&quot;")) rfl (exs_ret (ex_if (c := true) (tv_and (tvs_go (tv_cmp (a := .str "\"") (b := .str "\"") rfl rfl rfl rfl) (tvs_go (tv_cmp (a := .int 2) (b := .lst st.length) rfl rfl rfl (hin 2)) rfl))) (exs_ret rfl))) rfl⟩
    · exact ⟨_, usr_of (f := .ret (.str "&quot;")) rfl (exs_ret (ex_if (c := true) (tv_and (tvs_go (tv_cmp (a := .str "\"") (b := .str "\"") rfl rfl rfl rfl) (tvs_go (tv_cmp (a := .int 3) (b := .lst st.length) rfl rfl rfl (hin 3)) rfl))) (exs_ret rfl))) rfl⟩
    · exact ⟨_, usr_of (f := .ret (.str "\"")) rfl (exs_next (ex_if (c := false) (tv_and (tvs_go (tv_cmp (a := .str "\"") (b := .str "\"") rfl rfl rfl rfl) (tvs_stop (tv_cmp (a := .int 4) (b := .lst st.length) rfl rfl rfl (hin 4))))) rfl) rfl) rfl⟩
  all_goals (rcases hh with rfl | rfl | rfl | rfl | rfl <;> exact ⟨[], by rw [List.append_nil]; rfl⟩)
end Uq
end

section
open PySem PySem.Calls PyProof.Rows PySem.W
namespace Uq
open Builtin Builtin.Str

structure D where
  l : Nat
  u : Bool
  p : Nat
  h : Nat
structure D.ok (d : D) : Prop where
  l : d.l < 3
  p : d.p < 8
  h : d.h < 5
noncomputable def nm : Nat → Bool → Str
  | 0, false => "a"
  | 0, true => "A"
  | 1, false => "b"
  | 1, true => "B"
  | _, false => "c"
  | _, true => "C"
noncomputable def D.n (d : D) : Str := nm d.l d.u
noncomputable def D.v (d : D) : V := .tup [.str d.n, .str (piece d.p), .int (d.h : Nat)]
noncomputable def D.s (d : D) : Str := spell d.p d.h
theorem lower_nm (l : Nat) (u : Bool) (h : l < 3) (st : Hp) : smethU (nm l u) "lower" [] st = some (.str (nm l false), st) := by
  have : l = 0 ∨ l = 1 ∨ l = 2 := by omega
  rcases this with rfl | rfl | rfl <;> cases u <;> rfl
theorem swap_nm (l : Nat) (u : Bool) (h : l < 3) (st : Hp) : smethU (nm l u) "swapcase" [] st = some (.str (nm l (!u)), st) := by
  have : l = 0 ∨ l = 1 ∨ l = 2 := by omega
  rcases this with rfl | rfl | rfl <;> cases u <;> rfl
theorem upper_nm (l : Nat) (h : l < 3) (st : Hp) : smethU (nm l false) "upper" [] st = some (.str (nm l true), st) := by
  have : l = 0 ∨ l = 1 ∨ l = 2 := by omega
  rcases this with rfl | rfl | rfl <;> rfl
theorem nm_eq (a b : Nat) (ha : a < 3) (hb : b < 3) : (nm a false == nm b false) = (a == b) := by
  have h1 : a = 0 ∨ a = 1 ∨ a = 2 := by omega
  have h2 : b = 0 ∨ b = 1 ∨ b = 2 := by omega
  rcases h1 with rfl | rfl | rfl <;> rcases h2 with rfl | rfl | rfl <;> rfl
theorem spell_len (p h : Nat) (hp : p < 8) (hh : h < 5) : (spell p h).length ≤ 6 := by
  have h1 : p = 0 ∨ p = 1 ∨ p = 2 ∨ p = 3 ∨ p = 4 ∨ p = 5 ∨ p = 6 ∨ p = 7 := by omega
  have h2 : h = 0 ∨ h = 1 ∨ h = 2 ∨ h = 3 ∨ h = 4 := by omega
  rcases h1 with rfl | rfl | rfl | rfl | rfl | rfl | rfl | rfl <;> rcases h2 with rfl | rfl | rfl | rfl | rfl <;> decide
end Uq
end

section
open PySem PySem.Calls PyProof.Rows PySem.W
namespace Uq
open Builtin Builtin.Str

noncomputable abbrev Ent := Nat × Str × Str
noncomputable def sv (e : Ent) : V := .tup [.int (e.1 : Nat), .str e.2.1, .str e.2.2]
noncomputable def S376 (P : Params) (i : Nat) : Stmt := sAt (bodyAt (hd.heap_1 P) 376) i
noncomputable def cx376 (P : Params) : Cx := mkCx (scopeAt (hd.heap_1 P) 376) (p1 P)
/-- the state: what was there, the two lists, what was made since -/
noncomputable def St (st0 : Hp) (sent left : List Ent) (g : Hp) : Hp := st0 ++ (sent.map sv :: left.map sv :: g)
theorem St_app (st0 : Hp) (sent left : List Ent) (g g' : Hp) : St st0 sent left g ++ g' = St st0 sent left (g ++ g') := by simp [St]
theorem St_sent (st0 : Hp) (sent left : List Ent) (g : Hp) : (St st0 sent left g)[st0.length]? = some (sent.map sv) := by simp [St]
theorem St_left (st0 : Hp) (sent left : List Ent) (g : Hp) : (St st0 sent left g)[st0.length + 1]? = some (left.map sv) := by simp [St, List.getElem?_append_right]
theorem St_setS (st0 : Hp) (sent left : List Ent) (g : Hp) (e : Ent) : (St st0 sent left g).set st0.length (sent.map sv ++ [sv e]) = St st0 (sent ++ [e]) left g := by simp [St]
theorem St_setL (st0 : Hp) (sent left : List Ent) (g : Hp) (e : Ent) : (St st0 sent left g).set (st0.length + 1) (left.map sv ++ [sv e]) = St st0 sent (left ++ [e]) g := by
  simp [St, List.set_append_right]
theorem St_old {st0 : Hp} {j : Nat} {xs : List V} (h : st0[j]? = some xs) (sent left : List Ent) (g : Hp) : (St st0 sent left g)[j]? = some xs := get_old h _

noncomputable def lt (j n : Nat) (letter draft : Str) (lk : Nat) (ln : Str) : Loc := [("deeds", .lst j), ("sent", .lst n), ("left", .lst (n + 1)), ("letter", .str letter), ("draft", .str draft), ("last", .tup [.int (lk : Nat), .str ln])]
noncomputable abbrev four (k : Nat) (n p : Str) (h : Nat) : Loc := [("k", .int (k : Nat)), ("name", .str n), ("piece", .str p), ("hand", .int (h : Nat))]
noncomputable def IsFour (tl : Loc) : Prop := tl = [] ∨ ∃ k n p h, tl = four k n p h
noncomputable def inB (P : Params) : Stmt := sAt (fB (S376 P 2)) 2

/-- one turn of the told loop for a letter -/
noncomputable def turnT (L k : Nat) (d : D) (z : Str × Nat × Str × List Ent) : Str × Nat × Str × List Ent :=
  if d.l = L then (if closedB (z.1 ++ d.s) = true then ("", k, d.n, z.2.2.2 ++ [(k, d.n, z.1 ++ d.s)]) else (z.1 ++ d.s, k, d.n, z.2.2.2)) else z

theorem told_step (P : Params) (st0 : Hp) (j : Nat) (ds : List D) (hj : st0[j]? = some (ds.map D.v)) (hds : ds.length ≤ 1000) (L : Nat) (hL : L < 3) (k : Nat) (d : D) (hk : ds[k]? = some d) (ok : d.ok)
    (draft : Str) (lk : Nat) (ln : Str) (sent left : List Ent) (g : Hp) (tl : Loc) (htl : IsFour tl) (hlen : draft.length ≤ 5000) (hs : sent.length ≤ 5000) :
    ∃ g', forB 10 (cx376 P) (fT (inB P)) (fB (inB P)) (.int (k : Nat)) (lt j st0.length (nm L false) draft lk ln ++ tl) (St st0 sent left g) =
      some (.next, lt j st0.length (nm L false) (turnT L k d (draft, lk, ln, sent)).1 (turnT L k d (draft, lk, ln, sent)).2.1 (turnT L k d (draft, lk, ln, sent)).2.2.1 ++ four k d.n (piece d.p) d.h, St st0 (turnT L k d (draft, lk, ln, sent)).2.2.2 left g') := by
  have hb : ∃ l1, bindT (cx376 P).sc (fT (inB P)) (.int (k : Nat)) (lt j st0.length (nm L false) draft lk ln ++ tl) = some l1 ∧
      bindT (cx376 P).sc (fI (sAt (fB (inB P)) 0)) d.v l1 = some (lt j st0.length (nm L false) draft lk ln ++ four k d.n (piece d.p) d.h) ∧ getL l1 "deeds" = some (.lst j) ∧ getL l1 "k" = some (.int (k : Nat)) := by
    rcases htl with rfl | ⟨k', n', p', h', rfl⟩ <;> exact ⟨_, rfl, rfl, rfl, rfl⟩
  obtain ⟨l1, hb1, hb2, hb3, hb4⟩ := hb
  have hjk : (St st0 sent left g)[j]? = some (ds.map D.v) := St_old hj _ _ _
  have hx : (ds.map D.v)[k]? = some d.v := by rw [List.getElem?_map, hk]; rfl
  have hklt : k < 100000 := by
    have := (List.getElem?_eq_some_iff.mp hk).1
    omega
  have e0 : (lv 10).ex (cx376 P) l1 (St st0 sent left g) (sAt (fB (inB P)) 0) = some (.next, lt j st0.length (nm L false) draft lk ln ++ four k d.n (piece d.p) d.h, St st0 sent left g) :=
    ex_unpack (ev_sub (a := .lst j) (b := .int (k : Nat)) (fun l u q e => by cases e) (ev_name rfl (by unfold nameV; rw [hb3])) (ev_name rfl (by unfold nameV; rw [hb4])) (subV_lst hjk hx hklt)) hb2
  have t1 : (lv 9).tv (cx376 P) (lt j st0.length (nm L false) draft lk ln ++ four k d.n (piece d.p) d.h) (St st0 sent left g) (fI (sAt (fB (inB P)) 1)) = some (d.l == L, St st0 sent left g) := by
    refine tv_cmp (a := .str (nm d.l false)) (b := .str (nm L false)) (ev_smeth (x := d.n) (vs := []) rfl rfl rfl rfl (lower_nm d.l d.u ok.l _)) rfl rfl ?_
    show some (nm d.l false == nm L false) = some (d.l == L)
    rw [nm_eq _ _ ok.l hL]
  by_cases hl : d.l = L
  · have hb' : (d.l == L) = true := by simpa using hl
    rw [hb'] at t1
    obtain ⟨g1, hg1⟩ := spelled_val P (St st0 sent left g) d.p ok.p d.h ok.h
    have hdl : (draft ++ d.s).length ≤ 10000 := by
      have h1 := spell_len d.p d.h ok.p ok.h
      have h2 : (draft ++ d.s).length = draft.length + d.s.length := by rw [PySem.W.KWk.len_list, PyProof.Rows.cps_toList_append, List.length_append, ← PySem.W.KWk.len_list, ← PySem.W.KWk.len_list]
      have : d.s.length ≤ 6 := h1
      omega
    obtain ⟨g2, hg2⟩ := closed_val P (draft ++ d.s) (St st0 sent left g ++ g1) hdl
    have a1 : (lv 9).ex (cx376 P) (lt j st0.length (nm L false) draft lk ln ++ four k d.n (piece d.p) d.h) (St st0 sent left g) (sAt (fB (sAt (fB (inB P)) 1)) 0) = some (.next, lt j st0.length (nm L false) (draft ++ d.s) lk ln ++ four k d.n (piece d.p) d.h, St st0 sent left g ++ g1) := by
      refine ex_assign rfl (ev_bin (a := .str draft) (b := .str d.s) rfl (ev_call (fun o m q e => by cases e) (a := .imm (.ref 366)) (vs := [.str (piece d.p), .int (d.h : Nat)]) rfl rfl hg1) (if_pos ?_))
      have h2 : (draft ++ d.s).length = draft.length + d.s.length := by rw [PySem.W.KWk.len_list, PyProof.Rows.cps_toList_append, List.length_append, ← PySem.W.KWk.len_list, ← PySem.W.KWk.len_list]
      rw [← h2]
      exact sizeL _ (by omega)
    have a2 : (lv 9).ex (cx376 P) (lt j st0.length (nm L false) (draft ++ d.s) lk ln ++ four k d.n (piece d.p) d.h) (St st0 sent left g ++ g1) (sAt (fB (sAt (fB (inB P)) 1)) 1) = some (.next, lt j st0.length (nm L false) (draft ++ d.s) k d.n ++ four k d.n (piece d.p) d.h, St st0 sent left g ++ g1) := rfl
    have t2 : (lv 8).tv (cx376 P) (lt j st0.length (nm L false) (draft ++ d.s) k d.n ++ four k d.n (piece d.p) d.h) (St st0 sent left g ++ g1) (fI (sAt (fB (sAt (fB (inB P)) 1)) 2)) = some (closedB (draft ++ d.s), (St st0 sent left g ++ g1) ++ g2) :=
      tv_call (v := .bool (closedB (draft ++ d.s))) (ev_call (fun o m q e => by cases e) (a := .imm (.ref 371)) (vs := [.str (draft ++ d.s)]) rfl rfl hg2) rfl
    rw [St_app, St_app] at t2
    rw [St_app] at a1 a2
    unfold turnT
    rw [if_pos hl]
    refine ⟨g ++ g1 ++ g2, ?_⟩
    refine forB_of hb1 (exs_next e0 ?_)
    cases hc : closedB (draft ++ d.s) with
    | true =>
      rw [hc] at t2
      dsimp only
      rw [if_pos rfl]
      have hap := ev_append (k := 6) (cx := cx376 P) (loc := lt j st0.length (nm L false) (draft ++ d.s) k d.n ++ four k d.n (piece d.p) d.h) (st := St st0 sent left (g ++ g1 ++ g2)) (st1 := St st0 sent left (g ++ g1 ++ g2)) (st2 := St st0 sent left (g ++ g1 ++ g2)) (j := st0.length) (xs := sent.map sv) (v := sv (k, d.n, draft ++ d.s))
        (o := eC (eC (aV (sAt (fB (sAt (fB (sAt (fB (inB P)) 1)) 2)) 0)) 0) 0) (e := cA (aV (sAt (fB (sAt (fB (sAt (fB (inB P)) 1)) 2)) 0)) 0)
        (ap := eP (eC (aV (sAt (fB (sAt (fB (sAt (fB (inB P)) 1)) 2)) 0)) 0)) (p := eP (aV (sAt (fB (sAt (fB (sAt (fB (inB P)) 1)) 2)) 0))) rfl rfl rfl (St_sent _ _ _ _) (sizeL _ (by rw [List.length_map]; omega))
      rw [St_setS] at hap
      exact exs_next (ex_if (c := true) t1 (exs_next a1 (exs_next a2 (exs_next (ex_if (c := true) t2 (exs_next (ex_expr (v := .none) rfl hap) (exs_next (loc1 := lt j st0.length (nm L false) "" k d.n ++ four k d.n (piece d.p) d.h) rfl rfl))) rfl)))) rfl
    | false =>
      rw [hc] at t2
      dsimp only
      rw [if_neg (by decide)]
      exact exs_next (ex_if (c := true) t1 (exs_next a1 (exs_next a2 (exs_next (ex_if (c := false) t2 rfl) rfl)))) rfl
  · have hb' : (d.l == L) = false := by simpa using hl
    rw [hb'] at t1
    unfold turnT
    rw [if_neg hl]
    exact ⟨g, forB_of hb1 (exs_next e0 (exs_next (ex_if (c := false) t1 rfl) rfl))⟩
end Uq
end

section
open PySem PySem.Calls PyProof.Rows PySem.W
namespace Uq
open Builtin Builtin.Str

noncomputable abbrev Z := Str × Nat × Str × List Ent
noncomputable def foldT (L : Nat) : Nat → List D → Z → Z
  | _, [], z => z
  | k, d :: r, z => foldT L (k + 1) r (turnT L k d z)
theorem turn_len (L k : Nat) (d : D) (ok : d.ok) (z : Z) : (turnT L k d z).1.length ≤ z.1.length + 6 ∧ (turnT L k d z).2.2.2.length ≤ z.2.2.2.length + 1 := by
  have h1 := spell_len d.p d.h ok.p ok.h
  have h2 : (z.1 ++ d.s).length = z.1.length + d.s.length := by rw [PySem.W.KWk.len_list, PyProof.Rows.cps_toList_append, List.length_append, ← PySem.W.KWk.len_list, ← PySem.W.KWk.len_list]
  have h3 : d.s.length ≤ 6 := h1
  unfold turnT
  split
  · split
    · exact ⟨Nat.zero_le _, by simp⟩
    · exact ⟨by dsimp only; omega, by dsimp only; omega⟩
  · exact ⟨by omega, by omega⟩
theorem told_inner (P : Params) (st0 : Hp) (j : Nat) (ds : List D) (hj : st0[j]? = some (ds.map D.v)) (hds : ds.length ≤ 1000) (hok : ∀ d ∈ ds, d.ok) (L : Nat) (hL : L < 3) (left : List Ent) : ∀ (r : List D) (k : Nat) (z : Z) (g : Hp) (tl : Loc), ds.drop k = r → IsFour tl →
    z.1.length + 6 * r.length ≤ 5000 → z.2.2.2.length + r.length ≤ 5000 →
    ∃ g' tl', IsFour tl' ∧ (tl ≠ [] ∨ r ≠ [] → tl' ≠ []) ∧ foldF (forB 10 (cx376 P) (fT (inB P)) (fB (inB P))) ((List.range' k r.length).map fun (i : Nat) => V.int (i : Int)) (lt j st0.length (nm L false) z.1 z.2.1 z.2.2.1 ++ tl) (St st0 z.2.2.2 left g) =
      some (.next, lt j st0.length (nm L false) (foldT L k r z).1 (foldT L k r z).2.1 (foldT L k r z).2.2.1 ++ tl', St st0 (foldT L k r z).2.2.2 left g')
  | [], k, z, g, tl, hd, htl, h1, h2 => ⟨g, tl, htl, fun h => h.elim id fun h => absurd rfl h, rfl⟩
  | d :: r, k, z, g, tl, hd, htl, h1, h2 => by
    have hk : ds[k]? = some d := by
      have := congrArg (fun l => l[0]?) hd
      simpa using this
    have hd' : ds.drop (k + 1) = r := by
      have := congrArg List.tail hd
      simpa using this
    have ok : d.ok := hok d (List.mem_of_getElem? hk)
    simp only [List.length_cons] at h1 h2
    obtain ⟨g1, e1⟩ := told_step P st0 j ds hj hds L hL k d hk ok z.1 z.2.1 z.2.2.1 z.2.2.2 left g tl htl (by omega) (by omega)
    obtain ⟨l1, l2⟩ := turn_len L k d ok z
    obtain ⟨g2, tl', ht, hn, e2⟩ := told_inner P st0 j ds hj hds hok L hL left r (k + 1) (turnT L k d z) g1 (four k d.n (piece d.p) d.h) hd' (.inr ⟨_, _, _, _, rfl⟩) (by omega) (by omega)
    refine ⟨g2, tl', ht, fun _ => hn (.inl (by simp)), ?_⟩
    rw [List.length_cons, List.range'_succ, List.map_cons, fold_next e1]
    exact e2

noncomputable def letT (L : Nat) (ds : List D) (z : List Ent × List Ent) : List Ent × List Ent :=
  ((foldT L 0 ds ("", 0, "", z.1)).2.2.2, if (foldT L 0 ds ("", 0, "", z.1)).1 = "" then z.2 else z.2 ++ [((foldT L 0 ds ("", 0, "", z.1)).2.1, (foldT L 0 ds ("", 0, "", z.1)).2.2.1, (foldT L 0 ds ("", 0, "", z.1)).1)])

theorem foldT_len (L : Nat) : ∀ (r : List D) (k : Nat) (z : Z), (∀ d ∈ r, d.ok) → (foldT L k r z).2.2.2.length ≤ z.2.2.2.length + r.length
  | [], k, z, h => Nat.le_refl _
  | d :: r, k, z, h => by
    have := foldT_len L r (k + 1) (turnT L k d z) fun d hd => h d (List.mem_cons_of_mem _ hd)
    have h2 := (turn_len L k d (h d List.mem_cons_self) z).2
    show (foldT L (k + 1) r (turnT L k d z)).2.2.2.length ≤ _
    rw [List.length_cons]; omega

noncomputable def Lp (j n : Nat) (l : Loc) : Prop := l = ([("deeds", .lst j), ("sent", .lst n), ("left", .lst (n + 1))] : Loc) ∨ ∃ a b c d tl, IsFour tl ∧ l = lt j n a b c d ++ tl
theorem told_letter (P : Params) (st0 : Hp) (j : Nat) (ds : List D) (hj : st0[j]? = some (ds.map D.v)) (hds : ds.length ≤ 100) (hok : ∀ d ∈ ds, d.ok) (L : Nat) (hL : L < 3) (sent left : List Ent) (g : Hp) (loc : Loc) (hlp : Lp j st0.length loc) (h1 : sent.length ≤ 1000) (h2 : left.length ≤ 1000) (hne : ds ≠ []) :
    ∃ g' loc', Lp j st0.length loc' ∧ forB 11 (cx376 P) (fT (S376 P 2)) (fB (S376 P 2)) (.str (nm L false)) loc (St st0 sent left g) = some (.next, loc', St st0 (letT L ds (sent, left)).1 (letT L ds (sent, left)).2 g') ∧ ∃ a b c d k n p h, loc' = lt j st0.length a b c d ++ four k n p h := by
  obtain ⟨l1, l2, tl, b1, b2, b3, htl⟩ : ∃ l1 l2 tl, bindT (cx376 P).sc (fT (S376 P 2)) (.str (nm L false)) loc = some l1 ∧ l2 = setL l1 "draft" (.str "") ∧ setL l2 "last" (.tup [.int (0 : Nat), .str ""]) = lt j st0.length (nm L false) "" 0 "" ++ tl ∧ IsFour tl := by
    rcases hlp with rfl | ⟨a, b, c, d, tl, h, rfl⟩
    · exact ⟨_, _, [], rfl, rfl, rfl, .inl rfl⟩
    · exact ⟨_, _, tl, rfl, rfl, rfl, h⟩
  subst b2
  obtain ⟨g1, tl1, ht1, hn1, e1⟩ := told_inner P st0 j ds hj (by omega) hok L hL left ds 0 ("", 0, "", sent) g tl rfl htl (by show 0 + _ ≤ _; omega) (by show sent.length + _ ≤ _; omega)
  have zl := foldT_len L ds 0 ("", 0, "", sent) hok
  unfold letT
  generalize hz : foldT L 0 ds ("", 0, "", sent) = z at e1 zl
  dsimp only
  have hjk : (St st0 sent left g)[j]? = some (ds.map D.v) := St_old hj _ _ _
  have hlenV : fnLen [.lst j] (St st0 sent left g) = some (.int (ds.length : Nat), St st0 sent left g) := by
    exact (fnLen_lst hjk (by rw [List.length_map]; exact sizeL _ (by omega))).trans (by rw [List.length_map])
  have hrange : fnRange [.int (ds.length : Nat)] (St st0 sent left g) = some (.rng ds.length, St st0 sent left g) := by
    show (if 0 ≤ ((ds.length : Nat) : Int) then some (V.rng (((ds.length : Nat) : Int)).toNat, _) else none) = _
    rw [if_pos (by omega), Int.toNat_natCast]
  have hsrc : srcOf (.rng ds.length) = some (.items ((List.range' 0 ds.length).map fun (i : Nat) => V.int (i : Int))) := by
    rw [← List.range_eq_range']
    exact if_pos (sizeL _ (by omega))
  have hfit2 : ((List.range' 0 ds.length).map fun (i : Nat) => V.int (i : Int)).length < fuelF := by
    rw [List.length_map, List.length_range']
    show _ < 1000000
    omega
  have a0 : (lv 11).ex (cx376 P) l1 (St st0 sent left g) (sAt (fB (S376 P 2)) 0) = some (.next, setL l1 "draft" (.str ""), St st0 sent left g) := ex_assign rfl rfl
  have a1 : (lv 11).ex (cx376 P) (setL l1 "draft" (.str "")) (St st0 sent left g) (sAt (fB (S376 P 2)) 1) = some (.next, lt j st0.length (nm L false) "" 0 "" ++ tl, St st0 sent left g) := (ex_assign (v := .tup [.int (0 : Nat), .str ""]) rfl rfl).trans (by rw [b3])
  have n1 : nameV (cx376 P) (lt j st0.length (nm L false) "" 0 "" ++ tl) "len" = some (.imm (.builtin "len")) := by
    rcases htl with rfl | ⟨_, _, _, _, rfl⟩ <;> rfl
  have n2 : nameV (cx376 P) (lt j st0.length (nm L false) "" 0 "" ++ tl) "range" = some (.imm (.type "range")) := by
    rcases htl with rfl | ⟨_, _, _, _, rfl⟩ <;> rfl
  have a2 : (lv 11).ex (cx376 P) (lt j st0.length (nm L false) "" 0 "" ++ tl) (St st0 sent left g) (sAt (fB (S376 P 2)) 2) = some (.next, lt j st0.length (nm L false) z.1 z.2.1 z.2.2.1 ++ tl1, St st0 z.2.2.2 left g1) :=
    ex_for_call (by rw [n2]; rfl) (ev_call (fun o m q e => by cases e) (a := .imm (.type "range")) (ev_name rfl n2) (evs_cons (ev_call (fun o m q e => by cases e) (a := .imm (.builtin "len")) (vs := [.lst j]) (ev_name rfl n1) rfl hlenV) evs_nil) hrange) hsrc ((loop_all hfit2).trans e1)
  have t3 : (lv 10).tv (cx376 P) (lt j st0.length (nm L false) z.1 z.2.1 z.2.2.1 ++ tl1) (St st0 z.2.2.2 left g1) (fI (sAt (fB (S376 P 2)) 3)) = some (z.1 != "", St st0 z.2.2.2 left g1) :=
    tv_cmp (a := .str z.1) (b := .str "") rfl rfl rfl rfl
  have key : ∃ g', (lv 11).ex (cx376 P) (lt j st0.length (nm L false) z.1 z.2.1 z.2.2.1 ++ tl1) (St st0 z.2.2.2 left g1) (sAt (fB (S376 P 2)) 3) = some (.next, lt j st0.length (nm L false) z.1 z.2.1 z.2.2.1 ++ tl1, St st0 z.2.2.2 (if z.1 = "" then left else left ++ [(z.2.1, z.2.2.1, z.1)]) g') := by
    by_cases hc : z.1 = ""
    · rw [if_pos hc]
      have : (z.1 != "") = false := by rw [hc]; rfl
      rw [this] at t3
      exact ⟨g1, ex_if (c := false) t3 rfl⟩
    · rw [if_neg hc]
      have : (z.1 != "") = true := by simpa using hc
      rw [this] at t3
      have hap := ev_append (k := 8) (cx := cx376 P) (loc := lt j st0.length (nm L false) z.1 z.2.1 z.2.2.1 ++ tl1) (st := St st0 z.2.2.2 left g1) (st1 := St st0 z.2.2.2 left g1) (st2 := St st0 z.2.2.2 left g1) (j := st0.length + 1) (xs := left.map sv) (v := sv (z.2.1, z.2.2.1, z.1))
        (o := eC (eC (aV (sAt (fB (sAt (fB (S376 P 2)) 3)) 0)) 0) 0) (e := cA (aV (sAt (fB (sAt (fB (S376 P 2)) 3)) 0)) 0)
        (ap := eP (eC (aV (sAt (fB (sAt (fB (S376 P 2)) 3)) 0)) 0)) (p := eP (aV (sAt (fB (sAt (fB (S376 P 2)) 3)) 0))) rfl rfl
        (ev_tuple (vs := [.int (z.2.1 : Nat), .str z.2.2.1, .str z.1]) (evs_cons (ev_sub (a := .tup [.int (z.2.1 : Nat), .str z.2.2.1]) (b := .int 0) (fun l u q e => by cases e) rfl rfl rfl) (evs_cons (ev_sub (a := .tup [.int (z.2.1 : Nat), .str z.2.2.1]) (b := .int 1) (fun l u q e => by cases e) rfl rfl rfl) (evs_cons rfl evs_nil))) (sizeL 3 (by decide))) (St_left _ _ _ _) (sizeL _ (by rw [List.length_map]; omega))
      rw [St_setL] at hap
      exact ⟨g1, ex_if (c := true) t3 (exs_next (ex_expr (v := .none) rfl hap) rfl)⟩
  obtain ⟨g2, e3⟩ := key
  obtain ⟨k', n', p', h', rfl⟩ : ∃ k n p h, tl1 = four k n p h := ht1.elim (fun h => absurd h (hn1 (.inr hne))) id
  exact ⟨g2, _, .inr ⟨_, _, _, _, _, ht1, rfl⟩, forB_of b1 (exs_next a0 (exs_next a1 (exs_next a2 (exs_next e3 rfl)))), _, _, _, _, _, _, _, _, rfl⟩
end Uq
end

section
open PySem PySem.Calls PyProof.Rows PySem.W
namespace Uq
open Builtin Builtin.Str

theorem loop_liveG {body : V → Loc → Hp → Option (Fl × Loc × Hp)} {k : Nat} {xs : List V} (Inv : Nat → Loc → Hp → Prop)
    (hk : ∀ i loc st, Inv i loc st → st[k]? = some xs) (step : ∀ i x loc st, xs[i]? = some x → Inv i loc st → ∃ loc' st', body x loc st = some (.next, loc', st') ∧ Inv (i + 1) loc' st') :
    ∀ (m i f : Nat) (loc : Loc) (st : Hp), i + m = xs.length → m < f → Inv i loc st → ∃ loc' st', loopF body (.live k) f i loc st = some (.next, loc', st') ∧ Inv xs.length loc' st'
  | 0, i, f, loc, st, hi, hf, I => by
    obtain ⟨f, rfl⟩ : ∃ g, f = g + 1 := ⟨f - 1, by omega⟩
    have hi' : i = xs.length := by omega
    subst hi'
    refine ⟨loc, st, loop_end ?_, I⟩
    show (match st[k]? with | some ys => some ys[xs.length]? | none => none) = _
    rw [hk _ _ _ I]
    simp
  | m + 1, i, f, loc, st, hi, hf, I => by
    obtain ⟨f, rfl⟩ : ∃ g, f = g + 1 := ⟨f - 1, by omega⟩
    have hlt : i < xs.length := by omega
    have hx : xs[i]? = some xs[i] := List.getElem?_eq_getElem hlt
    obtain ⟨l1, s1, e1, I1⟩ := step i _ loc st hx I
    obtain ⟨l2, s2, e2, I2⟩ := loop_liveG Inv hk step m (i + 1) f l1 s1 (by omega) (by omega) I1
    refine ⟨l2, s2, loop_next (x := xs[i]) ?_ e1 e2, I2⟩
    show (match st[k]? with | some ys => some ys[i]? | none => none) = _
    rw [hk _ _ _ I]
    show some xs[i]? = _
    rw [hx]
theorem loop_live {body : V → Loc → Hp → Option (Fl × Loc × Hp)} {k : Nat} {xs : List V} (Inv : Nat → Loc → Hp → Prop) {loc : Loc} {st : Hp}
    (hk : ∀ i loc st, Inv i loc st → st[k]? = some xs) (step : ∀ i x loc st, xs[i]? = some x → Inv i loc st → ∃ loc' st', body x loc st = some (.next, loc', st') ∧ Inv (i + 1) loc' st')
    (hf : xs.length < fuelF) (I : Inv 0 loc st) : ∃ loc' st', loopF body (.live k) fuelF 0 loc st = some (.next, loc', st') ∧ Inv xs.length loc' st' :=
  loop_liveG Inv hk step xs.length 0 fuelF loc st (by omega) hf I

noncomputable def escD (x : Str) : Str := T (sub1 60 [38, 108, 116, 59] (sub1 38 [38, 97, 109, 112, 59] x.cps.toList))
noncomputable def pageStep (pg : Str) (e : Ent) : Str := pg ++ "<?" ++ e.2.1 ++ " " ++ escD e.2.2 ++ "?>\n"
noncomputable def pageOf (l : List Ent) : Str := l.foldl pageStep ""
noncomputable def pr (e : Ent) : V := .tup [.str e.2.1, .str e.2.2]
structure Small (e : Ent) : Prop where
  n : e.2.1.length ≤ 1
  d : e.2.2.length ≤ 60
theorem escD_len (x : Str) (h : x.length ≤ 60) : (escD x).length ≤ 2160 := by
  unfold escD
  rw [T_len]
  have l0 := sub1_len 38 [38, 97, 109, 112, 59] (by decide) x.cps.toList
  have l1 := sub1_len 60 [38, 108, 116, 59] (by decide) (sub1 38 [38, 97, 109, 112, 59] x.cps.toList)
  have := PySem.W.KWk.len_list (r := x)
  omega
theorem pageStep_len (pg : Str) (e : Ent) (h : Small e) : (pageStep pg e).length ≤ pg.length + 2170 := by
  unfold pageStep
  have h1 := escD_len e.2.2 h.d
  have h2 := h.n
  simp only [PySem.strLen_append]
  have : ("<?" : Str).length = 2 := rfl
  have : (" " : Str).length = 1 := rfl
  have : ("?>\n" : Str).length = 3 := rfl
  omega
theorem add_str {x y : Str} {st : Hp} (h : (x ++ y).length ≤ 1000000) : binV .Add (.str x) (.str y) st = some (.str (x ++ y), st) := by
  refine if_pos ?_
  rw [PySem.strLen_append] at h
  rw [sizeLine_eq]; omega
noncomputable abbrev lpg (j n : Nat) (L : Str) (dr : Str) (lk : Nat) (ln : Str) (k : Nat) (nm p : Str) (h : Nat) (pg : Str) : Loc := lt j n L dr lk ln ++ four k nm p h ++ one "page" (.str pg)
theorem keysOf_sv : ∀ l : List Ent, keysOf (l.map sv) = some (l.map fun e => ((e.1 : Nat) : Int))
  | [] => rfl
  | e :: l => by
    show (keysOf (l.map sv)).map _ = _
    rw [keysOf_sv l]; rfl
theorem strict_sv {l : List Ent} (h : l.Pairwise fun a b => a.1 < b.1) : Strict (l.map sv) := by
  unfold Strict
  rw [List.pairwise_map]
  exact h.imp fun {a b} h => by show ((a.1 : Nat) : Int) < (b.1 : Nat); omega
theorem sorted_sv {st : Hp} {k : Nat} {l S : List Ent} (hk : st[k]? = some (l.map sv)) (hp : S.Perm l) (hs : S.Pairwise fun a b => a.1 < b.1) (hl : S.length < 64) : fnSorted [.lst k] st = some (.lst st.length, st ++ [S.map sv]) := by
  have hn : (l.map fun e => ((e.1 : Nat) : Int)).Nodup := by
    refine (hp.map _).nodup_iff.mp ?_
    unfold List.Nodup
    rw [List.pairwise_map]
    exact hs.imp fun {a b} h => by omega
  rw [← sortV_eq (hp.map sv) (strict_sv hs)]
  unfold fnSorted two2
  dsimp only
  rw [oc_eq (x := lstOf (.lst k)) (v := k) rfl rfl, oc_eq hk rfl, oc_eq (keysOf_sv l) rfl]
  exact if_pos ⟨by rw [List.length_map, ← hp.length_eq]; exact hl, hn⟩

theorem page_step (P : Params) (j n : Nat) (L dr : Str) (lk : Nat) (ln : Str) (k : Nat) (nm p : Str) (h : Nat) (pg : Str) (e : Ent) (he : Small e) (st : Hp) (hpg : pg.length ≤ 500000) :
    forB 11 (cx376 P) (fT (S376 P 4)) (fB (S376 P 4)) (sv e) (lpg j n L dr lk ln k nm p h pg) st = some (.next, lpg j n L e.2.2 lk ln e.1 e.2.1 p h (pageStep pg e), st) := by
  refine forB_of (loc1 := lpg j n L e.2.2 lk ln e.1 e.2.1 p h pg) rfl (exs_next (st1 := st) (ex_assign (v := .str (pageStep pg e)) rfl ?_) rfl)
  have hd := he.d
  have hn := he.n
  have hl := pageStep_len pg e he
  have r1 : replV "&" "&amp;" (.str e.2.2) = some (.str (Txt.replace e.2.2 "&" "&amp;")) := by
    refine if_pos ⟨rfl, ?_⟩
    show _ + _ * 5 ≤ _
    omega
  have e1 : Txt.replace e.2.2 "&" "&amp;" = T (sub1 38 [38, 97, 109, 112, 59] e.2.2.cps.toList) := by
    rw [← T_of (Txt.replace e.2.2 "&" "&amp;")]
    exact congrArg T (replace_list _ _ _)
  have hl1 : (Txt.replace e.2.2 "&" "&amp;").length ≤ 360 := by
    rw [e1, T_len]
    have l0 := sub1_len 38 [38, 97, 109, 112, 59] (by decide) e.2.2.cps.toList
    have := PySem.W.KWk.len_list (r := e.2.2)
    omega
  have r2 : replV "<" "&lt;" (.str (Txt.replace e.2.2 "&" "&amp;")) = some (.str (escD e.2.2)) := by
    have : escD e.2.2 = Txt.replace (Txt.replace e.2.2 "&" "&amp;") "<" "&lt;" := by
      rw [← T_of (Txt.replace (Txt.replace e.2.2 "&" "&amp;") "<" "&lt;")]
      refine congrArg T ?_
      refine Eq.trans ?_ (replace_list _ _ _).symm
      rw [e1, T_list]
      rfl
    rw [this]
    refine if_pos ⟨rfl, ?_⟩
    show _ + _ * 4 ≤ _
    omega
  have b1 : (pg ++ "<?" : Str).length ≤ 1000000 ∧ (pg ++ "<?" ++ e.2.1 : Str).length ≤ 1000000 ∧ (pg ++ "<?" ++ e.2.1 ++ " " : Str).length ≤ 1000000 ∧ (pg ++ "<?" ++ e.2.1 ++ " " ++ escD e.2.2 : Str).length ≤ 1000000 ∧ (pg ++ "<?" ++ e.2.1 ++ " " ++ escD e.2.2 ++ "?>\n" : Str).length ≤ 1000000 := by
    unfold pageStep at hl
    simp only [PySem.strLen_append] at hl ⊢
    omega
  exact ev_bin (a := .str (pg ++ "<?" ++ e.2.1 ++ " " ++ escD e.2.2)) (b := .str "?>\n") (ev_bin (a := .str (pg ++ "<?" ++ e.2.1 ++ " ")) (b := .str (escD e.2.2)) (ev_bin (a := .str (pg ++ "<?" ++ e.2.1)) (b := .str " ") (ev_bin (a := .str (pg ++ "<?")) (b := .str e.2.1) (ev_bin (a := .str pg) (b := .str "<?") rfl rfl (add_str b1.1)) rfl (add_str b1.2.1)) rfl (add_str b1.2.2.1))
    (ev_repl (a := .str (Txt.replace e.2.2 "&" "&amp;")) rfl (ev_repl (a := .str e.2.2) rfl rfl rfl r1) rfl r2) (add_str b1.2.2.2.1)) rfl (add_str b1.2.2.2.2)
end Uq
end

section
open PySem PySem.Calls PyProof.Rows PySem.W
namespace Uq
open Builtin Builtin.Str

noncomputable def toldSL (ds : List D) : List Ent × List Ent := letT 2 ds (letT 1 ds (letT 0 ds ([], [])))
theorem letT_len (L : Nat) (ds : List D) (z : List Ent × List Ent) (hok : ∀ d ∈ ds, d.ok) : (letT L ds z).1.length ≤ z.1.length + ds.length ∧ (letT L ds z).2.length ≤ z.2.length + 1 := by
  have := foldT_len L ds 0 ("", 0, "", z.1) hok
  unfold letT
  refine ⟨this, ?_⟩
  split
  · dsimp only; omega
  · simp
noncomputable abbrev c2 (j n : Nat) : Loc := [("deeds", .lst j), ("sent", .lst n)]
noncomputable abbrev c3 (j n : Nat) : Loc := [("deeds", .lst j), ("sent", .lst n), ("left", .lst (n + 1))]
noncomputable abbrev k3 (k : Nat) (n dr : Str) : Loc := [("k", .int (k : Nat)), ("name", .str n), ("draft", .str dr)]
noncomputable def C376 (P : Params) : PySem.Expr := cA (aV (S376 P 5)) 1
noncomputable def sc376 (P : Params) : Scope := compScope (cSc (C376 P)) (cx376 P).sc
noncomputable def body376 (P : Params) (j : Nat) : V → Loc → Hp → Option (Fl × Loc × Hp) := compB (bindT (sc376 P) (cTgt (C376 P))) (fun l t => tvs ((lv 9).tv { (cx376 P) with sc := sc376 P }) l true (cIfs (C376 P)) t) (fun l t => (lv 9).ev { (cx376 P) with sc := sc376 P } l t (cElt (C376 P))) j

theorem told_val (P : Params) (st0 : Hp) (j : Nat) (ds : List D) (hj : st0[j]? = some (ds.map D.v)) (hds : ds.length ≤ 60) (hne : ds ≠ []) (hok : ∀ d ∈ ds, d.ok) (S T : List Ent)
    (hS : S.Perm (toldSL ds).1) (sS : S.Pairwise fun a b => a.1 < b.1) (bS : ∀ e ∈ S, Small e) (lS : S.length < 64) (hT : T.Perm (toldSL ds).2) (sT : T.Pairwise fun a b => a.1 < b.1) (lT : T.length < 64) :
    ∃ g k, usr P (p1 P) 376 ["deeds"] [.lst j] st0 = some (.tup [.str (pageOf S), .lst k], st0 ++ g) ∧ (st0 ++ g)[k]? = some (T.map pr) := by
  have hn1 : (st0 ++ [([] : List V)]).length = st0.length + 1 := by simp
  have hst : ((st0 ++ [([] : List V)]) ++ [[]]) = St st0 [] [] [] := by simp [St]
  obtain ⟨g1, l1, p1', e1, -⟩ := told_letter P st0 j ds hj (by omega) hok 0 (by decide) [] [] [] _ (.inl rfl) (Nat.zero_le _) (Nat.zero_le _) hne
  obtain ⟨a1, b1⟩ := letT_len 0 ds ([], []) hok
  unfold toldSL at hS hT
  generalize letT 0 ds ([], []) = z1 at hS hT e1 a1 b1
  obtain ⟨g2, l2, p2', e2, -⟩ := told_letter P st0 j ds hj (by omega) hok 1 (by decide) z1.1 z1.2 g1 l1 p1' (by simp at a1; omega) (by simp at b1; omega) hne
  obtain ⟨a2, b2⟩ := letT_len 1 ds z1 hok
  generalize letT 1 ds z1 = z2 at hS hT e2 a2 b2
  obtain ⟨g3, l3, p3', e3, a, b, c, d, k, n, p, h, hl3⟩ := told_letter P st0 j ds hj (by omega) hok 2 (by decide) z2.1 z2.2 g2 l2 p2' (by simp at a1; omega) (by simp at b1; omega) hne
  obtain ⟨a3, b3⟩ := letT_len 2 ds z2 hok
  generalize letT 2 ds z2 = z3 at hS hT e3 a3 b3
  subst hl3
  have hfold : foldF (forB 11 (cx376 P) (fT (S376 P 2)) (fB (S376 P 2))) [.str (nm 0 false), .str (nm 1 false), .str (nm 2 false)] (c3 j st0.length) (St st0 [] [] []) = some (.next, lt j st0.length a b c d ++ four k n p h, St st0 z3.1 z3.2 g3) :=
    (fold_next e1).trans ((fold_next e2).trans ((fold_next e3).trans rfl))
  have w2 : (lv 12).ex (cx376 P) (c3 j st0.length) (St st0 [] [] []) (S376 P 2) = some (.next, lt j st0.length a b c d ++ four k n p h, St st0 z3.1 z3.2 g3) :=
    ex_for_const (v := .str "abc") rfl rfl ((loop_all (by decide)).trans hfold)
  have w3 : (lv 12).ex (cx376 P) (lt j st0.length a b c d ++ four k n p h) (St st0 z3.1 z3.2 g3) (S376 P 3) = some (.next, lpg j st0.length a b c d k n p h "", St st0 z3.1 z3.2 g3) := ex_assign (v := .str "") rfl rfl
  have f1 := sorted_sv (St_sent st0 z3.1 z3.2 g3) hS sS lS
  generalize hst4 : St st0 z3.1 z3.2 g3 ++ [S.map sv] = st4 at f1
  have hk4 : st4[(St st0 z3.1 z3.2 g3).length]? = some (S.map sv) := by rw [← hst4]; exact get_last _ _
  obtain ⟨l4, s4, e4, dr', k', n', q5, q6, -⟩ := loop_live (body := forB 11 (cx376 P) (fT (S376 P 4)) (fB (S376 P 4))) (k := (St st0 z3.1 z3.2 g3).length) (xs := S.map sv)
    (Inv := fun i loc st => ∃ dr k n, loc = lpg j st0.length a dr c d k n p h ((S.take i).foldl pageStep "") ∧ st = st4 ∧ (((S.take i).foldl pageStep "").length ≤ i * 2170)) (loc := lpg j st0.length a b c d k n p h "") (st := st4)
    (fun i loc st I => by obtain ⟨_, _, _, _, rfl, _⟩ := I; exact hk4)
    (fun i x loc st hx I => by
      obtain ⟨dr, k, n, rfl, rfl, hb⟩ := I
      rw [List.getElem?_map] at hx
      cases he : S[i]? with
      | none => rw [he] at hx; cases hx
      | some e =>
        rw [he] at hx; cases hx
        have hi : i < S.length := (List.getElem?_eq_some_iff.mp he).1
        have hsm := bS e (List.mem_of_getElem? he)
        have ht : (S.take (i + 1)).foldl pageStep "" = pageStep ((S.take i).foldl pageStep "") e := by
          rw [List.take_add_one, he]; simp [List.foldl_append]
        refine ⟨_, _, page_step P j st0.length a dr c d k n p h ((S.take i).foldl pageStep "") e hsm _ (by omega), e.2.2, e.1, e.2.1, by rw [ht], rfl, ?_⟩
        rw [ht]
        have := pageStep_len ((S.take i).foldl pageStep "") e hsm
        omega)
    (by rw [List.length_map]; show _ < 1000000; omega) ⟨b, k, n, rfl, rfl, Nat.zero_le _⟩
  rw [List.length_map, List.take_length] at q5
  subst q5 q6
  have hcall : (lv 11).ev (cx376 P) (lpg j st0.length a b c d k n p h "") (St st0 z3.1 z3.2 g3) (fI (S376 P 4)) = some (.lst (St st0 z3.1 z3.2 g3).length, s4) :=
    ev_call (fun o m q e => by cases e) (a := .imm (.builtin "sorted")) (vs := [.lst st0.length]) rfl rfl f1
  have w4 : (lv 12).ex (cx376 P) (lpg j st0.length a b c d k n p h "") (St st0 z3.1 z3.2 g3) (S376 P 4) = some (.next, lpg j st0.length a dr' c d k' n' p h (pageOf S), s4) :=
    ex_for_call rfl hcall rfl e4
  have hleft : s4[st0.length + 1]? = some (z3.2.map sv) := by rw [← hst4]; exact get_old (St_left st0 z3.1 z3.2 g3) _
  have f2 := sorted_sv hleft hT sT lT
  generalize hst5 : s4 ++ [T.map sv] = st5 at f2
  have hk5 : ∀ y : List V, (st5 ++ [y])[s4.length]? = some (T.map sv) := fun y => by rw [← hst5]; exact get_old (get_last _ _) _
  obtain ⟨l6, s6, e6, q7, q8⟩ := loop_live (body := body376 P st5.length) (k := s4.length) (xs := T.map sv)
    (Inv := fun i loc st => (loc = [] ∨ ∃ k n dr, loc = k3 k n dr) ∧ st = st5 ++ [(T.take i).map pr]) (loc := []) (st := st5 ++ [[]])
    (fun i loc st I => by obtain ⟨_, rfl⟩ := I; exact hk5 _)
    (fun i x loc st hx I => by
      obtain ⟨hl, rfl⟩ := I
      rw [List.getElem?_map] at hx
      cases he : T[i]? with
      | none => rw [he] at hx; cases hx
      | some e =>
        rw [he] at hx; cases hx
        have hi : i < T.length := (List.getElem?_eq_some_iff.mp he).1
        have ht : (T.take (i + 1)).map pr = (T.take i).map pr ++ [pr e] := by
          rw [List.take_add_one, he]; simp
        have hb : bindT (sc376 P) (cTgt (C376 P)) (sv e) loc = some (k3 e.1 e.2.1 e.2.2) := by
          rcases hl with rfl | ⟨k, n, dr, rfl⟩ <;> rfl
        refine ⟨_, _, compB_put (v := pr e) (st1 := st5 ++ [(T.take i).map pr]) (st2 := st5 ++ [(T.take i).map pr]) hb rfl (ev_tuple (vs := [.str e.2.1, .str e.2.2]) rfl (sizeL 2 (by decide))) (get_last _ _) (sizeL _ (by rw [List.length_map, List.length_take]; omega)), .inr ⟨_, _, _, rfl⟩, ?_⟩
        rw [ht, set_last])
    (by rw [List.length_map]; show _ < 1000000; omega) ⟨.inl rfl, rfl⟩
  rw [List.length_map, List.take_length] at q8
  subst q8
  have hcall2 : (lv 9).ev (cx376 P) (lpg j st0.length a dr' c d k' n' p h (pageOf S)) s4 (eC (C376 P) 0) = some (.lst s4.length, st5) :=
    ev_call (fun o m q e => by cases e) (a := .imm (.builtin "sorted")) (vs := [.lst (st0.length + 1)]) rfl rfl f2
  have wc : (lv 10).ev (cx376 P) (lpg j st0.length a dr' c d k' n' p h (pageOf S)) s4 (C376 P) = some (.lst st5.length, st5 ++ [T.map pr]) :=
    ev_comp hcall2 rfl rfl e6
  have w5 : (lv 12).ex (cx376 P) (lpg j st0.length a dr' c d k' n' p h (pageOf S)) s4 (S376 P 5) = some (.ret (.tup [.str (pageOf S), .lst st5.length]), lpg j st0.length a dr' c d k' n' p h (pageOf S), st5 ++ [T.map pr]) :=
    ex_ret (ev_tuple (vs := [.str (pageOf S), .lst st5.length]) (evs_cons rfl (evs_cons wc evs_nil)) (sizeL 2 (by decide)))
  have hg : ∃ g, st5 ++ [T.map pr] = st0 ++ g := ⟨z3.1.map sv :: z3.2.map sv :: g3 ++ [S.map sv] ++ [T.map sv] ++ [T.map pr], by rw [← hst5, ← hst4]; simp [St]⟩
  obtain ⟨g, hg⟩ := hg
  refine ⟨g, st5.length, ?_, ?_⟩
  · refine usr_of (f := .ret (.tup [.str (pageOf S), .lst st5.length])) (loc' := lpg j st0.length a dr' c d k' n' p h (pageOf S)) rfl ?_ rfl
    rw [← hg]
    have i1 : (lv 12).ex (cx376 P) (one "deeds" (.lst j)) st0 (S376 P 0) = some (.next, (c2 j st0.length), st0 ++ [[]]) := rfl
    have i2 : (lv 12).ex (cx376 P) (c2 j st0.length) (st0 ++ [[]]) (S376 P 1) = some (.next, (c3 j st0.length), St st0 [] [] []) := by
      have e : (lv 12).ex (cx376 P) (c2 j st0.length) (st0 ++ [[]]) (S376 P 1) = some (.next, (c2 j st0.length ++ one "left" (.lst (st0 ++ [[]]).length) : Loc), (st0 ++ [[]]) ++ [[]]) := rfl
      rw [hn1, hst] at e
      exact e
    exact exs_next i1 (exs_next i2 (exs_next w2 (exs_next w3 (exs_next w4 (exs_ret w5)))))
  · rw [← hg]; exact get_last _ _
end Uq
end

section
open PySem PySem.Calls PyProof.Rows PySem.W
namespace Uq
open Builtin Builtin.Str

noncomputable abbrev En := Nat × D × Str
noncomputable def toE (e : En) : Ent := (e.1, e.2.1.n, e.2.2)
noncomputable def isL (L : Nat) (e : En) : Bool := e.2.1.l == L
noncomputable def old (T : List En) (L : Nat) : Str := match T.find? (isL L) with
  | some e => e.2.2
  | none => ""
noncomputable def resT (T : List En) (L : Nat) : List En := T.filter fun e => !isL L e
noncomputable abbrev ST := List En × List En
noncomputable def stepR (k : Nat) (d : D) (z : ST) : ST := if closedB (old z.2 d.l ++ d.s) = true then (z.1 ++ [(k, d, old z.2 d.l ++ d.s)], resT z.2 d.l) else (z.1, resT z.2 d.l ++ [(k, d, old z.2 d.l ++ d.s)])
noncomputable def foldR : Nat → List D → ST → ST
  | _, [], z => z
  | k, d :: r, z => foldR (k + 1) r (stepR k d z)

theorem filter_resT (T : List En) (L M : Nat) : (resT T M).filter (isL L) = if L = M then [] else T.filter (isL L) := by
  unfold resT
  rw [List.filter_filter]
  split
  · rename_i h; subst h
    rw [List.filter_eq_nil_iff]
    intro e _
    cases isL L e <;> simp
  · rename_i h
    refine List.filter_congr fun e _ => ?_
    unfold isL
    cases h1 : (e.2.1.l == L) with
    | false => rfl
    | true =>
      have e1 : e.2.1.l = L := by simpa using h1
      have : (e.2.1.l == M) = false := by rw [e1]; simpa using h
      rw [this]; rfl
theorem spell_ne (p h : Nat) (hp : p < 8) (hh : h < 5) : 0 < (spell p h).length := by
  have h1 : p = 0 ∨ p = 1 ∨ p = 2 ∨ p = 3 ∨ p = 4 ∨ p = 5 ∨ p = 6 ∨ p = 7 := by omega
  have h2 : h = 0 ∨ h = 1 ∨ h = 2 ∨ h = 3 ∨ h = 4 := by omega
  rcases h1 with rfl | rfl | rfl | rfl | rfl | rfl | rfl | rfl <;> rcases h2 with rfl | rfl | rfl | rfl | rfl <;> decide
structure Inv (L : Nat) (s0 : List Ent) (z : Z) (x : ST) : Prop where
  s : z.2.2.2 = s0 ++ (x.1.filter (isL L)).map toE
  t : (x.2.filter (isL L) = [] ∧ z.1 = "") ∨ ∃ e, x.2.filter (isL L) = [e] ∧ toE e = (z.2.1, z.2.2.1, z.1) ∧ z.1 ≠ ""
theorem Inv.old {L : Nat} {s0 : List Ent} {z : Z} {x : ST} (I : Inv L s0 z x) : old x.2 L = z.1 := by
  unfold Uq.old
  rw [← List.head?_filter]
  rcases I.t with ⟨h1, h2⟩ | ⟨e, h1, h2, h3⟩
  · rw [h1, h2]; rfl
  · rw [h1]
    show e.2.2 = z.1
    exact congrArg (fun y : Ent => y.2.2) h2
theorem Inv.step {L : Nat} {s0 : List Ent} {z : Z} {x : ST} (I : Inv L s0 z x) (k : Nat) (d : D) (ok : d.ok) : Inv L s0 (turnT L k d z) (stepR k d x) := by
  by_cases h : d.l = L
  · have hi : ∀ s, isL L (k, d, s) = true := fun s => by show (d.l == L) = true; simpa using h
    have hne : z.1 ++ d.s ≠ "" := fun e => by
      have := congrArg Str.length e
      rw [PySem.strLen_append] at this
      have h2 := spell_ne d.p d.h ok.p ok.h
      have h3 : 0 < d.s.length := h2
      have h4 : ("" : Str).length = 0 := rfl
      omega
    unfold turnT stepR
    rw [if_pos h, h, I.old]
    split
    · refine ⟨?_, .inl ⟨?_, rfl⟩⟩
      · dsimp only
        rw [List.filter_append, List.filter_cons_of_pos (hi _), I.s]; simp [toE]
      · dsimp only
        rw [filter_resT, if_pos rfl]
    · refine ⟨I.s, .inr ⟨(k, d, z.1 ++ d.s), ?_, rfl, hne⟩⟩
      dsimp only
      rw [List.filter_append, filter_resT, if_pos rfl, List.filter_cons_of_pos (hi _)]; rfl
  · have hi : ∀ s, ¬ isL L (k, d, s) = true := fun s => by show ¬ (d.l == L) = true; simpa using h
    have hl : ¬ L = d.l := fun e => h e.symm
    unfold turnT
    rw [if_neg h]
    unfold stepR
    split
    · refine ⟨?_, ?_⟩
      · dsimp only
        rw [List.filter_append, List.filter_cons_of_neg (hi _), I.s]; simp
      · dsimp only
        rw [filter_resT, if_neg hl]; exact I.t
    · refine ⟨I.s, ?_⟩
      dsimp only
      rw [List.filter_append, filter_resT, if_neg hl, List.filter_cons_of_neg (hi _), List.filter_nil, List.append_nil]; exact I.t
theorem Inv.fold {L : Nat} {s0 : List Ent} : ∀ (r : List D) (k : Nat) (z : Z) (x : ST), Inv L s0 z x → (∀ d ∈ r, d.ok) → Inv L s0 (foldT L k r z) (foldR k r x)
  | [], k, z, x, I, _ => I
  | d :: r, k, z, x, I, h => Inv.fold r (k + 1) _ _ (I.step k d (h d List.mem_cons_self)) fun d hd => h d (List.mem_cons_of_mem _ hd)
theorem letT_eq (L : Nat) (ds : List D) (hok : ∀ d ∈ ds, d.ok) (z : List Ent × List Ent) : letT L ds z = (z.1 ++ ((foldR 0 ds ([], [])).1.filter (isL L)).map toE, z.2 ++ ((foldR 0 ds ([], [])).2.filter (isL L)).map toE) := by
  have I : Inv L z.1 (foldT L 0 ds ("", 0, "", z.1)) (foldR 0 ds ([], [])) := Inv.fold ds 0 _ _ ⟨by simp, .inl ⟨rfl, rfl⟩⟩ hok
  unfold letT
  generalize foldT L 0 ds ("", 0, "", z.1) = y at I
  generalize foldR 0 ds ([], []) = x at I
  refine Prod.ext I.s ?_
  dsimp only
  rcases I.t with ⟨h1, h2⟩ | ⟨e, h1, h2, h3⟩
  · rw [if_pos h2, h1]; simp
  · rw [if_neg h3, h1, ← h2]; rfl
theorem three (S : List En) (h : ∀ e ∈ S, e.2.1.l < 3) : S.Perm (S.filter (isL 0) ++ S.filter (isL 1) ++ S.filter (isL 2)) := by
  induction S with
  | nil => exact .refl _
  | cons e S ih =>
    have ih := ih fun e he => h e (List.mem_cons_of_mem _ he)
    have hl := h e List.mem_cons_self
    have h3 : e.2.1.l = 0 ∨ e.2.1.l = 1 ∨ e.2.1.l = 2 := by omega
    simp only [List.filter_cons, isL]
    rcases h3 with h0 | h0 | h0
    · simp only [h0]
      exact ih.cons e
    · simp only [h0]
      refine (ih.cons e).trans ?_
      exact (List.perm_middle (l₁ := S.filter (isL 0)) (l₂ := S.filter (isL 1)) (a := e)).symm.append_right _
    · simp only [h0]
      refine (ih.cons e).trans ?_
      exact (List.perm_middle (l₁ := S.filter (isL 0) ++ S.filter (isL 1)) (l₂ := S.filter (isL 2)) (a := e)).symm

structure GoodL (k : Nat) (S : List En) : Prop where
  s : S.Pairwise fun a b => a.1 < b.1
  b : ∀ e ∈ S, e.1 < k ∧ e.2.1.ok ∧ e.2.2.length ≤ 6 * k
  l : S.length ≤ k
theorem GoodL.up {k : Nat} {S : List En} (g : GoodL k S) : GoodL (k + 1) S := ⟨g.s, fun e he => by obtain ⟨a, b, c⟩ := g.b e he; exact ⟨by omega, b, by omega⟩, by have := g.l; omega⟩
theorem GoodL.put {k : Nat} {S : List En} (g : GoodL k S) {d : D} {x : Str} (ok : d.ok) (hx : x.length ≤ 6 * (k + 1)) : GoodL (k + 1) (S ++ [(k, d, x)]) := ⟨by
  rw [List.pairwise_append]
  refine ⟨g.s, by simp, fun a ha b hb => ?_⟩
  have := (g.b a ha).1
  simp at hb; subst hb; exact this, fun e he => by
  rcases List.mem_append.mp he with h | h
  · exact g.up.b e h
  · simp at h; subst h; exact ⟨by show k < k + 1; omega, ok, hx⟩, by have := g.l; simp; omega⟩
theorem GoodL.resT {k : Nat} {S : List En} (g : GoodL k S) (L : Nat) : GoodL k (resT S L) := ⟨g.s.sublist List.filter_sublist, fun e he => g.b e ((List.mem_filter.mp he).1), Nat.le_trans (List.length_filter_le _ _) g.l⟩
theorem GoodL.old {k : Nat} {S : List En} (g : GoodL k S) (L : Nat) : (old S L).length ≤ 6 * k := by
  unfold Uq.old
  cases h : S.find? (isL L) with
  | none => exact Nat.zero_le _
  | some e => exact (g.b e (List.mem_of_find?_eq_some h)).2.2
theorem good_step {k : Nat} {z : ST} (g1 : GoodL k z.1) (g2 : GoodL k z.2) (d : D) (ok : d.ok) : GoodL (k + 1) (stepR k d z).1 ∧ GoodL (k + 1) (stepR k d z).2 := by
  have h1 := spell_len d.p d.h ok.p ok.h
  have h2 : (Uq.old z.2 d.l ++ d.s).length ≤ 6 * (k + 1) := by
    rw [PySem.strLen_append]
    have := g2.old d.l
    have h3 : d.s.length ≤ 6 := h1
    omega
  unfold stepR
  split
  · exact ⟨g1.put ok h2, (g2.resT _).up⟩
  · exact ⟨g1.up, (g2.resT _).put ok h2⟩
theorem good_fold : ∀ (r : List D) (k : Nat) (z : ST), GoodL k z.1 → GoodL k z.2 → (∀ d ∈ r, d.ok) → GoodL (k + r.length) (foldR k r z).1 ∧ GoodL (k + r.length) (foldR k r z).2
  | [], k, z, g1, g2, _ => ⟨g1, g2⟩
  | d :: r, k, z, g1, g2, h => by
    obtain ⟨a, b⟩ := good_step g1 g2 d (h d List.mem_cons_self)
    have := good_fold r (k + 1) _ a b fun d hd => h d (List.mem_cons_of_mem _ hd)
    rw [List.length_cons, show k + (r.length + 1) = k + 1 + r.length by omega]
    exact this
theorem nm_len (l : Nat) (u : Bool) : (nm l u).length = 1 := by
  unfold nm
  split <;> rfl
theorem told_run (P : Params) (st0 : Hp) (j : Nat) (ds : List D) (hj : st0[j]? = some (ds.map D.v)) (hds : ds.length ≤ 10) (hne : ds ≠ []) (hok : ∀ d ∈ ds, d.ok) :
    ∃ g k, usr P (p1 P) 376 ["deeds"] [.lst j] st0 = some (.tup [.str (pageOf ((foldR 0 ds ([], [])).1.map toE)), .lst k], st0 ++ g) ∧ (st0 ++ g)[k]? = some (((foldR 0 ds ([], [])).2.map toE).map pr) := by
  have g0 : GoodL 0 ([] : List En) := ⟨.nil, fun e he => (by cases he), Nat.le_refl _⟩
  obtain ⟨g1, g2⟩ := good_fold ds 0 ([], []) g0 g0 hok
  have e : toldSL ds = ((((foldR 0 ds ([], [])).1.filter (isL 0) ++ (foldR 0 ds ([], [])).1.filter (isL 1)) ++ (foldR 0 ds ([], [])).1.filter (isL 2)).map toE, (((foldR 0 ds ([], [])).2.filter (isL 0) ++ (foldR 0 ds ([], [])).2.filter (isL 1)) ++ (foldR 0 ds ([], [])).2.filter (isL 2)).map toE) := by
    unfold toldSL
    simp only [letT_eq _ ds hok, List.map_append, List.nil_append]
  generalize foldR 0 ds ([], []) = z at g1 g2 e
  have l1 := g1.l
  have l2 := g2.l
  refine told_val P st0 j ds hj (by omega) hne hok _ _ ?_ ?_ ?_ ?_ ?_ ?_ ?_
  · rw [e]; exact (three z.1 fun e he => (g1.b e he).2.1.l).map _
  · rw [List.pairwise_map]; exact g1.s
  · intro x hx
    obtain ⟨y, hy, rfl⟩ := List.mem_map.mp hx
    obtain ⟨a, b, c⟩ := g1.b y hy
    exact ⟨Nat.le_of_eq (nm_len _ _), by show y.2.2.length ≤ 60; omega⟩
  · rw [List.length_map]; omega
  · rw [e]; exact (three z.2 fun e he => (g2.b e he).2.1.l).map _
  · rw [List.pairwise_map]; exact g2.s
  · rw [List.length_map]; omega
end Uq
end

section
open PySem PySem.Calls PyProof.Rows PySem.W
namespace Uq
open Builtin Builtin.Str

structure XP where
  x1 : Nat
  x2 : Nat
  hh : Nat
  pg : Nat
noncomputable def atX (X : XP) : Addr → Str → Option V := fun a m => if a = X.x1 then (if m = "_headers" then some (.lst X.hh) else none) else if a = X.x2 then lkS [("_ignored_depth", .int 0), ("_root_done", .bool false), ("_root_seen", .bool false)] m else none
theorem at_h (X : XP) : atX X X.x1 "_headers" = some (.lst X.hh) := by simp [atX]
theorem at_2 (X : XP) (ne : X.x1 ≠ X.x2) (m : Str) : atX X X.x2 m = lkS [("_ignored_depth", .int 0), ("_root_done", .bool false), ("_root_seen", .bool false)] m := by simp [atX, Ne.symm ne]
noncomputable def q0 (X : XP) : Parts := ⟨[], searchM, atX X, fun _ => none, fun _ => none, fun _ => none⟩
noncomputable def convS (P : Params) (X : XP) : Fn := fun args st => usr P (q0 X) 91 ["self", "value", "name"] (.imm (.ref X.x1) :: args) st
noncomputable def meth1 (P : Params) (X : XP) : Addr → Str → List Str → Option Fn := fun a m kn => if a = X.x1 ∧ m = "_convert_string_type" ∧ kn = (["name"] : List Str) then some (convS P X) else none
theorem meth1_conv (P : Params) (X : XP) : meth1 P X X.x1 "_convert_string_type" ["name"] = some (convS P X) := by simp [meth1]
noncomputable def q1 (P : Params) (X : XP) : Parts := ⟨[], meth1 P X, atX X, fun _ => none, fun _ => none, fun _ => none⟩
noncomputable def delS (P : Params) (X : XP) : V → Hp → Option Hp := fun j st => (usr P (q1 P X) 110 ["self", "name"] [.imm (.ref X.x1), j] st).map (·.2)
noncomputable def delX (P : Params) (X : XP) : Addr → Option (V → Hp → Option Hp) := fun a => if a = X.x1 then some (delS P X) else none
noncomputable def q2 (P : Params) (X : XP) : Parts := ⟨[], meth1 P X, atX X, fun _ => none, delX P X, fun _ => none⟩

noncomputable def goodS (y : Str) : Prop := y.cps.toList.all (fun c => goodSigns.contains c) = true ∧ y.length ≤ sizeLine
theorem conv_val (P : Params) (X : XP) (y : Str) (b : Bool) (st : Hp) (hy : goodS y) : convS P X [.str y, .bool b] st = some (.str y, st) := by
  have hs : fnSearch goodSigns [.str y] st = some (.none, st) := if_pos ⟨by rw [← Array.all_toList]; exact hy.1, hy.2⟩
  show usr P (q0 X) 91 ["self", "value", "name"] [.imm (.ref X.x1), .str y, .bool b] st = _
  have ht : (lv 11).tv (mkCx (scopeAt (hd.heap_1 P) 91) (q0 X)) [("self", .imm (.ref X.x1)), ("value", .str y), ("name", .bool b)] st (fI (sAt (bodyAt (hd.heap_1 P) 91) 0)) = some (true, st) :=
    tv_cmp (a := .imm (.type "str")) (b := .imm (.type "str")) (ev_call (fun o m q e => by cases e) (a := .imm (.type "type")) (vs := [.str y]) rfl rfl rfl) rfl rfl rfl
  cases b with
  | true =>
    exact usr_of (f := .ret (.str y)) (loc' := [("self", .imm (.ref X.x1)), ("value", .str y), ("name", .bool true), ("regex", .imm (.ref 64))]) rfl (exs_ret (ex_if (c := true) ht
      (exs_next (ex_assign (v := .imm (.ref 64)) rfl (ev_ifexp (c := true) (tv_name (v := .bool true) rfl rfl) rfl)) (exs_next (ex_if (c := false) (tv_call (v := .none) (ev_imeth (x := 64) (vs := [.str y]) (kn := []) rfl rfl rfl rfl rfl rfl hs) rfl) rfl) (exs_ret (ex_ret rfl)))))) rfl
  | false =>
    exact usr_of (f := .ret (.str y)) (loc' := [("self", .imm (.ref X.x1)), ("value", .str y), ("name", .bool false), ("regex", .imm (.ref 69))]) rfl (exs_ret (ex_if (c := true) ht
      (exs_next (ex_assign (v := .imm (.ref 69)) rfl (ev_ifexp (c := false) (tv_name (v := .bool false) rfl rfl) rfl)) (exs_next (ex_if (c := false) (tv_call (v := .none) (ev_imeth (x := 69) (vs := [.str y]) (kn := []) rfl rfl rfl rfl rfl rfl hs) rfl) rfl) (exs_ret (ex_ret rfl)))))) rfl

theorem nm_good (l : Nat) (u : Bool) : goodS (nm l u) := by
  refine ⟨?_, by rw [nm_len]; exact sizeL _ (by decide)⟩
  unfold nm
  split <;> decide
noncomputable def hsV (T : List En) : List V := (T.map toE).map pr
theorem hsV_get {T : List En} {i : Nat} {x : V} (h : (hsV T)[i]? = some x) : ∃ e, T[i]? = some e ∧ x = pr (toE e) := by
  unfold hsV at h
  rw [List.getElem?_map, List.getElem?_map] at h
  cases he : T[i]? with
  | none => rw [he] at h; cases h
  | some e => rw [he] at h; cases h; exact ⟨e, rfl, rfl⟩

noncomputable def S139 (P : Params) (i : Nat) : Stmt := sAt (bodyAt (hd.heap_1 P) 139) i
noncomputable def cx139 (P : Params) (X : XP) : Cx := mkCx (scopeAt (hd.heap_1 P) 139) (q1 P X)
noncomputable abbrev lg (X : XP) (n : Str) : Loc := [("self", .imm (.ref X.x1)), ("name", .str n), ("default", .str "")]
noncomputable abbrev kv (k v : Str) : Loc := [("k", .str k), ("v", .str v)]
theorem get_step (P : Params) (X : XP) (L : Nat) (hL : L < 3) (e : En) (he : e.2.1.l < 3) (tl : Loc) (htl : tl = [] ∨ ∃ k v, tl = kv k v) (st : Hp) :
    forB 11 (cx139 P X) (fT (S139 P 1)) (fB (S139 P 1)) (pr (toE e)) (lg X (nm L false) ++ tl) st = some (if isL L e = true then .ret (.str e.2.2) else .next, lg X (nm L false) ++ kv e.2.1.n e.2.2, st) := by
  have hb : bindT (cx139 P X).sc (fT (S139 P 1)) (pr (toE e)) (lg X (nm L false) ++ tl) = some (lg X (nm L false) ++ kv e.2.1.n e.2.2) := by
    rcases htl with rfl | ⟨k, v, rfl⟩ <;> rfl
  have ht : (lv 10).tv (cx139 P X) (lg X (nm L false) ++ kv e.2.1.n e.2.2) st (fI (sAt (fB (S139 P 1)) 0)) = some (isL L e, st) := by
    refine tv_cmp (a := .str (nm e.2.1.l false)) (b := .str (nm L false)) (ev_smeth (x := e.2.1.n) (vs := []) rfl rfl rfl rfl (lower_nm e.2.1.l e.2.1.u he _)) rfl rfl ?_
    show some (nm e.2.1.l false == nm L false) = some (isL L e)
    rw [nm_eq _ _ he hL]; rfl
  cases hc : isL L e with
  | true =>
    rw [hc] at ht
    rw [if_pos rfl]
    exact forB_of hb (exs_ret (ex_if (c := true) ht (exs_ret (ex_ret rfl))))
  | false =>
    rw [hc] at ht
    rw [if_neg (by decide)]
    exact forB_of hb (exs_next (ex_if (c := false) ht rfl) rfl)
theorem get_loop (P : Params) (X : XP) (L : Nat) (hL : L < 3) (T : List En) (hT : ∀ e ∈ T, e.2.1.l < 3) (st : Hp) (hs : st[X.hh]? = some (hsV T)) : ∀ (r : List En) (i f : Nat) (tl : Loc), T.drop i = r → r.length < f → (tl = [] ∨ ∃ k v, tl = kv k v) →
    ∃ loc', (loc' = lg X (nm L false) ∨ ∃ k v, loc' = lg X (nm L false) ++ kv k v) ∧ loopF (forB 11 (cx139 P X) (fT (S139 P 1)) (fB (S139 P 1))) (.live X.hh) f i (lg X (nm L false) ++ tl) st = some ((match r.find? (isL L) with | some e => .ret (.str e.2.2) | none => .next), loc', st)
  | [], i, f, tl, hd, hf, htl => by
    obtain ⟨f, rfl⟩ : ∃ g, f = g + 1 := ⟨f - 1, by omega⟩
    refine ⟨lg X (nm L false) ++ tl, ?_, loop_end ?_⟩
    · rcases htl with rfl | ⟨k, v, rfl⟩
      · exact .inl rfl
      · exact .inr ⟨_, _, rfl⟩
    · show (match st[X.hh]? with | some ys => some ys[i]? | none => none) = _
      rw [hs]
      have : T.length ≤ i := by
        have := congrArg List.length hd
        simp at this; omega
      show some (hsV T)[i]? = some none
      rw [List.getElem?_eq_none (by unfold hsV; simpa using this)]
  | e :: r, i, f, tl, hd, hf, htl => by
    obtain ⟨f, rfl⟩ : ∃ g, f = g + 1 := ⟨f - 1, by omega⟩
    have he : T[i]? = some e := by
      have := congrArg (fun l => l[0]?) hd
      simpa using this
    have hd' : T.drop (i + 1) = r := by
      have := congrArg List.tail hd
      simpa using this
    have hit : iterS (.live X.hh) i st = some (some (pr (toE e))) := by
      show (match st[X.hh]? with | some ys => some ys[i]? | none => none) = _
      rw [hs]
      show some (hsV T)[i]? = _
      unfold hsV
      rw [List.getElem?_map, List.getElem?_map, he]; rfl
    have step := get_step P X L hL e (hT e (List.mem_of_getElem? he)) tl htl st
    rw [List.find?_cons]
    cases hc : isL L e with
    | true =>
      rw [hc, if_pos rfl] at step
      exact ⟨_, .inr ⟨_, _, rfl⟩, loop_ret hit step⟩
    | false =>
      rw [hc, if_neg (by decide)] at step
      obtain ⟨loc', hl, e2⟩ := get_loop P X L hL T hT st hs r (i + 1) f _ hd' (by simp at hf; omega) (.inr ⟨_, _, rfl⟩)
      exact ⟨loc', hl, loop_next hit step e2⟩
noncomputable def getS (P : Params) (X : XP) : Fn := fun args st => usr P (q1 P X) 139 ["self", "name", "default"] (.imm (.ref X.x1) :: args) st
theorem get_val (P : Params) (X : XP) (L : Nat) (u : Bool) (hL : L < 3) (T : List En) (hT : ∀ e ∈ T, e.2.1.l < 3) (st : Hp) (hs : st[X.hh]? = some (hsV T)) (hl : T.length ≤ 100) : getS P X [.str (nm L u), .str ""] st = some (.str (old T L), st) := by
  show usr P (q1 P X) 139 ["self", "name", "default"] [.imm (.ref X.x1), .str (nm L u), .str ""] st = _
  obtain ⟨loc', hloc, e⟩ := get_loop P X L hL T hT st hs T 0 fuelF [] rfl (by show _ < 1000000; omega) (.inl rfl)
  have e0 : (lv 12).ex (cx139 P X) (lg X (nm L u)) st (S139 P 0) = some (.next, lg X (nm L false), st) :=
    ex_assign (v := .str (nm L false)) rfl (ev_imeth (x := X.x1) (vs := [.str (nm L false), .bool true]) (kn := ["name"]) rfl rfl rfl rfl (evs_cons (ev_smeth (x := nm L u) (vs := []) rfl rfl rfl rfl (lower_nm L u hL _)) rfl) (meth1_conv P X) (conv_val P X _ true st (nm_good L false)))
  have e1 : (lv 12).ex (cx139 P X) (lg X (nm L false)) st (S139 P 1) = some ((match T.find? (isL L) with | some e => .ret (.str e.2.2) | none => .next), loc', st) :=
    ex_for_attr (v := .lst X.hh) (ev_attr (x := X.x1) rfl rfl (at_h X)) rfl e
  unfold old
  cases h : T.find? (isL L) with
  | some y =>
    rw [h] at e1
    exact usr_of (f := .ret (.str y.2.2)) rfl (exs_next e0 (exs_ret e1)) rfl
  | none =>
    rw [h] at e1
    rcases hloc with rfl | ⟨k, v, rfl⟩
    · exact usr_of (f := .ret (.str "")) rfl (exs_next e0 (exs_next e1 (exs_ret (ex_ret rfl)))) rfl
    · exact usr_of (f := .ret (.str "")) rfl (exs_next e0 (exs_next e1 (exs_ret (ex_ret rfl)))) rfl
noncomputable def itemsS (P : Params) (X : XP) : Fn := fun args st => usr P (q1 P X) 156 ["self"] (.imm (.ref X.x1) :: args) st
theorem items_val (P : Params) (X : XP) (T : List En) (st : Hp) (hs : st[X.hh]? = some (hsV T)) (hl : T.length ≤ 100) : itemsS P X [] st = some (.lst st.length, st ++ [hsV T]) := by
  show usr P (q1 P X) 156 ["self"] [.imm (.ref X.x1)] st = _
  refine usr_of (f := .ret (.lst st.length)) (loc' := [("self", .imm (.ref X.x1))]) rfl (exs_ret (ex_ret (ev_slice (a := .lst X.hh) (l := none) (h := none) (ev_attr (x := X.x1) rfl rfl (at_h X)) rfl rfl ?_))) rfl
  have h1 : (hsV T).length ≤ sizeLine := sizeL _ (by unfold hsV; rw [List.length_map, List.length_map]; omega)
  have h2 : cutL (hsV T) none none = hsV T := by simp [cutL]
  exact oc_eq hs ((if_pos h1).trans (by rw [h2]))
end Uq
end

section
open PySem PySem.Calls PyProof.Rows PySem.W
namespace Uq
open Builtin Builtin.Str

noncomputable def S110 (P : Params) (i : Nat) : Stmt := sAt (bodyAt (hd.heap_1 P) 110) i
noncomputable def cx110 (P : Params) (X : XP) : Cx := mkCx (scopeAt (hd.heap_1 P) 110) (q1 P X)
noncomputable def C110 (P : Params) : PySem.Expr := aV (S110 P 1)
noncomputable def sc110 (P : Params) (X : XP) : Scope := compScope (cSc (C110 P)) (cx110 P X).sc
noncomputable def body110 (P : Params) (X : XP) (j : Nat) : V → Loc → Hp → Option (Fl × Loc × Hp) := compB (bindT (sc110 P X) (cTgt (C110 P))) (fun l t => tvs ((lv 10).tv { (cx110 P X) with sc := sc110 P X }) l true (cIfs (C110 P)) t) (fun l t => (lv 10).ev { (cx110 P X) with sc := sc110 P X } l t (cElt (C110 P))) j
theorem hsV_len (T : List En) : (hsV T).length = T.length := by unfold hsV; rw [List.length_map, List.length_map]
theorem hsV_app (T : List En) (e : En) : hsV (T ++ [e]) = hsV T ++ [pr (toE e)] := by unfold hsV; simp
theorem resT_len (T : List En) (L : Nat) : (resT T L).length ≤ T.length := List.length_filter_le _ _
noncomputable abbrev ls2 (X : XP) (n : Str) : Loc := [("self", .imm (.ref X.x1)), ("name", .str n)]
noncomputable abbrev ls3 (X : XP) (n d : Str) : Loc := [("self", .imm (.ref X.x1)), ("name", .str n), ("val", .str d)]
noncomputable abbrev nk (n : Str) (v : V) : Loc := [("name", .str n), ("kv", v)]
theorem del_val (P : Params) (X : XP) (L : Nat) (u : Bool) (hL : L < 3) (T : List En) (hT : ∀ e ∈ T, e.2.1.l < 3) (st : Hp) (hs : st[X.hh]? = some (hsV T)) (hl : T.length ≤ 100) : delS P X (.str (nm L u)) st = some ((st ++ [hsV (resT T L)]).set X.hh (hsV (resT T L))) := by
  have hh : X.hh < st.length := (List.getElem?_eq_some_iff.mp hs).1
  have e0 : (lv 12).ex (cx110 P X) (ls2 X (nm L u)) st (S110 P 0) = some (.next, (ls2 X (nm L false)), st) :=
    ex_assign (v := .str (nm L false)) rfl (ev_imeth (x := X.x1) (vs := [.str (nm L false), .bool true]) (kn := ["name"]) rfl rfl rfl rfl (evs_cons (ev_smeth (x := nm L u) (vs := []) rfl rfl rfl rfl (lower_nm L u hL _)) rfl) (meth1_conv P X) (conv_val P X _ true st (nm_good L false)))
  obtain ⟨l1, s1, e1, -, q1'⟩ := loop_live (body := body110 P X st.length) (k := X.hh) (xs := hsV T)
    (Inv := fun i loc s => (loc = one "name" (.str (nm L false)) ∨ ∃ v, loc = nk (nm L false) v) ∧ s = st ++ [hsV (resT (T.take i) L)]) (loc := one "name" (.str (nm L false))) (st := st ++ [[]])
    (fun i loc s I => by obtain ⟨_, rfl⟩ := I; exact get_old hs _)
    (fun i x loc s hx I => by
      obtain ⟨hloc, rfl⟩ := I
      obtain ⟨e, he, rfl⟩ := hsV_get hx
      have hle := hT e (List.mem_of_getElem? he)
      have hb : bindT (sc110 P X) (cTgt (C110 P)) (pr (toE e)) loc = some (nk (nm L false) (pr (toE e))) := by
        rcases hloc with rfl | ⟨v, rfl⟩ <;> rfl
      have ht : tvs ((lv 10).tv { (cx110 P X) with sc := sc110 P X }) (nk (nm L false) (pr (toE e))) true (cIfs (C110 P)) (st ++ [hsV (resT (T.take i) L)]) = some (!isL L e, st ++ [hsV (resT (T.take i) L)]) := by
        have t1 : (lv 10).tv { (cx110 P X) with sc := sc110 P X } (nk (nm L false) (pr (toE e))) (st ++ [hsV (resT (T.take i) L)]) ((cIfs (C110 P)).headD (.Name "" default)) = some (!isL L e, st ++ [hsV (resT (T.take i) L)]) := by
          refine tv_cmp (a := .str (nm e.2.1.l false)) (b := .str (nm L false)) (ev_smeth (x := e.2.1.n) (vs := []) rfl (ev_sub (a := pr (toE e)) (b := .int 0) (fun l u q e => by cases e) rfl rfl rfl) rfl rfl (lower_nm e.2.1.l e.2.1.u hle _)) rfl rfl ?_
          show some (nm e.2.1.l false != nm L false) = some (!isL L e)
          unfold bne
          rw [nm_eq _ _ hle hL]; rfl
        cases hc : isL L e with
        | true => rw [hc] at t1; exact tvs_stop t1
        | false => rw [hc] at t1; exact tvs_go t1 rfl
      have htk : resT (T.take (i + 1)) L = resT (T.take i) L ++ (if isL L e = true then [] else [e]) := by
        unfold resT
        rw [List.take_add_one, he, List.filter_append]
        cases hc : isL L e <;> simp [hc]
      rw [htk]
      have hsz : (hsV (resT (T.take i) L)).length ≤ sizeLine := sizeL _ (by
        rw [hsV_len]
        have := resT_len (T.take i) L
        rw [List.length_take] at this
        omega)
      cases hc : isL L e with
      | true =>
        rw [hc] at ht
        rw [if_pos rfl, List.append_nil]
        exact ⟨_, _, compB_skip hb ht, .inr ⟨_, rfl⟩, rfl⟩
      | false =>
        rw [hc] at ht
        rw [if_neg (by decide), hsV_app]
        refine ⟨_, _, compB_put (v := pr (toE e)) hb ht rfl (get_last _ _) hsz, .inr ⟨_, rfl⟩, ?_⟩
        rw [set_last])
    (by rw [hsV_len]; show _ < 1000000; omega) ⟨.inl rfl, rfl⟩
  rw [hsV_len, List.take_length] at q1'
  subst q1'
  have hc : (lv 11).ev (cx110 P X) (ls2 X (nm L false)) st (C110 P) = some (.lst st.length, st ++ [hsV (resT T L)]) :=
    ev_comp (src := .live X.hh) (v := .lst X.hh) (ev_attr (x := X.x1) rfl rfl (at_h X)) rfl rfl e1
  have e2 : (lv 12).ex (cx110 P X) (ls2 X (nm L false)) st (S110 P 1) = some (.next, (ls2 X (nm L false)), (st ++ [hsV (resT T L)]).set X.hh (hsV (resT T L))) :=
    ex_whole (i := X.hh) hc (ev_attr (x := X.x1) rfl rfl (at_h X)) (get_last _ _) (get_old hs _) ⟨sizeL _ (by
      rw [hsV_len, hsV_len]
      have := resT_len T L
      omega), by omega⟩
  show (usr P (q1 P X) 110 ["self", "name"] [.imm (.ref X.x1), .str (nm L u)] st).map (·.2) = _
  have e3 : usr P (q1 P X) 110 ["self", "name"] [.imm (.ref X.x1), .str (nm L u)] st = some (.none, (st ++ [hsV (resT T L)]).set X.hh (hsV (resT T L))) :=
    usr_of (f := .next) rfl (exs_next e0 (exs_next e2 rfl)) rfl
  rw [e3]; rfl
noncomputable def setS (P : Params) (X : XP) : V → V → Hp → Option Hp := fun j v st => (usr P (q2 P X) 105 ["self", "name", "val"] [.imm (.ref X.x1), j, v] st).map (·.2)
theorem delX_at (P : Params) (X : XP) : delX P X X.x1 = some (delS P X) := if_pos rfl
noncomputable def S105 (P : Params) (i : Nat) : Stmt := sAt (bodyAt (hd.heap_1 P) 105) i
noncomputable def cx105 (P : Params) (X : XP) : Cx := mkCx (scopeAt (hd.heap_1 P) 105) (q2 P X)
theorem set_val (P : Params) (X : XP) (L : Nat) (u : Bool) (hL : L < 3) (T : List En) (hT : ∀ e ∈ T, e.2.1.l < 3) (st : Hp) (hs : st[X.hh]? = some (hsV T)) (hl : T.length ≤ 100) (d : Str) (hd : goodS d) :
    setS P X (.str (nm L u)) (.str d) st = some ((st ++ [hsV (resT T L)]).set X.hh (hsV (resT T L) ++ [.tup [.str (nm L u), .str d]])) := by
  have hh : X.hh < st.length := (List.getElem?_eq_some_iff.mp hs).1
  generalize hst1 : (st ++ [hsV (resT T L)]).set X.hh (hsV (resT T L)) = st1
  have e0 : (lv 12).ex (cx105 P X) (ls3 X (nm L u) d) st (S105 P 0) = some (.next, (ls3 X (nm L u) d), st1) :=
    ex_del (x := X.x1) (f := delS P X) (j := .str (nm L u)) rfl rfl (delX_at P X) (by rw [del_val P X L u hL T hT st hs hl, hst1])
  have hk : st1[X.hh]? = some (hsV (resT T L)) := by
    rw [← hst1, List.getElem?_set_self (by simp; omega)]
  have hap := ev_append (k := 10) (cx := cx105 P X) (loc := (ls3 X (nm L u) d)) (st := st1) (st1 := st1) (st2 := st1) (j := X.hh) (xs := hsV (resT T L)) (v := .tup [.str (nm L u), .str d])
    (o := eC (eC (aV (S105 P 1)) 0) 0) (e := cA (aV (S105 P 1)) 0)
    (ap := eP (eC (aV (S105 P 1)) 0)) (p := eP (aV (S105 P 1))) rfl
    (ev_attr (x := X.x1) rfl rfl (at_h X)) (ev_tuple (vs := [.str (nm L u), .str d]) (evs_cons (ev_imeth (x := X.x1) (vs := [.str (nm L u), .bool true]) (kn := ["name"]) rfl rfl rfl rfl rfl (meth1_conv P X) (conv_val P X _ true st1 (nm_good L u)))
      (evs_cons (ev_imeth (x := X.x1) (vs := [.str d, .bool false]) (kn := ["name"]) rfl rfl rfl rfl rfl (meth1_conv P X) (conv_val P X _ false st1 hd)) evs_nil)) (sizeL 2 (by decide))) hk (sizeL _ (by
      rw [hsV_len]
      have := resT_len T L
      omega))
  have e3 : usr P (q2 P X) 105 ["self", "name", "val"] [.imm (.ref X.x1), .str (nm L u), .str d] st = some (.none, st1.set X.hh (hsV (resT T L) ++ [.tup [.str (nm L u), .str d]])) :=
    usr_of (f := .next) rfl (exs_next e0 (exs_next (ex_expr (v := .none) rfl hap) rfl)) rfl
  show (usr P (q2 P X) 105 ["self", "name", "val"] [.imm (.ref X.x1), .str (nm L u), .str d] st).map (·.2) = _
  rw [e3, ← hst1, List.set_set]; rfl

/-- the page's writer -/
noncomputable def wrS (X : XP) : Fn := fun args st => match args with
  | [v] => match st[X.pg]? with
    | some xs => if xs.length ≤ sizeLine then some (.none, st.set X.pg (xs ++ [v])) else none
    | none => none
  | _ => none
theorem wr_val (X : XP) (v : V) (st : Hp) (xs : List V) (h : st[X.pg]? = some xs) (hl : xs.length ≤ 1000) : wrS X [v] st = some (.none, st.set X.pg (xs ++ [v])) := by
  unfold wrS
  dsimp only
  rw [h]
  exact if_pos (sizeL _ (by omega))
noncomputable def methW (X : XP) : Addr → Str → List Str → Option Fn := fun a m kn => if a = X.x2 ∧ m = "_write" ∧ kn = ([] : List Str) then some (wrS X) else none
theorem methW_at (X : XP) : methW X X.x2 "_write" [] = some (wrS X) := by simp [methW]
noncomputable def qw (P : Params) (X : XP) : Parts := ⟨[(340, usr P p0 340 ["text"])], methW X, atX X, fun _ => none, fun _ => none, fun _ => none⟩
theorem evJoin_c {ev : EvT} {loc : Loc} {y acc : Str} {i : Nat} {p : Pos} {es : List PySem.Expr} {st : Hp} {R : Option (Str × Hp)} (hl : (acc ++ y).length ≤ 1000000) (h : evJoin ev loc es (acc ++ y) st = R) : evJoin ev loc (.Constant (.str y) i p :: es) acc st = R := by
  exact ob_eq (x := joinPart ev loc st (.Constant (.str y) i p)) rfl ((if_pos (by rw [sizeLine_eq]; omega)).trans h)
theorem evJoin_f {ev : EvT} {loc : Loc} {y acc : Str} {c : Int} {e : PySem.Expr} {p : Pos} {es : List PySem.Expr} {st st1 : Hp} {R : Option (Str × Hp)} (hc : decide (c = -1) = true) (he : ev loc st e = some (.str y, st1)) (hl : (acc ++ y).length ≤ 1000000) (h : evJoin ev loc es (acc ++ y) st1 = R) :
    evJoin ev loc (.FormattedValue e c none p :: es) acc st = R :=
  ob_eq (x := joinPart ev loc st (.FormattedValue e c none p)) (oc_eq (x := fmtOf (.FormattedValue e c none p)) (v := e) (ou_eq hc rfl) (ob_eq he (oc_eq (x := strOf (.str y)) rfl (if_pos (by rw [PySem.strLen_append] at hl; rw [sizeLine_eq]; omega))))) ((if_pos (by rw [sizeLine_eq]; omega)).trans h)
theorem ev_join {k : Nat} {cx : Cx} {loc : Loc} {st st1 : Hp} {v1 v2 : PySem.Expr} {rest' : List PySem.Expr} {p : Pos} {x : Str} (h : evJoin ((lv k).ev cx) loc (v1 :: v2 :: rest') Str.empty st = some (x, st1)) (hl : x.length ≤ 1000000) : (lv (k + 1)).ev cx loc st (.JoinedStr (v1 :: v2 :: rest') p) = some (.str x, st1) :=
  (ob_eq h (if_pos (by rw [sizeLine_eq]; omega)) : nextEv (lv k) cx loc st (.JoinedStr (v1 :: v2 :: rest') p) = some (.str x, st1))
end Uq
end

section
open PySem PySem.Calls PyProof.Rows PySem.W
namespace Uq
open Builtin Builtin.Str

theorem sub1_mem {c a : Nat} {z : List Nat} : ∀ {l : List Nat}, c ∈ sub1 a z l → c ∈ z ∨ c ∈ l
  | [], h => by cases h
  | b :: l, h => by
    have e : sub1 a z (b :: l) = (if b = a then z else [b]) ++ sub1 a z l := rfl
    rw [e] at h
    rcases List.mem_append.mp h with h | h
    · split at h
      · exact .inl h
      · exact .inr (by rw [List.mem_singleton.mp h]; exact List.mem_cons_self)
    · rcases sub1_mem h with h | h
      · exact .inl h
      · exact .inr (List.mem_cons_of_mem _ h)
theorem goodS.mem {y : Str} (h : goodS y) {c : Nat} (hc : c ∈ y.cps.toList) : c ∈ goodSigns := by
  have := List.all_eq_true.mp h.1 c hc
  simpa using this
theorem esc_good {d : Str} (h : goodS d) : T (esc340 d.cps.toList) = escD d := by
  have k1 : ∀ c, c = 62 ∨ c = 13 → c ∉ sub1 60 [38, 108, 116, 59] (sub1 38 [38, 97, 109, 112, 59] d.cps.toList) := fun c hc hm => by
    rcases sub1_mem hm with h1 | h1
    · rcases hc with rfl | rfl <;> exact absurd h1 (by decide)
    · rcases sub1_mem h1 with h2 | h2
      · rcases hc with rfl | rfl <;> exact absurd h2 (by decide)
      · have := h.mem h2
        rcases hc with rfl | rfl <;> exact absurd this (by decide)
  unfold esc340 escD
  congr 1
  rw [sub1_free (c := 62) (k1 62 (.inl rfl)), sub1_free (c := 13) (k1 13 (.inr rfl))]

noncomputable def S326 (P : Params) (i : Nat) : Stmt := sAt (bodyAt (hd.heap_1 P) 326) i
noncomputable def cx326 (P : Params) (X : XP) : Cx := mkCx (scopeAt (hd.heap_1 P) 326) (qw P X)
noncomputable abbrev lpi (X : XP) (n d : Str) : Loc := [("self", .imm (.ref X.x2)), ("target", .str n), ("data", .str d)]
noncomputable def piS (P : Params) (X : XP) : Fn := fun args st => usr P (qw P X) 326 ["self", "target", "data"] (.imm (.ref X.x2) :: args) st
noncomputable def head (n d : Str) : Str := "<?" ++ n ++ " " ++ escD d ++ "?>"
theorem pi_val (P : Params) (X : XP) (ne : X.x1 ≠ X.x2) (n d : Str) (hn : n.length ≤ 1) (hd : goodS d) (hl : d.length ≤ 60) (h0 : 0 < d.length) (st : Hp) (xs : List V) (hs : st[X.pg]? = some xs) (hx : xs.length ≤ 500) :
    piS P X [.str n, .str d] st = some (.none, st.set X.pg (xs ++ [.str (head n d), .str "\n"])) := by
  have hp : X.pg < st.length := (List.getElem?_eq_some_iff.mp hs).1
  have a1 : (lv 12).ex (cx326 P X) (lpi X n d) st (S326 P 0) = some (.next, lpi X n d, st) :=
    ex_if (c := false) (tv_attr (v := .int 0) (ev_attr (x := X.x2) rfl rfl ((at_2 X ne _).trans rfl)) rfl) rfl
  have a2 : (lv 12).ex (cx326 P X) (lpi X n d) st (S326 P 1) = some (.next, lpi X n d, st) :=
    ex_if (c := false) (tv_attr (v := .bool false) (ev_attr (x := X.x2) rfl rfl ((at_2 X ne _).trans rfl)) rfl)
      (exs_next (ex_if (c := false) (tv_and (tvs_stop (tv_attr (v := .bool false) (ev_attr (x := X.x2) rfl rfl ((at_2 X ne _).trans rfl)) rfl))) rfl) rfl)
  have he : T (esc340 d.cps.toList) = escD d := esc_good hd
  have hc := esc340_val P d st (by omega)
  rw [he] at hc
  have hel := escD_len d hl
  have l2 : ("<?" : Str).length = 2 := rfl
  have l1 : (" " : Str).length = 1 := rfl
  have l3 : ("?>" : Str).length = 2 := rfl
  have hb : ("<?" : Str).length ≤ 1000000 ∧ ("<?" ++ n : Str).length ≤ 1000000 ∧ ("<?" ++ n ++ " " : Str).length ≤ 1000000 ∧ ("<?" ++ n ++ " " ++ escD d : Str).length ≤ 1000000 ∧ (head n d).length ≤ 1000000 := by
    unfold head
    simp only [PySem.strLen_append]
    omega
  have hj : (lv 9).ev (cx326 P X) (lpi X n d) st (eC (cA (aV (S326 P 2)) 0) 1) = some (.str (head n d), st) := by
    refine ev_join (k := 8) ?_ hb.2.2.2.2
    refine evJoin_c hb.1 (evJoin_f rfl rfl hb.2.1 (evJoin_c hb.2.2.1 (evJoin_f rfl (ev_call (fun o m q e => by cases e) (a := .imm (.ref 340)) (vs := [.str d]) rfl rfl hc) hb.2.2.2.1 (evJoin_c hb.2.2.2.2 rfl))))
  have ht : (lv 9).tv (cx326 P X) (lpi X n d) st (eC (cA (aV (S326 P 2)) 0) 0) = some (true, st) := by
    refine tv_name (v := .str d) rfl ?_
    show (if d.length ≤ sizeLine then some ((d.length : Int) != 0) else none) = _
    rw [if_pos (sizeL _ (by omega))]
    have : ((d.length : Int) != 0) = true := by
      rw [bne_iff_ne]; omega
    rw [this]
  have a3 : (lv 12).ex (cx326 P X) (lpi X n d) st (S326 P 2) = some (.next, lpi X n d, st.set X.pg (xs ++ [.str (head n d)])) :=
    ex_expr (v := .none) rfl (ev_imeth (x := X.x2) (vs := [.str (head n d)]) (kn := []) rfl rfl rfl rfl (evs_cons (ev_ifexp (c := true) ht hj) evs_nil) (methW_at X) (wr_val X _ st xs hs (by omega)))
  have hs2 : (st.set X.pg (xs ++ [.str (head n d)]))[X.pg]? = some (xs ++ [.str (head n d)]) := by rw [List.getElem?_set_self hp]
  have hw := wr_val X (.str "\n") _ _ hs2 (by simp; omega)
  rw [List.set_set, List.append_assoc] at hw
  have a4 : (lv 12).ex (cx326 P X) (lpi X n d) (st.set X.pg (xs ++ [.str (head n d)])) (S326 P 3) = some (.next, lpi X n d, st.set X.pg (xs ++ [.str (head n d), .str "\n"])) :=
    ex_if (c := true) (tv_not (c := false) (tv_attr (v := .bool false) (ev_attr (x := X.x2) rfl rfl ((at_2 X ne _).trans rfl)) rfl))
      (exs_next (ex_expr (v := .none) rfl (ev_imeth (x := X.x2) (vs := [.str "\n"]) (kn := []) rfl rfl rfl rfl rfl (methW_at X) hw)) rfl)
  exact usr_of (f := .next) (loc' := lpi X n d) rfl (exs_next a1 (exs_next a2 (exs_next a3 (exs_next a4 rfl)))) rfl

/-- the signs of the drafts -/
theorem spell_good (p h : Nat) (hp : p < 8) (hh : h < 5) : (spell p h).cps.toList.all (fun c => goodSigns.contains c) = true := by
  have h1 : p = 0 ∨ p = 1 ∨ p = 2 ∨ p = 3 ∨ p = 4 ∨ p = 5 ∨ p = 6 ∨ p = 7 := by omega
  have h2 : h = 0 ∨ h = 1 ∨ h = 2 ∨ h = 3 ∨ h = 4 := by omega
  rcases h1 with rfl | rfl | rfl | rfl | rfl | rfl | rfl | rfl <;> rcases h2 with rfl | rfl | rfl | rfl | rfl <;> decide
noncomputable def AllGood (T : List En) : Prop := ∀ e ∈ T, e.2.2.cps.toList.all (fun c => goodSigns.contains c) = true
theorem old_good {T : List En} (h : AllGood T) (L : Nat) : (old T L).cps.toList.all (fun c => goodSigns.contains c) = true := by
  unfold old
  cases z : T.find? (isL L) with
  | none => rfl
  | some e => exact h e (List.mem_of_find?_eq_some z)
theorem draft_good {T : List En} (h : AllGood T) (d : D) (ok : d.ok) : (old T d.l ++ d.s).cps.toList.all (fun c => goodSigns.contains c) = true := by
  rw [PyProof.Rows.cps_toList_append, List.all_append, old_good h]
  exact spell_good d.p d.h ok.p ok.h
theorem step_good {z : ST} (h : AllGood z.2) (k : Nat) (d : D) (ok : d.ok) : AllGood (stepR k d z).2 := by
  unfold stepR
  split
  · exact fun e he => h e (List.mem_filter.mp he).1
  · intro e he
    rcases List.mem_append.mp he with he | he
    · exact h e (List.mem_filter.mp he).1
    · simp at he; subst he; exact draft_good h d ok
end Uq
end

section
open PySem PySem.Calls PyProof.Rows PySem.W
namespace Uq
open Builtin Builtin.Str

noncomputable def setX (P : Params) (X : XP) : Addr → Option (V → V → Hp → Option Hp) := fun a => if a = X.x1 then some (setS P X) else none
theorem setX_at (P : Params) (X : XP) : setX P X X.x1 = some (setS P X) := if_pos rfl
noncomputable def meth3 (P : Params) (X : XP) : Addr → Str → List Str → Option Fn := fun a m kn =>
  if a = X.x1 ∧ m = "get" ∧ kn = ([] : List Str) then some (getS P X) else if a = X.x1 ∧ m = "items" ∧ kn = ([] : List Str) then some (itemsS P X) else if a = X.x2 ∧ m = "pi" ∧ kn = ([] : List Str) then some (piS P X) else none
theorem meth3_get (P : Params) (X : XP) : meth3 P X X.x1 "get" [] = some (getS P X) := by simp [meth3]
theorem str_ne_items : ("items" : Str) ≠ "get" := by decide
theorem str_ne_pi1 : ("pi" : Str) ≠ "get" := by decide
theorem str_ne_pi2 : ("pi" : Str) ≠ "items" := by decide
theorem meth3_items (P : Params) (X : XP) : meth3 P X X.x1 "items" [] = some (itemsS P X) := by
  unfold meth3
  rw [if_neg (fun h => str_ne_items h.2.1), if_pos ⟨rfl, rfl, rfl⟩]
theorem meth3_pi (P : Params) (X : XP) : meth3 P X X.x2 "pi" [] = some (piS P X) := by
  unfold meth3
  rw [if_neg (fun h => str_ne_pi1 h.2.1), if_neg (fun h => str_ne_pi2 h.2.1), if_pos ⟨rfl, rfl, rfl⟩]
noncomputable def q3 (P : Params) (X : XP) : Parts := ⟨(59, usr P (p1 P) 59 ["addr"]) :: (p1 P).fns, meth3 P X, fun _ _ => none, setX P X, delX P X, fun _ => none⟩

noncomputable def pageT (S : List En) : List Str := S.flatMap fun e => [head e.2.1.n e.2.2, "\n"]
noncomputable def handsV : List V := [.imm (.ref 216), .imm (.ref 223), .imm (.ref 230), .imm (.ref 347), .imm (.ref 340)]
theorem hands_at : ∀ h, h < 5 → handsV[h]? = some (.imm (.ref (handA h))) := by
  intro h hh
  have h2 : h = 0 ∨ h = 1 ∨ h = 2 ∨ h = 3 ∨ h = 4 := by omega
  rcases h2 with rfl | rfl | rfl | rfl | rfl <;> rfl
structure RunSt (X : XP) (j hk : Nat) (ds : List D) (st : Hp) (z : ST) : Prop where
  d : st[j]? = some (ds.map D.v)
  k : st[hk]? = some handsV
  h : st[X.hh]? = some (hsV z.2)
  p : st[X.pg]? = some ((pageT z.1).map .str)
structure Apart (X : XP) (j hk : Nat) : Prop where
  jh : j ≠ X.hh
  jp : j ≠ X.pg
  kh : hk ≠ X.hh
  kp : hk ≠ X.pg
  hp : X.hh ≠ X.pg
  xx : X.x1 ≠ X.x2
section
variable {X : XP} {j hk : Nat} {ds : List D} {st : Hp} {z : ST}
theorem RunSt.app (r : RunSt X j hk ds st z) (g : Hp) : RunSt X j hk ds (st ++ g) z := ⟨get_old r.d _, get_old r.k _, get_old r.h _, get_old r.p _⟩
theorem RunSt.setH (r : RunSt X j hk ds st z) (a : Apart X j hk) (T : List En) : RunSt X j hk ds (st.set X.hh (hsV T)) (z.1, T) :=
  ⟨by rw [List.getElem?_set_ne (Ne.symm a.jh)]; exact r.d, by rw [List.getElem?_set_ne (Ne.symm a.kh)]; exact r.k, by rw [List.getElem?_set_self (List.getElem?_eq_some_iff.mp r.h).1], by rw [List.getElem?_set_ne a.hp]; exact r.p⟩
theorem RunSt.setP (r : RunSt X j hk ds st z) (a : Apart X j hk) (S : List En) : RunSt X j hk ds (st.set X.pg ((pageT S).map .str)) (S, z.2) :=
  ⟨by rw [List.getElem?_set_ne (Ne.symm a.jp)]; exact r.d, by rw [List.getElem?_set_ne (Ne.symm a.kp)]; exact r.k, by rw [List.getElem?_set_ne (Ne.symm a.hp)]; exact r.h, by rw [List.getElem?_set_self (List.getElem?_eq_some_iff.mp r.p).1]⟩
end
noncomputable def S359 (P : Params) (i : Nat) : Stmt := sAt (bodyAt (hd.heap_1 P) 359) i
noncomputable def cx359 (P : Params) (X : XP) : Cx := mkCx (scopeAt (hd.heap_1 P) 359) (q3 P X)
noncomputable abbrev lr (X : XP) (j hk : Nat) : Loc := [("deeds", .lst j), ("hands", .lst hk), ("table", .imm (.ref X.x1)), ("page", .lst X.pg), ("writer", .imm (.ref X.x2))]
noncomputable abbrev lt3 (d : D) : Loc := [("name", .str d.n), ("piece", .str (piece d.p)), ("hand", .int (d.h : Nat))]
noncomputable abbrev lt4 (d : D) (x : Str) : Loc := [("name", .str d.n), ("piece", .str (piece d.p)), ("hand", .int (d.h : Nat)), ("draft", .str x)]

theorem run_step (P : Params) (X : XP) (j hk : Nat) (a : Apart X j hk) (ds : List D) (st : Hp) (z : ST) (r : RunSt X j hk ds st z) (k : Nat) (hk10 : k ≤ 9) (g1 : GoodL k z.1) (g2 : GoodL k z.2) (ag : AllGood z.2) (d : D) (ok : d.ok) (tl : Loc) (htl : tl = [] ∨ ∃ d x, tl = lt4 d x) :
    ∃ st', forB 11 (cx359 P X) (fT (S359 P 4)) (fB (S359 P 4)) d.v (lr X j hk ++ tl) st = some (.next, lr X j hk ++ lt4 d (old z.2 d.l ++ d.s), st') ∧ RunSt X j hk ds st' (stepR k d z) := by
  obtain ⟨l1, hb, hb2, n1, n2, n3⟩ : ∃ l1, bindT (cx359 P X).sc (fT (S359 P 4)) d.v (lr X j hk ++ tl) = some (lr X j hk ++ l1) ∧ (∀ x, setL (lr X j hk ++ l1) "draft" (.str x) = lr X j hk ++ lt4 d x) ∧ getL (lr X j hk ++ l1) "name" = some (.str d.n) ∧ getL (lr X j hk ++ l1) "piece" = some (.str (piece d.p)) ∧ getL (lr X j hk ++ l1) "hand" = some (.int (d.h : Nat)) := by
    rcases htl with rfl | ⟨d', x, rfl⟩
    · exact ⟨lt3 d, rfl, fun x => rfl, rfl, rfl, rfl⟩
    · exact ⟨lt4 d x, rfl, fun x => rfl, rfl, rfl, rfl⟩
  have hl3 : ∀ e ∈ z.2, e.2.1.l < 3 := fun e he => (g2.b e he).2.1.l
  have hz2 := g2.l
  have hz1 := g1.l
  have hgd := draft_good ag d ok
  have hol := g2.old d.l
  have hsl : d.s.length ≤ 6 := spell_len d.p d.h ok.p ok.h
  have hdl : (old z.2 d.l ++ d.s).length ≤ 60 := by rw [PySem.strLen_append]; omega
  have hd0 : 0 < (old z.2 d.l ++ d.s).length := by
    rw [PySem.strLen_append]
    have := spell_ne d.p d.h ok.p ok.h
    have h2 : 0 < d.s.length := this
    omega
  have hgs : goodS (old z.2 d.l ++ d.s) := ⟨hgd, sizeL _ (by omega)⟩
  have hfn : ∀ h, h < 5 → (cx359 P X).fn (.ref (handA h)) = some (usr P p0 (handA h) ["text"]) := by
    intro h hh
    have h2 : h = 0 ∨ h = 1 ∨ h = 2 ∨ h = 3 ∨ h = 4 := by omega
    rcases h2 with rfl | rfl | rfl | rfl | rfl <;> rfl
  have e0 : (lv 11).ex (cx359 P X) (lr X j hk ++ l1) st (sAt (fB (S359 P 4)) 0) = some (.next, lr X j hk ++ lt4 d (old z.2 d.l ++ d.s), st) := by
    rw [← hb2]
    refine ex_assign (v := .str (old z.2 d.l ++ d.s)) rfl (ev_bin (st1 := st) (st2 := st) (a := .str (old z.2 d.l)) (b := .str d.s) ?_ ?_ (add_str (by omega)))
    · exact ev_imeth (x := X.x1) (vs := [.str (nm d.l (!d.u)), .str ""]) (kn := []) rfl rfl rfl rfl (evs_cons (ev_smeth (x := d.n) (vs := []) rfl (ev_name rfl (by unfold nameV; rw [n1])) rfl rfl (swap_nm d.l d.u ok.l _)) rfl) (meth3_get P X) (get_val P X d.l (!d.u) ok.l z.2 hl3 st r.h (by omega))
    · refine ev_call (fun o m q e => by cases e) (a := .imm (.ref (handA d.h))) (vs := [.str (piece d.p)]) (ev_sub (a := .lst hk) (b := .int (d.h : Nat)) (fun l u q e => by cases e) rfl (ev_name rfl (by unfold nameV; rw [n3])) (subV_lst r.k (hands_at d.h ok.h) (by have := ok.h; omega))) (evs_cons (ev_name rfl (by unfold nameV; rw [n2])) evs_nil) ?_
      show (match (cx359 P X).fn (.ref (handA d.h)) with | some spec => spec [.str (piece d.p)] st | none => none) = _
      rw [hfn d.h ok.h]
      exact escape_val P st d.p ok.p d.h ok.h
  obtain ⟨g, hg⟩ := check_val P (old z.2 d.l ++ d.s) st (by omega)
  have t1 : (lv 10).tv (cx359 P X) (lr X j hk ++ lt4 d (old z.2 d.l ++ d.s)) st (fI (sAt (fB (S359 P 4)) 1)) = some (closedB (old z.2 d.l ++ d.s), st ++ g) := by
    refine tv_cmp (a := .bool (closedB (old z.2 d.l ++ d.s))) (b := .bool true) (ev_call (fun o m q e => by cases e) (a := .imm (.ref 59)) (vs := [.str (old z.2 d.l ++ d.s)]) rfl rfl hg) rfl rfl ?_
    show some (_ == true) = _
    cases closedB (old z.2 d.l ++ d.s) <;> rfl
  have r1 := r.app g
  unfold stepR
  cases hc : closedB (old z.2 d.l ++ d.s) with
  | true =>
    rw [hc] at t1
    rw [if_pos rfl]
    have hpi := pi_val P X a.xx d.n (old z.2 d.l ++ d.s) (Nat.le_of_eq (nm_len _ _)) hgs hdl hd0 (st ++ g) _ r1.p (by
      rw [List.length_map]
      have : ∀ S : List En, (pageT S).length = 2 * S.length := fun S => by
        induction S with
        | nil => rfl
        | cons e S ih => 
          have : pageT (e :: S) = [head e.2.1.n e.2.2, "\n"] ++ pageT S := rfl
          rw [this, List.length_append, ih, List.length_cons]; simp; omega
      rw [this]; omega)
    have hpt : (pageT z.1).map V.str ++ [.str (head d.n (old z.2 d.l ++ d.s)), .str "\n"] = (pageT (z.1 ++ [(k, d, old z.2 d.l ++ d.s)])).map .str := by unfold pageT; simp
    rw [hpt] at hpi
    have r2 := r1.setP a (z.1 ++ [(k, d, old z.2 d.l ++ d.s)])
    have hde := del_val P X d.l d.u ok.l z.2 hl3 _ r2.h (by omega)
    have r3 := (r2.app [hsV (resT z.2 d.l)]).setH a (resT z.2 d.l)
    refine ⟨_, forB_of hb (exs_next e0 (exs_next (ex_if (c := true) t1 (exs_next (ex_expr (v := .none) rfl (ev_imeth (x := X.x2) (vs := [.str d.n, .str (old z.2 d.l ++ d.s)]) (kn := []) rfl rfl rfl rfl rfl (meth3_pi P X) hpi)) (exs_next (ex_del (x := X.x1) (f := delS P X) (j := .str d.n) rfl rfl (delX_at P X) hde) rfl))) rfl)), r3⟩
  | false =>
    rw [hc] at t1
    rw [if_neg (by decide)]
    have hse := set_val P X d.l d.u ok.l z.2 hl3 (st ++ g) r1.h (by omega) (old z.2 d.l ++ d.s) hgs
    have hht : hsV (resT z.2 d.l) ++ [.tup [.str (nm d.l d.u), .str (old z.2 d.l ++ d.s)]] = hsV (resT z.2 d.l ++ [(k, d, old z.2 d.l ++ d.s)]) := by rw [hsV_app]; rfl
    rw [hht] at hse
    have r3 := (r1.app [hsV (resT z.2 d.l)]).setH a (resT z.2 d.l ++ [(k, d, old z.2 d.l ++ d.s)])
    refine ⟨_, forB_of hb (exs_next e0 (exs_next (ex_if (c := false) t1 (exs_next (ex_set (x := X.x1) (f := setS P X) (j := .str d.n) (v := .str (old z.2 d.l ++ d.s)) (fun q e => by cases e) rfl rfl rfl rfl (setX_at P X) hse) rfl)) rfl)), r3⟩
end Uq
end

section
open PySem PySem.Calls PyProof.Rows PySem.W
namespace Uq
open Builtin Builtin.Str

theorem foldR_snoc : ∀ (r : List D) (k : Nat) (d : D) (z : ST), foldR k (r ++ [d]) z = stepR (k + r.length) d (foldR k r z)
  | [], k, d, z => rfl
  | e :: r, k, d, z => by
    show foldR (k + 1) (r ++ [d]) (stepR k e z) = _
    rw [foldR_snoc r (k + 1) d]
    rw [List.length_cons, show k + (r.length + 1) = k + 1 + r.length by omega]; rfl
theorem all_good : ∀ (r : List D) (k : Nat) (z : ST), AllGood z.2 → (∀ d ∈ r, d.ok) → AllGood (foldR k r z).2
  | [], k, z, h, _ => h
  | d :: r, k, z, h, ho => all_good r (k + 1) _ (step_good h k d (ho d List.mem_cons_self)) fun e he => ho e (List.mem_cons_of_mem _ he)
theorem page_list : ∀ (S : List En) (a : Str), ((S.map toE).foldl pageStep a).cps.toList = a.cps.toList ++ ((pageT S).map fun p => p.cps.toList).flatten
  | [], a => by simp [pageT]
  | e :: S, a => by
    rw [List.map_cons, List.foldl_cons, page_list S]
    have : pageT (e :: S) = [head e.2.1.n e.2.2, "\n"] ++ pageT S := rfl
    rw [this]
    simp only [List.map_append, List.map_cons, List.map_nil, List.flatten_append, List.flatten_cons, List.flatten_nil, List.append_nil]
    rw [← List.append_assoc]
    congr 1
    unfold pageStep head toE
    simp only [PyProof.Rows.cps_toList_append]
    have : ("?>\n" : Str).cps.toList = ("?>" : Str).cps.toList ++ ("\n" : Str).cps.toList := rfl
    rw [this]
    simp only [List.append_assoc]
theorem page_join (S : List En) : Str.join "" (pageT S) = pageOf (S.map toE) := by
  apply PyProof.Rows.str_of_list
  rw [join_list]
  unfold pageOf
  rw [page_list]
  show joinL [] _ = [] ++ _
  rw [joinL_nil, List.nil_append]
theorem pageT_sum : ∀ (S : List En) (k : Nat), GoodL k S → k ≤ 10 → ((pageT S).map fun t => t.length + ("" : Str).length).sum ≤ S.length * 2200
  | [], k, g, hk => Nat.zero_le _
  | e :: S, k, g, hk => by
    have ih := pageT_sum S k ⟨(List.pairwise_cons.mp g.s).2, fun e he => g.b e (List.mem_cons_of_mem _ he), by have := g.l; simp at this; omega⟩ hk
    have h1 := (g.b e List.mem_cons_self).2.2
    have h2 := escD_len e.2.2 (by omega)
    have h3 : (head e.2.1.n e.2.2).length ≤ 2170 := by
      unfold head
      simp only [PySem.strLen_append]
      have : e.2.1.n.length = 1 := nm_len _ _
      have l2 : ("<?" : Str).length = 2 := rfl
      have l1 : (" " : Str).length = 1 := rfl
      have l3 : ("?>" : Str).length = 2 := rfl
      omega
    have : pageT (e :: S) = [head e.2.1.n e.2.2, "\n"] ++ pageT S := rfl
    rw [this, List.map_append, List.sum_append, List.length_cons]
    have l0 : ("" : Str).length = 0 := rfl
    have ln : ("\n" : Str).length = 1 := rfl
    simp only [List.map_cons, List.map_nil, List.sum_cons, List.sum_nil]
    omega
theorem run_val (P : Params) (X : XP) (j hk : Nat) (a : Apart X j hk) (ds : List D) (hds : ds.length ≤ 10) (hok : ∀ d ∈ ds, d.ok) (st : Hp) (r : RunSt X j hk ds st ([], [])) :
    ∃ st' kk loc', exs ((lv 12).ex (cx359 P X)) [S359 P 4, S359 P 5] (lr X j hk) st = some (.ret (.tup [.str (pageOf ((foldR 0 ds ([], [])).1.map toE)), .lst kk]), loc', st') ∧ st'[kk]? = some (hsV (foldR 0 ds ([], [])).2) ∧ st'[j]? = some (ds.map D.v) := by
  have g0 : GoodL 0 ([] : List En) := ⟨.nil, fun e he => (by cases he), Nat.le_refl _⟩
  obtain ⟨l1, s1, e1, q1', q2'⟩ := loop_live (body := forB 11 (cx359 P X) (fT (S359 P 4)) (fB (S359 P 4))) (k := j) (xs := ds.map D.v)
    (Inv := fun i loc s => (∃ tl, (tl = [] ∨ ∃ d x, tl = lt4 d x) ∧ loc = lr X j hk ++ tl) ∧ RunSt X j hk ds s (foldR 0 (ds.take i) ([], []))) (loc := lr X j hk) (st := st)
    (fun i loc s I => I.2.d)
    (fun i x loc s hx I => by
      obtain ⟨⟨tl, htl, rfl⟩, r⟩ := I
      rw [List.getElem?_map] at hx
      cases hd : ds[i]? with
      | none => rw [hd] at hx; cases hx
      | some d =>
        rw [hd] at hx; cases hx
        have hi : i < ds.length := (List.getElem?_eq_some_iff.mp hd).1
        have hlen : (ds.take i).length = i := by rw [List.length_take]; omega
        have hok' : ∀ d ∈ ds.take i, d.ok := fun d h => hok d (List.mem_of_mem_take h)
        obtain ⟨g1, g2⟩ := good_fold (ds.take i) 0 ([], []) g0 g0 hok'
        rw [hlen, Nat.zero_add] at g1 g2
        obtain ⟨st', e, r'⟩ := run_step P X j hk a ds s _ r i (by omega) g1 g2 (all_good _ _ _ (fun e he => (by cases he)) hok') d (hok d (List.mem_of_getElem? hd)) tl htl
        refine ⟨_, st', e, ⟨_, .inr ⟨_, _, rfl⟩, rfl⟩, ?_⟩
        have : ds.take (i + 1) = ds.take i ++ [d] := by rw [List.take_add_one, hd]; rfl
        rw [this, foldR_snoc, hlen, Nat.zero_add]
        exact r')
    (by rw [List.length_map]; show _ < 1000000; omega) ⟨⟨[], .inl rfl, rfl⟩, r⟩
  rw [List.length_map, List.take_length] at q2'
  obtain ⟨g1, g2⟩ := good_fold ds 0 ([], []) g0 g0 hok
  generalize foldR 0 ds ([], []) = z at q2' g1 g2
  have hz1 := g1.l
  have hz2 := g2.l
  have hjo := meth_join "" (pageT z.1) s1 X.pg q2'.p (by
    have := pageT_sum z.1 _ g1 (by omega)
    omega)
  rw [page_join] at hjo
  have hit := items_val P X z.2 s1 q2'.h (by omega)
  obtain ⟨tl, htl, rfl⟩ := q1'
  refine ⟨s1 ++ [hsV z.2], s1.length, lr X j hk ++ tl, exs_next (ex_for_name (v := .lst j) rfl rfl e1) (exs_ret (ex_ret (ev_tuple (vs := [.str (pageOf (z.1.map toE)), .lst s1.length]) (evs_cons (ev_smeth (x := "") (vs := [.lst X.pg]) rfl rfl rfl rfl hjo) (evs_cons (ev_imeth (x := X.x1) (vs := []) (kn := []) rfl rfl rfl rfl rfl (meth3_items P X) hit) evs_nil)) (sizeL 2 (by decide))))), get_last _ _, get_old q2'.d _⟩
end Uq
end

section
open PySem PySem.Calls PyProof.Rows PySem.W
namespace Uq
open Builtin Builtin.Str

noncomputable def toD (x : Nat) : D := ⟨x / 40 % 3, x / 120 % 2 == 1, x % 8, x / 8 % 5⟩
theorem toD_ok (x : Nat) : (toD x).ok := ⟨Nat.mod_lt _ (by decide), Nat.mod_lt _ (by decide), Nat.mod_lt _ (by decide)⟩
noncomputable def iv (n : Nat) : V := .int (n : Int)
noncomputable def rowN (xs : List Int) : List Nat := (xs.take 10).map fun x => (x.fmod 1000000).toNat
noncomputable def consts : List Nat := [40, 8, 162, 130, 72, 17, 194, 65, 201]
noncomputable def rowOf (xs : List Int) : List Nat := rowN xs ++ consts.drop (rowN xs).length
theorem rowN_len (xs : List Int) : (rowN xs).length ≤ 10 := by unfold rowN; rw [List.length_map, List.length_take]; omega
theorem rowOf_len (xs : List Int) : (rowOf xs).length ≤ 10 ∧ 0 < (rowOf xs).length := by
  unfold rowOf
  rw [List.length_append, List.length_drop]
  have := rowN_len xs
  have h : consts.length = 9 := rfl
  omega
noncomputable def pd (a : Nat) (xs : List Int) : Parts := ⟨[], fun _ _ _ => none, fun _ _ => none, fun _ => none, fun _ => none, fun b => if b = a then some (xs.map V.int) else none⟩
theorem pd_at (a : Nat) (xs : List Int) : (pd a xs).ext a = some (xs.map V.int) := if_pos rfl
noncomputable def S352 (P : Params) (i : Nat) : Stmt := sAt (bodyAt (hd.heap_1 P) 352) i
noncomputable def cx352 (P : Params) (a : Nat) (xs : List Int) : Cx := mkCx (scopeAt (hd.heap_1 P) 352) (pd a xs)
noncomputable def C352 (P : Params) : PySem.Expr := aV (S352 P 0)
noncomputable def sc352 (P : Params) (a : Nat) (xs : List Int) : Scope := compScope (cSc (C352 P)) (cx352 P a xs).sc
noncomputable def body352 (P : Params) (a : Nat) (xs : List Int) (j : Nat) : V → Loc → Hp → Option (Fl × Loc × Hp) := compB (bindT (sc352 P a xs) (cTgt (C352 P))) (fun l t => tvs ((lv 11).tv { (cx352 P a xs) with sc := sc352 P a xs }) l true (cIfs (C352 P)) t) (fun l t => (lv 11).ev { (cx352 P a xs) with sc := sc352 P a xs } l t (cElt (C352 P))) j
noncomputable abbrev ld0 (a : Nat) : Loc := [("script", .imm (.ref a))]
theorem deeds_comp (P : Params) (a : Nat) (xs : List Int) (hx : xs.length ≤ 63) (st : Hp) :
    nextEv (lv 11) (cx352 P a xs) (ld0 a) st (C352 P) = some (.lst (st.length + 1), (st ++ [(xs.take 10).map V.int]) ++ [(rowN xs).map iv]) := by
  have h1 : slcX (cx352 P a xs) (.imm (.ref a)) none (some 10) st = some (.lst st.length, st ++ [(xs.take 10).map V.int]) := by
    have h2 : (xs.map V.int).length ≤ sizeLine := sizeL _ (by rw [List.length_map]; omega)
    have h3 : cutL (xs.map V.int) none (some 10) = (xs.take 10).map V.int := by
      unfold cutL
      simp only [Option.elim, List.drop_zero, Nat.sub_zero, List.length_map]
      rw [List.map_take]
      by_cases h : xs.length ≤ 10
      · rw [List.take_of_length_le (i := 10) (by simpa using h)]
        have e : clipAt xs.length 10 = xs.length := by
          have := clipAt_cast xs.length 10
          omega
        rw [e, List.take_of_length_le (by simp)]
      · have e : clipAt xs.length 10 = 10 := by
          have := clipAt_cast xs.length 10
          omega
        rw [e]
    have e0 : (cx352 P a xs).ext a = some (xs.map V.int) := pd_at a xs
    exact oc_eq e0 ((if_pos h2).trans (by rw [h3]))
  obtain ⟨l1, s1, e1, -, q1'⟩ := loop_live (body := body352 P a xs (st ++ [(xs.take 10).map V.int]).length) (k := st.length) (xs := (xs.take 10).map V.int)
    (Inv := fun i loc s => (loc = [] ∨ ∃ v, loc = one "x" v) ∧ s = (st ++ [(xs.take 10).map V.int]) ++ [((xs.take 10).take i).map fun x => iv (x.fmod 1000000).toNat]) (loc := []) (st := (st ++ [(xs.take 10).map V.int]) ++ [[]])
    (fun i loc s I => by obtain ⟨_, rfl⟩ := I; exact get_old (get_last _ _) _)
    (fun i x loc s hx' I => by
      obtain ⟨hloc, rfl⟩ := I
      rw [List.getElem?_map] at hx'
      cases he : (xs.take 10)[i]? with
      | none => rw [he] at hx'; cases hx'
      | some y =>
        rw [he] at hx'; cases hx'
        have hb : bindT (sc352 P a xs) (cTgt (C352 P)) (.int y) loc = some (one "x" (.int y)) := by
          rcases hloc with rfl | ⟨v, rfl⟩ <;> rfl
        have hm : V.int (y.fmod 1000000) = iv (y.fmod 1000000).toNat := by
          unfold iv
          rw [Int.toNat_of_nonneg (Int.fmod_nonneg_of_pos _ (by decide))]
        refine ⟨_, _, compB_put (v := V.int (y.fmod 1000000)) hb rfl (ev_bin (a := .int y) (b := .int 1000000) rfl rfl rfl) (get_last _ _) (sizeL _ (by simp; omega)), .inr ⟨_, rfl⟩, ?_⟩
        have et : (xs.take 10).take (i + 1) = (xs.take 10).take i ++ (xs.take 10)[i]?.toList := List.take_add_one
        rw [set_last, et, he, hm, List.map_append]
        rfl)
    (by rw [List.length_map, List.length_take]; show _ < 1000000; omega) ⟨.inl rfl, rfl⟩
  have hl : ((xs.take 10).take ((xs.take 10).map V.int).length) = xs.take 10 := by rw [List.length_map, List.take_length]
  rw [hl] at q1'
  subst q1'
  have := ev_comp (k := 11) (cx := cx352 P a xs) (loc := ld0 a) (st := st) (v := .lst st.length) (src := .live st.length) (st1 := st ++ [(xs.take 10).map V.int]) (elt := cElt (C352 P)) (tgt := cTgt (C352 P)) (it := eC (C352 P) 0) (ifs := cIfs (C352 P)) (sc := cSc (C352 P)) (p := eP (C352 P))
    (ev_slice (a := .imm (.ref a)) (l := none) (h := some 10) rfl rfl rfl h1) rfl rfl e1
  have e2 : (xs.take 10).map (fun x => iv (x.fmod 1000000).toNat) = (rowN xs).map iv := by unfold rowN; rw [List.map_map]; rfl
  have e3 : (st ++ [(xs.take 10).map V.int]).length = st.length + 1 := by simp
  rw [e2, e3] at this
  exact this

noncomputable def pieceV : List V := [.str "(", .str ")", .str "\"", .str "\\", .str "&", .str "((", .str "))", .str "<"]
theorem piece_at : ∀ p, p < 8 → pieceV[p]? = some (.str (piece p)) := by
  intro p h
  have h1 : p = 0 ∨ p = 1 ∨ p = 2 ∨ p = 3 ∨ p = 4 ∨ p = 5 ∨ p = 6 ∨ p = 7 := by omega
  rcases h1 with rfl | rfl | rfl | rfl | rfl | rfl | rfl | rfl <;> rfl
theorem fdiv_nat (x m : Nat) : ((x : Nat) : Int).fdiv (m : Nat) = ((x / m : Nat) : Int) := by
  rw [Int.fdiv_eq_ediv_of_nonneg _ (Int.natCast_nonneg m)]; rfl
theorem fmod_nat (x m : Nat) : ((x : Nat) : Int).fmod (m : Nat) = ((x % m : Nat) : Int) := by
  rw [Int.fmod_eq_emod_of_nonneg _ (Int.natCast_nonneg m)]; rfl
theorem fd40 (x : Nat) (st : Hp) : binV .FloorDiv (.int (x : Nat)) (.int 40) st = some (.int ((x / 40 : Nat) : Int), st) := by
  rw [← fdiv_nat]; rfl
theorem fd120 (x : Nat) (st : Hp) : binV .FloorDiv (.int (x : Nat)) (.int 120) st = some (.int ((x / 120 : Nat) : Int), st) := by
  rw [← fdiv_nat]; rfl
theorem fd8 (x : Nat) (st : Hp) : binV .FloorDiv (.int (x : Nat)) (.int 8) st = some (.int ((x / 8 : Nat) : Int), st) := by
  rw [← fdiv_nat]; rfl
theorem fm3 (x : Nat) (st : Hp) : binV .Mod (.int (x : Nat)) (.int 3) st = some (.int ((x % 3 : Nat) : Int), st) := by
  rw [← fmod_nat]; rfl
theorem fm2 (x : Nat) (st : Hp) : binV .Mod (.int (x : Nat)) (.int 2) st = some (.int ((x % 2 : Nat) : Int), st) := by
  rw [← fmod_nat]; rfl
theorem fm8 (x : Nat) (st : Hp) : binV .Mod (.int (x : Nat)) (.int 8) st = some (.int ((x % 8 : Nat) : Int), st) := by
  rw [← fmod_nat]; rfl
theorem fm5 (x : Nat) (st : Hp) : binV .Mod (.int (x : Nat)) (.int 5) st = some (.int ((x % 5 : Nat) : Int), st) := by
  rw [← fmod_nat]; rfl
theorem nm_at (l : Nat) (h : l < 3) (st : Hp) : subV (.str "abc") (.int (l : Nat)) st = some (.str (nm l false)) := by
  have : l = 0 ∨ l = 1 ∨ l = 2 := by omega
  rcases this with rfl | rfl | rfl <;> rfl
noncomputable abbrev l4 (a r p d : Nat) : Loc := [("script", .imm (.ref a)), ("row", .lst r), ("pieces", .lst p), ("deeds", .lst d)]
noncomputable abbrev l2n (x : Nat) (n : Str) : Loc := [("x", .int (x : Nat)), ("name", .str n)]
theorem deeds_step (P : Params) (a : Nat) (xs : List Int) (r p : Nat) (st : Hp) (hp : st[p]? = some pieceV) (acc : List D) (ha : acc.length ≤ 100) (x : Nat) (tl : Loc) (htl : tl = [] ∨ ∃ x n, tl = l2n x n) :
    forB 11 (cx352 P a xs) (fT (S352 P 4)) (fB (S352 P 4)) (iv x) (l4 a r p st.length ++ tl) (st ++ [acc.map D.v]) = some (.next, l4 a r p st.length ++ l2n x (nm (x / 40 % 3) false), st ++ [(acc ++ [toD x]).map D.v]) := by
  have hb : ∃ l1, bindT (cx352 P a xs).sc (fT (S352 P 4)) (iv x) (l4 a r p st.length ++ tl) = some l1 ∧ (∀ n, setL l1 "name" (.str n) = l4 a r p st.length ++ l2n x n) ∧ getL l1 "x" = some (.int (x : Nat)) := by
    rcases htl with rfl | ⟨x', n', rfl⟩ <;> exact ⟨_, rfl, fun n => rfl, rfl⟩
  obtain ⟨l1, hb, hb2, hb3⟩ := hb
  have ok := toD_ok x
  have a0 : (lv 11).ex (cx352 P a xs) l1 (st ++ [acc.map D.v]) (sAt (fB (S352 P 4)) 0) = some (.next, l4 a r p st.length ++ l2n x (nm (x / 40 % 3) false), st ++ [acc.map D.v]) := by
    rw [← hb2]
    refine ex_assign (v := .str (nm (x / 40 % 3) false)) rfl (ev_sub (a := .str "abc") (b := .int ((x / 40 % 3 : Nat) : Int)) (fun l u q e => by cases e) rfl (ev_bin (a := .int ((x / 40 : Nat) : Int)) (b := .int 3) (ev_bin (a := .int (x : Nat)) (b := .int 40) (ev_name rfl (by unfold nameV; rw [hb3])) rfl (fd40 x _)) rfl (fm3 _ _)) (nm_at _ ok.l _))
  have t1 : (lv 7).tv (cx352 P a xs) (l4 a r p st.length ++ l2n x (nm (x / 40 % 3) false)) (st ++ [acc.map D.v]) (eC (cA (cA (aV (sAt (fB (S352 P 4)) 1)) 0) 0) 0) = some (x / 120 % 2 == 1, st ++ [acc.map D.v]) := by
    refine tv_cmp (a := .int ((x / 120 % 2 : Nat) : Int)) (b := .int 1) (ev_bin (a := .int ((x / 120 : Nat) : Int)) (b := .int 2) (ev_bin (a := .int (x : Nat)) (b := .int 120) rfl rfl (fd120 x _)) rfl (fm2 _ _)) rfl rfl ?_
    · show some (((x / 120 % 2 : Nat) : Int) == 1) = some (x / 120 % 2 == 1)
      have : (((x / 120 % 2 : Nat) : Int) == 1) = (x / 120 % 2 == 1) := by
        rw [Bool.eq_iff_iff, beq_iff_eq, beq_iff_eq]; omega
      rw [this]
  have hn : (lv 8).ev (cx352 P a xs) (l4 a r p st.length ++ l2n x (nm (x / 40 % 3) false)) (st ++ [acc.map D.v]) (cA (cA (aV (sAt (fB (S352 P 4)) 1)) 0) 0) = some (.str (toD x).n, st ++ [acc.map D.v]) := by
    show _ = some (V.str (nm (x / 40 % 3) (x / 120 % 2 == 1)), _)
    cases hc : (x / 120 % 2 == 1) with
    | true => rw [hc] at t1; exact ev_ifexp (c := true) t1 (ev_smeth (x := nm (x / 40 % 3) false) (vs := []) rfl rfl rfl rfl (upper_nm _ ok.l _))
    | false => rw [hc] at t1; exact ev_ifexp (c := false) t1 rfl
  have hp2 : (lv 8).ev (cx352 P a xs) (l4 a r p st.length ++ l2n x (nm (x / 40 % 3) false)) (st ++ [acc.map D.v]) (cA (cA (aV (sAt (fB (S352 P 4)) 1)) 0) 1) = some (.str (piece (toD x).p), st ++ [acc.map D.v]) := by
    refine ev_sub (a := .lst p) (b := .int ((x % 8 : Nat) : Int)) (fun l u q e => by cases e) rfl (ev_bin (a := .int (x : Nat)) (b := .int 8) rfl rfl (fm8 x _)) (subV_lst (get_old hp _) (piece_at _ ok.p) (by have := ok.p; omega))
  have hq3 : (lv 8).ev (cx352 P a xs) (l4 a r p st.length ++ l2n x (nm (x / 40 % 3) false)) (st ++ [acc.map D.v]) (cA (cA (aV (sAt (fB (S352 P 4)) 1)) 0) 2) = some (.int ((toD x).h : Nat), st ++ [acc.map D.v]) := by
    refine ev_bin (a := .int ((x / 8 : Nat) : Int)) (b := .int 5) (ev_bin (a := .int (x : Nat)) (b := .int 8) rfl rfl (fd8 x _)) rfl (fm5 _ _)
  have hap := ev_append (k := 9) (cx := cx352 P a xs) (loc := l4 a r p st.length ++ l2n x (nm (x / 40 % 3) false)) (st := st ++ [acc.map D.v]) (st1 := st ++ [acc.map D.v]) (st2 := st ++ [acc.map D.v]) (j := st.length) (xs := acc.map D.v) (v := (toD x).v)
    (o := eC (eC (aV (sAt (fB (S352 P 4)) 1)) 0) 0) (e := cA (aV (sAt (fB (S352 P 4)) 1)) 0)
    (ap := eP (eC (aV (sAt (fB (S352 P 4)) 1)) 0)) (p := eP (aV (sAt (fB (S352 P 4)) 1))) rfl rfl
    (ev_tuple (vs := [.str (toD x).n, .str (piece (toD x).p), .int ((toD x).h : Nat)]) (evs_cons hn (evs_cons hp2 (evs_cons hq3 evs_nil))) (sizeL 3 (by decide))) (get_last _ _) (sizeL _ (by rw [List.length_map]; omega))
  rw [set_last] at hap
  have e : (acc ++ [toD x]).map D.v = acc.map D.v ++ [(toD x).v] := by simp
  rw [e]
  exact forB_of hb (exs_next a0 (exs_next (ex_expr (v := .none) rfl hap) rfl))
end Uq
end

section
open PySem PySem.Calls PyProof.Rows PySem.W
namespace Uq
open Builtin Builtin.Str

theorem evPart_int {ev : EvT} {loc : Loc} {st st1 : Hp} {e : PySem.Expr} {i : Int} (h : ev loc st e = some (.int i, st1)) : evPart ev loc st (some e) = some (some i, st1) := ob_eq h rfl
theorem cut_consts : ∀ n : Nat, n ≤ 10 → cutL (consts.map iv) (some (n : Int)) none = (consts.drop n).map iv
  | 0, _ => rfl
  | 1, _ => rfl
  | 2, _ => rfl
  | 3, _ => rfl
  | 4, _ => rfl
  | 5, _ => rfl
  | 6, _ => rfl
  | 7, _ => rfl
  | 8, _ => rfl
  | 9, _ => rfl
  | 10, _ => rfl
  | n + 11, h => absurd h (Nat.not_le.mpr (Nat.lt_of_lt_of_le (Nat.lt_succ_self 10) (Nat.le_add_left 11 n)))
noncomputable abbrev ld1 (a r : Nat) : Loc := [("script", .imm (.ref a)), ("row", .lst r)]
noncomputable abbrev ld2 (a r p : Nat) : Loc := [("script", .imm (.ref a)), ("row", .lst r), ("pieces", .lst p)]
noncomputable def deedsOf (xs : List Int) : List D := (rowOf xs).map toD
theorem deeds_rest (P : Params) (a : Nat) (xs : List Int) (st1 : Hp) (r : Nat) (hr : st1[r]? = some ((rowN xs).map iv)) :
    ∃ g kd loc', exs ((lv 12).ex (cx352 P a xs)) [S352 P 1, S352 P 2, S352 P 3, S352 P 4, S352 P 5] (ld1 a r) st1 = some (.ret (.lst kd), loc', st1 ++ g) ∧ (st1 ++ g)[kd]? = some ((deedsOf xs).map D.v) := by
  have hn := rowN_len xs
  have hrl := rowOf_len xs
  have hcl : consts.length = 9 := rfl
  generalize hst2 : st1 ++ [consts.map iv] = st2
  have hr2 : st2[r]? = some ((rowN xs).map iv) := by rw [← hst2]; exact get_old hr _
  have hc2 : st2[st1.length]? = some (consts.map iv) := by rw [← hst2]; exact get_last _ _
  have hlen : fnLen [.lst r] st2 = some (.int ((rowN xs).length : Nat), st2) := by
    exact (fnLen_lst hr2 (by rw [List.length_map]; exact sizeL _ (by omega))).trans (by rw [List.length_map])
  have hsl : slcX (cx352 P a xs) (.lst st1.length) (some ((rowN xs).length : Int)) none st2 = some (.lst st2.length, st2 ++ [(consts.drop (rowN xs).length).map iv]) := by
    exact oc_eq hc2 ((if_pos (by rw [List.length_map]; exact sizeL _ (by decide))).trans (by rw [cut_consts _ hn]))
  have hadd : binV .Add (.lst r) (.lst st2.length) (st2 ++ [(consts.drop (rowN xs).length).map iv]) = some (.lst (st2 ++ [(consts.drop (rowN xs).length).map iv]).length, (st2 ++ [(consts.drop (rowN xs).length).map iv]) ++ [(rowOf xs).map iv]) := by
    have e : (rowOf xs).map iv = (rowN xs).map iv ++ (consts.drop (rowN xs).length).map iv := List.map_append
    rw [e]
    have hz : ((rowN xs).map iv).length + ((consts.drop (rowN xs).length).map iv).length ≤ sizeLine := sizeL _ (by rw [List.length_map, List.length_map, List.length_drop]; omega)
    show (oc (lstOf (.lst st2.length)) fun j => oc (st2 ++ [(consts.drop (rowN xs).length).map iv])[r]? fun x => oc (st2 ++ [(consts.drop (rowN xs).length).map iv])[j]? fun y => if x.length + y.length ≤ sizeLine then some (V.lst _, _ ++ [x ++ y]) else none) = _
    rw [oc_eq (x := lstOf (.lst st2.length)) rfl rfl]
    exact oc_eq (get_old hr2 _) (oc_eq (get_last _ _) (if_pos hz))
  have e1 : (lv 12).ex (cx352 P a xs) (ld1 a r) st1 (S352 P 1) = some (.next, ld1 a (st2 ++ [(consts.drop (rowN xs).length).map iv]).length, (st2 ++ [(consts.drop (rowN xs).length).map iv]) ++ [(rowOf xs).map iv]) := by
    refine ex_assign (v := .lst (st2 ++ [(consts.drop (rowN xs).length).map iv]).length) rfl (ev_bin (a := .lst r) (b := .lst st2.length) rfl (ev_slice (st1 := st2) (st2 := st2) (st3 := st2) (a := .lst st1.length) (l := some ((rowN xs).length : Int)) (h := none) ?_ (evPart_int (ev_call (fun o m q e => by cases e) (a := .imm (.builtin "len")) (vs := [.lst r]) rfl rfl hlen)) rfl hsl) hadd)
    rw [← hst2]
    exact ev_list (vs := consts.map iv) rfl (sizeL 9 (by decide))
  generalize hr3 : (st2 ++ [(consts.drop (rowN xs).length).map iv]).length = r3 at e1
  generalize hst3 : (st2 ++ [(consts.drop (rowN xs).length).map iv]) ++ [(rowOf xs).map iv] = st3 at e1
  have hk3 : st3[r3]? = some ((rowOf xs).map iv) := by rw [← hst3, ← hr3]; exact get_last _ _
  have e2 : (lv 12).ex (cx352 P a xs) (ld1 a r3) st3 (S352 P 2) = some (.next, (ld2 a r3 st3.length), st3 ++ [pieceV]) := rfl
  generalize hst4 : st3 ++ [pieceV] = st4 at e2
  have hp4 : st4[st3.length]? = some pieceV := by rw [← hst4]; exact get_last _ _
  have hk4 : st4[r3]? = some ((rowOf xs).map iv) := by rw [← hst4]; exact get_old hk3 _
  have e3 : (lv 12).ex (cx352 P a xs) (ld2 a r3 st3.length) st4 (S352 P 3) = some (.next, l4 a r3 st3.length st4.length, st4 ++ [[]]) := rfl
  obtain ⟨l5, s5, e5, ⟨tl, htl, rfl⟩, q5⟩ := loop_live (body := forB 11 (cx352 P a xs) (fT (S352 P 4)) (fB (S352 P 4))) (k := r3) (xs := (rowOf xs).map iv)
    (Inv := fun i loc s => (∃ tl, (tl = [] ∨ ∃ x n, tl = l2n x n) ∧ loc = l4 a r3 st3.length st4.length ++ tl) ∧ s = st4 ++ [(((rowOf xs).take i).map toD).map D.v]) (loc := l4 a r3 st3.length st4.length) (st := st4 ++ [[]])
    (fun i loc s I => by obtain ⟨_, rfl⟩ := I; exact get_old hk4 _)
    (fun i x loc s hx I => by
      obtain ⟨⟨tl, htl, rfl⟩, rfl⟩ := I
      rw [List.getElem?_map] at hx
      cases he : (rowOf xs)[i]? with
      | none => rw [he] at hx; cases hx
      | some y =>
        rw [he] at hx; cases hx
        have hi : i < (rowOf xs).length := (List.getElem?_eq_some_iff.mp he).1
        refine ⟨_, _, deeds_step P a xs r3 st3.length st4 hp4 (((rowOf xs).take i).map toD) (by rw [List.length_map, List.length_take]; omega) y tl htl, ⟨_, .inr ⟨_, _, rfl⟩, rfl⟩, ?_⟩
        rw [List.take_add_one, he]
        simp)
    (by rw [List.length_map]; show _ < 1000000; omega) ⟨⟨[], .inl rfl, rfl⟩, rfl⟩
  rw [List.length_map, List.take_length] at q5
  subst q5
  have hg : ∃ g, st4 ++ [((rowOf xs).map toD).map D.v] = st1 ++ g := ⟨[consts.map iv] ++ [(consts.drop (rowN xs).length).map iv] ++ [(rowOf xs).map iv] ++ [pieceV] ++ [((rowOf xs).map toD).map D.v], by rw [← hst4, ← hst3, ← hst2]; simp⟩
  obtain ⟨g, hg⟩ := hg
  refine ⟨g, st4.length, l4 a r3 st3.length st4.length ++ tl, ?_, by rw [← hg]; exact get_last _ _⟩
  rw [← hg]
  exact exs_next e1 (exs_next e2 (exs_next e3 (exs_next (ex_for_name (v := .lst r3) rfl rfl e5) (exs_ret (ex_ret rfl)))))
end Uq
end

section
open PySem PySem.Calls PyProof.Rows PySem.W
namespace Uq

section
variable {prog : Program} {w : World} {B : Addr → Option Obj} {P : Params} {pins : List (Nat × Addr)} {n : Nat} {mg mb : Str → Option Value} {A : Around}

theorem searchM_ok (H : HasK B (hd.heap_1 P)) {a : Addr} {m : Str} {kn : List Str} {spec : Fn} (h : searchM a m kn = some spec) : MethOK prog w B pins n (.ref a) m kn spec := by
  unfold searchM at h
  split at h
  · rename_i h1 h2
    cases h
    have hm : m = "search" := of_decide_eq_true h2
    subst hm
    rcases Bool.or_eq_true _ _ ▸ h1 with h1 | h1
    · have := Nat.eq_of_beq_eq_true h1
      subst this
      exact search_ok (pat_name H) name_good
    · have := Nat.eq_of_beq_eq_true h1
      subst this
      exact search_ok (pat_value H) value_good
  · cases h
theorem p0_ok (Z : Base B P mg mb) : PartsOK prog w B pins n p0 where
  fns q hq := by cases hq
  meth a m kn spec h := searchM_ok Z.K h
  attr a m v h := by cases h
  setI a f h := by cases h
  delI a f h := by cases h
  ext a xs h := by cases h
theorem usr_ok (Z : Base B P mg mb) {p : Parts} (O : PartsOK prog w B pins n p) (hn : 2 ≤ n) {a : Addr} {nms first : List Str} (U : UserOK B a nms first [] (scopeAt (hd.heap_1 P) a) (bodyAt (hd.heap_1 P) a)) (hk : keepIn (hd.heap_1 P) (.ref a) = true) :
    KeepOK prog w B (.ref a) ∧ FnOK prog w B pins (n + 1) (.ref a) (usr P p a nms) :=
  ⟨keep_K Z.K hk, fnUser_ok (lv_ok sliceSet_ok 12).2.2 (cxOK_mk (sc := default) Z O hn) U⟩
theorem p1_ok (Z : Base B P mg mb) (hn : 2 ≤ n) : PartsOK prog w B pins (n + 1) (p1 P) where
  fns q hq := by
    simp only [p1, List.mem_cons, List.not_mem_nil, or_false] at hq
    rcases hq with rfl | rfl | rfl | rfl | rfl | rfl | rfl | rfl
    · exact usr_ok Z (p0_ok Z) hn (user_strip Z.K Z.lim) (by rfl)
    · exact usr_ok Z (p0_ok Z) hn (user_spelled Z.K Z.lim) (by rfl)
    · exact usr_ok Z (p0_ok Z) hn (user_closed Z.K Z.lim) (by rfl)
    · exact usr_ok Z (p0_ok Z) hn (user_cdata Z.K Z.lim) (by rfl)
    · exact usr_ok Z (p0_ok Z) hn (user_attrib Z.K Z.lim) (by rfl)
    · exact usr_ok Z (p0_ok Z) hn (user_html Z.K Z.lim) (by rfl)
    · exact usr_ok Z (p0_ok Z) hn (user_c14nc Z.K Z.lim) (by rfl)
    · exact usr_ok Z (p0_ok Z) hn (user_c14na Z.K Z.lim) (by rfl)
  meth a m kn spec h := searchM_ok Z.K h
  attr a m v h := by cases h
  setI a f h := by cases h
  delI a f h := by cases h
  ext a xs h := by cases h

/-- what stands of the two instances -/
structure Two (B : Addr → Option Obj) (pins : List (Nat × Addr)) (X : XP) : Prop where
  ne : X.x1 ≠ X.x2
  i1 : ∃ dx k m ah, (∀ h, Based B h → InstS h X.x1 192 dx k m) ∧ m "_headers" = some (.ref ah) ∧ (X.hh, ah) ∈ pins ∧ ∀ y : Str, y ≠ "_headers" → m y = none
  i2 : ∃ dx k m bo pa t, (∀ h, Based B h → InstS h X.x2 329 dx k m) ∧ m "_write" = some (.ref bo) ∧ m "_ignored_depth" = some (.int 0 t) ∧ m "_root_done" = some (.bool false) ∧ m "_root_seen" = some (.bool false) ∧ m "pi" = none ∧
    B bo = some (boundAppend pa) ∧ (X.pg, pa) ∈ pins
noncomputable def getsIn (K : Frag) (C : Addr) (a : Str) : Bool := plainGet K C a && hasDictIn K C && (match findIn K (.ref C) a with | some attr => noGet K attr | none => false)
theorem attr_ok (H : HasK B (hd.heap_1 P)) {x C dx : Addr} {k : Nat} {m : Str → Option Value} (I : ∀ h, Based B h → InstS h x C dx k m) {a : Str} {u : Value} {v : V} (hg : getsIn (hd.heap_1 P) C a = true) (hm : m a = some u) (hv : handedIn u = true)
    {ρ : Nat → Addr} {st : Hp} {s : Shared} (R : Rel B pins ρ st s.heap) (hr : RV ρ st.length s.heap v u) : Does prog w B pins A (getAttr (.ref x) a true) ρ st s v st := by
  unfold getsIn at hg
  simp only [Bool.and_eq_true] at hg
  obtain ⟨⟨g1, g2⟩, g3⟩ := hg
  split at g3
  · rename_i attr g4
    exact Does.val R fun Q E q => get_ns (H.in_ R.base) (I _ R.base) g1 g2 g4 g3 hm hv (q u _ hr)
  · cases g3
theorem atX_ok (H : HasK B (hd.heap_1 P)) {X : XP} (W : Two B pins X) {a : Addr} {m : Str} {v : V} (h : atX X a m = some v) {ρ : Nat → Addr} {st : Hp} {s : Shared} (R : Rel B pins ρ st s.heap) : Does prog w B pins A (getAttr (.ref a) m true) ρ st s v st := by
  unfold atX at h
  split at h
  · rename_i ha
    subst ha
    split at h
    · rename_i hm
      subst hm
      cases h
      obtain ⟨dx, k, m, ah, I, h1, h2, _⟩ := W.i1
      have hp : ρ X.hh = ah ∧ X.hh < st.length := R.pin _ h2
      refine attr_ok H I (by rfl) h1 (by rfl) R ?_
      rw [← hp.1]
      exact .lst _ hp.2
    · cases h
  · split at h
    · rename_i hne ha
      subst ha
      obtain ⟨dx, k, m', bo, pa, t, I, h1, h2, h3, h4, h5, h6, h7⟩ := W.i2
      have := lkS_mem h
      simp only [List.mem_cons, List.not_mem_nil, or_false, Prod.mk.injEq] at this
      rcases this with ⟨rfl, rfl⟩ | ⟨rfl, rfl⟩ | ⟨rfl, rfl⟩
      · exact attr_ok H I (by rfl) h2 (by rfl) R (.int 0 t)
      · exact attr_ok H I (by rfl) h3 (by rfl) R (.bool false)
      · exact attr_ok H I (by rfl) h4 (by rfl) R (.bool false)
    · cases h
end
end Uq
end

section
open PySem PySem.Calls PyProof.Rows PySem.W
namespace Uq

section
variable {prog : Program} {w : World} {B : Addr → Option Obj} {P : Params} {pins : List (Nat × Addr)} {n : Nat} {mg mb : Str → Option Value} {A : Around} {X : XP}

theorem q0_ok (Z : Base B P mg mb) (W : Two B pins X) : PartsOK prog w B pins n (q0 X) where
  fns q hq := by cases hq
  meth a m kn spec h := searchM_ok Z.K h
  attr a m v h A ρ st s RA tk R := atX_ok Z.K W h R
  setI a f h := by cases h
  delI a f h := by cases h
  ext a xs h := by cases h
noncomputable def methIn (K : Frag) (C : Addr) (a : Str) (f : Addr) : Bool := plainGet K C a && (findIn K (.ref C) a == some (some (.ref f))) && isFn K (.ref f)
theorem inst_meth (Z : Base B P mg mb) {p : Parts} (O : PartsOK prog w B pins n p) (hn : 2 ≤ n) {x C dx : Addr} {k : Nat} {m : Str → Option Value} (I : ∀ h, Based B h → InstS h x C dx k m) {a : Str} {f : Addr} (hi : methIn (hd.heap_1 P) C a f = true) (hm : m a = none)
    {nms first kn : List Str} (U : UserOK B f nms first kn (scopeAt (hd.heap_1 P) f) (bodyAt (hd.heap_1 P) f)) (hk : keepIn (hd.heap_1 P) (.ref f) = true) :
    MethOK prog w B pins (n + 1) (.ref x) a kn (fun args st => usr P p f nms (.imm (.ref x) :: args) st) := by
  unfold methIn at hi
  simp only [Bool.and_eq_true, beq_iff_eq] at hi
  obtain ⟨⟨h1, h2⟩, h3⟩ := hi
  exact methUser_ok (lv_ok sliceSet_ok 12).2.2 (cxOK_mk (sc := default) Z O hn) U (keep_K Z.K hk) (fun A s pl Q E hb h => meth_ns (Z.K.in_ hb) (I _ hb) h1 h2 h3 hm h)
theorem meth1_ok (Z : Base B P mg mb) (W : Two B pins X) (hn : 2 ≤ n) {a : Addr} {m : Str} {kn : List Str} {spec : Fn} (h : meth1 P X a m kn = some spec) : MethOK prog w B pins (n + 1) (.ref a) m kn spec := by
  unfold meth1 at h
  split at h
  · rename_i hc
    obtain ⟨rfl, rfl, rfl⟩ := hc
    cases h
    obtain ⟨dx, k, m, ah, I, h1, h2, h3⟩ := W.i1
    exact inst_meth Z (q0_ok Z W) hn I (by rfl) (h3 _ (by decide)) (user_conv Z.K Z.lim) (by rfl)
  · cases h
theorem q1_ok (Z : Base B P mg mb) (W : Two B pins X) (hn : 2 ≤ n) : PartsOK prog w B pins (n + 1) (q1 P X) where
  fns q hq := by cases hq
  meth a m kn spec h := meth1_ok Z W hn h
  attr a m v h A ρ st s RA tk R := atX_ok Z.K W h R
  setI a f h := by cases h
  delI a f h := by cases h
  ext a xs h := by cases h
theorem delX_ok (Z : Base B P mg mb) (W : Two B pins X) (hn : 2 ≤ n) {a : Addr} {f : V → Hp → Option Hp} (h : delX P X a = some f) : ∀ j st st', f j st = some st' → ∀ A ρ s ju Q E, Room (n + 2) A → 0 < s.toks → Rel B pins ρ st s.heap → RV ρ st.length s.heap j ju →
    (∀ ρ' s', Rel B pins ρ' st' s'.heap → Ext ρ st.length noF s ρ' st'.length s' → Q () s') → wpAny (model prog w) A (delItem (.ref a) ju) Q E s := by
  unfold delX at h
  split at h
  · rename_i hc
    subst hc
    cases h
    intro j st st' hf A ρ s ju Q E RA tk R V q
    obtain ⟨dx, k, m, ah, I, h1, h2, h3⟩ := W.i1
    unfold delS at hf
    cases z : usr P (q1 P X) 110 ["self", "name"] [.imm (.ref X.x1), j] st with
    | none => rw [z] at hf; cases hf
    | some r =>
      rw [z] at hf
      obtain ⟨v, st1⟩ := r
      cases hf
      refine delItem_ns (Z.K.in_ R.base) (I _ R.base) (by rfl) (f := 110) (by rfl) (by rfl) ?_
      have := user_ok (prog := prog) (w := w) (A := A) (us := [.ref X.x1, ju]) (ks := []) (lv_ok (n := n + 1) sliceSet_ok 12).2.2 (cxOK_mk (sc := default) Z (q1_ok Z W hn) (Nat.le_succ_of_le hn)) (user_delitem Z.K Z.lim) z rfl tk RA R (.cons (.imm _) (.cons V .nil))
      exact this _ _ fun ρ' s' u R' X' V' => q ρ' s' R' X'
  · cases h
theorem q2_ok (Z : Base B P mg mb) (W : Two B pins X) (hn : 2 ≤ n) : PartsOK prog w B pins (n + 2) (q2 P X) where
  fns q hq := by cases hq
  meth a m kn spec h := (meth1_ok Z W hn h).mono (Nat.le_succ _)
  attr a m v h A ρ st s RA tk R := atX_ok Z.K W h R
  setI a f h := by cases h
  delI a f h := delX_ok Z W hn h
  ext a xs h := by cases h
theorem setX_ok (Z : Base B P mg mb) (W : Two B pins X) (hn : 2 ≤ n) {a : Addr} {f : V → V → Hp → Option Hp} (h : setX P X a = some f) : ∀ j v st st', f j v st = some st' → ∀ A ρ s ju vu Q E, Room (n + 3) A → 0 < s.toks → Rel B pins ρ st s.heap → RV ρ st.length s.heap j ju → RV ρ st.length s.heap v vu →
    (∀ ρ' s', Rel B pins ρ' st' s'.heap → Ext ρ st.length noF s ρ' st'.length s' → Q () s') → wpAny (model prog w) A (setItem (.ref a) ju vu) Q E s := by
  unfold setX at h
  split at h
  · rename_i hc
    subst hc
    cases h
    intro j v st st' hf A ρ s ju vu Q E RA tk R V V2 q
    obtain ⟨dx, k, m, ah, I, h1, h2, h3⟩ := W.i1
    unfold setS at hf
    cases z : usr P (q2 P X) 105 ["self", "name", "val"] [.imm (.ref X.x1), j, v] st with
    | none => rw [z] at hf; cases hf
    | some r =>
      rw [z] at hf
      obtain ⟨v', st1⟩ := r
      cases hf
      refine setItem_ns (Z.K.in_ R.base) (I _ R.base) (by rfl) (f := 105) (by rfl) (by rfl) ?_
      have := user_ok (prog := prog) (w := w) (A := A) (us := [.ref X.x1, ju, vu]) (ks := []) (lv_ok (n := n + 2) sliceSet_ok 12).2.2 (cxOK_mk (sc := default) Z (q2_ok Z W hn) (Nat.le_succ_of_le (Nat.le_succ_of_le hn))) (user_setitem Z.K Z.lim) z rfl tk RA R (.cons (.imm _) (.cons V (.cons V2 .nil)))
      exact this _ _ fun ρ' s' u R' X' V' => q ρ' s' R' X'
  · cases h

theorem wr_meth (H : HasK B (hd.heap_1 P)) (W : Two B pins X) : MethOK prog w B pins n (.ref X.x2) "_write" [] (wrS X) := by
  obtain ⟨dx, k, m, bo, pa, t, I, h1, h2, h3, h4, h5, h6, h7⟩ := W.i2
  refine ⟨.ref bo, [], fun h hb => ⟨.machine, .inr (.inl rfl), (Looks.ld (part := none) (hb _ _ h6)).andThen .now⟩, fun A s pl Q E hb q => ?_, fun args st v st' hf A ρ s us ks RA tk R V hl => ?_⟩
  · obtain ⟨od, I', hl'⟩ := (I _ hb).inst
    refine method_usual (r := none) (H.in_ hb) I' (plainGet_of (name := "_write") (C := 329) (K := hd.heap_1 P) (by rfl)).1 (plainGet_of (name := "_write") (C := 329) (K := hd.heap_1 P) (by rfl)).2 (by rfl) rfl ?_
    exact get_ns (attr := none) (H.in_ hb) (I _ hb) (by rfl) (by rfl) (by rfl) (by rfl) h1 (by rfl) (q _ (Nat.le_succ _))
  · have : ks = [] := List.eq_nil_of_length_eq_zero hl
    subst this
    rw [List.append_nil] at V
    unfold wrS at hf
    split at hf
    · rename_i v0
      cases V with
      | cons V0 V =>
        first | obtain rfl := V.imm_inv | obtain rfl := V.next_inv | obtain rfl := V.none_inv | obtain rfl := V.bool_inv | cases V
        rename_i u0
        split at hf
        · rename_i xs hx
          split at hf
          · rename_i hz
            cases hf
            obtain ⟨vs, hpl, Hr⟩ := R.cell _ xs hx
            have hp : ρ X.pg = pa ∧ X.pg < st.length := R.pin _ h7
            intro Q E q
            rw [hp.1] at hpl
            refine call_bound (a := pa) (R.base _ _ h6) hpl (by rw [List.size_toArray, ← Hr.length]; exact hz) fun h' hl' hs => ?_
            have e : vs.toArray.push u0 = (vs ++ [u0]).toArray := by simp
            rw [e] at hl'
            rw [← hp.1] at hl' hs
            have X' : Ext ρ st.length noF s ρ (st.set X.pg (xs ++ [v0])).length { s with heap := h' } := by
              rw [List.length_set]; exact Ext.set R hp.2 hs rfl rfl (Nat.le_refl _)
            exact q ρ { s with heap := h' } .none (R.set hp.2 hs hl' (Hr.append (.cons V0 .nil))) X' .none
          · cases hf
        · cases hf
    · cases hf
theorem qw_ok (Z : Base B P mg mb) (W : Two B pins X) (hn : 2 ≤ n) : PartsOK prog w B pins (n + 1) (qw P X) where
  fns q hq := by
    simp only [qw, List.mem_cons, List.not_mem_nil, or_false] at hq
    subst hq
    exact usr_ok Z (p0_ok Z) hn (user_c14nc Z.K Z.lim) (by rfl)
  meth a m kn spec h := by
    have h' : methW X a m kn = some spec := h
    clear h
    unfold methW at h'
    split at h'
    · rename_i hc
      obtain ⟨rfl, rfl, rfl⟩ := hc
      cases h'
      exact wr_meth Z.K W
    · cases h'
  attr a m v h A ρ st s RA tk R := atX_ok Z.K W h R
  setI a f h := by cases h
  delI a f h := by cases h
  ext a xs h := by cases h
theorem q3_ok (Z : Base B P mg mb) (W : Two B pins X) (hn : 2 ≤ n) : PartsOK prog w B pins (n + 3) (q3 P X) where
  fns q hq := by
    rcases List.mem_cons.mp hq with rfl | hq
    · have := usr_ok (prog := prog) (w := w) (pins := pins) Z (p1_ok Z hn) (Nat.le_succ_of_le hn) (user_check Z.K Z.lim) (by rfl)
      exact ⟨this.1, this.2.mono (Nat.le_succ _)⟩
    · have := (p1_ok (prog := prog) (w := w) (pins := pins) Z hn).fns q hq
      exact ⟨this.1, this.2.mono (by omega)⟩
  meth a m kn spec h := by
    have h' : meth3 P X a m kn = some spec := h
    clear h
    revert h'
    intro h
    obtain ⟨dx, k, m1, ah, I, h1, h2, h3⟩ := W.i1
    unfold meth3 at h
    split at h
    · rename_i hc
      obtain ⟨rfl, rfl, rfl⟩ := hc
      cases h
      exact (inst_meth Z (q1_ok Z W hn) (Nat.le_succ_of_le hn) I (by rfl) (h3 _ (by decide)) (user_get Z.K Z.lim) (by rfl)).mono (Nat.le_succ _)
    · split at h
      · rename_i hc
        obtain ⟨rfl, rfl, rfl⟩ := hc
        cases h
        exact (inst_meth Z (q1_ok Z W hn) (Nat.le_succ_of_le hn) I (by rfl) (h3 _ (by decide)) (user_items Z.K Z.lim) (by rfl)).mono (Nat.le_succ _)
      · split at h
        · rename_i hc
          obtain ⟨rfl, rfl, rfl⟩ := hc
          cases h
          obtain ⟨dx, k, m, bo, pa, t, I, g1, g2, g3, g4, g5, g6, g7⟩ := W.i2
          exact (inst_meth Z (qw_ok Z W hn) (Nat.le_succ_of_le hn) I (by rfl) g5 (user_pi Z.K Z.lim) (by rfl)).mono (Nat.le_succ _)
        · cases h
  attr a m v h := by cases h
  setI a f h := setX_ok Z W hn h
  delI a f h j st st' hf A ρ s ju Q E RA := delX_ok Z W hn h j st st' hf A ρ s ju Q E (RA.mono (Nat.le_succ _))
  ext a xs h := by cases h
end
end Uq
end

section
open PySem PySem.Calls PyProof.Rows PySem.W
namespace Uq

theorem memLk {α : Type} : ∀ {l : List (Addr × α)} {b : Addr} {o : α}, l.lookup b = some o → (b, o) ∈ l
  | (c, o') :: l, b, o, h => by
    rw [List.lookup_cons] at h
    cases z : (b == c) with
    | true =>
      rw [z] at h
      cases h
      have : b = c := by simpa using z
      rw [this]; exact List.mem_cons_self
    | false =>
      rw [z] at h
      exact List.mem_cons_of_mem _ (memLk h)
/-- more objects are laid aside -/
noncomputable def addB (B : Addr → Option Obj) (l : List (Addr × Obj)) : Addr → Option Obj := fun b => match l.lookup b with
  | some o => some o
  | none => B b
section
variable {B : Addr → Option Obj} {l : List (Addr × Obj)} {pins pins' : List (Nat × Addr)} {ρ : Nat → Addr} {st : Hp} {h : Heap} {env : Env} {P : Params} {mg mb : Str → Option Value}
theorem addB_cases {b : Addr} {o : Obj} (e : addB B l b = some o) : (b, o) ∈ l ∨ B b = some o := by
  unfold addB at e
  cases z : l.lookup b with
  | some o' => rw [z] at e; cases e; exact .inl (memLk z)
  | none => rw [z] at e; exact .inr e
theorem addB_sub (hn : ∀ p ∈ l, B p.1 = none) {b : Addr} {o : Obj} (e : B b = some o) : addB B l b = some o := by
  unfold addB
  cases z : l.lookup b with
  | some o' => have := hn _ (memLk z); rw [e] at this; cases this
  | none => exact e
theorem lookup_of_mem {α : Type} : ∀ {l : List (Addr × α)}, (l.map (·.1)).Nodup → ∀ {b : Addr} {o : α}, (b, o) ∈ l → l.lookup b = some o
  | (c, o') :: l, hn, b, o, hm => by
    rw [List.map_cons, List.nodup_cons] at hn
    rcases List.mem_cons.mp hm with e | hm
    · cases e; exact List.lookup_cons_self
    · have : b ≠ c := fun e => hn.1 (e ▸ List.mem_map.mpr ⟨_, hm, rfl⟩)
      rw [List.lookup_cons]
      have e2 : (b == c) = false := by simpa using this
      rw [e2]
      exact lookup_of_mem hn.2 hm
theorem addB_mem (hd : (l.map (·.1)).Nodup) {b : Addr} {o : Obj} (hm : (b, o) ∈ l) : addB B l b = some o := by
  unfold addB
  rw [lookup_of_mem hd hm]
theorem Rel.more (R : Rel B pins ρ st h) (hl : ∀ p ∈ l, h.get? p.1 = some p.2 ∧ ∀ k, k < st.length → ρ k ≠ p.1) (hp : ∀ p ∈ pins', ρ p.1 = p.2 ∧ p.1 < st.length) : Rel (addB B l) pins' ρ st h where
  base b o e := (addB_cases e).elim (fun hm => (hl _ hm).1) (R.base b o)
  cell := R.cell
  new k hk := by
    cases z : addB B l (ρ k) with
    | none => rfl
    | some o => exact (addB_cases z).elim (fun hm => absurd rfl ((hl _ hm).2 k hk)) fun e => by rw [R.new k hk] at e; cases e
  inj := R.inj
  pin := hp
theorem Rel.less (R : Rel (addB B l) pins' ρ st h) (hn : ∀ p ∈ l, B p.1 = none) : Rel B [] ρ st h where
  base b o e := R.base b o (addB_sub hn e)
  cell := R.cell
  new k hk := by
    cases z : B (ρ k) with
    | none => rfl
    | some o => have := R.new k hk; rw [addB_sub hn z] at this; cases this
  inj := R.inj
  pin p hp := by cases hp
theorem EnvOK.more (EO : EnvOK B env) (hf : ∀ p ∈ l, ¬ frs env p.1) : EnvOK (addB B l) env :=
  ⟨EO.fn, EO.gl, EO.bi, EO.one, EO.cof, fun b hb => by
    cases z : addB B l b with
    | none => rfl
    | some o => exact (addB_cases z).elim (fun hm => absurd hb (hf _ hm)) fun e => by rw [EO.nb b hb] at e; cases e⟩
theorem Based.less (hn : ∀ p ∈ l, B p.1 = none) (b : Based (addB B l) h) : Based B h := fun a o e => b a o (addB_sub hn e)
theorem Base.more (Z : Base B P mg mb) (hn : ∀ p ∈ l, B p.1 = none) (ex : ∃ h, Based (addB B l) h) : Base (addB B l) P mg mb :=
  ⟨fun a o e => addB_sub hn (Z.K a o e), fun h b => Z.ns h (b.less hn), Z.bi, fun h b => Z.lim h (b.less hn), ex⟩
end

noncomputable def pA (x : Addr) (a : Str) (j : Nat) : Parts := ⟨[], fun _ _ _ => none, fun b m => if b = x ∧ m = a then some (.lst j) else none, fun _ => none, fun _ => none, fun _ => none⟩
theorem pA_at (x : Addr) (a : Str) (j : Nat) : (pA x a j).attr x a = some (.lst j) := if_pos ⟨rfl, rfl⟩
section
variable {prog : Program} {w : World} {B : Addr → Option Obj} {n : Nat} {mg mb : Str → Option Value} {A : Around} {ρ ρ' ρ0 : Nat → Addr} {st st' : Hp} {s s' s0 : Shared} {env : Env} {loc loc' at_ : Loc} {x C dx : Addr} {n0 k : Nat} {P : Params}

/-- what stands while self's attribute `a` is the list `j` -/
theorem IS.laid (S : IS B [] env x C dx ρ0 n0 s0 loc st at_ k ρ s) (Z : Base B P mg mb) (EO : EnvOK B env) {a : Str} (hg : getsIn (hd.heap_1 P) C a = true) {j : Nat} (ha : getL at_ a = some (.lst j)) :
    ∃ l pins', (∀ p ∈ l, B p.1 = none) ∧ Rel (addB B l) pins' ρ st s.heap ∧ EnvOK (addB B l) env ∧ Base (addB B l) P mg mb ∧ PartsOK prog w (addB B l) pins' n (pA x a j) := by
  obtain ⟨m, I, h1, h2⟩ := S.I
  obtain ⟨u, hu, hr⟩ := h1 a _ ha
  cases hr
  rename_i hj
  obtain ⟨es, nn, hd', hlen, hal⟩ := id I.ns
  have hnd : (([(x, instObj C dx), (dx, dictOf es nn)] : List (Addr × Obj)).map (·.1)).Nodup := by simp [S.ne]
  have hn : ∀ p ∈ ([(x, instObj C dx), (dx, dictOf es nn)] : List (Addr × Obj)), B p.1 = none := fun p hp => by
    simp only [List.mem_cons, List.not_mem_nil, or_false] at hp
    rcases hp with rfl | rfl
    · exact S.bx.1
    · exact S.bx.2
  have R' : Rel (addB B [(x, instObj C dx), (dx, dictOf es nn)]) [(j, ρ j)] ρ st s.heap := S.R.more (fun p hp => by
    simp only [List.mem_cons, List.not_mem_nil, or_false] at hp
    rcases hp with rfl | rfl
    · exact ⟨I.at_, fun k hk => (S.nx k hk).1⟩
    · exact ⟨hd', fun k hk => (S.nx k hk).2⟩) (fun p hp => by
    have := List.mem_singleton.mp hp
    subst this
    exact ⟨rfl, hj⟩)
  have Z' := Z.more hn ⟨_, R'.base⟩
  have I' : ∀ h, Based (addB B [(x, instObj C dx), (dx, dictOf es nn)]) h → InstS h x C dx k m := fun h hb => ⟨hb _ _ (addB_mem hnd (by simp)), es, nn, hb _ _ (addB_mem hnd (by simp)), hlen, hal⟩
  refine ⟨_, _, hn, R', EO.more (fun p hp => by
    simp only [List.mem_cons, List.not_mem_nil, or_false] at hp
    rcases hp with rfl | rfl
    · exact S.fx.1
    · exact S.fx.2), Z', ⟨fun q hq => (by cases hq), fun a m kn spec h => (by cases h), fun b m' v h A ρ' st' s' RA tk R => ?_, fun a f h => (by cases h), fun a f h => (by cases h), fun a xs h => (by cases h)⟩⟩
  have h' : (if b = x ∧ m' = a then some (V.lst j) else none) = some v := h
  clear h
  split at h'
  · rename_i hc
    obtain ⟨rfl, rfl⟩ := hc
    cases h'
    refine attr_ok Z'.K I' hg hu (by rfl) R ?_
    have hp : ρ' j = ρ j ∧ j < st'.length := R.pin (j, ρ j) (by simp)
    rw [← hp.1]
    exact .lst _ hp.2
  · cases h'

theorem init_exR (S : IS B [] env x C dx ρ0 n0 s0 loc st at_ k ρ s) (Z : Base B P mg mb) (RA : Room n A) (h2 : 2 ≤ n) (EO : EnvOK B env) {sc : Scope} (hs : env.scope = sc) {a : Str} (hg : getsIn (hd.heap_1 P) C a = true) {j : Nat} (ha : getL at_ a = some (.lst j))
    {c : Stmt} {f : Fl} (h : (lv 12).ex (mkCx sc (pA x a j)) loc st c = some (f, loc', st')) {Q : Flow → Shared → Prop} {E : Value → Shared → Prop}
    (q : ∀ ρ' s' fl, IS B [] env x C dx ρ0 n0 s0 loc' st' at_ k ρ' s' → FlR ρ' st'.length s'.heap f fl → Q fl s') : wpAny (model prog w) A (exec c env) Q E s := by
  obtain ⟨l, pins', hn, R', EO', Z', O⟩ := S.laid (prog := prog) (w := w) (n := n) Z EO hg ha
  exact (lv_ok (n := n) sliceSet_ok 12).2.2 _ (cxOK_mk (sc := sc) Z' O h2) loc st c f loc' st' h A ρ s env RA EO' hs R' S.F Q E fun ρ' s' fl R1 X1 F1 V1 => q ρ' s' fl (S.ext X1 (R1.less hn) F1) V1

noncomputable def kvOf (e : DictEntry) : Str × Value := (match e.key with | .str k _ => k | _ => "", e.val)
theorem pairs_of : ∀ {es : List DictEntry}, (∀ e ∈ es, ∃ k t, e.key = .str k t) → Pairs (strKind prog w) es (es.map kvOf)
  | [], _ => .nil
  | e :: es, h => .cons (by
    obtain ⟨k, t, hk⟩ := h e List.mem_cons_self
    show Value.isStrOf (kvOf e).1 e.key = true
    unfold kvOf
    rw [hk]
    show (k == k) = true
    simp) rfl (pairs_of fun e he => h e (List.mem_cons_of_mem _ he))
theorem dict202 {h : Heap} (X : (hd.heap_1 w.params).In h) : ∃ kvs ep, h.DictAt (strKind prog w) 202 kvs ep ∧ kvs.length ≤ 100 := by
  have key : ∀ {o : Obj} {es : Array DictEntry} {ep : Nat}, (hd.heap_1 w.params).lookup 202 = some o → o.ExactDict → o.data = .dict es ep → (∀ e ∈ es, ∃ k t, e.key = .str k t ∧ e.hash = hashStr w k) → ((es.toList.map kvOf).map (·.1)).Nodup → es.size ≤ 100 → ∃ kvs ep, h.DictAt (strKind prog w) 202 kvs ep ∧ kvs.length ≤ 100 := by
    intro o es ep h1 h2 h3 h4 h5 h6
    refine ⟨es.toList.map kvOf, ep, ⟨o, es, X _ _ h1, h2, h3, fun e he => ?_, pairs_of fun e he => ?_, h5⟩, by simpa using h6⟩
    · obtain ⟨k, t, hk, hh⟩ := h4 e he
      refine ⟨k, ?_, hh⟩
      rw [hk]
      show (k == k) = true
      simp
    · obtain ⟨k, t, hk, hh⟩ := h4 e (by simpa using he)
      exact ⟨k, t, hk⟩
  refine key (by rfl) ⟨rfl, rfl, rfl⟩ rfl ?_ ?_ (Nat.le_of_ble_eq_true rfl)
  · intro e he
    have he' := Array.mem_toList_iff.mpr he
    simp only [List.mem_cons, List.not_mem_nil, or_false] at he'
    rcases he' with rfl | rfl | rfl | rfl | rfl | rfl | rfl <;> exact ⟨_, _, rfl, rfl⟩
  · exact of_decide_eq_true (by rfl)
end
end Uq
end

section
open PySem PySem.Calls PyProof.Rows PySem.W
namespace Uq

/-- a function of the program, its last parameters filled by what stands in its tables -/
structure UserD (B : Addr → Option Obj) (a : Addr) (nms first : List Str) (dfl : List Value) (scope : Scope) (body : List Stmt) : Prop where
  data : ∃ o name qual params dV kV doc pm an cdv ct, B a = some o ∧ o.data = .func (PySem.W.fnOf name qual params body scope dV kV doc pm an cdv ct) ∧ (∀ h, Based B h → h.CodeRec cdv qual) ∧
    ∀ us, us.length = first.length → ∀ s, Based B s.heap → BindsTo s (PySem.W.fnOf name qual params body scope dV kV doc pm an cdv ct) ⟨us, []⟩ (nms.zip (us ++ dfl))
  len : nms.length = first.length + dfl.length
  kinds : ∀ x ∈ nms, scope.names.lookup x = some .local ∨ scope.names.lookup x = some .cell
  nod : nms.Nodup
  co : scope.isCoroutine = false
  gen : scope.isGenerator = false
  fn : scope.kind = .function
  lim : ∀ h, Based B h → h.NoLimit

section
variable {prog : Program} {w : World} {B : Addr → Option Obj} {pins : List (Nat × Addr)} {n : Nat} {A : Around} {ρ ρ' ρ0 : Nat → Addr} {st st' : Hp} {s s' s0 : Shared} {K : Frag} {x C dx : Addr}
/-- a call of a function that the program wrote, its body by hand -/
theorem UserD.el {a : Addr} {nms first : List Str} {dfl : List Value} {scope : Scope} {body : List Stmt} {P : Prop} (U : UserD B a nms first dfl scope body)
    (k : ∀ o name qual params dV kV doc pm an cdv ct, B a = some o → o.data = .func (PySem.W.fnOf name qual params body scope dV kV doc pm an cdv ct) → (∀ h, Based B h → h.CodeRec cdv qual) →
      (∀ us, us.length = first.length → ∀ s, Based B s.heap → BindsTo s (PySem.W.fnOf name qual params body scope dV kV doc pm an cdv ct) ⟨us, []⟩ (nms.zip (us ++ dfl))) → P) : P := by
  obtain ⟨o, name, qual, params, dV, kV, doc, pm, an, cdv, ct, hB, hdata, hcd, hbind⟩ := U.data
  exact k o name qual params dV kV doc pm an cdv ct hB hdata hcd hbind
theorem user_codeD {a : Addr} {nms first : List Str} {dfl : List Value} {scope : Scope} {body : List Stmt} (U : UserD B a nms first dfl scope body) {args : List V} {us : List Value} {Rs : Result → Shared → Prop}
    (hu : us.length = first.length) (htk : 0 < s.toks) (RA : Room (n + 1) A) (R : Rel B pins ρ st s.heap) (V : RVs ρ st.length s.heap args (us ++ dfl))
    (hb : ∀ A s1 env, Room n A → EnvOK B env → env.scope = scope → Rel B pins ρ st s1.heap → Frm ρ st.length s1 env (nms.zip args) → Ext ρ st.length noF s ρ st.length s1 → (∀ b, frs env b → s.heap.get? b = none) →
      wpAny (model prog w) A (execs body env) (fun fl s' => Rs (.ok (.ret (match fl with | .ret v => v | _ => .none))) s') (fun _ _ => False) s1) :
    codeAny (model prog w) A (.call (.ref a) ⟨us, []⟩) Rs s := by
  refine U.el fun o name qual params dV kV doc pm an cdv ct hB hdata hcd hbind => ?_
  refine codeAny_call_function (body := body) RA.depth (R.base _ _ hB) hdata U.co U.gen rfl (hcd _ R.base) (hbind us hu s R.base _ _ _ _ ?_)
  refine wpAny_with_toks (Nat.le_refl s.toks) ?_
  refine wpAny_newFunctionEnv_cells U.fn (entry_kind U.kinds) fun env' he s1 x hle => ?_
  refine ⟨(U.lim _ R.base).keeps x.toInCall.keep, codeAny_func ?_⟩
  have E := entered U.fn U.kinds U.nod htk R V (scope := scope) (by subst he; rfl) (by subst he; rfl) (by subst he; rfl) (by subst he; rfl) x hle
  exact wpAny_mono (hb (A.deeper env') s1 env' (RA.deeper env') E.EO (by subst he; rfl) E.R E.F E.X E.new) (fun _ _ h => h) fun _ _ h => h.elim

theorem class_newD {fI : Addr} {nms first : List Str} {dfl : List Value} {scope : Scope} {body : List Stmt} (H : HasK B K) (hm : makesIn K C = true) (hi : findIn K (.ref C) "__init__" = some (some (.ref fI))) (hf : typeIn K (.ref fI) = some (.type "function"))
    (U : UserD B fI nms (("" : Str) :: first) dfl scope body) {args : List V} {us : List Value} (P : Loc → Hp → Prop) (hu : us.length = first.length) (htk : 0 < s.toks) (RA : Room (n + 2) A) (R : Rel B pins ρ st s.heap) (V : RVs ρ st.length s.heap args (us ++ dfl))
    (hb : ∀ A' x dx s0 s1 env, Room n A' → EnvOK B env → env.scope = scope → IS B pins env x C dx ρ st.length s0 (nms.zip (.imm (.ref x) :: args)) st [] 0 ρ s1 → ∀ (Q' : Flow → Shared → Prop) (E' : Value → Shared → Prop),
      (∀ loc' at' st' k ρ' s', P at' st' → IS B pins env x C dx ρ st.length s0 loc' st' at' k ρ' s' → Q' .next s') → wpAny (model prog w) A' (execs body env) Q' E' s1)
    {Q : Value → Shared → Prop} {E : Value → Shared → Prop} (q : ∀ x dx at' st' ρ' s', P at' st' → Born B pins ρ st.length s x C dx at' st' ρ' s' → Q (.ref x) s') : wpAny (model prog w) A (call (.ref C) us) Q E s := by
  have X := H.in_ R.base
  obtain ⟨hh, g, d, t, os⟩ := s
  refine wpAny_call (make_core (makes_of X hm) (looks_findIn X hi) (fun self => bind_fn X self hf) (.inl rfl) ?_)
  have R1 : Rel B pins ρ st ((hh.push emptyDict).push (instObj C hh.objs.size)) := (R.push _).push _
  have K1 : ∀ b o, hh.get? b = some o → ((hh.push emptyDict).push (instObj C hh.objs.size)).get? b = some o := fun b o e => Heap.get?_push_of_some _ (Heap.get?_push_of_some _ e)
  have X1 : Ext ρ st.length noF ⟨hh, g, d, t, os⟩ ρ st.length ⟨(hh.push emptyDict).push (instObj C hh.objs.size), g, d, t, os⟩ := Ext.same (fun b o e _ => K1 b o e) rfl rfl (Nat.le_refl _)
  have hx : ((hh.push emptyDict).push (instObj C hh.objs.size)).get? (hh.objs.size + 1) = some (instObj C hh.objs.size) := by heap_get
  have hdx : ((hh.push emptyDict).push (instObj C hh.objs.size)).get? hh.objs.size = some (dictOf [] 0) := Heap.get?_push_of_some _ (Heap.get?_push_size _ rfl)
  have nx : hh.get? (hh.objs.size + 1) = none := by
    cases z : hh.get? (hh.objs.size + 1) with
    | none => rfl
    | some o => exact absurd (Nat.lt_of_succ_lt (Heap.lt_size z)) (Nat.lt_irrefl _)
  have nd : hh.get? hh.objs.size = none := fresh_none hh
  have Bn : ∀ b, hh.get? b = none → B b = none := fun b hb => by
    cases z : B b with
    | none => rfl
    | some o => have := R.base _ _ z; rw [hb] at this; cases this
  refine user_codeD (us := .ref (hh.objs.size + 1) :: us) (args := .imm (.ref (hh.objs.size + 1)) :: args) (s := ⟨(hh.push emptyDict).push (instObj C hh.objs.size), g, d, t, os⟩) U (by simp [hu]) htk (room_under RA rfl rfl) R1 (.cons (.imm _) (X1.ups R V)) fun A' s2 env RA' EO hsc R2 F2 X2 new => ?_
  have new0 : ∀ b, (frs env b ∨ b = hh.objs.size) → hh.get? b = none := fun b hb => by
    rcases hb with hb | rfl
    · cases z : hh.get? b with
      | none => rfl
      | some o => have := K1 _ _ z; rw [new b hb] at this; cases this
    · exact nd
  have S2 : IS B pins env (hh.objs.size + 1) C hh.objs.size ρ st.length ⟨hh, g, d, t, os⟩ (nms.zip (.imm (.ref (hh.objs.size + 1)) :: args)) st [] 0 ρ s2 := by
    refine ⟨R2, F2, ⟨fun _ => none, ⟨(X2.keep _ _ hx (fun j hj e => ?_) id).1, [], 0, (X2.keep _ _ hdx (fun j hj e => ?_) id).1, Nat.le_refl _, ⟨fun e he => (by cases he), fun _ => rfl⟩⟩, fun a v e => (by cases e), fun _ _ => rfl⟩, fun j hj => ⟨fun e => ?_, fun e => ?_⟩, ⟨fun h => ?_, fun h => ?_⟩, ⟨Bn _ nx, Bn _ nd⟩, Nat.succ_ne_self _, (X1.trans X2).wider fun _ h => h.elim⟩
    · have := R.lt hj
      rw [e] at this
      exact absurd (Nat.lt_of_succ_lt this) (Nat.lt_irrefl _)
    · have := R.lt hj
      rw [e] at this
      exact absurd this (Nat.lt_irrefl _)
    · have := R.lt hj
      rw [e] at this
      exact absurd (Nat.lt_of_succ_lt this) (Nat.lt_irrefl _)
    · have := R.lt hj
      rw [e] at this
      exact absurd this (Nat.lt_irrefl _)
    · have := new _ h
      have z : ((hh.push emptyDict).push (instObj C hh.objs.size)).get? (hh.objs.size + 1) = none := this
      rw [hx] at z; cases z
    · have := new _ h
      have z : ((hh.push emptyDict).push (instObj C hh.objs.size)).get? hh.objs.size = none := this
      rw [hdx] at z; cases z
  refine hb A' _ _ _ s2 env RA' EO hsc S2 _ _ fun loc' at' st' k ρ3 s3 hP S3 => ⟨rfl, ?_⟩
  refine q _ _ at' st' ρ3 s3 hP ⟨S3.R, S3.X.drop new0, ?_, S3.nx, S3.bx, S3.ne, ⟨nx, nd⟩, S3.F.tk⟩
  obtain ⟨m, hI⟩ := S3.I
  exact ⟨k, m, hI⟩

theorem userD_K (H : HasK B K) (hlim : ∀ h, Based B h → h.NoLimit) {f : Addr} {name qual : Str} {params : Arguments} {body : List Stmt} {scope : Scope} {dV kV doc pm cdv ct oc : Value} {an od : Option Addr} {osl : Array (Option Value)} {nms first : List Str} {dfl : List Value}
    (ho : K.lookup f = some ⟨oc, od, .func (fnOf name qual params body scope dV kV doc pm an cdv ct), osl⟩) (hcd : codeIn K cdv qual = true)
    (hbind : ∀ us, us.length = first.length → ∀ S, peek K S (bindArgs (fnOf name qual params body scope dV kV doc pm an cdv ct) ⟨us, []⟩) = some (nms.zip (us ++ dfl)))
    (hlen : nms.length = first.length + dfl.length) (hkinds : (nms.all fun x => decide (scope.names.lookup x = some .local) || decide (scope.names.lookup x = some .cell)) = true) (hnod : nms.Nodup)
    (hco : scope.isCoroutine = false) (hgen : scope.isGenerator = false) (hfn : scope.kind = .function) : UserD B f nms first dfl scope body where
  data := ⟨_, name, qual, params, dV, kV, doc, pm, an, cdv, ct, H _ _ ho, rfl, fun h hb => codeRec_of (H.in_ hb) hcd, fun us h1 s hb => kp_binds (H.in_ hb) (hbind us h1)⟩
  len := hlen
  kinds x hx := by
    have := List.all_eq_true.mp hkinds x hx
    simpa using this
  nod := hnod
  co := hco
  gen := hgen
  fn := hfn
  lim := hlim
end
section
variable {B : Addr → Option Obj} {P : Params}
theorem user_hinit (H : HasK B (hd.heap_1 P)) (hlim : ∀ h, Based B h → h.NoLimit) : UserD B 84 ["self", "headers"] ["", ""] [] (scopeAt (hd.heap_1 P) 84) (bodyAt (hd.heap_1 P) 84) :=
  userD_K H hlim (f := 84) (by rfl) (by rfl) (fun us h1 S => by
    match us, h1 with
    | [u0, u1], _ => rfl) rfl (by rfl) (by decide) (by rfl) (by rfl) (by rfl)
noncomputable def dfl246 : List Value := [.bool false, .bool false, .bool false, .none, .none, .none, .none]
theorem user_winit (H : HasK B (hd.heap_1 P)) (hlim : ∀ h, Based B h → h.NoLimit) : UserD B 246 ["self", "write", "with_comments", "strip_text", "rewrite_prefixes", "qname_aware_tags", "qname_aware_attrs", "exclude_attrs", "exclude_tags"] ["", ""] dfl246 (scopeAt (hd.heap_1 P) 246) (bodyAt (hd.heap_1 P) 246) :=
  userD_K H hlim (f := 246) (by rfl) (by rfl) (fun us h1 S => by
    match us, h1 with
    | [u0, u1], _ => rfl) rfl (by rfl) (by decide) (by rfl) (by rfl) (by rfl)
theorem user_lawf (H : HasK B (hd.heap_1 P)) (hlim : ∀ h, Based B h → h.NoLimit) : UserOK B 383 ["script"] [""] [] (scopeAt (hd.heap_1 P) 383) (bodyAt (hd.heap_1 P) 383) :=
  userOK_K H hlim (f := 383) (by rfl) (by rfl) (fun us ks h1 h2 S => ln1 us h1 fun u0 => ln0 ks h2 rfl) rfl (by rfl) (by decide) (by rfl) (by rfl) (by rfl)
end
end Uq
end

section
open PySem PySem.Calls PyProof.Rows PySem.W
namespace Uq

section
variable {prog : Program} {w : World} {B : Addr → Option Obj} {n : Nat} {mg mb : Str → Option Value} {A : Around} {ρ ρ' ρ0 : Nat → Addr} {st st' : Hp} {s s' s0 : Shared} {env : Env} {loc loc' at_ : Loc} {x C dx : Addr} {n0 k : Nat}

noncomputable def S246 (P : Params) (i : Nat) : Stmt := sAt (bodyAt (hd.heap_1 P) 246) i
theorem init_items (S : IS B [] env x 329 dx ρ0 n0 s0 loc st at_ k ρ s) (Z : Base B w.params mg mb) (RA : Room n A) (h2 : 2 ≤ n) (EO : EnvOK B env) (hs : env.scope = scopeAt (hd.heap_1 w.params) 246) {j : Nat} (ha : getL at_ "_ns_stack" = some (.lst j)) (hj : st[j]? = some [])
    (hself : getL loc "self" = some (.imm (.ref x))) (hn1 : nameV (mkCx (scopeAt (hd.heap_1 w.params) 246) (pA x "_ns_stack" j)) loc "list" = some (.imm (.type "list"))) (hn2 : nameV (mkCx (scopeAt (hd.heap_1 w.params) 246) (pA x "_ns_stack" j)) loc "_namespace_map" = some (.imm (.ref 202)))
    {Q : Flow → Shared → Prop} {E : Value → Shared → Prop} (q : ∀ u ρ' s', IS B [] env x 329 dx ρ0 n0 s0 loc (st.set j [.imm u]) at_ k ρ' s' → Q .next s') : wpAny (model prog w) A (exec (sAt (fB (S246 w.params 11)) 0) env) Q E s := by
  obtain ⟨l, pins', hn, R', EO', Z', O⟩ := S.laid (prog := prog) (w := w) (n := n) Z EO (a := "_ns_stack") (by rfl) ha
  have C' := cxOK_mk (sc := scopeAt (hd.heap_1 w.params) 246) Z' O h2
  have hjl : j < st.length := (List.getElem?_eq_some_iff.mp hj).1
  refine wpAny_Expr_any ?_ (noninteractive EO) (swaps_plain rfl)
  refine meth_open rfl rfl rfl _ E ?_
  refine (lv_ok (n := n) sliceSet_ok 3).1.2 _ C' loc st _ (.lst j) st (ev_attr (k := 2) (x := x) rfl (ev_name rfl (by unfold nameV; rw [hself])) (pA_at x "_ns_stack" j)) A ρ s env RA EO' hs R' S.F _ E fun ρ1 s1 x1 R1 X1 V1 => ?_
  first | obtain rfl := V1.imm_inv | obtain rfl := V1.next_inv | obtain rfl := V1.none_inv | obtain rfl := V1.bool_inv | cases V1
  have F1 := S.F.keeps R' rfl X1
  obtain ⟨vs1, ⟨m1, hl1⟩, _⟩ := R1.cell j _ hj
  refine Calls.getMethod_list_append hl1 rfl rfl ?_
  refine callWith_builtin rfl ?_
  refine evalArgs_plain (spliced_cons ?_)
  rw [eval_Call_plain (fun o m p e => by cases e)]
  refine wpAny_bind ?_
  refine name_ok C' EO' hs R1 F1 hn1 rfl _ E fun ρ2 s2 u2 R2 X2 V2 => ?_
  first | obtain rfl := V2.imm_inv | obtain rfl := V2.next_inv | obtain rfl := V2.none_inv | obtain rfl := V2.bool_inv | cases V2
  have F2 := F1.keeps R1 rfl X2
  refine PySem.W.callWith_of (P := fun _ => True) rfl (fun h _ => ⟨.machine, .inr (.inl rfl), PySem.W.Looks.of_pure rfl⟩) ?_
  refine evalArgs_plain (spliced_cons ?_)
  refine meth_open rfl rfl rfl _ E ?_
  refine name_ok C' EO' hs R2 F2 hn2 rfl _ E fun ρ3 s3 u3 R3 X3 V3 => ?_
  first | obtain rfl := V3.imm_inv | obtain rfl := V3.next_inv | obtain rfl := V3.none_inv | obtain rfl := V3.bool_inv | cases V3
  obtain ⟨kvs, ep, hD, hkl⟩ := dict202 (prog := prog) (w := w) (Z'.K.in_ R3.base)
  have hDo := hD.dictOf
  refine getMethod_builtin hDo.typeIs PySem.F.plainAttrs_dict PySem.F.slot_dict_items PySem.F.type_dict_items hDo.mapOf.noDict ?_
  refine callWith_builtin rfl (PyProof.Rows.evalArgs_none ?_)
  refine call_meetsIn PySem.F.slot_dict_items hDo.typeIs PySem.F.entry_dict_items (PySem.F.args_dict_items_1 _) (meets_dict_items (strKind prog w) 202 (by decide)) ⟨⟨kvs, hDo⟩, ?_⟩
  refine spliced_nil ⟨trivial, ?_⟩
  have hD4 := hD.push { cls := .type "dict_items", data := .fields #[.ref 202] }
  have X4 : Ext ρ3 st.length noF s3 ρ3 st.length { s3 with heap := s3.heap.push { cls := .type "dict_items", data := .fields #[.ref 202] } } := Ext.same (fun b o e _ => Heap.get?_push_of_some _ e) rfl rfl (Nat.le_refl _)
  have R4 := R3.push { cls := .type "dict_items", data := .fields #[.ref 202] }
  refine wpAny_with_toks (Nat.le_refl _) ?_
  refine kdx_call (knd := strKind prog w) (kvs := kvs) (ep := ep) RA.hd ⟨_, Heap.get?_push_size _ rfl, rfl, rfl⟩ hD4 (sizeL _ (by omega)) fun h' tk acc c as keep hS hl hG hacc htk => ?_
  refine spliced_nil ?_
  have X5 : Ext ρ3 st.length noF { s3 with heap := s3.heap.push { cls := .type "dict_items", data := .fields #[.ref 202] } } ρ3 st.length { s3 with heap := h', toks := tk } := Ext.same (fun b o e _ => keep b o e) rfl rfl htk
  have R5 : Rel (addB B l) pins' ρ3 st ({ s3 with heap := h', toks := tk } : Shared).heap := R4.keeps keep
  have hap := append_ok (prog := prog) (w := w) (A := A) R5 hjl hj (sizeL 0 (by decide)) (RV.imm (Value.ref (s3.heap.push { cls := .type "dict_items", data := .fields #[.ref 202] }).objs.size))
  have e3 : ρ3 j = ρ1 j := (X3.rho j hjl).trans (X2.rho j hjl)
  rw [e3] at hap
  refine hap _ E fun ρ6 s6 u6 R6 X6 V6 => ?_
  have XT := (((((X1.trans X2).trans X3).trans X4).trans X5).trans X6)
  exact q _ ρ6 s6 (S.ext0 XT (R6.less hn))
end
end Uq
end

section
open PySem PySem.Calls PyProof.Rows PySem.W
namespace Uq

section
variable {prog : Program} {w : World} {B : Addr → Option Obj} {P : Params} {n : Nat} {mg mb : Str → Option Value} {A : Around} {ρ ρ' ρ0 : Nat → Addr} {st st' : Hp} {s s' s0 : Shared} {env : Env} {loc loc' at_ : Loc} {x C dx : Addr} {n0 k : Nat}

theorem st_ex {sc : Scope} (Z : Base B P mg mb) (RA : Room n A) (h2 : 2 ≤ n) (EO : EnvOK B env) (hs : env.scope = sc) (S : IS B [] env x C dx ρ0 n0 s0 loc st at_ k ρ s) {c : Stmt} {rest' : List Stmt} {Q : Flow → Shared → Prop} {E : Value → Shared → Prop}
    (h : (lv 12).ex (mkCx sc p0) loc st c = some (.next, loc', st')) (q : ∀ ρ' s', IS B [] env x C dx ρ0 n0 s0 loc' st' at_ k ρ' s' → wpAny (model prog w) A (execs rest' env) Q E s') : wpAny (model prog w) A (execs (c :: rest') env) Q E s :=
  wpAny_execs_cons (init_ex (lv_ok (n := n) sliceSet_ok 12).2.2 (cxOK_mk (sc := sc) Z (p0_ok Z) h2) RA EO hs S h fun ρ' s' fl S' V => by cases V; exact q ρ' s' S')
theorem st_set {sc : Scope} (Z : Base B P mg mb) (RA : Room n A) (h2 : 2 ≤ n) (EO : EnvOK B env) (hs : env.scope = sc) (S : IS B [] env x C dx ρ0 n0 s0 loc st at_ k ρ s) {xs a : Str} {p1 p2 p3 : Pos} {e : PySem.Expr} {rest' : List Stmt} {v : V} {Q : Flow → Shared → Prop} {E : Value → Shared → Prop}
    (hself : getL loc xs = some (.imm (.ref x))) (hd' : decide (xs = ("__debug__" : Str)) = false) (hc : isComp e = false) (he : (lv 12).ev (mkCx sc p0) loc st e = some (v, st')) (T : Sets (hd.heap_1 P) C a) (hk : k ≤ 900)
    (q : ∀ ρ' s', IS B [] env x C dx ρ0 n0 s0 loc st' (setL at_ a v) (k + 1) ρ' s' → wpAny (model prog w) A (execs rest' env) Q E s') : wpAny (model prog w) A (execs (.Assign [.Attribute (.Name xs p1) a p2] e p3 :: rest') env) Q E s :=
  wpAny_execs_cons (init_set (lv_ok (n := n) sliceSet_ok 12).1 (cxOK_mk (sc := sc) Z (p0_ok Z) h2) RA EO hs Z.K S hself hd' hc he T hk q)

theorem init_ifV {sc : Scope} (Z : Base B P mg mb) (RA : Room n A) (h2 : 2 ≤ n) (EO : EnvOK B env) (hs : env.scope = sc) (S : IS B [] env x C dx ρ0 n0 s0 loc st at_ k ρ s) {t : PySem.Expr} {b e : List Stmt} {p : Pos} {v : V} {c : Bool}
    (he : isTrue t env (eval t env) = (do let v ← eval t env; standAt t.pos; holding [v] (truthy v))) (h1 : (lv 12).ev (mkCx sc p0) loc st t = some (v, st')) (h3 : truthV v st' = some c) {Q : Flow → Shared → Prop} {E : Value → Shared → Prop}
    (q : ∀ ρ' s', IS B [] env x C dx ρ0 n0 s0 loc st' at_ k ρ' s' → wpAny (model prog w) A (execs (match c with | true => b | false => e) env) Q E s') : wpAny (model prog w) A (exec (.If t b e p) env) Q E s := by
  refine wpAny_If (value_true (lv_ok (n := n) sliceSet_ok 12).1 (cxOK_mk (sc := sc) Z (p0_ok Z) h2) RA EO hs S.R S.F he h1 h3 _ E fun ρ' s' R' X' => ?_)
  have z := q ρ' s' (S.ext0 X' R')
  cases c with
  | true => exact z
  | false => exact z
noncomputable abbrev lh2 (x j : Nat) : Loc := [("self", .imm (.ref x)), ("headers", .lst j)]
theorem hinit (Z : Base B P mg mb) (RA : Room n A) (h2 : 2 ≤ n) (EO : EnvOK B env) (hs : env.scope = scopeAt (hd.heap_1 P) 84) {j : Nat} (hj : st[j]? = some []) (S : IS B [] env x 192 dx ρ0 n0 s0 (lh2 x j) st [] 0 ρ s) {Q : Flow → Shared → Prop} {E : Value → Shared → Prop}
    (q : ∀ loc' k ρ' s', IS B [] env x 192 dx ρ0 n0 s0 loc' st (one "_headers" (.lst j)) k ρ' s' → Q .next s') : wpAny (model prog w) A (execs (bodyAt (hd.heap_1 P) 84) env) Q E s := by
  refine st_ex (c := sAt (bodyAt (hd.heap_1 P) 84) 0) Z RA h2 EO hs S (loc' := lh2 x j) (st' := st) (ex_assign (v := .lst j) rfl (ev_ifexp (c := true) (tv_cmp (a := .lst j) (b := .none) rfl rfl rfl rfl) rfl)) fun ρ1 s1 S1 => ?_
  refine st_ex (c := sAt (bodyAt (hd.heap_1 P) 84) 1) Z RA h2 EO hs S1 (loc' := lh2 x j) (st' := st) (ex_if (c := false) (tv_cmp (a := .imm (.type "list")) (b := .imm (.type "list")) (ev_call (fun o m q e => by cases e) (a := .imm (.type "type")) (vs := [.lst j]) rfl rfl rfl) rfl rfl rfl) rfl) fun ρ2 s2 S2 => ?_
  refine st_set Z RA h2 EO hs S2 (v := .lst j) (st' := st) rfl rfl rfl rfl ⟨rfl, rfl, rfl, rfl⟩ (by decide) fun ρ3 s3 S3 => ?_
  obtain ⟨l4, s4, e4, rfl, rfl⟩ := loop_live (body := forB 11 (mkCx (scopeAt (hd.heap_1 P) 84) p0) (fT (sAt (fB (sAt (bodyAt (hd.heap_1 P) 84) 3)) 0)) (fB (sAt (fB (sAt (bodyAt (hd.heap_1 P) 84) 3)) 0))) (k := j) (xs := [])
    (Inv := fun i loc s => loc = lh2 x j ∧ s = st) (loc := lh2 x j) (st := st) (fun i loc s I => by obtain ⟨_, rfl⟩ := I; exact hj) (fun i x loc s hx I => by cases hx) (by decide) ⟨rfl, rfl⟩
  refine wpAny_execs_cons (init_ifV (c := true) (st' := s4) Z RA h2 EO hs S3 (v := .bool true) rfl rfl rfl fun ρ4 s4' S4 => ?_)
  refine st_ex (c := sAt (fB (sAt (bodyAt (hd.heap_1 P) 84) 3)) 0) Z RA h2 EO hs S4 (loc' := lh2 x j) (st' := s4) (ex_for_name (v := .lst j) rfl rfl e4) fun ρ5 s5 S5 => ?_
  exact wpAny_execs_nil (wpAny_execs_nil (q _ _ _ _ S5))

noncomputable abbrev lw9 (x : Nat) (bo : Value) : Loc := [("self", .imm (.ref x)), ("write", .imm bo), ("with_comments", .bool false), ("strip_text", .bool false), ("rewrite_prefixes", .bool false), ("qname_aware_tags", .none), ("qname_aware_attrs", .none), ("exclude_attrs", .none), ("exclude_tags", .none)]
structure WAt (bo : Value) (at_ : Loc) : Prop where
  w : getL at_ "_write" = some (.imm bo)
  d : getL at_ "_ignored_depth" = some (.int 0)
  r : getL at_ "_root_done" = some (.bool false)
  s : getL at_ "_root_seen" = some (.bool false)
  p : getL at_ "pi" = none
end
section
variable {prog : Program} {w : World} {B : Addr → Option Obj} {n : Nat} {mg mb : Str → Option Value} {A : Around} {ρ ρ' ρ0 : Nat → Addr} {st st' : Hp} {s s' s0 : Shared} {env : Env} {x dx : Addr} {n0 : Nat} {bo : Value}
theorem winit (Z : Base B w.params mg mb) (RA : Room n A) (h2 : 2 ≤ n) (EO : EnvOK B env) (hs : env.scope = scopeAt (hd.heap_1 w.params) 246) (S : IS B [] env x 329 dx ρ0 n0 s0 (lw9 x bo) st [] 0 ρ s) {Q : Flow → Shared → Prop} {E : Value → Shared → Prop}
    (q : ∀ loc' at' g k ρ' s', WAt bo at' → IS B [] env x 329 dx ρ0 n0 s0 loc' (st ++ g) at' k ρ' s' → Q .next s') : wpAny (model prog w) A (execs (bodyAt (hd.heap_1 w.params) 246) env) Q E s := by
  have hfin : ∀ at' st2 k ρ' s', (∃ g, st2 = st ++ g) → WAt bo at' → IS B [] env x 329 dx ρ0 n0 s0 (lw9 x bo) st2 at' k ρ' s' → Q .next s' := fun at' st2 k ρ' s' hg W S => by
    obtain ⟨g, rfl⟩ := hg
    exact q _ at' g k ρ' s' W S
  refine st_set Z RA h2 EO hs S (v := .imm bo) (st' := st) rfl rfl rfl rfl ⟨rfl, rfl, rfl, rfl⟩ (by decide) fun ρ3 s3 S => ?_
  refine st_set Z RA h2 EO hs S (v := .lst st.length) (st' := st ++ [[]]) rfl rfl rfl rfl ⟨rfl, rfl, rfl, rfl⟩ (by decide) fun ρ3 s3 S => ?_
  refine st_set Z RA h2 EO hs S (v := .bool false) (st' := st ++ [[]]) rfl rfl rfl rfl ⟨rfl, rfl, rfl, rfl⟩ (by decide) fun ρ3 s3 S => ?_
  refine st_set Z RA h2 EO hs S (v := .bool false) (st' := st ++ [[]]) rfl rfl rfl rfl ⟨rfl, rfl, rfl, rfl⟩ (by decide) fun ρ3 s3 S => ?_
  refine st_set Z RA h2 EO hs S (v := .none) (st' := st ++ [[]]) rfl rfl rfl (ev_ifexp (c := false) (tv_name (v := .none) rfl rfl) rfl) ⟨rfl, rfl, rfl, rfl⟩ (by decide) fun ρ3 s3 S => ?_
  refine st_set Z RA h2 EO hs S (v := .none) (st' := st ++ [[]]) rfl rfl rfl (ev_ifexp (c := false) (tv_name (v := .none) rfl rfl) rfl) ⟨rfl, rfl, rfl, rfl⟩ (by decide) fun ρ3 s3 S => ?_
  refine st_set Z RA h2 EO hs S (v := .bool false) (st' := st ++ [[]]) rfl rfl rfl rfl ⟨rfl, rfl, rfl, rfl⟩ (by decide) fun ρ3 s3 S => ?_
  refine wpAny_execs_cons (init_if (c := false) (st' := st ++ [[]]) (lv_ok (n := n) sliceSet_ok 12).2.1 (cxOK_mk (sc := scopeAt (hd.heap_1 w.params) 246) Z (p0_ok Z) h2) RA EO hs S (tv_name (v := .none) rfl rfl) fun ρ3 s3 S => ?_)
  refine st_set Z RA h2 EO hs S (v := .none) (st' := st ++ [[]]) rfl rfl rfl rfl ⟨rfl, rfl, rfl, rfl⟩ (by decide) fun ρ3 s3 S => wpAny_execs_nil ?_
  refine wpAny_execs_cons (init_if (c := false) (st' := st ++ [[]]) (lv_ok (n := n) sliceSet_ok 12).2.1 (cxOK_mk (sc := scopeAt (hd.heap_1 w.params) 246) Z (p0_ok Z) h2) RA EO hs S (tv_name (v := .none) rfl rfl) fun ρ3 s3 S => ?_)
  refine st_set Z RA h2 EO hs S (v := .none) (st' := st ++ [[]]) rfl rfl rfl rfl ⟨rfl, rfl, rfl, rfl⟩ (by decide) fun ρ3 s3 S => wpAny_execs_nil ?_
  obtain ⟨stA, ⟨gA, hA⟩, e9⟩ : ∃ stA, (∃ g, stA = st ++ g) ∧ ∃ v, (lv 12).ev (mkCx (scopeAt (hd.heap_1 w.params) 246) p0) (lw9 x bo) (st ++ [[]]) (aV (S246 w.params 9)) = some (v, stA) := ⟨_, ⟨_, by rw [List.append_assoc, List.append_assoc]⟩, _, rfl⟩
  obtain ⟨v9, e9⟩ := e9
  refine st_set Z RA h2 EO hs S (v := v9) (st' := stA) rfl rfl rfl e9 ⟨rfl, rfl, rfl, rfl⟩ (by decide) fun ρ3 s3 S => ?_
  refine st_set Z RA h2 EO hs S (v := .lst stA.length) (st' := stA ++ [[]]) rfl rfl rfl rfl ⟨rfl, rfl, rfl, rfl⟩ (by decide) fun ρ3 s3 S => ?_
  refine wpAny_execs_cons (init_if (c := true) (st' := stA ++ [[]]) (lv_ok (n := n) sliceSet_ok 12).2.1 (cxOK_mk (sc := scopeAt (hd.heap_1 w.params) 246) Z (p0_ok Z) h2) RA EO hs S (tv_not (c := false) (tv_name (v := .bool false) rfl rfl)) fun ρ3 s3 S => ?_)
  refine wpAny_execs_cons (init_items S Z RA h2 EO hs (j := stA.length) rfl (get_last _ _) rfl rfl rfl fun u ρ3 s3 S => wpAny_execs_nil ?_)
  rw [set_last] at S
  have h12 : (lv 12).ex (mkCx (scopeAt (hd.heap_1 w.params) 246) (pA x "_ns_stack" stA.length)) (lw9 x bo) (stA ++ [[V.imm u]]) (S246 w.params 12) = some (.next, lw9 x bo, ((stA ++ [[V.imm u]]) ++ [[]]).set stA.length ([V.imm u] ++ [V.lst (stA ++ [[V.imm u]]).length])) :=
    ex_expr (v := .none) rfl (ev_append (j := stA.length) (xs := [.imm u]) rfl (ev_attr (x := x) rfl rfl (pA_at x "_ns_stack" stA.length)) rfl (get_old (get_last _ _) _) (sizeL 1 (by decide)))
  refine wpAny_execs_cons (init_exR S Z RA h2 EO hs (a := "_ns_stack") (by rfl) (j := stA.length) rfl h12 fun ρ3 s3 fl S Vf => ?_)
  obtain rfl := Vf.next_inv
  have hg : ∃ g, ((stA ++ [[V.imm u]]) ++ [[]]).set stA.length ([V.imm u] ++ [V.lst (stA ++ [[V.imm u]]).length]) = st ++ g := ⟨gA ++ [[V.imm u] ++ [V.lst (stA ++ [[V.imm u]]).length]] ++ [[]], by rw [hA]; simp⟩
  obtain ⟨g, hg⟩ := hg
  rw [hg] at S
  refine wpAny_execs_cons (init_dict (cxOK_mk (sc := scopeAt (hd.heap_1 w.params) 246) Z (p0_ok (n := n) Z) h2) EO hs Z.K S rfl rfl ⟨rfl, rfl, rfl, rfl⟩ (by decide) fun u2 ρ3 s3 S => ?_)
  refine st_set Z RA h2 EO hs S (v := .lst (st ++ g).length) (st' := (st ++ g) ++ [[.bool false]]) rfl rfl rfl rfl ⟨rfl, rfl, rfl, rfl⟩ (by decide) fun ρ3 s3 S => ?_
  refine st_set Z RA h2 EO hs S (v := .none) (st' := (st ++ g) ++ [[.bool false]]) rfl rfl rfl rfl ⟨rfl, rfl, rfl, rfl⟩ (by decide) fun ρ3 s3 S => ?_
  refine st_set Z RA h2 EO hs S (v := .bool false) (st' := (st ++ g) ++ [[.bool false]]) rfl rfl rfl rfl ⟨rfl, rfl, rfl, rfl⟩ (by decide) fun ρ3 s3 S => ?_
  refine st_set Z RA h2 EO hs S (v := .bool false) (st' := (st ++ g) ++ [[.bool false]]) rfl rfl rfl rfl ⟨rfl, rfl, rfl, rfl⟩ (by decide) fun ρ3 s3 S => ?_
  refine st_set Z RA h2 EO hs S (v := .int 0) (st' := (st ++ g) ++ [[.bool false]]) rfl rfl rfl rfl ⟨rfl, rfl, rfl, rfl⟩ (by decide) fun ρ3 s3 S => ?_
  exact wpAny_execs_nil (hfin _ _ _ _ _ ⟨g ++ [[.bool false]], by rw [List.append_assoc]⟩ ⟨rfl, rfl, rfl, rfl, rfl⟩ S)
end
end Uq
end

section
open PySem PySem.Calls PyProof.Rows PySem.W
namespace Uq

noncomputable def Held (B : Addr → Option Obj) (l : List (Addr × Obj)) (env : Env) (ρ : Nat → Addr) (n : Nat) (s : Shared) : Prop :=
  ∀ p ∈ l, s.heap.get? p.1 = some p.2 ∧ (∀ k, k < n → ρ k ≠ p.1) ∧ ¬ frs env p.1 ∧ B p.1 = none
section
variable {prog : Program} {w : World} {B : Addr → Option Obj} {n n' : Nat} {mg mb : Str → Option Value} {A : Around} {ρ ρ' ρ0 : Nat → Addr} {st st' : Hp} {s s' s0 : Shared} {env : Env} {l l' : List (Addr × Obj)} {loc : Loc}
theorem Held.ext (H : Held B l env ρ n s) (X : Ext ρ n (frs env) s ρ' n' s') : Held B l env ρ' n' s' := fun p hp => by
  obtain ⟨a, b, c, d⟩ := H p hp
  have := X.keep _ _ a b c
  exact ⟨this.1, this.2, c, d⟩
theorem Held.ext0 (H : Held B l env ρ n s) (X : Ext ρ n noF s ρ' n' s') : Held B l env ρ' n' s' := H.ext (X.wider fun _ h => h.elim)
theorem Held.app (H : Held B l env ρ n s) (H' : Held B l' env ρ n s) : Held B (l ++ l') env ρ n s := fun p hp => (List.mem_append.mp hp).elim (H p) (H' p)
theorem Held.one {a : Addr} {o : Obj} (h1 : s.heap.get? a = some o) (h2 : ∀ k, k < n → ρ k ≠ a) (h3 : ¬ frs env a) (h4 : B a = none) : Held B [(a, o)] env ρ n s := fun p hp => by
  have := List.mem_singleton.mp hp
  subst this
  exact ⟨h1, h2, h3, h4⟩
theorem Held.ne (H : Held B l env ρ n s) {b : Addr} (hb : s.heap.get? b = none) : b ∉ l.map (·.1) := fun h => by
  obtain ⟨p, hp, rfl⟩ := List.mem_map.mp h
  have := (H p hp).1
  rw [hb] at this; cases this
theorem Frm.not_new (F : Frm ρ n s env loc) {b : Addr} (hb : s.heap.get? b = none) : ¬ frs env b := fun h => by
  obtain ⟨o, ho, _⟩ := F.kinds b h
  rw [hb] at ho; cases ho
theorem Born.held {x C dx : Addr} {at_ : Loc} {n0 : Nat} (b : Born B [] ρ0 n0 s0 x C dx at_ st ρ s) (F : Frm ρ' n' s0 env loc) : ∃ od, Held B [(x, instObj C dx), (dx, od)] env ρ st.length s ∧ ∃ k m, (∀ h : Heap, h.get? x = some (instObj C dx) → h.get? dx = some od → InstS h x C dx k m) ∧
    (∀ a v, getL at_ a = some v → ∃ u, m a = some u ∧ RV ρ st.length s.heap v u) ∧ ∀ a, getL at_ a = none → m a = none := by
  obtain ⟨k, m, I, h1, h2⟩ := b.I
  obtain ⟨es, nn, hd', hlen, hal⟩ := id I.ns
  refine ⟨_, (Held.one I.at_ (fun k hk => (b.nx k hk).1) (F.not_new b.nw.1) b.bx.1).app (Held.one hd' (fun k hk => (b.nx k hk).2) (F.not_new b.nw.2) b.bx.2), k, m, fun h e1 e2 => ⟨e1, es, nn, e2, hlen, hal⟩, h1, h2⟩

noncomputable abbrev r1 (j k : Nat) : Loc := [("deeds", .lst j), ("hands", .lst k)]
noncomputable abbrev r2 (j k x1 : Nat) : Loc := [("deeds", .lst j), ("hands", .lst k), ("table", .imm (.ref x1))]
noncomputable abbrev r3 (j k x1 p : Nat) : Loc := [("deeds", .lst j), ("hands", .lst k), ("table", .imm (.ref x1)), ("page", .lst p)]
theorem run_walk (Z : Base B w.params mg mb) {j : Nat} {ds : List D} (hj : st[j]? = some (ds.map D.v)) (hds : ds.length ≤ 10) (hok : ∀ d ∈ ds, d.ok) (htk : 0 < s.toks) (RA : Room 6 A) (R : Rel B [] ρ st s.heap) {Q : Value → Shared → Prop} {E : Value → Shared → Prop}
    (q : ∀ ρ' st' s' u kk, Rel B [] ρ' st' s'.heap → Ext ρ st.length noF s ρ' st'.length s' → RV ρ' st'.length s'.heap (.tup [.str (pageOf ((foldR 0 ds ([], [])).1.map toE)), .lst kk]) u → st'[kk]? = some (hsV (foldR 0 ds ([], [])).2) → st'[j]? = some (ds.map D.v) → Q u s') :
    wpAny (model prog w) A (call (.ref 359) [.ref (ρ j)]) Q E s := by
  have hjl : j < st.length := (List.getElem?_eq_some_iff.mp hj).1
  refine wpAny_call (user_code (n := 5) (args := [.lst j]) (us := [.ref (ρ j)]) (ks := []) (user_run Z.K Z.lim) rfl rfl htk RA R (.cons (.lst j hjl) .nil) fun A1 s1 env RA1 EO hsc R1 F1 X1 new => q_gen fun Qf kQ => ?_)
  have C0 := cxOK_mk (prog := prog) (w := w) (sc := scopeAt (hd.heap_1 w.params) 359) Z (p0_ok (n := 5) (pins := []) Z) (by decide)
  have L := lv_ok (prog := prog) (w := w) (B := B) (pins := []) (n := 5) (mg := mg) (mb := mb) sliceSet_ok 12
  -- hands
  refine wpAny_execs_cons (L.2.2 _ C0 (one "deeds" (.lst j)) st (S359 w.params 0) .next (r1 j st.length) (st ++ [handsV]) rfl A1 ρ s1 env RA1 EO hsc R1 F1 _ _ fun ρ2 s2 fl R2 X2 F2 V2 => ?_)
  first | obtain rfl := V2.imm_inv | obtain rfl := V2.next_inv | obtain rfl := V2.none_inv | obtain rfl := V2.bool_inv | cases V2
  have XA := (X1.wider fun _ h => h.elim).trans X2
  generalize hst1 : st ++ [handsV] = st1 at R2 X2 F2 XA
  have hj1 : st1[j]? = some (ds.map D.v) := by rw [← hst1]; exact get_old hj _
  have hk1 : st1[st.length]? = some handsV := by rw [← hst1]; exact get_last _ _
  -- table
  refine wpAny_execs_cons (wpAny_Assign_Name ?_ (swaps_plain rfl))
  rw [eval_Call_plain (fun o m p e => by cases e)]
  refine wpAny_bind (name_ok C0 EO hsc R2 F2 (v := .imm (.ref 192)) rfl rfl _ _ fun ρ3 s3 u3 R3 X3 V3 => ?_)
  first | obtain rfl := V3.imm_inv | obtain rfl := V3.next_inv | obtain rfl := V3.none_inv | obtain rfl := V3.bool_inv | cases V3
  have F3 := F2.keeps R2 rfl X3
  refine callWith_k (ev := (lv 11).ev) (kn := []) (vs := [.lst st1.length]) (st1 := st1 ++ [[]]) (lv_ok (n := 5) sliceSet_ok 11).1 C0 RA1 EO hsc (keep_K Z.K (by rfl)) rfl rfl R3 F3 fun ρ4 s4 us ks R4 X4 V4 hl => ?_
  have : ks = [] := List.eq_nil_of_length_eq_zero hl
  subst this
  rw [List.append_nil] at V4
  have hul : us.length = 1 := by rw [← V4.length]; rfl
  have F4 := F3.keeps R3 rfl X4
  refine class_newD (n := 3) Z.K (C := 192) (by rfl) (by rfl) (by rfl) (user_hinit Z.K Z.lim) (args := [.lst st1.length]) (us := us) (fun at' st' => at' = one "_headers" (.lst st1.length) ∧ st' = st1 ++ [[]]) hul F4.tk RA1 R4 (by rw [List.append_nil]; exact V4)
    (fun A' x dx s0 s1 env RA EO hs S Q' E' qq => hinit Z RA (by decide) EO hs (get_last _ _) S fun loc' k ρ' s' S' => qq _ _ _ _ _ _ ⟨rfl, rfl⟩ S') fun x1 dx1 at1 st5 ρ5 s5 hP B5 => ?_
  obtain ⟨rfl, rfl⟩ := hP
  have F5 := F4.keeps R4 rfl B5.X
  obtain ⟨od1, H5, k1, m1, I1, g1, g2⟩ := B5.held F4
  refine store_ok EO B5.R F5 (x := "table") (v := .imm (.ref x1)) (.imm _) (isLoc_kind (cx := mkCx (scopeAt (hd.heap_1 w.params) 359) p0) hsc rfl) _ _ fun ρ6 s6 R6 X6 F6 => ?_
  have H6 := H5.ext X6
  have XB := (((XA.trans (X3.wider fun _ h => h.elim)).trans (X4.wider fun _ h => h.elim)).trans (B5.X.wider fun _ h => h.elim)).trans X6
  obtain ⟨uh, hm1, hr1⟩ := g1 "_headers" (.lst st1.length) rfl
  have e6 : ρ6 st1.length = ρ5 st1.length := X6.rho _ (by simp)
  obtain ⟨eh, hh1⟩ := hr1.lst_inv
  subst eh
  -- page
  refine wpAny_execs_cons (L.2.2 _ C0 (r2 j st.length x1) (st1 ++ [[]]) (S359 w.params 2) .next (r3 j st.length x1 (st1 ++ [[]]).length) ((st1 ++ [[]]) ++ [[]]) rfl A1 ρ6 s6 env RA1 EO hsc R6 F6 _ _ fun ρ7 s7 fl R7 X7 F7 V7 => ?_)
  first | obtain rfl := V7.imm_inv | obtain rfl := V7.next_inv | obtain rfl := V7.none_inv | obtain rfl := V7.bool_inv | cases V7
  have H7 := H6.ext X7
  have XC := XB.trans X7
  have e7 : ρ7 st1.length = ρ5 st1.length := (X7.rho _ (by simp)).trans e6
  generalize hst7 : (st1 ++ [[]]) ++ [[]] = st7 at R7 X7 F7 XC H7
  have hpl : (st1 ++ [([] : List V)]).length < st7.length := by rw [← hst7]; simp
  have hp7 : st7[(st1 ++ [([] : List V)]).length]? = some [] := by rw [← hst7]; exact get_last _ _
  -- writer
  refine wpAny_execs_cons (wpAny_Assign_Name ?_ (swaps_plain rfl))
  rw [eval_Call_plain (fun o m p e => by cases e)]
  refine wpAny_bind (name_ok C0 EO hsc R7 F7 (v := .imm (.ref 329)) rfl rfl _ _ fun ρ8 s8 u8 R8 X8 V8 => ?_)
  first | obtain rfl := V8.imm_inv | obtain rfl := V8.next_inv | obtain rfl := V8.none_inv | obtain rfl := V8.bool_inv | cases V8
  have F8 := F7.keeps R7 rfl X8
  refine PySem.W.callWith_of (P := fun h => Based B h) rfl (fun h hb => keep_K Z.K (by rfl) h hb) ?_
  refine evalArgs_plain (spliced_cons ?_)
  rw [arm_eval_Attribute, base_plain rfl]
  refine wpAny_bind (name_ok C0 EO hsc R8 F8 (v := .lst (st1 ++ [[]]).length) rfl rfl _ _ fun ρ9 s9 u9 R9 X9 V9 => wpAny_bind (wpAny_standAt (wpAny_bind (wpAny_holding ?_))))
  obtain ⟨rfl, _⟩ := V9.lst_inv
  have F9 := F8.keeps R8 rfl X9
  have H9 := (H7.ext0 X8).ext0 X9
  obtain ⟨vs9, ⟨mm9, hl9⟩, _⟩ := R9.cell _ _ hp7
  refine getAttr_append hl9 (wpAny_bind (wpAny_letTemporaryGo (wpAny_pure ?_)))
  have nb : s9.heap.get? s9.heap.objs.size = none := fresh_none _
  have XX : Ext ρ9 st7.length noF s9 ρ9 st7.length { s9 with heap := s9.heap.push (boundAppend (ρ9 (st1 ++ [[]]).length)), toks := s9.toks + 1 } := Ext.same (fun b o e _ => Heap.get?_push_of_some _ e) rfl rfl (Nat.le_succ _)
  have RX : Rel B [] ρ9 st7 ({ s9 with heap := s9.heap.push (boundAppend (ρ9 (st1 ++ [[]]).length)), toks := s9.toks + 1 } : Shared).heap := R9.push _
  have FX := F9.keeps R9 rfl XX
  have Bn : B s9.heap.objs.size = none := by
    cases z : B s9.heap.objs.size with
    | none => rfl
    | some o => have := R9.base _ _ z; rw [nb] at this; cases this
  have HX := (H9.ext0 XX).app (Held.one (B := B) (env := env) (ρ := ρ9) (n := st7.length) (s := { s9 with heap := s9.heap.push (boundAppend (ρ9 (st1 ++ [[]]).length)), toks := s9.toks + 1 }) (Heap.get?_push_size _ rfl) (fun k hk e => by
    have := R9.lt hk
    rw [e] at this
    exact absurd this (Nat.lt_irrefl _)) (F9.not_new nb) Bn)
  have hd1 : s9.heap.objs.size ∉ [x1, dx1] := H9.ne nb
  refine spliced_nil ⟨RX.base, ?_⟩
  refine class_newD (n := 3) Z.K (C := 329) (us := [.ref s9.heap.objs.size]) (by rfl) (by rfl) (by rfl) (user_winit Z.K Z.lim) (args := [.imm (.ref s9.heap.objs.size), .bool false, .bool false, .bool false, .none, .none, .none, .none])
    (fun at' st' => WAt (.ref s9.heap.objs.size) at' ∧ ∃ g, st' = st7 ++ g) rfl FX.tk RA1 RX (.cons (.imm _) (.cons (.bool _) (.cons (.bool _) (.cons (.bool _) (.cons .none (.cons .none (.cons .none (.cons .none .nil))))))))
    (fun A' x dx s0 s1 env RA EO hs S Q' E' qq => winit Z RA (by decide) EO hs S fun loc' at' g k ρ' s' W S' => qq _ _ _ _ _ _ ⟨W, g, rfl⟩ S') fun x2 dx2 at2 st10 ρ10 s10 hP B10 => ?_
  obtain ⟨W, g, rfl⟩ := hP
  have F10 := FX.keeps RX rfl B10.X
  obtain ⟨od2, H10', k2, m2, I2, f1, f2⟩ := B10.held FX
  have H10 := (HX.ext0 B10.X).app H10'
  have hd2 : x2 ∉ _ := HX.ne B10.nw.1
  have hd3 : dx2 ∉ _ := HX.ne B10.nw.2
  refine store_ok EO B10.R F10 (x := "writer") (v := .imm (.ref x2)) (.imm _) (isLoc_kind (cx := mkCx (scopeAt (hd.heap_1 w.params) 359) p0) hsc rfl) _ _ fun ρ11 s11 R11 X11 F11 => ?_
  have H11 := H10.ext X11
  have XD := ((((XC.trans (X8.wider fun _ h => h.elim)).trans (X9.wider fun _ h => h.elim)).trans (XX.wider fun _ h => h.elim)).trans (B10.X.wider fun _ h => h.elim)).trans X11
  -- laid aside
  have hst1l : st1.length = st.length + 1 := by rw [← hst1]; simp
  have hst1m : (st1 ++ [([] : List V)]).length = st1.length + 1 := by simp
  have hst7l : st7.length = st1.length + 2 := by rw [← hst7]; simp
  have e11 : ∀ i, i < st7.length → ρ11 i = ρ9 i := fun i hi => (X11.rho i (by rw [List.length_append]; omega)).trans (B10.X.rho i hi)
  have e9 : ∀ i, i < st7.length → ρ9 i = ρ7 i := fun i hi => (X9.rho i hi).trans (X8.rho i hi)
  have p1' : ρ11 st1.length = ρ5 st1.length := (e11 _ (by omega)).trans ((e9 _ (by omega)).trans e7)
  have p2' : ρ11 (st1 ++ [([] : List V)]).length = ρ9 (st1 ++ [([] : List V)]).length := e11 _ hpl
  have hnd : ((([(x1, instObj 192 dx1), (dx1, od1)] ++ [(s9.heap.objs.size, boundAppend (ρ9 (st1 ++ [([] : List V)]).length))]) ++ [(x2, instObj 329 dx2), (dx2, od2)] : List (Addr × Obj)).map (·.1)).Nodup := by
    simp only [List.map_append, List.map_cons, List.map_nil, List.cons_append, List.nil_append] at hd2 hd3 hd1 ⊢
    simp only [List.mem_cons, List.not_mem_nil, or_false, not_or] at hd1 hd2 hd3
    simp only [List.nodup_cons, List.mem_cons, List.not_mem_nil, or_false, not_or, List.nodup_nil, and_true, not_false_eq_true]
    exact ⟨⟨B5.ne, Ne.symm hd1.1, Ne.symm hd2.1, Ne.symm hd3.1⟩, ⟨Ne.symm hd1.2, Ne.symm hd2.2.1, Ne.symm hd3.2.1⟩, ⟨Ne.symm hd2.2.2, Ne.symm hd3.2.2⟩, B10.ne⟩
  generalize hl : (([(x1, instObj 192 dx1), (dx1, od1)] ++ [(s9.heap.objs.size, boundAppend (ρ9 (st1 ++ [([] : List V)]).length))]) ++ [(x2, instObj 329 dx2), (dx2, od2)] : List (Addr × Obj)) = l at H11 hnd
  have hn : ∀ p ∈ l, B p.1 = none := fun p hp => (H11 p hp).2.2.2
  have R12 : Rel (addB B l) [(st1.length, ρ5 st1.length), ((st1 ++ [([] : List V)]).length, ρ9 (st1 ++ [([] : List V)]).length)] ρ11 (st7 ++ g) s11.heap := R11.more (fun p hp => ⟨(H11 p hp).1, (H11 p hp).2.1⟩) (fun p hp => by
    rcases List.mem_cons.mp hp with rfl | hp
    · exact ⟨p1', by rw [List.length_append]; show st1.length < _; omega⟩
    · have := List.mem_singleton.mp hp
      subst this
      exact ⟨p2', Nat.lt_of_lt_of_le hpl (by rw [List.length_append (as := st7)]; omega)⟩)
  have Z' := Z.more hn ⟨_, R12.base⟩
  have EO' := EO.more (l := l) (fun p hp => (H11 p hp).2.2.1)
  have nx12 : x1 ≠ x2 := fun e => hd2 (by rw [← e]; simp)
  have W2 : Two (addB B l) [(st1.length, ρ5 st1.length), ((st1 ++ [([] : List V)]).length, ρ9 (st1 ++ [([] : List V)]).length)] ⟨x1, x2, st1.length, (st1 ++ [([] : List V)]).length⟩ := by
    refine ⟨nx12, ⟨dx1, k1, m1, ρ5 st1.length, fun h hb => I1 h (hb _ _ (addB_mem hnd (by rw [← hl]; simp))) (hb _ _ (addB_mem hnd (by rw [← hl]; simp))), hm1, by simp, fun y hy => g2 y ?_⟩, ?_⟩
    · show getL [("_headers", V.lst st1.length)] y = none
      rw [getL_cons, if_neg (Ne.symm hy)]; rfl
    · obtain ⟨u1, a1, b1⟩ := f1 _ _ W.w
      obtain ⟨u2, a2, b2⟩ := f1 _ _ W.d
      obtain ⟨u3, a3, b3⟩ := f1 _ _ W.r
      obtain ⟨u4, a4, b4⟩ := f1 _ _ W.s
      obtain rfl := b1.imm_inv
      obtain ⟨t2, rfl⟩ := b2.int_inv
      obtain rfl := b3.bool_inv
      obtain rfl := b4.bool_inv
      exact ⟨dx2, k2, m2, s9.heap.objs.size, ρ9 (st1 ++ [([] : List V)]).length, _, fun h hb => I2 h (hb _ _ (addB_mem hnd (by rw [← hl]; simp))) (hb _ _ (addB_mem hnd (by rw [← hl]; simp))), a1, a2, a3, a4, f2 _ W.p, addB_mem hnd (by rw [← hl]; simp), by simp⟩
  have hrs : RunSt ⟨x1, x2, st1.length, (st1 ++ [([] : List V)]).length⟩ j st.length ds (st7 ++ g) ([], []) := by
    refine ⟨get_old ?_ _, get_old ?_ _, get_old ?_ _, get_old hp7 _⟩
    · rw [← hst7]; exact get_old (get_old hj1 _) _
    · rw [← hst7]; exact get_old (get_old hk1 _) _
    · rw [← hst7]; exact get_old (get_last _ _) _
  have hap : Apart ⟨x1, x2, st1.length, (st1 ++ [([] : List V)]).length⟩ j st.length := ⟨by show j ≠ st1.length; omega, by show j ≠ (st1 ++ [([] : List V)]).length; omega, by show st.length ≠ st1.length; omega, by show st.length ≠ (st1 ++ [([] : List V)]).length; omega, by show st1.length ≠ (st1 ++ [([] : List V)]).length; omega, nx12⟩
  obtain ⟨st', kk, loc', er, hkk, hjj⟩ := run_val w.params ⟨x1, x2, st1.length, (st1 ++ [([] : List V)]).length⟩ j st.length hap ds hds hok (st7 ++ g) hrs
  have C2 := cxOK_mk (prog := prog) (w := w) (sc := scopeAt (hd.heap_1 w.params) 359) Z' (q3_ok (n := 2) Z' W2 (by decide)) (by decide)
  refine exs_ok (lv_ok (n := 5) sliceSet_ok 12).2.2 C2 RA1 EO' hsc _ _ _ _ _ _ er ρ11 s11 R12 F11 _ _ fun ρ12 s12 fl R13 X13 F13 V13 => ?_
  first | obtain rfl := V13.imm_inv | obtain rfl := V13.next_inv | obtain rfl := V13.none_inv | obtain rfl := V13.bool_inv | cases V13
  rename_i u hu
  exact kQ _ _ (q ρ12 st' s12 u kk (R13.less hn) (Ext.drop (XD.trans X13) new) hu hkk hjj)
end
end Uq
end

section
open PySem PySem.Calls PyProof.Rows PySem.W
namespace Uq

section
variable {prog : Program} {w : World} {B : Addr → Option Obj} {P : Params} {n n' : Nat} {mg mb : Str → Option Value} {A : Around} {ρ ρ' ρ0 : Nat → Addr} {st st' : Hp} {s s' s0 : Shared} {env : Env} {loc : Loc}
noncomputable def IntsAt (B : Addr → Option Obj) (a : Addr) (xs : List Int) : Prop := ∃ o vs m, B a = some o ∧ o.cls = .type "list" ∧ o.data = .seq (List.toArray vs) m ∧ ∀ ρ n h, RVs ρ n h (xs.map V.int) vs
theorem pd_ok {a : Addr} {xs : List Int} (hx : IntsAt B a xs) {pins : List (Nat × Addr)} : PartsOK prog w B pins n (pd a xs) where
  fns q hq := by cases hq
  meth a m kn spec h := by cases h
  attr a m v h := by cases h
  setI a f h := by cases h
  delI a f h := by cases h
  ext b ys h := by
    have h' : (if b = a then some (xs.map V.int) else none) = some ys := h
    clear h
    split at h'
    · rename_i hb
      subst hb
      cases h'
      exact hx
    · cases h'
theorem deeds_walk (Z : Base B P mg mb) {a : Addr} {xs : List Int} (hx : IntsAt B a xs) (hl : xs.length ≤ 63) (htk : 0 < s.toks) (RA : Room 3 A) (R : Rel B [] ρ st s.heap) {Q : Value → Shared → Prop} {E : Value → Shared → Prop}
    (q : ∀ ρ' st' s' kd, Rel B [] ρ' st' s'.heap → Ext ρ st.length noF s ρ' st'.length s' → kd < st'.length → st'[kd]? = some ((deedsOf xs).map D.v) → Q (.ref (ρ' kd)) s') : wpAny (model prog w) A (call (.ref 352) [.ref a]) Q E s := by
  have C := cxOK_mk (prog := prog) (w := w) (sc := scopeAt (hd.heap_1 P) 352) Z (pd_ok (n := 2) (pins := []) hx) (by decide)
  obtain ⟨g, kd, loc', e, hk⟩ := deeds_rest P a xs ((st ++ [(xs.take 10).map V.int]) ++ [(rowN xs).map iv]) (st.length + 1) (by
    have : (st ++ [(xs.take 10).map V.int]).length = st.length + 1 := by simp
    rw [← this]; exact get_last _ _)
  have hw : Does prog w B [] A (call (.ref 352) [.ref a] (([] : List Str).zip [])) ρ st s (.lst kd) (((st ++ [(xs.take 10).map V.int]) ++ [(rowN xs).map iv]) ++ g) :=
    user_core (n := 2) (args := [.imm (.ref a)]) (us := [.ref a]) (ks := []) (f := .ret (.lst kd)) (loc' := loc') (user_deeds Z.K Z.lim) rfl rfl htk RA R (.cons (.imm _) .nil) rfl fun A' s1 env RA' EO hs R1 F1 Q' E' q' => by
      have hsw : swapsWith (C352 P) (some (fI (S352 P 0))) (match S352 P 0 with | .Assign _ _ p => p.line | _ => 0) env = pure true := by
        show (pure (env.blockKind == .function && env.kindOf "row" == some .local && _ && _) : Sem Bool) = pure true
        unfold Env.blockKind Env.kindOf
        rw [hs]; rfl
      refine wpAny_execs_cons (comp_assign (r := lv 11) (lv_ok (n := 2) sliceSet_ok 11).1 (lv_ok (n := 2) sliceSet_ok 11).2.1 C (deeds_comp P a xs hl st) RA' EO hs R1 F1 rfl hsw _ E' fun ρ2 s2 fl R2 X2 F2 V2 => ?_)
      first | obtain rfl := V2.imm_inv | obtain rfl := V2.next_inv | obtain rfl := V2.none_inv | obtain rfl := V2.bool_inv | cases V2
      exact exs_ok (lv_ok (n := 2) sliceSet_ok 12).2.2 C RA' EO hs _ _ _ _ _ _ e ρ2 s2 R2 F2 _ E' fun ρ3 s3 fl R3 X3 F3 V3 => q' ρ3 s3 fl R3 (X2.trans X3) F3 V3
  refine hw _ E fun ρ' s' u R' X' V' => ?_
  cases V'
  rename_i hlt
  exact q ρ' _ s' kd R' X' hlt hk
end
end Uq
end

section
open PySem PySem.Calls PyProof.Rows PySem.W
namespace Uq

/-- the data of the two answers -/
noncomputable def entD (e : Ent) : PyData := .tuple [.str e.2.1, .str e.2.2]
noncomputable def ansD (pg : Str) (l : List Ent) : PyData := .tuple [.str pg, .list (l.map entD)]
noncomputable def codesOK (l : List Nat) : Bool := l.all fun c => decide (c < 0x110000)
theorem strOk_of {x : Str} (h : codesOK x.cps.toList = true) : PyData.strOk x = true := by
  unfold PyData.strOk
  rw [← Array.all_toList]; exact h
theorem codes_app (a b : List Nat) : codesOK (a ++ b) = (codesOK a && codesOK b) := by unfold codesOK; rw [List.all_append]
theorem codes_good {l : List Nat} (h : l.all (fun c => goodSigns.contains c) = true) : codesOK l = true := by
  unfold codesOK
  rw [List.all_eq_true] at h ⊢
  intro c hc
  have := h c hc
  have hm : c ∈ goodSigns := by simpa using this
  have : ∀ c ∈ goodSigns, decide (c < 0x110000) = true := by decide
  exact this c hm
theorem codes_sub {c : Nat} {z l : List Nat} (hz : codesOK z = true) (hl : codesOK l = true) : codesOK (sub1 c z l) = true := by
  unfold codesOK at *
  rw [List.all_eq_true] at *
  intro a ha
  rcases sub1_mem ha with h | h
  · exact hz a h
  · exact hl a h
theorem codes_esc {x : Str} (h : codesOK x.cps.toList = true) : codesOK (escD x).cps.toList = true := by
  unfold escD
  rw [T_list]
  exact codes_sub rfl (codes_sub rfl h)
theorem codes_nm (l : Nat) (u : Bool) : codesOK (nm l u).cps.toList = true := by
  unfold nm
  split <;> rfl
noncomputable def Fine (S : List Ent) : Prop := ∀ e ∈ S, codesOK e.2.1.cps.toList = true ∧ codesOK e.2.2.cps.toList = true
theorem codes_page : ∀ (S : List Ent) (a : Str), Fine S → codesOK a.cps.toList = true → codesOK (S.foldl pageStep a).cps.toList = true
  | [], a, _, h => h
  | e :: S, a, hS, h => by
    rw [List.foldl_cons]
    refine codes_page S _ (fun e he => hS e (List.mem_cons_of_mem _ he)) ?_
    obtain ⟨h1, h2⟩ := hS e List.mem_cons_self
    unfold pageStep
    simp only [PyProof.Rows.cps_toList_append, codes_app, h, h1, codes_esc h2, Bool.and_true, Bool.true_and]
    rfl
theorem canLay_ents : ∀ {l : List Ent}, Fine l → PyData.canLayAll0 (l.map entD) = true ∧ PyData.depthAll (l.map entD) ≤ 1
  | [], _ => ⟨rfl, Nat.zero_le _⟩
  | e :: l, h => by
    obtain ⟨h1, h2⟩ := h e List.mem_cons_self
    obtain ⟨a, b⟩ := canLay_ents (l := l) fun e he => h e (List.mem_cons_of_mem _ he)
    refine ⟨?_, ?_⟩
    · show (PyData.canLay0 (entD e) && PyData.canLayAll0 (l.map entD)) = true
      rw [a, Bool.and_true]
      show (PyData.strOk e.2.1 && (PyData.strOk e.2.2 && true)) = true
      rw [strOk_of h1, strOk_of h2]; rfl
    · show max (PyData.depth (entD e)) (PyData.depthAll (l.map entD)) ≤ 1
      exact Nat.max_le.mpr ⟨Nat.le_refl _, b⟩
theorem ans_shaped {pg : Str} {l : List Ent} (hp : codesOK pg.cps.toList = true) (hl : Fine l) : SeqAt.shaped (ansD pg l) = true := by
  obtain ⟨a, b⟩ := canLay_ents hl
  unfold SeqAt.shaped
  rw [Bool.and_eq_true]
  refine ⟨?_, ?_⟩
  · show (PyData.strOk pg && (PyData.canLayAll0 (l.map entD) && true)) = true
    rw [strOk_of hp, a]; rfl
  · refine decide_eq_true ?_
    show max 0 (max (PyData.depthAll (l.map entD) + 1) 0) + 1 ≤ 64
    omega
theorem reads_pr {ρ : Nat → Addr} {n : Nat} {h : Heap} {e : Ent} {u : Value} (H : RV ρ n h (pr e) u) : Reads h u (entD e) [] := by
  cases H with
  | tup _ a vs hi K =>
    cases K with
    | cons h1 K =>
      cases K with
      | cons h2 K =>
        cases K
        cases h1; cases h2
        obtain ⟨o, ho, hc, m, hd⟩ := hi
        exact reads_tuple_at ho hc hd (.cons (.str _ _) (.cons (.str _ _) .nil))
theorem reads_prs {ρ : Nat → Addr} {n : Nat} {h : Heap} : ∀ {l : List Ent} {us : List Value}, RVs ρ n h (l.map pr) us → ReadsAll h us (l.map entD) []
  | [], _, H => by cases H; exact .nil
  | e :: l, _, H => by
    cases H with
    | cons a H => exact readsAll_cons_val (reads_pr a) (reads_prs H)
theorem reads_ans {B : Addr → Option Obj} {pins : List (Nat × Addr)} {ρ : Nat → Addr} {st : Hp} {h : Heap} (R : Rel B pins ρ st h) {pg : Str} {l : List Ent} {kk : Nat} {u : Value} (H : RV ρ st.length h (.tup [.str pg, .lst kk]) u) (hk : st[kk]? = some (l.map pr)) : ∃ as, Reads h u (ansD pg l) as := by
  obtain ⟨vs', ⟨m', hl⟩, Hr⟩ := R.cell kk _ hk
  cases H with
  | tup _ a vs hi K =>
    cases K with
    | cons h1 K =>
      cases K with
      | cons h2 K =>
        cases K
        cases h1; cases h2
        obtain ⟨o, ho, hc, m, hd⟩ := hi
        exact ⟨_, reads_tuple_at ho hc hd (.cons (.str _ _) (.cons (reads_list_at hl rfl rfl (reads_prs Hr)) .nil))⟩
end Uq
end

section
open PySem PySem.Calls PyProof.Rows PySem.W
namespace Uq

theorem step_good1 {z : ST} (h1 : AllGood z.1) (h : AllGood z.2) (k : Nat) (d : D) (ok : d.ok) : AllGood (stepR k d z).1 := by
  unfold stepR
  split
  · intro e he
    rcases List.mem_append.mp he with he | he
    · exact h1 e he
    · simp at he; subst he; exact draft_good h d ok
  · exact h1
theorem all_good1 : ∀ (r : List D) (k : Nat) (z : ST), AllGood z.1 → AllGood z.2 → (∀ d ∈ r, d.ok) → AllGood (foldR k r z).1
  | [], k, z, h1, h, _ => h1
  | d :: r, k, z, h1, h, ho => all_good1 r (k + 1) _ (step_good1 h1 h k d (ho d List.mem_cons_self)) (step_good h k d (ho d List.mem_cons_self)) fun e he => ho e (List.mem_cons_of_mem _ he)
theorem fine_of {S : List En} (h : AllGood S) : Fine (S.map toE) := fun e he => by
  obtain ⟨x, hx, rfl⟩ := List.mem_map.mp he
  exact ⟨codes_nm _ _, codes_good (h x hx)⟩

section
variable {prog : Program} {w : World} {B : Addr → Option Obj} {n n' : Nat} {mg mb : Str → Option Value} {A : Around} {ρ ρ' ρ0 : Nat → Addr} {st st' : Hp} {s s' s0 : Shared} {env : Env} {loc : Loc}
/-- a call of a function with one parameter and no cells: the mark of its parameter makes the frame live -/
theorem user_code1 {a : Addr} {p q0 : Str} {scope : Scope} {body : List Stmt} (U : UserOK B a [p] [q0] [] scope body) (hcell : ∀ x ∈ scope.names, x.2 ≠ .cell) {pins : List (Nat × Addr)} {v : V} {u : Value} {Rs : Result → Shared → Prop}
    (RA : Room (n + 1) A) (R : Rel B pins ρ st s.heap) (V : RV ρ st.length s.heap v u)
    (hb : ∀ A s1 env, Room n A → EnvOK B env → env.scope = scope → Rel B pins ρ st s1.heap → Frm ρ st.length s1 env [(p, v)] → Ext ρ st.length noF s ρ st.length s1 → (∀ b, frs env b → s.heap.get? b = none) →
      wpAny (model prog w) A (execs body env) (fun fl s' => Rs (.ok (.ret (match fl with | .ret v => v | _ => .none))) s') (fun _ _ => False) s1) :
    codeAny (model prog w) A (.call (.ref a) ⟨[u], []⟩) Rs s := by
  have hlen := U.len
  have hkinds := U.kinds
  have hnod := U.nod
  have hco := U.co
  have hgen := U.gen
  have hfn := U.fn
  have hlim := U.lim
  refine U.el fun o name qual params dV kV doc pm an cdv ct hB hdata hcd hbind => ?_
  have hp : scope.names.lookup p = some .local := by
    rcases hkinds p List.mem_cons_self with h | h
    · exact h
    · exact absurd rfl (hcell _ (mem_of_lookup h))
  refine codeAny_call_function (body := body) RA.depth (R.base _ _ hB) hdata hco hgen rfl (hcd _ R.base) (hbind [u] [] rfl rfl s R.base _ _ _ _ ?_)
  refine wpAny_newFunctionEnv hcell (fun x hx => ?_) (fun h' hns hsb => ?_) hfn
  · rcases List.mem_singleton.mp hx with rfl
    exact hp
  have keep : ∀ b o, s.heap.get? b = some o → h'.get? b = some o := fun b o e => by
    rw [hsb.2 b (Nat.ne_of_lt (Heap.lt_size e))]
    exact Heap.get?_push_of_some _ e
  have new : ∀ b, b = s.heap.objs.size → s.heap.get? b = none := fun b hb => by
    cases z : s.heap.get? b with
    | none => rfl
    | some o => exact absurd (Heap.lt_size z) (by subst hb; exact Nat.lt_irrefl _)
  refine ⟨(hlim _ R.base).keeps keep, codeAny_func ?_⟩
  generalize he : newEnv scope s.heap.objs.size _ _ _ _ _ none _ = env'
  have hL : env'.locals = s.heap.objs.size := by subst he; rfl
  have hsc : env'.scope = scope := by subst he; rfl
  have hcl : env'.cells = [] := by subst he; rfl
  have fr0 : ∀ b, frs env' b → b = s.heap.objs.size := fun b hb => by
    rcases hb with rfl | ⟨y, hy⟩
    · exact hL
    · rw [hcl] at hy; cases hy
  have EO : EnvOK B env' := by
    refine ⟨by rw [hsc]; exact hfn, by subst he; rfl, by subst he; rfl, fun y z c h1 h2 => (by rw [hcl] at h1; cases h1), fun y hy => ?_, fun b hb => ?_⟩
    · have hy' : scope.names.lookup y = some .cell := by rw [← hsc]; exact hy
      exact absurd rfl (hcell _ (mem_of_lookup hy'))
    · cases z : B b with
      | none => rfl
      | some o => have := R.base _ _ z; rw [new b (fr0 b hb)] at this; cases this
  have R1 : Rel B pins ρ st h' := R.keeps keep
  have X1 : Ext ρ st.length noF s ρ st.length { s with heap := h', toks := s.toks + [(p, u)].length } := Ext.same (fun b o e _ => keep b o e) rfl rfl (Nat.le_add_right _ _)
  have V1 : RV ρ st.length h' v u := X1.up R V
  have F1 : Frm ρ st.length { s with heap := h', toks := s.toks + [(p, u)].length } env' [(p, v)] := by
    refine ⟨⟨_, by rw [hL]; exact hns, fun y z e k => ?_⟩, fun y z e => ?_, fun y c e => (by rw [hcl] at e; cases e), Nat.succ_pos _⟩
    · rw [getL_cons] at e
      split at e
      · rename_i hy
        subst hy
        cases e
        exact ⟨u, by simp, V1⟩
      · cases e
    · rw [getL_cons] at e
      split at e
      · rename_i hy
        subst hy
        refine .inl ?_
        show env'.scope.names.lookup _ = _
        rw [hsc]
        exact hp
      · cases e
  exact wpAny_mono (hb (A.deeper env') _ env' (RA.deeper env') EO hsc R1 F1 X1 fun b hb => new b (fr0 b hb)) (fun _ _ h => h) fun _ _ h => h.elim

theorem nocell_law (P : Params) : ∀ x ∈ (scopeAt (hd.heap_1 P) 383).names, x.2 ≠ .cell := by
  have e : (scopeAt (hd.heap_1 P) 383).names.all (fun x => x.2 != .cell) = true := by rfl
  exact fun x hx c => by
    have := List.all_eq_true.mp e x hx
    rw [c] at this
    exact absurd this (by decide)
noncomputable abbrev lw1 (a : Nat) : Loc := [("script", .imm (.ref a))]
theorem law_walk (Z : Base B w.params mg mb) {a : Addr} {xs : List Int} (hx : IntsAt B a xs) (hl : xs.length ≤ 63) (RA : Room 7 A) (R : Rel B [] ρ st s.heap) {Rs : Result → Shared → Prop}
    (q : ∀ ρ' st' s', Rel B [] ρ' st' s'.heap → Ext ρ st.length noF s ρ' st'.length s' → Rs (.ok (.ret (.bool true))) s') : codeAny (model prog w) A (.call (.ref 383) ⟨[.ref a], []⟩) Rs s := by
  have hrl := rowOf_len xs
  have hdl : (deedsOf xs).length ≤ 10 := by unfold deedsOf; rw [List.length_map]; exact hrl.1
  have hdn : deedsOf xs ≠ [] := fun e => by
    have := congrArg List.length e
    unfold deedsOf at this
    rw [List.length_map] at this
    have h0 : ([] : List D).length = 0 := rfl
    omega
  have hdo : ∀ d ∈ deedsOf xs, d.ok := fun d hd => by
    obtain ⟨x, _, rfl⟩ := List.mem_map.mp hd
    exact toD_ok x
  refine user_code1 (n := 6) (v := .imm (.ref a)) (user_lawf Z.K Z.lim) (nocell_law _) RA R (.imm _) fun A1 s1 env RA1 EO hsc R1 F1 X1 new => q_gen fun Qf kQ => ?_
  have C0 := cxOK_mk (prog := prog) (w := w) (sc := scopeAt (hd.heap_1 w.params) 383) Z (p0_ok (n := 6) (pins := []) Z) (by decide)
  -- deeds
  refine wpAny_execs_cons (wpAny_Assign_Name ?_ (swaps_plain rfl))
  rw [eval_Call_plain (fun o m p e => by cases e)]
  refine wpAny_bind (name_ok C0 EO hsc R1 F1 (v := .imm (.ref 352)) rfl rfl _ _ fun ρ3 s3 u3 R3 X3 V3 => ?_)
  first | obtain rfl := V3.imm_inv | obtain rfl := V3.next_inv | obtain rfl := V3.none_inv | obtain rfl := V3.bool_inv | cases V3
  have F3 := F1.keeps R1 rfl X3
  refine callWith_k (ev := (lv 11).ev) (kn := []) (vs := [.imm (.ref a)]) (st1 := st) (lv_ok (n := 6) sliceSet_ok 11).1 C0 RA1 EO hsc (keep_K Z.K (by rfl)) rfl rfl R3 F3 fun ρ4 s4 us ks R4 X4 V4 hkl => ?_
  have : ks = [] := List.eq_nil_of_length_eq_zero hkl
  subst this
  rw [List.append_nil] at V4
  have hus : us = [.ref a] := by
    cases V4 with
    | cons h1 h2 => cases h1; cases h2; rfl
  subst hus
  have F4 := F3.keeps R3 rfl X4
  refine deeds_walk Z hx hl F4.tk (RA1.mono (by decide)) R4 fun ρ5 st5 s5 kd R5 X5 hkd hd5 => ?_
  have F5 := F4.keeps R4 rfl X5
  refine store_ok EO R5 F5 (x := "deeds") (v := .lst kd) (.lst kd hkd) (isLoc_kind (cx := mkCx (scopeAt (hd.heap_1 w.params) 383) p0) hsc rfl) _ _ fun ρ6 s6 R6 X6 F6 => ?_
  have XB := ((((X1.wider fun _ h => h.elim).trans (X3.wider fun _ h => h.elim)).trans (X4.wider fun _ h => h.elim)).trans (X5.wider fun _ h => h.elim)).trans X6
  -- the answers
  refine wpAny_execs_cons (wpAny_Return_some (wpAny_Compare1 ?_ rfl))
  rw [eval_Call_plain (fun o m p e => by cases e)]
  refine wpAny_bind (name_ok C0 EO hsc R6 F6 (v := .imm (.ref 359)) rfl rfl _ _ fun ρ7 s7 u7 R7 X7 V7 => ?_)
  first | obtain rfl := V7.imm_inv | obtain rfl := V7.next_inv | obtain rfl := V7.none_inv | obtain rfl := V7.bool_inv | cases V7
  have F7 := F6.keeps R6 rfl X7
  refine callWith_k (ev := (lv 11).ev) (kn := []) (vs := [.lst kd]) (st1 := st5) (lv_ok (n := 6) sliceSet_ok 11).1 C0 RA1 EO hsc (keep_K Z.K (by rfl)) rfl rfl R7 F7 fun ρ8 s8 us ks R8 X8 V8 hkl => ?_
  have : ks = [] := List.eq_nil_of_length_eq_zero hkl
  subst this
  rw [List.append_nil] at V8
  have hus : us = [.ref (ρ8 kd)] := by
    cases V8 with
    | cons h1 h2 => cases h1; cases h2; rfl
  subst hus
  have F8 := F7.keeps R7 rfl X8
  refine run_walk Z hd5 hdl hdo F8.tk RA1 R8 fun ρ9 st9 s9 u9 kk R9 X9 V9 hk9 hd9 => ?_
  have F9 := F8.keeps R8 rfl X9
  have XC := ((XB.trans (X7.wider fun _ h => h.elim)).trans (X8.wider fun _ h => h.elim)).trans (X9.wider fun _ h => h.elim)
  rw [eval_Call_plain (fun o m p e => by cases e)]
  refine wpAny_bind (name_ok C0 EO hsc R9 F9 (v := .imm (.ref 376)) rfl rfl _ _ fun ρ10 s10 u10 R10 X10 V10 => ?_)
  first | obtain rfl := V10.imm_inv | obtain rfl := V10.next_inv | obtain rfl := V10.none_inv | obtain rfl := V10.bool_inv | cases V10
  have F10 := F9.keeps R9 rfl X10
  refine callWith_k (ev := (lv 11).ev) (kn := []) (vs := [.lst kd]) (st1 := st9) (lv_ok (n := 6) sliceSet_ok 11).1 C0 RA1 EO hsc (keep_K Z.K (by rfl)) rfl rfl R10 F10 fun ρ11 s11 us ks R11 X11 V11 hkl => ?_
  have : ks = [] := List.eq_nil_of_length_eq_zero hkl
  subst this
  rw [List.append_nil] at V11
  have F11 := F10.keeps R10 rfl X11
  obtain ⟨g, kt, et, hkt⟩ := told_run w.params st9 kd (deedsOf xs) hd9 hdl hdn hdo
  have hfn := (usr_ok (prog := prog) (w := w) (pins := []) Z (p1_ok (n := 2) Z (by decide)) (by decide) (user_told Z.K Z.lim) (by rfl)).2
  refine hfn _ _ _ _ et A1 ρ11 s11 us (RA1.mono (by decide)) F11.tk R11 V11 _ _ fun ρ12 s12 u12 R12 X12 V12 => ?_
  have V9' : RV ρ12 (st9 ++ g).length s12.heap _ u9 := X12.up R11 (X11.up R10 (X10.up R9 V9))
  obtain ⟨as1, ra⟩ := reads_ans R12 V9' (get_old hk9 g)
  obtain ⟨as2, rb⟩ := reads_ans R12 V12 hkt
  have g1 : AllGood (foldR 0 (deedsOf xs) ([], [])).1 := all_good1 _ _ _ (fun e he => (by cases he)) (fun e he => (by cases he)) hdo
  have g2 : AllGood (foldR 0 (deedsOf xs) ([], [])).2 := all_good _ _ _ (fun e he => (by cases he)) hdo
  have hsh := ans_shaped (pg := pageOf ((foldR 0 (deedsOf xs) ([], [])).1.map toE)) (l := (foldR 0 (deedsOf xs) ([], [])).2.map toE) (codes_page _ "" (fine_of g1) rfl) (fine_of g2)
  refine eq_dataH ra rb hsh hsh (by have := RA1.un; show A1.units + 64 < 9900; omega) ?_
  rw [SeqAt.eqv_refl _ (SeqAt.canLay_of_shaped hsh)]
  exact kQ _ _ (q ρ12 _ s12 R12 (Ext.drop (((XC.trans (X10.wider fun _ h => h.elim)).trans (X11.wider fun _ h => h.elim)).trans (X12.wider fun _ h => h.elim)) new))
end
end Uq
end

open PySem PySem.Calls PyProof.Rows PySem.W
namespace Uq

theorem rvs_ints {vs : List Value} {ns : List Int} (h : IntsAre vs ns) (ρ : Nat → Addr) (n : Nat) (hp : Heap) : RVs ρ n hp (ns.map V.int) vs := by
  induction h with
  | nil => exact .nil
  | cons k t _ ih => exact .cons (.int k t) ih

theorem ints_at {h : Heap} {a : Addr} {vs : List Value} {ns : List Int} (hL : h.IsList a vs.toArray) (hI : IntsAre vs ns) : IntsAt (fun b => h.get? b) a ns := by
  obtain ⟨o, ho, hc, m, hd⟩ := hL
  exact ⟨o, vs, m, ho, hc, hd, fun ρ n h' => rvs_ints hI ρ n h'⟩
end Uq
theorem PySem.Challenge.cw_uq0034_01_holds : PySem.Challenge.rw_uq0034_01.Holds := by
  refine holds_law Uq.said1 fun said => PySem.W.holds_open (q := Uq.hdView) (loose := Uq.hdLoose) (Xt := Uq.hdXt) (XP := XL Uq.hdView []) (Yf := Hook.obs Uq.kH) (Ya := Hook.val Uq.kH) (YP := Hook.says Uq.kH) (N := 4662) Uq.left0 (Hook.of Uq.kH) (Hook.keeps Uq.kH) (fun s e => xl_of s (Bool.and_eq_true_iff.mp e).1) XL.keeps (by rfl) (by rfl) (by rfl) (fun s e => recFacts_of (Bool.and_eq_true_iff.mp e).2) (by rfl) said (by decide +kernel) ⟨rfl, rfl, rfl, rfl, rfl, by decide +kernel⟩ ?hw ?hc
  case hw => w_witness2
  intro w s₀ s₁ mg mb G Y fa o pm cd doc dV kV ho hd' hcd hD hmg hg args vals as hpre hlay hrd hwl hlo
  have X' := kIn_of Y
  refine Ground.open G ?_
  intro T B D TE TW
  wrow_args hpre hlay hrd hwl hlo
  rename_i xs _ _ _ _ _ _ _ a vs _ hL _ _ _ hI _ hc _
  have Z : Uq.Base (fun b => s₁.heap.get? b) w.params mg mb := ⟨fun a o e => X' a o e, fun h hb => ⟨T.g.keeps hb, T.b.keeps hb⟩, T.builtins, fun h hb => T.nolimit.keeps hb, ⟨s₁.heap, fun _ _ e => e⟩⟩
  have hf : fa = 383 := by
    have e : mg "law" = some (.ref 383) := Uq.ns_nsIn X' T.g (r := some (.ref 383)) (by rfl)
    have e' : mg "law" = some (.ref fa) := hmg
    rw [e] at e'
    cases e'
    rfl
  subst hf
  have R : Uq.Rel (fun b => s₁.heap.get? b) [] (fun _ => 0) [] s₁.heap := ⟨fun _ _ e => e, fun k xs e => (by cases e), fun k hk => absurd hk (Nat.not_lt_zero _), fun i j hi => absurd hi (Nat.not_lt_zero _), fun p hp => (by cases hp)⟩
  refine wpAny_call (Uq.law_walk Z (Uq.ints_at hL hI) (by omega) ⟨rfl, by decide, by decide⟩ R fun ρ' st' s' R' X => ?_)
  refine ⟨.inl ⟨.bool true, _, [], rfl, fun _ => rfl, ReadsW.bool true, ?_, fun _ => ⟨List.nodup_nil, fun _ hm => (nomatch hm)⟩⟩, .of_keep fun b o e => (X.keep b o e (fun k hk => absurd hk (Nat.not_lt_zero _)) (fun h => h)).1, X.os, X.bare (.of_eq hg)⟩
  first | rfl | wrow_post
