import PyProof.Rows.All
import Wide.All
import OpenK.AllK
import Wide.FinOn
import PySem.Challenge.RW_op0183_01
set_option Elab.async false
set_option linter.unusedVariables false

section
open PySem PySem.W PyProof.Rows
set_option Elab.async false
set_option maxRecDepth 100000
set_option maxHeartbeats 8000000
namespace Mine
open_top hd for PySem.Challenge.rw_op0183_01
end Mine
end

section
open PySem PySem.W PyProof.Rows PySem.Spec PySem.Calls
set_option Elab.async false
set_option maxRecDepth 100000
set_option linter.unusedVariables false
namespace Mine
/-! small facts of numbers, so that a walk need not call a decision procedure: its proofs are long -/
theorem le_of_eqn {a b c : Nat} (h : a = b) (h' : b ≤ c) : a ≤ c := h ▸ h'
theorem lt_of_eqn {a b c : Nat} (h : a = b) (h' : b < c) : a < c := h ▸ h'
theorem int_eqn5 {a : Nat} (h : a = 5) : (a : Int) = 5 := by rw [h]; rfl
theorem units20 {a : Nat} (h : a + 100 < cLine) : a + 20 < cLine := Nat.lt_trans (Nat.add_lt_add_left (by decide) a) h
theorem turn_lt {n i : Nat} (h : i < n) : n + 1 - (i + 1) < n + 1 - i := Nat.sub_lt_sub_left (Nat.lt_succ_of_lt h) (Nat.lt_succ_self i)
theorem turn_lt' {n i : Nat} (h : i < n) : n - (i + 1) < n - i := Nat.sub_lt_sub_left h (Nat.lt_succ_self i)
theorem succ_eqn {a b : Nat} (h : a = b) : a + 1 = b + 1 := by rw [h]
theorem toNat_pred {n : Nat} (h : 0 < n) : ((-1 : Int) + (n : Int)).toNat = n - 1 := by
  cases n with
  | zero => exact absurd h (Nat.lt_irrefl 0)
  | succ m => exact congrArg Int.toNat (show (-1 : Int) + ((m + 1 : Nat) : Int) = (m : Int) by rw [Int.natCast_succ, Int.add_comm, Int.add_assoc]; exact Int.add_zero _)
theorem nat_of {k : Int} {c : Nat} (h0 : 0 ≤ k) (h : k < c) : ∃ n : Nat, k = n ∧ n < c := ⟨k.toNat, (Int.toNat_of_nonneg h0).symm, (Int.toNat_lt h0).mpr h⟩
theorem five_of {k : Int} (h : 0 ≤ k ∧ k < 5) : k = 0 ∨ k = 1 ∨ k = 2 ∨ k = 3 ∨ k = 4 := by
  obtain ⟨n, rfl, hn⟩ := nat_of (c := 5) h.1 h.2
  match n, hn with
  | 0, _ => exact .inl rfl
  | 1, _ => exact .inr (.inl rfl)
  | 2, _ => exact .inr (.inr (.inl rfl))
  | 3, _ => exact .inr (.inr (.inr (.inl rfl)))
  | 4, _ => exact .inr (.inr (.inr (.inr rfl)))
theorem four_of {k : Int} (h0 : 0 ≤ k) (h : k ≤ 3) : k = 0 ∨ k = 1 ∨ k = 2 ∨ k = 3 :=
  (five_of ⟨h0, Int.lt_of_le_of_lt h (by decide)⟩).imp id (Or.imp id (Or.imp id fun q => q.elim id fun e => by rw [e] at h; exact absurd h (by decide)))
theorem three_of {k : Int} (h0 : 0 ≤ k) (h : k < 3) : k = 0 ∨ k = 1 ∨ k = 2 :=
  (four_of h0 (Int.le_of_lt h)).imp id (Or.imp id fun q => q.elim id fun e => by rw [e] at h; exact absurd h (by decide))
theorem two_of {k : Int} (h0 : 0 ≤ k) (h : k < 2) : k = 0 ∨ k = 1 :=
  (three_of h0 (Int.lt_trans h (by decide))).imp id fun q => q.elim id fun e => by rw [e] at h; exact absurd h (by decide)
theorem toNat_m1 {n : Nat} : ((-1 : Int) + ((n : Int) + 1)).toNat = n := by rw [Int.add_comm, Int.add_neg_cancel_right]; rfl
theorem of_five {k : Int} (h : k = 0 ∨ k = 1 ∨ k = 2 ∨ k = 3 ∨ k = 4) : 0 ≤ k ∧ k < 5 := by rcases h with rfl | rfl | rfl | rfl | rfl <;> decide
theorem toNat_lt5 {k : Int} {n : Nat} (hn : n = 5) (h0 : 0 ≤ k) (h : k < 5) : k.toNat < n := by rw [hn]; exact (Int.toNat_lt h0).mpr h
theorem eq_of_nlt {i n : Nat} (h : ¬ i < n) (h' : i ≤ n) : i = n := Nat.le_antisymm h' (Nat.not_lt.mp h)
theorem lt_of_ne' {i n : Nat} (h : ¬ i = n) (h' : i < n + 1) : i < n := Nat.lt_of_le_of_ne (Nat.le_of_lt_succ h') h
theorem two_le {a b c d : Nat} (h : a ≤ b + c) (h' : c + 1 ≤ d) : a + 1 ≤ b + d := Nat.le_trans (Nat.succ_le_succ h) (Nat.add_le_add_left h' b)
theorem len_map_le {α β : Type} {f : α → β} {xs : List α} {c : Nat} (h : xs.length ≤ c) : (xs.map f).length ≤ c := by rw [List.length_map]; exact h
theorem len_snoc {α : Type} {xs : List α} {x : α} {c : Nat} (h : xs.length ≤ c) : (xs ++ [x]).length ≤ c + 1 := by rw [List.length_append]; exact Nat.succ_le_succ h
theorem len_map_snoc {α β : Type} {f : α → β} {xs : List α} {x : β} {c : Nat} (h : xs.length ≤ c) : (xs.map f ++ [x]).length ≤ c + 1 := len_snoc (len_map_le h)
theorem len_drop_le {α : Type} {xs : List α} {k c : Nat} (h : xs.length ≤ c) : (xs.drop k).length ≤ c := by rw [List.length_drop]; exact Nat.le_trans (Nat.sub_le _ _) h
theorem lt_map {α β : Type} {f : α → β} {xs : List α} {k : Nat} (h : k < xs.length) : k < (xs.map f).length := by rw [List.length_map]; exact h
theorem add_map_le {α β : Type} {f : α → β} {xs : List α} {a c d : Nat} (h : xs.length ≤ d) (h' : d + a ≤ c) : (xs.map f).length + a ≤ c := Nat.le_trans (Nat.add_le_add_right (len_map_le h) a) h'
theorem all3 {P : Nat → Prop} {a b c : Nat} (h1 : P a) (h2 : P b) (h3 : P c) : ∀ x ∈ [a, b, c], P x := by
  intro x hx
  simp only [List.mem_cons, List.not_mem_nil, or_false] at hx
  rcases hx with rfl | rfl | rfl <;> assumption
theorem nm0 {a : Nat} : a ∉ ([] : List Nat) := List.not_mem_nil
theorem nsub {M : List Nat} : ∀ x ∈ ([] : List Nat), x ∈ M := fun _ h => nomatch h
theorem nm1 {a b : Nat} (h : a ≠ b) : a ∉ [b] := fun q => h (List.mem_singleton.mp q)
theorem tt0 : true = true := rfl
theorem ff0 : false = false := rfl
end Mine
end

section
open PySem PySem.W PyProof.Rows PySem.Spec PySem.Calls
set_option Elab.async false
set_option maxRecDepth 100000
namespace Mine

/-! packs: what belongs together in one constructor, so that taking it apart does not repeat the rest -/
inductive C3 (a b c : Prop) : Prop | mk (p1 : a) (p2 : b) (p3 : c)
inductive C4 (a b c d : Prop) : Prop | mk (p1 : a) (p2 : b) (p3 : c) (p4 : d)
inductive C5 (a b c d e : Prop) : Prop | mk (p1 : a) (p2 : b) (p3 : c) (p4 : d) (p5 : e)
inductive C6 (a b c d e f : Prop) : Prop | mk (p1 : a) (p2 : b) (p3 : c) (p4 : d) (p5 : e) (p6 : f)
inductive C7 (a b c d e f g : Prop) : Prop | mk (p1 : a) (p2 : b) (p3 : c) (p4 : d) (p5 : e) (p6 : f) (p7 : g)
inductive C8 (a b c d e f g h : Prop) : Prop | mk (p1 : a) (p2 : b) (p3 : c) (p4 : d) (p5 : e) (p6 : f) (p7 : g) (p8 : h)
inductive C9 (a b c d e f g h i : Prop) : Prop | mk (p1 : a) (p2 : b) (p3 : c) (p4 : d) (p5 : e) (p6 : f) (p7 : g) (p8 : h) (p9 : i)
inductive C10 (a b c d e f g h i j : Prop) : Prop | mk (p1 : a) (p2 : b) (p3 : c) (p4 : d) (p5 : e) (p6 : f) (p7 : g) (p8 : h) (p9 : i) (p10 : j)
inductive C11 (a b c d e f g h i j k : Prop) : Prop | mk (p1 : a) (p2 : b) (p3 : c) (p4 : d) (p5 : e) (p6 : f) (p7 : g) (p8 : h) (p9 : i) (p10 : j) (p11 : k)
inductive C12 (a b c d e f g h i j k l : Prop) : Prop | mk (p1 : a) (p2 : b) (p3 : c) (p4 : d) (p5 : e) (p6 : f) (p7 : g) (p8 : h) (p9 : i) (p10 : j) (p11 : k) (p12 : l)
inductive E2 {α β : Type} (p : α → β → Prop) : Prop | mk (a : α) (b : β) (h : p a b)
inductive E3 {α β γ : Type} (p : α → β → γ → Prop) : Prop | mk (a : α) (b : β) (c : γ) (h : p a b c)
inductive E4 {α β γ δ : Type} (p : α → β → γ → δ → Prop) : Prop | mk (a : α) (b : β) (c : γ) (d : δ) (h : p a b c d)

/-- The program of the row. -/
noncomputable abbrev prog : Program := Challenge.rw_op0183_01.row.prog

/-- Values with tokens forgotten. -/
inductive AV where
  | none
  | bool (b : Bool)
  | int (i : Int)
  | str (s : Str)
  | ref (a : Addr)
  | other (v : Value)

noncomputable def er : Value → AV
  | .none => .none
  | .bool b => .bool b
  | .int i _ => .int i
  | .str s _ => .str s
  | .ref a => .ref a
  | v => .other v

theorem er_none {v : Value} (h : er v = .none) : v = .none := by cases v <;> simp [er] at h; rfl
theorem er_bool {v : Value} {b : Bool} (h : er v = .bool b) : v = .bool b := by cases v <;> simp [er] at h; rw [h]
theorem er_int {v : Value} {i : Int} (h : er v = .int i) : ∃ t, v = .int i t := by cases v <;> simp [er] at h; rw [h]; exact ⟨_, rfl⟩
theorem er_str {v : Value} {i : Str} (h : er v = .str i) : ∃ t, v = .str i t := by cases v <;> simp [er] at h; rw [h]; exact ⟨_, rfl⟩
theorem er_ref {v : Value} {a : Addr} (h : er v = .ref a) : v = .ref a := by cases v <;> simp [er] at h; rw [h]
theorem er_other {v u : Value} (h : er v = .other u) : v = u := by cases v <;> simp [er] at h; all_goals exact h

/-- Owned objects. -/
inductive AO where
  | list (xs : List AV)
  | tup (xs : List AV)
  | range (lo hi : Int)
  | slice (lo hi : AV)
  | dict (es : List (Int × AV)) (ep : Nat)
  | liter (l : Addr) (i : Nat)
  | nextm (it : Addr)
  | iset (xs : List Int)
  | exc (cls : Value) (tb cx : AV)
  | tb
  | junk
  | inst (C dx : Addr) (fs : List (Option AV))
  | idict (fs : List (Str × AV))
  | vdict (es : List (Int × AV)) (ep : Nat)
  | dview (d : Addr)
  | meth (f x : Addr)
  | opq (T : String)

noncomputable def ORel : AO → Obj → Prop
  | .list xs, co => ∃ items k, co = ⟨.type "list", none, .seq items k, #[]⟩ ∧ items.toList.map er = xs
  | .tup xs, co => ∃ items k, co = ⟨.type "tuple", none, .seq items k, #[]⟩ ∧ items.toList.map er = xs
  | .range lo hi, co => ∃ t u v, co = ⟨.type "range", none, .fields #[.int lo t, .int hi u, .int 1 v], #[]⟩
  | .slice lo hi, co => ∃ a b, co = ⟨.type "slice", none, .fields #[a, b, .none], #[]⟩ ∧ er a = lo ∧ er b = hi
  | .dict es ep, co => ∃ ents : Array DictEntry, co = ⟨.type "dict", none, .dict ents ep, #[]⟩ ∧ (∀ e ∈ ents, ∃ k t, e.key = .int k t ∧ e.hash = hashInt k) ∧
      ents.toList.map (fun e => (er e.key, er e.val)) = es.map (fun p => (AV.int p.1, p.2)) ∧ (es.map (·.1)).Nodup
  | .liter l i, co => co = ⟨.type "list_iterator", none, .fields #[.ref l, .int i 0], #[]⟩
  | .nextm it, co => ∃ r, co = ⟨.type "method-wrapper", none, .fields (#[.builtin "list_iterator.__next__", .ref it] ++ r), #[]⟩
  | .iset S, co => co.ExactSet ∧ ∃ es ep t, co.data = .set es ep t ∧ (∀ e ∈ es.toList, (∃ k, Value.isInt k e.2 = true ∧ e.1 = hashInt k) ∧ e.2.scannable = true) ∧ (∀ k, S.contains k = true ↔ ∃ e ∈ es.toList, Value.isInt k e.2 = true) ∧
      es.size < scanBound ∧ t.fits es.size = true ∧ es.size = S.length
  | .exc cls tb cx, co => co.cls = cls ∧ ∃ vs : Array Value, co.data = .fields vs ∧ vs[1]?.map er = some tb ∧ vs[2]?.map er = some cx
  | .tb, co => ∃ ts : Array Value, co.data = .fields ts ∧ 3 < ts.size
  | .junk, _ => True
  | .inst C dx fs, co => ∃ sl : Array (Option Value), co = ⟨.ref C, some dx, .plain, sl⟩ ∧ sl.toList.map (Option.map er) = fs
  | .idict fs, co => ∃ (ents : List DictEntry) (k : Nat), co = dictOf ents k ∧ ents.map (fun e => (er e.key, er e.val)) = fs.map (fun p => (AV.str p.1, p.2))
  | .vdict es ep, co => ∃ ents : Array DictEntry, co = ⟨.type "dict", none, .dict ents ep, #[]⟩ ∧ (∀ e ∈ ents, ∃ k t, e.key = .int k t ∧ e.hash = hashInt k) ∧
      ents.toList.map (fun e => (er e.key, er e.val)) = es.map (fun p => (AV.int p.1, p.2)) ∧ (es.map (·.1)).Nodup
  | .dview d, co => co = ⟨.type "dict_values", none, .fields #[.ref d], #[]⟩
  | .meth f x, co => co = methodObj (.ref f) (.ref x)
  | .opq T, co => co.cls = .type T ∧ co.dict = none

noncomputable def isExcA : AO → Bool
  | .exc .. => true
  | _ => false
theorem exc_of {a b : AO} (h : ∃ c t x, a = .exc c t x) (e : (!isExcA a || isExcA b) = true) : ∃ c t x, b = .exc c t x := by
  obtain ⟨c, t, x, rfl⟩ := h
  cases b <;> first | exact ⟨_, _, _, rfl⟩ | cases e
theorem rfg : mainGlobals = mainGlobals := rfl
theorem rfb : builtinsNs = builtinsNs := rfl
theorem rfi : some NameKind.globalImplicit = some NameKind.globalImplicit := rfl
theorem rfk : ScopeKind.function = ScopeKind.function := rfl
abbrev AH := Addr → Option AO
structure St where
  H : AH
  loc : Str → Option AV

noncomputable def upd {α β : Type} [DecidableEq α] (f : α → Option β) (a : α) (b : β) : α → Option β := fun x => if x = a then some b else f x
@[simp] theorem upd_same {α β : Type} [DecidableEq α] (f : α → Option β) (a : α) (b : β) : upd f a b a = some b := by simp [upd]
theorem upd_ne {α β : Type} [DecidableEq α] {f : α → Option β} {a x : α} {b : β} (h : x ≠ a) : upd f a b x = f x := by simp [upd, h]

/-- What the whole run does not change. -/
structure G where
  w : World
  base : Heap
  os : OsState
  mg : Str → Option Value
  mb : Str → Option Value
  kin : (hd.heap_39 w.params).In base
  gNs : base.Ns mainGlobals mg
  bNs : base.Ns builtinsNs mb
  builtins : ∀ x : Str, x ≠ "__name__" → mb x = bootBuiltins x
  nolimit : base.NoLimit
theorem G.alive (g : G) : ∃ o, g.base.get? 216 = some o := ⟨_, g.kin 216 _ rfl⟩

abbrev Fz := Addr → Option Obj

noncomputable def Keep (Z : Fz) (h : Heap) : Prop := ∀ b o, Z b = some o → ∃ sl, h.get? b = some { o with slots := sl } ∧ ((∃ es ep, o.data = .dict es ep) ∨ sl = o.slots)

/-- a block's environment, with the names whose cells are its own -/
structure En where
  env : Env
  oc : List Str
  outer : List Env

/-- the frames below, frozen -/
noncomputable def FrZ (g : G) (Z : Fz) (l : List Env) : Prop := ∀ e ∈ l, e.scope.kind ≠ .module ∧ ∃ L o, e.frame = some L ∧ g.base.get? L = none ∧ Z L = some o ∧ ∃ es ep, o.data = .dict es ep

inductive CellR (g : G) (Z : Fz) (n : En) (σ : St) (h : Heap) (x : Str) : Prop
  | mk (c : Addr) (v₀ : Option Value) (lk : n.env.cells.lookup x = some c) (z : Z c = none) (hH : σ.H c = none) (b : g.base.get? c = none) (l : c ≠ n.env.locals) (at_ : h.IsCell c v₀)
    (val : ∀ v, σ.loc x = some v → ∃ cv, v₀ = some cv ∧ er cv = v)
inductive FreeR (Z : Fz) (n : En) (x : Str) (v : AV) : Prop
  | mk (c : Addr) (o : Obj) (cv : Value) (lk : n.env.cells.lookup x = some c) (z : Z c = some o) (d : o.data = .cell (some cv)) (e : er cv = v)
structure Vars (g : G) (Z : Fz) (n : En) (σ : St) (h : Heap) : Prop where
  ns : ∃ m, h.Ns n.env.locals m ∧ ∀ x v, σ.loc x = some v → n.env.kindOf x = some .local → ∃ cv, m x = some cv ∧ er cv = v
  own : Z n.env.locals = none ∧ σ.H n.env.locals = none ∧ g.base.get? n.env.locals = none
  cell : ∀ x ∈ n.oc, CellR g Z n σ h x
  inj : ∀ x ∈ n.oc, ∀ y ∈ n.oc, ∀ c, n.env.cells.lookup x = some c → n.env.cells.lookup y = some c → x = y
  free : ∀ x v, x ∉ n.oc → σ.loc x = some v → (n.env.kindOf x = some .cell ∨ n.env.kindOf x = some .free) → FreeR Z n x v

structure HRel (g : G) (Z : Fz) (H : AH) (s : Shared) : Prop where
  gens : s.gens = #[]
  os : s.os = g.os
  stay : g.base.StaysIn s.heap
  keep : Keep Z s.heap
  objs : ∀ a o, H a = some o → Z a = none ∧ (g.base.get? a = none ∧ (216 < a ∨ ∃ c t x, o = .exc c t x)) ∧ ∃ co, s.heap.get? a = some co ∧ ORel o co

structure Rel (g : G) (Z : Fz) (n : En) (σ : St) (s : Shared) : Prop where
  hr : HRel g Z σ.H s
  vars : Vars g Z n σ s.heap
  fr : FrZ g Z n.outer

/-- the state after a step -/
inductive Post {α : Type} (g : G) (Z : Fz) (n : En) (Q : α → St → Prop) (a : α) (s : Shared) : Prop
  | mk (σ : St) (r : Rel g Z n σ s) (q : Q a σ)
end Mine
end

section
open PySem PySem.W PyProof.Rows PySem.Spec PySem.Calls
set_option Elab.async false
set_option maxRecDepth 100000
namespace Mine
variable {g : G} {Z : Fz} {n : En} {σ : St} {s s' : Shared} {H : AH}

theorem Keep.ext {h h' : Heap} (k : Keep Z h) (e : ∀ b o, h.get? b = some o → (Z b).isSome = true → h'.get? b = some o) : Keep Z h' := fun b o hb => by
  obtain ⟨sl, h1, h2⟩ := k b o hb
  exact ⟨sl, e _ _ h1 (by rw [hb]; rfl), h2⟩

theorem HRel.keepBase (r : HRel g Z H s) {b : Addr} {o : Obj} (h : g.base.get? b = some o) : s.heap.get? b = some o := r.stay b o h

/-- the heap has only grown, or changed where neither Z, H nor the base looks -/
theorem HRel.chg (r : HRel g Z H s) (e : ∀ b o, s.heap.get? b = some o → ((Z b).isSome = true ∨ (H b).isSome = true ∨ (g.base.get? b).isSome = true) → s'.heap.get? b = some o)
    (hg : s'.gens = s.gens := by rfl) (ho : s'.os = s.os := by rfl) : HRel g Z H s' :=
  ⟨hg.trans r.gens, ho.trans r.os, fun b o hb => e b o (r.stay b o hb) (.inr (.inr (by rw [hb]; rfl))), r.keep.ext fun b o hb hz => e b o hb (.inl hz),
   fun a o ha => by obtain ⟨h1, h2, co, h3, h4⟩ := r.objs a o ha; exact ⟨h1, h2, co, e a co h3 (.inr (.inl (by rw [ha]; rfl))), h4⟩⟩

theorem HRel.ext (r : HRel g Z H s) (e : ∀ b o, s.heap.get? b = some o → s'.heap.get? b = some o) (hg : s'.gens = s.gens := by rfl) (ho : s'.os = s.os := by rfl) : HRel g Z H s' :=
  r.chg (fun b o h _ => e b o h) hg ho

theorem Vars.chg {h h' : Heap} (v : Vars g Z n σ h) (e : ∀ b o, h.get? b = some o → (b = n.env.locals ∨ ∃ x, x ∈ n.oc ∧ n.env.cells.lookup x = some b) → h'.get? b = some o)
    {H' : AH} (hH : ∀ b, (h.get? b).isSome = true → σ.H b = none → H' b = none) : Vars g Z n ⟨H', σ.loc⟩ h' := by
  obtain ⟨⟨m, hm, hl⟩, ⟨o1, o2, o3⟩, hc, hi, hf⟩ := v
  refine ⟨⟨m, ?_, hl⟩, ⟨o1, ?_, o3⟩, fun x hx => ?_, hi, hf⟩
  · obtain ⟨o, es, ep, ho, r⟩ := hm
    exact ⟨o, es, ep, e _ _ ho (.inl rfl), r⟩
  · obtain ⟨o, es, ep, ho, r⟩ := hm
    exact hH _ (by rw [ho]; rfl) o2
  · obtain ⟨c, v₀, h1, h2, h3, h4, h5, ⟨o, h6, h6'⟩, h7⟩ := hc x hx
    exact ⟨c, v₀, h1, h2, hH _ (by rw [h6]; rfl) h3, h4, h5, ⟨o, e _ _ h6 (.inr ⟨x, hx, h1⟩), h6'⟩, h7⟩

theorem Rel.ext (r : Rel g Z n σ s) (e : ∀ b o, s.heap.get? b = some o → s'.heap.get? b = some o) (hg : s'.gens = s.gens := by rfl) (ho : s'.os = s.os := by rfl) : Rel g Z n σ s' :=
  ⟨r.hr.ext e hg ho, (r.vars.chg (H' := σ.H) (fun b o h _ => e b o h) fun _ _ h => h), r.fr⟩

/-- only tokens have changed -/
theorem Rel.toks (r : Rel g Z n σ s) {t : Nat} : Rel g Z n σ { s with toks := t } := r.ext fun _ _ e => e
theorem Rel.push (r : Rel g Z n σ s) (o : Obj) : Rel g Z n σ { s with heap := s.heap.push o } := r.ext fun _ _ e => Heap.get?_push_of_some _ e

/-- a new owned object -/
theorem Rel.new (r : Rel g Z n σ s) {a : Addr} {ao : AO} {co : Obj} (hn : s.heap.get? a = none) (h216 : 216 < a) (e : ∀ b o, s.heap.get? b = some o → s'.heap.get? b = some o) (ha : s'.heap.get? a = some co) (hr : ORel ao co)
    (hg : s'.gens = s.gens := by rfl) (ho : s'.os = s.os := by rfl) : Rel g Z n ⟨upd σ.H a ao, σ.loc⟩ s' := by
  have hz : Z a = none := by
    cases q : Z a with
    | none => rfl
    | some o => obtain ⟨sl, h1, _⟩ := r.hr.keep a o q; rw [hn] at h1; cases h1
  have hb : g.base.get? a = none := by
    cases q : g.base.get? a with
    | none => rfl
    | some o => have h1 := r.hr.stay a o q; rw [hn] at h1; cases h1
  have r1 := r.hr.ext (s' := s') e hg ho
  refine ⟨⟨r1.gens, r1.os, r1.stay, r1.keep, fun b o hbo => ?_⟩, r.vars.chg (fun b o h _ => e b o h) fun b hb' h => ?_, r.fr⟩
  · change upd σ.H a ao b = some o at hbo
    unfold upd at hbo
    split at hbo
    · rename_i q; subst q; cases hbo; exact ⟨hz, ⟨hb, .inl h216⟩, co, ha, hr⟩
    · exact r1.objs b o hbo
  · rw [upd_ne]
    · exact h
    · intro q; subst q; rw [hn] at hb'; cases hb'
theorem get?_size (h : Heap) : h.get? h.objs.size = none := by
  cases q : h.get? h.objs.size with
  | none => rfl
  | some o => exact absurd (Heap.lt_size q) (Nat.lt_irrefl _)
theorem Rel.alloc (r : Rel g Z n σ s) {ao : AO} {co : Obj} (hr : ORel ao co) (hf : co.isFreed = false) : Rel g Z n ⟨upd σ.H s.heap.objs.size ao, σ.loc⟩ { s with heap := s.heap.push co } :=
  r.new (get?_size _) (by obtain ⟨o, ho⟩ := g.alive; exact Heap.lt_size (r.hr.stay _ _ ho)) (fun _ _ e => Heap.get?_push_of_some _ e) (Heap.get?_push_size _ hf) hr
theorem Rel.fresh (r : Rel g Z n σ s) : σ.H s.heap.objs.size = none := by
  cases q : σ.H s.heap.objs.size with
  | none => rfl
  | some o => obtain ⟨_, _, co, h1, _⟩ := r.hr.objs _ _ q; rw [get?_size] at h1; cases h1

/-- an owned object is changed -/
theorem Rel.set (r : Rel g Z n σ s) {a : Addr} {ao ao' : AO} {co : Obj} (h0 : σ.H a = some ao) (e : Heap.ExtBut a s.heap s'.heap) (ha : s'.heap.get? a = some co) (hr : ORel ao' co)
    (hg : s'.gens = s.gens := by rfl) (ho : s'.os = s.os := by rfl) (hk : (∃ c t x, ao = .exc c t x) → ∃ c t x, ao' = .exc c t x := by exact fun q => exc_of q rfl) : Rel g Z n ⟨upd σ.H a ao', σ.loc⟩ s' := by
  obtain ⟨z1, z2, co0, z3, _⟩ := r.hr.objs a ao h0
  obtain ⟨⟨h1, h2, h3, h4, h5⟩, v, rfr⟩ := r
  refine ⟨⟨hg.trans h1, ho.trans h2, fun b o hb => e b o (fun q => ?_) (h3 b o hb), h4.ext fun b o hb hz => e b o (fun q => ?_) hb, fun b o hbo => ?_⟩, v.chg (fun b o hb hx => e b o (fun q => ?_) hb) fun b hb' h => ?_, rfr⟩
  · subst q; rw [z2.1] at hb; cases hb
  · subst q; rw [z1] at hz; cases hz
  · change upd σ.H a ao' b = some o at hbo
    unfold upd at hbo
    split at hbo
    · rename_i q; subst q; cases hbo; exact ⟨z1, ⟨z2.1, z2.2.imp id hk⟩, co, ha, hr⟩
    · rename_i q
      obtain ⟨y1, y2, y3, y4, y5⟩ := h5 b o hbo
      exact ⟨y1, y2, y3, e _ _ q y4, y5⟩
  · subst q
    rcases hx with q | ⟨x, hx1, hx2⟩
    · rw [q, v.own.2.1] at h0; cases h0
    · obtain ⟨c, v₀, c1, c2, c3, _⟩ := v.cell x hx1
      rw [c1] at hx2; cases hx2
      rw [c3] at h0; cases h0
  · rw [upd_ne]
    · exact h
    · intro q; subst q; rw [h] at h0; cases h0

/-- a garbage object is frozen for a while -/
theorem Rel.freeze (r : Rel g Z n σ s) {a : Addr} {o : Obj} (ha : s.heap.get? a = some o) (hH : σ.H a = none) (hb : g.base.get? a = none) (hl : a ≠ n.env.locals)
    (hc : ∀ x ∈ n.oc, n.env.cells.lookup x ≠ some a) (hz : Z a = none) : Rel g (upd Z a o) n σ s := by
  obtain ⟨⟨h1, h2, h3, h4, h5⟩, ⟨v1, v2, v3, v4, v5⟩, rfr⟩ := r
  refine ⟨⟨h1, h2, h3, fun b ob hbo => ?_, fun b ao hbo => ?_⟩, ⟨v1, ⟨?_, v2.2⟩, fun x hx => ?_, v4, fun x v ho hx hk => ?_⟩, fun e he => ?_⟩
  · unfold upd at hbo
    split at hbo
    · rename_i q; subst q; cases hbo; exact ⟨_, ha, .inr rfl⟩
    · exact h4 b ob hbo
  · obtain ⟨y1, y2⟩ := h5 b ao hbo
    refine ⟨?_, y2⟩
    rw [upd_ne]
    · exact y1
    · intro q; subst q; rw [hH] at hbo; cases hbo
  · rw [upd_ne (Ne.symm hl)]; exact v2.1
  · obtain ⟨c, v₀, c1, c2, c3, c4, c5, c6, c7⟩ := v3 x hx
    refine ⟨c, v₀, c1, ?_, c3, c4, c5, c6, c7⟩
    rw [upd_ne]
    · exact c2
    · intro q; subst q; exact hc x hx c1
  · obtain ⟨c, oc, cv, c1, c2, c3, c4⟩ := v5 x v ho hx hk
    refine ⟨c, oc, cv, c1, ?_, c3, c4⟩
    rw [upd_ne]
    · exact c2
    · intro q; subst q; rw [hz] at c2; cases c2
  · obtain ⟨k1, L, oL, k2, k3, k4, k5⟩ := rfr e he
    refine ⟨k1, L, oL, k2, k3, ?_, k5⟩
    rw [upd_ne]
    · exact k4
    · intro q; subst q; rw [hz] at k4; cases k4

theorem Rel.thaw {a : Addr} {o : Obj} (r : Rel g (upd Z a o) n σ s) (hd : ∀ v, o.data ≠ .cell v) (hz : Z a = none) (fr : FrZ g Z n.outer) : Rel g Z n σ s := by
  obtain ⟨⟨h1, h2, h3, h4, h5⟩, ⟨v1, v2, v3, v4, v5⟩, rfr⟩ := r
  have key : ∀ b, upd Z a o b = none → Z b = none := fun b hb => by
    unfold upd at hb
    split at hb
    · cases hb
    · exact hb
  refine ⟨⟨h1, h2, h3, fun b ob hbo => h4 b ob ?_, fun b ao hbo => ⟨key _ (h5 b ao hbo).1, (h5 b ao hbo).2⟩⟩, ⟨v1, ⟨key _ v2.1, v2.2⟩, fun x hx => ?_, v4, fun x v ho hx hk => ?_⟩, fr⟩
  · rw [upd_ne]
    · exact hbo
    · intro q; subst q; rw [hz] at hbo; cases hbo
  · obtain ⟨c, v₀, c1, c2, c3, c4, c5, c6, c7⟩ := v3 x hx
    exact ⟨c, v₀, c1, key _ c2, c3, c4, c5, c6, c7⟩
  · obtain ⟨c, oc, cv, c1, c2, c3, c4⟩ := v5 x v ho hx hk
    refine ⟨c, oc, cv, c1, ?_, c3, c4⟩
    unfold upd at c2
    split at c2
    · cases c2; exact absurd c3 (hd _)
    · exact c2
theorem Rel.frozen {a : Addr} {o : Obj} (r : Rel g (upd Z a o) n σ s) (hc : ∀ es ep, o.data ≠ .dict es ep) : s.heap.get? a = some o := by
  obtain ⟨sl, h1, h2⟩ := r.hr.keep a o (by simp)
  rcases h2 with h2 | h2
  · obtain ⟨es, ep, h2⟩ := h2; exact absurd h2 (hc es ep)
  · rw [h1, h2]

/-- what a callee, or a comprehension, must leave alone -/
noncomputable def under (H : AH) (h : Heap) : Fz := fun b => if (H b).isSome then none else h.get? b

theorem HRel.under (r : HRel g Z H s) : HRel g (under H s.heap) H s := by
  obtain ⟨h1, h2, h3, h4, h5⟩ := r
  refine ⟨h1, h2, h3, fun b o hb => ?_, fun a o ha => ⟨?_, (h5 a o ha).2⟩⟩
  · unfold Mine.under at hb
    split at hb
    · cases hb
    · exact ⟨_, hb, .inr rfl⟩
  · unfold Mine.under; rw [ha]; rfl

theorem Rel.back {H' : AH} (r : Rel g Z n σ s) (r' : HRel g (under σ.H s.heap) H' s') : Rel g Z n ⟨H', σ.loc⟩ s' := by
  obtain ⟨⟨h1, h2, h3, h4, h5⟩, v, rfr⟩ := r
  obtain ⟨k1, k2, k3, k4, k5⟩ := r'
  have ud : ∀ b o, s.heap.get? b = some o → σ.H b = none → under σ.H s.heap b = some o := fun b o hb hH => by unfold under; rw [hH]; exact hb
  have gone : ∀ b o, s.heap.get? b = some o → σ.H b = none → H' b = none := fun b o hb hH => by
    cases q : H' b with
    | none => rfl
    | some ao => have := (k5 b ao q).1; rw [ud b o hb hH] at this; cases this
  have zH : ∀ b o, Z b = some o → σ.H b = none := fun b o hz => by
    cases q : σ.H b with
    | none => rfl
    | some ao => have := (h5 b ao q).1; rw [hz] at this; cases this
  refine ⟨⟨k1, k2, k3, fun b o hb => ?_, fun a o ha => ⟨?_, (k5 a o ha).2⟩⟩, ?_, rfr⟩
  · obtain ⟨sl, e1, e2⟩ := h4 b o hb
    obtain ⟨sl', e3, e4⟩ := k4 b _ (ud b _ e1 (zH b o hb))
    refine ⟨sl', e3, ?_⟩
    rcases e4 with e4 | e4
    · exact .inl e4
    · rcases e2 with e2 | e2
      · exact .inl e2
      · exact .inr (e4.trans e2)
  · cases q : Z a with
    | none => rfl
    | some o' =>
      obtain ⟨sl, e1, _⟩ := h4 a o' q
      change H' a = some o at ha; rw [gone a _ e1 (zH a o' q)] at ha; cases ha
  · obtain ⟨⟨m, ⟨oL, es, ep, hL, hLd, hr⟩, hl⟩, ⟨o1, o2, o3⟩, hc, hi, hf⟩ := v
    refine ⟨⟨m, ?_, hl⟩, ⟨o1, gone _ _ hL o2, o3⟩, fun x hx => ?_, hi, hf⟩
    · obtain ⟨sl, e1, _⟩ := k4 _ _ (ud _ _ hL o2)
      exact ⟨_, es, ep, e1, hLd, hr⟩
    · obtain ⟨c, v₀, c1, c2, c3, c4, c5, ⟨oc, c6, c6'⟩, c7⟩ := hc x hx
      obtain ⟨sl, e1, _⟩ := k4 _ _ (ud _ _ c6 c3)
      exact ⟨c, v₀, c1, c2, gone _ _ c6 c3, c4, c5, ⟨_, e1, c6'⟩, c7⟩

end Mine
end

section
open PySem PySem.W PyProof.Rows PySem.Spec PySem.Calls
set_option Elab.async false
set_option maxRecDepth 100000
namespace Mine

abbrev Exn := Fz → Value → Shared → Prop
noncomputable def NE : Exn := fun _ _ _ => False

noncomputable def Ok (g : G) (A : Around) (n : En) (E : Exn) {α : Type} (t : Sem α) (σ : St) (Q : α → St → Prop) : Prop :=
  ∀ Z s, Rel g Z n σ s → wpAny (model prog g.w) A t (Post g Z n Q) (E Z) s

section
variable {g : G} {A : Around} {n : En} {E : Exn} {σ : St} {α β : Type}

theorem Ok.pure {a : α} {Q : α → St → Prop} (h : Q a σ) : Ok g A n E (pure a) σ Q := fun _ _ r => wpAny_pure ⟨σ, r, h⟩
theorem Ok.mono {t : Sem α} {Q Q' : α → St → Prop} (h : Ok g A n E t σ Q) (hQ : ∀ a σ', Q a σ' → Q' a σ') : Ok g A n E t σ Q' :=
  fun Z s r => wpAny_mono (h Z s r) (fun a _ ⟨σ', r', q⟩ => ⟨σ', r', hQ a σ' q⟩) fun _ _ e => e
theorem Ok.bind {m : Sem α} {f : α → Sem β} {Q : β → St → Prop} (h : Ok g A n E m σ fun a σ' => Ok g A n E (f a) σ' Q) : Ok g A n E (m >>= f) σ Q :=
  fun Z s r => wpAny_bind (wpAny_mono (h Z s r) (fun _ s' ⟨_, r', q⟩ => q Z s' r') fun _ _ e => e)
theorem Ok.ofNE {t : Sem α} {Q : α → St → Prop} (h : Ok g A n NE t σ Q) : Ok g A n E t σ Q := fun Z s r => wpAny_mono (h Z s r) (fun _ _ q => q) fun _ _ e => e.elim
theorem Ok.standAt {pos : Pos} {Q : Unit → St → Prop} (h : Q () σ) : Ok g A n E (standAt pos) σ Q := fun _ _ r => wpAny_standAt ⟨σ, r, h⟩
theorem Ok.rule {tag : String} {Q : Unit → St → Prop} (h : Q () σ) : Ok g A n E (rule tag) σ Q := fun _ _ r => wpAny_rule ⟨σ, r, h⟩
theorem Ok.point {Q : Unit → St → Prop} (h : Q () σ) : Ok g A n E point σ Q := fun _ _ r => wpAny_point ⟨σ, r, h⟩
theorem Ok.holding {vs : List Value} {t : Sem α} {Q : α → St → Prop} (h : Ok g A n E t σ Q) : Ok g A n E (holding vs t) σ Q := fun Z s r => wpAny_holding (h Z s r)
theorem Ok.operate {vs : List Value} {t : Sem Value} {Q : Value → St → Prop} (h : Ok g A n E t σ Q) : Ok g A n E (operate vs t) σ Q := fun Z s r Γ p hΓ => by
  rw [Sem.wp_operate]; exact h Z s r Γ p hΓ
theorem Ok.release {vs ks : List Value} {Q : Unit → St → Prop} (h : Q () σ) : Ok g A n E (release vs ks) σ Q := fun Z s r Γ p hΓ => by
  rw [Sem.wp_release]; exact ⟨σ, r, h⟩
theorem Ok.eq {t t' : Sem α} {Q : α → St → Prop} (e : t = t') (h : Ok g A n E t' σ Q) : Ok g A n E t σ Q := e ▸ h
theorem Ok.ite {c : Prop} [Decidable c] {a b : Sem α} {Q : α → St → Prop} (h1 : c → Ok g A n E a σ Q) (h2 : ¬ c → Ok g A n E b σ Q) : Ok g A n E (if c then a else b) σ Q := by
  split
  · exact h1 (by assumption)
  · exact h2 (by assumption)
theorem Ok.mkInt {i : Int} {Q : Value → St → Prop} (h : ∀ t, Q (.int i t) σ) : Ok g A n E (mkInt i) σ Q := fun _ _ r => wpAny_mkInt ⟨σ, r.toks, h _⟩
theorem Ok.mkText {x : Str} {Q : Value → St → Prop} (h : ∀ t, Q (.str x t) σ) : Ok g A n E (mkText x) σ Q := fun _ _ r => wpAny_mkText ⟨σ, r.toks, h _⟩

/-! names -/
theorem Ok.loadName {x : Str} {v : AV} {Q : Value → St → Prop} (hf : n.env.scope.kind = .function) (hv : σ.loc x = some v) (hk : n.env.kindOf x = some .local ∨ (n.env.kindOf x = some .cell ∨ n.env.kindOf x = some .free))
    (hx : x ∉ n.oc ∨ n.env.kindOf x = some .cell) (h : ∀ cv, er cv = v → Q cv σ) (hn : (x == ("__classdict__" : Str)) = false := by decide) : Ok g A n E (loadName n.env x) σ Q := fun Z s r => by
  rcases hk with hk | hk
  · obtain ⟨m, hm, hl⟩ := r.vars.ns
    obtain ⟨cv, h1, h2⟩ := hl x v hv hk
    exact wpAny_loadName_local hf hk hm h1 ⟨σ, r, h cv h2⟩
  · have : ∃ c cv, n.env.cells.lookup x = some c ∧ s.heap.IsCell c (some cv) ∧ er cv = v := by
      by_cases ho : x ∈ n.oc
      · obtain ⟨c, v₀, c1, _, _, _, _, c6, c7⟩ := r.vars.cell x ho
        obtain ⟨cv, rfl, e⟩ := c7 v hv
        exact ⟨c, cv, c1, c6, e⟩
      · obtain ⟨c, o, cv, c1, c2, c3, c4⟩ := r.vars.free x v ho hv hk
        obtain ⟨sl, e1, _⟩ := r.hr.keep c o c2
        exact ⟨c, cv, c1, ⟨_, e1, c3⟩, c4⟩
    obtain ⟨c, cv, c1, c2, c3⟩ := this
    rcases hk with hk | hk
    · exact wpAny_loadName_cell hf hk c1 c2 ⟨σ, r, h cv c3⟩
    · exact wpAny_loadName_free hf hk c1 c2 ⟨σ, r, h cv c3⟩ hn

noncomputable def isVar : Option NameKind → Bool
  | some .local | some .cell | some .free => true
  | _ => false

theorem Ok.Name {x : Str} {pos : Pos} {v : AV} {Q : Value → St → Prop} (hv : σ.loc x = some v) (h : ∀ cv, er cv = v → Q cv σ) (hf : n.env.scope.kind = .function := by exact Mine.rfk)
    (hk : (isVar (n.env.kindOf x) && (!n.oc.contains x || n.env.kindOf x == some .cell) && !(x == ("__classdict__" : Str)) && !(x == ("__debug__" : Str))) = true := by exact Mine.tt0) :
    Ok g A n E (eval (.Name x pos) n.env) σ Q := by
  simp only [Bool.and_eq_true, Bool.or_eq_true, Bool.not_eq_true'] at hk
  obtain ⟨⟨⟨h1, h2⟩, h3⟩, h4⟩ := hk
  refine Ok.eq (eval_Name _ _ _ h4) (Ok.bind (Ok.standAt (Ok.loadName hf hv ?_ ?_ h h3)))
  · unfold isVar at h1
    split at h1
    · exact .inl (by assumption)
    · exact .inr (.inl (by assumption))
    · exact .inr (.inr (by assumption))
    · cases h1
  · rcases h2 with h2 | h2
    · exact .inl (by simpa using h2)
    · exact .inr (by simpa using h2)

theorem Rel.storeL {Z : Fz} {s : Shared} {x : Str} {v : Value} {m : Str → Option Value} {h' : Heap} {t : Nat} (r : Rel g Z n σ s) (hk : n.env.kindOf x = some .local) (ho : x ∉ n.oc)
    (hm0 : s.heap.Ns n.env.locals m) (hl0 : ∀ x v, σ.loc x = some v → n.env.kindOf x = some .local → ∃ cv, m x = some cv ∧ er cv = v)
    (hm : h'.Ns n.env.locals (fun y => if y = x then some v else m y)) (hs : Heap.SameBut n.env.locals s.heap h') : Rel g Z n ⟨σ.H, upd σ.loc x (er v)⟩ { s with heap := h', toks := t } := by
  obtain ⟨hr, ⟨v1, ⟨o1, o2, o3⟩, v3, v4, v5⟩, rfr⟩ := r
  have up : ∀ y w, y ≠ x → upd σ.loc x (er v) y = some w → σ.loc y = some w := fun y w hy e => by rwa [upd_ne hy] at e
  refine ⟨hr.chg fun b o hb hx => (hs.2 b fun q => ?_).trans hb, ⟨⟨_, hm, fun y w hy hky => ?_⟩, ⟨o1, o2, o3⟩, fun y hy => ?_, v4, fun y w hy hw hky => ?_⟩, rfr⟩
  · subst q
    rcases hx with hx | hx | hx
    · rw [o1] at hx; cases hx
    · rw [o2] at hx; cases hx
    · rw [o3] at hx; cases hx
  · by_cases q : y = x
    · subst q
      change upd σ.loc y (er v) y = some w at hy
      rw [upd_same] at hy; cases hy
      exact ⟨v, by simp, rfl⟩
    · obtain ⟨cv, e1, e2⟩ := hl0 y w (up y w q hy) hky
      exact ⟨cv, by simp [q, e1], e2⟩
  · obtain ⟨c, v₀, c1, c2, c3, c4, c5, ⟨oc, c6, c6'⟩, c7⟩ := v3 y hy
    refine ⟨c, v₀, c1, c2, c3, c4, c5, ⟨oc, (hs.2 c c5).trans c6, c6'⟩, fun w hw => c7 w (up y w (fun q => ho (q ▸ hy)) hw)⟩
  · have q : y ≠ x := fun q => by subst q; rw [hk] at hky; rcases hky with hky | hky <;> cases hky
    exact v5 y w hy (up y w q hw) hky

theorem Rel.storeC {Z : Fz} {s : Shared} {x : Str} {v : Value} {c : Addr} {h' : Heap} {t : Nat} (r : Rel g Z n σ s) (hk : n.env.kindOf x = some .cell) (ho : x ∈ n.oc)
    (hc : n.env.cells.lookup x = some c) (hm : h'.IsCell c (some v)) (hs : Heap.SameBut c s.heap h') : Rel g Z n ⟨σ.H, upd σ.loc x (er v)⟩ { s with heap := h', toks := t } := by
  obtain ⟨hr, ⟨⟨m, v1, v1'⟩, ⟨o1, o2, o3⟩, v3, v4, v5⟩, rfr⟩ := r
  have up : ∀ y w, y ≠ x → upd σ.loc x (er v) y = some w → σ.loc y = some w := fun y w hy e => by rwa [upd_ne hy] at e
  obtain ⟨c', v₀, c1, c2, c3, c4, c5, c6, c7⟩ := v3 x ho
  rw [hc] at c1; cases c1
  refine ⟨hr.chg fun b o hb hx => (hs.2 b fun q => ?_).trans hb, ⟨⟨m, v1.sameBut hs (Ne.symm c5), fun y w hy hky => ?_⟩, ⟨o1, o2, o3⟩, fun y hy => ?_, v4, fun y w hy hw hky => ?_⟩, rfr⟩
  · subst q
    rcases hx with hx | hx | hx
    · rw [c2] at hx; cases hx
    · rw [c3] at hx; cases hx
    · rw [c4] at hx; cases hx
  · have q : y ≠ x := fun q => by subst q; rw [hk] at hky; cases hky
    exact v1' y w (up y w q hy) hky
  · by_cases q : y = x
    · subst q
      exact ⟨c, some v, hc, c2, c3, c4, c5, hm, fun w hw => ⟨v, rfl, by change upd σ.loc y (er v) y = some w at hw; rw [upd_same] at hw; cases hw; rfl⟩⟩
    · obtain ⟨d, w₀, d1, d2, d3, d4, d5, ⟨od, d6, d6'⟩, d7⟩ := v3 y hy
      refine ⟨d, w₀, d1, d2, d3, d4, d5, ⟨od, (hs.2 d fun e => ?_).trans d6, d6'⟩, fun w hw => d7 w (up y w q hw)⟩
      subst e; exact q (v4 y hy x ho _ d1 hc)
  · exact v5 y w hy (up y w (fun q => hy (q ▸ ho)) hw) hky

theorem Ok.storeName {x : Str} {v : Value} {Q : Unit → St → Prop} (hf : n.env.scope.kind = .function) (hk : (n.env.kindOf x = some .local ∧ x ∉ n.oc) ∨ (n.env.kindOf x = some .cell ∧ x ∈ n.oc))
    (h : Q () ⟨σ.H, upd σ.loc x (er v)⟩) : Ok g A n E (storeName n.env x v) σ Q := fun Z s r => by
  rcases hk with ⟨hk, ho⟩ | ⟨hk, ho⟩
  · obtain ⟨m, hm, hl⟩ := r.vars.ns
    exact wpAny_storeName_local hk hm (fun h' hn hs => ⟨_, r.storeL hk ho hm hl hn hs, h⟩) (by rw [hf]; rfl)
  · obtain ⟨c, v₀, c1, c2, c3, c4, c5, c6, c7⟩ := r.vars.cell x ho
    exact wpAny_storeName_cell hf hk c1 c6 fun h' hv hs => ⟨_, r.storeC (t := s.toks) hk ho c1 hv hs, h⟩

noncomputable def canStore (n : En) (x : Str) : Bool := (n.env.kindOf x == some .local && !n.oc.contains x) || (n.env.kindOf x == some .cell && n.oc.contains x)
theorem canStore_iff {x : Str} (h : canStore n x = true) : (n.env.kindOf x = some .local ∧ x ∉ n.oc) ∨ (n.env.kindOf x = some .cell ∧ x ∈ n.oc) := by
  unfold canStore at h
  simpa using h
theorem Ok.bindName {x : Str} {v : Value} {Q : Unit → St → Prop} (h : Q () ⟨σ.H, upd σ.loc x (er v)⟩) (hf : n.env.scope.kind = .function := by exact Mine.rfk) (hk : canStore n x = true := by exact Mine.tt0) :
    Ok g A n E (bindName n.env x v) σ Q := fun Z s r Γ p hΓ => by
  rw [Sem.wp_bindName]; exact Ok.storeName hf (canStore_iff hk) h Z s r Γ p hΓ
end
end Mine
end

section
open PySem PySem.W PyProof.Rows PySem.Spec PySem.Calls
set_option Elab.async false
set_option maxRecDepth 100000
namespace Mine

inductive AFl where
  | next | brk | cont
  | ret (v : AV)
noncomputable def fl : Flow → AFl
  | .next => .next
  | .brk => .brk
  | .cont => .cont
  | .ret v => .ret (er v)

section
variable (g : G) (A : Around) (n : En) (E : Exn)
abbrev OkV (t : Sem Value) (σ : St) (Q : AV → St → Prop) : Prop := Ok g A n E t σ fun v σ' => Q (er v) σ'
abbrev OkF (t : Sem Flow) (σ : St) (Q : AFl → St → Prop) : Prop := Ok g A n E t σ fun v σ' => Q (fl v) σ'
noncomputable def Ev (e : Expr) (σ : St) (Q : AV → St → Prop) : Prop := OkV g A n E (eval e n.env) σ Q
noncomputable def Tst (e : Expr) (σ : St) (Q : Bool → St → Prop) : Prop := Ok g A n E (isTrue e n.env (eval e n.env)) σ Q
noncomputable def Ex (st : Stmt) (σ : St) (Q : AFl → St → Prop) : Prop := OkF g A n E (exec st n.env) σ Q
noncomputable def Exs (sts : List Stmt) (σ : St) (Q : AFl → St → Prop) : Prop := OkF g A n E (execs sts n.env) σ Q
noncomputable def Bin (op : Operator) (a b : AV) (σ : St) (Q : AV → St → Prop) : Prop := ∀ ca cb, er ca = a → er cb = b → OkV g A n E (binaryOp op ca cb) σ Q
noncomputable def Inp (op : Operator) (a b : AV) (σ : St) (Q : AV → St → Prop) : Prop := ∀ ca cb, er ca = a → er cb = b → OkV g A n E (inplaceOp op ca cb) σ Q
noncomputable def Cmp (op : CmpOp) (a b : AV) (σ : St) (Q : AV → St → Prop) : Prop := ∀ ca cb, er ca = a → er cb = b → OkV g A n E (compareOp op ca cb) σ Q
noncomputable def Un (op : UnaryOp) (a : AV) (σ : St) (Q : AV → St → Prop) : Prop := ∀ ca, er ca = a → OkV g A n E (unaryOp op ca) σ Q
noncomputable def Tru (a : AV) (σ : St) (Q : Bool → St → Prop) : Prop := ∀ ca, er ca = a → Ok g A n E (truthy ca) σ Q
noncomputable def SubT (value slice : Expr) (o i : AV) (σ : St) (Q : AV → St → Prop) : Prop := ∀ co ci, er co = o → er ci = i → OkV g A n E (subscriptTail value slice co ci) σ Q
/-- a bool, and what of it -/
inductive BoolP (B : Bool → St → Prop) (c : AV) (σ : St) : Prop
  | mk (v : Bool) (h : c = .bool v) (q : B v σ)
/-- a list of expressions, one after the other -/
noncomputable def Evs (es : List Expr) (σ : St) (Q : List AV → St → Prop) : Prop := ∀ pos, Ok g A n E (spliced (backTo pos (starEach es n.env))) σ fun vs σ' => Q (vs.map er) σ'
noncomputable def Call (f : Value) (args : List AV) (σ : St) (Q : AV → St → Prop) : Prop := ∀ cargs, cargs.map er = args → OkV g A n E (call f cargs) σ Q
end

/-! posts as constants: what follows stays one argument -/
section
variable (g : G) (A : Around) (n : En) (E : Exn)
abbrev QNam (x : Str) (Q : AV → St → Prop) : AV → St → Prop := fun a σ₁ => Q a ⟨σ₁.H, upd σ₁.loc x a⟩
abbrev QList (Q : AV → St → Prop) : List AV → St → Prop := fun as σ₁ => as.length ≤ 10000 ∧ ∀ a, σ₁.H a = none → Q (.ref a) ⟨upd σ₁.H a (.list as), σ₁.loc⟩
abbrev QTup (Q : AV → St → Prop) : List AV → St → Prop := fun as σ₁ => as.length ≤ 10000 ∧ ∀ a, σ₁.H a = none → Q (.ref a) ⟨upd σ₁.H a (.tup as), σ₁.loc⟩
abbrev QBin2 (op : Operator) (a : AV) (Q : AV → St → Prop) : AV → St → Prop := fun b σ₂ => Bin g A n E op a b σ₂ Q
abbrev QBin1 (op : Operator) (r : Expr) (Q : AV → St → Prop) : AV → St → Prop := fun a σ₁ => Ev g A n E r σ₁ (QBin2 g A n E op a Q)
abbrev QUn (op : UnaryOp) (Q : AV → St → Prop) : AV → St → Prop := fun a σ₁ => Un g A n E op a σ₁ Q
abbrev QCmp2 (op : CmpOp) (a : AV) (Q : AV → St → Prop) : AV → St → Prop := fun b σ₂ => Cmp g A n E op a b σ₂ Q
abbrev QCmp1 (op : CmpOp) (r : Expr) (Q : AV → St → Prop) : AV → St → Prop := fun a σ₁ => Ev g A n E r σ₁ (QCmp2 g A n E op a Q)
abbrev QIfE (b o : Expr) (Q : AV → St → Prop) : Bool → St → Prop := fun c σ₁ => match c with | true => Ev g A n E b σ₁ Q | false => Ev g A n E o σ₁ Q
abbrev QSub2 (v s : Expr) (a : AV) (Q : AV → St → Prop) : AV → St → Prop := fun b σ₂ => SubT g A n E v s a b σ₂ Q
abbrev QSub1 (v s : Expr) (Q : AV → St → Prop) : AV → St → Prop := fun a σ₁ => Ev g A n E s σ₁ (QSub2 g A n E v s a Q)
abbrev QNot (B : Bool → St → Prop) : Bool → St → Prop := fun c σ₁ => B (!c) σ₁
abbrev QAnd (r : List Expr) (p : Pos) (B : Bool → St → Prop) : Bool → St → Prop := fun c σ₁ => match c with | true => Tst g A n E (.BoolOp .And r p) σ₁ B | false => B false σ₁
abbrev QOr (r : List Expr) (p : Pos) (B : Bool → St → Prop) : Bool → St → Prop := fun c σ₁ => match c with | true => B true σ₁ | false => Tst g A n E (.BoolOp .Or r p) σ₁ B
abbrev QTru (B : Bool → St → Prop) : AV → St → Prop := fun a σ₁ => Tru g A n E a σ₁ B
abbrev QEvs2 (a : AV) (P : List AV → St → Prop) : List AV → St → Prop := fun as σ₂ => P (a :: as) σ₂
abbrev QEvs1 (es : List Expr) (P : List AV → St → Prop) : AV → St → Prop := fun a σ₁ => Evs g A n E es σ₁ (QEvs2 a P)
end

section
variable {g : G} {A : Around} {n : En} {E : Exn} {σ : St} {Q : AV → St → Prop} {pos : Pos} {k : Nat}

theorem Ev.cInt {i : Int} (h : Q (.int i) σ) : Ev g A n E (.Constant (.int i) k pos) σ Q := Ok.mkInt fun _ => h
theorem Ev.cStr {x : Str} (h : Q (.str x) σ) : Ev g A n E (.Constant (.str x) k pos) σ Q := Ok.mkText fun _ => h
theorem Ev.cBool {b : Bool} (h : Q (.bool b) σ) : Ev g A n E (.Constant (.bool b) k pos) σ Q := Ok.pure h
theorem Ev.cNone (h : Q .none σ) : Ev g A n E (.Constant .none k pos) σ Q := Ok.pure h
theorem Ev.name {x : Str} {v : AV} (hv : σ.loc x = some v) (h : Q v σ) (hf : n.env.scope.kind = .function := by exact Mine.rfk)
    (hk : (isVar (n.env.kindOf x) && (!n.oc.contains x || n.env.kindOf x == some .cell) && !(x == ("__classdict__" : Str)) && !(x == ("__debug__" : Str))) = true := by exact Mine.tt0) : Ev g A n E (.Name x pos) σ Q :=
  Ok.Name hv (fun cv e => by rw [e]; exact h) hf hk
theorem Ev.binOp {l r : Expr} {op : Operator} (h : Ev g A n E l σ (QBin1 g A n E op r Q)) : Ev g A n E (.BinOp l op r pos) σ Q :=
  Ok.eq (eval_BinOp _ _ _ _ _) (Ok.bind (Ok.mono h fun _ _ h₁ => Ok.bind (Ok.holding (Ok.mono h₁ fun _ _ h₂ => Ok.bind (Ok.standAt (Ok.operate (h₂ _ _ rfl rfl)))))))
theorem Ev.unaryOp {x : Expr} {op : UnaryOp} (h : Ev g A n E x σ (QUn g A n E op Q)) : Ev g A n E (.UnaryOp op x pos) σ Q :=
  Ok.bind (Ok.mono h fun _ _ h₁ => Ok.bind (Ok.standAt (Ok.holding (h₁ _ rfl))))
theorem Ev.compare {l r : Expr} {op : CmpOp} (h : Ev g A n E l σ (QCmp1 g A n E op r Q)) (hm : behindInMarks op r = false := by exact Mine.ff0) : Ev g A n E (.Compare l [op] [r] pos) σ Q := by
  refine Ok.eq (eval_Compare1 _ _ _ _ _) ?_
  rw [markedBehindIn_of_false hm]
  exact Ok.bind (Ok.mono h fun _ _ h₁ => Ok.bind (Ok.holding (Ok.mono h₁ fun _ _ h₂ => Ok.bind (Ok.standAt (Ok.operate (h₂ _ _ rfl rfl))))))
theorem Ev.ifExp {t b o : Expr} (h : Tst g A n E t σ (QIfE g A n E b o Q)) : Ev g A n E (.IfExp t b o pos) σ Q :=
  Ok.bind (Ok.mono h fun c _ h₁ => by cases c <;> exact h₁)
theorem Ev.subscript {v s : Expr} (h : Ev g A n E v σ (QSub1 g A n E v s Q)) : Ev g A n E (.Subscript v s pos) σ Q :=
  Ok.bind (Ok.mono h fun _ _ h₁ => Ok.bind (Ok.holding (Ok.mono h₁ fun _ _ h₂ => Ok.bind (Ok.standAt (h₂ _ _ rfl rfl)))))
theorem Ev.namedExpr {x : Str} {px : Pos} {v : Expr} (h : Ev g A n E v σ (QNam x Q)) (hf : n.env.scope.kind = .function := by exact Mine.rfk) (hk : canStore n x = true := by exact Mine.tt0) : Ev g A n E (.NamedExpr (.Name x px) v pos) σ Q :=
  Ok.bind (Ok.mono h fun _ _ h₁ => Ok.bind (Ok.holding (Ok.bind (Ok.standAt (Ok.bindName (Ok.pure h₁) hf hk)))))

/-! tests -/
variable {B : Bool → St → Prop}
theorem Tst.compare {l r : Expr} {op : CmpOp} (h : Ev g A n E l σ (QCmp1 g A n E op r (BoolP B))) (hm : behindInMarks op r = false := by exact Mine.ff0) : Tst g A n E (.Compare l [op] [r] pos) σ B := by
  refine Ok.eq (isTrue_Compare1 _ _ _ _ _ _) ?_
  rw [markedBehindIn_of_false hm]
  refine Ok.bind (Ok.mono h fun _ _ h₁ => Ok.bind (Ok.holding (Ok.mono h₁ fun _ _ h₂ => Ok.bind (Ok.standAt (Ok.bind (Ok.operate (Ok.mono (h₂ _ _ rfl rfl) fun c σ₃ h₃ => ?_)))))))
  obtain ⟨v, e, q⟩ := h₃
  rw [er_bool e]
  exact Ok.holding (fun Z s r => wpAny_truthy_bool ⟨σ₃, r, q⟩)
theorem Tst.not {x : Expr} (h : Tst g A n E x σ (QNot B)) : Tst g A n E (.UnaryOp .Not x pos) σ B :=
  Ok.bind (Ok.mono h fun _ _ h₁ => Ok.pure h₁)
theorem Tst.and0 {p : Pos} (h : B true σ) : Tst g A n E (.BoolOp .And [] p) σ B := Ok.pure (a := true) h
theorem Tst.or0 {p : Pos} (h : B false σ) : Tst g A n E (.BoolOp .Or [] p) σ B := Ok.pure (a := false) h
theorem Tst.and {x : Expr} {r : List Expr} {p : Pos} (h : Tst g A n E x σ (QAnd g A n E r p B)) : Tst g A n E (.BoolOp .And (x :: r) p) σ B := by
  show Ok g A n E (do
    match BoolOp.And, ← isTrue x n.env (eval x n.env) with
    | .And, false => pure false
    | .Or, true => pure true
    | _, _ => allTrue .And r n.env) σ B
  refine Ok.bind (Ok.mono h fun c σ₁ h₁ => ?_)
  cases c
  · exact Ok.pure h₁
  · exact h₁
theorem Tst.or {x : Expr} {r : List Expr} {p : Pos} (h : Tst g A n E x σ (QOr g A n E r p B)) : Tst g A n E (.BoolOp .Or (x :: r) p) σ B := by
  show Ok g A n E (do
    match BoolOp.Or, ← isTrue x n.env (eval x n.env) with
    | .And, false => pure false
    | .Or, true => pure true
    | _, _ => allTrue .Or r n.env) σ B
  refine Ok.bind (Ok.mono h fun c σ₁ h₁ => ?_)
  cases c
  · exact h₁
  · exact Ok.pure h₁
theorem Tst.plain {e : Expr} (h : Ev g A n E e σ (QTru g A n E B)) (he : isTrue e n.env (eval e n.env) = (do let v ← eval e n.env; standAt e.pos; holding [v] (truthy v)) := by rfl) : Tst g A n E e σ B :=
  Ok.eq he (Ok.bind (Ok.mono h fun _ _ h₁ => Ok.bind (Ok.standAt (Ok.holding (h₁ _ rfl)))))
theorem Tru.bool {b : Bool} (h : B b σ) : Tru g A n E (.bool b) σ B := fun _ e Z s r => by rw [er_bool e]; exact wpAny_truthy_bool ⟨σ, r, h⟩

/-! expressions one after the other -/
theorem Evs.nil {P : List AV → St → Prop} (h : P [] σ) : Evs g A n E [] σ P := fun _ => Ok.pure (a := []) h
theorem Evs.cons {e : Expr} {es : List Expr} {P : List AV → St → Prop} (h : Ev g A n E e σ (QEvs1 g A n E es P)) (hs : starEach (e :: es) n.env = (false, eval e n.env) :: starEach es n.env := by rfl) : Evs g A n E (e :: es) σ P := fun pos => by
  rw [hs]
  show Ok g A n E (spliced ((false, eval e n.env) :: backTo pos (starEach es n.env))) σ _
  rw [spliced]
  refine Ok.bind (Ok.mono h fun v σ₁ h₁ => ?_)
  simp only [Bool.false_eq_true, if_false]
  exact Ok.bind (Ok.pure (Ok.bind (Ok.holding (Ok.mono (h₁ pos) fun vs σ₂ h₂ => Ok.pure h₂))))
theorem Ok.newObj {co : Obj} {ao : AO} {P : Value → St → Prop} {t : Sem Value} (hr : ORel ao co) (hf : co.isFreed = false) (ht : ∀ (s : Shared) (R F : Value → Shared → Prop), R (.ref s.heap.objs.size) { s with heap := s.heap.push co } → wpAny (model prog g.w) A t R F s)
    (h : ∀ a, σ.H a = none → P (.ref a) ⟨upd σ.H a ao, σ.loc⟩) : Ok g A n E t σ P := fun Z s r => ht s _ _ ⟨_, r.alloc hr hf, h _ r.fresh⟩
theorem Ev.list {es : List Expr} (h : Evs g A n E es σ (QList Q)) : Ev g A n E (.List es pos) σ Q := by
  refine Ok.bind (Ok.standAt (Ok.bind (Ok.mono (h pos) fun vs σ₁ h₁ => ?_)))
  have hl : vs.length ≤ sizeLine := by have := h₁.1; rw [List.length_map] at this; exact Nat.le_trans this (by decide)
  exact Ok.newObj (ao := .list (vs.map er)) (co := { cls := .type "list", data := .seq vs.toArray }) ⟨_, _, rfl, by simp⟩ rfl (fun s R F q => wpAny_newObj_type q (by show vs.toArray.size ≤ sizeLine; rw [List.size_toArray]; exact hl)) h₁.2
theorem Ev.tuple {es : List Expr} {u : Nat} (h : Evs g A n E es σ (QTup Q)) : Ev g A n E (.Tuple es u pos) σ Q := by
  refine Ok.bind (Ok.standAt (Ok.bind (Ok.mono (h pos) fun vs σ₁ h₁ => ?_)))
  have hl : vs.length ≤ sizeLine := by have := h₁.1; rw [List.length_map] at this; exact Nat.le_trans this (by decide)
  exact Ok.newObj (ao := .tup (vs.map er)) (co := { cls := .type "tuple", data := .seq vs.toArray }) ⟨_, _, rfl, by simp⟩ rfl (fun s R F q => wpAny_newObj_type q (by show vs.toArray.size ≤ sizeLine; rw [List.size_toArray]; exact hl)) h₁.2

/-! ints -/
theorem Bin.add {a b : Int} (h : Q (.int (a + b)) σ) : Bin g A n E .Add (.int a) (.int b) σ Q := fun _ _ e f Z s r => by
  obtain ⟨t, rfl⟩ := er_int e; obtain ⟨u, rfl⟩ := er_int f; exact PyProof.Rows.add_int ⟨σ, r.toks, h⟩
theorem Bin.sub {a b : Int} (h : Q (.int (a - b)) σ) : Bin g A n E .Sub (.int a) (.int b) σ Q := fun _ _ e f Z s r => by
  obtain ⟨t, rfl⟩ := er_int e; obtain ⟨u, rfl⟩ := er_int f; exact PyProof.Rows.sub_int ⟨σ, r.toks, h⟩
theorem Bin.floordiv {a b : Int} (hb : b ≠ 0) (hp : Builtin.divisionGoesByPylong a b = false) (h : Q (.int (a.fdiv b)) σ) : Bin g A n E .FloorDiv (.int a) (.int b) σ Q := fun _ _ e f Z s r => by
  obtain ⟨t, rfl⟩ := er_int e; obtain ⟨u, rfl⟩ := er_int f; exact PyProof.Rows.floordiv_int hb ⟨σ, r.toks, h⟩ (.inl hp)
theorem Bin.mod {a b : Int} (hb : b ≠ 0) (h : Q (.int (a.fmod b)) σ) : Bin g A n E .Mod (.int a) (.int b) σ Q := fun _ _ e f Z s r => by
  obtain ⟨t, rfl⟩ := er_int e; obtain ⟨u, rfl⟩ := er_int f; exact PyProof.Rows.mod_int' hb ⟨σ, r.toks, h⟩
theorem Bin.pow {a b : Int} (hb : 0 ≤ b) (hsz : (Builtin.Int.intBits a : Int) * b ≤ 2 ^ 27) (h : Q (.int (a ^ b.toNat)) σ) : Bin g A n E .Pow (.int a) (.int b) σ Q := fun _ _ e f Z s r => by
  obtain ⟨t, rfl⟩ := er_int e; obtain ⟨u, rfl⟩ := er_int f; exact PyProof.Rows.pow_int hb hsz ⟨σ, r.toks, h⟩
theorem Un.neg {a : Int} (h : Q (.int (-a)) σ) : Un g A n E .USub (.int a) σ Q := fun _ e Z s r => by
  obtain ⟨t, rfl⟩ := er_int e; exact PyProof.Rows.neg_int ⟨σ, r.toks, h⟩
theorem Cmp.eqInt {a b : Int} (h : Q (.bool (a == b)) σ) : Cmp g A n E .Eq (.int a) (.int b) σ Q := fun _ _ e f Z s r => by
  obtain ⟨t, rfl⟩ := er_int e; obtain ⟨u, rfl⟩ := er_int f; exact PyProof.Rows.eq_int ⟨σ, r, h⟩
theorem Cmp.neInt {a b : Int} (h : Q (.bool (a != b)) σ) : Cmp g A n E .NotEq (.int a) (.int b) σ Q := fun _ _ e f Z s r => by
  obtain ⟨t, rfl⟩ := er_int e; obtain ⟨u, rfl⟩ := er_int f; exact PyProof.Rows.ne_int ⟨σ, r, h⟩
theorem Cmp.ltInt {a b : Int} (h : Q (.bool (decide (a < b))) σ) : Cmp g A n E .Lt (.int a) (.int b) σ Q := fun _ _ e f Z s r => by
  obtain ⟨t, rfl⟩ := er_int e; obtain ⟨u, rfl⟩ := er_int f; exact PyProof.Rows.lt_int ⟨σ, r, h⟩
theorem Cmp.gtInt {a b : Int} (h : Q (.bool (decide (b < a))) σ) : Cmp g A n E .Gt (.int a) (.int b) σ Q := fun _ _ e f Z s r => by
  obtain ⟨t, rfl⟩ := er_int e; obtain ⟨u, rfl⟩ := er_int f; exact PyProof.Rows.gt_int ⟨σ, r, h⟩
theorem Cmp.geInt {a b : Int} (h : Q (.bool (decide (b ≤ a))) σ) : Cmp g A n E .GtE (.int a) (.int b) σ Q := fun _ _ e f Z s r => by
  obtain ⟨t, rfl⟩ := er_int e; obtain ⟨u, rfl⟩ := er_int f; exact PyProof.Rows.ge_int ⟨σ, r, h⟩
theorem Cmp.eqStr {a b : PySem.Str} (h : Q (.bool (a == b)) σ) : Cmp g A n E .Eq (.str a) (.str b) σ Q := fun _ _ e f Z s r => by
  obtain ⟨t, rfl⟩ := er_str e; obtain ⟨u, rfl⟩ := er_str f; exact PyProof.Rows.eq_str ⟨σ, r, h⟩
theorem Bin.addStr {a b : PySem.Str} (hl : a.length + b.length ≤ sizeLine) (h : Q (.str (a ++ b)) σ) : Bin g A n E .Add (.str a) (.str b) σ Q := fun _ _ e f Z s r => by
  obtain ⟨t, rfl⟩ := er_str e; obtain ⟨u, rfl⟩ := er_str f; exact PyProof.Rows.add_str (fun _ _ => ⟨σ, r.toks, h⟩) hl
end
end Mine
end

section
open PySem PySem.W PyProof.Rows PySem.Spec PySem.Calls
set_option Elab.async false
set_option maxRecDepth 100000
set_option linter.unusedVariables false
namespace Mine

/-- the ints from lo below hi -/
noncomputable def rngI (lo hi : Int) : List Int := (List.range (hi - lo).toNat).map fun (i : Nat) => lo + (i : Int)
theorem rngI_length (lo hi : Int) : (rngI lo hi).length = (hi - lo).toNat := by simp [rngI]
theorem rngI_get {lo hi : Int} {i : Nat} (h : i < (hi - lo).toNat) : (rngI lo hi)[i]? = some (lo + i) := by
  simp [rngI, h]

/-- what a loop over an owned object takes -/
noncomputable def items : AO → Option (List AV)
  | .list xs => some xs
  | .tup xs => some xs
  | .range lo hi => some ((rngI lo hi).map .int)
  | .dict es _ => some (es.map fun p => .int p.1)
  | .vdict es _ => some (es.map fun p => p.2)
  | _ => none
noncomputable def itFits : AO → Bool
  | .range lo hi => decide (-(2 ^ 62) ≤ lo) && decide (lo < 2 ^ 62) && decide (-(2 ^ 62) ≤ hi) && decide (hi < 2 ^ 62)
  | .vdict _ _ => false
  | _ => true

/-- the iterator of an owned object at l behind i items -/
noncomputable def ItAt (l : Addr) (i : Nat) : AO → Obj → Prop
  | .list _, o => o.cls = .type "list_iterator" ∧ o.data = .fields #[.ref l, .int i 0]
  | .tup _, o => o.cls = .type "tuple_iterator" ∧ o.data = .fields #[.ref l, .int i 0]
  | .range lo hi, o => o = ⟨.type "range_iterator", none, .fields #[rawInt (lo + i), rawInt ((hi - lo).toNat - (i : Int)), rawInt 1], #[]⟩
  | .dict es ep, o => o.cls = .type "dict_keyiterator" ∧ o.data = .fields #[.ref l, .int i 0, .int es.length 0, .int ep 0]
  | .vdict es ep, o => o.cls = .type "dict_valueiterator" ∧ o.data = .fields #[.ref l, .int i 0, .int es.length 0, .int ep 0]
  | _, _ => False

section
variable {g : G} {A : Around} {s : Shared} {F : Value → Shared → Prop} {l it : Addr} {i : Nat} {ao : AO} {co o : Obj} {xs : List AV}

theorem ItAt.notFrame (h : ItAt l i ao o) (es : Array DictEntry) (ep : Nat) : o.data ≠ .dict es ep := by
  unfold ItAt at h
  split at h
  · rw [h.2]; intro q; cases q
  · rw [h.2]; intro q; cases q
  · rw [h]; intro q; cases q
  · rw [h.2]; intro q; cases q
  · rw [h.2]; intro q; cases q
  · exact h.elim
theorem ItAt.notCell (h : ItAt l i ao o) (v : Option Value) : o.data ≠ .cell v := by
  unfold ItAt at h
  split at h
  · rw [h.2]; intro q; cases q
  · rw [h.2]; intro q; cases q
  · rw [h]; intro q; cases q
  · rw [h.2]; intro q; cases q
  · rw [h.2]; intro q; cases q
  · exact h.elim

theorem dictAt_of {es : List (Int × AV)} {ep : Nat} {h : Heap} (ho : h.get? l = some co) (hr : ORel (.dict es ep) co) :
    ∃ kvs : List (Int × Value), h.DictAt (intKind prog g.w) l kvs ep ∧ kvs.map (fun p => (p.1, er p.2)) = es := by
  obtain ⟨ents, rfl, hk, hm, hn⟩ := hr
  have key : ∀ (el : List DictEntry) (es : List (Int × AV)), (∀ e ∈ el, ∃ k t, e.key = .int k t ∧ e.hash = hashInt k) → el.map (fun e => (er e.key, er e.val)) = es.map (fun p => (AV.int p.1, p.2)) →
      ∃ kvs : List (Int × Value), Pairs (intKind prog g.w) el kvs ∧ kvs.map (fun p => (p.1, er p.2)) = es := by
    intro el
    induction el with
    | nil => intro es _ h; cases es with
      | nil => exact ⟨[], .nil, rfl⟩
      | cons p q => simp at h
    | cons e el ih => intro es hk h; cases es with
      | nil => simp at h
      | cons p q =>
        simp only [List.map_cons, List.cons.injEq, Prod.mk.injEq] at h
        obtain ⟨kvs, h1, h2⟩ := ih q (fun e he => hk e (.tail _ he)) h.2
        obtain ⟨t, hv⟩ := er_int h.1.1
        refine ⟨(p.1, e.val) :: kvs, .cons (by rw [hv]; simp [intKind, Value.isInt]) rfl h1, by simp [h2, h.1.2]⟩
  obtain ⟨kvs, h1, h2⟩ := key ents.toList es (fun e he => hk e (by simpa using he)) hm
  refine ⟨kvs, ⟨_, ents, ho, ⟨rfl, rfl, rfl⟩, rfl, fun e he => ?_, h1, ?_⟩, h2⟩
  · obtain ⟨k, t, e1, e2⟩ := hk e he
    exact ⟨k, by rw [e1]; simp [intKind, Value.isInt], e2⟩
  · have : kvs.map (·.1) = es.map (·.1) := by rw [← h2]; simp
    rw [this]; exact hn

theorem iter_make {R : Value → Shared → Prop} (ho : s.heap.get? l = some co) (hr : ORel ao co) (hx : items ao = some xs) (hf : itFits ao = true) (hl : l ≠ sysModules)
    (h : ∀ o, ItAt l 0 ao o → o.isFreed = false → R (.ref s.heap.objs.size) { s with heap := s.heap.push o }) : wpAny (model prog g.w) A (pyIter (.ref l)) R F s := by
  cases ao with
  | list ys =>
    obtain ⟨its, k, rfl, _⟩ := hr
    exact wpAny_pyIter_list ⟨_, ho, rfl, _, rfl⟩ (h _ ⟨rfl, rfl⟩ rfl)
  | tup ys =>
    obtain ⟨its, k, rfl, _⟩ := hr
    exact wpAny_pyIter_tuple ⟨_, ho, rfl, _, rfl⟩ (h _ ⟨rfl, rfl⟩ rfl)
  | range lo hi =>
    obtain ⟨t, u, v, rfl⟩ := hr
    simp only [itFits, Bool.and_eq_true, decide_eq_true_eq] at hf
    refine wpAny_pyIter_range ho (small_one hf.1.1.1 hf.1.1.2 hf.1.2 hf.2) (h _ ?_ rfl)
    show _ = _
    rw [rangeSize_one]
    have : (if lo < hi then hi - lo else 0) = (((hi - lo).toNat : Nat) : Int) - ((0 : Nat) : Int) := by split <;> omega
    rw [this]
    simp
  | dict es ep =>
    obtain ⟨kvs, h1, h2⟩ := dictAt_of (g := g) ho hr
    have hlen : kvs.length = es.length := by rw [← h2]; simp
    exact wpAny_pyIter_dict (by simpa using hl) h1 (h _ ⟨rfl, by rw [hlen]; rfl⟩ rfl)
  | vdict es ep => cases hf
  | _ => cases hx
theorem iter_make_view {R : Value → Shared → Prop} {u : Addr} {cu : Obj} {es : List (Int × AV)} {ep : Nat} (hu : s.heap.get? u = some cu) (hur : ORel (.dview l) cu) (ho : s.heap.get? l = some co) (hr : ORel (.vdict es ep) co)
    (h : ∀ o, ItAt l 0 (.vdict es ep) o → o.isFreed = false → R (.ref s.heap.objs.size) { s with heap := s.heap.push o }) : wpAny (model prog g.w) A (pyIter (.ref u)) R F s := by
  obtain ⟨kvs, h1, h2⟩ := dictAt_of (g := g) (es := es) (ep := ep) ho hr
  have hlen : kvs.length = es.length := by rw [← h2]; simp
  exact wpAny_pyIter_values ⟨_, hu, by rw [hur], by rw [hur]⟩ h1 (h _ ⟨rfl, by rw [hlen]; rfl⟩ rfl)

theorem iter_next {x : AV} {R : Option Value → Shared → Prop} (ho : s.heap.get? l = some co) (hr : ORel ao co) (hx : items ao = some xs) (hi : s.heap.get? it = some o) (hio : ItAt l i ao o) (hxi : xs[i]? = some x)
    (h : ∀ v h' t' o', er v = x → h'.get? it = some o' → ItAt l (i + 1) ao o' → Heap.SameBut it s.heap h' → R (some v) { s with heap := h', toks := t' }) : wpAny (model prog g.w) A (pyNext (.ref it)) R F s := by
  cases ao with
  | list ys =>
    obtain ⟨its, k, rfl, e⟩ := hr
    cases hx
    rw [← e, List.getElem?_map, Option.map_eq_some_iff] at hxi
    obtain ⟨v, hv, hv'⟩ := hxi
    refine wpAny_pyNext_list_item ⟨_, hi, hio.1, hio.2⟩ ⟨_, ho, rfl, _, rfl⟩ (by rw [← Array.getElem?_toList]; exact hv) fun h' q hs => ?_
    obtain ⟨o', q1, q2, q3⟩ := q
    exact h v h' s.toks o' hv' q1 ⟨q2, q3⟩ hs
  | tup ys =>
    obtain ⟨its, k, rfl, e⟩ := hr
    cases hx
    rw [← e, List.getElem?_map, Option.map_eq_some_iff] at hxi
    obtain ⟨v, hv, hv'⟩ := hxi
    refine wpAny_pyNext_tuple_item ⟨_, hi, hio.1, hio.2⟩ ⟨_, ho, rfl, _, rfl⟩ (by rw [← Array.getElem?_toList]; exact hv) fun h' q hs => ?_
    obtain ⟨o', q1, q2, q3⟩ := q
    exact h v h' s.toks o' hv' q1 ⟨q2, q3⟩ hs
  | range lo hi' =>
    cases hx
    have hlt : i < (hi' - lo).toNat := by
      have := (List.getElem?_eq_some_iff.mp hxi).1
      simpa [rngI_length] using this
    rw [List.getElem?_map, rngI_get hlt] at hxi
    cases hxi
    unfold ItAt at hio
    rw [hio] at hi
    refine wpAny_pyNext_range_item hi (by omega) fun h' q hs => h _ h' _ _ rfl q ?_ hs
    show _ = _
    have e1 : lo + (i : Int) + 1 = lo + ((i + 1 : Nat) : Int) := by omega
    have e2 : ((hi' - lo).toNat : Int) - (i : Int) - 1 = ((hi' - lo).toNat : Int) - ((i + 1 : Nat) : Int) := by omega
    rw [e1, e2]
  | dict es ep =>
    obtain ⟨kvs, h1, h2⟩ := dictAt_of (g := g) ho hr
    have hlen : kvs.length = es.length := by rw [← h2]; simp
    cases hx
    rw [← h2] at hxi
    simp only [List.map_map, List.getElem?_map, Option.map_eq_some_iff] at hxi
    obtain ⟨p, hp, hp'⟩ := hxi
    refine wpAny_pyNext_dict_item (k := p.1) (v := p.2) ⟨_, hi, hio.1, by rw [hlen]; exact hio.2⟩ h1 hp fun key h' q1 q2 hs => ?_
    obtain ⟨o', z1, z2, z3⟩ := q2
    obtain ⟨t, rfl⟩ := Value.isInt_shape q1
    exact h _ h' s.toks o' hp' z1 ⟨z2, by rw [z3, hlen]⟩ hs
  | vdict es ep =>
    obtain ⟨kvs, h1, h2⟩ := dictAt_of (g := g) (es := es) (ep := ep) ho hr
    have hlen : kvs.length = es.length := by rw [← h2]; simp
    cases hx
    rw [← h2] at hxi
    simp only [List.map_map, List.getElem?_map, Option.map_eq_some_iff] at hxi
    obtain ⟨p, hp, hp'⟩ := hxi
    refine wpAny_pyNext_values_item (k := p.1) (v := p.2) ⟨_, hi, hio.1, by rw [hlen]; exact hio.2⟩ h1 hp fun h' q2 hs => ?_
    obtain ⟨o', z1, z2, z3⟩ := q2
    exact h _ h' s.toks o' hp' z1 ⟨z2, by rw [z3, hlen]⟩ hs
  | _ => cases hx

theorem iter_end {R : Option Value → Shared → Prop} (hh : A.handled = none) (ho : s.heap.get? l = some co) (hr : ORel ao co) (hx : items ao = some xs) (hi : s.heap.get? it = some o) (hio : ItAt l i ao o) (hxi : xs[i]? = none)
    (h : ∀ h', Heap.ExtBut it s.heap h' → R none { s with heap := h' }) : wpAny (model prog g.w) A (pyNext (.ref it)) R F s := by
  cases ao with
  | list ys =>
    obtain ⟨its, k, rfl, e⟩ := hr
    cases hx
    rw [← e, List.getElem?_map, Option.map_eq_none_iff] at hxi
    exact wpAny_pyNext_list_end hh ⟨_, hi, hio.1, hio.2⟩ ⟨_, ho, rfl, _, rfl⟩ (by rw [← Array.getElem?_toList]; exact hxi) h
  | tup ys =>
    obtain ⟨its, k, rfl, e⟩ := hr
    cases hx
    rw [← e, List.getElem?_map, Option.map_eq_none_iff] at hxi
    exact wpAny_pyNext_tuple_end hh ⟨_, hi, hio.1, hio.2⟩ ⟨_, ho, rfl, _, rfl⟩ (by rw [← Array.getElem?_toList]; exact hxi) h
  | range lo hi' =>
    cases hx
    have hlt : (hi' - lo).toNat ≤ i := by
      have := List.getElem?_eq_none_iff.mp hxi
      simpa [rngI_length] using this
    unfold ItAt at hio
    rw [hio] at hi
    exact wpAny_pyNext_range_end hh hi (by omega) h
  | dict es ep =>
    obtain ⟨kvs, h1, h2⟩ := dictAt_of (g := g) ho hr
    have hlen : kvs.length = es.length := by rw [← h2]; simp
    cases hx
    rw [← h2] at hxi
    simp only [List.map_map, List.getElem?_map, Option.map_eq_none_iff] at hxi
    exact wpAny_pyNext_dict_end hh ⟨_, hi, hio.1, by rw [hlen]; exact hio.2⟩ h1 hxi h
  | vdict es ep =>
    obtain ⟨kvs, h1, h2⟩ := dictAt_of (g := g) (es := es) (ep := ep) ho hr
    have hlen : kvs.length = es.length := by rw [← h2]; simp
    cases hx
    rw [← h2] at hxi
    simp only [List.map_map, List.getElem?_map, Option.map_eq_none_iff] at hxi
    exact wpAny_pyNext_values_end hh ⟨_, hi, hio.1, by rw [hlen]; exact hio.2⟩ h1 hxi h
  | _ => cases hx

theorem notFreed_of_ItAt (h : ItAt l i ao o) : o.isFreed = false := by
  obtain ⟨c, d, dt, sl⟩ := o
  cases dt <;> first | rfl | (unfold ItAt at h; split at h <;> simp_all)
end
end Mine
end

section
open PySem PySem.W PyProof.Rows PySem.Spec PySem.Calls
set_option Elab.async false
set_option maxRecDepth 100000
set_option linter.unusedVariables false
namespace Mine

/-- exceptions may pass through the frame's own loops -/
structure PassE (g : G) (A : Around) (n : En) (E : Exn) : Prop where
  own : ∀ Z e s', E Z e s' → notedBy (model prog g.w) A n.env (cameBackBy (model prog g.w) A n.env (E Z)) e s'
  thaw : ∀ Z it o e s', (∀ v, o.data ≠ .cell v) → (∀ es ep, o.data ≠ .dict es ep) → Z it = none → E (upd Z it o) e s' → E Z e s'
theorem PassE.never {g : G} {A : Around} {n : En} : PassE g A n NE := ⟨fun _ _ _ h => h.elim, fun _ _ _ _ _ _ _ _ h => h.elim⟩

section
variable {g : G} {A : Around} {n : En} {E : Exn} {σ : St} {Q : AFl → St → Prop} {pos : Pos}

theorem Rel.owned {Z : Fz} {s : Shared} {a : Addr} {ao : AO} (r : Rel g Z n σ s) (h : σ.H a = some ao) : ∃ co, s.heap.get? a = some co ∧ ORel ao co := (r.hr.objs a ao h).2.2
theorem Rel.big {Z : Fz} {s : Shared} {a : Addr} {ao : AO} (r : Rel g Z n σ s) (h : σ.H a = some ao) (hne : ∀ c t x, ao ≠ .exc c t x := by intro _ _ _ q; cases q) : 216 < a := (r.hr.objs a ao h).2.1.2.elim id fun ⟨_, _, _, q⟩ => absurd q (hne _ _ _)
theorem sysModules_small : sysModules ≤ 216 := by decide

/-- a name of the frame's own does not lie at a fresh address -/
theorem Rel.apart {Z : Fz} {s : Shared} (r : Rel g Z n σ s) {b : Addr} (hb : s.heap.get? b = none) : b ≠ n.env.locals ∧ ∀ x ∈ n.oc, n.env.cells.lookup x ≠ some b := by
  refine ⟨fun q => ?_, fun x hx q => ?_⟩
  · obtain ⟨m, ⟨o, es, ep, ho, _⟩, _⟩ := r.vars.ns
    rw [← q, hb] at ho; cases ho
  · obtain ⟨c, v₀, c1, _, _, _, _, ⟨o, c6, _⟩, _⟩ := r.vars.cell x hx
    rw [q] at c1; cases c1
    rw [hb] at c6; cases c6
theorem Rel.zfresh {Z : Fz} {s : Shared} (r : Rel g Z n σ s) {b : Addr} (hb : s.heap.get? b = none) : Z b = none ∧ g.base.get? b = none ∧ σ.H b = none := by
  refine ⟨?_, ?_, ?_⟩
  · cases q : Z b with
    | none => rfl
    | some o => obtain ⟨sl, h1, _⟩ := r.hr.keep b o q; rw [hb] at h1; cases h1
  · cases q : g.base.get? b with
    | none => rfl
    | some o => have h1 := r.hr.stay b o q; rw [hb] at h1; cases h1
  · cases q : σ.H b with
    | none => rfl
    | some o => obtain ⟨_, _, co, h1, _⟩ := r.hr.objs _ _ q; rw [hb] at h1; cases h1

/-- a garbage object changes -/
theorem Rel.garbage {Z : Fz} {s s' : Shared} {it : Addr} (r : Rel g Z n σ s) (e : Heap.ExtBut it s.heap s'.heap) (hz : Z it = none) (hb : g.base.get? it = none) (hH : σ.H it = none) (hl : it ≠ n.env.locals)
    (hc : ∀ x ∈ n.oc, n.env.cells.lookup x ≠ some it) (hg : s'.gens = s.gens := by rfl) (ho : s'.os = s.os := by rfl) : Rel g Z n σ s' := by
  refine ⟨r.hr.chg (fun b o h hx => e b o (fun q => ?_) h) hg ho, r.vars.chg (H' := σ.H) (fun b o h hx => e b o (fun q => ?_) h) fun _ _ h => h, r.fr⟩
  · subst q; rw [hz, hb, hH] at hx; simp at hx
  · subst q
    rcases hx with q | ⟨x, h1, h2⟩
    · exact hl q
    · exact hc x h1 h2

/-- after the suite of a for -/
abbrev ForT (Q : AFl → St → Prop) (J : St → Prop) : AFl → St → Prop := fun f σ₃ => match f with | .next | .cont => J σ₃ | .brk => Q .next σ₃ | .ret v => Q (.ret v) σ₃
/-- what a for is asked -/
inductive ForP (g : G) (A : Around) (n : En) (E : Exn) (x : Str) (body : List Stmt) (Q : AFl → St → Prop) (v : AV) (σ₁ : St) : Prop
  | mk (l : Addr) (ao : AO) (xs : List AV) (hv : v = .ref l) (hl : σ₁.H l = some ao) (hx : items ao = some xs) (hit : itFits ao = true) (I : Nat → St → Prop) (h0 : I 0 σ₁) (hk : ∀ i σ₂, I i σ₂ → σ₂.H l = some ao)
    (hs : ∀ i a σ₂, xs[i]? = some a → I i σ₂ → Exs g A n E body ⟨σ₂.H, upd σ₂.loc x a⟩ (ForT Q (I (i + 1)))) (he : ∀ σ₂, I xs.length σ₂ → Q .next σ₂)
inductive ForI (g : G) (Z : Fz) (n : En) (I : Nat → St → Prop) (it l : Addr) (ao : AO) (xs : List AV) (m : Nat) (s : Shared) : Prop
  | mk (i : Nat) (σ₂ : St) (o' : Obj) (r : Rel g Z n σ₂ s) (hI : I i σ₂) (hH : σ₂.H it = none) (ho : s.heap.get? it = some o') (hio : ItAt l i ao o') (hi : i ≤ xs.length) (hm : m = xs.length + 1 - i)
theorem Ex.for {x : Str} {px : Pos} {iter : Expr} {body : List Stmt}
    (h : Ev g A n E iter σ (ForP g A n E x body Q))
    (hh : A.handled = none) (hE : PassE g A n E) (hf : n.env.scope.kind = .function := by exact Mine.rfk) (hk : canStore n x = true := by exact Mine.tt0) (hs : ∀ x, foldedSetIterable iter n.env x = pure x := by intro _; rfl) :
    Ex g A n E (.For (.Name x px) iter body [] pos) σ Q := fun Z s r => by
  refine wpAny_For (wpAny_mono (h Z s r) (fun v s₁ h₁ => ?_) fun _ _ e => e) hs
  obtain ⟨σ₁, r₁, l, ao, xs, hv, hl, hx, hit, I, hI0, hIl, hI, hIe⟩ := h₁
  rw [er_ref hv]
  obtain ⟨co, ho, hr⟩ := r₁.owned hl
  refine iter_make (g := g) ho hr hx hit (fun q => ?_) fun o hio hfr => ?_
  · have h1 := r₁.big hl (fun _ _ _ q => by rw [q] at hx; cases hx); rw [q] at h1; exact absurd sysModules_small (Nat.not_le.mpr h1)
  have hnew := get?_size s₁.heap
  obtain ⟨z1, z2, z3⟩ := r₁.zfresh hnew
  obtain ⟨y1, y2⟩ := r₁.apart hnew
  generalize hitq : s₁.heap.objs.size = it at *
  have hgo : (s₁.heap.push o).get? it = some o := by rw [← hitq]; exact Heap.get?_push_size _ hfr
  refine codeAny_forLoop_any
    (ForI g Z n I it l ao xs) ?_ (xs.length + 1)
    ⟨0, σ₁, o, r₁.push _, hI0, z3, hgo, hio, Nat.zero_le _, rfl⟩
  rintro m s' ⟨i, σ₂, o', r₂, hI2, hHit, hgit, hio', hi, rfl⟩
  obtain ⟨co', ho', hr'⟩ := r₂.owned (hIl i σ₂ hI2)
  cases hxi : xs[i]? with
  | none =>
    have hlen : i = xs.length := Nat.le_antisymm hi (List.getElem?_eq_none_iff.mp hxi)
    refine iter_end (g := g) hh ho' hr' hx hgit hio' hxi fun h' he => ?_
    exact wpAny_execs_nil ⟨σ₂, r₂.garbage he z1 z2 hHit y1 y2, hIe σ₂ (hlen ▸ hI2)⟩
  | some a =>
    have hlt : i < xs.length := (List.getElem?_eq_some_iff.mp hxi).1
    refine iter_next (g := g) ho' hr' hx hgit hio' hxi fun v h' t' o'' hev hg'' hio'' hsb => ?_
    have r₃ : Rel g Z n σ₂ { s' with heap := h', toks := t' } := r₂.garbage hsb.extBut z1 z2 hHit y1 y2
    refine wpAny_pure (a := ()) ?_
    have r₄ := r₃.freeze hg'' hHit z2 y1 y2 z1
    have st : Ok g A n E (assign (.Name x px) n.env v) σ₂ fun _ σ' => σ' = ⟨σ₂.H, upd σ₂.loc x a⟩ := by
      show Ok g A n E (do standAt px; bindName n.env x v) σ₂ _
      exact Ok.bind (Ok.standAt (Ok.bindName (by rw [hev]) hf hk))
    have st := Ok.mono st (Q' := fun _ σ' => Exs g A n E body σ' (ForT Q (I (i + 1)))) fun _ σ' e => by rw [e]; exact hI i a σ₂ hxi hI2
    have pe : ∀ e s₅, E (upd Z it o'') e s₅ → notedBy (model prog g.w) A n.env (fun e s' => cameBackBy (model prog g.w) A n.env (E Z) e s') e s₅ := fun e s₅ he =>
      hE.own Z e s₅ (hE.thaw Z it o'' e s₅ hio''.notCell hio''.notFrame z1 he)
    refine wpAny_mono (st _ _ r₄) (fun _ s₅ h₅ => ?_) pe
    obtain ⟨σ₅, r₅, h₅⟩ := h₅
    refine wpAny_mono (h₅ _ _ r₅) (fun f s₆ h₆ => ?_) pe
    obtain ⟨σ₆, r₆, h₆⟩ := h₆
    have r₇ := r₆.thaw hio''.notCell z1 r.fr
    have g₆ := r₆.frozen hio''.notFrame
    have n₆ : σ₆.H it = none := by
      cases q : σ₆.H it with
      | none => rfl
      | some ao' => have := (r₆.hr.objs it ao' q).1; simp at this
    cases f with
    | next => exact ⟨xs.length + 1 - (i + 1), by (with_reducible exact turn_lt (by assumption)), i + 1, σ₆, o'', r₇, h₆, n₆, g₆, hio'', hlt, rfl⟩
    | cont => exact ⟨xs.length + 1 - (i + 1), by (with_reducible exact turn_lt (by assumption)), i + 1, σ₆, o'', r₇, h₆, n₆, g₆, hio'', hlt, rfl⟩
    | brk => exact ⟨σ₆, r₇, h₆⟩
    | ret v => exact ⟨σ₆, r₇, h₆⟩

inductive LessP (I : Nat → St → Prop) (m : Nat) (σ : St) : Prop
  | mk (m' : Nat) (h : m' < m) (q : I m' σ)
abbrev WhT (Q : AFl → St → Prop) (I : Nat → St → Prop) (m : Nat) : AFl → St → Prop := fun f σ₃ => match f with | .next | .cont => LessP I m σ₃ | .brk => Q .next σ₃ | .ret v => Q (.ret v) σ₃
/-- the two ways of a test -/
abbrev WhB (g : G) (A : Around) (n : En) (E : Exn) (body orelse : List Stmt) (Q : AFl → St → Prop) (I : Nat → St → Prop) (m : Nat) : Bool → St → Prop := fun b σ₂ => match b with
      | true => Exs g A n E body σ₂ (WhT Q I m)
      | false => Exs g A n E orelse σ₂ Q
theorem Ex.while {test : Expr} {body orelse : List Stmt} (I : Nat → St → Prop) (m : Nat) (h0 : I m σ)
    (h : ∀ m σ₁, I m σ₁ → Tst g A n E test σ₁ (WhB g A n E body orelse Q I m)) (hE : PassE g A n E) : Ex g A n E (.While test body orelse pos) σ Q := fun Z s r => by
  refine wpAny_While (codeAny_whileLoop (fun m s' => ∃ σ₁, Rel g Z n σ₁ s' ∧ I m σ₁) ?_ m ⟨σ, r, h0⟩)
  rintro m s' ⟨σ₁, r₁, hI⟩
  refine wpAny_mono (h m σ₁ hI Z s' r₁) (fun b s₂ h₂ => ?_) (fun e s₂ he => hE.own Z e s₂ he)
  obtain ⟨σ₂, r₂, h₂⟩ := h₂
  cases b with
  | true =>
    rw [if_pos rfl]
    change Exs g A n E body σ₂ _ at h₂
    refine wpAny_mono (h₂ Z s₂ r₂) (fun f s₃ h₃ => ?_) (fun e s₂ he => hE.own Z e s₂ he)
    obtain ⟨σ₃, r₃, h₃⟩ := h₃
    cases f with
    | next => obtain ⟨m', hm, hI'⟩ := h₃; exact ⟨m', hm, σ₃, r₃, hI'⟩
    | cont => obtain ⟨m', hm, hI'⟩ := h₃; exact ⟨m', hm, σ₃, r₃, hI'⟩
    | brk => exact ⟨σ₃, r₃, h₃⟩
    | ret v => exact ⟨σ₃, r₃, h₃⟩
  | false =>
    simp only [Bool.false_eq_true, if_false]
    change Exs g A n E orelse σ₂ _ at h₂
    exact wpAny_mono (h₂ Z s₂ r₂) (fun f s₃ h₃ => h₃) (fun e s₂ he => hE.own Z e s₂ he)
end
end Mine
end

section
open PySem PySem.W PyProof.Rows PySem.Spec PySem.Calls
set_option Elab.async false
set_option maxRecDepth 100000
set_option linter.unusedVariables false
namespace Mine

structure Room (A : Around) (k : Nat) : Prop where
  h : A.handled = none
  d : A.depth + k < 400
  u : A.units + 8 * k < 2000
theorem Room.mono {A : Around} {k k' : Nat} (r : Room A k) (h : k' ≤ k) : Room A k' := ⟨r.h, by have := r.d; omega, by have := r.u; omega⟩
theorem Room.deeper {A : Around} {k : Nat} {env : Env} (r : Room A (k + 1)) : Room (A.deeper env) k := ⟨r.h, by have := r.d; show A.depth + 1 + k < 400; omega, by have := r.u; show A.units + 3 + 8 * k < 2000; omega⟩
theorem Room.depth {A : Around} {k : Nat} (r : Room A k) : A.depth < recursionLimit := by have := r.d; unfold recursionLimit; omega
theorem Room.units {A : Around} {k : Nat} (r : Room A k) : A.units + 100 < cLine := by have := r.u; unfold cLine; omega

noncomputable def retv : AFl → AV
  | .ret v => v
  | _ => .none

noncomputable def cellNames (sc : Scope) : List Str := (sc.names.filter fun x => x.2 == .cell).map (·.1)
noncomputable def scopeOk (sc : Scope) : Bool := sc.names.all (fun x => x.2 != .free) && (cellNames sc).all (fun x => sc.names.lookup x == some .cell) && !sc.isCoroutine && !sc.isGenerator && sc.kind == .function

inductive Done (g : G) (H : AH) (h : Heap) (R : AV → AH → Prop) (r : Result) (s' : Shared) : Prop
  | mk (v : Value) (H' : AH) (e : r = .ok (.ret v)) (hr : HRel g (under H h) H' s') (q : R (er v) H')

noncomputable def FnOk (g : G) (k : Nat) (fa : Addr) (args : List AV) (H : AH) (R : AV → AH → Prop) : Prop :=
  ∀ A Z s cargs outer, cargs.map er = args → Room A k → A.frames = some outer → FrZ g (under H s.heap) outer → HRel g Z H s → codeAny (model prog g.w) A (.call (.ref fa) ⟨cargs, []⟩) (Done g H s.heap R) s

theorem lookup_mem_kind {x : Str} {k : NameKind} : ∀ {l : List (Str × NameKind)}, l.lookup x = some k → (x, k) ∈ l := fun h => mem_of_lookup h
theorem mem_cellNames {sc : Scope} {x : Str} (h : sc.names.lookup x = some .cell) : x ∈ cellNames sc :=
  List.mem_map.mpr ⟨(x, .cell), List.mem_filter.mpr ⟨lookup_mem_kind h, by simp⟩, rfl⟩

theorem bindL_eq {kindOf : Str → Option NameKind} {x : Str} (hx : kindOf x = some .local) : ∀ (binds : List (Str × Value)) (m : Str → Option Value), bindL kindOf binds m x = (binds.reverse.lookup x).or (m x)
  | [], m => by simp [bindL]
  | (y, v) :: r, m => by
    rw [bindL, bindL_eq hx r]
    simp only [List.reverse_cons, List.lookup_append, Option.or_assoc, List.lookup_cons, List.lookup_nil]
    congr 1
    by_cases hy : x = y
    · subst hy; simp [hx]
    · have hb : (x == y) = false := beq_eq_false_iff_ne.mpr hy
      simp only [hb]
      split <;> simp [hy]
theorem bindC_eq {kindOf : Str → Option NameKind} {x : Str} (hx : kindOf x ≠ some .local) : ∀ (binds : List (Str × Value)) (m : Str → Option Value), bindC kindOf binds m x = (binds.reverse.lookup x).or (m x)
  | [], m => by simp [bindC]
  | (y, v) :: r, m => by
    rw [bindC, bindC_eq hx r]
    simp only [List.reverse_cons, List.lookup_append, Option.or_assoc, List.lookup_cons, List.lookup_nil]
    congr 1
    by_cases hy : x = y
    · subst hy; simp [hx]
    · have hb : (x == y) = false := beq_eq_false_iff_ne.mpr hy
      simp only [hb]
      split <;> simp [hy]
theorem lookup_map_er (x : Str) : ∀ (l : List (Str × Value)), (l.map fun p => (p.1, er p.2)).lookup x = (l.lookup x).map er
  | [] => rfl
  | (y, v) :: r => by
    simp only [List.map_cons, List.lookup_cons]
    cases x == y with
    | true => rfl
    | false => exact lookup_map_er x r

/-- entering a def's frame -/
theorem enter_rel {g : G} {Z : Fz} {H : AH} {s s₁ : Shared} {fd : FuncData} {fa : Addr} {outer : List Env} {binds : List (Str × Value)} {abinds : List (Str × AV)} (r : HRel g Z H s) (hfr : FrZ g (under H s.heap) outer) (hsc : scopeOk fd.scope = true)
    (hb : binds.map (fun p => (p.1, er p.2)) = abinds)
    (x : InCallC s (callEnvC fd s.heap.objs.size fa).locals (bindL (callEnvC fd s.heap.objs.size fa).kindOf binds fun _ => none) (callEnvC fd s.heap.objs.size fa).cells (bindC (callEnvC fd s.heap.objs.size fa).kindOf binds fun _ => none) s₁) :
    Rel g (under H s.heap) ⟨callEnvC fd s.heap.objs.size fa, cellNames fd.scope, outer⟩ ⟨H, fun y => abinds.reverse.lookup y⟩ s₁ := by
  simp only [scopeOk, Bool.and_eq_true, List.all_eq_true, bne_iff_ne, beq_iff_eq, Bool.not_eq_true'] at hsc
  obtain ⟨⟨⟨⟨hfree, hcn⟩, _⟩, _⟩, _⟩ := hsc
  obtain ⟨h₁, tk, rfl, hkeep⟩ := x.done
  have kin : ∀ y, (callEnvC fd s.heap.objs.size fa).kindOf y = fd.scope.names.lookup y := fun _ => rfl
  have above : ∀ b, s.heap.objs.size ≤ b → s.heap.get? b = none := fun b hb => by
    cases q : s.heap.get? b with
    | none => rfl
    | some o => exact absurd (Heap.lt_size q) (Nat.not_lt.mpr hb)
  have fresh : ∀ b, s.heap.objs.size ≤ b → under H s.heap b = none ∧ H b = none ∧ g.base.get? b = none := fun b hb => by
    have hn := above b hb
    refine ⟨by unfold under; split <;> simp [hn], ?_, ?_⟩
    · cases q : H b with
      | none => rfl
      | some o => obtain ⟨_, _, co, h1, _⟩ := r.objs _ _ q; rw [hn] at h1; cases h1
    · cases q : g.base.get? b with
      | none => rfl
      | some o => have h1 := r.stay b o q; rw [hn] at h1; cases h1
  have lk : ∀ y v, abinds.reverse.lookup y = some v → ∃ cv, binds.reverse.lookup y = some cv ∧ er cv = v := fun y v hv => by
    rw [← hb, ← List.map_reverse, lookup_map_er, Option.map_eq_some_iff] at hv
    exact hv
  refine ⟨r.under.ext hkeep, ⟨⟨_, x.toInCall.ns, fun y v hv hk => ?_⟩, fresh _ (Nat.le_refl _), fun y hy => ?_, fun y hy z hz c h1 h2 => name_of_addr x.apart (mem_of_lookup h1) (mem_of_lookup h2), fun y v hy hv hk => ?_⟩, hfr⟩
  · obtain ⟨cv, e1, e2⟩ := lk y v hv
    exact ⟨cv, by rw [bindL_eq hk, e1]; rfl, e2⟩
  · have hk := hcn y hy
    obtain ⟨c, hc⟩ := Option.isSome_iff_exists.mp (cellsFrom_some fd.scope.names (s.heap.objs.size + 1) [] (.inl hk))
    have hab := x.above y c (mem_of_lookup hc)
    have hge : s.heap.objs.size ≤ c := Nat.le_of_lt hab
    obtain ⟨f1, f2, f3⟩ := fresh c hge
    refine ⟨c, _, hc, f1, f2, f3, Nat.ne_of_gt hab, x.cell y c hc, fun v hv => ?_⟩
    obtain ⟨cv, e1, e2⟩ := lk y v hv
    exact ⟨cv, by rw [bindC_eq (by rw [kin, hk]; simp), e1]; rfl, e2⟩
  · rcases hk with hk | hk
    · exact absurd (mem_cellNames hk) hy
    · exact absurd rfl (hfree _ (lookup_mem_kind hk))

/-- a def's frame -/
noncomputable abbrev fnEn (fd : FuncData) (L fa : Addr) (outer : List Env) : En := ⟨callEnvC fd L fa, cellNames fd.scope, outer⟩
/-- A def's contract, from its body. -/
theorem FnOk.of_body {g : G} {k : Nat} {fa : Addr} {oc : Value} {od : Option Addr} {osl : Array (Option Value)} {fd : FuncData} {args : List AV} {H : AH} {R : AV → AH → Prop} {abinds : List (Str × AV)} {body : List Stmt}
    (hK : (hd.heap_39 g.w.params).lookup fa = some ⟨oc, od, .func fd, osl⟩) (hcode : codeIn (hd.heap_39 g.w.params) fd.code fd.qualname = true) (hbody : fd.body = .stmts body) (hclo : fd.closure = []) (hsc : scopeOk fd.scope = true)
    (hb : ∀ cargs : List Value, cargs.map er = args → ∃ binds, bindArgs fd ⟨cargs, []⟩ = pure binds ∧ binds.map (fun p => (p.1, er p.2)) = abinds)
    (hkind : (abinds.all fun p => fd.scope.names.lookup p.1 == some .local || fd.scope.names.lookup p.1 == some .cell) = true)
    (h : ∀ A L outer, Room A k → A.frames = some (callEnvC fd L fa :: outer) → Exs g A (fnEn fd L fa outer) NE body ⟨H, fun y => abinds.reverse.lookup y⟩ fun f σ' => R (retv f) σ'.H) :
    FnOk g (k + 1) fa args H R := by
  intro A Z s cargs outer hargs hroom hfr hfz r
  obtain ⟨binds, hb1, hb2⟩ := hb cargs hargs
  have hsc' := hsc
  simp only [scopeOk, Bool.and_eq_true, List.all_eq_true, bne_iff_ne, beq_iff_eq, Bool.not_eq_true'] at hsc'
  have hX : (hd.heap_39 g.w.params).In s.heap := fun a o e => r.stay a o (g.kin a o e)
  refine codeAny_call_function hroom.depth (hX _ _ hK) rfl hsc'.1.1.2 hsc'.1.2 hbody (codeRec_of hX hcode) ?_
  rw [hb1, hclo]
  refine wpAny_pure (wpAny_newFunctionEnv_cells hsc'.2 ?_ fun env he s' x => ?_)
  · intro x hx
    have hm : (x.1, er x.2) ∈ abinds := by rw [← hb2]; exact List.mem_map.mpr ⟨x, hx, rfl⟩
    have := List.all_eq_true.mp hkind _ hm
    simp only [Bool.or_eq_true, beq_iff_eq] at this
    rcases this with q | q
    · exact .inl q
    · exact .inr ⟨q, cellsFrom_some fd.scope.names _ [] (.inl q)⟩
  subst he
  refine ⟨(g.nolimit.keeps r.stay).keeps x.toInCall.keep, codeAny_func ?_⟩
  have R0 := enter_rel (fa := fa) r hfz hsc hb2 x
  have hfr' : (A.deeper (callEnvC fd s.heap.objs.size fa)).frames = some (callEnvC fd s.heap.objs.size fa :: outer) := Around.frames_deeper hfr
  refine wpAny_mono (h _ s.heap.objs.size outer hroom.deeper hfr' _ _ R0) (fun f s'' hq => ?_) fun _ _ e => e.elim
  obtain ⟨σ', r', q⟩ := hq
  refine ⟨_, σ'.H, rfl, r'.hr, ?_⟩
  cases f <;> exact q

section
variable {g : G} {A : Around} {n : En} {E : Exn} {σ : St} {Q : AV → St → Prop} {pos : Pos}

/-- the frames below a callee -/
theorem Rel.frz {Z : Fz} {s : Shared} (r : Rel g Z n σ s) (hk : n.env.scope.kind = .function) (hf : n.env.frame = some n.env.locals) : FrZ g (under σ.H s.heap) (n.env :: n.outer) := by
  intro e he
  rcases List.mem_cons.mp he with rfl | he
  · obtain ⟨m, ⟨o, es, ep, ho, hd, _⟩, _⟩ := r.vars.ns
    obtain ⟨_, o2, o3⟩ := r.vars.own
    refine ⟨by rw [hk]; decide, _, o, hf, o3, by unfold under; rw [o2]; exact ho, ⟨es, ep, hd⟩⟩
  · obtain ⟨k1, L, oL, k2, k3, k4, k5⟩ := r.fr e he
    obtain ⟨sl, e1, _⟩ := r.hr.keep L oL k4
    refine ⟨k1, L, { oL with slots := sl }, k2, k3, ?_, k5⟩
    have : σ.H L = none := by
      cases q : σ.H L with
      | none => rfl
      | some ao => have := (r.hr.objs L ao q).1; rw [k4] at this; cases this
    unfold under; rw [this]; exact e1

/-- a call of a def by a contract -/
theorem Call.fn {k : Nat} {fa : Addr} {args : List AV} {R : AV → AH → Prop} (hf : FnOk g k fa args σ.H R) (hroom : Room A k) (hfr : A.frames = some (n.env :: n.outer)) (hk : n.env.scope.kind = .function) (hL : n.env.frame = some n.env.locals)
    (h : ∀ v H', R v H' → Q v ⟨H', σ.loc⟩) : Call g A n E (.ref fa) args σ Q := fun cargs ha Z s r => by
  refine wpAny_call (codeAny_mono (hf A Z s cargs _ ha hroom hfr (r.frz hk hL) r.hr) fun res s' hq => ?_)
  obtain ⟨v, H', rfl, r', q⟩ := hq
  exact ⟨_, r.back r', h _ _ q⟩

theorem Ev.global {x : Str} {v : Value} (hv : nsIn (hd.heap_39 g.w.params) mainGlobals x = some (some v)) (h : Q (er v) σ) (hf : n.env.scope.kind = .function := by exact Mine.rfk) (hgl : n.env.globals = mainGlobals := by exact Mine.rfg)
    (hk : n.env.kindOf x = some .globalImplicit := by exact Mine.rfi) (hd : (x == ("__debug__" : Str)) = false := by exact Mine.ff0) : Ev g A n E (.Name x pos) σ Q := fun Z s r =>
  Name_function_global hf hk (loadGlobal_global (env := n.env) (by rw [hgl]; exact g.gNs.keeps r.hr.stay) (mg_of g.kin g.gNs hv) ⟨σ, r, h⟩) hd
theorem Ev.builtin {x : Str} {v : Value} (hv : nsIn (hd.heap_39 g.w.params) mainGlobals x = some none) (hb : bootBuiltins x = some v) (h : Q (er v) σ) (hf : n.env.scope.kind = .function := by exact Mine.rfk) (hgl : n.env.globals = mainGlobals := by exact Mine.rfg)
    (hbl : n.env.builtins = builtinsNs := by exact Mine.rfb) (hk : n.env.kindOf x = some .globalImplicit := by exact Mine.rfi) (hd : (x == ("__debug__" : Str)) = false := by exact Mine.ff0) (hn : (x == ("__name__" : Str)) = false := by exact Mine.ff0) : Ev g A n E (.Name x pos) σ Q := fun Z s r =>
  Name_function_global hf hk (loadGlobal_builtin (env := n.env) (by rw [hgl]; exact g.gNs.keeps r.hr.stay) (mg_none_of g.kin g.gNs hv) (by rw [hbl]; exact g.bNs.keeps r.hr.stay) ((g.builtins x (by simpa using hn)).trans hb) ⟨σ, r, h⟩) hd

/-- the arguments of a call, none starred, no keyword -/
theorem Ok.evalArgs {f : Value} {es : List Expr} {P : Args → St → Prop} (h : Evs g A n E es σ fun as σ₁ => ∀ vs, vs.map er = as → P ⟨vs, []⟩ σ₁) (hs : (starEach es n.env).all (fun x => !x.1) = true := by exact Mine.tt0) :
    Ok g A n E (evalArgs f true (backTo pos (starEach es n.env)) []) σ P := by
  cases es with
  | nil => exact Ok.bind (Ok.mono (h pos) fun vs σ₁ q => Ok.bind (Ok.pure (Ok.holding (Ok.bind (Ok.pure (Ok.bind (Ok.pure (Ok.pure (q vs rfl)))))))))
  | cons e r =>
    have he : ∃ t rest, backTo pos (starEach (e :: r) n.env) = (false, t) :: rest := by
      cases q : starEach (e :: r) n.env with
      | nil => cases e <;> cases q
      | cons p l =>
        obtain ⟨b, t⟩ := p
        rw [q] at hs
        simp only [List.all_cons, Bool.and_eq_true, Bool.not_eq_true'] at hs
        have : b = false := hs.1
        subst this
        exact ⟨_, _, rfl⟩
    obtain ⟨t, rest, he⟩ := he
    have h' := h pos
    rw [he] at h' ⊢
    show Ok g A n E (spliced ((false, t) :: rest) >>= fun x => (Pure.pure (x, none) : Sem (List Value × Option Value)) >>= _) σ P
    exact Ok.bind (Ok.mono h' fun vs σ₁ q => Ok.bind (Ok.pure (Ok.holding (Ok.bind (Ok.pure (Ok.bind (Ok.pure (Ok.pure (q vs rfl)))))))))

theorem noStar_backTo {es : List Expr} (hs : (starEach es n.env).all (fun x => !x.1) = true) : (backTo pos (starEach es n.env)).any (·.1) = false := by
  unfold backTo
  rw [List.any_map]
  rw [List.any_eq_false]
  intro x hx
  have := List.all_eq_true.mp hs x hx
  simpa using this

/-- a call of a built-in function or class, or of a def of the text's -/
theorem Ok.callBuiltin {id : String} {first : List Value} {es : List Expr} {P : Value → St → Prop} (h : Evs g A n E es σ fun as σ₁ => ∀ vs, vs.map er = as → Ok g A n E (call (.builtin id) (first ++ vs)) σ₁ P) (hs : (starEach es n.env).all (fun x => !x.1) = true := by exact Mine.tt0) :
    Ok g A n E (callWith pos (.builtin id) first (backTo pos (starEach es n.env)) []) σ P := by
  unfold callWith
  refine Ok.bind (Ok.holding (Ok.mono (Ok.evalArgs (f := .builtin id) (P := fun a σ₁ => Ok g A n E (call (.builtin id) (first ++ a.pos) a.kw) σ₁ P) h hs) fun a σ₁ h₁ => Ok.bind (Ok.standAt ?_)))
  simp only [noStar_backTo hs, List.any_nil, Bool.or_false]
  exact Ok.bind (Ok.pure (Ok.bind (Ok.mono h₁ fun r σ₂ hr => Ok.bind (Ok.holding (Ok.point (Ok.pure hr))))))
theorem Ok.callType {T : String} {es : List Expr} {P : Value → St → Prop} (h : Evs g A n E es σ fun as σ₁ => ∀ vs, vs.map er = as → Ok g A n E (call (.type T) vs) σ₁ P) (hs : (starEach es n.env).all (fun x => !x.1) = true := by exact Mine.tt0) :
    Ok g A n E (callWith pos (.type T) [] (backTo pos (starEach es n.env)) []) σ P := by
  unfold callWith
  refine Ok.bind (Ok.holding (Ok.mono (Ok.evalArgs (f := .type T) (P := fun a σ₁ => Ok g A n E (call (.type T) ([] ++ a.pos) a.kw) σ₁ P) h hs) fun a σ₁ h₁ => Ok.bind (Ok.standAt ?_)))
  simp only [noStar_backTo hs, List.any_nil, Bool.or_false]
  exact Ok.bind (Ok.pure (Ok.bind (Ok.mono h₁ fun r σ₂ hr => Ok.bind (Ok.holding (Ok.point (Ok.pure hr))))))
theorem Ok.keep {α : Type} {vs : List Value} {t : Sem α} {P : α → St → Prop} (h : Ok g A n E t σ P) : Ok g A n E (t.keep vs) σ P := fun Z s r => Calls.wpAny_keep (h Z s r)
theorem Ok.callFn {fa : Addr} {oc : Value} {od : Option Addr} {osl : Array (Option Value)} {fd : FuncData} {first : List Value} {es : List Expr} {P : Value → St → Prop} (hK : (hd.heap_39 g.w.params).lookup fa = some ⟨oc, od, .func fd, osl⟩)
    (h : Evs g A n E es σ fun as σ₁ => ∀ vs, vs.map er = as → Ok g A n E (call (.ref fa) (first ++ vs)) σ₁ P) (hs : (starEach es n.env).all (fun x => !x.1) = true := by exact Mine.tt0) :
    Ok g A n E (callWith pos (.ref fa) first (backTo pos (starEach es n.env)) []) σ P := by
  unfold callWith
  refine Ok.bind (Ok.holding (Ok.mono (Ok.evalArgs (f := .ref fa) (P := fun a σ₁ => Ok g A n E (call (.ref fa) (first ++ a.pos) a.kw) σ₁ P) h hs) fun a σ₁ h₁ => Ok.bind (Ok.standAt ?_)))
  simp only [noStar_backTo hs, List.any_nil, Bool.or_false]
  refine Ok.bind (m := keeperOf (.ref fa)) (Q := _) ?_
  have tail : ∀ {t : Sem Value}, Ok g A n E t σ₁ P → Ok g A n E (t >>= fun r => PySem.holding [r] PySem.point >>= fun _ => Pure.pure r) σ₁ P :=
    fun ht => Ok.bind (Ok.mono ht fun r σ₂ hr => Ok.bind (Ok.holding (Ok.point (Ok.pure hr))))
  refine fun Z s r => ?_
  unfold keeperOf
  refine wpAny_bind (wpAny_load (r.hr.stay _ _ (g.kin _ _ hK)) (wpAny_pure ⟨σ₁, r, ?_⟩))
  dsimp only
  split <;> first
    | exact tail h₁
    | exact tail (by unfold callMarked; exact Ok.keep h₁)

theorem Ev.callName {f : Str} {fpos : Pos} {es : List Expr} {fv : Value} (hf : ∀ (P : AV → St → Prop), P (er fv) σ → Ev g A n E (.Name f fpos) σ P) (hfo : ∀ v, er v = er fv → v = fv)
    (h : Ok g A n E (callWith pos fv [] (backTo pos (starEach es n.env)) []) σ fun v σ' => Q (er v) σ') : Ev g A n E (.Call (.Name f fpos) es [] pos) σ Q := by
  show Ok g A n E (eval (.Name f fpos) n.env >>= fun fv => callWith pos fv [] (backTo pos (starEach es n.env)) (backToKw pos (keywordEach [] n.env))) σ _
  refine Ok.bind (Ok.mono (hf (fun a σ' => a = er fv ∧ σ' = σ) ⟨rfl, rfl⟩) fun v σ₁ hv => ?_)
  obtain ⟨h1, rfl⟩ := hv
  rw [hfo v h1]
  exact h
inductive FnP (g : G) (k : Nat) (fa : Addr) (Q : AV → St → Prop) (as : List AV) (σ₁ : St) : Prop
  | mk (R : AV → AH → Prop) (h : FnOk g k fa as σ₁.H R) (q : ∀ v H', R v H' → Q v ⟨H', σ₁.loc⟩)
/-- a call of a def of the text's by its name -/
theorem Ev.callDef {k : Nat} {f : Str} {fpos : Pos} {fa : Addr} {oc : Value} {od : Option Addr} {osl : Array (Option Value)} {fd : FuncData} {es : List Expr} (hv : nsIn (hd.heap_39 g.w.params) mainGlobals f = some (some (.ref fa)))
    (hK : (hd.heap_39 g.w.params).lookup fa = some ⟨oc, od, .func fd, osl⟩) (hroom : Room A k) (hfr : A.frames = some (n.env :: n.outer))
    (h : Evs g A n E es σ (FnP g k fa Q)) (hL : n.env.frame = some n.env.locals := by rfl) (hs : (starEach es n.env).all (fun x => !x.1) = true := by exact Mine.tt0)
    (hf : n.env.scope.kind = .function := by exact Mine.rfk) (hgl : n.env.globals = mainGlobals := by exact Mine.rfg) (hk : n.env.kindOf f = some .globalImplicit := by exact Mine.rfi) (hd : (f == ("__debug__" : Str)) = false := by exact Mine.ff0) :
    Ev g A n E (.Call (.Name f fpos) es [] pos) σ Q := by
  refine Ev.callName (fv := .ref fa) (fun P hP => Ev.global hv hP hf hgl hk hd) (fun v hv => er_ref hv) (Ok.callFn hK (fun p => Ok.mono (h p) fun vs σ₁ h₁ vs' e => ?_) hs)
  obtain ⟨R, hR, hq⟩ := h₁
  exact Call.fn hR hroom hfr hf hL hq vs' e
end
end Mine
end

section
open PySem PySem.W PyProof.Rows PySem.Spec PySem.Calls
set_option Elab.async false
set_option maxRecDepth 100000
set_option linter.unusedVariables false
namespace Mine
section
variable (g : G) (A : Around) (n : En) (E : Exn)
abbrev QSeq (rest : List Stmt) (Q : AFl → St → Prop) : AFl → St → Prop := fun f σ₁ => match f with | .next => Exs g A n E rest σ₁ Q | f => Q f σ₁
abbrev QIfS (b o : List Stmt) (Q : AFl → St → Prop) : Bool → St → Prop := fun c σ₁ => match c with | true => Exs g A n E b σ₁ Q | false => Exs g A n E o σ₁ Q
abbrev QRet (Q : AFl → St → Prop) : AV → St → Prop := fun v σ₁ => Q (.ret v) σ₁
abbrev QAsg (x : Str) (Q : AFl → St → Prop) : AV → St → Prop := fun v σ₁ => Q .next ⟨σ₁.H, upd σ₁.loc x v⟩
abbrev QAug (op : Operator) (v : AV) (x : Str) (Q : AFl → St → Prop) : AV → St → Prop := fun b σ₁ => Inp g A n E op v b σ₁ (QAsg x Q)
abbrev QDrop (Q : AFl → St → Prop) : AV → St → Prop := fun _ σ₁ => Q .next σ₁
end
section
variable {g : G} {A : Around} {n : En} {E : Exn} {σ : St} {Q : AFl → St → Prop} {pos : Pos}

theorem Exs.nil (h : Q .next σ) : Exs g A n E [] σ Q := show Ok g A n E (Pure.pure Flow.next) σ _ from Ok.pure h
theorem Exs.cons {st : Stmt} {rest : List Stmt} (h : Ex g A n E st σ (QSeq g A n E rest Q)) : Exs g A n E (st :: rest) σ Q := by
  refine Ok.eq (execs_cons _ _ _) (Ok.bind (Ok.mono h fun f σ₁ h₁ => ?_))
  cases f
  · exact h₁
  · exact Ok.pure (a := Flow.brk) h₁
  · exact Ok.pure (a := Flow.cont) h₁
  · exact Ok.pure (a := Flow.ret _) h₁
theorem Exs.mono {sts : List Stmt} {Q' : AFl → St → Prop} (h : Exs g A n E sts σ Q) (hq : ∀ f σ', Q f σ' → Q' f σ') : Exs g A n E sts σ Q' := Ok.mono h fun f σ' q => hq _ _ q
theorem Ev.mono {e : Expr} {P P' : AV → St → Prop} (h : Ev g A n E e σ P) (hq : ∀ f σ', P f σ' → P' f σ') : Ev g A n E e σ P' := Ok.mono h fun f σ' q => hq _ _ q
theorem Ex.pass : (h : Q .next σ) → Ex g A n E (.Pass pos) σ Q := fun h => Ok.bind (Ok.standAt (Ok.pure (a := Flow.next) h))
theorem Ex.brk (h : Q .brk σ) : Ex g A n E (.Break pos) σ Q := Ok.bind (Ok.standAt (Ok.pure (a := Flow.brk) h))
theorem Ex.cont (h : Q .cont σ) : Ex g A n E (.Continue pos) σ Q := Ok.bind (Ok.standAt (Ok.pure (a := Flow.cont) h))
theorem Ex.ret {e : Expr} (h : Ev g A n E e σ (QRet Q)) : Ex g A n E (.Return (some e) pos) σ Q :=
  Ok.eq (exec_Return_some _ _ _) (Ok.bind (Ok.standAt (Ok.bind (Ok.mono h fun v σ₁ h₁ => Ok.pure (a := Flow.ret v) h₁))))
theorem Ex.ifS {t : Expr} {b o : List Stmt} (h : Tst g A n E t σ (QIfS g A n E b o Q)) : Ex g A n E (.If t b o pos) σ Q :=
  Ok.eq (exec_If _ _ _ _ _) (Ok.bind (Ok.standAt (Ok.bind (Ok.mono h fun c σ₁ h₁ => by cases c <;> exact h₁))))
theorem Ex.assign {x : Str} {px : Pos} {e : Expr} (h : Ev g A n E e σ (QAsg x Q)) (hf : n.env.scope.kind = .function := by exact Mine.rfk) (hk : canStore n x = true := by exact Mine.tt0)
    (hs : swapsWith e (some (.Name x px)) pos.line n.env = pure false := by rfl) : Ex g A n E (.Assign [.Name x px] e pos) σ Q :=
  Ok.eq (exec_Assign_Name _ _ _ _ _ hs) (Ok.bind (Ok.standAt (Ok.bind (Ok.mono h fun v σ₁ h₁ => Ok.bind (Ok.standAt (Ok.bind (Ok.bindName (Ok.pure (a := Flow.next) h₁) hf hk)))))))
theorem Ex.aug {x : Str} {px : Pos} {op : Operator} {e : Expr} {v : AV} (hv : σ.loc x = some v) (h : Ev g A n E e σ (QAug g A n E op v x Q)) (hf : n.env.scope.kind = .function := by exact Mine.rfk) (hk : canStore n x = true := by exact Mine.tt0)
    (hk' : (isVar (n.env.kindOf x) && (!n.oc.contains x || n.env.kindOf x == some .cell) && !(x == ("__classdict__" : Str))) = true := by exact Mine.tt0) : Ex g A n E (.AugAssign (.Name x px) op e pos) σ Q := by
  simp only [Bool.and_eq_true, Bool.or_eq_true, Bool.not_eq_true'] at hk'
  obtain ⟨⟨h1, h2⟩, h3⟩ := hk'
  refine Ok.eq (exec_AugAssign_Name _ _ _ _ _ _) (Ok.bind (Ok.standAt (Ok.bind (Ok.loadName hf hv ?_ ?_ (fun cv ecv => ?_) h3))))
  · unfold isVar at h1
    split at h1
    · exact .inl (by assumption)
    · exact .inr (.inl (by assumption))
    · exact .inr (.inr (by assumption))
    · cases h1
  · rcases h2 with h2 | h2
    · exact .inl (by simpa using h2)
    · exact .inr (by simpa using h2)
  · exact Ok.bind (Ok.holding (Ok.mono h fun b σ₁ h₁ => Ok.bind (Ok.standAt (Ok.bind (Ok.operate (Ok.mono (h₁ _ _ ecv rfl) fun c σ₂ h₂ => Ok.bind (Ok.standAt (Ok.bind (Ok.bindName (Ok.pure (a := Flow.next) h₂) hf hk)))))))))
theorem Ok.letGo {P : Value → St → Prop} (h : P .none σ) : Ok g A n E (runValue (.builtin "proto.let_go" {})) σ P := fun Z s r =>
  wpAny_runValue (codeAny_builtin entry_let_go (show wpAny _ _ (ret .none) _ _ s from wpAny_pure ⟨σ, r, h⟩))
theorem Ex.expr {e : Expr} (h : Ev g A n E e σ (QDrop Q)) (hi : interactive n.env = false := by exact Mine.ff0) (hs : swapsWith e none pos.line n.env = pure false := by rfl) : Ex g A n E (.Expr e pos) σ Q := by
  refine Ok.eq (exec_Expr _ _ _ hi hs) (Ok.bind (Ok.standAt (Ok.bind (Ok.mono h fun v σ₁ h₁ => ?_))))
  unfold dropValue
  split
  · exact Ok.pure (a := Flow.next) h₁
  · exact Ok.bind (Ok.standAt (Ok.bind (Ok.letGo (Ok.pure (a := Flow.next) h₁))))
  · exact Ok.pure (a := Flow.next) h₁

theorem Inp.add {a b : Int} {P : AV → St → Prop} (h : P (.int (a + b)) σ) : Inp g A n E .Add (.int a) (.int b) σ P := fun _ _ e f Z s r => by
  obtain ⟨t, rfl⟩ := er_int e; obtain ⟨u, rfl⟩ := er_int f; exact PyProof.Rows.iadd_int ⟨σ, r.toks, h⟩
theorem Inp.sub {a b : Int} {P : AV → St → Prop} (h : P (.int (a - b)) σ) : Inp g A n E .Sub (.int a) (.int b) σ P := fun _ _ e f Z s r => by
  obtain ⟨t, rfl⟩ := er_int e; obtain ⟨u, rfl⟩ := er_int f; exact PyProof.Rows.isub_int ⟨σ, r.toks, h⟩
end
end Mine
end

section
open PySem PySem.W PyProof.Rows PySem.Spec PySem.Calls
set_option Elab.async false
set_option maxRecDepth 100000
set_option linter.unusedVariables false
namespace Mine

/-! what an abstract value reads as -/
mutual
inductive ARd (H : AH) : AV → PyData → Prop
  | none : ARd H .none .none
  | bool (b) : ARd H (.bool b) (.bool b)
  | int (i) : ARd H (.int i) (.int i)
  | str (x) : ARd H (.str x) (.str x)
  | list {a xs ds} : H a = some (.list xs) → ARdAll H xs ds → ARd H (.ref a) (.list ds)
  | tup {a xs ds} : H a = some (.tup xs) → ARdAll H xs ds → ARd H (.ref a) (.tuple ds)
inductive ARdAll (H : AH) : List AV → List PyData → Prop
  | nil : ARdAll H [] []
  | cons {x xs d ds} : ARd H x d → ARdAll H xs ds → ARdAll H (x :: xs) (d :: ds)
end

section
variable {g : G} {A : Around} {n : En} {E : Exn} {σ : St} {Q : AV → St → Prop} {pos : Pos}

mutual
theorem ARd.reads {Z : Fz} {H : AH} {s : Shared} (r : HRel g Z H s) : ∀ {a : AV} {d : PyData}, ARd H a d → ∀ {v : Value}, er v = a → ∃ as, Reads s.heap v d as
  | _, _, .none, v, e => by rw [er_none e]; exact ⟨_, .none⟩
  | _, _, .bool b, v, e => by rw [er_bool e]; exact ⟨_, .bool b⟩
  | _, _, .int i, v, e => by obtain ⟨t, rfl⟩ := er_int e; exact ⟨_, .int i t⟩
  | _, _, .str i, v, e => by obtain ⟨t, rfl⟩ := er_str e; exact ⟨_, .str i t⟩
  | _, _, .list h1 h2, v, e => by
    rw [er_ref e]
    obtain ⟨_, _, co, h3, items, k, rfl, hm⟩ := r.objs _ _ h1
    obtain ⟨as, h4⟩ := ARdAll.reads r h2 hm
    exact ⟨_, .list h3 rfl rfl h4⟩
  | _, _, .tup h1 h2, v, e => by
    rw [er_ref e]
    obtain ⟨_, _, co, h3, items, k, rfl, hm⟩ := r.objs _ _ h1
    obtain ⟨as, h4⟩ := ARdAll.reads r h2 hm
    exact ⟨_, .tuple h3 rfl rfl h4⟩
theorem ARdAll.reads {Z : Fz} {H : AH} {s : Shared} (r : HRel g Z H s) : ∀ {xs : List AV} {ds : List PyData}, ARdAll H xs ds → ∀ {vs : List Value}, vs.map er = xs → ∃ as, ReadsAll s.heap vs ds as
  | _, _, .nil, vs, e => by
    cases vs with
    | nil => exact ⟨_, .nil⟩
    | cons v vs => simp at e
  | _, _, .cons h1 h2, vs, e => by
    cases vs with
    | nil => simp at e
    | cons v vs =>
      simp only [List.map_cons, List.cons.injEq] at e
      obtain ⟨as, q1⟩ := ARd.reads r h1 e.1
      obtain ⟨bs, q2⟩ := ARdAll.reads r h2 e.2
      exact ⟨_, .cons q1 q2⟩
end

theorem ARdAll.ints {H : AH} : ∀ (ns : List Int), ARdAll H (ns.map .int) (ns.map .int)
  | [] => .nil
  | i :: r => .cons (.int i) (ARdAll.ints r)
theorem ARdAll.strs {H : AH} : ∀ (ns : List Str), ARdAll H (ns.map .str) (ns.map .str)
  | [] => .nil
  | i :: r => .cons (.str i) (ARdAll.strs r)

theorem Cmp.eqDeep {a b : AV} {da db : PyData} (ha : ARd σ.H a da) (hb : ARd σ.H b db) (la : da.canLay0 = true) (lb : db.canLay0 = true) (hd : da.depth ≤ 20) (hu : A.units + 20 < cLine) (h : Q (.bool (PyData.eqv da db)) σ) : Cmp g A n E .Eq a b σ Q := fun ca cb e f Z s r => by
  obtain ⟨as, ra⟩ := ha.reads r.hr e
  obtain ⟨bs, rb⟩ := hb.reads r.hr f
  exact SeqAt.compareEq_reads ra rb la lb (by have := Nat.min_le_left da.depth db.depth; omega) ⟨σ, r, h⟩
theorem Cmp.neDeep {a b : AV} {da db : PyData} (ha : ARd σ.H a da) (hb : ARd σ.H b db) (la : da.canLay0 = true) (lb : db.canLay0 = true) (hd : da.depth ≤ 20) (hu : A.units + 20 < cLine) (h : Q (.bool (!PyData.eqv da db)) σ) : Cmp g A n E .NotEq a b σ Q := fun ca cb e f Z s r => by
  obtain ⟨as, ra⟩ := ha.reads r.hr e
  obtain ⟨bs, rb⟩ := hb.reads r.hr f
  exact SeqAt.compareNe_reads ra rb la lb (by have := Nat.min_le_left da.depth db.depth; omega) ⟨σ, r, h⟩

theorem one_arg {l : List Value} {a : AV} (h : l.map er = [a]) : ∃ c, l = [c] ∧ er c = a := by
  match l, h with
  | [c], h => simp only [List.map_cons, List.map_nil, List.cons.injEq, and_true] at h; exact ⟨c, rfl, h⟩
  | _ :: _ :: _, h => simp at h
theorem two_args {l : List Value} {a b : AV} (h : l.map er = [a, b]) : ∃ c d, l = [c, d] ∧ er c = a ∧ er d = b := by
  match l, h with
  | [c, d], h => simp only [List.map_cons, List.map_nil, List.cons.injEq, and_true] at h; exact ⟨c, d, rfl, h⟩
  | [_], h => simp at h
  | _ :: _ :: _ :: _, h => simp at h
theorem three_args {l : List Value} {a b x : AV} (h : l.map er = [a, b, x]) : ∃ c d e, l = [c, d, e] ∧ er c = a ∧ er d = b ∧ er e = x := by
  match l, h with
  | [c, d, e], h => simp only [List.map_cons, List.map_nil, List.cons.injEq, and_true] at h; exact ⟨c, d, e, rfl, h⟩
  | [_], h => simp at h
  | [_, _], h => simp at h
  | _ :: _ :: _ :: _ :: _, h => simp at h

/-! lists -/
theorem Rel.listAt {Z : Fz} {s : Shared} {l : Addr} {xs : List AV} (r : Rel g Z n σ s) (h : σ.H l = some (.list xs)) : ∃ items k, s.heap.get? l = some ⟨.type "list", none, .seq items k, #[]⟩ ∧ items.toList.map er = xs := by
  obtain ⟨co, h1, items, k, rfl, h2⟩ := r.owned h
  exact ⟨items, k, h1, h2⟩
theorem Rel.tupAt {Z : Fz} {s : Shared} {l : Addr} {xs : List AV} (r : Rel g Z n σ s) (h : σ.H l = some (.tup xs)) : ∃ items k, s.heap.get? l = some ⟨.type "tuple", none, .seq items k, #[]⟩ ∧ items.toList.map er = xs := by
  obtain ⟨co, h1, items, k, rfl, h2⟩ := r.owned h
  exact ⟨items, k, h1, h2⟩
theorem size_of_map {items : Array Value} {xs : List AV} (h : items.toList.map er = xs) : items.size = xs.length := by rw [← h]; simp
theorem get_of_map {items : Array Value} {xs : List AV} {i : Nat} {x : AV} (h : items.toList.map er = xs) (hx : xs[i]? = some x) : ∃ v, items[i]? = some v ∧ er v = x := by
  rw [← h, List.getElem?_map, Option.map_eq_some_iff] at hx
  simpa using hx

theorem SubT.list {v sl : Expr} {l : Addr} {xs : List AV} {k : Int} {x : AV} (hl : σ.H l = some (.list xs)) (h0 : 0 ≤ k) (hx : xs[k.toNat]? = some x) (hlen : xs.length ≤ 1000000) (h : Q x σ)
    (hs : ∀ o i, subscripted sl false o i = operate [o, i] (getItem o i) := by intros; rfl) : SubT g A n E v sl (.ref l) (.int k) σ Q := fun co ci e f Z s r => by
  rw [er_ref e]; obtain ⟨t, rfl⟩ := er_int f
  obtain ⟨items, m, h1, h2⟩ := r.listAt hl
  obtain ⟨y, hy, ey⟩ := get_of_map h2 hx
  have hlt := (List.getElem?_eq_some_iff.mp hx).1
  exact tail_any (T := "list") ⟨_, h1, rfl⟩ slot_list_getitem.lookup (wpAny_getItem_list ⟨_, h1, rfl, _, rfl⟩ h0 (by omega) hy ⟨σ, r, by subst ey; exact h⟩) (hs _ _)
theorem SubT.listNeg {v sl : Expr} {l : Addr} {xs : List AV} {k : Int} {x : AV} (hl : σ.H l = some (.list xs)) (h0 : k < 0) (h1 : -(xs.length : Int) ≤ k) (hx : xs[(k + xs.length).toNat]? = some x) (hlen : xs.length ≤ 1000000) (h : Q x σ)
    (hs : ∀ o i, subscripted sl false o i = operate [o, i] (getItem o i) := by intros; rfl) : SubT g A n E v sl (.ref l) (.int k) σ Q := fun co ci e f Z s r => by
  rw [er_ref e]; obtain ⟨t, rfl⟩ := er_int f
  obtain ⟨items, m, h2, h3⟩ := r.listAt hl
  obtain ⟨y, hy, ey⟩ := get_of_map h3 hx
  have hsz := size_of_map h3
  exact tail_any (T := "list") ⟨_, h2, rfl⟩ slot_list_getitem.lookup (wpAny_getItem_list_neg ⟨_, h2, rfl, _, rfl⟩ h0 (by rw [hsz]; exact h1) (by omega) (by rw [hsz]; exact hy) ⟨σ, r, by subst ey; exact h⟩) (hs _ _)
theorem SubT.tuple {v sl : Expr} {l : Addr} {xs : List AV} {k : Int} {x : AV} (hl : σ.H l = some (.tup xs)) (h0 : 0 ≤ k) (hx : xs[k.toNat]? = some x) (hlen : xs.length ≤ 1000000) (h : Q x σ)
    (hs : ∀ o i, subscripted sl false o i = operate [o, i] (getItem o i) := by intros; rfl) : SubT g A n E v sl (.ref l) (.int k) σ Q := fun co ci e f Z s r => by
  rw [er_ref e]; obtain ⟨t, rfl⟩ := er_int f
  obtain ⟨items, m, h1, h2⟩ := r.tupAt hl
  obtain ⟨y, hy, ey⟩ := get_of_map h2 hx
  have hlt := (List.getElem?_eq_some_iff.mp hx).1
  have hsz := size_of_map h2
  refine tail_any (T := "tuple") ⟨_, h1, rfl⟩ F.slot_tuple_getitem.lookup (P.getItem_tuple (k := k.toNat) h1 (by omega) (by omega) ?_ hy ⟨σ, r, by subst ey; exact h⟩) (hs _ _)
  unfold seqIndex?
  have : ¬ k < 0 := by omega
  simp only [this, if_false]
  have h3 : k < items.size := by rw [hsz]; omega
  simp [h0, h3]
theorem SubT.str {v sl : Expr} {x : Str} {k : Int} {c : Nat} (h0 : 0 ≤ k) (hx : x.cps[k.toNat]? = some c) (hlen : x.length ≤ 1000000) (h : Q (.str ⟨#[c]⟩) σ)
    (hs : ∀ o i, subscripted sl false o i = operate [o, i] (getItem o i) := by intros; rfl) : SubT g A n E v sl (.str x) (.int k) σ Q := fun co ci e f Z s r => by
  obtain ⟨u, rfl⟩ := er_str e; obtain ⟨t, rfl⟩ := er_int f
  have hlt : k.toNat < x.cps.size := by
    rcases Array.getElem?_eq_some_iff.mp hx with ⟨h1, _⟩; exact h1
  have hxl : x.cps.size = x.length := rfl
  refine tail_any (T := "str") (typeIs_str s x u) F.slot_str_getitem.lookup (PyProof.Rows.getItem_str ?_ ?_ ⟨σ, r.toks, h⟩) (hs _ _)
  · simp only [Bool.or_eq_false_iff, decide_eq_false_iff_not]; omega
  · unfold seqIndex?
    have : ¬ k < 0 := by omega
    simp only [this, if_false]
    have h3 : k < x.length := by omega
    simp [h0, h3, hx]

abbrev QSlL (Q : AV → St → Prop) : AV → St → Prop := fun a σ₁ => ∀ b, σ₁.H b = none → Q (.ref b) ⟨upd σ₁.H b (.slice a .none), σ₁.loc⟩
abbrev QSlH (Q : AV → St → Prop) : AV → St → Prop := fun a σ₁ => ∀ b, σ₁.H b = none → Q (.ref b) ⟨upd σ₁.H b (.slice .none a), σ₁.loc⟩
abbrev QCall (g : G) (A : Around) (n : En) (E : Exn) (f : Value) (Q : AV → St → Prop) : List AV → St → Prop := fun as σ₁ => Call g A n E f as σ₁ Q
abbrev QMeth (g : G) (A : Around) (n : En) (E : Exn) (f : Value) (v : AV) (Q : AV → St → Prop) : List AV → St → Prop := fun as σ₁ => Call g A n E f (v :: as) σ₁ Q
abbrev QAnd2 (g : G) (A : Around) (n : En) (E : Exn) (b : Expr) (Q : AV → St → Prop) (v : AV) : Bool → St → Prop := fun c σ₂ => match c with | true => Ev g A n E b σ₂ Q | false => Q v σ₂
abbrev QOr2 (g : G) (A : Around) (n : En) (E : Exn) (b : Expr) (Q : AV → St → Prop) (v : AV) : Bool → St → Prop := fun c σ₂ => match c with | true => Q v σ₂ | false => Ev g A n E b σ₂ Q
abbrev QAnd1 (g : G) (A : Around) (n : En) (E : Exn) (b : Expr) (Q : AV → St → Prop) : AV → St → Prop := fun v σ₁ => Tru g A n E v σ₁ (QAnd2 g A n E b Q v)
abbrev QOr1 (g : G) (A : Around) (n : En) (E : Exn) (b : Expr) (Q : AV → St → Prop) : AV → St → Prop := fun v σ₁ => Tru g A n E v σ₁ (QOr2 g A n E b Q v)
/-- slices of lists -/
theorem Ev.sliceLo {lo : Expr} (h : Ev g A n E lo σ (QSlL Q)) : Ev g A n E (.Slice (some lo) none none pos) σ Q := by
  show Ok g A n E (eval lo n.env >>= fun l => holding [l] (pure Value.none) >>= fun u => holding [l, u] (pure Value.none) >>= fun st => newFields "slice" [l, u, st]) σ _
  refine Ok.bind (Ok.mono h fun a σ₁ h₁ => Ok.bind (Ok.holding (Ok.pure (Ok.bind (Ok.holding (Ok.pure ?_))))))
  exact Ok.newObj (ao := .slice (er a) .none) (co := { cls := .type "slice", data := .fields #[a, .none, .none] }) ⟨_, _, rfl, rfl, rfl⟩ rfl (fun s R F q => by unfold newFields; exact wpAny_newObj_type q (show (3 : Nat) ≤ _ from by decide)) h₁
theorem Ev.sliceHi {hi : Expr} (h : Ev g A n E hi σ (QSlH Q)) : Ev g A n E (.Slice none (some hi) none pos) σ Q := by
  show Ok g A n E (pure Value.none >>= fun l => holding [l] (eval hi n.env) >>= fun u => holding [l, u] (pure Value.none) >>= fun st => newFields "slice" [l, u, st]) σ _
  refine Ok.bind (Ok.pure (Ok.bind (Ok.holding (Ok.mono h fun a σ₁ h₁ => Ok.bind (Ok.holding (Ok.pure ?_))))))
  exact Ok.newObj (ao := .slice .none (er a)) (co := { cls := .type "slice", data := .fields #[.none, a, .none] }) ⟨_, _, rfl, rfl, rfl⟩ rfl (fun s R F q => by unfold newFields; exact wpAny_newObj_type q (show (3 : Nat) ≤ _ from by decide)) h₁
theorem SubT.sliceLo {v : Expr} {lo : Option Expr} {p : Pos} {l b : Addr} {xs : List AV} {k : Nat} (hl : σ.H l = some (.list xs)) (hb : σ.H b = some (.slice (.int k) .none)) (hk : k ≤ xs.length) (hlen : xs.length ≤ 1000000)
    (h : ∀ a, σ.H a = none → Q (.ref a) ⟨upd σ.H a (.list (xs.drop k)), σ.loc⟩) : SubT g A n E v (.Slice lo none none p) (.ref l) (.ref b) σ Q := fun co ci e f Z s r => by
  rw [er_ref e, er_ref f]
  obtain ⟨items, m, h2, h3⟩ := r.listAt hl
  obtain ⟨co', h4, x, y, rfl, ex, ey⟩ := r.owned hb
  obtain ⟨t, rfl⟩ := er_int ex
  rw [er_none ey] at h4
  have hsz := size_of_map h3
  have hz : items.size ≤ sizeLine := by rw [hsz]; exact Nat.le_trans hlen (by decide)
  refine tail_any (T := "list") ⟨_, h2, rfl⟩ slot_list_getitem.lookup (wpAny_getItem_list_slice ⟨_, h2, rfl, _, rfl⟩ ⟨_, h4, rfl, rfl⟩ (.int _ _) .none .none (by simp) ⟨_, r.alloc (ao := .list (xs.drop k)) ?_ rfl, h _ r.fresh⟩ hz) rfl
  exact ⟨_, _, rfl, by rw [slicePick_from items k (by rw [hsz]; exact hk), ← h3, List.map_drop]⟩

/-! in -/
theorem any_ints {items : Array Value} {ns : List Int} {k : Int} {u : Tok} (h : items.toList.map er = ns.map .int) :
    (∀ y, y ∈ items → MeetsSeq.EqGives y (.int k u) (match y with | .int i _ => i == k | _ => false)) ∧ items.any (fun y => match y with | .int i _ => i == k | _ => false) = ns.contains k := by
  have key : ∀ (l : List Value) (ns : List Int), l.map er = ns.map .int → (∀ y ∈ l, ∃ i t, y = .int i t) ∧ l.any (fun y => match y with | .int i _ => i == k | _ => false) = ns.contains k := by
    intro l
    induction l with
    | nil => intro ns h; cases ns with
      | nil => exact ⟨fun _ hy => (nomatch hy), rfl⟩
      | cons p q => simp at h
    | cons v l ih => intro ns h; cases ns with
      | nil => simp at h
      | cons p q =>
        simp only [List.map_cons, List.cons.injEq] at h
        obtain ⟨t, rfl⟩ := er_int h.1
        obtain ⟨h1, h2⟩ := ih q h.2
        refine ⟨fun y hy => ?_, ?_⟩
        · rcases List.mem_cons.mp hy with rfl | hy
          · exact ⟨_, _, rfl⟩
          · exact h1 y hy
        · rw [List.any_cons, h2, List.contains_cons]
          have : (p == k) = (k == p) := by rw [Bool.eq_iff_iff]; simp only [beq_iff_eq]; exact eq_comm
          simp only [this]
  obtain ⟨h1, h2⟩ := key items.toList ns h
  refine ⟨fun y hy => ?_, by rw [← h2, ← Array.any_toList]⟩
  obtain ⟨i, t, rfl⟩ := h1 y (by simpa using hy)
  exact MeetsSeq.EqGives.int i k t u
theorem Cmp.inInts {l : Addr} {ns : List Int} {k : Int} (hl : σ.H l = some (.list (ns.map .int))) (h : Q (.bool (ns.contains k)) σ) : Cmp g A n E .In (.int k) (.ref l) σ Q := fun ca cb e f Z s r => by
  rw [er_ref f]; obtain ⟨t, rfl⟩ := er_int e
  obtain ⟨items, m, h1, h2⟩ := r.listAt hl
  obtain ⟨q1, q2⟩ := any_ints (k := k) (u := t) h2
  exact SeqInW.in_listW _ q1 ⟨_, h1, rfl, _, rfl⟩ ⟨σ, r, by rw [q2]; exact h⟩
theorem Cmp.notInInts {l : Addr} {ns : List Int} {k : Int} (hl : σ.H l = some (.list (ns.map .int))) (h : Q (.bool (!ns.contains k)) σ) : Cmp g A n E .NotIn (.int k) (.ref l) σ Q := fun ca cb e f Z s r => by
  rw [er_ref f]; obtain ⟨t, rfl⟩ := er_int e
  obtain ⟨items, m, h1, h2⟩ := r.listAt hl
  obtain ⟨q1, q2⟩ := any_ints (k := k) (u := t) h2
  exact SeqInW.notIn_listW _ q1 ⟨_, h1, rfl, _, rfl⟩ ⟨σ, r, by rw [q2]; exact h⟩

/-! + of lists, len, append, extend -/
theorem Bin.addList {l b : Addr} {xs ys : List AV} (hl : σ.H l = some (.list xs)) (hb : σ.H b = some (.list ys)) (hlen : xs.length + ys.length ≤ 1000000) (h : ∀ a, σ.H a = none → Q (.ref a) ⟨upd σ.H a (.list (xs ++ ys)), σ.loc⟩) :
    Bin g A n E .Add (.ref l) (.ref b) σ Q := fun ca cb e f Z s r => by
  rw [er_ref e, er_ref f]
  obtain ⟨i1, m1, h1, e1⟩ := r.listAt hl
  obtain ⟨i2, m2, h2, e2⟩ := r.listAt hb
  have s1 := size_of_map e1
  have s2 := size_of_map e2
  refine P.add_list h1 h2 ⟨_, r.alloc (ao := .list (xs ++ ys)) ⟨_, _, rfl, by simp [e1, e2]⟩ rfl, h _ r.fresh⟩ (by rw [s1, s2]; exact Nat.le_trans hlen (by decide))
theorem Call.len {l : Addr} {xs : List AV} (hl : σ.H l = some (.list xs)) (hlen : xs.length ≤ 1000000) (h : Q (.int xs.length) σ) : Call g A n E (.builtin "len") [.ref l] σ Q := fun cargs ha Z s r => by
    obtain ⟨c, rfl, h1⟩ := one_arg ha
    rw [er_ref h1]
    obtain ⟨i1, m1, h1, e1⟩ := r.listAt hl
    have s1 := size_of_map e1
    exact Calls.call_len_list ⟨_, h1, rfl, _, rfl⟩ (by omega) ⟨σ, r.toks, by show Q (.int (i1.size : Nat)) σ; rw [s1]; exact h⟩
theorem Rel.setList {Z : Fz} {s : Shared} {l : Addr} {xs ys : List AV} {items : Array Value} {k : Nat} {f : Array Value → Array Value} {t : Nat} (r : Rel g Z n σ s) (hl : σ.H l = some (.list xs)) (ho : s.heap.get? l = some ⟨.type "list", none, .seq items k, #[]⟩)
    (hf : (f items).toList.map er = ys) : Rel g Z n ⟨upd σ.H l (.list ys), σ.loc⟩ { s with heap := s.heap.update l (Obj.mapSeq f), toks := t } :=
  r.set hl (Heap.SameBut.update ..).extBut (Heap.get?_update_self _ ho rfl) ⟨_, _, rfl, hf⟩
theorem Call.append {l : Addr} {xs : List AV} {x : AV} (hl : σ.H l = some (.list xs)) (hlen : xs.length ≤ 1000000) (h : Q .none ⟨upd σ.H l (.list (xs ++ [x])), σ.loc⟩) : Call g A n E (.builtin "list.append") [.ref l, x] σ Q := fun cargs ha Z s r => by
    obtain ⟨c, d, rfl, hab⟩ := two_args ha
    rw [er_ref hab.1]
    obtain ⟨i1, m1, h1, e1⟩ := r.listAt hl
    have s1 := size_of_map e1
    exact call_meets F.slot_list_append ⟨_, h1, rfl⟩ F.entry_list_append (F.args_list_append_2 _ _) (list_append l i1 m1 d (by rw [s1]; exact Nat.le_trans hlen (by decide))) ⟨h1, _, r.setList (t := s.toks) hl h1 (by simp [e1, hab.2]), h⟩
theorem Call.extend {l b : Addr} {xs ys : List AV} (hl : σ.H l = some (.list xs)) (hb : σ.H b = some (.list ys)) (hlen : xs.length + ys.length ≤ 1000000) (h : Q .none ⟨upd σ.H l (.list (xs ++ ys)), σ.loc⟩) : Call g A n E (.builtin "list.extend") [.ref l, .ref b] σ Q := fun cargs ha Z s r => by
    obtain ⟨c, d, rfl, hab⟩ := two_args ha
    rw [er_ref hab.1, er_ref hab.2]
    obtain ⟨i1, m1, h1, e1⟩ := r.listAt hl
    obtain ⟨i2, m2, h2, e2⟩ := r.listAt hb
    have s1 := size_of_map e1
    have s2 := size_of_map e2
    have hz : i1.size + i2.size ≤ 1000000 := by rw [s1, s2]; exact hlen
    have big : (1000000 : Nat) ≤ sizeLine := by decide
    refine call_meets F.slot_list_extend ⟨_, h1, rfl⟩ F.entry_list_extend (F.args_list_extend_2 _ _) (AutoSeq1.list_extend_list_list_0 l i1 m1 b i2 m2 ?_ (by omega) (by (with_reducible exact Nat.le_trans (by assumption) (by decide)))) ⟨h1, h2, _, r.setList (t := s.toks) hl h1 (by simp [e1, e2]), h⟩
    unfold Builtin.List.listTooLong
    simp
    omega

/-! methods of built-in types -/
structure MethOf (T id : String) (name : Str) : Prop where
  pa : PlainAttrs T
  slot : Slot T name id
  ty : typeOf (.builtin id) = pure (.type "method_descriptor")
abbrev TypeAt (g : G) (n : En) (σ₁ : St) (v : AV) (T : String) : Prop := ∀ cv Z s, er cv = v → Rel g Z n σ₁ s → s.TypeIs cv T ∧ ∀ a, cv = .ref a → ∃ ob, s.heap.get? a = some ob ∧ ob.dict = none
inductive MetP (g : G) (A : Around) (n : En) (E : Exn) (name : Str) (es : List Expr) (Q : AV → St → Prop) (v : AV) (σ₁ : St) : Prop
  | mk (T id : String) (m : MethOf T id name) (t : TypeAt g n σ₁ v T) (h : Evs g A n E es σ₁ (QMeth g A n E (.builtin id) v Q))
theorem Ev.method {o : Expr} {name : Str} {apos : Pos} {es : List Expr} (h : Ev g A n E o σ (MetP g A n E name es Q))
    (hbase : attributeBase o name n.env (eval o n.env) = eval o n.env := by rfl) (hline : (apos.endLine == pos.line) = true := by exact Mine.tt0) (hs : (starEach es n.env).all (fun x => !x.1) = true := by exact Mine.tt0)
    (hfew : ((backTo pos (starEach es n.env)).all (fun x => !x.1) && (backToKw pos (keywordEach [] n.env)).all (fun x => x.1.isSome) && decide (es.length + ([] : List Keyword).length + (if ([] : List Keyword).isEmpty then 0 else 1) < 30)) = true := by exact Mine.tt0) :
    Ev g A n E (.Call (.Attribute o name apos) es [] pos) σ Q := fun Z s r => by
  refine wpAny_Call_method_lateS hbase hfew hline (wpAny_mono (h Z s r) (fun cv s₁ h₁ => ?_) fun _ _ e => e)
  obtain ⟨σ₁, r₁, T, id, m, hT, hc⟩ := h₁
  obtain ⟨t1, t2⟩ := hT cv Z s₁ rfl r₁
  refine ⟨T, id, m.pa, m.slot, m.ty, t1, t2, ?_⟩
  exact Ok.callBuiltin (first := [cv]) (fun p => Ok.mono (hc p) fun vs σ₂ h₂ vs' e => h₂ (cv :: vs') (by simp [e])) hs Z s₁ r₁
theorem meth_append : MethOf "list" "list.append" "append" := ⟨F.plainAttrs_list, F.slot_list_append, F.type_list_append⟩
theorem meth_extend : MethOf "list" "list.extend" "extend" := ⟨F.plainAttrs_list, F.slot_list_extend, F.type_list_extend⟩
theorem listType {l : Addr} {xs : List AV} (hl : σ.H l = some (.list xs)) : ∀ cv Z s, er cv = .ref l → Rel g Z n σ s → s.TypeIs cv "list" ∧ ∀ a, cv = .ref a → ∃ ob, s.heap.get? a = some ob ∧ ob.dict = none := fun cv Z s e r => by
  rw [er_ref e]
  obtain ⟨i1, m1, h1, e1⟩ := r.listAt hl
  exact ⟨⟨_, h1, rfl⟩, fun a q => by cases q; exact ⟨_, h1, rfl⟩⟩
end
end Mine
namespace Mine
section
variable {g : G} {A : Around} {n : En} {E : Exn} {σ : St} {Q : AV → St → Prop} {pos : Pos}
theorem Ev.and2 {a b : Expr} (h : Ev g A n E a σ (QAnd1 g A n E b Q)) : Ev g A n E (.BoolOp .And [a, b] pos) σ Q := by
  show Ok g A n E (do
    let v ← eval a n.env
    standAt pos
    let t ← holding [v] (truthy v)
    match BoolOp.And, t with
    | .And, false | .Or, true => pure v
    | _, _ => eval b n.env) σ _
  refine Ok.bind (Ok.mono h fun v σ₁ h₁ => Ok.bind (Ok.standAt (Ok.bind (Ok.holding (Ok.mono (h₁ v rfl) fun c σ₂ h₂ => ?_)))))
  cases c
  · exact Ok.pure h₂
  · exact h₂
theorem Ev.or2 {a b : Expr} (h : Ev g A n E a σ (QOr1 g A n E b Q)) : Ev g A n E (.BoolOp .Or [a, b] pos) σ Q := by
  show Ok g A n E (do
    let v ← eval a n.env
    standAt pos
    let t ← holding [v] (truthy v)
    match BoolOp.Or, t with
    | .And, false | .Or, true => pure v
    | _, _ => eval b n.env) σ _
  refine Ok.bind (Ok.mono h fun v σ₁ h₁ => Ok.bind (Ok.standAt (Ok.bind (Ok.holding (Ok.mono (h₁ v rfl) fun c σ₂ h₂ => ?_)))))
  cases c
  · exact h₂
  · exact Ok.pure h₂
/-- a call of a built-in function by its name -/
theorem Ev.callB {f : Str} {fpos : Pos} {id : String} {es : List Expr} (hv : nsIn (hd.heap_39 g.w.params) mainGlobals f = some none) (hb : bootBuiltins f = some (.builtin id))
    (h : Evs g A n E es σ (QCall g A n E (.builtin id) Q)) (hs : (starEach es n.env).all (fun x => !x.1) = true := by exact Mine.tt0) (hf : n.env.scope.kind = .function := by exact Mine.rfk) (hgl : n.env.globals = mainGlobals := by exact Mine.rfg)
    (hbl : n.env.builtins = builtinsNs := by exact Mine.rfb) (hk : n.env.kindOf f = some .globalImplicit := by exact Mine.rfi) (hd : (f == ("__debug__" : Str)) = false := by exact Mine.ff0) (hn : (f == ("__name__" : Str)) = false := by exact Mine.ff0) :
    Ev g A n E (.Call (.Name f fpos) es [] pos) σ Q :=
  Ev.callName (fv := .builtin id) (fun P hP => Ev.builtin hv hb hP hf hgl hbl hk hd hn) (fun v hv => er_other hv) (Ok.callBuiltin (first := []) (fun p => Ok.mono (h p) fun vs σ₁ h₁ vs' e => h₁ vs' e) hs)
theorem Ev.callT {f : Str} {fpos : Pos} {T : String} {es : List Expr} (hv : nsIn (hd.heap_39 g.w.params) mainGlobals f = some none) (hb : bootBuiltins f = some (.type T))
    (h : Evs g A n E es σ (QCall g A n E (.type T) Q)) (hs : (starEach es n.env).all (fun x => !x.1) = true := by exact Mine.tt0) (hf : n.env.scope.kind = .function := by exact Mine.rfk) (hgl : n.env.globals = mainGlobals := by exact Mine.rfg)
    (hbl : n.env.builtins = builtinsNs := by exact Mine.rfb) (hk : n.env.kindOf f = some .globalImplicit := by exact Mine.rfi) (hd : (f == ("__debug__" : Str)) = false := by exact Mine.ff0) (hn : (f == ("__name__" : Str)) = false := by exact Mine.ff0) :
    Ev g A n E (.Call (.Name f fpos) es [] pos) σ Q :=
  Ev.callName (fv := .type T) (fun P hP => Ev.builtin hv hb hP hf hgl hbl hk hd hn) (fun v hv => er_other hv) (Ok.callType (fun p => Ok.mono (h p) fun vs σ₁ h₁ vs' e => h₁ vs' e) hs)
theorem Call.range1 {k : Int} (h : ∀ a, σ.H a = none → Q (.ref a) ⟨upd σ.H a (.range 0 k), σ.loc⟩) : Call g A n E (.type "range") [.int k] σ Q := fun cargs ha Z s r => by
  obtain ⟨c, rfl, h1⟩ := one_arg ha
  obtain ⟨t, rfl⟩ := er_int h1
  exact call_range_1 ⟨_, (r.alloc (ao := .range 0 k) ⟨_, _, _, rfl⟩ rfl).toks, h _ r.fresh⟩
theorem Call.range2 {j k : Int} (h : ∀ a, σ.H a = none → Q (.ref a) ⟨upd σ.H a (.range j k), σ.loc⟩) : Call g A n E (.type "range") [.int j, .int k] σ Q := fun cargs ha Z s r => by
  obtain ⟨c, d, rfl, h1, h2⟩ := two_args ha
  obtain ⟨t, rfl⟩ := er_int h1
  obtain ⟨u, rfl⟩ := er_int h2
  exact call_range_2 ⟨_, (r.alloc (ao := .range j k) ⟨_, _, _, rfl⟩ rfl).toks, h _ r.fresh⟩
end
end Mine
end

section
open PySem PySem.W PyProof.Rows PySem.Spec PySem.Calls
set_option Elab.async false
set_option maxRecDepth 100000
set_option linter.unusedVariables false
namespace Mine

/-! the closure of a comprehension's block -/
noncomputable def clOf (env : Env) : List (Str × NameKind) → List (Str × Addr) → List (Str × Addr)
  | [], acc => acc
  | (x, k) :: r, acc => if k == .free then clOf env r ((x, (env.cells.lookup x).getD 0) :: acc) else clOf env r acc
theorem closure_loop {env : Env} (f : Str × NameKind → List (Str × Addr) → Sem (ForInStep (List (Str × Addr))))
    (hf : ∀ x k cs, f (x, k) cs = if k == .free then (do let a ← cellOf env x; pure (.yield ((x, a) :: cs))) else pure (.yield cs)) :
    ∀ (names : List (Str × NameKind)) (acc : List (Str × Addr)), (∀ x, (x, NameKind.free) ∈ names → (env.cells.lookup x).isSome = true) → forIn names acc f = pure (clOf env names acc)
  | [], acc, _ => by rw [List.forIn_nil]; rfl
  | (x, k) :: r, acc, h => by
    rw [List.forIn_cons, hf]
    unfold clOf
    have hr : ∀ y, (y, NameKind.free) ∈ r → (env.cells.lookup y).isSome = true := fun y hy => h y (.tail _ hy)
    by_cases hk : (k == NameKind.free) = true
    · rw [if_pos hk, if_pos hk]
      have : k = .free := by simpa using hk
      subst this
      obtain ⟨c, hc⟩ := Option.isSome_iff_exists.mp (h x (.head _))
      have : cellOf env x = pure c := by unfold cellOf; rw [hc]
      rw [this, hc]
      simp only [pure_bind]
      exact closure_loop f hf r _ hr
    · rw [if_neg hk, if_neg hk]
      simp only [pure_bind]
      exact closure_loop f hf r _ hr
theorem closureFor_eq {scope : Scope} {env : Env} (h : ∀ x, (x, NameKind.free) ∈ scope.names → (env.cells.lookup x).isSome = true) : closureFor scope env = pure (clOf env scope.names []) := by
  simp only [closureFor]
  rw [closure_loop (env := env) _ (fun x k cs => by cases hk : k == NameKind.free <;> simp [hk]) scope.names [] h]
  rfl
theorem clOf_lookup {env : Env} {x : Str} : ∀ (names : List (Str × NameKind)) (acc : List (Str × Addr)), (clOf env names acc).lookup x = if (x, NameKind.free) ∈ names then some ((env.cells.lookup x).getD 0) else acc.lookup x
  | [], acc => by simp [clOf]
  | (y, k) :: r, acc => by
    unfold clOf
    by_cases hk : (k == NameKind.free) = true
    · have : k = .free := by simpa using hk
      subst this
      rw [if_pos hk, clOf_lookup r]
      by_cases hr : (x, NameKind.free) ∈ r
      · simp [hr]
      · by_cases hx : x = y
        · subst hx; simp [hr]
        · have : (x == y) = false := beq_eq_false_iff_ne.mpr hx
          simp [hr, hx, List.lookup_cons, this]
    · have hne : k ≠ .free := by simpa using hk
      rw [if_neg hk, clOf_lookup r]
      have : (x, NameKind.free) ∈ ((y, k) :: r) ↔ (x, NameKind.free) ∈ r := by
        constructor
        · intro q
          rcases List.mem_cons.mp q with q | q
          · exact absurd (Prod.mk.inj q).2.symm hne
          · exact q
        · exact fun q => .tail _ q
      simp only [this]

theorem cellsFrom_append : ∀ (names : List (Str × NameKind)) (m : Nat) (acc : List (Str × Addr)), cellsFrom m names acc = cellsFrom m names [] ++ acc
  | [], _, _ => rfl
  | (x, k) :: r, m, acc => by
    unfold cellsFrom
    split
    · rw [cellsFrom_append r _ ((x, m) :: acc), cellsFrom_append r _ [(x, m)]]; simp
    · exact cellsFrom_append r _ acc
theorem cellsFrom_none {x : Str} : ∀ (names : List (Str × NameKind)) (m : Nat), (x, NameKind.cell) ∉ names → (cellsFrom m names []).lookup x = none
  | [], _, _ => rfl
  | (y, k) :: r, m, h => by
    unfold cellsFrom
    have hr : (x, NameKind.cell) ∉ r := fun q => h (.tail _ q)
    split
    · rename_i hk
      have : k = .cell := by simpa using hk
      subst this
      rw [cellsFrom_append, List.lookup_append, cellsFrom_none r _ hr]
      have : (x == y) = false := beq_eq_false_iff_ne.mpr fun q => h (by rw [q]; exact .head _)
      simp [List.lookup_cons, this]
    · exact cellsFrom_none r _ hr

theorem relabel_lookup {scope : Scope} {env : Env} {x : Str} : (relabel scope env).names.lookup x = (scope.names.lookup x).map fun k => if (k == .free && env.scope.kind == .function && env.kindOf x == some .cell) then .cell else k := by
  unfold relabel
  dsimp only
  generalize scope.names = names
  induction names with
  | nil => rfl
  | cons p r ih =>
    obtain ⟨y, k⟩ := p
    by_cases hc : (k == NameKind.free && env.scope.kind == .function && env.kindOf y == some .cell) = true
    · simp only [List.map_cons, hc, if_true, List.lookup_cons]
      by_cases hx : x = y
      · subst hx; simp only [beq_self_eq_true, Option.map_some, hc, if_true]
      · have : (x == y) = false := beq_eq_false_iff_ne.mpr hx
        simp only [this]; exact ih
    · rw [Bool.not_eq_true] at hc
      simp only [List.map_cons, hc, Bool.false_eq_true, if_false, List.lookup_cons]
      by_cases hx : x = y
      · subst hx; simp only [beq_self_eq_true, Option.map_some, hc, Bool.false_eq_true, if_false]
      · have : (x == y) = false := beq_eq_false_iff_ne.mpr hx
        simp only [this]; exact ih

theorem newCompEnv {M : Model} {A : Around} {E : Value → Shared → Prop} {s : Shared} {scope : Scope} {cl : List (Str × Addr)} {env : Env} {R : Env → Shared → Prop}
    (h : R (newEnv scope s.heap.objs.size env.globals (cellsFrom (s.heap.objs.size + 1) scope.names cl) env.qual none .none (some env) builtinsNs)
      { s with heap := pushCells (s.heap.push { cls := .type "dict", data := .dict #[] }) scope.names }) :
    wpAny M A (newFunctionEnv scope env.globals cl [] env.qual none .none (some env)) R E s := by
  simp only [newFunctionEnv, Option.isSome_some, if_true]
  refine wpAny_bind (wpAny_alloc ?_)
  refine wpAny_bind (wpAny_layCells _ (fun name kind cells => by cases hkc : kind == NameKind.cell <;> simp [hkc]) _ _ _ _ ?_)
  rw [show ({ s with heap := s.heap.push { cls := .type "dict", data := .dict #[] } } : Shared).heap.objs.size = s.heap.objs.size + 1 from Heap.size_push ..]
  exact wpAny_bind (wpAny_pure (wpAny_pure h))

noncomputable abbrev compEn (n : En) (scope : Scope) (L : Addr) (cells : List (Str × Addr)) : En := ⟨compEnvC scope cells L n.env, cellNames scope, n.outer⟩
noncomputable def cloc (scope : Scope) (loc : Str → Option AV) : Str → Option AV := fun y => if scope.names.lookup y == some .free then loc y else none
noncomputable def compOk (n : En) (scope : Scope) : Bool := scope.names.all (fun p => scope.names.lookup p.1 == some p.2) && scope.kind == .function && scope.names.all (fun p => p.2 != .free || n.oc.contains p.1 || n.env.kindOf p.1 == some .cell || n.env.kindOf p.1 == some .free)
noncomputable def compBound (n : En) (scope : Scope) (loc : Str → Option AV) : Bool := scope.names.all fun p => p.2 != .free || n.oc.contains p.1 || (loc p.1).isSome

section
variable {g : G} {A : Around} {n : En} {E : Exn} {σ : St} {s : Shared} {Z : Fz} {scope : Scope}

theorem comp_closed (r : Rel g Z n σ s) (hc : compOk n scope = true) (hb : compBound n scope σ.loc = true) : ∀ x, (x, NameKind.free) ∈ scope.names → (n.env.cells.lookup x).isSome = true := by
  intro x hx
  simp only [compOk, compBound, Bool.and_eq_true, List.all_eq_true, Bool.or_eq_true, bne_iff_ne, beq_iff_eq, List.contains_eq_mem, decide_eq_true_eq] at hc hb
  have h1 := hb _ hx
  have h2 := hc.2 _ hx
  by_cases ho : x ∈ n.oc
  · obtain ⟨c, v₀, c1, _⟩ := r.vars.cell x ho
    rw [c1]; rfl
  · obtain ⟨v, hv⟩ := Option.isSome_iff_exists.mp ((h1.resolve_left fun q => q.elim (fun q => q rfl) fun q => ho q))
    have hk : n.env.kindOf x = some .cell ∨ n.env.kindOf x = some .free := by
      rcases h2 with ((q | q) | q) | q
      · exact absurd rfl q
      · exact absurd q ho
      · exact .inl q
      · exact .inr q
    obtain ⟨c, o, cv, c1, _⟩ := r.vars.free x v ho hv hk
    rw [c1]; rfl

/-- the block of a comprehension, entered -/
theorem comp_enter {s₃ : Shared} (r : Rel g Z n σ s) (hc : compOk n scope = true) (hcl : ∀ x, (x, NameKind.free) ∈ scope.names → (n.env.cells.lookup x).isSome = true) (hext : ∀ b o, s.heap.get? b = some o → s₃.heap.get? b = some o) (hsz : s.heap.objs.size ≤ s₃.heap.objs.size) (hg : s₃.gens = s.gens) (ho : s₃.os = s.os) :
    Rel g (under σ.H s.heap) (compEn n scope s₃.heap.objs.size (cellsFrom (s₃.heap.objs.size + 1) scope.names (clOf n.env scope.names []))) ⟨σ.H, cloc scope σ.loc⟩ { s₃ with heap := pushCells (s₃.heap.push { cls := .type "dict", data := .dict #[] }) scope.names } := by
  simp only [compOk, Bool.and_eq_true, List.all_eq_true, Bool.or_eq_true, bne_iff_ne, beq_iff_eq, List.contains_eq_mem, decide_eq_true_eq] at hc
  obtain ⟨⟨hlk, hkind⟩, hfr⟩ := hc
  have hlk' : ∀ x k, (x, k) ∈ scope.names → scope.names.lookup x = some k := fun x k hx => hlk _ hx
  have hk4 : ∀ b o, s.heap.get? b = some o → (pushCells (s₃.heap.push { cls := .type "dict", data := .dict #[] }) scope.names).get? b = some o := fun b o e => pushCells_keeps _ _ b o (Heap.get?_push_of_some _ (hext b o e))
  have above : ∀ b, s.heap.objs.size ≤ b → s.heap.get? b = none := fun b hb => by
    cases q : s.heap.get? b with
    | none => rfl
    | some o => exact absurd (Heap.lt_size q) (Nat.not_lt.mpr hb)
  have fresh : ∀ b, s.heap.objs.size ≤ b → under σ.H s.heap b = none ∧ σ.H b = none ∧ g.base.get? b = none := fun b hb => by
    have hn := above b hb
    obtain ⟨z1, z2, z3⟩ := r.zfresh hn
    exact ⟨by unfold under; split <;> simp [hn], z3, z2⟩
  have ok := cellsFrom_ok scope.names (s₃.heap.push { cls := .type "dict", data := .dict #[] }) (s₃.heap.objs.size + 1) [] ⟨fun _ _ hm => (nomatch hm), List.Pairwise.nil⟩ (by rw [Heap.size_push]; exact Nat.le_refl _)
  rw [Heap.size_push] at ok
  have own : ∀ x, x ∈ cellNames scope → ∃ c, (cellsFrom (s₃.heap.objs.size + 1) scope.names (clOf n.env scope.names [])).lookup x = some c ∧ (x, c) ∈ cellsFrom (s₃.heap.objs.size + 1) scope.names [] := fun x hx => by
    obtain ⟨p, hp, rfl⟩ := List.mem_map.mp hx
    have hp' := List.mem_filter.mp hp
    have : p.2 = .cell := by simpa using hp'.2
    have hl := hlk' p.1 p.2 hp'.1
    rw [this] at hl
    obtain ⟨c, hc⟩ := Option.isSome_iff_exists.mp (cellsFrom_some scope.names (s₃.heap.objs.size + 1) [] (.inl hl))
    exact ⟨c, by rw [cellsFrom_append, List.lookup_append, hc]; rfl, mem_of_lookup hc⟩
  have kin : ∀ y, (compEn n scope s₃.heap.objs.size (cellsFrom (s₃.heap.objs.size + 1) scope.names (clOf n.env scope.names []))).env.kindOf y = (relabel scope n.env).names.lookup y := fun _ => rfl
  refine ⟨⟨hg.trans r.hr.gens, ho.trans r.hr.os, fun b o e => hk4 b o (r.hr.stay b o e), (r.hr.under.keep).ext fun b o e _ => hk4 b o e, fun a o ha => ?_⟩, ⟨⟨_, (Heap.Ns.new s₃.heap (.type "dict")).keeps (pushCells_keeps _ _), fun y v hv hk => ?_⟩, fresh _ hsz, fun y hy => ?_, fun y hy z hz c h1 h2 => ?_, fun y v hy hv hk => ?_⟩, fun e he => ?_⟩
  · obtain ⟨y1, y2, co, y3, y4⟩ := r.hr.under.objs a o ha
    exact ⟨y1, y2, co, hk4 _ _ y3, y4⟩
  · rw [kin, relabel_lookup] at hk
    change cloc scope σ.loc y = some v at hv
    unfold cloc at hv
    split at hv
    · rename_i q
      have q : scope.names.lookup y = some .free := by simpa using q
      rw [q] at hk
      simp only [Option.map_some, Option.some.injEq] at hk
      split at hk <;> cases hk
    · cases hv
  · obtain ⟨c, h1, h2⟩ := own y hy
    have hge : s₃.heap.objs.size + 1 ≤ c := (ok.empty y c h2).2
    obtain ⟨f1, f2, f3⟩ := fresh c (by omega)
    refine ⟨c, none, h1, f1, f2, f3, fun q => ?_, (ok.empty y c h2).1, fun v hv => ?_⟩
    · have q' : c = s₃.heap.objs.size := q
      rw [q'] at hge; exact absurd hge (Nat.not_succ_le_self _)
    · change cloc scope σ.loc y = some v at hv
      unfold cloc at hv
      obtain ⟨p, hp, rfl⟩ := List.mem_map.mp hy
      have hp' := List.mem_filter.mp hp
      have : p.2 = .cell := by simpa using hp'.2
      have hl := hlk' p.1 p.2 hp'.1
      rw [this] at hl
      rw [hl] at hv
      simp at hv
  · obtain ⟨c1, a1, b1⟩ := own y hy
    obtain ⟨c2, a2, b2⟩ := own z hz
    change (cellsFrom (s₃.heap.objs.size + 1) scope.names (clOf n.env scope.names [])).lookup y = some c at h1
    change (cellsFrom (s₃.heap.objs.size + 1) scope.names (clOf n.env scope.names [])).lookup z = some c at h2
    rw [a1] at h1; cases h1
    rw [a2] at h2; cases h2
    exact name_of_addr ok.apart b1 b2
  · change cloc scope σ.loc y = some v at hv
    unfold cloc at hv
    split at hv
    · rename_i q
      have q : scope.names.lookup y = some .free := by simpa using q
      have hmem := lookup_mem_kind q
      have hnc : (y, NameKind.cell) ∉ scope.names := fun z => by have := hlk' _ _ z; rw [q] at this; cases this
      have hlook : (cellsFrom (s₃.heap.objs.size + 1) scope.names (clOf n.env scope.names [])).lookup y = some ((n.env.cells.lookup y).getD 0) := by
        rw [cellsFrom_append, List.lookup_append, cellsFrom_none _ _ hnc, clOf_lookup]; simp [hmem]
      by_cases hoc : y ∈ n.oc
      · obtain ⟨c, v₀, c1, c2, c3, c4, c5, ⟨oc, c6, c6'⟩, c7⟩ := r.vars.cell y hoc
        obtain ⟨cv, rfl, e⟩ := c7 v hv
        exact ⟨c, oc, cv, by rw [c1] at hlook; exact hlook, by unfold under; rw [c3]; exact c6, c6', e⟩
      · have hk' : n.env.kindOf y = some .cell ∨ n.env.kindOf y = some .free := by
          rcases hfr _ hmem with ((q | q) | q) | q
          · exact absurd rfl q
          · exact absurd q hoc
          · exact .inl q
          · exact .inr q
        obtain ⟨c, o, cv, c1, c2, c3, c4⟩ := r.vars.free y v hoc hv hk'
        obtain ⟨sl, e1, _⟩ := r.hr.keep c o c2
        have hHc : σ.H c = none := by
          cases q : σ.H c with
          | none => rfl
          | some ao => have := (r.hr.objs c ao q).1; rw [c2] at this; cases this
        exact ⟨c, { o with slots := sl }, cv, by rw [c1] at hlook; exact hlook, by unfold under; rw [hHc]; exact e1, c3, c4⟩
    · cases hv
  · obtain ⟨k1, L, oL, k2, k3, k4, k5⟩ := r.fr e he
    obtain ⟨sl, e1, _⟩ := r.hr.keep L oL k4
    refine ⟨k1, L, { oL with slots := sl }, k2, k3, ?_, k5⟩
    have : σ.H L = none := by
      cases q : σ.H L with
      | none => rfl
      | some ao => have := (r.hr.objs L ao q).1; rw [k4] at this; cases this
    unfold under; rw [this]; exact e1
end
end Mine
end

section
open PySem PySem.W PyProof.Rows PySem.Spec PySem.Calls
set_option Elab.async false
set_option maxRecDepth 100000
set_option linter.unusedVariables false
namespace Mine

section
variable {g : G} {A : Around} {n : En} {E : Exn} {σ : St} {s : Shared} {Z : Fz} {scope : Scope}

theorem Rel.weaken {H : AH} {loc loc0 : Str → Option AV} (r : Rel g Z n ⟨H, loc⟩ s) (h : ∀ y v, loc0 y = some v → loc y = some v) : Rel g Z n ⟨H, loc0⟩ s := by
  obtain ⟨hr, ⟨⟨m, v1, v1'⟩, v2, v3, v4, v5⟩, fr⟩ := r
  refine ⟨hr, ⟨⟨m, v1, fun y v hv hk => v1' y v (h y v hv) hk⟩, v2, fun y hy => ?_, v4, fun y v hy hv hk => v5 y v hy (h y v hv) hk⟩, fr⟩
  obtain ⟨c, v₀, c1, c2, c3, c4, c5, c6, c7⟩ := v3 y hy
  exact ⟨c, v₀, c1, c2, c3, c4, c5, c6, fun v hv => c7 v (h y v hv)⟩

/-- a garbage address, as far as the block is concerned -/
structure Gar (g : G) (Z : Fz) (n : En) (a : Addr) : Prop where
  z : Z a = none
  b : g.base.get? a = none
  l : a ≠ n.env.locals
  c : ∀ x ∈ n.oc, n.env.cells.lookup x ≠ some a
theorem Gar.freeze {a b : Addr} {o : Obj} (h : Gar g Z n a) (hab : a ≠ b) : Gar g (upd Z b o) n a := ⟨by rw [upd_ne hab]; exact h.z, h.b, h.l, h.c⟩
theorem Rel.frz' {a : Addr} {o : Obj} (r : Rel g Z n σ s) (h : Gar g Z n a) (ha : s.heap.get? a = some o) (hH : σ.H a = none) : Rel g (upd Z a o) n σ s := r.freeze ha hH h.b h.l h.c h.z
theorem Rel.gar {a : Addr} {s' : Shared} (r : Rel g Z n σ s) (h : Gar g Z n a) (hH : σ.H a = none) (e : Heap.ExtBut a s.heap s'.heap) (hg : s'.gens = s.gens := by rfl) (ho : s'.os = s.os := by rfl) : Rel g Z n σ s' := r.garbage e h.z h.b hH h.l h.c hg ho
theorem Rel.notH {a : Addr} {o : Obj} (r : Rel g (upd Z a o) n σ s) : σ.H a = none := by
  cases q : σ.H a with
  | none => rfl
  | some ao => have := (r.hr.objs a ao q).1; simp at this

/-- the tests of a clause -/
noncomputable def Its (g : G) (A : Around) (n : En) (E : Exn) (ifs : List Expr) (σ : St) (B : Bool → St → Prop) : Prop :=
  Ok g A n E (forIn ifs true fun c r => if r = true then do let ok ← isTrue c n.env (eval c n.env); pure (ForInStep.yield ok) else pure (ForInStep.yield r)) σ B
theorem Its.nil {B : Bool → St → Prop} (h : B true σ) : Its g A n E [] σ B := show Ok g A n E (pure true) σ B from Ok.pure h
theorem Its.one {c : Expr} {B : Bool → St → Prop} (h : Tst g A n E c σ B) : Its g A n E [c] σ B := by
  unfold Its
  simp only [List.forIn_cons, List.forIn_nil, if_true]
  exact Ok.bind (Ok.bind (Ok.mono h fun b σ' hb => Ok.pure (Ok.pure hb)))

abbrev TurnEq (elt : Expr) (gens : List Comprehension) (scope : Scope) (pos : Pos) (d : Nat) (p : Pos) (x : Str) (px : Pos) (ifs : List Expr) : Prop := ∀ (it acc : Value) (env : Env),
  compTurn (.ListComp elt gens scope pos) d it acc env = (do
      standAt p
      match ← pyNext it with
      | none => pure (.done .next)
      | some v =>
        letOwnedTupleGo (.Name x px) it v
        assign (.Name x px) env v
        let mut ok := true
        for c in ifs do
          if ok then ok ← isTrue c env (eval c env)
        if ok then
          (do let _ ← call (.builtin "list.append") [acc, ← eval elt env])
        again (.compLoop (.ListComp elt gens scope pos) d it acc env))

theorem iter_again {A : Around} {F : Value → Shared → Prop} {R : Value → Shared → Prop} {l it : Addr} {i : Nat} {ao : AO} {o : Obj} (hi : s.heap.get? it = some o) (hio : ItAt l i ao o) (h : R (.ref it) s) : wpAny (model prog g.w) A (pyIter (.ref it)) R F s := by
  cases ao with
  | list ys => exact wpAny_pyIter_listiter ⟨_, hi, hio.1, hio.2⟩ h
  | tup ys => exact wpAny_pyIter_tupleiter ⟨_, hi, hio.1, hio.2⟩ h
  | range lo hi' => unfold ItAt at hio; rw [hio] at hi; exact wpAny_pyIter_rangeiter hi h
  | dict es ep => exact wpAny_pyIter_keyiter ⟨_, hi, hio.1, hio.2⟩ h
  | vdict es ep => exact wpAny_pyIter_valiter ⟨_, hi, hio.1, hio.2⟩ h
  | _ => exact hio.elim

/-- what an element of a comprehension is asked, and a turn of it -/
inductive EltP (loc1 : Str → Option AV) (I : List AV → AH → Prop) (ys : List AV) (y : AV) (σ₃ : St) : Prop
  | mk (e : σ₃.loc = loc1) (q : I (ys ++ [y]) σ₃.H)
inductive TurnP (g : G) (A : Around) (n : En) (elt : Expr) (loc1 : Str → Option AV) (I : List AV → AH → Prop) (ys : List AV) (b : Bool) (σ₂ : St) : Prop
  | mk (e : σ₂.loc = loc1) (q : match b with | true => Ev g A n NE elt σ₂ (EltP loc1 I ys) | false => I ys σ₂.H)
inductive LoopI (g : G) (Z : Fz) (n : En) (loc0 : Str → Option AV) (I : Nat → List AV → AH → Prop) (D it l : Addr) (ao : AO) (xs : List AV) (m : Nat) (s : Shared) : Prop
  | mk (i : Nat) (ys : List AV) (H : AH) (oD o' : Obj) (r : Rel g Z n ⟨H, loc0⟩ s) (gD : s.heap.get? D = some oD) (oDr : ORel (.list ys) oD) (nD : H D = none) (git : s.heap.get? it = some o') (hio : ItAt l i ao o') (nit : H it = none) (hI : I i ys H) (hi : i ≤ xs.length)
    (hm : m = xs.length + 1 - i)
abbrev TurnsP (g : G) (A : Around) (n : En) (ifs : List Expr) (elt : Expr) (x : Str) (loc0 : Str → Option AV) (I : Nat → List AV → AH → Prop) (xs : List AV) : Prop :=
  ∀ i a ys H, xs[i]? = some a → I i ys H → Its g A n NE ifs ⟨H, upd loc0 x a⟩ (TurnP g A n elt (upd loc0 x a) (I (i + 1)) ys)
/-- the innermost loop of a list comprehension -/
theorem comp_last {elt : Expr} {gens : List Comprehension} {scope : Scope} {pos p px : Pos} {d : Nat} {x : Str} {ifs : List Expr} {R : Result → Shared → Prop} {loc0 : Str → Option AV} {D it l : Addr} {ao : AO} {xs : List AV} {I : Nat → List AV → AH → Prop}
    (heq : TurnEq elt gens scope pos d p x px ifs) (hh : A.handled = none) (hf : n.env.scope.kind = .function) (hk : canStore n x = true) (hx0 : loc0 x = none) (hD : Gar g Z n D) (hit : Gar g Z n it) (hne : it ≠ D)
    (hx : items ao = some xs) (hIl : ∀ i ys H, I i ys H → H l = some ao ∧ ys.length ≤ 1000000)
    (hI : TurnsP g A n ifs elt x loc0 I xs)
    (hR : ∀ ys H s' oD, Rel g Z n ⟨H, loc0⟩ s' → s'.heap.get? D = some oD → ORel (.list ys) oD → H D = none → I xs.length ys H → R (.ok .next) s')
    {i : Nat} {ys : List AV} {H : AH} {oD o : Obj} (r : Rel g Z n ⟨H, loc0⟩ s) (gD : s.heap.get? D = some oD) (oDr : ORel (.list ys) oD) (nD : H D = none) (git : s.heap.get? it = some o) (hio : ItAt l i ao o) (nit : H it = none) (hI0 : I i ys H) (hi : i ≤ xs.length) :
    codeAny (model prog g.w) A (.compLoop (.ListComp elt gens scope pos) d (.ref it) (.ref D) n.env) R s := by
  refine codeAny_loop rfl (LoopI g Z n loc0 I D it l ao xs) ?_ (xs.length + 1 - i)
    ⟨i, ys, H, oD, o, r, gD, oDr, nD, git, hio, nit, hI0, hi, rfl⟩
  clear hio git nit hI0 hi r gD oDr nD
  rintro m s' ⟨i, ys, H, oD, o', r, gD, oDr, nD, git, hio, nit, hI0, hi, rfl⟩
  show wpAny _ A ((compTurn (.ListComp elt gens scope pos) d (.ref it) (.ref D) n.env).onRaise (fun x => do noteFrame x n.env; theTreesLotGoes x)) _ _ s'
  refine wpAny_noted ?_
  rw [heq]
  refine wpAny_bind (wpAny_standAt (wpAny_bind ?_))
  obtain ⟨hl, hlen⟩ := hIl i ys H hI0
  obtain ⟨co, ho, hr⟩ := r.owned hl
  cases hxi : xs[i]? with
  | none =>
    have hleneq : i = xs.length := Nat.le_antisymm hi (List.getElem?_eq_none_iff.mp hxi)
    refine iter_end (g := g) hh ho hr hx git hio hxi fun h' he => wpAny_pure ?_
    exact hR ys H _ oD (r.gar hit nit he) (he D oD (Ne.symm hne) gD) oDr nD (hleneq ▸ hI0)
  | some a =>
    have hlt : i < xs.length := (List.getElem?_eq_some_iff.mp hxi).1
    refine iter_next (g := g) ho hr hx git hio hxi fun v h' t' o'' hev hg'' hio'' hsb => ?_
    have r₃ : Rel g Z n ⟨H, loc0⟩ { s' with heap := h', toks := t' } := r.gar hit nit hsb.extBut
    have gD₃ : h'.get? D = some oD := (hsb.2 D (Ne.symm hne)).trans gD
    refine wpAny_bind (wpAny_pure (a := ()) ?_)
    have r₄ := (r₃.frz' hit hg'' nit).frz' (hD.freeze (Ne.symm hne)) gD₃ nD
    have st : Ok g A n NE (assign (.Name x px) n.env v) ⟨H, loc0⟩ fun _ σ' => σ' = ⟨H, upd loc0 x a⟩ := by
      show Ok g A n NE (do standAt px; bindName n.env x v) _ _
      exact Ok.bind (Ok.standAt (Ok.bindName (by rw [hev]) hf hk))
    have oDc : (∀ v, oD.data ≠ .cell v) ∧ (∀ es ep, oD.data ≠ .dict es ep) := by
      obtain ⟨its, k, rfl, _⟩ := oDr
      exact ⟨fun v q => (by cases q), fun _ _ q => (by cases q)⟩
    have thaw : ∀ {σ' : St} {s₉ : Shared}, Rel g (upd (upd Z it o'') D oD) n σ' s₉ → Rel g Z n σ' s₉ ∧ s₉.heap.get? D = some oD ∧ s₉.heap.get? it = some o'' ∧ σ'.H D = none ∧ σ'.H it = none := fun {σ' s₉} q => by
      have q1 := q.frozen oDc.2
      have q2 := q.notH
      have fr' : FrZ g (upd Z it o'') n.outer := (r₃.frz' hit hg'' nit).fr
      have q3 := q.thaw oDc.1 (by rw [upd_ne (Ne.symm hne)]; exact hD.z) fr'
      exact ⟨q3.thaw hio''.notCell hit.z r.fr, q1, q3.frozen hio''.notFrame, q2, q3.notH⟩
    have nev : ∀ {α : Type} {t : Sem α} {σ' : St} {P : α → St → Prop} {s₉ : Shared} {R' : α → Shared → Prop} {E' : Value → Shared → Prop}, Ok g A n NE t σ' P → Rel g (upd (upd Z it o'') D oD) n σ' s₉ → (∀ a s₁₀ σ'', Rel g (upd (upd Z it o'') D oD) n σ'' s₁₀ → P a σ'' → R' a s₁₀) → wpAny (model prog g.w) A t R' E' s₉ :=
      fun h q k => wpAny_mono (h _ _ q) (fun a s₁₀ ⟨σ'', q1, q2⟩ => k a s₁₀ σ'' q1 q2) fun _ _ e => e.elim
    refine wpAny_bind (nev st r₄ fun _ s₅ σ₅ r₅ e₅ => ?_)
    subst e₅
    refine wpAny_bind (nev (hI i a ys H hxi hI0) r₅ fun b s₆ σ₆ r₆ h₆ => ?_)
    have wk : ∀ {σ' : St} {s₉ : Shared}, σ'.loc = upd loc0 x a → Rel g Z n σ' s₉ → Rel g Z n ⟨σ'.H, loc0⟩ s₉ := fun {σ' s₉} e q => by
      refine Rel.weaken (loc := σ'.loc) q fun y w hw => ?_
      rw [e, upd_ne]
      · exact hw
      · intro z; subst z; rw [hx0] at hw; cases hw
    cases b with
    | false =>
      obtain ⟨e₆, h₆⟩ := h₆
      obtain ⟨q1, q2, q3, q4, q5⟩ := thaw r₆
      simp only [Bool.false_eq_true, if_false]
      refine wpAny_pure ⟨rfl, xs.length + 1 - (i + 1), by (with_reducible exact turn_lt (by assumption)), i + 1, ys, σ₆.H, oD, o'', wk e₆ q1, q2, oDr, q4, q3, hio'', q5, h₆, hlt, rfl⟩
    | true =>
      obtain ⟨e₆, h₆⟩ := h₆
      rw [if_pos rfl]
      refine wpAny_bind (wpAny_bind (nev h₆ r₆ fun y s₇ σ₇ r₇ h₇ => ?_))
      obtain ⟨e₇, h₇⟩ := h₇
      obtain ⟨q1, q2, q3, q4, q5⟩ := thaw r₇
      obtain ⟨its, k, rfl, em⟩ := oDr
      have hsz : its.size ≤ sizeLine := by rw [size_of_map em]; exact Nat.le_trans hlen (by decide)
      refine wpAny_bind (call_meets F.slot_list_append ⟨_, q2, rfl⟩ F.entry_list_append (F.args_list_append_2 _ _) (list_append D its k y hsz) ⟨q2, ?_⟩)
      refine wpAny_pure (wpAny_pure ⟨rfl, xs.length + 1 - (i + 1), by (with_reducible exact turn_lt (by assumption)), i + 1, ys ++ [er y], σ₇.H, _, o'', (wk e₇ q1).gar hD q4 (Heap.SameBut.update ..).extBut, Heap.get?_update_self _ q2 rfl, ⟨_, _, rfl, by simp [em]⟩, q4,
        (Heap.get?_update_other _ _ (Ne.symm hne)).trans q3, hio'', q5, h₇, hlt, rfl⟩)
end
end Mine
end

section
open PySem PySem.W PyProof.Rows PySem.Spec PySem.Calls
set_option Elab.async false
set_option maxRecDepth 100000
set_option linter.unusedVariables false
namespace Mine
section
variable {g : G} {A : Around} {n : En} {E : Exn} {σ : St} {s : Shared} {Z : Fz} {scope : Scope}

theorem turn_single (elt iter : Expr) (x : Str) (px : Pos) (ifs : List Expr) (scope : Scope) (pos : Pos) : TurnEq elt [⟨.Name x px, iter, ifs, 0⟩] scope pos 0 iter.pos x px ifs := fun it acc env => by rfl
theorem turn_inner (elt iter : Expr) (g0 : Comprehension) (x : Str) (px : Pos) (ifs : List Expr) (scope : Scope) (pos : Pos) : TurnEq elt [g0, ⟨.Name x px, iter, ifs, 0⟩] scope pos 1 iter.pos x px ifs := fun it acc env => by rfl
theorem turn_outer (elt i0 i1 t1 : Expr) (x : Str) (px : Pos) (ifs1 : List Expr) (scope : Scope) (pos : Pos) (it acc : Value) (env : Env) :
    compTurn (.ListComp elt [⟨.Name x px, i0, [], 0⟩, ⟨t1, i1, ifs1, 0⟩] scope pos) 0 it acc env = (do
      standAt i0.pos
      match ← pyNext it with
      | none => pure (.done .next)
      | some v =>
        letOwnedTupleGo (.Name x px) it v
        assign (.Name x px) env v
        let y ← eval i1 env
        standAt i1.pos
        let y ← foldedSetIterable i1 env y
        let _ ← runOwn (.compStart (.ListComp elt [⟨.Name x px, i0, [], 0⟩, ⟨t1, i1, ifs1, 0⟩] scope pos) 1 (← holding [y] (pyIter y)) acc env) env
        again (.compLoop (.ListComp elt [⟨.Name x px, i0, [], 0⟩, ⟨t1, i1, ifs1, 0⟩] scope pos) 0 it acc env)) := by rfl

theorem start_inner {elt i1 t1 : Expr} {g0 : Comprehension} {ifs1 : List Expr} {scope : Scope} {pos : Pos} {it acc : Value} {env : Env} {R : Result → Shared → Prop}
    (h0 : codeAny (model prog g.w) A (.compLoop (.ListComp elt [g0, ⟨t1, i1, ifs1, 0⟩] scope pos) 1 it acc env) R s)
    (h : wpAny (model prog g.w) A (pyIter it) (fun it' s' => codeAny (model prog g.w) A (.compLoop (.ListComp elt [g0, ⟨t1, i1, ifs1, 0⟩] scope pos) 1 it' acc env) R s') (notedBy (model prog g.w) A env fun x s' => R (.error x) s') s) :
    codeAny (model prog g.w) A (.compStart (.ListComp elt [g0, ⟨t1, i1, ifs1, 0⟩] scope pos) 1 it acc env) R s := by
  refine codeAny_of_tree ?_
  show wpAny _ _ ((compStart (.ListComp elt [g0, ⟨t1, i1, ifs1, 0⟩] scope pos) 1 it acc env).onRaise (fun x => do noteFrame x env; standAt theWindowsPlace)) _ _ s
  refine wpAny_notedAt ?_
  unfold compStart
  show wpAny _ _ (ask >>= _) _ _ s
  refine wpAny_bind (wpAny_askSetting (wpAny_ite ?_))
  split
  · first
      | exact wpAny_bind (wpAny_pure (wpAny_pure (And.intro rfl h0)))
      | exact wpAny_pure (And.intro rfl h0)
  · first
      | exact wpAny_bind (wpAny_rule (wpAny_bind (wpAny_standAt (wpAny_bind (wpAny_mono h (fun it' s' h' => wpAny_pure (And.intro rfl h')) fun _ _ x => x)))))
      | (refine wpAny_bind (wpAny_rule ?_); show wpAny _ _ (standAt i1.pos >>= _) _ _ s; exact wpAny_bind (wpAny_standAt (wpAny_bind (wpAny_mono h (fun it' s' h' => wpAny_pure (And.intro rfl h')) fun _ _ x => x))))

inductive InnerP (g : G) (A : Around) (n : En) (x1 : Str) (ifs : List Expr) (elt : Expr) (loc1 : Str → Option AV) (ys : List AV) (K : List AV → AH → Prop) (v : AV) (σ₂ : St) : Prop
  | mk (e : σ₂.loc = loc1) (l1 : Addr) (ao1 : AO) (xs1 : List AV) (hv : v = .ref l1) (hl : σ₂.H l1 = some ao1) (hx : items ao1 = some xs1) (hit : itFits ao1 = true) (I : Nat → List AV → AH → Prop) (h0 : I 0 ys σ₂.H)
    (hk : ∀ j ys H, I j ys H → H l1 = some ao1 ∧ ys.length ≤ 1000000) (hs : TurnsP g A n ifs elt x1 loc1 I xs1) (he : ∀ ys H, I xs1.length ys H → K ys H)
/-- what the inner loop of two is asked -/
noncomputable def Inner (g : G) (A : Around) (n : En) (i1 : Expr) (x1 : Str) (ifs : List Expr) (elt : Expr) (loc1 : Str → Option AV) (ys : List AV) (H : AH) (K : List AV → AH → Prop) : Prop :=
  Ev g A n NE i1 ⟨H, loc1⟩ (InnerP g A n x1 ifs elt loc1 ys K)
inductive LoopR1 (g : G) (Z : Fz) (n : En) (loc1 : Str → Option AV) (D : Addr) (K : List AV → AH → Prop) (res : Result) (s : Shared) : Prop
  | mk (ys : List AV) (H : AH) (oD : Obj) (e : res = .ok .next) (r : Rel g Z n ⟨H, loc1⟩ s) (gD : s.heap.get? D = some oD) (oDr : ORel (.list ys) oD) (nD : H D = none) (k : K ys H)

theorem comp_outer {elt i0 i1 : Expr} {scope : Scope} {pos px px1 : Pos} {x x1 : Str} {ifs1 : List Expr} {R : Result → Shared → Prop} {loc0 : Str → Option AV} {D it l : Addr} {ao : AO} {xs : List AV} {I : Nat → List AV → AH → Prop}
    (hh : A.handled = none) (hf : n.env.scope.kind = .function) (hk : canStore n x = true) (hk1 : canStore n x1 = true) (hx0 : loc0 x = none) (hx1 : loc0 x1 = none) (hxx : (x1 == x) = false) (hD : Gar g Z n D) (hit : Gar g Z n it) (hne : it ≠ D)
    (hx : items ao = some xs) (hIl : ∀ i ys H, I i ys H → H l = some ao) (hs1 : ∀ v, foldedSetIterable i1 n.env v = pure v)
    (hI : ∀ i a ys H, xs[i]? = some a → I i ys H → Inner g A n i1 x1 ifs1 elt (upd loc0 x a) ys H (I (i + 1)))
    (hR : ∀ ys H s' oD, Rel g Z n ⟨H, loc0⟩ s' → s'.heap.get? D = some oD → ORel (.list ys) oD → H D = none → I xs.length ys H → R (.ok .next) s')
    {i : Nat} {ys : List AV} {H : AH} {oD o : Obj} (r : Rel g Z n ⟨H, loc0⟩ s) (gD : s.heap.get? D = some oD) (oDr : ORel (.list ys) oD) (nD : H D = none) (git : s.heap.get? it = some o) (hio : ItAt l i ao o) (nit : H it = none) (hI0 : I i ys H) (hi : i ≤ xs.length) :
    codeAny (model prog g.w) A (.compLoop (.ListComp elt [⟨.Name x px, i0, [], 0⟩, ⟨.Name x1 px1, i1, ifs1, 0⟩] scope pos) 0 (.ref it) (.ref D) n.env) R s := by
  refine codeAny_loop rfl (LoopI g Z n loc0 I D it l ao xs) ?_ (xs.length + 1 - i)
    ⟨i, ys, H, oD, o, r, gD, oDr, nD, git, hio, nit, hI0, hi, rfl⟩
  clear hio git nit hI0 hi r gD oDr nD
  rintro m s' ⟨i, ys, H, oD, o', r, gD, oDr, nD, git, hio, nit, hI0, hi, rfl⟩
  show wpAny _ A ((compTurn (.ListComp elt [⟨.Name x px, i0, [], 0⟩, ⟨.Name x1 px1, i1, ifs1, 0⟩] scope pos) 0 (.ref it) (.ref D) n.env).onRaise (fun x => do noteFrame x n.env; theTreesLotGoes x)) _ _ s'
  refine wpAny_noted ?_
  rw [turn_outer]
  refine wpAny_bind (wpAny_standAt (wpAny_bind ?_))
  have hl := hIl i ys H hI0
  obtain ⟨co, ho, hr⟩ := r.owned hl
  cases hxi : xs[i]? with
  | none =>
    have hleneq : i = xs.length := Nat.le_antisymm hi (List.getElem?_eq_none_iff.mp hxi)
    refine iter_end (g := g) hh ho hr hx git hio hxi fun h' he => wpAny_pure ?_
    exact hR ys H _ oD (r.gar hit nit he) (he D oD (Ne.symm hne) gD) oDr nD (hleneq ▸ hI0)
  | some a =>
    have hlt : i < xs.length := (List.getElem?_eq_some_iff.mp hxi).1
    refine iter_next (g := g) ho hr hx git hio hxi fun v h' t' o'' hev hg'' hio'' hsb => ?_
    have r₃ : Rel g Z n ⟨H, loc0⟩ { s' with heap := h', toks := t' } := r.gar hit nit hsb.extBut
    have gD₃ : h'.get? D = some oD := (hsb.2 D (Ne.symm hne)).trans gD
    refine wpAny_bind (wpAny_pure (a := ()) ?_)
    have rz := r₃.frz' hit hg'' nit
    have hD' : Gar g (upd Z it o'') n D := hD.freeze (Ne.symm hne)
    have r₄ := rz.frz' hD' gD₃ nD
    have st : Ok g A n NE (assign (.Name x px) n.env v) ⟨H, loc0⟩ fun _ σ' => σ' = ⟨H, upd loc0 x a⟩ := by
      show Ok g A n NE (do standAt px; bindName n.env x v) _ _
      exact Ok.bind (Ok.standAt (Ok.bindName (by rw [hev]) hf hk))
    have oDc : (∀ v, oD.data ≠ .cell v) ∧ (∀ es ep, oD.data ≠ .dict es ep) := by
      obtain ⟨its, k, rfl, _⟩ := oDr
      exact ⟨fun v q => (by cases q), fun _ _ q => (by cases q)⟩
    have nev : ∀ {α : Type} {t : Sem α} {σ' : St} {P : α → St → Prop} {s₉ : Shared} {R' : α → Shared → Prop} {E' : Value → Shared → Prop}, Ok g A n NE t σ' P → Rel g (upd (upd Z it o'') D oD) n σ' s₉ → (∀ a s₁₀ σ'', Rel g (upd (upd Z it o'') D oD) n σ'' s₁₀ → P a σ'' → R' a s₁₀) → wpAny (model prog g.w) A t R' E' s₉ :=
      fun h q k => wpAny_mono (h _ _ q) (fun a s₁₀ ⟨σ'', q1, q2⟩ => k a s₁₀ σ'' q1 q2) fun _ _ e => e.elim
    refine wpAny_bind (nev st r₄ fun _ s₅ σ₅ r₅ e₅ => ?_)
    subst e₅
    refine wpAny_bind (nev (hI i a ys H hxi hI0) r₅ fun b s₆ σ₆ r₆ h₆ => ?_)
    obtain ⟨e₆, l1, ao1, xs1, hv1, hl1, hit1, hfit1, I1, hI10, hIl1, hIt1, hIe1⟩ := h₆
    rw [er_ref hv1]
    refine wpAny_bind (wpAny_standAt (wpAny_bind (wpAny_of_eq (hs1 _) (wpAny_bind (wpAny_holding ?_)))))
    have q1 := r₆.frozen oDc.2
    have q2 := r₆.notH
    have r₇ := r₆.thaw oDc.1 hD'.z rz.fr
    obtain ⟨co1, ho1, hr1⟩ := r₇.owned hl1
    refine iter_make (g := g) ho1 hr1 hit1 hfit1 (fun q => ?_) fun oi hioi hfr => ?_
    · have h1 := r₇.big hl1 (fun _ _ _ q => by rw [q] at hit1; cases hit1); rw [q] at h1; exact absurd sysModules_small (Nat.not_le.mpr h1)
    have hnew := get?_size s₆.heap
    obtain ⟨z1, z2, z3⟩ := r₇.zfresh hnew
    obtain ⟨y1, y2⟩ := r₇.apart hnew
    have hneD : s₆.heap.objs.size ≠ D := fun q => by rw [q, q1] at hnew; cases hnew
    have g1 : (s₆.heap.push oi).get? s₆.heap.objs.size = some oi := Heap.get?_push_size _ hfr
    have r₈ : Rel g (upd Z it o'') n σ₆ { s₆ with heap := s₆.heap.push oi } := r₇.push _
    have e₆' : σ₆ = ⟨σ₆.H, upd loc0 x a⟩ := by rw [← e₆]
    rw [e₆'] at r₈
    have loopd : codeAny (model prog g.w) A (.compLoop (.ListComp elt [⟨.Name x px, i0, [], 0⟩, ⟨.Name x1 px1, i1, ifs1, 0⟩] scope pos) 1 (.ref s₆.heap.objs.size) (.ref D) n.env)
        (LoopR1 g (upd Z it o'') n (upd loc0 x a) D (I1 xs1.length)) { s₆ with heap := s₆.heap.push oi } :=
      comp_last (loc0 := upd loc0 x a) (turn_inner elt i1 ⟨.Name x px, i0, [], 0⟩ x1 px1 ifs1 scope pos) hh hf hk1 (by rw [upd_ne (by simpa using hxx)]; exact hx1) hD' ⟨z1, z2, y1, y2⟩ hneD hit1 hIl1 hIt1
        (fun ys' H' s₉ oD' a1 a2 a3 a4 a5 => ⟨ys', H', oD', rfl, a1, a2, a3, a4, a5⟩) r₈ (Heap.get?_push_of_some _ q1) oDr q2 g1 hioi z3 hI10 (Nat.zero_le _)
    refine wpAny_bind (wpAny_runOwn (h := none) ?_)
    refine start_inner (codeAny_mono loopd ?_) (iter_again (g := g) g1 hioi (codeAny_mono loopd ?_))
    all_goals
      rintro res s₉ ⟨ys', H', oD', rfl, a1, a2, a3, a4, a5⟩
      refine wpAny_pure ⟨rfl, xs.length + 1 - (i + 1), by (with_reducible exact turn_lt (by assumption)), i + 1, ys', H', oD', o'', ?_, a2, a3, a4, a1.frozen hio''.notFrame, hio'', a1.notH, hIe1 ys' H' a5, hlt, rfl⟩
      refine Rel.weaken (loc := upd loc0 x a) (a1.thaw hio''.notCell hit.z r.fr) fun y w hw => ?_
      rw [upd_ne]
      · exact hw
      · intro z; subst z; rw [hx0] at hw; cases hw
end
end Mine
end

section
open PySem PySem.W PyProof.Rows PySem.Spec PySem.Calls
set_option Elab.async false
set_option maxRecDepth 100000
set_option linter.unusedVariables false
namespace Mine
section
variable {g : G} {A : Around} {n : En} {E : Exn} {σ : St} {s : Shared} {Z : Fz} {scope : Scope}

theorem comp_fin {use : Option (Value → Sem Unit)} {Q : Value → St → Prop} {s' : Shared} {n' : En} {H : AH} {loc0 : Str → Option AV} {D : Addr} {oD : Obj} {ys : List AV} {E' : Value → Shared → Prop}
    (r : Rel g Z n σ s) (hC : s.heap.get? n'.env.locals = none) (hDn : s.heap.get? D = none) (h216 : 216 < D) (hDC : D ≠ n'.env.locals)
    (a1 : Rel g (under σ.H s.heap) n' ⟨H, loc0⟩ s') (a2 : s'.heap.get? D = some oD) (a3 : ORel (.list ys) oD) (a4 : H D = none)
    (hfin : match use with | none => Q (.ref D) ⟨upd H D (.list ys), σ.loc⟩ | some u => Ok g A n NE (u (.ref D)) ⟨upd H D (.list ys), σ.loc⟩ fun _ σ' => Q .none σ') :
    compPost (model prog g.w) A E' use (Post g Z n Q) (.ref D) n'.env.locals (.ok .next) s' := by
  obtain ⟨m, hm, _⟩ := a1.vars.ns
  obtain ⟨o1, o2, o3⟩ := a1.vars.own
  obtain ⟨zD1, zD2, _⟩ := r.zfresh hDn
  have hH : HRel g (under σ.H s.heap) (upd H D (.list ys)) s' := by
    obtain ⟨k1, k2, k3, k4, k5⟩ := a1.hr
    refine ⟨k1, k2, k3, k4, fun a o ha => ?_⟩
    change upd H D (.list ys) a = some o at ha
    unfold upd at ha
    split at ha
    · rename_i q; subst q; cases ha
      exact ⟨by unfold under; split <;> simp [hDn], ⟨zD2, .inl h216⟩, oD, a2, a3⟩
    · exact k5 a o ha
  have nC : upd H D (.list ys) n'.env.locals = none := by rw [upd_ne (Ne.symm hDC)]; exact o2
  cases use with
  | none =>
    refine ⟨m, hm, fun h' hs => ⟨⟨upd H D (.list ys), σ.loc⟩, r.back (hH.chg (s' := { s' with heap := h' }) fun b o hb hx => (hs.2 b fun q => ?_).trans hb), hfin⟩⟩
    subst q
    rw [o1, nC, o3] at hx; simp at hx
  | some u =>
    have rb := r.back hH
    obtain ⟨oC, es, ep, hoC, hdC, hrC⟩ := id hm
    obtain ⟨z1, z2, z3⟩ := r.zfresh hC
    obtain ⟨y1, y2⟩ := r.apart hC
    have gar : Gar g Z n n'.env.locals := ⟨z1, z2, y1, y2⟩
    have hcls : (∀ v, oC.data ≠ .cell v) := fun v q => by rw [hdC] at q; cases q
    have rf := rb.frz' gar hoC nC
    refine wpAny_mono (hfin _ _ rf) (fun _ s'' h'' => ?_) fun _ _ e => e.elim
    obtain ⟨σ'', r'', q''⟩ := h''
    have rt := r''.thaw hcls z1 r.fr
    obtain ⟨sl, e1, _⟩ := r''.hr.keep n'.env.locals oC (by simp)
    exact ⟨m, ⟨_, es, ep, e1, hdC, hrC⟩, fun h' hs => ⟨σ'', rt.gar gar r''.notH hs.extBut, q''⟩⟩

inductive Comp1P (g : G) (A : Around) (n : En) (x : Str) (ifs : List Expr) (elt : Expr) (scope : Scope) (K : Addr → St → Prop) (v : AV) (σ₁ : St) : Prop
  | mk (l : Addr) (ao : AO) (xs : List AV) (hv : v = .ref l) (hl : σ₁.H l = some ao) (hx : items ao = some xs) (hit : itFits ao = true) (I : Nat → List AV → AH → Prop) (h0 : I 0 [] σ₁.H) (hk : ∀ i ys H, I i ys H → H l = some ao ∧ ys.length ≤ 1000000)
    (hs : ∀ L cells, TurnsP g A (compEn n scope L cells) ifs elt x (cloc scope σ₁.loc) I xs) (he : ∀ ys H, I xs.length ys H → ∀ a, H a = none → K a ⟨upd H a (.list ys), σ₁.loc⟩)
noncomputable def Comp1 (g : G) (A : Around) (n : En) (σ : St) (iter : Expr) (x : Str) (ifs : List Expr) (elt : Expr) (scope : Scope) (K : Addr → St → Prop) : Prop :=
  Ev g A n NE iter σ (Comp1P g A n x ifs elt scope K)
inductive Comp2P (g : G) (A : Around) (n : En) (x : Str) (i1 : Expr) (x1 : Str) (ifs : List Expr) (elt : Expr) (scope : Scope) (K : Addr → St → Prop) (v : AV) (σ₁ : St) : Prop
  | mk (l : Addr) (ao : AO) (xs : List AV) (hv : v = .ref l) (hl : σ₁.H l = some ao) (hx : items ao = some xs) (hit : itFits ao = true) (I : Nat → List AV → AH → Prop) (h0 : I 0 [] σ₁.H) (hk : ∀ i ys H, I i ys H → H l = some ao)
    (hs : ∀ L cells i a ys H, xs[i]? = some a → I i ys H → Inner g A (compEn n scope L cells) i1 x1 ifs elt (upd (cloc scope σ₁.loc) x a) ys H (I (i + 1))) (he : ∀ ys H, I xs.length ys H → ∀ a, H a = none → K a ⟨upd H a (.list ys), σ₁.loc⟩)
noncomputable def Comp2 (g : G) (A : Around) (n : En) (σ : St) (iter : Expr) (x : Str) (i1 : Expr) (x1 : Str) (ifs : List Expr) (elt : Expr) (scope : Scope) (K : Addr → St → Prop) : Prop :=
  Ev g A n NE iter σ (Comp2P g A n x i1 x1 ifs elt scope K)

theorem cloc_none {x : Str} {loc : Str → Option AV} (h : (scope.names.lookup x == some .free) = false) : cloc scope loc x = none := by unfold cloc; rw [h]; rfl
theorem names_of_compOk (hc : compOk n scope = true) : scope.kind = .function ∧ ∀ x ∈ scope.names, x.2 = .local → scope.names.lookup x.1 = some .local := by
  simp only [compOk, Bool.and_eq_true, List.all_eq_true, Bool.or_eq_true, bne_iff_ne, beq_iff_eq] at hc
  exact ⟨hc.1.2, fun x hx hl => by rw [← hl]; exact hc.1.1 x hx⟩

inductive LoopR (g : G) (Z : Fz) (n : En) (loc1 loc : Str → Option AV) (D : Addr) (K : Addr → St → Prop) (res : Result) (s : Shared) : Prop
  | mk (ys : List AV) (H : AH) (oD : Obj) (e : res = .ok .next) (r : Rel g Z n ⟨H, loc1⟩ s) (gD : s.heap.get? D = some oD) (oDr : ORel (.list ys) oD) (nD : H D = none) (k : K D ⟨upd H D (.list ys), loc⟩)
/-- the loops of a comprehension, whatever they are -/
noncomputable def LoopOk (g : G) (A : Around) (n : En) (e : Expr) (scope : Scope) (l : Addr) (ao : AO) (σ₁ : St) (K : Addr → St → Prop) : Prop :=
  ∀ (Zc : Fz) (L : Addr) (cells : List (Str × Addr)) (D it : Addr) (oD o : Obj) (s₄ : Shared), Gar g Zc (compEn n scope L cells) D → Gar g Zc (compEn n scope L cells) it → it ≠ D → Rel g Zc (compEn n scope L cells) ⟨σ₁.H, cloc scope σ₁.loc⟩ s₄ →
    s₄.heap.get? D = some oD → ORel (.list []) oD → σ₁.H D = none → s₄.heap.get? it = some o → ItAt l 0 ao o → σ₁.H it = none →
    codeAny (model prog g.w) A (.compLoop e 0 (.ref it) (.ref D) (compEn n scope L cells).env) (LoopR g Zc (compEn n scope L cells) (cloc scope σ₁.loc) σ₁.loc D K) s₄

/-- v iterates over the object at l -/
noncomputable def ItV (H : AH) (v : AV) (l : Addr) (ao : AO) : Prop := (v = .ref l ∧ itFits ao = true) ∨ ∃ u es ep, v = .ref u ∧ H u = some (.dview l) ∧ ao = .vdict es ep
theorem itv_make {Z : Fz} {s : Shared} {F : Value → Shared → Prop} {cv : Value} {v : AV} {l : Addr} {ao : AO} {xs : List AV} {R : Value → Shared → Prop} (r : Rel g Z n σ s) (hv : ItV σ.H v l ao) (e : er cv = v) (hl : σ.H l = some ao) (hx : items ao = some xs)
    (h : ∀ o, ItAt l 0 ao o → o.isFreed = false → R (.ref s.heap.objs.size) { s with heap := s.heap.push o }) : wpAny (model prog g.w) A (pyIter cv) R F s := by
  obtain ⟨co, ho, hr⟩ := r.owned hl
  rcases hv with ⟨rfl, hfit⟩ | ⟨u, es, ep, rfl, hu, rfl⟩
  · rw [er_ref e]
    refine iter_make (g := g) ho hr hx hfit (fun q => ?_) h
    have h1 := r.big hl (fun _ _ _ q => by rw [q] at hx; cases hx); rw [q] at h1; exact absurd sysModules_small (Nat.not_le.mpr h1)
  · rw [er_ref e]
    obtain ⟨cu, ku, kr⟩ := r.owned hu
    exact iter_make_view (g := g) ku kr ho hr h

inductive ItP (g : G) (A : Around) (n : En) (e : Expr) (scope : Scope) (K : Addr → St → Prop) (v : AV) (σ₁ : St) : Prop
  | mk (l : Addr) (ao : AO) (xs : List AV) (hv : ItV σ₁.H v l ao) (hl : σ₁.H l = some ao) (hx : items ao = some xs) (k : LoopOk g A n e scope l ao σ₁ K)
theorem comp_rule {elt iter t0 : Expr} {ifs0 : List Expr} {rest : List Comprehension} {pos p : Pos} {use : Option (Value → Sem Unit)} {Q : Value → St → Prop} {K : Addr → St → Prop}
    (h : Ev g A n NE iter σ (ItP g A n (.ListComp elt (⟨t0, iter, ifs0, 0⟩ :: rest) scope pos) scope K))
    (hfin : ∀ D σ', K D σ' → match use with | none => Q (.ref D) σ' | some u => Ok g A n NE (u (.ref D)) σ' fun _ σ'' => Q .none σ'')
    (hc : compOk n scope = true) (hb : compBound n scope σ.loc = true) (hs : ∀ x, foldedSetIterable iter n.env x = pure x) :
    Ok g A n E (comprehension (.ListComp elt (⟨t0, iter, ifs0, 0⟩ :: rest) scope pos) scope n.env p (newList []) false (eval iter n.env) use) σ Q := by
  refine Ok.ofNE fun Z s r => ?_
  obtain ⟨hk1, hk2⟩ := names_of_compOk hc
  have hcl := comp_closed r hc hb
  · refine wpAny_comprehension_free (cl := clOf n.env scope.names []) rfl hs (closureFor_eq hcl) hk1 hk2 (wpAny_mono (h Z s r) (fun v s₁ h₁ => ?_) fun _ _ e => e.elim)
    obtain ⟨σ₁, r₁, l, ao, xs, hv, hl, hx, hloop⟩ := h₁
    refine itv_make r₁ hv rfl hl hx fun o hio hfr => ?_
    refine wpAny_newObj_type ?_ (show (0 : Nat) ≤ _ from Nat.zero_le _)
    refine newCompEnv ?_
    dsimp only
    have sz1 : (s₁.heap.push o).objs.size = s₁.heap.objs.size + 1 := Heap.size_push ..
    have sz2 : ((s₁.heap.push o).push { cls := .type "list", dict := none, data := .seq ([] : List Value).toArray }).objs.size = s₁.heap.objs.size + 1 + 1 := by rw [Heap.size_push, sz1]
    have hn0 := get?_size s₁.heap
    have hn1 : s₁.heap.get? (s₁.heap.objs.size + 1) = none := by
      cases q : s₁.heap.get? (s₁.heap.objs.size + 1) with
      | none => rfl
      | some o => exact absurd (Nat.lt_trans (Nat.lt_succ_self _) (Heap.lt_size q)) (Nat.lt_irrefl _)
    have hn2 : s₁.heap.get? (s₁.heap.objs.size + 1 + 1) = none := by
      cases q : s₁.heap.get? (s₁.heap.objs.size + 1 + 1) with
      | none => rfl
      | some o => exact absurd (Nat.lt_trans (Nat.lt_trans (Nat.lt_succ_self _) (Nat.lt_succ_self _)) (Heap.lt_size q)) (Nat.lt_irrefl _)
    have hbig : 216 < s₁.heap.objs.size := by obtain ⟨o, ho⟩ := g.alive; exact Heap.lt_size (r₁.hr.stay _ _ ho)
    generalize hs3 : ({ s₁ with heap := (s₁.heap.push o).push { cls := .type "list", dict := none, data := .seq ([] : List Value).toArray } } : Shared) = s₃
    have s3h : s₃.heap = (s₁.heap.push o).push { cls := .type "list", dict := none, data := .seq ([] : List Value).toArray } := by rw [← hs3]
    have R0 := comp_enter (s₃ := s₃) (scope := scope) r₁ hc hcl (fun b ob e => by rw [s3h]; exact Heap.get?_push_of_some _ (Heap.get?_push_of_some _ e)) (by rw [s3h, sz2]; omega) (by rw [← hs3]) (by rw [← hs3])
    have hL : s₃.heap.objs.size = s₁.heap.objs.size + 1 + 1 := by rw [s3h]; exact sz2
    have gar : ∀ b, s₁.heap.objs.size ≤ b → b < s₃.heap.objs.size → Gar g (under σ₁.H s₁.heap) (compEn n scope s₃.heap.objs.size (cellsFrom (s₃.heap.objs.size + 1) scope.names (clOf n.env scope.names []))) b := fun b h1 h2 => by
      have hnb : s₁.heap.get? b = none := by
        cases q : s₁.heap.get? b with
        | none => rfl
        | some o => exact absurd (Heap.lt_size q) (Nat.not_lt.mpr h1)
      obtain ⟨z1, z2, z3⟩ := r₁.zfresh hnb
      refine ⟨by unfold under; split <;> simp [hnb], z2, Nat.ne_of_lt h2, fun x hx q => ?_⟩
      obtain ⟨c, v₀, c1, c2, c3, c4, c5, ⟨oc, c6, _⟩, _⟩ := R0.vars.cell x hx
      rw [q] at c1; cases c1
      have ok := cellsFrom_ok scope.names (s₃.heap.push { cls := .type "dict", data := .dict #[] }) (s₃.heap.objs.size + 1) [] ⟨fun _ _ hm => (nomatch hm), List.Pairwise.nil⟩ (by rw [Heap.size_push]; exact Nat.le_refl _)
      rw [Heap.size_push] at ok
      have hm := mem_of_lookup q
      change (x, b) ∈ cellsFrom (s₃.heap.objs.size + 1) scope.names (clOf n.env scope.names []) at hm
      rw [cellsFrom_append] at hm
      rcases List.mem_append.mp hm with hm | hm
      · have := (ok.empty x b hm).2; omega
      · -- a closure's cell lies in the old heap
        have : ∀ (names : List (Str × NameKind)) (acc : List (Str × Addr)), (∀ y, (y, NameKind.free) ∈ names → (n.env.cells.lookup y).isSome = true) → (∀ p ∈ acc, n.env.cells.lookup p.1 = some p.2) → ∀ p ∈ clOf n.env names acc, n.env.cells.lookup p.1 = some p.2 := by
          intro names
          induction names with
          | nil => intro acc _ ha p hp; exact ha p hp
          | cons q rr ih =>
            intro acc hs ha p hp
            obtain ⟨y, k⟩ := q
            unfold clOf at hp
            split at hp
            · rename_i hk
              have : k = .free := by simpa using hk
              subst this
              refine ih _ (fun y hy => hs y (.tail _ hy)) (fun p' hp' => ?_) p hp
              rcases List.mem_cons.mp hp' with rfl | hp'
              · obtain ⟨c, hc⟩ := Option.isSome_iff_exists.mp (hs y (.head _))
                rw [hc]; rfl
              · exact ha p' hp'
            · exact ih _ (fun y hy => hs y (.tail _ hy)) ha p hp
        have hlk := this scope.names [] hcl (fun _ hp => (nomatch hp)) _ hm
        change n.env.cells.lookup x = some b at hlk
        -- then x is no own cell of the block
        obtain ⟨p, hp, rfl⟩ := List.mem_map.mp hx
        have hcell := List.mem_filter.mp hp
        have e1 : p.2 = .cell := by simpa using hcell.2
        have hc' := hc
        simp only [compOk, Bool.and_eq_true, List.all_eq_true, beq_iff_eq] at hc'
        have e2 := hc'.1.1 p hcell.1
        rw [e1] at e2
        obtain ⟨c, hcc⟩ := Option.isSome_iff_exists.mp (cellsFrom_some scope.names (s₃.heap.objs.size + 1) [] (.inl e2))
        have q' : (cellsFrom (s₃.heap.objs.size + 1) scope.names (clOf n.env scope.names [])).lookup p.1 = some b := q
        rw [cellsFrom_append, List.lookup_append, hcc] at q'
        cases q'
        have := (ok.empty p.1 _ (mem_of_lookup hcc)).2
        omega
    have gD := gar (s₁.heap.objs.size + 1) (by omega) (by omega)
    have gI := gar s₁.heap.objs.size (Nat.le_refl _) (by omega)
    have gk : ∀ b ob, s₃.heap.get? b = some ob → (pushCells (s₃.heap.push { cls := .type "dict", data := .dict #[] }) scope.names).get? b = some ob := fun b ob e => pushCells_keeps _ _ b ob (Heap.get?_push_of_some _ e)
    have atD : s₃.heap.get? (s₁.heap.objs.size + 1) = some { cls := .type "list", dict := none, data := .seq ([] : List Value).toArray } := by rw [s3h, ← sz1]; exact Heap.get?_push_size _ rfl
    have atI : s₃.heap.get? s₁.heap.objs.size = some o := by rw [s3h]; exact Heap.get?_push_of_some _ (Heap.get?_push_size _ hfr)
    have hH1 : σ₁.H (s₁.heap.objs.size + 1) = none := (r₁.zfresh hn1).2.2
    have hH0 : σ₁.H s₁.heap.objs.size = none := (r₁.zfresh hn0).2.2
    have LP := hloop _ _ _ _ _ _ _ _ gD gI (Nat.ne_of_lt (Nat.lt_succ_self _)) R0 (gk _ _ atD) ⟨_, _, rfl, by simp⟩ hH1 (gk _ _ atI) hio hH0
    have fin : ∀ res s', LoopR g (under σ₁.H s₁.heap) (compEn n scope s₃.heap.objs.size (cellsFrom (s₃.heap.objs.size + 1) scope.names (clOf n.env scope.names []))) (cloc scope σ₁.loc) σ₁.loc (s₁.heap.objs.size + 1) K res s' →
        compPost (model prog g.w) A (NE Z) use (Post g Z n Q) (.ref (s₁.heap.objs.size + 1)) s₃.heap.objs.size res s' := by
      rintro res s' ⟨ys, H, oD', rfl, a1, a2, a3, a4, a5⟩
      exact comp_fin (n' := compEn n scope s₃.heap.objs.size _) r₁ (by show s₁.heap.get? s₃.heap.objs.size = none; rw [hL]; exact hn2) hn1 (Nat.lt_trans hbig (Nat.lt_succ_self _)) (by show s₁.heap.objs.size + 1 ≠ s₃.heap.objs.size; rw [hL]; exact Nat.ne_of_lt (Nat.lt_succ_self _)) a1 a2 a3 a4 (hfin _ _ a5)
    have hacc : (s₁.heap.push o).objs.size = s₁.heap.objs.size + 1 := sz1
    rw [hacc]
    subst hs3
    exact codeAny_compStart_list (codeAny_mono LP fin) (iter_again (g := g) (gk _ _ atI) hio (codeAny_mono LP fin))
end
end Mine
end

section
open PySem PySem.W PyProof.Rows PySem.Spec PySem.Calls
set_option Elab.async false
set_option maxRecDepth 100000
set_option linter.unusedVariables false
namespace Mine
section
variable {g : G} {A : Around} {n : En} {E : Exn} {σ : St} {scope : Scope} {pos : Pos}

theorem Comp1.use {iter elt : Expr} {x : Str} {px : Pos} {ifs : List Expr} {K : Addr → St → Prop} (h : Comp1 g A n σ iter x ifs elt scope K) (hh : A.handled = none) (hc : compOk n scope = true) (hst : ∀ L cells, canStore (compEn n scope L cells) x = true)
    (hx : (scope.names.lookup x == some .free) = false) :
    Ev g A n NE iter σ (ItP g A n (.ListComp elt [⟨.Name x px, iter, ifs, 0⟩] scope pos) scope K) := by
  refine Ev.mono h fun v σ₁ h₁ => ?_
  obtain ⟨l, ao, xs, hv, hl, hi, hfit, I, hI0, hIl, hIt, hIe⟩ := h₁
  refine ⟨l, ao, xs, .inl ⟨hv, hfit⟩, hl, hi, fun Zc L cells D it oD o s₄ gD gI hne R0 aD oD' nD aI hio nI => ?_⟩
  exact comp_last (turn_single elt iter x px ifs scope pos) hh (names_of_compOk hc).1 (hst L cells) (cloc_none hx) gD gI hne hi hIl (hIt L cells)
    (fun ys H s' oD' a1 a2 a3 a4 a5 => ⟨ys, H, oD', rfl, a1, a2, a3, a4, hIe ys H a5 D a4⟩) R0 aD oD' nD aI hio nI hI0 (Nat.zero_le _)
inductive Comp1VP (g : G) (A : Around) (n : En) (x : Str) (ifs : List Expr) (elt : Expr) (scope : Scope) (K : Addr → St → Prop) (v : AV) (σ₁ : St) : Prop
  | mk (l : Addr) (ao : AO) (xs : List AV) (hv : ItV σ₁.H v l ao) (hl : σ₁.H l = some ao) (hx : items ao = some xs) (I : Nat → List AV → AH → Prop) (h0 : I 0 [] σ₁.H) (hk : ∀ i ys H, I i ys H → H l = some ao ∧ ys.length ≤ 1000000)
    (hs : ∀ L cells, TurnsP g A (compEn n scope L cells) ifs elt x (cloc scope σ₁.loc) I xs) (he : ∀ ys H, I xs.length ys H → ∀ a, H a = none → K a ⟨upd H a (.list ys), σ₁.loc⟩)
/-- a comprehension over a view -/
noncomputable def Comp1V (g : G) (A : Around) (n : En) (σ : St) (iter : Expr) (x : Str) (ifs : List Expr) (elt : Expr) (scope : Scope) (K : Addr → St → Prop) : Prop :=
  Ev g A n NE iter σ (Comp1VP g A n x ifs elt scope K)
theorem Comp1V.use {iter elt : Expr} {x : Str} {px : Pos} {ifs : List Expr} {K : Addr → St → Prop} (h : Comp1V g A n σ iter x ifs elt scope K) (hh : A.handled = none) (hc : compOk n scope = true) (hst : ∀ L cells, canStore (compEn n scope L cells) x = true)
    (hx : (scope.names.lookup x == some .free) = false) :
    Ev g A n NE iter σ (ItP g A n (.ListComp elt [⟨.Name x px, iter, ifs, 0⟩] scope pos) scope K) := by
  refine Ev.mono h fun v σ₁ h₁ => ?_
  obtain ⟨l, ao, xs, hv, hl, hi, I, hI0, hIl, hIt, hIe⟩ := h₁
  refine ⟨l, ao, xs, hv, hl, hi, fun Zc L cells D it oD o s₄ gD gI hne R0 aD oD' nD aI hio nI => ?_⟩
  exact comp_last (turn_single elt iter x px ifs scope pos) hh (names_of_compOk hc).1 (hst L cells) (cloc_none hx) gD gI hne hi hIl (hIt L cells)
    (fun ys H s' oD' a1 a2 a3 a4 a5 => ⟨ys, H, oD', rfl, a1, a2, a3, a4, hIe ys H a5 D a4⟩) R0 aD oD' nD aI hio nI hI0 (Nat.zero_le _)
theorem Comp2.use {iter elt i1 : Expr} {x x1 : Str} {px px1 : Pos} {ifs : List Expr} {K : Addr → St → Prop} (h : Comp2 g A n σ iter x i1 x1 ifs elt scope K) (hh : A.handled = none) (hc : compOk n scope = true) (hst : ∀ L cells, canStore (compEn n scope L cells) x = true)
    (hst1 : ∀ L cells, canStore (compEn n scope L cells) x1 = true) (hx : (scope.names.lookup x == some .free) = false) (hx1 : (scope.names.lookup x1 == some .free) = false) (hxx : (x1 == x) = false) (hs1 : ∀ L cells v, foldedSetIterable i1 (compEn n scope L cells).env v = pure v) :
    Ev g A n NE iter σ (ItP g A n (.ListComp elt [⟨.Name x px, iter, [], 0⟩, ⟨.Name x1 px1, i1, ifs, 0⟩] scope pos) scope K) := by
  refine Ev.mono h fun v σ₁ h₁ => ?_
  obtain ⟨l, ao, xs, hv, hl, hi, hfit, I, hI0, hIl, hIt, hIe⟩ := h₁
  refine ⟨l, ao, xs, .inl ⟨hv, hfit⟩, hl, hi, fun Zc L cells D it oD o s₄ gD gI hne R0 aD oD' nD aI hio nI => ?_⟩
  exact comp_outer hh (names_of_compOk hc).1 (hst L cells) (hst1 L cells) (cloc_none hx) (cloc_none hx1) hxx gD gI hne hi hIl (hs1 L cells) (hIt L cells)
    (fun ys H s' oD' a1 a2 a3 a4 a5 => ⟨ys, H, oD', rfl, a1, a2, a3, a4, hIe ys H a5 D a4⟩) R0 aD oD' nD aI hio nI hI0 (Nat.zero_le _)

abbrev QRef (Q : AV → St → Prop) : Addr → St → Prop := fun a σ' => Q (.ref a) σ'
abbrev QAsgA (t : Str) (Q : AFl → St → Prop) : Addr → St → Prop := fun a σ' => Q .next ⟨σ'.H, upd σ'.loc t (.ref a)⟩
theorem Ev.comp1 {iter elt : Expr} {x : Str} {px : Pos} {ifs : List Expr} {Q : AV → St → Prop} (h : Comp1 g A n σ iter x ifs elt scope (QRef Q)) (hh : A.handled = none) (hb : compBound n scope σ.loc = true := by exact Mine.tt0) (hc : compOk n scope = true := by exact Mine.tt0)
    (hst : ∀ L cells, canStore (compEn n scope L cells) x = true := by intros; rfl) (hx : (scope.names.lookup x == some .free) = false := by exact Mine.ff0) (hs : ∀ x, foldedSetIterable iter n.env x = pure x := by intro _; rfl) :
    Ev g A n E (.ListComp elt [⟨.Name x px, iter, ifs, 0⟩] scope pos) σ Q :=
  comp_rule (use := none) (Q := fun v σ' => Q (er v) σ') (h.use (pos := pos) hh hc hst hx) (fun D σ' hk => hk) hc hb hs
theorem Ev.comp2 {iter elt i1 : Expr} {x x1 : Str} {px px1 : Pos} {ifs : List Expr} {Q : AV → St → Prop} (h : Comp2 g A n σ iter x i1 x1 ifs elt scope (QRef Q)) (hh : A.handled = none) (hb : compBound n scope σ.loc = true := by exact Mine.tt0) (hc : compOk n scope = true := by exact Mine.tt0)
    (hst : ∀ L cells, canStore (compEn n scope L cells) x = true := by intros; rfl) (hst1 : ∀ L cells, canStore (compEn n scope L cells) x1 = true := by intros; rfl) (hx : (scope.names.lookup x == some .free) = false := by exact Mine.ff0) (hx1 : (scope.names.lookup x1 == some .free) = false := by exact Mine.ff0)
    (hxx : (x1 == x) = false := by exact Mine.ff0) (hs1 : ∀ L cells v, foldedSetIterable i1 (compEn n scope L cells).env v = pure v := by intros; rfl) (hs : ∀ x, foldedSetIterable iter n.env x = pure x := by intro _; rfl) :
    Ev g A n E (.ListComp elt [⟨.Name x px, iter, [], 0⟩, ⟨.Name x1 px1, i1, ifs, 0⟩] scope pos) σ Q :=
  comp_rule (use := none) (Q := fun v σ' => Q (er v) σ') (h.use (pos := pos) hh hc hst hst1 hx hx1 hxx hs1) (fun D σ' hk => hk) hc hb hs

/-- a comprehension stored at a local name: the store comes first -/
theorem Ex.assignSwap {elt : Expr} {gens : List Comprehension} {t : Str} {tp cpos : Pos} {Q : AFl → St → Prop} (hs : swapsWith (.ListComp elt gens scope cpos) (some (.Name t tp)) pos.line n.env = pure true)
    (h : Ok g A n E (comprehension (.ListComp elt gens scope cpos) scope n.env (firstIterPos gens cpos) (newList []) (firstAsync gens) (firstIter gens n.env) (some fun v => PySem.assign (.Name t tp) n.env v)) σ fun _ σ' => Q .next σ') :
    Ex g A n E (.Assign [.Name t tp] (.ListComp elt gens scope cpos) pos) σ Q := by
  show Ok g A n E (do
      standAt pos
      if ← swapsWith (.ListComp elt gens scope cpos) (some (.Name t tp)) pos.line n.env then do
        (do let _ ← comprehension (.ListComp elt gens scope cpos) scope n.env (firstIterPos gens cpos) (newList []) (firstAsync gens) (firstIter gens n.env) (some fun v => PySem.assign (.Name t tp) n.env v))
        pure Flow.next
      else do
        let v ← eval (.ListComp elt gens scope cpos) n.env
        assignStores n.env v (← swappedStores [.Name t tp] (.ListComp elt gens scope cpos) n.env) ((assignEach [.Name t tp] n.env).map (·.2))) σ _
  rw [hs]
  exact Ok.bind (Ok.standAt (Ok.bind (Ok.pure (Ok.bind (Ok.bind (Ok.mono h fun v σ' h' => Ok.pure (Ok.pure (a := Flow.next) h')))))))
theorem Ex.assignComp1 {iter elt : Expr} {x t : Str} {px tp cpos : Pos} {ifs : List Expr} {Q : AFl → St → Prop} (h : Comp1 g A n σ iter x ifs elt scope (QAsgA t Q)) (hh : A.handled = none)
    (hsw : swapsWith (.ListComp elt [⟨.Name x px, iter, ifs, 0⟩] scope cpos) (some (.Name t tp)) pos.line n.env = pure true := by rfl) (hb : compBound n scope σ.loc = true := by exact Mine.tt0) (hc : compOk n scope = true := by exact Mine.tt0)
    (hst : ∀ L cells, canStore (compEn n scope L cells) x = true := by intros; rfl) (hx : (scope.names.lookup x == some .free) = false := by exact Mine.ff0) (hs : ∀ x, foldedSetIterable iter n.env x = pure x := by intro _; rfl)
    (hf : n.env.scope.kind = .function := by exact Mine.rfk) (hk : canStore n t = true := by exact Mine.tt0) :
    Ex g A n E (.Assign [.Name t tp] (.ListComp elt [⟨.Name x px, iter, ifs, 0⟩] scope cpos) pos) σ Q :=
  Ex.assignSwap hsw (comp_rule (use := some _) (Q := fun _ σ' => Q .next σ') (h.use (pos := cpos) hh hc hst hx) (fun D σ' hk' => Ok.bind (Ok.standAt (Ok.bindName hk' hf hk))) hc hb hs)
theorem Ex.assignComp2 {iter elt i1 : Expr} {x x1 t : Str} {px px1 tp cpos : Pos} {ifs : List Expr} {Q : AFl → St → Prop} (h : Comp2 g A n σ iter x i1 x1 ifs elt scope (QAsgA t Q)) (hh : A.handled = none)
    (hsw : swapsWith (.ListComp elt [⟨.Name x px, iter, [], 0⟩, ⟨.Name x1 px1, i1, ifs, 0⟩] scope cpos) (some (.Name t tp)) pos.line n.env = pure true := by rfl) (hb : compBound n scope σ.loc = true := by exact Mine.tt0) (hc : compOk n scope = true := by exact Mine.tt0)
    (hst : ∀ L cells, canStore (compEn n scope L cells) x = true := by intros; rfl) (hst1 : ∀ L cells, canStore (compEn n scope L cells) x1 = true := by intros; rfl) (hx : (scope.names.lookup x == some .free) = false := by exact Mine.ff0) (hx1 : (scope.names.lookup x1 == some .free) = false := by exact Mine.ff0)
    (hxx : (x1 == x) = false := by exact Mine.ff0) (hs1 : ∀ L cells v, foldedSetIterable i1 (compEn n scope L cells).env v = pure v := by intros; rfl) (hs : ∀ x, foldedSetIterable iter n.env x = pure x := by intro _; rfl)
    (hf : n.env.scope.kind = .function := by exact Mine.rfk) (hk : canStore n t = true := by exact Mine.tt0) :
    Ex g A n E (.Assign [.Name t tp] (.ListComp elt [⟨.Name x px, iter, [], 0⟩, ⟨.Name x1 px1, i1, ifs, 0⟩] scope cpos) pos) σ Q :=
  Ex.assignSwap hsw (comp_rule (use := some _) (Q := fun _ σ' => Q .next σ') (h.use (pos := cpos) hh hc hst hst1 hx hx1 hxx hs1) (fun D σ' hk' => Ok.bind (Ok.standAt (Ok.bindName hk' hf hk))) hc hb hs)
end
end Mine
end

section
open PySem PySem.W PyProof.Rows PySem.Spec PySem.Calls
set_option Elab.async false
set_option maxRecDepth 100000
set_option linter.unusedVariables false
namespace Mine

/-- two lists, item by item -/
inductive All2 {α β : Type} (R : α → β → Prop) : List α → List β → Prop
  | nil : All2 R [] []
  | cons {a b as bs} : R a b → All2 R as bs → All2 R (a :: as) (b :: bs)
namespace All2
variable {α β : Type} {R S : α → β → Prop}
theorem mono (h : ∀ a b, R a b → S a b) : ∀ {as bs}, All2 R as bs → All2 S as bs
  | _, _, .nil => .nil
  | _, _, .cons p q => .cons (h _ _ p) (mono h q)
theorem append : ∀ {as bs as' bs'}, All2 R as bs → All2 R as' bs' → All2 R (as ++ as') (bs ++ bs')
  | _, _, _, _, .nil, q => q
  | _, _, _, _, .cons p r, q => .cons p (append r q)
theorem snoc {as bs a b} (h : All2 R as bs) (p : R a b) : All2 R (as ++ [a]) (bs ++ [b]) := h.append (.cons p .nil)
theorem length : ∀ {as bs}, All2 R as bs → as.length = bs.length
  | _, _, .nil => rfl
  | _, _, .cons _ q => by simp [length q]
theorem get : ∀ {as bs}, All2 R as bs → ∀ {i : Nat} {a : α}, as[i]? = some a → ∃ b, bs[i]? = some b ∧ R a b
  | _, _, .nil, i, a, h => by simp at h
  | _, _, .cons p q, 0, a, h => by simp at h; subst h; exact ⟨_, rfl, p⟩
  | _, _, .cons p q, i + 1, a, h => by simp only [List.getElem?_cons_succ] at h ⊢; exact get q h
theorem get' : ∀ {as bs}, All2 R as bs → ∀ {i : Nat} {b : β}, bs[i]? = some b → ∃ a, as[i]? = some a ∧ R a b
  | _, _, .nil, i, a, h => by simp at h
  | _, _, .cons p q, 0, a, h => by simp at h; subst h; exact ⟨_, rfl, p⟩
  | _, _, .cons p q, i + 1, a, h => by simp only [List.getElem?_cons_succ] at h ⊢; exact get' q h
end All2

/-- everything but the addresses of M stays -/
noncomputable def HExt (M : List Addr) (H H' : AH) : Prop := ∀ a o, a ∉ M → H a = some o → H' a = some o
theorem HExt.refl (M : List Addr) (H : AH) : HExt M H H := fun _ _ _ e => e
theorem HExt.new {M : List Addr} {H : AH} {a : Addr} {o : AO} (h : H a = none) : HExt M H (upd H a o) := fun b ob _ e => by rw [upd_ne]; exact e; intro q; subst q; rw [h] at e; cases e
theorem HExt.set {M : List Addr} {H : AH} {a : Addr} {o : AO} (h : a ∈ M) : HExt M H (upd H a o) := fun b ob hb e => by rw [upd_ne]; exact e; intro q; subst q; exact hb h
theorem HExt.trans {M : List Addr} {H₁ H₂ H₃ : AH} (a : HExt M H₁ H₂) (b : HExt M H₂ H₃) : HExt M H₁ H₃ := fun x o hx e => b x o hx (a x o hx e)
theorem HExt.mono {M M' : List Addr} {H H' : AH} (a : HExt M H H') (h : ∀ x ∈ M, x ∈ M') : HExt M' H H' := fun x o hx e => a x o (fun q => hx (h x q)) e
theorem HExt.new' {M : List Addr} {H H' : AH} {a : Addr} {o : AO} (x : HExt M H H') (h : H' a = none) : HExt M H (upd H' a o) := x.trans (.new h)

/-- a list of ints, off M -/
inductive IsI (M : List Addr) (H : AH) (v : AV) (ns : List Int) : Prop
  | mk (a : Addr) (e : v = .ref a) (off : a ∉ M) (at_ : H a = some (.list (ns.map .int)))
theorem IsI.ext {M : List Addr} {H H' : AH} {v : AV} {ns : List Int} (h : IsI M H v ns) (e : HExt M H H') : IsI M H' v ns := let ⟨a, h1, h2, h3⟩ := h; ⟨a, h1, h2, e a _ h2 h3⟩
theorem IsI.mono {M M' : List Addr} {H : AH} {v : AV} {ns : List Int} (h : IsI M H v ns) (hm : ∀ x ∈ M', x ∈ M) : IsI M' H v ns := let ⟨a, h1, h2, h3⟩ := h; ⟨a, h1, fun q => h2 (hm a q), h3⟩
/-- a list of lists of ints -/
inductive IsLL (M : List Addr) (H : AH) (v : AV) (xss : List (List Int)) : Prop
  | mk (a : Addr) (vs : List AV) (e : v = .ref a) (off : a ∉ M) (at_ : H a = some (.list vs)) (all : All2 (IsI M H) vs xss)
theorem IsLL.ext {M : List Addr} {H H' : AH} {v : AV} {ns : List (List Int)} (h : IsLL M H v ns) (e : HExt M H H') : IsLL M H' v ns :=
  let ⟨a, vs, h1, h2, h3, h4⟩ := h; ⟨a, vs, h1, h2, e a _ h2 h3, h4.mono fun _ _ q => q.ext e⟩

theorem ARdAll.ofI {M : List Addr} {H : AH} : ∀ {vs : List AV} {xss : List (List Int)}, All2 (IsI M H) vs xss → ARdAll H vs (xss.map fun ns => .list (ns.map .int))
  | _, _, .nil => .nil
  | _, _, .cons ⟨a, h1, _, h3⟩ q => .cons (by rw [h1]; exact .list h3 (ARdAll.ints _)) (ARdAll.ofI q)
theorem canLay_ints : ∀ (ns : List Int), PyData.canLayAll0 (ns.map .int) = true
  | [] => rfl
  | n :: ns => by simp [PyData.canLayAll0, PyData.canLay0, canLay_ints ns]
theorem canLay_lists : ∀ (xss : List (List Int)), PyData.canLayAll0 (xss.map fun ns => .list (ns.map .int)) = true
  | [] => rfl
  | n :: ns => by simp [PyData.canLayAll0, PyData.canLay0, canLay_lists ns, canLay_ints n]
theorem depth_ints : ∀ (ns : List Int), PyData.depthAll (ns.map .int) = 0
  | [] => rfl
  | n :: ns => by simp [PyData.depthAll, PyData.depth, depth_ints ns]
theorem depth_lists : ∀ (xss : List (List Int)), PyData.depthAll (xss.map fun ns => .list (ns.map .int)) ≤ 1
  | [] => by simp [PyData.depthAll]
  | n :: ns => by
    have := depth_lists ns
    simp only [List.map_cons, PyData.depthAll, PyData.depth, depth_ints]
    omega
theorem eqv_ints : ∀ (xs ys : List Int), PyData.eqvAll (xs.map .int) (ys.map .int) = (xs == ys)
  | [], [] => rfl
  | [], _ :: _ => rfl
  | _ :: _, [] => rfl
  | x :: xs, y :: ys => by
    simp only [List.map_cons, PyData.eqvAll, PyData.eqv, eqv_ints xs ys]; rfl
theorem eqv_lists : ∀ (xs ys : List (List Int)), PyData.eqvAll (xs.map fun ns => .list (ns.map .int)) (ys.map fun ns => .list (ns.map .int)) = (xs == ys)
  | [], [] => rfl
  | [], _ :: _ => rfl
  | _ :: _, [] => rfl
  | x :: xs, y :: ys => by
    simp only [List.map_cons, PyData.eqvAll, PyData.eqv, eqv_ints x y, eqv_lists xs ys]; rfl
end Mine
namespace Mine
section
variable {g : G} {A : Around} {n : En} {E : Exn} {σ : St} {Q : AV → St → Prop} {pos : Pos} {M : List Addr}
theorem IsI.in_ {w : AV} {ns : List Int} {k : Int} (h : IsI M σ.H w ns) (hq : Q (.bool (ns.contains k)) σ) : Cmp g A n E .In (.int k) w σ Q := by
  obtain ⟨a, rfl, _, h3⟩ := h; exact Cmp.inInts h3 hq
theorem IsI.notIn {w : AV} {ns : List Int} {k : Int} (h : IsI M σ.H w ns) (hq : Q (.bool (!ns.contains k)) σ) : Cmp g A n E .NotIn (.int k) w σ Q := by
  obtain ⟨a, rfl, _, h3⟩ := h; exact Cmp.notInInts h3 hq
theorem IsI.at {w : AV} {ns : List Int} {k x : Int} {v sl : Expr} (h : IsI M σ.H w ns) (h0 : 0 ≤ k) (hx : ns[k.toNat]? = some x) (hl : ns.length ≤ 1000000) (hq : Q (.int x) σ) (hs : ∀ o i, subscripted sl false o i = operate [o, i] (getItem o i) := by intros; rfl) :
    SubT g A n E v sl w (.int k) σ Q := by
  obtain ⟨a, rfl, _, h3⟩ := h; exact SubT.list h3 h0 (by simp [hx]) (by simpa using hl) hq hs
theorem IsI.last {w : AV} {ns : List Int} {v sl : Expr} (h : IsI M σ.H w ns) (hne : ns ≠ []) (hl : ns.length ≤ 1000000) (hq : Q (.int (ns.getLastD 0)) σ) (hs : ∀ o i, subscripted sl false o i = operate [o, i] (getItem o i) := by intros; rfl) :
    SubT g A n E v sl w (.int (-1)) σ Q := by
  obtain ⟨a, rfl, _, h3⟩ := h
  have hp : 0 < ns.length := List.length_pos_iff.mpr hne
  refine SubT.listNeg h3 (by decide) (by (simp; omega)) ?_ (by simpa using hl) hq hs
  have e : ((-1 : Int) + ((ns.map AV.int).length : Int)).toNat = ns.length - 1 := by rw [List.length_map]; (with_reducible exact toNat_pred (by assumption))
  rw [e, List.getElem?_map, List.getElem?_eq_getElem (by omega)]
  simp [List.getLastD_eq_getLast?, List.getLast?_eq_getElem?, List.getElem?_eq_getElem (show ns.length - 1 < ns.length by omega)]
theorem IsLL.at {w : AV} {xss : List (List Int)} {k : Int} {v sl : Expr} (h : IsLL M σ.H w xss) (h0 : 0 ≤ k) (hk : k < xss.length) (hl : xss.length ≤ 1000000) (hq : ∀ u, IsI M σ.H u (xss.getD k.toNat []) → Q u σ) (hs : ∀ o i, subscripted sl false o i = operate [o, i] (getItem o i) := by intros; rfl) :
    SubT g A n E v sl w (.int k) σ Q := by
  obtain ⟨a, vs, rfl, _, h3, h4⟩ := h
  have hlt : k.toNat < xss.length := by omega
  obtain ⟨u, hu, hi⟩ := h4.get' (List.getElem?_eq_getElem hlt)
  refine SubT.list h3 h0 hu (by rw [h4.length]; exact hl) (hq u ?_) hs
  rw [List.getD_eq_getElem?_getD, List.getElem?_eq_getElem hlt]; exact hi
theorem nodup_length_le {α : Type} [DecidableEq α] : ∀ (l S : List α), l.Nodup → (∀ x ∈ l, x ∈ S) → l.length ≤ S.length
  | [], S, _, _ => Nat.zero_le _
  | x :: l, S, hn, hs => by
    have hx : x ∈ S := hs x (.head _)
    have hn' := List.nodup_cons.mp hn
    have := nodup_length_le l (S.erase x) hn'.2 fun y hy => (List.mem_erase_of_ne (fun (q : y = x) => hn'.1 (by rw [← q]; exact hy))).mpr (hs y (.tail _ hy))
    rw [List.length_erase_of_mem hx] at this
    have hp : 0 < S.length := List.length_pos_of_mem hx
    simp only [List.length_cons]; omega
end
end Mine
namespace Mine
theorem take_succ_get {α : Type} {l : List α} {i : Nat} {x : α} (h : l[i]? = some x) : l.take (i + 1) = l.take i ++ [x] := by rw [List.take_succ, h]; rfl
theorem map_get {α β : Type} {f : α → β} {l : List α} {i : Nat} {b : β} (h : (l.map f)[i]? = some b) : ∃ x, l[i]? = some x ∧ b = f x := by
  rw [List.getElem?_map, Option.map_eq_some_iff] at h
  obtain ⟨x, h1, h2⟩ := h
  exact ⟨x, h1, h2.symm⟩
theorem take_len {α : Type} (l : List α) : l.take l.length = l := List.take_length
theorem rngI_5 : rngI 0 5 = [0, 1, 2, 3, 4] := rfl
end Mine
namespace Mine
noncomputable def dI (ns : List Int) : PyData := .list (ns.map .int)
noncomputable def dLL (xss : List (List Int)) : PyData := .list (xss.map dI)
section
variable {g : G} {A : Around} {n : En} {E : Exn} {σ : St} {Q : AV → St → Prop} {pos : Pos} {M : List Addr}
theorem IsI.rd {H : AH} {v : AV} {ns : List Int} (h : IsI M H v ns) : ARd H v (dI ns) := by obtain ⟨a, rfl, _, h3⟩ := h; exact .list h3 (ARdAll.ints _)
theorem IsLL.rd {H : AH} {v : AV} {ns : List (List Int)} (h : IsLL M H v ns) : ARd H v (dLL ns) := by obtain ⟨a, vs, rfl, _, h3, h4⟩ := h; exact .list h3 (ARdAll.ofI h4)
theorem dI_lay (ns : List Int) : (dI ns).canLay0 = true := canLay_ints ns
theorem dLL_lay (ns : List (List Int)) : (dLL ns).canLay0 = true := canLay_lists ns
theorem dI_depth (ns : List Int) : (dI ns).depth ≤ 20 := by simp [dI, PyData.depth, depth_ints]
theorem dLL_depth (ns : List (List Int)) : (dLL ns).depth ≤ 20 := by
  have := depth_lists ns
  show PyData.depthAll (ns.map fun ns => .list (ns.map .int)) + 1 ≤ 20
  omega
theorem dI_eqv (xs ys : List Int) : PyData.eqv (dI xs) (dI ys) = (xs == ys) := eqv_ints xs ys
theorem dLL_eqv (xs ys : List (List Int)) : PyData.eqv (dLL xs) (dLL ys) = (xs == ys) := eqv_lists xs ys
theorem IsI.eq {v w : AV} {xs ys : List Int} (h : IsI M σ.H v xs) (k : IsI M σ.H w ys) (hu : A.units + 20 < cLine) (hq : Q (.bool (xs == ys)) σ) : Cmp g A n E .Eq v w σ Q :=
  Cmp.eqDeep h.rd k.rd (dI_lay _) (dI_lay _) (dI_depth _) hu (by rw [dI_eqv]; exact hq)
theorem IsI.ne {v w : AV} {xs ys : List Int} (h : IsI M σ.H v xs) (k : IsI M σ.H w ys) (hu : A.units + 20 < cLine) (hq : Q (.bool (!(xs == ys))) σ) : Cmp g A n E .NotEq v w σ Q :=
  Cmp.neDeep h.rd k.rd (dI_lay _) (dI_lay _) (dI_depth _) hu (by rw [dI_eqv]; exact hq)
theorem IsLL.eq {v w : AV} {xs ys : List (List Int)} (h : IsLL M σ.H v xs) (k : IsLL M σ.H w ys) (hu : A.units + 20 < cLine) (hq : Q (.bool (xs == ys)) σ) : Cmp g A n E .Eq v w σ Q :=
  Cmp.eqDeep h.rd k.rd (dLL_lay _) (dLL_lay _) (dLL_depth _) hu (by rw [dLL_eqv]; exact hq)
theorem IsLL.ne {v w : AV} {xs ys : List (List Int)} (h : IsLL M σ.H v xs) (k : IsLL M σ.H w ys) (hu : A.units + 20 < cLine) (hq : Q (.bool (!(xs == ys))) σ) : Cmp g A n E .NotEq v w σ Q :=
  Cmp.neDeep h.rd k.rd (dLL_lay _) (dLL_lay _) (dLL_depth _) hu (by rw [dLL_eqv]; exact hq)
theorem IsI.nil {H : AH} {e : Addr} (h : H e = some (.list [])) (hM : e ∉ M) : IsI M H (.ref e) [] := ⟨e, rfl, hM, h⟩
theorem IsLL.nil {H : AH} {e : Addr} (h : H e = some (.list [])) (hM : e ∉ M) : IsLL M H (.ref e) [] := ⟨e, [], rfl, hM, h, .nil⟩
/-- a fresh address lies off M when M's are taken -/
theorem off_of {H : AH} {e : Addr} (he : H e = none) (hM : ∀ x ∈ M, H x ≠ none) : e ∉ M := fun q => hM e q he
end
end Mine
namespace Mine
/-- a list of texts -/
inductive IsS (M : List Addr) (H : AH) (v : AV) (ss : List Str) : Prop
  | mk (a : Addr) (e : v = .ref a) (off : a ∉ M) (at_ : H a = some (.list (ss.map .str)))
theorem IsS.ext {M : List Addr} {H H' : AH} {v : AV} {ns : List Str} (h : IsS M H v ns) (e : HExt M H H') : IsS M H' v ns := let ⟨a, h1, h2, h3⟩ := h; ⟨a, h1, h2, e a _ h2 h3⟩
noncomputable def dS (ns : List Str) : PyData := .list (ns.map .str)
theorem canLay_strs : ∀ (ns : List Str), (∀ x ∈ ns, PyData.strOk x = true) → PyData.canLayAll0 (ns.map .str) = true
  | [], _ => rfl
  | n :: ns, h => by simp [PyData.canLayAll0, PyData.canLay0, h n (.head _), canLay_strs ns fun x hx => h x (.tail _ hx)]
theorem depth_strs : ∀ (ns : List Str), PyData.depthAll (ns.map .str) = 0
  | [] => rfl
  | n :: ns => by simp [PyData.depthAll, PyData.depth, depth_strs ns]
theorem eqv_strs : ∀ (xs ys : List Str), PyData.eqvAll (xs.map .str) (ys.map .str) = (xs == ys)
  | [], [] => rfl
  | [], _ :: _ => rfl
  | _ :: _, [] => rfl
  | x :: xs, y :: ys => by
    simp only [List.map_cons, PyData.eqvAll, PyData.eqv, eqv_strs xs ys]; rfl
section
variable {g : G} {A : Around} {n : En} {E : Exn} {σ : St} {Q : AV → St → Prop} {pos : Pos} {M : List Addr}
theorem IsS.eq {v w : AV} {xs ys : List Str} (h : IsS M σ.H v xs) (k : IsS M σ.H w ys) (h1 : ∀ x ∈ xs, PyData.strOk x = true) (h2 : ∀ x ∈ ys, PyData.strOk x = true) (hu : A.units + 20 < cLine) (hq : Q (.bool (xs == ys)) σ) : Cmp g A n E .Eq v w σ Q := by
  obtain ⟨a, rfl, _, h3⟩ := h; obtain ⟨b, rfl, _, k3⟩ := k
  refine Cmp.eqDeep (da := dS xs) (db := dS ys) (.list h3 (ARdAll.strs _)) (.list k3 (ARdAll.strs _)) (canLay_strs _ h1) (canLay_strs _ h2) (by simp [dS, PyData.depth, depth_strs]) hu ?_
  rw [show PyData.eqv (dS xs) (dS ys) = (xs == ys) from eqv_strs xs ys]; exact hq
end
end Mine
namespace Mine
section
variable {g : G} {A : Around} {n : En} {E : Exn} {σ : St} {pos : Pos} {M : List Addr} {scope : Scope}
theorem All2.imp_filter {α β : Type} {R : α → β → Prop} {as : List α} {bs : List β} {a : α} {b : β} (h : All2 R as bs) (p : R a b) : All2 R (as ++ [a]) (bs ++ [b]) := h.snoc p
inductive FEltP (M : List Addr) (loc1 : Str → Option AV) (H2 : AH) (R : AH → AV → Prop) (y : AV) (σ₃ : St) : Prop
  | mk (e : σ₃.loc = loc1) (x : HExt M H2 σ₃.H) (q : R σ₃.H y)
inductive FTurnP (g : G) (A : Around) (n : En) (M : List Addr) (elt : Expr) (loc1 : Str → Option AV) (H' : AH) (pb : Bool) (R : AH → AV → Prop) (c : Bool) (σ₂ : St) : Prop
  | mk (e : σ₂.loc = loc1) (x : HExt M H' σ₂.H) (h : c = pb) (k : c = true → Ev g A n NE elt σ₂ (FEltP M loc1 σ₂.H R))
inductive FilterP (g : G) (A : Around) (n : En) (M : List Addr) {β : Type} (x : Str) (ifs : List Expr) (elt : Expr) (scope : Scope) (S : AV → β → Prop) (p : β → Bool) (R : β → AH → AV → Prop) (K : Addr → St → Prop) (v : AV) (σ₁ : St) : Prop
  | mk (l : Addr) (ao : AO) (xs : List AV) (bs : List β) (hv : v = .ref l) (hl : σ₁.H l = some ao) (hx : items ao = some xs) (hit : itFits ao = true) (off : l ∉ M) (hS : All2 S xs bs) (hlen : bs.length ≤ 1000000)
    (turn : ∀ (L : Addr) (cells : List (Str × Addr)) (i : Nat) (a : AV) (b : β) (H' : AH), xs[i]? = some a → bs[i]? = some b → S a b → HExt M σ₁.H H' → Its g A (compEn n scope L cells) NE ifs ⟨H', upd (cloc scope σ₁.loc) x a⟩ (FTurnP g A (compEn n scope L cells) M elt (upd (cloc scope σ₁.loc) x a) H' (p b) (R b)))
    (fin : ∀ ys H' a, HExt M σ₁.H H' → All2 (fun y b => R b H' y) ys (bs.filter p) → H' a = none → K a ⟨upd H' a (.list ys), σ₁.loc⟩)
inductive IntsP (g : G) (A : Around) (n : En) (M : List Addr) (x : Str) (ifs : List Expr) (elt : Expr) (scope : Scope) (p : Int → Bool) (f : Int → Int) (K : Addr → St → Prop) (v : AV) (σ₁ : St) : Prop
  | mk (l : Addr) (ao : AO) (src : List Int) (hv : v = .ref l) (hl : σ₁.H l = some ao) (hx : items ao = some (src.map AV.int)) (hit : itFits ao = true) (off : l ∉ M) (hlen : src.length ≤ 1000000)
    (turn : ∀ L cells k H', k ∈ src → HExt M σ₁.H H' → Its g A (compEn n scope L cells) NE ifs ⟨H', upd (cloc scope σ₁.loc) x (.int k)⟩ (FTurnP g A (compEn n scope L cells) M elt (upd (cloc scope σ₁.loc) x (.int k)) H' (p k) fun _ y => y = .int (f k)))
    (fin : ∀ H' a, HExt M σ₁.H H' → H' a = none → K a ⟨upd H' a (.list (((src.filter p).map f).map AV.int)), σ₁.loc⟩)
/-- a comprehension of one clause, item by item: β is what the items of the source mean, p the test, R what the elements mean -/
theorem Comp1.filter {β : Type} {iter elt : Expr} {x : Str} {ifs : List Expr} {K : Addr → St → Prop} (S : AV → β → Prop) (p : β → Bool) (R : AH → AV → β → Prop) (hR : ∀ H H' y b, HExt M H H' → R H y b → R H' y b)
    (h : Ev g A n NE iter σ (FilterP g A n M x ifs elt scope S p (fun b H y => R H y b) K)) :
    Comp1 g A n σ iter x ifs elt scope K := by
  refine Ev.mono h fun v σ₁ h₁ => ?_
  obtain ⟨l, ao, xs, bs, hv, hl, hi, hfit, hlM, hS, hlen, hturn, hend⟩ := h₁
  refine ⟨l, ao, xs, hv, hl, hi, hfit, fun i ys H' => HExt M σ₁.H H' ∧ All2 (R H') ys ((bs.take i).filter p) ∧ ys.length ≤ i ∧ i ≤ xs.length, ⟨HExt.refl _ _, .nil, Nat.le_refl _, Nat.zero_le _⟩, ?_, ?_, ?_⟩
  · rintro i ys H' ⟨h1, h2, h3, h4⟩
    exact ⟨h1 l _ hlM hl, by have := hS.length; omega⟩
  · rintro L cells i a ys H' hia ⟨h1, h2, h3, h4⟩
    obtain ⟨b, hb, hab⟩ := hS.get hia
    have hlt := (List.getElem?_eq_some_iff.mp hia).1
    refine Ok.mono (hturn L cells i a b H' hia hb hab h1) fun c σ₂ hc => ?_
    obtain ⟨e1, e2, e3, e4⟩ := hc
    refine ⟨e1, ?_⟩
    have hstep : (bs.take (i + 1)).filter p = (bs.take i).filter p ++ (if p b then [b] else []) := by
      rw [take_succ_get hb, List.filter_append]; simp only [List.filter_cons, List.filter_nil]
    cases c with
    | true =>
      refine Ev.mono (e4 rfl) fun y σ₃ h₃ => ?_
      obtain ⟨f1, f2, f3⟩ := h₃
      refine ⟨f1, h1.trans (e2.trans f2), ?_, by (exact len_snoc (by with_reducible assumption)), hlt⟩
      rw [hstep, ← e3]
      exact (h2.mono fun _ _ q => hR _ _ _ _ (e2.trans f2) q).snoc f3
    | false =>
      refine ⟨h1.trans e2, ?_, by (with_reducible exact Nat.le_succ_of_le (by assumption)), hlt⟩
      rw [hstep, ← e3]
      simpa using h2.mono fun _ _ q => hR _ _ _ _ e2 q
  · rintro ys H' ⟨h1, h2, h3, h4⟩ a ha
    rw [hS.length, take_len] at h2
    exact hend ys H' a h1 h2 ha

theorem All2.ofMap {α β : Type} (f : β → α) : ∀ (l : List β), All2 (fun a b => a = f b) (l.map f) l
  | [] => .nil
  | b :: r => .cons rfl (All2.ofMap f r)
theorem All2.eqMap {α β : Type} {f : β → α} : ∀ {as : List α} {l : List β}, All2 (fun a b => a = f b) as l → as = l.map f
  | _, _, .nil => rfl
  | _, _, .cons e q => by rw [e, All2.eqMap q]; rfl
/-- a comprehension over ints whose elements are ints -/
theorem Comp1.ints {iter elt : Expr} {x : Str} {ifs : List Expr} {K : Addr → St → Prop} (p : Int → Bool) (f : Int → Int)
    (h : Ev g A n NE iter σ (IntsP g A n M x ifs elt scope p f K)) :
    Comp1 g A n σ iter x ifs elt scope K := by
  refine Comp1.filter (M := M) (fun a b => a = AV.int b) p (fun _ y b => y = .int (f b)) (fun _ _ _ _ _ q => q) (Ev.mono h fun v σ₁ h₁ => ?_)
  obtain ⟨l, ao, src, hv, hl, hi, hfit, hlM, hlen, hturn, hend⟩ := h₁
  refine ⟨l, ao, _, src, hv, hl, hi, hfit, hlM, All2.ofMap _ _, hlen, fun L cells i a b H' _ hb hab h1 => ?_, fun ys H' a h1 h2 ha => ?_⟩
  · subst hab; exact hturn L cells b H' (List.mem_of_getElem? hb) h1
  · have := All2.eqMap (f := fun b => AV.int (f b)) h2
    have e : ys = ((src.filter p).map f).map AV.int := by rw [this]; simp
    rw [e]; exact hend H' a h1 ha

noncomputable def maxI : List Int → Int
  | [] => 0
  | a :: l => l.foldl (fun x y => if x < y then y else x) a
theorem foldl_max : ∀ (l : List Int) (a : Int), (l.foldl (fun x y => if x < y then y else x) a ∈ a :: l) ∧ ∀ b ∈ a :: l, b ≤ l.foldl (fun x y => if x < y then y else x) a
  | [], a => by simp
  | c :: l, a => by
    simp only [List.foldl_cons]
    obtain ⟨h1, h2⟩ := foldl_max l (if a < c then c else a)
    refine ⟨?_, fun b hb => ?_⟩
    · rcases List.mem_cons.mp h1 with q | q
      · rw [q]; split <;> simp
      · simp [q]
    · have h3 := h2 _ (.head _)
      have h4 : a ≤ (if a < c then c else a) ∧ c ≤ (if a < c then c else a) := by split <;> omega
      rcases List.mem_cons.mp hb with rfl | hb
      · exact Int.le_trans h4.1 h3
      · rcases List.mem_cons.mp hb with rfl | hb
        · exact Int.le_trans h4.2 h3
        · exact h2 b (.tail _ hb)
theorem maxI_eq {ns : List Int} {m : Int} (hne : ns ≠ []) (h1 : m ∈ ns) (h2 : ∀ a ∈ ns, a ≤ m) : m = maxI ns := by
  cases ns with
  | nil => exact absurd rfl hne
  | cons a l =>
    obtain ⟨h3, h4⟩ := foldl_max l a
    exact Int.le_antisymm (h4 m h1) (h2 _ h3)
theorem intsAre_of : ∀ {vs : List Value} {ns : List Int}, vs.map er = ns.map AV.int → IntsAre vs ns
  | [], [], _ => .nil
  | [], _ :: _, h => by simp at h
  | _ :: _, [], h => by simp at h
  | v :: vs, k :: ns, h => by
    simp only [List.map_cons, List.cons.injEq] at h
    obtain ⟨t, rfl⟩ := er_int h.1
    exact .cons _ _ (intsAre_of h.2)
theorem Call.max {Q : AV → St → Prop} {l : Addr} {ns : List Int} (hl : σ.H l = some (.list (ns.map .int))) (hne : ns ≠ []) (hh : A.handled = none) (h : Q (.int (maxI ns)) σ) : Call g A n E (.builtin "max") [.ref l] σ Q := fun cargs ha Z s r => by
  obtain ⟨c, rfl, h1⟩ := one_arg ha
  rw [er_ref h1]
  obtain ⟨its, k, h2, h3⟩ := r.listAt hl
  have hi : IntsAre its.toList ns := intsAre_of h3
  obtain ⟨xs, e⟩ := hi.allInts.items
  have hns : ns = xs.toList.map (·.1) := by rw [← hi.numsOf, ← nums_intItems, ← e]
  have hsz : 0 < xs.size := by
    have h3 : 0 < ns.length := List.length_pos_iff.mpr hne
    rw [hns, List.length_map, Array.length_toList] at h3; exact h3
  have hl2 : s.heap.IsList l (intItems xs) := by rw [← e]; exact ⟨_, h2, rfl, k, by simp⟩
  refine max_intList hh hl2 hsz fun v h' tk hv hk => ?_
  obtain ⟨t, rfl⟩ := intItems_at hv
  obtain ⟨m1, m2⟩ := argBest_gt (numAt xs) (xs.size - 1)
  refine ⟨σ, r.ext hk, ?_⟩
  have : numAt xs (argBest (fun i j => decide (numAt xs i > numAt xs j)) (xs.size - 1)) = maxI ns := by
    refine maxI_eq hne ?_ fun a ha => ?_
    · rw [hns, numAt_eq]; exact getD_mem (by rw [List.length_map, Array.length_toList]; omega)
    · rw [hns] at ha
      obtain ⟨j, hj, rfl⟩ := mem_getD ha
      rw [List.length_map, Array.length_toList] at hj
      rw [← numAt_eq]; exact m2 j (by omega)
  show Q (.int _) σ
  rw [this]; exact h
end
end Mine
end

local macro_rules | `(tactic| walk_at "m1") => `(tactic| first
  | with_reducible_and_instances first
    | refine Mine.Exs.cons ?_ | refine Mine.Exs.nil ?_
    | refine Mine.Ex.ifS ?_ | refine Mine.Ex.ret ?_ | refine Mine.Ex.brk ?_ | refine Mine.Ex.cont ?_ | refine Mine.Ex.pass ?_
    | refine Mine.Tst.not ?_ | refine Mine.Tst.and0 ?_ | refine Mine.Tst.or0 ?_ | refine Mine.Tst.and ?_ | refine Mine.Tst.or ?_
    | refine Mine.Ev.cInt ?_ | refine Mine.Ev.cStr ?_ | refine Mine.Ev.cBool ?_ | refine Mine.Ev.cNone ?_ | refine Mine.Ev.binOp ?_ | refine Mine.Ev.unaryOp ?_ | refine Mine.Ev.ifExp ?_ | refine Mine.Ev.subscript ?_
    | refine Mine.Ev.and2 ?_ | refine Mine.Ev.or2 ?_ | refine Mine.Ev.list ?_ | refine Mine.Ev.tuple ?_ | refine Mine.Evs.nil ?_ | refine Mine.Ev.sliceLo ?_
    | refine Mine.Bin.add ?_ | refine Mine.Bin.sub ?_ | refine Mine.Un.neg ?_ | refine Mine.Cmp.eqInt ?_ | refine Mine.Cmp.neInt ?_ | refine Mine.Cmp.ltInt ?_ | refine Mine.Cmp.gtInt ?_ | refine Mine.Cmp.geInt ?_ | refine Mine.Cmp.eqStr ?_
    | refine Mine.Inp.add ?_ | refine Mine.Inp.sub ?_ | refine Mine.Tru.bool ?_ | refine Mine.Its.nil ?_ | refine Mine.Its.one ?_
  | (with_reducible_and_instances show Mine.Tst _ _ _ _ (PySem.Expr.Compare _ [_] [_] _) _ _); refine Mine.Tst.compare ?_
  | (with_reducible_and_instances show Mine.Ev _ _ _ _ (PySem.Expr.Compare _ [_] [_] _) _ _); refine Mine.Ev.compare ?_
  | (with_reducible_and_instances show Mine.Evs _ _ _ _ (_ :: _) _ _); refine Mine.Evs.cons ?_
  | (with_reducible_and_instances show Mine.Ev _ _ _ _ (PySem.Expr.Name _ _) _ _); refine Mine.Ev.name rfl ?_
  | (with_reducible_and_instances show Mine.Tst _ _ _ _ (PySem.Expr.Name _ _) _ _); refine Mine.Tst.plain ?_
  | (with_reducible_and_instances show Mine.Tst _ _ _ _ (PySem.Expr.Call _ _ _ _) _ _); refine Mine.Tst.plain ?_
  | (with_reducible_and_instances show Mine.Ex _ _ _ _ (PySem.Stmt.Assign [PySem.Expr.Name _ _] _ _) _ _); refine Mine.Ex.assign ?_
  | (with_reducible_and_instances show Mine.Ex _ _ _ _ (PySem.Stmt.Expr _ _) _ _); refine Mine.Ex.expr ?_)

section
open PySem PySem.W PyProof.Rows PySem.Spec PySem.Calls
set_option Elab.async false
set_option maxRecDepth 100000
set_option linter.unusedVariables false
namespace Mine

noncomputable def takesF (hs : List Str) (d : Bool) (rs : List Str) : Bool :=
  if d = false then hs == rs else if rs.getLast? == some (Str.ofString "7") then false else decide (rs.length < hs.length) && (hs.drop (hs.length - rs.length) == rs)

noncomputable def fdTakes : { fd : FuncData // ∀ P, (hd.heap_39 P).lookup 196 = some ⟨.type "function", none, .func fd, #[]⟩ } := ⟨_, fun _ => rfl⟩

theorem takes_ok (g : G) (h r : AV) (hs rs : List Str) (d : Bool) (H : AH) (hh : IsS [] H h hs) (hr : IsS [] H r rs) (hne : rs ≠ []) (hl1 : hs.length ≤ 1000) (hl2 : rs.length ≤ 1000)
    (hok1 : ∀ x ∈ hs, PyData.strOk x = true) (hok2 : ∀ x ∈ rs, PyData.strOk x = true) :
    FnOk g 2 196 [h, .bool d, r] H fun v H' => v = .bool (takesF hs d rs) ∧ HExt [] H H' := by
  refine FnOk.of_body (abinds := [(Str.ofString "host", h), (Str.ofString "dotted", .bool d), (Str.ofString "rule", r)]) (fdTakes.2 _) rfl rfl rfl rfl ?_ rfl ?_
  · intro cargs hc
    obtain ⟨a, b, c, rfl, e1, e2, e3⟩ := three_args hc
    exact ⟨[(Str.ofString "host", a), (Str.ofString "dotted", b), (Str.ofString "rule", c)], rfl, by simp [e1, e2, e3]⟩
  intro A L outer room fr
  have hu := room.units
  obtain ⟨ah, rfl, _, hh3⟩ := id hh
  obtain ⟨ar, rfl, _, hr3⟩ := id hr
  have hp : 0 < rs.length := List.length_pos_iff.mpr hne
  (repeat walk_at "m1")
  cases d with
  | false =>
    show Exs _ _ _ _ _ _ _
    (repeat walk_at "m1")
    exact IsS.eq (M := []) hh hr hok1 hok2 (by (with_reducible exact units20 (by assumption))) ⟨rfl, HExt.refl _ _⟩
  | true =>
    show Exs _ _ _ _ _ _ _
    (repeat walk_at "m1")
    refine SubT.listNeg hr3 (by decide) (by (simp; omega)) (x := .str (rs.getLast hne)) ?_ (by (exact len_map_le (by with_reducible exact Nat.le_trans (by assumption) (by decide)))) ?_
    · have e : ((-1 : Int) + ((rs.map AV.str).length : Int)).toNat = rs.length - 1 := by rw [List.length_map]; (with_reducible exact toNat_pred (by assumption))
      rw [e, List.getElem?_map, List.getElem?_eq_getElem (by omega), List.getLast_eq_getElem]; rfl
    (repeat walk_at "m1")
    refine ⟨_, rfl, ?_⟩
    have hlast : (rs.getLast? == some (Str.ofString "7")) = (rs.getLast hne == Str.ofString "7") := by rw [List.getLast?_eq_some_getLast hne]; rfl
    cases h7 : (rs.getLast hne == Str.ofString "7") with
    | true =>
      show Exs _ _ _ _ _ _ _
      (repeat walk_at "m1")
      exact ⟨by simp [takesF, hlast, h7, retv], HExt.refl _ _⟩
    | false =>
      show Exs _ _ _ _ _ _ _
      (repeat walk_at "m1")
      refine Ev.callB rfl rfl ?_
      (repeat walk_at "m1")
      refine Call.len hh3 (by (exact len_map_le (by with_reducible exact Nat.le_trans (by assumption) (by decide)))) ?_
      refine Ev.callB rfl rfl ?_
      (repeat walk_at "m1")
      refine Call.len hr3 (by (exact len_map_le (by with_reducible exact Nat.le_trans (by assumption) (by decide)))) ?_
      (repeat walk_at "m1")
      rw [List.length_map, List.length_map]
      cases hlt : decide (((rs.length : Nat) : Int) < ((hs.length : Nat) : Int)) with
      | false =>
        show _ ∧ _
        have : ¬ rs.length < hs.length := by have := of_decide_eq_false hlt; omega
        exact ⟨by simp [takesF, hlast, h7, retv, this], HExt.refl _ _⟩
      | true =>
        have hlt' : rs.length < hs.length := by have := of_decide_eq_true hlt; omega
        show Ev _ _ _ _ _ _ _
        (repeat walk_at "m1")
        refine Ev.callB rfl rfl ?_
        (repeat walk_at "m1")
        refine Call.len hh3 (by (exact len_map_le (by with_reducible exact Nat.le_trans (by assumption) (by decide)))) ?_
        refine Ev.callB rfl rfl ?_
        (repeat walk_at "m1")
        refine Call.len hr3 (by (exact len_map_le (by with_reducible exact Nat.le_trans (by assumption) (by decide)))) ?_
        (repeat walk_at "m1")
        intro b hb
        dsimp only at hb ⊢
        rw [List.length_map, List.length_map]
        have hsub : ((hs.length : Nat) : Int) - ((rs.length : Nat) : Int) = ((hs.length - rs.length : Nat) : Int) := by omega
        rw [hsub]
        have x1 := HExt.new (M := []) (o := .slice (.int ((hs.length - rs.length : Nat) : Int)) .none) hb
        refine SubT.sliceLo (xs := hs.map .str) (k := hs.length - rs.length) (x1 _ _ (by (exact nm0)) hh3) (upd_same ..) (by simp) (by (exact len_map_le (by with_reducible exact Nat.le_trans (by assumption) (by decide)))) fun c hc => ?_
        dsimp only at hc ⊢
        (repeat walk_at "m1")
        have x2 := HExt.new (M := []) (o := .list ((hs.map AV.str).drop (hs.length - rs.length))) hc
        refine IsS.eq (M := []) (xs := hs.drop (hs.length - rs.length)) ⟨c, rfl, by (exact nm0), by simp⟩ ((hr.ext x1).ext x2) (fun x hx => hok1 x (List.mem_of_mem_drop hx)) hok2 (by (with_reducible exact units20 (by assumption))) ?_
        exact ⟨by simp [takesF, hlast, h7, retv, hlt'], x1.trans x2⟩
end Mine
end

section
open PySem PySem.W PyProof.Rows PySem.Spec PySem.Calls
set_option Elab.async false
set_option maxRecDepth 100000
set_option linter.unusedVariables false
namespace Mine

noncomputable def lastI (row : List Int) : Int := row.getLastD 0
noncomputable def headI (row : List Int) : Int := row.headD 0
noncomputable def adjAt (adj : List (List Int)) (k : Int) : List Int := adj.getD k.toNat []
noncomputable def ringsOf (adj rows : List (List Int)) : List (List Int) := rows.filter fun row => (adjAt adj (lastI row)).contains (headI row)
noncomputable def growRow (adj : List (List Int)) (row : List Int) : List (List Int) := ((adjAt adj (lastI row)).filter fun k => decide (headI row < k) && !row.contains k).map fun k => row ++ [k]
noncomputable def growRows (adj rows : List (List Int)) : List (List Int) := rows.flatMap (growRow adj)
noncomputable def ringsGo (adj : List (List Int)) : Nat → List (List Int) → List (List Int)
  | 0, _ => []
  | f + 1, rows => if rows = [] then [] else ringsOf adj rows ++ ringsGo adj f (growRows adj rows)
noncomputable def ringsF (adj : List (List Int)) : List (List Int) := ringsGo adj 6 [[0], [1], [2], [3], [4]]

noncomputable def fdRings : { fd : FuncData // ∀ P, (hd.heap_39 P).lookup 201 = some ⟨.type "function", none, .func fd, #[]⟩ } := ⟨_, fun _ => rfl⟩


structure RowOk (k : Nat) (row : List Int) : Prop where
  len : row.length = k
  nod : row.Nodup
  rng : ∀ x ∈ row, 0 ≤ x ∧ x < 5
theorem RowOk.le {k : Nat} {row : List Int} (h : RowOk k row) : k ≤ 5 := by
  rw [← h.len]
  refine nodup_length_le row [0, 1, 2, 3, 4] h.nod fun x hx => ?_
  have := h.rng x hx
  simp only [List.mem_cons, List.not_mem_nil, or_false]
  (with_reducible exact five_of (by assumption))
theorem RowOk.last {k : Nat} {row : List Int} (h : RowOk k row) (hk : 0 < k) : row ≠ [] ∧ 0 ≤ lastI row ∧ lastI row < 5 := by
  have hne : row ≠ [] := fun q => by have := h.len; rw [q] at this; simp at this; omega
  refine ⟨hne, h.rng _ ?_⟩
  unfold lastI
  rw [List.getLastD_eq_getLast?, List.getLast?_eq_some_getLast hne]
  exact List.getLast_mem hne
theorem growRow_ok {adj : List (List Int)} (hr : ∀ ns ∈ adj, ∀ k ∈ ns, 0 ≤ k ∧ k < 5) {k : Nat} {row r' : List Int} (h : RowOk k row) (hm : r' ∈ growRow adj row) : RowOk (k + 1) r' := by
  unfold growRow at hm
  obtain ⟨x, hx, rfl⟩ := List.mem_map.mp hm
  obtain ⟨hx1, hx2⟩ := List.mem_filter.mp hx
  simp only [Bool.and_eq_true, Bool.not_eq_true', decide_eq_true_eq] at hx2
  have hxr : 0 ≤ x ∧ x < 5 := by
    unfold adjAt at hx1
    rw [List.getD_eq_getElem?_getD] at hx1
    cases q : adj[(lastI row).toNat]? with
    | none => rw [q] at hx1; simp at hx1
    | some ns => rw [q] at hx1; exact hr ns (List.mem_of_getElem? q) x hx1
  refine ⟨by simp [h.len], ?_, fun y hy => ?_⟩
  · rw [List.nodup_append]
    refine ⟨h.nod, by simp, fun a ha b hb => ?_⟩
    simp only [List.mem_singleton] at hb
    subst hb
    intro q
    subst q
    have : row.contains a = true := by simpa using ha
    rw [this] at hx2
    simp at hx2
  · rcases List.mem_append.mp hy with hy | hy
    · exact h.rng y hy
    · simp at hy; subst hy; exact hxr

theorem headI_eq {row : List Int} (h : row ≠ []) : row[(0 : Int).toNat]? = some (headI row) := by
  cases row with
  | nil => exact absurd rfl h
  | cons x r => rfl

theorem adjAt_len {adj : List (List Int)} (hl : ∀ ns ∈ adj, ns.length ≤ 5) (k : Int) : (adjAt adj k).length ≤ 5 := by
  unfold adjAt
  rw [List.getD_eq_getElem?_getD]
  cases q : adj[k.toNat]? with
  | none => simp
  | some ns => exact hl ns (List.mem_of_getElem? q)
theorem growRow_len {adj : List (List Int)} (hl : ∀ ns ∈ adj, ns.length ≤ 5) (row : List Int) : (growRow adj row).length ≤ 5 := by
  unfold growRow
  rw [List.length_map]
  exact Nat.le_trans (List.length_filter_le ..) (adjAt_len hl _)
theorem flatMap_len {α β : Type} (f : α → List β) (c : Nat) (h : ∀ x, (f x).length ≤ c) : ∀ (l : List α), (l.flatMap f).length ≤ c * l.length
  | [] => by simp
  | x :: l => by
    have h1 := h x
    have h2 := flatMap_len f c h l
    simp only [List.flatMap_cons, List.length_append, List.length_cons, Nat.mul_add, Nat.mul_one]; omega

theorem r_a : ∀ m ≤ 5, 0 < m → 6 - (m - 1) = 6 - m + 1 := by decide
theorem r_b : ∀ m ≤ 5, 0 < m → 5 - (m - 1) = 5 - m + 1 := by decide
theorem r_c : ∀ m ≤ 5, 0 < 6 - m := by decide
theorem r_d : ∀ m ≤ 5, 0 < m → 6 - m ≤ 5 := by decide
theorem rings_ok (g : G) (adj : List (List Int)) (hadj : adj.length = 5) (hr : ∀ ns ∈ adj, ∀ k ∈ ns, 0 ≤ k ∧ k < 5) (hl5 : ∀ ns ∈ adj, ns.length ≤ 5) (H : AH) (v : AV) (hv : IsLL [] H v adj) :
    FnOk g 2 201 [v] H fun r H' => HExt [] H H' ∧ IsLL [] H' r (ringsF adj) := by
  refine FnOk.of_body (abinds := [(Str.ofString "arrows", v)]) (fdRings.2 _) rfl rfl rfl rfl ?_ rfl ?_
  · intro cargs hc
    obtain ⟨a, rfl, e1⟩ := one_arg hc
    exact ⟨[(Str.ofString "arrows", a)], rfl, by simp [e1]⟩
  intro A L outer room fr
  have hu := room.units
  (repeat walk_at "m1")
  refine ⟨by (exact Nat.le_of_ble_eq_true rfl), fun aR haR => ?_⟩
  dsimp only at haR
  (repeat walk_at "m1")
  refine Ex.assignComp1 ?_ room.h
  refine Ev.callT rfl rfl ?_
  (repeat walk_at "m1")
  refine Call.range1 fun l hl => ?_
  dsimp only at hl ⊢
  have hlR : l ≠ aR := fun q => by rw [q] at hl; simp at hl
  have x1 : HExt [] H (upd (upd H aR (.list [])) l (.range 0 5)) := (HExt.new haR).new' hl
  have b1 : upd (upd H aR (.list [])) l (.range 0 5) l = some (.range 0 5) := upd_same ..
  have b2 : upd (upd H aR (.list [])) l (.range 0 5) aR = some (.list []) := by rw [upd_ne (Ne.symm hlR)]; exact upd_same ..
  generalize upd (upd H aR (.list [])) l (.range 0 5) = H0 at x1 b1 b2 ⊢
  refine ⟨l, _, _, rfl, b1, rfl, rfl, fun i ys H' => HExt [] H0 H' ∧ All2 (IsI [aR] H') ys (((rngI 0 5).take i).map fun j => [j]), ⟨HExt.refl _ _, .nil⟩, ?_, ?_, ?_⟩
  · rintro i ys H' ⟨hE, hA⟩
    refine ⟨hE l _ (by (exact nm0)) b1, ?_⟩
    have := hA.length
    simp [rngI_5] at this
    omega
  · rintro L cells i a ys H' hi ⟨hE, hA⟩
    obtain ⟨x, hx, rfl⟩ := map_get hi
    (repeat walk_at "m1")
    refine ⟨rfl, ?_⟩
    (repeat walk_at "m1")
    refine ⟨by (exact Nat.le_of_ble_eq_true rfl), fun b hb => ⟨rfl, ?_⟩⟩
    dsimp only at hb ⊢
    refine ⟨hE.new' hb, ?_⟩
    rw [take_succ_get hx, List.map_append]
    have hbR : b ≠ aR := fun q => by
      have := hE aR _ (by (exact nm0)) b2
      rw [← q, hb] at this; cases this
    exact (hA.mono fun _ _ q => q.ext (HExt.new hb)).snoc ⟨b, rfl, by simpa using hbR, by rw [upd_same]; rfl⟩
  rintro ys H' ⟨hE, hA⟩ aRows haRows
  have hlen : ((rngI 0 5).map AV.int).length = 5 := rfl
  rw [hlen] at hA
  have hA : All2 (IsI [aR] H') ys [[0], [1], [2], [3], [4]] := hA
  have hR' : H' aR = some (.list []) := hE aR _ (by (exact nm0)) b2
  have hne : aRows ≠ aR := fun q => by rw [q, hR'] at haRows; cases haRows
  walk_at "m1"
  skip
  refine Ex.while (fun m σ => E4 fun aRows rows vs acc => C12 (m ≤ 5) (σ.loc (Str.ofString "arrows") = some v) (σ.loc (Str.ofString "rings") = some (.ref aR)) (σ.loc (Str.ofString "rows") = some (.ref aRows)) (HExt [aR] H σ.H) (IsLL [aR] σ.H (.ref aRows) rows) (σ.H aR = some (.list vs)) (All2 (IsI [aR] σ.H) vs acc) (acc ++ ringsGo adj (m + 1) rows = ringsF adj) (∀ row ∈ rows, RowOk (6 - m) row) (rows.length ≤ 5 ^ (6 - m)) (acc.length ≤ (5 - m) * 5 ^ 5)) 5 ?_ ?_ PassE.never
  · refine ⟨aRows, [[0], [1], [2], [3], [4]], [], [], Nat.le_refl _, rfl, rfl, rfl, ?_, ⟨aRows, ys, rfl, by simpa using hne, upd_same .., hA.mono fun _ _ q => q.ext (HExt.new haRows)⟩, ?_, .nil, rfl, ?_, by (exact Nat.le_of_ble_eq_true rfl), by simp⟩
    · exact ((x1.trans hE).new' haRows).mono (by (exact nsub))
    · show upd H' aRows (.list ys) aR = _; rw [upd_ne (Ne.symm hne)]; exact hR'
    · intro row hrow
      simp only [List.mem_cons, List.not_mem_nil, or_false] at hrow
      rcases hrow with rfl | rfl | rfl | rfl | rfl <;> exact ⟨rfl, by simp, by simp⟩
  rintro m ⟨Hm, loc⟩ ⟨aRows, rows, vs, acc, hm5, l1, l2, l3, hE, hRows, hRg, hAcc, hsum, hok, hbnd, hacc⟩
  dsimp only at l1 l2 l3 hE hRows hRg hAcc
  refine Tst.compare (Ev.name l3 ?_)
  (repeat walk_at "m1")
  refine ⟨by (exact Nat.le_of_ble_eq_true rfl), fun e he => ?_⟩
  dsimp only at he ⊢
  have heM : e ∉ [aR] := off_of he (by simp [hRg])
  refine IsLL.ne (M := [aR]) (hRows.ext (HExt.new he)) (IsLL.nil (upd_same ..) heM) (by (with_reducible exact units20 (by assumption))) ⟨_, rfl, ?_⟩
  have hE1 : HExt [aR] H (upd Hm e (.list [])) := hE.new' he
  have hRows1 := hRows.ext (HExt.new (o := .list []) he)
  have hRg1 : upd Hm e (.list []) aR = some (.list vs) := by rw [upd_ne]; exact hRg; intro q; exact heM (by simp [q])
  have hAcc1 := hAcc.mono fun _ _ q => q.ext (HExt.new (o := .list []) he)
  generalize upd Hm e (.list []) = H1 at hE1 hRows1 hRg1 hAcc1 ⊢
  clear hE hRows hRg hAcc
  by_cases hrows : rows = []
  · subst hrows
    show Exs _ _ _ _ _ _ _
    walk_at "m1"
    walk_at "m1"
    walk_at "m1"
    refine Ev.name l2 ?_
    refine ⟨fun a o ha => ?_, aR, vs, rfl, by (exact nm0), hRg1, ?_⟩
    · by_cases q : a = aR
      · rw [q]; intro h; rw [haR] at h; cases h
      · exact fun h => hE1 a o (by simpa using q) h
    · have : ringsGo adj (m + 1) [] = [] := by simp [ringsGo]
      rw [this, List.append_nil] at hsum
      rw [← hsum]
      exact hAcc1.mono fun _ _ q => q.mono (by (exact nsub))
  · have hb : (!(rows == [])) = true := by simpa using hrows
    rw [hb]
    show Exs _ _ _ _ _ _ _
    have hm0 : 0 < m := by
      obtain ⟨row, hrow⟩ := List.exists_mem_of_ne_nil _ hrows
      have := (hok row hrow).le
      exact Nat.pos_of_ne_zero fun q => by rw [q] at this; exact absurd this (by decide)
    have hgo : ringsGo adj (m + 1) rows = ringsOf adj rows ++ ringsGo adj m (growRows adj rows) := by simp [ringsGo, hrows]
    have hp5 : 5 ^ (6 - m) ≤ 5 ^ 5 := Nat.pow_le_pow_right (by decide) (r_d m hm5 hm0)
    walk_at "m1"
    walk_at "m1"
    refine Ev.method (Ev.name l2 ⟨"list", "list.extend", meth_extend, listType hRg1, ?_⟩)
    walk_at "m1"
    -- the rings of this length
    obtain ⟨aa, rvs, hr1, hr2, hr3, hr4⟩ := id hRows1
    cases hr1
    have hv1 : IsLL [] H1 v adj := by
      obtain ⟨c, cs, c1, c2, c3, c4⟩ := hv
      have cR : c ≠ aR := fun q => by rw [q, haR] at c3; cases c3
      refine ⟨c, cs, c1, c2, hE1 c _ (by simpa using cR) c3, c4.mono fun w ns q => ?_⟩
      obtain ⟨d, d1, d2, d3⟩ := q
      exact ⟨d, d1, d2, hE1 d _ (by simp; intro q; rw [q, haR] at d3; cases d3) d3⟩
    have hrow : ∀ {i : Nat} {a : AV}, rvs[i]? = some a → ∃ row, rows[i]? = some row ∧ IsI [aR] H1 a row ∧ RowOk (6 - m) row := fun {i a} hi => by
      obtain ⟨row, h1, h2⟩ := hr4.get hi
      exact ⟨row, h1, h2, hok row (List.mem_of_getElem? h1)⟩
    have hadjL : (adj.length : Int) = 5 := by (with_reducible exact int_eqn5 (by assumption))
    have hrl6 : rows.length ≤ 1000000 := Nat.le_trans hbnd (Nat.le_trans hp5 (by decide))
    refine Ev.comp1 ?_ room.h (by simp [compBound, l1])
    refine Ev.name l3 ⟨aRows, _, rvs, rfl, hr3, rfl, rfl, fun i ys H' => C4 (HExt [] H1 H') (All2 (IsI [aR] H') ys (ringsOf adj (rows.take i))) (ys.length ≤ i) (i ≤ rvs.length), ⟨HExt.refl _ _, .nil, Nat.le_refl _, Nat.zero_le _⟩, ?_, ?_, ?_⟩
    · rintro i ys H' ⟨h1, h2, h3, h4⟩
      refine ⟨h1 _ _ (by (exact nm0)) hr3, ?_⟩
      have := hr4.length
      exact Nat.le_trans h3 (Nat.le_trans h4 (this ▸ hrl6))
    · rintro L cells i a ys H' hi ⟨h1, h2, h3, h4⟩
      obtain ⟨row, e1, e2, e3⟩ := hrow hi
      obtain ⟨k1, k2, k3⟩ := e3.last (r_c m hm5)
      have e2' : IsI [aR] H' a row := e2.ext (h1.mono (by (exact nsub)))
      have hlen : row.length ≤ 1000000 := by rw [e3.len]; exact Nat.le_trans (Nat.sub_le 6 m) (by decide)
      (repeat walk_at "m1")
      refine e2'.at (Int.le_refl _) (headI_eq k1) hlen ?_
      (repeat walk_at "m1")
      refine Ev.name l1 ?_
      (repeat walk_at "m1")
      refine e2'.last k1 hlen ?_
      refine (hv1.ext h1).at (σ := ⟨H', _⟩) k2 (by rw [hadjL]; exact k3) (by (with_reducible exact le_of_eqn (by assumption) (by decide))) fun u hu => ?_
      refine hu.in_ ⟨_, rfl, rfl, ?_⟩
      have hstep : ringsOf adj (rows.take (i + 1)) = ringsOf adj (rows.take i) ++ (if (adjAt adj (lastI row)).contains (headI row) then [row] else []) := by
        unfold ringsOf
        rw [take_succ_get e1, List.filter_append]
        simp only [List.filter_cons, List.filter_nil]
      cases hc : (adjAt adj (lastI row)).contains (headI row) with
      | true =>
        rw [hc] at hstep
        have hc' : (List.getD adj (row.getLastD 0).toNat []).contains (headI row) = true := hc
        rw [hc']
        (repeat walk_at "m1")
        refine ⟨rfl, h1, ?_, by (exact len_snoc (by with_reducible assumption)), by have := (List.getElem?_eq_some_iff.mp hi).1; (with_reducible exact Nat.succ_le_of_lt (by assumption))⟩
        rw [hstep]
        exact h2.snoc e2'
      | false =>
        rw [hc] at hstep
        have hc' : (List.getD adj (row.getLastD 0).toNat []).contains (headI row) = false := hc
        rw [hc']
        refine ⟨h1, ?_, by (with_reducible exact Nat.le_succ_of_le (by assumption)), by have := (List.getElem?_eq_some_iff.mp hi).1; (with_reducible exact Nat.succ_le_of_lt (by assumption))⟩
        rw [hstep]
        simpa using h2
    rintro ys H2 ⟨h1, h2, h3, h4⟩ aN haN
    rw [hr4.length, take_len] at h2
    walk_at "m1"
    have hR2 : H2 aR = some (.list vs) := h1 _ _ (by (exact nm0)) hRg1
    have hNR : aN ≠ aR := fun q => by rw [q, hR2] at haN; cases haN
    have hlv := hAcc1.length
    have hly := h2.length
    have hrl : (ringsOf adj rows).length ≤ rows.length := List.length_filter_le ..
    refine Call.extend (xs := vs) (ys := ys) (by show upd H2 aN (.list ys) aR = _; rw [upd_ne (Ne.symm hNR)]; exact hR2) (upd_same ..) ?_ ?_
    · exact Nat.le_trans (Nat.add_le_add (hlv ▸ Nat.le_trans hacc (Nat.mul_le_mul_right _ (Nat.sub_le 5 m))) (hly ▸ Nat.le_trans hrl (Nat.le_trans hbnd hp5))) (by decide)
    -- the state behind extend
    have x2 : HExt [aR] H1 (upd (upd H2 aN (.list ys)) aR (.list (vs ++ ys))) := ((h1.mono (by (exact nsub))).new' haN).trans (HExt.set (by simp))
    have a2 : All2 (IsI [aR] (upd (upd H2 aN (.list ys)) aR (.list (vs ++ ys)))) (vs ++ ys) (acc ++ ringsOf adj rows) :=
      (hAcc1.mono fun _ _ q => q.ext x2).append (h2.mono fun _ _ q => q.ext ((HExt.new haN).trans (HExt.set (by simp))))
    have r2 : upd (upd H2 aN (.list ys)) aR (.list (vs ++ ys)) aR = some (.list (vs ++ ys)) := upd_same ..
    have hv2 : IsLL [aR] H1 v adj := by
      obtain ⟨c, cs, c1, c2, c3, c4⟩ := hv
      have cR : c ≠ aR := fun q => by rw [q, haR] at c3; cases c3
      refine ⟨c, cs, c1, by simpa using cR, hE1 c _ (by simpa using cR) c3, c4.mono fun w ns q => ?_⟩
      obtain ⟨d, d1, d2, d3⟩ := q
      have dR : d ≠ aR := fun q => by rw [q, haR] at d3; cases d3
      exact ⟨d, d1, by simpa using dR, hE1 d _ (by simpa using dR) d3⟩
    have hv3 := hv2.ext x2
    have hr4' := hr4.mono fun _ _ q => q.ext x2
    have hr3' := x2 aRows _ hr2 hr3
    have hE3 := hE1.trans x2
    dsimp only
    generalize upd (upd H2 aN (.list ys)) aR (.list (vs ++ ys)) = H3 at x2 a2 r2 hv3 hr4' hr3' hE3 ⊢
    walk_at "m1"
    refine Ex.assignComp2 ?_ room.h rfl (by simp [compBound, l1])
    refine Ev.name l3 ⟨aRows, _, rvs, rfl, hr3', rfl, rfl, fun i ys H' => C3 (HExt [] H3 H') (All2 (IsI [aR] H') ys (growRows adj (rows.take i))) (i ≤ rvs.length), ⟨HExt.refl _ _, .nil, Nat.zero_le _⟩, ?_, ?_, ?_⟩
    · rintro i ys H' ⟨h1, h2, h4⟩
      exact h1 _ _ (by (exact nm0)) hr3'
    · rintro L cells i a ys H' hi ⟨h1, h2, h4⟩
      obtain ⟨row, e1, e2, e3⟩ := hrow hi
      obtain ⟨k1, k2, k3⟩ := e3.last (r_c m hm5)
      have e2' : IsI [aR] H' a row := (e2.ext x2).ext (h1.mono (by (exact nsub)))
      have hlen : row.length ≤ 1000000 := by rw [e3.len]; exact Nat.le_trans (Nat.sub_le 6 m) (by decide)
      unfold Inner
      walk_at "m1"
      refine Ev.name l1 ?_
      (repeat walk_at "m1")
      refine e2'.last k1 hlen ?_
      refine (hv3.ext (h1.mono (by (exact nsub)))).at (σ := ⟨H', _⟩) k2 (by rw [hadjL]; exact k3) (by (with_reducible exact le_of_eqn (by assumption) (by decide))) fun u hu => ?_
      have hu : IsI [aR] H' u (adjAt adj (lastI row)) := hu
      obtain ⟨b, rfl, hbM, hb⟩ := hu
      have hadjr : ((adjAt adj (lastI row)).map AV.int).length ≤ 5 := by rw [List.length_map]; exact adjAt_len hl5 _
      have hstep : growRows adj (rows.take (i + 1)) = growRows adj (rows.take i) ++ growRow adj row := by unfold growRows; rw [take_succ_get e1]; simp
      have hpre : ys.length ≤ 5 * 5 ^ 5 := by
        rw [h2.length]
        refine Nat.le_trans (flatMap_len _ 5 (growRow_len hl5) _) (Nat.mul_le_mul_left _ ?_)
        exact Nat.le_trans (List.length_take_le' i rows) (Nat.le_trans hbnd hp5)
      refine ⟨rfl, b, _, _, rfl, hb, rfl, rfl, fun j zs H'' => C4 (HExt [] H' H'') (All2 (IsI [aR] H'') zs (growRows adj (rows.take i) ++ (((adjAt adj (lastI row)).take j).filter fun k => decide (headI row < k) && !row.contains k).map fun k => row ++ [k])) (zs.length ≤ ys.length + j) (j ≤ 5), ⟨HExt.refl _ _, by simpa using h2, by omega, by (exact Nat.zero_le _)⟩, ?_, ?_, ?_⟩
      · rintro j zs H'' ⟨q1, q2, q3, q4⟩
        exact ⟨q1 _ _ (by (exact nm0)) hb, Nat.le_trans q3 (Nat.le_trans (Nat.add_le_add hpre q4) (by decide))⟩
      · rintro j c zs H'' hj ⟨q1, q2, q3, q4⟩
        obtain ⟨k, hk, rfl⟩ := map_get hj
        have hj5 : j + 1 ≤ 5 := by have := (List.getElem?_eq_some_iff.mp hj).1; omega
        have e2'' : IsI [aR] H'' a row := e2'.ext (q1.mono (by (exact nsub)))
        have hst2 : (((adjAt adj (lastI row)).take (j + 1)).filter fun k => decide (headI row < k) && !row.contains k).map (fun k => row ++ [k]) =
            (((adjAt adj (lastI row)).take j).filter fun k => decide (headI row < k) && !row.contains k).map (fun k => row ++ [k]) ++ (if decide (headI row < k) && !row.contains k then [row ++ [k]] else []) := by
          rw [take_succ_get hk, List.filter_append, List.map_append]
          simp only [List.filter_cons, List.filter_nil]
          split <;> simp
        (repeat walk_at "m1")
        refine e2''.at (Int.le_refl _) (headI_eq k1) hlen ?_
        (repeat walk_at "m1")
        refine ⟨_, rfl, ?_⟩
        cases hlt : decide (headI row < k) with
        | false =>
          show TurnP _ _ _ _ _ _ _ _ _
          rw [hlt] at hst2
          refine ⟨rfl, q1, ?_, Nat.le_succ_of_le q3, hj5⟩
          rw [hst2]; simpa using q2
        | true =>
          rw [hlt] at hst2
          show Tst _ _ _ _ _ _ _
          (repeat walk_at "m1")
          refine e2''.notIn ⟨_, rfl, ?_⟩
          cases hc : row.contains k with
          | true =>
            rw [hc] at hst2
            show TurnP _ _ _ _ _ _ _ _ _
            refine ⟨rfl, q1, ?_, Nat.le_succ_of_le q3, hj5⟩
            rw [hst2]; simpa using q2
          | false =>
            rw [hc] at hst2
            show Tst _ _ _ _ _ _ _
            walk_at "m1"
            refine ⟨rfl, ?_⟩
            (repeat walk_at "m1")
            refine ⟨by (exact Nat.le_of_ble_eq_true rfl), fun b2 hb2 => ?_⟩
            dsimp only at hb2 ⊢
            obtain ⟨ar, rfl, har1, har2⟩ := e2''
            have hb2r : ar ≠ b2 := fun q => by rw [q, hb2] at har2; cases har2
            refine Bin.addList (xs := row.map .int) (ys := [.int k]) (by show upd H'' b2 _ ar = _; rw [upd_ne hb2r]; exact har2) (upd_same ..) (by have := e3.len; simp; omega) fun b3 hb3 => ⟨rfl, ?_⟩
            dsimp only at hb3 ⊢
            have x4 : HExt [] H'' (upd (upd H'' b2 (.list [.int k])) b3 (.list (row.map .int ++ [.int k]))) := (HExt.new hb2).new' hb3
            have hRR : upd H'' b2 (.list [.int k]) aR ≠ none := by
              have := (HExt.new (M := []) (o := .list [.int k]) hb2) aR _ (by (exact nm0)) (q1 aR _ (by (exact nm0)) (h1 aR _ (by (exact nm0)) r2))
              rw [this]; simp
            refine ⟨q1.trans x4, ?_, len_snoc q3, hj5⟩
            rw [hst2, ← List.append_assoc]
            refine (q2.mono fun _ _ q => q.ext (x4.mono (by (exact nsub)))).append (.cons ⟨b3, rfl, off_of hb3 (by simpa using hRR), ?_⟩ .nil)
            rw [upd_same]; simp
      · rintro zs H'' ⟨q1, q2, q3, q4⟩
        refine ⟨h1.trans q1, ?_, by have := (List.getElem?_eq_some_iff.mp hi).1; (with_reducible exact Nat.succ_le_of_lt (by assumption))⟩
        rw [hstep]
        rw [List.length_map, take_len] at q2
        exact q2
    rintro zs H4 ⟨h1, h2, h4⟩ aN2 haN2
    rw [hr4'.length, take_len] at h2
    dsimp only at haN2 ⊢
    walk_at "m1"
    have hR4 : H4 aR = some (.list (vs ++ ys)) := h1 _ _ (by (exact nm0)) r2
    have hN2 : aN2 ∉ [aR] := off_of haN2 (by simp [hR4])
    have hN2R : aR ≠ aN2 := fun q => hN2 (by simp [q])
    have x5 : HExt [aR] H3 (upd H4 aN2 (.list zs)) := (h1.mono (by (exact nsub))).new' haN2
    refine ⟨m - 1, Nat.sub_lt hm0 (by decide), aN2, growRows adj rows, vs ++ ys, acc ++ ringsOf adj rows, Nat.le_trans (Nat.sub_le m 1) hm5, l1, l2, rfl, hE3.trans x5, ⟨aN2, zs, rfl, hN2, upd_same .., h2.mono fun _ _ q => q.ext (HExt.new haN2)⟩, ?_, a2.mono fun _ _ q => q.ext x5, ?_, ?_, ?_, ?_⟩
    · show upd H4 aN2 _ aR = _; rw [upd_ne hN2R]; exact hR4
    · rw [List.append_assoc, Nat.sub_add_cancel hm0, ← hgo]; exact hsum
    · intro row hrow'
      obtain ⟨r0, hr0, hr0'⟩ := List.mem_flatMap.mp hrow'
      have := growRow_ok hr (hok r0 hr0) hr0'
      rw [r_a m hm5 hm0]; exact this
    · refine Nat.le_trans (flatMap_len _ 5 (growRow_len hl5) _) ?_
      rw [r_a m hm5 hm0, Nat.pow_succ, Nat.mul_comm]
      exact Nat.mul_le_mul_right _ hbnd
    · rw [List.length_append, r_b m hm5 hm0, Nat.add_mul, Nat.one_mul]
      exact Nat.add_le_add (hacc) (Nat.le_trans hrl (Nat.le_trans hbnd hp5))
end Mine
end

section
open PySem PySem.W PyProof.Rows PySem.Spec PySem.Calls
set_option Elab.async false
set_option maxRecDepth 100000
set_option linter.unusedVariables false
namespace Mine

noncomputable def r5 : List Int := [0, 1, 2, 3, 4]
noncomputable def spoilt0 (rings : List (List Int)) : List Int := r5.filter fun k => !(rings.filter (fun ring => ring.contains k) == [])
noncomputable def spoiltS (adj : List (List Int)) (sp : List Int) : List Int := r5.filter fun k => sp.contains k || !(sp.filter (fun j => (adjAt adj j).contains k) == [])
noncomputable def leftF (sp : List Int) : List Int := r5.filter fun k => !sp.contains k
noncomputable def highS (adj : List (List Int)) (left high : List Int) : List Int := r5.map fun k => maxI (0 :: (left.filter fun j => (adjAt adj j).contains k).map fun j => high.getD j.toNat 0 + 1)
noncomputable def iter (f : α → α) : Nat → α → α
  | 0, a => a
  | n + 1, a => f (iter f n a)
noncomputable def levels (left high : List Int) (ls : List Int) : List (List Int) := (ls.map fun lv => left.filter fun k => high.getD k.toNat 0 == lv).filter fun one => !(one == [])
noncomputable def roundsF (adj rings : List (List Int)) : List (List Int) :=
  let left := leftF (iter (spoiltS adj) 5 (spoilt0 rings))
  levels left (iter (highS adj left) 5 [0, 0, 0, 0, 0]) r5

noncomputable def fdRounds : { fd : FuncData // ∀ P, (hd.heap_39 P).lookup 206 = some ⟨.type "function", none, .func fd, #[]⟩ } := ⟨_, fun _ => rfl⟩

theorem sub_r5 {p : Int → Bool} {k : Int} (h : k ∈ r5.filter p) : 0 ≤ k ∧ k < 5 := by
  have := (List.mem_filter.mp h).1
  simp only [r5, List.mem_cons, List.not_mem_nil, or_false] at this
  (with_reducible exact of_five (by assumption))
theorem mem_r5 {k : Int} (h : k ∈ r5) : 0 ≤ k ∧ k < 5 := by
  simp only [r5, List.mem_cons, List.not_mem_nil, or_false] at h
  (with_reducible exact of_five (by assumption))
theorem len_r5 (p : Int → Bool) : (r5.filter p).length ≤ 5 := List.length_filter_le ..

theorem spoilt_form (adj rings : List (List Int)) : ∀ i, ∃ p, iter (spoiltS adj) i (spoilt0 rings) = r5.filter p
  | 0 => ⟨_, (rfl : spoilt0 rings = _)⟩
  | i + 1 => ⟨_, (rfl : spoiltS adj (iter (spoiltS adj) i (spoilt0 rings)) = _)⟩

theorem rounds_ok (g : G) (adj rings : List (List Int)) (hadj : adj.length = 5) (hrl : rings.length ≤ 100000) (H : AH) (v w : AV) (hv : IsLL [] H v adj) (hw : IsLL [] H w rings) :
    FnOk g 2 206 [v, w] H fun r H' => HExt [] H H' ∧ IsLL [] H' r (roundsF adj rings) := by
  refine FnOk.of_body (abinds := [(Str.ofString "arrows", v), (Str.ofString "rings", w)]) (fdRounds.2 _) rfl rfl rfl rfl ?_ rfl ?_
  · intro cargs hc
    obtain ⟨a, b, rfl, e1, e2⟩ := two_args hc
    exact ⟨[(Str.ofString "arrows", a), (Str.ofString "rings", b)], rfl, by simp [e1, e2]⟩
  intro A L outer room fr
  have hu := room.units
  obtain ⟨av, avs, rfl, _, hv3, hv4⟩ := id hv
  obtain ⟨aw, wvs, rfl, _, hw3, hw4⟩ := id hw
  have hadjL : (adj.length : Int) = 5 := by (with_reducible exact int_eqn5 (by assumption))
  walk_at "m1"
  walk_at "m1"
  refine Ev.comp1 ?_ room.h
  refine Comp1.ints (M := []) (fun k => !(rings.filter (fun ring => ring.contains k) == [])) (fun k => k) ?_
  refine Ev.callT rfl rfl ?_
  (repeat walk_at "m1")
  refine Call.range1 fun l hl => ⟨l, _, r5, rfl, upd_same .., rfl, rfl, by (exact nm0), by simp [r5], ?_, ?_⟩
  · rintro L cells k H' hk hE
    have x0 : HExt [] H H' := (HExt.new hl).trans hE
    (repeat walk_at "m1")
    refine Ev.comp1 ?_ room.h
    refine Comp1.filter (M := []) (IsI [] H') (fun ring : List Int => ring.contains k) (fun H y b => IsI [] H y b) (fun _ _ _ _ e q => q.ext e) (Ev.name rfl ?_)
    refine ⟨aw, _, wvs, rings, rfl, x0 _ _ (by (exact nm0)) hw3, rfl, rfl, by (exact nm0), hw4.mono fun _ _ q => q.ext x0, by (with_reducible exact Nat.le_trans (by assumption) (by decide)), ?_, ?_⟩
    · rintro L cells i a b H'' ha hb hab h1
      (repeat walk_at "m1")
      refine (hab.ext h1).in_ ⟨_, rfl, rfl, HExt.refl _ _, rfl, fun _ => ?_⟩
      (repeat walk_at "m1")
      exact ⟨rfl, HExt.refl _ _, hab.ext h1⟩
    · rintro ys H'' a h1 h2 ha
      dsimp only
      (repeat walk_at "m1")
      refine ⟨by (exact Nat.le_of_ble_eq_true rfl), fun e he => ?_⟩
      dsimp only at he ⊢
      have x1 := HExt.new (M := []) (o := .list ys) ha
      have x2 := HExt.new (M := []) (o := .list []) he
      refine IsLL.ne (M := []) (xs := rings.filter fun ring => ring.contains k) ⟨a, ys, rfl, by (exact nm0), x2 _ _ (by (exact nm0)) (upd_same ..), h2.mono fun _ _ q => (q.ext x1).ext x2⟩ (IsLL.nil (upd_same ..) (by (exact nm0))) (by (with_reducible exact units20 (by assumption))) ⟨_, rfl, rfl, (h1.trans x1).trans x2, rfl, fun _ => ?_⟩
      (repeat walk_at "m1")
      exact ⟨rfl, HExt.refl _ _, rfl⟩
  rintro H' aS hE haS
  have x0 : HExt [] H (upd H' aS (.list (((r5.filter fun k => !(rings.filter (fun ring => ring.contains k) == [])).map fun k => k).map AV.int))) := ((HExt.new hl).trans hE).new' haS
  have s0 : IsI [] (upd H' aS (.list (((r5.filter fun k => !(rings.filter (fun ring => ring.contains k) == [])).map fun k => k).map AV.int))) (.ref aS) (spoilt0 rings) := ⟨aS, rfl, by (exact nm0), by rw [upd_same]; simp [spoilt0]⟩
  dsimp only
  generalize upd H' aS _ = H1 at x0 s0 ⊢
  -- five turns of spoilt
  walk_at "m1"
  refine Ex.for ?_ room.h PassE.never
  refine Ev.callT rfl rfl ?_
  (repeat walk_at "m1")
  refine Call.range1 fun l2 hl2 => ⟨l2, _, _, rfl, upd_same .., rfl, rfl, fun i σ => ∃ aS, C5 (i ≤ 5) (σ.loc (Str.ofString "arrows") = some (.ref av)) (σ.loc (Str.ofString "spoilt") = some (.ref aS)) (IsI [] σ.H (.ref aS) (iter (spoiltS adj) i (spoilt0 rings))) (HExt [] (upd H1 l2 (.range 0 5)) σ.H), ?_, ?_, ?_, ?_⟩
  · exact ⟨aS, by (exact Nat.zero_le _), rfl, rfl, s0.ext (HExt.new hl2), HExt.refl _ _⟩
  · rintro i σ ⟨_, _, _, _, _, h⟩
    exact h _ _ (by (exact nm0)) (upd_same ..)
  · rintro i a ⟨Hi, loc⟩ hi ⟨aS, hi5, l1, l3, hs, hE⟩
    dsimp only at l1 l3 hs hE
    have hi4 : i + 1 ≤ 5 := (List.getElem?_eq_some_iff.mp hi).1
    have xa : HExt [] H Hi := (x0.new' hl2).trans hE
    have hsl : (iter (spoiltS adj) i (spoilt0 rings)).length ≤ 5 ∧ ∀ k ∈ iter (spoiltS adj) i (spoilt0 rings), 0 ≤ k ∧ k < 5 := by
      obtain ⟨p, hp⟩ := spoilt_form adj rings i
      rw [hp]; exact ⟨len_r5 _, fun k hk => sub_r5 hk⟩
    obtain ⟨sp, hsp⟩ : ∃ sp, sp = iter (spoiltS adj) i (spoilt0 rings) := ⟨_, rfl⟩
    rw [← hsp] at hs hsl
    walk_at "m1"
    walk_at "m1"
    refine Ev.comp1 ?_ room.h
    refine Comp1.ints (M := []) (fun k => sp.contains k || !(sp.filter (fun j => (adjAt adj j).contains k) == [])) (fun k => k) ?_
    refine Ev.callT rfl rfl ?_
    (repeat walk_at "m1")
    refine Call.range1 fun l hl => ⟨l, _, r5, rfl, upd_same .., rfl, rfl, by (exact nm0), by simp [r5], ?_, ?_⟩
    · rintro L cells k H' hk hE'
      have x1 : HExt [] Hi H' := (HExt.new hl).trans hE'
      obtain ⟨as, e, _, hs3⟩ := id hs
      cases e
      (repeat walk_at "m1")
      refine Ev.name l3 ?_
      refine (hs.ext x1).in_ ⟨_, rfl, ?_⟩
      cases hc : sp.contains k with
      | true =>
        show FTurnP _ _ _ _ _ _ _ _ _ _ _
        refine ⟨rfl, HExt.refl _ _, rfl, fun _ => ?_⟩
        (repeat walk_at "m1")
        exact ⟨rfl, HExt.refl _ _, rfl⟩
      | false =>
        show Tst _ _ _ _ _ _ _
        (repeat walk_at "m1")
        refine Ev.comp1 ?_ room.h (by simp (decide := true) [compBound, upd, cloc, l1, l3])
        refine Comp1.ints (M := []) (fun j => (adjAt adj j).contains k) (fun j => j) (Ev.name l3 ?_)
        refine ⟨aS, _, sp, rfl, x1 _ _ (by (exact nm0)) hs3, rfl, rfl, by (exact nm0), by omega, ?_, ?_⟩
        · rintro L cells j H'' hj h1
          (repeat walk_at "m1")
          refine Ev.name l1 ?_
          (repeat walk_at "m1")
          obtain ⟨j0, j5⟩ := hsl.2 j hj
          refine (hv.ext ((xa.trans x1).trans h1)).at (σ := ⟨H'', _⟩) j0 (by rw [hadjL]; exact j5) (by (with_reducible exact le_of_eqn (by assumption) (by decide))) fun u hu' => ?_
          refine hu'.in_ ⟨_, rfl, rfl, HExt.refl _ _, rfl, fun _ => ?_⟩
          (repeat walk_at "m1")
          exact ⟨rfl, HExt.refl _ _, rfl⟩
        · rintro H'' a h1 ha
          dsimp only
          (repeat walk_at "m1")
          refine ⟨by (exact Nat.le_of_ble_eq_true rfl), fun e he => ?_⟩
          dsimp only at he ⊢
          refine IsI.ne (M := []) (xs := sp.filter fun j => (adjAt adj j).contains k) ⟨a, rfl, by (exact nm0), HExt.new (M := []) he _ _ (by (exact nm0)) (by rw [upd_same]; simp)⟩ (IsI.nil (upd_same ..) (by (exact nm0))) (by (with_reducible exact units20 (by assumption))) ⟨_, rfl, ?_⟩
          have xe := (h1.new' (o := .list (((sp.filter fun j => (adjAt adj j).contains k).map fun j => j).map AV.int)) ha).new' (o := .list []) he
          cases hd : !(sp.filter (fun j => (adjAt adj j).contains k) == []) with
          | true =>
            show FTurnP _ _ _ _ _ _ _ _ _ _ _
            refine ⟨rfl, xe, rfl, fun _ => ?_⟩
            (repeat walk_at "m1")
            exact ⟨rfl, HExt.refl _ _, rfl⟩
          | false =>
            show Tst _ _ _ _ _ _ _
            (repeat walk_at "m1")
            exact ⟨rfl, xe, rfl, fun q => by cases q⟩
    · rintro H' a hE' ha
      dsimp only
      (repeat walk_at "m1")
      refine ⟨a, hi4, l1, rfl, ⟨a, rfl, by (exact nm0), by show upd H' a _ a = some (.list ((spoiltS adj (iter (spoiltS adj) i (spoilt0 rings))).map .int)); rw [upd_same, ← hsp]; simp [spoiltS]⟩, hE.trans (((HExt.new hl).trans hE').new' ha)⟩
  rintro ⟨H2, loc2⟩ ⟨aS2, _, l1, l3, hs, hE2⟩
  dsimp only at l1 l3 hs hE2
  have x2 : HExt [] H H2 := (x0.new' hl2).trans hE2
  have hs : IsI [] H2 (.ref aS2) (iter (spoiltS adj) 5 (spoilt0 rings)) := hs
  unfold roundsF
  generalize iter (spoiltS adj) 5 (spoilt0 rings) = sp at hs ⊢
  obtain ⟨as, e, _, hs3⟩ := id hs
  cases e
  -- left
  walk_at "m1"
  walk_at "m1"
  refine Ev.comp1 ?_ room.h
  refine Comp1.ints (M := []) (fun k => !sp.contains k) (fun k => k) ?_
  refine Ev.callT rfl rfl ?_
  (repeat walk_at "m1")
  refine Call.range1 fun l3' hl3 => ⟨l3', _, r5, rfl, upd_same .., rfl, rfl, by (exact nm0), by simp [r5], ?_, ?_⟩
  · rintro L cells k H' hk hE
    (repeat walk_at "m1")
    refine Ev.name l3 ?_
    refine (hs.ext ((HExt.new hl3).trans hE)).notIn ⟨_, rfl, rfl, HExt.refl _ _, rfl, fun _ => ?_⟩
    (repeat walk_at "m1")
    exact ⟨rfl, HExt.refl _ _, rfl⟩
  rintro H' aL hE haL
  have hleft : IsI [] (upd H' aL (.list (((r5.filter fun k => !sp.contains k).map fun k => k).map AV.int))) (.ref aL) (leftF sp) := ⟨aL, rfl, by (exact nm0), by rw [upd_same]; simp [leftF]⟩
  have x3 : HExt [] H (upd H' aL (.list (((r5.filter fun k => !sp.contains k).map fun k => k).map AV.int))) := x2.trans (((HExt.new hl3).trans hE).new' haL)
  have hlm : ∀ k ∈ leftF sp, 0 ≤ k ∧ k < 5 := fun k hk => sub_r5 hk
  have hll : (leftF sp).length ≤ 5 := len_r5 _
  dsimp only
  generalize leftF sp = left at hleft hlm hll ⊢
  generalize upd H' aL _ = H3 at hleft x3 ⊢
  obtain ⟨al, e, _, hleft3⟩ := id hleft
  cases e
  (repeat walk_at "m1")
  refine ⟨by (exact Nat.le_of_ble_eq_true rfl), fun aH haH => ?_⟩
  dsimp only at haH ⊢
  have hh0 : IsI [] (upd H3 aH (.list [.int 0, .int 0, .int 0, .int 0, .int 0])) (.ref aH) [0, 0, 0, 0, 0] := ⟨aH, rfl, by (exact nm0), upd_same ..⟩
  have xh := HExt.new (M := []) (o := .list [.int 0, .int 0, .int 0, .int 0, .int 0]) haH
  have x4 := x3.trans xh
  have hleft := hleft.ext xh
  have hleft3 := xh _ _ (by (exact nm0)) hleft3
  generalize upd H3 aH _ = H4 at hh0 x4 hleft hleft3 ⊢
  (repeat walk_at "m1")
  refine Ex.for ?_ room.h PassE.never
  refine Ev.callT rfl rfl ?_
  (repeat walk_at "m1")
  refine Call.range1 fun l4 hl4 => ⟨l4, _, _, rfl, upd_same .., rfl, rfl, fun i σ => ∃ aH, C7 (i ≤ 5) (σ.loc (Str.ofString "arrows") = some (.ref av)) (σ.loc (Str.ofString "left") = some (.ref aL)) (σ.loc (Str.ofString "high") = some (.ref aH)) (IsI [] σ.H (.ref aH) (iter (highS adj left) i [0, 0, 0, 0, 0])) ((iter (highS adj left) i [0, 0, 0, 0, 0]).length = 5) (HExt [] (upd H4 l4 (.range 0 5)) σ.H), ?_, ?_, ?_, ?_⟩
  · exact ⟨aH, by (exact Nat.zero_le _), l1, rfl, rfl, hh0.ext (HExt.new hl4), rfl, HExt.refl _ _⟩
  · rintro i σ ⟨_, _, _, _, _, _, _, h⟩
    exact h _ _ (by (exact nm0)) (upd_same ..)
  · rintro i a ⟨Hi, loc⟩ hi ⟨aH, hi5, l1, l2, l3, hhi, hlen, hE⟩
    dsimp only at l1 l2 l3 hhi hE
    have hi4 : i + 1 ≤ 5 := (List.getElem?_eq_some_iff.mp hi).1
    have xi : HExt [] H4 Hi := (HExt.new hl4).trans hE
    obtain ⟨hg, hhg⟩ : ∃ hg, hg = iter (highS adj left) i [0, 0, 0, 0, 0] := ⟨_, rfl⟩
    rw [← hhg] at hhi hlen
    walk_at "m1"
    walk_at "m1"
    refine Ev.comp1 ?_ room.h
    refine Comp1.ints (M := []) (fun _ => true) (fun k => maxI (0 :: (left.filter fun j => (adjAt adj j).contains k).map fun j => hg.getD j.toNat 0 + 1)) ?_
    refine Ev.callT rfl rfl ?_
    (repeat walk_at "m1")
    refine Call.range1 fun l hl => ⟨l, _, r5, rfl, upd_same .., rfl, rfl, by (exact nm0), by simp [r5], ?_, ?_⟩
    · rintro L cells k H' hk hE'
      have xk : HExt [] Hi H' := (HExt.new hl).trans hE'
      (repeat walk_at "m1")
      refine ⟨rfl, HExt.refl _ _, rfl, fun _ => ?_⟩
      refine Ev.callB rfl rfl ?_
      (repeat walk_at "m1")
      refine ⟨by (exact Nat.le_of_ble_eq_true rfl), fun b hb => ?_⟩
      dsimp only at hb ⊢
      have xb := HExt.new (M := []) (o := .list [.int 0]) hb
      refine Ev.comp1 ?_ room.h (by simp (decide := true) [compBound, upd, cloc, l1, l2, l3])
      refine Comp1.ints (M := []) (fun j => (adjAt adj j).contains k) (fun j => hg.getD j.toNat 0 + 1) (Ev.name l2 ?_)
      refine ⟨aL, _, left, rfl, xb _ _ (by (exact nm0)) (xk _ _ (by (exact nm0)) (xi _ _ (by (exact nm0)) hleft3)), rfl, rfl, by (exact nm0), by (with_reducible exact Nat.le_trans (by assumption) (by decide)), ?_, ?_⟩
      · rintro L cells j H'' hj h1
        obtain ⟨j0, j5⟩ := hlm j hj
        (repeat walk_at "m1")
        refine Ev.name l1 ?_
        (repeat walk_at "m1")
        refine (hv.ext ((((x4.trans xi).trans xk).trans xb).trans h1)).at (σ := ⟨H'', _⟩) j0 (by rw [hadjL]; exact j5) (by (with_reducible exact le_of_eqn (by assumption) (by decide))) fun u hu' => ?_
        refine hu'.in_ ⟨_, rfl, rfl, HExt.refl _ _, rfl, fun _ => ?_⟩
        (repeat walk_at "m1")
        refine Ev.name l3 ?_
        (repeat walk_at "m1")
        have hjl : j.toNat < hg.length := by (with_reducible exact toNat_lt5 (by assumption) (by assumption) (by assumption))
        refine (((hhi.ext xk).ext xb).ext h1).at (σ := ⟨H'', _⟩) j0 (List.getElem?_eq_getElem hjl) (by (with_reducible exact le_of_eqn (by assumption) (by decide))) ?_
        (repeat walk_at "m1")
        exact ⟨rfl, HExt.refl _ _, by rw [List.getD_eq_getElem?_getD, List.getElem?_eq_getElem hjl]; rfl⟩
      · rintro H'' a h1 ha
        have xa := HExt.new (M := []) (o := .list (((left.filter fun j => (adjAt adj j).contains k).map fun j => hg.getD j.toNat 0 + 1).map AV.int)) ha
        refine Bin.addList (xs := [.int 0]) (ys := ((left.filter fun j => (adjAt adj j).contains k).map fun j => hg.getD j.toNat 0 + 1).map AV.int) (xa _ _ (by (exact nm0)) (h1 _ _ (by (exact nm0)) (upd_same ..))) (upd_same ..) ?_ fun c hc => ?_
        · have := List.length_filter_le (fun j => (adjAt adj j).contains k) left
          simp only [List.length_map, List.length_cons, List.length_nil]; omega
        dsimp only at hc ⊢
        (repeat walk_at "m1")
        have e0 : [AV.int 0] ++ ((left.filter fun j => (adjAt adj j).contains k).map fun j => hg.getD j.toNat 0 + 1).map AV.int = (0 :: (left.filter fun j => (adjAt adj j).contains k).map fun j => hg.getD j.toNat 0 + 1).map AV.int := rfl
        refine Call.max (ns := 0 :: (left.filter fun j => (adjAt adj j).contains k).map fun j => hg.getD j.toNat 0 + 1) (by show upd _ c _ c = _; rw [upd_same, e0]) (by simp) room.h ?_
        exact ⟨rfl, ((xb.trans h1).trans xa).new' hc, rfl⟩
    · rintro H' a hE' ha
      dsimp only
      (repeat walk_at "m1")
      refine ⟨a, hi4, l1, l2, rfl, ⟨a, rfl, by (exact nm0), ?_⟩, ?_, hE.trans (((HExt.new hl).trans hE').new' ha)⟩
      · show upd H' a _ a = some (.list ((highS adj left (iter (highS adj left) i [0, 0, 0, 0, 0])).map .int)); rw [upd_same, ← hhg]; rfl
      · show (highS adj left (iter (highS adj left) i [0, 0, 0, 0, 0])).length = 5; simp [highS, r5]
  rintro ⟨H5, loc5⟩ ⟨aH5, _, l1, l2, l3, hhi, hhl, hE5⟩
  dsimp only at l1 l2 l3 hhi hE5
  have hhi : IsI [] H5 (.ref aH5) (iter (highS adj left) 5 [0, 0, 0, 0, 0]) := hhi
  have hhl : (iter (highS adj left) 5 [0, 0, 0, 0, 0]).length = 5 := hhl
  have x5 : HExt [] H H5 := (x4.new' hl4).trans hE5
  have hleft3 := hE5 _ _ (by (exact nm0)) (HExt.new (M := []) (o := .range 0 5) hl4 _ _ (by (exact nm0)) hleft3)
  generalize iter (highS adj left) 5 [0, 0, 0, 0, 0] = hg at hhi hhl ⊢
  (repeat walk_at "m1")
  refine ⟨by (exact Nat.le_of_ble_eq_true rfl), fun aR haR => ?_⟩
  dsimp only at haR ⊢
  (repeat walk_at "m1")
  refine Ex.for ?_ room.h PassE.never
  refine Ev.callT rfl rfl ?_
  (repeat walk_at "m1")
  refine Call.range1 fun l5 hl5 => ⟨l5, _, _, rfl, upd_same .., rfl, rfl, fun i σ => ∃ vs, C9 (σ.loc (Str.ofString "left") = some (.ref aL)) (σ.loc (Str.ofString "high") = some (.ref aH5)) (σ.loc (Str.ofString "rounds") = some (.ref aR)) (σ.H aR = some (.list vs)) (vs.length ≤ i) (i ≤ 5) (All2 (IsI [aR] σ.H) vs (levels left hg (r5.take i))) (HExt [aR] H5 σ.H) (σ.H l5 = some (.range 0 5)), ?_, ?_, ?_, ?_⟩
  · have xr := HExt.new (M := []) (o := .list []) haR
    have xl := HExt.new (M := []) (o := .range 0 5) hl5
    refine ⟨[], l2, l3, rfl, xl _ _ (by (exact nm0)) (upd_same ..), by (exact Nat.le_of_ble_eq_true rfl), by (exact Nat.zero_le _), .nil, (xr.trans xl).mono (by (exact nsub)), upd_same ..⟩
  · rintro i σ ⟨_, _, _, _, _, _, _, _, _, h⟩
    exact h
  · rintro i a ⟨Hi, loc⟩ hi ⟨vs, l1, l2, l3, hR, hvl, hi5, hA, hE, hl⟩
    dsimp only at l1 l2 l3 hR hA hE hl
    obtain ⟨lv, hlv, rfl⟩ := map_get (f := AV.int) (l := r5) hi
    have hi4 : i + 1 ≤ 5 := (List.getElem?_eq_some_iff.mp hi).1
    have hnL : aL ∉ [aR] := fun q => by
      have q : aL = aR := by simpa using q
      rw [q, haR] at hleft3; cases hleft3
    have hnH : aH5 ∉ [aR] := fun q => by
      have q : aH5 = aR := by simpa using q
      obtain ⟨b, e, _, hb⟩ := hhi
      cases e
      rw [q, haR] at hb; cases hb
    have hleftI := hE _ _ hnL hleft3
    have hhiI : Hi aH5 = some (.list (hg.map .int)) := by
      obtain ⟨b, e, _, hb⟩ := hhi
      cases e
      exact hE _ _ hnH hb
    have hst : levels left hg (r5.take (i + 1)) = levels left hg (r5.take i) ++ (if !(left.filter (fun k => hg.getD k.toNat 0 == lv) == []) then [left.filter fun k => hg.getD k.toNat 0 == lv] else []) := by
      unfold levels
      rw [take_succ_get hlv, List.map_append, List.filter_append]
      simp only [List.map_cons, List.map_nil, List.filter_cons, List.filter_nil]
    walk_at "m1"
    refine Ex.assignComp1 ?_ room.h
    refine Comp1.ints (M := []) (fun k => hg.getD k.toNat 0 == lv) (fun k => k) (Ev.name l1 ?_)
    refine ⟨aL, _, left, rfl, hleftI, rfl, rfl, by (exact nm0), by (with_reducible exact Nat.le_trans (by assumption) (by decide)), ?_, ?_⟩
    · rintro L cells k H' hk h1
      obtain ⟨k0, k5⟩ := hlm k hk
      (repeat walk_at "m1")
      refine Ev.name l2 ?_
      (repeat walk_at "m1")
      have hkl : k.toNat < hg.length := by (with_reducible exact toNat_lt5 (by assumption) (by assumption) (by assumption))
      refine IsI.at (M := []) (ns := hg) ⟨aH5, rfl, by (exact nm0), h1 _ _ (by (exact nm0)) hhiI⟩ k0 (List.getElem?_eq_getElem hkl) (by (with_reducible exact le_of_eqn (by assumption) (by decide))) ?_
      (repeat walk_at "m1")
      refine ⟨_, rfl, rfl, HExt.refl _ _, ?_, fun _ => ?_⟩
      · rw [List.getD_eq_getElem?_getD, List.getElem?_eq_getElem hkl]; rfl
      · (repeat walk_at "m1")
        exact ⟨rfl, HExt.refl _ _, rfl⟩
    · rintro H' aO h1 haO
      dsimp only
      have hm1 : ((left.filter fun k => hg.getD k.toNat 0 == lv).map fun k => k) = left.filter fun k => hg.getD k.toNat 0 == lv := by simp
      rw [hm1]
      generalize left.filter (fun k => hg.getD k.toNat 0 == lv) = one at hst ⊢
      have hRo : H' aR = some (.list vs) := h1 _ _ (by (exact nm0)) hR
      have hnO : aO ∉ [aR] := off_of haO (by simp [hRo])
      have xo := HExt.new (M := [aR]) (o := .list (one.map AV.int)) haO
      (repeat walk_at "m1")
      refine ⟨by (exact Nat.le_of_ble_eq_true rfl), fun e he => ?_⟩
      dsimp only at he ⊢
      have xe := HExt.new (M := [aR]) (o := .list []) he
      have hR2 : upd (upd H' aO (.list (one.map AV.int))) e (.list []) aR = some (.list vs) := (((HExt.new (M := []) haO).new' he) _ _ (by (exact nm0)) hRo)
      have hO2 : upd (upd H' aO (.list (one.map AV.int))) e (.list []) aO = some (.list (one.map AV.int)) := xe _ _ hnO (upd_same ..)
      have hxx : HExt [aR] Hi (upd (upd H' aO (.list (one.map AV.int))) e (.list [])) := ((h1.mono (by (exact nsub))).trans xo).trans xe
      have hl2 : upd (upd H' aO (.list (one.map AV.int))) e (.list []) l5 = some (.range 0 5) := (((HExt.new (M := []) haO).new' he) _ _ (by (exact nm0)) (h1 _ _ (by (exact nm0)) hl))
      refine IsI.ne (M := []) (xs := one) ⟨aO, rfl, by (exact nm0), hO2⟩ (IsI.nil (upd_same ..) (by (exact nm0))) (by (with_reducible exact units20 (by assumption))) ⟨_, rfl, ?_⟩
      generalize upd (upd H' aO (.list (one.map AV.int))) e (.list []) = H6 at hR2 hO2 hxx hl2 ⊢
      cases hone : !(one == []) with
      | false =>
        rw [hone] at hst
        show Exs _ _ _ _ _ _ _
        (repeat walk_at "m1")
        refine ⟨vs, l1, l2, l3, hR2, by (with_reducible exact Nat.le_succ_of_le (by assumption)), hi4, ?_, hE.trans hxx, hl2⟩
        rw [hst]
        simpa using hA.mono fun _ _ q => q.ext hxx
      | true =>
        rw [hone] at hst
        show Exs _ _ _ _ _ _ _
        (repeat walk_at "m1")
        refine Ev.method (Ev.name l3 ⟨"list", "list.append", meth_append, listType hR2, ?_⟩)
        (repeat walk_at "m1")
        refine Call.append hR2 (by (with_reducible exact Nat.le_trans (by assumption) (Nat.le_trans (by assumption) (by decide)))) ?_
        (repeat walk_at "m1")
        have xs' := HExt.set (H := H6) (a := aR) (o := .list (vs ++ [.ref aO])) (M := [aR]) (by simp)
        have hlR : l5 ∉ [aR] := fun q => by
          have q : l5 = aR := by simpa using q
          rw [q, hR2] at hl2; cases hl2
        refine ⟨vs ++ [.ref aO], l1, l2, l3, upd_same .., by (exact len_snoc (by with_reducible assumption)), hi4, ?_, (hE.trans hxx).trans xs', xs' _ _ hlR hl2⟩
        rw [hst]
        exact (hA.mono fun _ _ q => (q.ext hxx).ext xs').append (.cons ⟨aO, rfl, hnO, xs' _ _ hnO hO2⟩ .nil)
  rintro ⟨H6, loc6⟩ ⟨vs, l1, l2, l3, hR, hvl, _, hA, hE, hl⟩
  dsimp only at l1 l2 l3 hR hA hE hl
  (repeat walk_at "m1")
  refine Ev.name l3 ⟨fun b o hb => ?_, aR, vs, rfl, by (exact nm0), hR, hA.mono fun _ _ q => q.mono (by (exact nsub))⟩
  intro h
  by_cases q : b = aR
  · rw [q] at h; rw [x5 _ _ (by (exact nm0)) h] at haR; cases haR
  · exact hE _ _ (by simpa using q) (x5 _ _ (by (exact nm0)) h)
end Mine
end

section
open PySem PySem.W PyProof.Rows PySem.Spec PySem.Calls
set_option Elab.async false
set_option maxRecDepth 100000
set_option linter.unusedVariables false
namespace Mine

section
variable {g : G} {A : Around} {n : En} {E : Exn} {σ : St} {Z : Fz} {s : Shared}

/-- frames' slots change -/
theorem Rel.slots {h' : Heap} (r : Rel g Z n σ s) (hL : n.env.frame = some n.env.locals) (hs : Heap.SlotsOnly ((n.env :: n.outer).filterMap (·.frame)) s.heap h') : Rel g Z n σ { s with heap := h' } := by
  obtain ⟨⟨h1, h2, h3, h4, h5⟩, ⟨⟨m, v1, v1'⟩, ⟨o1, o2, o3⟩, v3, v4, v5⟩, rfr⟩ := r
  have fz : ∀ b, b ∈ (n.env :: n.outer).filterMap (·.frame) → b = n.env.locals ∨ (g.base.get? b = none ∧ ∃ o, Z b = some o ∧ ∃ es ep, o.data = .dict es ep) := fun b hb => by
    obtain ⟨e, he, hb⟩ := List.mem_filterMap.mp hb
    rcases List.mem_cons.mp he with rfl | he
    · rw [hL] at hb; cases hb; exact .inl rfl
    · obtain ⟨k1, L, o, k2, k3, k4, k5⟩ := rfr e he
      rw [k2] at hb; cases hb
      exact .inr ⟨k3, o, k4, k5⟩
  refine ⟨⟨h1, h2, fun b o hb => ?_, fun b o hb => ?_, fun b o hb => ?_⟩, ⟨⟨m, ?_, v1'⟩, ⟨o1, o2, o3⟩, fun x hx => ?_, v4, v5⟩, rfr⟩
  · refine (hs.2.1 b fun hm => ?_).trans (h3 b o hb)
    rcases fz b hm with q | ⟨q, _⟩
    · subst q; rw [o3] at hb; cases hb
    · rw [q] at hb; cases hb
  · obtain ⟨sl, e1, e2⟩ := h4 b o hb
    by_cases hm : b ∈ (n.env :: n.outer).filterMap (·.frame)
    · rcases fz b hm with q | ⟨_, o', q, q'⟩
      · subst q; rw [o1] at hb; cases hb
      · rw [hb] at q; cases q
        obtain ⟨sl', e3⟩ := hs.2.2 b _ e1
        exact ⟨sl', e3, .inl q'⟩
    · exact ⟨sl, (hs.2.1 b hm).trans e1, e2⟩
  · obtain ⟨y1, y2, co, y3, y4⟩ := h5 b o hb
    refine ⟨y1, y2, co, (hs.2.1 b fun hm => ?_).trans y3, y4⟩
    rcases fz b hm with q | ⟨_, o', q, _⟩
    · subst q; rw [o2] at hb; cases hb
    · rw [y1] at q; cases q
  · obtain ⟨o, es, ep, ho, hd, hr⟩ := v1
    obtain ⟨sl, e⟩ := hs.2.2 _ _ ho
    exact ⟨_, es, ep, e, hd, hr⟩
  · obtain ⟨c, v₀, c1, c2, c3, c4, c5, ⟨oc, c6, c6'⟩, c7⟩ := v3 x hx
    obtain ⟨sl, e⟩ := hs.2.2 _ _ c6
    exact ⟨c, v₀, c1, c2, c3, c4, c5, ⟨_, e, c6'⟩, c7⟩

theorem Rel.funFrames (r : Rel g Z n σ s) (hk : n.env.scope.kind = .function) (hL : n.env.frame = some n.env.locals) : s.heap.FunFrames g.base (n.env :: n.outer) := by
  have key : ∀ l, FrZ g Z l → s.heap.FunFrames g.base l := by
    intro l
    induction l with
    | nil => exact fun _ => trivial
    | cons e l ih =>
      intro h
      obtain ⟨k1, L, o, k2, k3, k4, es, ep, k5⟩ := h e (.head _)
      obtain ⟨sl, e1, _⟩ := r.hr.keep L o k4
      exact ⟨k1, ⟨L, _, k2, k3, e1, fun vs q => by rw [show ({ o with slots := sl } : Obj).data = o.data from rfl, k5] at q; cases q⟩, ih fun e' he' => h e' (.tail _ he')⟩
  obtain ⟨m, ⟨o, es, ep, ho, hd, _⟩, _⟩ := r.vars.ns
  exact ⟨by rw [hk]; decide, ⟨_, o, hL, r.vars.own.2.2, ho, fun vs q => by rw [hd] at q; cases q⟩, key _ r.fr⟩

theorem Ok.frameOf {Q : Value → St → Prop} (hfr : A.frames = some (n.env :: n.outer)) (hk : n.env.scope.kind = .function) (hL : n.env.frame = some n.env.locals) (h : Q (.ref n.env.locals) σ) : Ok g A n E (PySem.frameOf n.env) σ Q := fun Z s r =>
  wpAny_frameOf_fun hfr (r.funFrames hk hL) hL fun h' hs => ⟨σ, r.slots hL hs, h⟩

/-- the exception in flight -/
noncomputable def IsTb (H : AH) (tb : AV) : Prop := tb = .none ∨ ∃ T, tb = .ref T ∧ H T = some .tb

theorem get1 {vs : Array Value} {i : Nat} {a : AV} (h : vs[i]?.map er = some a) : ∃ v, vs[i]? = some v ∧ er v = a := by
  cases q : vs[i]? with
  | none => rw [q] at h; cases h
  | some v => rw [q] at h; cases h; exact ⟨v, rfl, rfl⟩

theorem Ok.fieldTb {e : Addr} {cls : Value} {tb cx : AV} {Q : Value → St → Prop} (he : σ.H e = some (.exc cls tb cx)) (h : ∀ v, er v = tb → Q v σ) : Ok g A n E (field (.ref e) 1) σ Q := fun Z s r => by
  obtain ⟨co, h1, h2, vs, h3, h4, h5⟩ := r.owned he
  obtain ⟨v, h6, h7⟩ := get1 h4
  exact wpAny_field h1 h3 h6 ⟨σ, r, h v h7⟩
theorem Ok.fieldFl {T : Addr} {Q : Value → St → Prop} (he : σ.H T = some .tb) (h : ∀ v, Q v σ) : Ok g A n E (field (.ref T) 3) σ Q := fun Z s r => by
  obtain ⟨co, h1, ts, h2, h3⟩ := r.owned he
  exact wpAny_field h1 h2 (Array.getElem?_eq_getElem h3) ⟨σ, r, h _⟩
theorem isFreed_mapF {o : Obj} {vs : Array Value} (hd : o.data = .fields vs) (f : Array Value → Array Value) : (Obj.mapFields f o).isFreed = false := by
  obtain ⟨c, d, dt, sl⟩ := o; cases hd; rfl
theorem data_mapF {o : Obj} {vs : Array Value} (hd : o.data = .fields vs) (f : Array Value → Array Value) : (Obj.mapFields f o).data = .fields (f vs) ∧ (Obj.mapFields f o).cls = o.cls := by
  obtain ⟨c, d, dt, sl⟩ := o; cases hd; exact ⟨rfl, rfl⟩
theorem Ok.setFl {T : Addr} {x : Value} {Q : Unit → St → Prop} (he : σ.H T = some .tb) (h : Q () ⟨upd σ.H T .tb, σ.loc⟩) : Ok g A n E (setField (.ref T) 3 x) σ Q := fun Z s r => by
  obtain ⟨co, h1, ts, h2, h3⟩ := r.owned he
  refine wpAny_setField h1 h2 h3 ⟨_, r.set (ao' := .tb) he (Heap.SameBut.update ..).extBut (Heap.get?_update_self _ h1 (isFreed_mapF h2 _)) ⟨_, (data_mapF h2 _).1, by simpa using h3⟩, h⟩
theorem Ok.setTb {e T : Addr} {cls : Value} {tb cx : AV} {Q : Unit → St → Prop} (he : σ.H e = some (.exc cls tb cx)) (h : Q () ⟨upd σ.H e (.exc cls (.ref T) cx), σ.loc⟩) : Ok g A n E (setField (.ref e) 1 (.ref T)) σ Q := fun Z s r => by
  obtain ⟨co, h1, h2, vs, h3, h4, h5⟩ := r.owned he
  obtain ⟨v, h6, h7⟩ := get1 h4
  have hsz := (Array.getElem?_eq_some_iff.mp h6).1
  refine wpAny_setField h1 h3 hsz ⟨_, r.set (ao' := .exc cls (.ref T) cx) he (Heap.SameBut.update ..).extBut (Heap.get?_update_self _ h1 (isFreed_mapF h3 _)) ⟨(data_mapF h3 _).2.trans h2, _, (data_mapF h3 _).1, ?_, ?_⟩, h⟩
  · simp [hsz, er]
  · rw [Array.getElem?_setIfInBounds_ne (by decide)]; exact h5

/-- all but exceptions and their tracebacks stays -/
noncomputable def notEx : AO → Prop
  | .exc .. => False
  | .tb => False
  | _ => True
noncomputable def ExSame (H H' : AH) : Prop := ∀ a o, notEx o → H a = some o → H' a = some o
theorem ExSame.refl (H : AH) : ExSame H H := fun _ _ _ h => h
theorem ExSame.trans {H H' H'' : AH} (x : ExSame H H') (y : ExSame H' H'') : ExSame H H'' := fun a o n h => y a o n (x a o n h)
theorem ExSame.tb {H : AH} {T : Addr} (h : H T = some .tb) : ExSame H (upd H T .tb) := fun a o n ha => by
  rw [upd_ne]; exact ha
  rintro rfl; rw [h] at ha; cases ha; exact n.elim
theorem ExSame.exc {H : AH} {e : Addr} {c : Value} {t x t' x' : AV} (h : H e = some (.exc c t x)) : ExSame H (upd H e (.exc c t' x')) := fun a o n ha => by
  rw [upd_ne]; exact ha
  rintro rfl; rw [h] at ha; cases ha; exact n.elim
theorem ExSame.new {H : AH} {e : Addr} {o : AO} (h : H e = none) : ExSame H (upd H e o) := fun a o n ha => by
  rw [upd_ne]; exact ha
  rintro rfl; rw [h] at ha; cases ha

theorem Ok.newTb {fs : List Value} {Q : Value → St → Prop} (hl : 3 < fs.length) (hs : fs.length ≤ 100) (h : ∀ a, σ.H a = none → Q (.ref a) ⟨upd σ.H a .tb, σ.loc⟩) : Ok g A n E (newFields "traceback" fs) σ Q :=
  Ok.newObj (ao := .tb) (co := { cls := .type "traceback", data := .fields fs.toArray }) ⟨_, rfl, by simpa using hl⟩ rfl (fun s R F q => by
    unfold newFields; exact wpAny_newObj_type q (by show fs.toArray.size ≤ _; simp only [List.size_toArray]; exact Nat.le_trans hs (by decide))) h

theorem Ok.noteFrame {e : Addr} {cls : Value} {tb cx : AV} {Q : Unit → St → Prop} (hfr : A.frames = some (n.env :: n.outer)) (hk : n.env.scope.kind = .function) (hL : n.env.frame = some n.env.locals)
    (he : σ.H e = some (.exc cls tb cx)) (ht : IsTb σ.H tb) (h : ∀ T H', H' T = some .tb → H' e = some (.exc cls (.ref T) cx) → ExSame σ.H H' → Q () ⟨H', σ.loc⟩) : Ok g A n E (PySem.noteFrame (.ref e) n.env) σ Q := by
  have tail : ∀ (head : Value) (hn : Bool) (σ' : St), σ'.loc = σ.loc → ExSame σ.H σ'.H → (∃ tb, σ'.H e = some (.exc cls tb cx)) → Ok g A n E (do let a ← PySem.frameOf n.env; let pl ← entryPlaceOf n.env.locals hn; let b ← EntryCells.newEntry head a .none (rawInt n.env.locals) .none pl; setField (.ref e) 1 b) σ' Q := by
    rintro head hn ⟨H', l'⟩ rfl hx ⟨tb', he'⟩
    refine Ok.bind (Ok.frameOf hfr hk hL (Ok.bind ?_))
    intro Z s r
    refine wpAny_entryPlaceOf fun pl hpl => ⟨_, r, ?_⟩
    refine Ok.bind ?_
    unfold EntryCells.newEntry
    have hsz := hpl.sizeOk5 head (.ref n.env.locals) .none (rawInt n.env.locals) .none
    refine Ok.newTb (by simp) (by rcases hpl with rfl | ⟨a1, a2, a3, a4, a5, a6, a7, rfl⟩ <;> simp_all) fun a ha => Ok.setTb (tb := tb') (he := ?_) (h a _ ?_ (upd_same ..) ?_)
    · show upd H' a .tb e = _; rw [upd_ne]; exact he'
      rintro rfl; rw [ha] at he'; cases he'
    · show upd (upd H' a .tb) e _ a = _
      rw [upd_ne (by rintro rfl; rw [ha] at he'; cases he')]; exact upd_same ..
    · refine hx.trans ((ExSame.new ha).trans (ExSame.exc (t := tb') (x := cx) ?_))
      rw [upd_ne (by rintro rfl; rw [ha] at he'; cases he')]; exact he'
  unfold PySem.noteFrame
  simp only [hL]
  refine Ok.bind (Ok.fieldTb he fun v hv => ?_)
  rcases ht with rfl | ⟨T, rfl, hT⟩
  · rw [er_none hv, if_neg (by decide)]
    exact tail _ _ σ rfl (ExSame.refl _) ⟨_, he⟩
  · rw [er_ref hv, if_pos (show (Value.ref T != Value.none) = true from by simp)]
    refine Ok.bind (Ok.fieldFl hT fun fl => ?_)
    split
    · exact Ok.pure (h T σ.H hT he (ExSame.refl _))
    · exact Ok.bind (Ok.setFl hT (tail _ _ ⟨upd σ.H T .tb, σ.loc⟩ rfl (ExSame.tb hT) ⟨_, by show upd σ.H T .tb e = _; rw [upd_ne]; exact he; rintro rfl; rw [hT] at he; cases he⟩))

theorem Ok.setFlight {e T : Addr} {cls : Value} {cx : AV} {f : Option Addr} {Q : Unit → St → Prop} (he : σ.H e = some (.exc cls (.ref T) cx)) (hT : σ.H T = some .tb) (h : Q () ⟨upd σ.H T .tb, σ.loc⟩) : Ok g A n E (PySem.setFlight (.ref e) f) σ Q := by
  unfold PySem.setFlight
  refine Ok.bind (Ok.fieldTb he fun v hv => ?_)
  rw [er_ref hv, if_pos (show (Value.ref T != Value.none) = true from by simp)]
  exact Ok.setFl hT h

/-- exceptions of a class, with what holds then -/
inductive AE (g : G) (n : En) (cls : Value) (C : AV → Prop) (P : St → Prop) (Z : Fz) (v : Value) (s' : Shared) : Prop
  | mk (e : Addr) (σ' : St) (tb cx : AV) (hv : v = .ref e) (r : Rel g Z n σ' s') (he : σ'.H e = some (.exc cls tb cx)) (ht : IsTb σ'.H tb) (hc : C cx) (hp : P σ')
/-- what an exception's note does not spoil -/
noncomputable def Stable (P : St → Prop) : Prop := ∀ H H' loc, ExSame H H' → P ⟨H, loc⟩ → P ⟨H', loc⟩

theorem upd_ne_eT {H : AH} {e T : Addr} {o : AO} (he : H e = some o) (hT : H T = some .tb) (ho : o ≠ .tb) : upd H T .tb e = some o := by
  rw [upd_ne]; exact he
  rintro rfl; rw [hT] at he; cases he; exact ho rfl

theorem PassE.ae {cls : Value} {C : AV → Prop} {P : St → Prop} (hfr : A.frames = some (n.env :: n.outer)) (hP : Stable P) (hk : n.env.scope.kind = .function := by exact Mine.rfk) (hL : n.env.frame = some n.env.locals := by rfl) : PassE g A n (AE g n cls C P) where
  own := by
    rintro Z v s' ⟨e, σ', tb, cx, rfl, r, he, ht, hC, hp⟩
    refine wpAny_mono (Ok.noteFrame (g := g) (E := NE) (Q := fun _ σ'' => E2 fun T H' => C4 (σ'' = ⟨H', σ'.loc⟩) (H' T = some .tb) (H' e = some (.exc cls (.ref T) cx)) (ExSame σ'.H H')) hfr hk hL he ht (fun T H' a1 a2 a3 => ⟨T, H', rfl, a1, a2, a3⟩) Z s' r) ?_ (fun _ _ x => x.elim)
    rintro _ s'' ⟨_, r', T, H', rfl, a1, a2, a3⟩
    unfold cameBackBy
    have st : Ok g A n NE (do
        if (← field (.ref e) 1) == .none then unsupported "frame.own-activation:exception-without-traceback"
        PySem.setFlight (.ref e) n.env.frame) ⟨H', σ'.loc⟩ fun _ σ'' => σ'' = ⟨upd H' T .tb, σ'.loc⟩ := by
      refine Ok.bind (Ok.fieldTb a2 fun v hv => ?_)
      rw [er_ref hv, if_neg (by simp)]
      exact Ok.setFlight a2 a1 rfl
    refine wpAny_mono (st Z s'' r') ?_ (fun _ _ x => x.elim)
    rintro _ s₃ ⟨_, r₃, rfl⟩
    exact ⟨e, _, .ref T, cx, rfl, r₃, upd_ne_eT a2 a1 (by intro q; cases q), .inr ⟨T, rfl, upd_same ..⟩, hC, hP _ _ _ (a3.trans (ExSame.tb a1)) (by cases σ'; exact hp)⟩
  thaw := by
    rintro Z it o v s' hc hd hz ⟨e, σ', tb, cx, rfl, r, he, ht, hC, hp⟩
    refine ⟨e, σ', tb, cx, rfl, r.thaw hc hz fun e' he' => ?_, he, ht, hC, hp⟩
    obtain ⟨k1, L, oL, k2, k3, k4, es, ep, k5⟩ := r.fr e' he'
    refine ⟨k1, L, oL, k2, k3, ?_, es, ep, k5⟩
    unfold upd at k4
    split at k4
    · cases k4; exact absurd k5 (hd es ep)
    · exact k4
end
end Mine
end

section
open PySem PySem.W PyProof.Rows PySem.Spec PySem.Calls
set_option Elab.async false
set_option maxRecDepth 100000
set_option linter.unusedVariables false
namespace Mine

theorem entry_unchain : entryFor table "proto.unchain" = some Builtin.«proto.unchain» := entryFor_of_fast (by kernel_rfl)

/-- the handled exception, if any, has no context of its own -/
noncomputable def HandledOk (A : Around) (h : Heap) : Prop := A.handled = none ∨ ∃ e o vs, A.handled = some (.ref e) ∧ h.get? e = some o ∧ o.data = .fields vs ∧ vs[2]? = some .none
noncomputable def hcx (A : Around) : AV := (A.handled.map er).getD .none

section
variable {M : Model} {prog : Program} {w : World} {A : Around} {s : Shared} {E : Value → Shared → Prop} {α : Type}

/-- a new exception is thrown -/
noncomputable def NewExcTo (A : Around) (s : Shared) (cls : String) (E : Value → Shared → Prop) : Prop := ∀ h' tk e, (∀ b o, s.heap.get? b = some o → h'.get? b = some o) → s.heap.objs.size ≤ e →
  (∃ ob t c, h'.get? e = some ob ∧ ob.cls = .type cls ∧ ob.data = .fields #[t, .none, c, .none, .bool false, .none] ∧ er c = hcx A) → E (.ref e) { s with heap := h', toks := tk }

theorem raise_words {cls msg : String} {Q : α → Shared → Prop} (hp : PlainExc cls) (hh : HandledOk A s.heap) (h : NewExcTo A s cls E) : wpAny (model prog w) A (raiseErrorWords cls msg : Sem α) Q E s := by
  unfold raiseErrorWords
  refine wpAny_bind (wpAny_mkText (wpAny_bind ?_))
  unfold newExc newTuple
  refine wpAny_bind (wpAny_newObj_type ?_)
  refine wpAny_bind (m := firstArgMember _ _) (wpAny_of_eq (a := Value.none) (by simp only [firstArgMember, hp.first]; rfl) ?_)
  rw [hp.own]
  refine wpAny_newObj_type ?_
  unfold raiseNew
  refine wpAny_bind (wpAny_handled ?_)
  rcases hh with hh | ⟨e₀, o, vs, hh, ho, hd, h2⟩
  · rw [hh]
    refine wpAny_bind (wpAny_pure (wpAny_throw (h _ _ _ ?_ ?_ ⟨_, _, _, Heap.get?_push_size _ rfl, rfl, rfl, ?_⟩)))
    · exact fun b o hb => Heap.get?_push_of_some _ (Heap.get?_push_of_some _ hb)
    · simp [Heap.push]
    · simp [hcx, hh, er]
  · rw [hh]
    dsimp only
    have hne := Nat.ne_of_lt (Heap.lt_size (Heap.get?_push_of_some { cls := Value.type "tuple", data := Data.seq #[Value.str (Str.ofString msg) s.toks] } ho))
    rw [if_pos (show (Value.ref e₀ != Value.ref _) = true from by
      simp only [bne_iff_ne, ne_eq, Value.ref.injEq]
      exact hne)]
    refine wpAny_bind (wpAny_holding (wpAny_runValue (codeAny_builtin entry_unchain ?_)))
    unfold Builtin.«proto.unchain»
    dsimp only
    refine wpAny_bind (wpAny_field (Heap.get?_push_of_some _ (Heap.get?_push_of_some _ ho)) hd h2 ?_)
    rw [if_pos (by rfl)]
    refine wpAny_bind (wpAny_pure ?_)
    refine wpAny_pure ?_
    unfold updateField
    refine wpAny_bind (wpAny_bind (wpAny_load (Heap.get?_push_size _ rfl) ?_))
    dsimp only
    rw [if_pos (by simp)]
    refine wpAny_update (Heap.get?_push_size _ rfl) (wpAny_throw (h _ _ _ ?_ ?_ ⟨_, _, _, Heap.get?_update_self _ (Heap.get?_push_size _ rfl) rfl, rfl, rfl, ?_⟩))
    · intro b o' hb
      have := Heap.lt_size (Heap.get?_push_of_some { cls := Value.type "tuple", data := Data.seq #[Value.str (Str.ofString msg) s.toks] } hb)
      rw [Heap.get?_update_other _ _ (Nat.ne_of_gt this)]
      exact Heap.get?_push_of_some _ (Heap.get?_push_of_some _ hb)
    · simp [Heap.push]
    · simp [hcx, hh, er]

theorem getItem_out {l : Addr} {items : Array Value} {k : Int} {t : Tok} {Q : Value → Shared → Prop} (hl : s.heap.IsList l items) (hout : (items.size : Int) ≤ k) (hhi : k < 2 ^ 63) (hh : HandledOk A s.heap) (h : NewExcTo A s "IndexError" E) :
    wpAny (model prog w) A (getItem (.ref l) (.int k t)) Q E s := by
  obtain ⟨o, ho, hc, ne, hd⟩ := id hl
  unfold getItem
  try with_reducible refine wpAny_holding ?_
  first | refine wpAny_bind (wpAny_pure ?_) | skip
  refine wpAny_bind (wpAny_sequenceKey hl.typeIs (by decide) ?_)
  refine wpAny_bind (wpAny_callSpecial?_slot (name := Str.ofString "__getitem__") hl.typeIs slot_list_getitem
    (wpAny_call_entry slot_list_getitem hl.typeIs entry_list_getitem ?_ (args_list_getitem _ _)))
  show wpAny _ _ (Builtin.List.listSubscript? (.int k t) >>= _) _ _ s
  refine wpAny_bind (wpAny_listSubscript_int (fitsIndex_both (by omega) (by (with_reducible assumption))) ?_)
  clear hhi
  obtain ⟨j, rfl⟩ : ∃ j, k = Int.ofNat j := ⟨k.toNat, by simp only [Int.ofNat_eq_natCast]; omega⟩
  have hx : items[j]? = none := Array.getElem?_eq_none (by simp only [Int.ofNat_eq_natCast] at hout; omega)
  show wpAny _ _ ((seqItemAt l j >>= fun r => pure (r.map (j, ·))) >>= _) _ _ s
  refine wpAny_bind (wpAny_bind (wpAny_seqItemAt ho hd (wpAny_pure ?_)))
  rw [hx]
  first
    | exact wpAny_bind (wpAny_rule (raise_words plainExc_IndexError hh h))
    | exact wpAny_bind (wpAny_rule (wpAny_bind (raise_words plainExc_IndexError hh h)))
    | exact wpAny_bind (wpAny_bind (wpAny_rule (raise_words plainExc_IndexError hh h)))
    | exact wpAny_rule (raise_words plainExc_IndexError hh h)
end

section
variable {g : G} {A : Around} {n : En} {E : Exn} {σ : St} {C : AV → Prop} {P : St → Prop}

noncomputable def HOk (A : Around) (H : AH) : Prop := A.handled = none ∨ ∃ e c t, A.handled = some (.ref e) ∧ H e = some (.exc c t .none)
theorem HOk.at {Z : Fz} {s : Shared} (h : HOk A σ.H) (r : Rel g Z n σ s) : HandledOk A s.heap := by
  rcases h with h | ⟨e, c, t, h1, h2⟩
  · exact .inl h
  · obtain ⟨co, q1, q2, vs, q3, q4, q5⟩ := r.owned h2
    obtain ⟨v, q6, q7⟩ := get1 q5
    exact .inr ⟨e, co, vs, h1, q1, q3, by rw [q6, er_none q7]⟩

theorem newExcTo {Z : Fz} {s : Shared} {cls : String} (r : Rel g Z n σ s) (hC : C (hcx A)) (hS : Stable P) (hP : P σ) : NewExcTo A s cls (AE g n (.type cls) C P Z) := by
  rintro h' tk e keep hle ⟨ob, t, c, h1, h2, h3, h4⟩
  obtain ⟨o, ho⟩ := g.alive
  have hn : s.heap.get? e = none := Heap.get?_none_of_le hle
  have hno := (r.zfresh hn).2.2
  exact ⟨e, ⟨upd σ.H e (.exc (.type cls) .none (hcx A)), σ.loc⟩, .none, hcx A, rfl, r.new (co := ob) hn (Nat.lt_of_lt_of_le (Heap.lt_size (r.hr.stay _ _ ho)) hle) keep h1 ⟨h2, _, h3, rfl, by rw [← h4]; rfl⟩, upd_same .., .inl rfl, hC, hS _ _ _ (ExSame.new hno) (by cases σ; exact hP)⟩

theorem SubT.listOut {v sl : Expr} {l : Addr} {xs : List AV} {k : Int} {Q : AV → St → Prop} (hl : σ.H l = some (.list xs)) (hk : (xs.length : Int) ≤ k) (hk' : k < 2 ^ 63) (hh : HOk A σ.H) (hC : C (hcx A)) (hS : Stable P) (hP : P σ)
    (hs : ∀ o i, subscripted sl false o i = operate [o, i] (getItem o i) := by intros; rfl) : SubT g A n (AE g n (.type "IndexError") C P) v sl (.ref l) (.int k) σ Q := fun co ci e f Z s r => by
  rw [er_ref e]; obtain ⟨t, rfl⟩ := er_int f
  obtain ⟨items, m, h1, h2⟩ := r.listAt hl
  exact tail_any (T := "list") ⟨_, h1, rfl⟩ slot_list_getitem.lookup (getItem_out ⟨_, h1, rfl, _, rfl⟩ (by rw [size_of_map h2]; exact hk) hk' (hh.at r) (newExcTo r hC hS hP)) (hs _ _)

/-- a suite under a handler of one class of the language's -/
theorem Ex.tryExcept {X T : String} {body : List Stmt} {b₀ : Stmt} {suite : List Stmt} {tpos pos pos' : Pos} {nm : Str} {Q : AFl → St → Prop}
    (h : Exs g A n (AE g n (.type X) C P) body σ fun f σ₁ => Q f σ₁)
    (hh : ∀ e σ₁ tb cx, σ₁.H e = some (.exc (.type X) tb cx) → C cx → P σ₁ → Exs g (A.mark (some (.ref e))) n NE (b₀ :: suite) σ₁ Q) (hfr : A.frames = some (n.env :: n.outer)) (hS : Stable P)
    (hexc : isSubtype (.type T) (.type "BaseException") = Pure.pure true) (hnt : isSubtype (.type ((Manifest.find? T).elim "type" fun x => x.metatype)) (.type "tuple") = Pure.pure false) (hsub : isSubtype (.type X) (.type T) = Pure.pure true)
    (hv : nsIn (hd.heap_39 g.w.params) mainGlobals nm = some none) (hb : bootBuiltins nm = some (.type T))
    (hf : n.env.scope.kind = .function := by exact Mine.rfk) (hL : n.env.frame = some n.env.locals := by rfl) (hgl : n.env.globals = mainGlobals := by exact Mine.rfg) (hbl : n.env.builtins = builtinsNs := by exact Mine.rfb) (hk : n.env.kindOf nm = some .globalImplicit := by exact Mine.rfi) (hd : (nm == ("__debug__" : Str)) = false := by exact Mine.ff0) (hn : (nm == ("__name__" : Str)) = false := by exact Mine.ff0) :
    Ex g A n E (.Try body [.ExceptHandler (some (.Name nm tpos)) none (b₀ :: suite) pos'] [] [] pos) σ Q := fun Z s r => by
  refine wpAny_Try_except (wpAny_mono (h Z s r) (fun f s₁ h₁ => ?_) fun v s₁ h₁ => ?_)
  · obtain ⟨σ₁, r₁, q⟩ := h₁
    cases f with
    | next => exact wpAny_execs_nil ⟨σ₁, r₁, q⟩
    | _ => exact ⟨σ₁, r₁, q⟩
  · obtain ⟨e, σ₁, tb, cx, rfl, r₁, he, ht, hC, hP⟩ := h₁
    have st1 := Ok.noteFrame (g := g) (A := A) (E := NE) (Q := fun _ σ'' => E2 fun T H' => C4 (σ'' = ⟨H', σ₁.loc⟩) (H' T = some .tb) (H' e = some (.exc (.type X) (.ref T) cx)) (ExSame σ₁.H H')) hfr hf hL he ht (fun T H' a1 a2 a3 => ⟨T, H', rfl, a1, a2, a3⟩)
    refine wpAny_mono (st1 Z s₁ r₁) (fun _ s₂ h₂ => ?_) fun _ _ x => x.elim
    obtain ⟨_, r₂, T', H', rfl, a1, a2, a3⟩ := h₂
    have st2 : Ok g A n NE (PySem.setFlight (.ref e) none) ⟨H', σ₁.loc⟩ fun _ σ'' => σ'' = ⟨upd H' T' .tb, σ₁.loc⟩ := Ok.setFlight a2 a1 rfl
    refine wpAny_mono (st2 Z s₂ r₂) (fun _ s₃ h₃ => ?_) fun _ _ x => x.elim
    obtain ⟨_, r₃, rfl⟩ := h₃
    have a1' : upd H' T' .tb T' = some .tb := upd_same ..
    have a2' : upd H' T' .tb e = some (.exc (.type X) (.ref T') cx) := upd_ne_eT a2 a1 (by intro q; cases q)
    have a3' := a3.trans (ExSame.tb a1)
    refine wpAny_handleBy_builtin hexc hnt hsub ?_
    have ev : Ev g (A.mark (some (.ref e))) n NE (.Name nm tpos) ⟨upd H' T' .tb, σ₁.loc⟩ fun a σ'' => a = .other (.type T) ∧ σ'' = ⟨upd H' T' .tb, σ₁.loc⟩ := Ev.builtin (v := .type T) hv hb ⟨rfl, rfl⟩ hf hgl hbl hk hd hn
    refine wpAny_mono (ev Z s₃ r₃) (fun c s₄ h₄ => ?_) fun _ _ x => x.elim
    obtain ⟨_, r₄, hc, rfl⟩ := h₄
    obtain ⟨co, q1, q2, _⟩ := r₄.owned a2'
    refine ⟨er_other hc, ⟨_, q1, q2⟩, ?_⟩
    rw [if_pos rfl]
    have st3 : Ok g (A.mark (some (.ref e))) n NE (PySem.setFlight (.ref e) none) ⟨upd H' T' .tb, σ₁.loc⟩ fun _ σ'' => σ'' = ⟨upd (upd H' T' .tb) T' .tb, σ₁.loc⟩ := Ok.setFlight a2' a1' rfl
    refine wpAny_mono (st3 Z s₄ r₄) (fun _ s₅ h₅ => ?_) fun _ _ x => x.elim
    obtain ⟨_, r₅, rfl⟩ := h₅
    refine wpAny_mono (hh e _ (.ref T') cx (upd_ne_eT a2' a1' (by intro q; cases q)) hC (hS _ _ _ (a3'.trans (ExSame.tb a1')) (by cases σ₁; exact hP)) Z s₅ r₅) (fun f s₆ h₆ => h₆) fun _ _ x => x.elim
end
end Mine
end

section
open PySem PySem.W PyProof.Rows PySem.Spec PySem.Calls
set_option Elab.async false
set_option maxRecDepth 100000
set_option linter.unusedVariables false
namespace Mine
section
variable {g : G} {A : Around} {n : En} {E : Exn} {σ : St} {C : AV → Prop} {P P' : St → Prop}

theorem back_own {A' : Around} {cls : Value} {Z : Fz} {v : Value} {s' : Shared} (hfr : A'.frames = some (n.env :: n.outer)) (hP : Stable P) (hk : n.env.scope.kind = .function) (hL : n.env.frame = some n.env.locals)
    (h : AE g n cls C P Z v s') : notedBy (model prog g.w) A' n.env (cameBackBy (model prog g.w) A n.env (AE g n cls C P Z)) v s' := by
  obtain ⟨e, σ', tb, cx, rfl, r, he, ht, hC, hp⟩ := h
  refine wpAny_mono (Ok.noteFrame (g := g) (E := NE) (Q := fun _ σ'' => E2 fun T H' => C4 (σ'' = ⟨H', σ'.loc⟩) (H' T = some .tb) (H' e = some (.exc cls (.ref T) cx)) (ExSame σ'.H H')) hfr hk hL he ht (fun T H' a1 a2 a3 => ⟨T, H', rfl, a1, a2, a3⟩) Z s' r) ?_ (fun _ _ x => x.elim)
  rintro _ s'' ⟨_, r', T, H', rfl, a1, a2, a3⟩
  unfold cameBackBy
  have st : Ok g A n NE (do
      if (← field (.ref e) 1) == .none then unsupported "frame.own-activation:exception-without-traceback"
      PySem.setFlight (.ref e) n.env.frame) ⟨H', σ'.loc⟩ fun _ σ'' => σ'' = ⟨upd H' T .tb, σ'.loc⟩ := by
    refine Ok.bind (Ok.fieldTb a2 fun v hv => ?_)
    rw [er_ref hv, if_neg (by simp)]
    exact Ok.setFlight a2 a1 rfl
  refine wpAny_mono (st Z s'' r') ?_ (fun _ _ x => x.elim)
  rintro _ s₃ ⟨_, r₃, rfl⟩
  exact ⟨e, _, .ref T, cx, rfl, r₃, upd_ne_eT a2 a1 (by intro q; cases q), .inr ⟨T, rfl, upd_same ..⟩, hC, hP _ _ _ (a3.trans (ExSame.tb a1)) (by cases σ'; exact hp)⟩

theorem Ex.tryFinally {cls : Value} {body : List Stmt} {f₀ : Stmt} {fs : List Stmt} {pos : Pos} {Q : AFl → St → Prop}
    (h : Exs g A n (AE g n cls (· = .none) P) body σ fun f σ₁ => Exs g A n (AE g n cls C P') (f₀ :: fs) σ₁ fun f' σ₂ => match f' with | .next => Q f σ₂ | f' => Q f' σ₂)
    (hh : ∀ e T σ₁, σ₁.H e = some (.exc cls (.ref T) .none) → σ₁.H T = some .tb → P σ₁ → Exs g (A.mark (some (.ref e))) n (AE g n cls C P') (f₀ :: fs) σ₁ fun f σ₂ => f = .next ∧ σ₂.H e = some (.exc cls (.ref T) .none) ∧ σ₂.H T = some .tb ∧ C .none ∧ P' σ₂)
    (hfr : A.frames = some (n.env :: n.outer)) (hS : Stable P) (hS' : Stable P') (hf : n.env.scope.kind = .function := by exact Mine.rfk) (hL : n.env.frame = some n.env.locals := by rfl) :
    Ex g A n (AE g n cls C P') (.Try body [] [] (f₀ :: fs) pos) σ Q := fun Z s r => by
  have plain : ∀ (f : Flow) (σ₁ : St) (s₁ : Shared), Rel g Z n σ₁ s₁ → (Exs g A n (AE g n cls C P') (f₀ :: fs) σ₁ fun f' σ₂ => match f' with | .next => Q (fl f) σ₂ | f' => Q f' σ₂) →
      wpAny (model prog g.w) A (execs (f₀ :: fs) n.env) (fun g' s' => match g' with | .next => Post g Z n (fun f σ' => Q (fl f) σ') f s' | g' => Post g Z n (fun f σ' => Q (fl f) σ') g' s') (notedBy (model prog g.w) A n.env (cameBackBy (model prog g.w) A n.env (AE g n cls C P' Z))) s₁ := by
    intro f σ₁ s₁ r₁ h₁
    refine wpAny_mono (h₁ Z s₁ r₁) (fun f' s₂ h₂ => ?_) fun v s₂ h₂ => back_own hfr hS' hf hL h₂
    obtain ⟨σ₂, r₂, q⟩ := h₂
    cases f' <;> exact ⟨σ₂, r₂, q⟩
  refine wpAny_Try_finally (wpAny_mono (h Z s r) (fun f s₁ h₁ => ?_) fun v s₁ h₁ => ?_)
  · obtain ⟨σ₁, r₁, q⟩ := h₁
    cases f with
    | next => exact wpAny_execs_nil (wpAny_mono (plain .next σ₁ s₁ r₁ q) (fun g' s' hq => hq) fun _ _ x => x)
    | brk => exact wpAny_mono (plain .brk σ₁ s₁ r₁ q) (fun g' s' hq => hq) fun _ _ x => x
    | cont => exact wpAny_mono (plain .cont σ₁ s₁ r₁ q) (fun g' s' hq => hq) fun _ _ x => x
    | ret v => exact wpAny_mono (plain (.ret v) σ₁ s₁ r₁ q) (fun g' s' hq => hq) fun _ _ x => x
  · obtain ⟨e, σ₁, tb, cx, rfl, r₁, he, ht, rfl, hP⟩ := h₁
    have st1 := Ok.noteFrame (g := g) (A := A) (E := NE) (Q := fun _ σ'' => E2 fun T H' => C4 (σ'' = ⟨H', σ₁.loc⟩) (H' T = some .tb) (H' e = some (.exc cls (.ref T) .none)) (ExSame σ₁.H H')) hfr hf hL he ht (fun T H' a1 a2 a3 => ⟨T, H', rfl, a1, a2, a3⟩)
    refine wpAny_mono (st1 Z s₁ r₁) (fun _ s₂ h₂ => ⟨ref_ne_byPass _, ?_⟩) fun _ _ x => x.elim
    obtain ⟨_, r₂, T, H', rfl, a1, a2, a3⟩ := h₂
    have st2 := Ok.noteFrame (g := g) (A := A) (σ := ⟨H', σ₁.loc⟩) (E := NE) (Q := fun _ σ'' => E2 fun T H'' => C4 (σ'' = ⟨H'', σ₁.loc⟩) (H'' T = some .tb) (H'' e = some (.exc cls (.ref T) .none)) (ExSame H' H'')) hfr hf hL a2 (.inr ⟨T, rfl, a1⟩) (fun T H' a1 a2 a3 => ⟨T, H', rfl, a1, a2, a3⟩)
    refine wpAny_mono (st2 Z s₂ r₂) (fun _ s₃ h₃ => ?_) fun _ _ x => x.elim
    obtain ⟨_, r₃, T', H'', rfl, b1, b2, b3⟩ := h₃
    have st3 : Ok g A n NE (PySem.setFlight (.ref e) none) ⟨H'', σ₁.loc⟩ fun _ σ'' => σ'' = ⟨upd H'' T' .tb, σ₁.loc⟩ := Ok.setFlight b2 b1 rfl
    refine wpAny_mono (st3 Z s₃ r₃) (fun _ s₄ h₄ => ?_) fun _ _ x => x.elim
    obtain ⟨_, r₄, rfl⟩ := h₄
    have x4 := (a3.trans b3).trans (ExSame.tb b1)
    have hP4 : P ⟨upd H'' T' .tb, σ₁.loc⟩ := hS _ _ _ x4 (by cases σ₁; exact hP)
    refine wpAny_mono (hh e T' ⟨upd H'' T' .tb, σ₁.loc⟩ (upd_ne_eT b2 b1 (by intro q; cases q)) (upd_same ..) hP4 Z s₄ r₄) (fun f s₅ h₅ => ?_) fun v s₅ h₅ => back_own hfr hS' hf hL h₅
    obtain ⟨σ₅, r₅, hn, c1, c2, hC, c3⟩ := h₅
    cases f with
    | next =>
      have st5 : Ok g A n (AE g n cls C P') (PySem.passOn "try.finally" (.ref e) n.env : Sem Flow) σ₅ fun f σ' => Q (fl f) σ' := by
        unfold PySem.passOn
        refine Ok.bind (Ok.fieldTb c1 fun v hv => ?_)
        rw [er_ref hv, if_neg (by simp)]
        refine Ok.bind (Ok.setFlight c1 c2 ?_)
        intro Z' s' r'
        exact wpAny_throw ⟨e, _, .ref T', .none, rfl, r', upd_ne_eT c1 c2 (by intro q; cases q), .inr ⟨T', rfl, upd_same ..⟩, hC, hS' _ _ _ (ExSame.tb c2) (by cases σ₅; exact c3)⟩
      exact st5 Z s₅ r₅
    | brk => cases hn
    | cont => cases hn
    | ret v => cases hn
end
end Mine
end

section
open PySem PySem.W PyProof.Rows PySem.Spec PySem.Calls
set_option Elab.async false
set_option maxRecDepth 100000
set_option linter.unusedVariables false
namespace Mine

noncomputable def isEx : AO → Bool
  | .exc .. => true
  | .tb => true
  | _ => false
theorem notEx_iff {o : AO} : notEx o ↔ isEx o = false := by cases o <;> simp [notEx, isEx]
/-- exceptions are forgotten -/
noncomputable def clean (H : AH) : AH := fun a => match H a with | some o => if isEx o then none else some o | none => none
noncomputable def NoEx (H : AH) : Prop := ∀ a o, H a = some o → notEx o
theorem clean_some {H : AH} {a : Addr} {o : AO} : clean H a = some o ↔ H a = some o ∧ notEx o := by
  unfold clean
  cases H a with
  | none => simp
  | some o' =>
    simp only [Option.some.injEq, notEx_iff]
    cases h : isEx o' with
    | true => simp; rintro rfl; exact h
    | false => simp; rintro rfl; exact h
theorem clean_none {H : AH} {a : Addr} (h : H a = none) : clean H a = none := by unfold clean; rw [h]
theorem NoEx.clean (H : AH) : NoEx (clean H) := fun a o h => (clean_some.mp h).2
theorem ExSame.clean (H : AH) : ExSame H (clean H) := fun a o n h => clean_some.mpr ⟨h, n⟩
theorem HExt.exSame {M : List Addr} {H H' H'' : AH} (h : HExt M H H') (hn : NoEx H) (x : ExSame H' H'') : HExt M H H'' := fun a o hM ha => x a o (hn a o ha) (h a o hM ha)
theorem IsI.exSame {M : List Addr} {H H' : AH} {v : AV} {ns : List Int} (h : IsI M H v ns) (x : ExSame H H') : IsI M H' v ns := by
  obtain ⟨a, h1, h2, h3⟩ := h
  exact ⟨a, h1, h2, x _ _ trivial h3⟩
theorem IsLL.exSame {M : List Addr} {H H' : AH} {v : AV} {ns : List (List Int)} (h : IsLL M H v ns) (x : ExSame H H') : IsLL M H' v ns := by
  obtain ⟨a, vs, h1, h2, h3, h4⟩ := h
  exact ⟨a, vs, h1, h2, x _ _ trivial h3, h4.mono fun _ _ q => q.exSame x⟩

section
variable {g : G} {A : Around} {n : En} {E : Exn} {σ : St}
theorem Rel.clean {Z : Fz} {s : Shared} (r : Rel g Z n σ s) : Rel g Z n ⟨clean σ.H, σ.loc⟩ s := by
  obtain ⟨⟨h1, h2, h3, h4, h5⟩, ⟨v1, ⟨o1, o2, o3⟩, v3, v4, v5⟩, rfr⟩ := r
  refine ⟨⟨h1, h2, h3, h4, fun a o ha => h5 a o (clean_some.mp ha).1⟩, ⟨v1, ⟨o1, clean_none o2, o3⟩, fun x hx => ?_, v4, v5⟩, rfr⟩
  obtain ⟨c, v₀, c1, c2, c3, c4, c5, c6, c7⟩ := v3 x hx
  exact ⟨c, v₀, c1, c2, clean_none c3, c4, c5, c6, c7⟩
theorem Ok.forget {α : Type} {t : Sem α} {Q : α → St → Prop} (h : Ok g A n E t ⟨clean σ.H, σ.loc⟩ Q) : Ok g A n E t σ Q := fun Z s r => h Z s r.clean
theorem Exs.forget {sts : List Stmt} {Q : AFl → St → Prop} (h : Exs g A n E sts ⟨clean σ.H, σ.loc⟩ Q) : Exs g A n E sts σ Q := Ok.forget h
theorem Ex.forget {st : Stmt} {Q : AFl → St → Prop} (h : Ex g A n E st ⟨clean σ.H, σ.loc⟩ Q) : Ex g A n E st σ Q := Ok.forget h
theorem Ev.forget {e : Expr} {Q : AV → St → Prop} (h : Ev g A n E e ⟨clean σ.H, σ.loc⟩ Q) : Ev g A n E e σ Q := Ok.forget h

/-- a value stored at a target -/
noncomputable def Asg (g : G) (A : Around) (n : En) (E : Exn) (t : Expr) (v : AV) (σ : St) (Q : St → Prop) : Prop := ∀ cv, er cv = v → Ok g A n E (PySem.assign t n.env cv) σ fun _ σ' => Q σ'
theorem Asg.name {x : Str} {px : Pos} {v : AV} {Q : St → Prop} (h : Q ⟨σ.H, upd σ.loc x v⟩) (hf : n.env.scope.kind = .function := by exact Mine.rfk) (hk : canStore n x = true := by exact Mine.tt0) : Asg g A n E (.Name x px) v σ Q := fun cv e => by
  show Ok g A n E (do standAt px; PySem.bindName n.env x cv) σ _
  exact Ok.bind (Ok.standAt (Ok.bindName (by rw [e]; exact h) hf hk))
abbrev QAs1 (g : G) (A : Around) (n : En) (E : Exn) (t : Expr) (Q : AFl → St → Prop) : AV → St → Prop := fun v σ₁ => Asg g A n E t v σ₁ (Q .next)
theorem Ex.assignT1 {t e : Expr} {pos : Pos} {Q : AFl → St → Prop} (h : Ev g A n E e σ (QAs1 g A n E t Q)) (hs : swapsWith e (some t) pos.line n.env = Pure.pure false := by rfl) (hw : swappedStores [t] e n.env = Pure.pure none := by rfl)
    (ha : assignEach [t] n.env = [(false, PySem.assign t n.env)] := by rfl) : Ex g A n E (.Assign [t] e pos) σ Q := by
  refine Ok.eq (arm_exec_Assign _ _ _ _) (Ok.bind (Ok.standAt (Ok.bind ?_)))
  show Ok g A n E (swapsWith e (some t) pos.line n.env) σ _
  rw [hs]
  refine Ok.pure ?_
  rw [if_neg (by simp)]
  refine Ok.bind (Ok.mono h fun v σ₁ h₁ => Ok.bind ?_)
  rw [hw, ha]
  refine Ok.pure ?_
  show Ok g A n E (do PySem.assign t n.env v; Pure.pure Flow.next) σ₁ _
  exact Ok.bind (Ok.mono (h₁ v rfl) fun _ σ₂ h₂ => Ok.pure (a := Flow.next) h₂)
/-- x = y = e -/
theorem Ex.assignT2 {t u e : Expr} {pos : Pos} {Q : AFl → St → Prop} (h : Ev g A n E e σ fun v σ₁ => Asg g A n E t v σ₁ fun σ₂ => Asg g A n E u v σ₂ (Q .next)) (hw : swappedStores [t, u] e n.env = Pure.pure none := by rfl)
    (ha : assignEach [t, u] n.env = [(false, PySem.assign t n.env), (false, PySem.assign u n.env)] := by rfl) : Ex g A n E (.Assign [t, u] e pos) σ Q := by
  refine Ok.eq (arm_exec_Assign _ _ _ _) (Ok.bind (Ok.standAt (Ok.bind ?_)))
  show Ok g A n E (Pure.pure false) σ _
  refine Ok.pure ?_
  rw [if_neg (by simp)]
  refine Ok.bind (Ok.mono h fun v σ₁ h₁ => Ok.bind ?_)
  rw [hw, ha]
  refine Ok.pure ?_
  show Ok g A n E (do (do PySem.holding [v] (PySem.assign t n.env v); PySem.assign u n.env v); Pure.pure Flow.next) σ₁ _
  exact Ok.bind (Ok.bind (Ok.holding (Ok.mono (h₁ v rfl) fun _ σ₂ h₂ => Ok.mono (h₂ v rfl) fun _ σ₃ h₃ => Ok.pure (a := Flow.next) h₃)))
/-- a tuple of two is unpacked -/
theorem Asg.tup2 {t u : Expr} {k : Nat} {pos : Pos} {l : Addr} {a b : AV} {Q : St → Prop} (hl : σ.H l = some (.tup [a, b])) (hh : A.handled = none) (h : Asg g A n E t a σ fun σ₁ => Asg g A n E u b σ₁ Q)
    (ha : assignEach [t, u] n.env = [(false, PySem.assign t n.env), (false, PySem.assign u n.env)] := by rfl) : Asg g A n E (.Tuple [t, u] k pos) (.ref l) σ Q := fun cv e => by
  rw [er_ref e]
  refine Ok.eq (arm_assign_Tuple _ _ _ _ _) (Ok.bind (Ok.standAt ?_))
  rw [ha]
  intro Z s r
  obtain ⟨items, m, h1, h2⟩ := r.tupAt hl
  obtain ⟨c, d, h3, h4, h5⟩ := two_args (l := items.toList) h2
  refine wpAny_unpack_tuple hh ⟨_, h1, rfl, _, rfl⟩ (by rw [size_of_map h2]; rfl) rfl fun h' he => ?_
  have r' : Rel g Z n σ { s with heap := h' } := r.ext fun b o hb => he b o (Nat.ne_of_lt (Heap.lt_size hb)) hb
  have st : Ok g A n E (assignInOrder [PySem.assign t n.env, PySem.assign u n.env] [c, d]) σ fun _ σ' => Q σ' := by
    show Ok g A n E (do PySem.holding [d] (PySem.assign t n.env c); (do PySem.holding [] (PySem.assign u n.env d); Pure.pure ())) σ _
    exact Ok.bind (Ok.holding (Ok.mono (h c h4) fun _ σ₁ q => Ok.bind (Ok.holding (Ok.mono (q d h5) fun _ σ₂ q' => Ok.pure q'))))
  rw [h3]
  exact st Z _ r'
end
end Mine
end

section
open PySem PySem.W PyProof.Rows PySem.Spec PySem.Calls
set_option Elab.async false
set_option maxRecDepth 100000
set_option linter.unusedVariables false
namespace Mine

theorem upd_self {α β : Type} [DecidableEq α] {f : α → Option β} {a : α} {b : β} (h : f a = some b) : upd f a b = f := by
  funext x; unfold upd; split
  · rename_i q; rw [q, h]
  · rfl
theorem upd_upd {α β : Type} [DecidableEq α] {f : α → Option β} {a : α} {b c : β} : upd (upd f a b) a c = upd f a c := by
  funext x; unfold upd; split <;> rfl

noncomputable def nameOk (n : En) (x : Str) : Bool := isVar (n.env.kindOf x) && (!n.oc.contains x || n.env.kindOf x == some .cell) && !(x == ("__classdict__" : Str)) && !(x == ("__debug__" : Str))
theorem nameOk' {n : En} {x : Str} (h : nameOk n x = true) : (isVar (n.env.kindOf x) && (!n.oc.contains x || n.env.kindOf x == some .cell) && !(x == ("__classdict__" : Str))) = true := by
  unfold nameOk at h; simp only [Bool.and_eq_true] at h ⊢; exact h.1

section
variable {g : G} {A : Around} {n : En} {σ : St} {C : AV → Prop} {P : St → Prop} {Q : AFl → St → Prop}

theorem skip {xs ix ev : Str} {p1 p2 p3 p4 p5 p6 p7 p8 p9 : Pos} {kk : Nat} {l : Addr} {ns : List Int} {e : Int} {i0 : Nat} (hl : σ.H l = some (.list (ns.map .int))) (l1 : σ.loc xs = some (.ref l)) (l2 : σ.loc ix = some (.int i0)) (l3 : σ.loc ev = some (.int e))
    (hle : i0 ≤ ns.length) (hlen : ns.length ≤ 1000) (n1 : xs ≠ ix) (n2 : ev ≠ ix) (hfr : A.frames = some (n.env :: n.outer)) (hh : HOk A σ.H) (hC : C (hcx A)) (hS : Stable P)
    (hQ : ∀ i', i0 ≤ i' → i' < ns.length → ns.drop i' = (ns.drop i0).dropWhile (· == e) → Q .next ⟨σ.H, upd σ.loc ix (.int (i' : Nat))⟩) (hX : (ns.drop i0).dropWhile (· == e) = [] → P ⟨σ.H, upd σ.loc ix (.int (ns.length : Nat))⟩)
    (k1 : nameOk n xs = true := by exact Mine.tt0) (k2 : nameOk n ix = true := by exact Mine.tt0) (k3 : nameOk n ev = true := by exact Mine.tt0) (k4 : canStore n ix = true := by exact Mine.tt0) (hf : n.env.scope.kind = .function := by exact Mine.rfk) (hL : n.env.frame = some n.env.locals := by rfl) :
    Ex g A n (AE g n (.type "IndexError") C P) (.While (.Compare (.Subscript (.Name xs p1) (.Name ix p2) p3) [.Eq] [.Name ev p4] p5) [.AugAssign (.Name ix p6) .Add (.Constant (.int 1) kk p7) p8] [] p9) σ Q := by
  refine Ex.while (fun m σ' => ∃ (i' : Nat), C5 (i0 ≤ i') (i' ≤ ns.length) (m = ns.length - i') (σ' = ⟨σ.H, upd σ.loc ix (.int (i' : Nat))⟩) ((ns.drop i').dropWhile (· == e) = (ns.drop i0).dropWhile (· == e))) (ns.length - i0)
    ⟨i0, Nat.le_refl _, hle, rfl, by rw [upd_self l2], rfl⟩ ?_ (PassE.ae hfr hS hf hL)
  rintro m _ ⟨i', hi0, hi, rfl, rfl, hd⟩
  refine Tst.compare (Ev.subscript (Ev.name (v := .ref l) (by show upd σ.loc ix _ xs = _; rw [upd_ne n1]; exact l1) ?_ hf k1))
  refine Ev.name (v := .int (i' : Nat)) (upd_same ..) ?_ hf k2
  by_cases hlt : i' < ns.length
  · refine SubT.list hl (by omega) (x := .int ns[i']) (by simp [hlt]) (by (exact len_map_le (by with_reducible exact Nat.le_trans (by assumption) (by decide)))) ?_
    refine Ev.name (v := .int e) (by show upd σ.loc ix _ ev = _; rw [upd_ne n2]; exact l3) ?_ hf k3
    refine Cmp.eqInt ⟨_, rfl, ?_⟩
    have hdr : ns.drop i' = ns[i'] :: ns.drop (i' + 1) := List.drop_eq_getElem_cons hlt
    cases hc : (ns[i'] == e) with
    | true =>
      show Exs _ _ _ _ _ _ _
      refine Exs.cons (Ex.aug (upd_same ..) (Ev.cInt (Inp.add ?_)) hf k4 (nameOk' k2))
      refine Exs.nil ⟨ns.length - (i' + 1), by (with_reducible exact turn_lt' (by assumption)), i' + 1, by (with_reducible exact Nat.le_succ_of_le (by assumption)), hlt, rfl, ?_, ?_⟩
      · show St.mk σ.H (upd (upd σ.loc ix _) ix _) = _
        rw [upd_upd]; rfl
      · rw [← hd, hdr, List.dropWhile_cons, hc]; rfl
    | false =>
      show Exs _ _ _ _ _ _ _
      refine Exs.nil (hQ i' hi0 hlt ?_)
      rw [← hd, hdr, List.dropWhile_cons, hc]; rfl
  · have : i' = ns.length := by (with_reducible exact eq_of_nlt (by assumption) (by assumption))
    subst this
    refine SubT.listOut hl (by simp) (by omega) hh hC hS ?_
    refine hX ?_
    rw [← hd]; simp
end

theorem dropWhile_len (p : Int → Bool) (l : List Int) : (l.dropWhile p).length ≤ l.length := (List.dropWhile_suffix p).length_le

/-- what sorted_list_difference gives, by steps -/
noncomputable def sldG : Nat → List Int → List Int → List Int × List Int
  | 0, E, A => (E, A)
  | f + 1, E, A => match E with
    | [] => ([], A)
    | e :: E => match A with
      | [] => (e :: E, [])
      | a :: A =>
        if e < a then (e :: (sldG f (E.dropWhile (· == e)) (a :: A)).1, (sldG f (E.dropWhile (· == e)) (a :: A)).2)
        else if a < e then ((sldG f (e :: E) (A.dropWhile (· == a))).1, a :: (sldG f (e :: E) (A.dropWhile (· == a))).2)
        else sldG f (E.dropWhile (· == e)) (A.dropWhile (· == a))
noncomputable def sldF (E A : List Int) : List Int × List Int := sldG (E.length + A.length) E A
theorem sldG_step (f : Nat) (e a : Int) (E A : List Int) : sldG (f + 1) (e :: E) (a :: A) = if e < a then (e :: (sldG f (E.dropWhile (· == e)) (a :: A)).1, (sldG f (E.dropWhile (· == e)) (a :: A)).2)
        else if a < e then ((sldG f (e :: E) (A.dropWhile (· == a))).1, a :: (sldG f (e :: E) (A.dropWhile (· == a))).2)
        else sldG f (E.dropWhile (· == e)) (A.dropWhile (· == a)) := rfl
theorem sld_l1 {e a : Int} {E A : List Int} {f : Nat} (h : (e :: E).length + (a :: A).length ≤ f + 1) : (E.dropWhile (· == e)).length + (a :: A).length ≤ f :=
  Nat.le_of_succ_le_succ (Nat.le_trans (Nat.le_of_eq (Nat.succ_add _ _).symm) (Nat.le_trans (Nat.add_le_add_right (Nat.succ_le_succ (dropWhile_len _ E)) _) h))
theorem sld_l2 {e a : Int} {E A : List Int} {f : Nat} (h : (e :: E).length + (a :: A).length ≤ f + 1) : (e :: E).length + (A.dropWhile (· == a)).length ≤ f :=
  Nat.le_of_succ_le_succ (Nat.le_trans (Nat.add_le_add_left (Nat.succ_le_succ (dropWhile_len _ A)) _) h)
theorem sld_l3 {e a : Int} {E A : List Int} {f : Nat} (h : (e :: E).length + (a :: A).length ≤ f + 1) : (E.dropWhile (· == e)).length + (A.dropWhile (· == a)).length ≤ f :=
  Nat.le_trans (Nat.add_le_add_right (Nat.le_succ_of_le (dropWhile_len _ E)) _) (sld_l2 h)
theorem sldG_succ : ∀ (f : Nat) (E A : List Int), E.length + A.length ≤ f → sldG (f + 1) E A = sldG f E A
  | 0, [], [], _ => rfl
  | 0, [], _ :: _, h => absurd h (Nat.not_succ_le_zero _)
  | 0, e :: E, A, h => absurd (Nat.le_trans (Nat.le_add_right _ _) h) (Nat.not_succ_le_zero E.length)
  | _ + 1, [], _, _ => rfl
  | _ + 1, _ :: _, [], _ => rfl
  | f + 1, e :: E, a :: A, h => by
    rw [sldG_step (f + 1), sldG_step f, sldG_succ f _ _ (sld_l1 h), sldG_succ f _ _ (sld_l2 h), sldG_succ f _ _ (sld_l3 h)]
theorem sldG_more {f : Nat} {E A : List Int} (h : E.length + A.length ≤ f) : sldG f E A = sldF E A := by
  obtain ⟨k, rfl⟩ := Nat.exists_eq_add_of_le h
  clear h
  induction k with
  | zero => rfl
  | succ k ih => rw [← ih]; exact sldG_succ _ _ _ (Nat.le_add_right _ _)

noncomputable def fdSld : { fd : FuncData // ∀ P, (hd.heap_39 P).lookup 184 = some ⟨.type "function", none, .func fd, #[]⟩ } := ⟨_, fun _ => rfl⟩

theorem sldF_nil (A : List Int) : sldF [] A = ([], A) := by cases A <;> rfl
theorem sldF_nil' (E : List Int) : sldF E [] = (E, []) := by cases E <;> rfl
theorem sldF_step (e a : Int) (E A : List Int) : sldF (e :: E) (a :: A) = if e < a then (e :: (sldF (E.dropWhile (· == e)) (a :: A)).1, (sldF (E.dropWhile (· == e)) (a :: A)).2)
        else if a < e then ((sldF (e :: E) (A.dropWhile (· == a))).1, a :: (sldF (e :: E) (A.dropWhile (· == a))).2)
        else sldF (E.dropWhile (· == e)) (A.dropWhile (· == a)) := by
  have h : (e :: E).length + (a :: A).length ≤ ((e :: E).length + A.length) + 1 := Nat.le_refl _
  show sldG (((e :: E).length + A.length) + 1) (e :: E) (a :: A) = _
  rw [sldG_step, sldG_more (sld_l1 h), sldG_more (sld_l2 h), sldG_more (sld_l3 h)]
theorem sldF_lt {e a : Int} {E A : List Int} (h : e < a) : sldF (e :: E) (a :: A) = (e :: (sldF (E.dropWhile (· == e)) (a :: A)).1, (sldF (E.dropWhile (· == e)) (a :: A)).2) := by
  rw [sldF_step, if_pos h]
theorem sldF_gt {e a : Int} {E A : List Int} (h : a < e) : sldF (e :: E) (a :: A) = ((sldF (e :: E) (A.dropWhile (· == a))).1, a :: (sldF (e :: E) (A.dropWhile (· == a))).2) := by
  rw [sldF_step, if_neg (Int.not_lt.mpr (Int.le_of_lt h)), if_pos h]
theorem sldF_eq {e a : Int} {E A : List Int} (h : ¬ e < a) (h' : ¬ a < e) : sldF (e :: E) (a :: A) = sldF (E.dropWhile (· == e)) (A.dropWhile (· == a)) := by
  rw [sldF_step, if_neg h, if_neg h']

theorem off_of_two {H : AH} {a b c : Addr} {o o' : AO} (h : H a = some o) (hb : H b = none) (hc : upd H b o' c = none) : a ∉ [b, c] := by
  simp only [List.mem_cons, List.not_mem_nil, or_false, not_or]
  refine ⟨fun q => (by rw [q, hb] at h; cases h), fun q => ?_⟩
  rw [q] at h
  unfold upd at hc
  split at hc
  · cases hc
  · rw [h] at hc; cases hc

/-- the state of the loop -/
structure SS (H : AH) (v1 v2 : AV) (aM aU : Addr) (Es As : List Int) (σ : St) (i j : Nat) (m u : List Int) : Prop where
  l1 : σ.loc (Str.ofString "expected") = some v1
  l2 : σ.loc (Str.ofString "actual") = some v2
  l3 : σ.loc (Str.ofString "i") = some (.int i)
  l4 : σ.loc (Str.ofString "j") = some (.int j)
  l5 : σ.loc (Str.ofString "missing") = some (.ref aM)
  l6 : σ.loc (Str.ofString "unexpected") = some (.ref aU)
  ext : HExt [aM, aU] H σ.H
  hm : σ.H aM = some (.list (m.map .int))
  hu : σ.H aU = some (.list (u.map .int))
  lm : m.length ≤ 1000
  lu : u.length ≤ 1000
  li : i ≤ Es.length
  lj : j ≤ As.length
  lim : m.length ≤ i
  lju : u.length ≤ j

theorem SS.clean {H : AH} {v1 v2 : AV} {aM aU : Addr} {Es As : List Int} {σ : St} {i j : Nat} {m u : List Int} (hx : NoEx H) (S : SS H v1 v2 aM aU Es As σ i j m u) : SS H v1 v2 aM aU Es As ⟨Mine.clean σ.H, σ.loc⟩ i j m u :=
  ⟨S.l1, S.l2, S.l3, S.l4, S.l5, S.l6, S.ext.exSame hx (ExSame.clean _), ExSame.clean _ _ _ trivial S.hm, ExSame.clean _ _ _ trivial S.hu, S.lm, S.lu, S.li, S.lj, S.lim, S.lju⟩

noncomputable def ResOk (Es As : List Int) (i j : Nat) (m u : List Int) : Prop := (m ++ (sldF (Es.drop i) (As.drop j)).1, u ++ (sldF (Es.drop i) (As.drop j)).2) = sldF Es As

theorem sld_ok (g : G) (v1 v2 : AV) (Es As : List Int) (H : AH) (h1 : IsI [] H v1 Es) (h2 : IsI [] H v2 As) (hx : NoEx H) (hl1 : Es.length ≤ 1000) (hl2 : As.length ≤ 1000) :
    FnOk g 2 184 [v1, v2] H fun v H' => HExt [] H H' ∧ E3 fun t m u => C4 (v = .ref t) (H' t = some (.tup [.ref m, .ref u])) (IsI [] H' (.ref m) (sldF Es As).1) (IsI [] H' (.ref u) (sldF Es As).2) := by
  refine FnOk.of_body (abinds := [(Str.ofString "expected", v1), (Str.ofString "actual", v2)]) (fdSld.2 _) rfl rfl rfl rfl ?_ rfl ?_
  · intro cargs hc
    obtain ⟨a, b, rfl, e1, e2⟩ := two_args hc
    exact ⟨[(Str.ofString "expected", a), (Str.ofString "actual", b)], rfl, by simp [e1, e2]⟩
  intro A L outer room fr
  have hu := room.units
  walk_at "m1"
  refine Ex.assignT2 (Ev.cInt (Asg.name (Asg.name ?_)))
  (repeat walk_at "m1")
  refine ⟨by (exact Nat.le_of_ble_eq_true rfl), fun aM haM => ?_⟩
  (repeat walk_at "m1")
  refine ⟨by (exact Nat.le_of_ble_eq_true rfl), fun aU haU => ?_⟩
  dsimp only at haM haU ⊢
  have hMU : aM ≠ aU := by rintro rfl; simp at haU
  (repeat walk_at "m1")
  obtain ⟨e1, rfl, _, he1⟩ := h1
  obtain ⟨e2, rfl, _, he2⟩ := h2
  have nM1 : e1 ∉ [aM, aU] := off_of_two he1 haM haU
  have nM2 : e2 ∉ [aM, aU] := off_of_two he2 haM haU
  refine Ex.while (fun k σ => E4 fun i j m u => C3 (SS H (.ref e1) (.ref e2) aM aU Es As σ i j m u) (ResOk Es As i j m u) (k = (Es.length - i) + (As.length - j))) (Es.length + As.length) ?_ ?_ PassE.never
  · refine ⟨0, 0, [], [], ⟨rfl, rfl, rfl, rfl, rfl, rfl, ?_, ?_, upd_same .., by (exact Nat.le_of_ble_eq_true rfl), by simp, by (exact Nat.zero_le _), by (exact Nat.zero_le _), by (exact Nat.le_of_ble_eq_true rfl), by simp⟩, ?_, by omega⟩
    · exact (HExt.new haM).new' haU
    · show upd (upd H aM _) aU _ aM = _
      rw [upd_ne hMU]; exact upd_same ..
    · simp [ResOk]
  rintro k σ ⟨i, j, m, u, S, hres, rfl⟩
  refine Tst.plain (Ev.cBool (Tru.bool ?_))
  walk_at "m1"
  let P : St → Prop := fun σ => E4 fun i j m u => C3 (SS H (.ref e1) (.ref e2) aM aU Es As σ i j m u) (ResOk Es As i j m u) (Es.length = i ∨ As.length = j)
  have hS : Stable P := by
    rintro H1 H2 loc x ⟨i, j, m, u, S, hr, hd⟩
    exact ⟨i, j, m, u, ⟨S.l1, S.l2, S.l3, S.l4, S.l5, S.l6, S.ext.exSame hx x, x _ _ trivial S.hm, x _ _ trivial S.hu, S.lm, S.lu, S.li, S.lj, S.lim, S.lju⟩, hr, hd⟩
  have le1 : SS H (.ref e1) (.ref e2) aM aU Es As σ i j m u → σ.H e1 = some (.list (Es.map .int)) := fun S => S.ext _ _ nM1 he1
  have le2 : SS H (.ref e1) (.ref e2) aM aU Es As σ i j m u → σ.H e2 = some (.list (As.map .int)) := fun S => S.ext _ _ nM2 he2
  refine Ex.tryExcept (X := "IndexError") (T := "IndexError") (C := fun _ => True) (P := P) ?_ ?_ fr hS (by rw [isSubtype_type]; kernel_rfl) (by rw [isSubtype_type]; kernel_rfl) (by rw [isSubtype_type]; kernel_rfl) rfl rfl
  · walk_at "m1"
    walk_at "m1"
    refine Ev.subscript (Ev.name S.l1 (Ev.name S.l3 ?_))
    by_cases hi : i < Es.length
    case neg =>
      have : i = Es.length := by have := S.li; (with_reducible exact eq_of_nlt (by assumption) (by assumption))
      exact SubT.listOut (le1 S) (by (simp; omega)) (by omega) (.inl room.h) trivial hS ⟨i, j, m, u, S, hres, .inl this.symm⟩
    refine SubT.list (le1 S) (by omega) (x := .int Es[i]) (by simp [hi]) (by (exact len_map_le (by with_reducible exact Nat.le_trans (by assumption) (by decide)))) ?_
    walk_at "m1"
    walk_at "m1"
    refine Ev.subscript (Ev.name S.l2 (Ev.name S.l4 ?_))
    by_cases hj : j < As.length
    case neg =>
      have : j = As.length := by have := S.lj; (with_reducible exact eq_of_nlt (by assumption) (by assumption))
      exact SubT.listOut (le2 S) (by (simp; omega)) (by omega) (.inl room.h) trivial hS ⟨i, j, m, u, ⟨S.l1, S.l2, S.l3, S.l4, S.l5, S.l6, S.ext, S.hm, S.hu, S.lm, S.lu, S.li, S.lj, S.lim, S.lju⟩, hres, .inr this.symm⟩
    refine SubT.list (le2 S) (by omega) (x := .int As[j]) (by simp [hj]) (by (exact len_map_le (by with_reducible exact Nat.le_trans (by assumption) (by decide)))) ?_
    try dsimp only
    have dE : Es.drop i = Es[i] :: Es.drop (i + 1) := List.drop_eq_getElem_cons hi
    have dA : As.drop j = As[j] :: As.drop (j + 1) := List.drop_eq_getElem_cons hj
    generalize Es[i] = e at dE ⊢
    generalize As[j] = a at dA ⊢
    walk_at "m1"
    walk_at "m1"
    walk_at "m1"
    walk_at "m1"
    walk_at "m1"
    walk_at "m1"
    refine ⟨_, rfl, ?_⟩
    have hE1 := le1 S
    have hE2 := le2 S
    cases hlt : decide (e < a) with
    | true =>
      have hlt := of_decide_eq_true hlt
      show Exs _ _ _ _ _ _ _
      walk_at "m1"
      walk_at "m1"
      refine Ev.method (Ev.name S.l5 ⟨"list", "list.append", meth_append, listType S.hm, ?_⟩)
      (repeat walk_at "m1")
      refine Call.append S.hm (by simp; have := S.lm; (with_reducible exact Nat.le_trans (by assumption) (by decide))) ?_
      refine Exs.cons (Ex.aug S.l3 (Ev.cInt (Inp.add ?_)))
      walk_at "m1"
      have hM1 : e1 ≠ aM := fun q => nM1 (by simp [q])
      have S1 : ∀ i' : Nat, i + 1 ≤ i' → i' ≤ Es.length → ∀ loc, loc (Str.ofString "i") = some (.int (i' : Nat)) → (∀ x, x ≠ Str.ofString "i" → x ≠ Str.ofString "e" → x ≠ Str.ofString "a" → loc x = σ.loc x) →
          SS H (.ref e1) (.ref e2) aM aU Es As ⟨upd σ.H aM (.list (m.map .int ++ [.int e])), loc⟩ i' j (m ++ [e]) u := fun i' h1 h2 loc hl ho => by
        refine ⟨(ho _ (by decide) (by decide) (by decide)).trans S.l1, (ho _ (by decide) (by decide) (by decide)).trans S.l2, hl, (ho _ (by decide) (by decide) (by decide)).trans S.l4, (ho _ (by decide) (by decide) (by decide)).trans S.l5, (ho _ (by decide) (by decide) (by decide)).trans S.l6, S.ext.trans (HExt.set (by simp)), ?_, ?_, ?_, S.lu, h2, S.lj, ?_, S.lju⟩
        · show upd _ _ _ _ = _; rw [upd_same]; simp
        · show upd _ _ _ _ = _; rw [upd_ne (Ne.symm hMU)]; exact S.hu
        · have := S.lim; simp; omega
        · have := S.lim; simp; omega
      have R1 : ∀ i' : Nat, Es.drop i' = (Es.drop (i + 1)).dropWhile (· == e) → ResOk Es As i' j (m ++ [e]) u := fun i' hd => by
        unfold ResOk at hres ⊢
        rw [← hres, dE, hd]
        conv => rhs; rw [dA, sldF_lt hlt, ← dA]
        simp
      refine skip (l := e1) (ns := Es) (e := e) (i0 := i + 1) (by show upd _ _ _ _ = _; rw [upd_ne hM1]; exact hE1) S.l1 rfl rfl (by (with_reducible exact Nat.succ_le_of_lt (by assumption))) hl1 (by decide) (by decide) fr (.inl room.h) trivial hS ?_ ?_
      · intro i' h1 h2 hd
        (repeat walk_at "m1")
        refine ⟨Es.length - i' + (As.length - j), Nat.add_lt_add_right (Nat.sub_lt_sub_left hi h1) _, i', j, m ++ [e], u, S1 i' h1 (by (with_reducible exact Nat.le_of_lt (by assumption))) _ rfl ?_, R1 i' hd, rfl⟩
        intro x n1 n2 n3
        simp only [upd, n1, n2, n3, if_false]
      · intro hd
        refine ⟨Es.length, j, m ++ [e], u, S1 _ (by (with_reducible exact Nat.succ_le_of_lt (by assumption))) (Nat.le_refl _) _ rfl ?_, R1 _ (by rw [hd]; simp), .inl rfl⟩
        intro x n1 n2 n3
        simp only [upd, n1, n2, n3, if_false]
    | false =>
      have hlt := of_decide_eq_false hlt
      show Exs _ _ _ _ _ _ _
      have ss : ∀ (i' j' : Nat) (H' : AH) (u' : List Int), i ≤ i' → i' ≤ Es.length → j ≤ j' → j' ≤ As.length → HExt [aM, aU] σ.H H' → H' aM = some (.list (m.map .int)) → H' aU = some (.list (u'.map .int)) → u'.length ≤ j' →
          ∀ loc, loc (Str.ofString "i") = some (.int (i' : Nat)) → loc (Str.ofString "j") = some (.int (j' : Nat)) → (∀ x, x ≠ Str.ofString "i" → x ≠ Str.ofString "j" → x ≠ Str.ofString "e" → x ≠ Str.ofString "a" → loc x = σ.loc x) →
          SS H (.ref e1) (.ref e2) aM aU Es As ⟨H', loc⟩ i' j' m u' := fun i' j' H' u' hi1 hi2 h1 h2 hx' hM' hU' hu' loc hli hl ho => by
        exact ⟨(ho _ (by decide) (by decide) (by decide) (by decide)).trans S.l1, (ho _ (by decide) (by decide) (by decide) (by decide)).trans S.l2, hli, hl, (ho _ (by decide) (by decide) (by decide) (by decide)).trans S.l5, (ho _ (by decide) (by decide) (by decide) (by decide)).trans S.l6, S.ext.trans hx', hM', hU', S.lm, by omega, hi2, h2, Nat.le_trans S.lim hi1, hu'⟩
      walk_at "m1"
      walk_at "m1"
      walk_at "m1"
      walk_at "m1"
      walk_at "m1"
      walk_at "m1"
      refine ⟨_, rfl, ?_⟩
      cases hgt : decide (a < e) with
      | true =>
        have hgt := of_decide_eq_true hgt
        show Exs _ _ _ _ _ _ _
        walk_at "m1"
        walk_at "m1"
        refine Ev.method (Ev.name S.l6 ⟨"list", "list.append", meth_append, listType S.hu, ?_⟩)
        (repeat walk_at "m1")
        refine Call.append S.hu (by simp; have := S.lu; (with_reducible exact Nat.le_trans (by assumption) (by decide))) ?_
        refine Exs.cons (Ex.aug S.l4 (Ev.cInt (Inp.add ?_)))
        walk_at "m1"
        have hM2 : e2 ≠ aU := fun q => nM2 (by simp [q])
        have S1 : ∀ j' : Nat, j + 1 ≤ j' → j' ≤ As.length → ∀ loc, loc (Str.ofString "j") = some (.int (j' : Nat)) → loc (Str.ofString "i") = some (.int (i : Nat)) → (∀ x, x ≠ Str.ofString "i" → x ≠ Str.ofString "j" → x ≠ Str.ofString "e" → x ≠ Str.ofString "a" → loc x = σ.loc x) →
            SS H (.ref e1) (.ref e2) aM aU Es As ⟨upd σ.H aU (.list (u.map .int ++ [.int a])), loc⟩ i j' m (u ++ [a]) := fun j' h1 h2 loc hl hl' ho => by
          refine ss i j' _ _ (Nat.le_refl _) S.li (by (with_reducible exact Nat.le_of_succ_le (by assumption))) h2 (HExt.set (by simp)) ?_ ?_ ?_ _ hl' hl ho
          · rw [upd_ne hMU]; exact S.hm
          · rw [upd_same]; simp
          · have := S.lju; simp; omega
        have R1 : ∀ j' : Nat, As.drop j' = (As.drop (j + 1)).dropWhile (· == a) → ResOk Es As i j' m (u ++ [a]) := fun j' hd => by
          unfold ResOk at hres ⊢
          rw [← hres, dA, hd]
          conv => rhs; rw [dE, sldF_gt hgt, ← dE]
          simp
        refine skip (l := e2) (ns := As) (e := a) (i0 := j + 1) (by show upd _ _ _ _ = _; rw [upd_ne hM2]; exact hE2) S.l2 rfl rfl (by (with_reducible exact Nat.succ_le_of_lt (by assumption))) hl2 (by decide) (by decide) fr (.inl room.h) trivial hS ?_ ?_
        · intro j' h1 h2 hd
          (repeat walk_at "m1")
          refine ⟨Es.length - i + (As.length - j'), Nat.add_lt_add_left (Nat.sub_lt_sub_left hj h1) _, i, j', m, u ++ [a], S1 j' h1 (by (with_reducible exact Nat.le_of_lt (by assumption))) _ rfl S.l3 ?_, R1 j' hd, rfl⟩
          intro x n1 n2 n3 n4
          simp only [upd, n1, n2, n3, n4, if_false]
        · intro hd
          refine ⟨i, As.length, m, u ++ [a], S1 _ (by (with_reducible exact Nat.succ_le_of_lt (by assumption))) (Nat.le_refl _) _ rfl S.l3 ?_, R1 _ (by rw [hd]; simp), .inr rfl⟩
          intro x n1 n2 n3 n4
          simp only [upd, n1, n2, n3, n4, if_false]
      | false =>
        have hgt := of_decide_eq_false hgt
        show Exs _ _ _ _ _ _ _
        refine Exs.cons (Ex.aug S.l3 (Ev.cInt (Inp.add ?_)))
        walk_at "m1"
        have S1 : ∀ (H' : AH) (i' j' : Nat), ExSame σ.H H' → i + 1 ≤ i' → i' ≤ Es.length → j ≤ j' → j' ≤ As.length → ∀ loc, loc (Str.ofString "j") = some (.int (j' : Nat)) → loc (Str.ofString "i") = some (.int (i' : Nat)) → (∀ x, x ≠ Str.ofString "i" → x ≠ Str.ofString "j" → x ≠ Str.ofString "e" → x ≠ Str.ofString "a" → loc x = σ.loc x) →
            SS H (.ref e1) (.ref e2) aM aU Es As ⟨H', loc⟩ i' j' m u := fun H' i' j' hx' hi1 hi2 h1 h2 loc hl hl' ho =>
          ⟨(ho _ (by decide) (by decide) (by decide) (by decide)).trans S.l1, (ho _ (by decide) (by decide) (by decide) (by decide)).trans S.l2, hl', hl, (ho _ (by decide) (by decide) (by decide) (by decide)).trans S.l5, (ho _ (by decide) (by decide) (by decide) (by decide)).trans S.l6, S.ext.exSame hx hx', hx' _ _ trivial S.hm, hx' _ _ trivial S.hu, S.lm, S.lu, hi2, h2, Nat.le_trans S.lim (by (with_reducible exact Nat.le_of_succ_le (by assumption))), Nat.le_trans S.lju h1⟩
        have R1 : ∀ i' j' : Nat, Es.drop i' = (Es.drop (i + 1)).dropWhile (· == e) → As.drop j' = (As.drop (j + 1)).dropWhile (· == a) → ResOk Es As i' j' m u := fun i' j' hd hd' => by
          unfold ResOk at hres ⊢
          rw [← hres, hd, hd', dE, dA, sldF_eq hlt hgt]
        -- within the inner try: the first list has run out
        let P1 : St → Prop := fun σ' => C6 (ExSame σ.H σ'.H) (σ'.loc (Str.ofString "i") = some (.int (Es.length : Nat))) (σ'.loc (Str.ofString "j") = some (.int (j : Nat))) (σ'.loc (Str.ofString "a") = some (.int a)) (∀ x, x ≠ Str.ofString "i" → x ≠ Str.ofString "j" → x ≠ Str.ofString "e" → x ≠ Str.ofString "a" → σ'.loc x = σ.loc x) ((Es.drop (i + 1)).dropWhile (· == e) = [])
        have hS1 : Stable P1 := by
          rintro H1 H2 loc x ⟨q1, q2, q3, q4, q5, q6⟩
          exact ⟨q1.trans x, q2, q3, q4, q5, q6⟩
        refine Ex.tryFinally (P := P1) ?_ ?_ fr hS1 hS
        · walk_at "m1"
          refine skip (l := e1) (ns := Es) (e := e) (i0 := i + 1) hE1 S.l1 rfl rfl (by (with_reducible exact Nat.succ_le_of_lt (by assumption))) hl1 (by decide) (by decide) fr (.inl room.h) (by show hcx A = _; simp [hcx, room.h]) hS1 ?_ ?_
          · intro i' h1 h2 hd
            walk_at "m1"
            refine Exs.cons (Ex.aug S.l4 (Ev.cInt (Inp.add ?_)))
            walk_at "m1"
            refine skip (l := e2) (ns := As) (e := a) (i0 := j + 1) hE2 S.l2 rfl rfl (by (with_reducible exact Nat.succ_le_of_lt (by assumption))) hl2 (by decide) (by decide) fr (.inl room.h) trivial hS ?_ ?_
            · intro j' h1' h2' hd'
              (repeat walk_at "m1")
              refine ⟨Es.length - i' + (As.length - j'), Nat.add_lt_add (Nat.sub_lt_sub_left hi h1) (Nat.sub_lt_sub_left hj h1'), i', j', m, u, S1 _ i' j' (ExSame.refl _) h1 (by (with_reducible exact Nat.le_of_lt (by assumption))) (by (with_reducible exact Nat.le_of_succ_le (by assumption))) (by (with_reducible exact Nat.le_of_lt (by assumption))) _ rfl rfl ?_, R1 i' j' hd hd', rfl⟩
              intro x n1 n2 n3 n4
              simp only [upd, n1, n2, n3, n4, if_false]
            · intro hd'
              refine ⟨i', As.length, m, u, S1 _ i' _ (ExSame.refl _) h1 (by (with_reducible exact Nat.le_of_lt (by assumption))) (by (with_reducible exact Nat.le_of_lt (by assumption))) (Nat.le_refl _) _ rfl rfl ?_, R1 _ _ hd (by rw [hd']; simp), .inr rfl⟩
              intro x n1 n2 n3 n4
              simp only [upd, n1, n2, n3, n4, if_false]
          · intro hd
            refine ⟨ExSame.refl _, rfl, S.l4, rfl, ?_, hd⟩
            intro x n1 n2 n3 n4
            simp only [upd, n1, n2, n3, n4, if_false]
        · rintro e₀ T ⟨H', loc⟩ he₀ hT ⟨q1, q2, q3, q4, q5, q6⟩
          dsimp only at he₀ hT q1 q2 q3 q4 q5
          refine Exs.cons (Ex.aug q3 (Ev.cInt (Inp.add ?_)))
          walk_at "m1"
          refine skip (l := e2) (ns := As) (e := a) (i0 := j + 1) (q1 _ _ trivial hE2) ((q5 _ (by decide) (by decide) (by decide) (by decide)).trans S.l2) rfl q4 (by (with_reducible exact Nat.succ_le_of_lt (by assumption))) hl2 (by decide) (by decide) fr (.inr ⟨e₀, _, _, rfl, he₀⟩) trivial hS ?_ ?_
          · intro j' h1' h2' hd'
            (repeat walk_at "m1")
            refine ⟨rfl, he₀, hT, trivial, Es.length, j', m, u, S1 _ _ j' q1 (by (with_reducible exact Nat.succ_le_of_lt (by assumption))) (Nat.le_refl _) (by (with_reducible exact Nat.le_of_succ_le (by assumption))) (by (with_reducible exact Nat.le_of_lt (by assumption))) _ rfl q2 ?_, R1 _ j' (by rw [q6]; simp) hd', .inl rfl⟩
            intro x n1 n2 n3 n4
            rw [← q5 x n1 n2 n3 n4]
            simp only [upd, n1, n2, n3, n4, if_false]
          · intro hd'
            refine ⟨Es.length, As.length, m, u, S1 _ _ _ q1 (by (with_reducible exact Nat.succ_le_of_lt (by assumption))) (Nat.le_refl _) (by (with_reducible exact Nat.le_of_lt (by assumption))) (Nat.le_refl _) _ rfl q2 ?_, R1 _ _ (by rw [q6]; simp) (by rw [hd']; simp), .inl rfl⟩
            intro x n1 n2 n3 n4
            rw [← q5 x n1 n2 n3 n4]
            simp only [upd, n1, n2, n3, n4, if_false]
  · rintro e₀ σ₁ tb cx he₀ _ ⟨i, j, m, u, S, hres, hend⟩
    refine Exs.forget ?_
    have S := SS.clean hx S
    obtain ⟨H1, loc⟩ := σ₁
    dsimp only at S ⊢
    generalize clean H1 = H2 at S ⊢
    have hE1 : H2 e1 = some (.list (Es.map .int)) := S.ext _ _ nM1 he1
    have hE2 : H2 e2 = some (.list (As.map .int)) := S.ext _ _ nM2 he2
    walk_at "m1"
    walk_at "m1"
    refine Ev.method (Ev.name S.l5 ⟨"list", "list.extend", meth_extend, listType S.hm, ?_⟩)
    walk_at "m1"
    refine Ev.subscript (Ev.name S.l1 (Ev.sliceLo (Ev.name S.l3 fun b hb => ?_)))
    dsimp only at hb ⊢
    have hb1 : e1 ≠ b := fun q => by rw [q, hb] at hE1; cases hE1
    refine SubT.sliceLo (xs := Es.map .int) (by show upd _ _ _ _ = _; rw [upd_ne hb1]; exact hE1) (upd_same ..) (by have := S.li; simp; (with_reducible assumption)) (by (exact len_map_le (by with_reducible exact Nat.le_trans (by assumption) (by decide)))) fun c hc => ?_
    walk_at "m1"
    dsimp only at hc
    have x1 : HExt [] H2 (upd (upd H2 b (.slice (.int i) .none)) c (.list ((Es.map AV.int).drop i))) := (HExt.new hb).new' hc
    have hcc : upd (upd H2 b (.slice (.int i) .none)) c (.list ((Es.map AV.int).drop i)) c = some (.list ((Es.map AV.int).drop i)) := upd_same ..
    generalize hH3 : upd (upd H2 b (.slice (.int i) .none)) c (.list ((Es.map AV.int).drop i)) = H3 at x1 hcc ⊢
    have c1 : H3 aM = some (.list (m.map .int)) := x1 _ _ (by (exact nm0)) S.hm
    have c2 : H3 aU = some (.list (u.map .int)) := x1 _ _ (by (exact nm0)) S.hu
    have c3 : H3 e2 = some (.list (As.map .int)) := x1 _ _ (by (exact nm0)) hE2
    have x2 : HExt [aM, aU] H H3 := S.ext.trans (x1.mono (by (exact nsub)))
    refine Call.extend (xs := m.map .int) (ys := (Es.map .int).drop i) c1 hcc (by have := S.lm; simp; omega) ?_
    try dsimp only
    have d1 : upd H3 aM (.list (m.map AV.int ++ (Es.map AV.int).drop i)) aM = some (.list ((m ++ Es.drop i).map .int)) := by rw [upd_same, List.map_append, List.map_drop]
    have d2 : upd H3 aM (.list (m.map AV.int ++ (Es.map AV.int).drop i)) aU = some (.list (u.map .int)) := by rw [upd_ne (Ne.symm hMU)]; exact c2
    have d3 : upd H3 aM (.list (m.map AV.int ++ (Es.map AV.int).drop i)) e2 = some (.list (As.map .int)) := by rw [upd_ne (fun q => nM2 (by simp [q]))]; exact c3
    have x3 : HExt [aM, aU] H (upd H3 aM (.list (m.map AV.int ++ (Es.map AV.int).drop i))) := x2.trans (HExt.set (by simp))
    generalize upd H3 aM (.list (m.map AV.int ++ (Es.map AV.int).drop i)) = H4 at d1 d2 d3 x3 ⊢
    walk_at "m1"
    walk_at "m1"
    refine Ev.method (Ev.name S.l6 ⟨"list", "list.extend", meth_extend, listType d2, ?_⟩)
    walk_at "m1"
    refine Ev.subscript (Ev.name S.l2 (Ev.sliceLo (Ev.name S.l4 fun b' hb' => ?_)))
    dsimp only at hb' ⊢
    have hb2 : e2 ≠ b' := fun q => by rw [q, hb'] at d3; cases d3
    refine SubT.sliceLo (xs := As.map .int) (by show upd _ _ _ _ = _; rw [upd_ne hb2]; exact d3) (upd_same ..) (by have := S.lj; simp; (with_reducible assumption)) (by (exact len_map_le (by with_reducible exact Nat.le_trans (by assumption) (by decide)))) fun c' hc' => ?_
    walk_at "m1"
    dsimp only at hc'
    have y1 : HExt [] H4 (upd (upd H4 b' (.slice (.int j) .none)) c' (.list ((As.map AV.int).drop j))) := (HExt.new hb').new' hc'
    have ycc : upd (upd H4 b' (.slice (.int j) .none)) c' (.list ((As.map AV.int).drop j)) c' = some (.list ((As.map AV.int).drop j)) := upd_same ..
    generalize upd (upd H4 b' (.slice (.int j) .none)) c' (.list ((As.map AV.int).drop j)) = H5 at y1 ycc ⊢
    have f1 := y1 _ _ (by (exact nm0)) d1
    have f2 := y1 _ _ (by (exact nm0)) d2
    have y2 : HExt [aM, aU] H H5 := x3.trans (y1.mono (by (exact nsub)))
    refine Call.extend (xs := u.map .int) (ys := (As.map .int).drop j) f2 ycc (by have := S.lu; simp; omega) ?_
    try dsimp only
    have k1 : upd H5 aU (.list (u.map AV.int ++ (As.map AV.int).drop j)) aM = some (.list ((m ++ Es.drop i).map .int)) := by rw [upd_ne hMU]; exact f1
    have k2 : upd H5 aU (.list (u.map AV.int ++ (As.map AV.int).drop j)) aU = some (.list ((u ++ As.drop j).map .int)) := by rw [upd_same, List.map_append, List.map_drop]
    have x4 : HExt [aM, aU] H (upd H5 aU (.list (u.map AV.int ++ (As.map AV.int).drop j))) := y2.trans (HExt.set (by simp))
    generalize upd H5 aU (.list (u.map AV.int ++ (As.map AV.int).drop j)) = H6 at k1 k2 x4 ⊢
    walk_at "m1"
    walk_at "m1"
    show Exs _ _ _ _ _ _ _
    walk_at "m1"
    walk_at "m1"
    walk_at "m1"
    walk_at "m1"
    refine Ev.name S.l5 ?_
    walk_at "m1"
    refine Ev.name S.l6 ?_
    walk_at "m1"
    refine ⟨by (exact Nat.le_of_ble_eq_true rfl), fun t ht => ?_⟩
    dsimp only at ht ⊢
    have hfin : sldF Es As = (m ++ Es.drop i, u ++ As.drop j) := by
      rw [← show (m ++ (sldF (Es.drop i) (As.drop j)).1, u ++ (sldF (Es.drop i) (As.drop j)).2) = sldF Es As from hres]
      rcases hend with q | q
      · have : Es.drop i = [] := by rw [← q]; simp
        rw [this, sldF_nil]
      · have : As.drop j = [] := by rw [← q]; simp
        rw [this, sldF_nil']
    rw [hfin]
    refine ⟨fun x o _ hxo => ?_, t, aM, aU, rfl, upd_same .., ⟨aM, rfl, by (exact nm0), ?_⟩, ⟨aU, rfl, by (exact nm0), ?_⟩⟩
    · have hx4 := x4 x o (off_of_two hxo haM haU) hxo
      show upd _ _ _ _ = _
      rw [upd_ne]; exact hx4
      intro q; rw [q, ht] at hx4; cases hx4
    · show upd _ _ _ _ = _
      rw [upd_ne]; exact k1
      intro q; rw [← q, k1] at ht; cases ht
    · show upd _ _ _ _ = _
      rw [upd_ne]; exact k2
      intro q; rw [← q, k2] at ht; cases ht
end Mine
end

section
open PySem PySem.W PyProof.Rows PySem.Spec PySem.Calls
set_option Elab.async false
set_option maxRecDepth 100000
set_option linter.unusedVariables false
namespace Mine

/-! the two questions -/
theorem dropWhile_ne {e : Int} : ∀ {l : List Int}, (∀ x ∈ l, e < x) → l.dropWhile (· == e) = l
  | [], _ => rfl
  | a :: l, h => by
    have : e < a := h a (.head _)
    have : (a == e) = false := by simpa using (by omega : a ≠ e)
    rw [List.dropWhile_cons, this]; rfl
theorem dropWhile_rep {e : Int} : ∀ (k : Nat) {l : List Int}, (∀ x ∈ l, e < x) → (List.replicate k e ++ l).dropWhile (· == e) = l
  | 0, l, h => by simpa using dropWhile_ne h
  | k + 1, l, h => by rw [List.replicate_succ, List.cons_append, List.dropWhile_cons]; simpa using dropWhile_rep k h
theorem mem_reps {c : Int → Nat} {E : List Int} {x : Int} (h : x ∈ E.flatMap fun k => List.replicate (c k) k) : x ∈ E := by
  obtain ⟨k, hk, hx⟩ := List.mem_flatMap.mp h
  rw [(List.mem_replicate.mp hx).2]; exact hk
theorem sld_every (c : Int → Nat) : ∀ (E : List Int), E.Pairwise (· < ·) → sldF E (E.flatMap fun k => List.replicate (c k) k) = (E.filter fun k => c k == 0, [])
  | [], _ => by simp [sldF_nil]
  | e :: E, h => by
    obtain ⟨h1, h2⟩ := List.pairwise_cons.mp h
    have ih := sld_every c E h2
    have hA : ∀ x ∈ E.flatMap fun k => List.replicate (c k) k, e < x := fun x hx => h1 x (mem_reps hx)
    rw [List.flatMap_cons]
    cases hc : c e with
    | zero =>
      simp only [List.replicate_zero, List.nil_append, List.filter_cons, hc, beq_self_eq_true, if_true]
      cases hf : E.flatMap fun k => List.replicate (c k) k with
      | nil => rw [hf, sldF_nil'] at ih; rw [sldF_nil', ← (Prod.mk.inj ih).1]
      | cons a A =>
        rw [hf] at ih hA
        rw [sldF_lt (hA a (.head _)), dropWhile_ne h1, ih]
    | succ m =>
      rw [List.replicate_succ, List.cons_append, sldF_eq (by omega) (by omega), dropWhile_ne h1, dropWhile_rep m hA, ih, List.filter_cons]
      simp [hc]
theorem sld_back (c : Int → Nat) : ∀ (E : List Int), E.Pairwise (· < ·) → sldF (E.flatMap fun k => List.replicate (c k) k) E = ([], E.filter fun k => c k == 0)
  | [], _ => by simp [sldF_nil]
  | e :: E, h => by
    obtain ⟨h1, h2⟩ := List.pairwise_cons.mp h
    have ih := sld_back c E h2
    have hA : ∀ x ∈ E.flatMap fun k => List.replicate (c k) k, e < x := fun x hx => h1 x (mem_reps hx)
    rw [List.flatMap_cons]
    cases hc : c e with
    | zero =>
      simp only [List.replicate_zero, List.nil_append, List.filter_cons, hc, beq_self_eq_true, if_true]
      cases hf : E.flatMap fun k => List.replicate (c k) k with
      | nil => rw [hf, sldF_nil] at ih; rw [sldF_nil, ← (Prod.mk.inj ih).2]
      | cons a A =>
        rw [hf] at ih hA
        rw [sldF_gt (hA a (.head _)), dropWhile_ne h1, ih]
    | succ m =>
      rw [List.replicate_succ, List.cons_append, sldF_eq (by omega) (by omega), dropWhile_ne h1, dropWhile_rep m hA, ih, List.filter_cons]
      simp [hc]

noncomputable def someF (code : Int) : List Int := r5.filter fun k => ((code.fdiv (2 ^ k.toNat)).fmod 2) == 1
noncomputable def outF (adj : List (List Int)) (s : List Int) : List Int := r5.flatMap fun k => (s.filter fun j => (adjAt adj j).contains k).map fun _ => k
noncomputable def missF (adj : List (List Int)) (s : List Int) : List Int := r5.filter fun k => !(outF adj s).contains k
noncomputable def settledF (adj : List (List Int)) : List (List Int) := ((rngI 0 32).map someF).filter fun s => missF adj s == s

theorem outF_eq (adj : List (List Int)) (s : List Int) : outF adj s = r5.flatMap fun k => List.replicate (s.filter fun j => (adjAt adj j).contains k).length k := by
  unfold outF; congr 1; funext k; exact List.map_const' ..
theorem missF_eq (adj : List (List Int)) (s : List Int) : missF adj s = r5.filter fun k => (s.filter fun j => (adjAt adj j).contains k).length == 0 := by
  unfold missF
  refine List.filter_congr fun k hk => ?_
  have : (outF adj s).contains k = !((s.filter fun j => (adjAt adj j).contains k).length == 0) := by
    rw [Bool.eq_iff_iff]
    simp only [List.contains_iff_mem, outF, List.mem_flatMap, List.mem_map, Bool.not_eq_true', beq_eq_false_iff_ne, ne_eq, List.length_eq_zero_iff]
    constructor
    · rintro ⟨a, _, b, hb, rfl⟩ h; rw [h] at hb; cases hb
    · intro h
      obtain ⟨b, hb⟩ := List.exists_mem_of_ne_nil _ h
      exact ⟨k, hk, b, hb, rfl⟩
  rw [this, Bool.not_not]
theorem r5_lt : r5.Pairwise (· < ·) := by decide
theorem sld_out (adj : List (List Int)) (s : List Int) : sldF r5 (outF adj s) = (missF adj s, []) := by
  rw [outF_eq, missF_eq]; exact sld_every _ _ r5_lt
theorem sld_out' (adj : List (List Int)) (s : List Int) : sldF (outF adj s) r5 = ([], missF adj s) := by
  rw [outF_eq, missF_eq]; exact sld_back _ _ r5_lt

section
variable {g : G} {A : Around} {n : En} {E : Exn} {σ : St} {pos : Pos} {M : List Addr} {scope : Scope}
inductive Ints2I (g : G) (A : Around) (n : En) (M : List Addr) (x1 : Str) (ifs : List Expr) (elt : Expr) (loc1 : Str → Option AV) (H' : AH) (ks : List Int) (p : Int → Bool) (f : Int → Int) (v : AV) (σ₂ : St) : Prop
  | mk (l1 : Addr) (ao1 : AO) (hv : v = .ref l1) (e : σ₂.loc = loc1) (x : HExt M H' σ₂.H) (hl : σ₂.H l1 = some ao1) (hx : items ao1 = some (ks.map AV.int)) (hit : itFits ao1 = true) (off : l1 ∉ M)
    (turn : ∀ j H'', j ∈ ks → HExt M σ₂.H H'' → Its g A n NE ifs ⟨H'', upd loc1 x1 (.int j)⟩ (FTurnP g A n M elt (upd loc1 x1 (.int j)) H'' (p j) fun _ y => y = .int (f j)))
inductive Ints2P (g : G) (A : Around) (n : En) (M : List Addr) (x : Str) (i1 : Expr) (x1 : Str) (ifs : List Expr) (elt : Expr) (scope : Scope) (src2 : Int → List Int) (p : Int → Int → Bool) (f : Int → Int → Int) (N : Nat) (K : Addr → St → Prop) (v : AV) (σ₁ : St) : Prop
  | mk (l : Addr) (ao : AO) (src : List Int) (hv : v = .ref l) (hl : σ₁.H l = some ao) (hx : items ao = some (src.map AV.int)) (hit : itFits ao = true) (off : l ∉ M) (hN : ∀ k ∈ src, (src2 k).length ≤ N) (hlen : src.length * N ≤ 1000000)
    (turn : ∀ L cells k H', k ∈ src → HExt M σ₁.H H' → Ev g A (compEn n scope L cells) NE i1 ⟨H', upd (cloc scope σ₁.loc) x (.int k)⟩ (Ints2I g A (compEn n scope L cells) M x1 ifs elt (upd (cloc scope σ₁.loc) x (.int k)) H' (src2 k) (p k) (f k)))
    (fin : ∀ H' a, HExt M σ₁.H H' → H' a = none → K a ⟨upd H' a (.list ((src.flatMap fun k => ((src2 k).filter (p k)).map (f k)).map AV.int)), σ₁.loc⟩)
/-- two clauses over ints, the elements ints -/
theorem Comp2.ints {iter elt i1 : Expr} {x x1 : Str} {ifs : List Expr} {K : Addr → St → Prop} (src2 : Int → List Int) (p : Int → Int → Bool) (f : Int → Int → Int) (N : Nat)
    (h : Ev g A n NE iter σ (Ints2P g A n M x i1 x1 ifs elt scope src2 p f N K)) :
    Comp2 g A n σ iter x i1 x1 ifs elt scope K := by
  refine Ev.mono h fun v σ₁ h₁ => ?_
  obtain ⟨l, ao, src, hv, hl, hi, hfit, hlM, hN, hlen, hturn, hend⟩ := h₁
  have bnd : ∀ i, i ≤ src.length → ((src.take i).flatMap fun k => ((src2 k).filter (p k)).map (f k)).length ≤ i * N := by
    intro i
    induction i with
    | zero => simp
    | succ i ih =>
      intro hi
      have hlt : i < src.length := by omega
      rw [List.take_succ, List.getElem?_eq_getElem hlt, List.flatMap_append, List.length_append]
      have h1 := ih (by (with_reducible exact Nat.le_of_lt (by assumption)))
      have h2 : (((src2 src[i]).filter (p src[i])).map (f src[i])).length ≤ N := by
        rw [List.length_map]; exact Nat.le_trans (List.length_filter_le ..) (hN _ (List.getElem_mem hlt))
      simp only [Option.toList_some, List.flatMap_cons, List.flatMap_nil, List.append_nil, Nat.add_mul, Nat.one_mul]
      omega
  refine ⟨l, ao, _, hv, hl, hi, hfit, fun i ys H' => C3 (HExt M σ₁.H H') (ys = ((src.take i).flatMap fun k => ((src2 k).filter (p k)).map (f k)).map AV.int) (i ≤ src.length), ⟨HExt.refl _ _, rfl, Nat.zero_le _⟩, ?_, ?_, ?_⟩
  · rintro i ys H' ⟨h1, h2, h3⟩
    exact h1 l _ hlM hl
  · rintro L cells i a ys H' hia ⟨h1, rfl, h3⟩
    obtain ⟨k, hk, rfl⟩ := map_get hia
    have hlt := (List.getElem?_eq_some_iff.mp hk).1
    have hkm := List.mem_of_getElem? hk
    unfold Inner
    refine Ev.mono (hturn L cells k H' hkm h1) fun v σ₂ h₂ => ?_
    obtain ⟨l1, ao1, hv1, hloc, hE, hl1, hit1, hfit1, hM1, hin⟩ := h₂
    refine ⟨hloc, l1, ao1, _, hv1, hl1, hit1, hfit1, fun j ys H'' => C3 (HExt M σ₂.H H'') (ys = (((src.take i).flatMap fun k => ((src2 k).filter (p k)).map (f k)) ++ (((src2 k).take j).filter (p k)).map (f k)).map AV.int) (j ≤ (src2 k).length), ⟨HExt.refl _ _, by simp, Nat.zero_le _⟩, ?_, ?_, ?_⟩
    · rintro j ys H'' ⟨q1, rfl, q3⟩
      refine ⟨q1 _ _ hM1 hl1, ?_⟩
      have b1 := bnd i h3
      have b2 : ((((src2 k).take j).filter (p k)).map (f k)).length ≤ N := by
        rw [List.length_map]
        refine Nat.le_trans (List.length_filter_le ..) (Nat.le_trans ?_ (hN k hkm))
        exact List.length_take_le' ..
      have b3 : (i + 1) * N ≤ src.length * N := Nat.mul_le_mul_right _ hlt
      rw [Nat.add_mul, Nat.one_mul] at b3
      rw [List.length_map, List.length_append]
      omega
    · rintro j a ys H'' hja ⟨q1, rfl, q3⟩
      obtain ⟨j', hj', rfl⟩ := map_get hja
      have hjm := List.mem_of_getElem? hj'
      have hjlt := (List.getElem?_eq_some_iff.mp hj').1
      refine Ok.mono (hin j' H'' hjm q1) fun c σ₃ h₃ => ?_
      obtain ⟨e1, e2, e3, e4⟩ := h₃
      refine ⟨e1, ?_⟩
      have hstep : (((src2 k).take (j + 1)).filter (p k)).map (f k) = (((src2 k).take j).filter (p k)).map (f k) ++ (if p k j' then [f k j'] else []) := by
        rw [take_succ_get hj', List.filter_append, List.map_append]
        simp only [List.filter_cons, List.filter_nil]
        split <;> simp
      cases c with
      | true =>
        refine Ev.mono (e4 rfl) fun y σ₄ h₄ => ?_
        obtain ⟨f1, f2, rfl⟩ := h₄
        refine ⟨f1, q1.trans (e2.trans f2), ?_, hjlt⟩
        rw [hstep, ← e3]; simp
      | false =>
        refine ⟨q1.trans e2, ?_, hjlt⟩
        rw [hstep, ← e3]; simp
    · rintro ys H'' ⟨q1, rfl, q3⟩
      refine ⟨h1.trans (hE.trans q1), ?_, hlt⟩
      rw [take_succ_get hk, List.flatMap_append, List.length_map, take_len]
      simp
  · rintro ys H' ⟨h1, rfl, h3⟩ a ha
    rw [List.length_map, take_len]
    exact hend H' a h1 ha
end
end Mine
end

section
open PySem PySem.W PyProof.Rows PySem.Spec PySem.Calls
set_option Elab.async false
set_option maxRecDepth 100000
set_option linter.unusedVariables false
namespace Mine
noncomputable def fdSettled : { fd : FuncData // ∀ P, (hd.heap_39 P).lookup 211 = some ⟨.type "function", none, .func fd, #[]⟩ } := ⟨_, fun _ => rfl⟩

theorem someF_form (c : Int) : ∃ p, someF c = r5.filter p := ⟨_, rfl⟩

theorem NoEx.upd {H : AH} {a : Addr} {o : AO} (h : NoEx H) (ho : notEx o) : NoEx (upd H a o) := fun b ob hb => by
  unfold Mine.upd at hb
  split at hb
  · cases hb; exact ho
  · exact h b ob hb

theorem settled_ok (g : G) (adj : List (List Int)) (hadj : adj.length = 5) (H : AH) (v : AV) (hv : IsLL [] H v adj) (hx : NoEx H) :
    FnOk g 4 211 [v] H fun r H' => HExt [] H H' ∧ IsLL [] H' r (settledF adj) := by
  refine FnOk.of_body (abinds := [(Str.ofString "arrows", v)]) (fdSettled.2 _) rfl rfl rfl rfl ?_ rfl ?_
  · intro cargs hc
    obtain ⟨a, rfl, e1⟩ := one_arg hc
    exact ⟨[(Str.ofString "arrows", a)], rfl, by simp [e1]⟩
  intro A L outer room fr
  have hu := room.units
  have hadjL : (adj.length : Int) = 5 := by (with_reducible exact int_eqn5 (by assumption))
  (repeat walk_at "m1")
  refine ⟨by (exact Nat.le_of_ble_eq_true rfl), fun aE haE => ?_⟩
  (repeat walk_at "m1")
  refine ⟨by (exact Nat.le_of_ble_eq_true rfl), fun aS haS => ?_⟩
  dsimp only at haE haS ⊢
  walk_at "m1"
  refine Ex.for ?_ room.h PassE.never
  refine Ev.callT rfl rfl ?_
  (repeat walk_at "m1")
  refine Call.range1 fun l hl => ?_
  dsimp only at hl ⊢
  have x0 : HExt [] H (upd (upd (upd H aE (.list [.int 0, .int 1, .int 2, .int 3, .int 4])) aS (.list [])) l (.range 0 32)) := ((HExt.new haE).new' haS).new' hl
  have nES : aE ≠ aS := fun q => by rw [q] at haS; simp at haS
  have nlS : l ≠ aS := fun q => by rw [q] at hl; simp at hl
  have nlE : l ≠ aE := fun q => by rw [q, upd_ne nES] at hl; simp at hl
  have b1 : upd (upd (upd H aE (.list [.int 0, .int 1, .int 2, .int 3, .int 4])) aS (.list [])) l (.range 0 32) l = some (.range 0 32) := upd_same ..
  have b2 : upd (upd (upd H aE (.list [.int 0, .int 1, .int 2, .int 3, .int 4])) aS (.list [])) l (.range 0 32) aE = some (.list (r5.map .int)) := by rw [upd_ne (Ne.symm nlE), upd_ne nES, upd_same]; rfl
  have b3 : upd (upd (upd H aE (.list [.int 0, .int 1, .int 2, .int 3, .int 4])) aS (.list [])) l (.range 0 32) aS = some (.list []) := by rw [upd_ne (Ne.symm nlS), upd_same]
  have b4 : NoEx (upd (upd (upd H aE (.list [.int 0, .int 1, .int 2, .int 3, .int 4])) aS (.list [])) l (.range 0 32)) := ((NoEx.upd (o := .list [.int 0, .int 1, .int 2, .int 3, .int 4]) hx trivial).upd (o := .list []) trivial).upd (o := .range 0 32) trivial
  have nv : ∀ a o, H a = some o → a ∉ [aS] := fun a o ha q => by
    simp only [List.mem_cons, List.not_mem_nil, or_false] at q
    rw [q] at ha
    rw [upd_ne (fun q => nES q.symm), ha] at haS; cases haS
  generalize upd (upd (upd H aE (.list [.int 0, .int 1, .int 2, .int 3, .int 4])) aS (.list [])) l (.range 0 32) = H1 at x0 b1 b2 b3 b4 ⊢
  have hv1 : IsLL [aS] H1 v adj := by
    obtain ⟨c, cs, c1, c2, c3, c4⟩ := hv
    exact ⟨c, cs, c1, nv _ _ c3, x0 _ _ (by (exact nm0)) c3, c4.mono fun w ns q => by obtain ⟨d, d1, d2, d3⟩ := q; exact ⟨d, d1, nv _ _ d3, x0 _ _ (by (exact nm0)) d3⟩⟩
  refine ⟨l, _, _, rfl, b1, rfl, rfl, fun i σ => ∃ vs, C8 (i ≤ 32) (σ.loc (Str.ofString "arrows") = some v) (σ.loc (Str.ofString "every") = some (.ref aE)) (σ.loc (Str.ofString "settled") = some (.ref aS)) (HExt [aS] H1 σ.H) (σ.H aS = some (.list vs)) (All2 (IsI [aS] σ.H) vs ((((rngI 0 32).take i).map someF).filter fun s => missF adj s == s)) (NoEx σ.H), ?_, ?_, ?_, ?_⟩
  · exact ⟨[], by (exact Nat.zero_le _), rfl, rfl, rfl, HExt.refl _ _, b3, .nil, b4⟩
  · rintro i σ ⟨_, _, _, _, _, h, _⟩
    exact h _ _ (by simpa using nlS) b1
  · rintro i a ⟨Hi, loc⟩ hi ⟨vs, hi5, l1, l2, l3, hE, hS, hA, hN⟩
    dsimp only at l1 l2 l3 hS hA hN hE
    obtain ⟨code, hcode, rfl⟩ := map_get hi
    have hc32 : 0 ≤ code ∧ code < 32 := by
      have := List.mem_of_getElem? hcode
      simp only [rngI, List.mem_map, List.mem_range] at this
      obtain ⟨q, hq, rfl⟩ := this
      omega
    have hEv : Hi aE = some (.list (r5.map .int)) := hE aE _ (by simpa using nES) b2
    walk_at "m1"
    walk_at "m1"
    refine Ev.comp1 ?_ room.h
    refine Comp1.ints (M := []) (fun k => ((code.fdiv (2 ^ k.toNat)).fmod 2) == 1) (fun k => k) ?_
    refine Ev.name l2 ⟨aE, _, r5, rfl, hEv, rfl, rfl, by (exact nm0), by simp [r5], ?_, ?_⟩
    · rintro L cells k H' hk hE'
      have hk5 := mem_r5 hk
      (repeat walk_at "m1")
      refine Bin.pow (by omega) ?_ ?_
      · have : (Builtin.Int.intBits 2 : Int) = 2 := by decide
        rw [this]; omega
      have hp : (2 : Int) ^ k.toNat ≠ 0 ∧ ((2 : Int) ^ k.toNat).natAbs < 1073741824 := by
        simp only [r5, List.mem_cons, List.not_mem_nil, or_false] at hk
        rcases hk with rfl | rfl | rfl | rfl | rfl <;> decide
      refine Bin.floordiv hp.1 (PyProof.noPylong_small hp.2) ?_
      (repeat walk_at "m1")
      refine Bin.mod (by decide) ?_
      (repeat walk_at "m1")
      refine ⟨_, rfl, rfl, HExt.refl _ _, rfl, fun _ => ?_⟩
      (repeat walk_at "m1")
      exact ⟨rfl, HExt.refl _ _, rfl⟩
    rintro H2 aB hE2 haB
    have hsB : ((r5.filter fun k => ((code.fdiv (2 ^ k.toNat)).fmod 2) == 1).map fun k => k) = someF code := by simp [someF]
    rw [hsB]
    dsimp only at hE2 haB ⊢
    have e1 : HExt [] Hi (upd H2 aB (.list ((someF code).map .int))) := hE2.new' haB
    have e2 : upd H2 aB (.list ((someF code).map .int)) aB = some (.list ((someF code).map .int)) := upd_same ..
    generalize upd H2 aB (.list ((someF code).map .int)) = H3 at e1 e2 ⊢
    have hs5 : ∀ j ∈ someF code, 0 ≤ j ∧ j < 5 := fun j hj => sub_r5 hj
    have hsl : (someF code).length ≤ 5 := len_r5 _
    have nBS : aB ∉ [aS] := fun q => by
      simp only [List.mem_cons, List.not_mem_nil, or_false] at q
      rw [q, hE2 aS _ (by (exact nm0)) hS] at haB; cases haB
    generalize hsF : someF code = sF at e2 hs5 hsl ⊢
    walk_at "m1"
    walk_at "m1"
    refine Ev.comp2 ?_ room.h (by simp (decide := true) [compBound, upd, cloc, l1])
    refine Comp2.ints (M := []) (fun _ => sF) (fun k j => (adjAt adj j).contains k) (fun k _ => k) 5 ?_
    refine Ev.name l2 ⟨aE, _, r5, rfl, e1 _ _ (by (exact nm0)) hEv, rfl, rfl, by (exact nm0), fun _ _ => hsl, by simp [r5], ?_, ?_⟩
    · rintro L cells k H' hk hE'
      have hk5 := mem_r5 hk
      refine Ev.name rfl ⟨aB, _, rfl, rfl, HExt.refl _ _, hE' _ _ (by (exact nm0)) e2, rfl, rfl, by (exact nm0), ?_⟩
      rintro j H'' hj hE''
      obtain ⟨j0, j5⟩ := hs5 j hj
      (repeat walk_at "m1")
      refine Ev.name l1 ?_
      (repeat walk_at "m1")
      refine ((hv1.ext hE).ext ((e1.trans (hE'.trans hE'')).mono (by (exact nsub)))).at (σ := ⟨H'', _⟩) j0 (by rw [hadjL]; exact j5) (by (with_reducible exact le_of_eqn (by assumption) (by decide))) fun u hu' => ?_
      refine hu'.in_ ⟨_, rfl, rfl, HExt.refl _ _, rfl, fun _ => ?_⟩
      (repeat walk_at "m1")
      exact ⟨rfl, HExt.refl _ _, rfl⟩
    rintro H4 aO hE4 haO
    have hO : (r5.flatMap fun k => (sF.filter ((fun k j => (adjAt adj j).contains k) k)).map ((fun k _ => k) k)) = outF adj sF := rfl
    rw [hO]
    dsimp only at hE4 haO ⊢
    have f1 : HExt [] Hi (upd H4 aO (.list ((outF adj sF).map .int))) := (e1.trans hE4).new' haO
    have f2 : upd H4 aO (.list ((outF adj sF).map .int)) aO = some (.list ((outF adj sF).map .int)) := upd_same ..
    have f3 : upd H4 aO (.list ((outF adj sF).map .int)) aB = some (.list (sF.map .int)) := ((HExt.refl [] H3).trans hE4).new' haO _ _ (by (exact nm0)) e2
    have nOS : aO ∉ [aS] := fun q => by
      simp only [List.mem_cons, List.not_mem_nil, or_false] at q
      rw [q, (e1.trans hE4) aS _ (by (exact nm0)) hS] at haO; cases haO
    generalize upd H4 aO (.list ((outF adj sF).map .int)) = H5 at f1 f2 f3 ⊢
    refine Exs.forget ?_
    try dsimp only
    have g1 : HExt [] Hi (clean H5) := f1.exSame hN (ExSame.clean _)
    have g2 : clean H5 aO = some (.list ((outF adj sF).map .int)) := ExSame.clean _ _ _ trivial f2
    have g3 : clean H5 aB = some (.list (sF.map .int)) := ExSame.clean _ _ _ trivial f3
    have g4 : NoEx (clean H5) := NoEx.clean _
    generalize clean H5 = H6 at g1 g2 g3 g4 ⊢
    have hlO : (outF adj sF).length ≤ 1000 := by
      rw [outF_eq]
      have : ∀ k, (sF.filter fun j => (adjAt adj j).contains k).length ≤ 5 := fun k => Nat.le_trans (List.length_filter_le ..) hsl
      have h0 := this 0
      have h1 := this 1
      have h2 := this 2
      have h3 := this 3
      have h4 := this 4
      simp only [r5, List.flatMap_cons, List.flatMap_nil, List.length_append, List.length_replicate, List.length_nil]
      exact Nat.le_trans (Nat.add_le_add h0 (Nat.add_le_add h1 (Nat.add_le_add h2 (Nat.add_le_add h3 (Nat.add_le_add_right h4 0))))) (by decide)
    have gE : IsI [] H6 (.ref aE) r5 := ⟨aE, rfl, by (exact nm0), g1 _ _ (by (exact nm0)) hEv⟩
    have gO : IsI [] H6 (.ref aO) (outF adj sF) := ⟨aO, rfl, by (exact nm0), g2⟩
    walk_at "m1"
    refine Ex.assignT1 (Ev.callDef rfl (fdSld.2 _) (room.mono (by decide : 2 ≤ 3)) fr ?_)
    (repeat walk_at "m1")
    refine Ev.name l2 ?_
    (repeat walk_at "m1")
    refine ⟨_, sld_ok g _ _ _ _ _ gE gO g4 (by simp [r5]) hlO, ?_⟩
    rintro _ H7 ⟨k1, t, am, au, rfl, k2, k3, k4⟩
    refine Asg.tup2 k2 room.h (Asg.name (Asg.name ?_))
    rw [sld_out] at k3 k4
    dsimp only at k3 k4 ⊢
    have x7 : HExt [] Hi H7 := g1.trans k1
    walk_at "m1"
    walk_at "m1"
    walk_at "m1"
    refine Tst.compare (Ev.name rfl ?_)
    (repeat walk_at "m1")
    refine ⟨by (exact Nat.le_of_ble_eq_true rfl), fun e he => ?_⟩
    dsimp only at he ⊢
    have xe := HExt.new (M := []) (o := .list []) he
    refine (k4.ext xe).ne (IsI.nil (upd_same ..) (by (exact nm0))) (by (with_reducible exact units20 (by assumption))) ⟨_, rfl, ?_⟩
    show Tst _ _ _ _ _ _ _
    have k3' := k3.ext xe
    have k4' := k4.ext xe
    have x8 := x7.trans xe
    have k2' := xe _ _ (by (exact nm0)) k2
    have kO := (gO.ext k1).ext xe
    have kB := xe _ _ (by (exact nm0)) (k1 _ _ (by (exact nm0)) g3)
    have kE := (gE.ext k1).ext xe
    generalize upd H7 e (.list []) = H8 at k3' k4' x8 k2' kO kB kE ⊢
    walk_at "m1"
    refine Tst.compare (Ev.name rfl (Ev.comp1 ?_ room.h))
    refine Comp1.ints (M := []) (fun k => !(outF adj sF).contains k) (fun k => k) (Ev.name l2 ?_)
    obtain ⟨_, q, _, kE3⟩ := id kE
    cases q
    refine ⟨aE, _, r5, rfl, kE3, rfl, rfl, by (exact nm0), by simp [r5], ?_, ?_⟩
    · rintro L cells k H' hk hE'
      (repeat walk_at "m1")
      refine (kO.ext hE').notIn ⟨_, rfl, rfl, HExt.refl _ _, rfl, fun _ => ?_⟩
      (repeat walk_at "m1")
      exact ⟨rfl, HExt.refl _ _, rfl⟩
    rintro H9 aC hE9 haC
    dsimp only at hE9 haC ⊢
    have xc := HExt.new (M := []) (o := .list (((r5.filter fun k => !(outF adj sF).contains k).map fun k => k).map AV.int)) haC
    refine ((k3'.ext hE9).ext xc).ne (ys := missF adj sF) ⟨aC, rfl, by (exact nm0), by show upd _ _ _ _ = _; rw [upd_same]; simp [missF]⟩ (by (with_reducible exact units20 (by assumption))) ⟨_, rfl, ?_⟩
    have x9 := (x8.trans hE9).trans xc
    have m3 := (k3'.ext hE9).ext xc
    have mO := (kO.ext hE9).ext xc
    have mE := (kE.ext hE9).ext xc
    have mB := xc _ _ (by (exact nm0)) (hE9 _ _ (by (exact nm0)) kB)
    generalize upd H9 aC _ = H10 at x9 m3 mO mE mB ⊢
    have hbt : (!(missF adj sF == missF adj sF)) = false := by simp
    rw [hbt]
    show Tst _ _ _ _ _ _ _
    walk_at "m1"
    show Exs _ _ _ _ _ _ _
    (repeat walk_at "m1")
    -- the other way round
    refine Ev.forget ?_
    try dsimp only
    have x10 : HExt [] Hi (clean H10) := x9.exSame hN (ExSame.clean _)
    have n3 := m3.exSame (ExSame.clean _)
    have nO := mO.exSame (ExSame.clean _)
    have nE := mE.exSame (ExSame.clean _)
    have nB : clean H10 aB = some (.list (sF.map .int)) := ExSame.clean _ _ _ trivial mB
    have n10 := NoEx.clean H10
    generalize clean H10 = H11 at x10 n3 nO nE nB n10 ⊢
    refine Ev.callDef rfl (fdSld.2 _) (room.mono (by decide : 2 ≤ 3)) fr ?_
    (repeat walk_at "m1")
    refine Ev.name l2 ?_
    (repeat walk_at "m1")
    refine ⟨_, sld_ok g _ _ _ _ _ nO nE n10 hlO (by simp [r5]), ?_⟩
    rintro _ H12 ⟨p1, t', am', au', rfl, p2, p3, p4⟩
    rw [sld_out'] at p3 p4
    dsimp only at p3 p4 ⊢
    (repeat walk_at "m1")
    refine ⟨by (exact Nat.le_of_ble_eq_true rfl), fun e2 he2 => ?_⟩
    (repeat walk_at "m1")
    refine ⟨by (exact Nat.le_of_ble_eq_true rfl), fun e3 he3 => ?_⟩
    dsimp only at he2 he3 ⊢
    have y1 := HExt.new (M := []) (o := .list []) he2
    have y2 := HExt.new (M := []) (o := .tup [.ref e2, .ref am]) he3
    have y := y1.trans y2
    have r1 : ARd (upd (upd H12 e2 (.list [])) e3 (.tup [.ref e2, .ref am])) (.ref t') (.tuple [dI [], dI (missF adj sF)]) := .tup (y _ _ (by (exact nm0)) p2) (.cons (p3.ext y).rd (.cons (p4.ext y).rd .nil))
    have r2 : ARd (upd (upd H12 e2 (.list [])) e3 (.tup [.ref e2, .ref am])) (.ref e3) (.tuple [dI [], dI (missF adj sF)]) := .tup (upd_same ..) (.cons (IsI.rd (M := []) (IsI.nil (y2 _ _ (by (exact nm0)) (upd_same ..)) (by (exact nm0)))) (.cons ((n3.ext p1).ext y).rd .nil))
    have lay : (PyData.tuple [dI [], dI (missF adj sF)]).canLay0 = true := by
      show PyData.canLayAll0 [dI [], dI (missF adj sF)] = true
      simp [PyData.canLayAll0, dI_lay]
    refine Cmp.neDeep r1 r2 lay lay ?_ (by (with_reducible exact units20 (by assumption))) ⟨_, rfl, ?_⟩
    · show PyData.depth (.tuple [dI [], dI (missF adj sF)]) ≤ 20
      simp [PyData.depth, PyData.depthAll, dI, depth_ints]
    have heq : PyData.eqv (.tuple [dI [], dI (missF adj sF)]) (.tuple [dI [], dI (missF adj sF)]) = true := by
      show PyData.eqvAll [dI [], dI (missF adj sF)] [dI [], dI (missF adj sF)] = true
      simp [PyData.eqvAll, dI_eqv]
    rw [heq]
    show Exs _ _ _ _ _ _ _
    (repeat walk_at "m1")
    have z3 := (n3.ext p1).ext y
    have zB := y _ _ (by (exact nm0)) (p1 _ _ (by (exact nm0)) nB)
    have zx : HExt [] Hi (upd (upd H12 e2 (.list [])) e3 (.tup [.ref e2, .ref am])) := (x10.trans p1).trans y
    generalize upd (upd H12 e2 (.list [])) e3 (.tup [.ref e2, .ref am]) = H13 at z3 zB zx ⊢
    refine z3.eq (ys := sF) ⟨aB, rfl, by (exact nm0), zB⟩ (by (with_reducible exact units20 (by assumption))) ⟨_, rfl, ?_⟩
    have zS := zx _ _ (by (exact nm0)) hS
    have hstep : (((rngI 0 32).take (i + 1)).map someF).filter (fun s => missF adj s == s) = (((rngI 0 32).take i).map someF).filter (fun s => missF adj s == s) ++ (if missF adj sF == sF then [sF] else []) := by
      rw [take_succ_get hcode, List.map_append, List.filter_append]
      simp only [List.map_cons, List.map_nil, List.filter_cons, List.filter_nil, hsF]
    have hi6 : i + 1 ≤ 32 := by have := (List.getElem?_eq_some_iff.mp hcode).1; rw [rngI_length] at this; exact this
    cases hc : (missF adj sF == sF) with
    | false =>
      show Exs _ _ _ _ _ _ _
      walk_at "m1"
      refine Exs.forget ?_
      (repeat walk_at "m1")
      rw [hc] at hstep
      refine ⟨vs, hi6, l1, l2, l3, (hE.trans (zx.mono (by (exact nsub)))).exSame b4 (ExSame.clean _), ExSame.clean _ _ _ trivial zS, ?_, NoEx.clean _⟩
      rw [hstep, if_neg (by decide), List.append_nil]
      exact hA.mono fun _ _ q => (q.ext (zx.mono (by (exact nsub)))).exSame (ExSame.clean _)
    | true =>
      show Exs _ _ _ _ _ _ _
      walk_at "m1"
      walk_at "m1"
      refine Ev.method (Ev.name l3 ⟨"list", "list.append", meth_append, listType zS, ?_⟩)
      (repeat walk_at "m1")
      have hlv : vs.length ≤ 32 := by
        rw [hA.length]
        refine Nat.le_trans (List.length_filter_le ..) ?_
        rw [List.length_map]
        exact Nat.le_trans (List.length_take_le' ..) (by simp [rngI_length])
      refine Call.append zS (by (with_reducible exact Nat.le_trans (by assumption) (by decide))) ?_
      walk_at "m1"
      refine Exs.forget ?_
      (repeat walk_at "m1")
      rw [hc] at hstep
      have hset : HExt [aS] H13 (upd H13 aS (.list (vs ++ [.ref aB]))) := HExt.set (by simp)
      refine ⟨vs ++ [.ref aB], hi6, l1, l2, l3, ((hE.trans (zx.mono (by (exact nsub)))).trans hset).exSame b4 (ExSame.clean _), ExSame.clean _ _ _ trivial (upd_same ..), ?_, NoEx.clean _⟩
      rw [hstep]
      refine All2.append (hA.mono fun _ _ q => ((q.ext (zx.mono (by (exact nsub)))).ext hset).exSame (ExSame.clean _)) (.cons ⟨aB, rfl, nBS, ExSame.clean _ _ _ trivial ?_⟩ .nil)
      show upd _ _ _ _ = _
      rw [upd_ne (fun q => nBS (by simp [q]))]; exact zB
  · rintro ⟨Hi, loc⟩ ⟨vs, _, l1, l2, l3, hE, hS, hA, hN⟩
    dsimp only at l1 l2 l3 hE hS hA hN
    walk_at "m1"
    walk_at "m1"
    refine Ev.name l3 ?_
    refine ⟨fun a o _ ha => hE a o (nv a o ha) (x0 a o (by (exact nm0)) ha), aS, vs, rfl, by (exact nm0), hS, ?_⟩
    exact hA.mono fun _ _ q => q.mono (by (exact nsub))
end Mine
end

section
open PySem PySem.W PyProof.Rows PySem.Spec PySem.Calls
set_option Elab.async false
set_option maxRecDepth 100000
set_option linter.unusedVariables false
namespace Mine

/-! one object changed, by the library's ledger of all objects -/
noncomputable def others (h : Heap) (a L : Addr) : List (Addr × Obj) := (List.range h.objs.size).filterMap fun b => if b = a ∨ b = L then none else (h.get? b).map fun o => (b, o)
theorem mem_others {h : Heap} {a L b : Addr} {o : Obj} (hb : h.get? b = some o) (h1 : b ≠ a) (h2 : b ≠ L) : (b, o) ∈ others h a L := by
  refine List.mem_filterMap.mpr ⟨b, List.mem_range.mpr (Heap.lt_size hb), ?_⟩
  rw [if_neg (by simp [h1, h2]), hb]; rfl
theorem others_spec {h : Heap} {a L : Addr} {p : Addr × Obj} (hp : p ∈ others h a L) : h.get? p.1 = some p.2 ∧ p.1 ≠ a ∧ p.1 ≠ L := by
  obtain ⟨b, _, hb⟩ := List.mem_filterMap.mp hp
  split at hb
  · cases hb
  · rename_i q
    simp only [not_or] at q
    obtain ⟨o, ho, rfl⟩ := Option.map_eq_some_iff.mp hb
    exact ⟨ho, q.1, q.2⟩
theorem empty_get (b : Addr) : Heap.get? {} b = none := rfl
theorem news_all {h : Heap} {a L : Addr} {o : Obj} (ha : h.get? a = some o) (hal : a ≠ L) : News {} L h ([] ++ (a, o) :: others h a L) := fun p hp => by
  rcases List.mem_cons.mp hp with rfl | hp
  · exact ⟨ha, hal, rfl⟩
  · obtain ⟨h1, h2, h3⟩ := others_spec hp
    exact ⟨h1, h3, rfl⟩
theorem fr_all {h : Heap} {L : Addr} {m : Str → Option Value} (hn : h.Ns L m) : Fr {} L h m := ⟨hn, fun b o e => (by rw [empty_get] at e; cases e), Nat.zero_le _⟩
theorem others_kept {h h' : Heap} {a L : Addr} {co : Obj} (N : News {} L h' ([] ++ (a, co) :: others h a L)) {b : Addr} {o : Obj} (h1 : b ≠ a) (h2 : b ≠ L) (hb : h.get? b = some o) : h'.get? b = some o :=
  (N (b, o) (.tail _ (mem_others hb h1 h2))).1

section
variable {g : G} {A : Around} {n : En} {E : Exn} {σ : St} {Z : Fz} {s : Shared}
theorem Rel.set2 {a : Addr} {ao ao' : AO} {co : Obj} {h' : Heap} {t : Nat} {m : Str → Option Value} (r : Rel g Z n σ s) (h0 : σ.H a = some ao) (hm : h'.Ns n.env.locals m)
    (hm0 : ∀ x v, σ.loc x = some v → n.env.kindOf x = some .local → ∃ cv, m x = some cv ∧ er cv = v) (e : ∀ b o, b ≠ a → b ≠ n.env.locals → s.heap.get? b = some o → h'.get? b = some o)
    (ha : h'.get? a = some co) (hr : ORel ao' co) (hk : (∃ c t x, ao = .exc c t x) → ∃ c t x, ao' = .exc c t x := by exact fun q => exc_of q rfl) : Rel g Z n ⟨upd σ.H a ao', σ.loc⟩ { s with heap := h', toks := t } := by
  obtain ⟨z1, z2, co0, z3, _⟩ := r.hr.objs a ao h0
  obtain ⟨⟨h1, h2, h3, h4, h5⟩, ⟨v1, ⟨o1, o2, o3⟩, v3, v4, v5⟩, rfr⟩ := r
  refine ⟨⟨h1, h2, fun b o hb => e b o ?_ ?_ (h3 b o hb), h4.ext fun b o hb hz => e b o ?_ ?_ hb, fun b o hbo => ?_⟩, ⟨⟨m, hm, hm0⟩, ⟨o1, ?_, o3⟩, fun x hx => ?_, v4, v5⟩, rfr⟩
  · rintro rfl; rw [z2.1] at hb; cases hb
  · rintro rfl; rw [o3] at hb; cases hb
  · rintro rfl; rw [z1] at hz; cases hz
  · rintro rfl; rw [o1] at hz; cases hz
  · change upd σ.H a ao' b = some o at hbo
    unfold upd at hbo
    split at hbo
    · rename_i q; subst q; cases hbo; exact ⟨z1, ⟨z2.1, z2.2.imp id hk⟩, co, ha, hr⟩
    · rename_i q
      obtain ⟨y1, y2, y3, y4, y5⟩ := h5 b o hbo
      exact ⟨y1, y2, y3, e _ _ q (fun q => by rw [q, o2] at hbo; cases hbo) y4, y5⟩
  · show upd σ.H a ao' n.env.locals = none
    rw [upd_ne]; exact o2
    rintro q; rw [q, h0] at o2; cases o2
  · obtain ⟨c, v₀, c1, c2, c3, c4, c5, ⟨oc, c6, c6'⟩, c7⟩ := v3 x hx
    have hca : c ≠ a := fun q => by rw [q, h0] at c3; cases c3
    exact ⟨c, v₀, c1, c2, by show upd σ.H a ao' c = none; rw [upd_ne hca]; exact c3, c4, c5, ⟨oc, e _ _ hca c5 c6, c6'⟩, c7⟩
theorem Rel.apartL {a : Addr} {ao : AO} (r : Rel g Z n σ s) (h0 : σ.H a = some ao) : a ≠ n.env.locals := fun q => by have := r.vars.own.2.1; rw [← q, h0] at this; cases this

/-! attributes -/
noncomputable def Gat (g : G) (A : Around) (n : En) (E : Exn) (v : AV) (name : Str) (σ : St) (Q : AV → St → Prop) : Prop := ∀ cv, er cv = v → OkV g A n E (getAttr cv name true) σ Q
noncomputable def Sat (g : G) (A : Around) (n : En) (E : Exn) (v : AV) (name : Str) (x : AV) (σ : St) (Q : St → Prop) : Prop := ∀ cv cx, er cv = v → er cx = x → Ok g A n E (setAttr cv name cx) σ fun _ σ' => Q σ'
/-- the method of a value: what is called, and the arguments ahead -/
noncomputable def Mth (g : G) (A : Around) (n : En) (E : Exn) (v : AV) (name : Str) (σ : St) (Q : Value → List AV → St → Prop) : Prop := ∀ cv pl, er cv = v → Ok g A n E (getMethod cv name pl) σ fun p σ' => Q p.1 (p.2.map er) σ'

theorem Ok.letTemp {base : Expr} {o r : Value} {Q : Unit → St → Prop} (h : Q () σ) : Ok g A n E (letTemporaryGo base o r) σ Q := by
  unfold letTemporaryGo
  split
  · exact Ok.pure h
  · exact Ok.bind (Ok.holding (Ok.letGo (Ok.pure h)))
  · exact Ok.pure h
abbrev QAttr (g : G) (A : Around) (n : En) (E : Exn) (attr : Str) (Q : AV → St → Prop) : AV → St → Prop := fun v σ₁ => Gat g A n E v attr σ₁ Q
abbrev QSat (g : G) (A : Around) (n : En) (E : Exn) (attr : Str) (x : AV) (Q : St → Prop) : AV → St → Prop := fun v σ₁ => Sat g A n E v attr x σ₁ Q
theorem Ev.attr {value : Expr} {attr : Str} {pos : Pos} {Q : AV → St → Prop} (h : Ev g A n E value σ (QAttr g A n E attr Q)) (hb : attributeBase value attr n.env (eval value n.env) = eval value n.env := by rfl) :
    Ev g A n E (.Attribute value attr pos) σ Q := by
  refine Ok.eq (arm_eval_Attribute _ _ _ _) ?_
  rw [hb]
  exact Ok.bind (Ok.mono h fun v σ₁ h₁ => Ok.bind (Ok.standAt (Ok.bind (Ok.holding (Ok.mono (h₁ v rfl) fun r σ₂ h₂ => Ok.bind (Ok.letTemp (Ok.pure h₂)))))))
theorem Asg.attr {o : Expr} {attr : Str} {pos : Pos} {x : AV} {Q : St → Prop} (h : Ev g A n E o σ (QSat g A n E attr x Q)) : Asg g A n E (.Attribute o attr pos) x σ Q := fun cv e => by
  refine Ok.eq (arm_assign_Attribute _ _ _ _ _) ?_
  exact Ok.bind (Ok.holding (Ok.mono h fun v σ₁ h₁ => Ok.bind (Ok.standAt (Ok.bind (Ok.holding (Ok.mono (h₁ v cv rfl e) fun _ σ₂ h₂ => Ok.release h₂))))))
theorem Ex.augAttr {o value : Expr} {attr : Str} {tpos pos : Pos} {op : Operator} {Q : AFl → St → Prop}
    (h : Ev g A n E o σ fun v σ₁ => Gat g A n E v attr σ₁ fun old σ₂ => Ev g A n E value σ₂ fun b σ₃ => Inp g A n E op old b σ₃ fun c σ₄ => Sat g A n E v attr c σ₄ (Q .next)) : Ex g A n E (.AugAssign (.Attribute o attr tpos) op value pos) σ Q := fun Z s r => by
  refine wpAny_AugAssign_AttributeAny (wpAny_mono (h Z s r) (fun ov s₁ h₁ => ?_) fun _ _ e => e)
  obtain ⟨σ₁, r₁, h₁⟩ := h₁
  refine wpAny_mono (h₁ ov rfl Z s₁ r₁) (fun old s₂ h₂ => ?_) fun _ _ e => e
  obtain ⟨σ₂, r₂, h₂⟩ := h₂
  refine wpAny_mono (h₂ Z s₂ r₂) (fun b s₃ h₃ => ?_) fun _ _ e => e
  obtain ⟨σ₃, r₃, h₃⟩ := h₃
  refine wpAny_mono (h₃ old b rfl rfl Z s₃ r₃) (fun c s₄ h₄ => ?_) fun _ _ e => e
  obtain ⟨σ₄, r₄, h₄⟩ := h₄
  exact wpAny_mono (h₄ ov c rfl rfl Z s₄ r₄) (fun _ _ ⟨σ', r', q⟩ => ⟨σ', r', q⟩) fun _ _ e => e
end

theorem Rel.kin {g : G} {Z : Fz} {n : En} {σ : St} {s : Shared} (r : Rel g Z n σ s) : (hd.heap_39 g.w.params).In s.heap := fun a o e => r.hr.stay a o (g.kin a o e)

theorem entKey {ents : List DictEntry} {fs : List (Str × AV)} (h : ents.map (fun e => (er e.key, er e.val)) = fs.map (fun p => (AV.str p.1, p.2))) : ∀ e ∈ ents, ∃ x t, e.key = .str x t := fun e he => by
  have : (er e.key, er e.val) ∈ fs.map (fun p => (AV.str p.1, p.2)) := by rw [← h]; exact List.mem_map.mpr ⟨e, he, rfl⟩
  obtain ⟨p, _, q⟩ := List.mem_map.mp this
  simp only [Prod.mk.injEq] at q
  obtain ⟨t, ht⟩ := er_str q.1.symm
  exact ⟨_, t, ht⟩
noncomputable def putA (x : Str) (v : AV) : List (Str × AV) → List (Str × AV)
  | [] => [(x, v)]
  | (y, u) :: r => if y = x then (y, v) :: r else (y, u) :: putA x v r
theorem isStr_str (x y : Str) (t : Tok) : (Value.str y t).isStr x = (y == x) := by
  show (y == x) = _; rfl
theorem putL_A {x : Str} {hsh : Int} {t : Tok} {v : Value} : ∀ {ents : List DictEntry} {fs : List (Str × AV)}, ents.map (fun e => (er e.key, er e.val)) = fs.map (fun p => (AV.str p.1, p.2)) →
    (putL x hsh (.str x t) v ents).map (fun e => (er e.key, er e.val)) = (putA x (er v) fs).map (fun p => (AV.str p.1, p.2))
  | [], [], _ => rfl
  | [], _ :: _, h => by simp at h
  | _ :: _, [], h => by simp at h
  | e :: r, (y, u) :: fs, h => by
    simp only [List.map_cons, List.cons.injEq, Prod.mk.injEq] at h
    obtain ⟨t', hk⟩ := er_str h.1.1
    unfold putL putA
    rw [hk, isStr_str]
    by_cases q : y = x
    · subst q
      simp only [beq_self_eq_true, if_true, List.map_cons, h.2]; rfl
    · have : (y == x) = false := beq_eq_false_iff_ne.mpr q
      simp only [this, q, if_false, Bool.false_eq_true, List.map_cons]
      rw [putL_A h.2, hk, h.1.2]; rfl
theorem getL_A {x : Str} : ∀ {ents : List DictEntry} {fs : List (Str × AV)}, ents.map (fun e => (er e.key, er e.val)) = fs.map (fun p => (AV.str p.1, p.2)) →
    (∀ v, fs.lookup x = some v → ∃ cv, getL x ents = some (some cv) ∧ er cv = v) ∧ (fs.lookup x = none → getL x ents = some none)
  | [], [], _ => ⟨fun v h => by simp at h, fun _ => rfl⟩
  | [], _ :: _, h => by simp at h
  | _ :: _, [], h => by simp at h
  | e :: r, (y, u) :: fs, h => by
    have hh := h
    simp only [List.map_cons, List.cons.injEq, Prod.mk.injEq] at h
    obtain ⟨t', hk⟩ := er_str h.1.1
    obtain ⟨i1, i2⟩ := getL_A (x := x) h.2
    have hfind : List.find? (fun d : DictEntry => d.key.isStr x) (e :: r) = if y == x then some e else List.find? (fun d : DictEntry => d.key.isStr x) r := by
      rw [List.find?_cons, hk, isStr_str]; cases (y == x) <;> rfl
    have href : ∀ l : List DictEntry, (∀ d ∈ l, ∃ z t, d.key = .str z t) → l.any (·.refKey) = false := fun l hl => by
      rw [List.any_eq_false]; intro d hd
      obtain ⟨z, t, q⟩ := hl d hd
      simp [DictEntry.refKey, q]
    have hr0 := href r (entKey h.2)
    have hr1 := href (e :: r) (entKey hh)
    by_cases q : y = x
    · subst q
      refine ⟨fun v hv => ?_, fun hv => ?_⟩
      · simp at hv; subst hv
        exact ⟨e.val, by unfold getL; rw [hfind]; simp, h.1.2⟩
      · simp at hv
    · have hb : (y == x) = false := beq_eq_false_iff_ne.mpr q
      have hb' : (x == y) = false := beq_eq_false_iff_ne.mpr (Ne.symm q)
      have hg : getL x (e :: r) = getL x r := by
        unfold getL; rw [hfind, hb, hr0, hr1]; rfl
      rw [hg, List.lookup_cons, hb']
      exact ⟨i1, i2⟩
theorem getL_some {x : Str} {ents : List DictEntry} {fs : List (Str × AV)} (h : ents.map (fun e => (er e.key, er e.val)) = fs.map (fun p => (AV.str p.1, p.2))) : (getL x ents).isSome = true := by
  cases q : fs.lookup x with
  | none => rw [(getL_A h).2 q]; rfl
  | some v => obtain ⟨cv, h1, _⟩ := (getL_A h).1 v q; rw [h1]; rfl
theorem len_of_map {α β γ : Type} {f : α → γ} {k : β → γ} {l : List α} {r : List β} (h : l.map f = r.map k) : l.length = r.length := by
  have := congrArg List.length h; simpa using this
theorem putA_len (x : Str) (v : AV) : ∀ fs : List (Str × AV), (putA x v fs).length ≤ fs.length + 1
  | [] => Nat.le_refl _
  | (y, u) :: r => by
    unfold putA; split
    · simp
    · have := putA_len x v r; simp; (with_reducible assumption)

/-- what the class C of the text lets an attribute be: the object's own -/
structure OwnAttr (C : Addr) (name : Str) : Prop where
  pg : ∀ P, plainGet (hd.heap_39 P) C name = true
  hh : ∀ P, hasDictIn (hd.heap_39 P) C = true
  at_ : ∀ P, findIn (hd.heap_39 P) (.ref C) name = some none
  sa : ∀ P, findIn (hd.heap_39 P) (.ref C) "__setattr__" = some (some (.builtin "object.__setattr__"))
  po : ∀ P, plainOver (hd.heap_39 P) C = true
  tk : ∀ P, takerIn (hd.heap_39 P) C name = some none
/-- a slot of the class C -/
structure SlotAttr (C : Addr) (name : Str) (p i : Nat) : Prop where
  pg : ∀ P, plainGet (hd.heap_39 P) C name = true
  ic : ∀ P, (clsIn (hd.heap_39 P) C).isSome = true
  at_ : ∀ P, findIn (hd.heap_39 P) (.ref C) name = some (some (.ref p))
  gt : ∀ P, specialIn (hd.heap_39 P) (.ref p) "__get__" = some (some (.builtin "member_descriptor.__get__"))
  tkp : ∀ P, takesIn (hd.heap_39 P) (.ref p) = some true
  sl : ∀ P, slotIn (hd.heap_39 P) p C = some i
  sa : ∀ P, findIn (hd.heap_39 P) (.ref C) "__setattr__" = some (some (.builtin "object.__setattr__"))
  po : ∀ P, plainOver (hd.heap_39 P) C = true
  tk : ∀ P, takerIn (hd.heap_39 P) C name = some (some (.ref p))
  ty : ∀ P, typeIn (hd.heap_39 P) (.ref p) = some (.type "member_descriptor")
/-- a method of the class C -/
structure MethAttr (C : Addr) (name : Str) (f : Addr) : Prop where
  pg : ∀ P, plainGet (hd.heap_39 P) C name = true
  at_ : ∀ P, findIn (hd.heap_39 P) (.ref C) name = some (some (.ref f))
  fn : ∀ P, isFn (hd.heap_39 P) (.ref f) = true
  kp : ∀ P, keepIn (hd.heap_39 P) (.ref f) = true

theorem own_n2i : OwnAttr 173 "_node2info" := ⟨fun _ => by kernel_rfl, fun _ => by kernel_rfl, fun _ => by kernel_rfl, fun _ => by kernel_rfl, fun _ => by kernel_rfl, fun _ => by kernel_rfl⟩
theorem own_ready : OwnAttr 173 "_ready_nodes" := ⟨fun _ => by kernel_rfl, fun _ => by kernel_rfl, fun _ => by kernel_rfl, fun _ => by kernel_rfl, fun _ => by kernel_rfl, fun _ => by kernel_rfl⟩
theorem own_passed : OwnAttr 173 "_npassedout" := ⟨fun _ => by kernel_rfl, fun _ => by kernel_rfl, fun _ => by kernel_rfl, fun _ => by kernel_rfl, fun _ => by kernel_rfl, fun _ => by kernel_rfl⟩
theorem own_fin : OwnAttr 173 "_nfinished" := ⟨fun _ => by kernel_rfl, fun _ => by kernel_rfl, fun _ => by kernel_rfl, fun _ => by kernel_rfl, fun _ => by kernel_rfl, fun _ => by kernel_rfl⟩
theorem slot_node : SlotAttr 76 "node" 77 0 := ⟨fun _ => by kernel_rfl, fun _ => by kernel_rfl, fun _ => by kernel_rfl, fun _ => by kernel_rfl, fun _ => by kernel_rfl, fun _ => by kernel_rfl, fun _ => by kernel_rfl, fun _ => by kernel_rfl, fun _ => by kernel_rfl, fun _ => by kernel_rfl⟩
theorem slot_np : SlotAttr 76 "npredecessors" 78 1 := ⟨fun _ => by kernel_rfl, fun _ => by kernel_rfl, fun _ => by kernel_rfl, fun _ => by kernel_rfl, fun _ => by kernel_rfl, fun _ => by kernel_rfl, fun _ => by kernel_rfl, fun _ => by kernel_rfl, fun _ => by kernel_rfl, fun _ => by kernel_rfl⟩
theorem slot_succ : SlotAttr 76 "successors" 79 2 := ⟨fun _ => by kernel_rfl, fun _ => by kernel_rfl, fun _ => by kernel_rfl, fun _ => by kernel_rfl, fun _ => by kernel_rfl, fun _ => by kernel_rfl, fun _ => by kernel_rfl, fun _ => by kernel_rfl, fun _ => by kernel_rfl, fun _ => by kernel_rfl⟩
theorem meth_add : MethAttr 173 "add" 123 := ⟨fun _ => by kernel_rfl, fun _ => by kernel_rfl, fun _ => by kernel_rfl, fun _ => by kernel_rfl⟩
theorem meth_gni : MethAttr 173 "_get_nodeinfo" 116 := ⟨fun _ => by kernel_rfl, fun _ => by kernel_rfl, fun _ => by kernel_rfl, fun _ => by kernel_rfl⟩
theorem meth_prepare : MethAttr 173 "prepare" 128 := ⟨fun _ => by kernel_rfl, fun _ => by kernel_rfl, fun _ => by kernel_rfl, fun _ => by kernel_rfl⟩
theorem meth_getready : MethAttr 173 "get_ready" 135 := ⟨fun _ => by kernel_rfl, fun _ => by kernel_rfl, fun _ => by kernel_rfl, fun _ => by kernel_rfl⟩
theorem meth_active : MethAttr 173 "is_active" 142 := ⟨fun _ => by kernel_rfl, fun _ => by kernel_rfl, fun _ => by kernel_rfl, fun _ => by kernel_rfl⟩
theorem meth_done : MethAttr 173 "done" 156 := ⟨fun _ => by kernel_rfl, fun _ => by kernel_rfl, fun _ => by kernel_rfl, fun _ => by kernel_rfl⟩
theorem meth_find : MethAttr 173 "_find_cycle" 163 := ⟨fun _ => by kernel_rfl, fun _ => by kernel_rfl, fun _ => by kernel_rfl, fun _ => by kernel_rfl⟩
end Mine
end

section
open PySem PySem.W PyProof.Rows PySem.Spec PySem.Calls
set_option Elab.async false
set_option maxRecDepth 100000
set_option linter.unusedVariables false
namespace Mine

noncomputable def plainV : AV → Bool
  | .other _ => false
  | _ => true
theorem handed_of {v : AV} {cv : Value} (e : er cv = v) (h : plainV v = true) : handedIn cv = true := by
  cases cv <;> first | rfl | (subst e; cases h)

section
variable {g : G} {A : Around} {n : En} {E : Exn} {σ : St} {Z : Fz} {s : Shared} {x C dx : Addr} {fs : List (Option AV)} {es : List (Str × AV)}

inductive InstR (s : Shared) (x C dx : Addr) (fs : List (Option AV)) (es : List (Str × AV)) : Prop
  | mk (sl : Array (Option Value)) (ents : List DictEntry) (k : Nat) (I : InstAt s.heap x ⟨.ref C, some dx, .plain, sl⟩ C (some (dictOf ents k))) (i1 : sl.toList.map (Option.map er) = fs) (i2 : ents.map (fun e => (er e.key, er e.val)) = es.map (fun p => (AV.str p.1, p.2))) (i3 : s.heap.get? dx = some (dictOf ents k))
theorem Rel.instAt (r : Rel g Z n σ s) (h1 : σ.H x = some (.inst C dx fs)) (h2 : σ.H dx = some (.idict es)) :
    InstR s x C dx fs es := by
  obtain ⟨co, a1, sl, rfl, a2⟩ := r.owned h1
  obtain ⟨cd, b1, ents, k, rfl, b2⟩ := r.owned h2
  exact ⟨sl, ents, k, ⟨a1, rfl, rfl, b1⟩, a2, b2, b1⟩

theorem Gat.own {name : Str} {v : AV} {Q : AV → St → Prop} (O : OwnAttr C name) (h1 : σ.H x = some (.inst C dx fs)) (h2 : σ.H dx = some (.idict es)) (hv : es.lookup name = some v) (hp : plainV v = true) (h : Q v σ) : Gat g A n E (.ref x) name σ Q := fun cv e Z s r => by
  rw [er_ref e]
  obtain ⟨sl, ents, k, I, _, i2, _⟩ := r.instAt h1 h2
  obtain ⟨cv', q1, q2⟩ := (getL_A i2).1 v hv
  exact get_value r.kin I (plainGet_of (O.pg _)).1 (findObj_own (O.hh _) (O.at_ _) rfl q1) (handed_of q2 hp) ⟨σ, r.toks, by show Q (er cv') σ; rw [q2]; exact h⟩

theorem Gat.slot {name : Str} {p i : Nat} {v : AV} {Q : AV → St → Prop} (O : SlotAttr C name p i) (h1 : σ.H x = some (.inst C dx fs)) (h2 : σ.H dx = some (.idict es)) (hv : fs[i]? = some (some v)) (hp : plainV v = true) (h : Q v σ) : Gat g A n E (.ref x) name σ Q := fun cv e Z s r => by
  rw [er_ref e]
  obtain ⟨sl, ents, k, I, i1, _, _⟩ := r.instAt h1 h2
  have : ∃ cv', (sl[i]?).join = some cv' ∧ er cv' = v := by
    rw [← i1, List.getElem?_map, Option.map_eq_some_iff] at hv
    obtain ⟨o, e1, e2⟩ := hv
    cases o with
    | none => cases e2
    | some cv' =>
      simp only [Option.map_some, Option.some.injEq] at e2
      exact ⟨cv', by rw [← Array.getElem?_toList, e1]; rfl, e2⟩
  obtain ⟨cv', q1, q2⟩ := this
  refine get_bind r.kin I (plainGet_of (O.pg _)).1 (findObj_data (O.ic _) (O.at_ _) (O.gt _) (O.tkp _)) (plainGet_of (O.pg _)).2 (wpAny_call (slot_get (s := { s with toks := s.toks + 1 }) r.kin I (O.sl _) q1 ?_))
  show wpAny _ _ (handedOut cv') _ _ _
  rw [handedOut_of (handed_of q2 hp)]
  exact wpAny_pure ⟨σ, r.toks, by show Q (er cv') σ; rw [q2]; exact h⟩
theorem Sat.own {name : Str} {v : AV} {Q : St → Prop} (O : OwnAttr C name) (h1 : σ.H x = some (.inst C dx fs)) (h2 : σ.H dx = some (.idict es)) (hl : es.length ≤ 900) (h : Q ⟨upd σ.H dx (.idict (putA name v es)), σ.loc⟩) : Sat g A n E (.ref x) name v σ Q := fun cv cx e f Z s r => by
  rw [er_ref e]
  obtain ⟨sl, ents, k, I, _, i2, i3⟩ := r.instAt h1 h2
  obtain ⟨m, hm, hm0⟩ := r.vars.ns
  have hal := r.apartL h2
  have hz : (putL name (PyData.keyHash g.w.params name) (.str name (s.toks + 1)) cx ents).length ≤ 1000 := by
    have q := len_of_map (putL_A (hsh := PyData.keyHash g.w.params name) (t := s.toks + 1) (v := cx) (x := name) i2)
    rw [q]
    have := putA_len name (er cx) es
    omega
  refine set_plain r.kin I (O.sa _) (osa_dict (s := { s with toks := s.toks + 1 }) (fr_all hm) (news_all i3 hal) r.kin I rfl (O.po _) (O.tk _) (O.hh _) (getL_some i2) (fun p hp => (nomatch hp)) (fun p hp => (others_spec hp).2.1)
    (putName_dict _ _ _ _ _ _) rfl hz fun h' F' N' => ?_)
  refine ⟨_, r.set2 (t := s.toks + 1 + 1) (ao' := .idict (putA name v es)) h2 F'.ns hm0 (fun b o b1 b2 hb => others_kept N' b1 b2 hb) (N' _ (.head _)).1 ⟨_, _, rfl, ?_⟩, h⟩
  rw [← f]; exact putL_A i2
theorem grow_slots {sl : Array (Option Value)} {fs : List (Option AV)} {i : Nat} {cx : Value} (h : sl.toList.map (Option.map er) = fs) :
    ((sl ++ Array.replicate (i + 1 - sl.size) none).setIfInBounds i (some cx)).toList.map (Option.map er) = (fs ++ List.replicate (i + 1 - fs.length) none).set i (some (er cx)) := by
  have hl : sl.size = fs.length := by rw [← h]; simp
  simp only [Array.toList_setIfInBounds, Array.toList_append, Array.toList_replicate, List.map_set, List.map_append, List.map_replicate, h, hl]
  rfl
theorem Sat.slot {name : Str} {p i : Nat} {v : AV} {Q : St → Prop} (O : SlotAttr C name p i) (h1 : σ.H x = some (.inst C dx fs)) (h2 : σ.H dx = some (.idict es)) (hi : i < 1000) (h : Q ⟨upd σ.H x (.inst C dx ((fs ++ List.replicate (i + 1 - fs.length) none).set i (some v))), σ.loc⟩) : Sat g A n E (.ref x) name v σ Q := fun cv cx e f Z s r => by
  rw [er_ref e]
  obtain ⟨sl, ents, k, I, i1, _, _⟩ := r.instAt h1 h2
  obtain ⟨m, hm, hm0⟩ := r.vars.ns
  have hal := r.apartL h1
  refine set_plain r.kin I (O.sa _) (osa_descr (s := { s with toks := s.toks + 1 }) KF.slot_mset r.kin I (O.po _) (O.tk _) (O.ty _) (slot_set (s := { s with toks := s.toks + 1 }) (fr_all hm) (news_all I.at_ hal) r.kin I (O.sl _) hi (fun p hp => (nomatch hp)) (fun p hp => (others_spec hp).2.1) rfl rfl fun h' F' N' => ?_))
  refine ⟨_, r.set2 (t := s.toks + 1) (ao' := .inst C dx ((fs ++ List.replicate (i + 1 - fs.length) none).set i (some v))) h1 F'.ns hm0 (fun b o b1 b2 hb => others_kept N' b1 b2 hb) (N' _ (.head _)).1 ⟨_, rfl, ?_⟩, h⟩
  rw [← f]; exact grow_slots i1
theorem Mth.own {name : Str} {f : Addr} {Q : Value → List AV → St → Prop} (O : MethAttr C name f) (h1 : σ.H x = some (.inst C dx fs)) (h2 : σ.H dx = some (.idict es)) (hn : es.lookup name = none) (h : Q (.ref f) [.ref x] σ) : Mth g A n E (.ref x) name σ Q := fun cv pl e Z s r => by
  rw [er_ref e]
  obtain ⟨sl, ents, k, I, _, i2, _⟩ := r.instAt h1 h2
  refine method_fn r.kin I (plainGet_of (O.pg _)).1 (plainGet_of (O.pg _)).2 (O.at_ _) (beq_iff_eq.mp (O.fn _)) ?_ ⟨σ, r, h⟩
  show (lookIn name (dictOf ents k)).map _ = _
  rw [lookIn_dict, (getL_A i2).2 hn]; rfl
end
end Mine
end

section
open PySem PySem.W PyProof.Rows PySem.Spec PySem.Calls
set_option Elab.async false
set_option maxRecDepth 100000
set_option linter.unusedVariables false
namespace Mine

section
variable {g : G} {A : Around} {n : En} {E : Exn} {σ : St}

inductive OwnP (C : Addr) (name : Str) (K : Addr → St → Prop) (v : AV) (σ₁ : St) : Prop
  | mk (x dx : Addr) (fs : List (Option AV)) (ks : List (Str × AV)) (hv : v = .ref x) (h1 : σ₁.H x = some (.inst C dx fs)) (h2 : σ₁.H dx = some (.idict ks)) (h3 : ks.lookup name = none) (k : K x σ₁)
inductive SeqP (K : Addr → List AV → St → Prop) (v : AV) (σ₁ : St) : Prop
  | mk (l : Addr) (ys : List AV) (hv : v = .ref l) (hl : σ₁.H l = some (.list ys) ∨ σ₁.H l = some (.tup ys)) (hlen : ys.length ≤ 1000000) (k : K l ys σ₁)
/-- a call of a method of an own object -/
theorem Ev.meth {C : Addr} {o : Expr} {name : Str} {apos pos : Pos} {es : List Expr} {f : Addr} {oc : Value} {od : Option Addr} {osl : Array (Option Value)} {fd : FuncData} {pl : Sem Bool} {Q : AV → St → Prop} (O : MethAttr C name f)
    (hK : (hd.heap_39 g.w.params).lookup f = some ⟨oc, od, .func fd, osl⟩)
    (h : Ev g A n E o σ (OwnP C name fun x σ₁ => Evs g A n E es σ₁ (QMeth g A n E (.ref f) (.ref x) Q)))
    (he : eval (.Call (.Attribute o name apos) es [] pos) n.env = (do
      let ov ← eval o n.env
      standAt apos.atName
      let (f, first) ← PySem.holding [ov] (getMethod ov name pl)
      callWith pos f first (backTo pos (starEach es n.env)) (backToKw pos (keywordEach [] n.env))) := by rfl)
    (hs : (starEach es n.env).all (fun x => !x.1) = true := by exact Mine.tt0) : Ev g A n E (.Call (.Attribute o name apos) es [] pos) σ Q := fun Z s r => by
  refine methodCall_KW (wpAny_mono (h Z s r) (fun ov s₁ h₁ => ?_) fun _ _ e => e) he
  obtain ⟨σ₁, r₁, x, dx, fs, ks, hv, h1, h2, h3, h4⟩ := h₁
  refine wpAny_mono (Mth.own (Q := fun f' first σ' => f' = .ref f ∧ first = [.ref x] ∧ σ' = σ₁) O h1 h2 h3 ⟨rfl, rfl, rfl⟩ ov pl hv Z s₁ r₁) (fun fx s₂ h₂ => ?_) fun _ _ e => e
  obtain ⟨_, r₂, e1, e2, rfl⟩ := h₂
  obtain ⟨c, e3, e4⟩ := one_arg e2
  obtain ⟨fx1, fx2⟩ := fx
  dsimp only at e1 e3 ⊢
  subst e1 e3
  exact Ok.callFn (first := [c]) hK (fun p => Ok.mono (h4 p) fun vs σ₂ h₂ vs' e => h₂ (c :: vs') (by simp [e, e4])) hs Z s₂ r₂

theorem Evs.star {e : Expr} {p : Pos} {rest : List Expr} {P : List AV → St → Prop} (h : Ev g A n E e σ (SeqP fun _ ys σ₁ => Evs g A n E rest σ₁ fun as σ₂ => P (ys ++ as) σ₂))
    (he : starEach (.Starred e p :: rest) n.env = (true, eval e n.env) :: starEach rest n.env := by rfl) : Evs g A n E (.Starred e p :: rest) σ P := fun pos Z s r => by
  refine items_star (wpAny_mono (h Z s r) (fun cv s₁ h₁ => ?_) fun _ _ e => e) he
  obtain ⟨σ₁, r₁, l, ys, hv, hl, hlen, hr⟩ := h₁
  rw [er_ref hv]
  have key : ∀ {T : String} {items : Array Value} {k : Nat}, (T = "list" ∨ T = "tuple") → s₁.heap.get? l = some ⟨.type T, none, .seq items k, #[]⟩ → items.toList.map er = ys →
      StarOf (model prog g.w) A (E Z) (.ref l) (fun here s₂ => wpAny (model prog g.w) A (spliced (backTo pos (starEach rest n.env))) (fun vs => Post g Z n (fun vs σ' => P (vs.map er) σ') (here ++ vs)) (E Z) s₂) s₁ := by
    intro T items k hT ho hm
    have hT' : s₁.TypeIs (.ref l) T := ⟨_, ho, rfl⟩
    have hsz : items.size ≤ sizeLine := by rw [size_of_map hm]; exact Nat.le_trans hlen (by decide)
    have z : wpAny (model prog g.w) A (collect (.ref l)) (fun here s₂ => wpAny (model prog g.w) A (spliced (backTo pos (starEach rest n.env))) (fun vs => Post g Z n (fun vs σ' => P (vs.map er) σ') (here ++ vs)) (E Z) s₂) (E Z) s₁ := by
      refine wpAny_collect_seq l hT ho rfl rfl (fun h' hk => ?_) hsz
      refine wpAny_mono (hr pos Z _ (r₁.ext hk)) (fun vs s₃ h₃ => ?_) fun _ _ e => e
      obtain ⟨σ₃, r₃, q⟩ := h₃
      exact ⟨σ₃, r₃, by rw [List.map_append, hm]; exact q⟩
    unfold StarOf notIterableAtAll
    rcases hT with rfl | rfl
    · exact wpAny_bind (wpAny_specialOf hT' PySem.F.slot_list_iter.lookup (wpAny_pure ⟨rfl, z⟩))
    · exact wpAny_bind (wpAny_specialOf hT' PySem.F.slot_tuple_iter.lookup (wpAny_pure ⟨rfl, z⟩))
  rcases hl with hl | hl
  · obtain ⟨items, k, h1, h2⟩ := r₁.listAt hl
    exact key (.inl rfl) h1 h2
  · obtain ⟨items, k, h1, h2⟩ := r₁.tupAt hl
    exact key (.inr rfl) h1 h2
/-- one starred argument alone -/
theorem star_lone {e : Expr} {p pos : Pos} {f : Value} {P : Args → St → Prop} (h : Ev g A n E e σ (SeqP fun _ ys σ₁ => ∀ vs, vs.map er = ys → P ⟨vs, []⟩ σ₁))
    (he : starEach [.Starred e p] n.env = [(true, eval e n.env)] := by rfl) : Ok g A n E (evalArgs f true (backTo pos (starEach [.Starred e p] n.env)) []) σ P := fun Z s r => by
  rw [he]
  refine ks_lone (wpAny_mono (h Z s r) (fun cv s₁ h₁ => ?_) fun _ _ e => e)
  obtain ⟨σ₁, r₁, l, ys, hv, hl, hlen, hr⟩ := h₁
  rw [er_ref hv]
  have key : ∀ {T : String} {items : Array Value} {k : Nat}, (T = "list" ∨ T = "tuple") → s₁.heap.get? l = some ⟨.type T, none, .seq items k, #[]⟩ → items.toList.map er = ys →
      StarOf (model prog g.w) A (E Z) (.ref l) (fun here => Post g Z n P ⟨here, []⟩) s₁ := by
    intro T items k hT ho hm
    have hT' : s₁.TypeIs (.ref l) T := ⟨_, ho, rfl⟩
    have hsz : items.size ≤ sizeLine := by rw [size_of_map hm]; exact Nat.le_trans hlen (by decide)
    have z : wpAny (model prog g.w) A (collect (.ref l)) (fun here => Post g Z n P ⟨here, []⟩) (E Z) s₁ :=
      wpAny_collect_seq l hT ho rfl rfl (fun h' hk => ⟨σ₁, r₁.ext hk, hr _ hm⟩) hsz
    unfold StarOf notIterableAtAll
    rcases hT with rfl | rfl
    · exact wpAny_bind (wpAny_specialOf hT' PySem.F.slot_list_iter.lookup (wpAny_pure ⟨rfl, z⟩))
    · exact wpAny_bind (wpAny_specialOf hT' PySem.F.slot_tuple_iter.lookup (wpAny_pure ⟨rfl, z⟩))
  rcases hl with hl | hl
  · obtain ⟨items, k, h1, h2⟩ := r₁.listAt hl
    exact key (.inl rfl) h1 h2
  · obtain ⟨items, k, h1, h2⟩ := r₁.tupAt hl
    exact key (.inr rfl) h1 h2

/-- a method taken as an object -/
structure BoundAttr (C : Addr) (name : Str) (f : Addr) : Prop where
  pg : ∀ P, plainGet (hd.heap_39 P) C name = true
  hh : ∀ P, hasDictIn (hd.heap_39 P) C = true
  at_ : ∀ P, findIn (hd.heap_39 P) (.ref C) name = some (some (.ref f))
  fn : ∀ P, isFn (hd.heap_39 P) (.ref f) = true
  gt : ∀ P, specialIn (hd.heap_39 P) (.ref f) "__get__" = some (some (.builtin "function.__get__"))
  tk : ∀ P, takesIn (hd.heap_39 P) (.ref f) = some false
  fi : ∀ P, fnIn (hd.heap_39 P) f = true
theorem bnd_add : BoundAttr 173 "add" 123 := ⟨fun _ => by kernel_rfl, fun _ => by kernel_rfl, fun _ => by kernel_rfl, fun _ => by kernel_rfl, fun _ => by kernel_rfl, fun _ => by kernel_rfl, fun _ => by kernel_rfl⟩
theorem bnd_done : BoundAttr 173 "done" 156 := ⟨fun _ => by kernel_rfl, fun _ => by kernel_rfl, fun _ => by kernel_rfl, fun _ => by kernel_rfl, fun _ => by kernel_rfl, fun _ => by kernel_rfl, fun _ => by kernel_rfl⟩

theorem Gat.bound {C x dx f : Addr} {name : Str} {fs : List (Option AV)} {es : List (Str × AV)} {Q : AV → St → Prop} (O : BoundAttr C name f) (h1 : σ.H x = some (.inst C dx fs)) (h2 : σ.H dx = some (.idict es)) (hn : es.lookup name = none)
    (h : ∀ q, σ.H q = none → Q (.ref q) ⟨upd σ.H q (.meth f x), σ.loc⟩) (hc : copiedNames.contains name = false := by decide) : Gat g A n E (.ref x) name σ Q := fun cv e Z s r => by
  rw [er_ref e]
  obtain ⟨sl, ents, k, I, _, i2, _⟩ := r.instAt h1 h2
  refine get_bind r.kin I (plainGet_of (O.pg _)).1 (findObj_fn (O.hh _) (O.at_ _) (O.gt _) (O.tk _) hc (by rw [lookIn_dict, (getL_A i2).2 hn])) (plainGet_of (O.pg _)).2
    (wpAny_call (fn_get (s := { s with toks := s.toks + 1 }) r.kin (beq_iff_eq.mp (O.fn _)) (handed_on rfl ?_)))
  exact ⟨_, (r.alloc (ao := .meth f x) rfl rfl).toks, h _ r.fresh⟩

theorem Call.meth {k : Nat} {q f x : Addr} {args : List AV} {R : AV → AH → Prop} {Q : AV → St → Prop} (hq : σ.H q = some (.meth f x)) (hf : FnOk g k f (.ref x :: args) σ.H R) (hroom : Room A k) (hfr : A.frames = some (n.env :: n.outer)) (hk : n.env.scope.kind = .function) (hL : n.env.frame = some n.env.locals)
    (h : ∀ v H', R v H' → Q v ⟨H', σ.loc⟩) : Call g A n E (.ref q) args σ Q := fun cargs ha Z s r => by
  obtain ⟨co, ho, rfl⟩ := r.owned hq
  refine wpAny_call (method_call ho (codeAny_mono (hf A Z s (.ref x :: cargs) _ (by simp [ha, er]) hroom hfr (r.frz hk hL) r.hr) fun res s' hq => ?_))
  obtain ⟨v, H', rfl, r', q⟩ := hq
  exact ⟨_, r.back r', h _ _ q⟩

theorem Ok.callStar {q f x : Addr} {pos : Pos} {args : List (Bool × Sem Value)} {P : Value → St → Prop} (hst : args.any (·.1) = true) (hfi : ∀ P, fnIn (hd.heap_39 P) f = true)
    (h : Ok g A n E (PySem.evalArgs (.ref q) true args []) σ fun (a : Args) σ₁ => σ₁.H q = some (.meth f x) ∧ Ok g A n E (call (.ref q) ([] ++ a.pos) a.kw) σ₁ P) : Ok g A n E (callWith pos (.ref q) [] args []) σ P := fun Z s r => by
  refine ks_call (P := MethP (hd.heap_39 g.w.params) q f (.ref x)) hst (keeps_M (hfi _)) (wpAny_mono (h Z s r) (fun a s₁ h₁ => ?_) fun _ _ e => e)
  obtain ⟨σ₁, r₁, h1, h2⟩ := h₁
  obtain ⟨co, ho, rfl⟩ := r₁.owned h1
  exact ⟨⟨ho, r₁.kin⟩, h2 Z s₁ r₁⟩

/-- o.name(e, *e') -/
theorem Ev.methStar {C : Addr} {o e : Expr} {name : Str} {apos pos : Pos} {es : List Expr} {f : Addr} {Q : AV → St → Prop} (O : BoundAttr C name f)
    (h : Ev g A n E o σ (OwnP C name fun x σ₁ => ∀ q, σ₁.H q = none → Evs g A n E (e :: es) ⟨upd σ₁.H q (.meth f x), σ₁.loc⟩ fun as σ₂ => σ₂.H q = some (.meth f x) ∧ Call g A n E (.ref q) as σ₂ Q))
    (he : eval (.Call (.Attribute o name apos) (e :: es) [] pos) n.env = (do
      let ov ← eval o n.env
      standAt apos.atName
      let (f, first) ← PySem.holding [ov] (do pure (← getAttr ov name true, ([] : List Value)))
      callWith pos f first (backTo pos (starEach (e :: es) n.env)) []) := by rfl) (hs : starEach (e :: es) n.env = (false, eval e n.env) :: starEach es n.env := by rfl)
    (hst : (backTo pos (starEach es n.env)).any (·.1) = true := by exact Mine.tt0) (hc : copiedNames.contains name = false := by decide) : Ev g A n E (.Call (.Attribute o name apos) (e :: es) [] pos) σ Q := by
  refine Ok.eq he (Ok.bind (Ok.mono h fun ov σ₁ h₁ => Ok.bind (Ok.standAt (Ok.bind (Ok.holding (Ok.bind ?_))))))
  obtain ⟨x, dx, fs, ks, hv, h1, h2, h3, h4⟩ := h₁
  refine Ok.mono (Gat.bound (Q := fun v σ' => ∃ q, C3 (v = .ref q) (σ₁.H q = none) (σ' = ⟨upd σ₁.H q (.meth f x), σ₁.loc⟩)) O h1 h2 h3 (fun q hq => ⟨q, rfl, hq, rfl⟩) hc ov hv) fun v σ₂ h₂ => Ok.pure ?_
  obtain ⟨q, hv2, hq, rfl⟩ := h₂
  rw [er_ref hv2]
  refine Ok.callStar (x := x) (by rw [hs]; show (false || (backTo pos (starEach es n.env)).any (·.1)) = true; rw [hst]; rfl) O.fi ?_
  intro Z s r
  have hh := h4 q hq pos Z s r
  rw [hs] at hh ⊢
  refine evalArgs_plain (wpAny_mono hh (fun vs s₁ h₁ => ?_) fun _ _ e => e)
  obtain ⟨σ₃, r₃, a1, a2⟩ := h₁
  exact ⟨σ₃, r₃, a1, a2 vs rfl⟩
/-- o.name(*e) -/
theorem Ev.methStar1 {C : Addr} {o e : Expr} {name : Str} {apos pos p : Pos} {f : Addr} {Q : AV → St → Prop} (O : BoundAttr C name f)
    (h : Ev g A n E o σ (OwnP C name fun x σ₁ => ∀ q, σ₁.H q = none → Ev g A n E e ⟨upd σ₁.H q (.meth f x), σ₁.loc⟩ (SeqP fun _ ys σ₂ => σ₂.H q = some (.meth f x) ∧ Call g A n E (.ref q) ys σ₂ Q)))
    (he : eval (.Call (.Attribute o name apos) [.Starred e p] [] pos) n.env = (do
      let ov ← eval o n.env
      standAt apos.atName
      let (f, first) ← PySem.holding [ov] (do pure (← getAttr ov name true, ([] : List Value)))
      callWith pos f first (backTo pos (starEach [.Starred e p] n.env)) []) := by rfl) (hs : starEach [.Starred e p] n.env = [(true, eval e n.env)] := by rfl)
    (hc : copiedNames.contains name = false := by decide) : Ev g A n E (.Call (.Attribute o name apos) [.Starred e p] [] pos) σ Q := by
  refine Ok.eq he (Ok.bind (Ok.mono h fun ov σ₁ h₁ => Ok.bind (Ok.standAt (Ok.bind (Ok.holding (Ok.bind ?_))))))
  obtain ⟨x, dx, fs, ks, hv, h1, h2, h3, h4⟩ := h₁
  refine Ok.mono (Gat.bound (Q := fun v σ' => ∃ q, C3 (v = .ref q) (σ₁.H q = none) (σ' = ⟨upd σ₁.H q (.meth f x), σ₁.loc⟩)) O h1 h2 h3 (fun q hq => ⟨q, rfl, hq, rfl⟩) hc ov hv) fun v σ₂ h₂ => Ok.pure ?_
  obtain ⟨q, hv2, hq, rfl⟩ := h₂
  rw [er_ref hv2]
  refine Ok.callStar (x := x) (by rw [hs]; rfl) O.fi (star_lone (Ok.mono (h4 q hq) fun v σ₃ h₃ => ?_) hs)
  obtain ⟨l, ys, a1, a2, a3, a4, a5⟩ := h₃
  exact ⟨l, ys, a1, a2, a3, fun vs e => ⟨a4, a5 vs e⟩⟩
end
end Mine
end

section
open PySem PySem.W PyProof.Rows PySem.Spec PySem.Calls
set_option Elab.async false
set_option maxRecDepth 100000
set_option linter.unusedVariables false
namespace Mine
variable {g : G}

theorem HRel.alloc {Z : Fz} {H : AH} {s : Shared} {ao : AO} {co : Obj} (r : HRel g Z H s) (hr : ORel ao co) (hf : co.isFreed = false) : HRel g Z (upd H s.heap.objs.size ao) { s with heap := s.heap.push co } := by
  obtain ⟨h1, h2, h3, h4, h5⟩ := r
  have up : ∀ b o, s.heap.get? b = some o → (s.heap.push co).get? b = some o := fun b o e => Heap.get?_push_of_some _ e
  refine ⟨h1, h2, fun b o hb => up b o (h3 b o hb), h4.ext fun b o hb _ => up b o hb, fun a o ha => ?_⟩
  unfold Mine.upd at ha
  split at ha
  · rename_i q; subst q; cases ha
    refine ⟨?_, ⟨?_, .inl ?_⟩, co, Heap.get?_push_size _ hf, hr⟩
    · cases q : Z s.heap.objs.size with
      | none => rfl
      | some o => obtain ⟨sl, e, _⟩ := h4 _ o q; rw [get?_size] at e; cases e
    · cases q : g.base.get? s.heap.objs.size with
      | none => rfl
      | some o => have := h3 _ o q; rw [get?_size] at this; cases this
    · obtain ⟨o, ho⟩ := g.alive; exact Heap.lt_size (h3 _ _ ho)
  · obtain ⟨y1, y2, c, y3, y4⟩ := h5 a o ha
    exact ⟨y1, y2, c, up _ _ y3, y4⟩
theorem HRel.hnone {Z : Fz} {H : AH} {s : Shared} (r : HRel g Z H s) {a : Addr} (h : s.heap.get? a = none) : H a = none := by
  cases q : H a with
  | none => rfl
  | some o => obtain ⟨_, _, co, h1, _⟩ := r.objs _ _ q; rw [h] at h1; cases h1
theorem HRel.kin {Z : Fz} {H : AH} {s : Shared} (r : HRel g Z H s) : (hd.heap_39 g.w.params).In s.heap := fun a o e => r.stay a o (g.kin a o e)

noncomputable def FzLe (Z Z' : Fz) : Prop := ∀ b o, Z b = some o → Z' b = some o
theorem FzLe.push {H : AH} {h : Heap} {co : Obj} {ao : AO} : FzLe (under H h) (under (upd H h.objs.size ao) (h.push co)) := fun b o e => by
  unfold under at e ⊢
  split at e
  · cases e
  · rename_i q
    have hb : b ≠ h.objs.size := fun q' => by rw [q', get?_size] at e; cases e
    rw [upd_ne hb, if_neg q]
    exact Heap.get?_push_of_some _ e
theorem FzLe.refl (Z : Fz) : FzLe Z Z := fun _ _ e => e
theorem FzLe.trans {Z Z' Z'' : Fz} (a : FzLe Z Z') (b : FzLe Z' Z'') : FzLe Z Z'' := fun x o e => b x o (a x o e)
theorem FrZ.mono {Z Z' : Fz} {l : List Env} (h : FrZ g Z l) (m : FzLe Z Z') : FrZ g Z' l := fun e he => by
  obtain ⟨k1, L, o, k2, k3, k4, k5⟩ := h e he
  exact ⟨k1, L, o, k2, k3, m _ _ k4, k5⟩
theorem HRel.fz {Z Z' : Fz} {H : AH} {s : Shared} (r : HRel g Z' H s) (m : FzLe Z Z') : HRel g Z H s := by
  obtain ⟨h1, h2, h3, h4, h5⟩ := r
  refine ⟨h1, h2, h3, fun b o hb => h4 b o (m _ _ hb), fun a o ha => ⟨?_, (h5 a o ha).2⟩⟩
  cases q : Z a with
  | none => rfl
  | some ob => have := (h5 a o ha).1; rw [m _ _ q] at this; cases this
theorem Done.mono {H H₁ : AH} {h h₁ : Heap} {R : AV → AH → Prop} (m : FzLe (under H h) (under H₁ h₁)) {r : Result} {s' : Shared} (d : Done g H₁ h₁ R r s') : Done g H h R r s' := by
  obtain ⟨v, H', e, r', q⟩ := d
  exact ⟨v, H', e, r'.fz m, q⟩

/-- a def's frame is entered -/
theorem fn_frame {A : Around} {Z : Fz} {H : AH} {s : Shared} {fd : FuncData} {fa : Addr} {outer : List Env} {binds : List (Str × Value)} {abinds : List (Str × AV)} {body : List Stmt} {R : Result → Shared → Prop} {E : Value → Shared → Prop} (r : HRel g Z H s) (hfz : FrZ g (under H s.heap) outer) (hsc : scopeOk fd.scope = true)
    (hclo : fd.closure = [])
    (hb : binds.map (fun p => (p.1, er p.2)) = abinds) (hkind : (abinds.all fun p => fd.scope.names.lookup p.1 == some .local || fd.scope.names.lookup p.1 == some .cell) = true)
    (h : ∀ s', Rel g (under H s.heap) ⟨callEnvC fd s.heap.objs.size fa, cellNames fd.scope, outer⟩ ⟨H, fun y => abinds.reverse.lookup y⟩ s' → codeAny (model prog g.w) A (.func body (callEnvC fd s.heap.objs.size fa)) R s') :
    wpAny (model prog g.w) A.in1 (newFunctionEnv fd.scope fd.globals fd.closure binds (fd.qualname ++ ".<locals>.") (some fa) fd.code none fd.builtins) (fun env s₂ => s₂.heap.NoLimit ∧ codeAny (model prog g.w) A (.func body env) R s₂) E s := by
  have hsc' := hsc
  simp only [scopeOk, Bool.and_eq_true, List.all_eq_true, bne_iff_ne, beq_iff_eq, Bool.not_eq_true'] at hsc'
  rw [hclo]
  refine wpAny_newFunctionEnv_cells hsc'.2 ?_ fun env he s' x => ?_
  · intro x hx
    have hm : (x.1, er x.2) ∈ abinds := by rw [← hb]; exact List.mem_map.mpr ⟨x, hx, rfl⟩
    have := List.all_eq_true.mp hkind _ hm
    simp only [Bool.or_eq_true, beq_iff_eq] at this
    rcases this with q | q
    · exact .inl q
    · exact .inr ⟨q, cellsFrom_some fd.scope.names _ [] (.inl q)⟩
  subst he
  exact ⟨(g.nolimit.keeps r.stay).keeps x.toInCall.keep, h s' (enter_rel (fa := fa) r hfz hsc hb x)⟩

/-- A def's contract, its arguments bound by a reading of the heap. -/
theorem FnOk.of_bodyW {k : Nat} {fa : Addr} {oc : Value} {od : Option Addr} {osl : Array (Option Value)} {fd : FuncData} {args : List AV} {H : AH} {R : AV → AH → Prop} {abinds : List (Str × AV)} {body : List Stmt}
    (hK : (hd.heap_39 g.w.params).lookup fa = some ⟨oc, od, .func fd, osl⟩) (hcode : codeIn (hd.heap_39 g.w.params) fd.code fd.qualname = true) (hbody : fd.body = .stmts body) (hclo : fd.closure = []) (hsc : scopeOk fd.scope = true)
    (hb : ∀ cargs : List Value, cargs.map er = args → ∃ binds, (∀ S, peek (hd.heap_39 g.w.params) S (bindArgs fd ⟨cargs, []⟩) = some binds) ∧ binds.map (fun p => (p.1, er p.2)) = abinds)
    (hkind : (abinds.all fun p => fd.scope.names.lookup p.1 == some .local || fd.scope.names.lookup p.1 == some .cell) = true)
    (h : ∀ A L outer, Room A k → A.frames = some (callEnvC fd L fa :: outer) → Exs g A (fnEn fd L fa outer) NE body ⟨H, fun y => abinds.reverse.lookup y⟩ fun f σ' => R (retv f) σ'.H) :
    FnOk g (k + 1) fa args H R := by
  intro A Z s cargs outer hargs hroom hfr hfz r
  obtain ⟨binds, hb1, hb2⟩ := hb cargs hargs
  have hsc' := hsc
  simp only [scopeOk, Bool.and_eq_true, List.all_eq_true, bne_iff_ne, beq_iff_eq, Bool.not_eq_true'] at hsc'
  refine codeAny_call_function hroom.depth (r.kin _ _ hK) rfl hsc'.1.1.2 hsc'.1.2 hbody (codeRec_of r.kin hcode) ?_
  refine (Looks.of_peek (M := model prog g.w) r.kin (hb1 _)).here ?_
  refine fn_frame r hfz hsc hclo hb2 hkind fun s' R0 => codeAny_func ?_
  have hfr' : (A.deeper (callEnvC fd s.heap.objs.size fa)).frames = some (callEnvC fd s.heap.objs.size fa :: outer) := Around.frames_deeper hfr
  refine wpAny_mono (h _ s.heap.objs.size outer hroom.deeper hfr' _ _ R0) (fun f s'' hq => ?_) fun _ _ e => e.elim
  obtain ⟨σ', r', q⟩ := hq
  refine ⟨_, σ'.H, rfl, r'.hr, ?_⟩
  cases f <;> exact q

/-- A def's contract, the rest of its arguments in a tuple. -/
theorem FnOk.of_bodyS {k : Nat} {fa : Addr} {oc : Value} {od : Option Addr} {osl : Array (Option Value)} {fd : FuncData} {args rest : List AV} {H : AH} {R : AV → AH → Prop} {abinds : AV → List (Str × AV)} {body : List Stmt}
    (hK : (hd.heap_39 g.w.params).lookup fa = some ⟨oc, od, .func fd, osl⟩) (hcode : codeIn (hd.heap_39 g.w.params) fd.code fd.qualname = true) (hbody : fd.body = .stmts body) (hclo : fd.closure = []) (hsc : scopeOk fd.scope = true)
    (hb : ∀ cargs : List Value, cargs.map er = args → ∃ (vs : List Value) (binds : Value → List (Str × Value)), bindArgs fd ⟨cargs, []⟩ = (newTuple vs >>= fun t => Pure.pure (binds t)) ∧ vs.map er = rest ∧ ∀ t, (binds t).map (fun p => (p.1, er p.2)) = abinds (er t))
    (hkind : ∀ t, ((abinds t).all fun p => fd.scope.names.lookup p.1 == some .local || fd.scope.names.lookup p.1 == some .cell) = true) (hlen : rest.length ≤ 10000)
    (h : ∀ A L outer D, H D = none → Room A k → A.frames = some (callEnvC fd L fa :: outer) → Exs g A (fnEn fd L fa outer) NE body ⟨upd H D (.tup rest), fun y => (abinds (.ref D)).reverse.lookup y⟩ fun f σ' => R (retv f) σ'.H) :
    FnOk g (k + 1) fa args H R := by
  intro A Z s cargs outer hargs hroom hfr hfz r
  obtain ⟨vs, binds, hb1, hb2, hb3⟩ := hb cargs hargs
  have hsc' := hsc
  simp only [scopeOk, Bool.and_eq_true, List.all_eq_true, bne_iff_ne, beq_iff_eq, Bool.not_eq_true'] at hsc'
  refine codeAny_call_function hroom.depth (r.kin _ _ hK) rfl hsc'.1.1.2 hsc'.1.2 hbody (codeRec_of r.kin hcode) ?_
  rw [hb1]
  have hl : vs.length ≤ sizeLine := by have : vs.length = rest.length := by rw [← hb2]; simp
                                       rw [this]; exact Nat.le_trans hlen (by decide)
  refine wpAny_bind (wpAny_newObj_type (wpAny_pure ?_) (by show vs.toArray.size ≤ sizeLine; rw [List.size_toArray]; exact hl))
  have r₁ := r.alloc (ao := .tup rest) (co := { cls := .type "tuple", data := .seq vs.toArray }) ⟨_, _, rfl, by simp [hb2]⟩ rfl
  have m : FzLe (under H s.heap) (under (upd H s.heap.objs.size (.tup rest)) (s.heap.push { cls := .type "tuple", data := .seq vs.toArray })) := FzLe.push
  refine fn_frame (abinds := abinds (.ref s.heap.objs.size)) r₁ (hfz.mono m) hsc hclo (hb3 _) (hkind _) fun s' R0 => codeAny_func ?_
  have hfr' : (A.deeper (callEnvC fd (s.heap.push { cls := .type "tuple", data := .seq vs.toArray }).objs.size fa)).frames = some (callEnvC fd (s.heap.push { cls := .type "tuple", data := .seq vs.toArray }).objs.size fa :: outer) := Around.frames_deeper hfr
  refine wpAny_mono (h _ _ outer s.heap.objs.size (r.hnone (get?_size _)) hroom.deeper hfr' _ _ R0) (fun f s'' hq => ?_) fun _ _ e => e.elim
  obtain ⟨σ', r', q⟩ := hq
  refine ⟨_, σ'.H, rfl, r'.hr.fz m, ?_⟩
  cases f <;> exact q

section
variable {A : Around} {n : En} {E : Exn} {σ : St}
theorem Room.creation {k : Nat} {C : Addr} {r : List Value} {kw : List (Str × Value)} (h : Room A (k + 1)) : Room (A.under (.builtin "type.__call__" ⟨.ref C :: r, kw⟩)) k := by
  have hw : (Code.builtin "type.__call__" ⟨.ref C :: r, kw⟩).weight = 1 := by rfl
  have hc : (Code.builtin "type.__call__" ⟨.ref C :: r, kw⟩).cUnits = 1 := by rfl
  refine ⟨h.h, ?_, ?_⟩
  · show A.depth + _ + k < 400; rw [hw]; have := h.d; omega
  · show A.units + _ + 8 * k < 2000; rw [hc]; have := h.u; omega
theorem frames_creation {C : Addr} {r : List Value} {kw : List (Str × Value)} : (A.under (.builtin "type.__call__" ⟨.ref C :: r, kw⟩)).frames = A.frames := rfl

structure MakeAttr (C fI : Addr) : Prop where
  mkb : ∀ P, makesIn (hd.heap_39 P) C = true
  ini : ∀ P, findIn (hd.heap_39 P) (.ref C) "__init__" = some (some (.ref fI))
  ty : ∀ P, typeIn (hd.heap_39 P) (.ref fI) = some (.type "function")
  kp : ∀ P, keepIn (hd.heap_39 P) (.ref C) = true
theorem mk_node : MakeAttr 76 72 := ⟨fun _ => by kernel_rfl, fun _ => by kernel_rfl, fun _ => by kernel_rfl, fun _ => by kernel_rfl⟩
theorem mk_sorter : MakeAttr 173 109 := ⟨fun _ => by kernel_rfl, fun _ => by kernel_rfl, fun _ => by kernel_rfl, fun _ => by kernel_rfl⟩

/-- an own object is made -/
inductive FnN (g : G) (k : Nat) (fI x : Addr) (args : List AV) (H : AH) (loc : Str → Option AV) (Q : AV → St → Prop) : Prop
  | mk (R : AV → AH → Prop) (h : FnOk g k fI (.ref x :: args) H R) (q : ∀ v H', R v H' → v = .none ∧ Q (.ref x) ⟨H', loc⟩)
theorem Call.make {k : Nat} {C fI : Addr} {args : List AV} {Q : AV → St → Prop} (M : MakeAttr C fI) (hroom : Room A (k + 1)) (hfr : A.frames = some (n.env :: n.outer)) (hk : n.env.scope.kind = .function) (hL : n.env.frame = some n.env.locals)
    (h : ∀ x dx, σ.H x = none → σ.H dx = none → x ≠ dx → FnN g k fI x args (upd (upd σ.H dx (.idict [])) x (.inst C dx [])) σ.loc Q) : Call g A n E (.ref C) args σ Q := fun cargs ha Z s r => by
  obtain ⟨hh, gg, d, t, os⟩ := s
  have r1 : Rel g Z n ⟨upd σ.H hh.objs.size (.idict []), σ.loc⟩ ⟨hh.push emptyDict, gg, d, t, os⟩ := r.alloc (co := emptyDict) ⟨[], 0, rfl, rfl⟩ rfl
  have r2 := r1.alloc (ao := .inst C hh.objs.size []) (co := instObj C hh.objs.size) ⟨#[], rfl, rfl⟩ rfl
  have hsz : (hh.push emptyDict).objs.size = hh.objs.size + 1 := Heap.size_push ..
  have hf1 : σ.H (hh.objs.size + 1) = none := r.hr.hnone (Heap.get?_none_of_le (Nat.le_succ _))
  obtain ⟨R, hR, hq⟩ := h (hh.objs.size + 1) hh.objs.size hf1 r.fresh (Nat.succ_ne_self _)
  have r2 : Rel g Z n ⟨upd (upd σ.H hh.objs.size (.idict [])) (hh.objs.size + 1) (.inst C hh.objs.size []), σ.loc⟩ ⟨(hh.push emptyDict).push (instObj C hh.objs.size), gg, d, t, os⟩ := by
    have := r2; rw [show (Shared.heap ⟨hh.push emptyDict, gg, d, t, os⟩) = hh.push emptyDict from rfl, hsz] at this; exact this
  refine wpAny_call (make_core (makes_of r.kin (M.mkb _)) (looks_findIn r.kin (M.ini _)) (fun self => bind_fn r.kin self (M.ty _)) (.inl rfl) ?_)
  refine codeAny_mono (hR _ Z _ (.ref (hh.objs.size + 1) :: cargs) _ (by simp [ha, er]) hroom.creation (frames_creation.trans hfr) (r2.frz hk hL) r2.hr) fun res s' hd => ?_
  obtain ⟨v, H', rfl, r', q⟩ := hd
  obtain ⟨e1, e2⟩ := hq _ _ q
  exact ⟨er_none e1, _, r2.back r', e2⟩

theorem Ok.callKeep {f : Value} {first : List Value} {pos : Pos} {es : List Expr} {P : Value → St → Prop} (hk : ∀ P, keepIn (hd.heap_39 P) f = true) (h : Evs g A n E es σ fun as σ₁ => ∀ vs, vs.map er = as → Ok g A n E (call f (first ++ vs)) σ₁ P) (hs : (starEach es n.env).all (fun x => !x.1) = true := by exact Mine.tt0) :
    Ok g A n E (callWith pos f first (backTo pos (starEach es n.env)) []) σ P := fun Z s r => by
  refine callWith_of (P := (hd.heap_39 g.w.params).In) (by rw [noStar_backTo hs]; rfl) (keeps_K (hk _)) ?_
  refine wpAny_mono (Ok.evalArgs (f := f) (P := fun a σ₁ => Ok g A n E (call f (first ++ a.pos) a.kw) σ₁ P) h hs Z s r) (fun a s₁ h₁ => ?_) fun _ _ e => e
  obtain ⟨σ₁, r₁, h₁⟩ := h₁
  exact ⟨r₁.kin, h₁ Z s₁ r₁⟩
/-- a call of an own class by its name -/
theorem Ev.callCls {f : Str} {fpos pos : Pos} {C fI : Addr} {es : List Expr} {Q : AV → St → Prop} (M : MakeAttr C fI) (hv : nsIn (hd.heap_39 g.w.params) mainGlobals f = some (some (.ref C)))
    (h : Evs g A n E es σ (QCall g A n E (.ref C) Q)) (hs : (starEach es n.env).all (fun x => !x.1) = true := by exact Mine.tt0)
    (hf : n.env.scope.kind = .function := by exact Mine.rfk) (hgl : n.env.globals = mainGlobals := by exact Mine.rfg) (hk : n.env.kindOf f = some .globalImplicit := by exact Mine.rfi) (hd : (f == ("__debug__" : Str)) = false := by exact Mine.ff0) :
    Ev g A n E (.Call (.Name f fpos) es [] pos) σ Q :=
  Ev.callName (fv := .ref C) (fun P hP => Ev.global hv hP hf hgl hk hd) (fun v hv => er_ref hv) (Ok.callKeep (first := []) M.kp (fun p => Ok.mono (h p) fun vs σ₁ h₁ vs' e => h₁ vs' e) hs)
end
end Mine
end

section
open PySem PySem.W PyProof.Rows PySem.Spec PySem.Calls
set_option Elab.async false
set_option maxRecDepth 100000
set_option linter.unusedVariables false
namespace Mine

/-! dicts by ints -/
noncomputable def storedA (es : List (Int × AV)) (k : Int) (v : AV) : List (Int × AV) := if es.any (fun p => p.1 = k) then es.map (fun p => if p.1 = k then (p.1, v) else p) else es ++ [(k, v)]
noncomputable def withoutA (es : List (Int × AV)) (k : Int) : List (Int × AV) := es.filter fun p => decide (p.1 ≠ k)
noncomputable def lookA (es : List (Int × AV)) (k : Int) : Option AV := (es.find? fun p => p.1 = k).map (·.2)
theorem stored_er (kvs : List (Int × Value)) (k : Int) (v : Value) : (stored kvs k v).map (fun p => (p.1, er p.2)) = storedA (kvs.map fun p => (p.1, er p.2)) k (er v) := by
  unfold stored storedA
  rw [List.any_map]
  simp only [Function.comp_def]
  split
  · simp only [List.map_map, Function.comp_def]
    refine List.map_congr_left fun p _ => ?_
    split <;> rfl
  · simp
theorem without_er (kvs : List (Int × Value)) (k : Int) : (without kvs k).map (fun p => (p.1, er p.2)) = withoutA (kvs.map fun p => (p.1, er p.2)) k := by
  unfold without withoutA
  rw [List.filter_map]; rfl
theorem valueAt_er (kvs : List (Int × Value)) (k : Int) : (valueAt kvs k).map er = lookA (kvs.map fun p => (p.1, er p.2)) k := by
  unfold valueAt lookA
  rw [List.find?_map]
  simp only [Option.map_map]; rfl

section
variable {g : G} {A : Around} {n : En} {E : Exn} {σ : St} {Z : Fz} {s : Shared}

theorem AO_of_dict {h : Heap} {d : Addr} {kvs : List (Int × Value)} (x : h.DictOf (intKind prog g.w) d kvs) : ∃ co ep, h.get? d = some co ∧ ORel (.dict (kvs.map fun p => (p.1, er p.2)) ep) co := by
  obtain ⟨o, ents, ep, ho, ⟨c1, c2, c3⟩, hd, hk, hp, hn⟩ := x
  obtain ⟨oc, od, dt, sl⟩ := o
  cases c1; cases c2; cases c3; cases hd
  refine ⟨_, ep, ho, ents, rfl, fun e he => ?_, ?_, ?_⟩
  · obtain ⟨k, q1, q2⟩ := hk e he
    obtain ⟨t, q⟩ := Value.isInt_shape q1
    exact ⟨k, t, q, q2⟩
  · have key : ∀ {el : List DictEntry} {kvs : List (Int × Value)}, Pairs (intKind prog g.w) el kvs → el.map (fun e => (er e.key, er e.val)) = (kvs.map fun p => (p.1, er p.2)).map (fun p => (AV.int p.1, p.2)) := by
      intro el kvs h
      induction h with
      | nil => rfl
      | cons h1 h2 _ ih =>
        obtain ⟨t, q⟩ := Value.isInt_shape h1
        simp only [List.map_cons, ih, q, h2]; rfl
    exact key hp
  · rw [List.map_map]; exact hn
theorem Rel.dictAt {d : Addr} {es : List (Int × AV)} {ep : Nat} (r : Rel g Z n σ s) (h : σ.H d = some (.dict es ep)) : ∃ kvs : List (Int × Value), s.heap.DictOf (intKind prog g.w) d kvs ∧ kvs.map (fun p => (p.1, er p.2)) = es ∧ (d == sysModules) = false := by
  obtain ⟨co, h1, h2⟩ := r.owned h
  obtain ⟨kvs, h3, h4⟩ := dictAt_of (g := g) h1 h2
  refine ⟨kvs, h3.dictOf, h4, ?_⟩
  rw [beq_eq_false_iff_ne]
  rintro rfl
  have := r.big h
  exact absurd sysModules_small (Nat.not_le.mpr this)
theorem is_int (k : Int) (t : Tok) (w : World) : (intKind prog w).is k (.int k t) = true := by simp [intKind, Value.isInt]
theorem Rel.setDict {d : Addr} {es es' : List (Int × AV)} {ep : Nat} {h' : Heap} {t : Nat} {kvs : List (Int × Value)} (r : Rel g Z n σ s) (h : σ.H d = some (.dict es ep)) (hd : h'.DictOf (intKind prog g.w) d kvs) (hs : Heap.SameBut d s.heap h') (he : kvs.map (fun p => (p.1, er p.2)) = es') :
    ∃ ep', Rel g Z n ⟨upd σ.H d (.dict es' ep'), σ.loc⟩ { s with heap := h', toks := t } := by
  obtain ⟨co, ep', h1, h2⟩ := AO_of_dict hd
  subst he
  exact ⟨ep', r.set (s' := { s with heap := h', toks := t }) h hs.extBut h1 h2⟩

theorem Ev.dictNil {pos : Pos} {Q : AV → St → Prop} (h : ∀ a, σ.H a = none → Q (.ref a) ⟨upd σ.H a (.dict [] 0), σ.loc⟩) : Ev g A n E (.Dict [] [] pos) σ Q := fun Z s r =>
  wpAny_Dict_empty ⟨_, r.alloc (ao := .dict [] 0) ⟨#[], rfl, fun e he => by simp at he, rfl, List.nodup_nil⟩ rfl, h _ r.fresh⟩
theorem len_er {kvs : List (Int × Value)} {es : List (Int × AV)} (h : kvs.map (fun p => (p.1, er p.2)) = es) : kvs.length = es.length := by rw [← h]; simp
theorem Git.dict {d : Addr} {es : List (Int × AV)} {ep : Nat} {k : Int} {x : AV} {Q : AV → St → Prop} (hd : σ.H d = some (.dict es ep)) (hx : lookA es k = some x) (h : Q x σ) : ∀ co ci, er co = .ref d → er ci = .int k → OkV g A n E (getItem co ci) σ Q := fun co ci e f Z s r => by
  rw [er_ref e]; obtain ⟨t, rfl⟩ := er_int f
  obtain ⟨kvs, h1, h2, h3⟩ := r.dictAt hd
  rw [← h2, ← valueAt_er, Option.map_eq_some_iff] at hx
  obtain ⟨v, q1, q2⟩ := hx
  exact wpAny_getItem_of (is_int k t g.w) h1.mapOf q1 ⟨σ, r.toks, by show Q (er v) σ; rw [q2]; exact h⟩
theorem SubT.dict {v sl : Expr} {d : Addr} {es : List (Int × AV)} {ep : Nat} {k : Int} {x : AV} {Q : AV → St → Prop} (hd : σ.H d = some (.dict es ep)) (hx : lookA es k = some x) (h : Q x σ)
    (hs : ∀ o i, subscripted sl false o i = operate [o, i] (getItem o i) := by intros; rfl) : SubT g A n E v sl (.ref d) (.int k) σ Q := fun co ci e f Z s r => by
  have st := Git.dict (g := g) (A := A) (n := n) (E := E) hd hx h co ci e f Z s r
  rw [er_ref e] at st ⊢
  obtain ⟨co', ho, hr⟩ := r.owned hd
  obtain ⟨ents, rfl, _⟩ := hr
  exact tail_any (T := "dict") ⟨_, ho, rfl⟩ slot_dict_getitem.lookup st (hs _ _)
/-- a store at a key -/
inductive DictP (K : Addr → List (Int × AV) → Int → St → Prop) (v k : AV) (σ₂ : St) : Prop
  | mk (d : Addr) (es : List (Int × AV)) (ep : Nat) (kk : Int) (hv : v = .ref d) (hk : k = .int kk) (h : σ₂.H d = some (.dict es ep)) (q : K d es kk σ₂)
theorem Asg.dict {o i : Expr} {pos : Pos} {x : AV} {Q : St → Prop} (h : Ev g A n E o σ fun v σ₁ => Ev g A n E i σ₁ (DictP (fun d es kk σ₂ => es.length ≤ 1000000 ∧ ∀ ep', Q ⟨upd σ₂.H d (.dict (storedA es kk x) ep'), σ₂.loc⟩) v)) :
    Asg g A n E (.Subscript o i pos) x σ Q := fun cv ecv => by
  refine Ok.eq (arm_assign_Subscript _ _ _ _ _) (Ok.bind (Ok.holding (Ok.mono h fun ov σ₁ h₁ => Ok.bind (Ok.holding (Ok.mono h₁ fun iv σ₂ h₂ => Ok.bind (Ok.standAt (Ok.bind (Ok.holding ?_))))))))
  obtain ⟨d, es, ep, kk, e1, e2, hd, hlen, hq⟩ := h₂
  intro Z s r
  rw [er_ref e1]; obtain ⟨t, rfl⟩ := er_int e2
  obtain ⟨kvs, h1, h2, h3⟩ := r.dictAt hd
  refine wpAny_setItem_pairs (is_int kk t g.w) h1 (fun h' hm hs => ?_) (by rw [len_er h2]; exact Nat.le_trans hlen (by decide))
  obtain ⟨ep', r'⟩ := r.setDict (t := s.toks + 1) hd hm hs (es' := storedA es kk x) (by rw [stored_er, h2, ecv])
  exact ⟨_, r', Ok.release (g := g) (A := A) (n := n) (E := E) (Q := fun _ σ' => Q σ') (hq ep')⟩
theorem meth_dget : MethOf "dict" "dict.get" "get" := ⟨F.plainAttrs_dict, F.slot_dict_get, F.type_dict_get⟩
theorem meth_dvalues : MethOf "dict" "dict.values" "values" := ⟨F.plainAttrs_dict, F.slot_dict_values, F.type_dict_values⟩
theorem meth_lpop : MethOf "list" "list.pop" "pop" := ⟨F.plainAttrs_list, F.slot_list_pop, F.type_list_pop⟩
theorem meth_lclear : MethOf "list" "list.clear" "clear" := ⟨F.plainAttrs_list, F.slot_list_clear, F.type_list_clear⟩
theorem meth_sadd : MethOf "set" "set.add" "add" := ⟨F.plainAttrs_set, F.slot_set_add, F.type_set_add⟩
theorem dictType {d : Addr} {es : List (Int × AV)} {ep : Nat} (hl : σ.H d = some (.dict es ep)) : ∀ cv Z s, er cv = .ref d → Rel g Z n σ s → s.TypeIs cv "dict" ∧ ∀ a, cv = .ref a → ∃ ob, s.heap.get? a = some ob ∧ ob.dict = none := fun cv Z s e r => by
  rw [er_ref e]
  obtain ⟨co, h1, ents, rfl, _⟩ := r.owned hl
  exact ⟨⟨_, h1, rfl⟩, fun a q => by cases q; exact ⟨_, h1, rfl⟩⟩
theorem Call.dget {d : Addr} {es : List (Int × AV)} {ep : Nat} {k : Int} {Q : AV → St → Prop} (hd : σ.H d = some (.dict es ep)) (h : Q ((lookA es k).getD .none) σ) : Call g A n E (.builtin "dict.get") [.ref d, .int k] σ Q := fun cargs ha Z s r => by
  obtain ⟨c, e, rfl, e1, e2⟩ := two_args ha
  rw [er_ref e1]; obtain ⟨t, rfl⟩ := er_int e2
  obtain ⟨kvs, h1, h2, h3⟩ := r.dictAt hd
  refine call_meetsIn F.slot_dict_get h1.typeIs F.entry_dict_get (F.args_dict_get_2 _ _) (meets_dict_get (intKind prog g.w) d (is_int k t g.w) h3) ⟨_, h1.mapOf, ?_⟩
  refine ⟨σ, r.toks, ?_⟩
  have : er ((valueAt kvs k).getD .none) = (lookA es k).getD .none := by
    rw [← h2, ← valueAt_er]; cases valueAt kvs k <;> rfl
  show Q _ σ
  rw [this]; exact h
theorem Call.dvalues {d : Addr} {es : List (Int × AV)} {ep : Nat} {Q : AV → St → Prop} (hd : σ.H d = some (.dict es ep)) (h : ∀ u, σ.H u = none → Q (.ref u) ⟨upd σ.H u (.dview d), σ.loc⟩) : Call g A n E (.builtin "dict.values") [.ref d] σ Q := fun cargs ha Z s r => by
  obtain ⟨c, rfl, e1⟩ := one_arg ha
  rw [er_ref e1]
  obtain ⟨kvs, h1, h2, h3⟩ := r.dictAt hd
  exact call_meetsIn F.slot_dict_values h1.typeIs F.entry_dict_values (F.args_dict_values_1 _) (meets_dict_values (intKind prog g.w) d h3) ⟨⟨_, h1⟩, _, r.alloc (ao := .dview d) rfl rfl, h _ r.fresh⟩
theorem Cmp.inDict {d : Addr} {es : List (Int × AV)} {ep : Nat} {k : Int} {Q : AV → St → Prop} (hd : σ.H d = some (.dict es ep)) (h : Q (.bool (lookA es k).isSome) σ) : Cmp g A n E .In (.int k) (.ref d) σ Q := fun ca cb e f Z s r => by
  obtain ⟨t, rfl⟩ := er_int e; rw [er_ref f]
  obtain ⟨kvs, h1, h2, h3⟩ := r.dictAt hd
  refine wpAny_in_of (is_int k t g.w) h3 h1.mapOf ⟨σ, r.toks, ?_⟩
  have : (valueAt kvs k).isSome = (lookA es k).isSome := by rw [← h2, ← valueAt_er]; cases valueAt kvs k <;> rfl
  show Q (.bool _) σ
  rw [this]; exact h
/-- del o[i] -/
theorem Ex.delDict {o i : Expr} {pos pos' : Pos} {Q : AFl → St → Prop} (h : Ev g A n E o σ fun v σ₁ => Ev g A n E i σ₁ (DictP (fun d es kk σ₂ => (lookA es kk).isSome = true ∧ es.length ≤ 1000000 ∧ ∀ ep', Q .next ⟨upd σ₂.H d (.dict (withoutA es kk) ep'), σ₂.loc⟩) v)) :
    Ex g A n E (.Delete [.Subscript o i pos] pos') σ Q := fun Z s r => by
  refine wpAny_Delete (wpAny_deleteEach_cons (wpAny_delete_Subscript (wpAny_mono (h Z s r) (fun ov s₁ h₁ => ?_) fun _ _ e => e)))
  obtain ⟨σ₁, r₁, h₁⟩ := h₁
  refine wpAny_mono (h₁ Z s₁ r₁) (fun iv s₂ h₂ => ?_) fun _ _ e => e
  obtain ⟨σ₂, r₂, d, es, ep, kk, e1, e2, hd, hx, hlen, hq⟩ := h₂
  rw [er_ref e1]; obtain ⟨t, rfl⟩ := er_int e2
  obtain ⟨kvs, h1, h2, h3⟩ := r₂.dictAt hd
  unfold delItem
  try with_reducible refine wpAny_holding ?_
  refine wpAny_bind (wpAny_sequenceKey h1.typeIs (by decide) ?_)
  refine wpAny_bind (wpAny_callSpecial?_slot (name := Str.ofString "__delitem__") h1.typeIs PySem.F.slot_dict_delitem
    (call_meetsIn PySem.F.slot_dict_delitem h1.typeIs PySem.F.entry_dict_delitem (PySem.F.args_dict_delitem_2 _ _) (meets_dict_delitem_pairs (intKind prog g.w) d (is_int kk t g.w)) ⟨kvs, h1, ?_, ?_, fun h' hm hs => ?_⟩))
  · rw [len_er h2]; exact Nat.le_trans hlen (by decide)
  · rw [← h2, ← valueAt_er] at hx; cases q : valueAt kvs kk with
    | none => rw [q] at hx; cases hx
    | some v => rfl
  · obtain ⟨ep', r'⟩ := r₂.setDict (t := s₂.toks + 1) hd hm hs (es' := withoutA es kk) (by rw [without_er, h2])
    exact wpAny_pure (wpAny_deleteEach_nil ⟨_, r', hq ep'⟩)

/-! sets of ints -/
theorem Rel.setAt {a : Addr} {S : List Int} (r : Rel g Z n σ s) (h : σ.H a = some (.iset S)) : s.heap.SetOf (intKind prog g.w) a (fun k => S.contains k) S.length := by
  obtain ⟨co, h1, h2, es, ep, t, h3, h4, h5, h6, h7, h8⟩ := r.owned h
  exact ⟨co, es, ep, t, h1, h2, h3, fun e he => ⟨(h4 e he).1, (h4 e he).2⟩, h5, h6, h7, h8⟩
theorem Call.setNew {Q : AV → St → Prop} (h : ∀ a, σ.H a = none → Q (.ref a) ⟨upd σ.H a (.iset []), σ.loc⟩) : Call g A n E (.type "set") [] σ Q := fun cargs ha Z s r => by
  have : cargs = [] := by cases cargs with
    | nil => rfl
    | cons _ _ => simp at ha
  subst this
  exact call_set_0 fun led => ⟨_, r.alloc (ao := .iset []) ⟨⟨rfl, rfl, rfl⟩, #[], 0, _, rfl, fun e he => by simp at he, fun k => by simp, by decide, by rfl, rfl⟩ rfl, h _ r.fresh⟩
theorem setType {a : Addr} {S : List Int} (hl : σ.H a = some (.iset S)) : ∀ cv Z s, er cv = .ref a → Rel g Z n σ s → s.TypeIs cv "set" ∧ ∀ a, cv = .ref a → ∃ ob, s.heap.get? a = some ob ∧ ob.dict = none := fun cv Z s e r => by
  rw [er_ref e]
  obtain ⟨co, h1, ⟨c1, c2, c3⟩, _⟩ := r.owned hl
  exact ⟨⟨_, h1, c1⟩, fun a q => by cases q; exact ⟨_, h1, c2⟩⟩
theorem Call.setAdd {a : Addr} {S : List Int} {k : Int} {Q : AV → St → Prop} (hl : σ.H a = some (.iset S)) (hk : S.contains k = false) (hlen : S.length ≤ 100) (h : Q .none ⟨upd σ.H a (.iset (S ++ [k])), σ.loc⟩) : Call g A n E (.builtin "set.add") [.ref a, .int k] σ Q := fun cargs ha Z s r => by
  obtain ⟨c, e, rfl, e1, e2⟩ := two_args ha
  rw [er_ref e1]; obtain ⟨t, rfl⟩ := er_int e2
  refine call_set_add (is_int k t g.w) rfl (r.setAt hl) (Nat.lt_of_le_of_lt (Nat.succ_le_succ hlen) (by decide)) fun h' hsb hS => ?_
  obtain ⟨o, es, ep, tt, q1, q2, q3, q4, q5, q6, q7, q8⟩ := hS
  refine ⟨_, r.set (s' := { s with heap := h', toks := s.toks + 1 }) (ao' := .iset (S ++ [k])) hl hsb.extBut q1 ⟨q2, es, ep, tt, q3, fun e he => ⟨(q4 e he).1, (q4 e he).2⟩, fun k' => ?_, q6, q7, ?_⟩, h⟩
  · refine Iff.trans ?_ (q5 k')
    simp only [List.contains_eq_mem, List.mem_append, List.mem_singleton, Bool.or_eq_true, decide_eq_true_eq]
  · rw [q8]; simp only [hk, Bool.false_eq_true, if_false, List.length_append, List.length_singleton]
theorem Cmp.inSet {a : Addr} {S : List Int} {k : Int} {Q : AV → St → Prop} (hl : σ.H a = some (.iset S)) (h : Q (.bool (S.contains k)) σ) : Cmp g A n E .In (.int k) (.ref a) σ Q := fun ca cb e f Z s r => by
  obtain ⟨t, rfl⟩ := er_int e; rw [er_ref f]
  exact wpAny_inSet_of (is_int k t g.w) rfl (r.setAt hl) ⟨σ, r.toks, h⟩

/-! lists: pop, clear, tuple, bool, truth; len of a tuple -/
theorem Call.lpop {l : Addr} {xs : List AV} {x : AV} {Q : AV → St → Prop} (hl : σ.H l = some (.list (xs ++ [x]))) (hlen : xs.length ≤ 100000) (h : Q x ⟨upd σ.H l (.list xs), σ.loc⟩) : Call g A n E (.builtin "list.pop") [.ref l] σ Q := fun cargs ha Z s r => by
  obtain ⟨c, rfl, e1⟩ := one_arg ha
  rw [er_ref e1]
  obtain ⟨i1, m1, h1, e1⟩ := r.listAt hl
  have s1 := size_of_map e1
  have s1' : i1.size = xs.length + 1 := by rw [s1]; simp
  obtain ⟨y, hy, ey⟩ := get_of_map (i := xs.length) (x := x) e1 (by simp)
  refine call_meets F.slot_list_pop ⟨_, h1, rfl⟩ F.entry_list_pop (F.args_list_pop_1 _) (MeetsSeq.list_pop_last l i1 m1 y (by rw [s1']; exact hy) (by rw [s1']; exact Nat.le_trans (Nat.succ_le_succ hlen) (by decide))) ⟨h1, _, r.setList (t := s.toks) (ys := xs) hl h1 ?_, by show Q (er y) _; rw [ey]; exact h⟩
  have : (i1.eraseIdxIfInBounds (i1.size - 1)).toList = i1.toList.take xs.length ++ i1.toList.drop (xs.length + 1) := by
    rw [s1', Array.eraseIdxIfInBounds, dif_pos (by omega), Array.toList_eraseIdx, List.eraseIdx_eq_take_drop_succ]; rfl
  rw [this, List.map_append, List.map_take, List.map_drop, e1]
  simp
theorem Call.lclear {l : Addr} {xs : List AV} {Q : AV → St → Prop} (hl : σ.H l = some (.list xs)) (hlen : xs.length ≤ 100000) (h : Q .none ⟨upd σ.H l (.list []), σ.loc⟩) : Call g A n E (.builtin "list.clear") [.ref l] σ Q := fun cargs ha Z s r => by
  obtain ⟨c, rfl, e1⟩ := one_arg ha
  rw [er_ref e1]
  obtain ⟨i1, m1, h1, e1⟩ := r.listAt hl
  have s1 := size_of_map e1
  exact call_meets F.slot_list_clear ⟨_, h1, rfl⟩ F.entry_list_clear (F.args_list_clear_1 _) (AutoSeq1.list_clear_list_0 l i1 m1 (by rw [s1]; exact Nat.le_trans hlen (by decide))) ⟨h1, _, r.setList (t := s.toks) (ys := []) hl h1 rfl, h⟩
theorem Call.tupleOf {l : Addr} {xs : List AV} {Q : AV → St → Prop} (hl : σ.H l = some (.list xs)) (hlen : xs.length ≤ 100000) (h : ∀ t, σ.H t = none → Q (.ref t) ⟨upd σ.H t (.tup xs), σ.loc⟩) : Call g A n E (.type "tuple") [.ref l] σ Q := fun cargs ha Z s r => by
  obtain ⟨c, rfl, e1⟩ := one_arg ha
  rw [er_ref e1]
  obtain ⟨i1, m1, h1, e1⟩ := r.listAt hl
  have s1 := size_of_map e1
  refine call_tuple_list ⟨_, h1, rfl, _, rfl⟩ (fun h' hk => ?_) (by rw [s1]; exact Nat.le_trans hlen (by decide))
  have r' : Rel g Z n σ { s with heap := h' } := r.ext hk
  exact ⟨_, r'.alloc (ao := .tup xs) ⟨_, _, rfl, e1⟩ rfl, h _ r'.fresh⟩
theorem Tru.list {l : Addr} {xs : List AV} {B : Bool → St → Prop} (hl : σ.H l = some (.list xs)) (hlen : xs.length ≤ 100000) (h : B (!xs.isEmpty) σ) : Tru g A n E (.ref l) σ B := fun ca e Z s r => by
  rw [er_ref e]
  obtain ⟨i1, m1, h1, e1⟩ := r.listAt hl
  have s1 := size_of_map e1
  refine wpAny_truthy_list ⟨_, h1, rfl, _, rfl⟩ (by rw [s1]; omega) ⟨σ, r.toks, ?_⟩
  have : i1.isEmpty = xs.isEmpty := by rw [← e1]; cases i1 with | mk l => cases l <;> rfl
  rw [this]; exact h
theorem Tru.none {B : Bool → St → Prop} (h : B false σ) : Tru g A n E .none σ B := fun ca e Z s r => by
  rw [er_none e]; exact wpAny_pure ⟨σ, r, h⟩
theorem Call.lenTup {l : Addr} {xs : List AV} {Q : AV → St → Prop} (hl : σ.H l = some (.tup xs)) (hlen : xs.length ≤ 1000000) (h : Q (.int xs.length) σ) : Call g A n E (.builtin "len") [.ref l] σ Q := fun cargs ha Z s r => by
  obtain ⟨c, rfl, h1⟩ := one_arg ha
  rw [er_ref h1]
  obtain ⟨i1, m1, h1, e1⟩ := r.tupAt hl
  have s1 := size_of_map e1
  exact PySem.P.len_tuple h1 (by omega) ⟨σ, r.toks, by show Q (.int (i1.size : Nat)) σ; rw [s1]; exact h⟩
theorem meets_bool_list (l : Addr) (items : Array Value) (hfit : (items.size : Int) < 2 ^ 63) :
    Meets (Builtin.«bool.__new__» ⟨[.type "bool", .ref l], []⟩) (fun _ R s => s.heap.IsList l items ∧ R (.ok (.ret (.bool (!items.isEmpty)))) { s with toks := s.toks + 1 + 1 }) :=
  Meets.of_wp fun prog w A R s hs => by
    obtain ⟨hp, g, d, tk, os⟩ := s
    obtain ⟨hl, hs⟩ := hs
    have f1 := F.conv_sub_bool
    repeat (any_goals (first | assumption | (with_reducible refine wpAny_truthy_list hl hfit ?_) | wp_step))
    all_goals first | exact ⟨_, rfl, hs⟩ | exact hs | skip
theorem Call.boolList {l : Addr} {xs : List AV} {Q : AV → St → Prop} (hl : σ.H l = some (.list xs)) (hlen : xs.length ≤ 100000) (h : Q (.bool (!xs.isEmpty)) σ) : Call g A n E (.type "bool") [.ref l] σ Q := fun cargs ha Z s r => by
  obtain ⟨c, rfl, e1⟩ := one_arg ha
  rw [er_ref e1]
  obtain ⟨i1, m1, h1, e1⟩ := r.listAt hl
  have s1 := size_of_map e1
  have : i1.isEmpty = xs.isEmpty := by rw [← e1]; cases i1 with | mk l => cases l <;> rfl
  exact call_bool_1 (meets_bool_list l i1 (by rw [s1]; omega)) ⟨⟨_, h1, rfl, _, rfl⟩, rfl, σ, r.toks, by show Q (.bool _) σ; rw [this]; exact h⟩

/-! is -/
theorem Cmp.isNone {a : AV} {Q : AV → St → Prop} (ha : plainV a = true) (h : Q (.bool (match a with | .none => true | _ => false)) σ) : Cmp g A n E .Is a .none σ Q := fun ca cb e f Z s r => by
  rw [er_none f]
  subst e
  cases ca <;> first
    | exact wpAny_is_self rfl ⟨σ, r, h⟩
    | exact wpAny_is_other rfl (by intro q; cases q) ⟨σ, r, h⟩
    | cases ha
theorem Cmp.isNotNone {a : AV} {Q : AV → St → Prop} (ha : plainV a = true) (h : Q (.bool (match a with | .none => false | _ => true)) σ) : Cmp g A n E .IsNot a .none σ Q := fun ca cb e f Z s r => by
  rw [er_none f]
  subst e
  cases ca <;> first
    | exact wpAny_isNot_self rfl ⟨σ, r, h⟩
    | exact wpAny_isNot_other rfl (by intro q; cases q) ⟨σ, r, h⟩
    | cases ha
theorem Cmp.isNotBool {a b : Bool} {Q : AV → St → Prop} (h : Q (.bool (a != b)) σ) : Cmp g A n E .IsNot (.bool a) (.bool b) σ Q := fun ca cb e f Z s r => by
  rw [er_bool e, er_bool f]
  refine wpAny_isNot_plain rfl ⟨σ, r, ?_⟩
  have : (!(Value.bool a == Value.bool b)) = (a != b) := by cases a <;> cases b <;> rfl
  show Q (.bool _) σ
  rw [this]; exact h
end
end Mine
end

section
open PySem PySem.W PyProof.Rows PySem.Spec PySem.Calls
set_option Elab.async false
set_option maxRecDepth 100000
set_option linter.unusedVariables false
namespace Mine

/-- a node of the sorter's -/
structure NR where
  k : Int
  b : Addr
  dx : Addr
  l : Addr
  np : Int
  succ : List Int
/-- the sorter -/
structure SR where
  a : Addr
  dx : Addr
  d : Addr
  ep : Nat
  nodes : List NR
  rn : Option (Addr × List Int)
  p : Int
  f : Int
noncomputable def nodeAO (n : NR) : AO := .inst 76 n.dx [some (.int n.k), some (.int n.np), some (.ref n.l)]
structure NR.At (H : AH) (n : NR) : Prop where
  inst : H n.b = some (nodeAO n)
  dict : H n.dx = some (.idict [])
  list : H n.l = some (.list (n.succ.map .int))
noncomputable def rnAV : Option (Addr × List Int) → AV
  | none => .none
  | some p => .ref p.1
noncomputable def rnL : Option (Addr × List Int) → List Addr
  | none => []
  | some p => [p.1]
noncomputable def SR.fields (S : SR) : List (Str × AV) := [(Str.ofString "_node2info", .ref S.d), (Str.ofString "_ready_nodes", rnAV S.rn), (Str.ofString "_npassedout", .int S.p), (Str.ofString "_nfinished", .int S.f)]
noncomputable def SR.entries (S : SR) : List (Int × AV) := S.nodes.map fun n => (n.k, .ref n.b)
noncomputable def SR.lists (S : SR) : List Addr := S.nodes.map (·.l) ++ rnL S.rn
structure SAt (H : AH) (S : SR) : Prop where
  inst : H S.a = some (.inst 173 S.dx [])
  idict : H S.dx = some (.idict S.fields)
  dict : H S.d = some (.dict S.entries S.ep)
  nodes : ∀ n ∈ S.nodes, n.At H
  ready : ∀ r ns, S.rn = some (r, ns) → H r = some (.list (ns.map .int))
  lists : S.lists.Nodup
  keys : (S.nodes.map (·.k)).Nodup
noncomputable def SR.addrs (S : SR) : List Addr := S.a :: S.dx :: S.d :: (S.nodes.flatMap (fun n => [n.b, n.dx, n.l]) ++ rnL S.rn)
/-- what stays -/
structure SFr (H : AH) (S : SR) (H' : AH) (S' : SR) : Prop where
  keep : ∀ x o, x ∉ S.addrs → H x = some o → H' x = some o
  fresh : ∀ x ∈ S'.addrs, x ∈ S.addrs ∨ H x = none
theorem SFr.refl (H : AH) (S : SR) : SFr H S H S := ⟨fun _ _ _ e => e, fun _ h => .inl h⟩
theorem SFr.trans {H H' H'' : AH} {S S' S'' : SR} (a : SFr H S H' S') (b : SFr H' S' H'' S'') : SFr H S H'' S'' := by
  refine ⟨fun x o hx e => b.keep x o (fun q => ?_) (a.keep x o hx e), fun x hx => ?_⟩
  · rcases a.fresh x q with q | q
    · exact hx q
    · rw [e] at q; cases q
  · rcases b.fresh x hx with q | q
    · exact a.fresh x q
    · cases h : H x with
      | none => exact .inr rfl
      | some o =>
        by_cases hm : x ∈ S.addrs
        · exact .inl hm
        · have := a.keep x o hm h; rw [q] at this; cases this
theorem SFr.new {H H' : AH} {S : SR} (e : HExt [] H H') : SFr H S H' S := ⟨fun x o _ h => e x o (by (exact nm0)) h, fun _ h => .inl h⟩
theorem SAt.ext {H H' : AH} {S : SR} (h : SAt H S) (e : HExt [] H H') : SAt H' S := by
  have e : ∀ x o, H x = some o → H' x = some o := fun x o q => e x o (by (exact nm0)) q
  exact ⟨e _ _ h.inst, e _ _ h.idict, e _ _ h.dict, fun n hn => ⟨e _ _ (h.nodes n hn).inst, e _ _ (h.nodes n hn).dict, e _ _ (h.nodes n hn).list⟩, fun r ns q => e _ _ (h.ready r ns q), h.lists, h.keys⟩

theorem NR.mem_addrs {S : SR} {n : NR} (h : n ∈ S.nodes) : n.b ∈ S.addrs ∧ n.dx ∈ S.addrs ∧ n.l ∈ S.addrs := by
  have : ∀ x ∈ [n.b, n.dx, n.l], x ∈ S.addrs := fun x hx => by
    unfold SR.addrs
    refine List.mem_cons_of_mem _ (List.mem_cons_of_mem _ (List.mem_cons_of_mem _ (List.mem_append_left _ (List.mem_flatMap.mpr ⟨n, h, hx⟩))))
  exact ⟨this _ (by simp), this _ (by simp), this _ (by simp)⟩
theorem SAt.uniq {H : AH} {S : SR} (h : SAt H S) {n m : NR} (hn : n ∈ S.nodes) (hm : m ∈ S.nodes) (e : n.k = m.k) : n = m := by
  have := h.keys
  have key : ∀ {l : List NR}, (l.map (·.k)).Nodup → n ∈ l → m ∈ l → n = m := by
    intro l
    induction l with
    | nil => intro _ h; cases h
    | cons x l ih =>
      intro hnd h1 h2
      rw [List.map_cons, List.nodup_cons] at hnd
      rcases List.mem_cons.mp h1 with a1 | a1
      · rcases List.mem_cons.mp h2 with a2 | a2
        · rw [a1, a2]
        · exact absurd (List.mem_map.mpr ⟨m, a2, by rw [← e, a1]⟩) hnd.1
      · rcases List.mem_cons.mp h2 with a2 | a2
        · exact absurd (List.mem_map.mpr ⟨n, a1, by rw [e, a2]⟩) hnd.1
        · exact ih hnd.2 a1 a2
  exact key this hn hm
theorem SAt.b_inj {H : AH} {S : SR} (h : SAt H S) {n m : NR} (hn : n ∈ S.nodes) (hm : m ∈ S.nodes) (e : n.b = m.b) : n = m := by
  have h1 := (h.nodes n hn).inst
  have h2 := (h.nodes m hm).inst
  rw [e, h2] at h1
  simp only [nodeAO, Option.some.injEq, AO.inst.injEq, List.cons.injEq, AV.int.injEq] at h1
  exact h.uniq hn hm h1.2.2.1.symm

/-- a node's object changes -/
noncomputable def setN (nodes : List NR) (k : Int) (f : NR → NR) : List NR := nodes.map fun n => if n.k = k then f n else n
theorem SAt.setNp {H : AH} {S : SR} (h : SAt H S) {n : NR} (hn : n ∈ S.nodes) (c : Int) :
    SAt (upd H n.b (nodeAO { n with np := c })) { S with nodes := setN S.nodes n.k fun m => { m with np := c } } := by
  have nb : ∀ x o, H x = some o → (∀ D dx fs, o ≠ .inst D dx fs) → upd H n.b (nodeAO { n with np := c }) x = some o := fun x o hx ho => by
    rw [upd_ne]; exact hx
    rintro rfl; rw [(h.nodes n hn).inst] at hx; cases hx; exact ho _ _ _ rfl
  refine ⟨?_, nb _ _ h.idict (by simp), ?_, ?_, fun r ns q => nb _ _ (h.ready r ns q) (by simp), ?_, ?_⟩
  · show upd H n.b _ S.a = _
    rw [upd_ne]; exact h.inst
    intro q; have := h.inst; rw [q, (h.nodes n hn).inst] at this; simp [nodeAO] at this
  · have : SR.entries { S with nodes := setN S.nodes n.k fun m => { m with np := c } } = S.entries := by
      unfold SR.entries setN
      rw [List.map_map]
      refine List.map_congr_left fun m _ => ?_
      simp only [Function.comp_apply]
      split <;> rfl
    rw [this]; exact nb _ _ h.dict (by simp)
  · intro m hm
    obtain ⟨m₀, hm0, rfl⟩ := List.mem_map.mp hm
    by_cases e : m₀.k = n.k
    · have := h.uniq hm0 hn e
      subst this
      rw [if_pos rfl]
      exact ⟨upd_same .., nb _ _ (h.nodes _ hn).dict (by simp), nb _ _ (h.nodes _ hn).list (by simp)⟩
    · rw [if_neg e]
      refine ⟨?_, nb _ _ (h.nodes _ hm0).dict (by simp), nb _ _ (h.nodes _ hm0).list (by simp)⟩
      rw [upd_ne]; exact (h.nodes _ hm0).inst
      intro q; exact e (by rw [h.b_inj hm0 hn q])
  · have : SR.lists { S with nodes := setN S.nodes n.k fun m => { m with np := c } } = S.lists := by
      unfold SR.lists setN
      rw [List.map_map]
      congr 1
      refine List.map_congr_left fun m _ => ?_
      simp only [Function.comp_apply]
      split <;> rfl
    rw [this]; exact h.lists
  · have : (setN S.nodes n.k fun m => { m with np := c }).map (·.k) = S.nodes.map (·.k) := by
      unfold setN
      rw [List.map_map]
      refine List.map_congr_left fun m _ => ?_
      simp only [Function.comp_apply]
      split <;> rfl
    exact this ▸ h.keys
theorem flat_setN {nodes : List NR} {k : Int} {f : NR → NR} (hf : ∀ n, (f n).b = n.b ∧ (f n).dx = n.dx ∧ (f n).l = n.l) : (setN nodes k f).flatMap (fun n => [n.b, n.dx, n.l]) = nodes.flatMap (fun n => [n.b, n.dx, n.l]) := by
  unfold setN
  rw [List.flatMap_map]
  congr 1
  funext n
  split
  · rw [(hf n).1, (hf n).2.1, (hf n).2.2]
  · rfl
theorem SFr.setN {H : AH} {S : SR} {k : Int} {f : NR → NR} (hf : ∀ n, (f n).b = n.b ∧ (f n).dx = n.dx ∧ (f n).l = n.l) {x : Addr} (hx : x ∈ S.addrs) {o : AO} : SFr H S (upd H x o) { S with nodes := Mine.setN S.nodes k f } := by
  refine ⟨fun y ob hy e => ?_, fun y hy => .inl ?_⟩
  · rw [upd_ne]; exact e
    rintro rfl; exact hy hx
  · unfold SR.addrs at hy ⊢
    rw [flat_setN hf] at hy
    exact hy
/-- a node's list changes -/
theorem SAt.setSucc {H : AH} {S : SR} (h : SAt H S) {n : NR} (hn : n ∈ S.nodes) (ss : List Int) :
    SAt (upd H n.l (.list (ss.map .int))) { S with nodes := setN S.nodes n.k fun m => { m with succ := ss } } := by
  have nb : ∀ x o, H x = some o → (∀ xs, o ≠ .list xs) → upd H n.l (.list (ss.map .int)) x = some o := fun x o hx ho => by
    rw [upd_ne]; exact hx
    rintro rfl; rw [(h.nodes n hn).list] at hx; cases hx; exact ho _ rfl
  have hln := h.lists
  unfold SR.lists at hln
  rw [List.nodup_append] at hln
  obtain ⟨hl1, hl2, hl3⟩ := hln
  have linj : ∀ m ∈ S.nodes, m.l = n.l → m = n := by
    have key : ∀ {l : List NR}, (l.map (·.l)).Nodup → ∀ m ∈ l, ∀ n ∈ l, m.l = n.l → m = n := by
      intro l
      induction l with
      | nil => intro _ m h; cases h
      | cons x l ih =>
        intro hnd m h1 n h2 e
        rw [List.map_cons, List.nodup_cons] at hnd
        rcases List.mem_cons.mp h1 with a1 | a1
        · rcases List.mem_cons.mp h2 with a2 | a2
          · rw [a1, a2]
          · exact absurd (List.mem_map.mpr ⟨n, a2, by rw [← e, a1]⟩) hnd.1
        · rcases List.mem_cons.mp h2 with a2 | a2
          · exact absurd (List.mem_map.mpr ⟨m, a1, by rw [e, a2]⟩) hnd.1
          · exact ih hnd.2 m a1 n a2 e
    exact fun m hm e => key hl1 m hm n hn e
  refine ⟨nb _ _ h.inst (by simp), nb _ _ h.idict (by simp), ?_, ?_, fun r ns q => ?_, ?_, ?_⟩
  · have : SR.entries { S with nodes := setN S.nodes n.k fun m => { m with succ := ss } } = S.entries := by
      unfold SR.entries setN
      rw [List.map_map]
      refine List.map_congr_left fun m _ => ?_
      simp only [Function.comp_apply]
      split <;> rfl
    rw [this]; exact nb _ _ h.dict (by simp)
  · intro m hm
    obtain ⟨m₀, hm0, rfl⟩ := List.mem_map.mp hm
    by_cases e : m₀.k = n.k
    · have := h.uniq hm0 hn e
      subst this
      rw [if_pos rfl]
      exact ⟨nb _ _ (h.nodes _ hn).inst (by simp [nodeAO]), nb _ _ (h.nodes _ hn).dict (by simp), upd_same ..⟩
    · rw [if_neg e]
      refine ⟨nb _ _ (h.nodes _ hm0).inst (by simp [nodeAO]), nb _ _ (h.nodes _ hm0).dict (by simp), ?_⟩
      rw [upd_ne]; exact (h.nodes _ hm0).list
      intro q; exact e (by rw [linj _ hm0 q])
  · rw [upd_ne]; exact h.ready r ns q
    have q' : S.rn = some (r, ns) := q
    intro e
    exact hl3 n.l (List.mem_map.mpr ⟨n, hn, rfl⟩) r (by rw [q']; simp [rnL]) e.symm
  · have : SR.lists { S with nodes := setN S.nodes n.k fun m => { m with succ := ss } } = S.lists := by
      unfold SR.lists setN
      rw [List.map_map]
      congr 1
      refine List.map_congr_left fun m _ => ?_
      simp only [Function.comp_apply]
      split <;> rfl
    rw [this]; exact h.lists
  · have : (setN S.nodes n.k fun m => { m with succ := ss }).map (·.k) = S.nodes.map (·.k) := by
      unfold setN
      rw [List.map_map]
      refine List.map_congr_left fun m _ => ?_
      simp only [Function.comp_apply]
      split <;> rfl
    exact this ▸ h.keys
/-- the ready list changes -/
theorem SAt.setReady {H : AH} {S : SR} (h : SAt H S) {r : Addr} {ns : List Int} (hr : S.rn = some (r, ns)) (ms : List Int) : SAt (upd H r (.list (ms.map .int))) { S with rn := some (r, ms) } := by
  have nb : ∀ x o, H x = some o → (∀ xs, o ≠ .list xs) → upd H r (.list (ms.map .int)) x = some o := fun x o hx ho => by
    rw [upd_ne]; exact hx
    rintro rfl; rw [h.ready _ _ hr] at hx; cases hx; exact ho _ rfl
  have hln := h.lists
  unfold SR.lists at hln
  rw [hr, List.nodup_append] at hln
  obtain ⟨hl1, hl2, hl3⟩ := hln
  refine ⟨nb _ _ h.inst (by simp), ?_, nb _ _ h.dict (by simp), fun m hm => ⟨nb _ _ (h.nodes _ hm).inst (by simp [nodeAO]), nb _ _ (h.nodes _ hm).dict (by simp), ?_⟩, fun r' ns' q => ?_, ?_, h.keys⟩
  · have : SR.fields { S with rn := some (r, ms) } = S.fields := by unfold SR.fields; rw [hr]; rfl
    rw [this]; exact nb _ _ h.idict (by simp)
  · rw [upd_ne]; exact (h.nodes _ hm).list
    intro q; exact hl3 m.l (List.mem_map.mpr ⟨m, hm, rfl⟩) r (by simp [rnL]) q
  · cases q; exact upd_same ..
  · unfold SR.lists; rw [List.nodup_append]; exact ⟨hl1, hl2, hl3⟩
theorem SFr.setReady {H : AH} {S : SR} {r : Addr} {ns ms : List Int} (hr : S.rn = some (r, ns)) {o : AO} : SFr H S (upd H r o) { S with rn := some (r, ms) } := by
  have hm : r ∈ S.addrs := by unfold SR.addrs; rw [hr]; simp [rnL]
  refine ⟨fun y ob hy e => ?_, fun y hy => .inl ?_⟩
  · rw [upd_ne]; exact e
    rintro rfl; exact hy hm
  · unfold SR.addrs at hy ⊢; rw [hr]; exact hy
/-- the sorter's fields change -/
theorem SAt.setFields {H : AH} {S : SR} (h : SAt H S) {p f : Int} {fs : List (Str × AV)} (hf : fs = SR.fields { S with p := p, f := f }) : SAt (upd H S.dx (.idict fs)) { S with p := p, f := f } := by
  subst hf
  have hne : S.fields ≠ [] := by simp [SR.fields]
  have nb : ∀ x o, H x = some o → (∀ xs, o = .idict xs → xs = []) → upd H S.dx (.idict (SR.fields { S with p := p, f := f })) x = some o := fun x o hx ho => by
    rw [upd_ne]; exact hx
    rintro rfl; rw [h.idict] at hx; cases hx; exact hne (ho _ rfl)
  exact ⟨nb _ _ h.inst (by simp), upd_same .., nb _ _ h.dict (by simp), fun m hm => ⟨nb _ _ (h.nodes _ hm).inst (by simp [nodeAO]), nb _ _ (h.nodes _ hm).dict (by simp), nb _ _ (h.nodes _ hm).list (by simp)⟩, fun r ns q => nb _ _ (h.ready r ns q) (by simp), h.lists, h.keys⟩
/-- the ready list is laid -/
theorem SAt.setRn {H : AH} {S : SR} (h : SAt H S) {r : Addr} {ns : List Int} {fs : List (Str × AV)} (h0 : S.rn = none) (hl : H r = some (.list (ns.map .int))) (hr : r ∉ S.addrs) (hf : fs = SR.fields { S with rn := some (r, ns) }) : SAt (upd H S.dx (.idict fs)) { S with rn := some (r, ns) } := by
  subst hf
  have hne : S.fields ≠ [] := by simp [SR.fields]
  have nb : ∀ x o, H x = some o → (∀ xs, o = .idict xs → xs = []) → upd H S.dx (.idict (SR.fields { S with rn := some (r, ns) })) x = some o := fun x o hx ho => by
    rw [upd_ne]; exact hx
    rintro rfl; rw [h.idict] at hx; cases hx; exact hne (ho _ rfl)
  refine ⟨nb _ _ h.inst (by simp), upd_same .., nb _ _ h.dict (by simp), fun m hm => ⟨nb _ _ (h.nodes _ hm).inst (by simp [nodeAO]), nb _ _ (h.nodes _ hm).dict (by simp), nb _ _ (h.nodes _ hm).list (by simp)⟩, fun r' ns' q => by cases q; exact nb _ _ hl (by simp), ?_, h.keys⟩
  have := h.lists
  unfold SR.lists at this ⊢
  rw [h0] at this
  simp only [rnL, List.append_nil] at this ⊢
  rw [List.nodup_append]
  refine ⟨this, by simp, fun x hx y hy e => ?_⟩
  simp only [List.mem_singleton] at hy
  subst hy; subst e
  obtain ⟨m, hm, rfl⟩ := List.mem_map.mp hx
  exact hr (NR.mem_addrs hm).2.2
/-- a new node -/
theorem SAt.addNode {H : AH} {S : SR} (h : SAt H S) {n : NR} {ep : Nat} (hn : n.At H) (hk : n.k ∉ S.nodes.map (·.k)) (h1 : n.l ∉ S.addrs) : SAt (upd H S.d (.dict (S.entries ++ [(n.k, .ref n.b)]) ep)) { S with nodes := S.nodes ++ [n], ep := ep } := by
  have nb : ∀ x o, H x = some o → (∀ xs e, o ≠ .dict xs e) → upd H S.d (.dict (S.entries ++ [(n.k, .ref n.b)]) ep) x = some o := fun x o hx ho => by
    rw [upd_ne]; exact hx
    rintro rfl; rw [h.dict] at hx; cases hx; exact ho _ _ rfl
  refine ⟨nb _ _ h.inst (by simp), nb _ _ h.idict (by simp), ?_, fun m hm => ?_, fun r ns q => nb _ _ (h.ready r ns q) (by simp), ?_, ?_⟩
  · show upd H S.d _ S.d = _
    rw [upd_same]; simp [SR.entries]
  · have : m.At H := by
      rcases List.mem_append.mp hm with hm | hm
      · exact h.nodes m hm
      · simp at hm; subst hm; exact hn
    exact ⟨nb _ _ this.inst (by simp [nodeAO]), nb _ _ this.dict (by simp), nb _ _ this.list (by simp)⟩
  · have := h.lists
    unfold SR.lists at this ⊢
    rw [List.map_append, List.append_assoc, List.nodup_append]
    rw [List.nodup_append] at this
    obtain ⟨q1, q2, q3⟩ := this
    have nl1 : n.l ∉ S.nodes.map (·.l) := fun q => by obtain ⟨m, hm, e⟩ := List.mem_map.mp q; exact h1 (e ▸ (NR.mem_addrs hm).2.2)
    have nl2 : n.l ∉ rnL S.rn := fun q => h1 (by unfold SR.addrs; simp [q])
    refine ⟨q1, ?_, fun x hx y hy e => ?_⟩
    · simp only [List.map_cons, List.map_nil, List.cons_append, List.nil_append, List.nodup_cons]; exact ⟨nl2, q2⟩
    · rcases List.mem_append.mp hy with hy | hy
      · simp at hy; subst hy; subst e; exact nl1 hx
      · exact q3 x hx y hy e
  · rw [List.map_append, List.nodup_append]
    refine ⟨h.keys, by simp, fun x hx y hy e => ?_⟩
    simp at hy; subst hy; subst e; exact hk hx
end Mine
end

section
open PySem PySem.W PyProof.Rows PySem.Spec PySem.Calls
set_option Elab.async false
set_option maxRecDepth 100000
set_option linter.unusedVariables false
namespace Mine

noncomputable def fdNI : { fd : FuncData // ∀ P, (hd.heap_39 P).lookup 72 = some ⟨.type "function", none, .func fd, #[]⟩ } := ⟨_, fun _ => rfl⟩
noncomputable def fdTI : { fd : FuncData // ∀ P, (hd.heap_39 P).lookup 109 = some ⟨.type "function", none, .func fd, #[]⟩ } := ⟨_, fun _ => rfl⟩
noncomputable def fdGN : { fd : FuncData // ∀ P, (hd.heap_39 P).lookup 116 = some ⟨.type "function", none, .func fd, #[]⟩ } := ⟨_, fun _ => rfl⟩
noncomputable def fdAdd : { fd : FuncData // ∀ P, (hd.heap_39 P).lookup 123 = some ⟨.type "function", none, .func fd, #[]⟩ } := ⟨_, fun _ => rfl⟩

theorem putA_le {x : Str} {v : AV} {fs : List (Str × AV)} {n : Nat} (h : fs.length ≤ n) : (putA x v fs).length ≤ n + 1 := Nat.le_trans (putA_len ..) (Nat.succ_le_succ h)
theorem ne_of_H {H : AH} {a b : Addr} {o : AO} (h : H a = some o) (h' : H b = none) : a ≠ b := fun q => by rw [q, h'] at h; cases h

theorem ninit_ok (g : G) (x dx : Addr) (k : Int) (H : AH) (h1 : H x = some (.inst 76 dx [])) (h2 : H dx = some (.idict [])) :
    FnOk g 1 72 [.ref x, .int k] H fun v H' => v = .none ∧ ∃ l, C4 (H l = none) (H' l = some (.list [])) (H' x = some (.inst 76 dx [some (.int k), some (.int 0), some (.ref l)])) (∀ y o, y ≠ x → H y = some o → H' y = some o) := by
  refine FnOk.of_body (abinds := [(Str.ofString "self", .ref x), (Str.ofString "node", .int k)]) (fdNI.2 _) rfl rfl rfl rfl ?_ rfl ?_
  · intro cargs hc
    obtain ⟨a, b, rfl, e1, e2⟩ := two_args hc
    exact ⟨[(Str.ofString "self", a), (Str.ofString "node", b)], rfl, by simp [e1, e2]⟩
  intro A L outer room fr
  have hdx : dx ≠ x := fun q => by rw [q, h1] at h2; cases h2
  walk_at "m1"
  refine Ex.assignT1 ?_
  (repeat walk_at "m1")
  refine Asg.attr ?_
  (repeat walk_at "m1")
  refine Sat.slot slot_node h1 h2 (by decide) ?_
  walk_at "m1"
  refine Ex.assignT1 ?_
  (repeat walk_at "m1")
  refine Asg.attr ?_
  (repeat walk_at "m1")
  refine Sat.slot slot_np (upd_same ..) (by show upd _ _ _ _ = _; rw [upd_ne hdx]; exact h2) (by decide) ?_
  walk_at "m1"
  refine Ex.assignT1 ?_
  (repeat walk_at "m1")
  refine ⟨by (exact Nat.le_of_ble_eq_true rfl), fun l hl => ?_⟩
  refine Asg.attr ?_
  (repeat walk_at "m1")
  dsimp only at hl ⊢
  rw [upd_upd] at hl ⊢
  have hlx : l ≠ x := fun q => by rw [q] at hl; simp at hl
  have hld : H l = none := by rw [upd_ne hlx] at hl; exact hl
  refine Sat.slot slot_succ (fs := [some (.int k), some (.int 0)]) (dx := dx) (es := []) ?_ ?_ (by decide) ?_
  · show upd (upd H x _) l _ x = _
    rw [upd_ne (Ne.symm hlx), upd_same]; rfl
  · show upd (upd H x _) l _ dx = _
    rw [upd_ne (ne_of_H h2 hld), upd_ne hdx]; exact h2
  (repeat walk_at "m1")
  refine ⟨rfl, l, hld, ?_, upd_same .., fun y o hy e => ?_⟩
  · show upd (upd (upd H x _) l _) x _ l = _
    rw [upd_ne hlx, upd_same]
  · show upd (upd (upd H x _) l _) x _ y = _
    rw [upd_ne hy, upd_ne (ne_of_H e hld), upd_ne hy]; exact e

theorem sinit_ok (g : G) (x dx : Addr) (H : AH) (h1 : H x = some (.inst 173 dx [])) (h2 : H dx = some (.idict [])) :
    FnOk g 1 109 [.ref x] H fun v H' => v = .none ∧ E2 fun d ep => C3 (H d = none) (SAt H' ⟨x, dx, d, ep, [], none, 0, 0⟩) (∀ y o, y ≠ dx → H y = some o → H' y = some o) := by
  refine FnOk.of_bodyW (abinds := [(Str.ofString "self", .ref x), (Str.ofString "graph", .none)]) (fdTI.2 _) rfl rfl rfl rfl ?_ rfl ?_
  · intro cargs hc
    obtain ⟨a, rfl, e1⟩ := one_arg hc
    exact ⟨[(Str.ofString "self", a), (Str.ofString "graph", .none)], fun S => rfl, by simp [e1]; rfl⟩
  intro A L outer room fr
  have hdx : x ≠ dx := fun q => by rw [q, h2] at h1; cases h1
  walk_at "m1"
  refine Ex.assignT1 ?_
  refine Ev.dictNil fun d hd => ?_
  refine Asg.attr ?_
  (repeat walk_at "m1")
  dsimp only at hd ⊢
  have n1 := ne_of_H h1 hd
  have n2 := ne_of_H h2 hd
  refine Sat.own own_n2i (dx := dx) (fs := []) (es := []) (by show upd _ _ _ _ = _; rw [upd_ne n1]; exact h1) (by show upd _ _ _ _ = _; rw [upd_ne n2]; exact h2) (by (exact Nat.le_of_ble_eq_true rfl)) ?_
  walk_at "m1"
  refine Ex.assignT1 ?_
  (repeat walk_at "m1")
  refine Asg.attr ?_
  (repeat walk_at "m1")
  refine Sat.own own_ready (dx := dx) (fs := []) (by show upd (upd _ _ _) _ _ _ = _; rw [upd_ne hdx, upd_ne n1]; exact h1) (upd_same ..) (Nat.le_trans (putA_le (n := 0) (Nat.le_refl 0)) (by decide)) ?_
  walk_at "m1"
  refine Ex.assignT1 ?_
  (repeat walk_at "m1")
  refine Asg.attr ?_
  (repeat walk_at "m1")
  try dsimp only
  rw [upd_upd]
  refine Sat.own own_passed (dx := dx) (fs := []) (by show upd (upd _ _ _) _ _ _ = _; rw [upd_ne hdx, upd_ne n1]; exact h1) (upd_same ..) (Nat.le_trans (putA_le (putA_le (n := 0) (Nat.le_refl 0))) (by decide)) ?_
  walk_at "m1"
  refine Ex.assignT1 ?_
  (repeat walk_at "m1")
  refine Asg.attr ?_
  (repeat walk_at "m1")
  try dsimp only
  rw [upd_upd]
  refine Sat.own own_fin (dx := dx) (fs := []) (by show upd (upd _ _ _) _ _ _ = _; rw [upd_ne hdx, upd_ne n1]; exact h1) (upd_same ..) (Nat.le_trans (putA_le (putA_le (putA_le (n := 0) (Nat.le_refl 0)))) (by decide)) ?_
  try dsimp only
  rw [upd_upd]
  walk_at "m1"
  walk_at "m1"
  walk_at "m1"
  walk_at "m1"
  walk_at "m1"
  refine Cmp.isNotNone rfl ⟨_, rfl, ?_⟩
  show Exs _ _ _ _ _ _ _
  (repeat walk_at "m1")
  refine ⟨rfl, d, 0, hd, ⟨?_, upd_same .., ?_, fun n hn => by simp at hn, fun r ns q => (by cases q), by simp [SR.lists, rnL], by simp⟩, fun y o hy e => ?_⟩
  · show upd (upd _ _ _) _ _ _ = _; rw [upd_ne hdx, upd_ne n1]; exact h1
  · show upd (upd _ _ _) _ _ _ = _; rw [upd_ne (Ne.symm n2), upd_same]; rfl
  · show upd (upd _ _ _) _ _ _ = _; rw [upd_ne hy, upd_ne (ne_of_H e hd)]; exact e
end Mine
end

section
open PySem PySem.W PyProof.Rows PySem.Spec PySem.Calls
set_option Elab.async false
set_option maxRecDepth 100000
set_option linter.unusedVariables false
namespace Mine

theorem lookA_entries (nodes : List NR) (k : Int) : lookA (nodes.map fun n => (n.k, AV.ref n.b)) k = (nodes.find? fun n => n.k = k).map fun n => .ref n.b := by
  unfold lookA
  rw [List.find?_map, Option.map_map]; rfl
theorem find_some_iff {nodes : List NR} {k : Int} : (nodes.find? fun n => n.k = k) = none ↔ k ∉ nodes.map (·.k) := by
  rw [List.find?_eq_none]
  simp only [decide_eq_true_eq, List.mem_map, not_exists, not_and]
noncomputable def lgc (nodes : List NR) : List (Int × Int × List Int) := nodes.map fun n => (n.k, n.np, n.succ)

/-- what a call of _get_nodeinfo leaves -/
structure GotN (H : AH) (S : SR) (k : Int) (v : AV) (H' : AH) (nodes : List NR) (ep : Nat) (n : NR) : Prop where
  at_ : SAt H' { S with nodes := nodes, ep := ep }
  fr : SFr H S H' { S with nodes := nodes, ep := ep }
  mem : n ∈ nodes
  key : n.k = k
  val : v = .ref n.b
  lg : lgc nodes = if k ∈ S.nodes.map (·.k) then lgc S.nodes else lgc S.nodes ++ [(k, 0, [])]

theorem gni_ok (g : G) (S : SR) (k : Int) (H : AH) (h : SAt H S) (hlen : S.nodes.length ≤ 1000) :
    FnOk g 3 116 [.ref S.a, .int k] H fun v H' => E3 fun nodes ep n => GotN H S k v H' nodes ep n := by
  refine FnOk.of_body (abinds := [(Str.ofString "self", .ref S.a), (Str.ofString "node", .int k)]) (fdGN.2 _) rfl rfl rfl rfl ?_ rfl ?_
  · intro cargs hc
    obtain ⟨a, b, rfl, e1, e2⟩ := two_args hc
    exact ⟨[(Str.ofString "self", a), (Str.ofString "node", b)], rfl, by simp [e1, e2]⟩
  intro A L outer room fr
  walk_at "m1"
  walk_at "m1"
  refine Tst.compare (Ev.namedExpr (Ev.method (Ev.attr (Ev.name rfl (Gat.own own_n2i h.inst h.idict rfl rfl ⟨"dict", "dict.get", meth_dget, dictType h.dict, ?_⟩)))))
  (repeat walk_at "m1")
  refine Call.dget h.dict ?_
  have hE : lookA S.entries k = (S.nodes.find? fun n => n.k = k).map fun n => .ref n.b := lookA_entries _ _
  rw [hE]
  cases hf : (S.nodes.find? fun n => n.k = k) with
  | some n =>
    dsimp only [Option.map_some, Option.getD_some]
    (repeat walk_at "m1")
    refine Cmp.isNone rfl ⟨_, rfl, ?_⟩
    show Exs _ _ _ _ _ _ _
    (repeat walk_at "m1")
    have hm : n ∈ S.nodes := List.mem_of_find?_eq_some hf
    have hk : n.k = k := by simpa using List.find?_some hf
    refine ⟨S.nodes, S.ep, n, h, SFr.refl _ _, hm, hk, rfl, ?_⟩
    rw [if_pos (List.mem_map.mpr ⟨n, hm, hk⟩)]
  | none =>
    dsimp only [Option.map_none, Option.getD_none]
    (repeat walk_at "m1")
    refine Cmp.isNone rfl ⟨_, rfl, ?_⟩
    show Exs _ _ _ _ _ _ _
    walk_at "m1"
    have hk := find_some_iff.mp hf
    refine Ex.assignT2 (Ev.callCls mk_node rfl ?_)
    (repeat walk_at "m1")
    refine Call.make mk_node (room.mono (by (exact Nat.le_refl _) : 2 ≤ 2)) fr rfl rfl fun x dx hx hdx hxd => ?_
    dsimp only at hx hdx ⊢
    have h1 : upd (upd H dx (.idict [])) x (.inst 76 dx []) x = some (.inst 76 dx []) := upd_same ..
    have h2 : upd (upd H dx (.idict [])) x (.inst 76 dx []) dx = some (.idict []) := by rw [upd_ne (Ne.symm hxd), upd_same]
    refine ⟨_, ninit_ok g x dx k _ h1 h2, ?_⟩
    rintro v H1 ⟨rfl, l, hl, q1, q2, q3⟩
    refine ⟨rfl, ?_⟩
    have lx : l ≠ x := fun q => by rw [q, h1] at hl; cases hl
    have ld : l ≠ dx := fun q => by rw [q, h2] at hl; cases hl
    have hlH : H l = none := by rw [upd_ne lx, upd_ne ld] at hl; exact hl
    have e0 : HExt [] H H1 := fun y o _ hy => by
      refine q3 y o (ne_of_H hy hx) ?_
      rw [upd_ne (ne_of_H hy hx), upd_ne (ne_of_H hy hdx)]; exact hy
    have hdx1 : H1 dx = some (.idict []) := q3 dx _ (Ne.symm hxd) h2
    have hS := h.ext e0
    refine Asg.dict (Ev.attr (Ev.name rfl (Gat.own own_n2i hS.inst hS.idict rfl rfl ?_)))
    (repeat walk_at "m1")
    refine ⟨S.d, S.entries, S.ep, k, rfl, rfl, hS.dict, by unfold SR.entries; simp; (with_reducible exact Nat.le_trans (by assumption) (by decide)), fun ep' => ?_⟩
    refine Asg.name ?_
    (repeat walk_at "m1")
    have hst : storedA S.entries k (.ref x) = S.entries ++ [(k, .ref x)] := by
      unfold storedA
      rw [if_neg]
      unfold SR.entries
      simp only [List.any_map, List.any_eq_true, Function.comp_apply, decide_eq_true_eq, not_exists, not_and]
      exact fun n hn e => hk (List.mem_map.mpr ⟨n, hn, e⟩)
    have nin : ∀ y, H y = none → y ∉ S.addrs := fun y hy hm => by
      unfold SR.addrs at hm
      rcases List.mem_cons.mp hm with rfl | hm
      · rw [h.inst] at hy; cases hy
      rcases List.mem_cons.mp hm with rfl | hm
      · rw [h.idict] at hy; cases hy
      rcases List.mem_cons.mp hm with rfl | hm
      · rw [h.dict] at hy; cases hy
      rcases List.mem_append.mp hm with hm | hm
      · obtain ⟨n, hn, hm⟩ := List.mem_flatMap.mp hm
        have := h.nodes n hn
        simp only [List.mem_cons, List.not_mem_nil, or_false] at hm
        rcases hm with rfl | rfl | rfl
        · rw [this.inst] at hy; cases hy
        · rw [this.dict] at hy; cases hy
        · rw [this.list] at hy; cases hy
      · cases q : S.rn with
        | none => rw [q] at hm; cases hm
        | some p =>
          rw [q] at hm; simp [rnL] at hm; subst hm
          rw [h.ready _ _ q] at hy; cases hy
    have nw : NR.At H1 ⟨k, x, dx, l, 0, []⟩ := ⟨q2, hdx1, q1⟩
    have key := hS.addNode (ep := ep') nw (by exact hk) (nin l hlH)
    refine ⟨S.nodes ++ [⟨k, x, dx, l, 0, []⟩], ep', ⟨k, x, dx, l, 0, []⟩, ?_, ⟨fun y o hy e => ?_, fun y hy => ?_⟩, by simp, rfl, rfl, ?_⟩
    · show SAt (upd H1 S.d (.dict (storedA S.entries k (.ref x)) ep')) _
      rw [hst]; exact key
    · show upd H1 S.d _ y = _
      rw [upd_ne]; exact e0 y o (by (exact nm0)) e
      rintro rfl; exact hy (by unfold SR.addrs; simp)
    · unfold SR.addrs at hy ⊢
      simp only [List.flatMap_append, List.flatMap_cons, List.flatMap_nil, List.append_nil, List.mem_cons, List.mem_append, List.not_mem_nil, or_false] at hy ⊢
      rcases hy with hy | hy | hy | ((hy | hy | hy | hy) | hy)
      · exact .inl (.inl hy)
      · exact .inl (.inr (.inl hy))
      · exact .inl (.inr (.inr (.inl hy)))
      · exact .inl (.inr (.inr (.inr (.inl hy))))
      · subst hy; exact .inr hx
      · subst hy; exact .inr hdx
      · subst hy; exact .inr hlH
      · exact .inl (.inr (.inr (.inr (.inr hy))))
    · rw [if_neg hk]; simp [lgc]
end Mine
end

section
open PySem PySem.W PyProof.Rows PySem.Spec PySem.Calls
set_option Elab.async false
set_option maxRecDepth 100000
set_option linter.unusedVariables false
namespace Mine

abbrev LN := List (Int × Int × List Int)
noncomputable def ensureF (k : Int) (L : LN) : LN := if k ∈ L.map (·.1) then L else L ++ [(k, 0, [])]
noncomputable def addNp (k c : Int) (L : LN) : LN := L.map fun t => if t.1 = k then (t.1, t.2.1 + c, t.2.2) else t
noncomputable def addSucc (p k : Int) (L : LN) : LN := L.map fun t => if t.1 = p then (t.1, t.2.1, t.2.2 ++ [k]) else t
noncomputable def addF (k : Int) (ps : List Int) (L : LN) : LN := ps.foldl (fun L p => addSucc p k (ensureF p L)) (addNp k ps.length (ensureF k L))

theorem lgc_keys (nodes : List NR) : (lgc nodes).map (·.1) = nodes.map (·.k) := by unfold lgc; rw [List.map_map]; rfl
theorem lgc_setNp {H : AH} {S : SR} (h : SAt H S) {n : NR} (hn : n ∈ S.nodes) (c : Int) : lgc (setN S.nodes n.k fun m => { m with np := n.np + c }) = addNp n.k c (lgc S.nodes) := by
  unfold lgc setN addNp
  rw [List.map_map, List.map_map]
  refine List.map_congr_left fun m hm => ?_
  simp only [Function.comp_apply]
  by_cases e : m.k = n.k
  · have := h.uniq hm hn e
    subst this
    simp
  · simp [e]
theorem lgc_setSucc {H : AH} {S : SR} (h : SAt H S) {n : NR} (hn : n ∈ S.nodes) (k : Int) : lgc (setN S.nodes n.k fun m => { m with succ := n.succ ++ [k] }) = addSucc n.k k (lgc S.nodes) := by
  unfold lgc setN addSucc
  rw [List.map_map, List.map_map]
  refine List.map_congr_left fun m hm => ?_
  simp only [Function.comp_apply]
  by_cases e : m.k = n.k
  · have := h.uniq hm hn e
    subst this
    simp
  · simp [e]
theorem lgc_len (nodes : List NR) : (lgc nodes).length = nodes.length := by simp [lgc]
theorem ensureF_len (k : Int) (L : LN) : (ensureF k L).length ≤ L.length + 1 := by unfold ensureF; split <;> simp
theorem GotN.ens {H : AH} {S : SR} {k : Int} {v : AV} {H' : AH} {nodes : List NR} {ep : Nat} {n : NR} (h : GotN H S k v H' nodes ep n) : lgc nodes = ensureF k (lgc S.nodes) := by
  rw [h.lg]; unfold ensureF; rw [lgc_keys]
theorem GotN.len {H : AH} {S : SR} {k : Int} {v : AV} {H' : AH} {nodes : List NR} {ep : Nat} {n : NR} (h : GotN H S k v H' nodes ep n) : nodes.length ≤ S.nodes.length + 1 := by
  have := ensureF_len k (lgc S.nodes)
  rw [← h.ens, lgc_len, lgc_len] at this; exact this

theorem SAt.addr_some {H : AH} {S : SR} (h : SAt H S) {y : Addr} (hm : y ∈ S.addrs) : H y ≠ none := fun hy => by
  unfold SR.addrs at hm
  rcases List.mem_cons.mp hm with rfl | hm
  · rw [h.inst] at hy; cases hy
  rcases List.mem_cons.mp hm with rfl | hm
  · rw [h.idict] at hy; cases hy
  rcases List.mem_cons.mp hm with rfl | hm
  · rw [h.dict] at hy; cases hy
  rcases List.mem_append.mp hm with hm | hm
  · obtain ⟨n, hn, hm⟩ := List.mem_flatMap.mp hm
    have := h.nodes n hn
    simp only [List.mem_cons, List.not_mem_nil, or_false] at hm
    rcases hm with rfl | rfl | rfl
    · rw [this.inst] at hy; cases hy
    · rw [this.dict] at hy; cases hy
    · rw [this.list] at hy; cases hy
  · cases q : S.rn with
    | none => rw [q] at hm; cases hm
    | some p =>
      rw [q] at hm; simp [rnL] at hm; subst hm
      rw [h.ready _ _ q] at hy; cases hy

theorem bind_add (c1 c2 : Value) (r2 : List Value) : bindArgs fdAdd.1 ⟨c1 :: c2 :: r2, []⟩ = (newTuple r2 >>= fun t => Pure.pure [(Str.ofString "self", c1), (Str.ofString "node", c2), (Str.ofString "predecessors", t)]) := by
  cases r2 with
  | nil => rfl
  | cons a b => rfl
noncomputable def SBnd (c : Nat) (L : LN) : Prop := ∀ t ∈ L, t.2.2.length ≤ c
theorem SBnd.ens {c : Nat} {L : LN} (h : SBnd c L) (k : Int) : SBnd c (ensureF k L) := fun t ht => by
  unfold ensureF at ht
  split at ht
  · exact h t ht
  · rcases List.mem_append.mp ht with ht | ht
    · exact h t ht
    · simp at ht; subst ht; simp
theorem SBnd.np {c : Nat} {L : LN} (h : SBnd c L) (k d : Int) : SBnd c (addNp k d L) := fun t ht => by
  obtain ⟨u, hu, rfl⟩ := List.mem_map.mp ht
  have := h u hu
  split <;> exact this
theorem SBnd.succ {c : Nat} {L : LN} (h : SBnd c L) (p k : Int) : SBnd (c + 1) (addSucc p k L) := fun t ht => by
  obtain ⟨u, hu, rfl⟩ := List.mem_map.mp ht
  have := h u hu
  split
  · simp; (with_reducible assumption)
  · exact Nat.le_succ_of_le this

theorem add_ok (g : G) (S : SR) (k : Int) (ps : List Int) (H : AH) (h : SAt H S) (hrn : S.rn = none) (hlen : S.nodes.length ≤ 500) (hps : ps.length ≤ 100) (hbd : SBnd 500 (lgc S.nodes)) :
    FnOk g 5 123 (.ref S.a :: .int k :: ps.map .int) H fun v H' => v = .none ∧ E2 fun nodes ep => C3 (SAt H' { S with nodes := nodes, ep := ep }) (SFr H S H' { S with nodes := nodes, ep := ep }) (lgc nodes = addF k ps (lgc S.nodes)) := by
  refine FnOk.of_bodyS (rest := ps.map .int) (abinds := fun t => [(Str.ofString "self", .ref S.a), (Str.ofString "node", .int k), (Str.ofString "predecessors", t)]) (fdAdd.2 _) rfl rfl rfl rfl ?_ (fun _ => rfl) (by (exact len_map_le (by with_reducible exact Nat.le_trans (by assumption) (by decide)))) ?_
  · intro cargs hc
    obtain ⟨c1, r1, rfl, e1, hc⟩ := List.map_eq_cons_iff.mp hc
    obtain ⟨c2, r2, rfl, e2, hc⟩ := List.map_eq_cons_iff.mp hc
    exact ⟨r2, fun t => [(Str.ofString "self", c1), (Str.ofString "node", c2), (Str.ofString "predecessors", t)], bind_add _ _ _, hc, fun t => by simp [e1, e2]⟩
  intro A L outer D hD room fr
  have e0 : HExt [] H (upd H D (.tup (ps.map .int))) := HExt.new hD
  have h0 := h.ext e0
  have f0 : SFr H S (upd H D (.tup (ps.map .int))) S := SFr.new e0
  have d0 : upd H D (.tup (ps.map .int)) D = some (.tup (ps.map .int)) := upd_same ..
  have nD : D ∉ S.addrs := fun q => h.addr_some q hD
  generalize upd H D (.tup (ps.map .int)) = H0 at e0 h0 f0 d0 ⊢
  walk_at "m1"
  walk_at "m1"
  refine Tst.compare (Ev.attr (Ev.name rfl (Gat.own own_ready h0.inst h0.idict rfl (by rw [hrn]; rfl) ?_)))
  (repeat walk_at "m1")
  rw [show rnAV S.rn = .none by rw [hrn]; rfl]
  refine Cmp.isNotNone rfl ⟨_, rfl, ?_⟩
  show Exs _ _ _ _ _ _ _
  (repeat walk_at "m1")
  refine Ev.meth meth_gni (fdGN.2 _) (Ev.name rfl ⟨S.a, S.dx, [], S.fields, rfl, h0.inst, h0.idict, rfl, ?_⟩)
  (repeat walk_at "m1")
  refine Call.fn (gni_ok g S k H0 h0 (by (with_reducible exact Nat.le_trans (by assumption) (by decide)))) (room.mono (by decide)) fr rfl rfl ?_
  rintro v H1 ⟨nodes, ep, n, hg⟩
  obtain ⟨rfl⟩ := hg.val
  have fr1 := f0.trans hg.fr
  have nD1 : D ∉ SR.addrs { S with nodes := nodes, ep := ep } := fun q => by
    rcases hg.fr.fresh D q with q | q
    · exact nD q
    · rw [d0] at q; cases q
  have d1 : H1 D = some (.tup (ps.map .int)) := hg.fr.keep D _ nD d0
  walk_at "m1"
  refine Ex.augAttr (Ev.name rfl (Gat.slot slot_np (hg.at_.nodes n hg.mem).inst (hg.at_.nodes n hg.mem).dict rfl rfl ?_))
  refine Ev.callB rfl rfl ?_
  (repeat walk_at "m1")
  refine Call.lenTup d1 (by (exact len_map_le (by with_reducible exact Nat.le_trans (by assumption) (by decide)))) ?_
  walk_at "m1"
  refine Sat.slot slot_np (hg.at_.nodes n hg.mem).inst (hg.at_.nodes n hg.mem).dict (by decide) ?_
  walk_at "m1"
  have h2 := hg.at_.setNp hg.mem (n.np + (ps.map AV.int).length)
  have f2 : SFr H1 { S with nodes := nodes, ep := ep } (upd H1 n.b (nodeAO { n with np := n.np + (ps.map AV.int).length })) { S with nodes := setN nodes n.k fun m => { m with np := n.np + (ps.map AV.int).length }, ep := ep } :=
    SFr.setN (S := { S with nodes := nodes, ep := ep }) (k := n.k) (f := fun m => { m with np := n.np + (ps.map AV.int).length }) (fun _ => ⟨rfl, rfl, rfl⟩) (NR.mem_addrs (S := { S with nodes := nodes, ep := ep }) hg.mem).1
  have l2 : lgc (setN nodes n.k fun m => { m with np := n.np + (ps.map AV.int).length }) = addNp k ps.length (ensureF k (lgc S.nodes)) := by
    have := lgc_setNp (S := { S with nodes := nodes, ep := ep }) hg.at_ hg.mem (ps.map AV.int).length
    rw [List.length_map] at this ⊢
    rw [this, hg.key, show lgc (SR.nodes { S with nodes := nodes, ep := ep }) = lgc nodes from rfl, hg.ens]
  have fr2 := fr1.trans f2
  have hn2 : (setN nodes n.k fun m => { m with np := n.np + (ps.map AV.int).length }).length ≤ 501 := by
    have := hg.len
    unfold setN; rw [List.length_map]; omega
  have nD2 : D ∉ SR.addrs { S with nodes := setN nodes n.k fun m => { m with np := n.np + (ps.map AV.int).length }, ep := ep } := fun q => by
    rcases f2.fresh D q with q | q
    · exact nD1 q
    · rw [d1] at q; cases q
  have d2 : upd H1 n.b (nodeAO { n with np := n.np + (ps.map AV.int).length }) D = some (.tup (ps.map .int)) := f2.keep D _ nD1 d1
  refine Ex.for (Ev.name rfl ?_) room.h PassE.never
  refine ⟨D, _, ps.map .int, rfl, d2, rfl, rfl, fun i σ => E2 fun nodes ep => C10 (i ≤ ps.length) (SAt σ.H { S with nodes := nodes, ep := ep }) (SFr H S σ.H { S with nodes := nodes, ep := ep }) (lgc nodes = (ps.take i).foldl (fun L p => addSucc p k (ensureF p L)) (addNp k ps.length (ensureF k (lgc S.nodes)))) (nodes.length ≤ 501 + i) (σ.H D = some (.tup (ps.map .int))) (D ∉ SR.addrs { S with nodes := nodes, ep := ep }) (σ.loc (Str.ofString "self") = some (.ref S.a)) (σ.loc (Str.ofString "node") = some (.int k)) (SBnd (500 + i) (lgc nodes)), ?_, ?_, ?_, ?_⟩
  · exact ⟨_, ep, by (exact Nat.zero_le _), h2, fr2, by rw [l2]; rfl, by (with_reducible assumption), d2, nD2, rfl, rfl, by rw [l2]; exact (hbd.ens k).np _ _⟩
  · rintro i σ ⟨nodes, ep, _, _, _, _, _, q, _⟩
    exact q
  · rintro i a ⟨Hi, loc⟩ hia ⟨nodes, ep, hi, hs, hf, hl, hnl, hd, hnD, l1, l2, hbi⟩
    dsimp only at hs hf hd l1 l2
    obtain ⟨p, hp, rfl⟩ := map_get hia
    have hi' : i < ps.length := (List.getElem?_eq_some_iff.mp hp).1
    (repeat walk_at "m1")
    refine Ev.meth meth_gni (fdGN.2 _) (Ev.name l1 ⟨S.a, S.dx, [], SR.fields { S with nodes := nodes, ep := ep }, rfl, hs.inst, hs.idict, rfl, ?_⟩)
    (repeat walk_at "m1")
    refine Call.fn (gni_ok g { S with nodes := nodes, ep := ep } p Hi hs (by show nodes.length ≤ 1000; omega)) (room.mono (by decide)) fr rfl rfl ?_
    rintro v H3 ⟨nodes3, ep3, n3, hg3⟩
    obtain ⟨rfl⟩ := hg3.val
    have hg3at : SAt H3 { S with nodes := nodes3, ep := ep3 } := hg3.at_
    have d3 : H3 D = some (.tup (ps.map .int)) := hg3.fr.keep D _ hnD hd
    have nD3 : D ∉ SR.addrs { S with nodes := nodes3, ep := ep3 } := fun q => by
      rcases hg3.fr.fresh D q with q | q
      · exact hnD q
      · rw [hd] at q; cases q
    have hN := hg3at.nodes n3 hg3.mem
    walk_at "m1"
    walk_at "m1"
    refine Ev.method (Ev.attr (Ev.name rfl (Gat.slot slot_succ hN.inst hN.dict rfl rfl ⟨"list", "list.append", meth_append, listType hN.list, ?_⟩)))
    walk_at "m1"
    refine Ev.name l2 ?_
    (repeat walk_at "m1")
    have hb3 : SBnd (500 + i) (lgc nodes3) := by rw [hg3.ens]; exact hbi.ens p
    have hbig : n3.succ.length ≤ 500 + i := hb3 _ (List.mem_map.mpr ⟨n3, hg3.mem, rfl⟩)
    refine Call.append hN.list (by (exact len_map_le (by omega))) ?_
    (repeat walk_at "m1")
    have f4 : SFr H3 { S with nodes := nodes3, ep := ep3 } (upd H3 n3.l (.list ((n3.succ ++ [k]).map .int))) { S with nodes := setN nodes3 n3.k fun m => { m with succ := n3.succ ++ [k] }, ep := ep3 } :=
      SFr.setN (S := { S with nodes := nodes3, ep := ep3 }) (k := n3.k) (f := fun m => { m with succ := n3.succ ++ [k] }) (fun _ => ⟨rfl, rfl, rfl⟩) (NR.mem_addrs (S := { S with nodes := nodes3, ep := ep3 }) hg3.mem).2.2
    have h4 := hg3at.setSucc hg3.mem (n3.succ ++ [k])
    have e4 : upd H3 n3.l (.list (n3.succ.map AV.int ++ [.int k])) = upd H3 n3.l (.list ((n3.succ ++ [k]).map .int)) := by simp
    refine ⟨setN nodes3 n3.k fun m => { m with succ := n3.succ ++ [k] }, ep3, hi', ?_, ?_, ?_, ?_, ?_, ?_, l1, l2, ?_⟩
    · show SAt (upd H3 n3.l _) _
      rw [e4]; exact h4
    · show SFr H S (upd H3 n3.l _) _
      rw [e4]; exact (hf.trans hg3.fr).trans f4
    · have := lgc_setSucc (S := { S with nodes := nodes3, ep := ep3 }) hg3at hg3.mem k
      rw [this, hg3.key, show lgc (SR.nodes { S with nodes := nodes3, ep := ep3 }) = lgc nodes3 from rfl, hg3.ens, take_succ_get hp, List.foldl_append]
      show addSucc p k (ensureF p (lgc nodes)) = _
      rw [hl]; rfl
    · have := hg3.len
      have q : (SR.nodes { S with nodes := nodes, ep := ep }).length = nodes.length := rfl
      unfold setN; rw [List.length_map]; omega
    · show upd H3 n3.l _ D = _
      rw [e4]; exact f4.keep D _ nD3 d3
    · intro q
      rcases f4.fresh D q with q | q
      · exact nD3 q
      · rw [d3] at q; cases q
    · have := lgc_setSucc (S := { S with nodes := nodes3, ep := ep3 }) hg3at hg3.mem k
      rw [this]; exact hb3.succ _ _
  · rintro ⟨Hi, loc⟩ ⟨nodes, ep, hi, hs, hf, hl, hnl, hd, hnD, l1, l2, _⟩
    (repeat walk_at "m1")
    refine ⟨rfl, nodes, ep, hs, hf, ?_⟩
    rw [hl, List.length_map, take_len]; rfl
end Mine
end

section
open PySem PySem.W PyProof.Rows PySem.Spec PySem.Calls
set_option Elab.async false
set_option maxRecDepth 100000
set_option linter.unusedVariables false
namespace Mine

noncomputable def fdGR : { fd : FuncData // ∀ P, (hd.heap_39 P).lookup 135 = some ⟨.type "function", none, .func fd, #[]⟩ } := ⟨_, fun _ => rfl⟩
noncomputable def fdIA : { fd : FuncData // ∀ P, (hd.heap_39 P).lookup 142 = some ⟨.type "function", none, .func fd, #[]⟩ } := ⟨_, fun _ => rfl⟩
noncomputable def fdDone : { fd : FuncData // ∀ P, (hd.heap_39 P).lookup 156 = some ⟨.type "function", none, .func fd, #[]⟩ } := ⟨_, fun _ => rfl⟩

noncomputable def setNpL (k c : Int) (L : LN) : LN := L.map fun t => if t.1 = k then (t.1, c, t.2.2) else t
noncomputable def npOf (k : Int) (L : LN) : Option Int := (L.find? fun t => t.1 = k).map (·.2.1)
noncomputable def succOf (k : Int) (L : LN) : List Int := ((L.find? fun t => t.1 = k).map (·.2.2)).getD []
noncomputable def outF1 (ns : List Int) (L : LN) : LN := ns.foldl (fun L k => setNpL k (-1) L) L

theorem lgc_setNpL {H : AH} {S : SR} (h : SAt H S) {n : NR} (hn : n ∈ S.nodes) (c : Int) : lgc (setN S.nodes n.k fun m => { m with np := c }) = setNpL n.k c (lgc S.nodes) := by
  unfold lgc setN setNpL
  rw [List.map_map, List.map_map]
  refine List.map_congr_left fun m hm => ?_
  simp only [Function.comp_apply]
  by_cases e : m.k = n.k <;> simp [e]
theorem SAt.find {H : AH} {S : SR} (h : SAt H S) {k : Int} (hk : k ∈ (lgc S.nodes).map (·.1)) : ∃ n ∈ S.nodes, n.k = k ∧ lookA S.entries k = some (.ref n.b) ∧ npOf k (lgc S.nodes) = some n.np ∧ succOf k (lgc S.nodes) = n.succ := by
  rw [lgc_keys] at hk
  have hE : lookA S.entries k = (S.nodes.find? fun n => n.k = k).map fun n => .ref n.b := lookA_entries _ _
  have hL : ((lgc S.nodes).find? fun t => t.1 = k) = (S.nodes.find? fun n => n.k = k).map fun n => (n.k, n.np, n.succ) := by
    unfold lgc; rw [List.find?_map]; rfl
  cases hf : (S.nodes.find? fun n => n.k = k) with
  | none => exact absurd hk (find_some_iff.mp hf)
  | some n =>
    rw [hf] at hE hL
    refine ⟨n, List.mem_of_find?_eq_some hf, by simpa using List.find?_some hf, hE, ?_, ?_⟩
    · unfold npOf; rw [hL]; rfl
    · unfold succOf; rw [hL]; rfl
theorem setNpL_keys (k c : Int) (L : LN) : (setNpL k c L).map (·.1) = L.map (·.1) := by
  unfold setNpL; rw [List.map_map]
  refine List.map_congr_left fun t _ => ?_
  simp only [Function.comp_apply]; split <;> rfl
theorem SR.eta (S : SR) (nodes : List NR) : SR.nodes { S with nodes := nodes } = nodes := rfl

theorem getready_ok (g : G) (S : SR) (r : Addr) (ns : List Int) (H : AH) (h : SAt H S) (hrn : S.rn = some (r, ns)) (hks : ∀ k ∈ ns, k ∈ (lgc S.nodes).map (·.1)) (hlen : ns.length ≤ 1000) (hno : S.nodes.length ≤ 1000) :
    FnOk g 2 135 [.ref S.a] H fun v H' => E2 fun t nodes => C6 (v = .ref t) (H t = none) (H' t = some (.tup (ns.map .int))) (SAt H' { S with nodes := nodes, rn := some (r, []), p := S.p + ns.length }) (SFr H S H' { S with nodes := nodes, rn := some (r, []), p := S.p + ns.length }) (lgc nodes = outF1 ns (lgc S.nodes)) := by
  refine FnOk.of_body (abinds := [(Str.ofString "self", .ref S.a)]) (fdGR.2 _) rfl rfl rfl rfl ?_ rfl ?_
  · intro cargs hc
    obtain ⟨a, rfl, e1⟩ := one_arg hc
    exact ⟨[(Str.ofString "self", a)], rfl, by simp [e1]⟩
  intro A L outer room fr
  have hrv : rnAV S.rn = .ref r := by rw [hrn]; rfl
  walk_at "m1"
  walk_at "m1"
  refine Tst.compare (Ev.attr (Ev.name rfl (Gat.own own_ready h.inst h.idict rfl (by rw [hrv]; rfl) ?_)))
  rw [hrv]
  (repeat walk_at "m1")
  refine Cmp.isNone rfl ⟨_, rfl, ?_⟩
  show Exs _ _ _ _ _ _ _
  (repeat walk_at "m1")
  refine Ev.callT rfl rfl ?_
  refine Evs.cons (Ev.attr (Ev.name rfl (Gat.own own_ready h.inst h.idict rfl (by rw [hrv]; rfl) ?_)))
  rw [hrv]
  (repeat walk_at "m1")
  refine Call.tupleOf (h.ready _ _ hrn) (by (exact len_map_le (by with_reducible exact Nat.le_trans (by assumption) (by decide)))) fun t ht => ?_
  dsimp only at ht ⊢
  have e0 : HExt [] H (upd H t (.tup (ns.map .int))) := HExt.new ht
  have h0 := h.ext e0
  have f0 : SFr H S (upd H t (.tup (ns.map .int))) S := SFr.new e0
  have t0 : upd H t (.tup (ns.map .int)) t = some (.tup (ns.map .int)) := upd_same ..
  have nt : t ∉ S.addrs := fun q => h.addr_some q ht
  generalize upd H t (.tup (ns.map .int)) = H0 at e0 h0 f0 t0 ⊢
  (repeat walk_at "m1")
  refine Ev.attr (Ev.name rfl (Gat.own own_n2i h0.inst h0.idict rfl rfl ?_))
  walk_at "m1"
  refine Ex.for (Ev.name rfl ?_) room.h PassE.never
  refine ⟨t, _, ns.map .int, rfl, t0, rfl, rfl, fun i σ => ∃ nodes, C10 (i ≤ ns.length) (SAt σ.H { S with nodes := nodes }) (SFr H S σ.H { S with nodes := nodes }) (lgc nodes = outF1 (ns.take i) (lgc S.nodes)) (nodes.length ≤ 1000) (σ.H t = some (.tup (ns.map .int))) (σ.loc (Str.ofString "self") = some (.ref S.a)) (σ.loc (Str.ofString "result") = some (.ref t)) (σ.loc (Str.ofString "n2i") = some (.ref S.d)) (t ∉ SR.addrs { S with nodes := nodes }), ?_, ?_, ?_, ?_⟩
  · exact ⟨S.nodes, by (exact Nat.zero_le _), h0, f0, rfl, hno, t0, rfl, rfl, rfl, nt⟩
  · rintro i σ ⟨nodes, _, _, _, _, _, q, _⟩
    exact q
  · rintro i a ⟨Hi, loc⟩ hia ⟨nodes, hi, hs, hf, hl, hn1, ht1, l1, l2, l3, ntc⟩
    dsimp only at hs hf ht1 l1 l2 l3
    obtain ⟨k, hk, rfl⟩ := map_get hia
    have hi' : i < ns.length := (List.getElem?_eq_some_iff.mp hk).1
    have hkk : k ∈ (lgc nodes).map (·.1) := by
      have key : ∀ (xs : List Int) (L : LN), (outF1 xs L).map (·.1) = L.map (·.1) := by
        intro xs
        induction xs with
        | nil => intro L; rfl
        | cons x xs ih => intro L; show (outF1 xs (setNpL x (-1) L)).map (·.1) = _; rw [ih, setNpL_keys]
      rw [hl, key]; exact hks k (List.mem_of_getElem? hk)
    obtain ⟨n, hnm, hnk, hnl, _, _⟩ := SAt.find (S := { S with nodes := nodes }) hs hkk
    have hnm : n ∈ nodes := hnm
    walk_at "m1"
    refine Ex.assignT1 (Ev.global (v := .int (-1) _) rfl ?_)
    refine Asg.attr (Ev.subscript (Ev.name l3 (Ev.name rfl ?_)))
    refine SubT.dict hs.dict hnl ?_
    have hN := hs.nodes n hnm
    refine Sat.slot slot_np hN.inst hN.dict (by decide) ?_
    (repeat walk_at "m1")
    have h4 := hs.setNp hnm (-1)
    have f4 : SFr Hi { S with nodes := nodes } (upd Hi n.b (nodeAO { n with np := -1 })) { S with nodes := setN nodes n.k fun m => { m with np := -1 } } :=
      SFr.setN (S := { S with nodes := nodes }) (k := n.k) (f := fun m => { m with np := -1 }) (fun _ => ⟨rfl, rfl, rfl⟩) (NR.mem_addrs (S := { S with nodes := nodes }) hnm).1
    refine ⟨setN nodes n.k fun m => { m with np := -1 }, hi', h4, hf.trans f4, ?_, ?_, ?_, l1, l2, l3, ?_⟩
    · have := lgc_setNpL (S := { S with nodes := nodes }) hs hnm (-1)
      rw [this, hnk, show lgc (SR.nodes { S with nodes := nodes }) = lgc nodes from rfl, hl, take_succ_get hk]
      unfold outF1; rw [List.foldl_append]; rfl
    · unfold setN; rw [List.length_map]; exact hn1
    · exact f4.keep t _ ntc ht1
    · intro q
      rcases f4.fresh t q with q | q
      · exact ntc q
      · rw [ht1] at q; cases q
  · rintro ⟨Hi, loc⟩ ⟨nodes, hi, hs, hf, hl, hn1, ht1, l1, l2, l3, ntc⟩
    dsimp only at hs hf ht1 l1 l2 l3
    rw [List.length_map, take_len] at hl
    have hrr : SR.rn { S with nodes := nodes } = some (r, ns) := hrn
    walk_at "m1"
    walk_at "m1"
    refine Ev.method (Ev.attr (Ev.name l1 (Gat.own own_ready hs.inst hs.idict rfl (by show plainV (rnAV S.rn) = true; rw [hrv]; rfl) ⟨"list", "list.clear", meth_lclear, ?_, ?_⟩)))
    · show ∀ cv Z s, er cv = rnAV S.rn → _
      rw [hrv]; exact listType (hs.ready _ _ hrr)
    (repeat walk_at "m1")
    show Call _ _ _ _ _ [rnAV S.rn] _ _
    rw [hrv]
    refine Call.lclear (hs.ready _ _ hrr) (by (exact len_map_le (by with_reducible exact Nat.le_trans (by assumption) (by decide)))) ?_
    have h2 : SAt (upd Hi r (.list [])) { S with nodes := nodes, rn := some (r, []) } := hs.setReady hrr []
    have f2 : SFr Hi { S with nodes := nodes } (upd Hi r (.list [])) { S with nodes := nodes, rn := some (r, []) } := SFr.setReady hrr
    have t2 : upd Hi r (.list []) t = some (.tup (ns.map .int)) := f2.keep t _ ntc ht1
    have nt2 : t ∉ SR.addrs { S with nodes := nodes, rn := some (r, []) } := fun q => by
      rcases f2.fresh t q with q | q
      · exact ntc q
      · rw [ht1] at q; cases q
    have ff := hf.trans f2
    try dsimp only
    generalize upd Hi r (.list []) = H3 at h2 f2 t2 ff ⊢
    walk_at "m1"
    refine Ex.augAttr (Ev.name l1 (Gat.own own_passed h2.inst h2.idict rfl rfl ?_))
    refine Ev.callB rfl rfl ?_
    refine Evs.cons (Ev.name l2 ?_)
    (repeat walk_at "m1")
    refine Call.lenTup t2 (by (exact len_map_le (by with_reducible exact Nat.le_trans (by assumption) (by decide)))) ?_
    (repeat walk_at "m1")
    refine Sat.own own_passed h2.inst h2.idict (by simp [SR.fields]) ?_
    (repeat walk_at "m1")
    refine Ev.name l2 ?_
    have hfs : putA (Str.ofString "_npassedout") (.int (S.p + ((ns.map AV.int).length : Nat))) (SR.fields { S with nodes := nodes, rn := some (r, []) }) = SR.fields { S with nodes := nodes, rn := some (r, []), p := S.p + ns.length } := by
      rw [List.length_map]; rfl
    have h3 : SAt (upd H3 S.dx (.idict (putA (Str.ofString "_npassedout") (.int (S.p + ((ns.map AV.int).length : Nat))) (SR.fields { S with nodes := nodes, rn := some (r, []) })))) { S with nodes := nodes, rn := some (r, []), p := S.p + ns.length } := by
      rw [hfs]; exact h2.setFields (p := S.p + ns.length) (f := S.f) rfl
    have f3 : SFr H3 { S with nodes := nodes, rn := some (r, []) } (upd H3 S.dx (.idict (putA (Str.ofString "_npassedout") (.int (S.p + ((ns.map AV.int).length : Nat))) (SR.fields { S with nodes := nodes, rn := some (r, []) })))) { S with nodes := nodes, rn := some (r, []), p := S.p + ns.length } := by
      refine ⟨fun y o hy e => ?_, fun y hy => .inl hy⟩
      rw [upd_ne]; exact e
      rintro rfl; exact hy (by unfold SR.addrs; simp)
    exact ⟨t, nodes, rfl, ht, f3.keep t _ nt2 t2, h3, ff.trans f3, hl⟩
end Mine
end

section
open PySem PySem.W PyProof.Rows PySem.Spec PySem.Calls
set_option Elab.async false
set_option maxRecDepth 100000
set_option linter.unusedVariables false
namespace Mine

theorem active_ok (g : G) (S : SR) (r : Addr) (ns : List Int) (H : AH) (h : SAt H S) (hrn : S.rn = some (r, ns)) (hlen : ns.length ≤ 1000) :
    FnOk g 1 142 [.ref S.a] H fun v H' => v = .bool (decide (S.f < S.p) || !ns.isEmpty) ∧ H' = H := by
  refine FnOk.of_body (abinds := [(Str.ofString "self", .ref S.a)]) (fdIA.2 _) rfl rfl rfl rfl ?_ rfl ?_
  · intro cargs hc
    obtain ⟨a, rfl, e1⟩ := one_arg hc
    exact ⟨[(Str.ofString "self", a)], rfl, by simp [e1]⟩
  intro A L outer room fr
  have hrv : rnAV S.rn = .ref r := by rw [hrn]; rfl
  walk_at "m1"
  walk_at "m1"
  refine Tst.compare (Ev.attr (Ev.name rfl (Gat.own own_ready h.inst h.idict rfl (by rw [hrv]; rfl) ?_)))
  rw [hrv]
  (repeat walk_at "m1")
  refine Cmp.isNone rfl ⟨_, rfl, ?_⟩
  show Exs _ _ _ _ _ _ _
  (repeat walk_at "m1")
  refine Ev.attr (Ev.name rfl (Gat.own own_fin h.inst h.idict rfl rfl ?_))
  refine Ev.attr (Ev.name rfl (Gat.own own_passed h.inst h.idict rfl rfl ?_))
  (repeat walk_at "m1")
  cases hc : decide (S.f < S.p) with
  | true =>
    (repeat walk_at "m1")
    exact ⟨by simp [retv], rfl⟩
  | false =>
    (repeat walk_at "m1")
    refine Ev.callT rfl rfl ?_
    refine Evs.cons (Ev.attr (Ev.name rfl (Gat.own own_ready h.inst h.idict rfl (by rw [hrv]; rfl) ?_)))
    rw [hrv]
    (repeat walk_at "m1")
    refine Call.boolList (h.ready _ _ hrn) (by (exact len_map_le (by with_reducible exact Nat.le_trans (by assumption) (by decide)))) ?_
    refine ⟨?_, rfl⟩
    show AV.bool _ = _
    cases ns <;> rfl

noncomputable def stepSucc (st : LN × List Int) (s : Int) : LN × List Int := (addNp s (-1) st.1, if npOf s (addNp s (-1) st.1) = some 0 then st.2 ++ [s] else st.2)
noncomputable def doneOne (st : LN × List Int) (k : Int) : LN × List Int := (succOf k st.1).foldl stepSucc (setNpL k (-2) st.1, st.2)
noncomputable def doneF (ks : List Int) (st : LN × List Int) : LN × List Int := ks.foldl doneOne st
theorem addNp_keys (k c : Int) (L : LN) : (addNp k c L).map (·.1) = L.map (·.1) := by
  unfold addNp; rw [List.map_map]
  refine List.map_congr_left fun t _ => ?_
  simp only [Function.comp_apply]; split <;> rfl
theorem stepSucc_keys (ss : List Int) : ∀ (st : LN × List Int), (ss.foldl stepSucc st).1.map (·.1) = st.1.map (·.1) := by
  induction ss with
  | nil => intro st; rfl
  | cons s ss ih => intro st; rw [List.foldl_cons, ih]; exact addNp_keys _ _ _
theorem doneOne_keys (st : LN × List Int) (k : Int) : (doneOne st k).1.map (·.1) = st.1.map (·.1) := by
  unfold doneOne; rw [stepSucc_keys]; exact setNpL_keys _ _ _
theorem doneF_keys (ks : List Int) : ∀ (st : LN × List Int), (doneF ks st).1.map (·.1) = st.1.map (·.1) := by
  induction ks with
  | nil => intro st; rfl
  | cons s ss ih => intro st; show (doneF ss (doneOne st s)).1.map (·.1) = _; rw [ih, doneOne_keys]
/-- the successors do not change -/
noncomputable def SuccEq (L L' : LN) : Prop := L'.map (fun t => (t.1, t.2.2)) = L.map (fun t => (t.1, t.2.2))
theorem SuccEq.addNp (k c : Int) (L : LN) : SuccEq L (addNp k c L) := by
  unfold SuccEq Mine.addNp; rw [List.map_map]
  refine List.map_congr_left fun t _ => ?_
  simp only [Function.comp_apply]; split <;> rfl
theorem SuccEq.setNpL (k c : Int) (L : LN) : SuccEq L (setNpL k c L) := by
  unfold SuccEq Mine.setNpL; rw [List.map_map]
  refine List.map_congr_left fun t _ => ?_
  simp only [Function.comp_apply]; split <;> rfl
theorem SuccEq.trans {L L' L'' : LN} (a : SuccEq L L') (b : SuccEq L' L'') : SuccEq L L'' := Eq.trans b a
theorem SuccEq.steps (ss : List Int) : ∀ (st : LN × List Int), SuccEq st.1 (ss.foldl stepSucc st).1 := by
  induction ss with
  | nil => intro st; rfl
  | cons s ss ih => intro st; rw [List.foldl_cons]; exact (SuccEq.addNp s (-1) st.1).trans (ih _)
theorem SuccEq.one (st : LN × List Int) (k : Int) : SuccEq st.1 (doneOne st k).1 := (SuccEq.setNpL k (-2) st.1).trans (SuccEq.steps _ _)
theorem SuccEq.done (ks : List Int) : ∀ (st : LN × List Int), SuccEq st.1 (doneF ks st).1 := by
  induction ks with
  | nil => intro st; rfl
  | cons s ss ih => intro st; exact (SuccEq.one st s).trans (ih _)
theorem SuccEq.mem {L L' : LN} (h : SuccEq L L') {t : Int × Int × List Int} (ht : t ∈ L') : ∃ u ∈ L, u.1 = t.1 ∧ u.2.2 = t.2.2 := by
  have : (t.1, t.2.2) ∈ L'.map (fun t => (t.1, t.2.2)) := List.mem_map.mpr ⟨t, ht, rfl⟩
  rw [h] at this
  obtain ⟨u, hu, e⟩ := List.mem_map.mp this
  simp only [Prod.mk.injEq] at e
  exact ⟨u, hu, e⟩
/-- each is handed out when its turn comes -/
noncomputable def DonePre : List Int → LN × List Int → Prop
  | [], _ => True
  | k :: ks, st => npOf k st.1 = some (-1) ∧ DonePre ks (doneOne st k)
theorem DonePre.at : ∀ {ks : List Int} {st : LN × List Int}, DonePre ks st → ∀ {i : Nat} {k : Int}, ks[i]? = some k → npOf k (doneF (ks.take i) st).1 = some (-1)
  | [], _, _, i, k, h => by simp at h
  | x :: ks, st, ⟨h1, h2⟩, 0, k, h => by simp at h; subst h; exact h1
  | x :: ks, st, ⟨h1, h2⟩, i + 1, k, h => by
    simp only [List.getElem?_cons_succ] at h
    exact h2.at h
theorem npOf_mem {k c : Int} {L : LN} (h : npOf k L = some c) : k ∈ L.map (·.1) := by
  unfold npOf at h
  rw [Option.map_eq_some_iff] at h
  obtain ⟨t, ht, _⟩ := h
  exact List.mem_map.mpr ⟨t, List.mem_of_find?_eq_some ht, by simpa using List.find?_some ht⟩

theorem bind_done (c1 : Value) (r2 : List Value) : bindArgs fdDone.1 ⟨c1 :: r2, []⟩ = (newTuple r2 >>= fun t => Pure.pure [(Str.ofString "self", c1), (Str.ofString "nodes", t)]) := by
  cases r2 with
  | nil => rfl
  | cons a b => rfl

theorem done_ok (g : G) (S : SR) (r : Addr) (rd0 ks : List Int) (H : AH) (h : SAt H S) (hrn : S.rn = some (r, rd0)) (hpre : DonePre ks (lgc S.nodes, rd0)) (hks : ks.length ≤ 100) (hrd : rd0.length ≤ 1000) (hno : S.nodes.length ≤ 1000)
    (hbd : SBnd 500 (lgc S.nodes)) (hcl : ∀ t ∈ lgc S.nodes, ∀ s ∈ t.2.2, s ∈ (lgc S.nodes).map (·.1)) :
    FnOk g 2 156 (.ref S.a :: ks.map .int) H fun v H' => v = .none ∧ E2 fun nodes rd => C3 (SAt H' { S with nodes := nodes, rn := some (r, rd), f := S.f + ks.length }) (SFr H S H' { S with nodes := nodes, rn := some (r, rd), f := S.f + ks.length }) ((lgc nodes, rd) = doneF ks (lgc S.nodes, rd0)) := by
  refine FnOk.of_bodyS (rest := ks.map .int) (abinds := fun t => [(Str.ofString "self", .ref S.a), (Str.ofString "nodes", t)]) (fdDone.2 _) rfl rfl rfl rfl ?_ (fun _ => rfl) (by (exact len_map_le (by with_reducible exact Nat.le_trans (by assumption) (by decide)))) ?_
  · intro cargs hc
    obtain ⟨c1, r1, rfl, e1, hc⟩ := List.map_eq_cons_iff.mp hc
    exact ⟨r1, fun t => [(Str.ofString "self", c1), (Str.ofString "nodes", t)], bind_done _ _, hc, fun t => by simp [e1]⟩
  intro A L outer D hD room fr
  have e0 : HExt [] H (upd H D (.tup (ks.map .int))) := HExt.new hD
  have h0 := h.ext e0
  have f0 : SFr H S (upd H D (.tup (ks.map .int))) S := SFr.new e0
  have d0 : upd H D (.tup (ks.map .int)) D = some (.tup (ks.map .int)) := upd_same ..
  have nD : D ∉ S.addrs := fun q => h.addr_some q hD
  generalize upd H D (.tup (ks.map .int)) = H0 at e0 h0 f0 d0 ⊢
  have hrv : rnAV S.rn = .ref r := by rw [hrn]; rfl
  walk_at "m1"
  walk_at "m1"
  refine Tst.compare (Ev.attr (Ev.name rfl (Gat.own own_ready h0.inst h0.idict rfl (by rw [hrv]; rfl) ?_)))
  rw [hrv]
  (repeat walk_at "m1")
  refine Cmp.isNone rfl ⟨_, rfl, ?_⟩
  show Exs _ _ _ _ _ _ _
  (repeat walk_at "m1")
  refine Ev.attr (Ev.name rfl (Gat.own own_n2i h0.inst h0.idict rfl rfl ?_))
  walk_at "m1"
  refine Ex.for (Ev.name rfl ?_) room.h PassE.never
  refine ⟨D, _, ks.map .int, rfl, d0, rfl, rfl, fun i σ => E2 fun nodes rd => C9 (i ≤ ks.length) (SAt σ.H { S with nodes := nodes, rn := some (r, rd), f := S.f + i }) (SFr H S σ.H { S with nodes := nodes, rn := some (r, rd), f := S.f + i }) ((lgc nodes, rd) = doneF (ks.take i) (lgc S.nodes, rd0)) (rd.length ≤ 1000 + 500 * i) (σ.H D = some (.tup (ks.map .int))) (σ.loc (Str.ofString "self") = some (.ref S.a)) (σ.loc (Str.ofString "n2i") = some (.ref S.d)) (D ∉ SR.addrs { S with nodes := nodes, rn := some (r, rd), f := S.f + i }), ?_, ?_, ?_, ?_⟩
  · have hS : S = { S with nodes := S.nodes, rn := some (r, rd0), f := S.f + ((0 : Nat) : Int) } := by
      obtain ⟨a, dx, d, ep, no, rn, p, f⟩ := S
      cases hrn; simp
    refine ⟨S.nodes, rd0, by (exact Nat.zero_le _), ?_, ?_, rfl, by (with_reducible assumption), d0, rfl, rfl, ?_⟩
    · rw [← hS]; exact h0
    · rw [← hS]; exact f0
    · rw [← hS]; exact nD
  · rintro i σ ⟨nodes, rd, _, _, _, _, _, q, _⟩
    exact q
  · rintro i a ⟨Hi, loc⟩ hia ⟨nodes, rd, hi, hs, hf, hl, hrl, hd1, l1, l2, hnD⟩
    dsimp only at hs hf hd1 l1 l2
    obtain ⟨k, hk, rfl⟩ := map_get hia
    have hi' : i < ks.length := (List.getElem?_eq_some_iff.mp hk).1
    have hnp : npOf k (lgc nodes) = some (-1) := by
      have := hpre.at hk
      rw [← hl] at this; exact this
    have hse : SuccEq (lgc S.nodes) (lgc nodes) := by
      have := SuccEq.done (ks.take i) (lgc S.nodes, rd0)
      rw [← hl] at this; exact this
    have hkeys : (lgc nodes).map (·.1) = (lgc S.nodes).map (·.1) := by
      have := doneF_keys (ks.take i) (lgc S.nodes, rd0)
      rw [← hl] at this; exact this
    obtain ⟨n, hnm, hnk, hnl, hnn, hns⟩ := SAt.find (S := { S with nodes := nodes, rn := some (r, rd), f := S.f + i }) hs (npOf_mem hnp)
    have hnm : n ∈ nodes := hnm
    have hnv : n.np = -1 := by
      have q : npOf k (lgc nodes) = some n.np := hnn
      rw [hnp] at q; simpa using q.symm
    have hN := hs.nodes n hnm
    walk_at "m1"
    walk_at "m1"
    refine Tst.compare (Ev.namedExpr (Ev.method (Ev.name l2 ⟨"dict", "dict.get", meth_dget, dictType hs.dict, ?_⟩)))
    (repeat walk_at "m1")
    refine Call.dget hs.dict ?_
    rw [hnl]
    dsimp only [Option.getD_some]
    (repeat walk_at "m1")
    refine Cmp.isNone rfl ⟨_, rfl, ?_⟩
    show Exs _ _ _ _ _ _ _
    (repeat walk_at "m1")
    refine Ev.attr (Ev.name rfl (Gat.slot slot_np hN.inst hN.dict rfl rfl ?_))
    walk_at "m1"
    walk_at "m1"
    refine Tst.compare (Ev.name rfl (Ev.global (v := .int (-1) _) rfl ?_))
    rw [hnv]
    refine Cmp.neInt ⟨_, rfl, ?_⟩
    show Exs _ _ _ _ _ _ _
    walk_at "m1"
    walk_at "m1"
    refine Ex.assignT1 (Ev.global (v := .int (-2) _) rfl ?_)
    refine Asg.attr (Ev.name rfl ?_)
    refine Sat.slot slot_np hN.inst hN.dict (by decide) ?_
    walk_at "m1"
    have h4 := hs.setNp hnm (-2)
    have f4 : SFr Hi { S with nodes := nodes, rn := some (r, rd), f := S.f + i } (upd Hi n.b (nodeAO { n with np := -2 })) { S with nodes := setN nodes n.k fun m => { m with np := -2 }, rn := some (r, rd), f := S.f + i } :=
      SFr.setN (S := { S with nodes := nodes, rn := some (r, rd), f := S.f + i }) (k := n.k) (f := fun m => { m with np := -2 }) (fun _ => ⟨rfl, rfl, rfl⟩) (NR.mem_addrs (S := { S with nodes := nodes, rn := some (r, rd), f := S.f + i }) hnm).1
    have l4 : lgc (setN nodes n.k fun m => { m with np := -2 }) = setNpL k (-2) (lgc nodes) := by
      have := lgc_setNpL (S := { S with nodes := nodes, rn := some (r, rd), f := S.f + i }) hs hnm (-2)
      rw [hnk] at this; rw [hnk]; exact this
    have hnm4 : { n with np := -2 } ∈ setN nodes n.k fun m => { m with np := -2 } := List.mem_map.mpr ⟨n, hnm, by simp⟩
    have hN4 := h4.nodes _ hnm4
    have ff := hf.trans f4
    have hd4 := f4.keep D _ hnD hd1
    have nD4 : D ∉ SR.addrs { S with nodes := setN nodes n.k fun m => { m with np := -2 }, rn := some (r, rd), f := S.f + i } := fun q => by
      rcases f4.fresh D q with q | q
      · exact hnD q
      · rw [hd1] at q; cases q
    have hsb : n.succ.length ≤ 500 := by
      obtain ⟨u, hu, _, e⟩ := hse.mem (t := (n.k, n.np, n.succ)) (List.mem_map.mpr ⟨n, hnm, rfl⟩)
      have := hbd u hu; rw [e] at this; exact this
    have hsc : ∀ s ∈ n.succ, s ∈ (lgc nodes).map (·.1) := fun s hs' => by
      obtain ⟨u, hu, _, e⟩ := hse.mem (t := (n.k, n.np, n.succ)) (List.mem_map.mpr ⟨n, hnm, rfl⟩)
      rw [hkeys]; exact hcl u hu s (by rw [e]; exact hs')
    have hns' : succOf k (lgc nodes) = n.succ := hns
    have hone : doneOne (lgc nodes, rd) k = n.succ.foldl stepSucc (setNpL k (-2) (lgc nodes), rd) := by
      unfold doneOne; rw [hns']
    try dsimp only
    have hl4 : upd Hi n.b (nodeAO { n with np := -2 }) n.l = some (.list (n.succ.map .int)) := hN4.list
    change Ex g A _ NE _ ⟨upd Hi n.b (nodeAO { n with np := -2 }), _⟩ _
    generalize upd Hi n.b (nodeAO { n with np := -2 }) = H4 at h4 f4 hN4 ff hd4 hl4 ⊢
    refine Ex.for (Ev.attr (Ev.name rfl (Gat.slot slot_succ hN4.inst hN4.dict rfl rfl ?_))) room.h PassE.never
    refine ⟨n.l, _, n.succ.map .int, rfl, hl4, rfl, rfl, fun j σ => E2 fun nodes' rd' => C11 (j ≤ n.succ.length) (SAt σ.H { S with nodes := nodes', rn := some (r, rd'), f := S.f + i }) (SFr H S σ.H { S with nodes := nodes', rn := some (r, rd'), f := S.f + i }) ((lgc nodes', rd') = (n.succ.take j).foldl stepSucc (setNpL k (-2) (lgc nodes), rd)) (rd'.length ≤ rd.length + j) (σ.H D = some (.tup (ks.map .int))) (σ.H n.l = some (.list (n.succ.map .int))) (n.l ≠ r) (σ.loc (Str.ofString "self") = some (.ref S.a)) (σ.loc (Str.ofString "n2i") = some (.ref S.d)) (D ∉ SR.addrs { S with nodes := nodes', rn := some (r, rd'), f := S.f + i }), ?_, ?_, ?_, ?_⟩
    · refine ⟨_, rd, by (exact Nat.zero_le _), h4, ff, by rw [l4]; rfl, by omega, hd4, hl4, ?_, l1, l2, nD4⟩
      have := h4.lists
      unfold SR.lists at this
      rw [List.nodup_append] at this
      exact this.2.2 n.l (List.mem_map.mpr ⟨_, hnm4, rfl⟩) r (by simp [rnL])
    · rintro j σ ⟨_, _, _, _, _, _, _, _, q, _⟩
      exact q
    · rintro j a ⟨Hj, loc'⟩ hja ⟨nodes', rd', hj, hs', hf', hl', hrl', hdj, hlj, hlr, m1', m2', hnDj⟩
      dsimp only at hs' hf' hdj hlj m1' m2'
      obtain ⟨s, hs1, rfl⟩ := map_get hja
      have hj' : j < n.succ.length := (List.getElem?_eq_some_iff.mp hs1).1
      have hkeys' : (lgc nodes').map (·.1) = (lgc nodes).map (·.1) := by
        have := stepSucc_keys (n.succ.take j) (setNpL k (-2) (lgc nodes), rd)
        rw [← hl'] at this; rw [show (lgc nodes').map (·.1) = _ from this]; exact setNpL_keys _ _ _
      obtain ⟨u, hum, huk, hul, hun, _⟩ := SAt.find (S := { S with nodes := nodes', rn := some (r, rd'), f := S.f + i }) hs' (k := s) (by show s ∈ (lgc nodes').map (·.1); rw [hkeys']; exact hsc s (List.mem_of_getElem? hs1))
      have hum : u ∈ nodes' := hum
      have hU := hs'.nodes u hum
      walk_at "m1"
      walk_at "m1"
      refine Ev.subscript (Ev.name m2' (Ev.name rfl ?_))
      refine SubT.dict hs'.dict hul ?_
      walk_at "m1"
      refine Ex.augAttr (Ev.name rfl (Gat.slot slot_np hU.inst hU.dict rfl rfl ?_))
      (repeat walk_at "m1")
      refine Sat.slot slot_np hU.inst hU.dict (by decide) ?_
      have h5 := hs'.setNp hum (u.np - 1)
      have f5 : SFr Hj { S with nodes := nodes', rn := some (r, rd'), f := S.f + i } (upd Hj u.b (nodeAO { u with np := u.np - 1 })) { S with nodes := setN nodes' u.k fun m => { m with np := u.np - 1 }, rn := some (r, rd'), f := S.f + i } :=
        SFr.setN (S := { S with nodes := nodes', rn := some (r, rd'), f := S.f + i }) (k := u.k) (f := fun m => { m with np := u.np - 1 }) (fun _ => ⟨rfl, rfl, rfl⟩) (NR.mem_addrs (S := { S with nodes := nodes', rn := some (r, rd'), f := S.f + i }) hum).1
      have l5 : lgc (setN nodes' u.k fun m => { m with np := u.np - 1 }) = addNp s (-1) (lgc nodes') := by
        have := lgc_setNp (S := { S with nodes := nodes', rn := some (r, rd'), f := S.f + i }) hs' hum (-1)
        rw [huk] at this; rw [huk]; exact this
      have hum5 : { u with np := u.np - 1 } ∈ setN nodes' u.k fun m => { m with np := u.np - 1 } := List.mem_map.mpr ⟨u, hum, by simp⟩
      have hU5 := h5.nodes _ hum5
      have hnp5 : npOf s (addNp s (-1) (lgc nodes')) = some (u.np - 1) := by
        obtain ⟨u', hu', e1, _, e2, _⟩ := SAt.find (S := { S with nodes := setN nodes' u.k fun m => { m with np := u.np - 1 }, rn := some (r, rd'), f := S.f + i }) h5 (k := s) (by rw [show SR.nodes _ = _ from rfl, l5, addNp_keys, hkeys']; exact hsc s (List.mem_of_getElem? hs1))
        have := h5.uniq hu' hum5 (by rw [e1, huk])
        rw [← l5, e2, this]
      have hd5 := f5.keep D _ hnDj hdj
      have nD5 : D ∉ SR.addrs { S with nodes := setN nodes' u.k fun m => { m with np := u.np - 1 }, rn := some (r, rd'), f := S.f + i } := fun q => by
        rcases f5.fresh D q with q | q
        · exact hnDj q
        · rw [hdj] at q; cases q
      have ff5 := hf'.trans f5
      have hl5 : upd Hj u.b (nodeAO { u with np := u.np - 1 }) n.l = some (.list (n.succ.map .int)) := by
        rw [upd_ne]; exact hlj
        rintro q; rw [q, hU.inst] at hlj; simp [nodeAO] at hlj
      have hstep : (n.succ.take (j + 1)).foldl stepSucc (setNpL k (-2) (lgc nodes), rd) = (addNp s (-1) (lgc nodes'), if u.np - 1 = 0 then rd' ++ [s] else rd') := by
        rw [take_succ_get hs1, List.foldl_append, ← hl']
        show (addNp s (-1) (lgc nodes'), if npOf s (addNp s (-1) (lgc nodes')) = some 0 then rd' ++ [s] else rd') = _
        rw [hnp5]; simp
      change Exs g A _ NE _ ⟨upd Hj u.b (nodeAO { u with np := u.np - 1 }), _⟩ _
      generalize upd Hj u.b (nodeAO { u with np := u.np - 1 }) = H5 at h5 f5 hU5 ff5 hd5 hl5 ⊢
      walk_at "m1"
      walk_at "m1"
      refine Tst.compare (Ev.attr (Ev.name rfl (Gat.slot slot_np hU5.inst hU5.dict rfl rfl ?_)))
      (repeat walk_at "m1")
      refine ⟨_, rfl, ?_⟩
      have hrr : SR.rn { S with nodes := setN nodes' u.k fun m => { m with np := u.np - 1 }, rn := some (r, rd'), f := S.f + i } = some (r, rd') := rfl
      cases hz : (u.np - 1 == 0) with
      | false =>
        show Exs _ _ _ _ _ _ _
        (repeat walk_at "m1")
        have hz' : ¬ u.np - 1 = 0 := by simpa using hz
        refine ⟨_, rd', hj', h5, ff5, ?_, by omega, hd5, hl5, hlr, m1', m2', nD5⟩
        rw [hstep, l5, if_neg hz']
      | true =>
        show Exs _ _ _ _ _ _ _
        have hz' : u.np - 1 = 0 := by simpa using hz
        walk_at "m1"
        walk_at "m1"
        refine Ev.method (Ev.attr (Ev.name m1' (Gat.own own_ready h5.inst h5.idict rfl rfl ⟨"list", "list.append", meth_append, listType (h5.ready _ _ hrr), ?_⟩)))
        (repeat walk_at "m1")
        refine Call.append (h5.ready _ _ hrr) (by (exact len_map_le (by omega))) ?_
        (repeat walk_at "m1")
        have e6 : upd H5 r (.list (rd'.map AV.int ++ [.int s])) = upd H5 r (.list ((rd' ++ [s]).map .int)) := by simp
        have h6 : SAt (upd H5 r (.list ((rd' ++ [s]).map .int))) { S with nodes := setN nodes' u.k fun m => { m with np := u.np - 1 }, rn := some (r, rd' ++ [s]), f := S.f + i } := h5.setReady hrr (rd' ++ [s])
        have f6 : SFr H5 { S with nodes := setN nodes' u.k fun m => { m with np := u.np - 1 }, rn := some (r, rd'), f := S.f + i } (upd H5 r (.list ((rd' ++ [s]).map .int))) { S with nodes := setN nodes' u.k fun m => { m with np := u.np - 1 }, rn := some (r, rd' ++ [s]), f := S.f + i } := SFr.setReady hrr
        refine ⟨setN nodes' u.k fun m => { m with np := u.np - 1 }, rd' ++ [s], hj', ?_, ?_, ?_, by (exact len_snoc (by omega)), ?_, ?_, hlr, m1', m2', ?_⟩
        · show SAt (upd H5 r _) _
          rw [e6]; exact h6
        · show SFr H S (upd H5 r _) _
          rw [e6]; exact ff5.trans f6
        · rw [hstep, l5, if_pos hz']
        · show upd H5 r _ D = _
          rw [e6]; exact f6.keep D _ nD5 hd5
        · show upd H5 r _ n.l = _
          rw [upd_ne hlr]; exact hl5
        · intro q
          rcases f6.fresh D q with q | q
          · exact nD5 q
          · rw [hd5] at q; cases q
    · rintro ⟨Hj, loc'⟩ ⟨nodes', rd', hj, hs', hf', hl', hrl', hdj, hlj, hlr, m1', m2', hnDj⟩
      dsimp only at hs' hf' hdj hlj m1' m2'
      rw [List.length_map] at hl' hrl'
      rw [take_len, ← hone] at hl'
      refine Exs.cons (Ex.augAttr (Ev.name m1' (Gat.own own_fin hs'.inst hs'.idict rfl rfl ?_)))
      (repeat walk_at "m1")
      refine Sat.own own_fin hs'.inst hs'.idict (by simp [SR.fields]) ?_
      (repeat walk_at "m1")
      have hfs : putA (Str.ofString "_nfinished") (.int (S.f + i + 1)) (SR.fields { S with nodes := nodes', rn := some (r, rd'), f := S.f + i }) = SR.fields { S with nodes := nodes', rn := some (r, rd'), f := S.f + ((i + 1 : Nat) : Int) } := by
        rw [show (S.f + ((i + 1 : Nat) : Int)) = S.f + i + 1 by omega]; rfl
      have h3 : SAt (upd Hj S.dx (.idict (putA (Str.ofString "_nfinished") (.int (S.f + i + 1)) (SR.fields { S with nodes := nodes', rn := some (r, rd'), f := S.f + i })))) { S with nodes := nodes', rn := some (r, rd'), f := S.f + ((i + 1 : Nat) : Int) } := by
        rw [hfs]; exact hs'.setFields (p := S.p) (f := S.f + ((i + 1 : Nat) : Int)) rfl
      have f3 : SFr Hj { S with nodes := nodes', rn := some (r, rd'), f := S.f + i } (upd Hj S.dx (.idict (putA (Str.ofString "_nfinished") (.int (S.f + i + 1)) (SR.fields { S with nodes := nodes', rn := some (r, rd'), f := S.f + i })))) { S with nodes := nodes', rn := some (r, rd'), f := S.f + ((i + 1 : Nat) : Int) } := by
        refine ⟨fun y o hy e => ?_, fun y hy => .inl hy⟩
        rw [upd_ne]; exact e
        rintro rfl; exact hy (by unfold SR.addrs; simp)
      refine ⟨nodes', rd', hi', h3, hf'.trans f3, ?_, by omega, f3.keep D _ hnDj hdj, m1', m2', hnDj⟩
      rw [hl', hl, take_succ_get hk]
      unfold doneF; rw [List.foldl_append]; rfl
  · rintro ⟨Hi, loc⟩ ⟨nodes, rd, hi, hs, hf, hl, hrl, hd1, l1, l2, hnD⟩
    (repeat walk_at "m1")
    rw [List.length_map] at hs hf hl
    rw [take_len] at hl
    exact ⟨rfl, nodes, rd, hs, hf, hl⟩
end Mine
end

section
open PySem PySem.W PyProof.Rows PySem.Spec PySem.Calls Builtin Builtin.ObjectAttr
set_option Elab.async false
set_option maxRecDepth 100000
set_option linter.unusedVariables false
namespace Mine
section
variable {prog : Program} {w : World} {A : Around} {E : Value → Shared → Prop} {s : Shared}
theorem li_bind (self : Value) : bindSpecial (.builtin "object.__getattribute__") self = pure (.builtin "object.__getattribute__", [self]) := by unfold bindSpecial; kernel_rfl
theorem li_entry : entryFor table "object.__getattribute__" = some Builtin.«object.__getattribute__» := entryFor_of_tree (by kernel_rfl)
theorem li_plain : plainId "object.__getattribute__" = true := by decide +kernel
theorem li_kind : builtinKind "object.__getattribute__" = some .slot := by decide +kernel
theorem li_split : splitId "object.__getattribute__" = some ("object", "__getattribute__") := by decide +kernel
theorem li_args (a b : Value) : argsOk "object.__getattribute__" ⟨[a, b], []⟩ := by unfold argsOk; kernel_rfl
theorem wg_entry : entryFor table "wrapper_descriptor.__get__" = some Builtin.«wrapper_descriptor.__get__» := entryFor_of_tree (by kernel_rfl)
theorem wg_plain : plainId "wrapper_descriptor.__get__" = true := by decide +kernel
theorem wg_kind : builtinKind "wrapper_descriptor.__get__" = some .slot := by decide +kernel
theorem wg_split : splitId "wrapper_descriptor.__get__" = some ("wrapper_descriptor", "__get__") := by decide +kernel
theorem wg_args (a b c : Value) : argsOk "wrapper_descriptor.__get__" ⟨[a, b, c], []⟩ := by unfold argsOk; kernel_rfl
theorem li_sub : isSubtype (.type "list_iterator") (.type "object") = pure true := by rw [isSubtype_type]; kernel_rfl
theorem li_self : isSubtype (.type "list_iterator") (.type "list_iterator") = pure true := by rw [isSubtype_type]; kernel_rfl
theorem li_next : typeLookup (.type "list_iterator") "__next__" = pure (some (.builtin "list_iterator.__next__")) := by rw [typeLookup_type, builtinLookup_eq_fast]; kernel_rfl
theorem li_ga : typeLookup (.type "list_iterator") "__getattribute__" = pure (some (.builtin "object.__getattribute__")) := by rw [typeLookup_type, builtinLookup_eq_fast]; kernel_rfl
theorem li_ty : typeOf (.builtin "list_iterator.__next__") = pure (.type "wrapper_descriptor") := by show builtinType _ = _; rw [builtinType_eq_fast]; kernel_rfl
theorem li_get : specialOf (.builtin "list_iterator.__next__") "__get__" = pure (some (.builtin "wrapper_descriptor.__get__")) := by
  unfold specialOf; rw [li_ty]
  show typeLookup (.type "wrapper_descriptor") "__get__" = _
  rw [typeLookup_type, builtinLookup_eq_fast]; kernel_rfl
theorem li_takes : takesStores (.builtin "list_iterator.__next__") = pure false := by
  kernel_rfl
theorem getattr_next {it : Addr} {fs : Array Value} {Q : Value → Shared → Prop} (ho : s.heap.get? it = some ⟨.type "list_iterator", none, .fields fs, #[]⟩)
    (h : Q (.ref s.heap.objs.size) { s with heap := s.heap.push ⟨.type "method-wrapper", none, .fields #[.builtin "list_iterator.__next__", .ref it], #[]⟩, toks := s.toks + 1 }) :
    wpAny (model prog w) A (getAttr (.ref it) "__next__" true) Q E s := by
  obtain ⟨hh, g, d, t, os⟩ := s
  dsimp only at ho
  have L0 : Looks (model prog w) hh (typeOf (.ref it)) (.type "list_iterator") := (Looks.ld (part := none) ho).andThen .now
  have L1 : Looks (model prog w) hh (typeLookup (.type "list_iterator") "__getattribute__") (some (.builtin "object.__getattribute__")) := Looks.of_pure li_ga
  unfold getAttr getAttrBy
  refine wpAny_bind (wpAny_mkText (wpAny_holding (wpAny_bind (L0.at (wpAny_bind (L1.at ?_))))))
  show wpAny _ _ (getAttrByItsOwn _ _ _ _ _ _) _ _ _
  unfold getAttrByItsOwn
  refine wpAny_bind (wpAny_of_eq (a := none) (by rfl) ?_)
  refine wpAny_bind (wpAny_attempt (wpAny_holding ?_))
  show wpAny _ _ (boundAndCalled _ _ _) _ _ _
  unfold boundAndCalled
  rw [li_bind]
  refine wpAny_bind (wpAny_pure ?_)
  have Lo : Looks (model prog w) hh (isInstance (.ref it) (.type "object")) true := L0.andThen (Looks.of_pure li_sub)
  refine wpAny_call (codeAny_call_builtin li_plain li_entry (@check_slot (model prog w) _ _ _ "object.__getattribute__" "object" "__getattribute__" (.ref it) _ [] _ li_kind li_split Lo (li_args _ _) ?_))
  unfold Builtin.«object.__getattribute__»
  have Lf : Looks (model prog w) hh (find (.ref it) (.type "list_iterator") "__next__") (.bind (.builtin "wrapper_descriptor.__get__") (.builtin "list_iterator.__next__")) := by
    unfold find getOf dataDescriptor?
    refine (Looks.of_pure li_next).andThen ((Looks.of_pure li_get).andThen ?_)
    dsimp only
    rw [li_takes]
    have Li : Looks (model prog w) hh (inOwnDict "__next__" (.ref it)) none := by
      unfold inOwnDict
      have Lh : Looks (model prog w) hh (ObjectAttr.ownDict it) none := by
        refine (Looks.ld ho).andThen ?_
        refine (Looks.ld ho).andThen ?_
        exact .now
      exact Lh.andThen .now
    refine Looks.now.andThen ?_
    unfold ownThenClass
    exact Li.andThen (Looks.now.andThen (Looks.tag .now))
  have Lw : Looks (model prog w) hh (isInstance (.builtin "list_iterator.__next__") (.type "wrapper_descriptor")) true := (Looks.of_pure li_ty).andThen (Looks.of_pure (by rw [isSubtype_type]; kernel_rfl))
  have Ls : Looks (model prog w) hh (isInstance (.ref it) (.type "list_iterator")) true := L0.andThen (Looks.of_pure li_self)
  refine wpAny_bind (wpAny_of_eq (a := (.ref it, [.str "__next__" t])) (by kernel_rfl) ?_)
  dsimp only
  refine wpAny_bind (wpAny_of_eq (a := Str.ofString "__next__") (show attrName (Value.str (Str.ofString "__next__") t) = pure (Str.ofString "__next__") by rfl) ?_)
  refine wpAny_bind (L0.at (wpAny_bind (Lf.at ?_)))
  dsimp only
  unfold bindTo
  refine wpAny_bind (wpAny_holding (wpAny_call (codeAny_call_builtin wg_plain wg_entry (@check_slot (model prog w) _ _ _ "wrapper_descriptor.__get__" "wrapper_descriptor" "__get__" (.builtin "list_iterator.__next__") _ [] _ wg_kind wg_split Lw (wg_args _ _ _) ?_))))
  unfold Builtin.«wrapper_descriptor.__get__»
  repeat lk
  exact h

theorem iter_list {l : Addr} {items : Array Value} {Q : Value → Shared → Prop} (hl : s.heap.IsList l items)
    (h : Q (.ref s.heap.objs.size) { s with heap := s.heap.push ⟨.type "list_iterator", none, .fields #[.ref l, .int (0 : Nat) 0], #[]⟩ }) : wpAny (model prog w) A (call (.builtin "iter") [.ref l]) Q E s := by
  refine call_function_entry (by decide +kernel) (by decide +kernel) kdk_entry_iter (kdk_args_iter _) ?_
  unfold Builtin.«iter»
  refine wpAny_bind (m := someArgs "iter" 1 2 _) (wpAny_of_eq (a := [Value.ref l]) (by first | rfl | kernel_rfl!) ?_)
  show wpAny _ _ (pyIter (.ref l) >>= _) _ _ _
  exact wpAny_bind (wpAny_pyIter_list hl (wpAny_pure ⟨_, rfl, h⟩))
theorem next_check (it : Addr) : checkBoundCall "list_iterator.__next__" ⟨[.ref it], []⟩ = pure () := by first | rfl | kernel_rfl
theorem next_quiet {as : Args} : (Code.builtin "list_iterator.__next__" as).quiet = true := Code.quiet_builtin _ (by decide +kernel)
/-- a call of a list iterator's __next__ -/
theorem call_nextm {m it l : Addr} {i : Nat} {items : Array Value} {r : Array Value} {Q : Value → Shared → Prop} (hh : A.handled = none) (hm : s.heap.get? m = some ⟨.type "method-wrapper", none, .fields (#[.builtin "list_iterator.__next__", .ref it] ++ r), #[]⟩)
    (ho : s.heap.get? it = some ⟨.type "list_iterator", none, .fields #[.ref l, .int (i : Nat) 0], #[]⟩) (hl : s.heap.IsList l items)
    (h1 : ∀ x, items[i]? = some x → Q x { s with heap := s.heap.update it (Obj.mapFields (·.setIfInBounds 1 (rawInt ((i : Int) + 1)))) })
    (h2 : items[i]? = none → ∀ h' e, Heap.ExtBut it s.heap h' → s.heap.objs.size ≤ e → (∃ t rr, h'.get? e = some ⟨.type "StopIteration", none, .fields (#[t, .none, .none, .none, .bool false, .none] ++ rr), #[]⟩) → (∃ co, h'.get? it = some co) → E (.ref e) { s with heap := h' }) :
    wpAny (model prog w) A (call (.ref m) []) Q E s := by
  refine wpAny_call (codeAny_of_tree ?_)
  show wpAny _ A.in1 (callAny (.ref m) ⟨[], []⟩) _ _ s
  simp only [callAny]
  refine wpAny_bind (wpAny_load hm ?_)
  simp only [show (Value.type "method-wrapper" == Value.type "method" || Value.type "method-wrapper" == Value.type "builtin_function_or_method" || Value.type "method-wrapper" == Value.type "method-wrapper") = true by decide, if_true]
  have e0 : (#[Value.builtin "list_iterator.__next__", Value.ref it] ++ r)[0]? = some (.builtin "list_iterator.__next__") := by rw [Array.getElem?_append_left (by simp)]; rfl
  have e1 : (#[Value.builtin "list_iterator.__next__", Value.ref it] ++ r)[1]? = some (.ref it) := by rw [Array.getElem?_append_left (by simp)]; rfl
  rw [e0, e1]
  dsimp only
  rw [if_pos (show (Value.type "method-wrapper" != Value.type "method") = true by decide)]
  refine wpAny_bind (wpAny_of_eq (a := ()) (next_check it) ?_)
  refine wpAny_bind (wpAny_pure (wpAny_pure ?_))
  refine ⟨next_quiet, codeAny_builtin entry_listiter_next ?_⟩
  obtain ⟨ol, hol, _, nl, hdl⟩ := hl
  show wpAny _ _ (field (.ref it) 0 >>= _) _ _ s
  refine wpAny_bind (wpAny_field ho rfl (x := .ref l) rfl ?_)
  show wpAny _ _ (if (Value.ref l == Value.none) = true then _ else _) _ _ s
  rw [if_neg (show ¬ ((Value.ref l == Value.none) = true) from Bool.false_ne_true)]
  show wpAny _ _ (field (.ref it) 1 >>= _) _ _ s
  refine wpAny_bind (wpAny_field ho rfl (x := .int i 0) rfl ?_)
  show wpAny _ _ (seqItems? (.ref l) >>= _) _ _ s
  refine wpAny_bind (wpAny_seqItems hol hdl ?_)
  simp only [Int.toNat_natCast]
  cases hx : items[i]? with
  | some x =>
    dsimp only
    exact wpAny_bind (wpAny_setField ho rfl (by simp) (wpAny_pure (h1 x hx)))
  | none =>
    dsimp only
    refine wpAny_bind (wpAny_rule (wpAny_bind (wpAny_setField ho rfl (by simp) ?_)))
    show wpAny _ _ (newExc (.type "StopIteration") [] >>= _) _ _ _
    refine wpAny_bind ?_
    simp only [newExc, newTuple]
    refine wpAny_bind (wpAny_newObj_type ?_ (by size_fits))
    refine wpAny_bind (m := firstArgMember _ _) (wpAny_of_eq (a := Value.none) (by first | rfl | (simp only [firstArgMember]; rfl)) ?_)
    refine wpAny_newObj_type ?_ (by size_fits)
    simp only [raiseNew]
    refine wpAny_bind (wpAny_handled ?_)
    rw [show (A.under (Code.builtin "list_iterator.__next__" ⟨[.ref it], []⟩)).handled = none from hh]
    refine wpAny_bind (wpAny_pure (wpAny_throw ?_))
    have hu : (s.heap.update it (Obj.mapFields (·.setIfInBounds 0 .none))).get? it = some _ := Heap.get?_update_self _ ho rfl
    refine h2 hx _ _ (((Heap.SameBut.update ..).extBut.push _).push _) ?_ ⟨_, _, Heap.get?_push_size _ rfl⟩ ⟨_, Heap.get?_push_of_some _ (Heap.get?_push_of_some _ hu)⟩
    rw [Heap.size_push]
    show s.heap.objs.size ≤ (s.heap.update it _).objs.size + 1
    rw [Heap.size_update]; exact Nat.le_succ _
end

section
variable {g : G} {A : Around} {n : En} {E : Exn} {σ : St}
/-- a garbage object is owned from now on -/
theorem Rel.adopt {Z : Fz} {s : Shared} {a : Addr} {ao : AO} {co : Obj} (r : Rel g Z n σ s) (ha : s.heap.get? a = some co) (hr : ORel ao co) (hz : Z a = none) (hb : g.base.get? a = none) (h216 : 216 < a ∨ ∃ c t x, ao = .exc c t x) (hl : a ≠ n.env.locals) (hc : ∀ x ∈ n.oc, n.env.cells.lookup x ≠ some a) :
    Rel g Z n ⟨upd σ.H a ao, σ.loc⟩ s := by
  obtain ⟨⟨h1, h2, h3, h4, h5⟩, ⟨v1, ⟨o1, o2, o3⟩, v3, v4, v5⟩, rfr⟩ := r
  refine ⟨⟨h1, h2, h3, h4, fun b o hbo => ?_⟩, ⟨v1, ⟨o1, ?_, o3⟩, fun x hx => ?_, v4, v5⟩, rfr⟩
  · change upd σ.H a ao b = some o at hbo
    unfold upd at hbo
    split at hbo
    · rename_i q; subst q; cases hbo; exact ⟨hz, ⟨hb, h216⟩, co, ha, hr⟩
    · exact h5 b o hbo
  · show upd σ.H a ao _ = none
    rw [upd_ne (Ne.symm hl)]; exact o2
  · obtain ⟨c, v₀, c1, c2, c3, c4, c5, c6, c7⟩ := v3 x hx
    refine ⟨c, v₀, c1, c2, ?_, c4, c5, c6, c7⟩
    show upd σ.H a ao c = none
    rw [upd_ne (fun q => hc x hx (by rw [← q]; exact c1))]; exact c3
theorem Gat.next {it l : Addr} {i : Nat} {Q : AV → St → Prop} (hi : σ.H it = some (.liter l i)) (h : ∀ m, σ.H m = none → Q (.ref m) ⟨upd σ.H m (.nextm it), σ.loc⟩) : Gat g A n E (.ref it) "__next__" σ Q := fun cv e Z s r => by
  rw [er_ref e]
  obtain ⟨co, h1, rfl⟩ := r.owned hi
  exact getattr_next h1 ⟨_, (r.alloc (ao := .nextm it) ⟨#[], rfl⟩ rfl).toks, h _ r.fresh⟩
theorem Call.iter {l : Addr} {xs : List AV} {Q : AV → St → Prop} (hl : σ.H l = some (.list xs)) (h : ∀ it, σ.H it = none → Q (.ref it) ⟨upd σ.H it (.liter l 0), σ.loc⟩) : Call g A n E (.builtin "iter") [.ref l] σ Q := fun cargs ha Z s r => by
  obtain ⟨c, rfl, e1⟩ := one_arg ha
  rw [er_ref e1]
  obtain ⟨i1, m1, h1, e1⟩ := r.listAt hl
  exact iter_list ⟨_, h1, rfl, _, rfl⟩ ⟨_, r.alloc (ao := .liter l 0) rfl rfl, h _ r.fresh⟩
/-- it() of a list iterator's __next__ -/
theorem Ok.nextm {m it l : Addr} {i : Nat} {xs : List AV} {C : AV → Prop} {P : St → Prop} {Q : AV → St → Prop} (hh : A.handled = none) (hm : σ.H m = some (.nextm it)) (hi : σ.H it = some (.liter l i)) (hl : σ.H l = some (.list xs)) (hC : C .none) (hS : Stable P)
    (h1 : ∀ x, xs[i]? = some x → Q x ⟨upd σ.H it (.liter l (i + 1)), σ.loc⟩) (h2 : xs[i]? = none → P ⟨upd σ.H it .junk, σ.loc⟩) : OkV g A n (AE g n (.type "StopIteration") C P) (call (.ref m) []) σ Q := fun Z s r => by
  obtain ⟨cm, m1, rr, rfl⟩ := r.owned hm
  obtain ⟨ci, i1, rfl⟩ := r.owned hi
  obtain ⟨its, mm, l1, l2⟩ := r.listAt hl
  refine call_nextm hh m1 i1 ⟨_, l1, rfl, _, rfl⟩ (fun x hx => ?_) (fun hx h' e hext hle he hco => ?_)
  · refine ⟨_, r.set (s' := { s with heap := s.heap.update it (Obj.mapFields (·.setIfInBounds 1 (rawInt ((i : Int) + 1)))) }) (ao' := .liter l (i + 1)) hi (Heap.SameBut.update ..).extBut (Heap.get?_update_self _ i1 rfl) rfl, h1 (er x) ?_⟩
    rw [← l2, List.getElem?_map, Array.getElem?_toList, hx]; rfl
  · obtain ⟨t, rr, he⟩ := he
    have hxx : xs[i]? = none := by rw [← l2, List.getElem?_map, Array.getElem?_toList, hx]; rfl
    have hne : e ≠ it := fun q => by
      have := Heap.lt_size i1; rw [← q] at this; exact absurd this (Nat.not_lt.mpr hle)
    have hn : s.heap.get? e = none := Heap.get?_none_of_le hle
    obtain ⟨ob, hob⟩ := g.alive
    have h216 : 216 < e := Nat.lt_of_lt_of_le (Heap.lt_size (r.hr.stay _ _ hob)) hle
    obtain ⟨co, hco⟩ := hco
    obtain ⟨z1, z2, z3⟩ := r.zfresh hn
    obtain ⟨y1, y2⟩ := r.apart hn
    have r1 : Rel g Z n ⟨upd σ.H it .junk, σ.loc⟩ { s with heap := h' } := r.set (s' := { s with heap := h' }) (ao' := .junk) hi hext hco trivial
    have r2 := r1.adopt (ao := .exc (.type "StopIteration") .none .none) he ⟨rfl, _, rfl, by rw [Array.getElem?_append_left (by simp)]; rfl, by rw [Array.getElem?_append_left (by simp)]; rfl⟩ z1 z2 (.inl h216) y1 y2
    have e3 : upd σ.H it .junk e = none := by rw [upd_ne hne]; exact z3
    exact ⟨e, _, .none, .none, rfl, r2, upd_same .., .inl rfl, hC, hS _ _ _ (ExSame.new e3) (h2 hxx)⟩
end
end Mine
end

section
open PySem PySem.W PyProof.Rows PySem.Spec PySem.Calls
set_option Elab.async false
set_option maxRecDepth 100000
set_option linter.unusedVariables false
namespace Mine

section
variable {g : G} {A : Around} {n : En} {E : Exn} {σ : St}
inductive NextP (g : G) (A : Around) (n : En) (E : Exn) (Q : AV → St → Prop) (x : AV) (σ₁ : St) : Prop
  | mk (m it : Addr) (hv : x = .ref m) (h : σ₁.H m = some (.nextm it)) (k : OkV g A n E (call (.ref m) []) σ₁ Q)
/-- xs[i]() where the item is a list iterator's __next__ -/
theorem Ev.callNextSub {v sl : Expr} {p pos : Pos} {Q : AV → St → Prop} (h : Ev g A n E (.Subscript v sl p) σ (NextP g A n E Q))
    (he : eval (.Call (.Subscript v sl p) [] [] pos) n.env = (eval (.Subscript v sl p) n.env >>= fun fv => callWith pos fv [] (backTo pos (starEach [] n.env)) []) := by rfl) : Ev g A n E (.Call (.Subscript v sl p) [] [] pos) σ Q := by
  refine Ok.eq he (Ok.bind (Ok.mono h fun fv σ₁ h₁ => ?_))
  obtain ⟨m, it, hv, hm, hc⟩ := h₁
  rw [er_ref hv]
  unfold callWith
  refine Ok.bind (Ok.holding (Ok.mono (Ok.evalArgs (f := .ref m) (es := []) (P := fun a σ₂ => a = ⟨[], []⟩ ∧ σ₂ = σ₁) (fun p => Ok.pure fun vs e => ?_)) fun a σ₂ h₂ => Ok.bind (Ok.standAt ?_)))
  · cases vs with
    | nil => exact ⟨rfl, rfl⟩
    | cons _ _ => simp at e
  · obtain ⟨rfl, rfl⟩ := h₂
    refine Ok.bind (m := keeperOf (.ref m)) (Q := _) ?_
    intro Z s r
    obtain ⟨cm, m1, rr, rfl⟩ := r.owned hm
    unfold keeperOf
    refine wpAny_bind (wpAny_load m1 ?_)
    simp only [show (Value.type "method-wrapper" != Value.type "method") = true by decide, show (Value.type "method-wrapper" == Value.type "builtin_function_or_method" || Value.type "method-wrapper" == Value.type "method-wrapper") = true by decide, if_true]
    refine wpAny_pure ⟨_, r, ?_⟩
    exact Ok.bind (Ok.mono hc fun r σ₂ hr => Ok.bind (Ok.holding (Ok.point (Ok.pure hr))))
end

theorem HExt.upd0 {H0 H : AH} {y : Addr} {o : AO} (h : HExt [] H0 H) (hy : H0 y = none) : HExt [] H0 (upd H y o) := fun x ob hx e => by
  rw [upd_ne (ne_of_H e hy)]; exact h x ob hx e

/-- a frame of the search -/
structure FrR where
  k : Int
  pos : Nat
  m : Addr
  it : Addr
  l : Addr
noncomputable def idxs (fs : List FrR) : List (Int × AV) := fs.zipIdx.map fun p => (p.1.k, .int (p.2 : Nat))
noncomputable def stk (fs : List FrR) : List Int := fs.map (·.k)

/-- each has its successors ahead of it -/
noncomputable def FinOk (sc : Int → List Int) (fin : List Int) : Prop := ∀ (i : Nat) x, fin[i]? = some x → ∀ y ∈ sc x, ∃ j : Nat, j < i ∧ fin[j]? = some y
noncomputable def Acyc (sc : Int → List Int) (ks : List Int) : Prop := ∃ fin, (∀ k ∈ ks, k ∈ fin) ∧ FinOk sc fin
noncomputable def Cyc (sc : Int → List Int) : Prop := ∃ C : List Int, C ≠ [] ∧ ∀ x ∈ C, ∃ y ∈ C, x ∈ sc y
theorem FinOk.snoc {sc : Int → List Int} {fin : List Int} (h : FinOk sc fin) {x : Int} (hx : ∀ y ∈ sc x, y ∈ fin) : FinOk sc (fin ++ [x]) := fun i z hz y hy => by
  by_cases hi : i < fin.length
  · rw [List.getElem?_append_left hi] at hz
    obtain ⟨j, hj, e⟩ := h i z hz y hy
    exact ⟨j, hj, by rw [List.getElem?_append_left (by omega)]; exact e⟩
  · rw [List.getElem?_append_right (by omega)] at hz
    have h0 : i - fin.length = 0 := by
      cases q : i - fin.length with
      | zero => rfl
      | succ q' => rw [q] at hz; simp at hz
    rw [h0] at hz
    simp at hz; subst hz
    obtain ⟨j, hj⟩ := List.getElem?_of_mem (hx y hy)
    have hj' := (List.getElem?_eq_some_iff.mp hj).1
    exact ⟨j, by omega, by rw [List.getElem?_append_left hj']; exact hj⟩

structure DL (sc : Int → List Int) (fs : List FrR) (seen fin : List Int) (pend : Option Int) : Prop where
  nodup : (stk fs).Nodup
  seen : ∀ x, x ∈ seen ↔ x ∈ stk fs ∨ x ∈ fin
  path : ∀ (i : Nat) f f', fs[i]? = some f → fs[i + 1]? = some f' → f'.k ∈ sc f.k
  done : ∀ (i : Nat) f, fs[i]? = some f → ∀ x ∈ (sc f.k).take f.pos, x ∈ fin ∨ (∃ f', fs[i + 1]? = some f' ∧ x = f'.k) ∨ (fs.length = i + 1 ∧ pend = some x)
  fin : FinOk sc fin
theorem stk_append (fs gs : List FrR) : stk (fs ++ gs) = stk fs ++ stk gs := by unfold stk; rw [List.map_append]
/-- the pending node is done already -/
theorem DL.drop {sc : Int → List Int} {fs : List FrR} {seen fin : List Int} {x : Int} (h : DL sc fs seen fin (some x)) (hx : x ∈ fin) : DL sc fs seen fin none := by
  refine ⟨h.nodup, h.seen, h.path, fun i f hf y hy => ?_, h.fin⟩
  rcases h.done i f hf y hy with q | q | ⟨_, q⟩
  · exact .inl q
  · exact .inr (.inl q)
  · cases q; exact .inl hx
/-- the pending node is pushed -/
theorem DL.push {sc : Int → List Int} {fs : List FrR} {seen fin : List Int} {x : Int} (h : DL sc fs seen fin (some x)) (hx : x ∉ seen) (hr : fs = [] ∨ ∃ f, fs.getLast? = some f ∧ x ∈ sc f.k) {F : FrR} (hk : F.k = x) (hp : F.pos = 0) : DL sc (fs ++ [F]) (seen ++ [x]) fin none := by
  have hns : x ∉ stk fs := fun q => hx ((h.seen x).mpr (.inl q))
  have hlast : ∀ (i : Nat) f, fs[i]? = some f → fs.length = i + 1 → fs.getLast? = some f := fun i f hf hl => by
    rw [List.getLast?_eq_getElem?, hl]; exact hf
  refine ⟨?_, fun y => ?_, fun i f f' h1 h2 => ?_, fun i f hf y hy => ?_, h.fin⟩
  · rw [stk_append, List.nodup_append]
    refine ⟨h.nodup, by simp [stk], fun a ha b hb e => ?_⟩
    simp [stk] at hb; subst hb; subst e; rw [hk] at ha; exact hns ha
  · rw [stk_append]
    have h1 : stk [F] = [x] := by simp [stk, hk]
    rw [h1]
    simp only [List.mem_append, List.mem_singleton]
    rw [h.seen y]
    constructor
    · rintro ((q | q) | q)
      · exact .inl (.inl q)
      · exact .inr q
      · exact .inl (.inr q)
    · rintro ((q | q) | q)
      · exact .inl (.inl q)
      · exact .inr q
      · exact .inl (.inr q)
  · by_cases hi : i + 1 < fs.length
    · rw [List.getElem?_append_left (by omega)] at h1
      rw [List.getElem?_append_left hi] at h2
      exact h.path i f f' h1 h2
    · have hlt := (List.getElem?_eq_some_iff.mp h2).1
      simp at hlt
      have hl : fs.length = i + 1 := by omega
      rw [List.getElem?_append_left (by (with_reducible assumption))] at h1
      rw [List.getElem?_append_right (by omega), hl] at h2
      simp at h2; subst h2
      rcases hr with rfl | ⟨f0, q1, q2⟩
      · simp at h1
      · rw [hlast i f h1 hl] at q1; cases q1
        rw [hk]; exact q2
  · by_cases hi : i < fs.length
    · rw [List.getElem?_append_left hi] at hf
      rcases h.done i f hf y hy with q | ⟨f', q, e⟩ | ⟨hl, q⟩
      · exact .inl q
      · refine .inr (.inl ⟨f', ?_, e⟩)
        rw [List.getElem?_append_left (List.getElem?_eq_some_iff.mp q).1]; exact q
      · cases q
        refine .inr (.inl ⟨F, ?_, hk.symm⟩)
        rw [List.getElem?_append_right (by omega), hl]; simp
    · have hlt := (List.getElem?_eq_some_iff.mp hf).1
      simp at hlt
      have hl : i = fs.length := by omega
      subst hl
      rw [List.getElem?_append_right (Nat.le_refl _)] at hf
      simp at hf; subst hf
      rw [hp] at hy; simp at hy
/-- the next successor -/
theorem DL.next {sc : Int → List Int} {fs : List FrR} {seen fin : List Int} {F F' : FrR} {x : Int} (h : DL sc (fs ++ [F]) seen fin none) (hx : (sc F.k)[F.pos]? = some x) (hk : F'.k = F.k) (hp : F'.pos = F.pos + 1) : DL sc (fs ++ [F']) seen fin (some x) := by
  have hs : stk (fs ++ [F']) = stk (fs ++ [F]) := by rw [stk_append, stk_append]; simp [stk, hk]
  refine ⟨by rw [hs]; exact h.nodup, fun y => by rw [hs]; exact h.seen y, fun i f f' h1 h2 => ?_, fun i f hf y hy => ?_, h.fin⟩
  · have hlt := (List.getElem?_eq_some_iff.mp h2).1
    simp at hlt
    rw [List.getElem?_append_left (by (with_reducible assumption))] at h1
    by_cases hi : i + 1 < fs.length
    · rw [List.getElem?_append_left hi] at h2
      exact h.path i f f' (by rw [List.getElem?_append_left (by (with_reducible assumption))]; exact h1) (by rw [List.getElem?_append_left hi]; exact h2)
    · have hl : fs.length = i + 1 := by omega
      rw [List.getElem?_append_right (by omega), hl] at h2
      simp at h2; subst h2
      rw [hk]
      exact h.path i f F (by rw [List.getElem?_append_left (by (with_reducible assumption))]; exact h1) (by rw [List.getElem?_append_right (by omega), hl]; simp)
  · by_cases hi : i < fs.length
    · rw [List.getElem?_append_left hi] at hf
      rcases h.done i f (by rw [List.getElem?_append_left hi]; exact hf) y hy with q | ⟨f', q, e⟩ | ⟨hl, q⟩
      · exact .inl q
      · refine .inr (.inl ?_)
        by_cases hi2 : i + 1 < fs.length
        · rw [List.getElem?_append_left hi2] at q
          exact ⟨f', by rw [List.getElem?_append_left hi2]; exact q, e⟩
        · have hlt := (List.getElem?_eq_some_iff.mp q).1
          simp at hlt
          have hl : fs.length = i + 1 := by omega
          rw [List.getElem?_append_right (by omega), hl] at q
          simp at q; subst q
          exact ⟨F', by rw [List.getElem?_append_right (by omega), hl]; simp, by rw [hk]; exact e⟩
      · cases q
    · have hlt := (List.getElem?_eq_some_iff.mp hf).1
      simp at hlt
      have hl : i = fs.length := by omega
      subst hl
      rw [List.getElem?_append_right (Nat.le_refl _)] at hf
      simp at hf; subst hf
      rw [hk, hp, take_succ_get hx] at hy
      rcases List.mem_append.mp hy with hy | hy
      · rcases h.done fs.length F (by rw [List.getElem?_append_right (Nat.le_refl _)]; simp) y hy with q | ⟨f', q, _⟩ | ⟨_, q⟩
        · exact .inl q
        · rw [List.getElem?_append_right (by (with_reducible exact Nat.le_of_lt (by assumption)))] at q; simp at q
        · cases q
      · simp at hy; subst hy
        exact .inr (.inr ⟨by simp, rfl⟩)
/-- the top is done -/
theorem DL.pop {sc : Int → List Int} {fs : List FrR} {seen fin : List Int} {F : FrR} (h : DL sc (fs ++ [F]) seen fin none) (hx : (sc F.k)[F.pos]? = none) : DL sc fs seen (fin ++ [F.k]) none := by
  have hall : ∀ y ∈ sc F.k, y ∈ fin := fun y hy => by
    have hp : (sc F.k).take F.pos = sc F.k := List.take_of_length_le (List.getElem?_eq_none_iff.mp hx)
    rcases h.done fs.length F (by rw [List.getElem?_append_right (Nat.le_refl _)]; simp) y (by rw [hp]; exact hy) with q | ⟨f', q, _⟩ | ⟨_, q⟩
    · exact q
    · rw [List.getElem?_append_right (by omega)] at q; simp at q
    · cases q
  have hs : stk (fs ++ [F]) = stk fs ++ [F.k] := by rw [stk_append]; rfl
  have hnd := h.nodup
  rw [hs, List.nodup_append] at hnd
  refine ⟨hnd.1, fun y => ?_, fun i f f' h1 h2 => ?_, fun i f hf y hy => ?_, h.fin.snoc hall⟩
  · rw [h.seen y, hs]
    simp only [List.mem_append, List.mem_singleton]
    constructor
    · rintro ((q | q) | q)
      · exact .inl q
      · exact .inr (.inr q)
      · exact .inr (.inl q)
    · rintro (q | q | q)
      · exact .inl (.inl q)
      · exact .inr q
      · exact .inl (.inr q)
  · exact h.path i f f' (by rw [List.getElem?_append_left (List.getElem?_eq_some_iff.mp h1).1]; exact h1) (by rw [List.getElem?_append_left (List.getElem?_eq_some_iff.mp h2).1]; exact h2)
  · have hi := (List.getElem?_eq_some_iff.mp hf).1
    rcases h.done i f (by rw [List.getElem?_append_left hi]; exact hf) y hy with q | ⟨f', q, e⟩ | ⟨_, q⟩
    · exact .inl (List.mem_append_left _ q)
    · by_cases hi2 : i + 1 < fs.length
      · rw [List.getElem?_append_left hi2] at q
        exact .inr (.inl ⟨f', q, e⟩)
      · have hlt := (List.getElem?_eq_some_iff.mp q).1
        simp at hlt
        have hl : fs.length = i + 1 := by omega
        rw [List.getElem?_append_right (by omega), hl] at q
        simp at q; subst q
        exact .inl (by rw [e]; simp)
    · cases q
/-- the pending node lies on the stack: a cycle -/
theorem DL.cyc {sc : Int → List Int} {fs : List FrR} {seen fin : List Int} {x : Int} (h : DL sc fs seen fin (some x)) (hr : fs = [] ∨ ∃ f, fs.getLast? = some f ∧ x ∈ sc f.k) (hx : x ∈ stk fs) : Cyc sc := by
  obtain ⟨f0, hf0, rfl⟩ := List.mem_map.mp hx
  obtain ⟨i, hi⟩ := List.getElem?_of_mem hf0
  have hilt := (List.getElem?_eq_some_iff.mp hi).1
  rcases hr with rfl | ⟨fl, q1, q2⟩
  · cases hf0
  refine ⟨(stk fs).drop i, ?_, fun y hy => ?_⟩
  · intro e
    have := congrArg List.length e
    simp [stk] at this
    omega
  · obtain ⟨j, hj⟩ := List.getElem?_of_mem hy
    rw [List.getElem?_drop] at hj
    unfold stk at hj
    rw [List.getElem?_map, Option.map_eq_some_iff] at hj
    obtain ⟨fj, hj, rfl⟩ := hj
    have memd : ∀ (t : Nat) f, i ≤ t → fs[t]? = some f → f.k ∈ (stk fs).drop i := fun t f ht hf => by
      refine List.mem_of_getElem? (i := t - i) ?_
      rw [List.getElem?_drop, show i + (t - i) = t by omega]
      unfold stk; rw [List.getElem?_map, hf]; rfl
    cases j with
    | zero =>
      rw [Nat.add_zero, hi] at hj; cases hj
      rw [List.getLast?_eq_getElem?] at q1
      exact ⟨fl.k, memd _ _ (by omega) q1, q2⟩
    | succ j =>
      have hlt := (List.getElem?_eq_some_iff.mp hj).1
      obtain ⟨f', hf'⟩ : ∃ f', fs[i + j]? = some f' := ⟨fs[i + j]'(by omega), List.getElem?_eq_getElem _⟩
      exact ⟨f'.k, memd _ _ (by omega) hf', h.path _ _ _ hf' hj⟩

/-! the measure -/
noncomputable def unseenW (sc : Int → List Int) (ks seen : List Int) : Nat := ((ks.filter fun k => !seen.contains k).map fun k => (sc k).length + 2).sum
noncomputable def remW (sc : Int → List Int) (fs : List FrR) : Nat := (fs.map fun f => (sc f.k).length + 1 - f.pos).sum
theorem sum_filter_le (c : Int → Nat) (p q : Int → Bool) (hpq : ∀ x, q x = true → p x = true) : ∀ (ks : List Int), ((ks.filter q).map c).sum ≤ ((ks.filter p).map c).sum
  | [] => by simp
  | k :: ks => by
    have ih := sum_filter_le c p q hpq ks
    simp only [List.filter_cons]
    cases hq : q k with
    | true => rw [hpq k hq]; simp; (with_reducible assumption)
    | false => cases hp : p k <;> simp <;> (first | with_reducible assumption | omega)
theorem sum_filter_lt (c : Int → Nat) (p q : Int → Bool) (hpq : ∀ x, q x = true → p x = true) {k : Int} (hp : p k = true) (hq : q k = false) : ∀ (ks : List Int), k ∈ ks → ((ks.filter q).map c).sum + c k ≤ ((ks.filter p).map c).sum
  | [], h => by cases h
  | x :: ks, h => by
    rcases List.mem_cons.mp h with rfl | h
    · have := sum_filter_le c p q hpq ks
      simp only [List.filter_cons, hp, hq]
      simp; omega
    · have ih := sum_filter_lt c p q hpq hp hq ks h
      simp only [List.filter_cons]
      cases hq' : q x with
      | true => rw [hpq x hq']; simp; omega
      | false => cases hp' : p x <;> simp <;> (first | with_reducible assumption | omega)
theorem unseenW_push {sc : Int → List Int} {ks seen : List Int} {x : Int} (hx : x ∈ ks) (hs : x ∉ seen) : unseenW sc ks (seen ++ [x]) + ((sc x).length + 2) ≤ unseenW sc ks seen := by
  refine sum_filter_lt (fun k => (sc k).length + 2) (fun k => !seen.contains k) (fun k => !(seen ++ [x]).contains k) (fun y hy => ?_) (by simpa using hs) (by simp) ks hx
  simp only [Bool.not_eq_true', List.contains_eq_mem, decide_eq_false_iff_not, List.mem_append, not_or] at hy ⊢
  exact hy.1
theorem remW_append (sc : Int → List Int) (fs : List FrR) (F : FrR) : remW sc (fs ++ [F]) = remW sc fs + ((sc F.k).length + 1 - F.pos) := by
  unfold remW; rw [List.map_append, List.sum_append]; simp
end Mine
end

section
open PySem PySem.W PyProof.Rows PySem.Spec PySem.Calls
set_option Elab.async false
set_option maxRecDepth 100000
set_option linter.unusedVariables false
namespace Mine
noncomputable def fdFC : { fd : FuncData // ∀ P, (hd.heap_39 P).lookup 163 = some ⟨.type "function", none, .func fd, #[]⟩ } := ⟨_, fun _ => rfl⟩

theorem idxs_append (fs : List FrR) (F : FrR) : idxs (fs ++ [F]) = idxs fs ++ [(F.k, .int (fs.length : Nat))] := by
  unfold idxs; rw [List.zipIdx_append, List.map_append]; simp
theorem idxs_keys (fs : List FrR) : (idxs fs).map (·.1) = stk fs := by
  unfold idxs stk
  rw [List.map_map]
  have : ((fun p : Int × AV => p.1) ∘ fun p : FrR × Nat => (p.1.k, AV.int (p.2 : Nat))) = (fun f => f.k) ∘ Prod.fst := rfl
  rw [this, ← List.map_map, List.zipIdx_map_fst]
theorem idxs_look {fs : List FrR} {x : Int} : (lookA (idxs fs) x).isSome = (stk fs).contains x := by
  rw [← idxs_keys]
  unfold lookA
  rw [Option.isSome_map, Bool.eq_iff_iff, List.find?_isSome]
  simp only [List.contains_eq_mem, decide_eq_true_eq, List.mem_map]
theorem idxs_val {fs : List FrR} {x : Int} {v : AV} (h : lookA (idxs fs) x = some v) : ∃ i : Nat, i ≤ fs.length ∧ v = .int i := by
  unfold lookA at h
  rw [Option.map_eq_some_iff] at h
  obtain ⟨p, hp, rfl⟩ := h
  have := List.mem_of_find?_eq_some hp
  unfold idxs at this
  obtain ⟨q, hq, rfl⟩ := List.mem_map.mp this
  have := List.snd_lt_of_mem_zipIdx hq
  exact ⟨q.2, by omega, rfl⟩
theorem idxs_push {fs : List FrR} {F : FrR} (h : F.k ∉ stk fs) : storedA (idxs fs) F.k (.int (fs.length : Nat)) = idxs (fs ++ [F]) := by
  rw [idxs_append]
  unfold storedA
  rw [if_neg]
  rw [← idxs_keys] at h
  simp only [List.any_eq_true, decide_eq_true_eq, not_exists, not_and]
  exact fun p hp e => h (List.mem_map.mpr ⟨p, hp, e⟩)
theorem idxs_pop {fs : List FrR} {F : FrR} (h : (stk (fs ++ [F])).Nodup) : withoutA (idxs (fs ++ [F])) F.k = idxs fs := by
  rw [idxs_append]
  unfold withoutA
  rw [List.filter_append]
  have h1 : (idxs fs).filter (fun p => decide (p.1 ≠ F.k)) = idxs fs := by
    rw [List.filter_eq_self]
    intro p hp
    have hm : p.1 ∈ stk fs := by rw [← idxs_keys]; exact List.mem_map.mpr ⟨p, hp, rfl⟩
    rw [stk_append, List.nodup_append] at h
    have := h.2.2 p.1 hm F.k (by simp [stk])
    simpa using this
  rw [h1]; simp

/-- a frame's objects -/
structure FrAt (H0 : AH) (sc : Int → List Int) (H : AH) (f : FrR) : Prop where
  m : H f.m = some (.nextm f.it)
  i : H f.it = some (.liter f.l f.pos)
  l : H0 f.l = some (.list ((sc f.k).map .int))
  n : H0 f.it = none
/-- the search's own objects -/
structure DB (H0 : AH) (sd aSt aIt aSe aDi : Addr) (sc : Int → List Int) (fs gs : List FrR) (seen : List Int) (σ : St) : Prop where
  l1 : σ.loc (Str.ofString "n2i") = some (.ref sd)
  l2 : σ.loc (Str.ofString "stack") = some (.ref aSt)
  l3 : σ.loc (Str.ofString "itstack") = some (.ref aIt)
  l4 : σ.loc (Str.ofString "seen") = some (.ref aSe)
  l5 : σ.loc (Str.ofString "node2stacki") = some (.ref aDi)
  ext : HExt [] H0 σ.H
  hst : σ.H aSt = some (.list (fs.map fun f => .int f.k))
  hit : σ.H aIt = some (.list (fs.map fun f => .ref f.m))
  hse : σ.H aSe = some (.iset seen)
  hdi : ∃ ep, σ.H aDi = some (.dict (idxs fs) ep)
  hfr : ∀ f ∈ gs, FrAt H0 sc σ.H f
  nd : (gs.map (·.it)).Nodup
structure DB0 (H0 : AH) (aSt aIt aSe aDi : Addr) : Prop where
  n1 : H0 aSt = none
  n2 : H0 aIt = none
  n3 : H0 aSe = none
  n4 : H0 aDi = none
  n12 : aSt ≠ aIt
  n13 : aSt ≠ aSe
  n14 : aSt ≠ aDi
  n23 : aIt ≠ aSe
  n24 : aIt ≠ aDi
  n34 : aSe ≠ aDi
theorem DB.exSame {H0 : AH} {sd aSt aIt aSe aDi : Addr} {sc : Int → List Int} {fs gs : List FrR} {seen : List Int} {H H' : AH} {loc : Str → Option AV} (hx : NoEx H0) (h : DB H0 sd aSt aIt aSe aDi sc fs gs seen ⟨H, loc⟩) (x : ExSame H H') : DB H0 sd aSt aIt aSe aDi sc fs gs seen ⟨H', loc⟩ := by
  obtain ⟨ep, hd⟩ := h.hdi
  exact ⟨h.l1, h.l2, h.l3, h.l4, h.l5, h.ext.exSame hx x, x _ _ trivial h.hst, x _ _ trivial h.hit, x _ _ trivial h.hse, ⟨ep, x _ _ trivial hd⟩,
    fun f hf => ⟨x _ _ trivial (h.hfr f hf).m, x _ _ trivial (h.hfr f hf).i, (h.hfr f hf).l, (h.hfr f hf).n⟩, h.nd⟩

theorem DB.locs {H0 : AH} {sd aSt aIt aSe aDi : Addr} {sc : Int → List Int} {fs gs : List FrR} {seen : List Int} {H : AH} {loc loc' : Str → Option AV} (h : DB H0 sd aSt aIt aSe aDi sc fs gs seen ⟨H, loc⟩) (hl : ∀ x, x ≠ Str.ofString "node" → loc' x = loc x) : DB H0 sd aSt aIt aSe aDi sc fs gs seen ⟨H, loc'⟩ :=
  ⟨(hl _ (by decide)).trans h.l1, (hl _ (by decide)).trans h.l2, (hl _ (by decide)).trans h.l3, (hl _ (by decide)).trans h.l4, (hl _ (by decide)).trans h.l5, h.ext, h.hst, h.hit, h.hse, h.hdi, h.hfr, h.nd⟩
noncomputable def AO.tag : AO → Nat
  | .list _ => 0
  | .nextm _ => 1
  | .liter _ _ => 2
  | .iset _ => 3
  | .dict _ _ => 4
  | _ => 5
theorem keepK {H : AH} {x y : Addr} {oy o o' : AO} (hy : H y = some oy) (hx : H x = some o) (hne : (o.tag == oy.tag) = false := by exact Mine.ff0) : upd H y o' x = some o := by
  rw [upd_ne]; exact hx
  rintro rfl; rw [hy] at hx; cases hx; rw [beq_self_eq_true] at hne; cases hne
theorem Ex.mono {g : G} {A : Around} {n : En} {E : Exn} {σ : St} {st : Stmt} {Q Q' : AFl → St → Prop} (h : Ex g A n E st σ Q) (hq : ∀ f σ', Q f σ' → Q' f σ') : Ex g A n E st σ Q' := Ok.mono h fun f σ' q => hq _ _ q

theorem find_ok (g : G) (S : SR) (H : AH) (h : SAt H S) (hx : NoEx H) (hlen : S.nodes.length ≤ 100) (hcl : ∀ t ∈ lgc S.nodes, ∀ s ∈ t.2.2, s ∈ (lgc S.nodes).map (·.1)) :
    FnOk g 2 163 [.ref S.a] H fun v H' => HExt [] H H' ∧ ((v = .none ∧ Acyc (fun k => succOf k (lgc S.nodes)) ((lgc S.nodes).map (·.1))) ∨ (∃ c ns, v = .ref c ∧ H' c = some (.list ns) ∧ ns ≠ [] ∧ ns.length ≤ 200 ∧ Cyc (fun k => succOf k (lgc S.nodes)))) := by
  refine FnOk.of_body (abinds := [(Str.ofString "self", .ref S.a)]) (fdFC.2 _) rfl rfl rfl rfl ?_ rfl ?_
  · intro cargs hc
    obtain ⟨a, rfl, e1⟩ := one_arg hc
    exact ⟨[(Str.ofString "self", a)], rfl, by simp [e1]⟩
  intro A L outer room fr
  walk_at "m1"
  walk_at "m1"
  refine Ev.attr (Ev.name rfl (Gat.own own_n2i h.inst h.idict rfl rfl ?_))
  (repeat walk_at "m1")
  refine ⟨by (exact Nat.le_of_ble_eq_true rfl), fun aSt h1 => ?_⟩
  (repeat walk_at "m1")
  refine ⟨by (exact Nat.le_of_ble_eq_true rfl), fun aIt h2 => ?_⟩
  (repeat walk_at "m1")
  refine Ev.callT rfl rfl ?_
  (repeat walk_at "m1")
  refine Call.setNew fun aSe h3 => ?_
  walk_at "m1"
  walk_at "m1"
  refine Ev.dictNil fun aDi h4 => ?_
  dsimp only at h1 h2 h3 h4 ⊢
  have n12 : aSt ≠ aIt := fun q => by rw [q] at h2; rw [← q] at h2; simp at h2
  have n13 : aSt ≠ aSe := fun q => by rw [← q, upd_ne n12] at h3; simp at h3
  have n23 : aIt ≠ aSe := fun q => by rw [← q] at h3; simp at h3
  have n14 : aSt ≠ aDi := fun q => by rw [← q, upd_ne n13, upd_ne n12] at h4; simp at h4
  have n24 : aIt ≠ aDi := fun q => by rw [← q, upd_ne n23] at h4; simp at h4
  have n34 : aSe ≠ aDi := fun q => by rw [← q] at h4; simp at h4
  have k2 : H aIt = none := by rw [upd_ne (Ne.symm n12)] at h2; exact h2
  have k3 : H aSe = none := by rw [upd_ne (Ne.symm n23), upd_ne (Ne.symm n13)] at h3; exact h3
  have k4 : H aDi = none := by rw [upd_ne (Ne.symm n34), upd_ne (Ne.symm n24), upd_ne (Ne.symm n14)] at h4; exact h4
  have B0 : DB0 H aSt aIt aSe aDi := ⟨h1, k2, k3, k4, n12, n13, n14, n23, n24, n34⟩
  have x0 : HExt [] H (upd (upd (upd (upd H aSt (.list [])) aIt (.list [])) aSe (.iset [])) aDi (.dict [] 0)) := ((((HExt.refl [] H).upd0 h1).upd0 k2).upd0 k3).upd0 k4
  have q1 : upd (upd (upd (upd H aSt (.list [])) aIt (.list [])) aSe (.iset [])) aDi (.dict [] 0) aSt = some (.list []) := by rw [upd_ne n14, upd_ne n13, upd_ne n12, upd_same]
  have q2 : upd (upd (upd (upd H aSt (.list [])) aIt (.list [])) aSe (.iset [])) aDi (.dict [] 0) aIt = some (.list []) := by rw [upd_ne n24, upd_ne n23, upd_same]
  have q3 : upd (upd (upd (upd H aSt (.list [])) aIt (.list [])) aSe (.iset [])) aDi (.dict [] 0) aSe = some (.iset []) := by rw [upd_ne n34, upd_same]
  have q4 : upd (upd (upd (upd H aSt (.list [])) aIt (.list [])) aSe (.iset [])) aDi (.dict [] 0) aDi = some (.dict [] 0) := upd_same ..
  generalize upd (upd (upd (upd H aSt (.list [])) aIt (.list [])) aSe (.iset [])) aDi (.dict [] 0) = H1 at x0 q1 q2 q3 q4 ⊢
  generalize hsc : (fun k => succOf k (lgc S.nodes)) = sc
  have hks : (lgc S.nodes).map (·.1) = S.nodes.map (·.k) := lgc_keys _
  generalize hkd : (lgc S.nodes).map (·.1) = ks at *
  have hent : S.entries.map (fun p => AV.int p.1) = ks.map .int := by
    unfold SR.entries; rw [hks, List.map_map, List.map_map]; rfl
  walk_at "m1"
  refine Ex.for (Ev.name rfl ?_) room.h PassE.never
  refine ⟨S.d, _, ks.map .int, rfl, x0 _ _ (by (exact nm0)) h.dict, by show some (S.entries.map fun p => AV.int p.1) = _; rw [hent], rfl, fun i σ => E2 fun seen fin => C4 (DB H S.d aSt aIt aSe aDi sc [] [] seen σ) (DL sc [] seen fin none) (seen.Nodup ∧ ∀ y ∈ seen, y ∈ ks) (∀ k ∈ ks.take i, k ∈ fin), ?_, ?_, ?_, ?_⟩
  · refine ⟨[], [], ⟨rfl, rfl, rfl, rfl, rfl, x0, q1, q2, q3, ⟨0, q4⟩, fun f hf => (by cases hf), by simp⟩, ⟨by simp [stk], fun x => by simp [stk], fun i f f' q => by simp at q, fun i f q => by simp at q, fun i x q => by simp at q⟩, ⟨by simp, fun y q => (by cases q)⟩, fun k hk => by simp at hk⟩
  · rintro i σ ⟨_, _, hb, _⟩
    exact hb.ext _ _ (by (exact nm0)) h.dict
  · rintro i a ⟨Hi, loc⟩ hia ⟨seen, fin, hb, hl, hsk, hdone⟩
    obtain ⟨k, hk, rfl⟩ := map_get hia
    have hkm : k ∈ ks := List.mem_of_getElem? hk
    have hi' : i < ks.length := (List.getElem?_eq_some_iff.mp hk).1
    have hksn : ks.Nodup := by rw [hks]; exact h.keys
    have hkl : ks.length ≤ 100 := by rw [hks]; simpa using hlen
    have htk : ∀ (P : Int → Prop), (∀ j ∈ ks.take i, P j) → P k → ∀ j ∈ ks.take (i + 1), P j := fun P h1 h2 j hj => by
      rw [take_succ_get hk] at hj
      rcases List.mem_append.mp hj with hj | hj
      · exact h1 j hj
      · simp at hj; subst hj; exact h2
    have hn0 : ∀ x, x ≠ Str.ofString "node" → upd loc (Str.ofString "node") (AV.int k) x = loc x := fun x hx => upd_ne hx
    have hbk := hb.locs hn0
    walk_at "m1"
    walk_at "m1"
    refine Tst.compare (Ev.name rfl (Ev.name hbk.l4 ?_))
    refine Cmp.inSet hbk.hse ⟨_, rfl, ?_⟩
    cases hc : seen.contains k with
    | true =>
      show Exs _ _ _ _ _ _ _
      (repeat walk_at "m1")
      have hks' : k ∈ seen := by simpa using hc
      refine ⟨seen, fin, hbk, hl, hsk, htk _ hdone ?_⟩
      rcases (hl.seen k).mp hks' with q | q
      · simp [stk] at q
      · exact q
    | false =>
    show Exs _ _ _ _ _ _ _
    walk_at "m1"
    refine Exs.cons (Ex.while (fun m σ => E4 fun fs seen fin x => C9 (m = unseenW sc ks seen + remW sc fs) (DB H S.d aSt aIt aSe aDi sc fs fs seen σ) (DL sc fs seen fin (some x)) (fs = [] ∨ ∃ f, fs.getLast? = some f ∧ x ∈ sc f.k) (σ.loc (Str.ofString "node") = some (.int x)) (x ∈ ks) (k ∈ seen ∨ x = k) (seen.Nodup ∧ ∀ y ∈ seen, y ∈ ks) (∀ j ∈ ks.take i, j ∈ fin)) (unseenW sc ks seen + remW sc []) ?_ ?_ PassE.never)
    · exact ⟨[], seen, fin, k, rfl, hbk, ⟨hl.nodup, hl.seen, hl.path, fun i f q => by simp at q, hl.fin⟩, .inl rfl, rfl, hkm, .inr rfl, hsk, hdone⟩
    rintro m ⟨Hj, loc'⟩ ⟨fs, seen, fin, x, rfl, hb, hl, hr, lx, hxk, hroot, hsk, hdone⟩
    have hscx : ∀ y ∈ ks, ∀ z ∈ sc y, z ∈ ks := fun y hy z hz => by
      rw [← hsc] at hz
      unfold succOf at hz
      dsimp only at hz
      cases q : (lgc S.nodes).find? fun t => t.1 = y with
      | none => rw [q] at hz; simp at hz
      | some t =>
        rw [q] at hz
        exact hcl t (List.mem_of_find?_eq_some q) z hz
    have hlx : ∀ (H : AH) (loc : Str → Option AV), (St.mk H loc).loc = loc := fun _ _ => rfl
    have hsl : seen.length ≤ 100 := Nat.le_trans (nodup_length_le seen ks hsk.1 hsk.2) hkl
    have hfl : fs.length ≤ 100 := by
      have : (stk fs).length ≤ seen.length := nodup_length_le _ _ hl.nodup fun y hy => (hl.seen y).mpr (.inl hy)
      simp [stk] at this; (with_reducible exact Nat.le_trans (by assumption) (by assumption))
    refine Tst.plain (Ev.cBool (Tru.bool ?_))
    show Exs _ _ _ _ _ _ _
    refine Exs.cons (Ex.mono (Q := fun f σ' => match f with
      | .next => E2 fun fs' seen' => C5 (unseenW sc ks seen' + remW sc fs' ≤ unseenW sc ks seen + remW sc fs) (DB H S.d aSt aIt aSe aDi sc fs' fs' seen' σ') (DL sc fs' seen' fin none) (k ∈ seen') (seen'.Nodup ∧ ∀ y ∈ seen', y ∈ ks)
      | .ret v => HExt [] H σ'.H ∧ ∃ c ns, v = .ref c ∧ σ'.H c = some (.list ns) ∧ ns ≠ [] ∧ ns.length ≤ 200 ∧ Cyc sc
      | _ => False) ?_ ?_)
    · refine Ex.ifS (Tst.compare (Ev.name lx (Ev.name hb.l4 ?_)))
      refine Cmp.inSet hb.hse ⟨_, rfl, ?_⟩
      cases hc : seen.contains x with
      | true =>
        show Exs _ _ _ _ _ _ _
        have hxs : x ∈ seen := by simpa using hc
        have hks' : k ∈ seen := hroot.elim id fun e => e ▸ hxs
        obtain ⟨ep, hdi⟩ := hb.hdi
        walk_at "m1"
        refine Ex.ifS (Tst.compare (Ev.name lx (Ev.name hb.l5 ?_)))
        refine Cmp.inDict hdi ⟨_, rfl, ?_⟩
        rw [idxs_look]
        cases hc2 : (stk fs).contains x with
        | true =>
          show Exs _ _ _ _ _ _ _
          have hxst : x ∈ stk fs := by simpa using hc2
          have hcyc := hl.cyc hr hxst
          obtain ⟨v, hv⟩ : ∃ v, lookA (idxs fs) x = some v := Option.isSome_iff_exists.mp (by rw [idxs_look]; exact hc2)
          obtain ⟨j, hj, rfl⟩ := idxs_val hv
          walk_at "m1"
          walk_at "m1"
          walk_at "m1"
          refine Ev.subscript (Ev.name hb.l2 (Ev.sliceLo (Ev.subscript (Ev.name hb.l5 (Ev.name lx ?_)))))
          refine SubT.dict hdi hv fun b hb0 => ?_
          dsimp only at hb0 ⊢
          have e1 : HExt [] Hj (upd Hj b (.slice (.int (j : Nat)) .none)) := HExt.new hb0
          refine SubT.sliceLo (xs := fs.map fun f => .int f.k) (e1 _ _ (by (exact nm0)) hb.hst) (upd_same ..) (by simpa using hj) (by (exact len_map_le (by with_reducible exact Nat.le_trans (by assumption) (by decide)))) fun c hc0 => ?_
          dsimp only at hc0 ⊢
          have e2 := e1.new' (o := .list ((fs.map fun f => AV.int f.k).drop j)) hc0
          (repeat walk_at "m1")
          refine Ev.name lx ?_
          (repeat walk_at "m1")
          refine ⟨by (exact Nat.le_of_ble_eq_true rfl), fun d hd0 => ?_⟩
          dsimp only at hd0 ⊢
          have e3 := e2.new' (o := .list [.int x]) hd0
          refine Bin.addList (xs := (fs.map fun f => .int f.k).drop j) (ys := [.int x]) (HExt.new (M := []) hd0 _ _ (by (exact nm0)) (upd_same ..)) (upd_same ..) (by (simp; omega)) fun e he0 => ?_
          have e4 := e3.new' (o := .list ((fs.map fun f => AV.int f.k).drop j ++ [.int x])) he0
          exact ⟨hb.ext.trans e4, e, _, rfl, upd_same .., by simp, by (simp; omega), hcyc⟩
        | false =>
          show Exs _ _ _ _ _ _ _
          (repeat walk_at "m1")
          have hxf : x ∈ fin := by
            rcases (hl.seen x).mp hxs with q | q
            · have : (stk fs).contains x = true := by simpa using q
              rw [hc2] at this; cases this
            · exact q
          exact ⟨fs, seen, Nat.le_refl _, hb, hl.drop hxf, hks', hsk⟩
      | false =>
        show Exs _ _ _ _ _ _ _
        have hxs : x ∉ seen := by simpa using hc
        have hns : x ∉ stk fs := fun q => hxs ((hl.seen x).mpr (.inl q))
        walk_at "m1"
        walk_at "m1"
        refine Ev.method (Ev.name hb.l4 ⟨"set", "set.add", meth_sadd, setType hb.hse, ?_⟩)
        walk_at "m1"
        refine Ev.name lx ?_
        (repeat walk_at "m1")
        refine Call.setAdd hb.hse hc hsl ?_
        try dsimp only
        obtain ⟨ep, hdi⟩ := hb.hdi
        have x1 := hb.ext.upd0 (o := .iset (seen ++ [x])) B0.n3
        have st1 := keepK (o' := .iset (seen ++ [x])) hb.hse hb.hst
        have it1 := keepK (o' := .iset (seen ++ [x])) hb.hse hb.hit
        have se1 : upd Hj aSe (.iset (seen ++ [x])) aSe = some (.iset (seen ++ [x])) := upd_same ..
        have di1 := keepK (o' := .iset (seen ++ [x])) hb.hse hdi
        have fr1 : ∀ f ∈ fs, FrAt H sc (upd Hj aSe (.iset (seen ++ [x]))) f := fun f hf =>
          ⟨keepK hb.hse (hb.hfr f hf).m, keepK hb.hse (hb.hfr f hf).i, (hb.hfr f hf).l, (hb.hfr f hf).n⟩
        change Exs g A _ NE _ ⟨upd Hj aSe (.iset (seen ++ [x])), _⟩ _
        generalize upd Hj aSe (.iset (seen ++ [x])) = H2 at x1 st1 it1 se1 di1 fr1 ⊢
        -- the iterator
        obtain ⟨nd, hnm, hnk, hnl, _, hns2⟩ := SAt.find h (k := x) (by rw [hkd]; exact hxk)
        have hs2 := h.ext x1
        have hN := hs2.nodes nd hnm
        walk_at "m1"
        walk_at "m1"
        refine Ev.method (Ev.name hb.l3 ⟨"list", "list.append", meth_append, listType it1, ?_⟩)
        refine Evs.cons (Ev.attr (Ev.callB rfl rfl (Evs.cons (Ev.attr (Ev.subscript (Ev.name hb.l1 (Ev.name lx ?_)))))))
        refine SubT.dict hs2.dict hnl (Gat.slot slot_succ hN.inst hN.dict rfl rfl (Evs.nil (Call.iter hN.list fun it hit0 => ?_)))
        dsimp only at hit0 ⊢
        refine Gat.next (upd_same ..) fun mm0 hm0 => Evs.nil ?_
        dsimp only at hm0 ⊢
        have hmit : mm0 ≠ it := fun q => by rw [q] at hm0; simp at hm0
        have hm0' : H2 mm0 = none := by rw [upd_ne hmit] at hm0; exact hm0
        have e3 : HExt [] H2 (upd (upd H2 it (.liter nd.l 0)) mm0 (.nextm it)) := (HExt.new hit0).new' hm0
        have it3 : upd (upd H2 it (.liter nd.l 0)) mm0 (.nextm it) it = some (.liter nd.l 0) := by rw [upd_ne (Ne.symm hmit), upd_same]
        have m3 : upd (upd H2 it (.liter nd.l 0)) mm0 (.nextm it) mm0 = some (.nextm it) := upd_same ..
        have hitH : H it = none := by
          cases q : H it with
          | none => rfl
          | some o => rw [x1 it o (by (exact nm0)) q] at hit0; cases hit0
        have itne : ∀ f ∈ fs, f.it ≠ it := fun f hf q => by rw [← q, (fr1 f hf).i] at hit0; cases hit0
        generalize upd (upd H2 it (.liter nd.l 0)) mm0 (.nextm it) = H3 at e3 it3 m3 ⊢
        have xx3 := x1.trans e3
        refine Call.append (e3 _ _ (by (exact nm0)) it1) (by (exact len_map_le (by with_reducible exact Nat.le_trans (by assumption) (by decide)))) ?_
        try dsimp only
        have a3 := e3 _ _ (by (exact nm0)) it1
        have x4 := xx3.upd0 (o := .list ((fs.map fun f => AV.ref f.m) ++ [.ref mm0])) B0.n2
        have st4 : upd H3 aIt (.list ((fs.map fun f => AV.ref f.m) ++ [.ref mm0])) aSt = some (.list (fs.map fun f => .int f.k)) := by rw [upd_ne B0.n12]; exact e3 _ _ (by (exact nm0)) st1
        have it4 : upd H3 aIt (.list ((fs.map fun f => AV.ref f.m) ++ [.ref mm0])) aIt = some (.list ((fs.map fun f => AV.ref f.m) ++ [.ref mm0])) := upd_same ..
        have se4 := keepK (o' := .list ((fs.map fun f => AV.ref f.m) ++ [.ref mm0])) a3 (e3 _ _ (by (exact nm0)) se1)
        have di4 := keepK (o' := .list ((fs.map fun f => AV.ref f.m) ++ [.ref mm0])) a3 (e3 _ _ (by (exact nm0)) di1)
        have fr4 : ∀ f ∈ fs ++ [⟨x, 0, mm0, it, nd.l⟩], FrAt H sc (upd H3 aIt (.list ((fs.map fun f => AV.ref f.m) ++ [.ref mm0]))) f := fun f hf => by
          rcases List.mem_append.mp hf with hf | hf
          · exact ⟨keepK a3 (e3 _ _ (by (exact nm0)) (fr1 f hf).m), keepK a3 (e3 _ _ (by (exact nm0)) (fr1 f hf).i), (fr1 f hf).l, (fr1 f hf).n⟩
          · simp only [List.mem_singleton] at hf
            subst hf
            refine ⟨keepK a3 m3, keepK a3 it3, ?_, hitH⟩
            rw [show sc x = nd.succ by rw [← hsc]; exact hns2]
            exact (h.nodes nd hnm).list
        have nd4 : ((fs ++ [(⟨x, 0, mm0, it, nd.l⟩ : FrR)]).map (fun f => f.it)).Nodup := by
          rw [List.map_append, List.nodup_append]
          refine ⟨hb.nd, by simp, fun a ha b hb2 e => ?_⟩
          simp at hb2; subst hb2; subst e
          obtain ⟨f, hf, q⟩ := List.mem_map.mp ha
          exact itne f hf q
        change Exs g A _ NE _ ⟨upd H3 aIt (.list ((fs.map fun f => AV.ref f.m) ++ [.ref mm0])), _⟩ _
        generalize upd H3 aIt (.list ((fs.map fun f => AV.ref f.m) ++ [.ref mm0])) = H4 at x4 st4 it4 se4 di4 fr4 ⊢
        walk_at "m1"
        refine Ex.assignT1 (Ev.callB rfl rfl (Evs.cons (Ev.name hb.l2 (Evs.nil ?_))))
        refine Call.len st4 (by (exact len_map_le (by with_reducible exact Nat.le_trans (by assumption) (by decide)))) ?_
        refine Asg.dict (Ev.name hb.l5 (Ev.name lx ⟨aDi, idxs fs, ep, x, rfl, rfl, di4, by simp [idxs]; (with_reducible exact Nat.le_trans (by assumption) (by decide)), fun ep' => ?_⟩))
        rw [List.length_map, idxs_push (F := ⟨x, 0, mm0, it, nd.l⟩) hns]
        have x5 := x4.upd0 (o := .dict (idxs (fs ++ [⟨x, 0, mm0, it, nd.l⟩])) ep') B0.n4
        have st5 := keepK (o' := .dict (idxs (fs ++ [⟨x, 0, mm0, it, nd.l⟩])) ep') di4 st4
        have it5 := keepK (o' := .dict (idxs (fs ++ [⟨x, 0, mm0, it, nd.l⟩])) ep') di4 it4
        have se5 := keepK (o' := .dict (idxs (fs ++ [⟨x, 0, mm0, it, nd.l⟩])) ep') di4 se4
        have di5 : upd H4 aDi (.dict (idxs (fs ++ [⟨x, 0, mm0, it, nd.l⟩])) ep') aDi = some (.dict (idxs (fs ++ [⟨x, 0, mm0, it, nd.l⟩])) ep') := upd_same ..
        have fr5 : ∀ f ∈ fs ++ [⟨x, 0, mm0, it, nd.l⟩], FrAt H sc (upd H4 aDi (.dict (idxs (fs ++ [⟨x, 0, mm0, it, nd.l⟩])) ep')) f := fun f hf =>
          ⟨keepK di4 (fr4 f hf).m, keepK di4 (fr4 f hf).i, (fr4 f hf).l, (fr4 f hf).n⟩
        change Exs g A _ NE _ ⟨upd H4 aDi (.dict (idxs (fs ++ [⟨x, 0, mm0, it, nd.l⟩])) ep'), _⟩ _
        generalize upd H4 aDi (.dict (idxs (fs ++ [⟨x, 0, mm0, it, nd.l⟩])) ep') = H5 at x5 st5 it5 se5 di5 fr5 ⊢
        walk_at "m1"
        walk_at "m1"
        refine Ev.method (Ev.name hb.l2 ⟨"list", "list.append", meth_append, listType st5, ?_⟩)
        walk_at "m1"
        refine Ev.name lx ?_
        (repeat walk_at "m1")
        refine Call.append st5 (by (exact len_map_le (by with_reducible exact Nat.le_trans (by assumption) (by decide)))) ?_
        (repeat walk_at "m1")
        refine ⟨fs ++ [⟨x, 0, mm0, it, nd.l⟩], seen ++ [x], ?_, ⟨hb.l1, hb.l2, hb.l3, hb.l4, hb.l5, x5.upd0 B0.n1, ?_, ?_, ?_, ⟨ep', ?_⟩, fun f hf => ?_, nd4⟩, hl.push hxs hr rfl rfl, ?_, ?_, fun y hy => ?_⟩
        · rw [remW_append]
          have := unseenW_push (sc := sc) hxk hxs
          show _ + (_ + ((sc x).length + 1)) ≤ _
          rw [Nat.add_comm (remW sc fs), ← Nat.add_assoc]
          exact Nat.add_le_add_right (Nat.le_trans (Nat.add_le_add_left (Nat.le_succ _) _) this) _
        · show upd H5 aSt _ aSt = _
          rw [upd_same]; simp
        · show upd H5 aSt _ aIt = _
          rw [upd_ne (Ne.symm B0.n12), it5]; simp
        · exact keepK st5 se5
        · exact keepK st5 di5
        · exact ⟨keepK st5 (fr5 f hf).m, keepK st5 (fr5 f hf).i, (fr5 f hf).l, (fr5 f hf).n⟩
        · exact hroot.elim (List.mem_append_left _) fun e => List.mem_append_right _ (by rw [e]; exact .head _)
        · rw [List.nodup_append]
          exact ⟨hsk.1, by simp, fun a ha b hb2 e => by simp at hb2; subst hb2; subst e; exact hxs ha⟩
        · rcases List.mem_append.mp hy with hy | hy
          · exact hsk.2 y hy
          · simp at hy; subst hy; exact hxk
    · rintro f ⟨H6, loc6⟩ hq
      cases f with
      | brk => exact hq.elim
      | cont => exact hq.elim
      | ret v => exact ⟨hq.1, .inr hq.2⟩
      | next =>
      obtain ⟨fs2, seen2, hm2, hb2, hl2, hk2, hsk2⟩ := hq
      generalize hM : unseenW sc ks seen + remW sc fs = M at hm2 ⊢
      refine Exs.cons (Ex.while (fun m' σ => E3 fun fs seen fin => C7 (m' = fs.length) (unseenW sc ks seen + remW sc fs ≤ M) (DB H S.d aSt aIt aSe aDi sc fs fs seen σ) (DL sc fs seen fin none) (k ∈ seen) (seen.Nodup ∧ ∀ y ∈ seen, y ∈ ks) (∀ j ∈ ks.take i, j ∈ fin)) fs2.length
        ⟨fs2, seen2, fin, rfl, hm2, hb2, hl2, hk2, hsk2, hdone⟩ ?_ PassE.never)
      rintro m' ⟨H7, loc7⟩ ⟨fs7, seen7, fin7, rfl, hm7, hb7, hl7, hk7, hsk7, hd7⟩
      have hsl7 : seen7.length ≤ 100 := Nat.le_trans (nodup_length_le seen7 ks hsk7.1 hsk7.2) hkl
      have hfl7 : fs7.length ≤ 100 := by
        have : (stk fs7).length ≤ seen7.length := nodup_length_le _ _ hl7.nodup fun y hy => (hl7.seen y).mpr (.inl hy)
        simp [stk] at this; (with_reducible exact Nat.le_trans (by assumption) (by assumption))
      refine Tst.plain (Ev.name hb7.l2 (Tru.list hb7.hst (by (exact len_map_le (by with_reducible exact Nat.le_trans (by assumption) (by decide)))) ?_))
      rcases List.eq_nil_or_concat fs7 with rfl | ⟨gs, F, rfl⟩
      · show Exs _ _ _ _ _ _ _
        (repeat walk_at "m1")
        refine ⟨seen7, fin7, hb7, hl7, hsk7, htk _ hd7 ?_⟩
        rcases (hl7.seen k).mp hk7 with q | q
        · simp [stk] at q
        · exact q
      · have hne : (!((gs ++ [F]).map fun f => AV.int f.k).isEmpty) = true := by simp
        rw [List.concat_eq_append] at *
        rw [hne]
        show Exs _ _ _ _ _ _ _
        have hF := hb7.hfr F (by simp)
        have hFk : F.k ∈ ks := hsk7.2 _ ((hl7.seen _).mpr (.inl (by rw [stk_append]; simp [stk])))
        have hnd7 := hb7.nd
        rw [List.map_append, List.nodup_append] at hnd7
        have hitne : ∀ f ∈ gs, f.it ≠ F.it := fun f hf e => hnd7.2.2 f.it (List.mem_map.mpr ⟨f, hf, rfl⟩) F.it (by simp) e
        obtain ⟨ep7, hdi7⟩ := hb7.hdi
        let P : St → Prop := fun σ' => (sc F.k)[F.pos]? = none ∧ DB H S.d aSt aIt aSe aDi sc (gs ++ [F]) gs seen7 σ'
        have hS : Stable P := by
          rintro Ha Hb loc x ⟨q1, q2⟩
          exact ⟨q1, q2.exSame hx x⟩
        walk_at "m1"
        refine Ex.tryExcept (X := "StopIteration") (T := "StopIteration") (C := fun _ => True) (P := P) ?_ ?_ fr hS (by rw [isSubtype_type]; kernel_rfl) (by rw [isSubtype_type]; kernel_rfl) (by rw [isSubtype_type]; kernel_rfl) rfl rfl
        · walk_at "m1"
          refine Ex.assign (Ev.callNextSub (Ev.subscript (Ev.name hb7.l3 (Ev.unaryOp (Ev.cInt (Un.neg ?_))))))
          refine SubT.listNeg hb7.hit (by decide) (by (simp; omega)) (x := .ref F.m) (by rw [show (-1 + (((gs ++ [F]).map fun f => AV.ref f.m).length : Nat) : Int).toNat = gs.length by (simp; exact toNat_m1)]; simp) (by simp; simp at hfl7; (with_reducible exact Nat.le_trans (by assumption) (by decide))) ?_
          refine ⟨F.m, F.it, rfl, hF.m, Ok.nextm (C := fun _ => True) room.h hF.m hF.i (hb7.ext _ _ (by (exact nm0)) hF.l) trivial hS (fun y hy => ?_) fun hy => ?_⟩
          · have hy' : ∃ z, (sc F.k)[F.pos]? = some z ∧ y = .int z := by
              rw [List.getElem?_map, Option.map_eq_some_iff] at hy
              obtain ⟨z, h1, h2⟩ := hy
              exact ⟨z, h1, h2.symm⟩
            obtain ⟨z, hz, rfl⟩ := hy'
            walk_at "m1"
            walk_at "m1"
            have hzk : z ∈ ks := hscx _ hFk z (List.mem_of_getElem? hz)
            have hlt := (List.getElem?_eq_some_iff.mp hz).1
            refine Exs.nil ?_
            refine ⟨_, ?_, gs ++ [{ F with pos := F.pos + 1 }], seen7, fin7, z, rfl, ?_, hl7.next hz rfl rfl, .inr ⟨{ F with pos := F.pos + 1 }, by simp, List.mem_of_getElem? hz⟩, rfl, hzk, .inl hk7, hsk7, hd7⟩
            · rw [remW_append] at hm7 ⊢
              exact Nat.lt_of_lt_of_le (Nat.add_lt_add_left (Nat.add_lt_add_left (turn_lt hlt) _) _) hm7
            · refine DB.locs (loc := loc7) ⟨hb7.l1, hb7.l2, hb7.l3, hb7.l4, hb7.l5, hb7.ext.upd0 hF.n, ?_, ?_, keepK hF.i hb7.hse, ⟨ep7, ?_⟩, fun f hf => ?_, ?_⟩ (fun x hx => upd_ne hx)
              · exact (keepK hF.i hb7.hst).trans (by simp)
              · exact (keepK hF.i hb7.hit).trans (by simp)
              · exact (keepK hF.i hdi7).trans (by rw [idxs_append, idxs_append])
              · rcases List.mem_append.mp hf with hf | hf
                · refine ⟨keepK hF.i (hb7.hfr f (List.mem_append_left _ hf)).m, ?_, (hb7.hfr f (List.mem_append_left _ hf)).l, (hb7.hfr f (List.mem_append_left _ hf)).n⟩
                  show upd H7 F.it _ f.it = _
                  rw [upd_ne (hitne f hf)]; exact (hb7.hfr f (List.mem_append_left _ hf)).i
                · simp only [List.mem_singleton] at hf
                  subst hf
                  exact ⟨keepK hF.i hF.m, upd_same .., hF.l, hF.n⟩
              · have := hb7.nd
                rw [List.map_append] at this ⊢
                exact this
          · refine ⟨?_, hb7.l1, hb7.l2, hb7.l3, hb7.l4, hb7.l5, hb7.ext.upd0 hF.n, keepK hF.i hb7.hst, keepK hF.i hb7.hit, keepK hF.i hb7.hse, ⟨ep7, keepK hF.i hdi7⟩, fun f hf => ?_, hnd7.1⟩
            · rw [List.getElem?_map, Option.map_eq_none_iff] at hy; exact hy
            · refine ⟨keepK hF.i (hb7.hfr f (List.mem_append_left _ hf)).m, ?_, (hb7.hfr f (List.mem_append_left _ hf)).l, (hb7.hfr f (List.mem_append_left _ hf)).n⟩
              show upd H7 F.it _ f.it = _
              rw [upd_ne (hitne f hf)]; exact (hb7.hfr f (List.mem_append_left _ hf)).i
        · rintro e₀ ⟨H8, loc8⟩ tb cx he₀ _ ⟨hend, hb8⟩
          refine Exs.forget ?_
          have hb8 := hb8.exSame hx (ExSame.clean H8)
          try dsimp only
          generalize clean H8 = H9 at hb8 ⊢
          obtain ⟨ep8, hdi8⟩ := hb8.hdi
          have hst8 : H9 aSt = some (.list ((gs.map fun f => AV.int f.k) ++ [.int F.k])) := by have := hb8.hst; simpa using this
          have hit8 : H9 aIt = some (.list ((gs.map fun f => AV.ref f.m) ++ [.ref F.m])) := by have := hb8.hit; simpa using this
          walk_at "m1"
          refine Ex.delDict (Ev.name hb8.l5 (Ev.method (Ev.name hb8.l2 ⟨"list", "list.pop", meth_lpop, listType hst8, Evs.nil (Call.lpop hst8 (by simp; simp at hfl7; (with_reducible exact Nat.le_trans (by assumption) (by decide))) ?_)⟩)))
          have hdi9 := keepK (o' := .list (gs.map fun f => AV.int f.k)) hst8 hdi8
          refine ⟨aDi, idxs (gs ++ [F]), ep8, F.k, rfl, rfl, hdi9, ?_, by simp [idxs]; simp at hfl7; (with_reducible exact Nat.le_trans (by assumption) (by decide)), fun ep9 => ?_⟩
          · rw [idxs_look, stk_append]; simp [stk]
          rw [idxs_pop hl7.nodup]
          have x9 := (hb8.ext.upd0 (o := .list (gs.map fun f => AV.int f.k)) B0.n1).upd0 (o := .dict (idxs gs) ep9) B0.n4
          have st9 : upd (upd H9 aSt (.list (gs.map fun f => AV.int f.k))) aDi (.dict (idxs gs) ep9) aSt = some (.list (gs.map fun f => AV.int f.k)) := by rw [upd_ne B0.n14, upd_same]
          have it9 : upd (upd H9 aSt (.list (gs.map fun f => AV.int f.k))) aDi (.dict (idxs gs) ep9) aIt = some (.list ((gs.map fun f => AV.ref f.m) ++ [.ref F.m])) := by rw [upd_ne B0.n24, upd_ne (Ne.symm B0.n12)]; exact hit8
          have se9 := keepK (o' := .dict (idxs gs) ep9) hdi9 (keepK (o' := .list (gs.map fun f => AV.int f.k)) hst8 hb8.hse)
          have di9 : upd (upd H9 aSt (.list (gs.map fun f => AV.int f.k))) aDi (.dict (idxs gs) ep9) aDi = some (.dict (idxs gs) ep9) := upd_same ..
          have fr9 : ∀ f ∈ gs, FrAt H sc (upd (upd H9 aSt (.list (gs.map fun f => AV.int f.k))) aDi (.dict (idxs gs) ep9)) f := fun f hf =>
            ⟨keepK hdi9 (keepK hst8 (hb8.hfr f hf).m), keepK hdi9 (keepK hst8 (hb8.hfr f hf).i), (hb8.hfr f hf).l, (hb8.hfr f hf).n⟩
          try dsimp only
          generalize upd (upd H9 aSt (.list (gs.map fun f => AV.int f.k))) aDi (.dict (idxs gs) ep9) = H10 at x9 st9 it9 se9 di9 fr9 ⊢
          show Exs _ _ _ _ _ _ _
          walk_at "m1"
          walk_at "m1"
          refine Ev.method (Ev.name hb8.l3 ⟨"list", "list.pop", meth_lpop, listType it9, Evs.nil (Call.lpop it9 (by simp; simp at hfl7; (with_reducible exact Nat.le_trans (by assumption) (by decide))) ?_)⟩)
          (repeat walk_at "m1")
          refine ⟨gs.length, by simp, gs, seen7, fin7 ++ [F.k], rfl, ?_, ⟨hb8.l1, hb8.l2, hb8.l3, hb8.l4, hb8.l5, x9.upd0 B0.n2, ?_, upd_same .., keepK it9 se9, ⟨ep9, keepK it9 di9⟩, fun f hf => ?_, hnd7.1⟩, hl7.pop hend, hk7, hsk7, fun j hj => List.mem_append_left _ (hd7 j hj)⟩
          · rw [remW_append] at hm7; exact Nat.le_trans (Nat.add_le_add_left (Nat.le_add_right _ _) _) hm7
          · show upd H10 aIt _ aSt = _
            rw [upd_ne B0.n12]; exact st9
          · exact ⟨keepK it9 (fr9 f hf).m, keepK it9 (fr9 f hf).i, (fr9 f hf).l, (fr9 f hf).n⟩
  · rintro ⟨Hi, loc⟩ ⟨seen, fin, hb, hl, hsk, hdone⟩
    (repeat walk_at "m1")
    refine ⟨hb.ext, .inl ⟨rfl, fin, fun k hk => hdone k ?_, hl.fin⟩⟩
    rw [List.length_map, take_len]; exact hk
end Mine
end

section
open PySem PySem.W PyProof.Rows PySem.Spec PySem.Calls PySem.Builtin PySem.Builtin.Re
set_option Elab.async false
set_option maxRecDepth 100000
set_option linter.unusedVariables false
namespace Mine

noncomputable def code0 : Array Nat := #[14, 8, 1, 2, 4294967295, 1, 1, 46, 0, 16, 46, 24, 9, 1, 4294967295, 13, 4, 8, 0, 0, 1, 6, 5, 1]
noncomputable def drv : Nat → Sre.M → Option Sre.M
  | 0, _ => none
  | n + 1, m => if (m.runFor reTurnSteps).outcome.isSome then some (m.runFor reTurnSteps) else drv n (m.runFor reTurnSteps)
noncomputable def outM (m : Sre.M) : Option Bool := match m.outcome with
  | some .matched => some true
  | some .failed => some false
  | _ => none
noncomputable def reSearch (cps : Array Nat) : Option Bool := (drv 200 (Sre.forSearch code0 cps 0 0 cps.size false)).bind outM


section
variable {M : Model} {A : Around} {E : Value → Shared → Prop} {s : Shared}
theorem drive_of {Q : Sre.M → Shared → Prop} : ∀ {n turns : Nat} {m m' : Sre.M}, drv n m = some m' → n ≤ turns → Q m' s → wpAny M A (reDrive turns m) Q E s
  | 0, _, _, _, h, _, _ => by cases h
  | n + 1, 0, _, _, _, h, _ => absurd h (Nat.not_succ_le_zero _)
  | n + 1, t + 1, m, m', h, hn, q => by
    unfold drv at h
    unfold reDrive
    dsimp only
    split at h
    · rename_i c
      rw [if_pos c]; cases h; exact wpAny_pure q
    · rename_i c
      rw [if_neg c]
      exact wpAny_bind (wpAny_rule (drive_of h (Nat.le_of_succ_le_succ hn) q))
theorem rules_loop {m : Sre.M} {Q : PUnit → Shared → Prop} (h : Q PUnit.unit s) : ∀ (l : List Nat), wpAny M A (forIn l PUnit.unit fun i r => do
      if m.seen.has i then rule (Sre.names.getD i "")
      pure (ForInStep.yield PUnit.unit)) Q E s
  | [] => by rw [List.forIn_nil]; exact wpAny_pure h
  | i :: l => by
    rw [List.forIn_cons]
    refine wpAny_bind ?_
    split
    · exact wpAny_bind (wpAny_rule (wpAny_pure (rules_loop h l)))
    · exact wpAny_pure (rules_loop h l)
theorem run_of {m m' : Sre.M} {b : Bool} {Q : Option Sre.M → Shared → Prop} (h : drv 200 m = some m') (hb : outM m' = some b) (hq : Q (if b then some m' else none) s) : wpAny M A (reRunToEnd m) Q E s := by
  unfold reRunToEnd
  refine wpAny_bind (drive_of h (by decide) ?_)
  refine wpAny_bind (rules_loop ?_ _)
  unfold outM at hb
  split at hb
  · rename_i c; cases hb; rw [c]; exact wpAny_pure hq
  · rename_i c; cases hb; rw [c]; exact wpAny_pure hq
  · cases hb
end

theorem pat_slot : Slot "re.Pattern" "search" "re.Pattern.search" :=
  .of (owner := "re.Pattern") (n := "search") (by rw [typeLookup_type, builtinLookup_eq_fast]; kernel_rfl) (by decide +kernel) (by decide +kernel) (by decide +kernel)
    (by first | exact .inl (by decide +kernel) | exact .inr (by decide +kernel)) (by rw [isSubtype_type]; kernel_rfl)
theorem pat_entry : entryFor table "re.Pattern.search" = some Builtin.«re.Pattern.search» := entryFor_of_tree (by kernel_rfl)
theorem pat_args (a b : Value) : argsOk "re.Pattern.search" ⟨[a, b], []⟩ := by unfold argsOk; kernel_rfl
theorem pat_plain : PlainAttrs "re.Pattern" :=
  ⟨⟨"object.__getattribute__", by rw [typeLookup_type, builtinLookup_eq_fast]; kernel_rfl, by decide +kernel⟩, by rw [typeLookup_type, builtinLookup_eq_fast]; kernel_rfl⟩
theorem pat_type : typeOf (.builtin "re.Pattern.search") = pure (.type "method_descriptor") := by show builtinType _ = _; rw [builtinType_eq_fast]; kernel_rfl

section
variable {w : World} {A : Around} {E : Value → Shared → Prop} {s : Shared} {prog : Program}
theorem fieldsOf_at {a : Addr} {vs : Array Value} {o : Obj} {Q : Array Value → Shared → Prop} {M : Model} (ho : s.heap.get? a = some o) (hd : o.data = .fields vs) (h : Q vs s) : wpAny M A (fieldsOf (.ref a)) Q E s := wpAny_fieldsOf ho hd h
noncomputable def mFields (x : Value) (n lim : Nat) (m : Sre.M) (t : Addr) : Array Value := #[x, .ref 43, rawInt n, rawInt lim, rawInt m.lastindex, .ref t]
noncomputable def pat43 : { v : Array Value // ∀ P, (hd.heap_39 P).lookup 43 = some ⟨.type "re.Pattern", none, .fields v, #[]⟩ } := ⟨_, fun _ => rfl⟩
noncomputable def pat42 : { v : Array Value // ∀ P, (hd.heap_39 P).lookup 42 = some ⟨.type "tuple", none, .seq v 0, #[]⟩ } := ⟨_, fun _ => rfl⟩
theorem pat43_5 : pat43.1.getD 5 .none = .ref 42 := rfl
theorem pat43_6 : reRawNat (pat43.1.getD 6 .none) = 0 := rfl
theorem pat43_2 : reRawNat (pat43.1.getD 2 .none) = 0 := rfl
theorem pat42_code : (pat42.1.map reRawOf).map (·.toNat) = code0 := by decide +kernel
theorem target_wp {x : Str} {u : Tok} {Q : ReTarget → Shared → Prop} (X : (hd.heap_39 w.params).In s.heap) (hsz : x.cps.size < 1000)
    (h : Q { pattern := .ref 43, string := .str x u, code := code0, text := x.cps, kind := 0, groups := 0, pos := 0, lim := x.cps.size } s) : wpAny (model prog w) A (reTarget "re.Pattern.search" "search" ⟨[.ref 43, .str x u], []⟩) Q E s := by
  have p43 := X 43 _ (pat43.2 _)
  have p42 := X 42 _ (pat42.2 _)
  unfold reTarget
  dsimp only
  refine wpAny_bind (wpAny_of_eq (a := [some (.str x u), none, none]) (by kernel_rfl) ?_)
  dsimp only
  refine wpAny_bind (wpAny_pure (wpAny_bind (wpAny_pure ?_)))
  refine wpAny_bind (wpAny_fieldsOf p43 rfl ?_)
  refine wpAny_bind (wpAny_of_eq (a := (x.cps, 0)) (by rfl) ?_)
  dsimp only
  rw [pat43_5, pat43_6, pat43_2]
  rw [if_neg (by decide), if_neg (by decide)]
  refine wpAny_bind (wpAny_of_eq (a := ()) (by rfl) ?_)
  unfold reRawItems
  refine wpAny_bind (wpAny_bind (wpAny_seqItems p42 rfl (wpAny_pure (wpAny_pure ?_))))
  rw [Option.getD_some, pat42_code]
  have e : Min.min (Int.toNat (2 ^ 63 - 1)) x.cps.size = x.cps.size := Nat.min_eq_right (by omega)
  rw [e]
  exact h
/-- the search of the text's one pattern -/
theorem search_call {x : Str} {u : Tok} {b : Bool} {Q : Value → Shared → Prop} (X : (hd.heap_39 w.params).In s.heap) (hb : reSearch x.cps = some b) (hsz : x.cps.size < 1000)
    (h0 : b = false → Q .none s) (h1 : b = true → ∀ (its fs : Array Value), Q (.ref (s.heap.objs.size + 1)) { s with heap := (s.heap.push { cls := .type "tuple", data := .seq its }).push { cls := .type "re.Match", data := .fields fs } }) :
    wpAny (model prog w) A (call (.builtin "re.Pattern.search") [.ref 43, .str x u]) Q E s := by
  refine wpAny_call_entry pat_slot ⟨_, X 43 _ (pat43.2 _), rfl⟩ pat_entry ?_ (pat_args _ _)
  unfold Builtin.«re.Pattern.search»
  unfold reSearch at hb
  rw [Option.bind_eq_some_iff] at hb
  obtain ⟨m', hm, hb⟩ := hb
  refine wpAny_bind (target_wp X hsz ?_)
  unfold reAnswer
  dsimp only
  refine wpAny_bind (run_of hm hb ?_)
  cases b with
  | false => exact wpAny_pure ⟨_, rfl, h0 rfl⟩
  | true =>
    rw [if_pos rfl]
    dsimp only
    unfold reNewMatch
    dsimp only
    rw [if_neg (by simp)]
    refine wpAny_bind (wpAny_bind (wpAny_newObj_type (wpAny_newObj_type (wpAny_pure ⟨_, rfl, ?_⟩) (by size_fits)) (by show (2:Nat) ≤ _; rw [sizeLine_eq]; decide)))
    rw [Heap.size_push]
    exact h1 rfl _ _
end
end Mine
end

section
open PySem PySem.W PyProof.Rows PySem.Spec PySem.Calls
set_option Elab.async false
set_option maxRecDepth 100000
set_option linter.unusedVariables false
namespace Mine
section
variable {g : G} {A : Around} {n : En} {E : Exn} {σ : St} {Q : AV → St → Prop} {pos : Pos}

theorem strType {x : Str} : ∀ cv Z s, er cv = .str x → Rel g Z n σ s → s.TypeIs cv "str" ∧ ∀ a, cv = .ref a → ∃ ob, s.heap.get? a = some ob ∧ ob.dict = none := fun cv Z s e r => by
  obtain ⟨t, rfl⟩ := er_str e
  exact ⟨typeIs_str _ _ _, fun a q => by cases q⟩
theorem meth_lower : MethOf "str" "str.lower" "lower" := ⟨F.plainAttrs_str, F.slot_str_lower, F.type_str_lower⟩
theorem meth_upper : MethOf "str" "str.upper" "upper" := ⟨F.plainAttrs_str, F.slot_str_upper, F.type_str_upper⟩
theorem meth_starts : MethOf "str" "str.startswith" "startswith" := ⟨F.plainAttrs_str, F.slot_str_startswith, F.type_str_startswith⟩
theorem meth_ends : MethOf "str" "str.endswith" "endswith" := ⟨F.plainAttrs_str, F.slot_str_endswith, F.type_str_endswith⟩
theorem meth_join : MethOf "str" "str.join" "join" := ⟨F.plainAttrs_str, F.slot_str_join, F.type_str_join⟩
theorem Call.lower {x : Str} (hfit : Builtin.Str.tooLong (Txt.lower x).length = false) (h : Q (.str (Txt.lower x)) σ) : Call g A n E (.builtin "str.lower") [.str x] σ Q := fun cargs ha Z s r => by
  obtain ⟨c, rfl, h1⟩ := one_arg ha
  obtain ⟨t, rfl⟩ := er_str h1
  exact call_gives F.slot_str_lower (typeIs_str _ _ _) F.entry_str_lower (F.args_str_lower_1 _) (gives_str_lower x t hfit) ⟨fit_le hfit, ⟨σ, r.toks, h⟩⟩
theorem Call.upper {x : Str} (hfit : Builtin.Str.tooLong (Txt.upper x).length = false) (h : Q (.str (Txt.upper x)) σ) : Call g A n E (.builtin "str.upper") [.str x] σ Q := fun cargs ha Z s r => by
  obtain ⟨c, rfl, h1⟩ := one_arg ha
  obtain ⟨t, rfl⟩ := er_str h1
  exact call_gives F.slot_str_upper (typeIs_str _ _ _) F.entry_str_upper (F.args_str_upper_1 _) (gives_str_upper x t hfit) ⟨fit_le hfit, ⟨σ, r.toks, h⟩⟩
noncomputable def startsF (x y : Str) : Bool := 0 + y.length ≤ x.length && Builtin.Str.subAt x y 0
noncomputable def endsF (x y : Str) : Bool := 0 + y.length ≤ x.length && Builtin.Str.subAt x y (x.length - y.length)
theorem Call.starts {x y : Str} (h : Q (.bool (startsF x y)) σ) : Call g A n E (.builtin "str.startswith") [.str x, .str y] σ Q := fun cargs ha Z s r => by
  obtain ⟨c, d, rfl, h1, h2⟩ := two_args ha
  obtain ⟨t, rfl⟩ := er_str h1
  obtain ⟨u, rfl⟩ := er_str h2
  exact call_gives F.slot_str_startswith (typeIs_str _ _ _) F.entry_str_startswith (F.args_str_startswith_2 _ _) (gives_str_startswith x y t u) ⟨σ, r, h⟩
theorem Call.ends {x y : Str} (h : Q (.bool (endsF x y)) σ) : Call g A n E (.builtin "str.endswith") [.str x, .str y] σ Q := fun cargs ha Z s r => by
  obtain ⟨c, d, rfl, h1, h2⟩ := two_args ha
  obtain ⟨t, rfl⟩ := er_str h1
  obtain ⟨u, rfl⟩ := er_str h2
  exact call_gives F.slot_str_endswith (typeIs_str _ _ _) F.entry_str_endswith (F.args_str_endswith_2 _ _) (gives_str_endswith x y t u) ⟨σ, r, h⟩
theorem strs_of : ∀ {vs : List Value} {xs : List Str}, vs.map er = xs.map .str → ∃ l, vs = strValues l ∧ l.map (·.1) = xs
  | [], [], _ => ⟨[], rfl, rfl⟩
  | [], _ :: _, h => by simp at h
  | _ :: _, [], h => by simp at h
  | v :: vs, x :: xs, h => by
    simp only [List.map_cons, List.cons.injEq] at h
    obtain ⟨t, rfl⟩ := er_str h.1
    obtain ⟨l, rfl, rfl⟩ := strs_of h.2
    exact ⟨(x, t) :: l, rfl, rfl⟩
theorem Call.join {x : Str} {l : Addr} {texts : List Str} (hl : σ.H l = some (.list (texts.map .str))) (hok : JoinOk x texts = true) (h : Q (.str (Txt.join x texts)) σ) : Call g A n E (.builtin "str.join") [.str x, .ref l] σ Q := fun cargs ha Z s r => by
  obtain ⟨c, d, rfl, h1, h2⟩ := two_args ha
  obtain ⟨t, rfl⟩ := er_str h1
  rw [er_ref h2]
  obtain ⟨items, m, i1, i2⟩ := r.listAt hl
  obtain ⟨ls, e1, e2⟩ := strs_of i2
  refine SC.join (l := ls) ⟨_, i1, rfl, m, ?_⟩ e2 hok fun t' k => ⟨σ, r.toks, h⟩
  rw [← e1]

/-! the pattern -/
theorem meth_search : MethOf "re.Pattern" "re.Pattern.search" "search" := ⟨pat_plain, pat_slot, pat_type⟩
theorem patType : ∀ cv Z s, er cv = .ref 43 → Rel g Z n σ s → s.TypeIs cv "re.Pattern" ∧ ∀ a, cv = .ref a → ∃ ob, s.heap.get? a = some ob ∧ ob.dict = none := fun cv Z s e r => by
  rw [er_ref e]
  exact ⟨⟨_, r.kin 43 _ (pat43.2 _), rfl⟩, fun a q => by cases q; exact ⟨_, r.kin 43 _ (pat43.2 _), rfl⟩⟩
theorem Call.search {x : Str} {b : Bool} (hb : reSearch x.cps = some b) (hsz : x.cps.size < 1000) (h0 : b = false → Q .none σ) (h1 : b = true → ∀ a, σ.H a = none → Q (.ref a) ⟨upd σ.H a (.opq "re.Match"), σ.loc⟩) :
    Call g A n E (.builtin "re.Pattern.search") [.ref 43, .str x] σ Q := fun cargs ha Z s r => by
  obtain ⟨c, d, rfl, e1, e2⟩ := two_args ha
  rw [er_ref e1]
  obtain ⟨t, rfl⟩ := er_str e2
  refine search_call r.kin hb hsz (fun q => ⟨σ, r, h0 q⟩) fun q its fs => ?_
  have r1 := r.push { cls := .type "tuple", data := .seq its }
  have r2 := r1.alloc (ao := .opq "re.Match") (co := { cls := .type "re.Match", data := .fields fs }) ⟨rfl, rfl⟩ rfl
  have hsz : (s.heap.push { cls := .type "tuple", data := .seq its }).objs.size = s.heap.objs.size + 1 := Heap.size_push ..
  have hf := r1.fresh
  rw [show (Shared.heap { s with heap := s.heap.push { cls := .type "tuple", data := .seq its } }) = s.heap.push { cls := .type "tuple", data := .seq its } from rfl, hsz] at r2 hf
  exact ⟨_, r2, h1 q _ hf⟩
theorem noBool_match : typeLookup (.type "re.Match") "__bool__" = pure none := by rw [typeLookup_type, builtinLookup_eq_fast]; kernel_rfl
theorem noLen_match : typeLookup (.type "re.Match") "__len__" = pure none := by rw [typeLookup_type, builtinLookup_eq_fast]; kernel_rfl
theorem Tru.match {a : Addr} {B : Bool → St → Prop} (hl : σ.H a = some (.opq "re.Match")) (h : B true σ) : Tru g A n E (.ref a) σ B := fun ca e Z s r => by
  rw [er_ref e]
  obtain ⟨co, h1, h2, h3⟩ := r.owned hl
  have hT : s.TypeIs (.ref a) "re.Match" := ⟨_, h1, h2⟩
  unfold truthy
  first
    | refine wpAny_bind (wpAny_callSpecial?_none (name := Str.ofString "__bool__") hT noBool_match ?_)
    | refine wpAny_bind (wpAny_pure (wpAny_bind (wpAny_callSpecial?_none (name := Str.ofString "__bool__") hT noBool_match ?_)))
  first
    | refine wpAny_bind (wpAny_specialOf (name := Str.ofString "__len__") hT noLen_match ?_)
    | refine wpAny_bind (wpAny_pure (wpAny_bind (wpAny_specialOf (name := Str.ofString "__len__") hT noLen_match ?_)))
  exact wpAny_pure ⟨σ, r, h⟩
end

noncomputable def fdHdn : { fd : FuncData // ∀ P, (hd.heap_39 P).lookup 50 = some ⟨.type "function", none, .func fd, #[]⟩ } := ⟨_, fun _ => rfl⟩
noncomputable def fdUdm : { fd : FuncData // ∀ P, (hd.heap_39 P).lookup 57 = some ⟨.type "function", none, .func fd, #[]⟩ } := ⟨_, fun _ => rfl⟩

theorem hdn_ok (g : G) (x : Str) (b : Bool) (H : AH) (hb : reSearch x.cps = some b) (hsz : x.cps.size < 1000) : FnOk g 1 50 [.str x] H fun v H' => v = .bool (!b) ∧ HExt [] H H' := by
  refine FnOk.of_body (abinds := [(Str.ofString "text", .str x)]) (fdHdn.2 _) rfl rfl rfl rfl ?_ rfl ?_
  · intro cargs hc
    obtain ⟨a, rfl, e1⟩ := one_arg hc
    exact ⟨[(Str.ofString "text", a)], rfl, by simp [e1]⟩
  intro A L outer room fr
  walk_at "m1"
  walk_at "m1"
  walk_at "m1"
  refine Ev.method (Ev.global (v := .ref 43) rfl ⟨_, _, meth_search, patType, ?_⟩)
  (repeat walk_at "m1")
  refine Call.search hb hsz (fun q => ?_) fun q a ha => ?_
  · refine Tru.none ?_
    show Exs _ _ _ _ _ _ _
    (repeat walk_at "m1")
    exact ⟨by simp [q, retv], HExt.refl _ _⟩
  · refine Tru.match (upd_same ..) ?_
    show Exs _ _ _ _ _ _ _
    (repeat walk_at "m1")
    exact ⟨by simp [q, retv], HExt.new ha⟩

noncomputable def udmC (A B : Str) (p q : Bool) : Bool :=
  if p || q then A == B else (startsF B (Str.ofString ".") && endsF A B) || (!startsF B (Str.ofString ".") && A == B)
noncomputable def udmF (x y : Str) : Option Bool := match reSearch (Txt.lower x).cps, reSearch (Txt.lower y).cps with
  | some p, some q => some (udmC (Txt.lower x) (Txt.lower y) p q)
  | _, _ => none

theorem udm_ok (g : G) (x y : Str) (b : Bool) (H : AH) (hb : udmF x y = some b) (hx : Builtin.Str.tooLong (Txt.lower x).length = false) (hy : Builtin.Str.tooLong (Txt.lower y).length = false) (hx2 : (Txt.lower x).cps.size < 1000) (hy2 : (Txt.lower y).cps.size < 1000) :
    FnOk g 2 57 [.str x, .str y] H fun v H' => v = .bool b ∧ HExt [] H H' := by
  refine FnOk.of_body (abinds := [(Str.ofString "A", .str x), (Str.ofString "B", .str y)]) (fdUdm.2 _) rfl rfl rfl rfl ?_ rfl ?_
  · intro cargs hc
    obtain ⟨a, c, rfl, e1, e2⟩ := two_args hc
    exact ⟨[(Str.ofString "A", a), (Str.ofString "B", c)], rfl, by simp [e1, e2]⟩
  intro A L outer room fr
  unfold udmF at hb
  split at hb
  case h_2 => cases hb
  rename_i p q hp hq
  cases hb
  walk_at "m1"
  walk_at "m1"
  refine Ev.method (Ev.name rfl ⟨_, _, meth_lower, strType, ?_⟩)
  (repeat walk_at "m1")
  refine Call.lower hx ?_
  walk_at "m1"
  walk_at "m1"
  refine Ev.method (Ev.name rfl ⟨_, _, meth_lower, strType, ?_⟩)
  (repeat walk_at "m1")
  refine Call.lower hy ?_
  walk_at "m1"
  walk_at "m1"
  walk_at "m1"
  walk_at "m1"
  refine Tst.plain ?_
  refine Ev.callDef rfl (fdHdn.2 _) (room.mono (by (exact Nat.le_refl _) : 1 ≤ 1)) fr ?_
  (repeat walk_at "m1")
  refine ⟨_, hdn_ok g _ _ _ hp hx2, ?_⟩
  rintro _ H1 ⟨rfl, x1⟩
  refine Tru.bool ?_
  cases p with
  | true =>
    show Exs _ _ _ _ _ _ _
    (repeat walk_at "m1")
    refine ⟨_, rfl, ?_⟩
    cases hc : (Txt.lower x == Txt.lower y) with
    | true => show Exs _ _ _ _ _ _ _; (repeat walk_at "m1"); exact ⟨by simp [retv, udmC, hc], x1⟩
    | false => show Exs _ _ _ _ _ _ _; (repeat walk_at "m1"); exact ⟨by simp [retv, udmC, hc], x1⟩
  | false =>
    show Tst _ _ _ _ _ _ _
    walk_at "m1"
    refine Tst.plain ?_
    refine Ev.callDef rfl (fdHdn.2 _) (room.mono (by (exact Nat.le_refl _) : 1 ≤ 1)) fr ?_
    (repeat walk_at "m1")
    refine ⟨_, hdn_ok g _ _ _ hq hy2, ?_⟩
    rintro _ H2 ⟨rfl, x2⟩
    have x12 := x1.trans x2
    refine Tru.bool ?_
    cases q with
    | true =>
      show Exs _ _ _ _ _ _ _
      (repeat walk_at "m1")
      refine ⟨_, rfl, ?_⟩
      cases hc : (Txt.lower x == Txt.lower y) with
      | true => show Exs _ _ _ _ _ _ _; (repeat walk_at "m1"); exact ⟨by simp [retv, udmC, hc], x12⟩
      | false => show Exs _ _ _ _ _ _ _; (repeat walk_at "m1"); exact ⟨by simp [retv, udmC, hc], x12⟩
    | false =>
      show Tst _ _ _ _ _ _ _
      walk_at "m1"
      show Exs _ _ _ _ _ _ _
      (repeat walk_at "m1")
      refine Ev.method (Ev.name rfl ⟨_, _, meth_starts, strType, ?_⟩)
      (repeat walk_at "m1")
      refine Call.starts ?_
      (repeat walk_at "m1")
      cases hd : startsF (Txt.lower y) (Str.ofString ".") with
      | true =>
        show Tst _ _ _ _ _ _ _
        (repeat walk_at "m1")
        refine Ev.method (Ev.name rfl ⟨_, _, meth_ends, strType, ?_⟩)
        (repeat walk_at "m1")
        refine Call.ends ?_
        cases he : endsF (Txt.lower x) (Txt.lower y) with
        | true => refine Tru.bool ?_; show Tst _ _ _ _ _ _ _; walk_at "m1"; show Exs _ _ _ _ _ _ _; (repeat walk_at "m1"); exact ⟨by simp [retv, udmC, hd, he], x12⟩
        | false =>
          refine Tru.bool ?_
          show Exs _ _ _ _ _ _ _
          (repeat walk_at "m1")
          show Exs _ _ _ _ _ _ _; (repeat walk_at "m1"); exact ⟨by simp [retv, udmC, hd, he], x12⟩
      | false =>
        show Exs _ _ _ _ _ _ _
        (repeat walk_at "m1")
        show Tst _ _ _ _ _ _ _
        (repeat walk_at "m1")
        refine ⟨_, rfl, ?_⟩
        cases hc : (Txt.lower x == Txt.lower y) with
        | true => show Tst _ _ _ _ _ _ _; walk_at "m1"; show Exs _ _ _ _ _ _ _; (repeat walk_at "m1"); exact ⟨by simp [retv, udmC, hd, hc], x12⟩
        | false => show Exs _ _ _ _ _ _ _; (repeat walk_at "m1"); exact ⟨by simp [retv, udmC, hd, hc], x12⟩
end Mine
end

section
open PySem PySem.W PyProof.Rows PySem.Spec PySem.Calls
set_option Elab.async false
set_option maxRecDepth 100000
set_option linter.unusedVariables false
namespace Mine
noncomputable def labs : List Str := [Str.ofString "a", Str.ofString "b", Str.ofString "7"]
noncomputable def hosts : List (List Str) := (labs.map fun a => [a]) ++ (labs.flatMap fun a => labs.map fun b => [a, b]) ++ (labs.flatMap fun a => labs.flatMap fun b => labs.map fun c => [a, b, c])
noncomputable def rules2 : List (List Str) := (labs.map fun a => [a]) ++ (labs.flatMap fun a => labs.map fun b => [a, b])
noncomputable def dotS : Str := Str.ofString "."
noncomputable def jH (hs : List Str) : Str := Txt.join dotS hs
noncomputable def jR (d : Bool) (rs : List Str) : Str := (if d then dotS else Str.ofString "") ++ Txt.join dotS rs
noncomputable def pH (hs : List Str) : Bool := decide (2 ≤ hs.length) && hs.getLast? == some (Str.ofString "7")
noncomputable def pR (d : Bool) (rs : List Str) : Bool := (d || decide (2 ≤ rs.length)) && rs.getLast? == some (Str.ofString "7")
noncomputable def upIf (u : Bool) (x : Str) : Str := if u then Txt.upper x else x
theorem host_low : ∀ hs ∈ hosts, ∀ u : Bool, Txt.lower (upIf u (jH hs)) = jH hs := by decide +kernel
theorem rule_low : ∀ rs ∈ rules2, ∀ d u : Bool, Txt.lower (upIf u (jR d rs)) = jR d rs := by decide +kernel
theorem host_re : ∀ hs ∈ hosts, reSearch (jH hs).cps = some (pH hs) := by decide +kernel
theorem rule_re : ∀ rs ∈ rules2, ∀ d : Bool, reSearch (jR d rs).cps = some (pR d rs) := by decide +kernel
theorem udm_takes : ∀ hs ∈ hosts, ∀ rs ∈ rules2, ∀ d : Bool, udmC (jH hs) (jR d rs) (pH hs) (pR d rs) = takesF hs d rs := by decide +kernel
theorem host_size : ∀ hs ∈ hosts, (jH hs).cps.size < 1000 ∧ Builtin.Str.tooLong (jH hs).length = false ∧ Builtin.Str.tooLong (Txt.upper (jH hs)).length = false ∧ JoinOk dotS hs = true := by decide +kernel
theorem rule_size : ∀ rs ∈ rules2, ∀ d : Bool, (jR d rs).cps.size < 1000 ∧ Builtin.Str.tooLong (jR d rs).length = false ∧ Builtin.Str.tooLong (Txt.upper (jR d rs)).length = false ∧ JoinOk dotS rs = true := by decide +kernel
theorem udm_all {hs rs : List Str} (hh : hs ∈ hosts) (hr : rs ∈ rules2) (d u v : Bool) : udmF (upIf u (jH hs)) (upIf v (jR d rs)) = some (takesF hs d rs) := by
  unfold udmF
  rw [host_low hs hh, rule_low rs hr, host_re hs hh, rule_re rs hr]
  exact congrArg some (udm_takes hs hh rs hr d)
end Mine
end

section
open PySem PySem.W PyProof.Rows PySem.Spec PySem.Calls
set_option Elab.async false
set_option maxRecDepth 100000
set_option linter.unusedVariables false
namespace Mine

/-! defs that may raise an exception of a class -/
inductive RaiseR (g : G) (H : AH) (h : Heap) (cls : Value) (P : AH → Prop) (r : Result) (s' : Shared) : Prop
  | mk (e : Addr) (H' : AH) (tb cx : AV) (hr : r = .error (.ref e)) (r' : HRel g (under H h) H' s') (he : H' e = some (.exc cls tb cx)) (ht : IsTb H' tb) (hp : P H')
abbrev DoneX (g : G) (H : AH) (h : Heap) (cls : Value) (R : AV → AH → Prop) (P : AH → Prop) : Result → Shared → Prop := fun r s' =>
  Done g H h R r s' ∨ RaiseR g H h cls P r s'
noncomputable def FnX (g : G) (k : Nat) (fa : Addr) (cls : Value) (args : List AV) (H : AH) (R : AV → AH → Prop) (P : AH → Prop) : Prop :=
  ∀ A Z s cargs outer, cargs.map er = args → Room A k → A.frames = some outer → FrZ g (under H s.heap) outer → HRel g Z H s → codeAny (model prog g.w) A (.call (.ref fa) ⟨cargs, []⟩) (DoneX g H s.heap cls R P) s
noncomputable def StableH (P : AH → Prop) : Prop := ∀ H H', ExSame H H' → P H → P H'

theorem FnX.of_body {g : G} {k : Nat} {fa : Addr} {cls : Value} {oc : Value} {od : Option Addr} {osl : Array (Option Value)} {fd : FuncData} {args : List AV} {H : AH} {R : AV → AH → Prop} {P : AH → Prop} {abinds : List (Str × AV)} {body : List Stmt}
    (hK : (hd.heap_39 g.w.params).lookup fa = some ⟨oc, od, .func fd, osl⟩) (hcode : codeIn (hd.heap_39 g.w.params) fd.code fd.qualname = true) (hbody : fd.body = .stmts body) (hclo : fd.closure = []) (hsc : scopeOk fd.scope = true)
    (hb : ∀ cargs : List Value, cargs.map er = args → ∃ binds, bindArgs fd ⟨cargs, []⟩ = pure binds ∧ binds.map (fun p => (p.1, er p.2)) = abinds)
    (hkind : (abinds.all fun p => fd.scope.names.lookup p.1 == some .local || fd.scope.names.lookup p.1 == some .cell) = true) (hP : StableH P)
    (h : ∀ A L outer, Room A k → A.frames = some (callEnvC fd L fa :: outer) → Exs g A (fnEn fd L fa outer) (AE g (fnEn fd L fa outer) cls (fun _ => True) fun σ => P σ.H) body ⟨H, fun y => abinds.reverse.lookup y⟩ fun f σ' => R (retv f) σ'.H) :
    FnX g (k + 1) fa cls args H R P := by
  intro A Z s cargs outer hargs hroom hfr hfz r
  obtain ⟨binds, hb1, hb2⟩ := hb cargs hargs
  have hsc' := hsc
  simp only [scopeOk, Bool.and_eq_true, List.all_eq_true, bne_iff_ne, beq_iff_eq, Bool.not_eq_true'] at hsc'
  refine codeAny_call_function hroom.depth (r.kin _ _ hK) rfl hsc'.1.1.2 hsc'.1.2 hbody (codeRec_of r.kin hcode) ?_
  rw [hb1]
  refine wpAny_pure (fn_frame r hfz hsc hclo hb2 hkind fun s' R0 => codeAny_func ?_)
  have hfr' : (A.deeper (callEnvC fd s.heap.objs.size fa)).frames = some (callEnvC fd s.heap.objs.size fa :: outer) := Around.frames_deeper hfr
  refine wpAny_mono (h _ s.heap.objs.size outer hroom.deeper hfr' _ _ R0) (fun f s'' hq => ?_) fun v s'' hq => ?_
  · obtain ⟨σ', r', q⟩ := hq
    refine .inl ⟨_, σ'.H, rfl, r'.hr, ?_⟩
    cases f <;> exact q
  · obtain ⟨e, σ', tb, cx, rfl, r', he, ht, _, hp⟩ := hq
    unfold leaving
    refine wpAny_bind ?_
    refine wpAny_mono (Ok.noteFrame (g := g) (n := ⟨callEnvC fd s.heap.objs.size fa, cellNames fd.scope, outer⟩) (E := NE) (Q := fun _ σ'' => E2 fun T H' => C4 (σ'' = ⟨H', σ'.loc⟩) (H' T = some .tb) (H' e = some (.exc cls (.ref T) cx)) (ExSame σ'.H H')) hfr' hsc'.2 rfl he ht (fun T H' a1 a2 a3 => ⟨T, H', rfl, a1, a2, a3⟩) _ s'' r') ?_ (fun _ _ x => x.elim)
    rintro _ s₃ ⟨_, r₃, T, H', rfl, a1, a2, a3⟩
    have st : Ok g (A.deeper (callEnvC fd s.heap.objs.size fa)) ⟨callEnvC fd s.heap.objs.size fa, cellNames fd.scope, outer⟩ NE (PySem.setFlight (.ref e) none) ⟨H', σ'.loc⟩ fun _ σ'' => σ'' = ⟨upd H' T .tb, σ'.loc⟩ := Ok.setFlight a2 a1 rfl
    refine wpAny_mono (st _ s₃ r₃) (fun _ s₄ h₄ => ?_) fun _ _ x => x.elim
    obtain ⟨_, r₄, rfl⟩ := h₄
    exact .inr ⟨e, _, .ref T, cx, rfl, r₄.hr, upd_ne_eT a2 a1 (by intro q; cases q), .inr ⟨T, rfl, upd_same ..⟩, hP _ _ (a3.trans (ExSame.tb a1)) hp⟩

section
variable {g : G} {A : Around} {n : En} {E : Exn} {σ : St}

inductive RelabP {α : Type} (Q : α → St → Prop) (a : α) (σ₁ : St) : Prop
  | mk (d : Addr) (ao ao' : AO) (h : σ₁.H d = some ao) (m : ∀ co, ORel ao co → ORel ao' co) (ne : ∀ c t x, ao ≠ .exc c t x) (q : Q a ⟨upd σ₁.H d ao', σ₁.loc⟩)
/-- what an owned object is called may change -/
theorem Ok.relabQ {α : Type} {t : Sem α} {Q : α → St → Prop} (h : Ok g A n E t σ (RelabP Q)) : Ok g A n E t σ Q := fun Z s r => by
  refine wpAny_mono (h Z s r) (fun a s' h' => ?_) fun _ _ e => e
  obtain ⟨σ₁, r₁, d, ao, ao', h1, h2, h3, q⟩ := h'
  obtain ⟨co, c1, c2⟩ := r₁.owned h1
  exact ⟨_, r₁.set h1 (fun b o _ hb => hb) c1 (h2 _ c2) (hk := fun ⟨_, _, _, q⟩ => absurd q (h3 _ _ _)), q⟩

theorem Call.fnX {k : Nat} {fa : Addr} {cls : Value} {args : List AV} {R : AV → AH → Prop} {P : AH → Prop} {P' : St → Prop} {Q : AV → St → Prop} (hf : FnX g k fa cls args σ.H R P) (hroom : Room A k) (hfr : A.frames = some (n.env :: n.outer)) (hk : n.env.scope.kind = .function) (hL : n.env.frame = some n.env.locals)
    (h : ∀ v H', R v H' → Q v ⟨H', σ.loc⟩) (hx : ∀ H', P H' → P' ⟨H', σ.loc⟩) : Call g A n (AE g n cls (fun _ => True) P') (.ref fa) args σ Q := fun cargs ha Z s r => by
  refine wpAny_call (codeAny_mono (hf A Z s cargs _ ha hroom hfr (r.frz hk hL) r.hr) fun res s' hq => ?_)
  rcases hq with ⟨v, H', rfl, r', q⟩ | ⟨e, H', tb, cx, rfl, r', he, ht, hp⟩
  · exact ⟨_, r.back r', h _ _ q⟩
  · exact ⟨e, ⟨H', σ.loc⟩, tb, cx, rfl, r.back r', he, ht, trivial, hx _ hp⟩

theorem k91 (P : Params) : (hd.heap_39 P).lookup 91 = some (excClassObj "CycleError" "CycleError" 91 90 [.type "ValueError"] [.type "ValueError", .type "Exception", .type "BaseException", .type "object"] true [] [] false none none (some (.ref 82)) none (some (.str "CycleError" 382)) (some (.str "CycleError" 390)) (some (.bool true)) "ValueError.__new__") := by
  kernel_rfl
theorem ns90 {h : Heap} {P : Params} (X : (hd.heap_39 P).In h) : h.Ns 90 (h.nsMap 90) ∧ h.nsMap 90 "__init__" = none :=
  ⟨.of_isNs (isNs_of_in X (by kernel_rfl)), nsMap_none_of_in X (by kernel_rfl) (by kernel_rfl)⟩

/-- the text's exception is raised -/
theorem Ex.raiseCycle {x : Str} {np cpos pos : Pos} {args : List Expr} {P : St → Prop} {Q : AFl → St → Prop} (hv : nsIn (hd.heap_39 g.w.params) mainGlobals x = some (some (.ref 91))) (hh : A.handled = none) (hS : Stable P)
    (h : Evs g A n (AE g n (.ref 91) (fun _ => True) P) args σ fun as σ₁ => as.length ≤ 1000 ∧ P σ₁)
    (hs : (starEach args n.env).all (fun x => !x.1) = true := by exact Mine.tt0)
    (hf : n.env.scope.kind = .function := by exact Mine.rfk) (hgl : n.env.globals = mainGlobals := by exact Mine.rfg) (hk : n.env.kindOf x = some .globalImplicit := by exact Mine.rfi) (hd : (x == ("__debug__" : Str)) = false := by exact Mine.ff0) :
    Ex g A n (AE g n (.ref 91) (fun _ => True) P) (.Raise (some (.Call (.Name x np) args [] cpos)) none pos) σ Q := fun Z s r => by
  refine wpAny_Raise_call_sub (nm := "CycleError") (q := "CycleError") (C := 91) (N := 90) (bs := [.type "ValueError"]) (hdct := true) (sn := []) (sub := []) (ab := false) (col := none) (dd := none) (k0 := some (.ref 82)) (k1 := none) (k2 := some (.str "CycleError" 382)) (k3 := some (.str "CycleError" 390)) (k5 := some (.bool true))
    (mN := g.base.nsMap 90) PySem.F.excBase_ValueError hh (noStar_backTo hs) (ns90 g.kin).2 ?_
  have ev : Ev g A n (AE g n (.ref 91) (fun _ => True) P) (.Name x np) σ fun a σ'' => a = .ref 91 ∧ σ'' = σ := Ev.global (v := .ref 91) hv ⟨rfl, rfl⟩ hf hgl hk hd
  refine wpAny_mono (ev Z s r) (fun f s₁ h₁ => ?_) fun _ _ e => e
  obtain ⟨_, r₁, e1, rfl⟩ := h₁
  refine ⟨er_ref e1, ?_⟩
  refine wpAny_mono (Ok.evalArgs (f := .ref 91) (P := fun a σ₁ => a.kw = [] ∧ a.pos.length ≤ 1000 ∧ P σ₁) (fun p => Ok.mono (h p) fun vs σ₁ h₁ vs' e => ⟨rfl, ?_, h₁.2⟩) hs Z s₁ r₁) (fun a s₂ h₂ => ?_) fun _ _ e => e
  · have := h₁.1; rw [← e, List.length_map] at this; exact this
  obtain ⟨σ₂, r₂, q1, q2, q3⟩ := h₂
  refine ⟨q1, Nat.le_trans q2 (by decide), r₂.kin _ _ (k91 _), (ns90 g.kin).1.keeps r₂.hr.stay, fun h' e hm => ?_⟩
  obtain ⟨z1, z2, z3⟩ := r₂.zfresh hm.new
  obtain ⟨y1, y2⟩ := r₂.apart hm.new
  obtain ⟨t, ht, _, _⟩ := hm.there
  have r₃ : Rel g Z n σ₂ { s₂ with heap := h' } := r₂.ext hm.keeps
  refine ⟨e, _, .none, .none, rfl, r₃.adopt (ao := .exc (.ref 91) .none .none) ht ⟨rfl, _, rfl, rfl, rfl⟩ z1 z2 (.inr ⟨_, _, _, rfl⟩) y1 y2, upd_same .., .inl rfl, trivial, hS _ _ _ (ExSame.new z3) (by cases σ₂; exact q3)⟩

/-- a suite under a handler of the text's class -/
theorem Ex.tryCycle {body : List Stmt} {b₀ : Stmt} {suite : List Stmt} {tpos pos pos' : Pos} {nm : Str} {P : St → Prop} {Q : AFl → St → Prop}
    (h : Exs g A n (AE g n (.ref 91) (fun _ => True) P) body σ fun f σ₁ => Q f σ₁)
    (hh : ∀ e σ₁, P σ₁ → Exs g (A.mark (some (.ref e))) n NE (b₀ :: suite) σ₁ Q) (hfr : A.frames = some (n.env :: n.outer)) (hS : Stable P)
    (hv : nsIn (hd.heap_39 g.w.params) mainGlobals nm = some (some (.ref 91)))
    (hf : n.env.scope.kind = .function := by exact Mine.rfk) (hL : n.env.frame = some n.env.locals := by rfl) (hgl : n.env.globals = mainGlobals := by exact Mine.rfg) (hk : n.env.kindOf nm = some .globalImplicit := by exact Mine.rfi) (hd : (nm == ("__debug__" : Str)) = false := by exact Mine.ff0) :
    Ex g A n E (.Try body [.ExceptHandler (some (.Name nm tpos)) none (b₀ :: suite) pos'] [] [] pos) σ Q := fun Z s r => by
  refine wpAny_Try_except (wpAny_mono (h Z s r) (fun f s₁ h₁ => ?_) fun v s₁ h₁ => ?_)
  · obtain ⟨σ₁, r₁, q⟩ := h₁
    cases f with
    | next => exact wpAny_execs_nil ⟨σ₁, r₁, q⟩
    | _ => exact ⟨σ₁, r₁, q⟩
  · obtain ⟨e, σ₁, tb, cx, rfl, r₁, he, ht, hC, hP⟩ := h₁
    have st1 := Ok.noteFrame (g := g) (A := A) (E := NE) (Q := fun _ σ'' => E2 fun T H' => C4 (σ'' = ⟨H', σ₁.loc⟩) (H' T = some .tb) (H' e = some (.exc (.ref 91) (.ref T) cx)) (ExSame σ₁.H H')) hfr hf hL he ht (fun T H' a1 a2 a3 => ⟨T, H', rfl, a1, a2, a3⟩)
    refine wpAny_mono (st1 Z s₁ r₁) (fun _ s₂ h₂ => ?_) fun _ _ x => x.elim
    obtain ⟨_, r₂, T', H', rfl, a1, a2, a3⟩ := h₂
    have st2 : Ok g A n NE (PySem.setFlight (.ref e) none) ⟨H', σ₁.loc⟩ fun _ σ'' => σ'' = ⟨upd H' T' .tb, σ₁.loc⟩ := Ok.setFlight a2 a1 rfl
    refine wpAny_mono (st2 Z s₂ r₂) (fun _ s₃ h₃ => ?_) fun _ _ x => x.elim
    obtain ⟨_, r₃, rfl⟩ := h₃
    have a1' : upd H' T' .tb T' = some .tb := upd_same ..
    have a2' : upd H' T' .tb e = some (.exc (.ref 91) (.ref T') cx) := upd_ne_eT a2 a1 (by intro q; cases q)
    have a3' := a3.trans (ExSame.tb a1)
    have ev : Ev g (A.mark (some (.ref e))) n NE (.Name nm tpos) ⟨upd H' T' .tb, σ₁.loc⟩ fun a σ'' => a = .ref 91 ∧ σ'' = ⟨upd H' T' .tb, σ₁.loc⟩ := Ev.global (v := .ref 91) hv ⟨rfl, rfl⟩ hf hgl hk hd
    refine wpAny_handleBy_cons (codeAny_handlers_test (wpAny_mono (ev Z s₃ r₃) (fun c s₄ h₄ => ?_) fun _ _ x => x.elim)) (by intro q; cases q)
    obtain ⟨_, r₄, hc, rfl⟩ := h₄
    obtain ⟨co, q1, q2, _⟩ := r₄.owned a2'
    rw [er_ref hc]
    obtain ⟨hh4, gg, dd, tt, oo⟩ := s₄
    refine wpAny_excMatches_sub_self (r₄.kin _ _ (k91 _)) q1 q2 (by decide) (codeAny_handlers_suite ?_)
    have st3 : Ok g (A.mark (some (.ref e))) n NE (PySem.setFlight (.ref e) none) ⟨upd H' T' .tb, σ₁.loc⟩ fun _ σ'' => σ'' = ⟨upd (upd H' T' .tb) T' .tb, σ₁.loc⟩ := Ok.setFlight a2' a1' rfl
    refine wpAny_mono (st3 Z _ r₄) (fun _ s₅ h₅ => ?_) fun _ _ x => x.elim
    obtain ⟨_, r₅, rfl⟩ := h₅
    refine wpAny_mono (hh e _ (hS _ _ _ (a3'.trans (ExSame.tb a1')) (by cases σ₁; exact hP)) Z s₅ r₅) (fun f s₆ h₆ => h₆) fun _ _ x => x.elim
end
end Mine
end

section
open PySem PySem.W PyProof.Rows PySem.Spec PySem.Calls
set_option Elab.async false
set_option maxRecDepth 100000
set_option linter.unusedVariables false
namespace Mine
noncomputable def fdPrep : { fd : FuncData // ∀ P, (hd.heap_39 P).lookup 128 = some ⟨.type "function", none, .func fd, #[]⟩ } := ⟨_, fun _ => rfl⟩

theorem SAt.exSame {H H' : AH} {S : SR} (h : SAt H S) (e : ExSame H H') : SAt H' S :=
  ⟨e _ _ trivial h.inst, e _ _ trivial h.idict, e _ _ trivial h.dict, fun n hn => ⟨e _ (nodeAO n) trivial (h.nodes n hn).inst, e _ _ trivial (h.nodes n hn).dict, e _ _ trivial (h.nodes n hn).list⟩, fun r ns q => e _ _ trivial (h.ready r ns q), h.lists, h.keys⟩
theorem SFr.exSame {H H' H'' : AH} {S S' : SR} (h : SFr H S H' S') (hx : NoEx H) (e : ExSame H' H'') : SFr H S H'' S' :=
  ⟨fun x o hx' hh => e _ _ (hx x o hh) (h.keep x o hx' hh), h.fresh⟩

theorem SAt.alive {H : AH} {S : SR} (h : SAt H S) {x : Addr} (hx : x ∈ S.addrs) : H x ≠ none := by
  unfold SR.addrs at hx
  simp only [List.mem_cons, List.mem_append, List.mem_flatMap, List.not_mem_nil, or_false] at hx
  rcases hx with rfl | rfl | rfl | ⟨n, hn, rfl | rfl | rfl⟩ | hx
  · rw [h.inst]; simp
  · rw [h.idict]; simp
  · rw [h.dict]; simp
  · rw [(h.nodes n hn).inst]; simp
  · rw [(h.nodes n hn).dict]; simp
  · rw [(h.nodes n hn).list]; simp
  · cases q : S.rn with
    | none => rw [q] at hx; simp [rnL] at hx
    | some p => obtain ⟨r, ns⟩ := p; rw [q] at hx; simp [rnL] at hx; subst hx; rw [h.ready _ _ q]; simp
noncomputable def zeroKs (L : LN) : List Int := (L.filter fun t => t.2.1 == 0).map (·.1)

section
variable {g : G} {A : Around} {n : En} {E : Exn} {σ : St} {scope : Scope} {pos : Pos}
theorem Ev.comp1V {iter elt : Expr} {x : Str} {px : Pos} {ifs : List Expr} {Q : AV → St → Prop} (h : Comp1V g A n σ iter x ifs elt scope (QRef Q)) (hh : A.handled = none) (hb : compBound n scope σ.loc = true := by exact Mine.tt0) (hc : compOk n scope = true := by exact Mine.tt0)
    (hst : ∀ L cells, canStore (compEn n scope L cells) x = true := by intros; rfl) (hx : (scope.names.lookup x == some .free) = false := by exact Mine.ff0) (hs : ∀ x, foldedSetIterable iter n.env x = pure x := by intro _; rfl) :
    Ev g A n E (.ListComp elt [⟨.Name x px, iter, ifs, 0⟩] scope pos) σ Q :=
  comp_rule (use := none) (Q := fun v σ' => Q (er v) σ') (h.use (pos := pos) hh hc hst hx) (fun D σ' hk => hk) hc hb hs
theorem Ev.relabQ {e : Expr} {Q : AV → St → Prop} (h : Ev g A n E e σ (RelabP Q)) : Ev g A n E e σ Q := Ok.relabQ (Ok.mono h fun _ _ ⟨d, ao, ao', a, b, c, q⟩ => ⟨d, ao, ao', a, b, c, q⟩)
theorem Ev.joined1 {v : Expr} {Q : AV → St → Prop} (h : Ev g A n E v σ Q) : Ev g A n E (.JoinedStr [v] pos) σ Q := fun Z s r => wpAny_JoinedStr_one (h Z s r)
end

theorem dict_vdict {es : List (Int × AV)} {ep : Nat} : ∀ co, ORel (.dict es ep) co → ORel (.vdict es ep) co := fun _ h => h
theorem vdict_dict {es : List (Int × AV)} {ep : Nat} : ∀ co, ORel (.vdict es ep) co → ORel (.dict es ep) co := fun _ h => h

/-- what prepare leaves -/
structure Prep (H : AH) (S : SR) (H' : AH) (r : Addr) : Prop where
  at_ : SAt H' { S with rn := some (r, zeroKs (lgc S.nodes)) }
  fr : SFr H S H' { S with rn := some (r, zeroKs (lgc S.nodes)) }

theorem prep_ok (g : G) (S : SR) (H : AH) (h : SAt H S) (hx : NoEx H) (hrn : S.rn = none) (hlen : S.nodes.length ≤ 100) (hcl : ∀ t ∈ lgc S.nodes, ∀ s ∈ t.2.2, s ∈ (lgc S.nodes).map (·.1)) :
    FnX g 3 128 (.ref 91) [.ref S.a] H (fun v H' => v = .none ∧ (∃ r, Prep H S H' r) ∧ Acyc (fun k => succOf k (lgc S.nodes)) ((lgc S.nodes).map (·.1))) (fun H' => (∃ r, Prep H S H' r) ∧ Cyc (fun k => succOf k (lgc S.nodes))) := by
  refine FnX.of_body (abinds := [(Str.ofString "self", .ref S.a)]) (fdPrep.2 _) rfl rfl rfl rfl ?_ rfl ?_ ?_
  · intro cargs hc
    obtain ⟨a, rfl, e1⟩ := one_arg hc
    exact ⟨[(Str.ofString "self", a)], rfl, by simp [e1]⟩
  · rintro H1 H2 e ⟨⟨r, p⟩, q⟩
    exact ⟨⟨r, p.at_.exSame e, p.fr.exSame hx e⟩, q⟩
  intro A L outer room fr
  have f2 : S.fields.lookup (Str.ofString "_ready_nodes") = some .none := by simp [SR.fields, hrn, rnAV]; rfl
  walk_at "m1"
  walk_at "m1"
  refine Tst.compare (Ev.attr (Ev.name rfl (Gat.own own_ready h.inst h.idict f2 rfl ?_)))
  (repeat walk_at "m1")
  refine Cmp.isNotNone rfl ⟨_, rfl, ?_⟩
  show Exs _ _ _ _ _ _ _
  (repeat walk_at "m1")
  refine Ex.assignT1 ?_
  refine Ev.relabQ (Ev.comp1V ?_ room.h)
  refine Ev.relabQ ?_
  refine Ev.method (Ev.attr (Ev.name rfl (Gat.own own_n2i h.inst h.idict rfl rfl ⟨"dict", "dict.values", meth_dvalues, dictType h.dict, ?_⟩)))
  (repeat walk_at "m1")
  refine Call.dvalues h.dict fun u hu => ?_
  dsimp only at hu ⊢
  have hud : S.d ≠ u := ne_of_H h.dict hu
  refine ⟨S.d, .dict S.entries S.ep, .vdict S.entries S.ep, ?_, dict_vdict, (by intro _ _ _ q; cases q), ?_⟩
  · show upd _ _ _ _ = _; rw [upd_ne hud]; exact h.dict
  have hv1 : upd (upd H u (.dview S.d)) S.d (.vdict S.entries S.ep) u = some (.dview S.d) := by rw [upd_ne (Ne.symm hud)]; exact upd_same ..
  have hv2 : upd (upd H u (.dview S.d)) S.d (.vdict S.entries S.ep) S.d = some (.vdict S.entries S.ep) := upd_same ..
  try dsimp only
  generalize hHv : upd (upd H u (.dview S.d)) S.d (.vdict S.entries S.ep) = Hv at hv1 hv2 ⊢
  have keep : ∀ x o, x ≠ S.d → H x = some o → Hv x = some o := fun x o hxd ho => by
    rw [← hHv, upd_ne hxd, upd_ne (ne_of_H ho hu)]; exact ho
  have nd : ∀ n ∈ S.nodes, Hv n.b = some (nodeAO n) ∧ Hv n.dx = some (.idict []) := fun n hn => by
    have := h.nodes n hn
    refine ⟨keep _ _ (fun q => ?_) this.inst, keep _ _ (fun q => ?_) this.dict⟩
    · have h1 := this.inst; rw [q, h.dict] at h1; cases h1
    · have h1 := this.dict; rw [q, h.dict] at h1; cases h1
  refine ⟨S.d, .vdict S.entries S.ep, _, .inr ⟨u, S.entries, S.ep, rfl, hv1, rfl⟩, hv2, rfl, fun i ys H' => C3 (H' = Hv) (i ≤ S.nodes.length) (ys = ((S.nodes.take i).filter fun n => n.np == 0).map fun n => .int n.k), ⟨rfl, Nat.zero_le _, rfl⟩, ?_, ?_, ?_⟩
  · rintro i ys H' ⟨rfl, hi, rfl⟩
    refine ⟨hv2, ?_⟩
    rw [List.length_map]
    exact Nat.le_trans (List.length_filter_le ..) (Nat.le_trans (List.length_take_le ..) (by (with_reducible exact Nat.le_trans (by assumption) (Nat.le_trans (by assumption) (by decide)))))
  · rintro L' cells i a ys H' hia ⟨rfl, hi, rfl⟩
    have hia' : (S.nodes.map fun n => AV.ref n.b)[i]? = some a := by
      rw [← hia]; unfold SR.entries; rw [List.map_map]; rfl
    obtain ⟨n, hn, rfl⟩ := map_get hia'
    have hmem := List.mem_of_getElem? hn
    have hlt := (List.getElem?_eq_some_iff.mp hn).1
    obtain ⟨n1, n2⟩ := nd n hmem
    (repeat walk_at "m1")
    refine Ev.attr (Ev.name rfl (Gat.slot slot_np n1 n2 rfl rfl ?_))
    (repeat walk_at "m1")
    refine ⟨_, rfl, rfl, ?_⟩
    have hs : (S.nodes.take (i + 1)).filter (fun n => n.np == 0) = (S.nodes.take i).filter (fun n => n.np == 0) ++ (if n.np == 0 then [n] else []) := by
      rw [take_succ_get hn, List.filter_append]; simp only [List.filter_cons, List.filter_nil]
    cases hz : (n.np == 0) with
    | true =>
      show Ev _ _ _ _ _ _ _
      refine Ev.attr (Ev.name rfl (Gat.slot slot_node n1 n2 rfl rfl ?_))
      refine ⟨rfl, rfl, hlt, ?_⟩
      rw [hs, hz, if_pos rfl]; simp
    | false =>
      refine ⟨rfl, hlt, ?_⟩
      rw [hs, hz, if_neg (by simp)]; simp
  rintro ys H' ⟨rfl, -, rfl⟩ r hr
  have hdr : S.d ≠ r := fun q => by rw [← q, ← hHv] at hr; simp at hr
  have hr0 : H r = none := by
    cases q : H r with
    | none => rfl
    | some o => have := keep r o (Ne.symm hdr) q; rw [hr] at this; cases this
  refine ⟨S.d, .vdict S.entries S.ep, .dict S.entries S.ep, ?_, vdict_dict, (by intro _ _ _ q; cases q), ?_⟩
  · show upd _ _ _ _ = _; rw [upd_ne hdr, ← hHv]; exact upd_same ..
  have hks : ((S.nodes.take S.entries.length).filter fun n => n.np == 0).map (fun n => AV.int n.k) = (zeroKs (lgc S.nodes)).map .int := by
    have : S.entries.length = S.nodes.length := by simp [SR.entries]
    rw [this, List.take_length]
    unfold zeroKs lgc
    rw [List.filter_map, List.map_map, List.map_map]; rfl
  have hks' := hks
  rw [show ((S.nodes.take (S.entries.map fun p => p.2).length).filter fun n => n.np == 0).map (fun n => AV.int n.k) = (zeroKs (lgc S.nodes)).map .int by rw [List.length_map]; exact hks]
  generalize hH1 : upd (upd H' r (.list ((zeroKs (lgc S.nodes)).map .int))) S.d (.dict S.entries S.ep) = H1
  have x1 : HExt [] H H1 := fun x o _ ho => by
    rw [← hH1]
    by_cases hxd : x = S.d
    · rw [hxd] at ho ⊢; rw [h.dict] at ho; cases ho; exact upd_same ..
    · rw [upd_ne hxd, upd_ne (ne_of_H ho hr0)]; exact keep _ _ hxd ho
  have hr1 : H1 r = some (.list ((zeroKs (lgc S.nodes)).map .int)) := by rw [← hH1, upd_ne (Ne.symm hdr)]; exact upd_same ..
  have nx1 : NoEx H1 := by
    rw [← hH1, ← hHv]
    exact (((hx.upd (o := .dview S.d) trivial).upd (o := .vdict S.entries S.ep) trivial).upd (o := .list ((zeroKs (lgc S.nodes)).map .int)) trivial).upd (o := .dict S.entries S.ep) trivial
  have h1 := h.ext x1
  have hra : r ∉ S.addrs := fun q => h.alive q hr0
  refine Asg.attr (Ev.name rfl (Sat.own own_ready h1.inst h1.idict (by simp [SR.fields]) ?_))
  have hput : putA (Str.ofString "_ready_nodes") (.ref r) S.fields = SR.fields { S with rn := some (r, zeroKs (lgc S.nodes)) } := by
    simp only [SR.fields, hrn]; rfl
  rw [hput]
  have h2 := h1.setRn hrn hr1 hra rfl
  have fr2 : SFr H S (upd H1 S.dx (.idict (SR.fields { S with rn := some (r, zeroKs (lgc S.nodes)) }))) { S with rn := some (r, zeroKs (lgc S.nodes)) } := by
    refine ⟨fun x o hx' ho => ?_, fun x hx' => ?_⟩
    · rw [upd_ne]
      · exact x1 x o (by (exact nm0)) ho
      · rintro rfl; exact hx' (by simp [SR.addrs])
    · have : x ∈ S.addrs ∨ x = r := by
        unfold SR.addrs at hx' ⊢
        simp only [rnL, List.mem_cons, List.mem_append, List.not_mem_nil, or_false] at hx' ⊢
        rcases hx' with q | q | q | q | q <;> simp [q]
      exact this.elim .inl fun e => .inr (by rw [e]; exact hr0)
  have nx2 : NoEx (upd H1 S.dx (.idict (SR.fields { S with rn := some (r, zeroKs (lgc S.nodes)) }))) := nx1.upd trivial
  generalize upd H1 S.dx _ = H2 at h2 fr2 nx2 ⊢
  walk_at "m1"
  walk_at "m1"
  refine Ev.meth meth_find (fdFC.2 _) (Ev.name rfl ⟨S.a, S.dx, [], _, rfl, h2.inst, h2.idict, rfl, ?_⟩)
  (repeat walk_at "m1")
  refine Call.fn (find_ok g { S with rn := some (r, zeroKs (lgc S.nodes)) } H2 h2 nx2 hlen hcl) (room.mono (by (exact Nat.le_refl _) : 2 ≤ 2)) fr rfl rfl ?_
  rintro v H3 ⟨x3, hv⟩
  dsimp only at hv ⊢
  have p3 : Prep H S H3 r := ⟨h2.ext x3, fr2.trans (SFr.new x3)⟩
  walk_at "m1"
  walk_at "m1"
  walk_at "m1"
  refine Ev.name rfl ?_
  rcases hv with ⟨rfl, hac⟩ | ⟨c, ns, rfl, hc, hne, hln, hcy⟩
  · refine Tru.none ?_
    show Exs _ _ _ _ _ _ _
    (repeat walk_at "m1")
    exact ⟨rfl, ⟨r, p3⟩, hac⟩
  · refine Tru.list hc (by (with_reducible exact Nat.le_trans (by assumption) (by decide))) ?_
    have : ns.isEmpty = false := by cases ns with
      | nil => exact absurd rfl hne
      | cons _ _ => rfl
    rw [this]
    show Exs _ _ _ _ _ _ _
    walk_at "m1"
    refine Ex.raiseCycle rfl room.h ?_ ?_
    · rintro H4 H5 loc e ⟨⟨r', p⟩, q⟩
      exact ⟨⟨r', p.at_.exSame e, p.fr.exSame hx e⟩, q⟩
    walk_at "m1"
    refine Ev.joined1 ?_
    (repeat walk_at "m1")
    exact ⟨by simp, ⟨r, p3⟩, hcy⟩
end Mine
end

section
open PySem PySem.W PyProof.Rows PySem.Spec PySem.Calls
set_option Elab.async false
set_option maxRecDepth 100000
set_option linter.unusedVariables false
namespace Mine
noncomputable def fdSites : { fd : FuncData // ∀ P, (hd.heap_39 P).lookup 189 = some ⟨.type "function", none, .func fd, #[]⟩ } := ⟨_, fun _ => rfl⟩

abbrev Site := List Str × Bool × List Str
inductive IsSite (M : List Addr) (H : AH) (v : AV) (s : Site) : Prop
  | mk (t : Addr) (h r : AV) (hv : v = .ref t) (off : t ∉ M) (at_ : H t = some (.tup [h, .bool s.2.1, r])) (hh : IsS M H h s.1) (hr : IsS M H r s.2.2)
theorem IsSite.ext {M : List Addr} {H H' : AH} {v : AV} {s : Site} (h : IsSite M H v s) (e : HExt M H H') : IsSite M H' v s :=
  let ⟨t, h', r, h1, h2, h3, h4, h5⟩ := h; ⟨t, h', r, h1, h2, e _ _ h2 h3, h4.ext e, h5.ext e⟩
theorem IsSite.mono {M M' : List Addr} {H : AH} {v : AV} {s : Site} (h : IsSite M H v s) (hm : ∀ x ∈ M', x ∈ M) : IsSite M' H v s :=
  let ⟨t, h', r, h1, h2, h3, ⟨a, a1, a2, a3⟩, b, b1, b2, b3⟩ := h; ⟨t, h', r, h1, fun q => h2 (hm _ q), h3, ⟨a, a1, fun q => a2 (hm _ q), a3⟩, b, b1, fun q => b2 (hm _ q), b3⟩

noncomputable def labI (k : Int) : Str := ⟨#[(Str.ofString "ab7").cps.getD k.toNat 0]⟩
theorem labI_mem (n : Int) : labI (n.fmod 3) ∈ labs := by
  have h0 := Int.fmod_nonneg_of_pos n (by decide : (0 : Int) < 3)
  have h1 := Int.fmod_lt_of_pos n (by decide : (0 : Int) < 3)
  generalize n.fmod 3 = k at h0 h1
  have : k = 0 ∨ k = 1 ∨ k = 2 := by (with_reducible exact three_of (by assumption) (by assumption))
  rcases this with rfl | rfl | rfl <;> decide +kernel
noncomputable def hostF (n : Int) : List Str := (rngI 1 (2 + n.fmod 3)).map fun k => labI ((n.fdiv (3 ^ k.toNat)).fmod 3)
noncomputable def dotF (n : Int) : Bool := (n.fdiv 81).fmod 2 == 1
noncomputable def ruleF (n : Int) : List Str := (rngI 0 (1 + (n.fdiv 162).fmod 2)).map fun k => labI (((n.fdiv 324).fdiv (3 ^ k.toNat)).fmod 3)
noncomputable def siteF (n : Int) : Site := (hostF n, dotF n, ruleF n)
theorem mem1 {f : Int → Str} (hf : ∀ k, f k ∈ labs) {a : Int} : [f a] ∈ hosts ∧ [f a] ∈ rules2 := by
  have : ∀ x ∈ labs, [x] ∈ hosts ∧ [x] ∈ rules2 := by decide +kernel
  exact this _ (hf a)
theorem mem2 {f : Int → Str} (hf : ∀ k, f k ∈ labs) {a b : Int} : [f a, f b] ∈ hosts ∧ [f a, f b] ∈ rules2 := by
  have : ∀ x ∈ labs, ∀ y ∈ labs, [x, y] ∈ hosts ∧ [x, y] ∈ rules2 := by decide +kernel
  exact this _ (hf a) _ (hf b)
theorem mem3 {f : Int → Str} (hf : ∀ k, f k ∈ labs) {a b c : Int} : [f a, f b, f c] ∈ hosts := by
  have : ∀ x ∈ labs, ∀ y ∈ labs, ∀ z ∈ labs, [x, y, z] ∈ hosts := by decide +kernel
  exact this _ (hf a) _ (hf b) _ (hf c)
theorem hostF_mem (n : Int) : hostF n ∈ hosts := by
  have h0 := Int.fmod_nonneg_of_pos n (by decide : (0 : Int) < 3)
  have h1 := Int.fmod_lt_of_pos n (by decide : (0 : Int) < 3)
  unfold hostF
  generalize n.fmod 3 = m at h0 h1
  have hf : ∀ k : Int, labI ((n.fdiv (3 ^ k.toNat)).fmod 3) ∈ labs := fun k => labI_mem _
  have : m = 0 ∨ m = 1 ∨ m = 2 := by (with_reducible exact three_of (by assumption) (by assumption))
  rcases this with rfl | rfl | rfl
  · exact (mem1 hf (a := 1)).1
  · exact (mem2 hf (a := 1) (b := 2)).1
  · exact mem3 hf (a := 1) (b := 2) (c := 3)
theorem ruleF_mem (n : Int) : ruleF n ∈ rules2 := by
  have h0 := Int.fmod_nonneg_of_pos (n.fdiv 162) (by decide : (0 : Int) < 2)
  have h1 := Int.fmod_lt_of_pos (n.fdiv 162) (by decide : (0 : Int) < 2)
  unfold ruleF
  generalize (n.fdiv 162).fmod 2 = m at h0 h1
  have hf : ∀ k : Int, labI (((n.fdiv 324).fdiv (3 ^ k.toNat)).fmod 3) ∈ labs := fun k => labI_mem _
  have : m = 0 ∨ m = 1 := by (with_reducible exact two_of (by assumption) (by assumption))
  rcases this with rfl | rfl
  · exact (mem1 hf (a := 0)).2
  · exact (mem2 hf (a := 0) (b := 1)).2

section
variable {g : G} {A : Around} {n : En} {E : Exn} {σ : St} {Q : AV → St → Prop} {pos : Pos}
/-- the head of a list that the run does not change -/
theorem SubT.sliceHiB {v : Expr} {hi : Option Expr} {p : Pos} {l b : Addr} {xs : List AV} {k : Nat} (hl : ∃ items, g.base.IsList l items ∧ items.toList.map er = xs) (hb : σ.H b = some (.slice .none (.int k))) (hlen : xs.length ≤ 1000000)
    (h : ∀ a, σ.H a = none → Q (.ref a) ⟨upd σ.H a (.list (xs.take k)), σ.loc⟩) : SubT g A n E v (.Slice none hi none p) (.ref l) (.ref b) σ Q := fun co ci e f Z s r => by
  rw [er_ref e, er_ref f]
  obtain ⟨items, ⟨o, ho, hc, m, hd⟩, h3⟩ := hl
  have h2 : s.heap.IsList l items := ⟨o, r.hr.stay _ _ ho, hc, m, hd⟩
  obtain ⟨co', h4, x, y, rfl, ex, ey⟩ := r.owned hb
  obtain ⟨t, rfl⟩ := er_int ey
  rw [er_none ex] at h4
  have hsz := size_of_map h3
  have hz : items.size ≤ sizeLine := by rw [hsz]; exact Nat.le_trans hlen (by decide)
  refine tail_any (T := "list") h2.typeIs slot_list_getitem.lookup (wpAny_getItem_list_slice h2 ⟨_, h4, rfl, rfl⟩ .none (.int _ _) .none (by simp) ⟨_, r.alloc (ao := .list (xs.take k)) ?_ rfl, h _ r.fresh⟩ hz) rfl
  exact ⟨_, _, rfl, by rw [slicePick_upto' items k, ← h3, List.map_take]⟩
end

theorem pow3 {k : Int} (h0 : 0 ≤ k) (h3 : k ≤ 3) : (3 : Int) ^ k.toNat ≠ 0 ∧ ((3 : Int) ^ k.toNat).natAbs < 1073741824 := by
  have : k = 0 ∨ k = 1 ∨ k = 2 ∨ k = 3 := by (with_reducible exact four_of (by assumption) (by assumption))
  rcases this with rfl | rfl | rfl | rfl <;> decide
theorem lab_at (n : Int) : (Str.ofString "ab7").cps[(n.fmod 3).toNat]? = some ((Str.ofString "ab7").cps.getD (n.fmod 3).toNat 0) := by
  have h0 := Int.fmod_nonneg_of_pos n (by decide : (0 : Int) < 3)
  have h1 := Int.fmod_lt_of_pos n (by decide : (0 : Int) < 3)
  generalize n.fmod 3 = k at h0 h1
  have : k = 0 ∨ k = 1 ∨ k = 2 := by (with_reducible exact three_of (by assumption) (by assumption))
  rcases this with rfl | rfl | rfl <;> decide +kernel
theorem rngI_mem {a b k : Int} (h : k ∈ rngI a b) : a ≤ k ∧ k < b := by
  simp only [rngI, List.mem_map, List.mem_range] at h
  obtain ⟨q, hq, rfl⟩ := h
  exact ⟨Int.le_add_of_nonneg_right (Int.natCast_nonneg q), Int.add_lt_of_lt_sub_left (Int.lt_toNat.mp hq)⟩
theorem rng_a {m : Int} (h : 0 ≤ m) (h' : m < 3) : itFits (.range 1 (2 + m)) = true ∧ (rngI 1 (2 + m)).length ≤ 1000000 := by
  rcases three_of h h' with rfl | rfl | rfl <;> exact ⟨rfl, by decide⟩
theorem rng_b {m : Int} (h : 0 ≤ m) (h' : m < 2) : itFits (.range 0 (1 + m)) = true ∧ (rngI 0 (1 + m)).length ≤ 1000000 := by
  rcases two_of h h' with rfl | rfl <;> exact ⟨rfl, by decide⟩
theorem rng_a' {m b : Int} (h' : m < 3) (h : 1 ≤ b ∧ b < 2 + m) : 0 ≤ b ∧ b ≤ 3 := ⟨Int.le_trans (by decide) h.1, by omega⟩
theorem rng_b' {m b : Int} (h' : m < 2) (h : 0 ≤ b ∧ b < 1 + m) : 0 ≤ b ∧ b ≤ 3 := ⟨h.1, by omega⟩
theorem pow_sz {b : Int} (h : b ≤ 3) : (Builtin.Int.intBits 3 : Int) * b ≤ 2 ^ 27 := by
  rw [show (Builtin.Int.intBits 3 : Int) = 2 by decide]
  exact Int.le_trans (Int.mul_le_mul_of_nonneg_left h (by decide)) (by decide)

theorem sites_ok (g : G) (a : Addr) (ns : List Int) (H : AH) (hb : ∃ items, g.base.IsList a items ∧ items.toList.map er = ns.map .int) (hlen : ns.length ≤ 1000) :
    FnOk g 2 189 [.ref a] H fun v H' => HExt [] H H' ∧ ∃ (b : Addr) (ts : List AV) (ks : List Int), v = .ref b ∧ H' b = some (.list ts) ∧ All2 (IsSite [] H') ts (ks.map siteF) ∧ ks.length = 5 := by
  refine FnOk.of_body (abinds := [(Str.ofString "script", .ref a)]) (fdSites.2 _) rfl rfl rfl rfl ?_ rfl ?_
  · intro cargs hc
    obtain ⟨c, rfl, e1⟩ := one_arg hc
    exact ⟨[(Str.ofString "script", c)], rfl, by simp [e1]⟩
  intro A L outer room fr
  walk_at "m1"
  refine Ex.assignComp1 ?_ room.h
  refine Comp1.ints (M := []) (fun _ => true) (fun k => k.fmod 2916) ?_
  walk_at "m1"
  refine Ev.name rfl ?_
  refine Ev.sliceHi ?_
  walk_at "m1"
  intro b hbn
  dsimp only at hbn ⊢
  refine SubT.sliceHiB (k := 5) hb (upd_same ..) (by (exact len_map_le (by with_reducible exact Nat.le_trans (by assumption) (by decide)))) fun l hl => ?_
  dsimp only at hl ⊢
  rw [← List.map_take]
  have x0 : HExt [] H (upd (upd H b (.slice .none (.int (5 : Nat)))) l (.list ((ns.take 5).map .int))) := (HExt.new hbn).new' hl
  refine ⟨l, _, ns.take 5, rfl, upd_same .., rfl, rfl, by (exact nm0), by (simp; omega), ?_, ?_⟩
  · rintro L' cells k H' hk hE
    (repeat walk_at "m1")
    refine ⟨rfl, HExt.refl _ _, rfl, fun _ => ?_⟩
    (repeat walk_at "m1")
    refine Bin.mod (by decide) ⟨rfl, HExt.refl _ _, rfl⟩
  rintro H1 aN hE1 haN
  have x1 := (x0.trans hE1).new' (o := .list (((ns.take 5).filter fun _ => true).map (fun k => k.fmod 2916) |>.map AV.int)) haN
  have y1 : upd H1 aN (.list ((((ns.take 5).filter fun _ => true).map fun k => k.fmod 2916).map AV.int)) aN = some (.list ((((ns.take 5).filter fun _ => true).map fun k => k.fmod 2916).map AV.int)) := upd_same ..
  try dsimp only at haN ⊢
  generalize hms : ((ns.take 5).filter fun _ => true).map (fun k => k.fmod 2916) = ms at x1 y1 ⊢
  have hml : ms.length ≤ 5 := by rw [← hms, List.length_map]; exact Nat.le_trans (List.length_filter_le ..) (List.length_take_le ..)
  generalize upd H1 aN (.list (ms.map .int)) = H2 at x1 y1 ⊢
  walk_at "m1"
  walk_at "m1"
  (repeat walk_at "m1")
  refine ⟨by (exact Nat.le_of_ble_eq_true rfl), fun aB haB => ?_⟩
  dsimp only at haB ⊢
  (repeat walk_at "m1")
  refine Ev.callB rfl rfl ?_
  (repeat walk_at "m1")
  have w1 := HExt.new (M := []) (o := .list [.int 324, .int 3, .int 409, .int 658, .int 487]) haB
  refine Call.len (w1 _ _ (by (exact nm0)) y1) (by (exact len_map_le (by with_reducible exact Nat.le_trans (by assumption) (by decide)))) ?_
  intro sl hsl
  dsimp only at hsl ⊢
  rw [List.length_map]
  have w2 := HExt.new (M := []) (o := .slice (.int (ms.length : Nat)) .none) hsl
  refine SubT.sliceLo (xs := [.int 324, .int 3, .int 409, .int 658, .int 487]) (k := ms.length) (w2 _ _ (by (exact nm0)) (upd_same ..)) (upd_same ..) (by (simp; with_reducible assumption)) (by (exact Nat.le_of_ble_eq_true rfl)) fun c hc => ?_
  dsimp only at hc ⊢
  have w3 := HExt.new (M := []) (o := .list ([AV.int 324, .int 3, .int 409, .int 658, .int 487].drop ms.length)) hc
  have hdrop : [AV.int 324, .int 3, .int 409, .int 658, .int 487].drop ms.length = ([324, 3, 409, 658, 487].drop ms.length : List Int).map .int := by rw [List.map_drop]; rfl
  refine Bin.addList (w3 _ _ (by (exact nm0)) (w2 _ _ (by (exact nm0)) (w1 _ _ (by (exact nm0)) y1))) (upd_same ..) (by (simp; omega)) fun aM haM => ?_
  dsimp only at haM ⊢
  have w4 := HExt.new (M := []) (o := .list (ms.map AV.int ++ [AV.int 324, .int 3, .int 409, .int 658, .int 487].drop ms.length)) haM
  have x2 := (((x1.trans w1).trans w2).trans w3).trans w4
  have y2 : upd _ aM (AO.list (ms.map AV.int ++ [AV.int 324, .int 3, .int 409, .int 658, .int 487].drop ms.length)) aM = some _ := upd_same (upd (upd (upd H2 aB (.list [.int 324, .int 3, .int 409, .int 658, .int 487])) sl (.slice (.int (ms.length : Nat)) .none)) c (.list ([AV.int 324, .int 3, .int 409, .int 658, .int 487].drop ms.length))) ..
  rw [hdrop, ← List.map_append] at x2 y2 ⊢
  have hkl : (ms ++ ([324, 3, 409, 658, 487].drop ms.length : List Int)).length = 5 := by (simp; omega)
  generalize ms ++ ([324, 3, 409, 658, 487].drop ms.length : List Int) = ks at x2 y2 hkl ⊢
  generalize upd _ aM (AO.list (ks.map AV.int)) = H3 at x2 y2 ⊢
  (repeat walk_at "m1")
  refine ⟨by (exact Nat.le_of_ble_eq_true rfl), fun aS haS => ?_⟩
  dsimp only at haS ⊢
  have x3 := x2.new' (o := .list []) haS
  have w5 := HExt.new (M := []) (o := .list []) haS
  have y3 := w5 _ _ (by (exact nm0)) y2
  have y4 : upd H3 aS (AO.list []) aS = some (.list []) := upd_same ..
  have nMS : aM ≠ aS := fun q => by rw [q] at y2; rw [y2] at haS; cases haS
  have nHS : ∀ x o, H x = some o → x ∉ [aS] := fun x o hx q => by
    simp only [List.mem_cons, List.not_mem_nil, or_false] at q
    rw [← q, x2 _ _ (by (exact nm0)) hx] at haS; cases haS
  generalize upd H3 aS (AO.list []) = H4 at x3 y3 y4 ⊢
  walk_at "m1"
  refine Ex.for (Ev.name rfl ?_) room.h PassE.never
  refine ⟨aM, _, _, rfl, y3, rfl, rfl, fun i σ => ∃ vs, C5 (i ≤ 5) (σ.loc (Str.ofString "sites") = some (.ref aS)) (HExt [aS] H4 σ.H) (σ.H aS = some (.list vs)) (All2 (IsSite [aS] σ.H) vs ((ks.take i).map siteF)), ?_, ?_, ?_, ?_⟩
  · exact ⟨[], by (exact Nat.zero_le _), rfl, HExt.refl _ _, y4, .nil⟩
  · rintro i σ ⟨_, _, _, h, _, _⟩
    exact h _ _ (by simpa using nMS) y3
  · rintro i a ⟨Hi, loc⟩ hi ⟨vs, hi5, l1, hE, hS, hA⟩
    dsimp only at l1 hE hS hA
    obtain ⟨k, hk, rfl⟩ := map_get hi
    have hi6 : i + 1 ≤ 5 := by have := (List.getElem?_eq_some_iff.mp hk).1; omega
    have hvl : vs.length ≤ 5 := by rw [hA.length, List.length_map]; exact Nat.le_trans (List.length_take_le ..) (by (with_reducible assumption))
    walk_at "m1"
    refine Ex.assignComp1 ?_ room.h
    refine Comp1.filter (M := []) (fun a b => a = AV.int b) (fun _ => true) (fun _ y b => y = .str (labI ((k.fdiv (3 ^ b.toNat)).fmod 3))) (fun _ _ _ _ _ q => q) ?_
    refine Ev.callT rfl rfl ?_
    (repeat walk_at "m1")
    refine Bin.mod (by decide) ?_
    (repeat walk_at "m1")
    refine Call.range2 fun l hl => ?_
    dsimp only at hl ⊢
    have xl := HExt.new (M := [aS]) (o := .range 1 (2 + k.fmod 3)) hl
    have nlS : l ≠ aS := fun q => by rw [q, hS] at hl; cases hl
    have hk3 := Int.fmod_nonneg_of_pos k (by decide : (0 : Int) < 3)
    have hk3' := Int.fmod_lt_of_pos k (by decide : (0 : Int) < 3)
    refine ⟨l, _, _, rngI 1 (2 + k.fmod 3), rfl, upd_same .., rfl, (rng_a hk3 hk3').1, by (exact nm0), All2.ofMap _ _, (rng_a hk3 hk3').2, ?_, ?_⟩
    · rintro L' cells i' _ b H' _ hb rfl hE'
      have hb3 := rng_a' hk3' (rngI_mem (List.mem_of_getElem? hb))
      (repeat walk_at "m1")
      refine ⟨rfl, HExt.refl _ _, rfl, fun _ => ?_⟩
      (repeat walk_at "m1")
      refine Bin.pow hb3.1 (pow_sz hb3.2) ?_
      have hp := pow3 hb3.1 hb3.2
      refine Bin.floordiv hp.1 (PyProof.noPylong_small hp.2) ?_
      (repeat walk_at "m1")
      refine Bin.mod (by decide) ?_
      refine SubT.str (Int.fmod_nonneg_of_pos _ (by decide)) (lab_at _) (by decide) ?_
      exact ⟨rfl, HExt.refl _ _, rfl⟩
    rintro ys H' aH hE' hys haH
    have hys' : ys = (hostF k).map .str := by
      have := All2.eqMap (f := fun (b : Int) => AV.str (labI ((k.fdiv (3 ^ b.toNat)).fmod 3))) hys
      rw [this, List.filter_eq_self.mpr (by simp), hostF, List.map_map]; rfl
    subst hys'
    try dsimp only at hE' haH ⊢
    have e1 : HExt [] Hi (upd H' aH (.list ((hostF k).map .str))) := ((HExt.new hl).trans hE').new' haH
    have n1 : aH ∉ [aS] := fun q => by
      simp only [List.mem_cons, List.not_mem_nil, or_false] at q
      rw [q, ((HExt.new (M := []) hl).trans hE') _ _ (by (exact nm0)) hS] at haH; cases haH
    have s1 : IsS [aS] (upd H' aH (.list ((hostF k).map .str))) (.ref aH) (hostF k) := ⟨aH, rfl, n1, upd_same ..⟩
    generalize upd H' aH (.list ((hostF k).map .str)) = H5 at e1 s1 ⊢
    walk_at "m1"
    refine Ex.assignComp1 ?_ room.h
    refine Comp1.filter (M := []) (fun a b => a = AV.int b) (fun _ => true) (fun _ y b => y = .str (labI (((k.fdiv 324).fdiv (3 ^ b.toNat)).fmod 3))) (fun _ _ _ _ _ q => q) ?_
    refine Ev.callT rfl rfl ?_
    (repeat walk_at "m1")
    refine Bin.floordiv (by decide) (PyProof.noPylong_small (by decide)) ?_
    (repeat walk_at "m1")
    refine Bin.mod (by decide) ?_
    (repeat walk_at "m1")
    refine Call.range1 fun l2 hl2 => ?_
    dsimp only at hl2 ⊢
    have hr2 := Int.fmod_nonneg_of_pos (k.fdiv 162) (by decide : (0 : Int) < 2)
    have hr2' := Int.fmod_lt_of_pos (k.fdiv 162) (by decide : (0 : Int) < 2)
    refine ⟨l2, _, _, rngI 0 (1 + (k.fdiv 162).fmod 2), rfl, upd_same .., rfl, (rng_b hr2 hr2').1, by (exact nm0), All2.ofMap _ _, (rng_b hr2 hr2').2, ?_, ?_⟩
    · rintro L' cells i' _ b H' _ hb rfl hE'
      have hb3 := rng_b' hr2' (rngI_mem (List.mem_of_getElem? hb))
      (repeat walk_at "m1")
      refine ⟨rfl, HExt.refl _ _, rfl, fun _ => ?_⟩
      (repeat walk_at "m1")
      refine Bin.floordiv (by decide) (PyProof.noPylong_small (by decide)) ?_
      (repeat walk_at "m1")
      refine Bin.pow hb3.1 (pow_sz hb3.2) ?_
      have hp := pow3 hb3.1 hb3.2
      refine Bin.floordiv hp.1 (PyProof.noPylong_small hp.2) ?_
      (repeat walk_at "m1")
      refine Bin.mod (by decide) ?_
      refine SubT.str (Int.fmod_nonneg_of_pos _ (by decide)) (lab_at _) (by decide) ?_
      exact ⟨rfl, HExt.refl _ _, rfl⟩
    rintro ys H' aRu hE' hys haRu
    have hys' : ys = (ruleF k).map .str := by
      have := All2.eqMap (f := fun (b : Int) => AV.str (labI (((k.fdiv 324).fdiv (3 ^ b.toNat)).fmod 3))) hys
      rw [this, List.filter_eq_self.mpr (by simp), ruleF, List.map_map]; rfl
    subst hys'
    try dsimp only at hE' haRu ⊢
    have e2 : HExt [] H5 (upd H' aRu (.list ((ruleF k).map .str))) := ((HExt.new hl2).trans hE').new' haRu
    have n2 : aRu ∉ [aS] := fun q => by
      simp only [List.mem_cons, List.not_mem_nil, or_false] at q
      rw [q, (e1.trans ((HExt.new (M := []) hl2).trans hE')) _ _ (by (exact nm0)) hS] at haRu; cases haRu
    have s2 : IsS [aS] (upd H' aRu (.list ((ruleF k).map .str))) (.ref aRu) (ruleF k) := ⟨aRu, rfl, n2, upd_same ..⟩
    have s1' := s1.ext (e2.mono (by (exact nsub)))
    have e12 := e1.trans e2
    generalize upd H' aRu (.list ((ruleF k).map .str)) = H6 at e12 s1' s2 ⊢
    walk_at "m1"
    walk_at "m1"
    refine Ev.method (Ev.name l1 ⟨"list", "list.append", meth_append, listType (e12 _ _ (by (exact nm0)) hS), ?_⟩)
    (repeat walk_at "m1")
    refine Bin.floordiv (by decide) (PyProof.noPylong_small (by decide)) ?_
    (repeat walk_at "m1")
    refine Bin.mod (by decide) ?_
    (repeat walk_at "m1")
    refine ⟨by (exact Nat.le_of_ble_eq_true rfl), fun t ht => ?_⟩
    dsimp only at ht ⊢
    (repeat walk_at "m1")
    have e3 := HExt.new (M := [aS]) (o := .tup [.ref aH, .bool (dotF k), .ref aRu]) ht
    have ht' : t ∉ [aS] := fun q => by
      simp only [List.mem_cons, List.not_mem_nil, or_false] at q
      rw [q, e12 _ _ (by (exact nm0)) hS] at ht; cases ht
    have hSt : upd H6 t (.tup [.ref aH, .bool (dotF k), .ref aRu]) aS = some (.list vs) := by
      rw [upd_ne (fun q => ht' (by simp [q]))]; exact e12 _ _ (by (exact nm0)) hS
    refine Call.append (xs := vs) hSt (by (with_reducible exact Nat.le_trans (by assumption) (by decide))) ?_
    (repeat walk_at "m1")
    have e4 : HExt [aS] (upd H6 t (.tup [.ref aH, .bool (dotF k), .ref aRu])) (upd (upd H6 t (.tup [.ref aH, .bool (dotF k), .ref aRu])) aS (.list (vs ++ [.ref t]))) := HExt.set (by simp)
    refine ⟨vs ++ [.ref t], hi6, l1, ((hE.trans (e12.mono (by (exact nsub)))).trans e3).trans e4, upd_same .., ?_⟩
    rw [take_succ_get hk, List.map_append]
    refine All2.append (hA.mono fun _ _ q => ((q.ext (e12.mono (by (exact nsub)))).ext e3).ext e4) (.cons ⟨t, .ref aH, .ref aRu, rfl, ht', e4 _ _ ht' (upd_same ..), (s1'.ext e3).ext e4, (s2.ext e3).ext e4⟩ .nil)
  · rintro ⟨Hi, loc⟩ ⟨vs, _, l1, hE, hS, hA⟩
    dsimp only at l1 hE hS hA
    (repeat walk_at "m1")
    refine Ev.name l1 ?_
    rw [List.length_map, take_len] at hA
    refine ⟨fun x o _ hx => hE x o (nHS x o hx) (x3 x o (by (exact nm0)) hx), aS, vs, ks, rfl, hS, hA.mono fun _ _ q => q.mono (by (exact nsub)), hkl⟩
end Mine
end

section
open PySem PySem.W PyProof.Rows PySem.Spec PySem.Calls
set_option Elab.async false
set_option maxRecDepth 100000
set_option linter.unusedVariables false
namespace Mine
inductive E6 {α β γ δ ε ζ : Type} (p : α → β → γ → δ → ε → ζ → Prop) : Prop | mk (a : α) (b : β) (c : γ) (d : δ) (e : ε) (f : ζ) (h : p a b c d e f)
inductive C14 (a b c d e f g h i j k l m n : Prop) : Prop | mk (p1 : a) (p2 : b) (p3 : c) (p4 : d) (p5 : e) (p6 : f) (p7 : g) (p8 : h) (p9 : i) (p10 : j) (p11 : k) (p12 : l) (p13 : m) (p14 : n)
noncomputable def fdLaw : { fd : FuncData // ∀ P, (hd.heap_39 P).lookup 216 = some ⟨.type "function", none, .func fd, #[]⟩ } := ⟨_, fun _ => rfl⟩
noncomputable def lawBody : { b : List Stmt // fdLaw.1.body = .stmts b } := ⟨_, rfl⟩
noncomputable def gOf (w : World) (s : Shared) {mg mb : Str → Option Value} {p : Program} {loose : List Str} {mean : ExcName → Option Value} (K : (hd.heap_39 w.params).In s.heap) (T : Top p loose mean mg mb s.heap) : G :=
  ⟨w, s.heap, s.os, mg, mb, K, T.g, T.b, T.builtins, T.nolimit⟩

theorem law_enter {w : World} {s : Shared} {h₁ : Heap} {tk fa : Nat} {cd : Value} {nm : Str} {sc : Scope} {mg mb : Str → Option Value} {p : Program} {loose : List Str} {mean : ExcName → Option Value} {binds : List (Str × Value)} {cells : List (Addr × Obj)}
    (K : (hd.heap_39 w.params).In s.heap) (T : Top p loose mean mg mb s.heap) (hg : s.gens = #[])
    (F : Fr s.heap s.heap.objs.size h₁ (bindL (envOfC nm sc s.heap.objs.size fa cd).kindOf binds fun _ => none)) (N : News s.heap s.heap.objs.size h₁ cells)
    (X : CellsAre (bindC (envOfC nm sc s.heap.objs.size fa cd).kindOf binds fun _ => none) (cellsFrom (s.heap.objs.size + 1) sc.names []) cells) (hsc : scopeOk sc = true) (hap : ∀ L, (cellsFrom (L + 1) sc.names []).Pairwise (fun x y => x.2 ≠ y.2) ∧ ∀ n c, (n, c) ∈ cellsFrom (L + 1) sc.names [] → L < c) {abinds : List (Str × AV)}
    (hb : binds.map (fun p => (p.1, er p.2)) = abinds) :
    Rel (gOf w s K T) (fun _ => none) ⟨envOfC nm sc s.heap.objs.size fa cd, cellNames sc, []⟩ ⟨fun _ => none, fun y => abinds.reverse.lookup y⟩ ⟨h₁, s.gens, s.drawn, tk, s.os⟩ := by
  simp only [scopeOk, Bool.and_eq_true, List.all_eq_true, bne_iff_ne, beq_iff_eq, Bool.not_eq_true'] at hsc
  obtain ⟨⟨⟨⟨hfree, hcn⟩, _⟩, _⟩, _⟩ := hsc
  have kin : ∀ y, (envOfC nm sc s.heap.objs.size fa cd).kindOf y = sc.names.lookup y := fun _ => rfl
  have C : Cl s.heap.objs.size (cellsFrom (s.heap.objs.size + 1) sc.names []) h₁ _ := Cl.of_news (own := []) N X (hap _).1 (hap _).2
  have lk : ∀ y v, abinds.reverse.lookup y = some v → ∃ cv, binds.reverse.lookup y = some cv ∧ er cv = v := fun y v hv => by
    rw [← hb, ← List.map_reverse, lookup_map_er, Option.map_eq_some_iff] at hv
    exact hv
  refine ⟨⟨hg, rfl, F.keep, fun b o hz => (by cases hz), fun a o ha => (by cases ha)⟩, ⟨⟨_, F.ns, fun y v hv hk => ?_⟩, ⟨rfl, rfl, get?_size _⟩, fun y hy => ?_, fun y hy z hz c h1 h2 => name_of_addr C.apart (mem_of_lookup h1) (mem_of_lookup h2), fun y v hy hv hk => ?_⟩, fun e he => by cases he⟩
  · obtain ⟨cv, e1, e2⟩ := lk y v hv
    exact ⟨cv, by rw [bindL_eq hk, e1]; rfl, e2⟩
  · have hk := hcn y hy
    obtain ⟨c, hc⟩ := Option.isSome_iff_exists.mp (cellsFrom_some sc.names (s.heap.objs.size + 1) [] (.inl hk))
    have hab := C.above y c (mem_of_lookup hc)
    refine ⟨c, _, hc, rfl, rfl, Heap.get?_none_of_le (Nat.le_of_lt hab), Nat.ne_of_gt hab, C.cell y c hc, fun v hv => ?_⟩
    obtain ⟨cv, e1, e2⟩ := lk y v hv
    exact ⟨cv, by rw [bindC_eq (by rw [kin, hk]; simp), e1]; rfl, e2⟩
  · rcases hk with hk | hk
    · exact absurd (mem_cellNames hk) hy
    · exact absurd rfl (hfree _ (lookup_mem_kind hk))

theorem law_cells0 (L : Nat) (a b c : Str) : ([(a, L + 1 + 1 + 1), (b, L + 1 + 1), (c, L + 1)] : List (Str × Nat)).Pairwise (fun x y => x.2 ≠ y.2) ∧ ∀ n x, (n, x) ∈ [(a, L + 1 + 1 + 1), (b, L + 1 + 1), (c, L + 1)] → L < x := by
  refine ⟨?_, ?_⟩
  · simp; omega
  · intro n x h
    simp only [List.mem_cons, Prod.mk.injEq, List.not_mem_nil, or_false] at h
    omega
theorem law_cells (L : Addr) : (cellsFrom (L + 1) fdLaw.1.scope.names []).Pairwise (fun x y => x.2 ≠ y.2) ∧ ∀ n c, (n, c) ∈ cellsFrom (L + 1) fdLaw.1.scope.names [] → L < c :=
  law_cells0 L _ _ _
theorem law_leave {w : World} {s s' : Shared} {mg mb : Str → Option Value} {p : Program} {loose : List Str} {mean : ExcName → Option Value} (K : (hd.heap_39 w.params).In s.heap) (T : Top p loose mean mg mb s.heap) {Z : Fz} {n : En} {σ : St}
    {c : ClaimW} {cl : Str → Option Addr} {me : ExcName → Option Value} {args : List WData} (r : Rel (gOf w s K T) Z n σ s') (h1 : ∀ cls, c.raises args cls = false) (h2 : c.post args (.bool true) args = true) : GoodW c cl me args s (.ok (.ret (.bool true))) s' :=
  ⟨.inl ⟨_, .bool true, [], rfl, h1, .bool _, h2, fun _ => ⟨List.nodup_nil, fun _ h => by cases h⟩⟩, r.hr.stay, r.hr.os, r.hr.gens⟩
theorem room_law {env : Env} : Room (callerA.deeper env) 8 := ⟨rfl, by show 1 + claimMargin + 1 + 8 < 400; decide, by show 4 + 3 + 8 * 8 < 2000; decide⟩
end Mine
end

section
open PySem PySem.W PyProof.Rows PySem.Spec PySem.Calls
set_option Elab.async false
set_option maxRecDepth 100000
set_option linter.unusedVariables false
namespace Mine

/-! truth tables in great numbers -/
inductive BF where
  | tt | ff
  | v (i : Nat)
  | and (a b : BF)
  | or (a b : BF)
  | not (a : BF)
namespace BF
noncomputable def ev (f : Nat → Bool) : BF → Bool
  | tt => true
  | ff => false
  | v i => f i
  | and a b => ev f a && ev f b
  | or a b => ev f a || ev f b
  | not a => !ev f a
noncomputable def full (n : Nat) : Nat := 2 ^ (2 ^ n) - 1
noncomputable def vt : Nat → Nat → Nat
  | 0, _ => 0
  | n + 1, i => if i = n then full n <<< (2 ^ n) else vt n i ||| (vt n i <<< (2 ^ n))
noncomputable def tbl (n : Nat) : BF → Nat
  | tt => full n
  | ff => 0
  | v i => vt n i
  | and a b => tbl n a &&& tbl n b
  | or a b => tbl n a ||| tbl n b
  | not a => tbl n a ^^^ full n
noncomputable def vars (n : Nat) : BF → Bool
  | tt | ff => true
  | v i => decide (i < n)
  | and a b | or a b => vars n a && vars n b
  | not a => vars n a
theorem vt_bit : ∀ (n i a : Nat), i < n → (vt n i).testBit a = (decide (a < 2 ^ n) && a.testBit i)
  | 0, i, a, h => absurd h (Nat.not_lt_zero _)
  | n + 1, i, a, h => by
    unfold vt
    split
    · rename_i e
      subst e
      rw [Nat.testBit_shiftLeft, full, Nat.testBit_two_pow_sub_one]
      by_cases h1 : 2 ^ i ≤ a
      · obtain ⟨b, rfl⟩ := Nat.exists_eq_add_of_le h1
        by_cases h2 : b < 2 ^ i
        · rw [Nat.testBit_two_pow_add_eq, Nat.testBit_lt_two_pow h2, Nat.add_sub_cancel_left]
          have : 2 ^ i + b < 2 ^ (i + 1) := by rw [Nat.pow_succ]; omega
          simp [h2, this]
        · have : ¬ 2 ^ i + b < 2 ^ (i + 1) := by rw [Nat.pow_succ]; omega
          simp [h2, this]
      · have h2 : a < 2 ^ i := Nat.lt_of_not_le h1
        simp [h1, Nat.testBit_lt_two_pow h2]
    · rename_i e
      have hi : i < n := by (with_reducible exact lt_of_ne' (by assumption) (by assumption))
      rw [Nat.testBit_or, Nat.testBit_shiftLeft, vt_bit n i a hi, vt_bit n i (a - 2 ^ n) hi]
      by_cases h1 : 2 ^ n ≤ a
      · obtain ⟨b, rfl⟩ := Nat.exists_eq_add_of_le h1
        rw [Nat.testBit_two_pow_add_gt hi, Nat.add_sub_cancel_left]
        have h2 : ¬ 2 ^ n + b < 2 ^ n := by omega
        by_cases h3 : b < 2 ^ n
        · have : 2 ^ n + b < 2 ^ (n + 1) := by rw [Nat.pow_succ]; omega
          simp [h3, this]
        · have : ¬ 2 ^ n + b < 2 ^ (n + 1) := by rw [Nat.pow_succ]; omega
          simp only [h2, h3, this, decide_false, Bool.false_and, Bool.and_false, Bool.or_false]
      · have h2 : a < 2 ^ n := Nat.lt_of_not_le h1
        have : a < 2 ^ (n + 1) := by rw [Nat.pow_succ]; omega
        simp [h1, h2, this]
theorem tbl_bit {n a : Nat} (ha : a < 2 ^ n) : ∀ (f : BF), vars n f = true → (tbl n f).testBit a = ev (fun i => a.testBit i) f
  | tt, _ => by simp [tbl, ev, full, Nat.testBit_two_pow_sub_one, ha]
  | ff, _ => by simp [tbl, ev]
  | v i, h => by
    have hi : i < n := of_decide_eq_true h
    show (vt n i).testBit a = a.testBit i
    rw [vt_bit n i a hi]; simp [ha]
  | and x y, h => by
    have h := Bool.and_eq_true_iff.mp h
    simp [tbl, ev, tbl_bit ha x h.1, tbl_bit ha y h.2]
  | or x y, h => by
    have h := Bool.and_eq_true_iff.mp h
    simp [tbl, ev, tbl_bit ha x h.1, tbl_bit ha y h.2]
  | not x, h => by
    have h : vars n x = true := h
    simp [tbl, ev, tbl_bit ha x h, full, Nat.testBit_two_pow_sub_one, ha]
noncomputable def code (f : Nat → Bool) : Nat → Nat
  | 0 => 0
  | n + 1 => (if f n then 2 ^ n else 0) + code f n
theorem code_ok (f : Nat → Bool) : ∀ n, code f n < 2 ^ n ∧ ∀ i < n, (code f n).testBit i = f i
  | 0 => ⟨by simp [code], fun i h => absurd h (Nat.not_lt_zero _)⟩
  | n + 1 => by
    obtain ⟨h1, h2⟩ := code_ok f n
    refine ⟨?_, fun i hi => ?_⟩
    · unfold code; rw [Nat.pow_succ]; split <;> omega
    · unfold code
      by_cases e : i = n
      · subst e
        cases hf : f i with
        | true => simp [Nat.testBit_two_pow_add_eq, Nat.testBit_lt_two_pow h1]
        | false => simp [Nat.testBit_lt_two_pow h1]
      · have hi' : i < n := by (with_reducible exact lt_of_ne' (by assumption) (by assumption))
        cases hf : f n with
        | true => simp only [if_true]; rw [Nat.testBit_two_pow_add_gt hi']; exact h2 i hi'
        | false => simpa using h2 i hi'
theorem ev_congr {n : Nat} {f g : Nat → Bool} (h : ∀ i < n, f i = g i) : ∀ (x : BF), vars n x = true → ev f x = ev g x
  | tt, _ => rfl
  | ff, _ => rfl
  | v i, hv => h i (of_decide_eq_true hv)
  | and x y, hv => by
    have hv := Bool.and_eq_true_iff.mp hv
    simp only [ev, ev_congr h x hv.1, ev_congr h y hv.2]
  | or x y, hv => by
    have hv := Bool.and_eq_true_iff.mp hv
    simp only [ev, ev_congr h x hv.1, ev_congr h y hv.2]
  | not x, hv => by
    have hv : vars n x = true := hv
    simp only [ev, ev_congr h x hv]
/-- a formula is true everywhere if its table is full -/
theorem all {n : Nat} {x : BF} (hv : vars n x = true) (ht : Nat.beq (tbl n x) (full n) = true) (f : Nat → Bool) : ev f x = true := by
  obtain ⟨h1, h2⟩ := code_ok f n
  rw [← ev_congr (f := fun i => (code f n).testBit i) h2 x hv, ← tbl_bit h1 x hv, Nat.eq_of_beq_eq_true ht, full, Nat.testBit_two_pow_sub_one]
  exact decide_eq_true h1
noncomputable def orL : List BF → BF
  | [] => ff
  | a :: l => or a (orL l)
noncomputable def andL : List BF → BF
  | [] => tt
  | a :: l => and a (andL l)
theorem ev_orL (f : Nat → Bool) : ∀ l : List BF, ev f (orL l) = l.any (ev f)
  | [] => rfl
  | a :: l => by simp [orL, ev, ev_orL f l]
theorem ev_andL (f : Nat → Bool) : ∀ l : List BF, ev f (andL l) = l.all (ev f)
  | [] => rfl
  | a :: l => by simp [andL, ev, ev_andL f l]
end BF

/-! graphs of five sites -/
noncomputable def allRings : List (List Int) := ringsF [r5, r5, r5, r5, r5]
noncomputable def subs : List (List Int) := (rngI 0 32).map someF
noncomputable def vB (j k : Int) : BF := if j = k then .ff else .v (j.toNat * 4 + (if k < j then k.toNat else k.toNat - 1))
noncomputable def pathB : List Int → BF
  | x :: y :: r => .and (vB x y) (pathB (y :: r))
  | _ => .tt
noncomputable def ringB (row : List Int) : BF := .and (pathB row) (vB (lastI row) (headI row))
noncomputable def kernB (S : List Int) : BF := BF.andL (r5.map fun k => if S.contains k then BF.andL (S.map fun j => .not (vB j k)) else BF.orL (S.map fun j => vB j k))
noncomputable def cycB (C : List Int) : BF := BF.andL (C.map fun x => BF.orL (C.map fun y => vB y x))
noncomputable def twoB : List BF → BF × BF
  | [] => (.ff, .ff)
  | k :: l => let p := twoB l; (.or p.1 k, .or p.2 (.and p.1 k))
noncomputable def TT1 : BF := .or (.not (BF.orL ((subs.filter fun C => !C.isEmpty).map cycB))) (BF.orL (allRings.map ringB))
noncomputable def TT2 : BF := .or (BF.orL (subs.map kernB)) (BF.orL ((allRings.filter fun r => r.length % 2 == 1).map ringB))
noncomputable def TT3 : BF := .or (.not (twoB (subs.map kernB)).2) (BF.orL ((allRings.filter fun r => r.length % 2 == 0).map ringB))
theorem tt1 : BF.vars 20 TT1 = true ∧ Nat.beq (BF.tbl 20 TT1) (BF.full 20) = true := by decide +kernel
theorem tt2 : BF.vars 20 TT2 = true ∧ Nat.beq (BF.tbl 20 TT2) (BF.full 20) = true := by decide +kernel
theorem tt3 : BF.vars 20 TT3 = true ∧ Nat.beq (BF.tbl 20 TT3) (BF.full 20) = true := by decide +kernel
end Mine
end

section
open PySem PySem.W PyProof.Rows PySem.Spec PySem.Calls
set_option Elab.async false
set_option maxRecDepth 100000
set_option linter.unusedVariables false
namespace Mine
noncomputable def e0 (e : Int → Int → Bool) (j k : Int) : Bool := decide (j ≠ k) && e j k
noncomputable def path (e : Int → Int → Bool) : List Int → Bool
  | x :: y :: r => e x y && path e (y :: r)
  | _ => true
noncomputable def ring (e : Int → Int → Bool) (row : List Int) : Bool := path e row && e (lastI row) (headI row)
/-- a kernel -/
noncomputable def kern (e : Int → Int → Bool) (S : List Int) : Bool := r5.all fun k => if S.contains k then S.all (fun j => !e j k) else S.any (fun j => e j k)
noncomputable def fe (e : Int → Int → Bool) (i : Nat) : Bool := e ((i / 4 : Nat) : Int) (((if i % 4 < i / 4 then i % 4 else i % 4 + 1) : Nat) : Int)
theorem r5_cases {k : Int} (h : k ∈ r5) : k = 0 ∨ k = 1 ∨ k = 2 ∨ k = 3 ∨ k = 4 := by
  simpa [r5] using h
theorem vB_ev (e : Int → Int → Bool) {j k : Int} (hj : j ∈ r5) (hk : k ∈ r5) : BF.ev (fe e) (vB j k) = e0 e j k := by
  rcases r5_cases hj with rfl | rfl | rfl | rfl | rfl <;> rcases r5_cases hk with rfl | rfl | rfl | rfl | rfl <;> first | rfl | (simp [vB, e0, BF.ev, fe])
theorem pathB_ev (e : Int → Int → Bool) : ∀ (row : List Int), (∀ x ∈ row, x ∈ r5) → BF.ev (fe e) (pathB row) = path (e0 e) row
  | [], _ => rfl
  | [_], _ => rfl
  | x :: y :: r, h => by
    simp only [pathB, path, BF.ev, vB_ev e (h x (by simp)) (h y (by simp)), pathB_ev e (y :: r) fun z hz => h z (by simp only [List.mem_cons] at hz ⊢; exact .inr hz)]
theorem headI_mem {row : List Int} (h : row ≠ []) : headI row ∈ row := by cases row with | nil => exact absurd rfl h | cons a r => simp [headI]
theorem lastI_mem {row : List Int} (h : row ≠ []) : lastI row ∈ row := by
  unfold lastI; rw [List.getLastD_eq_getLast?, List.getLast?_eq_some_getLast h]; exact List.getLast_mem h
theorem ringB_ev (e : Int → Int → Bool) {row : List Int} (hne : row ≠ []) (h : ∀ x ∈ row, x ∈ r5) : BF.ev (fe e) (ringB row) = ring (e0 e) row := by
  simp only [ringB, ring, BF.ev, pathB_ev e row h, vB_ev e (h _ (lastI_mem hne)) (h _ (headI_mem hne))]
theorem allRings_ok : ∀ r ∈ allRings, r ≠ [] ∧ (∀ x ∈ r, x ∈ r5) := by decide +kernel
theorem subs_ok : ∀ S ∈ subs, ∀ x ∈ S, x ∈ r5 := by decide +kernel
theorem any_congr' {α : Type} {l : List α} {p q : α → Bool} (h : ∀ x ∈ l, p x = q x) : l.any p = l.any q := by
  induction l with
  | nil => rfl
  | cons a l ih => simp only [List.any_cons, h a (.head _), ih fun x hx => h x (.tail _ hx)]
theorem all_congr' {α : Type} {l : List α} {p q : α → Bool} (h : ∀ x ∈ l, p x = q x) : l.all p = l.all q := by
  induction l with
  | nil => rfl
  | cons a l ih => simp only [List.all_cons, h a (.head _), ih fun x hx => h x (.tail _ hx)]
theorem kernB_ev (e : Int → Int → Bool) {S : List Int} (h : ∀ x ∈ S, x ∈ r5) : BF.ev (fe e) (kernB S) = kern (e0 e) S := by
  unfold kernB kern
  rw [BF.ev_andL, List.all_map]
  refine all_congr' fun k hk => ?_
  simp only [Function.comp_apply]
  split
  · rw [BF.ev_andL, List.all_map]
    exact all_congr' fun j hj => by simp only [Function.comp_apply, BF.ev, vB_ev e (h j hj) hk]
  · rw [BF.ev_orL, List.any_map]
    exact any_congr' fun j hj => by simp only [Function.comp_apply, vB_ev e (h j hj) hk]
theorem cycB_ev (e : Int → Int → Bool) {C : List Int} (h : ∀ x ∈ C, x ∈ r5) : BF.ev (fe e) (cycB C) = C.all fun x => C.any fun y => e0 e y x := by
  unfold cycB
  rw [BF.ev_andL, List.all_map]
  refine all_congr' fun k hk => ?_
  simp only [Function.comp_apply]
  rw [BF.ev_orL, List.any_map]
  exact any_congr' fun j hj => by simp only [Function.comp_apply, vB_ev e (h j hj) (h k hk)]

theorem fact1 (e : Int → Int → Bool) {C : List Int} (hC : C ∈ subs) (hne : C ≠ []) (h : ∀ x ∈ C, ∃ y ∈ C, e0 e y x = true) : ∃ r ∈ allRings, ring (e0 e) r = true := by
  have := BF.all tt1.1 tt1.2 (fe e)
  simp only [TT1, BF.ev, Bool.or_eq_true, Bool.not_eq_true', BF.ev_orL, List.any_map, List.any_eq_true, List.any_eq_false, Function.comp_apply] at this
  rcases this with q | ⟨r, hr, q⟩
  · refine absurd ?_ (q C (List.mem_filter.mpr ⟨hC, by cases C with | nil => exact absurd rfl hne | cons _ _ => rfl⟩))
    rw [cycB_ev e (subs_ok C hC)]
    simpa using h
  · rw [ringB_ev e (allRings_ok r hr).1 (allRings_ok r hr).2] at q
    exact ⟨r, hr, q⟩
theorem fact2 (e : Int → Int → Bool) : (∃ S ∈ subs, kern (e0 e) S = true) ∨ ∃ r ∈ allRings, r.length % 2 = 1 ∧ ring (e0 e) r = true := by
  have := BF.all tt2.1 tt2.2 (fe e)
  simp only [TT2, BF.ev, Bool.or_eq_true, BF.ev_orL, List.any_map, List.any_eq_true, Function.comp_apply, List.mem_filter, beq_iff_eq] at this
  rcases this with ⟨S, hS, q⟩ | ⟨r, ⟨hr, h1⟩, q⟩
  · rw [kernB_ev e (subs_ok S hS)] at q; exact .inl ⟨S, hS, q⟩
  · rw [ringB_ev e (allRings_ok r hr).1 (allRings_ok r hr).2] at q
    exact .inr ⟨r, hr, h1, q⟩
theorem two_ev (f : Nat → Bool) : ∀ (l : List BF), (BF.ev f (twoB l).1 = true ↔ ∃ x ∈ l, BF.ev f x = true) ∧ (∀ (i j : Nat) (x y : BF), i < j → l[i]? = some x → l[j]? = some y → BF.ev f x = true → BF.ev f y = true → BF.ev f (twoB l).2 = true)
  | [] => by simp [twoB, BF.ev]
  | a :: l => by
    obtain ⟨h1, h2⟩ := two_ev f l
    refine ⟨?_, fun i j x y hij hi hj hx hy => ?_⟩
    · show (BF.ev f (twoB l).1 || BF.ev f a) = true ↔ _
      rw [Bool.or_eq_true, h1]; simp [or_comm]
    · show (BF.ev f (twoB l).2 || (BF.ev f (twoB l).1 && BF.ev f a)) = true
      cases j with
      | zero => omega
      | succ j =>
        simp only [List.getElem?_cons_succ] at hj
        cases i with
        | zero =>
          simp only [List.getElem?_cons_zero, Option.some.injEq] at hi
          subst hi
          rw [h1.mpr ⟨y, List.mem_of_getElem? hj, hy⟩, hx]; simp
        | succ i =>
          simp only [List.getElem?_cons_succ] at hi
          rw [h2 i j x y (by omega) hi hj hx hy]; rfl
theorem fact3 (e : Int → Int → Bool) {i j : Nat} {S T : List Int} (hij : i < j) (hi : subs[i]? = some S) (hj : subs[j]? = some T) (hS : kern (e0 e) S = true) (hT : kern (e0 e) T = true) : ∃ r ∈ allRings, r.length % 2 = 0 ∧ ring (e0 e) r = true := by
  have := BF.all tt3.1 tt3.2 (fe e)
  have h2 := (two_ev (fe e) (subs.map kernB)).2 i j (kernB S) (kernB T) hij (by rw [List.getElem?_map, hi]; rfl) (by rw [List.getElem?_map, hj]; rfl)
    (by rw [kernB_ev e (subs_ok S (List.mem_of_getElem? hi))]; exact hS) (by rw [kernB_ev e (subs_ok T (List.mem_of_getElem? hj))]; exact hT)
  simp only [TT3, BF.ev, h2, Bool.not_true, Bool.false_or, BF.ev_orL, List.any_map, List.any_eq_true, Function.comp_apply, List.mem_filter, beq_iff_eq] at this
  obtain ⟨r, ⟨hr, h1⟩, q⟩ := this
  rw [ringB_ev e (allRings_ok r hr).1 (allRings_ok r hr).2] at q
  exact ⟨r, hr, h1, q⟩

/-! with loops -/
theorem path_mono {e e' : Int → Int → Bool} (h : ∀ x y, e x y = true → e' x y = true) : ∀ {row : List Int}, path e row = true → path e' row = true
  | [], _ => rfl
  | [_], _ => rfl
  | x :: y :: r, hp => by
    simp only [path, Bool.and_eq_true] at hp ⊢
    exact ⟨h _ _ hp.1, path_mono h hp.2⟩
theorem ring_mono {e e' : Int → Int → Bool} (h : ∀ x y, e x y = true → e' x y = true) {row : List Int} (hp : ring e row = true) : ring e' row = true := by
  simp only [ring, Bool.and_eq_true] at hp ⊢
  exact ⟨path_mono h hp.1, h _ _ hp.2⟩
theorem e0_le {e : Int → Int → Bool} : ∀ x y, e0 e x y = true → e x y = true := fun x y h => by
  simp only [e0, Bool.and_eq_true] at h; exact h.2
theorem loops_in : ∀ k ∈ r5, [k] ∈ allRings := by decide +kernel
theorem Fact1 (e : Int → Int → Bool) {C : List Int} (hC : C ∈ subs) (hne : C ≠ []) (h : ∀ x ∈ C, ∃ y ∈ C, e y x = true) : ∃ r ∈ allRings, ring e r = true := by
  by_cases hl : ∃ k ∈ C, e k k = true
  · obtain ⟨k, hk, hkk⟩ := hl
    exact ⟨[k], loops_in k (subs_ok C hC k hk), by simpa [ring, path, lastI, headI] using hkk⟩
  · obtain ⟨r, hr, q⟩ := fact1 e hC hne fun x hx => by
      obtain ⟨y, hy, hxy⟩ := h x hx
      refine ⟨y, hy, ?_⟩
      have : y ≠ x := fun q => hl ⟨x, hx, by rw [q] at hxy; exact hxy⟩
      simp [e0, this, hxy]
    exact ⟨r, hr, ring_mono e0_le q⟩
theorem Fact2 (e : Int → Int → Bool) : (∃ S ∈ subs, kern e S = true) ∨ ∃ r ∈ allRings, r.length % 2 = 1 ∧ ring e r = true := by
  by_cases hl : ∃ k ∈ r5, e k k = true
  · obtain ⟨k, hk, hkk⟩ := hl
    exact .inr ⟨[k], loops_in k hk, rfl, by simpa [ring, path, lastI, headI] using hkk⟩
  · rcases fact2 e with ⟨S, hS, q⟩ | ⟨r, hr, h1, q⟩
    · refine .inl ⟨S, hS, ?_⟩
      rw [← q]
      refine all_congr' fun k hk => ?_
      have key : ∀ j ∈ S, e j k = e0 e j k := fun j hj => by
        by_cases hjk : j = k
        · subst hjk
          have : e j j = false := by
            cases q : e j j with
            | false => rfl
            | true => exact absurd ⟨j, hk, q⟩ hl
          simp [e0, this]
        · simp [e0, hjk]
      split
      · exact all_congr' fun j hj => by rw [key j hj]
      · exact any_congr' fun j hj => by rw [key j hj]
    · exact .inr ⟨r, hr, h1, ring_mono e0_le q⟩
theorem kern_e0 {e : Int → Int → Bool} {S : List Int} (h : kern e S = true) : kern (e0 e) S = true := by
  unfold kern at h ⊢
  rw [List.all_eq_true] at h ⊢
  intro k hk
  have := h k hk
  split
  · rename_i hc
    rw [if_pos hc, List.all_eq_true] at this
    rw [List.all_eq_true]
    intro j hj
    have := this j hj
    simp only [e0, Bool.not_eq_true'] at this ⊢
    simp [this]
  · rename_i hc
    rw [if_neg hc, List.any_eq_true] at this
    obtain ⟨j, hj, hjk⟩ := this
    rw [List.any_eq_true]
    refine ⟨j, hj, ?_⟩
    have : j ≠ k := fun q => hc (by subst q; simpa using hj)
    simp [e0, this, hjk]
theorem Fact3 (e : Int → Int → Bool) {i j : Nat} {S T : List Int} (hij : i < j) (hi : subs[i]? = some S) (hj : subs[j]? = some T) (hS : kern e S = true) (hT : kern e T = true) : ∃ r ∈ allRings, r.length % 2 = 0 ∧ ring e r = true := by
  obtain ⟨r, hr, h1, q⟩ := fact3 e hij hi hj (kern_e0 hS) (kern_e0 hT)
  exact ⟨r, hr, h1, ring_mono e0_le q⟩
end Mine
end

section
open PySem PySem.W PyProof.Rows PySem.Spec PySem.Calls
set_option Elab.async false
set_option maxRecDepth 100000
set_option linter.unusedVariables false
namespace Mine
noncomputable def adjOf (e : Int → Int → Bool) : List (List Int) := r5.map fun j => r5.filter (e j)
theorem adjAt_of (e : Int → Int → Bool) {j : Int} (h : j ∈ r5) : adjAt (adjOf e) j = r5.filter (e j) := by
  rcases r5_cases h with rfl | rfl | rfl | rfl | rfl <;> rfl
theorem adjAt_full {j : Int} (h : j ∈ r5) : adjAt [r5, r5, r5, r5, r5] j = r5 := by
  rcases r5_cases h with rfl | rfl | rfl | rfl | rfl <;> rfl
theorem adj_has (e : Int → Int → Bool) {j k : Int} (hj : j ∈ r5) (hk : k ∈ r5) : (adjAt (adjOf e) j).contains k = e j k := by
  rw [adjAt_of e hj, Bool.eq_iff_iff, List.contains_iff_mem, List.mem_filter]; simp [hk]
theorem adj_has' (e : Int → Int → Bool) {j k : Int} (hj : j ∈ r5) : (adjAt (adjOf e) j).contains k = (decide (k ∈ r5) && e j k) := by
  rw [adjAt_of e hj, Bool.eq_iff_iff, List.contains_iff_mem, List.mem_filter]; simp
theorem path_snoc (e : Int → Int → Bool) : ∀ {row : List Int} {k : Int}, row ≠ [] → path e (row ++ [k]) = (path e row && e (lastI row) k)
  | [], _, h => absurd rfl h
  | [x], k, _ => by simp [path, lastI]
  | x :: y :: r, k, _ => by
    have := path_snoc e (row := y :: r) (k := k) (by simp)
    simp only [List.cons_append] at this ⊢
    simp only [path, this, Bool.and_assoc]
    rfl
theorem growRow_mem {adj : List (List Int)} {row r' : List Int} : r' ∈ growRow adj row ↔ ∃ k, k ∈ adjAt adj (lastI row) ∧ headI row < k ∧ k ∉ row ∧ r' = row ++ [k] := by
  unfold growRow
  simp only [List.mem_map, List.mem_filter, Bool.and_eq_true, decide_eq_true_eq, Bool.not_eq_true', List.contains_eq_mem, decide_eq_false_iff_not]
  constructor
  · rintro ⟨k, ⟨h1, h2, h3⟩, rfl⟩; exact ⟨k, h1, h2, h3, rfl⟩
  · rintro ⟨k, h1, h2, h3, rfl⟩; exact ⟨k, ⟨h1, h2, h3⟩, rfl⟩
theorem ringsGo_mem {adj : List (List Int)} {f : Nat} {R : List (List Int)} {row : List Int} : row ∈ ringsGo adj (f + 1) R ↔ row ∈ ringsOf adj R ∨ row ∈ ringsGo adj f (growRows adj R) := by
  rw [ringsGo]
  split
  · rename_i h
    subst h
    have : ∀ f, ringsGo adj f [] = [] := fun f => by cases f <;> simp [ringsGo]
    simp [ringsOf, growRows, this]
  · exact List.mem_append
noncomputable def Rows5 (R : List (List Int)) : Prop := ∀ row ∈ R, row ≠ [] ∧ ∀ x ∈ row, x ∈ r5
theorem Rows5.grow {R : List (List Int)} (h : Rows5 R) : Rows5 (growRows [r5, r5, r5, r5, r5] R) := fun r' hr' => by
  obtain ⟨row, hrow, hg⟩ := List.mem_flatMap.mp hr'
  obtain ⟨k, h1, _, _, rfl⟩ := growRow_mem.mp hg
  rw [adjAt_full ((h row hrow).2 _ (lastI_mem (h row hrow).1))] at h1
  exact ⟨by simp, fun x hx => (List.mem_append.mp hx).elim ((h row hrow).2 x) fun q => by simp at q; exact q ▸ h1⟩
theorem rings_go (e : Int → Int → Bool) : ∀ (f : Nat) (R R' : List (List Int)), Rows5 R' → (∀ row, row ∈ R ↔ row ∈ R' ∧ path e row = true) → ∀ row, row ∈ ringsGo (adjOf e) f R ↔ row ∈ ringsGo [r5, r5, r5, r5, r5] f R' ∧ ring e row = true
  | 0, R, R', _, _, row => by simp [ringsGo]
  | f + 1, R, R', h5, h, row => by
    rw [ringsGo_mem, ringsGo_mem, rings_go e f (growRows (adjOf e) R) (growRows [r5, r5, r5, r5, r5] R') h5.grow ?_ row]
    · have : row ∈ ringsOf (adjOf e) R ↔ row ∈ ringsOf [r5, r5, r5, r5, r5] R' ∧ ring e row = true := by
        unfold ringsOf
        rw [List.mem_filter, List.mem_filter, h row]
        constructor
        · rintro ⟨⟨h1, h2⟩, h3⟩
          obtain ⟨hne, hx⟩ := h5 row h1
          have hl := hx _ (lastI_mem hne)
          have hh := hx _ (headI_mem hne)
          rw [adj_has e hl hh] at h3
          exact ⟨⟨h1, by rw [adjAt_full hl]; simpa using hh⟩, by simp [ring, h2, h3]⟩
        · rintro ⟨⟨h1, _⟩, h3⟩
          obtain ⟨hne, hx⟩ := h5 row h1
          have hl := hx _ (lastI_mem hne)
          have hh := hx _ (headI_mem hne)
          simp only [ring, Bool.and_eq_true] at h3
          exact ⟨⟨h1, h3.1⟩, by rw [adj_has e hl hh]; exact h3.2⟩
      rw [this]
      constructor
      · rintro (⟨a, b⟩ | ⟨a, b⟩)
        · exact ⟨.inl a, b⟩
        · exact ⟨.inr a, b⟩
      · rintro ⟨a | a, b⟩
        · exact .inl ⟨a, b⟩
        · exact .inr ⟨a, b⟩
    · intro r'
      unfold growRows
      rw [List.mem_flatMap, List.mem_flatMap]
      constructor
      · rintro ⟨row, hrow, hg⟩
        obtain ⟨h1, h2⟩ := (h row).mp hrow
        obtain ⟨hne, hx⟩ := h5 row h1
        have hl := hx _ (lastI_mem hne)
        obtain ⟨k, g1, g2, g3, rfl⟩ := growRow_mem.mp hg
        rw [adjAt_of e hl, List.mem_filter] at g1
        exact ⟨⟨row, h1, growRow_mem.mpr ⟨k, by rw [adjAt_full hl]; exact g1.1, g2, g3, rfl⟩⟩, by rw [path_snoc e hne, h2, g1.2]; rfl⟩
      · rintro ⟨⟨row, h1, hg⟩, hp⟩
        obtain ⟨hne, hx⟩ := h5 row h1
        have hl := hx _ (lastI_mem hne)
        obtain ⟨k, g1, g2, g3, rfl⟩ := growRow_mem.mp hg
        rw [adjAt_full hl] at g1
        rw [path_snoc e hne, Bool.and_eq_true] at hp
        exact ⟨row, (h row).mpr ⟨h1, hp.1⟩, growRow_mem.mpr ⟨k, by rw [adjAt_of e hl, List.mem_filter]; exact ⟨g1, hp.2⟩, g2, g3, rfl⟩⟩
theorem ringsF_mem (e : Int → Int → Bool) (row : List Int) : row ∈ ringsF (adjOf e) ↔ row ∈ allRings ∧ ring e row = true := by
  show row ∈ ringsGo (adjOf e) 6 [[0], [1], [2], [3], [4]] ↔ row ∈ ringsGo [r5, r5, r5, r5, r5] 6 [[0], [1], [2], [3], [4]] ∧ _
  refine rings_go e 6 _ _ ?_ ?_ row
  · unfold Rows5; decide +kernel
  · intro row
    refine ⟨fun h => ⟨h, ?_⟩, fun h => h.1⟩
    simp only [List.mem_cons, List.not_mem_nil, or_false] at h
    rcases h with rfl | rfl | rfl | rfl | rfl <;> rfl

theorem path_succ (e : Int → Int → Bool) : ∀ {row : List Int}, path e row = true → ∀ x ∈ row, x = lastI row ∨ ∃ y ∈ row, e x y = true
  | [], _, x, hx => by cases hx
  | [a], _, x, hx => by simp at hx; subst hx; exact .inl rfl
  | a :: b :: r, h, x, hx => by
    simp only [path, Bool.and_eq_true] at h
    rcases List.mem_cons.mp hx with rfl | hx
    · exact .inr ⟨b, by simp, h.1⟩
    · rcases path_succ e h.2 x hx with q | ⟨y, hy, q⟩
      · exact .inl q
      · exact .inr ⟨y, List.mem_cons_of_mem _ hy, q⟩
theorem path_pred (e : Int → Int → Bool) : ∀ {row : List Int}, path e row = true → ∀ x ∈ row, x = headI row ∨ ∃ y ∈ row, e y x = true
  | [], _, x, hx => by cases hx
  | [a], _, x, hx => by simp at hx; subst hx; exact .inl rfl
  | a :: b :: r, h, x, hx => by
    simp only [path, Bool.and_eq_true] at h
    rcases List.mem_cons.mp hx with rfl | hx
    · exact .inl rfl
    · rcases path_pred e h.2 x hx with q | ⟨y, hy, q⟩
      · exact .inr ⟨a, by simp, by rw [q]; exact h.1⟩
      · exact .inr ⟨y, List.mem_cons_of_mem _ hy, q⟩
theorem ring_succ {e : Int → Int → Bool} {row : List Int} (h : ring e row = true) {x : Int} (hx : x ∈ row) : ∃ y ∈ row, e x y = true := by
  have hne : row ≠ [] := fun q => by rw [q] at hx; cases hx
  simp only [ring, Bool.and_eq_true] at h
  rcases path_succ e h.1 x hx with rfl | q
  · exact ⟨_, headI_mem hne, h.2⟩
  · exact q
theorem ring_pred {e : Int → Int → Bool} {row : List Int} (h : ring e row = true) {x : Int} (hx : x ∈ row) : ∃ y ∈ row, e y x = true := by
  have hne : row ≠ [] := fun q => by rw [q] at hx; cases hx
  simp only [ring, Bool.and_eq_true] at h
  rcases path_pred e h.1 x hx with rfl | q
  · exact ⟨_, lastI_mem hne, h.2⟩
  · exact q
theorem subs_all (p : Int → Bool) : r5.filter p ∈ subs := by
  have : ∀ a b c d f : Bool, ((if a then [(0 : Int)] else []) ++ (if b then [1] else []) ++ (if c then [2] else []) ++ (if d then [3] else []) ++ (if f then [4] else [])) ∈ subs := by decide +kernel
  have h := this (p 0) (p 1) (p 2) (p 3) (p 4)
  have e : r5.filter p = (if p 0 then [(0 : Int)] else []) ++ (if p 1 then [1] else []) ++ (if p 2 then [2] else []) ++ (if p 3 then [3] else []) ++ (if p 4 then [4] else []) := by
    simp only [r5, List.filter_cons, List.filter_nil]
    cases p 0 <;> cases p 1 <;> cases p 2 <;> cases p 3 <;> cases p 4 <;> rfl
  rw [e]; exact h

/-- refused just if there is a ring -/
theorem cyc_rings {e : Int → Int → Bool} {sc : Int → List Int} (hsc : ∀ y x, x ∈ sc y → y ∈ r5 ∧ x ∈ r5 ∧ e y x = true) (h : Cyc sc) : ringsF (adjOf e) ≠ [] := by
  obtain ⟨C, hne, hC⟩ := h
  have hC5 : ∀ x ∈ C, x ∈ r5 := fun x hx => by obtain ⟨y, _, q⟩ := hC x hx; exact (hsc y x q).2.1
  obtain ⟨r, hr, q⟩ := Fact1 e (C := r5.filter fun k => C.contains k) (subs_all _) (by
    obtain ⟨x, hx⟩ := List.exists_mem_of_ne_nil _ hne
    exact List.ne_nil_of_mem (List.mem_filter.mpr ⟨hC5 x hx, by simpa using hx⟩)) (fun x hx => by
    obtain ⟨h1, h2⟩ := List.mem_filter.mp hx
    obtain ⟨y, hy, q⟩ := hC x (by simpa using h2)
    exact ⟨y, List.mem_filter.mpr ⟨hC5 y hy, by simpa using hy⟩, (hsc y x q).2.2⟩)
  exact List.ne_nil_of_mem ((ringsF_mem e r).mpr ⟨hr, q⟩)
theorem acyc_rings {e : Int → Int → Bool} {sc : Int → List Int} {ks : List Int} (hsc : ∀ y x, y ∈ r5 → x ∈ r5 → e y x = true → x ∈ sc y) (hks : ∀ x ∈ r5, x ∈ ks) (h : Acyc sc ks) : ringsF (adjOf e) = [] := by
  obtain ⟨fin, h1, h2⟩ := h
  cases q : ringsF (adjOf e) with
  | nil => rfl
  | cons row rest =>
    exfalso
    obtain ⟨a1, a2⟩ := (ringsF_mem e row).mp (by rw [q]; exact .head _)
    obtain ⟨hne, h5⟩ := allRings_ok row a1
    have key : ∀ (i : Nat) (x : Int), fin[i]? = some x → x ∉ row := by
      intro i
      induction i using Nat.strongRecOn with
      | ind i ih =>
        intro x hx hm
        obtain ⟨y, hy, hxy⟩ := ring_succ a2 hm
        obtain ⟨j, hj, e1⟩ := h2 i x hx y (hsc x y (h5 x hm) (h5 y hy) hxy)
        exact ih j hj y e1 hy
    obtain ⟨x, hx⟩ := List.exists_mem_of_ne_nil _ hne
    obtain ⟨i, hi⟩ := List.getElem?_of_mem (h1 x (hks x (h5 x hx)))
    exact key i x hi hx
end Mine
end

section
open PySem PySem.W PyProof.Rows PySem.Spec PySem.Calls
set_option Elab.async false
set_option maxRecDepth 100000
set_option linter.unusedVariables false
namespace Mine
/-- handed out within t rounds -/
noncomputable def Dset (e : Int → Int → Bool) : Nat → Int → Bool
  | 0, _ => false
  | t + 1, x => r5.all fun j => !e j x || Dset e t j
theorem Dset_succ {e : Int → Int → Bool} {t : Nat} {x : Int} : Dset e (t + 1) x = true ↔ ∀ j ∈ r5, e j x = true → Dset e t j = true := by
  simp only [Dset, List.all_eq_true, Bool.or_eq_true, Bool.not_eq_true']
  refine ⟨fun h j hj q => (h j hj).resolve_left (by simp [q]), fun h j hj => ?_⟩
  cases q : e j x with
  | false => exact .inl rfl
  | true => exact .inr (h j hj q)
theorem Dset_mono {e : Int → Int → Bool} : ∀ {t : Nat} {x : Int}, Dset e t x = true → Dset e (t + 1) x = true
  | 0, x, h => by simp [Dset] at h
  | t + 1, x, h => Dset_succ.mpr fun j hj q => Dset_mono (Dset_succ.mp h j hj q)
theorem Dset_le {e : Int → Int → Bool} {t u : Nat} (htu : t ≤ u) {x : Int} (h : Dset e t x = true) : Dset e u x = true := by
  induction htu with
  | refl => exact h
  | step _ ih => exact Dset_mono ih

theorem filter_len_lt {p q : Int → Bool} : ∀ {l : List Int}, (∀ x ∈ l, p x = true → q x = true) → (l.filter p).length ≤ (l.filter q).length ∧ ((∃ x ∈ l, q x = true ∧ p x = false) → (l.filter p).length < (l.filter q).length)
  | [], _ => ⟨Nat.le_refl _, fun ⟨_, h, _⟩ => by cases h⟩
  | a :: l, h => by
    obtain ⟨i1, i2⟩ := filter_len_lt (p := p) (q := q) (l := l) fun x hx => h x (.tail _ hx)
    have ha := h a (.head _)
    simp only [List.filter_cons]
    refine ⟨?_, ?_⟩
    · cases hp : p a <;> cases hq : q a <;> simp <;> first | (first | with_reducible assumption | with_reducible exact Nat.le_succ_of_le (by assumption)) | (rw [hp, hq] at ha; simp at ha)
    · rintro ⟨x, hx, h1, h2⟩
      rcases List.mem_cons.mp hx with rfl | hx
      · simp [h1, h2]; omega
      · have := i2 ⟨x, hx, h1, h2⟩
        cases hp : p a <;> cases hq : q a <;> simp <;> first | (first | with_reducible assumption | omega) | (rw [hp, hq] at ha; simp at ha)
/-- what only grows stands still behind five turns -/
theorem stable5 (X : Nat → Int → Bool) (hm : ∀ i, ∀ x ∈ r5, X i x = true → X (i + 1) x = true) (hd : ∀ i, (∀ x ∈ r5, X (i + 1) x = X i x) → ∀ x ∈ r5, X (i + 2) x = X (i + 1) x) : ∀ x ∈ r5, X 6 x = X 5 x := by
  have step : ∀ i, (∀ x ∈ r5, X (i + 1) x = X i x) ∨ (r5.filter (X i)).length < (r5.filter (X (i + 1))).length := fun i => by
    by_cases h : ∀ x ∈ r5, X (i + 1) x = X i x
    · exact .inl h
    · refine .inr ((filter_len_lt (hm i)).2 ?_)
      simp only [Classical.not_forall] at h
      obtain ⟨x, hx, hne⟩ := h
      refine ⟨x, hx, ?_⟩
      have := hm i x hx
      cases h1 : X i x <;> cases h2 : X (i + 1) x <;> simp_all
  have key : ∀ i, (∀ x ∈ r5, X (i + 1) x = X i x) ∨ i + 1 ≤ (r5.filter (X (i + 1))).length := by
    intro i
    induction i with
    | zero => exact (step 0).imp id fun h => by omega
    | succ i ih =>
      rcases ih with h | h
      · exact .inl (hd i h)
      · exact (step (i + 1)).imp id fun h' => by omega
  rcases key 5 with h | h
  · exact h
  · have : (r5.filter (X (5 + 1))).length ≤ 5 := List.length_filter_le ..
    omega

theorem spoilt0_mem {e : Int → Int → Bool} {k : Int} : k ∈ spoilt0 (ringsF (adjOf e)) ↔ k ∈ r5 ∧ ∃ row ∈ ringsF (adjOf e), k ∈ row := by
  unfold spoilt0
  rw [List.mem_filter]
  refine and_congr_right fun _ => ?_
  simp only [Bool.not_eq_true', beq_eq_false_iff_ne, ne_eq, List.filter_eq_nil_iff, Classical.not_forall, List.contains_eq_mem, decide_eq_true_eq, Classical.not_not]
  constructor
  · rintro ⟨row, h1, h2⟩; exact ⟨row, h1, h2⟩
  · rintro ⟨row, h1, h2⟩; exact ⟨row, h1, h2⟩
theorem spoiltS_mem {e : Int → Int → Bool} {sp : List Int} (hsp : ∀ x ∈ sp, x ∈ r5) {k : Int} : k ∈ spoiltS (adjOf e) sp ↔ k ∈ r5 ∧ (k ∈ sp ∨ ∃ j ∈ sp, e j k = true) := by
  unfold spoiltS
  rw [List.mem_filter]
  refine and_congr_right fun hk => ?_
  simp only [Bool.or_eq_true, List.contains_eq_mem, decide_eq_true_eq, Bool.not_eq_true', beq_eq_false_iff_ne, ne_eq, List.filter_eq_nil_iff, Classical.not_forall, Classical.not_not]
  refine or_congr Iff.rfl ⟨?_, ?_⟩
  · rintro ⟨j, hj, h⟩
    have := adj_has e (hsp j hj) hk
    rw [List.contains_eq_mem] at this
    exact ⟨j, hj, by rw [← this]; simpa using h⟩
  · rintro ⟨j, hj, h⟩
    have := adj_has e (hsp j hj) hk
    rw [List.contains_eq_mem] at this
    exact ⟨j, hj, by rw [h] at this; simpa using this⟩
noncomputable def spF (e : Int → Int → Bool) (t : Nat) : List Int := iter (spoiltS (adjOf e)) t (spoilt0 (ringsF (adjOf e)))
theorem spF_r5 (e : Int → Int → Bool) (t : Nat) : ∀ x ∈ spF e t, x ∈ r5 := fun x hx => by
  obtain ⟨p, hp⟩ := spoilt_form (adjOf e) (ringsF (adjOf e)) t
  unfold spF at hx; rw [hp] at hx; exact (List.mem_filter.mp hx).1
theorem spF_succ {e : Int → Int → Bool} {t : Nat} {k : Int} : k ∈ spF e (t + 1) ↔ k ∈ r5 ∧ (k ∈ spF e t ∨ ∃ j ∈ spF e t, e j k = true) := spoiltS_mem (spF_r5 e t)
theorem ring_not {e : Int → Int → Bool} {row : List Int} (h : ring e row = true) (h5 : ∀ x ∈ row, x ∈ r5) : ∀ (n : Nat), ∀ x ∈ row, Dset e n x = false
  | 0, _, _ => rfl
  | n + 1, x, hx => by
    obtain ⟨y, hy, q⟩ := ring_pred h hx
    cases hd : Dset e (n + 1) x with
    | false => rfl
    | true => have := Dset_succ.mp hd y (h5 y hy) q; rw [ring_not h h5 n y hy] at this; cases this
theorem spoilt_not {e : Int → Int → Bool} : ∀ (t : Nat) (k : Int), k ∈ spF e t → ∀ n, Dset e n k = false
  | 0, k, hk, n => by
    obtain ⟨h1, row, h2, h3⟩ := spoilt0_mem.mp hk
    obtain ⟨a1, a2⟩ := (ringsF_mem e row).mp h2
    exact ring_not a2 (allRings_ok row a1).2 n k h3
  | t + 1, k, hk, n => by
    obtain ⟨h1, h2 | ⟨j, h2, h3⟩⟩ := spF_succ.mp hk
    · exact spoilt_not t k h2 n
    · cases n with
      | zero => rfl
      | succ n =>
        cases hd : Dset e (n + 1) k with
        | false => rfl
        | true => have := Dset_succ.mp hd j (spF_r5 e t j h2) h3; rw [spoilt_not t j h2 n] at this; cases this
theorem not_spoilt {e : Int → Int → Bool} {k : Int} (hk : k ∈ r5) (h : Dset e 5 k = false) : k ∈ spF e 5 := by
  have sD : ∀ x ∈ r5, Dset e 6 x = Dset e 5 x := stable5 (Dset e) (fun i x _ q => Dset_mono q) fun i hi x hx => by
    rw [Bool.eq_iff_iff, Dset_succ, Dset_succ]
    exact ⟨fun h j hj q => by rw [← hi j hj]; exact h j hj q, fun h j hj q => by rw [hi j hj]; exact h j hj q⟩
  have sS : ∀ x ∈ r5, decide (x ∈ spF e 6) = decide (x ∈ spF e 5) := stable5 (fun i x => decide (x ∈ spF e i)) (fun i x hx q => by
    simp only [decide_eq_true_eq] at q ⊢; exact spF_succ.mpr ⟨hx, .inl q⟩) fun i hi x hx => by
    have hi' : ∀ y, y ∈ spF e (i + 1) ↔ y ∈ spF e i := fun y => by
      by_cases hy : y ∈ r5
      · have := hi y hy; simpa using this
      · exact ⟨fun q => absurd (spF_r5 e _ y q) hy, fun q => absurd (spF_r5 e _ y q) hy⟩
    have : x ∈ spF e (i + 2) ↔ x ∈ spF e (i + 1) := by
      have h1 := spF_succ (e := e) (t := i + 1) (k := x)
      have h2 := spF_succ (e := e) (t := i) (k := x)
      simp only [hi'] at h1
      exact h1.trans h2.symm
    simp only [this]
  have hS : ∀ x, x ∈ spF e 6 ↔ x ∈ spF e 5 := fun y => by
    by_cases hy : y ∈ r5
    · have := sS y hy; simpa using this
    · exact ⟨fun q => absurd (spF_r5 e _ y q) hy, fun q => absurd (spF_r5 e _ y q) hy⟩
  apply Classical.byContradiction
  intro hns
  let ok : Int → Bool := fun x => !(spF e 5).contains x && !Dset e 5 x
  have hok : ∀ x, ok x = true ↔ x ∉ spF e 5 ∧ Dset e 5 x = false := fun x => by simp [ok]
  obtain ⟨r, hr, q⟩ := Fact1 (fun j x => e j x && ok j && ok x) (C := r5.filter ok) (subs_all _) (List.ne_nil_of_mem (List.mem_filter.mpr ⟨hk, (hok k).mpr ⟨hns, h⟩⟩)) (fun x hx => by
    obtain ⟨hx5, hx2⟩ := List.mem_filter.mp hx
    obtain ⟨h1, h2⟩ := (hok x).mp hx2
    have h6 : Dset e 6 x ≠ true := by rw [sD x hx5, h2]; simp
    rw [ne_eq, Dset_succ] at h6
    simp only [Classical.not_forall] at h6
    obtain ⟨j, hj, hjx, hjd⟩ := h6
    have hjok : ok j = true := (hok j).mpr ⟨fun q => h1 ((hS x).mp (spF_succ.mpr ⟨hx5, .inr ⟨j, q, hjx⟩⟩)), by simpa using hjd⟩
    exact ⟨j, List.mem_filter.mpr ⟨hj, hjok⟩, by simp [hjx, hjok, hx2]⟩)
  obtain ⟨hne, h5⟩ := allRings_ok r hr
  obtain ⟨x, hx⟩ := List.exists_mem_of_ne_nil _ hne
  obtain ⟨y, hy, hxy⟩ := ring_succ q hx
  simp only [Bool.and_eq_true] at hxy
  have hxok := (hok x).mp hxy.1.2
  refine hxok.1 ?_
  have hin : r ∈ ringsF (adjOf e) := (ringsF_mem e r).mpr ⟨hr, ring_mono (fun a b hab => by simp only [Bool.and_eq_true] at hab; exact hab.1.1) q⟩
  have base : x ∈ spF e 0 := spoilt0_mem.mpr ⟨h5 x hx, r, hin, hx⟩
  have up : ∀ t, x ∈ spF e t := fun t => by
    induction t with
    | zero => exact base
    | succ t ih => exact spF_succ.mpr ⟨h5 x hx, .inl ih⟩
  exact up 5
theorem left_mem {e : Int → Int → Bool} {k : Int} : k ∈ leftF (spF e 5) ↔ k ∈ r5 ∧ Dset e 5 k = true := by
  unfold leftF
  rw [List.mem_filter]
  refine and_congr_right fun hk => ?_
  simp only [Bool.not_eq_true', List.contains_eq_mem, decide_eq_false_iff_not]
  constructor
  · intro h
    cases q : Dset e 5 k with
    | true => rfl
    | false => exact absurd (not_spoilt hk q) h
  · intro h hs
    rw [spoilt_not 5 k hs 5] at h; cases h

/-! the levels -/
noncomputable def hiF (e : Int → Int → Bool) (i : Nat) : List Int := iter (highS (adjOf e) (leftF (spF e 5))) i [0, 0, 0, 0, 0]
theorem hi_succ {e : Int → Int → Bool} {i : Nat} {k : Int} (hk : k ∈ r5) : (hiF e (i + 1)).getD k.toNat 0 = maxI (0 :: ((leftF (spF e 5)).filter fun j => (adjAt (adjOf e) j).contains k).map fun j => (hiF e i).getD j.toNat 0 + 1) := by
  rcases r5_cases hk with rfl | rfl | rfl | rfl | rfl <;> rfl
structure LevP (e : Int → Int → Bool) (i : Nat) (k : Int) (m : Nat) : Prop where
  le : m ≤ i
  up : m = i ∨ Dset e (m + 1) k = true
  dn : Dset e m k = false
theorem hi_lev {e : Int → Int → Bool} : ∀ (i : Nat) (k : Int), k ∈ r5 → Dset e 5 k = true → ∃ m : Nat, (hiF e i).getD k.toNat 0 = (m : Int) ∧ LevP e i k m
  | 0, k, hk, _ => ⟨0, by rcases r5_cases hk with rfl | rfl | rfl | rfl | rfl <;> rfl, ⟨Nat.le_refl _, .inl rfl, rfl⟩⟩
  | i + 1, k, hk, hd => by
    rw [hi_succ hk]
    have preds : ∀ j, j ∈ ((leftF (spF e 5)).filter fun j => (adjAt (adjOf e) j).contains k) ↔ j ∈ r5 ∧ Dset e 5 j = true ∧ e j k = true := fun j => by
      rw [List.mem_filter, left_mem]
      constructor
      · rintro ⟨⟨h1, h2⟩, h3⟩; rw [adj_has e h1 hk] at h3; exact ⟨h1, h2, h3⟩
      · rintro ⟨h1, h2, h3⟩; exact ⟨⟨h1, h2⟩, by rw [adj_has e h1 hk]; exact h3⟩
    generalize ((leftF (spF e 5)).filter fun j => (adjAt (adjOf e) j).contains k) = ps at preds
    have hp5 : ∀ j ∈ r5, e j k = true → Dset e 5 j = true := fun j hj q => Dset_mono (Dset_succ.mp hd j hj q)
    obtain ⟨hmem, hmax⟩ := foldl_max (ps.map fun j => (hiF e i).getD j.toNat 0 + 1) 0
    change maxI (0 :: _) ∈ _ at hmem
    change ∀ b ∈ _, b ≤ maxI (0 :: _) at hmax
    generalize maxI (0 :: (ps.map fun j => (hiF e i).getD j.toNat 0 + 1)) = M at hmem hmax
    by_cases hps : ps = []
    · subst hps
      simp at hmem
      subst hmem
      refine ⟨0, rfl, Nat.zero_le _, .inr (Dset_succ.mpr fun j hj q => ?_), rfl⟩
      have := (preds j).mpr ⟨hj, hp5 j hj q, q⟩; cases this
    · obtain ⟨j0, hj0⟩ := List.exists_mem_of_ne_nil _ hps
      have ge : ∀ j ∈ ps, (hiF e i).getD j.toNat 0 + 1 ≤ M := fun j hj => hmax _ (.tail _ (List.mem_map.mpr ⟨j, hj, rfl⟩))
      have : ∃ j ∈ ps, M = (hiF e i).getD j.toNat 0 + 1 := by
        rcases List.mem_cons.mp hmem with h0 | h0
        · have h1 := ge j0 hj0
          obtain ⟨m, hm, _⟩ := hi_lev i j0 ((preds j0).mp hj0).1 ((preds j0).mp hj0).2.1
          rw [hm] at h1; omega
        · obtain ⟨j, hj, e1⟩ := List.mem_map.mp h0; exact ⟨j, hj, e1.symm⟩
      obtain ⟨js, hjs, rfl⟩ := this
      obtain ⟨p1, p2, p3⟩ := (preds js).mp hjs
      obtain ⟨m, hm, L⟩ := hi_lev i js p1 p2
      rw [hm] at ge ⊢
      refine ⟨m + 1, by simp, by have := L.le; (with_reducible exact Nat.succ_le_succ (by assumption)), ?_, ?_⟩
      · rcases L.up with h | h
        · exact .inl (by (with_reducible exact succ_eqn (by assumption)))
        · by_cases hmi : m = i
          · exact .inl (by (with_reducible exact succ_eqn (by assumption)))
          · refine .inr (Dset_succ.mpr fun j hj q => ?_)
            have hj' := (preds j).mpr ⟨hj, hp5 j hj q, q⟩
            obtain ⟨m', hm', L'⟩ := hi_lev i j hj (hp5 j hj q)
            have := ge j hj'
            rw [hm'] at this
            have hle : m' ≤ m := by omega
            rcases L'.up with u | u
            · have := L.le; omega
            · exact Dset_le (by (with_reducible exact Nat.succ_le_succ (by assumption))) u
      · cases hq : Dset e (m + 1) k with
        | false => rfl
        | true => have := Dset_succ.mp hq js p1 p3; rw [L.dn] at this; cases this
noncomputable def lev (e : Int → Int → Bool) (t : Nat) : List Int := r5.filter fun k => Dset e (t + 1) k && !Dset e t k
theorem rounds_lev (e : Int → Int → Bool) : roundsF (adjOf e) (ringsF (adjOf e)) = ((List.range 5).map (lev e)).filter fun one => !(one == []) := by
  have h1 : roundsF (adjOf e) (ringsF (adjOf e)) = (r5.map fun lv => (leftF (spF e 5)).filter fun k => (hiF e 5).getD k.toNat 0 == lv).filter fun one => !(one == []) := rfl
  have h2 : ∀ t : Nat, t < 5 → ((leftF (spF e 5)).filter fun k => (hiF e 5).getD k.toNat 0 == (t : Int)) = lev e t := fun t ht => by
    unfold leftF lev
    rw [List.filter_filter]
    refine List.filter_congr fun k hk => ?_
    have hl := left_mem (e := e) (k := k)
    unfold leftF at hl
    rw [List.mem_filter] at hl
    by_cases hd : Dset e 5 k = true
    · have h3 := (hl.mpr ⟨hk, hd⟩).2
      rw [h3, Bool.and_true]
      obtain ⟨m, hm, L⟩ := hi_lev 5 k hk hd
      rw [hm]
      have hm5 : m < 5 := by
        have := L.le
        rcases Nat.lt_or_ge m 5 with h | h
        · exact h
        · have : m = 5 := by omega
          subst this; have := L.dn; rw [hd] at this; cases this
      have hup : Dset e (m + 1) k = true := L.up.resolve_left (by omega)
      by_cases hmt : m = t
      · subst hmt; simp [hup, L.dn]
      · have hne : ((m : Int) == (t : Int)) = false := by (simp; omega)
        rw [hne]
        rcases Nat.lt_or_gt_of_ne hmt with h | h
        · have := Dset_le (e := e) (show m + 1 ≤ t by (with_reducible exact Nat.succ_le_of_lt (by assumption))) hup
          simp [this]
        · cases q : Dset e (t + 1) k with
          | false => simp
          | true => have := Dset_le (e := e) (show t + 1 ≤ m by (with_reducible exact Nat.succ_le_of_lt (by assumption))) q; rw [L.dn] at this; cases this
    · have h3 : (!(spF e 5).contains k) = false := by
        cases q : (!(spF e 5).contains k) with
        | false => rfl
        | true => exact absurd (hl.mp ⟨hk, q⟩).2 hd
      rw [h3, Bool.and_false]
      have hd' : Dset e (t + 1) k = false := by
        cases q : Dset e (t + 1) k with
        | false => rfl
        | true => exact absurd (Dset_le (by (with_reducible exact Nat.succ_le_of_lt (by assumption))) q) hd
      simp [hd']
  rw [h1]
  congr 1
  show [_, _, _, _, _] = [lev e 0, lev e 1, lev e 2, lev e 3, lev e 4]
  rw [← h2 0 (by decide), ← h2 1 (by decide), ← h2 2 (by decide), ← h2 3 (by decide), ← h2 4 (by decide)]
  rfl
end Mine
end

section
open PySem PySem.W PyProof.Rows PySem.Spec PySem.Calls
set_option Elab.async false
set_option maxRecDepth 100000
set_option linter.unusedVariables false
namespace Mine
/-! the sorter's table -/
noncomputable def getN (x : Int) (L : LN) : Option (Int × List Int) := (L.find? fun t => t.1 = x).map (·.2)
theorem npOf_get (x : Int) (L : LN) : npOf x L = (getN x L).map (·.1) := by unfold npOf getN; rw [Option.map_map]; rfl
theorem succOf_get (x : Int) (L : LN) : succOf x L = ((getN x L).map (·.2)).getD [] := by unfold succOf getN; rw [Option.map_map]; rfl
theorem find_keyed {L : LN} {x : Int} {f : Int × Int × List Int → Int × Int × List Int} (hf : ∀ t, (f t).1 = t.1) : ((L.map f).find? fun t => t.1 = x) = (L.find? fun t => t.1 = x).map f := by
  rw [List.find?_map]
  congr 1
  congr 1
  funext t
  simp [hf]
theorem find_key {L : LN} {x : Int} {t : Int × Int × List Int} (h : (L.find? fun t => t.1 = x) = some t) : t.1 = x := by simpa using List.find?_some h
theorem getN_addNp (x k c : Int) (L : LN) : getN x (addNp k c L) = (getN x L).map fun q => if x = k then (q.1 + c, q.2) else q := by
  unfold getN addNp
  rw [find_keyed (fun t => by split <;> rfl), Option.map_map, Option.map_map]
  cases h : L.find? fun t => t.1 = x with
  | none => rfl
  | some t => have := find_key h; subst this; simp only [Option.map_some, Function.comp_apply]; split <;> rfl
theorem getN_setNp (x k c : Int) (L : LN) : getN x (setNpL k c L) = (getN x L).map fun q => if x = k then (c, q.2) else q := by
  unfold getN setNpL
  rw [find_keyed (fun t => by split <;> rfl), Option.map_map, Option.map_map]
  cases h : L.find? fun t => t.1 = x with
  | none => rfl
  | some t => have := find_key h; subst this; simp only [Option.map_some, Function.comp_apply]; split <;> rfl
theorem getN_addSucc (x p k : Int) (L : LN) : getN x (addSucc p k L) = (getN x L).map fun q => if x = p then (q.1, q.2 ++ [k]) else q := by
  unfold getN addSucc
  rw [find_keyed (fun t => by split <;> rfl), Option.map_map, Option.map_map]
  cases h : L.find? fun t => t.1 = x with
  | none => rfl
  | some t => have := find_key h; subst this; simp only [Option.map_some, Function.comp_apply]; split <;> rfl
theorem getN_none {x : Int} {L : LN} : getN x L = none ↔ x ∉ L.map (·.1) := by
  unfold getN
  rw [Option.map_eq_none_iff, List.find?_eq_none]
  simp only [decide_eq_true_eq, List.mem_map, not_exists, not_and]
theorem getN_ens (x k : Int) (L : LN) : getN x (ensureF k L) = if x = k then some ((getN k L).getD (0, [])) else getN x L := by
  unfold ensureF
  split
  · rename_i h
    split
    · rename_i e; subst e
      cases q : getN x L with
      | none => exact absurd h (getN_none.mp q)
      | some v => rfl
    · rfl
  · rename_i h
    have hn := getN_none.mpr h
    split
    · rename_i e; subst e
      rw [hn]
      unfold getN at hn ⊢
      rw [Option.map_eq_none_iff] at hn
      rw [List.find?_append, hn]; simp
    · rename_i e
      unfold getN
      rw [List.find?_append]
      have : ([(k, (0 : Int), ([] : List Int))].find? fun t => t.1 = x) = none := by simp [Ne.symm e]
      rw [this, Option.or_none]
theorem getN_mem {L : LN} (hn : (L.map (·.1)).Nodup) {t : Int × Int × List Int} (ht : t ∈ L) : getN t.1 L = some t.2 := by
  unfold getN
  have : (L.find? fun u => u.1 = t.1) = some t := by
    induction L with
    | nil => cases ht
    | cons a L ih =>
      rw [List.map_cons, List.nodup_cons] at hn
      rcases List.mem_cons.mp ht with rfl | ht
      · simp
      · have : a.1 ≠ t.1 := fun q => hn.1 (by rw [q]; exact List.mem_map.mpr ⟨t, ht, rfl⟩)
        rw [List.find?_cons]
        simp only [this, decide_false]
        exact ih hn.2 ht
  rw [this]; rfl

/-! the sites are laid -/
noncomputable def Gd (L : LN) (x : Int) : Int × List Int := (getN x L).getD (0, [])
theorem adds_get (k : Int) : ∀ (ps : List Int) (L : LN), ps.Nodup → ∀ x, getN x (ps.foldl (fun L p => addSucc p k (ensureF p L)) L) = if x ∈ ps then some ((Gd L x).1, (Gd L x).2 ++ [k]) else getN x L
  | [], L, _, x => by simp
  | p :: ps, L, h, x => by
    obtain ⟨h1, h2⟩ := List.nodup_cons.mp h
    rw [List.foldl_cons, adds_get k ps _ h2 x]
    by_cases hx : x = p
    · subst hx
      rw [if_neg h1, getN_addSucc, getN_ens]
      simp [Gd]
    · have hg : getN x (addSucc p k (ensureF p L)) = getN x L := by
        rw [getN_addSucc, getN_ens]; simp [hx]
      have hG : Gd (addSucc p k (ensureF p L)) x = Gd L x := by unfold Gd; rw [hg]
      rw [hg, hG]
      simp [hx]
theorem addF_get (k : Int) (ps : List Int) (L : LN) (h : ps.Nodup) (x : Int) :
    getN x (addF k ps L) = if x = k ∨ x ∈ ps then some ((Gd L x).1 + (if x = k then (ps.length : Int) else 0), (Gd L x).2 ++ (if x ∈ ps then [k] else [])) else getN x L := by
  unfold addF
  rw [adds_get k ps _ h x]
  have hg : getN x (addNp k ps.length (ensureF k L)) = if x = k then some ((Gd L x).1 + ps.length, (Gd L x).2) else getN x L := by
    rw [getN_addNp, getN_ens]
    by_cases e : x = k
    · subst e; simp [Gd]
    · simp [e]
  by_cases hk : x = k
  · have hG : Gd (addNp k ps.length (ensureF k L)) x = ((Gd L x).1 + ps.length, (Gd L x).2) := by unfold Gd at hg ⊢; rw [hg, if_pos hk]; rfl
    rw [hg, hG]
    by_cases hp : x ∈ ps <;> simp [hk, hp] <;> (subst hk; simp [hp])
  · have hG : Gd (addNp k ps.length (ensureF k L)) x = Gd L x := by unfold Gd; rw [hg, if_neg hk]
    rw [hg, hG]
    by_cases hp : x ∈ ps <;> simp [hk, hp]
noncomputable def psOf (e : Int → Int → Bool) (k : Int) : List Int := r5.filter fun j => e j k
noncomputable def ALi (e : Int → Int → Bool) (ks : List Int) : LN := ks.foldl (fun L k => addF k (psOf e k) L) []
structure AInv (e : Int → Int → Bool) (ks : List Int) (L : LN) : Prop where
  val : ∀ x ∈ r5, Gd L x = (if x ∈ ks then ((psOf e x).length : Int) else 0, ks.filter (e x))
  out : ∀ x, x ∉ r5 → getN x L = none
  in_ : ∀ x ∈ ks, (getN x L).isSome = true
theorem AInv.step {e : Int → Int → Bool} {ks : List Int} {L : LN} (h : AInv e ks L) {k : Int} (hk : k ∈ r5) (hkn : k ∉ ks) : AInv e (ks ++ [k]) (addF k (psOf e k) L) := by
  have hn : (psOf e k).Nodup := List.Nodup.sublist List.filter_sublist (by decide : r5.Nodup)
  have hp : ∀ x, x ∈ psOf e k ↔ x ∈ r5 ∧ e x k = true := fun x => List.mem_filter
  refine ⟨fun x hx => ?_, fun x hx => ?_, fun x hx => ?_⟩
  · have hv := h.val x hx
    unfold Gd
    rw [addF_get k _ L hn x, List.filter_append]
    by_cases e1 : x = k
    · subst e1
      rw [if_pos (.inl rfl), hv]
      simp only [Option.getD_some, if_neg hkn, if_true, List.filter_cons, List.filter_nil]
      have : x ∈ ks ++ [x] := by simp
      rw [if_pos this]
      by_cases e2 : e x x = true
      · rw [if_pos ((hp x).mpr ⟨hx, e2⟩)]; simp [e2]
      · rw [if_neg (fun q => e2 ((hp x).mp q).2)]; simp [e2]
    · have h2 : (x ∈ ks ++ [k]) = (x ∈ ks) := by simp [e1]
      by_cases e2 : e x k = true
      · rw [if_pos (.inr ((hp x).mpr ⟨hx, e2⟩)), hv]
        simp [e1, e2, (hp x).mpr ⟨hx, e2⟩]
      · have h3 : x ∉ psOf e k := fun q => e2 ((hp x).mp q).2
        rw [if_neg (fun q => q.elim e1 h3)]
        have : (getN x L).getD (0, []) = Gd L x := rfl
        rw [this, hv]
        simp [e1, e2]
  · rw [addF_get k _ L hn x, if_neg]
    · exact h.out x hx
    · rintro (q | q)
      · exact hx (q ▸ hk)
      · exact hx ((hp x).mp q).1
  · rw [addF_get k _ L hn x]
    split
    · rfl
    · rename_i hno
      have : x ≠ k := fun q => hno (.inl q)
      exact h.in_ x ((List.mem_append.mp hx).resolve_right (by simpa using this))
theorem AInv.nil (e : Int → Int → Bool) : AInv e [] [] := ⟨fun x _ => by simp [Gd, getN], fun x _ => rfl, fun x hx => by cases hx⟩
/-- what a table of sites is -/
structure TInv (e : Int → Int → Bool) (L : LN) (v : Int → Int) : Prop where
  get : ∀ x ∈ r5, getN x L = some (v x, r5.filter (e x))
  out : ∀ x, x ∉ r5 → getN x L = none
theorem AInv.full {e : Int → Int → Bool} {L : LN} (h : AInv e r5 L) : TInv e L fun x => ((psOf e x).length : Int) :=
  ⟨fun x hx => by
    have h1 := h.in_ x hx
    have h2 := h.val x hx
    unfold Gd at h2
    cases q : getN x L with
    | none => rw [q] at h1; cases h1
    | some w => rw [q] at h2; simp only [Option.getD_some] at h2; rw [h2, if_pos hx], h.out⟩
theorem TInv.succ {e : Int → Int → Bool} {L : LN} {v : Int → Int} (h : TInv e L v) (x : Int) : succOf x L = if x ∈ r5 then r5.filter (e x) else [] := by
  rw [succOf_get]
  split
  · rename_i hx; rw [h.get x hx]; rfl
  · rename_i hx; rw [h.out x hx]; rfl
theorem TInv.np {e : Int → Int → Bool} {L : LN} {v : Int → Int} (h : TInv e L v) {x : Int} (hx : x ∈ r5) : npOf x L = some (v x) := by
  rw [npOf_get, h.get x hx]; rfl
theorem TInv.keys {e : Int → Int → Bool} {L : LN} {v : Int → Int} (h : TInv e L v) {x : Int} : x ∈ L.map (·.1) ↔ x ∈ r5 := by
  constructor
  · intro hx
    apply Classical.byContradiction
    intro hn
    exact getN_none.mp (h.out x hn) hx
  · intro hx
    apply Classical.byContradiction
    intro hn
    have := getN_none.mpr hn
    rw [h.get x hx] at this; cases this
theorem TInv.bnd {e : Int → Int → Bool} {L : LN} {v : Int → Int} (h : TInv e L v) (hn : (L.map (·.1)).Nodup) {t : Int × Int × List Int} (ht : t ∈ L) : t.2.2 = r5.filter (e t.1) ∧ t.1 ∈ r5 ∧ t.2.1 = v t.1 := by
  have h1 := getN_mem hn ht
  have h2 : t.1 ∈ r5 := h.keys.mp (List.mem_map.mpr ⟨t, ht, rfl⟩)
  rw [h.get _ h2] at h1
  simp only [Option.some.injEq, Prod.ext_iff] at h1
  exact ⟨h1.2.symm, h2, h1.1.symm⟩
end Mine
end

section
open PySem PySem.W PyProof.Rows PySem.Spec PySem.Calls
set_option Elab.async false
set_option maxRecDepth 100000
set_option linter.unusedVariables false
namespace Mine
/-- how many of the edges into x are not yet struck off -/
noncomputable def cntP (e : Int → Int → Bool) (P : Int → Int → Bool) (x : Int) : Int := ((r5.filter fun j => e j x && !P j x).length : Int)
theorem filter_one {p q : Int → Bool} {k : Int} : ∀ {l : List Int}, l.Nodup → k ∈ l → p k = true → (∀ j ∈ l, q j = (p j && decide (j ≠ k))) → (l.filter p).length = (l.filter q).length + 1
  | [], _, h, _, _ => by cases h
  | a :: l, hn, hk, hp, hq => by
    obtain ⟨h1, h2⟩ := List.nodup_cons.mp hn
    rcases List.mem_cons.mp hk with rfl | hk'
    · have qa := hq k (.head _)
      have : l.filter q = l.filter p := List.filter_congr fun j hj => by
        rw [hq j (.tail _ hj)]
        have : j ≠ k := fun e => h1 (e ▸ hj)
        simp [this]
      simp only [List.filter_cons, hp, qa, this]; simp
    · have ih := filter_one h2 hk' hp fun j hj => hq j (.tail _ hj)
      have hak : a ≠ k := fun e => h1 (e ▸ hk')
      have qa := hq a (.head _)
      simp only [hak, ne_eq, not_false_eq_true, decide_true, Bool.and_true] at qa
      simp only [List.filter_cons, qa]
      cases p a <;> simp [ih]
theorem cntP_zero {e : Int → Int → Bool} {P : Int → Int → Bool} {x : Int} : cntP e P x = 0 ↔ ∀ j ∈ r5, e j x = true → P j x = true := by
  unfold cntP
  have : (((r5.filter fun j => e j x && !P j x).length : Int) = 0) ↔ (r5.filter fun j => e j x && !P j x) = [] := by
    rw [← List.length_eq_zero_iff]; omega
  rw [this, List.filter_eq_nil_iff]
  simp only [Bool.and_eq_true, Bool.not_eq_true', not_and, Bool.not_eq_false]
theorem cntP_congr {e : Int → Int → Bool} {P P' : Int → Int → Bool} {x : Int} (h : ∀ j ∈ r5, e j x = true → P j x = P' j x) : cntP e P x = cntP e P' x := by
  unfold cntP
  congr 2
  refine List.filter_congr fun j hj => ?_
  cases q : e j x with
  | false => rfl
  | true => rw [h j hj q]

/-- the table while the sites of a round are reported done -/
structure KS (e : Int → Int → Bool) (t : Nat) (D R : Int → Bool) (P : Int → Int → Bool) (st : LN × List Int) : Prop where
  tab : TInv e st.1 fun x => if D x then -2 else if R x then -1 else cntP e P x
  nod : st.2.Nodup
  rdy : ∀ x, x ∈ st.2 ↔ x ∈ r5 ∧ Dset e (t + 1) x = false ∧ cntP e P x = 0
theorem TInv.map {e : Int → Int → Bool} {L L' : LN} {v v' : Int → Int} (h : TInv e L v) {k : Int} {f : Int → Int} (hL : ∀ x, getN x L' = (getN x L).map fun q => if x = k then (f q.1, q.2) else q) (hv : ∀ x ∈ r5, v' x = if x = k then f (v x) else v x) : TInv e L' v' :=
  ⟨fun x hx => by
    rw [hL, h.get x hx, hv x hx]
    simp only [Option.map_some]
    split <;> rfl, fun x hx => by rw [hL, h.out x hx]; rfl⟩

theorem Dset_edge {e : Int → Int → Bool} {t : Nat} {k s : Int} (hk : k ∈ r5) (hkd : Dset e t k = false) (h : e k s = true) : Dset e (t + 1) s = false := by
  cases q : Dset e (t + 1) s with
  | false => rfl
  | true => have := Dset_succ.mp q k hk h; rw [hkd] at this; cases this

theorem KS.steps {e : Int → Int → Bool} {t : Nat} {D R : Int → Bool} {k : Int} (hk : k ∈ r5) (hkd : Dset e t k = false) (hR : ∀ x, R x = true → Dset e (t + 1) x = true) (hD : ∀ x, D x = true → Dset e (t + 1) x = true) :
    ∀ (ss : List Int) (P : Int → Int → Bool) (st : LN × List Int), ss.Nodup → (∀ s ∈ ss, s ∈ r5 ∧ e k s = true ∧ P k s = false) → KS e t D R P st →
      KS e t D R (fun j x => P j x || (decide (j = k) && decide (x ∈ ss))) (ss.foldl stepSucc st)
  | [], P, st, _, _, h => by simpa using h
  | s :: ss, P, st, hn, hs, h => by
    obtain ⟨h1, h2⟩ := List.nodup_cons.mp hn
    obtain ⟨hs5, hes, hPs⟩ := hs s (.head _)
    have hds := Dset_edge hk hkd hes
    have hDs : D s = false := by
      cases q : D s with
      | false => rfl
      | true => rw [hD s q] at hds; cases hds
    have hRs : R s = false := by
      cases q : R s with
      | false => rfl
      | true => rw [hR s q] at hds; cases hds
    let P1 : Int → Int → Bool := fun j x => P j x || (decide (j = k) && decide (x = s))
    have hcs : cntP e P s = cntP e P1 s + 1 := by
      unfold cntP
      have := filter_one (p := fun j => e j s && !P j s) (q := fun j => e j s && !P1 j s) (k := k) (by decide : r5.Nodup) hk (by simp [hes, hPs]) fun j hj => by
        by_cases q : j = k <;> simp [P1, q]
      omega
    have hco : ∀ x, x ≠ s → cntP e P1 x = cntP e P x := fun x hx => cntP_congr fun j hj _ => by simp [P1, hx]
    have hstep : KS e t D R P1 (stepSucc st s) := by
      have tab : TInv e (addNp s (-1) st.1) fun x => if D x then -2 else if R x then -1 else cntP e P1 x :=
        h.tab.map (k := s) (f := fun c => c + -1) (fun x => getN_addNp x s (-1) st.1) fun x hx => by
          by_cases q : x = s
          · subst q; simp only [hDs, hRs, Bool.false_eq_true, if_false, if_true]; omega
          · simp only [q, if_false, hco x q]
      refine ⟨tab, ?_, fun x => ?_⟩
      · show (if npOf s (addNp s (-1) st.1) = some 0 then st.2 ++ [s] else st.2).Nodup
        split
        · rw [List.nodup_append]
          refine ⟨h.nod, by simp, fun a ha b hb => ?_⟩
          simp only [List.mem_singleton] at hb
          subst hb
          intro q
          subst q
          have := ((h.rdy a).mp ha).2.2
          have h0 : 0 ≤ cntP e P1 a := by unfold cntP; omega
          omega
        · exact h.nod
      · show x ∈ (if npOf s (addNp s (-1) st.1) = some 0 then st.2 ++ [s] else st.2) ↔ _
        rw [tab.np hs5]
        simp only [hDs, hRs, Bool.false_eq_true, if_false, Option.some.injEq]
        have hr := h.rdy x
        by_cases q : x = s
        · subst q
          have hnot : x ∉ st.2 := fun hin => by
            have := (hr.mp hin).2.2
            have h0 : 0 ≤ cntP e P1 x := by unfold cntP; omega
            omega
          split
          · rename_i h0
            exact ⟨fun _ => ⟨hs5, hds, h0⟩, fun _ => by simp⟩
          · rename_i h0
            exact ⟨fun hin => absurd hin hnot, fun hh => absurd hh.2.2 h0⟩
        · rw [hco x q, ← hr]
          split
          · simp [q]
          · exact Iff.rfl
    have := KS.steps hk hkd hR hD ss P1 (stepSucc st s) h2 (fun u hu => by
      obtain ⟨a, b, c⟩ := hs u (.tail _ hu)
      have : u ≠ s := fun q => h1 (q ▸ hu)
      exact ⟨a, b, by simp [P1, c, this]⟩) hstep
    rw [List.foldl_cons]
    have hP : (fun j x => P1 j x || (decide (j = k) && decide (x ∈ ss))) = fun j x => P j x || (decide (j = k) && decide (x ∈ s :: ss)) := by
      funext j x
      simp only [P1, List.mem_cons]
      by_cases a : j = k <;> by_cases b : x = s <;> by_cases c : x ∈ ss <;> simp [a, b, c]
    rw [← hP]; exact this

theorem KS.congr {e : Int → Int → Bool} {t : Nat} {D D' R R' : Int → Bool} {P P' : Int → Int → Bool} {st : LN × List Int} (h : KS e t D R P st) (hD : ∀ x ∈ r5, D x = D' x) (hR : ∀ x ∈ r5, D x = false → R x = R' x) (hP : ∀ j ∈ r5, ∀ x ∈ r5, e j x = true → P j x = P' j x) : KS e t D' R' P' st :=
  ⟨⟨fun x hx => by
    rw [h.tab.get x hx, ← hD x hx, cntP_congr fun j hj q => hP j hj x hx q]
    cases q : D x with
    | true => rfl
    | false => rw [hR x hx q], h.tab.out⟩, h.nod, fun x => by
    rw [h.rdy x]
    refine and_congr_right fun hx => ?_
    rw [cntP_congr fun j hj q => hP j hj x hx q]⟩

theorem KS.one {e : Int → Int → Bool} {t : Nat} {D R : Int → Bool} {P : Int → Int → Bool} {st : LN × List Int} {k : Int} (h : KS e t D R P st) (hk : k ∈ r5) (hkd : Dset e t k = false) (hk1 : Dset e (t + 1) k = true) (hR : ∀ x, R x = true → Dset e (t + 1) x = true) (hD : ∀ x, D x = true → Dset e (t + 1) x = true)
    (hPk : ∀ x, P k x = false) : KS e t (fun x => D x || decide (x = k)) R (fun j x => P j x || decide (j = k)) (doneOne st k) := by
  have h0 : KS e t (fun x => D x || decide (x = k)) R P (setNpL k (-2) st.1, st.2) :=
    ⟨h.tab.map (k := k) (f := fun _ => -2) (fun x => getN_setNp x k (-2) st.1) fun x hx => by
      by_cases q : x = k <;> simp [q], h.nod, h.rdy⟩
  have hs : succOf k st.1 = r5.filter (e k) := by rw [h.tab.succ, if_pos hk]
  unfold doneOne
  rw [hs]
  have := KS.steps hk hkd hR (fun x hx => by
    simp only [Bool.or_eq_true, decide_eq_true_eq] at hx
    rcases hx with hx | rfl
    · exact hD x hx
    · exact hk1) (r5.filter (e k)) P _ (List.Nodup.sublist List.filter_sublist (by decide)) (fun s hs => ⟨(List.mem_filter.mp hs).1, (List.mem_filter.mp hs).2, hPk s⟩) h0
  refine this.congr (fun _ _ => rfl) (fun _ _ _ => rfl) fun j hj x hx q => ?_
  by_cases a : j = k
  · subst a; simp [hx, q]
  · simp [a]

/-- all the sites of a round -/
theorem KS.all {e : Int → Int → Bool} {t : Nat} {ns : List Int} (hns : ns.Nodup) (hm : ∀ x, x ∈ ns ↔ x ∈ r5 ∧ Dset e (t + 1) x = true ∧ Dset e t x = false) :
    ∀ (suf pre : List Int) (st : LN × List Int), pre ++ suf = ns → KS e t (fun x => Dset e t x || decide (x ∈ pre)) (fun x => decide (x ∈ ns)) (fun j _ => Dset e t j || decide (j ∈ pre)) st →
      DonePre suf st ∧ KS e t (fun x => Dset e t x || decide (x ∈ ns)) (fun x => decide (x ∈ ns)) (fun j _ => Dset e t j || decide (j ∈ ns)) (doneF suf st)
  | [], pre, st, e1, h => by
    rw [List.append_nil] at e1; subst e1
    exact ⟨trivial, h⟩
  | k :: suf, pre, st, e1, h => by
    have hkn : k ∈ ns := by rw [← e1]; simp
    obtain ⟨hk5, hk1, hkd⟩ := (hm k).mp hkn
    have hkp : k ∉ pre := fun q => by
      rw [← e1, List.nodup_append] at hns
      exact hns.2.2 k q k (by simp) rfl
    have hpn : ∀ x ∈ pre, x ∈ ns := fun x hx => by rw [← e1]; simp [hx]
    have h1 := h.one hk5 hkd hk1 (fun x hx => ((hm x).mp (by simpa using hx)).2.1) (fun x hx => by
      simp only [Bool.or_eq_true, decide_eq_true_eq] at hx
      rcases hx with hx | hx
      · exact Dset_mono hx
      · exact ((hm x).mp (hpn x hx)).2.1) (fun x => by simp [hkd, hkp])
    have h2 : KS e t (fun x => Dset e t x || decide (x ∈ pre ++ [k])) (fun x => decide (x ∈ ns)) (fun j _ => Dset e t j || decide (j ∈ pre ++ [k])) (doneOne st k) :=
      h1.congr (fun x _ => by by_cases a : x ∈ pre <;> by_cases b : x = k <;> simp [a, b]) (fun _ _ _ => rfl) (fun j _ x _ _ => by by_cases a : j ∈ pre <;> by_cases b : j = k <;> simp [a, b])
    obtain ⟨a, b⟩ := KS.all hns hm suf (pre ++ [k]) (doneOne st k) (by simp [e1]) h2
    refine ⟨⟨?_, a⟩, b⟩
    rw [h.tab.np hk5]
    simp [hkd, hkp, hkn]

/-- between two rounds -/
structure KI (e : Int → Int → Bool) (t : Nat) (L : LN) (ns : List Int) : Prop where
  tab : TInv e L fun x => if Dset e t x then -2 else cntP e (fun j _ => Dset e t j) x
  nod : ns.Nodup
  rdy : ∀ x, x ∈ ns ↔ x ∈ r5 ∧ Dset e (t + 1) x = true ∧ Dset e t x = false
theorem outF1_get : ∀ (ns : List Int) (L : LN) (x : Int), getN x (outF1 ns L) = (getN x L).map fun q => if x ∈ ns then (-1, q.2) else q
  | [], L, x => by simp [outF1]
  | k :: ns, L, x => by
    show getN x (outF1 ns (setNpL k (-1) L)) = _
    rw [outF1_get ns, getN_setNp, Option.map_map]
    congr 1
    funext q
    simp only [Function.comp_apply, List.mem_cons]
    by_cases a : x ∈ ns <;> by_cases b : x = k <;> simp [a, b]
theorem KI.next {e : Int → Int → Bool} {t : Nat} {L : LN} {ns : List Int} (h : KI e t L ns) : DonePre ns (outF1 ns L, []) ∧ KI e (t + 1) (doneF ns (outF1 ns L, [])).1 (doneF ns (outF1 ns L, [])).2 := by
  have h0 : KS e t (fun x => Dset e t x || decide (x ∈ ([] : List Int))) (fun x => decide (x ∈ ns)) (fun j _ => Dset e t j || decide (j ∈ ([] : List Int))) (outF1 ns L, []) := by
    refine ⟨⟨fun x hx => ?_, fun x hx => by rw [outF1_get, h.tab.out x hx]; rfl⟩, List.nodup_nil, fun x => ?_⟩
    · rw [outF1_get, h.tab.get x hx]
      simp only [Option.map_some, List.not_mem_nil, decide_false, Bool.or_false]
      by_cases a : x ∈ ns
      · have := ((h.rdy x).mp a).2.2; simp [a, this]
      · simp [a]
    · simp only [List.not_mem_nil, decide_false, Bool.or_false, false_iff]
      rintro ⟨h1, h2, h3⟩
      have : Dset e (t + 1) x = true := Dset_succ.mpr fun j hj q => cntP_zero.mp h3 j hj q
      rw [h2] at this; cases this
  obtain ⟨a, b⟩ := KS.all h.nod h.rdy ns [] (outF1 ns L, []) rfl h0
  have hD : ∀ x ∈ r5, (Dset e t x || decide (x ∈ ns)) = Dset e (t + 1) x := fun x hx => by
    rw [Bool.eq_iff_iff, Bool.or_eq_true, decide_eq_true_eq, h.rdy x]
    constructor
    · rintro (q | q)
      · exact Dset_mono q
      · exact q.2.1
    · intro q
      cases d : Dset e t x with
      | true => exact .inl rfl
      | false => exact .inr ⟨hx, q, rfl⟩
  have b' := b.congr (D' := Dset e (t + 1)) (R' := fun _ => false) (P' := fun j _ => Dset e (t + 1) j) hD (fun x hx q => by
    rw [hD x hx] at q
    have : x ∉ ns := fun m => by have := ((h.rdy x).mp m).2.1; rw [q] at this; cases this
    simp [this]) (fun j hj x hx _ => hD j hj)
  refine ⟨a, ⟨by simpa using b'.tab, b'.nod, fun x => ?_⟩⟩
  rw [b'.rdy x]
  refine and_congr_right fun hx => ?_
  rw [cntP_zero, ← Dset_succ, and_comm]
theorem KI.zero {e : Int → Int → Bool} {L : LN} (h : TInv e L fun x => ((psOf e x).length : Int)) (hn : (L.map (·.1)).Nodup) : KI e 0 L ((L.filter fun t => t.2.1 == 0).map (·.1)) := by
  have hc : ∀ x, ((psOf e x).length : Int) = cntP e (fun j _ => Dset e 0 j) x := fun x => by
    unfold psOf cntP Dset; simp
  refine ⟨⟨fun x hx => ?_, h.out⟩, List.Nodup.sublist (List.Sublist.map _ List.filter_sublist) hn, fun x => ?_⟩
  · rw [h.get x hx]; simp only [Dset, Bool.false_eq_true, if_false, hc]
  · rw [List.mem_map]
    constructor
    · rintro ⟨u, hu, rfl⟩
      obtain ⟨h1, h2⟩ := List.mem_filter.mp hu
      obtain ⟨_, b2, b3⟩ := h.bnd hn h1
      refine ⟨b2, ?_, rfl⟩
      have : u.2.1 = 0 := by simpa using h2
      rw [b3, hc, cntP_zero] at this
      exact Dset_succ.mpr this
    · rintro ⟨h1, h2, _⟩
      obtain ⟨u, hu, rfl⟩ := List.mem_map.mp (h.keys.mpr h1)
      obtain ⟨_, b2, b3⟩ := h.bnd hn hu
      refine ⟨u, List.mem_filter.mpr ⟨hu, ?_⟩, rfl⟩
      have : u.2.1 = 0 := by rw [b3, hc]; exact cntP_zero.mpr (Dset_succ.mp h2)
      simp [this]
end Mine
end

section
open PySem PySem.W PyProof.Rows PySem.Spec PySem.Calls
set_option Elab.async false
set_option maxRecDepth 100000
set_option linter.unusedVariables false
namespace Mine
/-- a list of sites in order is told by what is in it -/
theorem sorted_sub : ∀ (l E : List Int), E.Pairwise (· < ·) → l.Pairwise (· ≤ ·) → l.Nodup → ∀ (p : Int → Bool), (∀ x, x ∈ l ↔ x ∈ E ∧ p x = true) → l = E.filter p
  | [], E, hE, _, _, p, h => by
    symm
    rw [List.filter_eq_nil_iff]
    intro x hx hp
    have := (h x).mpr ⟨hx, hp⟩; cases this
  | a :: l, [], hE, _, _, p, h => by
    have := (h a).mp (.head _); cases this.1
  | a :: l, b :: E, hE, hs, hn, p, h => by
    obtain ⟨e1, e2⟩ := List.pairwise_cons.mp hE
    obtain ⟨s1, s2⟩ := List.pairwise_cons.mp hs
    obtain ⟨n1, n2⟩ := List.nodup_cons.mp hn
    rw [List.filter_cons]
    cases hp : p b with
    | true =>
      have hb : b ∈ a :: l := (h b).mpr ⟨.head _, hp⟩
      have hab : a = b := by
        obtain ⟨ha1, ha2⟩ := (h a).mp (.head _)
        rcases List.mem_cons.mp ha1 with q | q
        · exact q
        · have h1 := e1 a q
          rcases List.mem_cons.mp hb with q' | q'
          · exact q'.symm
          · have := s1 b q'; omega
      subst hab
      rw [if_pos rfl]
      congr 1
      refine sorted_sub l E e2 s2 n2 p fun x => ?_
      constructor
      · intro hx
        obtain ⟨q1, q2⟩ := (h x).mp (.tail _ hx)
        rcases List.mem_cons.mp q1 with q | q
        · exact absurd hx (q ▸ n1)
        · exact ⟨q, q2⟩
      · rintro ⟨q1, q2⟩
        rcases List.mem_cons.mp ((h x).mpr ⟨.tail _ q1, q2⟩) with q | q
        · have := e1 x q1; omega
        · exact q
    | false =>
      simp only [Bool.false_eq_true, if_false]
      refine sorted_sub (a :: l) E e2 hs hn p fun x => ?_
      rw [h x]
      constructor
      · rintro ⟨q1, q2⟩
        rcases List.mem_cons.mp q1 with q | q
        · subst q; rw [hp] at q2; cases q2
        · exact ⟨q, q2⟩
      · rintro ⟨q1, q2⟩; exact ⟨.tail _ q1, q2⟩
theorem sorted_r5 {ns ns' : List Int} {p : Int → Bool} (hp : ns'.Perm ns) (hs : ns'.Pairwise (· ≤ ·)) (hn : ns.Nodup) (hm : ∀ x, x ∈ ns ↔ x ∈ r5 ∧ p x = true) : ns' = r5.filter p :=
  sorted_sub ns' r5 r5_lt hs (hp.nodup_iff.mpr hn) p fun x => by rw [hp.mem_iff]; exact hm x

/-! the rounds are as asked -/
theorem lev_mem {e : Int → Int → Bool} {t : Nat} {x : Int} : x ∈ lev e t ↔ x ∈ r5 ∧ Dset e (t + 1) x = true ∧ Dset e t x = false := by
  unfold lev; rw [List.mem_filter]; simp
theorem Dset_stable {e : Int → Int → Bool} : ∀ x ∈ r5, Dset e 6 x = Dset e 5 x := stable5 (Dset e) (fun i x _ q => Dset_mono q) fun i hi x hx => by
  rw [Bool.eq_iff_iff, Dset_succ, Dset_succ]
  exact ⟨fun h j hj q => by rw [← hi j hj]; exact h j hj q, fun h j hj q => by rw [hi j hj]; exact h j hj q⟩
theorem lev_five (e : Int → Int → Bool) : lev e 5 = [] := by
  cases q : lev e 5 with
  | nil => rfl
  | cons a l =>
    obtain ⟨h1, h2, h3⟩ := lev_mem.mp (show a ∈ lev e 5 by rw [q]; exact .head _)
    rw [Dset_stable a h1, h3] at h2; cases h2
theorem lev_still {e : Int → Int → Bool} {t : Nat} (h : lev e t = []) : ∀ u, t ≤ u → (∀ x ∈ r5, Dset e (u + 1) x = Dset e u x) := by
  intro u hu
  induction hu with
  | refl =>
    intro x hx
    cases q : Dset e t x with
    | true => exact Dset_mono q
    | false =>
      cases q' : Dset e (t + 1) x with
      | false => rfl
      | true => have : x ∈ lev e t := lev_mem.mpr ⟨hx, q', q⟩; rw [h] at this; cases this
  | step _ ih =>
    intro x hx
    rw [Bool.eq_iff_iff, Dset_succ, Dset_succ]
    exact ⟨fun h j hj q => by rw [← ih j hj]; exact h j hj q, fun h j hj q => by rw [ih j hj]; exact h j hj q⟩
theorem lev_nil {e : Int → Int → Bool} {t u : Nat} (h : lev e t = []) (hu : t ≤ u) : lev e u = [] := by
  cases q : lev e u with
  | nil => rfl
  | cons a l =>
    obtain ⟨h1, h2, h3⟩ := lev_mem.mp (show a ∈ lev e u by rw [q]; exact .head _)
    rw [lev_still h u hu a h1, h3] at h2; cases h2
theorem lev_lt {e : Int → Int → Bool} {t : Nat} (h : lev e t ≠ []) : t < 5 := by
  rcases Nat.lt_or_ge t 5 with q | q
  · exact q
  · exact absurd (lev_nil (lev_five e) q) h
theorem rounds_end {e : Int → Int → Bool} {t : Nat} (hlt : ∀ i < t, lev e i ≠ []) (h : lev e t = []) : (List.range t).map (lev e) = roundsF (adjOf e) (ringsF (adjOf e)) := by
  have ht : t ≤ 5 := by
    cases t with
    | zero => (exact Nat.zero_le _)
    | succ t => have := lev_lt (hlt t (Nat.lt_succ_self _)); (with_reducible exact Nat.succ_le_of_lt (by assumption))
  rw [rounds_lev]
  obtain ⟨d, hd⟩ := Nat.exists_eq_add_of_le ht
  rw [hd, List.range_add, List.map_append, List.filter_append]
  have h1 : ((List.range t).map (lev e)).filter (fun one => !(one == [])) = (List.range t).map (lev e) := by
    rw [List.filter_eq_self]
    intro a ha
    obtain ⟨i, hi, rfl⟩ := List.mem_map.mp ha
    have := hlt i (List.mem_range.mp hi)
    simpa using this
  have h2 : (((List.range d).map fun x => t + x).map (lev e)).filter (fun one => !(one == [])) = [] := by
    rw [List.filter_eq_nil_iff]
    intro a ha
    rw [List.map_map] at ha
    obtain ⟨i, _, rfl⟩ := List.mem_map.mp ha
    simp [lev_nil h (Nat.le_add_right t i)]
  rw [h1, h2, List.append_nil]

/-! settled sets -/
theorem kern_miss {e : Int → Int → Bool} {S : List Int} (hS : S ∈ subs) : (missF (adjOf e) S == S) = kern e S := by
  have h5 := subs_ok S hS
  obtain ⟨c, _, hc⟩ := List.mem_map.mp hS
  have hSf : S = r5.filter fun k => S.contains k := by
    rw [← hc]
    unfold someF
    refine List.filter_congr fun k hk => ?_
    rw [Bool.eq_iff_iff, List.contains_iff_mem, List.mem_filter]; simp [hk]
  have hm : missF (adjOf e) S = r5.filter fun k => S.all fun j => !e j k := by
    rw [missF_eq]
    refine List.filter_congr fun k hk => ?_
    rw [Bool.eq_iff_iff, beq_iff_eq, List.length_eq_zero_iff, List.filter_eq_nil_iff, List.all_eq_true]
    constructor
    · intro h j hj
      have := h j hj
      rw [adj_has e (h5 j hj) hk] at this
      simpa using this
    · intro h j hj
      rw [adj_has e (h5 j hj) hk]
      simpa using h j hj
  have hk : kern e S = true ↔ ∀ k ∈ r5, (S.all fun j => !e j k) = S.contains k := by
    unfold kern
    rw [List.all_eq_true]
    refine ⟨fun h k hk => ?_, fun h k hk => ?_⟩
    · have := h k hk
      split at this
      · rename_i hc; rw [hc, this]
      · rename_i hc
        have hc' : S.contains k = false := by simpa using hc
        rw [hc']
        obtain ⟨j, hj, q⟩ := List.any_eq_true.mp this
        rw [List.all_eq_false]
        exact ⟨j, hj, by simp [q]⟩
    · have := h k hk
      split
      · rename_i hc; rw [hc] at this; exact this
      · rename_i hc
        have hc' : S.contains k = false := by simpa using hc
        rw [hc', List.all_eq_false] at this
        obtain ⟨j, hj, q⟩ := this
        rw [List.any_eq_true]
        exact ⟨j, hj, by simpa using q⟩
  rw [Bool.eq_iff_iff, beq_iff_eq, hk]
  constructor
  · intro h k hk
    have hmem : k ∈ missF (adjOf e) S ↔ k ∈ S := by rw [h]
    rw [hm, List.mem_filter] at hmem
    rw [Bool.eq_iff_iff, List.contains_iff_mem, ← hmem]
    simp [hk]
  · intro h
    rw [hm]
    conv => rhs; rw [hSf]
    exact List.filter_congr fun k hk => h k hk
theorem settled_mem {e : Int → Int → Bool} {S : List Int} : S ∈ settledF (adjOf e) ↔ S ∈ subs ∧ kern e S = true := by
  show S ∈ subs.filter _ ↔ _
  rw [List.mem_filter]
  refine and_congr_right fun h => ?_
  rw [kern_miss h]
theorem settled_none {e : Int → Int → Bool} (h : settledF (adjOf e) = []) : (ringsF (adjOf e)).filter (fun r => (r.length : Int).fmod 2 == 1) ≠ [] := by
  rcases Fact2 e with ⟨S, hS, q⟩ | ⟨r, hr, h1, q⟩
  · have := settled_mem.mpr ⟨hS, q⟩; rw [h] at this; cases this
  · refine List.ne_nil_of_mem (List.mem_filter.mpr ⟨(ringsF_mem e r).mpr ⟨hr, q⟩, ?_⟩)
    rw [beq_iff_eq, Int.fmod_eq_emod_of_nonneg _ (by decide)]; omega
theorem subs_nodup : subs.Nodup := by decide +kernel
theorem settled_two {e : Int → Int → Bool} (h : 1 < (settledF (adjOf e)).length) : (ringsF (adjOf e)).filter (fun r => (r.length : Int).fmod 2 == 0) ≠ [] := by
  have hn : (settledF (adjOf e)).Nodup := List.Nodup.sublist List.filter_sublist subs_nodup
  have hm := fun S => settled_mem (e := e) (S := S)
  cases q : settledF (adjOf e) with
  | nil => rw [q] at h; simp at h
  | cons S l =>
    cases l with
    | nil => rw [q] at h; simp at h
    | cons T l =>
      rw [q] at hn hm
      obtain ⟨hS, kS⟩ := (hm S).mp (.head _)
      obtain ⟨hT, kT⟩ := (hm T).mp (.tail _ (.head _))
      obtain ⟨i, hi⟩ := List.getElem?_of_mem hS
      obtain ⟨j, hj⟩ := List.getElem?_of_mem hT
      have hne : S ≠ T := fun q => by subst q; simp at hn
      have hij : i ≠ j := fun q => by subst q; rw [hi] at hj; cases hj; exact hne rfl
      have key : ∃ r ∈ allRings, r.length % 2 = 0 ∧ ring e r = true := by
        rcases Nat.lt_or_gt_of_ne hij with q | q
        · exact Fact3 e q hi hj kS kT
        · exact Fact3 e q hj hi kT kS
      obtain ⟨r, hr, h1, q⟩ := key
      refine List.ne_nil_of_mem (List.mem_filter.mpr ⟨(ringsF_mem e r).mpr ⟨hr, q⟩, ?_⟩)
      rw [beq_iff_eq, Int.fmod_eq_emod_of_nonneg _ (by decide)]; omega

/-! the standing sites -/
structure Stand (e : Int → Int → Bool) (done : Int → Bool) (standing : List Int) : Prop where
  nod : standing.Nodup
  sub : ∀ x ∈ standing, x ∈ r5 ∧ done x = true
  of : ∀ S, S ∈ subs → kern e S = true → ∀ x, x ∈ standing ↔ x ∈ S ∧ done x = true
theorem Stand.nil (e : Int → Int → Bool) : Stand e (fun _ => false) [] := ⟨List.nodup_nil, fun x h => (by cases h), fun S _ _ x => by simp⟩
theorem Stand.congr {e : Int → Int → Bool} {d d' : Int → Bool} {st : List Int} (h : Stand e d st) (hd : ∀ x ∈ r5, d x = d' x) : Stand e d' st :=
  ⟨h.nod, fun x hx => ⟨(h.sub x hx).1, by rw [← hd x (h.sub x hx).1]; exact (h.sub x hx).2⟩, fun S hS hk x => by
    rw [h.of S hS hk x]
    refine and_congr_right fun hx => ?_
    rw [hd x (subs_ok S hS x hx)]⟩
theorem kern_iff {e : Int → Int → Bool} {S : List Int} (h : kern e S = true) {k : Int} (hk : k ∈ r5) : k ∈ S ↔ ∀ j ∈ S, e j k = false := by
  unfold kern at h
  have := List.all_eq_true.mp h k hk
  split at this
  · rename_i hc
    refine ⟨fun _ j hj => by have := List.all_eq_true.mp this j hj; simpa using this, fun _ => by simpa using hc⟩
  · rename_i hc
    obtain ⟨j, hj, q⟩ := List.any_eq_true.mp this
    exact ⟨fun q' => absurd q' (by simpa using hc), fun h' => by rw [h' j hj] at q; cases q⟩
/-- one site more -/
theorem Stand.step {e : Int → Int → Bool} {d : Int → Bool} {st : List Int} {k : Int} (h : Stand e d st) (hk : k ∈ r5) (hkd : d k = false) (hp : ∀ j ∈ r5, e j k = true → d j = true) :
    Stand e (fun x => d x || decide (x = k)) (if st.filter (fun j => e j k) = [] then st ++ [k] else st) := by
  have hks : k ∉ st := fun q => by have := (h.sub k q).2; rw [hkd] at this; cases this
  refine ⟨?_, fun x hx => ?_, fun S hS hK x => ?_⟩
  · split
    · rw [List.nodup_append]
      exact ⟨h.nod, by simp, fun a ha b hb q => by simp at hb; subst hb; subst q; exact hks ha⟩
    · exact h.nod
  · split at hx
    · rcases List.mem_append.mp hx with q | q
      · exact ⟨(h.sub x q).1, by simp [(h.sub x q).2]⟩
      · simp at q; subst q; exact ⟨hk, by simp⟩
    · exact ⟨(h.sub x hx).1, by simp [(h.sub x hx).2]⟩
  · have ho := h.of S hS hK
    have hkS : k ∈ S ↔ st.filter (fun j => e j k) = [] := by
      rw [kern_iff hK hk, List.filter_eq_nil_iff]
      constructor
      · intro q j hj; rw [q j ((ho j).mp hj).1]; simp
      · intro q j hj
        cases hjk : e j k with
        | false => rfl
        | true => exact absurd hjk (q j ((ho j).mpr ⟨hj, hp j (subs_ok S hS j hj) hjk⟩))
    by_cases hx : x = k
    · subst hx
      split
      · rename_i q; simp [hkS.mpr q]
      · rename_i q
        exact ⟨fun hh => absurd hh hks, fun hh => absurd (hkS.mp hh.1) q⟩
    · have : (x ∈ if st.filter (fun j => e j k) = [] then st ++ [k] else st) ↔ x ∈ st := by split <;> simp [hx]
      rw [this, ho x]; simp [hx]
theorem stand_end {e : Int → Int → Bool} {d : Int → Bool} {st st' known S : List Int} (h : Stand e d st) (hS : S ∈ settledF (adjOf e)) (hkn : ∀ x ∈ r5, known.contains x = d x) (hp : st'.Perm st) (hs : st'.Pairwise (· ≤ ·)) : S.filter (fun k => known.contains k) = st' := by
  obtain ⟨hS1, hK⟩ := settled_mem.mp hS
  have h5 := subs_ok S hS1
  have e1 : st' = r5.filter fun x => S.contains x && d x := sorted_r5 hp hs h.nod fun x => by
    rw [h.of S hS1 hK x]
    simp only [Bool.and_eq_true, List.contains_iff_mem]
    exact ⟨fun q => ⟨h5 x q.1, q⟩, fun q => q.2⟩
  obtain ⟨c, _, hc⟩ := List.mem_map.mp hS1
  have hSf : S = r5.filter fun k => S.contains k := by
    rw [← hc]
    unfold someF
    refine List.filter_congr fun k hk => ?_
    rw [Bool.eq_iff_iff, List.contains_iff_mem, List.mem_filter]; simp [hk]
  rw [e1]
  conv => lhs; rw [hSf]
  rw [List.filter_filter]
  exact List.filter_congr fun k hk => by rw [hkn k hk, Bool.and_comm]
end Mine
end

section
open PySem PySem.W PyProof.Rows PySem.Spec PySem.Calls
set_option Elab.async false
set_option maxRecDepth 100000
set_option linter.unusedVariables false
namespace Mine
section
variable {prog : Program} {w : World} {A : Around} {E : Value → Shared → Prop} {s : Shared}
/-- what a list or a tuple holds, gathered -/
theorem collect_seq {T : String} {l : Addr} {o : Obj} {xs : Array Value} {n : Nat} {Q : List Value → Shared → Prop} (hT : T = "list" ∨ T = "tuple") (ho : s.heap.get? l = some o) (hc : o.cls = .type T) (hd : o.data = .seq xs n) (hsz : xs.size ≤ 1000)
    (h : ∀ h', (∀ b o, s.heap.get? b = some o → h'.get? b = some o) → h'.objs.size = s.heap.objs.size + 1 → Q xs.toList { s with heap := h' }) : wpAny (model prog w) A (collect (.ref l)) Q E s := by
  have big : (1000 : Nat) ≤ sizeLine := by decide
  have hnew : (s.heap.push (seqObj "list" #[] 0)).get? s.heap.objs.size = some (seqObj "list" #[] 0) := Heap.get?_push_size _ rfl
  have hol : (s.heap.push (seqObj "list" #[] 0)).get? l = some o := Heap.get?_push_of_some _ ho
  unfold collect
  refine wpAny_bind (wpAny_runValue (codeAny_builtin entry_proto_collect' ?_))
  show wpAny _ _ (do again (.builtin "list.__iadd__" ⟨[← newList [], .ref l], []⟩)) _ _ s
  refine wpAny_bind (wpAny_newList (wpAny_pure ⟨Code.quiet_builtin _ (by decide +kernel), codeAny_builtin entry_list_iadd' ?_⟩))
  show wpAny _ _ (Builtin.List.listExtendWith (.ref s.heap.objs.size) (.ref l) (.ref s.heap.objs.size)) _ _ { s with heap := s.heap.push (seqObj "list" #[] 0) }
  unfold Builtin.List.listExtendWith
  refine wpAny_bind (wpAny_typeOf (T := T) ⟨o, hol, hc⟩ ?_)
  have ht : (Builtin.List.listSameRef (.ref s.heap.objs.size) (.ref l) || Value.type T == Value.type "list" || Value.type T == Value.type "tuple") = true := by
    rcases hT with rfl | rfl <;> simp
  rw [if_pos ht]
  refine wpAny_bind (listItems_at hol hd (wpAny_bind (listItems_at hnew rfl ?_)))
  rw [if_neg (by simp)]
  refine wpAny_bind (listUpdate_at hnew rfl ?_ (Nat.zero_le _) (by show (#[] ++ xs).size ≤ sizeLine + 1; simp; (with_reducible exact Nat.le_trans (by assumption) (by decide))))
  have hgot := get?_update_seq hnew (fun x => x ++ xs)
  refine wpAny_pure ?_
  show wpAny (model prog w) A (do
      let o ← load s.heap.objs.size
      match o.data with
      | .seq xs _ => pure xs.toList
      | _ => unsupported "internal:collect") Q E { s with heap := (s.heap.push (seqObj "list" #[] 0)).update s.heap.objs.size (Obj.mapSeq (· ++ xs)) }
  refine wpAny_bind (wpAny_load hgot ?_)
  show wpAny _ _ (pure ((#[] : Array Value) ++ xs).toList) Q E _
  rw [show ((#[] : Array Value) ++ xs).toList = xs.toList by simp]
  refine wpAny_pure (h _ (fun b ob hb => ?_) (by rw [Heap.size_update, size_push']))
  rw [Heap.get?_update_other _ _ (Nat.ne_of_gt (Heap.lt_size hb))]
  exact Heap.get?_push_of_some _ hb
theorem sorted_seq {T : String} {l : Addr} {o : Obj} {xs : Array Value} {n : Nat} {ns : List Int} {Q : Value → Shared → Prop} (hT : T = "list" ∨ T = "tuple") (ho : s.heap.get? l = some o) (hc : o.cls = .type T) (hd : o.data = .seq xs n) (hI : IntsAre xs.toList ns) (h64 : xs.size < 64)
    (h : ∀ h' (out : Array Value) (ns' : List Int) m, (∀ b o, s.heap.get? b = some o → h'.get? b = some o) → h'.get? (s.heap.objs.size + 1) = some (seqObj "list" out m) → IntsAre out.toList ns' → ns'.Perm ns → ns'.Pairwise (· ≤ ·) → Q (.ref (s.heap.objs.size + 1)) { s with heap := h' }) :
    wpAny (model prog w) A (call (.builtin "sorted") [.ref l]) Q E s := by
  refine Calls.call_function_entry kind_sorted plain_sorted entry_sorted (args_sorted1 _) ?_
  unfold Builtin.«sorted»
  refine wpAny_bind (m := checkCount "sorted" 1 1 _) (wpAny_pure (wpAny_bind (collect_seq hT ho hc hd (by omega) fun h1 k1 k2 => wpAny_bind (wpAny_newList (hsz := by rw [Array.length_toList, sizeLine_eq]; omega) ?_))))
  have hL : (h1.push (seqObj "list" xs.toList.toArray 0)).get? (s.heap.objs.size + 1) = some (seqObj "list" xs.toList.toArray 0) := by rw [← k2]; exact Heap.get?_push_size _ rfl
  show wpAny _ _ _ _ _ { s with heap := h1.push (seqObj "list" xs.toList.toArray 0) }
  rw [show ({ s with heap := h1 } : Shared).heap.objs.size = s.heap.objs.size + 1 from k2]
  refine wpAny_bind (wpAny_holding (wpAny_call_entry slot_list_sort ⟨_, hL, rfl⟩ entry_list_sort (list_sort_tree hL hI (by simpa using h64) fun out ns' a1 a2 a3 => ⟨_, rfl, ?_⟩) (args_list_sort _)))
  obtain ⟨m, hm⟩ := sortedHeap_at (vs := xs.toList) (out := out) hL
  refine wpAny_pure ⟨_, rfl, h _ out ns' m (fun b ob hb => ?_) hm a1 a2 a3⟩
  have hlt := Heap.lt_size hb
  rw [sortedHeap_old (Nat.ne_of_lt (Nat.lt_succ_of_lt hlt)) (by rw [size_push', k2]; exact Nat.lt_succ_of_lt (Nat.lt_succ_of_lt hlt))]
  exact Heap.get?_push_of_some _ (k1 b ob hb)
end
section
variable {g : G} {A : Around} {n : En} {E : Exn} {σ : St} {Q : AV → St → Prop} {pos : Pos}
theorem ints_er : ∀ {vs : List Value} {ns : List Int}, IntsAre vs ns → vs.map er = ns.map .int
  | _, _, .nil => rfl
  | _, _, .cons _ _ q => by simp [ints_er q, er]
theorem Call.sorted {l : Addr} {ns : List Int} (hl : σ.H l = some (.list (ns.map .int)) ∨ σ.H l = some (.tup (ns.map .int))) (h64 : ns.length < 64) (h : ∀ (a : Addr) (ns' : List Int), σ.H a = none → ns'.Perm ns → ns'.Pairwise (· ≤ ·) → Q (.ref a) ⟨upd σ.H a (.list (ns'.map .int)), σ.loc⟩) :
    Call g A n E (.builtin "sorted") [.ref l] σ Q := fun cargs ha Z s r => by
  obtain ⟨c, rfl, e1⟩ := one_arg ha
  rw [er_ref e1]
  have key : ∃ (T : String) (o : Obj) (xs : Array Value) (m : Nat), (T = "list" ∨ T = "tuple") ∧ s.heap.get? l = some o ∧ o.cls = .type T ∧ o.data = .seq xs m ∧ xs.toList.map er = ns.map .int := by
    rcases hl with hl | hl
    · obtain ⟨i1, m1, h1, e1⟩ := r.listAt hl; exact ⟨_, _, _, _, .inl rfl, h1, rfl, rfl, e1⟩
    · obtain ⟨i1, m1, h1, e1⟩ := r.tupAt hl; exact ⟨_, _, _, _, .inr rfl, h1, rfl, rfl, e1⟩
  obtain ⟨T, o, xs, m, hT, ho, hc, hd, he⟩ := key
  have hsz : xs.size = ns.length := by have := congrArg List.length he; simpa using this
  refine sorted_seq hT ho hc hd (intsAre_of he) (by omega) fun h' out ns' m' k1 k2 a1 a2 a3 => ?_
  have hnew : s.heap.get? (s.heap.objs.size + 1) = none := Heap.get?_none_of_le (Nat.le_succ _)
  refine ⟨_, r.new (ao := .list (ns'.map .int)) (co := seqObj "list" out m') hnew ?_ k1 k2 ⟨out, m', rfl, ints_er a1⟩, h _ ns' (r.zfresh hnew).2.2 a2 a3⟩
  obtain ⟨og, hog⟩ := g.alive
  exact Nat.lt_succ_of_lt (Heap.lt_size (r.hr.stay _ _ hog))
theorem Call.extendTup {l b : Addr} {xs ys : List AV} (hl : σ.H l = some (.list xs)) (hb : σ.H b = some (.tup ys)) (hlen : xs.length + ys.length ≤ 1000000) (h : Q .none ⟨upd σ.H l (.list (xs ++ ys)), σ.loc⟩) : Call g A n E (.builtin "list.extend") [.ref l, .ref b] σ Q := fun cargs ha Z s r => by
    obtain ⟨c, d, rfl, hab⟩ := two_args ha
    rw [er_ref hab.1, er_ref hab.2]
    obtain ⟨i1, m1, h1, e1⟩ := r.listAt hl
    obtain ⟨i2, m2, h2, e2⟩ := r.tupAt hb
    have s1 := size_of_map e1
    have s2 := size_of_map e2
    have hz : i1.size + i2.size ≤ 1000000 := by rw [s1, s2]; exact hlen
    have big : (1000000 : Nat) ≤ sizeLine := by decide
    refine call_meets F.slot_list_extend ⟨_, h1, rfl⟩ F.entry_list_extend (F.args_list_extend_2 _ _) (AutoSeq1.list_extend_list_tuple_0 l i1 m1 b i2 m2 ?_ (by omega) (by (with_reducible exact Nat.le_trans (by assumption) (by decide)))) ⟨h1, h2, _, r.setList (t := s.toks) hl h1 (by simp [e1, e2]), h⟩
    unfold Builtin.List.listTooLong
    simp
    omega
theorem Cmp.neBool {a b : Bool} (h : Q (.bool (a != b)) σ) : Cmp g A n E .NotEq (.bool a) (.bool b) σ Q := fun ca cb e f Z s r => by
  rw [er_bool e, er_bool f]
  exact PyProof.Rows.ne_bool ⟨σ, r, h⟩
end
end Mine
end

section
open PySem PySem.W PyProof.Rows PySem.Spec PySem.Calls
set_option Elab.async false
set_option maxRecDepth 100000
set_option linter.unusedVariables false
namespace Mine
noncomputable abbrev lawEn (L fa : Addr) (cd : Value) : En := ⟨envOfC fdLaw.1.name fdLaw.1.scope L fa cd, cellNames fdLaw.1.scope, []⟩
noncomputable def gSum : Nat → Nat
  | 0 => 0
  | f + 1 => 1 + 5 * gSum f
theorem rings_len (e : Int → Int → Bool) : (ringsF (adjOf e)).length ≤ 100000 := by
  have h5 : ∀ ns ∈ adjOf e, ns.length ≤ 5 := fun ns hns => by
    obtain ⟨j, _, rfl⟩ := List.mem_map.mp hns; exact len_r5 _
  have key : ∀ (f : Nat) (R : List (List Int)), (ringsGo (adjOf e) f R).length ≤ R.length * gSum f := by
    intro f
    induction f with
    | zero => intro R; simp [ringsGo]
    | succ f ih =>
      intro R
      rw [ringsGo]
      split
      · simp
      · rw [List.length_append]
        have a := ih (growRows (adjOf e) R)
        have b : (ringsOf (adjOf e) R).length ≤ R.length := List.length_filter_le ..
        have c : (growRows (adjOf e) R).length ≤ 5 * R.length := flatMap_len _ 5 (growRow_len h5) R
        have d : (growRows (adjOf e) R).length * gSum f ≤ 5 * R.length * gSum f := Nat.mul_le_mul_right _ c
        have : R.length * gSum (f + 1) = R.length + 5 * R.length * gSum f := by
          show R.length * (1 + 5 * gSum f) = _
          rw [Nat.mul_add, Nat.mul_one, ← Nat.mul_assoc, Nat.mul_comm R.length 5]
        omega
  exact Nat.le_trans (key 6 [[0], [1], [2], [3], [4]]) (by decide)
theorem adjOf_len (e : Int → Int → Bool) : (adjOf e).length = 5 := rfl
theorem adjOf_rng (e : Int → Int → Bool) : ∀ ns ∈ adjOf e, ∀ k ∈ ns, 0 ≤ k ∧ k < 5 := fun ns hns k hk => by
  obtain ⟨j, _, rfl⟩ := List.mem_map.mp hns; exact sub_r5 hk
theorem adjOf_five (e : Int → Int → Bool) : ∀ ns ∈ adjOf e, ns.length ≤ 5 := fun ns hns => by
  obtain ⟨j, _, rfl⟩ := List.mem_map.mp hns; exact len_r5 _
theorem r5_of {k : Int} (h : 0 ≤ k ∧ k < 5) : k ∈ r5 := by simp only [r5, List.mem_cons, List.not_mem_nil, or_false]; (with_reducible exact five_of (by assumption))

/-! off the sorter's objects -/
theorem SAt.keepOff {H H' : AH} {S : SR} (h : SAt H S) (e : ∀ x ∈ S.addrs, H' x = H x) : SAt H' S := by
  have m : ∀ n ∈ S.nodes, n.b ∈ S.addrs ∧ n.dx ∈ S.addrs ∧ n.l ∈ S.addrs := fun n hn => NR.mem_addrs hn
  refine ⟨(e _ (by simp [SR.addrs])).trans h.inst, (e _ (by simp [SR.addrs])).trans h.idict, (e _ (by simp [SR.addrs])).trans h.dict, fun n hn => ⟨(e _ (m n hn).1).trans (h.nodes n hn).inst, (e _ (m n hn).2.1).trans (h.nodes n hn).dict, (e _ (m n hn).2.2).trans (h.nodes n hn).list⟩, fun r ns q => (e r ?_).trans (h.ready r ns q), h.lists, h.keys⟩
  unfold SR.addrs; rw [q]; simp [rnL]
theorem SAt.updOff {H : AH} {S : SR} (h : SAt H S) {x : Addr} {o : AO} (hx : x ∉ S.addrs) : SAt (upd H x o) S := h.keepOff fun y hy => upd_ne (fun q => hx (q ▸ hy))
theorem IsI.sfr {X : List Addr} {H H' : AH} {S S' : SR} {v : AV} {ns : List Int} (h : IsI (X ++ S.addrs) H v ns) (f : SFr H S H' S') : IsI (X ++ S'.addrs) H' v ns := by
  obtain ⟨a, h1, h2, h3⟩ := h
  rw [List.mem_append, not_or] at h2
  refine ⟨a, h1, ?_, f.keep a _ h2.2 h3⟩
  rw [List.mem_append, not_or]
  exact ⟨h2.1, fun q => (f.fresh a q).elim h2.2 fun q => by rw [q] at h3; cases h3⟩
theorem IsLL.sfr {X : List Addr} {H H' : AH} {S S' : SR} {v : AV} {xss : List (List Int)} (h : IsLL (X ++ S.addrs) H v xss) (f : SFr H S H' S') : IsLL (X ++ S'.addrs) H' v xss := by
  obtain ⟨a, vs, h1, h2, h3, h4⟩ := h
  have h2' := h2
  rw [List.mem_append, not_or] at h2
  refine ⟨a, vs, h1, ?_, f.keep a _ h2.2 h3, h4.mono fun _ _ q => q.sfr f⟩
  rw [List.mem_append, not_or]
  exact ⟨h2.1, fun q => (f.fresh a q).elim h2.2 fun q => by rw [q] at h3; cases h3⟩
theorem off_sfr {H H' : AH} {S S' : SR} {x : Addr} {o : AO} (h : x ∉ S.addrs) (hx : H x = some o) (f : SFr H S H' S') : x ∉ S'.addrs ∧ H' x = some o :=
  ⟨fun q => (f.fresh x q).elim h fun q => (by rw [q] at hx; cases hx), f.keep x o h hx⟩
theorem IsLL.mono {M M' : List Addr} {H : AH} {v : AV} {ns : List (List Int)} (h : IsLL M H v ns) (hm : ∀ x ∈ M', x ∈ M) : IsLL M' H v ns := by
  obtain ⟨a, vs, h1, h2, h3, h4⟩ := h
  exact ⟨a, vs, h1, fun q => h2 (hm a q), h3, h4.mono fun _ _ q => q.mono hm⟩
end Mine
end

section
open PySem PySem.W PyProof.Rows PySem.Spec PySem.Calls
set_option Elab.async false
set_option maxRecDepth 100000
set_option linter.unusedVariables false
namespace Mine
section
variable {g : G} {A : Around} {L fa : Addr} {cd : Value}
theorem law_E (e : Int → Int → Bool) {σ : St} {vR vS : AV} (room : Room A 8) (fr : A.frames = some [(lawEn L fa cd).env])
    (l2 : σ.loc (Str.ofString "rings") = some vR) (l3 : σ.loc (Str.ofString "settled") = some vS)
    (hR : IsLL [] σ.H vR (ringsF (adjOf e))) (hS : IsLL [] σ.H vS (settledF (adjOf e))) :
    Exs g A (lawEn L fa cd) NE (lawBody.1.drop 18) σ fun f _ => f = .ret (.bool true) := by
  have hu := room.units
  obtain ⟨H, loc⟩ := σ
  dsimp only at l2 l3 hR hS
  have hslen : (settledF (adjOf e)).length ≤ 32 := by
    refine Nat.le_trans (List.length_filter_le ..) ?_
    rw [List.length_map, rngI_length]; decide
  obtain ⟨aS, svs, rfl, _, hs1, hs2⟩ := id hS
  obtain ⟨aR, rvs, rfl, _, hr1, hr2⟩ := id hR
  have hrl := rings_len e
  have hsl := hs2.length
  show Exs g A (lawEn L fa cd) NE (_ :: _) _ _
  walk_at "m1"
  walk_at "m1"
  walk_at "m1"
  refine Tst.compare (Ev.callB rfl rfl ?_)
  (repeat walk_at "m1")
  refine Ev.name l3 ?_
  (repeat walk_at "m1")
  refine Call.len hs1 (by (with_reducible exact le_of_eqn (by assumption) (Nat.le_trans (by assumption) (by decide)))) ?_
  (repeat walk_at "m1")
  refine ⟨_, rfl, ?_⟩
  rw [hsl]
  cases hc : decide ((1 : Int) < ((settledF (adjOf e)).length : Int)) with
  | false =>
    show Exs _ _ _ _ _ _ _
    (repeat walk_at "m1")
    rfl
  | true =>
    have h2 : 1 < (settledF (adjOf e)).length := by have := of_decide_eq_true hc; omega
    show Tst _ _ _ _ _ _ _
    walk_at "m1"
    refine Tst.compare (Ev.comp1 ?_ room.h)
    refine Comp1.filter (M := []) (IsI [] H) (fun r : List Int => (r.length : Int).fmod 2 == 0) (fun H y b => IsI [] H y b) (fun _ _ _ _ q k => k.ext q) ?_
    refine Ev.name l2 ⟨aR, _, rvs, ringsF (adjOf e), rfl, hr1, rfl, rfl, by (exact nm0), hr2, by (with_reducible exact Nat.le_trans (by assumption) (by decide)), ?_, ?_⟩
    · rintro L' cells i a row H' hi hb hrow hE
      have hr5 : row.length ≤ 5 := by
        have hm := (ringsF_mem e row).mp (List.mem_of_getElem? hb)
        have : ∀ r ∈ allRings, r.length ≤ 5 := by decide +kernel
        exact this row hm.1
      (repeat walk_at "m1")
      obtain ⟨c, rfl, _, hcl⟩ := hrow.ext hE
      refine Ev.callB rfl rfl ?_
      (repeat walk_at "m1")
      refine Call.len hcl (by (exact len_map_le (by with_reducible exact Nat.le_trans (by assumption) (by decide)))) ?_
      (repeat walk_at "m1")
      refine Bin.mod (by decide) ?_
      (repeat walk_at "m1")
      refine ⟨_, rfl, rfl, HExt.refl _ _, by simp, fun _ => ?_⟩
      (repeat walk_at "m1")
      exact ⟨rfl, HExt.refl _ _, ⟨c, rfl, by (exact nm0), hcl⟩⟩
    rintro ys H1 aC hE1 hys haC
    dsimp only at hE1 haC ⊢
    (repeat walk_at "m1")
    refine ⟨by (exact Nat.le_of_ble_eq_true rfl), fun eN heN => ?_⟩
    dsimp only at heN ⊢
    have x1 := HExt.new (M := []) (o := .list ys) haC
    have x2 := HExt.new (M := []) (o := .list []) heN
    have k1 : IsLL [] (upd (upd H1 aC (.list ys)) eN (.list [])) (.ref aC) ((ringsF (adjOf e)).filter fun r => (r.length : Int).fmod 2 == 0) :=
      ⟨aC, ys, rfl, by (exact nm0), x2 _ _ (by (exact nm0)) (upd_same ..), hys.mono fun _ _ q => (q.ext x1).ext x2⟩
    refine k1.eq (IsLL.nil (upd_same ..) (by (exact nm0))) (by (with_reducible exact units20 (by assumption))) ⟨_, rfl, ?_⟩
    have hne : ((ringsF (adjOf e)).filter (fun r => (r.length : Int).fmod 2 == 0) == []) = false := by
      rw [beq_eq_false_iff_ne]; exact settled_two h2
    rw [hne]
    show Exs _ _ _ _ _ _ _
    (repeat walk_at "m1")
    rfl

/-- the law's end -/
theorem law_D (e : Int → Int → Bool) {σ : St} {vA vR vQ vK vT : AV} {known standing : List Int} {d : Int → Bool} (room : Room A 8) (fr : A.frames = some [(lawEn L fa cd).env])
    (l1 : σ.loc (Str.ofString "arrows") = some vA) (l2 : σ.loc (Str.ofString "rings") = some vR) (l3 : σ.loc (Str.ofString "rounds") = some vQ) (l4 : σ.loc (Str.ofString "known") = some vK) (l5 : σ.loc (Str.ofString "standing") = some vT)
    (hA : IsLL [] σ.H vA (adjOf e)) (hR : IsLL [] σ.H vR (ringsF (adjOf e))) (hQ : IsLL [] σ.H vQ (roundsF (adjOf e) (ringsF (adjOf e)))) (hK : IsI [] σ.H vK known) (hT : IsI [] σ.H vT standing) (hx : NoEx σ.H)
    (hkn : ∀ x ∈ r5, known.contains x = d x) (hkl : known.length ≤ 1000) (hst : Stand e d standing) :
    Exs g A (lawEn L fa cd) NE (lawBody.1.drop 13) σ fun f _ => f = .ret (.bool true) := by
  have hu := room.units
  obtain ⟨H, loc⟩ := σ
  dsimp only at l1 l2 l3 l4 l5 hA hR hQ hK hT hx
  show Exs g A (lawEn L fa cd) NE (_ :: _) _ _
  walk_at "m1"
  walk_at "m1"
  refine Tst.compare (Ev.name l3 ?_)
  refine Ev.callDef rfl (fdRounds.2 _) (room.mono (by decide : 2 ≤ 8)) fr ?_
  (repeat walk_at "m1")
  refine Ev.name l1 ?_
  (repeat walk_at "m1")
  refine Ev.name l2 ?_
  (repeat walk_at "m1")
  refine ⟨_, rounds_ok g (adjOf e) _ (adjOf_len e) (rings_len e) H vA vR hA hR, ?_⟩
  rintro v H1 ⟨x1, h1⟩
  refine (hQ.ext x1).ne h1 (by (with_reducible exact units20 (by assumption))) ⟨_, rfl, ?_⟩
  have hb : (!(roundsF (adjOf e) (ringsF (adjOf e)) == roundsF (adjOf e) (ringsF (adjOf e)))) = false := by simp
  rw [hb]
  show Exs _ _ _ _ _ _ _
  (repeat walk_at "m1")
  refine Ev.forget ?_
  try dsimp only
  have y1 : HExt [] H (clean H1) := x1.exSame hx (ExSame.clean _)
  have nx := NoEx.clean H1
  generalize clean H1 = H2 at y1 nx ⊢
  refine Ev.callDef rfl (fdSettled.2 _) (room.mono (by decide : 4 ≤ 8)) fr ?_
  (repeat walk_at "m1")
  refine Ev.name l1 ?_
  (repeat walk_at "m1")
  refine ⟨_, settled_ok g (adjOf e) (adjOf_len e) H2 vA (hA.ext y1) nx, ?_⟩
  rintro v H3 ⟨x3, h3⟩
  have y3 := y1.trans x3
  obtain ⟨aS, svs, rfl, _, hs1, hs2⟩ := id h3
  have hslen : (settledF (adjOf e)).length ≤ 32 := by
    refine Nat.le_trans (List.length_filter_le ..) ?_
    rw [List.length_map, rngI_length]; decide
  (repeat walk_at "m1")
  refine Cmp.isNone rfl ⟨_, rfl, ?_⟩
  show Exs _ _ _ _ _ _ _
  (repeat walk_at "m1")
  refine Ex.for (Ev.name rfl ?_) room.h PassE.never
  refine ⟨aS, _, svs, rfl, hs1, rfl, rfl, fun i σ => C5 (σ.loc (Str.ofString "rings") = some vR) (σ.loc (Str.ofString "known") = some vK) (σ.loc (Str.ofString "standing") = some vT) (σ.loc (Str.ofString "settled") = some (.ref aS)) (HExt [] H3 σ.H), ?_, ?_, ?_, ?_⟩
  · exact ⟨l2, l4, l5, rfl, HExt.refl _ _⟩
  · rintro i σ ⟨_, _, _, _, h⟩
    exact h _ _ (by (exact nm0)) hs1
  · rintro i a ⟨Hi, li⟩ hi ⟨k2, k4, k5, k6, hE⟩
    dsimp only at k2 k4 k5 k6 hE
    obtain ⟨S, hS, hSi⟩ := hs2.get hi
    have hSm := List.mem_of_getElem? hS
    have yi := y3.trans hE
    have hSl : S.length ≤ 5 := by
      obtain ⟨c, _, hc⟩ := List.mem_map.mp (settled_mem.mp hSm).1
      rw [← hc]; exact len_r5 _
    have hTl : standing.length ≤ 5 := nodup_length_le standing r5 hst.nod fun x hx => (hst.sub x hx).1
    walk_at "m1"
    walk_at "m1"
    refine Tst.compare (Ev.comp1 ?_ room.h (by simp (decide := true) [compBound, upd, cloc, k4]))
    refine Comp1.ints (M := []) (fun k => known.contains k) (fun k => k) (Ev.name rfl ?_)
    obtain ⟨c, rfl, _, hc⟩ := hSi.ext hE
    refine ⟨c, _, S, rfl, hc, rfl, rfl, by (exact nm0), by (with_reducible exact Nat.le_trans (by assumption) (by decide)), ?_, ?_⟩
    · rintro L' cells k H' hk hE'
      (repeat walk_at "m1")
      refine Ev.name k4 ?_
      refine (hK.ext (yi.trans hE')).in_ ⟨_, rfl, rfl, HExt.refl _ _, rfl, fun _ => ?_⟩
      (repeat walk_at "m1")
      exact ⟨rfl, HExt.refl _ _, rfl⟩
    rintro H4 aC hE4 haC
    dsimp only at hE4 haC ⊢
    have x5 := HExt.new (M := []) (o := .list (((S.filter fun k => known.contains k).map fun k => k).map AV.int)) haC
    have i5 : IsI [] (upd H4 aC (.list (((S.filter fun k => known.contains k).map fun k => k).map AV.int))) (.ref aC) (S.filter fun k => known.contains k) := ⟨aC, rfl, by (exact nm0), by rw [upd_same]; simp⟩
    have y5 := (hE4).trans x5
    have z5 := yi.trans y5
    generalize upd H4 aC _ = H5 at i5 y5 z5 ⊢
    refine Ev.callB rfl rfl ?_
    (repeat walk_at "m1")
    refine Ev.name k5 ?_
    (repeat walk_at "m1")
    obtain ⟨aT, rfl, _, hT3⟩ := hT.ext z5
    refine Call.sorted (.inl hT3) (by (with_reducible exact Nat.lt_of_le_of_lt (by assumption) (by decide))) fun aQ st' haQ hp hs => ?_
    dsimp only at haQ ⊢
    have x6 := HExt.new (M := []) (o := .list (st'.map AV.int)) haQ
    refine (i5.ext x6).ne (ys := st') ⟨aQ, rfl, by (exact nm0), upd_same ..⟩ (by (with_reducible exact units20 (by assumption))) ⟨_, rfl, ?_⟩
    have := stand_end hst hSm hkn hp hs
    rw [this]
    have hb : (!(st' == st')) = false := by simp
    rw [hb]
    show Exs _ _ _ _ _ _ _
    (repeat walk_at "m1")
    exact ⟨k2, k4, k5, k6, hE.trans (y5.trans x6)⟩
  rintro ⟨H4, l4'⟩ ⟨k2, k4, k5, k6, hE⟩
  dsimp only at k2 k4 k5 k6 hE
  have hS4 := h3.ext hE
  have hR4 := hR.ext (y3.trans hE)
  obtain ⟨aS4, svs4, q4, _, hs41, hs42⟩ := id hS4
  cases q4
  obtain ⟨aR, rvs, rfl, _, hr1, hr2⟩ := id hR4
  have hrl := rings_len e
  show Exs g A (lawEn L fa cd) NE (_ :: _) _ _
  walk_at "m1"
  walk_at "m1"
  walk_at "m1"
  refine Tst.compare (Ev.name k6 ?_)
  (repeat walk_at "m1")
  refine ⟨by (exact Nat.le_of_ble_eq_true rfl), fun eN heN => ?_⟩
  dsimp only at heN ⊢
  have x1 := HExt.new (M := []) (o := .list []) heN
  refine (hS4.ext x1).eq (IsLL.nil (upd_same ..) (by (exact nm0))) (by (with_reducible exact units20 (by assumption))) ⟨_, rfl, ?_⟩
  have hS5 := hS4.ext x1
  have hR5 := hR4.ext x1
  have hr51 := x1 _ _ (by (exact nm0)) hr1
  have hr52 := hr2.mono fun _ _ q => q.ext x1
  generalize upd H4 eN (.list []) = H5 at hS5 hR5 hr51 hr52 ⊢
  cases hc : (settledF (adjOf e) == []) with
  | false =>
    show Exs _ _ _ _ _ _ _
    refine Exs.nil ?_
    exact law_E e (σ := ⟨H5, l4'⟩) room fr k2 k6 hR5 hS5
  | true =>
    have h0 : settledF (adjOf e) = [] := by simpa using hc
    show Tst _ _ _ _ _ _ _
    walk_at "m1"
    refine Tst.compare (Ev.comp1 ?_ room.h)
    refine Comp1.filter (M := []) (IsI [] H5) (fun r : List Int => (r.length : Int).fmod 2 == 1) (fun H y b => IsI [] H y b) (fun _ _ _ _ q k => k.ext q) ?_
    refine Ev.name k2 ⟨aR, _, rvs, ringsF (adjOf e), rfl, hr51, rfl, rfl, by (exact nm0), hr52, by (with_reducible exact Nat.le_trans (by assumption) (by decide)), ?_, ?_⟩
    · rintro L' cells i a row H' hi hb hrow hE
      have hr5 : row.length ≤ 5 := by
        have hm := (ringsF_mem e row).mp (List.mem_of_getElem? hb)
        have : ∀ r ∈ allRings, r.length ≤ 5 := by decide +kernel
        exact this row hm.1
      (repeat walk_at "m1")
      obtain ⟨c, rfl, _, hcl⟩ := hrow.ext hE
      refine Ev.callB rfl rfl ?_
      (repeat walk_at "m1")
      refine Call.len hcl (by (exact len_map_le (by with_reducible exact Nat.le_trans (by assumption) (by decide)))) ?_
      (repeat walk_at "m1")
      refine Bin.mod (by decide) ?_
      (repeat walk_at "m1")
      refine ⟨_, rfl, rfl, HExt.refl _ _, by simp, fun _ => ?_⟩
      (repeat walk_at "m1")
      exact ⟨rfl, HExt.refl _ _, ⟨c, rfl, by (exact nm0), hcl⟩⟩
    rintro ys H6 aC hE6 hys haC
    dsimp only at hE6 haC ⊢
    (repeat walk_at "m1")
    refine ⟨by (exact Nat.le_of_ble_eq_true rfl), fun e2 he2 => ?_⟩
    dsimp only at he2 ⊢
    have x6 := HExt.new (M := []) (o := .list ys) haC
    have x7 := HExt.new (M := []) (o := .list []) he2
    have k1 : IsLL [] (upd (upd H6 aC (.list ys)) e2 (.list [])) (.ref aC) ((ringsF (adjOf e)).filter fun r => (r.length : Int).fmod 2 == 1) :=
      ⟨aC, ys, rfl, by (exact nm0), x7 _ _ (by (exact nm0)) (upd_same ..), hys.mono fun _ _ q => (q.ext x6).ext x7⟩
    refine k1.eq (IsLL.nil (upd_same ..) (by (exact nm0))) (by (with_reducible exact units20 (by assumption))) ⟨_, rfl, ?_⟩
    have hne : ((ringsF (adjOf e)).filter (fun r => (r.length : Int).fmod 2 == 1) == []) = false := by
      rw [beq_eq_false_iff_ne]; exact settled_none h0
    rw [hne]
    show Exs _ _ _ _ _ _ _
    refine Exs.nil ?_
    exact law_E e (σ := ⟨upd (upd H6 aC (.list ys)) e2 (.list []), l4'⟩) room fr k2 k6 ((hR5.ext hE6).ext (x6.trans x7)) ((hS5.ext hE6).ext (x6.trans x7))
end
end Mine
end

section
open PySem PySem.W PyProof.Rows PySem.Spec PySem.Calls
set_option Elab.async false
set_option maxRecDepth 100000
set_option linter.unusedVariables false
namespace Mine
theorem SAt.hext {M : List Addr} {H H' : AH} {S : SR} (h : SAt H S) (e : HExt M H H') (hM : ∀ x ∈ M, x ∉ S.addrs) : SAt H' S := by
  have m : ∀ n ∈ S.nodes, n.b ∈ S.addrs ∧ n.dx ∈ S.addrs ∧ n.l ∈ S.addrs := fun n hn => NR.mem_addrs hn
  have k : ∀ x o, x ∈ S.addrs → H x = some o → H' x = some o := fun x o hx ho => e x o (fun q => hM x q hx) ho
  refine ⟨k _ _ (by simp [SR.addrs]) h.inst, k _ _ (by simp [SR.addrs]) h.idict, k _ _ (by simp [SR.addrs]) h.dict, fun n hn => ⟨k _ _ (m n hn).1 (h.nodes n hn).inst, k _ _ (m n hn).2.1 (h.nodes n hn).dict, k _ _ (m n hn).2.2 (h.nodes n hn).list⟩, fun r ns q => k r _ ?_ (h.ready r ns q), h.lists, h.keys⟩
  unfold SR.addrs; rw [q]; simp [rnL]

/-- what holds between two rounds -/
structure WS (e : Int → Int → Bool) (aR aK aT sa : Addr) (vA vR : AV) (t : Nat) (H : AH) (S : SR) (r : Addr) (ns : List Int) (vs : List AV) (kn st : List Int) : Prop where
  sat : SAt H S
  rn : S.rn = some (r, ns)
  eqa : S.a = sa
  pf : S.f = S.p
  ki : KI e t (lgc S.nodes) ns
  lv : ∀ i < t, lev e i ≠ []
  off : ∀ x ∈ [aR, aK, aT], x ∉ S.addrs
  hA : IsLL ([aR, aK, aT] ++ S.addrs) H vA (adjOf e)
  hR : IsLL ([aR, aK, aT] ++ S.addrs) H vR (ringsF (adjOf e))
  hQ : H aR = some (.list vs)
  hQ' : All2 (IsI ([aR, aK, aT] ++ S.addrs) H) vs ((List.range t).map (lev e))
  hK : H aK = some (.list (kn.map .int))
  hK' : ∀ x ∈ r5, kn.contains x = Dset e t x
  hKl : kn.length ≤ 5 * t
  hT : H aT = some (.list (st.map .int))
  hT' : Stand e (Dset e t) st
  ne : aR ≠ aK ∧ aR ≠ aT ∧ aK ≠ aT
structure WInv (e : Int → Int → Bool) (aR aK aT sa : Addr) (vA vR : AV) (t : Nat) (σ : St) : Prop where
  lS : σ.loc (Str.ofString "sorter") = some (.ref sa)
  lA : σ.loc (Str.ofString "arrows") = some vA
  lR : σ.loc (Str.ofString "rings") = some vR
  lQ : σ.loc (Str.ofString "rounds") = some (.ref aR)
  lK : σ.loc (Str.ofString "known") = some (.ref aK)
  lT : σ.loc (Str.ofString "standing") = some (.ref aT)
  ws : E6 fun S r ns vs kn st => WS e aR aK aT sa vA vR t σ.H S r ns vs kn st
theorem KI.lev {e : Int → Int → Bool} {t : Nat} {L : LN} {ns : List Int} (h : KI e t L ns) {x : Int} : x ∈ ns ↔ x ∈ lev e t := by rw [h.rdy, lev_mem]
theorem KI.nil {e : Int → Int → Bool} {t : Nat} {L : LN} {ns : List Int} (h : KI e t L ns) : ns = [] ↔ Mine.lev e t = [] := by
  constructor
  · rintro rfl
    cases q : Mine.lev e t with
    | nil => rfl
    | cons a l => have := h.lev.mpr (show a ∈ Mine.lev e t by rw [q]; exact .head _); cases this
  · intro q
    cases ns with
    | nil => rfl
    | cons a l => have := h.lev.mp (List.mem_cons_self (a := a) (l := l)); rw [q] at this; cases this
theorem KI.len {e : Int → Int → Bool} {t : Nat} {L : LN} {ns : List Int} (h : KI e t L ns) : ns.length ≤ 5 := nodup_length_le ns r5 h.nod fun x hx => ((h.rdy x).mp hx).1
theorem SAt.keysN {H : AH} {S : SR} (h : SAt H S) : ((lgc S.nodes).map (·.1)).Nodup := by rw [lgc_keys]; exact h.keys
theorem nodes_len {e : Int → Int → Bool} {H : AH} {S : SR} {v : Int → Int} (h : SAt H S) (T : TInv e (lgc S.nodes) v) : S.nodes.length ≤ 5 := by
  have := nodup_length_le ((lgc S.nodes).map (·.1)) r5 h.keysN fun x hx => T.keys.mp hx
  simpa [lgc, r5] using this
theorem tab_bnd {e : Int → Int → Bool} {L : LN} {v : Int → Int} (hn : (L.map (·.1)).Nodup) (T : TInv e L v) : SBnd 500 L := fun t ht => by
  rw [(T.bnd hn ht).1]; exact Nat.le_trans (len_r5 _) (by decide)
theorem tab_cl {e : Int → Int → Bool} {L : LN} {v : Int → Int} (hn : (L.map (·.1)).Nodup) (T : TInv e L v) : ∀ t ∈ L, ∀ s ∈ t.2.2, s ∈ L.map (·.1) := fun t ht s hs => by
  rw [(T.bnd hn ht).1] at hs; exact T.keys.mpr (List.mem_filter.mp hs).1
theorem TInv.outF1 {e : Int → Int → Bool} {L : LN} {v : Int → Int} (T : TInv e L v) (ns : List Int) : TInv e (Mine.outF1 ns L) fun x => if x ∈ ns then -1 else v x :=
  ⟨fun x hx => by rw [outF1_get, T.get x hx]; simp only [Option.map_some]; split <;> rfl, fun x hx => by rw [outF1_get, T.out x hx]; rfl⟩

section
variable {g : G} {A : Around} {L fa : Addr} {cd : Value}
/-- the rounds -/
theorem law_C (e : Int → Int → Bool) {σ : St} {sa : Addr} {vA vR : AV} {S : SR} {r : Addr} {ns : List Int} (room : Room A 8) (fr : A.frames = some [(lawEn L fa cd).env])
    (lS : σ.loc (Str.ofString "sorter") = some (.ref sa)) (lA : σ.loc (Str.ofString "arrows") = some vA) (lR : σ.loc (Str.ofString "rings") = some vR)
    (sat : SAt σ.H S) (rn : S.rn = some (r, ns)) (eqa : S.a = sa) (pf : S.f = S.p) (ki : KI e 0 (lgc S.nodes) ns) (hA : IsLL S.addrs σ.H vA (adjOf e)) (hR : IsLL S.addrs σ.H vR (ringsF (adjOf e))) :
    Exs g A (lawEn L fa cd) NE (lawBody.1.drop 9) σ fun f _ => f = .ret (.bool true) := by
  have hu := room.units
  obtain ⟨H, loc⟩ := σ
  dsimp only at lS lA lR sat hA hR
  show Exs g A (lawEn L fa cd) NE (_ :: _) _ _
  (repeat walk_at "m1")
  refine ⟨by (exact Nat.le_of_ble_eq_true rfl), fun aR haR => ?_⟩
  (repeat walk_at "m1")
  refine ⟨by (exact Nat.le_of_ble_eq_true rfl), fun aK haK => ?_⟩
  (repeat walk_at "m1")
  refine ⟨by (exact Nat.le_of_ble_eq_true rfl), fun aT haT => ?_⟩
  dsimp only at haR haK haT ⊢
  have nRK : aR ≠ aK := fun q => by rw [q] at haK; simp at haK
  have nRT : aR ≠ aT := fun q => by rw [← q, upd_ne nRK] at haT; simp at haT
  have nKT : aK ≠ aT := fun q => by rw [← q] at haT; simp at haT
  have kK : H aK = none := by rw [upd_ne (Ne.symm nRK)] at haK; exact haK
  have kT : H aT = none := by rw [upd_ne (Ne.symm nKT), upd_ne (Ne.symm nRT)] at haT; exact haT
  have x0 : HExt [] H (upd (upd (upd H aR (.list [])) aK (.list [])) aT (.list [])) := ((HExt.refl [] H).upd0 haR).upd0 kK |>.upd0 kT
  have q1 : upd (upd (upd H aR (.list [])) aK (.list [])) aT (.list []) aR = some (.list []) := by rw [upd_ne nRT, upd_ne nRK, upd_same]
  have q2 : upd (upd (upd H aR (.list [])) aK (.list [])) aT (.list []) aK = some (.list []) := by rw [upd_ne nKT, upd_same]
  have q3 : upd (upd (upd H aR (.list [])) aK (.list [])) aT (.list []) aT = some (.list []) := upd_same ..
  have offX : ∀ x ∈ [aR, aK, aT], x ∉ S.addrs := all3 (fun q => sat.alive q haR) (fun q => sat.alive q kK) (fun q => sat.alive q kT)
  have offM : ∀ {a : Addr} {o : AO}, a ∉ S.addrs → H a = some o → a ∉ [aR, aK, aT] ++ S.addrs := fun {a o} h1 h2 q => by
    rcases List.mem_append.mp q with q | q
    · rw [all3 (P := fun x => H x = none) haR kK kT a q] at h2; cases h2
    · exact h1 q
  have lift : ∀ {v : AV} {xss : List (List Int)}, IsLL S.addrs H v xss → IsLL ([aR, aK, aT] ++ S.addrs) H v xss := fun {v xss} h => by
    obtain ⟨a, vs, h1, h2, h3, h4⟩ := h
    exact ⟨a, vs, h1, offM h2 h3, h3, h4.mono fun _ _ ⟨b, b1, b2, b3⟩ => ⟨b, b1, offM b2 b3, b3⟩⟩
  have w0 : WS e aR aK aT sa vA vR 0 (upd (upd (upd H aR (.list [])) aK (.list [])) aT (.list [])) S r ns [] [] [] :=
    ⟨sat.ext x0, rn, eqa, pf, ki, fun i hi => absurd hi (Nat.not_lt_zero _), offX, (lift hA).ext (x0.mono (by (exact nsub))), (lift hR).ext (x0.mono (by (exact nsub))), q1, .nil, q2, fun x _ => rfl, Nat.zero_le _, q3, Stand.nil e, nRK, nRT, nKT⟩
  generalize upd (upd (upd H aR (.list [])) aK (.list [])) aT (.list []) = H0 at w0 ⊢
  refine Exs.cons (Ex.while (fun m σ => ∃ t, m = 6 - t ∧ WInv e aR aK aT sa vA vR t σ) 6 ⟨0, rfl, lS, lA, lR, rfl, rfl, rfl, S, r, ns, [], [], [], w0⟩ ?_ PassE.never)
  clear w0 q1 q2 q3 x0 lift offM offX kK kT haR haK haT sat rn eqa pf ki hA hR lS lA lR S r ns
  rintro m ⟨H, loc⟩ ⟨t, rfl, ⟨lS, lA, lR, lQ, lK, lT, S, r, ns, vs, kn, st, w⟩⟩
  dsimp only at lS lA lR lQ lK lT w
  have hn := w.sat.keysN
  have nl := nodes_len w.sat w.ki.tab
  have nsl := w.ki.len
  walk_at "m1"
  refine Ev.meth meth_active (fdIA.2 _) (Ev.name lS ⟨S.a, S.dx, [], _, by rw [w.eqa], w.sat.inst, w.sat.idict, rfl, ?_⟩)
  (repeat walk_at "m1")
  refine Call.fn (active_ok g S r ns H w.sat w.rn (by (with_reducible exact Nat.le_trans (by assumption) (by decide)))) (room.mono (by decide : 1 ≤ 8)) fr rfl rfl ?_
  rintro v H1 ⟨rfl, rfl⟩
  refine Tru.bool ?_
  have hfp : decide (S.f < S.p) = false := by rw [w.pf]; simp
  rw [hfp, Bool.false_or]
  cases hemp : ns.isEmpty with
  | true =>
    show Exs _ _ _ _ _ _ _
    have hns : ns = [] := by simpa using hemp
    have hlev := w.ki.nil.mp hns
    have ht5 : t ≤ 5 := by
      cases t with
      | zero => (exact Nat.zero_le _)
      | succ t => have := lev_lt (w.lv t (Nat.lt_succ_self _)); (with_reducible exact Nat.succ_le_of_lt (by assumption))
    refine Exs.nil (Exs.forget ?_)
    have hQ : IsLL [] (clean H1) (.ref aR) (roundsF (adjOf e) (ringsF (adjOf e))) := by
      rw [← rounds_end w.lv hlev]
      exact ⟨aR, vs, rfl, by (exact nm0), ExSame.clean _ _ _ trivial w.hQ, w.hQ'.mono fun _ _ q => (q.mono (by (exact nsub))).exSame (ExSame.clean _)⟩
    exact law_D e (σ := ⟨clean H1, loc⟩) (d := Dset e t) room fr lA lR lQ lK lT ((w.hA.mono (by (exact nsub))).exSame (ExSame.clean _)) ((w.hR.mono (by (exact nsub))).exSame (ExSame.clean _)) hQ
      ⟨aK, rfl, by (exact nm0), ExSame.clean _ _ _ trivial w.hK⟩ ⟨aT, rfl, by (exact nm0), ExSame.clean _ _ _ trivial w.hT⟩ (NoEx.clean _) w.hK' (by have := w.hKl; omega) w.hT'
  | false =>
    show Exs _ _ _ _ _ _ _
    have hns : ns ≠ [] := fun q => by rw [q] at hemp; cases hemp
    have ht5 : t < 5 := lev_lt fun q => hns (w.ki.nil.mpr q)
    -- ready
    walk_at "m1"
    walk_at "m1"
    refine Ev.meth meth_getready (fdGR.2 _) (Ev.name lS ⟨S.a, S.dx, [], _, by rw [w.eqa], w.sat.inst, w.sat.idict, rfl, ?_⟩)
    (repeat walk_at "m1")
    refine Call.fn (getready_ok g S r ns H1 w.sat w.rn (fun k hk => w.ki.tab.keys.mpr ((w.ki.rdy k).mp hk).1) (by (with_reducible exact Nat.le_trans (by assumption) (by decide))) (by (with_reducible exact Nat.le_trans (by assumption) (by decide)))) (room.mono (by decide : 2 ≤ 8)) fr rfl rfl ?_
    rintro _ H2 ⟨tt, nodes1, rfl, htt, htt2, sat1, f1, lg1⟩
    dsimp only at htt htt2 ⊢
    have al1 : ∀ x ∈ [aR, aK, aT], ∃ o, H1 x = some o := all3 ⟨_, w.hQ⟩ ⟨_, w.hK⟩ ⟨_, w.hT⟩
    have off1 : ∀ x ∈ [aR, aK, aT], x ∉ SR.addrs { S with nodes := nodes1, rn := some (r, []), p := S.p + ns.length } ∧ ∀ o, H1 x = some o → H2 x = some o := fun x hx => by
      obtain ⟨o, ho⟩ := al1 x hx
      exact ⟨(off_sfr (w.off x hx) ho f1).1, fun o' ho' => f1.keep x o' (w.off x hx) ho'⟩
    have hA1 := w.hA.sfr f1
    have hR1 := w.hR.sfr f1
    have hQ1' := w.hQ'.mono fun _ _ q => q.sfr f1
    have hQ1 := (off1 aR (by simp)).2 _ w.hQ
    have hK1 := (off1 aK (by simp)).2 _ w.hK
    have hT1 := (off1 aT (by simp)).2 _ w.hT
    have offt : tt ∉ [aR, aK, aT] := fun q => by
      obtain ⟨o, ho⟩ := al1 tt q
      rw [htt] at ho; cases ho
    have eqa1 : SR.a { S with nodes := nodes1, rn := some (r, []), p := S.p + ns.length } = sa := w.eqa
    generalize hS1 : ({ S with nodes := nodes1, rn := some (r, []), p := S.p + ns.length } : SR) = S1 at sat1 f1 off1 hA1 hR1 hQ1' eqa1
    -- rounds
    walk_at "m1"
    walk_at "m1"
    refine Ev.method (Ev.name lQ ⟨"list", "list.append", meth_append, listType hQ1, ?_⟩)
    walk_at "m1"
    refine Ev.callB rfl rfl ?_
    (repeat walk_at "m1")
    refine Call.sorted (.inr htt2) (by (with_reducible exact Nat.lt_of_le_of_lt (by assumption) (by decide))) fun aQ ns' haQ hp hs => ?_
    have hlev : ns' = lev e t := sorted_r5 hp hs w.ki.nod fun x => by rw [w.ki.lev]; unfold lev; rw [List.mem_filter]
    subst hlev
    dsimp only at haQ ⊢
    have xq := HExt.new (M := [aR, aK, aT]) (o := .list ((lev e t).map AV.int)) haQ
    have haQo : aQ ∉ [aR, aK, aT] ++ S1.addrs := fun q => by
      rcases List.mem_append.mp q with q | q
      · obtain ⟨o, ho⟩ := al1 aQ q
        rw [(off1 aQ q).2 o ho] at haQ; cases haQ
      · exact sat1.alive q haQ
    have naR : aR ≠ aQ := fun q => haQo (by simp [q])
    have naK : aK ≠ aQ := fun q => haQo (by simp [q])
    have naT : aT ≠ aQ := fun q => haQo (by simp [q])
    have hvl : vs.length ≤ 5 := by rw [hQ1'.length]; simp; (with_reducible exact Nat.le_of_lt (by assumption))
    (repeat walk_at "m1")
    refine Call.append (xs := vs) (by show upd _ _ _ _ = _; rw [upd_ne naR]; exact hQ1) (by (with_reducible exact Nat.le_trans (by assumption) (by decide))) ?_
    (repeat walk_at "m1")
    have xr : HExt [aR, aK, aT] (upd H2 aQ (.list ((lev e t).map AV.int))) (upd (upd H2 aQ (.list ((lev e t).map AV.int))) aR (.list (vs ++ [.ref aQ]))) := HExt.set (by simp)
    have x2 := xq.trans xr
    have sat2 := sat1.hext x2 fun x hx => (off1 x hx).1
    have hA2 := hA1.ext (x2.mono fun x hx => List.mem_append_left _ hx)
    have hR2 := hR1.ext (x2.mono fun x hx => List.mem_append_left _ hx)
    have hQ2' : All2 (IsI ([aR, aK, aT] ++ S1.addrs) (upd (upd H2 aQ (.list ((lev e t).map AV.int))) aR (.list (vs ++ [.ref aQ])))) (vs ++ [.ref aQ]) ((List.range (t + 1)).map (lev e)) := by
      rw [List.range_succ, List.map_append]
      refine All2.append (hQ1'.mono fun _ _ q => q.ext (x2.mono fun x hx => List.mem_append_left _ hx)) (.cons ⟨aQ, rfl, haQo, ?_⟩ .nil)
      rw [upd_ne (Ne.symm naR)]; exact upd_same ..
    have hQ2 : upd (upd H2 aQ (.list ((lev e t).map AV.int))) aR (.list (vs ++ [.ref aQ])) aR = some (.list (vs ++ [.ref aQ])) := upd_same ..
    have hK2 : upd (upd H2 aQ (.list ((lev e t).map AV.int))) aR (.list (vs ++ [.ref aQ])) aK = some (.list (kn.map .int)) := by rw [upd_ne (Ne.symm w.ne.1), upd_ne naK]; exact hK1
    have hT2 : upd (upd H2 aQ (.list ((lev e t).map AV.int))) aR (.list (vs ++ [.ref aQ])) aT = some (.list (st.map .int)) := by rw [upd_ne (Ne.symm w.ne.2.1), upd_ne naT]; exact hT1
    have htt3 := x2 _ _ offt htt2
    generalize upd (upd H2 aQ (.list ((lev e t).map AV.int))) aR (.list (vs ++ [.ref aQ])) = H3 at sat2 hA2 hR2 hQ2' hQ2 hK2 hT2 htt3 ⊢
    -- standing
    refine Ex.for (Ev.name rfl ?_) room.h PassE.never
    refine ⟨tt, _, ns.map AV.int, rfl, htt3, rfl, rfl, fun i σ => ∃ st', C11 (i ≤ ns.length) (σ.loc (Str.ofString "sorter") = some (.ref sa)) (σ.loc (Str.ofString "arrows") = some vA) (σ.loc (Str.ofString "rings") = some vR) (σ.loc (Str.ofString "rounds") = some (.ref aR)) (σ.loc (Str.ofString "known") = some (.ref aK)) (σ.loc (Str.ofString "standing") = some (.ref aT)) (σ.loc (Str.ofString "ready") = some (.ref tt)) (HExt [aT] H3 σ.H) (σ.H aT = some (.list (st'.map .int))) (Stand e (fun x => Dset e t x || decide (x ∈ ns.take i)) st'), ?_, ?_, ?_, ?_⟩
    · exact ⟨st, Nat.zero_le _, lS, lA, lR, lQ, lK, lT, rfl, HExt.refl _ _, hT2, w.hT'.congr fun x _ => by simp⟩
    · rintro i σ ⟨_, _, _, _, _, _, _, _, _, hE, _, _⟩
      exact hE _ _ (by intro q; simp only [List.mem_cons, List.not_mem_nil, or_false] at q; exact offt (by simp [q])) htt3
    · rintro i a ⟨Hi, li⟩ hi ⟨st', hil, kS, kA, kR, kQ, kK, kT, kY, hE, hTi, hSt⟩
      dsimp only at kS kA kR kQ kK kT kY hE hTi
      obtain ⟨k, hk, rfl⟩ := map_get hi
      have hkm := List.mem_of_getElem? hk
      have hlt := (List.getElem?_eq_some_iff.mp hk).1
      obtain ⟨k5, kd1, kd0⟩ := (w.ki.rdy k).mp hkm
      have hsl : st'.length ≤ 5 := nodup_length_le st' r5 hSt.nod fun x hx => (hSt.sub x hx).1
      have hAi : IsLL [aT] Hi vA (adjOf e) := (hA2.mono (M' := [aT]) (by intro x hx; simp only [List.mem_cons, List.not_mem_nil, or_false] at hx; subst hx; simp)).ext hE
      walk_at "m1"
      walk_at "m1"
      refine Tst.compare (Ev.comp1 ?_ room.h)
      refine Comp1.ints (M := []) (fun j => e j k) (fun j => j) (Ev.name kT ⟨aT, _, st', rfl, hTi, rfl, rfl, by (exact nm0), by (with_reducible exact Nat.le_trans (by assumption) (by decide)), ?_, ?_⟩)
      · rintro L' cells j H' hj hE'
        have hj5 := (hSt.sub j hj).1
        (repeat walk_at "m1")
        refine Ev.name kA ?_
        (repeat walk_at "m1")
        refine (IsLL.ext (M := []) (hAi.mono (by (exact nsub))) hE').at (σ := ⟨H', _⟩) (mem_r5 hj5).1 (mem_r5 hj5).2 (by rw [adjOf_len]; decide) fun u hu' => ?_
        refine hu'.in_ ?_
        have hb : ((adjOf e).getD j.toNat []).contains k = e j k := adj_has e hj5 k5
        rw [hb]
        refine ⟨_, rfl, rfl, HExt.refl _ _, rfl, fun _ => ?_⟩
        (repeat walk_at "m1")
        exact ⟨rfl, HExt.refl _ _, rfl⟩
      rintro H5 aC hE5 haC
      dsimp only at hE5 haC ⊢
      have hf : ((st'.filter fun j => e j k).map fun j => j) = st'.filter fun j => e j k := by simp
      rw [hf] at *
      have xc := HExt.new (M := []) (o := .list ((st'.filter fun j => e j k).map AV.int)) haC
      (repeat walk_at "m1")
      refine ⟨by (exact Nat.le_of_ble_eq_true rfl), fun eN heN => ?_⟩
      dsimp only at heN ⊢
      have xn := HExt.new (M := []) (o := .list []) heN
      have i5 : IsI [] (upd H5 aC (.list ((st'.filter fun j => e j k).map AV.int))) (.ref aC) (st'.filter fun j => e j k) := ⟨aC, rfl, by (exact nm0), upd_same ..⟩
      refine (i5.ext xn).eq (IsI.nil (upd_same ..) (by (exact nm0))) (by (with_reducible exact units20 (by assumption))) ⟨_, rfl, ?_⟩
      have x5 : HExt [] Hi (upd (upd H5 aC (.list ((st'.filter fun j => e j k).map AV.int))) eN (.list [])) := (hE5.trans xc).trans xn
      have hT5 := x5 _ _ (by (exact nm0)) hTi
      generalize upd (upd H5 aC (.list ((st'.filter fun j => e j k).map AV.int))) eN (.list []) = H6 at x5 hT5 ⊢
      have hkpre : k ∉ ns.take i := fun q => by
        obtain ⟨i', hi'⟩ := List.getElem?_of_mem q
        rw [List.getElem?_take] at hi'
        split at hi'
        · rename_i hlt'
          have := (List.getElem?_inj (by exact (List.getElem?_eq_some_iff.mp hi').1) w.ki.nod).mp (hi'.trans hk.symm)
          omega
        · cases hi'
      have hstep := hSt.step k5 (by simp [kd0, hkpre]) fun j hj q => by simp [Dset_succ.mp kd1 j hj q]
      have hstep' := hstep.congr (d' := fun x => Dset e t x || decide (x ∈ ns.take (i + 1))) fun x _ => by
        rw [take_succ_get hk]
        by_cases a1 : x ∈ ns.take i <;> by_cases a2 : x = k <;> simp [a1, a2]
      cases hc : (st'.filter (fun j => e j k) == []) with
      | true =>
        have hc' : st'.filter (fun j => e j k) = [] := by simpa using hc
        rw [if_pos hc'] at hstep'
        show Exs _ _ _ _ _ _ _
        walk_at "m1"
        walk_at "m1"
        refine Ev.method (Ev.name kT ⟨"list", "list.append", meth_append, listType hT5, ?_⟩)
        (repeat walk_at "m1")
        refine Call.append (xs := st'.map AV.int) hT5 (by (exact len_map_le (by with_reducible exact Nat.le_trans (by assumption) (by decide)))) ?_
        (repeat walk_at "m1")
        refine ⟨st' ++ [k], hlt, kS, kA, kR, kQ, kK, kT, kY, (hE.trans (x5.mono (by (exact nsub)))).trans (HExt.set (by simp)), ?_, hstep'⟩
        show upd H6 aT _ aT = _
        rw [upd_same]; simp
      | false =>
        have hc' : ¬ st'.filter (fun j => e j k) = [] := by simpa using hc
        rw [if_neg hc'] at hstep'
        show Exs _ _ _ _ _ _ _
        (repeat walk_at "m1")
        exact ⟨st', hlt, kS, kA, kR, kQ, kK, kT, kY, hE.trans (x5.mono (by (exact nsub))), hT5, hstep'⟩
    rintro ⟨H5, l5⟩ ⟨st', _, kS, kA, kR, kQ, kK, kT, kY, hE, hT5, hSt⟩
    dsimp only at kS kA kR kQ kK kT kY hE hT5
    rw [List.length_map, take_len] at hSt
    have x5 : HExt [aR, aK, aT] H3 H5 := hE.mono (by intro x hx; simp only [List.mem_cons, List.not_mem_nil, or_false] at hx; subst hx; simp)
    have nT : ∀ x, x ≠ aT → x ∉ [aT] := fun x hx q => hx (by simpa using q)
    have hK5 := hE _ _ (nT _ w.ne.2.2) hK2
    have hQ5 := hE _ _ (nT _ w.ne.2.1) hQ2
    have ht5' := x5 _ _ offt htt3
    have sat5 := sat2.hext x5 fun x hx => (off1 x hx).1
    have hA5 := hA2.ext (x5.mono fun x hx => List.mem_append_left _ hx)
    have hR5 := hR2.ext (x5.mono fun x hx => List.mem_append_left _ hx)
    have hQ5' := hQ2'.mono fun _ _ q => q.ext (x5.mono fun x hx => List.mem_append_left _ hx)
    -- known
    walk_at "m1"
    walk_at "m1"
    refine Ev.method (Ev.name kK ⟨"list", "list.extend", meth_extend, listType hK5, ?_⟩)
    (repeat walk_at "m1")
    refine Ev.name kY ?_
    (repeat walk_at "m1")
    refine Call.extendTup (ys := ns.map .int) hK5 ht5' (by have := w.hKl; simp; omega) ?_
    rw [← List.map_append]
    have xk : HExt [aR, aK, aT] H5 (upd H5 aK (.list ((kn ++ ns).map AV.int))) := HExt.set (by simp)
    have sat6 := sat5.hext xk fun x hx => (off1 x hx).1
    have hA6 := hA5.ext (xk.mono fun x hx => List.mem_append_left _ hx)
    have hR6 := hR5.ext (xk.mono fun x hx => List.mem_append_left _ hx)
    have hQ6' := hQ5'.mono fun _ _ q => q.ext (xk.mono fun x hx => List.mem_append_left _ hx)
    have hK6 : upd H5 aK (.list ((kn ++ ns).map AV.int)) aK = some (.list ((kn ++ ns).map AV.int)) := upd_same ..
    have hQ6 : upd H5 aK (.list ((kn ++ ns).map AV.int)) aR = some (.list (vs ++ [.ref aQ])) := by rw [upd_ne w.ne.1]; exact hQ5
    have hT6 : upd H5 aK (.list ((kn ++ ns).map AV.int)) aT = some (.list (st'.map AV.int)) := by rw [upd_ne (Ne.symm w.ne.2.2)]; exact hT5
    have ht6 := xk _ _ offt ht5'
    generalize upd H5 aK (.list ((kn ++ ns).map AV.int)) = H6 at sat6 hA6 hR6 hQ6' hK6 hQ6 hT6 ht6 ⊢
    -- done
    have rn1 : S1.rn = some (r, []) := by rw [← hS1]
    have lg1' : lgc S1.nodes = outF1 ns (lgc S.nodes) := by rw [← hS1]; exact lg1
    have pf1 : S1.f = S.p ∧ S1.p = S.p + ns.length := by rw [← hS1]; exact ⟨w.pf, rfl⟩
    have T1 := w.ki.tab.outF1 ns
    rw [← lg1'] at T1
    obtain ⟨pre, kin⟩ := w.ki.next
    rw [← lg1'] at pre kin
    walk_at "m1"
    refine Ex.expr ?_
    refine Ev.methStar1 bnd_done (Ev.name kS ⟨S1.a, S1.dx, [], _, by rw [eqa1], sat6.inst, sat6.idict, rfl, fun q hq => Ev.name kY ⟨tt, ns.map .int, rfl, .inr ?_, by (exact len_map_le (by with_reducible exact Nat.le_trans (by assumption) (by decide))), upd_same .., ?_⟩⟩)
    · show upd H6 q _ tt = _
      rw [upd_ne (ne_of_H ht6 hq)]; exact ht6
    have xm := HExt.new (M := []) (o := .meth 156 S1.a) hq
    refine Call.meth (upd_same ..) (done_ok g S1 r [] ns _ (sat6.ext xm) rn1 pre (by (with_reducible exact Nat.le_trans (by assumption) (by decide))) (by (exact Nat.le_of_ble_eq_true rfl)) (Nat.le_trans (nodes_len sat6 T1) (by decide)) (tab_bnd sat6.keysN T1) (tab_cl sat6.keysN T1)) (room.mono (by decide : 2 ≤ 8)) fr rfl rfl ?_
    rintro _ H7 ⟨rfl, nodes2, rd, sat7, f7, lg7⟩
    dsimp only at lg7 sat7 f7 ⊢
    (repeat walk_at "m1")
    have keep7 : ∀ x ∈ [aR, aK, aT], x ∉ SR.addrs { S1 with nodes := nodes2, rn := some (r, rd), f := S1.f + ns.length } ∧ ∀ o, H6 x = some o → H7 x = some o := fun x hx => by
      obtain ⟨o, ho⟩ := all3 (P := fun x => ∃ o, H6 x = some o) ⟨_, hQ6⟩ ⟨_, hK6⟩ ⟨_, hT6⟩ x hx
      exact ⟨(off_sfr (off1 x hx).1 (xm _ _ (by (exact nm0)) ho) f7).1, fun o' ho' => f7.keep x o' (off1 x hx).1 (xm _ _ (by (exact nm0)) ho')⟩
    have lg7a : lgc nodes2 = (doneF ns (lgc S1.nodes, [])).1 := by rw [← lg7]
    have lg7b : rd = (doneF ns (lgc S1.nodes, [])).2 := by rw [← lg7]
    refine ⟨6 - (t + 1), Nat.sub_lt_sub_left (Nat.lt_succ_of_lt ht5) (Nat.lt_succ_self t), t + 1, rfl, kS, kA, kR, kQ, kK, kT, _, r, rd, vs ++ [.ref aQ], kn ++ ns, st', sat7, rfl, eqa1, ?_, ?_, ?_, fun x hx => (keep7 x hx).1, ?_, ?_, (keep7 aR (by simp)).2 _ hQ6, ?_, (keep7 aK (by simp)).2 _ hK6, ?_, ?_, (keep7 aT (by simp)).2 _ hT6, ?_, w.ne⟩
    · show S1.f + (ns.length : Int) = S1.p
      rw [pf1.1, pf1.2]
    · show KI e (t + 1) (lgc nodes2) rd
      rw [lg7a, lg7b]; exact kin
    · intro i hi
      by_cases q : i = t
      · rw [q]; exact fun q => hns (w.ki.nil.mpr q)
      · exact w.lv i (by (with_reducible exact lt_of_ne' (by assumption) (by assumption)))
    · exact (hA6.ext (xm.mono (by (exact nsub)))).sfr f7
    · exact (hR6.ext (xm.mono (by (exact nsub)))).sfr f7
    · exact hQ6'.mono fun _ _ q => (q.ext (xm.mono (by (exact nsub)))).sfr f7
    · intro x hx
      rw [Bool.eq_iff_iff, List.contains_iff_mem, List.mem_append]
      have h1 := w.hK' x hx
      rw [Bool.eq_iff_iff, List.contains_iff_mem] at h1
      rw [h1, w.ki.rdy x]
      constructor
      · rintro (q | q)
        · exact Dset_mono q
        · exact q.2.1
      · intro q
        cases d : Dset e t x with
        | true => exact .inl rfl
        | false => exact .inr ⟨hx, q, rfl⟩
    · have := w.hKl; simp; omega
    · refine hSt.congr fun x hx => ?_
      rw [Bool.eq_iff_iff, Bool.or_eq_true, decide_eq_true_eq, w.ki.rdy x]
      constructor
      · rintro (q | q)
        · exact Dset_mono q
        · exact q.2.1
      · intro q
        cases d : Dset e t x with
        | true => exact .inl rfl
        | false => exact .inr ⟨hx, q, rfl⟩
end
end Mine
end

section
open PySem PySem.W PyProof.Rows PySem.Spec PySem.Calls
set_option Elab.async false
set_option maxRecDepth 100000
set_option linter.unusedVariables false
namespace Mine
theorem IsI.off {M : List Addr} {H H' : AH} {v : AV} {ns : List Int} (h : IsI [] H v ns) (k : ∀ a o, H a = some o → a ∉ M ∧ H' a = some o) : IsI M H' v ns := by
  obtain ⟨a, h1, _, h3⟩ := h
  exact ⟨a, h1, (k a _ h3).1, (k a _ h3).2⟩
theorem IsLL.off {M : List Addr} {H H' : AH} {v : AV} {xss : List (List Int)} (h : IsLL [] H v xss) (k : ∀ a o, H a = some o → a ∉ M ∧ H' a = some o) : IsLL M H' v xss := by
  obtain ⟨a, vs, h1, _, h3, h4⟩ := h
  exact ⟨a, vs, h1, (k a _ h3).1, (k a _ h3).2, h4.mono fun _ _ q => q.off k⟩

section
variable {g : G} {A : Around} {L fa : Addr} {cd : Value}
theorem law_B (e : Int → Int → Bool) {σ : St} {vA : AV} (room : Room A 8) (fr : A.frames = some [(lawEn L fa cd).env])
    (lA : σ.loc (Str.ofString "arrows") = some vA) (hA : IsLL [] σ.H vA (adjOf e)) :
    Exs g A (lawEn L fa cd) NE (lawBody.1.drop 3) σ fun f _ => f = .ret (.bool true) := by
  have hu := room.units
  obtain ⟨H, loc⟩ := σ
  dsimp only at lA hA
  show Exs g A (lawEn L fa cd) NE (_ :: _) _ _
  walk_at "m1"
  walk_at "m1"
  refine Ev.callDef rfl (fdRings.2 _) (room.mono (by decide : 2 ≤ 8)) fr ?_
  (repeat walk_at "m1")
  refine Ev.name lA ?_
  (repeat walk_at "m1")
  refine ⟨_, rings_ok g (adjOf e) (adjOf_len e) (adjOf_rng e) (adjOf_five e) H vA hA, ?_⟩
  rintro vR H1 ⟨x1, hR⟩
  have hA1 := hA.ext x1
  -- the sorter
  walk_at "m1"
  walk_at "m1"
  refine Ev.callCls mk_sorter rfl ?_
  (repeat walk_at "m1")
  refine Call.make (k := 1) mk_sorter (room.mono (by decide : 2 ≤ 8)) fr rfl rfl fun x dx hx hdx hne => ?_
  refine ⟨_, sinit_ok g x dx _ (upd_same ..) (by rw [upd_ne (Ne.symm hne)]; exact upd_same ..), ?_⟩
  rintro v H2 ⟨rfl, d, ep, hd, sat, keep⟩
  refine ⟨rfl, ?_⟩
  dsimp only at hd hx hdx ⊢
  have k2 : ∀ a o, H1 a = some o → a ∉ SR.addrs ⟨x, dx, d, ep, [], none, 0, 0⟩ ∧ H2 a = some o := fun a o ha => by
    have n1 := ne_of_H ha hx
    have n2 := ne_of_H ha hdx
    have h3 : upd (upd H1 dx (.idict [])) x (.inst 173 dx []) a = some o := by rw [upd_ne n1, upd_ne n2]; exact ha
    refine ⟨fun q => ?_, keep a o n2 h3⟩
    simp only [SR.addrs, rnL, List.flatMap_nil, List.append_nil, List.mem_cons, List.not_mem_nil, or_false] at q
    rcases q with q | q | q
    · exact n1 q
    · exact n2 q
    · exact ne_of_H h3 hd q
  have hA2 := hA1.off k2
  have hR2 := hR.off k2
  generalize hS0 : (⟨x, dx, d, ep, [], none, 0, 0⟩ : SR) = S0 at sat hA2 hR2
  have f0 : S0.a = x ∧ S0.rn = none ∧ S0.p = 0 ∧ S0.f = 0 ∧ lgc S0.nodes = [] := by rw [← hS0]; exact ⟨rfl, rfl, rfl, rfl, rfl⟩
  clear hS0 k2
  -- the sites are laid
  walk_at "m1"
  refine Ex.for (Ev.callT rfl rfl ?_) room.h PassE.never
  (repeat walk_at "m1")
  refine Call.range1 fun l hl => ?_
  dsimp only at hl ⊢
  have xl := HExt.new (M := []) (o := .range 0 5) hl
  have hlo : l ∉ S0.addrs := fun q => sat.alive q hl
  have hX : (rngI 0 5).map AV.int = r5.map AV.int := rfl
  refine ⟨l, _, _, rfl, upd_same .., rfl, rfl, fun i σ => ∃ S, C14 (i ≤ 5) (σ.loc (Str.ofString "arrows") = some vA) (σ.loc (Str.ofString "rings") = some vR) (σ.loc (Str.ofString "sorter") = some (.ref x)) (SAt σ.H S) (S.a = x) (S.rn = none) (S.p = 0) (S.f = 0) (AInv e (r5.take i) (lgc S.nodes)) (IsLL S.addrs σ.H vA (adjOf e)) (IsLL S.addrs σ.H vR (ringsF (adjOf e))) (l ∉ S.addrs) (σ.H l = some (.range 0 5)), ?_, ?_, ?_, ?_⟩
  · exact ⟨S0, by (exact Nat.zero_le _), lA, rfl, rfl, sat.ext xl, f0.1, f0.2.1, f0.2.2.1, f0.2.2.2.1, by rw [f0.2.2.2.2]; exact AInv.nil e, hA2.ext (xl.mono (by (exact nsub))), hR2.ext (xl.mono (by (exact nsub))), hlo, upd_same ..⟩
  · rintro i σ ⟨_, _, _, _, _, _, _, _, _, _, _, _, _, _, h⟩
    exact h
  · rintro i a ⟨Hi, li⟩ hi ⟨S, hi5, kA, kR, kS, sat, ea, en, ep0, ef0, inv, hA3, hR3, hlo, hl3⟩
    dsimp only at kA kR kS sat hA3 hR3 hl3
    rw [hX] at hi
    obtain ⟨k, hk, rfl⟩ := map_get hi
    have hk5 := List.mem_of_getElem? hk
    have hi6 : i + 1 ≤ 5 := by have := (List.getElem?_eq_some_iff.mp hk).1; exact this
    have hkn : k ∉ r5.take i := fun q => by
      have hn : r5.Nodup := by decide
      obtain ⟨i', hi'⟩ := List.getElem?_of_mem q
      rw [List.getElem?_take] at hi'
      split at hi'
      · rename_i hlt'
        have := (List.getElem?_inj (by exact (List.getElem?_eq_some_iff.mp hi').1) hn).mp (hi'.trans hk.symm)
        omega
      · cases hi'
    have hkeys : ∀ y ∈ (lgc S.nodes).map (·.1), y ∈ r5 := fun y hy => by
      apply Classical.byContradiction
      intro q
      exact getN_none.mp (inv.out y q) hy
    have hnl : S.nodes.length ≤ 5 := by
      have := nodup_length_le ((lgc S.nodes).map (·.1)) r5 sat.keysN hkeys
      simpa [lgc, r5] using this
    have hbd : SBnd 500 (lgc S.nodes) := fun t ht => by
      have h1 := getN_mem sat.keysN ht
      have h2 := inv.val t.1 (hkeys _ (List.mem_map.mpr ⟨t, ht, rfl⟩))
      unfold Gd at h2
      rw [h1] at h2
      simp only [Option.getD_some, Prod.ext_iff] at h2
      rw [h2.2]
      exact Nat.le_trans (List.length_filter_le ..) (Nat.le_trans (List.length_take_le ..) (by (with_reducible exact Nat.le_trans (by assumption) (by decide))))
    walk_at "m1"
    refine Ex.expr ?_
    refine Ev.methStar bnd_add (Ev.name kS ⟨S.a, S.dx, [], _, by rw [ea], sat.inst, sat.idict, rfl, fun q hq => ?_⟩)
    have xm := HExt.new (M := []) (o := .meth 123 S.a) hq
    have qm : upd Hi q (.meth 123 S.a) q = some (.meth 123 S.a) := upd_same ..
    have sat4 := sat.ext xm
    have hA4 := hA3.ext (xm.mono (by (exact nsub)))
    have hR4 := hR3.ext (xm.mono (by (exact nsub)))
    have hl4 := xm _ _ (by (exact nm0)) hl3
    have qoff : q ∉ S.addrs := fun z => sat.alive z hq
    generalize upd Hi q (.meth 123 S.a) = H4 at qm sat4 hA4 hR4 hl4 ⊢
    walk_at "m1"
    walk_at "m1"
    refine Evs.star (Ev.comp1 ?_ room.h)
    refine Comp1.ints (M := []) (fun j => e j k) (fun j => j) ?_
    refine Ev.callT rfl rfl ?_
    (repeat walk_at "m1")
    refine Call.range1 fun l2 hl2 => ?_
    dsimp only at hl2 ⊢
    have xl2 := HExt.new (M := []) (o := .range 0 5) hl2
    refine ⟨l2, _, r5, rfl, upd_same .., rfl, rfl, by (exact nm0), by simp [r5], ?_, ?_⟩
    · rintro L' cells j H' hj hE'
      (repeat walk_at "m1")
      refine Ev.name kA ?_
      (repeat walk_at "m1")
      have hAj : IsLL S.addrs H' vA (adjOf e) := (hA4.ext (xl2.mono (by (exact nsub)))).ext (hE'.mono (by (exact nsub)))
      refine hAj.at (σ := ⟨H', _⟩) (mem_r5 hj).1 (mem_r5 hj).2 (by rw [adjOf_len]; decide) fun u hu' => ?_
      refine hu'.in_ ?_
      have hb : ((adjOf e).getD j.toNat []).contains k = e j k := adj_has e hj hk5
      rw [hb]
      refine ⟨_, rfl, rfl, HExt.refl _ _, rfl, fun _ => ?_⟩
      (repeat walk_at "m1")
      exact ⟨rfl, HExt.refl _ _, rfl⟩
    rintro H5 aC hE5 haC
    have hf : ((r5.filter fun j => e j k).map fun j => j) = psOf e k := by simp [psOf]
    rw [hf]
    have xc := HExt.new (M := []) (o := .list ((psOf e k).map AV.int)) haC
    have x5 := (xl2.trans hE5).trans xc
    have qm5 := x5 _ _ (by (exact nm0)) qm
    have sat5 := sat4.ext x5
    have hA5 := hA4.ext (x5.mono (by (exact nsub)))
    have hR5 := hR4.ext (x5.mono (by (exact nsub)))
    have hl5 := x5 _ _ (by (exact nm0)) hl4
    have hpl : (psOf e k).length ≤ 5 := len_r5 _
    refine ⟨aC, (psOf e k).map AV.int, rfl, .inl (upd_same ..), by (exact len_map_le (by with_reducible exact Nat.le_trans (by assumption) (by decide))), ?_⟩
    try dsimp only at haC ⊢
    generalize upd H5 aC (.list ((psOf e k).map AV.int)) = H6 at qm5 sat5 hA5 hR5 hl5 ⊢
    walk_at "m1"
    refine ⟨qm5, ?_⟩
    rw [List.append_nil]
    refine Call.meth qm5 (add_ok g S k (psOf e k) H6 sat5 en (by (with_reducible exact Nat.le_trans (by assumption) (by decide))) (by (with_reducible exact Nat.le_trans (by assumption) (by decide))) hbd) (room.mono (by decide : 5 ≤ 8)) fr rfl rfl ?_
    rintro _ H7 ⟨rfl, nodes7, ep7, sat7, f7, lg7⟩
    dsimp only at sat7 f7 ⊢
    (repeat walk_at "m1")
    have inv7 : AInv e (r5.take (i + 1)) (lgc nodes7) := by
      rw [lg7, take_succ_get hk]; exact inv.step hk5 hkn
    obtain ⟨o1, o2⟩ := off_sfr hlo hl5 f7
    exact ⟨_, hi6, kA, kR, kS, sat7, ea, en, ep0, ef0, inv7, hA5.sfr (X := []) f7, hR5.sfr (X := []) f7, o1, o2⟩
  rintro ⟨Hi, li⟩ ⟨S, _, kA, kR, kS, sat, ea, en, ep0, ef0, inv, hA3, hR3, hlo, hl3⟩
  dsimp only at kA kR kS sat hA3 hR3 hl3
  have inv : AInv e r5 (lgc S.nodes) := inv
  have T := inv.full
  refine Exs.forget ?_
  try dsimp only
  have ex := ExSame.clean Hi
  have sat1 := sat.exSame ex
  have hA4 := hA3.exSame ex
  have hR4 := hR3.exSame ex
  have nx := NoEx.clean Hi
  clear hl3
  generalize clean Hi = H4 at ex sat1 hA4 hR4 nx ⊢
  walk_at "m1"
  walk_at "m1"
  walk_at "m1"
  have hsc1 : ∀ y z, z ∈ succOf y (lgc S.nodes) → y ∈ r5 ∧ z ∈ r5 ∧ e y z = true := fun y z hz => by
    rw [T.succ] at hz
    split at hz
    · rename_i hy; exact ⟨hy, (List.mem_filter.mp hz).1, (List.mem_filter.mp hz).2⟩
    · cases hz
  have hsc2 : ∀ y z, y ∈ r5 → z ∈ r5 → e y z = true → z ∈ succOf y (lgc S.nodes) := fun y z hy hz q => by
    rw [T.succ, if_pos hy]; exact List.mem_filter.mpr ⟨hz, q⟩
  have hnl := nodes_len sat1 T
  -- refused or not
  show Exs g A _ NE _ ⟨H4, upd li (Str.ofString "refused") (.bool false)⟩ _
  generalize hloc : upd li (Str.ofString "refused") (.bool false) = l7
  have kA7 : l7 (Str.ofString "arrows") = some vA := by rw [← hloc]; exact kA
  have kR7 : l7 (Str.ofString "rings") = some vR := by rw [← hloc]; exact kR
  have kS7 : l7 (Str.ofString "sorter") = some (.ref x) := by rw [← hloc]; exact kS
  have kF7 : l7 (Str.ofString "refused") = some (.bool false) := by rw [← hloc]; rfl
  clear hloc kA kR kS
  refine Exs.cons (Ex.mono (Q := fun f σ' => f = .next ∧ E2 fun b r => C6 (σ'.loc (Str.ofString "refused") = some (.bool b)) (σ'.loc (Str.ofString "arrows") = some vA) (σ'.loc (Str.ofString "rings") = some vR) (σ'.loc (Str.ofString "sorter") = some (.ref x)) (Prep H4 S σ'.H r) (b = !(ringsF (adjOf e) == []))) ?_ ?_)
  · refine Ex.tryCycle (P := fun σ => σ.loc = l7 ∧ (∃ r, Prep H4 S σ.H r) ∧ Cyc fun k => succOf k (lgc S.nodes)) ?_ ?_ fr ?_ rfl
    · walk_at "m1"
      walk_at "m1"
      refine Ev.meth meth_prepare (fdPrep.2 _) (Ev.name kS7 ⟨S.a, S.dx, [], _, by rw [ea], sat1.inst, sat1.idict, rfl, ?_⟩)
      (repeat walk_at "m1")
      refine Call.fnX (prep_ok g S H4 sat1 nx en (by (with_reducible exact Nat.le_trans (by assumption) (by decide))) (tab_cl sat1.keysN T)) (room.mono (by decide : 3 ≤ 8)) fr rfl rfl ?_ ?_
      · rintro v H5 ⟨rfl, ⟨r, p⟩, hac⟩
        (repeat walk_at "m1")
        refine ⟨rfl, false, r, kF7, kA7, kR7, kS7, p, ?_⟩
        have := acyc_rings hsc2 (fun z hz => T.keys.mpr hz) hac
        rw [this]; rfl
      · rintro H5 ⟨⟨r, p⟩, hcy⟩
        exact ⟨rfl, ⟨r, p⟩, hcy⟩
    · rintro ea' ⟨H5, l5⟩ ⟨rfl, ⟨r, p⟩, hcy⟩
      (repeat walk_at "m1")
      refine ⟨rfl, true, r, rfl, kA7, kR7, kS7, p, ?_⟩
      have := cyc_rings hsc1 hcy
      have hb : (ringsF (adjOf e) == []) = false := by rw [beq_eq_false_iff_ne]; exact this
      rw [hb]; rfl
    · rintro H5 H6 l5 ex' ⟨q1, ⟨r, p⟩, q2⟩
      exact ⟨q1, ⟨r, p.at_.exSame ex', p.fr.exSame nx ex'⟩, q2⟩
  rintro f ⟨H5, l5⟩ ⟨rfl, b, r, kF, kA, kR, kS, p, hb⟩
  dsimp only at kF kA kR kS p ⊢
  subst hb
  have hA5 := hA4.sfr (X := []) p.fr
  have hR5 := hR4.sfr (X := []) p.fr
  show Exs _ _ _ _ _ _ _
  walk_at "m1"
  walk_at "m1"
  refine Tst.compare (Ev.name kF (Ev.compare (Ev.name kR ?_)))
  (repeat walk_at "m1")
  refine ⟨by (exact Nat.le_of_ble_eq_true rfl), fun eN heN => ?_⟩
  dsimp only at heN ⊢
  have xn := HExt.new (M := []) (o := .list []) heN
  refine ((hR5.mono (M' := []) (by (exact nsub))).ext xn).ne (IsLL.nil (upd_same ..) (by (exact nm0))) (by (with_reducible exact units20 (by assumption))) ?_
  refine Cmp.neBool ⟨_, rfl, ?_⟩
  have hbb : ((!(ringsF (adjOf e) == [])) != (!(ringsF (adjOf e) == []))) = false := by simp
  rw [hbb]
  show Exs _ _ _ _ _ _ _
  refine Exs.nil ?_
  exact law_C (g := g) e (σ := ⟨upd H5 eN (.list []), l5⟩) (S := { S with rn := some (r, zeroKs (lgc S.nodes)) }) (r := r) (ns := zeroKs (lgc S.nodes)) room fr kS kA kR (p.at_.ext xn) rfl ea (by show S.f = S.p; rw [ep0, ef0]) (KI.zero T sat1.keysN) (hA5.ext (xn.mono (by (exact nsub)))) (hR5.ext (xn.mono (by (exact nsub))))
end
end Mine
end

section
open PySem PySem.W PyProof.Rows PySem.Spec PySem.Calls
set_option Elab.async false
set_option maxRecDepth 100000
set_option maxHeartbeats 4000000
set_option linter.unusedVariables false
namespace Mine
noncomputable def siteAt (ss : List Site) (k : Int) : Site := ss.getD k.toNat ([], false, [])
noncomputable def eOf (ss : List Site) (j k : Int) : Bool := takesF (siteAt ss k).1 (siteAt ss j).2.1 (siteAt ss j).2.2
theorem labs_ok : ∀ hs ∈ hosts, ∀ x ∈ hs, PyData.strOk x = true := by decide +kernel
theorem labs_ok2 : ∀ hs ∈ rules2, (∀ x ∈ hs, PyData.strOk x = true) ∧ hs ≠ [] ∧ hs.length ≤ 2 := by decide +kernel
theorem hosts_len : ∀ hs ∈ hosts, hs.length ≤ 3 := by decide +kernel
theorem host_size2 : ∀ hs ∈ hosts, ∀ u : Bool, Builtin.Str.tooLong (Txt.lower (upIf u (jH hs))).length = false ∧ (Txt.lower (upIf u (jH hs))).cps.size < 1000 := fun hs h u => by
  rw [host_low hs h u]; exact ⟨(host_size hs h).2.1, (host_size hs h).1⟩
theorem rule_size2 : ∀ rs ∈ rules2, ∀ d u : Bool, Builtin.Str.tooLong (Txt.lower (upIf u (jR d rs))).length = false ∧ (Txt.lower (upIf u (jR d rs))).cps.size < 1000 := fun rs h d u => by
  rw [rule_low rs h d u]; exact ⟨(rule_size rs h d).2.1, (rule_size rs h d).1⟩
theorem rule_add : ∀ rs ∈ rules2, ∀ d : Bool, (if d then dotS else Str.ofString "").length + (Txt.join dotS rs).length ≤ sizeLine := by
  intro rs h d
  have : ∀ rs ∈ rules2, (Txt.join dotS rs).length ≤ 10 := by decide +kernel
  have h1 := this rs h
  have h2 : (if d then dotS else Str.ofString "").length ≤ 10 := by cases d <;> decide +kernel
  rw [sizeLine_eq]; omega

section
variable {g : G} {A : Around} {L fa : Addr} {cd : Value}
theorem law_ok (a : Addr) (ns : List Int) (hb : ∃ items, g.base.IsList a items ∧ items.toList.map er = ns.map .int) (hlen : ns.length ≤ 1000) (room : Room A 8)
    (fr : A.frames = some [(lawEn L fa cd).env]) :
    Exs g A (lawEn L fa cd) NE lawBody.1 ⟨fun _ => none, fun y => [(Str.ofString "script", AV.ref a)].reverse.lookup y⟩ fun f _ => f = .ret (.bool true) := by
  have hu := room.units
  show Exs g A (lawEn L fa cd) NE (_ :: _) _ _
  walk_at "m1"
  walk_at "m1"
  refine Ev.callDef rfl (fdSites.2 _) (room.mono (by decide : 2 ≤ 8)) fr ?_
  (repeat walk_at "m1")
  refine ⟨_, sites_ok g a ns _ hb hlen, ?_⟩
  rintro _ H1 ⟨x1, b, ts, ks, rfl, hb1, hts, hkl⟩
  try dsimp only
  generalize hss : ks.map siteF = ss at hts
  have hsl : ss.length = 5 := by rw [← hss, List.length_map]; exact hkl
  have hsm : ∀ s ∈ ss, s.1 ∈ hosts ∧ s.2.2 ∈ rules2 := fun s hs => by
    rw [← hss] at hs
    obtain ⟨k, _, rfl⟩ := List.mem_map.mp hs
    exact ⟨hostF_mem k, ruleF_mem k⟩
  clear hss hkl ks
  have htl : ts.length = 5 := by rw [hts.length]; exact hsl
  have sat_ : ∀ k ∈ r5, ∃ s ∈ ss, siteAt ss k = s ∧ ss[k.toNat]? = some s := fun k hk => by
    have := mem_r5 hk
    have hlt : k.toNat < ss.length := by omega
    refine ⟨ss[k.toNat], List.getElem_mem hlt, ?_, List.getElem?_eq_getElem hlt⟩
    unfold siteAt
    rw [List.getD_eq_getElem?_getD, List.getElem?_eq_getElem hlt]; rfl
  have tsAt : ∀ (M : List Addr) (H : AH), All2 (IsSite M H) ts ss → ∀ k ∈ r5, ∃ v, ts[k.toNat]? = some v ∧ IsSite M H v (siteAt ss k) := fun M H h k hk => by
    obtain ⟨s, _, e1, e2⟩ := sat_ k hk
    obtain ⟨v, hv, hi⟩ := h.get' e2
    exact ⟨v, hv, by rw [e1]; exact hi⟩
  have inH : ∀ k ∈ r5, (siteAt ss k).1 ∈ hosts ∧ (siteAt ss k).2.2 ∈ rules2 := fun k hk => by
    obtain ⟨s, hs, e1, _⟩ := sat_ k hk
    rw [e1]; exact hsm s hs
  walk_at "m1"
  (repeat walk_at "m1")
  refine ⟨by (exact Nat.le_of_ble_eq_true rfl), fun aA haA => ?_⟩
  dsimp only at haA ⊢
  have xA := HExt.new (M := []) (o := .list []) haA
  have offA : ∀ {v : AV} {s : Site}, IsSite [] H1 v s → IsSite [aA] H1 v s := fun {v s} ⟨t, h, r, h1, _, h3, ⟨c, c1, _, c3⟩, d, d1, _, d3⟩ =>
    ⟨t, h, r, h1, by simpa using ne_of_H h3 haA, h3, ⟨c, c1, by simpa using ne_of_H c3 haA, c3⟩, d, d1, by simpa using ne_of_H d3 haA, d3⟩
  have hts2 : All2 (IsSite [aA] (upd H1 aA (.list []))) ts ss := hts.mono fun _ _ q => (offA q).ext (xA.mono (by (exact nsub)))
  have hb2 := xA _ _ (by (exact nm0)) hb1
  have hA2 : upd H1 aA (.list []) aA = some (.list []) := upd_same ..
  have nbA : b ≠ aA := ne_of_H hb1 haA
  clear hts hb1 offA
  generalize upd H1 aA (.list []) = H2 at hts2 hb2 hA2 ⊢
  walk_at "m1"
  refine Ex.for (Ev.callT rfl rfl ?_) room.h PassE.never
  (repeat walk_at "m1")
  refine Call.range1 fun l hl => ?_
  dsimp only at hl ⊢
  have xl := HExt.new (M := [aA]) (o := .range 0 5) hl
  have nlA : l ≠ aA := fun q => by rw [q, hA2] at hl; cases hl
  have hl3 : upd H2 l (.range 0 5) l = some (.range 0 5) := upd_same ..
  have hts3 := hts2.mono fun _ _ q => q.ext xl
  have hb3 := xl _ _ (by simpa using nbA) hb2
  have hA3 : upd H2 l (.range 0 5) aA = some (.list []) := by rw [upd_ne (Ne.symm nlA)]; exact hA2
  clear hts2 hb2 hA2 hl
  generalize upd H2 l (.range 0 5) = H3 at hl3 hts3 hb3 hA3 ⊢
  have hX : (rngI 0 5).map AV.int = r5.map AV.int := rfl
  refine ⟨l, _, _, rfl, hl3, rfl, rfl, fun i σ => ∃ vs, C6 (i ≤ 5) (σ.loc (Str.ofString "sites") = some (.ref b)) (σ.loc (Str.ofString "arrows") = some (.ref aA)) (HExt [aA] H3 σ.H) (σ.H aA = some (.list vs)) (All2 (IsI [aA] σ.H) vs ((r5.take i).map fun j => r5.filter (eOf ss j))), ?_, ?_, ?_, ?_⟩
  · exact ⟨[], by (exact Nat.zero_le _), rfl, rfl, HExt.refl _ _, hA3, .nil⟩
  · rintro i σ ⟨_, _, _, _, h, _, _⟩
    exact h _ _ (by simpa using nlA) hl3
  · rintro i _ ⟨Hi, li⟩ hi ⟨vs, hi5, kS, kA, hE, hAi, hvs⟩
    dsimp only at kS kA hE hAi hvs
    rw [hX] at hi
    obtain ⟨j, hj, rfl⟩ := map_get hi
    have hj5 := List.mem_of_getElem? hj
    have hjr := mem_r5 hj5
    have hi6 : i + 1 ≤ 5 := (List.getElem?_eq_some_iff.mp hj).1
    have hbi := hE _ _ (by simpa using nbA) hb3
    have htsi : All2 (IsSite [aA] Hi) ts ss := hts3.mono fun _ _ q => q.ext hE
    obtain ⟨vj, hvj, tj, hj', rj, rfl, _, htj, hhj, hrj⟩ := tsAt _ _ htsi j hj5
    obtain ⟨ihj, irj⟩ := inH j hj5
    have hszR := rule_size _ irj (siteAt ss j).2.1
    -- the rule
    walk_at "m1"
    walk_at "m1"
    refine Ev.binOp (Ev.mono (P := fun v σ' => v = .str (if (siteAt ss j).2.1 then dotS else Str.ofString "") ∧ σ' = ⟨Hi, upd li (Str.ofString "j") (.int j)⟩) ?_ ?_)
    · refine Ev.ifExp (Tst.plain ?_)
      (repeat walk_at "m1")
      refine Ev.name kS ?_
      (repeat walk_at "m1")
      refine SubT.list hbi hjr.1 hvj (by (with_reducible exact le_of_eqn (by assumption) (by decide))) ?_
      (repeat walk_at "m1")
      refine SubT.tuple htj (by decide) (x := .bool (siteAt ss j).2.1) rfl (by (exact Nat.le_of_ble_eq_true rfl)) ?_
      refine Tru.bool ?_
      cases (siteAt ss j).2.1 with
      | true => show Ev _ _ _ _ _ _ _; (repeat walk_at "m1"); exact ⟨rfl, rfl⟩
      | false => show Ev _ _ _ _ _ _ _; (repeat walk_at "m1"); exact ⟨rfl, rfl⟩
    rintro _ _ ⟨rfl, rfl⟩
    refine Ev.method (Ev.cStr ⟨"str", "str.join", meth_join, strType, ?_⟩)
    (repeat walk_at "m1")
    refine Ev.name kS ?_
    (repeat walk_at "m1")
    refine SubT.list hbi hjr.1 hvj (by (with_reducible exact le_of_eqn (by assumption) (by decide))) ?_
    (repeat walk_at "m1")
    refine SubT.tuple htj (by decide) (x := rj) rfl (by (exact Nat.le_of_ble_eq_true rfl)) ?_
    (repeat walk_at "m1")
    obtain ⟨cr, rfl, _, hcr⟩ := hrj
    refine Call.join (x := dotS) (texts := (siteAt ss j).2.2) hcr hszR.2.2.2 ?_
    refine Bin.addStr (rule_add _ irj _) ?_
    have hjR : (if (siteAt ss j).2.1 then dotS else Str.ofString "") ++ Txt.join dotS (siteAt ss j).2.2 = jR (siteAt ss j).2.1 (siteAt ss j).2.2 := rfl
    rw [hjR]
    show Exs _ _ _ _ _ _ _
    -- great letters
    refine Exs.cons (Ex.mono (Q := fun f σ' => C6 (f = .next) (σ'.H = Hi) (σ'.loc (Str.ofString "sites") = some (.ref b)) (σ'.loc (Str.ofString "arrows") = some (.ref aA)) (σ'.loc (Str.ofString "j") = some (.int j)) (∃ u, σ'.loc (Str.ofString "rule") = some (.str (upIf u (jR (siteAt ss j).2.1 (siteAt ss j).2.2))))) ?_ ?_)
    · walk_at "m1"
      (repeat walk_at "m1")
      refine Bin.mod (by decide) ?_
      (repeat walk_at "m1")
      refine ⟨_, rfl, ?_⟩
      cases (j.fmod 2 == 1) with
      | true =>
        show Exs _ _ _ _ _ _ _
        walk_at "m1"
        walk_at "m1"
        refine Ev.method (Ev.name rfl ⟨"str", "str.upper", meth_upper, strType, ?_⟩)
        (repeat walk_at "m1")
        refine Call.upper hszR.2.2.1 ?_
        (repeat walk_at "m1")
        exact ⟨rfl, rfl, kS, kA, rfl, true, rfl⟩
      | false =>
        show Exs _ _ _ _ _ _ _
        (repeat walk_at "m1")
        exact ⟨rfl, rfl, kS, kA, rfl, false, rfl⟩
    rintro _ ⟨Hi', lj⟩ ⟨rfl, e1, kS2, kA2, kJ2, u, kR2⟩
    obtain rfl : Hi = Hi' := e1.symm
    dsimp only at kS2 kA2 kJ2 kR2 hE hAi hvs hbi htsi htj hcr hhj ⊢
    clear hi kS kA hjR hX
    show Exs _ _ _ _ _ _ _
    (repeat walk_at "m1")
    refine ⟨by (exact Nat.le_of_ble_eq_true rfl), fun aT haT => ?_⟩
    dsimp only at haT ⊢
    have xT := HExt.new (M := [aA]) (o := .list []) haT
    have nTA : aT ≠ aA := fun q => by rw [q, hAi] at haT; cases haT
    have hts4 := htsi.mono fun _ _ q => q.ext xT
    have hb4 := xT _ _ (by simpa using nbA) hbi
    have hA4 : upd Hi aT (.list []) aA = some (.list vs) := by rw [upd_ne (Ne.symm nTA)]; exact hAi
    have hT4 : upd Hi aT (.list []) aT = some (.list []) := upd_same ..
    have nbT : b ≠ aT := ne_of_H hbi haT
    have hE4 := hE.trans xT
    have hvs4 := hvs.mono fun _ _ q => q.ext xT
    have offT : ∀ {v : AV} {s : Site}, IsSite [aA] Hi v s → IsSite [aA, aT] Hi v s := fun {v s} ⟨t, h, r, h1, h2, h3, ⟨c, c1, c2, c3⟩, d, d1, d2, d3⟩ =>
      ⟨t, h, r, h1, by simpa using ⟨by simpa using h2, ne_of_H h3 haT⟩, h3, ⟨c, c1, by simpa using ⟨by simpa using c2, ne_of_H c3 haT⟩, c3⟩, d, d1, by simpa using ⟨by simpa using d2, ne_of_H d3 haT⟩, d3⟩
    have hts5 : All2 (IsSite [aA, aT] (upd Hi aT (.list []))) ts ss := htsi.mono fun _ _ q => (offT q).ext (HExt.new haT)
    clear offT htsi hts4
    generalize upd Hi aT (.list []) = H5 at hb4 hA4 hT4 hE4 hvs4 hts5 xT ⊢
    walk_at "m1"
    refine Ex.for (Ev.callT rfl rfl ?_) room.h PassE.never
    (repeat walk_at "m1")
    refine Call.range1 fun l2 hl2 => ?_
    dsimp only at hl2 ⊢
    have xl2 := HExt.new (M := [aT]) (o := .range 0 5) hl2
    have nl2T : l2 ≠ aT := fun q => by rw [q, hT4] at hl2; cases hl2
    have hl6 : upd H5 l2 (.range 0 5) l2 = some (.range 0 5) := upd_same ..
    have hT6 : upd H5 l2 (.range 0 5) aT = some (.list []) := by rw [upd_ne (Ne.symm nl2T)]; exact hT4
    have hts6 := hts5.mono fun _ _ q => q.ext (xl2.mono (by simp))
    have hb6 := xl2 _ _ (by simpa using nbT) hb4
    have x56 := xl2
    clear hts5 hl2 xl2
    generalize upd H5 l2 (.range 0 5) = H6 at hl6 hT6 hts6 hb6 x56 ⊢
    have hX : (rngI 0 5).map AV.int = r5.map AV.int := rfl
    refine ⟨l2, _, _, rfl, hl6, rfl, rfl, fun i2 σ => C8 (i2 ≤ 5) (σ.loc (Str.ofString "sites") = some (.ref b)) (σ.loc (Str.ofString "arrows") = some (.ref aA)) (σ.loc (Str.ofString "j") = some (.int j)) (σ.loc (Str.ofString "rule") = some (.str (upIf u (jR (siteAt ss j).2.1 (siteAt ss j).2.2)))) (σ.loc (Str.ofString "told") = some (.ref aT)) (HExt [aT] H6 σ.H) (σ.H aT = some (.list (((r5.take i2).filter (eOf ss j)).map .int))), ?_, ?_, ?_, ?_⟩
    · exact ⟨by (exact Nat.zero_le _), kS2, kA2, kJ2, kR2, rfl, HExt.refl _ _, hT6⟩
    · rintro i2 σ ⟨_, _, _, _, _, _, h, _⟩
      exact h _ _ (by simpa using nl2T) hl6
    · rintro i2 _ ⟨H7, l7⟩ hi ⟨hi5', kS, kA, kJ, kR, kT, hE7, hT7⟩
      dsimp only at kS kA kJ kR kT hE7 hT7
      rw [hX] at hi
      obtain ⟨k, hk, rfl⟩ := map_get hi
      have hk5 := List.mem_of_getElem? hk
      have hkr := mem_r5 hk5
      have hi6' : i2 + 1 ≤ 5 := (List.getElem?_eq_some_iff.mp hk).1
      have hb7 := hE7 _ _ (by simpa using nbT) hb6
      have hts7 : All2 (IsSite [aA, aT] H7) ts ss := hts6.mono fun _ _ q => q.ext (hE7.mono (by simp))
      obtain ⟨vk, hvk, tk, hk', rk, rfl, htkM, htk, hhk, hrk⟩ := tsAt _ _ hts7 k hk5
      obtain ⟨vj', hvj7, tj7, hj7, rj7, ej7, htjM, htj7, hhj7, hrj7⟩ := tsAt _ _ hts7 j hj5
      obtain ⟨ihk, irk⟩ := inH k hk5
      have hszH := host_size _ ihk
      have hu2 := udm_all ihk irj (siteAt ss j).2.1 (k.fmod 2 == 0) u
      have z1 := host_size2 _ ihk (k.fmod 2 == 0)
      have z2 := rule_size2 _ irj (siteAt ss j).2.1 u
      have l2' := labs_ok2 _ irj
      have hl3' := hosts_len _ ihk
      -- host
      walk_at "m1"
      walk_at "m1"
      refine Ev.method (Ev.cStr ⟨"str", "str.join", meth_join, strType, ?_⟩)
      (repeat walk_at "m1")
      refine Ev.name kS ?_
      (repeat walk_at "m1")
      refine SubT.list hb7 hkr.1 hvk (by (with_reducible exact le_of_eqn (by assumption) (by decide))) ?_
      (repeat walk_at "m1")
      refine SubT.tuple htk (by decide) (x := hk') rfl (by (exact Nat.le_of_ble_eq_true rfl)) ?_
      (repeat walk_at "m1")
      obtain ⟨ck, rfl, hckM, hck⟩ := hhk
      refine Call.join (x := dotS) (texts := (siteAt ss k).1) hck hszH.2.2.2 ?_
      have hjH : Txt.join dotS (siteAt ss k).1 = jH (siteAt ss k).1 := rfl
      rw [hjH]
      -- taken
      walk_at "m1"
      walk_at "m1"
      refine Ev.callDef rfl (fdUdm.2 _) (room.mono (by decide : 2 ≤ 8)) fr ?_
      refine Evs.cons (Ev.mono (P := fun v σ' => v = .str (upIf (k.fmod 2 == 0) (jH (siteAt ss k).1)) ∧ σ' = ⟨H7, upd (upd l7 (Str.ofString "k") (.int k)) (Str.ofString "host") (.str (jH (siteAt ss k).1))⟩) ?_ ?_)
      · walk_at "m1"
        (repeat walk_at "m1")
        refine Bin.mod (by decide) ?_
        (repeat walk_at "m1")
        refine ⟨_, rfl, ?_⟩
        cases (k.fmod 2 == 0) with
        | true =>
          show Ev _ _ _ _ _ _ _
          refine Ev.method (Ev.name rfl ⟨"str", "str.upper", meth_upper, strType, ?_⟩)
          (repeat walk_at "m1")
          refine Call.upper hszH.2.2.1 ?_
          exact ⟨rfl, rfl⟩
        | false =>
          show Ev _ _ _ _ _ _ _
          (repeat walk_at "m1")
          exact ⟨rfl, rfl⟩
      rintro _ _ ⟨rfl, rfl⟩
      (repeat walk_at "m1")
      refine Ev.name kR ?_
      (repeat walk_at "m1")
      refine ⟨_, udm_ok g _ _ _ H7 hu2 z1.1 z2.1 z1.2 z2.2, ?_⟩
      rintro _ H8 ⟨rfl, x8⟩
      try dsimp only
      have e8 : takesF (siteAt ss k).1 (siteAt ss j).2.1 (siteAt ss j).2.2 = eOf ss j k := rfl
      rw [e8]
      have hb8 := x8 _ _ (by (exact nm0)) hb7
      have htk8 := x8 _ _ (by (exact nm0)) htk
      have htj8 := x8 _ _ (by (exact nm0)) htj7
      have hck8 := x8 _ _ (by (exact nm0)) hck
      have hT8 := x8 _ _ (by (exact nm0)) hT7
      obtain ⟨cj, rfl, hcjM, hcj⟩ := hrj7
      have hcj8 := x8 _ _ (by (exact nm0)) hcj
      subst ej7
      -- as asked
      walk_at "m1"
      walk_at "m1"
      refine Tst.compare (Ev.name rfl ?_)
      refine Ev.callDef rfl (fdTakes.2 _) (room.mono (by decide : 2 ≤ 8)) fr ?_
      (repeat walk_at "m1")
      refine Ev.name kS ?_
      (repeat walk_at "m1")
      refine SubT.list hb8 hkr.1 hvk (by (with_reducible exact le_of_eqn (by assumption) (by decide))) ?_
      (repeat walk_at "m1")
      refine SubT.tuple htk8 (by decide) (x := .ref ck) rfl (by (exact Nat.le_of_ble_eq_true rfl)) ?_
      (repeat walk_at "m1")
      refine Ev.name kS ?_
      (repeat walk_at "m1")
      refine Ev.name kJ ?_
      refine SubT.list hb8 hjr.1 hvj7 (by (with_reducible exact le_of_eqn (by assumption) (by decide))) ?_
      (repeat walk_at "m1")
      refine SubT.tuple htj8 (by decide) (x := .bool (siteAt ss j).2.1) rfl (by (exact Nat.le_of_ble_eq_true rfl)) ?_
      (repeat walk_at "m1")
      refine Ev.name kS ?_
      (repeat walk_at "m1")
      refine Ev.name kJ ?_
      refine SubT.list hb8 hjr.1 hvj7 (by (with_reducible exact le_of_eqn (by assumption) (by decide))) ?_
      (repeat walk_at "m1")
      refine SubT.tuple htj8 (by decide) (x := .ref cj) rfl (by (exact Nat.le_of_ble_eq_true rfl)) ?_
      (repeat walk_at "m1")
      refine ⟨_, takes_ok g (.ref ck) (.ref cj) (siteAt ss k).1 (siteAt ss j).2.2 (siteAt ss j).2.1 H8 ⟨ck, rfl, by (exact nm0), hck8⟩ ⟨cj, rfl, by (exact nm0), hcj8⟩ l2'.2.1 (by (with_reducible exact Nat.le_trans (by assumption) (by decide))) (by have := l2'.2.2; (with_reducible exact Nat.le_trans (by assumption) (by decide))) (labs_ok _ ihk) l2'.1, ?_⟩
      rintro _ H9 ⟨rfl, x9⟩
      rw [e8]
      refine Cmp.isNotBool ⟨_, rfl, ?_⟩
      have hbb : (eOf ss j k != eOf ss j k) = false := by simp
      rw [hbb]
      show Exs _ _ _ _ _ _ _
      (repeat walk_at "m1")
      have hT9 := x9 _ _ (by (exact nm0)) hT8
      have x79 := x8.trans x9
      have hstep : (r5.take (i2 + 1)).filter (eOf ss j) = (r5.take i2).filter (eOf ss j) ++ (if eOf ss j k then [k] else []) := by
        rw [take_succ_get hk, List.filter_append]; simp only [List.filter_cons, List.filter_nil]
      cases hc : eOf ss j k with
      | true =>
        show Exs _ _ _ _ _ _ _
        walk_at "m1"
        walk_at "m1"
        refine Ev.method (Ev.name kT ⟨"list", "list.append", meth_append, listType hT9, ?_⟩)
        (repeat walk_at "m1")
        refine Call.append hT9 (by rw [List.length_map]; exact Nat.le_trans (List.length_filter_le ..) (Nat.le_trans (List.length_take_le ..) (by (with_reducible exact Nat.le_trans (by assumption) (by decide))))) ?_
        (repeat walk_at "m1")
        rw [hc, if_pos rfl] at hstep
        refine ⟨hi6', kS, kA, kJ, kR, kT, (hE7.trans (x79.mono (by (exact nsub)))).trans (HExt.set (by simp)), ?_⟩
        show upd H9 aT _ aT = _
        rw [upd_same, hstep, List.map_append]; rfl
      | false =>
        show Exs _ _ _ _ _ _ _
        (repeat walk_at "m1")
        rw [hc, if_neg (by simp), List.append_nil] at hstep
        exact ⟨hi6', kS, kA, kJ, kR, kT, hE7.trans (x79.mono (by (exact nsub))), by rw [hstep]; exact hT9⟩
    rintro ⟨H7, l7⟩ ⟨_, kS, kA, kJ, kR, kT, hE7, hT7⟩
    dsimp only at kS kA kJ kR kT hE7 hT7
    have hT7 : H7 aT = some (.list ((r5.filter (eOf ss j)).map .int)) := hT7
    have x57 : HExt [aT] H5 H7 := x56.trans hE7
    have hA7 := x57 _ _ (by simpa using Ne.symm nTA) hA4
    have hvl : vs.length ≤ 5 := by rw [hvs4.length, List.length_map]; exact Nat.le_trans (List.length_take_le ..) (by (with_reducible assumption))
    walk_at "m1"
    walk_at "m1"
    refine Ev.method (Ev.name kA ⟨"list", "list.append", meth_append, listType hA7, ?_⟩)
    (repeat walk_at "m1")
    refine Ev.name kT ?_
    (repeat walk_at "m1")
    refine Call.append hA7 (by (with_reducible exact Nat.le_trans (by assumption) (by decide))) ?_
    (repeat walk_at "m1")
    have xfin : ∀ x o, x ∉ [aA] → Hi x = some o → upd H7 aA (.list (vs ++ [.ref aT])) x = some o := fun x o hx ho => by
      rw [upd_ne (fun q => hx (by simp [q]))]
      exact x57 x o (by simpa using ne_of_H ho haT) (xT x o hx ho)
    refine ⟨vs ++ [.ref aT], hi6, kS, kA, fun x o hx ho => xfin x o hx (hE x o hx ho), upd_same .., ?_⟩
    rw [take_succ_get hj, List.map_append]
    refine All2.append (hvs.mono fun _ _ ⟨c, c1, c2, c3⟩ => ⟨c, c1, c2, xfin c _ c2 c3⟩) (.cons ⟨aT, rfl, by simpa using nTA, ?_⟩ .nil)
    show upd H7 aA _ aT = _
    rw [upd_ne nTA]; exact hT7
  rintro ⟨Hi, li⟩ ⟨vs, _, kS, kA, hE, hAi, hvs⟩
  dsimp only at kS kA hE hAi hvs
  exact law_B (g := g) (eOf ss) (σ := ⟨Hi, li⟩) room fr kA ⟨aA, vs, rfl, by (exact nm0), hAi, hvs.mono fun _ _ q => q.mono (by (exact nsub))⟩
end
end Mine
end

section
open PySem PySem.W PyProof.Rows
set_option maxRecDepth 100000
namespace Mine
theorem intsMap : ∀ {vs : List Value} {ns : List Int}, IntsAre vs ns → vs.map er = ns.map .int
  | _, _, .nil => rfl
  | _, _, .cons _ _ q => by simp [intsMap q, er]
end Mine
end
local macro_rules | `(tactic| k_qdec) => `(tactic| decide +kernel)
open PySem PySem.W PyProof.Rows
set_option maxRecDepth 100000 in
set_option maxHeartbeats 8000000 in
theorem PySem.Challenge.cw_op0183_01_holds : PySem.Challenge.rw_op0183_01.Holds := by
  refine Mine.hd ?_
  k_go0
  refine wpAny_mono (Mine.law_ok (g := Mine.gOf _ _ ‹(Mine.hd.heap_39 _).In _› ‹Top _ _ _ _ _ _›) _ _ ⟨_, ‹Heap.IsList _ _ _›, Mine.intsMap ‹IntsAre _ _›⟩ ?_ Mine.room_law rfl (fun _ => none) _ (Mine.law_enter ‹(Mine.hd.heap_39 _).In _› ‹Top _ _ _ _ _ _› ‹_ = #[]› ‹Fr _ _ _ _› ‹News _ _ _ _› ‹CellsAre _ _ _› rfl Mine.law_cells rfl)) (fun f s' h => ?_) (fun _ _ e => e.elim)
  · omega
  · obtain ⟨σ', r', hq⟩ := h
    cases f with
    | ret v =>
      simp only [Mine.fl, Mine.AFl.ret.injEq] at hq
      obtain rfl := Mine.er_bool hq
      exact Mine.law_leave _ _ r' (fun _ => rfl) (by wrow_post)
    | next => cases hq
    | brk => cases hq
    | cont => cases hq
