import PyProof.Rows.All
import Wide.All
import OpenK.AllK
import Wide.FinOn
import PyProof.GenQ
import PySem.Challenge.RW_wr0040_02
set_option Elab.async false
set_option genSizeOf false
set_option genInjectivity false
set_option bootstrap.genMatcherCode false
set_option linter.unusedVariables false
set_option tactic.hygienic false
set_option linter.defProp false
namespace Mine
open PySem PySem.W PyProof.Rows PySem.W.X PySem.W.ZRun
theorem said1 : OpenLaw.wellSaid PySem.Challenge.rw_wr0040_02 = true := by kernel_rfl
local macro_rules | `(tactic| o_law) => `(tactic| (refine holds_law Mine.said1 fun zz => ?_))
set_option maxRecDepth 100000 in
set_option maxHeartbeats 0 in
open_top hd for PySem.Challenge.rw_wr0040_02
end Mine
namespace Mine
open PySem PySem.W PyProof.Rows
inductive PV where
  | none
  | bool (b : Bool)
  | int (i : Int)
  | str (s : List Nat)
  | bytes (b : List UInt8)
  | list (xs : List PV)
  | tup (xs : List PV)
  | range (a b : Int)
mutual
noncomputable def okPy : PV → Nat → Bool
  | .list xs, n + 1 => okPys xs n
  | .tup xs, n + 1 => okPys xs n
  | .none, _ => true
  | .bool _, _ => true
  | .int _, _ => true
  | .str _, _ => true
  | _, _ => false
noncomputable def okPys : List PV → Nat → Bool
  | [], _ => true
  | x :: xs, n => okPy x n && okPys xs n
end
theorem okPys_all (n : Nat) : ∀ xs : List PV, okPys xs n = xs.all (fun x => okPy x n)
  | [] => rfl
  | x :: xs => congrArg (okPy x n && ·) (okPys_all n xs)
theorem okPys_append (n : Nat) (xs ys : List PV) : okPys (xs ++ ys) n = (okPys xs n && okPys ys n) := by simp [okPys_all, List.all_append]
theorem okPys_sub {n : Nat} {xs ys : List PV} (h : ∀ x ∈ ys, x ∈ xs) (o : okPys xs n = true) : okPys ys n = true := by
  rw [okPys_all, List.all_eq_true] at *
  exact fun x hx => o x (h x hx)
theorem okPys_map {m : Nat} {α : Type} {f : α → PV} (l : List α) (h : ∀ a, okPy (f a) m = true) : okPys (l.map f) m = true := by
  rw [okPys_all, List.all_eq_true]
  intro x hx
  obtain ⟨a, _, rfl⟩ := List.mem_map.mp hx
  exact h a
noncomputable abbrev GO := Addr → Option Obj
noncomputable def LEN : Nat := 100000
noncomputable def okL (xs : List PV) : Prop := okPys xs 8 = true ∧ xs.length ≤ LEN
noncomputable def okS (s : List Nat) : Prop := s.all (fun c => decide (c < 128)) = true ∧ s.length ≤ LEN
noncomputable def Sub (G G' : GO) : Prop := ∀ b o, G b = some o → G' b = some o
theorem Sub.refl (G : GO) : Sub G G := fun zz zz e => e
theorem Sub.trans {G G' G'' : GO} (x : Sub G G') (y : Sub G' G'') : Sub G G'' := fun b o e => y b o (x b o e)
noncomputable def lObj (c : String) (vs : List Value) (n : Nat) : Obj := { cls := .type c, dict := none, data := .seq vs.toArray n, slots := #[] }
noncomputable def IsL (G : GO) (c : String) (a : Addr) (vs : List Value) : Prop := ∃ n, G a = some (lObj c vs n)
mutual
noncomputable def RV (G : GO) : PV → Value → Prop
  | .none, v => v = .none
  | .bool b, v => v = .bool b
  | .int i, v => ∃ t, v = .int i t
  | .str s, v => (∃ t, v = .str ⟨s.toArray⟩ t) ∧ okS s
  | .bytes b, v => (∃ t, v = .bytes b.toArray t) ∧ b.length ≤ LEN
  | .list xs, v => okL xs ∧ ∃ a vs, v = .ref a ∧ IsL G "list" a vs ∧ RVs G xs vs
  | .tup xs, v => okL xs ∧ ∃ a vs, v = .ref a ∧ IsL G "tuple" a vs ∧ RVs G xs vs
  | .range a b, v => ∃ r t u w, v = .ref r ∧ G r = some { cls := .type "range", dict := none, data := .fields #[.int a t, .int b u, .int 1 w], slots := #[] }
noncomputable def RVs (G : GO) : List PV → List Value → Prop
  | [], vs => vs = []
  | x :: xs, vs => ∃ v vs', vs = v :: vs' ∧ RV G x v ∧ RVs G xs vs'
end
theorem IsL.mono {G G' : GO} (h : Sub G G') {c a vs} (x : IsL G c a vs) : IsL G' c a vs := let ⟨n, e⟩ := x; ⟨n, h _ _ e⟩
mutual
theorem RV.mono {G G' : GO} (h : Sub G G') : ∀ {p : PV} {v : Value}, RV G p v → RV G' p v
  | .none, _, x => x
  | .bool _, _, x => x
  | .int _, _, x => x
  | .str _, _, x => x
  | .bytes _, _, x => x
  | .list xs, _, x => by
    obtain ⟨o, a, vs, e, l, r⟩ := x
    exact ⟨o, a, vs, e, l.mono h, RVs.mono h r⟩
  | .tup xs, _, x => by
    obtain ⟨o, a, vs, e, l, r⟩ := x
    exact ⟨o, a, vs, e, l.mono h, RVs.mono h r⟩
  | .range a b, _, x => by
    obtain ⟨r, t, u, w, e, g⟩ := x
    exact ⟨r, t, u, w, e, h _ _ g⟩
theorem RVs.mono {G G' : GO} (h : Sub G G') : ∀ {ps : List PV} {vs : List Value}, RVs G ps vs → RVs G' ps vs
  | [], _, x => x
  | p :: ps, _, x => by
    obtain ⟨v, vs', e, r, rs⟩ := x
    exact ⟨v, vs', e, RV.mono h r, RVs.mono h rs⟩
end
theorem RVs.length {G : GO} : ∀ {ps : List PV} {vs : List Value}, RVs G ps vs → vs.length = ps.length
  | [], _, x => by cases x; rfl
  | p :: ps, _, x => by
    obtain ⟨v, vs', e, r, rs⟩ := x
    subst e; simp [rs.length]
theorem RVs.get {G : GO} : ∀ {ps : List PV} {vs : List Value}, RVs G ps vs → ∀ {i : Nat} {p : PV}, ps[i]? = some p → ∃ v, vs[i]? = some v ∧ RV G p v
  | [], _, x, i, p, e => by simp at e
  | q :: ps, _, x, i, p, e => by
    obtain ⟨v, vs', e', r, rs⟩ := x
    subst e'
    cases i with
    | zero => simp at e; subst e; exact ⟨v, rfl, r⟩
    | succ i => simp at e; simpa using RVs.get rs e
theorem RVs.append {G : GO} : ∀ {ps qs : List PV} {vs ws : List Value}, RVs G ps vs → RVs G qs ws → RVs G (ps ++ qs) (vs ++ ws)
  | [], _, _, _, x, y => by cases x; exact y
  | p :: ps, _, _, _, x, y => by
    obtain ⟨v, vs', e, r, rs⟩ := x
    subst e
    exact ⟨v, _, rfl, r, rs.append y⟩
theorem RVs.drop {G : GO} : ∀ {ps : List PV} {vs : List Value} (n : Nat), RVs G ps vs → RVs G (ps.drop n) (vs.drop n)
  | _, _, 0, x => x
  | [], _, n + 1, x => by cases x; rfl
  | p :: ps, _, n + 1, x => by
    obtain ⟨v, vs', e, r, rs⟩ := x
    subst e
    exact rs.drop n
theorem RVs.take {G : GO} : ∀ {ps : List PV} {vs : List Value} (n : Nat), RVs G ps vs → RVs G (ps.take n) (vs.take n)
  | _, _, 0, x => rfl
  | [], _, n + 1, x => by cases x; rfl
  | p :: ps, _, n + 1, x => by
    obtain ⟨v, vs', e, r, rs⟩ := x
    subst e
    exact ⟨v, _, rfl, r, rs.take n⟩
inductive Tag | free | loc | cell (x : Str) | slot (i : Nat) | aux | ext
noncomputable abbrev Ow := Addr → Tag
noncomputable def Ow.put (ow : Ow) (a : Addr) (t : Tag) : Ow := fun b => if b = a then t else ow b
theorem Ow.put_at (ow : Ow) (a : Addr) (t : Tag) : ow.put a t a = t := if_pos rfl
theorem Ow.put_ne (ow : Ow) {a b : Addr} (t : Tag) (h : b ≠ a) : ow.put a t b = ow b := if_neg h
noncomputable def Tag.mine : Tag → Prop
  | .loc => True
  | .cell _ => True
  | .slot _ => True
  | _ => False
structure Step (P : Addr → Prop) (s s' : Shared) : Prop where
  keep : ∀ b o, s.heap.get? b = some o → ¬ P b → s'.heap.get? b = some o
  os : s'.os = s.os
  gens : ∀ (g : Nat) (x : GenState), s.gens[g]? = some x → s'.gens[g]? = some x
  bare : AllBare s.gens → AllBare s'.gens
noncomputable abbrev Step0 := Step fun zz => False
section
variable {P P' : Addr → Prop} {s s' s'' : Shared}
theorem Step.refl (P : Addr → Prop) (s : Shared) : Step P s s := ⟨fun zz zz e zz => e, rfl, fun zz zz e => e, id⟩
theorem not_none {h : Heap} {b : Addr} {o : Obj} (e : h.get? b = some o) (n : h.get? b = none) : False := nomatch e.symm.trans n
theorem Step.trans (x : Step P s s') (y : Step P' s' s'') (hf : ∀ b, P' b → P b ∨ s.heap.get? b = none) : Step P s s'' where
  keep b o e hb := y.keep b o (x.keep b o e hb) fun h => (hf b h).elim hb (not_none e)
  os := y.os.trans x.os
  gens g z e := y.gens g z (x.gens g z e)
  bare h := y.bare (x.bare h)
theorem Step.trans0 (x : Step P s s') (y : Step P s' s'') : Step P s s'' := x.trans y fun zz => .inl
theorem Step.weak (x : Step P s s') (hf : ∀ b, P b → P' b ∨ s.heap.get? b = none) : Step P' s s' where
  keep b o e hb := x.keep b o e fun h => (hf b h).elim hb (not_none e)
  os := x.os
  gens := x.gens
  bare := x.bare
theorem Step.up (x : Step0 s s') : Step P s s' := x.weak fun zz h => h.elim
theorem Step.get (x : Step0 s s') {b : Addr} {o : Obj} (e : s.heap.get? b = some o) : s'.heap.get? b = some o := x.keep b o e id
theorem Step.alive (x : Step P s s') {b : Addr} (h : (s.heap.get? b).isSome = true) (hb : ¬ P b) : (s'.heap.get? b).isSome = true :=
  let ⟨o, e⟩ := Option.isSome_iff_exists.mp h
  Option.isSome_iff_exists.mpr ⟨o, x.keep b o e hb⟩
theorem none_back (x : Step0 s s') {b : Addr} (h : s'.heap.get? b = none) : s.heap.get? b = none := Option.eq_none_iff_forall_not_mem.mpr fun zz e => not_none (x.get e) h
theorem Step.heapTok {h' : Heap} {tk : Nat} (hk : ∀ b o, s.heap.get? b = some o → ¬ P b → h'.get? b = some o) : Step P s { s with heap := h', toks := tk } := ⟨hk, rfl, fun zz zz e => e, id⟩
theorem Step.heap {h' : Heap} (hk : ∀ b o, s.heap.get? b = some o → ¬ P b → h'.get? b = some o) : Step P s { s with heap := h' } := ⟨hk, rfl, fun zz zz e => e, id⟩
theorem Step.tok {tk : Nat} : Step P s { s with toks := tk } := ⟨fun zz zz e zz => e, rfl, fun zz zz e => e, id⟩
theorem Step.push {o : Obj} : Step P s { s with heap := s.heap.push o } := Step.heap fun zz zz e zz => Heap.get?_push_of_some o e
theorem Step.pushTok {o : Obj} {tk : Nat} : Step P s { s with heap := s.heap.push o, toks := tk } := Step.heapTok fun zz zz e zz => Heap.get?_push_of_some o e
theorem Step.sameBut {a : Addr} {h' : Heap} {tk : Nat} (hs : Heap.SameBut a s.heap h') (ha : P a) : Step P s { s with heap := h', toks := tk } := Step.heapTok fun b zz e hb => (hs.2 b fun q => hb (q ▸ ha)).trans e
theorem Step.extBut {a : Addr} {h' : Heap} {tk : Nat} (hs : Heap.ExtBut a s.heap h') (ha : P a) : Step P s { s with heap := h', toks := tk } := Step.heapTok fun b o e hb => hs b o (fun q => hb (q ▸ ha)) e
end
structure StepN (N : Nat) (P : Addr → Prop) (s s' : Shared) : Prop where
  keep : ∀ b o, s.heap.get? b = some o → ¬ P b → s'.heap.get? b = some o
  os : s'.os = s.os
  gens : ∀ (g : Nat) (x : GenState), g < N → s.gens[g]? = some x → s'.gens[g]? = some x
  bare : AllBare s.gens → AllBare s'.gens
theorem Step.n {N : Nat} {P : Addr → Prop} {s s' : Shared} (x : Step P s s') : StepN N P s s' := ⟨x.keep, x.os, fun g z zz => x.gens g z, x.bare⟩
theorem StepN.trans {N : Nat} {P P' : Addr → Prop} {s s' s'' : Shared} (x : StepN N P s s') (y : StepN N P' s' s'') (hf : ∀ b, P' b → P b ∨ s.heap.get? b = none) : StepN N P s s'' where
  keep b o e hb := y.keep b o (x.keep b o e hb) fun h => (hf b h).elim hb (not_none e)
  os := y.os.trans x.os
  gens g z hg e := y.gens g z hg (x.gens g z hg e)
  bare h := y.bare (x.bare h)
theorem StepN.alive {N : Nat} {P : Addr → Prop} {s s' : Shared} (x : StepN N P s s') {b : Addr} (h : (s.heap.get? b).isSome = true) (hb : ¬ P b) : (s'.heap.get? b).isSome = true :=
  let ⟨o, e⟩ := Option.isSome_iff_exists.mp h
  Option.isSome_iff_exists.mpr ⟨o, x.keep b o e hb⟩
theorem StepN.up {N : Nat} {P P' : Addr → Prop} {s s' : Shared} (x : StepN N P s s') (h : ∀ b, P b → P' b ∨ s.heap.get? b = none) : StepN N P' s s' := ⟨fun b o e hb => x.keep b o e fun q => (h b q).elim hb (not_none e), x.os, x.gens, x.bare⟩
theorem StepN.all {N : Nat} {P : Addr → Prop} {s s' : Shared} (x : StepN N P s s') (h : ∀ (g : Nat) (x : GenState), s.gens[g]? = some x → g < N) : Step P s s' := ⟨x.keep, x.os, fun g z e => x.gens g z (h g z e) e, x.bare⟩
noncomputable def vis (h : Heap) (ow : Ow) : GO := fun b => match ow b with
  | .free => h.get? b
  | _ => none
theorem vis_some {h : Heap} {ow : Ow} {b : Addr} {o : Obj} (e : vis h ow b = some o) : h.get? b = some o ∧ ow b = .free := by
  unfold vis at e
  cases q : ow b <;> rw [q] at e <;> first | exact ⟨e, rfl⟩ | cases e
theorem vis_of {h : Heap} {ow : Ow} {b : Addr} {o : Obj} (e : h.get? b = some o) (hb : ow b = .free) : vis h ow b = some o := by
  unfold vis; rw [hb]; exact e
noncomputable abbrev Keeps (P : Addr → Prop) (s s' : Shared) : Prop := ∀ b o, s.heap.get? b = some o → ¬ P b → s'.heap.get? b = some o
theorem Sub.step {P : Addr → Prop} {s s' : Shared} {ow ow' : Ow} (x : Keeps P s s') (hf : ∀ b, P b → ow b ≠ .free ∨ s.heap.get? b = none) (hh : ∀ b, ow b = .free → ow' b = .free ∨ s.heap.get? b = none) : Sub (vis s.heap ow) (vis s'.heap ow') := fun b o e =>
  have ⟨e1, nb⟩ := vis_some e
  vis_of (x b o e1 fun hb => (hf b hb).elim (· nb) (not_none e1)) ((hh b nb).elim id fun q => (not_none e1 q).elim)
theorem Sub.step0 {s s' : Shared} {ow : Ow} (x : Step0 s s') : Sub (vis s.heap ow) (vis s'.heap ow) := Sub.step x.keep (fun zz h => h.elim) fun zz => .inl
theorem Sub.heap {h : Heap} {ow : Ow} : Sub (vis h ow) h.get? := fun zz zz e => (vis_some e).1
theorem Sub.less {h : Heap} {ow ow' : Ow} (hh : ∀ b, ow b = .free → ow' b = .free) : Sub (vis h ow) (vis h ow') := fun zz zz e => vis_of (vis_some e).1 (hh _ (vis_some e).2)
noncomputable def Lv (s : Shared) (ow : Ow) : Prop := ∀ b, ow b ≠ .free → (s.heap.get? b).isSome = true
theorem Lv.step {s s' : Shared} {ow : Ow} (l : Lv s ow) (x : Step0 s s') : Lv s' ow := fun b h => x.alive (l b h) id
theorem Lv.free {s : Shared} {ow : Ow} (l : Lv s ow) {a : Addr} (h : s.heap.get? a = none) : ow a = .free := Classical.byContradiction fun q => Bool.false_ne_true ((congrArg Option.isSome h).symm.trans (l a q))
theorem IsL.list {G : GO} {h : Heap} (hs : Sub G h.get?) {a vs} (x : IsL G "list" a vs) : h.IsList a vs.toArray := let ⟨n, e⟩ := x; ⟨_, hs _ _ e, rfl, n, rfl⟩
theorem IsL.tuple {G : GO} {h : Heap} (hs : Sub G h.get?) {a vs} (x : IsL G "tuple" a vs) : h.IsTuple a vs.toArray := let ⟨n, e⟩ := x; ⟨_, hs _ _ e, rfl, n, rfl⟩
theorem IsL.vis {h : Heap} {ow : Ow} {c : String} {a vs} (x : IsL h.get? c a vs) (ha : ow a = .free) : IsL (vis h ow) c a vs := let ⟨n, e⟩ := x; ⟨n, vis_of e ha⟩
theorem IsL.step {s s' : Shared} {c : String} {a vs} (x : IsL s.heap.get? c a vs) (h : Step0 s s') : IsL s'.heap.get? c a vs := let ⟨n, e⟩ := x; ⟨n, h.get e⟩
noncomputable abbrev Rm (r : Nat) (A : Around) : Prop := (A.handled = none) ∧ (A.depth + r < 900) ∧ (A.units + 50 * r < 9000)
section
variable {a_ b_} (x_ : Rm a_ b_)
def Rm.handled := x_.1
def Rm.depth := x_.2.1
def Rm.units := x_.2.2
end
theorem Rm.le {r r' : Nat} {A : Around} (x : Rm r A) (h : r' ≤ r) : Rm r' A := ⟨x.handled, Nat.lt_of_le_of_lt (Nat.add_le_add_left h _) x.depth, Nat.lt_of_le_of_lt (Nat.add_le_add_left (Nat.mul_le_mul_left _ h) _) x.units⟩
theorem Rm.deeper {r : Nat} {A : Around} (x : Rm (r + 1) A) (env : Env) : Rm r (A.deeper env) := ⟨x.handled, by have := x.depth; show A.depth + 1 + r < 900; lia, by have := x.units; show A.units + 3 + 50 * r < 9000; lia⟩
theorem Rm.room {r : Nat} {A : Around} (x : Rm r A) : A.depth < recursionLimit := Nat.lt_trans (Nat.lt_of_le_of_lt (Nat.le_add_right _ _) x.depth) (by decide)
noncomputable abbrev WP {α : Type} (prog : Program) (w : World) (A : Around) (t : Sem α) (Q : α → Shared → Prop) (s : Shared) : Prop := wpAny (model prog w) A t Q (fun zz zz => False) s
theorem WP.e {α : Type} {prog : Program} {w : World} {A : Around} {t : Sem α} {Q : α → Shared → Prop} {s : Shared} {E : Value → Shared → Prop} (h : WP prog w A t Q s) : wpAny (model prog w) A t Q E s :=
  wpAny_mono h (fun zz zz x => x) fun zz zz x => x.elim
theorem WP.mono {α : Type} {prog : Program} {w : World} {A : Around} {t : Sem α} {Q Q' : α → Shared → Prop} {s : Shared} {E : Value → Shared → Prop} (h : WP prog w A t Q s) (hq : ∀ a s', Q a s' → Q' a s') : wpAny (model prog w) A t Q' E s :=
  wpAny_mono h hq fun zz zz x => x.elim
noncomputable def sLt : List Nat → List Nat → Bool
  | _, [] => false
  | [], _ :: _ => true
  | a :: as, b :: bs => if Nat.blt a b then true else if Nat.beq a b then sLt as bs else false
noncomputable def sEq : List Nat → List Nat → Bool
  | [], [] => true
  | a :: as, b :: bs => Nat.beq a b && sEq as bs
  | _, _ => false
noncomputable def isPre : List Nat → List Nat → Bool
  | [], _ => true
  | _ :: _, [] => false
  | a :: as, b :: bs => Nat.beq a b && isPre as bs
noncomputable def findAt (w : List Nat) : List Nat → Nat → Option Nat
  | [], i => if w.isEmpty then some i else none
  | c :: s, i => if isPre w (c :: s) then some i else findAt w s (i + 1)
noncomputable def findIn (s w : List Nat) (lo hi : Nat) : Int :=
  if min hi s.length < lo then -1 else
  match findAt w ((s.take hi).drop lo) lo with
  | some i => (i : Int)
  | none => -1
noncomputable def occL (w : List Nat) : List Nat → Nat → Nat → List Nat
  | [], i, free => if Nat.ble free i && isPre w [] then [i] else []
  | c :: s, i, free => if Nat.ble free i && isPre w (c :: s) then i :: occL w s (i + 1) (i + w.length) else occL w s (i + 1) free
noncomputable def cutParts (s : List Nat) (k : Nat) : Nat → List Nat → List (List Nat)
  | a, [] => [s.drop a]
  | a, c :: cs => (s.drop a).take (c - a) :: cutParts s k (c + k) cs
noncomputable def splitP (w s : List Nat) : List (List Nat) := cutParts s w.length 0 (occL w s 0 0)
noncomputable abbrev clampIx (n : Nat) (i : Int) : Nat := clipAt n i
noncomputable def pySlice {α : Type} (l : List α) (lo hi : Int) : List α := (l.drop (clampIx l.length lo)).take (clampIx l.length hi - clampIx l.length lo)
noncomputable abbrev pyIx (n : Nat) (i : Int) : Option Nat := seqIndex? i n
noncomputable def opt {α β : Type} : (o : Option α) → ((a : α) → o = some a → Option β) → Option β
  | none, _ => none
  | some a, f => f a rfl
theorem opt_some {α β : Type} {o : Option α} {a : α} (h : o = some a) (f : (a : α) → o = some a → Option β) : opt o f = f a h := by subst h; rfl
noncomputable def lowA (c : Nat) : Nat := if Nat.ble 65 c && Nat.ble c 90 then c + 32 else c
noncomputable def insS (x : List Nat) : List (List Nat) → List (List Nat)
  | [] => [x]
  | y :: ys => if sLt y x then y :: insS x ys else x :: y :: ys
noncomputable def sortS : List (List Nat) → List (List Nat)
  | [] => []
  | x :: xs => insS x (sortS xs)
noncomputable def addL (l : List (List Nat)) (x : List Nat) : List (List Nat) := if l.any (sEq x) then l else l ++ [x]
noncomputable def dedupS (l : List (List Nat)) : List (List Nat) := l.foldl addL []
noncomputable def rangeL (a : Int) : Nat → List Int
  | 0 => []
  | n + 1 => a :: rangeL (a + 1) n
inductive Op1 | len | neg | lower | decode | chr | abs | int_ | list_ | sorted_ | rev
inductive Op2 | add | sub | mul | fdiv | mod | pow | eq | ne | lt | le | gt | ge | is_ | isNot | in_ | notIn | idx | from_ | to_ | startswith | endswith | split | join | index | divmod
noncomputable abbrev lenLine : Nat := LEN
end Mine

set_option maxRecDepth 100000
namespace Mine
open PySem PySem.W PyProof.Rows
noncomputable def RW (h : Heap) (hid : Ow) (p : PV) (v : Value) : Prop :=
  RV (vis h hid) p v ∨ ∃ a xs vs, p = .list xs ∧ okL xs ∧ v = .ref a ∧ IsL h.get? "list" a vs ∧ RVs (vis h hid) xs vs
theorem size_none (h : Heap) : h.get? h.objs.size = none := Option.eq_none_iff_forall_not_mem.mpr fun zz e => Nat.lt_irrefl _ (Heap.lt_size e)
theorem isSome_of {α : Type} {o : Option α} {a : α} (e : o = some a) : o.isSome = true := e ▸ rfl
theorem get_none {h : Heap} {a : Addr} (ha : h.objs.size ≤ a) : h.get? a = none := Option.eq_none_iff_forall_not_mem.mpr fun zz e => Nat.not_lt.mpr ha (Heap.lt_size e)
theorem alive_not {h : Heap} {b : Addr} (e : (h.get? b).isSome = true) (n : h.get? b = none) : False := Bool.false_ne_true ((congrArg Option.isSome n).symm.trans e)
noncomputable def PE (s : Shared) (hid : Ow) (p : PV) (v : Value) (s' : Shared) : Prop := Step0 s s' ∧ RV (vis s'.heap hid) p v
structure Oc where
  prog : Program
  w : World
  A : Around
  s : Shared
  hid : Ow
  R : Rm 1 A
  live : Lv s hid
noncomputable def Oc.Is (c : Oc) (p : PV) (v : Value) : Prop := RW c.s.heap c.hid p v
noncomputable def Oc.W (c : Oc) (x : Sem Value) (r : PV) : Prop := WP c.prog c.w c.A x (PE c.s c.hid r) c.s
section
variable {h : Heap} {hid : Ow} {v : Value}
theorem list_inj {a b : List PV} (h : PV.list a = .list b) : a = b := by injection h
theorem RW.get {p : PV} (x : RW h hid p v) (hp : ∀ xs, p ≠ .list xs) : RV (vis h hid) p v := x.resolve_right fun y => by
  obtain ⟨_, _, _, e, _⟩ := y
  exact hp _ e
inductive IsLst (h : Heap) (hid : Ow) (xs : List PV) : Value → Prop
  | mk (a : Addr) (vs : List Value) (ok : okL xs) (l : IsL h.get? "list" a vs) (r : RVs (vis h hid) xs vs) : IsLst h hid xs (.ref a)
inductive IsTup' (h : Heap) (hid : Ow) (xs : List PV) : Value → Prop
  | mk (a : Addr) (vs : List Value) (ok : okL xs) (l : IsL (vis h hid) "tuple" a vs) (r : RVs (vis h hid) xs vs) : IsTup' h hid xs (.ref a)
theorem RW.list {xs : List PV} (x : RW h hid (.list xs) v) : IsLst h hid xs v := by
  rcases x with x | ⟨a, _, vs, e, o, e', l, r⟩
  · obtain ⟨o, a, vs, e, l, r⟩ := x
    exact e ▸ .mk a vs o (l.mono Sub.heap) r
  · exact e' ▸ .mk a vs ((list_inj e) ▸ o) l ((list_inj e) ▸ r)
theorem RW.tup {xs : List PV} (x : RW h hid (.tup xs) v) : IsTup' h hid xs v := let ⟨o, a, vs, e, l, r⟩ := x.get fun zz e => nomatch e; e ▸ .mk a vs o l r
theorem RW.int {i : Int} (x : RW h hid (.int i) v) : ∃ t, v = .int i t := x.get fun zz e => nomatch e
theorem RW.bool {b : Bool} (x : RW h hid (.bool b) v) : v = .bool b := x.get fun zz e => nomatch e
theorem RW.none (x : RW h hid .none v) : v = .none := x.get fun zz e => nomatch e
theorem RW.str {a : List Nat} (x : RW h hid (.str a) v) : (∃ t, v = .str ⟨a.toArray⟩ t) ∧ okS a := x.get fun zz e => nomatch e
theorem RW.bytes {a : List UInt8} (x : RW h hid (.bytes a) v) : (∃ t, v = .bytes a.toArray t) ∧ a.length ≤ LEN := x.get fun zz e => nomatch e
theorem RW.mono {h' : Heap} {hid' : Ow} {p : PV} (x : RW h hid p v) (hk : ∀ b o, h.get? b = some o → h'.get? b = some o) (hv : Sub (vis h hid) (vis h' hid')) : RW h' hid' p v :=
  x.imp (·.mono hv) fun y => by
    obtain ⟨a, xs, vs, e, o, e', l, r⟩ := y
    exact ⟨a, xs, vs, e, o, e', l.mono hk, r.mono hv⟩
theorem RW.step {s s' : Shared} {hid : Ow} {p : PV} {v : Value} (x : RW s.heap hid p v) (hs : Step0 s s') : RW s'.heap hid p v :=
  x.mono (fun zz zz => hs.get) (Sub.step0 hs)
end
section
variable {c : Oc} {s s' : Shared} {hid : Ow}
theorem PE.int {i : Int} {t : Tok} {tk : Nat} : PE s hid (.int i) (.int i t) { s with toks := tk } := ⟨Step.tok, t, rfl⟩
theorem PE.bool {b : Bool} : PE s hid (.bool b) (.bool b) s := ⟨Step.refl _ _, rfl⟩
theorem PE.str {x : List Nat} {t : Tok} {tk : Nat} (h : okS x) : PE s hid (.str x) (.str ⟨x.toArray⟩ t) { s with toks := tk } := ⟨Step.tok, ⟨t, rfl⟩, h⟩
theorem PE.bytes {x : List UInt8} {t : Tok} {tk : Nat} (h : x.length ≤ LEN) : PE s hid (.bytes x) (.bytes x.toArray t) { s with toks := tk } := ⟨Step.tok, ⟨t, rfl⟩, h⟩
theorem PE.newSeq {vs : List Value} {ps : List PV} {tk : Nat} {k : String} {p : PV} (hl : Lv s hid) (hr : RVs (vis s.heap hid) ps vs)
    (hp : ∀ G a, IsL G k a vs → RVs G ps vs → RV G p (.ref a)) : PE s hid p (.ref s.heap.objs.size) { s with heap := s.heap.push { cls := .type k, data := .seq vs.toArray }, toks := tk } :=
  have hst : Step0 s { s with heap := s.heap.push { cls := .type k, data := .seq vs.toArray }, toks := tk } := Step.heapTok fun zz zz e zz => Heap.get?_push_of_some _ e
  ⟨hst, hp _ _ (IsL.vis ⟨0, Heap.get?_push_size _ rfl⟩ (hl.free (size_none _))) (hr.mono (Sub.step0 hst))⟩
theorem PE.newList {vs : List Value} {ps : List PV} {tk : Nat} (hl : Lv s hid) (hr : RVs (vis s.heap hid) ps vs) (ho : okL ps) :
    PE s hid (.list ps) (.ref s.heap.objs.size) { s with heap := s.heap.push { cls := .type "list", data := .seq vs.toArray }, toks := tk } := PE.newSeq hl hr fun zz zz l r => ⟨ho, _, _, rfl, l, r⟩
theorem PE.newTup {vs : List Value} {ps : List PV} {tk : Nat} (hl : Lv s hid) (hr : RVs (vis s.heap hid) ps vs) (ho : okL ps) :
    PE s hid (.tup ps) (.ref s.heap.objs.size) { s with heap := s.heap.push { cls := .type "tuple", data := .seq vs.toArray }, toks := tk } := PE.newSeq hl hr fun zz zz l r => ⟨ho, _, _, rfl, l, r⟩
end
noncomputable def S2 (f : Value → Value → Sem Value) (p q r : PV) : Prop := ∀ (c : Oc) (v u : Value), c.Is p v → c.Is q u → c.W (f v u) r
noncomputable def S1 (f : Value → Sem Value) (p r : PV) : Prop := ∀ (c : Oc) (v : Value), c.Is p v → c.W (f v) r
section
variable {f : Value → Value → Sem Value} {g : Value → Sem Value} {r : PV}
theorem S1.i {a : Int} (h : ∀ (c : Oc) t, c.W (g (.int a t)) r) : S1 g (.int a) r := fun c v hp => by obtain ⟨t, rfl⟩ := hp.int; exact h c t
theorem S1.s {a : List Nat} (h : okS a → ∀ (c : Oc) t, c.W (g (.str ⟨a.toArray⟩ t)) r) : S1 g (.str a) r := fun c v hp => by obtain ⟨⟨t, rfl⟩, o⟩ := hp.str; exact h o c t
theorem S1.by {a : List UInt8} (h : a.length ≤ LEN → ∀ (c : Oc) t, c.W (g (.bytes a.toArray t)) r) : S1 g (.bytes a) r := fun c v hp => by obtain ⟨⟨t, rfl⟩, o⟩ := hp.bytes; exact h o c t
theorem S1.l {xs : List PV} (h : okL xs → ∀ (c : Oc) a vs, IsL c.s.heap.get? "list" a vs → RVs (vis c.s.heap c.hid) xs vs → c.W (g (.ref a)) r) : S1 g (.list xs) r := fun c v hp => by cases hp.list; exact h ‹_› c _ _ ‹_› ‹_›
theorem S2.ii {a b : Int} (h : ∀ (c : Oc) t t', c.W (f (.int a t) (.int b t')) r) : S2 f (.int a) (.int b) r := fun c v u hp hq => by obtain ⟨t, rfl⟩ := hp.int; obtain ⟨t', rfl⟩ := hq.int; exact h c t t'
theorem S2.ss {a b : List Nat} (h : okS a → okS b → ∀ (c : Oc) t t', c.W (f (.str ⟨a.toArray⟩ t) (.str ⟨b.toArray⟩ t')) r) : S2 f (.str a) (.str b) r := fun c v u hp hq => by obtain ⟨⟨t, rfl⟩, o⟩ := hp.str; obtain ⟨⟨t', rfl⟩, o'⟩ := hq.str; exact h o o' c t t'
theorem S2.si {a : List Nat} {b : Int} (h : okS a → ∀ (c : Oc) t t', c.W (f (.str ⟨a.toArray⟩ t) (.int b t')) r) : S2 f (.str a) (.int b) r := fun c v u hp hq => by obtain ⟨⟨t, rfl⟩, o⟩ := hp.str; obtain ⟨t', rfl⟩ := hq.int; exact h o c t t'
end
theorem all_append {a b : List Nat} {f : Nat → Bool} (ha : a.all f = true) (hb : b.all f = true) : (a ++ b).all f = true := by rw [List.all_append, ha, hb]; rfl
theorem str_append (a b : List Nat) : (⟨a.toArray⟩ : Str) ++ ⟨b.toArray⟩ = ⟨(a ++ b).toArray⟩ := congrArg Str.mk (List.append_toArray a b)
theorem str_len (a : List Nat) : (⟨a.toArray⟩ : Str).length = a.length := rfl
theorem len_line {n : Nat} (h : n ≤ LEN) : n ≤ sizeLine := Nat.le_trans h (by decide)
theorem len_63 {n : Nat} (h : n ≤ LEN) : (n : Int) < 2 ^ 63 := Int.lt_of_le_of_lt (Int.ofNat_le.mpr h) (by decide)
theorem sAddInt (a b : Int) : S2 (binaryOp .Add) (.int a) (.int b) (.int (a + b)) := .ii fun zz zz zz => add_int PE.int
theorem sAddStr (a b : List Nat) (h : a.length + b.length ≤ LEN) : S2 (binaryOp .Add) (.str a) (.str b) (.str (a ++ b)) := .ss fun ha hb zz zz zz =>
  add_str (fun zz zz => (str_append a b).symm ▸ PE.str ⟨all_append ha.1 hb.1, Nat.le_trans (Nat.le_of_eq List.length_append) h⟩) (len_line (n := a.length + b.length) h)
theorem sAddBytes (a b : List UInt8) (h : a.length + b.length ≤ LEN) : S2 (binaryOp .Add) (.bytes a) (.bytes b) (.bytes (a ++ b)) := fun c v u hp hq => by
  obtain ⟨⟨t, rfl⟩, _⟩ := hp.bytes
  obtain ⟨⟨t', rfl⟩, _⟩ := hq.bytes
  exact PySem.W.KBy.add_bytes (len_line (n := a.length + b.length) h) fun zz zz => (List.append_toArray a b).symm ▸ PE.bytes (Nat.le_trans (Nat.le_of_eq List.length_append) h)
theorem okL_append {a b : List PV} (oa : okL a) (ob : okL b) (h : a.length + b.length ≤ LEN) : okL (a ++ b) :=
  ⟨(okPys_append _ _ _).trans (by rw [oa.1, ob.1]; rfl), Nat.le_trans (Nat.le_of_eq List.length_append) h⟩
theorem sAddList (a b : List PV) (h : a.length + b.length ≤ LEN) : S2 (binaryOp .Add) (.list a) (.list b) (.list (a ++ b)) := fun c v u hp hq => by
  obtain ⟨x, vs, oa, ⟨_, la⟩, ra⟩ := hp.list
  obtain ⟨y, ws, ob, ⟨_, lb⟩, rb⟩ := hq.list
  exact PySem.P.add_list la lb ((List.append_toArray vs ws).symm ▸ PE.newList c.live (ra.append rb) (okL_append oa ob h)) (len_line (n := vs.length + ws.length) (by rw [ra.length, rb.length]; exact h))
theorem sSubBool (a b : Bool) : S2 (binaryOp .Sub) (.bool a) (.bool b) (.int (b2i a - b2i b)) := fun c v u hp hq => by cases hp.bool; cases hq.bool; exact sub_bool PE.int
theorem sSubInt (a b : Int) : S2 (binaryOp .Sub) (.int a) (.int b) (.int (a - b)) := .ii fun zz zz zz => sub_int PE.int
theorem fdiv_pos (a b : Int) (h : 0 < b) : a.fdiv b = a / b := Int.fdiv_eq_ediv_of_nonneg a (Int.le_of_lt h)
theorem fmod_pos (a b : Int) (h : 0 < b) : a.fmod b = a % b := Int.fmod_eq_emod_of_nonneg a (Int.le_of_lt h)
theorem mul_flat (x : List Nat) (n : Nat) : ((List.replicate n x.toArray).foldl (· ++ ·) #[] : Array Nat) = ((List.replicate n x).flatten).toArray := by
  have key : ∀ (n : Nat) (acc : Array Nat), (List.replicate n x.toArray).foldl (· ++ ·) acc = acc ++ ((List.replicate n x).flatten).toArray := by
    intro n
    induction n with
    | zero => intro acc; simp
    | succ n ih => intro acc; simp [List.replicate_succ, ih]
  simpa using key n #[]
theorem all_flat {x : List Nat} {f : Nat → Bool} (n : Nat) (h : x.all f = true) : ((List.replicate n x).flatten).all f = true := by
  induction n with
  | zero => rfl
  | succ n ih => rw [List.replicate_succ, List.flatten_cons]; exact all_append h ih
set_option tactic.hygienic true in
theorem mul_is (x : List Nat) (n : Nat) : Txt.mul ⟨x.toArray⟩ n = ⟨((List.replicate n x).flatten).toArray⟩ := by
  unfold Txt.mul
  split
  · have : n = 0 := by lia
    subst this; rfl
  · split
    · rename_i h
      simp only [str_len, Bool.or_eq_true, beq_iff_eq] at h
      rcases h with h | h
      · have : n = 1 := by lia
        subst this; simp
      · have : x = [] := by simpa using h
        subst this; simp
    · exact congrArg Str.mk (mul_flat x n)
theorem mulOk_small {x : List Nat} {n : Nat} (h1 : n ≤ 1000) (h2 : x.length ≤ 50) : PySem.MulOk ⟨x.toArray⟩ n := by
  have h : x.length * n ≤ 50 * 1000 := Nat.mul_le_mul h2 h1
  refine ⟨by simp; lia, fun h3 zz => ?_, fun h3 zz => decide_eq_false (Nat.not_lt.mpr (Nat.le_trans h (by decide)))⟩
  have : (9223372036854775 : Int) ≤ (2 ^ 63 - 1) / n := (Int.le_ediv_iff_mul_le (by lia)).mpr (by lia)
  rw [str_len]; lia
theorem sMulInt (a b : Int) (h : a.natAbs < 2 ^ 64) : S2 (binaryOp .Mult) (.int a) (.int b) (.int (a * b)) := .ii fun zz zz zz => mul_int PE.int (IntMulOk.of_left (intBits_le_64 (by lia) (by lia)))
theorem flat_len (x : List Nat) (n : Nat) : ((List.replicate n x).flatten).length = n * x.length := by
  simp only [List.length_flatten, List.map_replicate, List.sum_replicate_nat]
theorem sMulStr (x : List Nat) (n : Nat) (h1 : n ≤ 1000) (h2 : x.length ≤ 50) : S2 (binaryOp .Mult) (.str x) (.int n) (.str (List.replicate n x).flatten) := .si fun hx zz zz zz =>
  PySem.SB.mul (mulOk_small h1 h2) fun zz zz => (mul_is x n).symm ▸ PE.str ⟨all_flat _ hx.1, Nat.le_trans (Nat.le_of_eq (flat_len x n)) (Nat.le_trans (Nat.mul_le_mul h1 h2) (by decide))⟩
theorem sFdiv (a b : Int) (h : 0 < b) (h2 : b < 1073741824) : S2 (binaryOp .FloorDiv) (.int a) (.int b) (.int (a / b)) := .ii fun zz zz zz =>
  floordiv_int (Int.ne_of_gt h) ((fdiv_pos a b h).symm ▸ PE.int) (Or.inl (PyProof.noPylong_small (by lia)))
theorem sMod (a b : Int) (h : 0 < b) : S2 (binaryOp .Mod) (.int a) (.int b) (.int (a % b)) := .ii fun zz zz zz => mod_int (Int.ne_of_gt h) ((fmod_pos a b h).symm ▸ PE.int)
theorem sPow (a b : Int) (h : 0 ≤ b ∧ b ≤ 64 ∧ 0 ≤ a ∧ a ≤ 64) : S2 (binaryOp .Pow) (.int a) (.int b) (.int (a ^ b.toNat)) := .ii fun zz zz zz => pow_int_small (by lia) (by lia) (by lia) PE.int
mutual
noncomputable def toPy : PV → PyData
  | .none => .none
  | .bool b => .bool b
  | .int i => .int i
  | .str s => .str ⟨s.toArray⟩
  | .list xs => .list (toPys xs)
  | .tup xs => .tuple (toPys xs)
  | _ => .none
noncomputable def toPys : List PV → List PyData
  | [] => []
  | x :: xs => toPy x :: toPys xs
end
noncomputable abbrev Rd (G : GO) (h : Heap) (v : Value) (d : PyData) (n : Nat) : Prop := (∃ as, Reads h v d as) ∧ (d.canLay0 = true) ∧ (d.depth ≤ n)
section
variable {a_ b_ c_ d_ e_} (x_ : Rd a_ b_ c_ d_ e_)
end
noncomputable abbrev Rds (G : GO) (h : Heap) (vs : List Value) (ds : List PyData) (n : Nat) : Prop := (∃ as, ReadsAll h vs ds as) ∧ (PyData.canLayAll0 ds = true) ∧ (PyData.depthAll ds ≤ n)
section
variable {a_ b_ c_ d_ e_} (x_ : Rds a_ b_ c_ d_ e_)
end
theorem strOk_of {a : List Nat} (h : okS a) : (PyData.str ⟨a.toArray⟩).canLay0 = true := by
  rw [PyData.canLay0, PyData.strOk, ← Array.all_toList, List.all_eq_true]
  intro c hc
  have := List.all_eq_true.mp h.1 c (by simpa using hc)
  simp only [decide_eq_true_eq] at this ⊢
  lia
mutual
theorem reads_of {G : GO} {h : Heap} (hs : Sub G h.get?) : ∀ {p : PV} {n : Nat} {v : Value}, okPy p n = true → RV G p v → Rd G h v (toPy p) n
  | .none, _, _, _, x => by cases x; exact ⟨⟨_, .none⟩, rfl, Nat.zero_le _⟩
  | .bool b, _, _, _, x => by cases x; exact ⟨⟨_, .bool b⟩, rfl, Nat.zero_le _⟩
  | .int i, _, _, _, x => by obtain ⟨t, rfl⟩ := x; exact ⟨⟨_, .int i t⟩, rfl, Nat.zero_le _⟩
  | .str i, _, _, _, x => by obtain ⟨⟨t, rfl⟩, ha⟩ := x; exact ⟨⟨_, .str _ t⟩, strOk_of ha, Nat.zero_le _⟩
  | .list xs, n + 1, _, k, x => by
    obtain ⟨o, a, vs, rfl, ⟨m, l⟩, r⟩ := x
    obtain ⟨⟨as, r'⟩, c, e⟩ := readss_of hs k r
    exact ⟨⟨_, .list (hs _ _ l) rfl rfl r'⟩, c, Nat.succ_le_succ e⟩
  | .tup xs, n + 1, _, k, x => by
    obtain ⟨o, a, vs, rfl, ⟨m, l⟩, r⟩ := x
    obtain ⟨⟨as, r'⟩, c, e⟩ := readss_of hs k r
    exact ⟨⟨_, .tuple (hs _ _ l) rfl rfl r'⟩, c, Nat.succ_le_succ e⟩
  | .list xs, 0, _, k, _ => nomatch k
  | .tup xs, 0, _, k, _ => nomatch k
  | .bytes _, 0, _, k, _ => nomatch k
  | .range _ _, 0, _, k, _ => nomatch k
  | .bytes _, _ + 1, _, k, _ => nomatch k
  | .range _ _, _ + 1, _, k, _ => nomatch k
theorem readss_of {G : GO} {h : Heap} (hs : Sub G h.get?) : ∀ {ps : List PV} {n : Nat} {vs : List Value}, okPys ps n = true → RVs G ps vs → Rds G h vs (toPys ps) n
  | [], _, _, _, x => by cases x; exact ⟨⟨_, .nil⟩, rfl, Nat.zero_le _⟩
  | p :: ps, _, _, k, x => by
    obtain ⟨v, vs', rfl, r, rs⟩ := x
    obtain ⟨k1, k2⟩ := (Bool.and_eq_true _ _).mp k
    obtain ⟨⟨as, r'⟩, c, e⟩ := reads_of hs k1 r
    obtain ⟨⟨bs, rs'⟩, c', e'⟩ := readss_of hs k2 rs
    exact ⟨⟨_, .cons r' rs'⟩, (Bool.and_eq_true _ _).mpr ⟨c, c'⟩, Nat.max_le.mpr ⟨e, e'⟩⟩
end
noncomputable def plainP : PV → Bool
  | .bytes _ => false
  | .range _ _ => false
  | _ => true
set_option tactic.hygienic true in
theorem Is.reads {c : Oc} {p : PV} {v : Value} (x : c.Is p v) (hp : plainP p = true) : Rd (vis c.s.heap c.hid) c.s.heap v (toPy p) 9 := by
  cases p
  case list xs =>
    obtain ⟨a, vs, ok, ⟨m, l⟩, r⟩ := x.list
    obtain ⟨⟨as, r'⟩, q, e⟩ := readss_of Sub.heap ok.1 r
    exact ⟨⟨_, .list l rfl rfl r'⟩, q, Nat.succ_le_succ e⟩
  case tup xs => exact reads_of Sub.heap (n := 9) (show okPys xs 8 = true from (x.get fun zz e => nomatch e).1.1) (x.get fun zz e => nomatch e)
  case bytes => cases hp
  case range => cases hp
  all_goals exact reads_of Sub.heap rfl (x.get fun zz e => nomatch e)
theorem sEq_iff : ∀ a b : List Nat, sEq a b = true ↔ a = b
  | [], [] => ⟨fun zz => rfl, fun zz => rfl⟩
  | [], _ :: _ => ⟨fun h => absurd (show false = true from h) Bool.false_ne_true, fun h => nomatch h⟩
  | _ :: _, [] => ⟨fun h => absurd (show false = true from h) Bool.false_ne_true, fun h => nomatch h⟩
  | a :: as, b :: bs => by
    show (Nat.beq a b && sEq as bs) = true ↔ _
    rw [Bool.and_eq_true, sEq_iff as bs, Nat.beq_eq, List.cons.injEq]
theorem str_beq (a b : List Nat) : ((⟨a.toArray⟩ : Str) == ⟨b.toArray⟩) = sEq a b := by
  rw [Bool.eq_iff_iff, sEq_iff]; simp
theorem and_t {a b c : Bool} (h : a = true) (h' : b = c) : (a && b) = c := by subst h; exact h'
theorem and_f {a b : Bool} (h : a = false) : (a && b) = false := by subst h; rfl
theorem or_t {a b : Bool} (h : a = true) : (a || b) = true := by subst h; rfl
theorem or_f {a b c : Bool} (h : a = false) (h' : b = c) : (a || b) = c := by subst h; exact h'
mutual
noncomputable def pyEqS : (p q : PV) → Option {b : Bool // PyData.eqv (toPy p) (toPy q) = b ∧ plainP p = true ∧ plainP q = true}
  | .none, .none => some ⟨true, rfl, rfl, rfl⟩
  | .bool a, .bool b => some ⟨a == b, rfl, rfl, rfl⟩
  | .int a, .int b => some ⟨a == b, rfl, rfl, rfl⟩
  | .str a, .str b => some ⟨sEq a b, str_beq a b, rfl, rfl⟩
  | .list a, .list b => (pyEqsS a b).map fun x => ⟨x.1, x.2, rfl, rfl⟩
  | .tup a, .tup b => (pyEqsS a b).map fun x => ⟨x.1, x.2, rfl, rfl⟩
  | _, _ => none
noncomputable def pyEqsS : (ps qs : List PV) → Option {b : Bool // PyData.eqvAll (toPys ps) (toPys qs) = b}
  | [], [] => some ⟨true, rfl⟩
  | [], _ :: _ => some ⟨false, rfl⟩
  | _ :: _, [] => some ⟨false, rfl⟩
  | a :: as, b :: bs => (pyEqS a b).bind fun x => if h : x.1 = true then (pyEqsS as bs).map fun y => ⟨y.1, and_t (x.2.1.trans h) y.2⟩ else some ⟨false, and_f (x.2.1.trans (Bool.not_eq_true _ ▸ h))⟩
end
noncomputable def pyEq (p q : PV) : Option Bool := (pyEqS p q).map (·.1)
noncomputable def pyEqs (p q : List PV) : Option Bool := (pyEqsS p q).map (·.1)
noncomputable def memS (p : PV) : (xs : List PV) → Option {b : Bool // ((toPys xs).any fun y => PyData.eqv y (toPy p)) = b}
  | [] => some ⟨false, rfl⟩
  | x :: xs => (pyEqS x p).bind fun r => if h : r.1 = true then some ⟨true, or_t (r.2.1.trans h)⟩ else (memS p xs).map fun y => ⟨y.1, or_f (r.2.1.trans (Bool.not_eq_true _ ▸ h)) y.2⟩
theorem Oc.room (c : Oc) {a b k : Nat} (h : a ≤ 9 ∨ b ≤ 9) (hk : k ≤ 1) : c.A.units + k + min a b < cLine :=
  have h9 : min a b ≤ 9 := h.elim (Nat.le_trans (Nat.min_le_left _ _)) (Nat.le_trans (Nat.min_le_right _ _))
  Nat.lt_of_le_of_lt (Nat.add_le_add (Nat.add_le_add (Nat.le_of_lt (Nat.lt_of_le_of_lt (Nat.le_add_right _ _) c.R.units)) hk) h9) (by decide)
theorem sEq2 {p q : PV} {b : Bool} (h : PyData.eqv (toPy p) (toPy q) = b ∧ plainP p = true ∧ plainP q = true) : S2 (compareOp .Eq) p q (.bool b) := fun c v u hp hq => by
  obtain ⟨⟨as, ra⟩, ca, da⟩ := Is.reads hp h.2.1
  obtain ⟨⟨bs, rb⟩, cb, _⟩ := Is.reads hq h.2.2
  exact SeqAt.compareEq_reads ra rb ca cb (c.room (k := 0) (.inl da) (Nat.zero_le _)) (h.1.symm ▸ PE.bool)
theorem sNe2 {p q : PV} {b : Bool} (h : PyData.eqv (toPy p) (toPy q) = b ∧ plainP p = true ∧ plainP q = true) : S2 (compareOp .NotEq) p q (.bool (!b)) := fun c v u hp hq => by
  obtain ⟨⟨as, ra⟩, ca, da⟩ := Is.reads hp h.2.1
  obtain ⟨⟨bs, rb⟩, cb, _⟩ := Is.reads hq h.2.2
  exact SeqAt.compareNe_reads ra rb ca cb (c.room (k := 0) (.inl da) (Nat.zero_le _)) (h.1.symm ▸ PE.bool)
theorem sEqBytes (a b : List UInt8) : S2 (compareOp .Eq) (.bytes a) (.bytes b) (.bool (a == b)) := fun c v u hp hq => by
  obtain ⟨⟨t, rfl⟩, _⟩ := hp.bytes
  obtain ⟨⟨t', rfl⟩, _⟩ := hq.bytes
  exact PySem.W.eq_bytes PE.bool
theorem sNeBytes (a b : List UInt8) : S2 (compareOp .NotEq) (.bytes a) (.bytes b) (.bool (!(a == b))) := fun c v u hp hq => by
  obtain ⟨⟨t, rfl⟩, _⟩ := hp.bytes
  obtain ⟨⟨t', rfl⟩, _⟩ := hq.bytes
  exact PySem.W.ne_bytes PE.bool
theorem sLt_eq : ∀ a b : List Nat, decide (a < b) = sLt a b
  | [], [] => decide_eq_false (List.not_lt_nil _)
  | [], _ :: _ => decide_eq_true (List.nil_lt_cons _ _)
  | _ :: _, [] => decide_eq_false (List.not_lt_nil _)
  | a :: as, b :: bs => by
    rw [StrLaws.lt_cons_cons, sLt_eq as bs]
    show _ = if Nat.blt a b = true then true else if Nat.beq a b = true then sLt as bs else false
    by_cases h : a < b
    · have : Nat.blt a b = true := Nat.ble_eq_true_of_le h
      simp [this, h]
    · have : Nat.blt a b = false := by
        cases q : Nat.blt a b with
        | false => rfl
        | true => exact absurd (Nat.le_of_ble_eq_true q) h
      simp [this, h]
      by_cases q : a = b <;> simp [q]
theorem sLtInt (a b : Int) : S2 (compareOp .Lt) (.int a) (.int b) (.bool (decide (a < b))) := .ii fun zz zz zz => lt_int PE.bool
theorem sLeInt (a b : Int) : S2 (compareOp .LtE) (.int a) (.int b) (.bool (decide (a ≤ b))) := .ii fun zz zz zz => le_int PE.bool
theorem sGtInt (a b : Int) : S2 (compareOp .Gt) (.int a) (.int b) (.bool (decide (b < a))) := .ii fun zz zz zz => gt_int PE.bool
theorem sGeInt (a b : Int) : S2 (compareOp .GtE) (.int a) (.int b) (.bool (decide (b ≤ a))) := .ii fun zz zz zz => ge_int PE.bool
theorem sLtStr (a b : List Nat) : S2 (compareOp .Lt) (.str a) (.str b) (.bool (sLt a b)) := .ss fun zz zz zz zz zz => lt_str ((sLt_eq a b).symm ▸ PE.bool)
theorem sGtStr (a b : List Nat) : S2 (compareOp .Gt) (.str a) (.str b) (.bool (sLt b a)) := .ss fun zz zz zz zz zz => PySem.P.gt_str ((sLt_eq b a).symm ▸ PE.bool)
noncomputable def isPS : (p q : PV) → Option {b : Bool // ∀ (c : Oc) v u, c.Is p v → c.Is q u → plainIs v u = true ∧ (v == u) = b}
  | .bool a, .bool b => some ⟨a == b, fun c v u hp hq => by cases hp.bool; cases hq.bool; refine ⟨rfl, ?_⟩; rw [Bool.eq_iff_iff]; simp⟩
  | .int _, .bool _ => some ⟨false, fun c v u hp hq => by obtain ⟨t, rfl⟩ := hp.int; cases hq.bool; exact ⟨rfl, rfl⟩⟩
  | .str _, .bool _ => some ⟨false, fun c v u hp hq => by obtain ⟨⟨t, rfl⟩, _⟩ := hp.str; cases hq.bool; exact ⟨rfl, rfl⟩⟩
  | .none, .none => some ⟨true, fun c v u hp hq => by cases hp.none; cases hq.none; exact ⟨rfl, rfl⟩⟩
  | .str _, .none => some ⟨false, fun c v u hp hq => by obtain ⟨⟨t, rfl⟩, _⟩ := hp.str; cases hq.none; exact ⟨rfl, rfl⟩⟩
  | .int _, .none => some ⟨false, fun c v u hp hq => by obtain ⟨t, rfl⟩ := hp.int; cases hq.none; exact ⟨rfl, rfl⟩⟩
  | .list _, .none => some ⟨false, fun c v u hp hq => by cases hp.list; cases hq.none; exact ⟨rfl, rfl⟩⟩
  | _, _ => none
theorem sIs {p q : PV} (x : {b : Bool // ∀ (c : Oc) v u, c.Is p v → c.Is q u → plainIs v u = true ∧ (v == u) = b}) : S2 (compareOp .Is) p q (.bool x.1) := fun c v u hp hq =>
  have h := x.2 c v u hp hq
  wpAny_is_plain h.1 (h.2.symm ▸ PE.bool)
theorem sIsNot {p q : PV} (x : {b : Bool // ∀ (c : Oc) v u, c.Is p v → c.Is q u → plainIs v u = true ∧ (v == u) = b}) : S2 (compareOp .IsNot) p q (.bool (!x.1)) := fun c v u hp hq =>
  have h := x.2 c v u hp hq
  wpAny_isNot_plain h.1 (h.2.symm ▸ PE.bool)
theorem sInList {p : PV} {xs : List PV} {b : Bool} (hp : plainP p = true) (h : ((toPys xs).any fun y => PyData.eqv y (toPy p)) = b) : S2 (compareOp .In) p (.list xs) (.bool b) := fun c v u x y => by
  obtain ⟨⟨as, ra⟩, ca, da⟩ := Is.reads x hp
  obtain ⟨⟨bs, rb⟩, cb, _⟩ := Is.reads y rfl
  exact SeqAt.in_list_reads rb ra cb ca (c.room (.inr da) (Nat.le_refl 1)) (h.symm ▸ PE.bool)
theorem sNotInList {p : PV} {xs : List PV} {b : Bool} (hp : plainP p = true) (h : ((toPys xs).any fun y => PyData.eqv y (toPy p)) = b) : S2 (compareOp .NotIn) p (.list xs) (.bool (!b)) := fun c v u x y => by
  obtain ⟨⟨as, ra⟩, ca, da⟩ := Is.reads x hp
  obtain ⟨⟨bs, rb⟩, cb, _⟩ := Is.reads y rfl
  exact SeqAt.notIn_list_reads rb ra cb ca (c.room (.inr da) (Nat.le_refl 1)) (h.symm ▸ PE.bool)
theorem sNotInTup {p : PV} {xs : List PV} {b : Bool} (hp : plainP p = true) (h : ((toPys xs).any fun y => PyData.eqv y (toPy p)) = b) : S2 (compareOp .NotIn) p (.tup xs) (.bool (!b)) := fun c v u x y => by
  obtain ⟨⟨as, ra⟩, ca, da⟩ := Is.reads x hp
  obtain ⟨⟨bs, rb⟩, cb, _⟩ := Is.reads y rfl
  exact SeqAt.notIn_tuple_reads rb ra cb ca (c.room (.inr da) (Nat.le_refl 1)) (h.symm ▸ PE.bool)
set_option tactic.hygienic true in
theorem ix_cases {n k : Nat} {i : Int} (h : pyIx n i = some k) : k < n ∧ (0 ≤ i ∧ i.toNat = k ∨ i < 0 ∧ 0 ≤ i + n ∧ (i + n).toNat = k) := by
  have key : ∀ j : Int, (if (decide (0 ≤ j) && decide (j < n)) = true then some j.toNat else none) = some k → 0 ≤ j ∧ j < n ∧ j.toNat = k := fun j h => by
    split at h
    · rename_i q
      obtain ⟨q1, q2⟩ := (Bool.and_eq_true _ _).mp q
      exact ⟨of_decide_eq_true q1, of_decide_eq_true q2, Option.some.inj h⟩
    · cases h
  obtain ⟨h1, h2, rfl⟩ := key _ h
  refine ⟨(Int.toNat_lt h1).mpr h2, ?_⟩
  clear key h h2
  split at h1
  · exact .inr ⟨‹_›, h1, by rw [if_pos ‹_›]⟩
  · exact .inl ⟨h1, by rw [if_neg ‹_›]⟩
theorem ix_fits {n k : Nat} {i : Int} (h : pyIx n i = some k) (hn : n ≤ LEN) : k < n ∧ (-(2 ^ 63) ≤ i ∧ i < 2 ^ 63) ∧ (0 ≤ i ∧ i.toNat = k ∨ i < 0 ∧ -(n : Int) ≤ i ∧ (i + n).toNat = k) := by
  have hn' : (n : Int) ≤ 100000 := Int.ofNat_le.mpr hn
  obtain ⟨h1, ⟨h2, h3⟩ | ⟨h2, h3, h4⟩⟩ := ix_cases h
  · exact ⟨h1, ⟨Int.le_trans (by decide) h2, Int.lt_of_lt_of_le ((Int.toNat_lt h2).mp (h3 ▸ h1)) (Int.le_trans hn' (by decide))⟩, .inl ⟨h2, h3⟩⟩
  · have h5 : -(n : Int) ≤ i := Int.neg_le_of_neg_le (Int.le_of_sub_nonneg (by rw [Int.sub_neg, Int.add_comm]; exact h3)) 
    exact ⟨h1, ⟨Int.le_trans (Int.le_trans (by decide) (Int.neg_le_neg hn')) h5, Int.lt_trans h2 (by decide)⟩, .inr ⟨h2, h5, h4⟩⟩
theorem sIdxStr {x : List Nat} {i : Int} {k ch : Nat} (hk : pyIx x.length i = some k) (hc : x[k]? = some ch) : S2 getItem (.str x) (.int i) (.str [ch]) := .si fun hx c t t' => by
  have h := ix_fits hk hx.2
  refine PySem.P.getItem_str (c := ch) ?_ ((congrArg (fun o : Option Nat => o.bind fun k => x.toArray[k]?) hk).trans ((List.getElem?_toArray).trans hc)) (PE.str ⟨?_, by show 1 ≤ 100000; decide⟩)
  · rw [decide_eq_false (Int.not_lt.mpr h.2.1.1), decide_eq_false (Int.not_le.mpr h.2.1.2)]; rfl
  · exact List.all_eq_true.mpr fun d hd => List.mem_singleton.mp hd ▸ List.all_eq_true.mp hx.1 ch (List.mem_of_getElem? hc)
theorem sIdxList {xs : List PV} {i : Int} {k : Nat} {p : PV} (hk : pyIx xs.length i = some k) (hp : xs[k]? = some p) : S2 getItem (.list xs) (.int i) p := fun c v u hv hu => by
  obtain ⟨a, vs, ok, la, ra⟩ := hv.list
  obtain ⟨t, rfl⟩ := hu.int
  obtain ⟨y, hy, hr⟩ := ra.get hp
  obtain ⟨_, h1, h2 | ⟨h2, h3, h4⟩⟩ := ix_fits hk ok.2
  · exact wpAny_getItem_list (IsL.list (fun zz zz e => e) la) h2.1 h1.2 (x := y) (by rw [h2.2]; simpa using hy) ⟨Step.refl _ _, hr⟩
  · refine wpAny_getItem_list_neg (IsL.list (fun zz zz e => e) la) h2 (by simp; rw [ra.length]; exact h3) h1.1 (x := y) ?_ ⟨Step.refl _ _, hr⟩
    rw [List.size_toArray, ra.length, h4]; simpa using hy
theorem sIdxTup {xs : List PV} {i : Int} {k : Nat} {p : PV} (hk : pyIx xs.length i = some k) (hp : xs[k]? = some p) : S2 getItem (.tup xs) (.int i) p := fun c v u hv hu => by
  obtain ⟨a, vs, ok, ⟨m, la⟩, ra⟩ := hv.tup
  obtain ⟨t, rfl⟩ := hu.int
  obtain ⟨y, hy, hr⟩ := ra.get hp
  obtain ⟨_, h1, _⟩ := ix_fits hk ok.2
  exact PyProof.Rows.getItem_tuple (items := vs.toArray) (j := k) ⟨_, (vis_some la).1, rfl, m, rfl⟩ h1.1 h1.2 (by rw [List.size_toArray, ra.length]; exact hk) (x := y) (by simpa using hy) ⟨Step.refl _ _, hr⟩
theorem isPre_iff : ∀ a b : List Nat, isPre a b = true ↔ b.take a.length = a
  | [], _ => ⟨fun zz => rfl, fun zz => rfl⟩
  | _ :: _, [] => ⟨fun h => absurd (show false = true from h) Bool.false_ne_true, fun h => nomatch h⟩
  | a :: as, b :: bs => by
    show (Nat.beq a b && isPre as bs) = true ↔ _
    rw [Bool.and_eq_true, isPre_iff as bs]
    simp only [List.length_cons, List.take_succ_cons, List.cons.injEq]
    constructor
    · rintro ⟨h1, h2⟩; exact ⟨(Nat.eq_of_beq_eq_true h1).symm, h2⟩
    · rintro ⟨h1, h2⟩; exact ⟨by subst h1; exact Nat.beq_refl _, h2⟩
theorem findAt_spec (w : List Nat) : ∀ (s : List Nat) (i : Nat), (findAt w s i = none ∧ ∀ k, k ≤ s.length → isPre w (s.drop k) = false) ∨ ∃ k, findAt w s i = some (i + k) ∧ k ≤ s.length ∧ isPre w (s.drop k) = true ∧ ∀ j, j < k → isPre w (s.drop j) = false
  | [], i => by
    rw [show findAt w [] i = if w.isEmpty = true then some i else none from rfl]
    cases w with
    | nil => exact .inr ⟨0, by simp, by simp, rfl, fun j hj => absurd hj (by lia)⟩
    | cons c w => exact .inl ⟨by simp, fun k zz => by rw [List.drop_nil]; rfl⟩
  | c :: s, i => by
    rw [show findAt w (c :: s) i = if isPre w (c :: s) = true then some i else findAt w s (i + 1) from rfl]
    cases h : isPre w (c :: s) with
    | true => exact .inr ⟨0, by simp, by simp, by simpa using h, fun j hj => absurd hj (by lia)⟩
    | false =>
      simp only [Bool.false_eq_true, if_false]
      rcases findAt_spec w s (i + 1) with ⟨e, hn⟩ | ⟨k, e, hk, hp, hn⟩
      · refine .inl ⟨e, fun k hk => ?_⟩
        cases k with
        | zero => simpa using h
        | succ k => exact hn k (by simpa using hk)
      · refine .inr ⟨k + 1, by rw [e]; congr 1; lia, by simpa using hk, by simpa using hp, fun j hj => ?_⟩
        cases j with
        | zero => simpa using h
        | succ j => exact hn j (by lia)
open PySem.Builtin.Str in
theorem at_iff (x w : List Nat) (hi i : Nat) (hh : hi ≤ x.length) : StrLaws.At ⟨x.toArray⟩ ⟨w.toArray⟩ hi i ↔ i ≤ hi ∧ isPre w ((x.take hi).drop i) = true := by
  unfold StrLaws.At
  rw [StrLaws.subAt_eq, isPre_iff, beq_iff_eq, str_len]
  show i + w.length ≤ hi ∧ (x.drop i).take w.length = w ↔ _
  constructor
  · rintro ⟨h1, h2⟩
    refine ⟨by lia, ?_⟩
    rw [List.drop_take, List.take_take, Nat.min_eq_left (by lia)]; exact h2
  · rintro ⟨h1, h2⟩
    have hl := congrArg List.length h2
    simp only [List.length_take, List.length_drop] at hl
    have : w.length ≤ hi - i := by lia
    refine ⟨by lia, ?_⟩
    rw [List.drop_take, List.take_take, Nat.min_eq_left this] at h2
    exact h2
open PySem.Builtin.Str in
theorem contains_eq (x w : List Nat) : Txt.contains ⟨x.toArray⟩ ⟨w.toArray⟩ = (findAt w x 0).isSome := by
  show (!(occurrences ⟨x.toArray⟩ ⟨w.toArray⟩ 0 (Str.length ⟨x.toArray⟩) 1).isEmpty) = _
  have ho := StrLaws.occ_head ⟨x.toArray⟩ ⟨w.toArray⟩ 1 (Nat.le_refl _)
  rcases findAt_spec w x 0 with ⟨e, hn⟩ | ⟨k, e, hk, hp, hn⟩
  · rw [e]
    rcases ho with ⟨h0, _⟩ | ⟨i, r, h0, ha, _⟩
    · rw [h0]; rfl
    · rw [str_len] at ha
      obtain ⟨a1, a2⟩ := (at_iff x w x.length i (Nat.le_refl _)).mp ha
      rw [List.take_length, hn i a1] at a2
      cases a2
  · rw [e]
    rcases ho with ⟨h0, hno⟩ | ⟨i, r, h0, ha, _⟩
    · refine absurd ?_ (hno k)
      rw [str_len]
      exact (at_iff x w x.length k (Nat.le_refl _)).mpr ⟨hk, by rw [List.take_length]; exact hp⟩
    · rw [h0]; rfl
theorem sInStr (a b : List Nat) : S2 (compareOp .In) (.str a) (.str b) (.bool (findAt a b 0).isSome) := .ss fun zz zz zz zz zz => PySem.SB.contains ((contains_eq b a).symm ▸ PE.bool)
theorem sNotInStr (a b : List Nat) : S2 (compareOp .NotIn) (.str a) (.str b) (.bool (!(findAt a b 0).isSome)) := .ss fun zz zz zz zz zz => PySem.SB.notContains ((contains_eq b a).symm ▸ PE.bool)
noncomputable def sliceO {α : Type} (l : List α) (lo hi : Option Int) : List α := (l.drop (lo.elim 0 (clampIx l.length))).take (hi.elim l.length (clampIx l.length) - lo.elim 0 (clampIx l.length))
theorem sliceO_clip {α : Type} (l : List α) (lo hi : Option Int) : sliceO l lo hi = (l.drop (lo.elim 0 (clipAt l.length))).take (hi.elim l.length (clipAt l.length) - lo.elim 0 (clipAt l.length)) := rfl
theorem sliceO_from {α : Type} (l : List α) (a : Int) : sliceO l (some a) none = l.drop (clampIx l.length a) := by
  show (l.drop _).take _ = _
  exact List.take_of_length_le (by simp)
theorem sliceO_to {α : Type} (l : List α) (a : Int) : sliceO l none (some a) = l.take (clampIx l.length a) := by
  show (l.drop 0).take (_ - 0) = _
  simp
theorem clip_le (n : Nat) (i : Int) : clipAt n i ≤ n := Int.ofNat_le.mp (Int.le_trans (Int.le_of_eq (clipAt_cast n i)) (Int.max_le.mpr ⟨Int.natCast_nonneg _, Int.min_le_right _ _⟩))
theorem sliceO_len {α : Type} (l : List α) (lo hi : Option Int) : (sliceO l lo hi).length ≤ l.length := by
  exact Nat.le_trans (List.length_take_le' _ _) (Nat.le_trans (Nat.le_of_eq List.length_drop) (Nat.sub_le _ _))
theorem sliceO_mem {α : Type} {l : List α} {lo hi : Option Int} {x : α} (h : x ∈ sliceO l lo hi) : x ∈ l := List.mem_of_mem_drop (List.mem_of_mem_take h)
theorem okS_slice {x : List Nat} (lo hi : Option Int) (h : okS x) : okS (sliceO x lo hi) := by
  refine ⟨List.all_eq_true.mpr fun c hc => List.all_eq_true.mp h.1 c (sliceO_mem hc), Nat.le_trans (sliceO_len _ _ _) h.2⟩
theorem okL_slice {x : List PV} (lo hi : Option Int) (h : okL x) : okL (sliceO x lo hi) := ⟨okPys_sub (fun zz hc => sliceO_mem hc) h.1, Nat.le_trans (sliceO_len _ _ _) h.2⟩
theorem RVs.slice {G : GO} {ps : List PV} {vs : List Value} (lo hi : Option Int) (h : RVs G ps vs) : RVs G (sliceO ps lo hi) (sliceO vs lo hi) := by
  unfold sliceO
  rw [h.length]
  exact (h.drop _).take _
theorem str_toList (x : List Nat) : (⟨x.toArray⟩ : Str).cps.toList = x := by simp
theorem strIdx_bounds (lo hi : Option Int) (n : Nat) : Builtin.Str.strSliceIndices lo hi 1 n = sliceRange ((lo.elim 0 (clipAt n) : Nat) : Int) ((hi.elim n (clipAt n) : Nat) : Int) 1 := by
  have h := sliceBounds_plain lo hi n
  unfold sliceBounds at h
  simp only [Option.getD_none] at h
  have h1 := congrArg Prod.fst h
  have h2 := congrArg (fun x => x.2.1) h
  unfold Builtin.Str.strSliceIndices
  dsimp only at h1 h2
  cases lo <;> cases hi <;> simp_all
theorem slicePicked_is (x : List Nat) (l u : Option (Int × Tok)) : ((slicePicked ⟨x.toArray⟩ l u none).filterMap ((⟨x.toArray⟩ : Str).cps[·]?)) = sliceO x (l.map (·.1)) (u.map (·.1)) := by
  unfold slicePicked
  simp only [Option.map_none, Option.getD_none]
  rw [strIdx_bounds, str_len, sliceRange_one, pick_run, sliceO_clip]
theorem slicePicked_len (x : List Nat) (l u : Option (Int × Tok)) : (slicePicked ⟨x.toArray⟩ l u none).length = u.elim x.length (fun q => clipAt x.length q.1) - l.elim 0 (fun q => clipAt x.length q.1) := by
  unfold slicePicked
  simp only [Option.map_none, Option.getD_none]
  rw [strIdx_bounds, str_len, sliceRange_one]
  cases l <;> cases u <;> simp
section
variable {prog : Program} {w : World} {A : Around} {s : Shared} {hid : Ow} {p q r : PV} {v u : Value}
theorem slice_whole {α : Type} {l : List α} {a b : Nat} (h : b - a = l.length) (hb : b ≤ l.length) : (l.drop a).take (b - a) = l := by
  by_cases h0 : a = 0
  · subst h0; rw [h]; simp
  · have : l.length = 0 := by lia
    have : l = [] := by simpa using this
    subst this; simp
set_option tactic.hygienic true in
theorem getItem_str_slice {x : List Nat} {t : Tok} {a : Addr} {l u : Option (Int × Tok)} (hx : okS x) (hs : s.heap.get? a = some { cls := .type "slice", dict := none, data := .fields #[partValue l, partValue u, .none], slots := #[] }) :
    WP prog w A (getItem (.str ⟨x.toArray⟩ t) (.ref a)) (PE s hid (.str (sliceO x (l.map (·.1)) (u.map (·.1))))) s := by
  refine wpAny_getItem_str_slice (st := none) ⟨_, hs, rfl, rfl⟩ rfl ?_
  unfold sliceMade
  have hk := okS_slice (l.map (·.1)) (u.map (·.1)) hx
  split
  · rename_i h
    simp only [Option.map_none, Option.getD_none, beq_self_eq_true, Bool.true_and, beq_iff_eq] at h
    have e : sliceO x (l.map (·.1)) (u.map (·.1)) = x := by
      rw [str_len, slicePicked_len] at h
      rw [sliceO_clip]
      have hcl : ∀ i, clipAt x.length i ≤ x.length := fun i => clip_le _ i
      cases l <;> cases u <;> exact slice_whole h (by first | exact Nat.le_refl _ | exact hcl _)
    rw [e]
    exact PE.str (tk := s.toks) hx
  · refine ⟨?_, ?_⟩
    · rw [slicePicked_is, str_len]
      exact Nat.le_trans hk.2 (by decide)
    · rw [slicePicked_is]
      exact PE.str hk
theorem getItem_list_slice {xs : List PV} {b a : Addr} {vs : List Value} {vl vu : Value} {lo hi : Option Int} (hl : Lv s hid) (hk : okL xs) (hb : IsL s.heap.get? "list" b vs) (hr : RVs (vis s.heap hid) xs vs)
    (pl : IsPart vl lo) (pu : IsPart vu hi)
    (hs : s.heap.get? a = some { cls := .type "slice", dict := none, data := .fields #[vl, vu, .none], slots := #[] }) :
    WP prog w A (getItem (.ref b) (.ref a)) (PE s hid (.list (sliceO xs lo hi))) s := by
  refine wpAny_getItem_list_slice (IsL.list (fun zz zz e => e) hb) ⟨_, hs, rfl, rfl⟩ pl pu .none (by intro h; cases h) ?_ (by simp; rw [hr.length]; exact Nat.le_trans hk.2 (by decide))
  rw [slicePick_plain]
  have := PE.newList (tk := s.toks) hl (hr.slice lo hi) (okL_slice lo hi hk)
  rw [sliceO_clip vs] at this
  simpa using this
theorem picked_is (b : List UInt8) (lo hi : Option Int) : KBy.picked b.toArray lo hi = (sliceO b lo hi).toArray := by
  unfold KBy.picked Builtin.Bytes.sliced
  rw [sliceBounds_plain]
  simp only [sliceRange_one, pick_run]
  rw [sliceO_clip]; simp
theorem getItem_bytes_slice {x : List UInt8} {t : Tok} {a : Addr} {vl vu : Value} {lo hi : Option Int} (hx : x.length ≤ LEN) (pl : IsPart vl lo) (pu : IsPart vu hi)
    (hs : s.heap.get? a = some { cls := .type "slice", dict := none, data := .fields #[vl, vu, .none], slots := #[] }) :
    WP prog w A (getItem (.bytes x.toArray t) (.ref a)) (PE s hid (.bytes (sliceO x lo hi))) s := by
  refine getItem_meets (typeIs_bytes s _ t) (by decide) FB.slot_bytes_getitem FB.entry_bytes_getitem (FB.args_bytes_getitem_2 _ _) (PySem.W.KBc.meets_slice2 _ t a pl pu) ⟨⟨_, hs, rfl, rfl⟩, ?_, ?_⟩
  · rw [picked_is]; simp; exact Nat.le_trans (Nat.le_trans (sliceO_len _ _ _) hx) (by decide)
  · intro t' k
    rw [picked_is]
    exact ⟨Step.tok, ⟨t', rfl⟩, Nat.le_trans (sliceO_len _ _ _) hx⟩
end
theorem part_of {v : Value} {o : Option Int} (h : IsPart v o) : ∃ l : Option (Int × Tok), v = partValue l ∧ l.map (·.1) = o := by
  cases h
  · exact ⟨none, rfl, rfl⟩
  · exact ⟨some (_, _), rfl, rfl⟩
noncomputable def HasItems (s : Shared) (v : Value) : Prop := ∃ T id, s.TypeIs v T ∧ typeLookup (.type T) "__getitem__" = pure (some (.builtin id))
noncomputable def S3 (lo hi : Option Int) (p r : PV) : Prop := ∀ (c : Oc) (v : Value) (a : Addr) (vl vu : Value), IsPart vl lo → IsPart vu hi → c.s.heap.get? a = some { cls := .type "slice", dict := none, data := .fields #[vl, vu, .none], slots := #[] } → c.Is p v →
  HasItems c.s v ∧ c.W (getItem v (.ref a)) r
theorem sSlStr (x : List Nat) (lo hi : Option Int) : S3 lo hi (.str x) (.str (sliceO x lo hi)) := fun c v a vl vu h1 h2 hs hp => by
  obtain ⟨⟨t, rfl⟩, hx⟩ := hp.str
  obtain ⟨l, rfl, rfl⟩ := part_of h1
  obtain ⟨u, rfl, rfl⟩ := part_of h2
  exact ⟨⟨"str", "str.__getitem__", typeIs_str _ _ _, F.slot_str_getitem.lookup⟩, getItem_str_slice hx hs⟩
theorem sSlBytes (x : List UInt8) (lo hi : Option Int) : S3 lo hi (.bytes x) (.bytes (sliceO x lo hi)) := fun c v a vl vu h1 h2 hs hp => by
  obtain ⟨⟨t, rfl⟩, hx⟩ := hp.bytes
  exact ⟨⟨"bytes", "bytes.__getitem__", typeIs_bytes _ _ _, FB.slot_bytes_getitem.lookup⟩, getItem_bytes_slice hx h1 h2 hs⟩
theorem sSlList (x : List PV) (lo hi : Option Int) : S3 lo hi (.list x) (.list (sliceO x lo hi)) := fun c v a vl vu h1 h2 hs hp => by
  obtain ⟨b, vs, ok, la, ra⟩ := hp.list
  exact ⟨let ⟨_, e⟩ := la; ⟨"list", "list.__getitem__", ⟨_, e, rfl⟩, slot_list_getitem.lookup⟩, getItem_list_slice c.live ok la ra h1 h2 hs⟩
theorem forIn_steps {β : Type} (f : Nat → β → Sem (ForInStep β)) (g : Nat → β) : ∀ (n a : Nat), (∀ i, a ≤ i → i < a + n → f i (g i) = pure (.yield (g (i + 1)))) → forIn (List.range' a n) (g a) f = (pure (g (a + n)) : Sem β)
  | 0, a, _ => by simp
  | n + 1, a, h => by
    rw [List.range'_succ, List.forIn_cons, h a (Nat.le_refl _) (by lia), pure_bind]
    show forIn (List.range' (a + 1) n) (g (a + 1)) f = _
    rw [forIn_steps f g n (a + 1) (fun i h1 h2 => h i (by lia) (by lia))]
    congr 2; lia
theorem decoder_step {b : Array UInt8} {p : Nat} (h : (b.getD p 0).toNat < 128) : Builtin._codecs.utf8Decoder.find true b p = .text [(b.getD p 0).toNat] (p + 1) := by
  have : Builtin.Bytes.utf8At b p = (.char (b.getD p 0).toNat, p + 1) := by
    unfold Builtin.Bytes.utf8At
    simp only [h, if_true]
  unfold Builtin._codecs.utf8Decoder
  dsimp only
  rw [this]; rfl
theorem run_ascii {b : List UInt8} (hb : b.all (fun c => decide (c.toNat < 128)) = true) (hlen : b.length ≤ LEN) (id : String) :
    Builtin._codecs.runDecoder id Builtin._codecs.utf8Decoder none true b.toArray 0 [] = pure ((b.map UInt8.toNat).toArray, b.length) := by
  unfold Builtin._codecs.runDecoder
  simp only [Std.Legacy.Range.forIn_eq_forIn_range', Std.Legacy.Range.size]
  have hn : (b.toArray.size - 0 + 1 - 1) / 1 = b.length := by simp
  rw [hn]
  have key := forIn_steps (β := Nat × Array Nat × Builtin._codecs.Faults)
  refine (congrArg (· >>= _) (key _ (fun i => (i, ((b.take i).map UInt8.toNat).toArray, {})) b.length 0 ?_)).trans ?_
  · intro i _ hi
    have hi' : i < b.length := by lia
    have h1 : ¬ ((b.take i).map UInt8.toNat).toArray.size > sizeLine := by
      simp only [List.size_toArray, List.length_map, List.length_take]
      rw [show sizeLine = 16777216 from rfl]
      have : LEN = 100000 := rfl
      lia
    have h2 : ¬ i ≥ b.toArray.size := by simp; lia
    have hc : b.toArray.getD i 0 = b[i] := by simp [hi']
    have h3 : (b.toArray.getD i 0).toNat < 128 := by
      rw [hc]
      have := List.all_eq_true.mp hb b[i] (List.getElem_mem _)
      simpa using this
    simp only [if_neg h1, if_neg h2, decoder_step h3]
    congr 4
    rw [hc]
    rw [List.take_add_one, List.getElem?_eq_getElem hi', Option.toList_some, List.map_append, List.append_toArray]
    rfl
  · rw [Nat.zero_add, pure_bind]
    dsimp only
    rw [List.take_length]
theorem decode_empty_eq (t : Tok) : Builtin.«bytes.decode» ⟨[.bytes #[] t], []⟩ = (rule "bytes.decode.empty" >>= fun zz => Builtin.Bytes.payload (.bytes #[] t) >>= fun zz => retStr Str.empty) := by
  kernel_rfl
theorem mapNat_ok {b : List UInt8} (hb : b.all (fun c => decide (c.toNat < 128)) = true) (hlen : b.length ≤ LEN) : okS (b.map UInt8.toNat) := by
  refine ⟨?_, by simpa using hlen⟩
  rw [List.all_map]; exact hb
theorem lower_is (x : List Nat) (h : okS x) : Txt.lower ⟨x.toArray⟩ = ⟨(x.map lowA).toArray⟩ := by
  rw [lower_ascii (by
    intro c hc
    have := List.all_eq_true.mp h.1 c (by simpa using hc)
    simpa using this)]
  congr 1
  have : lo1 = lowA := by
    funext c
    unfold lo1 lowA
    have h1 : Nat.ble 65 c = decide (65 ≤ c) := by rw [Bool.eq_iff_iff]; simp
    have h2 : Nat.ble c 90 = decide (c ≤ 90) := by rw [Bool.eq_iff_iff]; simp
    rw [h1, h2]
    simp only [Bool.and_eq_true, decide_eq_true_eq]
  rw [this]
  simp
theorem okS_lower {x : List Nat} (h : okS x) : okS (x.map lowA) := by
  refine ⟨?_, by simpa using h.2⟩
  rw [List.all_map, List.all_eq_true]
  intro c hc
  have := List.all_eq_true.mp h.1 c hc
  simp only [decide_eq_true_eq] at this
  have key : ∀ c, c < 128 → decide (lowA c < 128) = true := by decide
  exact key c this
noncomputable abbrev fn (x : String) : Value → Sem Value := fun v => call (.builtin x) [v]
noncomputable abbrev fn2 (x : String) : Value → Value → Sem Value := fun v u => call (.builtin x) [v, u]
theorem sLower (x : List Nat) : S1 (fn "str.lower") (.str x) (.str (x.map lowA)) := .s fun hx c t => by
  refine PySem.SC.lower ?_ ((lower_is _ hx).symm ▸ PE.str (okS_lower hx))
  rw [lower_is _ hx, str_len, List.length_map]
  exact decide_eq_false (Nat.not_lt.mpr (len_line hx.2))
theorem sDecode (b : List UInt8) (hb : b.all (fun c => decide (c.toNat < 128)) = true) : S1 (fn "bytes.decode") (.bytes b) (.str (b.map UInt8.toNat)) := .by fun hl c t => by
  cases b with
  | nil =>
    refine wpAny_call_entry FB.slot_bytes_decode (typeIs_bytes c.s _ t) FB.entry_bytes_decode ?_ (FB.args_bytes_decode_1 _)
    rw [show ([] : List UInt8).toArray = #[] from rfl, decode_empty_eq]
    refine wpAny_bind (wpAny_rule (wpAny_bind ?_))
    refine wpAny_of_eq (a := #[]) rfl ?_
    refine wpAny_bind (wpAny_mkStr ?_ (by decide))
    exact wpAny_pure ⟨_, rfl, PE.str (x := []) ⟨rfl, by decide⟩⟩
  | cons d cs =>
    refine PySem.W.KBd.decode (x := ⟨((d :: cs).map UInt8.toNat).toArray⟩) (run_ascii hb hl) ?_ (fun t' k => PE.str (mapNat_ok hb hl))
    rw [str_len, List.length_map]
    exact len_line hl
theorem sLenStr (x : List Nat) : S1 (fn "len") (.str x) (.int x.length) := .s fun hx zz zz => len_str (Int.not_le.mpr (len_63 (n := x.length) hx.2)) PE.int
theorem sLenBytes (x : List UInt8) : S1 (fn "len") (.bytes x) (.int x.length) := .by fun hx zz zz => PySem.W.len_bytes (Nat.le_trans hx (by decide)) PE.int
theorem sLenList (x : List PV) : S1 (fn "len") (.list x) (.int x.length) := .l fun ok c a vs la ra =>
  PySem.Calls.call_len_list (IsL.list (fun zz zz e => e) la) (len_63 (Nat.le_trans (Nat.le_of_eq ra.length) ok.2)) (ra.length ▸ PE.int)
theorem sChr (i : Nat) (h : i < 128) : S1 (fn "chr") (.int i) (.str [i]) := .i fun c t =>
  PySem.P.chr_of_int (by simp; lia) (PE.str (x := [_]) ⟨by simp; lia, (by show 1 ≤ 100000; decide)⟩)
theorem sAbs (i : Int) : S1 (fn "abs") (.int i) (.int i.natAbs) := .i fun c t => call_abs_int fun u tk => by
  have : (if i < 0 then -i else i) = (i.natAbs : Int) := by split <;> lia
  rw [this]; exact PE.int
theorem sInt (i : Int) : S1 (fun v => call (.type "int") [v]) (.int i) (.int i) := .i fun c t => call_int_int (PE.int (tk := c.s.toks))
theorem sNeg (i : Int) : S1 (unaryOp .USub) (.int i) (.int (-i)) := .i fun c t => neg_int PE.int
theorem sDivmod (a b : Int) (h : 0 < b) (h2 : b < 1073741824) : S2 (fn2 "divmod") (.int a) (.int b) (.tup [.int (a / b), .int (a % b)]) := .ii fun c t t' => by
  refine divmod_int (Int.ne_of_gt h) ?_ (Or.inl (PyProof.noPylong_small (by lia)))
  rw [fdiv_pos _ _ h, fmod_pos _ _ h]
  exact PE.newTup (vs := [_, _]) c.live ⟨_, _, rfl, ⟨_, rfl⟩, _, _, rfl, ⟨_, rfl⟩, rfl⟩ ⟨rfl, (by show 2 ≤ 100000; decide)⟩
theorem startswith_is (x y : List Nat) : Txt.startswith ⟨x.toArray⟩ ⟨y.toArray⟩ = isPre y x := by
  unfold Txt.startswith
  rw [StrLaws.subAt_eq, Bool.eq_iff_iff, Bool.and_eq_true, isPre_iff, beq_iff_eq, str_len, str_len, decide_eq_true_eq, str_toList, str_toList]
  simp only [List.drop_zero]
  constructor
  · exact fun h => h.2
  · intro h
    have := congrArg List.length h
    simp only [List.length_take] at this
    exact ⟨by lia, h⟩
theorem endswith_is (x y : List Nat) : Txt.endswith ⟨x.toArray⟩ ⟨y.toArray⟩ = (decide (y.length ≤ x.length) && sEq (x.drop (x.length - y.length)) y) := by
  unfold Txt.endswith
  rw [StrLaws.subAt_eq, Bool.eq_iff_iff, Bool.and_eq_true, Bool.and_eq_true, sEq_iff, beq_iff_eq, str_len, str_len, decide_eq_true_eq, decide_eq_true_eq, str_toList, str_toList, Nat.zero_add]
  constructor
  · rintro ⟨h1, h2⟩
    refine ⟨h1, ?_⟩
    rw [List.take_of_length_le (by simp; lia)] at h2; exact h2
  · rintro ⟨h1, h2⟩
    refine ⟨h1, ?_⟩
    rw [List.take_of_length_le (by simp; lia)]; exact h2
theorem sStarts (x y : List Nat) : S2 (fn2 "str.startswith") (.str x) (.str y) (.bool (isPre y x)) := .ss fun zz zz zz zz zz => PySem.SC.startswith ((startswith_is x y).symm ▸ PE.bool)
theorem sEnds (x y : List Nat) : S2 (fn2 "str.endswith") (.str x) (.str y) (.bool (decide (y.length ≤ x.length) && sEq (x.drop (x.length - y.length)) y)) := .ss fun zz zz zz zz zz => PySem.SC.endswith ((endswith_is x y).symm ▸ PE.bool)
theorem F_args_find4 (a b c d : Value) : argsOk "str.find" ⟨[a, b, c, d], []⟩ := by unfold argsOk; kernel_rfl
theorem gives_find4 (x y : Str) (i j : Int) (t u v v' : Tok) : Gives (Builtin.«str.find» ⟨[.str x t, .str y u, .int i v, .int j v'], []⟩) (.int (match Builtin.Str.occurrences x y (fromIndex x.length i) (min (fromIndex x.length j) x.length) 1 with | k :: _ => (k : Int) | [] => -1)) := by
  show Gives (match Builtin.Str.occurrences x y (fromIndex x.length i) (min (fromIndex x.length j) x.length) 1 with | k :: _ => retInt k | [] => (do rule "str.find.not-found"; retInt (-1))) _
  cases Builtin.Str.occurrences x y (fromIndex x.length i) (min (fromIndex x.length j) x.length) 1 with
  | nil => exact .rule (.of_eq rfl)
  | cons k _ => exact .of_eq rfl
theorem occ_head_hi (x y : Str) (lo hi limit : Nat) (hl : 1 ≤ limit) :
    (Builtin.Str.occurrences x y lo hi limit = [] ∧ ∀ i, lo ≤ i → ¬ StrLaws.At x y hi i) ∨
    ∃ i r, Builtin.Str.occurrences x y lo hi limit = i :: r ∧ lo ≤ i ∧ StrLaws.At x y hi i ∧ ∀ k, lo ≤ k → k < i → ¬ StrLaws.At x y hi k := by
  rw [StrLaws.occ_eq]
  rcases StrLaws.occ_first x y hi limit hl (List.range' lo (hi + 1 - lo)) lo (fun i hi => by have := List.mem_range'_1.mp hi; lia) with ⟨h0, hn⟩ | ⟨pre, a, post, e, h0, ha, hn⟩
  · refine .inl ⟨by rw [h0], fun i hlo hi => ?_⟩
    exact hn i (by have := hi.1; rw [List.mem_range'_1]; lia) hi
  · have hs := StrLaws.range'_split_from e
    refine .inr ⟨a, ((forIn (List.range' lo (hi + 1 - lo)) ((#[] : Array Nat), lo) (StrLaws.occBody x y hi limit)).run.fst.toList).tail, ?_, hs.1, ha, fun k hk0 hk => hn k (hs.2 k hk0 hk)⟩
    generalize (forIn (List.range' lo (hi + 1 - lo)) ((#[] : Array Nat), lo) (StrLaws.occBody x y hi limit)).run.fst = arr at h0
    have h1 : arr.toList[0]? = some a := by simpa using h0
    cases hl : arr.toList with
    | nil => rw [hl] at h1; cases h1
    | cons b l => rw [hl] at h1; simp at h1; subst h1; rfl
theorem find4_is (x y : List Nat) (lo hi : Nat) : (match Builtin.Str.occurrences ⟨x.toArray⟩ ⟨y.toArray⟩ lo (min hi x.length) 1 with | k :: _ => (k : Int) | [] => -1) = findIn x y lo hi := by
  have ho := occ_head_hi ⟨x.toArray⟩ ⟨y.toArray⟩ lo (min hi x.length) 1 (Nat.le_refl _)
  have hat := fun i => at_iff x y (min hi x.length) i (Nat.min_le_right _ _)
  have htk : x.take (min hi x.length) = x.take hi := by
    rcases Nat.le_total hi x.length with h | h
    · rw [Nat.min_eq_left h]
    · rw [Nat.min_eq_right h, List.take_length, List.take_of_length_le h]
  rw [htk] at hat
  unfold findIn
  by_cases hlt : min hi x.length < lo
  · rw [if_pos hlt]
    rcases ho with ⟨h0, _⟩ | ⟨i, r, h0, h1, ha, _⟩
    · rw [h0]
    · have := ((hat i).mp ha).1
      lia
  · rw [if_neg hlt]
    rcases findAt_spec y ((x.take hi).drop lo) lo with ⟨e, hn⟩ | ⟨k, e, hk, hp, hn⟩
    · rw [e]
      rcases ho with ⟨h0, _⟩ | ⟨i, r, h0, h1, ha, _⟩
      · rw [h0]
      · obtain ⟨a1, a2⟩ := (hat i).mp ha
        have := hn (i - lo) (by simp; lia)
        rw [List.drop_drop, show lo + (i - lo) = i by lia, a2] at this
        cases this
    · rw [e]
      rw [List.drop_drop] at hp
      simp only [List.length_drop, List.length_take] at hk
      rcases ho with ⟨h0, hno⟩ | ⟨i, r, h0, h1, ha, hmin⟩
      · exact absurd ((hat (lo + k)).mpr ⟨by lia, hp⟩) (hno _ (by lia))
      · rw [h0]
        obtain ⟨a1, a2⟩ := (hat i).mp ha
        have e1 : i = lo + k := by
          rcases Nat.lt_trichotomy i (lo + k) with h | h | h
          · have := hn (i - lo) (by lia)
            rw [List.drop_drop, show lo + (i - lo) = i by lia, a2] at this
            cases this
          · exact h
          · exact absurd ((hat (lo + k)).mpr ⟨by lia, hp⟩) (hmin _ (by lia) h)
        rw [e1]
theorem fromIndex_nat (n i : Nat) : fromIndex n (i : Int) = i := by unfold fromIndex; rw [if_neg (Int.not_lt.mpr (Int.natCast_nonneg i))]; rfl
theorem sFind (x y : List Nat) (a b : Nat) (c : Oc) (v1 v2 v3 v4 : Value) (h1 : c.Is (.str x) v1) (h2 : c.Is (.str y) v2) (h3 : c.Is (.int a) v3) (h4 : c.Is (.int b) v4) : c.W (call (.builtin "str.find") [v1, v2, v3, v4]) (.int (findIn x y a b)) := by
  obtain ⟨⟨t, rfl⟩, _⟩ := h1.str
  obtain ⟨⟨t', rfl⟩, _⟩ := h2.str
  obtain ⟨t3, rfl⟩ := h3.int
  obtain ⟨t4, rfl⟩ := h4.int
  refine call_gives F.slot_str_find (typeIs_str _ _ _) F.entry_str_find (F_args_find4 _ _ _ _) (gives_find4 _ _ _ _ _ _ _ _) ?_
  rw [fromIndex_nat, fromIndex_nat, str_len, find4_is]
  exact PE.int
theorem occ_run (x w : List Nat) (limit : Nat) : ∀ (n i free : Nat) (st : Array Nat), i + n = x.length → st.size + n < limit → 
    (forIn (List.range' i (n + 1)) (st, free) (StrLaws.occBody ⟨x.toArray⟩ ⟨w.toArray⟩ x.length limit)).run.fst.toList = st.toList ++ occL w (x.drop i) i free := by
  intro n
  induction n with
  | zero =>
    intro i free st hi hlim
    have hd : x.drop i = [] := List.drop_eq_nil_of_le (by lia)
    rw [hd, occL]
    rw [List.range'_succ, List.forIn_cons]
    unfold StrLaws.occBody
    have hat := at_iff x w x.length i (Nat.le_refl _)
    unfold StrLaws.At at hat
    rw [List.take_length, hd] at hat
    have hb : Nat.ble free i = decide (free ≤ i) := by rw [Bool.eq_iff_iff]; simp
    rw [hb]
    by_cases h1 : free ≤ i
    · cases h2 : isPre w [] with
      | true =>
        have h3 := hat.mpr ⟨by lia, h2⟩
        rw [if_pos ⟨⟨⟨(by show st.size < limit; lia), h1⟩, h3.1⟩, h3.2⟩]
        simp [h1]
      | false =>
        rw [if_neg (by rintro ⟨⟨_, h4⟩, h5⟩; have := (hat.mp ⟨h4, h5⟩).2; rw [h2] at this; cases this)]
        simp
    · rw [if_neg (by rintro ⟨⟨⟨_, h4⟩, _⟩, _⟩; exact h1 h4)]
      simp [h1]
  | succ n ih =>
    intro i free st hi hlim
    have hlt : i < x.length := by lia
    have hd : x.drop i = x[i] :: x.drop (i + 1) := List.drop_eq_getElem_cons hlt
    rw [hd, occL, List.range'_succ, List.forIn_cons]
    have hat := at_iff x w x.length i (Nat.le_refl _)
    unfold StrLaws.At at hat
    rw [List.take_length, hd] at hat
    have hb : Nat.ble free i = decide (free ≤ i) := by rw [Bool.eq_iff_iff]; simp
    rw [hb]
    unfold StrLaws.occBody
    by_cases h1 : free ≤ i
    · cases h2 : isPre w (x[i] :: x.drop (i + 1)) with
      | true =>
        have h3 := hat.mpr ⟨by lia, h2⟩
        rw [if_pos ⟨⟨⟨(by show st.size < limit; lia), h1⟩, h3.1⟩, h3.2⟩]
        have := ih (i + 1) (i + w.length) (st.push i) (by lia) (by simp; lia)
        unfold StrLaws.occBody at this
        simp only [str_len] at this ⊢
        simp only [pure_bind, h1, decide_true, Bool.and_self, if_true]
        rw [this]; simp
      | false =>
        rw [if_neg (by rintro ⟨⟨_, h4⟩, h5⟩; have := (hat.mp ⟨h4, h5⟩).2; rw [h2] at this; cases this)]
        have := ih (i + 1) free st (by lia) (by lia)
        unfold StrLaws.occBody at this
        simp only [pure_bind, Bool.and_false, Bool.false_eq_true, if_false]
        exact this
    · rw [if_neg (by rintro ⟨⟨⟨_, h4⟩, _⟩, _⟩; exact h1 h4)]
      have := ih (i + 1) free st (by lia) (by lia)
      unfold StrLaws.occBody at this
      simp only [pure_bind, h1, decide_false, Bool.false_and, Bool.false_eq_true, if_false]
      exact this
theorem occ_is (x w : List Nat) : Builtin.Str.occurrences ⟨x.toArray⟩ ⟨w.toArray⟩ 0 x.length (x.length + 1) = occL w x 0 0 := by
  rw [StrLaws.occ_eq]
  have := occ_run x w (x.length + 1) x.length 0 0 #[] (by lia) (by simp)
  simpa using this
theorem parts_is (x : List Nat) (k : Nat) : ∀ (cs : List Nat) (a : Nat), ((a :: cs.map (· + k)).zip (cs ++ [x.length])).map (fun (i, j) => Builtin.Str.strSub ⟨x.toArray⟩ i j) = (cutParts x k a cs).map fun y => (⟨y.toArray⟩ : Str)
  | [], a => by
    show [Builtin.Str.strSub ⟨x.toArray⟩ a x.length] = [(⟨(x.drop a).toArray⟩ : Str)]
    refine congrArg (fun z => [z]) ?_
    apply Str.ext'
    apply Array.ext'
    rw [StrLaws.strSub_toList, str_toList]
    exact List.take_of_length_le (by simp)
  | c :: cs, a => by
    refine List.cons_eq_cons.mpr ⟨?_, parts_is x k cs (c + k)⟩
    show Builtin.Str.strSub ⟨x.toArray⟩ a c = (⟨((x.drop a).take (c - a)).toArray⟩ : Str)
    apply Str.ext'
    apply Array.ext'
    rw [StrLaws.strSub_toList, str_toList]
theorem partsBetween_is (x w : List Nat) : Builtin.Str.partsBetween ⟨x.toArray⟩ (occL w x 0 0) w.length = (splitP w x).map fun y => (⟨y.toArray⟩ : Str) := by
  unfold Builtin.Str.partsBetween
  rw [str_len]
  exact parts_is x w.length (occL w x 0 0) 0
theorem cutParts_mem (x : List Nat) (k : Nat) : ∀ (cs : List Nat) (a : Nat) (y : List Nat), y ∈ cutParts x k a cs → (∀ c ∈ y, c ∈ x) ∧ y.length ≤ x.length
  | [], a, y, h => by
    have h := List.mem_singleton.mp h
    subst h
    exact ⟨fun c hc => List.mem_of_mem_drop hc, by simp⟩
  | c :: cs, a, y, h => by
    rcases List.mem_cons.mp h with rfl | h
    · exact ⟨fun c hc => List.mem_of_mem_drop (List.mem_of_mem_take hc), Nat.le_trans (List.length_take_le' _ _) (Nat.le_trans (Nat.le_of_eq List.length_drop) (Nat.sub_le _ _))⟩
    · exact cutParts_mem x k cs (c + k) y h
theorem okS_sub {x y : List Nat} (h : okS x) (h1 : ∀ c ∈ y, c ∈ x) (h2 : y.length ≤ x.length) : okS y :=
  ⟨List.all_eq_true.mpr fun c hc => List.all_eq_true.mp h.1 c (h1 c hc), Nat.le_trans h2 h.2⟩
theorem cutParts_len (x : List Nat) (k : Nat) : ∀ (cs : List Nat) (a : Nat), (cutParts x k a cs).length = cs.length + 1
  | [], _ => rfl
  | _ :: cs, _ => congrArg Nat.succ (cutParts_len x k cs _)
theorem occL_len (w : List Nat) : ∀ (s : List Nat) (i f : Nat), (occL w s i f).length ≤ s.length + 1
  | [], i, f => by
    show (if (Nat.ble f i && isPre w []) = true then [i] else []).length ≤ 1
    split <;> simp
  | c :: s, i, f => by
    show (if (Nat.ble f i && isPre w (c :: s)) = true then i :: occL w s (i + 1) (i + w.length) else occL w s (i + 1) f).length ≤ _
    have h1 := occL_len w s (i + 1) (i + w.length)
    have h2 := occL_len w s (i + 1) f
    split <;> simp <;> lia
theorem splitP_len (w s : List Nat) : (splitP w s).length ≤ s.length + 2 := by
  unfold splitP
  rw [cutParts_len]
  have := occL_len w s 0 0
  lia
section
variable {prog : Program} {w : World} {A : Around} {s : Shared} {hid : Ow} {p q r : PV} {v u : Value}
theorem rvs_strs {G : GO} (t : Nat) : ∀ (l : List (List Nat)) (i : Nat), (∀ x ∈ l, okS x) → RVs G (l.map .str) (strsFrom (t + i) (l.map fun y => (⟨y.toArray⟩ : Str)))
  | [], _, _ => rfl
  | x :: l, i, h => by
    refine ⟨.str ⟨x.toArray⟩ (t + i), _, rfl, ⟨⟨_, rfl⟩, h x List.mem_cons_self⟩, ?_⟩
    exact rvs_strs t l (i + 1) fun y hy => h y (List.mem_cons_of_mem _ hy)
noncomputable def PF (s : Shared) (hid : Ow) (xs : List PV) (v : Value) (s' : Shared) : Prop :=
  Step0 s s' ∧ okL xs ∧ ∃ a vs, v = .ref a ∧ s.heap.get? a = none ∧ IsL s'.heap.get? "list" a vs ∧ RVs (vis s'.heap (hid.put a .ext)) xs vs
theorem put_free {ow : Ow} {a b : Addr} {t : Tag} (ht : t ≠ .free) (h : ow.put a t b = .free) : ow b = .free := by
  by_cases q : b = a
  · subst q; rw [Ow.put_at] at h; exact absurd h ht
  · rwa [Ow.put_ne _ _ q] at h
theorem PF.toE {s' : Shared} {xs : List PV} (hl : Lv s hid) (x : PF s hid xs v s') : PE s hid (.list xs) v s' := by
  obtain ⟨st, ok, a, vs, rfl, h0, hL, hr⟩ := x
  exact ⟨st, ok, a, vs, rfl, hL.vis (hl.free h0), hr.mono (Sub.less fun b => put_free (t := .ext) (fun h => nomatch h))⟩
theorem PF.newList {vs : List Value} {ps : List PV} {tk : Nat} (hr : RVs (vis s.heap hid) ps vs) (ho : okL ps) :
    PF s hid ps (.ref s.heap.objs.size) { s with heap := s.heap.push { cls := .type "list", data := .seq vs.toArray }, toks := tk } :=
  ⟨Step.pushTok, ho, _, vs, rfl, size_none _, ⟨0, Heap.get?_push_size _ rfl⟩, hr.mono (Sub.step (P := fun zz => False) Step.pushTok.keep (fun zz h => h.elim) fun b hb => (Decidable.em (b = s.heap.objs.size)).elim (fun h => .inr (h ▸ size_none _)) fun h => .inl ((Ow.put_ne _ _ h).trans hb))⟩
theorem strKind_ascii {x : List Nat} (h : okS x) : Builtin.Str.strKind ⟨x.toArray⟩ = 1 := by
  unfold Builtin.Str.strKind
  rw [if_pos]
  rw [← Array.all_toList, List.all_eq_true]
  intro c hc
  have := List.all_eq_true.mp h.1 c (by simpa using hc)
  simp only [decide_eq_true_eq] at this ⊢
  lia
theorem okPys_strs (n : Nat) (l : List (List Nat)) : okPys (l.map .str) n = true := okPys_map l fun a => by cases n <;> rfl
noncomputable def Oc.WF (c : Oc) (x : Sem Value) (xs : List PV) : Prop := WP c.prog c.w c.A x (PF c.s c.hid xs) c.s
theorem sSplit (x y : List Nat) (hy0 : y.isEmpty = false) (hx0 : x.length ≤ 1000) (c : Oc) (v u : Value) (hp : c.Is (.str x) v) (hq : c.Is (.str y) u) : c.WF (call (.builtin "str.split") [v, u]) ((splitP y x).map .str) := by
  obtain ⟨⟨t, rfl⟩, hx⟩ := hp.str
  obtain ⟨⟨t', rfl⟩, hy⟩ := hq.str
  have hy1 : ((⟨y.toArray⟩ : Str).length == 0) = false := by cases y with
    | nil => cases hy0
    | cons c y => rfl
  have hps := splitP_len y x
  have hok : okL ((splitP y x).map .str) := ⟨okPys_strs _ _, Nat.le_trans (Nat.le_of_eq (List.length_map _)) (Nat.le_trans hps (Nat.le_trans (Nat.add_le_add_right hx0 2) (by decide)))⟩
  have hmem : ∀ z ∈ splitP y x, okS z := fun z hz => okS_sub hx (cutParts_mem _ _ _ _ _ hz).1 (cutParts_mem _ _ _ _ _ hz).2
  have itself : occL y x 0 0 = [] → splitP y x = [x] := fun h => by unfold splitP; rw [h]; rfl
  have one : splitP y x = [x] → PF c.s c.hid ((splitP y x).map .str) (.ref c.s.heap.objs.size) { c.s with heap := c.s.heap.push { cls := .type "list", data := .seq [Value.str ⟨x.toArray⟩ t].toArray } } := fun h => by
    rw [h]
    exact PF.newList (tk := c.s.toks) (vs := [_]) ⟨_, _, rfl, ⟨⟨t, rfl⟩, hx⟩, rfl⟩ ⟨rfl, by show 1 ≤ 100000; decide⟩
  cases h1 : (decide ((⟨x.toArray⟩ : Str).length < (⟨y.toArray⟩ : Str).length) || decide (Builtin.Str.strKind ⟨x.toArray⟩ < Builtin.Str.strKind ⟨y.toArray⟩)) with
  | true =>
    refine call_meets F.slot_str_split (typeIs_str _ _ _) F.entry_str_split (F.args_str_split_2 _ _) (meets_str_split_cannot_occur _ _ t t' h1) (one (itself ?_))
    rw [strKind_ascii hx, strKind_ascii hy] at h1
    have h2 : x.length < y.length := of_decide_eq_true ((Bool.or_false _).symm.trans h1)
    rw [← occ_is x y]
    rcases StrLaws.occ_head ⟨x.toArray⟩ ⟨y.toArray⟩ (x.length + 1) (Nat.succ_pos _) with ⟨h0, _⟩ | ⟨i, rr, h0, ha, _⟩
    · exact h0
    · exact absurd (Nat.le_trans (Nat.le_add_left _ _) ha.1) (Nat.not_le.mpr h2)
  | false =>
    cases hf : (Builtin.Str.occurrences ⟨x.toArray⟩ ⟨y.toArray⟩ 0 (⟨x.toArray⟩ : Str).length ((⟨x.toArray⟩ : Str).length + 1)).isEmpty with
    | true =>
      refine call_meets F.slot_str_split (typeIs_str _ _ _) F.entry_str_split (F.args_str_split_2 _ _) (meets_str_split_not_found _ _ t t' h1 hy1 hf) (one (itself ?_))
      rw [str_len, occ_is] at hf
      exact List.isEmpty_iff.mp hf
    | false =>
      have hpb : Builtin.Str.partsBetween ⟨x.toArray⟩ (Builtin.Str.occurrences ⟨x.toArray⟩ ⟨y.toArray⟩ 0 (⟨x.toArray⟩ : Str).length ((⟨x.toArray⟩ : Str).length + 1)) (⟨y.toArray⟩ : Str).length = (splitP y x).map fun z => (⟨z.toArray⟩ : Str) := by
        rw [str_len, str_len, occ_is, partsBetween_is]
      refine call_meets F.slot_str_split (typeIs_str _ _ _) F.entry_str_split (F.args_str_split_2 _ _) (meets_str_split_sep _ _ t t' h1 hy1 hf (Nat.le_trans hx.2 (by decide)) (by rw [hpb, List.length_map]; exact Nat.le_trans hps (Nat.le_trans (Nat.add_le_add_right hx0 2) (by decide)))) ?_
      rw [hpb]
      exact PF.newList (rvs_strs c.s.toks _ 0 hmem) hok
end
theorem occ_index {x y : List Nat} {k : Nat} (h : findAt y x 0 = some k) : ∃ rest, Builtin.Str.occurrences ⟨x.toArray⟩ ⟨y.toArray⟩ 0 x.length 1 = k :: rest := by
  have q := find4_is x y 0 x.length
  rw [Nat.min_self] at q
  have e : findIn x y 0 x.length = (k : Int) := by
    unfold findIn
    rw [if_neg (Nat.not_lt_zero _), List.take_length, List.drop_zero, h]
  rw [e] at q
  cases ho : Builtin.Str.occurrences ⟨x.toArray⟩ ⟨y.toArray⟩ 0 x.length 1 with
  | nil => rw [ho] at q; cases q
  | cons i r => rw [ho] at q; exact ⟨r, by rw [Int.ofNat.inj q]⟩
theorem sIndex (x y : List Nat) {k : Nat} (h : findAt y x 0 = some k) : S2 (fn2 "str.index") (.str x) (.str y) (.int k) := .ss fun c zz zz zz zz => by
  obtain ⟨r, e⟩ := occ_index h
  exact PySem.SC.index (x := ⟨x.toArray⟩) (by rw [show (⟨x.toArray⟩ : Str).length = x.length from List.size_toArray]; exact e) PE.int
theorem join_is (sep : List Nat) : ∀ l : List (List Nat), Str.join ⟨sep.toArray⟩ (l.map fun y => (⟨y.toArray⟩ : Str)) = ⟨(List.intercalate sep l).toArray⟩
  | [] => rfl
  | [x] => by simp [Str.join, List.intercalate]
  | x :: y :: r => by
    have := join_is sep (y :: r)
    simp only [List.map_cons] at this ⊢
    rw [Str.join, this]
    · rw [str_append, str_append]
      congr 2
      simp [List.intercalate, List.intersperse]
    · intro h; cases h
noncomputable def strsS : (xs : List PV) → Option {l : List (List Nat) // xs = l.map .str}
  | [] => some ⟨[], rfl⟩
  | .str s :: xs => (strsS xs).map fun l => ⟨s :: l.1, congrArg (PV.str s :: ·) l.2⟩
  | _ :: _ => none
noncomputable def intsS : (xs : List PV) → Option {l : List Int // xs = l.map .int}
  | [] => some ⟨[], rfl⟩
  | .int s :: xs => (intsS xs).map fun l => ⟨s :: l.1, congrArg (PV.int s :: ·) l.2⟩
  | _ :: _ => none
noncomputable def ints? (xs : List PV) : Option (List Int) := (intsS xs).map (·.1)
theorem strsS_map : ∀ l : List (List Nat), strsS (l.map .str) = some ⟨l, rfl⟩
  | [] => rfl
  | x :: l => congrArg (Option.map _) (strsS_map l)
noncomputable abbrev Txts (vs : List Value) (l : List (List Nat)) : Type := (ts : List (Str × Tok)) ×' ((vs = strValues ts) ∧ (ts.map (·.1) = l.map (fun y => (⟨y.toArray⟩ : Str))))
section
variable {a_ b_} (x_ : Txts a_ b_)
noncomputable abbrev Txts.ts := x_.1
theorem Txts.vs_ : a_ = strValues x_.ts := x_.2.1
theorem Txts.fst : x_.ts.map (·.1) = b_.map (fun y => (⟨y.toArray⟩ : Str)) := x_.2.2
end
theorem strs_of {G : GO} : ∀ {l : List (List Nat)} {vs : List Value}, RVs G (l.map .str) vs → Nonempty (Txts vs l) ∧ ∀ x ∈ l, okS x
  | [], _, h => by cases h; exact ⟨⟨[], rfl, rfl⟩, fun zz h => nomatch h⟩
  | y :: l, _, h => by
    obtain ⟨v, vs', rfl, ⟨⟨t, rfl⟩, hy⟩, hr⟩ := h
    obtain ⟨⟨ts, e1, e2⟩, e3⟩ := strs_of hr
    exact ⟨⟨(_, t) :: ts, congrArg _ e1, congrArg _ e2⟩, fun x hx => (List.mem_cons.mp hx).elim (fun h => h ▸ hy) (e3 x)⟩
section
variable {prog : Program} {w : World} {A : Around} {s : Shared} {hid : List Addr} {p q r : PV} {v u : Value}
theorem inter_all (sep : List Nat) (f : Nat → Bool) (hs : sep.all f = true) : ∀ l : List (List Nat), (∀ x ∈ l, x.all f = true) → (List.intercalate sep l).all f = true
  | [], _ => rfl
  | [x], h => by simpa [List.intercalate] using h x List.mem_cons_self
  | x :: y :: r, h => by
    have := inter_all sep f hs (y :: r) fun z hz => h z (List.mem_cons_of_mem _ hz)
    have e : List.intercalate sep (x :: y :: r) = x ++ (sep ++ List.intercalate sep (y :: r)) := by simp [List.intercalate, List.intersperse]
    rw [e]
    exact all_append (h x List.mem_cons_self) (all_append hs this)
theorem inter_len (sep : List Nat) : ∀ l : List (List Nat), (l.map List.length).sum + sep.length * (l.length - 1) = (List.intercalate sep l).length
  | [] => by simp [List.intercalate]
  | [x] => by simp [List.intercalate]
  | x :: y :: r => by
    have := inter_len sep (y :: r)
    have e : List.intercalate sep (x :: y :: r) = x ++ (sep ++ List.intercalate sep (y :: r)) := by simp [List.intercalate, List.intersperse]
    rw [e]
    simp only [List.length_append, ← this, List.map_cons, List.sum_cons, List.length_cons, Nat.add_sub_cancel, Nat.mul_add, Nat.mul_one]
    lia
theorem fold_len (k : Nat) (l : List Str) (a : Nat) : l.foldl (fun acc (x : Str) => acc + x.length + k) a = a + (l.map Str.length).sum + k * l.length := by
  induction l generalizing a with
  | nil => simp
  | cons x l ih => rw [List.foldl_cons, ih]; simp only [List.map_cons, List.sum_cons, List.length_cons, Nat.mul_add]; lia
theorem joinOk_of (sep : List Nat) (l : List (List Nat)) (h1 : sep.length ≤ 100) (h2 : (List.intercalate sep l).length ≤ LEN) :
    Builtin.Str.tooLong ((l.map (fun y => (⟨y.toArray⟩ : Str))).toArray.foldl (fun acc (x : Str) => acc + x.length + (⟨sep.toArray⟩ : Str).length) 0) = false := by
  rw [List.foldl_toArray, fold_len]
  refine decide_eq_false (Nat.not_lt.mpr ?_)
  have h3 := inter_len sep l
  have hL : LEN = 100000 := rfl
  have e1 : (l.map (fun y => (⟨y.toArray⟩ : Str))).map Str.length = l.map List.length := List.map_map
  rw [e1, str_len, List.length_map, show sizeLine = 16777216 from rfl]
  cases l with
  | nil => simp
  | cons x l =>
    simp only [List.length_cons, Nat.add_sub_cancel, Nat.mul_add] at h3 ⊢
    lia
theorem sum_ones : ∀ y : List Nat, ((y.map fun c => [c]).map List.length).sum = y.length
  | [] => rfl
  | c :: y => by
    have := sum_ones y
    simp only [List.map_cons, List.sum_cons, List.length_cons, List.length_nil] at this ⊢
    lia
theorem join_tree_str (sep : Str) (t : Tok) (y : Str) (u : Tok) : Builtin.«str.join» ⟨[.str sep t, .str y u], []⟩ = (do
    let it ← (pyIter (.str y u)).tryCatch fun e => do
      if ← isInstance e (.type "TypeError") then rule "str.join.not-iterable"; raiseError "TypeError" "can only join an iterable" else throw e
    let items ← collect it
    joinTail sep items) := rfl
theorem signs_of {x : List Nat} {acc : Array Value} (h : ItemsOf (SignAt ⟨x.toArray⟩) acc x.length) : ∃ ts : List (Str × Tok), acc.toList = strValues ts ∧ ts.map (·.1) = x.map (fun c => (⟨#[c]⟩ : Str)) := by
  obtain ⟨l, hl⟩ := exists_strValues acc.toList fun v hv => by
    obtain ⟨j, hj, rfl⟩ := Array.mem_iff_getElem.mp (Array.mem_toList_iff.mp hv)
    obtain ⟨c, u, _, e⟩ := h.2 j _ (Array.getElem?_eq_getElem hj)
    exact ⟨_, _, e⟩
  refine ⟨l, hl.symm, ?_⟩
  have hlen : l.length = x.length := by
    have := congrArg List.length hl
    simp only [strValues, List.length_map, Array.length_toList] at this
    rw [this]; exact h.1
  apply List.ext_getElem?
  intro i
  simp only [List.getElem?_map]
  by_cases hi : i < x.length
  · have hv : acc[i]? = some (.str l[i].1 l[i].2) := by
      have := congrArg (fun z => z[i]?) hl
      simp only [strValues, List.getElem?_map, Array.getElem?_toList] at this
      rw [← this, List.getElem?_eq_getElem (by lia)]; rfl
    obtain ⟨c, u, hc, e⟩ := h.2 i _ hv
    have hc' : x[i]? = some c := by simpa using hc
    rw [hc', List.getElem?_eq_getElem (by lia)]
    simp only [Value.str.injEq] at e
    simp [e.1]
  · rw [List.getElem?_eq_none (by lia), List.getElem?_eq_none (by lia)]; rfl
theorem allA {x : List Nat} (hx : okS x) : (x.toArray.all fun c => decide (c < 128)) = true := by
  rw [← Array.all_toList]; simpa using hx.1
theorem collect_str_it (hh : A.handled = none) {y : List Nat} (hy : okS y) {I : Addr} {u : Tok} {Q : List Value → Shared → Prop} {E : Value → Shared → Prop}
    (hit : s.heap.get? I = some { cls := .type "str_ascii_iterator", dict := none, data := .fields #[.str ⟨y.toArray⟩ u, .int 0 0], slots := #[] })
    (hQ : ∀ s' (ts : List (Str × Tok)), Step (· = I) s s' → ts.map (·.1) = y.map (fun c => (⟨#[c]⟩ : Str)) → Q (strValues ts) s') :
    wpAny (model prog w) A (collect (.ref I)) Q E s := by
  refine wpAny_collect_strIter hh (.inl rfl) ⟨_, hit, rfl, rfl⟩ (fun s' acc hk hg hd ho hacc => ?_) (by
    have := hy.2
    simp; rw [show sizeLine = 16777216 from rfl]; have : LEN = 100000 := rfl; lia)
  obtain ⟨ts, e1, e2⟩ := signs_of (x := y) (by simpa using hacc)
  rw [e1]
  exact hQ s' ts ⟨fun b o e hb => hk b o hb e, ho, fun g x e => by rw [hg]; exact e, fun h => by rw [hg]; exact h⟩ e2
theorem singles_ok {y : List Nat} (hy : okS y) : ∀ z ∈ y.map (fun c => [c]), okS z := fun z hz => by
  obtain ⟨c, hc, rfl⟩ := List.mem_map.mp hz
  exact okS_sub hy (fun d hd => List.mem_singleton.mp hd ▸ hc) (List.length_pos_of_mem hc)
theorem sJoinList (x : List Nat) (l : List (List Nat)) (h1 : x.length ≤ 100) (hlen : (List.intercalate x l).length ≤ LEN) : S2 (fn2 "str.join") (.str x) (.list (l.map .str)) (.str (List.intercalate x l)) := fun c v u hp hq => by
  obtain ⟨⟨t, rfl⟩, hx⟩ := hp.str
  obtain ⟨a, vs, ok, la, ra⟩ := hq.list
  obtain ⟨⟨ts, e1, e2⟩, e3⟩ := strs_of ra
  subst e1
  refine PySem.SC.join (texts := l.map fun y => (⟨y.toArray⟩ : Str)) (IsL.list (fun zz zz e => e) la) e2 ?_ (fun t' k => ?_)
  · unfold JoinOk
    rw [joinOk_of x l h1 hlen]; rfl
  · unfold Txt.join
    rw [StrLaws.glued_eq_join, join_is]
    exact PE.str ⟨inter_all _ _ hx.1 _ fun z hz => (e3 z hz).1, hlen⟩
theorem sJoinStr (x y : List Nat) (hg : x.length ≤ 100 ∧ y.length ≤ 100) : S2 (fn2 "str.join") (.str x) (.str y) (.str (List.intercalate x (y.map fun c => [c]))) := .ss fun hx hy c t t' => by
  have hlen : (List.intercalate x (y.map fun c => [c])).length ≤ LEN := by
    rw [← inter_len, sum_ones y, List.length_map]
    exact Nat.le_trans (Nat.add_le_add hg.2 (Nat.mul_le_mul hg.1 (Nat.le_trans (Nat.sub_le _ _) hg.2))) (by decide)
  refine wpAny_call (codeAny_call_builtin F.slot_str_join.plain F.entry_str_join (F.slot_str_join.check _ _ _ _ _ _ _ _ (typeIs_str _ _ _) (F.args_str_join_2 _ _) ?_))
  rw [join_tree_str]
  refine wpAny_bind (wpAny_tryCatch (wpAny_pyIter_ascii (allA hy) ?_))
  refine wpAny_bind (collect_str_it (A := c.A.in1) c.R.handled hy (Heap.get?_push_size _ rfl) fun s' ts hst hts => ?_)
  have hts' : ts.map (·.1) = (y.map fun c => [c]).map (fun z => (⟨z.toArray⟩ : Str)) := hts.trans (List.map_map (f := fun c : Nat => [c]) (g := fun z : List Nat => (⟨z.toArray⟩ : Str)) (l := y)).symm
  have hjo := joinOk_of x _ hg.1 hlen
  rw [← hts'] at hjo
  have g : Gives (joinTail ⟨x.toArray⟩ (strValues ts)) (joinMade ⟨x.toArray⟩ ts) := by
    have g0 := gives_joinTail ⟨x.toArray⟩ ts hjo
    cases ts with
    | nil => exact g0
    | cons p r => cases r with
      | nil => exact g0
      | cons q r' => exact g0
  have hpre : Step0 c.s s' := Step.trans (s' := { c.s with heap := c.s.heap.push { cls := .type "str_ascii_iterator", data := .fields #[.str ⟨y.toArray⟩ t', .int 0 0] } }) Step.push hst fun b hb => .inr (hb ▸ size_none _)
  refine g c.prog c.w c.A (wants (PE c.s c.hid (.str (List.intercalate x (y.map fun c => [c])))) _) s' (post_join ts ⟨joinFit_length hjo, fun t'' k => ?_⟩)
  unfold Txt.join
  rw [hts', StrLaws.glued_eq_join, join_is]
  exact ⟨hpre.trans0 Step.tok, ⟨t'', rfl⟩, inter_all _ _ hx.1 _ fun z hz => (singles_ok hy z hz).1, hlen⟩
end
theorem ltCps_sLt : ∀ a b : List Nat, Spec.ltCps a b = sLt a b
  | [], [] => rfl
  | [], _ :: _ => rfl
  | _ :: _, [] => rfl
  | a :: r, b :: t => by
    rw [Spec.ltCps, ltCps_sLt r t]
    show _ = if Nat.blt a b = true then true else if Nat.beq a b = true then sLt r t else false
    by_cases h : a < b
    · have : Nat.blt a b = true := Nat.ble_eq_true_of_le h
      simp [this, h]
    · have : Nat.blt a b = false := by
        cases q : Nat.blt a b with
        | false => rfl
        | true => exact absurd (Nat.le_of_ble_eq_true q) h
      simp [this, h]
      by_cases q : a = b <;> simp [q]
theorem sLt_iff (a b : List Nat) : sLt a b = true ↔ a < b := by rw [← sLt_eq]; simp
noncomputable def sLe (a b : List Nat) : Prop := sLt b a = false
theorem sLe_iff (a b : List Nat) : sLe a b ↔ a ≤ b := by
  unfold sLe
  rw [← List.not_lt, ← sLt_iff]
  simp
theorem sLe_trans {a b c : List Nat} (h : sLe a b) (h' : sLe b c) : sLe a c := by
  rw [sLe_iff] at *
  exact List.le_trans h h'
theorem sLe_antisymm {a b : List Nat} (h : sLe a b) (h' : sLe b a) : a = b := by
  rw [sLe_iff] at *
  exact List.le_antisymm h h'
theorem sLe_total (a b : List Nat) : sLe a b ∨ sLe b a := by
  rw [sLe_iff, sLe_iff]; exact List.le_total _ _
theorem sLe_of_lt {a b : List Nat} (h : sLt a b = true) : sLe a b := by
  rcases sLe_total a b with q | q
  · exact q
  · unfold sLe at q; rw [h] at q; cases q
theorem insS_perm (x : List Nat) : ∀ l, (insS x l).Perm (x :: l)
  | [] => .refl _
  | y :: ys => by
    show (if sLt y x = true then y :: insS x ys else x :: y :: ys).Perm _
    split
    · exact ((insS_perm x ys).cons y).trans (List.Perm.swap x y ys)
    · exact .refl _
theorem sortS_perm : ∀ l, (sortS l).Perm l
  | [] => .refl _
  | x :: xs => (insS_perm x (sortS xs)).trans ((sortS_perm xs).cons x)
set_option tactic.hygienic true in
theorem insS_rises (x : List Nat) : ∀ l : List (List Nat), l.Pairwise sLe → (insS x l).Pairwise sLe
  | [], _ => List.pairwise_singleton _ _
  | y :: ys, h => by
    show (if sLt y x = true then y :: insS x ys else x :: y :: ys).Pairwise sLe
    obtain ⟨h1, h2⟩ := List.pairwise_cons.mp h
    split
    · rename_i hlt
      refine List.pairwise_cons.mpr ⟨fun z hz => ?_, insS_rises x ys h2⟩
      rcases List.mem_cons.mp ((insS_perm x ys).subset hz) with rfl | hz
      · exact sLe_of_lt hlt
      · exact h1 z hz
    · rename_i hlt
      have hxy : sLe x y := by unfold sLe; simpa using hlt
      refine List.pairwise_cons.mpr ⟨fun z hz => ?_, h⟩
      rcases List.mem_cons.mp hz with rfl | hz
      · exact hxy
      · exact sLe_trans hxy (h1 z hz)
theorem sortS_rises : ∀ l, (sortS l).Pairwise sLe
  | [] => .nil
  | x :: xs => insS_rises x _ (sortS_rises xs)
theorem eq_sortS {l l' : List (List Nat)} (hp : l'.Perm l) (hs : l'.Pairwise sLe) : l' = sortS l :=
  List.Perm.eq_of_pairwise (fun zz zz zz zz h h' => sLe_antisymm h h') hs (sortS_rises l) (hp.trans (sortS_perm l).symm)
theorem rising_pairwise : ∀ (p : Str) (l : List Str), risingS p l = true → (p :: l).Pairwise fun a b => sLe a.cps.toList b.cps.toList
  | p, [], _ => by simp
  | p, x :: r, h => by
    rw [risingS, Bool.and_eq_true] at h
    have ih := rising_pairwise x r h.2
    have hpx : sLe p.cps.toList x.cps.toList := by
      have := h.1
      rw [ltCps_sLt] at this
      unfold sLe; simpa using this
    refine List.pairwise_cons.mpr ⟨fun z hz => ?_, ih⟩
    rcases List.mem_cons.mp hz with rfl | hz
    · exact hpx
    · exact sLe_trans hpx ((List.pairwise_cons.mp ih).1 z hz)
theorem sortedS_pairwise : ∀ (l : List Str), sortedS l = true → l.Pairwise fun a b => sLe a.cps.toList b.cps.toList
  | [], _ => .nil
  | x :: r, h => rising_pairwise x r h
section
variable {prog : Program} {w : World} {A : Around} {s : Shared} {hid : Ow} {p q r : PV} {v u : Value}
theorem strsAre_of : ∀ (ts : List (Str × Tok)), StrsAre (strValues ts) (ts.map (·.1))
  | [] => .nil
  | (x, t) :: ts => .cons x t (strsAre_of ts)
theorem rvs_of_strsAre {G : GO} : ∀ {vs : List Value} {ss : List Str} {l : List (List Nat)}, StrsAre vs ss → ss = l.map (fun y => (⟨y.toArray⟩ : Str)) → (∀ x ∈ l, okS x) → RVs G (l.map .str) vs
  | _, _, [], .nil, _, _ => rfl
  | _, _, [], .cons .., e, _ => by simp at e
  | _, _, x :: l, .nil, e, _ => by simp at e
  | _, _, x :: l, .cons y t h, e, hok => by
    simp only [List.map_cons, List.cons.injEq] at e
    obtain ⟨rfl, e⟩ := e
    exact ⟨_, _, rfl, ⟨⟨t, rfl⟩, hok x List.mem_cons_self⟩, rvs_of_strsAre h e fun z hz => hok z (List.mem_cons_of_mem _ hz)⟩
theorem sortedStrsP {l : List (List Nat)} (hok : ∀ x ∈ l, okS x) (h64 : l.length < 64) (hl : Lv s hid)
    (hc : wpAny (model prog w) A.in1 (collect v) (fun vs s' => Step0 s s' ∧ ∃ ts, vs = strValues ts ∧ (ts.map (·.1)).Perm (l.map (fun y => (⟨y.toArray⟩ : Str)))) (fun zz zz => False) s) :
    WP prog w A (call (.builtin "sorted") [v]) (PE s hid (.list ((sortS l).map .str))) s := by
  refine Calls.call_function_entry kind_sorted plain_sorted entry_sorted (args_sorted1 _) ?_
  unfold Builtin.«sorted»
  refine wpAny_bind (m := checkCount "sorted" 1 1 _) (wpAny_pure ?_)
  refine wpAny_bind (wpAny_mono hc (fun vs s' h => ?_) fun zz zz x => x)
  obtain ⟨hst, ts, rfl, hts⟩ := h
  have hlen : (strValues ts).length = l.length := by
    have := hts.length_eq
    simpa [strValues] using this
  have hS : StrsAre (strValues ts) (ts.map (·.1)) := strsAre_of ts
  refine wpAny_bind (wpAny_newList ?_ (Nat.le_trans (Nat.le_of_eq hlen) (by rw [show sizeLine = 16777216 from rfl]; lia)))
  have hoL : (s'.heap.push (seqObj "list" (strValues ts).toArray 0)).get? s'.heap.objs.size = some (seqObj "list" (strValues ts).toArray 0) := Heap.get?_push_size _ rfl
  show wpAny _ _ _ _ _ { s' with heap := s'.heap.push (seqObj "list" (strValues ts).toArray 0) }
  refine wpAny_bind (wpAny_holding (wpAny_call_entry slot_list_sort ⟨_, hoL, rfl⟩ entry_list_sort (list_sort_treeK strKind_oneLt hoL hS.keysOf (fun v₁ v₂ rest e => keyKind_strs (by rw [← e]; exact hS)) (by rw [hlen]; exact h64) fun st' a1 a2 => ⟨_, rfl, ?_⟩) (args_list_sort _)))
  refine wpAny_pure ⟨_, rfl, ?_⟩
  obtain ⟨ss', h1, h2, h3⟩ := sorted_out_str hS a1 a2
  replace h2 := h2.trans hts
  have hpw := sortedS_pairwise _ h3
  -- the texts that came
  have e0 : ss' = (ss'.map (fun z => z.cps.toList)).map (fun y => (⟨y.toArray⟩ : Str)) := by
    rw [List.map_map]
    conv => lhs; rw [← List.map_id ss']
    exact List.map_congr_left fun z zz => rfl
  have e1 : ss'.map (fun z => z.cps.toList) = sortS l := by
    refine eq_sortS ?_ (List.pairwise_map.mpr hpw)
    have := h2.map (fun z : Str => z.cps.toList)
    rw [List.map_map] at this
    have e2 : l.map ((fun z : Str => z.cps.toList) ∘ fun y => (⟨y.toArray⟩ : Str)) = l := by
      conv => rhs; rw [← List.map_id l]
      exact List.map_congr_left fun z zz => rfl
    rwa [e2] at this
  rw [e1] at e0
  have hold : ∀ b o, s'.heap.get? b = some o → (sortedHeap (s'.heap.push (seqObj "list" (strValues ts).toArray 0)) s'.heap.objs.size (strValues ts) ((arrOf st').map (·.2))).get? b = some o := fun b o e => by
    have hlt := Heap.lt_size e
    rw [sortedHeap_old (Nat.ne_of_lt hlt) (by rw [size_push']; exact Nat.lt_succ_of_lt hlt)]
    exact Heap.get?_push_of_some _ e
  have hst' : Step0 s' { s' with heap := sortedHeap (s'.heap.push (seqObj "list" (strValues ts).toArray 0)) s'.heap.objs.size (strValues ts) ((arrOf st').map (·.2)) } := Step.heap fun b o e zz => hold b o e
  have hst2 := hst.trans0 hst'
  refine ⟨hst2, ⟨okPys_strs _ _, ?_⟩, _, ((arrOf st').map (·.2)).toList, rfl, ?_, ?_⟩
  · rw [List.length_map, (sortS_perm l).length_eq]
    have : LEN = 100000 := rfl
    lia
  · obtain ⟨e, he⟩ := sortedHeap_at (out := (arrOf st').map (·.2)) hoL
    refine IsL.vis ⟨e, he.trans ?_⟩ (hl.free (none_back hst (size_none _)))
    unfold seqObj lObj
    rw [Array.toArray_toList]
  · exact rvs_of_strsAre h1 e0 fun z hz => hok z ((sortS_perm l).subset hz)
end
theorem filterMap_some {α β : Type} (f : α → Option β) (g : α → β) : ∀ (l : List α), (∀ a ∈ l, f a = some (g a)) → l.filterMap f = l.map g
  | [], _ => rfl
  | a :: l, h => by rw [List.filterMap_cons, h a List.mem_cons_self, List.map_cons, filterMap_some f g l fun b hb => h b (List.mem_cons_of_mem _ hb)]
theorem rev_pick {α : Type} (l : List α) : (sliceRange ((l.length : Int) - 1) (-1) (-1)).filterMap (l.toArray[·]?) = l.reverse := by
  have hc : sliceRange ((l.length : Int) - 1) (-1) (-1) = (List.range l.length).map fun k => l.length - 1 - k := by
    unfold sliceRange
    have e : (if (-1 : Int) > 0 then (if (l.length : Int) - 1 < -1 then (-1 - ((l.length : Int) - 1) + -1 - 1) / -1 else 0) else (if (l.length : Int) - 1 > -1 then ((l.length : Int) - 1 - -1 - -1 - 1) / -(-1) else 0)) = (l.length : Int) := by
      rw [if_neg (by decide)]
      split
      · have : ((l.length : Int) - 1 - -1 - -1 - 1) = l.length := by lia
        rw [this]; simp
      · lia
    simp only at e ⊢
    rw [e, Int.toNat_natCast]
    refine List.map_congr_left fun k hk => ?_
    have := List.mem_range.mp hk
    lia
  rw [hc]
  apply List.ext_getElem?
  intro i
  cases l with
  | nil => simp
  | cons a l =>
    rw [filterMap_some _ (fun k => (a :: l).getD k a)]
    · rw [List.map_map]
      simp only [List.getElem?_map]
      by_cases hi : i < (a :: l).length
      · rw [List.getElem?_range hi, List.getElem?_reverse hi]
        simp only [Option.map_some, Function.comp]
        rw [List.getD_eq_getElem?_getD]
        have : (a :: l).length - 1 - i < (a :: l).length := by simp; lia
        rw [List.getElem?_eq_getElem this]; rfl
      · rw [List.getElem?_eq_none (by simpa using hi), List.getElem?_eq_none (by simpa using hi)]; rfl
    · intro k hk
      obtain ⟨j, hj, rfl⟩ := List.mem_map.mp hk
      have hlt : (a :: l).length - 1 - j < (a :: l).length := by simp; lia
      rw [List.getD_eq_getElem?_getD, List.getElem?_eq_getElem hlt]
      simp
theorem sortedStrs (c : Oc) {l : List (List Nat)} {v : Value} (hok : ∀ x ∈ l, okS x) (h64 : l.length < 64)
    (hc : wpAny (model c.prog c.w) c.A.in1 (collect v) (fun vs s' => Step0 c.s s' ∧ Nonempty (Txts vs l)) (fun zz zz => False) c.s) : c.W (call (.builtin "sorted") [v]) (.list ((sortS l).map .str)) :=
  sortedStrsP hok h64 c.live (wpAny_mono hc (fun _ _ ⟨a, ⟨ts, e, h⟩⟩ => ⟨a, ts, e, h ▸ .rfl⟩) fun zz zz x => x)
theorem okS_rev {x : List Nat} (h : okS x) : okS x.reverse := okS_sub h (fun c hc => List.mem_reverse.mp hc) (Nat.le_of_eq List.length_reverse)
theorem RVs.reverse {G : GO} : ∀ {ps : List PV} {vs : List Value}, RVs G ps vs → RVs G ps.reverse vs.reverse
  | [], _, h => by cases h; rfl
  | p :: ps, _, h => by
    obtain ⟨v, vs, rfl, h, hs⟩ := h
    rw [List.reverse_cons, List.reverse_cons]
    exact hs.reverse.append ⟨v, [], rfl, h, rfl⟩
noncomputable def SRev (p r : PV) : Prop := ∀ (c : Oc) (v : Value) (a : Addr) (t : Tok), c.s.heap.get? a = some { cls := .type "slice", dict := none, data := .fields #[.none, .none, .int (-1) t], slots := #[] } → c.Is p v → HasItems c.s v ∧ c.W (getItem v (.ref a)) r
theorem sRevStr (x : List Nat) : SRev (.str x) (.str x.reverse) := fun c v a t hs hp => by
  obtain ⟨⟨t', rfl⟩, hx⟩ := hp.str
  refine ⟨⟨"str", "str.__getitem__", typeIs_str _ _ _, F.slot_str_getitem.lookup⟩, wpAny_getItem_str_slice (l := none) (u := none) (st := some (-1, t)) ⟨_, hs, rfl, rfl⟩ rfl ?_⟩
  unfold sliceMade
  rw [if_neg (by simp)]
  have e1 : ((slicePicked ⟨x.toArray⟩ none none (some (-1, t))).filterMap ((⟨x.toArray⟩ : Str).cps[·]?)) = x.reverse := by
    unfold slicePicked Builtin.Str.strSliceIndices
    simp only [Option.map_none, Option.map_some, Option.getD_some, str_len]
    exact rev_pick x
  rw [e1]
  exact ⟨len_line (okS_rev hx).2, PE.str (okS_rev hx)⟩
theorem sRevList (xs : List PV) : SRev (.list xs) (.list xs.reverse) := fun c v a t hs hp => by
  obtain ⟨b, vs, ok, la, ra⟩ := hp.list
  refine ⟨let ⟨_, e⟩ := la; ⟨"list", "list.__getitem__", ⟨_, e, rfl⟩, slot_list_getitem.lookup⟩, wpAny_getItem_list_slice (IsL.list (fun zz zz e => e) la) ⟨_, hs, rfl, rfl⟩ .none .none (.int (-1) t) (by intro h; cases h) ?_ (len_line (Nat.le_trans (Nat.le_of_eq ra.length) ok.2))⟩
  have e1 : slicePick vs.toArray none none (some (-1)) = vs.reverse.toArray := by
    unfold slicePick sliceBounds
    simp only [Option.getD_some, List.size_toArray]
    rw [show (if (-1 : Int) > 0 then (0 : Int) else (vs.length : Int) - 1) = (vs.length : Int) - 1 from rfl, show (if (-1 : Int) > 0 then (vs.length : Int) else -1) = -1 from rfl, rev_pick]
  rw [e1]
  exact PE.newList (tk := c.s.toks) c.live ra.reverse ⟨okPys_sub (fun zz h => List.mem_reverse.mp h) ok.1, Nat.le_trans (Nat.le_of_eq List.length_reverse) ok.2⟩
theorem collect_l {prog : Program} {w : World} {A : Around} {s : Shared} {l : Addr} {vs : List Value} {Q : List Value → Shared → Prop} {E : Value → Shared → Prop} (hL : IsL s.heap.get? "list" l vs) (hsz : vs.length ≤ LEN)
    (h : ∀ s', Step0 s s' → Q vs s') : wpAny (model prog w) A (collect (.ref l)) Q E s :=
  collect_list (IsL.list (fun zz zz e => e) hL) (h _ (Step.heap fun b o e zz => (Heap.get?_update_ne _ _ _ _ (Nat.ne_of_lt (Heap.lt_size e))).trans (Heap.get?_push_of_some _ e))) (len_line hsz)
theorem sSortStr (x : List Nat) (h : x.length < 64) : S1 (fn "sorted") (.str x) (.list ((sortS (x.map fun c => [c])).map .str)) := .s fun hx c t => by
  refine sortedStrs c (singles_ok hx) (by rw [List.length_map]; exact h) (wpAny_collect_str (A := c.A.in1) c.R.handled _ _ (fun s' acc hk hg hd ho hacc => ?_) (len_line (n := x.length) hx.2))
  obtain ⟨ts, e1, e2⟩ := signs_of (x := x) hacc
  exact ⟨⟨fun b o e zz => hk b o e, ho, fun g x e => (congrArg (·[g]?) hg).trans e, fun h => by rw [hg]; exact h⟩, ⟨ts, e1, e2.trans (List.map_map (f := fun c : Nat => [c]) (g := fun z : List Nat => (⟨z.toArray⟩ : Str)) (l := x)).symm⟩⟩
theorem sSortList (l : List (List Nat)) (h : l.length < 64) : S1 (fn "sorted") (.list (l.map .str)) (.list ((sortS l).map .str)) := .l fun ok c a vs la ra =>
  have ⟨ht, ho⟩ := strs_of ra
  sortedStrs c ho h (collect_l la (Nat.le_trans (Nat.le_of_eq ra.length) ok.2) fun s' hst => ⟨hst, ht⟩)
theorem RVs_get {G : GO} : ∀ {ps : List PV} {vs : List Value}, vs.length = ps.length → (∀ (j : Nat) (v : Value) (p : PV), vs[j]? = some v → ps[j]? = some p → RV G p v) → RVs G ps vs
  | [], [], _, _ => rfl
  | p :: ps, v :: vs, h, k => ⟨v, vs, rfl, k 0 v p rfl rfl, RVs_get (Nat.succ.inj h) fun j => k (j + 1)⟩
  | [], _ :: _, h, _ => nomatch h
  | _ :: _, [], h, _ => nomatch h
theorem rangeL_length : ∀ (n : Nat) (a : Int), (rangeL a n).length = n
  | 0, _ => rfl
  | n + 1, a => congrArg (· + 1) (rangeL_length n (a + 1))
theorem rangeL_get : ∀ {n : Nat} {a : Int} {j : Nat} {x : Int}, (rangeL a n)[j]? = some x → x = a + (j : Int)
  | 0, _, _, _, h => nomatch h
  | n + 1, a, 0, x, h => by cases h; exact (Int.add_zero _).symm
  | n + 1, a, j + 1, x, h => by rw [rangeL_get (n := n) h]; show a + 1 + (j : Int) = a + ((j : Int) + 1); lia
theorem madeList {c : Oc} {x : Sem Value} {ps : List PV} (ho : okL ps) (h : ∀ (Q : Value → Shared → Prop), (∀ h' tk acc k, (∀ b o, c.s.heap.get? b = some o → h'.get? b = some o) → h'.get? c.s.heap.objs.size = some { cls := .type "list", dict := none, data := .seq acc k, slots := #[] } → acc.size = ps.length →
    (∀ (j : Nat) (v : Value) (p : PV), acc.toList[j]? = some v → ps[j]? = some p → ∀ G, RV G p v) → Q (.ref c.s.heap.objs.size) { c.s with heap := h', toks := tk }) → WP c.prog c.w c.A x Q c.s) : c.WF x ps :=
  h _ fun h' tk acc k hk hS hz hv => ⟨Step.heapTok fun b o e zz => hk b o e, ho, _, acc.toList, rfl, size_none _, ⟨k, hS⟩, RVs_get (Array.length_toList.trans hz) fun j v p e1 e2 => hv j v p e1 e2 _⟩
theorem sListStr (x : List Nat) (hx0 : x.length ≤ 1000) (c : Oc) (v : Value) (hp : c.Is (.str x) v) : c.WF (call (.type "list") [v]) (x.map fun ch => .str [ch]) := by
  obtain ⟨⟨t, rfl⟩, hx⟩ := hp.str
  refine madeList ⟨okPys_map _ fun zz => rfl, Nat.le_trans (Nat.le_of_eq (List.length_map _)) hx.2⟩ fun Q hQ => call_list_str c.R.handled _ t (hn := len_line (n := x.length) hx.2) fun h' tk acc k hk hS hacc => hQ h' tk acc k hk hS (hacc.1.trans (List.length_map _).symm) fun j v p e1 e2 G => ?_
  obtain ⟨ch, u, hc, rfl⟩ := hacc.2 j v ((Array.getElem?_toList).symm.trans e1)
  rw [List.getElem?_map, show x[j]? = some ch from (List.getElem?_toArray).symm.trans hc] at e2
  cases e2
  exact ⟨⟨u, rfl⟩, singles_ok hx [ch] (List.mem_map_of_mem (List.mem_of_getElem? ((List.getElem?_toArray).symm.trans hc)))⟩
theorem range_size0 (n : Nat) : Builtin.Range.rangeSize 0 n 1 = (n : Int) := by rw [rangeSize_one]; split <;> lia
theorem sListRange (n : Nat) (hn : n ≤ 1000) (c : Oc) (v : Value) (hp : c.Is (.range 0 n) v) : c.WF (call (.type "list") [v]) ((rangeL 0 n).map .int) := by
  obtain ⟨r, t, u, w, rfl, hr⟩ := hp.get fun zz e => nomatch e
  have hz : ((rangeL 0 n).map PV.int).length = n := (List.length_map _).trans (rangeL_length n 0)
  refine madeList ⟨okPys_map _ fun zz => rfl, Nat.le_trans (Nat.le_of_eq hz) (Nat.le_trans hn (by decide))⟩ fun Q hQ => call_list_range (n := n) c.R.handled (vis_some hr).1 (small_one (by decide) (by decide) (Int.le_trans (by decide) (Int.natCast_nonneg n)) (Int.lt_of_le_of_lt (Int.ofNat_le.mpr hn) (by decide))) (range_size0 n) (Nat.le_trans hn (by decide)) fun h' tk acc k hk hS hacc => hQ h' tk acc k hk hS (hacc.1.trans hz.symm) fun j v p e1 e2 G => ?_
  obtain ⟨u, rfl⟩ := hacc.2 j v ((Array.getElem?_toList).symm.trans e1)
  rw [List.getElem?_map, Option.map_eq_some_iff] at e2
  obtain ⟨x, e2, rfl⟩ := e2
  exact ⟨u, by rw [rangeL_get e2, Int.mul_one]⟩
noncomputable def bt (w : World) : Bool := w.params.followText "set-order"
noncomputable def eStr : Int × Value → Str
  | (_, .str x _) => x
  | _ => ⟨#[]⟩
noncomputable abbrev FS (prog : Program) (w : World) (h : Heap) (a : Addr) (es : Array (Int × Value)) (ep : Nat) (t : SetTable) (l : List Str) : Prop := (h.get? a = some { cls := .type "set", dict := none, data := .set es ep t }) ∧ (ElemsOf (PySem.strKind prog w) es.toList) ∧ ((es.toList.map eStr).Perm l) ∧ (es.size < scanBound) ∧ (t.fits es.size = true) ∧ (t.led = !(bt w)) ∧ (es.size ≠ 0 → t.plain = false)
section
variable {a_ b_ c_ d_ e_ f_ g_ h_} (x_ : FS a_ b_ c_ d_ e_ f_ g_ h_)
def FS.ob := x_.1
def FS.el := x_.2.1
def FS.pm := x_.2.2.1
def FS.sz := x_.2.2.2.1
def FS.fit := x_.2.2.2.2.1
def FS.led := x_.2.2.2.2.2.1
def FS.pl := x_.2.2.2.2.2.2
end
noncomputable def FSet (prog : Program) (w : World) (h : Heap) (a : Addr) (l : List Str) : Prop := ∃ es ep t, FS prog w h a es ep t l
section
variable {prog : Program} {w : World} {A : Around} {E : Value → Shared → Prop} {s : Shared} {a : Addr} {es : Array (Int × Value)} {ep : Nat} {t : SetTable} {l : List Str}
theorem FS.at {h h' : Heap} (x : FS prog w h a es ep t l) (k : ∀ o, h.get? a = some o → h'.get? a = some o) : FS prog w h' a es ep t l :=
  ⟨k _ x.ob, x.el, x.pm, x.sz, x.fit, x.led, x.pl⟩
theorem FS.len (x : FS prog w s.heap a es ep t l) : es.size = l.length := by
  rw [← x.pm.length_eq, List.length_map, Array.length_toList]
noncomputable abbrev Laid (prog : Program) (w : World) (es : Array (Int × Value)) (t : SetTable) (l : List Str) : Prop := (ElemsOf (PySem.strKind prog w) es.toList) ∧ ((es.toList.map eStr).Perm l) ∧ (es.size < scanBound) ∧ (t.fits es.size = true) ∧ (t.led = !(bt w)) ∧ (t.plain = false)
section
variable {a_ b_ c_ d_ e_} (x_ : Laid a_ b_ c_ d_ e_)
def Laid.el := x_.1
def Laid.pm := x_.2.1
def Laid.sz := x_.2.2.1
def Laid.fit := x_.2.2.2.1
def Laid.led := x_.2.2.2.2.1
def Laid.pl := x_.2.2.2.2.2
end
theorem Laid.fs (x : Laid prog w es t l) {es0 : Array (Int × Value)} {t0 : SetTable} {h : Heap} (ho : h.get? a = some { cls := .type "set", dict := none, data := .set es0 ep t0 }) : FS prog w (h.update a (Obj.putSet es t)) a es (ep + 1) t l :=
  ⟨Heap.get?_update_self (Obj.putSet es t) ho rfl, x.el, x.pm, x.sz, x.fit, x.led, fun zz => x.pl⟩
end
end Mine

namespace Mine.SetF
open PySem
theorem sub_str_set : isSubtype (.type "str") (.type "set") = pure false := by rw [isSubtype_type]; kernel_rfl
theorem sub_str_frozenset : isSubtype (.type "str") (.type "frozenset") = pure false := by rw [isSubtype_type]; kernel_rfl
end Mine.SetF
namespace Mine
open PySem PySem.W PyProof.Rows
section
variable {prog : Program} {w : World} {A : Around} {E : Value → Shared → Prop} {R : Result → Shared → Prop} {s : Shared} {I : Addr} {fp wr : List Addr} {G : Array GenState → Array GenState → Prop} {x : Str} {St : Nat → Shared → Prop}
noncomputable def setObj0 (w : World) : Obj := { cls := .type "set", dict := none, data := .set #[] 0 (.fresh 0 0 (!(bt w))) }
theorem fset_nil {h : Heap} {a : Addr} (e : h.get? a = some (setObj0 w)) : FSet prog w h a [] :=
  ⟨#[], 0, .fresh 0 0 (!(bt w)), e, (fun zz he => nomatch he), .rfl, by decide, rfl, rfl, fun h => absurd rfl h⟩
end
end Mine

namespace Mine.SetF
open PySem
theorem slot_setiter_next : Slot "set_iterator" "__next__" "set_iterator.__next__" :=
  .of (owner := "set_iterator") (n := "__next__") (by rw [typeLookup_type, builtinLookup_eq_fast]; kernel_rfl) (by decide +kernel) (by decide +kernel) (by decide +kernel)
    (by first | exact .inl (by decide +kernel) | exact .inr (by decide +kernel)) (by rw [isSubtype_type]; kernel_rfl)
theorem slot_setiter_iter : Slot "set_iterator" "__iter__" "set_iterator.__iter__" :=
  .of (owner := "set_iterator") (n := "__iter__") (by rw [typeLookup_type, builtinLookup_eq_fast]; kernel_rfl) (by decide +kernel) (by decide +kernel) (by decide +kernel)
    (by first | exact .inl (by decide +kernel) | exact .inr (by decide +kernel)) (by rw [isSubtype_type]; kernel_rfl)
theorem entry_setiter_next : entryFor table "set_iterator.__next__" = some Builtin.«set_iterator.__next__» := entryFor_of_tree (by kernel_rfl)
theorem args_setiter_next (a : Value) : argsOk "set_iterator.__next__" ⟨[a], []⟩ := by unfold argsOk; kernel_rfl
theorem entry_setiter_iter : entryFor table "set_iterator.__iter__" = some Builtin.«dict_keyiterator.__iter__» :=
  entryFor_alias (id' := "dict_keyiterator.__iter__") (by kernel_rfl) rfl (by decide +kernel) (by kernel_rfl)
theorem args_setiter_iter (a : Value) : argsOk "set_iterator.__iter__" ⟨[a], []⟩ := by unfold argsOk; kernel_rfl
theorem entry_set_iter : entryFor table "set.__iter__" = some Builtin.«frozenset.__iter__» :=
  entryFor_alias (id' := "frozenset.__iter__") (by kernel_rfl) rfl (by decide +kernel) (by kernel_rfl)
end Mine.SetF
namespace Mine
open PySem PySem.W PyProof.Rows
noncomputable def itObj (first : Value) (i : Int) (S : Value) (n ep : Int) : Obj := { cls := .type "set_iterator", dict := none, data := .fields #[first, .int i 0, S, .int n 0, .int ep 0], slots := #[] }
noncomputable def setObj (es : Array (Int × Value)) (ep : Nat) (t : SetTable) : Obj := { cls := .type "set", dict := none, data := .set es ep t }
noncomputable abbrev SI (h : Heap) (I S : Addr) (first : Value) (i : Nat) (es : Array (Int × Value)) (ep : Nat) (t : SetTable) : Prop := (h.get? I = some (itObj first i (.ref S) es.size ep)) ∧ (h.get? S = some (setObj es ep t))
section
variable {a_ b_ c_ d_ e_ f_ g_ h_} (x_ : SI a_ b_ c_ d_ e_ f_ g_ h_)
def SI.it := x_.1
def SI.ob := x_.2
end
section
variable {prog : Program} {w : World} {A : Around} {E : Value → Shared → Prop} {s : Shared} {I S : Addr} {first : Value} {i : Nat} {es : Array (Int × Value)} {ep : Nat} {t : SetTable} {Q : Option Value → Shared → Prop}
end
noncomputable abbrev SWk (prog : Program) (w : World) (s : Shared) (S : Addr) (l : List Str) (I : Addr) (s' : Shared) : Prop := (∃ fp ts St, (∀ A' : Around, A'.handled = none → Walks prog w A' I fp [I] (strValues ts).length (fun i v => (strValues ts)[i]? = some v) St) ∧ St 0 s'.heap ∧ (ts.map Prod.fst).Perm l ∧ ∀ b ∈ fp, s.heap.get? b = none ∨ b = S) ∧ (s.heap.get? I = none) ∧ (Step0 s s') ∧ (s'.gens = s.gens)
section
variable {a_ b_ c_ d_ e_ f_ g_} (x_ : SWk a_ b_ c_ d_ e_ f_ g_)
def SWk.ex := x_.1
def SWk.new := x_.2.1
def SWk.st := x_.2.2.1
def SWk.gens := x_.2.2.2
end
section
variable {prog : Program} {w : World} {A : Around} {E : Value → Shared → Prop} {s s₁ : Shared} {I S : Addr} {first : Value} {es : Array (Int × Value)} {ep : Nat} {t : SetTable} {l : List Str} {seq : Nat → Value} {vs : List Value} {xs : List Addr} {K : Heap → Prop}
end
theorem below_one (p j : Nat) : SetTable.below #[p] j = if p < j then 1 else 0 := by
  unfold SetTable.below
  show SetTable.below.go #[p] j 1 0 1 = _
  unfold SetTable.below.go
  rw [if_pos (by decide)]
  show (if p < j then SetTable.below.go #[p] j 0 1 1 else SetTable.below.go #[p] j 0 0 0) = _
  split <;> rfl
section
variable {prog : Program} {w : World} {A : Around} {E : Value → Shared → Prop} {s : Shared} {I S : Addr} {es : Array (Int × Value)} {ep : Nat} {t : SetTable} {l : List Str}
end
section
variable {prog : Program} {w : World} {A : Around} {E : Value → Shared → Prop} {s : Shared} {I S : Addr} {es : Array (Int × Value)} {ep : Nat} {t : SetTable} {l : List Str}
end
section
variable {prog : Program} {w : World} {A : Around} {E : Value → Shared → Prop} {s s0 s1 : Shared} {S I : Addr} {l : List Str}
noncomputable abbrev Filled (s : Shared) (L : Addr) (l : List Str) (r : Result) (s' : Shared) : Prop := (∃ ts c, r = .ok (.ret (.ref L)) ∧ (ts.map Prod.fst).Perm l ∧ s'.heap.get? L = some (seqObj "list" (strValues ts).toArray c)) ∧ (Step (· = L) s s')
section
variable {a_ b_ c_ d_ e_} (x_ : Filled a_ b_ c_ d_ e_)
def Filled.ex := x_.1
def Filled.st := x_.2
end
end
noncomputable abbrev strOf (y : List Nat) : Str := ⟨y.toArray⟩
noncomputable abbrev BinS (op : Operator) := S2 (binaryOp op)
noncomputable abbrev CmpS (op : CmpOp) := S2 (compareOp op)
noncomputable def IsStr (p : PV) : Prop := ∃ x, p = .str x
noncomputable def MS (m : String) (p q r : PV) : Prop := IsStr p ∧ S2 (fn2 m) p q r
noncomputable def Own1 (f : Value → Sem Value) (p r : PV) : Prop := ∃ xs, r = .list xs ∧ ∀ (c : Oc) (v : Value), c.Is p v → c.WF (f v) xs
noncomputable def Own2 (f : Value → Value → Sem Value) (p q r : PV) : Prop := ∃ xs, r = .list xs ∧ ∀ (c : Oc) (v u : Value), c.Is p v → c.Is q u → c.WF (f v u) xs
noncomputable def Snd1 : Op1 → PV → PV → Prop
  | .len => S1 (fn "len")
  | .chr => S1 (fn "chr")
  | .abs => S1 (fn "abs")
  | .int_ => S1 fun v => call (.type "int") [v]
  | .sorted_ => S1 (fn "sorted")
  | .neg => S1 (unaryOp .USub)
  | .rev => SRev
  | .lower => fun p r => IsStr p ∧ S1 (fn "str.lower") p r
  | .decode => fun p r => (∃ x, p = .bytes x) ∧ S1 (fn "bytes.decode") p r
  | .list_ => Own1 fun v => call (.type "list") [v]
noncomputable def Snd2 : Op2 → PV → PV → PV → Prop
  | .add => BinS .Add
  | .sub => BinS .Sub
  | .mul => BinS .Mult
  | .fdiv => BinS .FloorDiv
  | .mod => BinS .Mod
  | .pow => BinS .Pow
  | .eq => CmpS .Eq
  | .ne => CmpS .NotEq
  | .lt => CmpS .Lt
  | .le => CmpS .LtE
  | .gt => CmpS .Gt
  | .ge => CmpS .GtE
  | .is_ => CmpS .Is
  | .isNot => CmpS .IsNot
  | .in_ => CmpS .In
  | .notIn => CmpS .NotIn
  | .idx => fun p q r => (∀ s h v, RW (Shared.heap s) h p v → HasItems s v) ∧ S2 getItem p q r
  | .from_ => fun p q r => ∃ i, q = .int i ∧ S3 (some i) none p r
  | .to_ => fun p q r => ∃ i, q = .int i ∧ S3 none (some i) p r
  | .startswith => MS "str.startswith"
  | .endswith => MS "str.endswith"
  | .split => fun p q r => IsStr p ∧ Own2 (fn2 "str.split") p q r
  | .join => MS "str.join"
  | .index => MS "str.index"
  | .divmod => S2 (fn2 "divmod")
theorem itemsStr {x : List Nat} {s : Shared} {h : Ow} {v : Value} (hp : RW s.heap h (.str x) v) : HasItems s v := by
  obtain ⟨⟨t, rfl⟩, _⟩ := hp.str
  exact ⟨"str", "str.__getitem__", typeIs_str _ _ _, F.slot_str_getitem.lookup⟩
theorem itemsList {x : List PV} {s : Shared} {h : Ow} {v : Value} (hp : RW s.heap h (.list x) v) : HasItems s v := by
  obtain ⟨a, vs, _, ⟨_, la⟩, _⟩ := hp.list
  exact ⟨"list", "list.__getitem__", ⟨_, la, rfl⟩, slot_list_getitem.lookup⟩
theorem itemsTup {x : List PV} {s : Shared} {h : Ow} {v : Value} (hp : RW s.heap h (.tup x) v) : HasItems s v := by
  obtain ⟨a, vs, _, ⟨_, la⟩, _⟩ := hp.tup
  exact ⟨"tuple", "tuple.__getitem__", ⟨_, (vis_some la).1, rfl⟩, PySem.F.slot_tuple_getitem.lookup⟩
theorem sSortL {xs : List PV} {l : List (List Nat)} (e : xs = l.map .str) (h : l.length < 64) : S1 (fn "sorted") (.list xs) (.list ((sortS l).map .str)) := e ▸ sSortList l h
theorem sJoinL {xs : List PV} {l : List (List Nat)} (x : List Nat) (e : xs = l.map .str) (h1 : x.length ≤ 100) (h : (List.intercalate x l).length ≤ LEN) : S2 (fn2 "str.join") (.str x) (.list xs) (.str (List.intercalate x l)) := e ▸ sJoinList x l h1 h
noncomputable def op1S : (o : Op1) → (p : PV) → Option {r : PV // Snd1 o p r}
  | .len, .str s => some ⟨.int s.length, sLenStr s⟩
  | .len, .bytes s => some ⟨.int s.length, sLenBytes s⟩
  | .len, .list s => some ⟨.int s.length, sLenList s⟩
  | .neg, .int i => some ⟨.int (-i), sNeg i⟩
  | .lower, .str s => some ⟨.str (s.map lowA), ⟨s, rfl⟩, sLower s⟩
  | .decode, .bytes b => if h : b.all (fun c => decide (c.toNat < 128)) = true then some ⟨.str (b.map UInt8.toNat), ⟨b, rfl⟩, sDecode b h⟩ else none
  | .chr, .int (.ofNat i) => if h : i < 128 then some ⟨.str [i], sChr i h⟩ else none
  | .abs, .int i => some ⟨.int i.natAbs, sAbs i⟩
  | .int_, .int i => some ⟨.int i, sInt i⟩
  | .list_, .range 0 (.ofNat n) => if h : n ≤ 1000 then some ⟨.list ((rangeL 0 n).map .int), _, rfl, sListRange n h⟩ else none
  | .list_, .str s => if h : s.length ≤ 1000 then some ⟨.list (s.map fun c => .str [c]), _, rfl, sListStr s h⟩ else none
  | .sorted_, .list xs => (strsS xs).bind fun l => if h : l.1.length < 64 then some ⟨.list ((sortS l.1).map .str), sSortL l.2 h⟩ else none
  | .sorted_, .str s => if h : s.length < 64 then some ⟨.list ((sortS (s.map fun c => [c])).map .str), sSortStr s h⟩ else none
  | .rev, .str s => some ⟨.str s.reverse, sRevStr s⟩
  | .rev, .list s => some ⟨.list s.reverse, sRevList s⟩
  | _, _ => none
noncomputable def op2S : (o : Op2) → (p q : PV) → Option {r : PV // Snd2 o p q r}
  | .add, .int a, .int b => some ⟨.int (a + b), sAddInt a b⟩
  | .add, .str a, .str b => if h : a.length + b.length ≤ lenLine then some ⟨.str (a ++ b), sAddStr a b h⟩ else none
  | .add, .bytes a, .bytes b => if h : a.length + b.length ≤ lenLine then some ⟨.bytes (a ++ b), sAddBytes a b h⟩ else none
  | .add, .list a, .list b => if h : a.length + b.length ≤ lenLine then some ⟨.list (a ++ b), sAddList a b h⟩ else none
  | .sub, .int a, .int b => some ⟨.int (a - b), sSubInt a b⟩
  | .sub, .bool a, .bool b => some ⟨.int (b2i a - b2i b), sSubBool a b⟩
  | .mul, .int a, .int b => if h : a.natAbs < 2 ^ 64 then some ⟨.int (a * b), sMulInt a b h⟩ else none
  | .mul, .str s, .int (.ofNat n) => if h : n ≤ 1000 ∧ s.length ≤ 50 then some ⟨.str (List.replicate n s).flatten, sMulStr s n h.1 h.2⟩ else none
  | .fdiv, .int a, .int b => if h : 0 < b ∧ b < 1073741824 then some ⟨.int (a / b), sFdiv a b h.1 h.2⟩ else none
  | .mod, .int a, .int b => if h : 0 < b then some ⟨.int (a % b), sMod a b h⟩ else none
  | .pow, .int a, .int b => if h : 0 ≤ b ∧ b ≤ 64 ∧ 0 ≤ a ∧ a ≤ 64 then some ⟨.int (a ^ b.toNat), sPow a b h⟩ else none
  | .eq, .bytes a, .bytes b => some ⟨.bool (a == b), sEqBytes a b⟩
  | .ne, .bytes a, .bytes b => some ⟨.bool (!(a == b)), sNeBytes a b⟩
  | .eq, a, b => (pyEqS a b).map fun x => ⟨.bool x.1, sEq2 x.2⟩
  | .ne, a, b => (pyEqS a b).map fun x => ⟨.bool (!x.1), sNe2 x.2⟩
  | .lt, .int a, .int b => some ⟨.bool (decide (a < b)), sLtInt a b⟩
  | .le, .int a, .int b => some ⟨.bool (decide (a ≤ b)), sLeInt a b⟩
  | .gt, .int a, .int b => some ⟨.bool (decide (b < a)), sGtInt a b⟩
  | .ge, .int a, .int b => some ⟨.bool (decide (b ≤ a)), sGeInt a b⟩
  | .lt, .str a, .str b => some ⟨.bool (sLt a b), sLtStr a b⟩
  | .gt, .str a, .str b => some ⟨.bool (sLt b a), sGtStr a b⟩
  | .is_, a, b => (match isPS a b with | some x => some ⟨.bool x.1, sIs x⟩ | none => none)
  | .isNot, a, b => (match isPS a b with | some x => some ⟨.bool (!x.1), sIsNot x⟩ | none => none)
  | .in_, .str a, .str b => some ⟨.bool (findAt a b 0).isSome, sInStr a b⟩
  | .notIn, .str a, .str b => some ⟨.bool (!(findAt a b 0).isSome), sNotInStr a b⟩
  | .in_, a, .list xs => if h : plainP a = true then (memS a xs).map fun x => ⟨.bool x.1, sInList h x.2⟩ else none
  | .notIn, a, .list xs => if h : plainP a = true then (memS a xs).map fun x => ⟨.bool (!x.1), sNotInList h x.2⟩ else none
  | .notIn, a, .tup xs => if h : plainP a = true then (memS a xs).map fun x => ⟨.bool (!x.1), sNotInTup h x.2⟩ else none
  | .idx, .list xs, .int i => opt (pyIx xs.length i) fun zz hk => opt xs[_]? fun y hy => some ⟨y, fun zz zz zz => itemsList, sIdxList hk hy⟩
  | .idx, .tup xs, .int i => opt (pyIx xs.length i) fun zz hk => opt xs[_]? fun y hy => some ⟨y, fun zz zz zz => itemsTup, sIdxTup hk hy⟩
  | .idx, .str s, .int i => opt (pyIx s.length i) fun zz hk => opt s[_]? fun y hy => some ⟨.str [y], fun zz zz zz => itemsStr, sIdxStr hk hy⟩
  | .from_, .str s, .int i => some ⟨.str (s.drop (clampIx s.length i)), i, rfl, sliceO_from s i ▸ sSlStr s _ _⟩
  | .from_, .list s, .int i => some ⟨.list (s.drop (clampIx s.length i)), i, rfl, sliceO_from s i ▸ sSlList s _ _⟩
  | .to_, .str s, .int i => some ⟨.str (s.take (clampIx s.length i)), i, rfl, sliceO_to s i ▸ sSlStr s _ _⟩
  | .to_, .bytes s, .int i => some ⟨.bytes (s.take (clampIx s.length i)), i, rfl, sliceO_to s i ▸ sSlBytes s _ _⟩
  | .to_, .list s, .int i => some ⟨.list (s.take (clampIx s.length i)), i, rfl, sliceO_to s i ▸ sSlList s _ _⟩
  | .startswith, .str s, .str w => some ⟨.bool (isPre w s), ⟨s, rfl⟩, sStarts s w⟩
  | .endswith, .str s, .str w => some ⟨.bool (decide (w.length ≤ s.length) && sEq (s.drop (s.length - w.length)) w), ⟨s, rfl⟩, sEnds s w⟩
  | .split, .str s, .str w => if h : w.isEmpty = false ∧ s.length ≤ 1000 then some ⟨.list ((splitP w s).map .str), ⟨s, rfl⟩, _, rfl, sSplit s w h.1 h.2⟩ else none
  | .join, .str s, .list xs => (strsS xs).bind fun l => if h : s.length ≤ 100 ∧ (List.intercalate s l.1).length ≤ lenLine then some ⟨.str (List.intercalate s l.1), ⟨s, rfl⟩, sJoinL s l.2 h.1 h.2⟩ else none
  | .join, .str s, .str t => if h : s.length ≤ 100 ∧ t.length ≤ 100 then some ⟨.str (List.intercalate s (t.map fun c => [c])), ⟨s, rfl⟩, sJoinStr s t h⟩ else none
  | .index, .str s, .str w => opt (findAt w s 0) fun k h => some ⟨.int k, ⟨s, rfl⟩, sIndex s w h⟩
  | .divmod, .int a, .int b => if h : 0 < b ∧ b < 1073741824 then some ⟨.tup [.int (a / b), .int (a % b)], sDivmod a b h.1 h.2⟩ else none
  | _, _, _ => none
noncomputable def op3S : (p q t : PV) → Option {r : PV // ∃ i j, q = .int i ∧ t = .int j ∧ S3 (some i) (some j) p r}
  | .str s, .int a, .int b => some ⟨.str (pySlice s a b), a, b, rfl, rfl, sSlStr s _ _⟩
  | .bytes s, .int a, .int b => some ⟨.bytes (pySlice s a b), a, b, rfl, rfl, sSlBytes s _ _⟩
  | .list s, .int a, .int b => some ⟨.list (pySlice s a b), a, b, rfl, rfl, sSlList s _ _⟩
  | _, _, _ => none
noncomputable def Snd4 (p1 p2 p3 p4 r : PV) : Prop := IsStr p1 ∧ ∀ (c : Oc) v1 v2 v3 v4, c.Is p1 v1 → c.Is p2 v2 → c.Is p3 v3 → c.Is p4 v4 → c.W (call (.builtin "str.find") [v1, v2, v3, v4]) r
noncomputable def op4S : (p1 p2 p3 p4 : PV) → Option {r : PV // Snd4 p1 p2 p3 p4 r}
  | .str s, .str w, .int (.ofNat a), .int (.ofNat b) => some ⟨.int (findIn s w a b), ⟨s, rfl⟩, sFind s w a b⟩
  | _, _, _, _ => none
noncomputable def op1 (o : Op1) (p : PV) : Option PV := (op1S o p).map (·.1)
noncomputable def op2 (o : Op2) (p q : PV) : Option PV := (op2S o p q).map (·.1)
noncomputable def op3 (p q t : PV) : Option PV := (op3S p q t).map (·.1)
noncomputable def op4 (p q t u : PV) : Option PV := (op4S p q t u).map (·.1)
theorem snd1 {o : Op1} {p r : PV} (h : op1 o p = some r) : Snd1 o p r := by
  obtain ⟨x, _, rfl⟩ := Option.map_eq_some_iff.mp h
  exact x.2
theorem snd2 {o : Op2} {p q r : PV} (h : op2 o p q = some r) : Snd2 o p q r := by
  obtain ⟨x, _, rfl⟩ := Option.map_eq_some_iff.mp h
  exact x.2
theorem snd3 {p q t r : PV} (h : op3 p q t = some r) : ∃ i j, q = .int i ∧ t = .int j ∧ S3 (some i) (some j) p r := by
  obtain ⟨x, _, rfl⟩ := Option.map_eq_some_iff.mp h
  exact x.2
theorem snd4 {p q t u r : PV} (h : op4 p q t u = some r) : Snd4 p q t u r := by
  obtain ⟨x, _, rfl⟩ := Option.map_eq_some_iff.mp h
  exact x.2
noncomputable def truS : (p : PV) → Option {b : Bool // ∀ (c : Oc) v, c.Is p v → WP c.prog c.w c.A (truthy v) (fun b' s' => b' = b ∧ Step0 c.s s') c.s}
  | .none => some ⟨false, fun c v h => by cases h.none; exact truthy_none ⟨rfl, Step.refl _ _⟩⟩
  | .bool b => some ⟨b, fun c v h => by cases h.bool; exact wpAny_truthy_bool ⟨rfl, Step.refl _ _⟩⟩
  | .int i => some ⟨!(i == 0), fun c v h => by obtain ⟨t, rfl⟩ := h.int; exact PyProof.Rows.truthy_int ⟨rfl, Step.refl _ _⟩⟩
  | .str x => some ⟨!x.isEmpty, fun c v h => by
      obtain ⟨⟨t, rfl⟩, hx⟩ := h.str
      exact PySem.P.truthy_str (Int.not_le.mpr (len_63 (n := x.length) hx.2)) ⟨by cases x <;> rfl, Step.tok⟩⟩
  | .list xs => some ⟨!xs.isEmpty, fun c v h => by
      obtain ⟨a, vs, ok, la, ra⟩ := h.list
      refine wpAny_truthy_list (la.list fun zz zz e => e) (len_63 (n := vs.length) (Nat.le_trans (Nat.le_of_eq ra.length) ok.2)) ⟨?_, Step.tok⟩
      have h3 := ra.length
      cases xs <;> cases vs <;> first | rfl | cases h3⟩
  | _ => none
noncomputable def truth (p : PV) : Option Bool := (truS p).map (·.1)
theorem sndTru {p : PV} {b : Bool} (h : truth p = some b) : ∀ (c : Oc) v, c.Is p v → WP c.prog c.w c.A (truthy v) (fun b' s' => b' = b ∧ Step0 c.s s') c.s := by
  obtain ⟨x, _, rfl⟩ := Option.map_eq_some_iff.mp h
  exact x.2
set_option genCtorIdx false
inductive Tgt | one (i : Nat) | two (i j : Nat)
set_option genCtorIdx true
set_option genCtorIdx false
mutual
inductive X
  | k (p : PV)
  | var (i : Nat)
  | glob (x : Str) (p : PV)
  | op1 (o : Op1) (a : Opd)
  | op2 (o : Op2) (a b : Opd)
  | op3 (a b c : Opd)
  | op4 (a b c d : Opd)
  | not_ (a : Opd)
  | bool_ (isOr : Bool) (xs : Xs)
  | ite (t : T) (a b : X)
  | lst (xs : Xs)
  | tup (xs : Xs)
  | call (f : Str) (xs : Xs)
  | comp (vars : List (Nat × Str)) (c : C)
  | rngv (n : Nat)
  | hget (c i : Nat) (x : Opd)
inductive Opd
  | v (i : Nat)
  | e (x : X)
inductive Xs
  | nil
  | cons (x : X) (xs : Xs)
inductive T
  | not_ (t : T)
  | bool_ (isOr : Bool) (ts : Ts)
  | x (o : Opd)
inductive Ts
  | nil
  | cons (t : T) (ts : Ts)
inductive C
  | emit (x : X)
  | for_ (t : Tgt) (src : Src) (ifs : Ts) (k : C)
inductive Src
  | one (x : Opd)
  | rng (a : Opd)
  | rng2 (a b : Opd)
  | zip (a b : X)
  | gi (n : Nat) (r : X)
end
set_option genCtorIdx true
inductive SV where
  | un
  | val (p : PV)
  | own (xs : List PV)
  | obj (a : Nat)
  | hdr (c : Nat) (hs : List (List Nat × List Nat))
  | dct (es : List (List Nat × PV))
noncomputable abbrev Rho := List SV
noncomputable def get (ρ : Rho) (i : Nat) : SV := ρ.getD i .un
noncomputable def set (ρ : Rho) (i : Nat) (v : SV) : Rho := ρ.set i v
noncomputable def setT : Tgt → PV → Rho → Option Rho
  | .one i, p, ρ => if i < ρ.length then some (set ρ i (.val p)) else none
  | .two i j, .tup [p, q], ρ => if i < ρ.length ∧ j < ρ.length then some (set (set ρ i (.val p)) j (.val q)) else none
  | _, _, _ => none
noncomputable def itemsOf : PV → Option (List PV)
  | .list xs => some xs
  | .tup xs => some xs
  | .str s => some (s.map fun c => .str [c])
  | _ => none
noncomputable def gIntervals : Nat → Option Int → List Int → Option (List Int)
  | 0, _, _ => some []
  | _ + 1, _, [] => some []
  | n + 1, last, x :: xs =>
    if x = 127 then some [] else
    if x = 0 then (match last with
      | none => none
      | some l => some (List.replicate (n + 1) l)) else
    (gIntervals n (some x) xs).map (x :: ·)
noncomputable def zipPV : List PV → List PV → List PV
  | a :: as, b :: bs => .tup [a, b] :: zipPV as bs
  | _, _ => []
noncomputable def evItems (f : PV → Option (List PV)) : List PV → Option (List PV)
  | [] => some []
  | p :: ps => (f p).bind fun l => (evItems f ps).map (l ++ ·)
noncomputable def rngSrc : PV → Option (List PV)
  | .int n => if n < 100000 ∧ -100000 < n then some ((rangeL 0 n.toNat).map .int) else none
  | _ => none
noncomputable def rng2Src : PV → PV → Option (List PV)
  | .int m, .int n => if (n < 100000 ∧ -100000 < m) ∧ (m < 100000 ∧ -100000 < n) then some ((rangeL m (n - m).toNat).map .int) else none
  | _, _ => none
noncomputable def zipSrc : PV → PV → Option (List PV)
  | .list xs, .list ys => some (zipPV xs ys)
  | _, _ => none
noncomputable def giSrc (n : Nat) : PV → Option (List PV)
  | .list xs => (ints? xs).bind fun l => (gIntervals n none l).map fun g => zipPV ((rangeL 0 n).map .int) (g.map .int)
  | _ => none
noncomputable def okC (c : Nat) : Bool := decide (32 ≤ c) && decide (c < 127)
noncomputable def okHb (a : List Nat) : Bool := a.all okC && decide (a.length ≤ LEN)
noncomputable abbrev HS := List (List Nat × List Nat)
noncomputable def hAll (hs : HS) (n : List Nat) : List PV := (hs.filter fun h => sEq (h.1.map lowA) n).map fun h => .str h.2
noncomputable def hsOf (c : Nat) : SV → Option HS
  | .hdr c' hs => if c' = c then some hs else none
  | _ => none
noncomputable def strOf? : PV → Option (List Nat)
  | .str s => some s
  | _ => none
noncomputable def hdrs (hs : List (List Nat × List Nat)) : List PV := hs.map fun h => .tup [.str h.1, .str h.2]
noncomputable def valOf : SV → Option PV
  | .val p => some p
  | _ => none
noncomputable def readOf : SV → Option PV
  | .val p => some p
  | .own xs => some (.list xs)
  | _ => none
noncomputable def unsetV (vs : List (Nat × Str)) (ρ : Rho) : Rho := vs.foldl (fun r v => set r v.1 .un) ρ
noncomputable def mkList (l : List PV) : Option PV := if okPys l 8 && decide (l.length ≤ LEN) then some (.list l) else none
noncomputable def isNil : Xs → Bool
  | .nil => true
  | .cons .. => false
noncomputable def boolStep (o : Bool) : PV → Bool → Option PV → Option PV
  | .bool b, last, r => if last || b == o then some (.bool b) else r
  | _, _, _ => none
noncomputable abbrev FT := Str → List PV → Option PV
mutual
noncomputable def evE (F : FT) : X → Rho → Option PV
  | .k p, _ => some p
  | .var i, ρ => valOf (get ρ i)
  | .glob _ p, _ => some p
  | .op1 o a, ρ => (evO F a ρ).bind fun p => op1 o p
  | .op2 o a b, ρ => (evO F a ρ).bind fun p => (evO F b ρ).bind fun q => op2 o p q
  | .op3 a b c, ρ => (evO F a ρ).bind fun p => (evO F b ρ).bind fun q => (evO F c ρ).bind fun r => op3 p q r
  | .op4 a b c d, ρ => (evO F a ρ).bind fun p => (evO F b ρ).bind fun q => (evO F c ρ).bind fun r => (evO F d ρ).bind fun t => op4 p q r t
  | .not_ a, ρ => (evO F a ρ).bind fun p => (truth p).bind fun b => some (.bool (!b))
  | .bool_ o xs, ρ => evB F o xs ρ
  | .ite t a b, ρ => (evT F t ρ).bind fun c => if c then evE F a ρ else evE F b ρ
  | .lst xs, ρ => (evXs F xs ρ).bind fun l => mkList l
  | .tup xs, ρ => (evXs F xs ρ).bind fun l => if okPys l 8 && decide (l.length ≤ LEN) then some (.tup l) else none
  | .call f xs, ρ => (evXs F xs ρ).bind fun l => F f l
  | .comp vs c, ρ => (evC F c (unsetV vs ρ)).bind fun l => mkList l
  | .rngv n, _ => some (.range 0 n)
  | .hget c i x, ρ => (hsOf c (get ρ i)).bind fun hs => (evO F x ρ).bind fun p => (strOf? p).bind fun t => if okHb t then mkList (hAll hs (t.map lowA)) else none
noncomputable def evO (F : FT) : Opd → Rho → Option PV
  | .v i, ρ => readOf (get ρ i)
  | .e x, ρ => evE F x ρ
noncomputable def evXs (F : FT) : Xs → Rho → Option (List PV)
  | .nil, _ => some []
  | .cons x xs, ρ => (evE F x ρ).bind fun p => (evXs F xs ρ).bind fun ps => some (p :: ps)
noncomputable def evB (F : FT) (o : Bool) : Xs → Rho → Option PV
  | .nil, _ => none
  | .cons x xs, ρ => (evE F x ρ).bind fun p => boolStep o p (isNil xs) (evB F o xs ρ)
noncomputable def evT (F : FT) : T → Rho → Option Bool
  | .not_ t, ρ => (evT F t ρ).bind fun b => some (!b)
  | .bool_ o ts, ρ => evTs F o ts ρ
  | .x a, ρ => (evO F a ρ).bind fun p => truth p
noncomputable def evTs (F : FT) (o : Bool) : Ts → Rho → Option Bool
  | .nil, _ => some (!o)
  | .cons t ts, ρ => (evT F t ρ).bind fun b => if b == o then some o else evTs F o ts ρ
noncomputable def evC (F : FT) : C → Rho → Option (List PV)
  | .emit x, ρ => (evE F x ρ).bind fun p => some [p]
  | .for_ t src ifs k, ρ => (evSrc F src ρ).bind fun items => evItems (fun p => (setT t p ρ).bind fun ρ' => (evTs F false ifs ρ').bind fun b => if b then evC F k ρ' else some []) items
noncomputable def evSrc (F : FT) : Src → Rho → Option (List PV)
  | .one x, ρ => (evO F x ρ).bind fun p => itemsOf p
  | .rng a, ρ => (evO F a ρ).bind fun p => rngSrc p
  | .rng2 a b, ρ => (evO F a ρ).bind fun p => (evO F b ρ).bind fun q => rng2Src p q
  | .zip a b, ρ => (evE F a ρ).bind fun p => (evE F b ρ).bind fun q => zipSrc p q
  | .gi n r, ρ => (evE F r ρ).bind fun p => giSrc n p
end
structure Base (h₁ : Heap) (mg mb : Str → Option Value) : Prop where
  g : h₁.Ns mainGlobals mg
  b : h₁.Ns builtinsNs mb
  nolimit : h₁.NoLimit
  boot : ∀ x : Str, x ≠ "__name__" → mb x = bootBuiltins x
  no : ∀ x ∈ (["len", "chr", "abs", "int", "list", "sorted", "sum", "max", "isinstance", "bool", "divmod", "set", "range", "zip"] : List Str), mg x = none
noncomputable def Tops (h₁ h : Heap) : Prop := ∀ b o, h₁.get? b = some o → h.get? b = some o
noncomputable abbrev EnvOk (sc : Scope) (env : Env) : Prop := (env.scope.kind = .function) ∧ (env.globals = mainGlobals) ∧ (env.builtins = builtinsNs) ∧ (∀ x, sc.names.lookup x = some .globalImplicit → env.kindOf x = some .globalImplicit) ∧ (∀ x, sc.names.lookup x = some .cell → env.kindOf x = some .cell ∧ (env.cells.lookup x).isSome = true) ∧ (∀ x, sc.names.lookup x = some .local → env.kindOf x = some .local)
section
variable {a_ b_} (x_ : EnvOk a_ b_)
def EnvOk.kind := x_.1
def EnvOk.glob := x_.2.1
def EnvOk.blt := x_.2.2.1
def EnvOk.names := x_.2.2.2.1
def EnvOk.cel := x_.2.2.2.2.1
def EnvOk.loc := x_.2.2.2.2.2
end
structure KC where
  sc : Scope
  nm : List (Nat × Str)
  st : Bool
  gl : List (Str × PV)
  gi : Bool
  hd : Option Addr
  rf : Bool := false
noncomputable abbrev NmOk (nm : List (Nat × Str)) : Prop := (∀ i j x, (i, x) ∈ nm → (j, x) ∈ nm → i = j) ∧ (∀ i x y, (i, x) ∈ nm → (i, y) ∈ nm → x = y)
section
variable {a_} (x_ : NmOk a_)
def NmOk.ix := x_.1
def NmOk.nx := x_.2
end
structure Pg where
  prog : Program
  w : World
  h₁ : Heap
  mg : Str → Option Value
  mb : Str → Option Value
  F : FT
  r : Nat
structure Cx where
  g : Pg
  A : Around
  k : KC
  env : Env
noncomputable abbrev Cx.prog (c : Cx) := c.g.prog
noncomputable abbrev Cx.w (c : Cx) := c.g.w
noncomputable abbrev Cx.h₁ (c : Cx) := c.g.h₁
noncomputable abbrev Cx.WP {α : Type} (c : Cx) (t : Sem α) (Q : α → Shared → Prop) (s : Shared) : Prop := Mine.WP c.g.prog c.g.w c.A t Q s
noncomputable abbrev HD (h : Heap) (c x d l : Addr) : Prop := (h.get? x = some { cls := .ref c, dict := some d, data := .plain }) ∧ (∃ hh t ep, h.get? d = some { cls := .type "dict", dict := none, data := .dict #[{ hash := hh, key := .str "_headers" t, val := .ref l }] ep }) ∧ (x ≠ l) ∧ (d ≠ l)
section
variable {a_ b_ c_ d_ e_} (x_ : HD a_ b_ c_ d_ e_)
def HD.inst := x_.1
def HD.dict := x_.2.1
def HD.xl := x_.2.2.1
def HD.dl := x_.2.2.2
end
theorem HD.at {h h' : Heap} {c x d l : Addr} (H : HD h c x d l) (k : ∀ a, a = x ∨ a = d → ∀ o, h.get? a = some o → h'.get? a = some o) : HD h' c x d l :=
  ⟨k x (.inl rfl) _ H.inst, (by
    obtain ⟨hh, t, ep, e⟩ := H.dict
    exact ⟨hh, t, ep, k d (.inr rfl) _ e⟩), H.xl, H.dl⟩
noncomputable def EnR (w : World) (G : GO) : List (List Nat × PV) → List DictEntry → Prop
  | [], l => l = []
  | x :: es, l => ∃ e r, l = e :: r ∧ ((∃ t, e.key = .str (strOf x.1) t) ∧ e.hash = hashStr w (strOf x.1)) ∧ RV G x.2 e.val ∧ EnR w G es r
theorem EnR.mono {w : World} {G G' : GO} (h : Sub G G') : ∀ {es : List (List Nat × PV)} {l : List DictEntry}, EnR w G es l → EnR w G' es l
  | [], _, x => x
  | _ :: _, _, ⟨e, r, q, k, v, x⟩ => ⟨e, r, q, k, v.mono h, x.mono h⟩
noncomputable abbrev dObj (l : List DictEntry) (ep : Nat) : Obj := { cls := .type "dict", dict := none, data := .dict l.toArray ep, slots := #[] }
inductive SlotR (w : World) (h : Heap) (ow : Ow) (t : Tag) : SV → Option Value → Prop
  | un {o : Option Value} : SlotR w h ow t .un o
  | val {p : PV} {v : Value} (r : RV (vis h ow) p v) : SlotR w h ow t (.val p) (some v)
  | own {xs : List PV} {a : Addr} {vs : List Value} (ta : ow a = t) (ok : okL xs) (l : IsL h.get? "list" a vs) (r : RVs (vis h ow) xs vs) : SlotR w h ow t (.own xs) (some (.ref a))
  | obj {a : Addr} : SlotR w h ow t (.obj a) (some (.ref a))
  | hdr {c : Addr} {hs : List (List Nat × List Nat)} {x d l : Addr} {vs : List Value} (tx : ow x = t) (td : ow d = t) (tl : ow l = t) (H : HD h c x d l) (ok : okL (hdrs hs)) (il : IsL h.get? "list" l vs) (r : RVs (vis h ow) (hdrs hs) vs) : SlotR w h ow t (.hdr c hs) (some (.ref x))
  | dct {es : List (List Nat × PV)} {a : Addr} {l : List DictEntry} {ep : Nat} (ta : ow a = t) (o : h.get? a = some (dObj l ep)) (r : EnR w (vis h ow) es l) (nd : (es.map (·.1)).Nodup) (ne : (a == sysModules) = false) : SlotR w h ow t (.dct es) (some (.ref a))
theorem SlotR.mono {w : World} {h h' : Heap} {ow ow' : Ow} {t t' : Tag} {sv : SV} {ov : Option Value} (x : SlotR w h ow t sv ov) (hk : ∀ a, ow a = t → (h.get? a).isSome = true → ow' a = t' ∧ ∀ o, h.get? a = some o → h'.get? a = some o) (hv : Sub (vis h ow) (vis h' ow')) : SlotR w h' ow' t' sv ov := by
  have lv : ∀ {a o}, h.get? a = some o → (h.get? a).isSome = true := fun e => (congrArg Option.isSome e).trans rfl
  cases x with
  | un => exact .un
  | val r => exact .val (r.mono hv)
  | own ta ok l r =>
    obtain ⟨n, e⟩ := l
    have := hk _ ta (lv e)
    exact .own this.1 ok ⟨n, this.2 _ e⟩ (r.mono hv)
  | obj => exact .obj
  | dct ta o r nd ne => exact .dct (hk _ ta (lv o)).1 ((hk _ ta (lv o)).2 _ o) (r.mono hv) nd ne
  | hdr tx td tl H ok il r =>
    obtain ⟨n, e⟩ := il
    obtain ⟨_, _, _, ed⟩ := H.dict
    have hl := hk _ tl (lv e)
    have hx := hk _ tx (lv H.inst)
    have hd := hk _ td (lv ed)
    exact .hdr hx.1 hd.1 hl.1 (H.at fun a ha => ha.elim (fun q => q ▸ hx.2) fun q => q ▸ hd.2) ok ⟨n, hl.2 _ e⟩ (r.mono hv)
inductive Named (c : Cx) (m : Str → Option Value) (h : Heap) (x : Str) (ov : Option Value) : Prop
  | loc (k : c.env.kindOf x = some .local) (e : m x = ov)
  | cel (k : c.env.kindOf x = some .cell) (a : Addr) (hc : c.env.cells.lookup x = some a) (e : h.IsCell a ov)
noncomputable def tg (c : Cx) (t : Tag) : Tag := if c.k.st = true then t else .ext
noncomputable def Slots (c : Cx) (ρ : Rho) (ow : Ow) (h : Heap) (m : Str → Option Value) : Prop := ∀ i x, (i, x) ∈ c.k.nm → ∃ ov, Named c m h x ov ∧ SlotR c.g.w h ow (tg c (.slot i)) (get ρ i) ov
noncomputable abbrev Ok (c : Cx) (ρ : Rho) (ow : Ow) (s : Shared) : Prop := (Tops c.h₁ s.heap) ∧ (∀ b, ow b ≠ .free → c.h₁.get? b = none) ∧ (Lv s ow) ∧ (ow c.env.locals = .loc) ∧ (∀ x a, c.env.cells.lookup x = some a → ow a = tg c (.cell x)) ∧ (∃ m, s.heap.Ns c.env.locals m ∧ Slots c ρ ow s.heap m)
section
variable {a_ b_ c_ d_} (x_ : Ok a_ b_ c_ d_)
def Ok.top := x_.1
def Ok.old := x_.2.1
def Ok.live := x_.2.2.1
def Ok.loc := x_.2.2.2.1
def Ok.cells := x_.2.2.2.2.1
def Ok.body := x_.2.2.2.2.2
end
theorem IsCell_keep {h h' : Heap} {c : Addr} {v : Option Value} (x : h.IsCell c v) (hk : ∀ o, h.get? c = some o → h'.get? c = some o) : h'.IsCell c v := let ⟨o, e, d⟩ := x; ⟨o, hk o e, d⟩
theorem Ns_keep {h h' : Heap} {a : Addr} {m : Str → Option Value} (x : h.Ns a m) (hk : ∀ o, h.get? a = some o → h'.get? a = some o) : h'.Ns a m := by
  obtain ⟨o, es, ep, e, r⟩ := x
  exact ⟨o, es, ep, hk o e, r⟩
theorem ns_live {h : Heap} {a : Addr} {m : Str → Option Value} (x : h.Ns a m) : (h.get? a).isSome = true := let ⟨_, _, _, e, _⟩ := x; (congrArg Option.isSome e).trans rfl
theorem Named.keep {c : Cx} {m : Str → Option Value} {h h' : Heap} {x : Str} {ov : Option Value} (n : Named c m h x ov) (hk : ∀ a, c.env.cells.lookup x = some a → ∀ o, h.get? a = some o → h'.get? a = some o) : Named c m h' x ov := by
  cases n with
  | loc k e => exact .loc k e
  | cel k a hc e => exact .cel k a hc (IsCell_keep e (hk a hc))
section
variable {c : Cx} {ρ ρ' : Rho} {ow ow' : Ow} {s s' : Shared}
theorem tg_ne (t : Tag) (h : t ≠ .free) : tg c t ≠ .free := by unfold tg; split; exact h; exact fun h => nomatch h
theorem Ok.move {P : Addr → Prop} (T : Ok c ρ ow s) (hs : Keeps P s s') (hP : ∀ b, P b → ow b = .aux ∨ s.heap.get? b = none) (hl : Lv s' ow') (ho : ∀ b, ow b ≠ .free → ow b ≠ .aux → ow' b = ow b) (hn : ∀ b, ow b = .free → ow' b = .free ∨ s.heap.get? b = none) : Ok c ρ ow' s' := by
  have hv : Sub (vis s.heap ow) (vis s'.heap ow') := Sub.step hs (fun b hb => (hP b hb).imp (fun h q => nomatch h.symm.trans q) id) hn
  have kp : ∀ b, ow b ≠ .aux → ∀ o, s.heap.get? b = some o → s'.heap.get? b = some o := fun b h2 o e => hs b o e fun hb => (hP b hb).elim h2 (not_none e)
  have tn : ∀ {t}, t ≠ .free → t ≠ .aux → ∀ b, ow b = tg c t → ow b ≠ .free ∧ ow b ≠ .aux := fun {t} h1 h2 b e => by
    rw [e]; unfold tg; split
    · exact ⟨h1, h2⟩
    · exact ⟨(fun h => nomatch h), fun h => nomatch h⟩
  have hloc : ow c.env.locals ≠ .free ∧ ow c.env.locals ≠ .aux := by rw [T.loc]; exact ⟨(fun h => nomatch h), fun h => nomatch h⟩
  have hcell : ∀ x a, c.env.cells.lookup x = some a → ow a ≠ .free ∧ ow a ≠ .aux := fun x a e => tn (t := .cell x) (fun h => nomatch h) (fun h => nomatch h) a (T.cells x a e)
  obtain ⟨m, hm, hb⟩ := T.body
  refine ⟨fun b o e => hs b o (T.top b o e) fun hb => (hP b hb).elim (fun h => not_none e (T.old b fun q => nomatch h.symm.trans q)) (not_none (T.top b o e)), fun b hb => ?_, hl, (ho _ hloc.1 hloc.2).trans T.loc, fun x a e => (ho a (hcell x a e).1 (hcell x a e).2).trans (T.cells x a e), m, Ns_keep hm (kp _ hloc.2), fun i x hi => ?_⟩
  · by_cases q : ow b = .free
    · exact (hn b q).elim (fun h => absurd h hb) fun h => Option.eq_none_iff_forall_not_mem.mpr fun o e => not_none (T.top b o e) h
    · exact T.old b q
  · obtain ⟨ov, n, sl⟩ := hb i x hi
    refine ⟨ov, n.keep fun a e => kp a (hcell x a e).2, sl.mono (fun a e zz => ?_) hv⟩
    have := tn (t := .slot i) (fun h => nomatch h) (fun h => nomatch h) a e
    exact ⟨(ho a this.1 this.2).trans e, kp a this.2⟩
end
theorem cell_inj {x y : Str} (h : Tag.cell x = .cell y) : x = y := by injection h
noncomputable abbrev Gr (ow ow' : Ow) (s s' : Shared) : Prop := (Step (fun b => (ow b).mine) s s') ∧ (∀ b, ow' b = ow b ∨ (ow b).mine ∨ s.heap.get? b = none)
section
variable {a_ b_ c_ d_} (x_ : Gr a_ b_ c_ d_)
def Gr.step := x_.1
def Gr.new := x_.2
end
theorem Gr.refl (ow : Ow) (s : Shared) : Gr ow ow s s := ⟨Step.refl _ _, fun zz => .inl rfl⟩
theorem Gr.of0 {ow : Ow} {s s' : Shared} (h : Step0 s s') : Gr ow ow s s' := ⟨h.up, fun zz => .inl rfl⟩
theorem Gr.trans {ow ow' ow'' : Ow} {s s' s'' : Shared} (x : Gr ow ow' s s') (y : Gr ow' ow'' s' s'') : Gr ow ow'' s s'' := by
  have back : ∀ b, s'.heap.get? b = none → (ow b).mine ∨ s.heap.get? b = none := fun b h => (Classical.em (ow b).mine).imp id fun hm => Option.eq_none_iff_forall_not_mem.mpr fun o e => not_none (x.step.keep b o e hm) h
  refine ⟨x.step.trans y.step fun b hb => ?_, fun b => ?_⟩
  · exact (x.new b).elim (fun h => .inl (h ▸ hb)) id
  · rcases y.new b with h | h | h
    · rcases x.new b with q | q
      · exact .inl (h.trans q)
      · exact .inr q
    · exact (x.new b).elim (fun q => .inr (.inl (q ▸ h))) .inr
    · exact .inr (back b h)
theorem Tag.mine_ne {t : Tag} (h : t.mine) : t ≠ .free ∧ t ≠ .ext ∧ t ≠ .aux := by cases t <;> first | exact h.elim | exact ⟨(fun h => nomatch h), (fun h => nomatch h), fun h => nomatch h⟩
theorem Gr.sub {ow ow' : Ow} {s s' : Shared} (x : Gr ow ow' s s') : Sub (vis s.heap ow) (vis s'.heap ow') :=
  Sub.step x.step.keep (fun zz h => .inl (Tag.mine_ne h).1) fun b h => (x.new b).elim (fun q => .inl (q.trans h)) fun q => q.elim (fun q => absurd h (Tag.mine_ne q).1) .inr
section
variable {c : Cx} {ρ ρ' : Rho} {ow ow' : Ow} {s s' : Shared}
noncomputable def Mn (c : Cx) (ow : Ow) (b : Addr) : Prop := (ow b).mine ∧ (ow b = .loc → b = c.env.locals) ∧ ∀ i, ow b ≠ .slot i
theorem Step.gr (h : Step (Mn c ow) s s') : Gr ow ow s s' := ⟨h.weak fun zz h => .inl h.1, fun zz => .inl rfl⟩
theorem Ok.step (T : Ok c ρ ow s) (hs : Step0 s s') : Ok c ρ ow s' := T.move hs.keep (fun zz h => h.elim) (T.live.step hs) (fun zz zz zz => rfl) fun zz => .inl
theorem get_set_ne {ρ : Rho} {i j : Nat} {sv : SV} (h : j ≠ i) : get (set ρ i sv) j = get ρ j := by
  unfold get set
  rw [List.getD_eq_getElem?_getD, List.getD_eq_getElem?_getD, List.getElem?_set_ne (Ne.symm h)]
theorem get_set_lt {ρ : Rho} {i : Nat} {sv : SV} (h : i < ρ.length) : get (set ρ i sv) i = sv := by
  unfold get set
  rw [List.getD_eq_getElem?_getD, List.getElem?_set_self h]; rfl
theorem get_set_eq {ρ : Rho} {i : Nat} {sv : SV} : get (set ρ i sv) i = sv ∨ get (set ρ i sv) i = .un := by
  by_cases h : i < ρ.length
  · exact .inl (get_set_lt h)
  · refine .inr ?_
    unfold get set
    rw [List.getD_eq_getElem?_getD, List.getElem?_eq_none (by rw [List.length_set]; exact Nat.not_lt.mp h)]; rfl
theorem Ok.less (T : Ok c ρ ow s) (h : ∀ i, get ρ' i = get ρ i ∨ get ρ' i = .un) : Ok c ρ' ow s := by
  obtain ⟨m, hm, hb⟩ := T.body
  refine ⟨T.top, T.old, T.live, T.loc, T.cells, m, hm, fun i x hi => ?_⟩
  obtain ⟨ov, n, sl⟩ := hb i x hi
  refine ⟨ov, n, (h i).elim (fun e => e ▸ sl) fun e => e ▸ .un⟩
theorem Ok.load {i : Nat} {x : Str} {Q : Value → Shared → Prop} (O : EnvOk c.k.sc c.env) (T : Ok c ρ ow s) (hm : (i, x) ∈ c.k.nm) (hs : get ρ i ≠ .un)
    (h : ∀ v, SlotR c.g.w s.heap ow (tg c (.slot i)) (get ρ i) (some v) → Q v s) : c.WP (loadName c.env x) Q s := by
  obtain ⟨m, hn, hb⟩ := T.body
  obtain ⟨ov, n, sl⟩ := hb i x hm
  obtain ⟨v, rfl⟩ : ∃ v, ov = some v := by
    generalize get ρ i = sv at hs sl
    cases sl <;> first | exact ⟨_, rfl⟩ | exact absurd rfl hs
  cases n with
  | loc k e => exact wpAny_loadName_local O.kind k hn e (h v sl)
  | cel k a hc e => exact wpAny_loadName_cell O.kind k hc e (h v sl)
theorem Ok.chg {a : Addr} {t : Tag} {m' : Str → Option Value} (T : Ok c ρ ow s) (hs : Step (· = a) s s') (ha : ow a = t) (hm : t.mine) (hal : (s'.heap.get? a).isSome = true) (hns : s'.heap.Ns c.env.locals m') (hb : Slots c ρ' ow s'.heap m') : Ok c ρ' ow s' ∧ Gr ow ow s s' := by
  have hmf := Tag.mine_ne hm
  refine ⟨⟨fun b o e => hs.keep b o (T.top b o e) fun q => not_none e (T.old b (by rw [q, ha]; exact hmf.1)), T.old, fun b hb => ?_, T.loc, T.cells, m', hns, hb⟩, hs.weak fun b q => .inl (by rw [q, ha]; exact hm), fun zz => .inl rfl⟩
  by_cases q : b = a
  · exact q ▸ hal
  · exact hs.alive (T.live b hb) q
theorem SlotR.chg {a : Addr} {t t' : Tag} {w : World} {sv : SV} {ov : Option Value} (x : SlotR w s.heap ow t' sv ov) (hs : Step (· = a) s s') (ha : ow a = t) (ht : t ≠ .free) (hne : t' ≠ t) : SlotR w s'.heap ow t' sv ov :=
  x.mono (fun b hb zz => ⟨hb, fun o e => hs.keep b o e fun q => hne (hb.symm.trans (q ▸ ha))⟩) (Sub.step hs.keep (fun b q => .inl (by rw [q, ha]; exact ht)) fun zz => .inl)
theorem Ok.store {i : Nat} {x : Str} {sv : SV} {v : Value} (O : EnvOk c.k.sc c.env) (N : NmOk c.k.nm) (T : Ok c ρ ow s) (hm : (i, x) ∈ c.k.nm) (hk : c.env.kindOf x = some .local ∨ c.k.st = true) (hsv : SlotR c.g.w s.heap ow (tg c (.slot i)) sv (some v)) :
    c.WP (storeName c.env x v) (fun zz s' => Ok c (set ρ i sv) ow s' ∧ Step (Mn c ow) s s') s := by
  obtain ⟨m, hn, hb⟩ := T.body
  have tne : ∀ {t : Tag} (j : Nat), t.mine → (∀ j, t ≠ .slot j) → tg c (.slot j) ≠ t := fun {t} j h1 h2 => by
    unfold tg; split
    · exact (h2 j).symm
    · exact (Tag.mine_ne h1).2.1.symm
  have fin : ∀ {a t s' m'}, Step (· = a) s s' → ow a = t → t.mine → (t = .loc → a = c.env.locals) → (∀ j, t ≠ .slot j) → (s'.heap.get? a).isSome = true → s'.heap.Ns c.env.locals m' → (∀ j y, (j, y) ∈ c.k.nm → ∀ ov, Named c m s.heap y ov → Named c m' s'.heap y (if j = i then some v else ov)) → Ok c (set ρ i sv) ow s' ∧ Step (Mn c ow) s s' := fun {a t s' m'} hs ha hm1 hl hns hal hn' hnam => by
    refine ⟨(T.chg hs ha hm1 hal hn' fun j y hj => ?_).1, hs.weak fun b q => .inl ⟨by rw [q, ha]; exact hm1, by rw [q, ha]; exact hl, by rw [q, ha]; exact hns⟩⟩
    obtain ⟨ov, n, sl⟩ := hb j y hj
    refine ⟨_, hnam j y hj ov n, ?_⟩
    by_cases q : j = i
    · subst q
      rw [if_pos rfl]
      rcases get_set_eq (ρ := ρ) (i := j) (sv := sv) with e | e <;> rw [e]
      · exact hsv.chg hs ha (Tag.mine_ne hm1).1 (tne j hm1 hns)
      · exact .un
    · rw [if_neg q, get_set_ne q]
      exact sl.chg hs ha (Tag.mine_ne hm1).1 (tne j hm1 hns)
  have same : ∀ {j y}, (j, y) ∈ c.k.nm → (y = x ↔ j = i) := fun {j y} hj => ⟨fun h => N.ix j i x (h ▸ hj) hm, fun h => N.nx j y x hj (h ▸ hm)⟩
  obtain ⟨ov0, n0, _⟩ := hb i x hm
  cases n0 with
  | loc k1 e0 =>
    refine wpAny_storeName_local k1 hn (fun h' hn' hs' => ?_) (by rw [O.kind]; rfl)
    refine fin (Step.sameBut hs' rfl) T.loc trivial (fun zz => rfl) (fun zz h => nomatch h) (ns_live hn') hn' fun j y hj ov n => ?_
    cases n with
    | loc k2 e2 =>
      refine .loc k2 ?_
      by_cases q : j = i
      · rw [if_pos q, if_pos ((same hj).mpr q)]
      · rw [if_neg q, if_neg (mt (same hj).mp q)]; exact e2
    | cel k2 a hc e2 =>
      have q : j ≠ i := fun q => by rw [(same hj).mpr q, k1] at k2; cases k2
      rw [if_neg q]
      exact .cel k2 a hc (e2.sameBut hs' fun h => tg_ne_loc (T.cells y a hc) (h ▸ T.loc))
  | cel k1 a hc e0 =>
    have hst : c.k.st = true := hk.resolve_left fun h => by rw [k1] at h; cases h
    have hta : ow a = .cell x := (T.cells x a hc).trans (if_pos hst)
    refine wpAny_storeName_cell O.kind k1 hc e0 fun h' hc' hs' => ?_
    have hs2 : Step (· = a) s { s with heap := h' } := Step.heap fun b o e hb => (hs'.2 b hb).trans e
    refine fin hs2 hta trivial (fun h => nomatch h) (fun zz h => nomatch h) (by obtain ⟨o, e, _⟩ := hc'; exact (congrArg Option.isSome e).trans rfl) (hn.sameBut hs' fun h => by rw [← h, T.loc] at hta; cases hta) fun j y hj ov n => ?_
    cases n with
    | loc k2 e2 =>
      have q : j ≠ i := fun q => by rw [(same hj).mpr q, k1] at k2; cases k2
      rw [if_neg q]
      exact .loc k2 e2
    | cel k2 a2 hc2 e2 =>
      by_cases q : j = i
      · rw [if_pos q]
        cases (same hj).mpr q
        rw [hc] at hc2; cases hc2
        exact .cel k2 a hc hc'
      · rw [if_neg q]
        refine .cel k2 a2 hc2 (e2.sameBut hs' fun h => ?_)
        have h2 := (T.cells y a2 hc2).trans (if_pos hst)
        rw [h, hta] at h2
        exact q ((same hj).mp (cell_inj h2).symm)
where
  tg_ne_loc {c : Cx} {x : Str} {t : Tag} (h : t = tg c (.cell x)) (h' : t = .loc) : False := by
    rw [h'] at h; unfold tg at h; split at h <;> cases h
end
noncomputable def plainE : Expr → Bool
  | .Starred .. => false
  | _ => true
theorem starEach_plain {e : Expr} (h : plainE e = true) (rest : List Expr) (env : Env) : starEach (e :: rest) env = (false, eval e env) :: starEach rest env := by
  cases e <;> first | rfl | cases h
noncomputable def isGlob (sc : Scope) (x : Str) : Bool := sc.names.lookup x == some .globalImplicit && x != ("__debug__" : Str)
theorem isGlob_iff {sc : Scope} {x : Str} (h : isGlob sc x = true) : sc.names.lookup x = some .globalImplicit ∧ (x == ("__debug__" : Str)) = false :=
  have ⟨h1, h2⟩ := (Bool.and_eq_true _ _).mp h
  ⟨beq_iff_eq.mp h1, by rw [bne, Bool.not_eq_true'] at h2; exact h2⟩
structure Rd0 (c : Cx) : Prop where
  B : Base c.g.h₁ c.g.mg c.g.mb
  R : Rm (c.g.r + 1) c.A
  O : EnvOk c.k.sc c.env
  N : NmOk c.k.nm
section
variable {c : Cx} {s : Shared}
theorem eval_global {x : Str} {pos : Pos} {v : Value} {Q : Value → Shared → Prop} (D : Rd0 c) (ht : Tops c.g.h₁ s.heap) (hx : isGlob c.k.sc x = true) (hv : c.g.mg x = some v) (h : Q v s) : c.WP (eval (.Name x pos) c.env) Q s :=
  have ⟨h1, h2⟩ := isGlob_iff hx
  Calls.Name_function_global D.O.kind (D.O.names x h1) (Calls.loadGlobal_global (mg := c.g.mg) (by rw [D.O.glob]; exact D.B.g.keeps ht) hv h) h2
theorem eval_builtin {x : Str} {pos : Pos} {v : Value} {Q : Value → Shared → Prop} (D : Rd0 c) (ht : Tops c.g.h₁ s.heap) (hx : isGlob c.k.sc x = true) (hn : x ≠ "__name__") (hm : c.g.mg x = none) (hv : bootBuiltins x = some v) (h : Q v s) : c.WP (eval (.Name x pos) c.env) Q s :=
  have ⟨h1, h2⟩ := isGlob_iff hx
  Calls.Name_function_global D.O.kind (D.O.names x h1) (Calls.loadGlobal_builtin (mg := c.g.mg) (mb := c.g.mb) (by rw [D.O.glob]; exact D.B.g.keeps ht) hm (by rw [D.O.blt]; exact D.B.b.keeps ht) ((D.B.boot x hn).trans hv) h) h2
theorem args1 {x : Expr} {pos : Pos} {Q : List Value → Shared → Prop} (hx : plainE x = true) (h : c.WP (eval x c.env) (fun v s₁ => Q [v] s₁) s) : c.WP (spliced (backTo pos (starEach [x] c.env))) Q s :=
  args_cons (wpAny_mono h (fun zz zz h₁ => args_nil h₁) fun zz zz x => x) (starEach_plain hx _ _)
theorem args2 {x y : Expr} {pos : Pos} {Q : List Value → Shared → Prop} (hx : plainE x = true) (hy : plainE y = true) (h : c.WP (eval x c.env) (fun v s₁ => c.WP (eval y c.env) (fun u s₂ => Q [v, u] s₂) s₁) s) : c.WP (spliced (backTo pos (starEach [x, y] c.env))) Q s :=
  args_cons (wpAny_mono h (fun zz zz h₁ => args1 hy h₁) fun zz zz x => x) (starEach_plain hx _ _)
theorem args3 {x y z : Expr} {pos : Pos} {Q : List Value → Shared → Prop} (hx : plainE x = true) (hy : plainE y = true) (hz : plainE z = true)
    (h : c.WP (eval x c.env) (fun v s₁ => c.WP (eval y c.env) (fun u s₂ => c.WP (eval z c.env) (fun t s₃ => Q [v, u, t] s₃) s₂) s₁) s) : c.WP (spliced (backTo pos (starEach [x, y, z] c.env))) Q s :=
  args_cons (wpAny_mono h (fun zz zz h₁ => args2 hy hz h₁) fun zz zz x => x) (starEach_plain hx _ _)
theorem backTo_cons {e : Expr} {es : List Expr} {pos : Pos} {env : Env} (h : plainE e = true) : backTo pos (starEach (e :: es) env) = (false, eval e env) :: backTo pos (starEach es env) := by
  rw [starEach_plain h]; rfl
theorem starEach_any {env : Env} : ∀ {es : List Expr}, es.all plainE = true → ∀ {pos : Pos}, (backTo pos (starEach es env)).any (·.1) = false
  | [], _, _ => rfl
  | e :: es, h, pos => by
    obtain ⟨h1, h2⟩ := (Bool.and_eq_true _ _).mp h
    rw [backTo_cons h1]
    exact starEach_any h2
theorem starEach_all {env : Env} : ∀ {es : List Expr}, es.all plainE = true → ∀ {pos : Pos}, (backTo pos (starEach es env)).all (fun x => !x.1) = true
  | [], _, _ => rfl
  | e :: es, h, pos => by
    obtain ⟨h1, h2⟩ := (Bool.and_eq_true _ _).mp h
    rw [backTo_cons h1]
    exact starEach_all h2
theorem callFn {fv : Value} {first : List Value} {e : Expr} {es : List Expr} {pos : Pos} {Q : Value → Shared → Prop} (hf : (∃ id, fv = .builtin id) ∨ ∃ T, fv = .type T) (hp : (e :: es).all plainE = true)
    (h : c.WP (spliced (backTo pos (starEach (e :: es) c.env))) (fun vs s₁ => c.WP (call fv (first ++ vs)) Q s₁) s) : c.WP (callWith pos fv first (backTo pos (starEach (e :: es) c.env)) []) Q s := by
  have ha := starEach_any (env := c.env) hp (pos := pos)
  rw [backTo_cons ((Bool.and_eq_true _ _).mp hp).1] at h ha ⊢
  rcases hf with ⟨id, rfl⟩ | ⟨T, rfl⟩
  · exact Calls.callWith_builtin ha (Calls.evalArgs_plain h)
  · exact PySem.callWith_type ha (Calls.evalArgs_plain h)
theorem Call_fn {x : Str} {np pos : Pos} {fv : Value} {e : Expr} {es : List Expr} {Q : Value → Shared → Prop} (D : Rd0 c) (ht : Tops c.g.h₁ s.heap) (hx : isGlob c.k.sc x = true) (hn : x ≠ "__name__") (hm : c.g.mg x = none) (hv : bootBuiltins x = some fv) (hf : (∃ id, fv = .builtin id) ∨ ∃ T, fv = .type T) (hp : (e :: es).all plainE = true)
    (h : c.WP (spliced (backTo pos (starEach (e :: es) c.env))) (fun vs s₁ => c.WP (call fv vs) Q s₁) s) : c.WP (eval (.Call (.Name x np) (e :: es) [] pos) c.env) Q s :=
  wpAny_bind (eval_builtin D ht hx hn hm hv (callFn (first := []) hf hp h))
noncomputable def BaseP (o : Expr) : Prop := ∀ m env whole, attributeBase o m env whole = whole
theorem Call_meth {o : Expr} {m : Str} {apos pos : Pos} {es : List Expr} {Q : Value → Shared → Prop} (ho : BaseP o) (hp : es.all plainE = true) (hn : es.length < 30) (hl : (apos.endLine == pos.line) = true)
    (h : c.WP (eval o c.env) (fun ov s₁ => c.WP (getMethod ov m (do return (← importBound o c.env).getD true)) (fun fx s₂ => c.WP (callWith pos fx.1 fx.2 (backTo pos (starEach es c.env)) []) Q s₂) s₁) s) : c.WP (eval (.Call (.Attribute o m apos) es [] pos) c.env) Q s := by
  have e0 : eval (.Call (.Attribute o m apos) es [] pos) c.env = (do
      let ov ← attributeBase o m c.env (eval o c.env)
      standAt apos.atName
      methodCall o m apos pos c.env ov (es.length + 0) (backTo pos (starEach es c.env)) []) := rfl
  rw [e0, ho]
  have hf : methodCallForm (es.length + 0) (backTo pos (starEach es c.env)) [] = true := by
    unfold methodCallForm
    rw [starEach_all hp]
    simp; lia
  refine wpAny_bind (wpAny_mono h (fun ov s₁ h₁ => wpAny_bind (wpAny_standAt ?_)) fun zz zz x => x)
  unfold methodCall
  rw [hf]
  unfold calleeOf
  rw [if_pos rfl]
  refine wpAny_bind (wpAny_holding (wpAny_mono h₁ (fun fx s₂ h₂ => ?_) fun zz zz x => x))
  unfold methodCallPos
  rw [hl, Bool.or_true, if_pos rfl]
  exact wpAny_bind (wpAny_pure h₂)
theorem getMethod_str {x : Str} {t : Tok} {m : Str} {id : String} {pl : Sem Bool} {Q : Value × List Value → Shared → Prop} (slot : Slot "str" m id) (ty : typeOf (.builtin id) = pure (.type "method_descriptor"))
    (h : Q (.builtin id, [.str x t]) s) : c.WP (getMethod (.str x t) m pl) Q s := by with_reducible exact GM.of (.str x t) (typeIs_str _ _ _) slot ty GM.noRef h
theorem getMethod_bytes {x : Array UInt8} {t : Tok} {m : Str} {id : String} {pl : Sem Bool} {Q : Value × List Value → Shared → Prop} (slot : Slot "bytes" m id) (ty : typeOf (.builtin id) = pure (.type "method_descriptor"))
    (h : Q (.builtin id, [.bytes x t]) s) : c.WP (getMethod (.bytes x t) m pl) Q s := by with_reducible exact PySem.W.KBd.method_of (.bytes x t) (typeIs_bytes _ _ _) slot ty PySem.W.KBd.noRef h
set_option tactic.hygienic true in
theorem subscripted_plain (slice : Expr) (o i : Value) : ∃ l, subscripted slice false o i = operate l (getItem o i) := by
  cases slice
  case Slice a b st p => cases st <;> exact ⟨_, rfl⟩
  all_goals exact ⟨_, rfl⟩
theorem Subscript_rule {value slice : Expr} {pos : Pos} {Q : Value → Shared → Prop} (h : c.WP (eval value c.env) (fun o s₁ => c.WP (eval slice c.env) (fun i s₂ => HasItems s₂ o ∧ c.WP (getItem o i) Q s₂) s₁) s) : c.WP (eval (.Subscript value slice pos) c.env) Q s := by
  have e0 : eval (.Subscript value slice pos) c.env = (do
    let o ← eval value c.env
    let i ← holding [o] (eval slice c.env)
    standAt pos
    let r ← subscripted slice (← getitemInPython o) o i
    letTemporaryGo value o r
    pure r) := rfl
  rw [e0]
  refine wpAny_bind (wpAny_mono h (fun o s₁ h₁ => wpAny_bind (wpAny_holding (wpAny_mono h₁ (fun i s₂ h₂ => wpAny_bind (wpAny_standAt ?_)) fun zz zz x => x))) fun zz zz x => x)
  obtain ⟨⟨T, id, hT, hl⟩, h₃⟩ := h₂
  have fin : c.WP (subscripted slice false o i) (fun r s₃ => c.WP (letTemporaryGo value o r >>= fun zz => pure r) Q s₃) s₂ := by
    have key : c.WP (getItem o i) (fun r s₃ => c.WP (letTemporaryGo value o r >>= fun zz => pure r) Q s₃) s₂ := wpAny_mono h₃ (fun r s₃ h₃ => wpAny_bind (wpAny_letTemporaryGo (wpAny_pure h₃))) fun zz zz x => x
    obtain ⟨l, hs⟩ := subscripted_plain slice o i
    rw [hs]
    exact wpAny_operating key
  refine wpAny_bind ?_
  rw [getitemInPython_of_ne hT.not_modules]
  refine wpAny_bind (wpAny_specialOf hT hl ?_)
  first
    | exact wpAny_pure (wpAny_bind fin)
    | exact wpAny_bind (wpAny_pure (wpAny_bind fin))
    | exact wpAny_bind fin
end
noncomputable def Ow.aux (ow : Ow) (l : List Addr) : Ow := fun b => if b ∈ l then .aux else ow b
theorem Ow.aux_at {ow : Ow} {l : List Addr} {b : Addr} (h : b ∈ l) : ow.aux l b = .aux := if_pos h
theorem Ow.aux_ne {ow : Ow} {l : List Addr} {b : Addr} (h : b ∉ l) : ow.aux l b = ow b := if_neg h
structure Item (G : GO) (N : Nat) (own : List Addr) (St : List Addr → Shared → Prop) (p : PV) (v : Value) (s s' : Shared) : Prop where
  ex : ∃ nw : List Addr, (∀ b ∈ nw, s.heap.get? b = none) ∧ St (nw ++ own) s' ∧ StepN N (· ∈ own) s s' ∧
    ∀ ow : Ow, Lv s ow → (∀ b ∈ own, ow b ≠ .free) → Sub G (vis s.heap ow) → RV (vis s'.heap (ow.aux nw)) p v
structure Walk (g : Pg) (A : Around) (N : Nat) (tgt : Expr) (it : Value) (fp : List Addr) (G : GO) (items : List PV) (St : List Addr → Nat → Shared → Prop) : Prop where
  live : ∀ own i s, St own i s → ∀ b ∈ own, (s.heap.get? b).isSome = true
  frame : ∀ own i s s', St own i s → (∀ b, b ∈ own ∨ b ∈ fp → ∀ o, s.heap.get? b = some o → s'.heap.get? b = some o) → (∀ (g : Nat) (x : GenState), s.gens[g]? = some x → s'.gens[g]? = some x) → St own i s'
  item : ∀ own i p s, items[i]? = some p → St own i s → WP g.prog g.w A (pyNext it) (fun o s' => ∃ v, o = some v ∧ WP g.prog g.w A (letOwnedTupleGo tgt it v) (fun zz s'' => Item G N own (fun o => St o (i + 1)) p v s s'') s') s
  done : ∀ own s, St own items.length s → WP g.prog g.w A (pyNext it) (fun o s' => o = none ∧ StepN N (· ∈ own) s s') s
  self : ∀ own i s, St own i s → WP g.prog g.w A (pyIter it) (fun v s' => v = it ∧ s' = s) s
noncomputable abbrev Iter (g : Pg) (A : Around) (tgt : Expr) (G : GO) (items : List PV) (s : Shared) (it : Value) (s' : Shared) (fp : List Addr) : Prop := (∃ own St N, (∀ (g : Nat) (x : GenState), s.gens[g]? = some x → g < N) ∧ Walk g A N tgt it (own ++ fp) G items St ∧ St own 0 s' ∧ ∀ b ∈ own, s.heap.get? b = none) ∧ (Step0 s s')
section
variable {a_ b_ c_ d_ e_ f_ g_ h_ i_} (x_ : Iter a_ b_ c_ d_ e_ f_ g_ h_ i_)
def Iter.ex := x_.1
def Iter.step := x_.2
end
noncomputable abbrev St (g : Pg) (ow : Ow) (s : Shared) : Prop := (Tops g.h₁ s.heap) ∧ (∀ b, ow b ≠ .free → g.h₁.get? b = none) ∧ (Lv s ow)
section
variable {a_ b_ c_} (x_ : St a_ b_ c_)
def St.top := x_.1
def St.old := x_.2.1
def St.live := x_.2.2
end
noncomputable def FnOk (g : Pg) (fa : Addr) (ps : List PV) (p : PV) : Prop := ∀ (A : Around) (ow : Ow) (s : Shared) (vs : List Value), Rm g.r A → St g ow s → RVs (vis s.heap ow) ps vs → WP g.prog g.w A (call (.ref fa) vs) (PE s ow p) s
noncomputable def isTuple : Expr → Bool
  | .Tuple .. => true
  | _ => false
noncomputable def GiOk (g : Pg) (fa : Addr) : Prop := ∀ (F : FT) (r : Nat) (A : Around) (ow : Ow) (s : Shared) (tgt : Expr) (rr : Addr) (t u w : Tok) (K : Nat) (xs : List PV) (v : Value) (l gl : List Int), A.handled = none → A.depth < recursionLimit → St g ow s → isTuple tgt = true → IsRange s.heap rr 0 K 1 t u w → RV (vis s.heap ow) (.list xs) v → xs = l.map .int → 1 ≤ K ∧ K < 1000 → gIntervals K none l = some gl →
  WP g.prog g.w A (call (.ref fa) [v]) (fun gv s₁ => WP g.prog g.w A (call (.type "zip") [.ref rr, gv]) (fun z s₂ => WP g.prog g.w A (pyIter z) (fun it s₃ => ∃ fp, Iter { g with F := F, r := r } A tgt (vis s.heap ow) (zipPV ((rangeL 0 K).map .int) (gl.map .int)) s it s₃ fp ∧ ∀ b ∈ fp, (s₃.heap.get? b).isSome = true ∧ ¬ (ow b).mine) s₂) s₁) s
noncomputable def GiFn (g : Pg) : Prop := ∃ fa o fd, g.mg "_grouping_intervals" = some (.ref fa) ∧ g.h₁.get? fa = some o ∧ o.data = .func fd ∧ GiOk g fa
noncomputable def okH (a : List Nat) : Prop := okS a ∧ ∀ c ∈ a, okC c = true
noncomputable abbrev HdrAt (s : Shared) (ow : Ow) (c x d l : Addr) (hs : HS) : Prop := (HD s.heap c x d l) ∧ (∃ vs, IsL s.heap.get? "list" l vs ∧ RVs (vis s.heap ow) (hdrs hs) vs) ∧ (okL (hdrs hs)) ∧ (∀ b, b = x ∨ b = d ∨ b = l → ow b ≠ .free)
section
variable {a_ b_ c_ d_ e_ f_ g_} (x_ : HdrAt a_ b_ c_ d_ e_ f_ g_)
def HdrAt.H := x_.1
def HdrAt.il := x_.2.1
def HdrAt.ok := x_.2.2.1
def HdrAt.nf := x_.2.2.2
end
noncomputable def MutOk (g : Pg) (c f : Addr) (res : HS → List Nat → List Nat → PV) (new : HS → List Nat → List Nat → HS) : Prop := ∀ (A : Around) (ow : Ow) (s : Shared) (x d l : Addr) (va vb : Value) (a b : List Nat) (hs : HS), Rm g.r A → St g ow s → HdrAt s ow c x d l hs → RV (vis s.heap ow) (.str a) va → okH a → RV (vis s.heap ow) (.str b) vb → okH b → hs.length < LEN →
  WP g.prog g.w A (call (.ref f) [.ref x, va, vb]) (fun v s' => Step (· = l) s s' ∧ RV (vis s'.heap ow) (res hs a b) v ∧ ∃ vs', IsL s'.heap.get? "list" l vs' ∧ RVs (vis s'.heap ow) (hdrs (new hs a b)) vs') s
noncomputable def AllOk (g : Pg) (c f : Addr) : Prop := ∀ (A : Around) (ow : Ow) (s : Shared) (x d l : Addr) (va : Value) (t : List Nat) (hs : HS), Rm g.r A → St g ow s → HdrAt s ow c x d l hs → RV (vis s.heap ow) (.str t) va → okH t → WP g.prog g.w A (call (.ref f) [.ref x, va]) (PE s ow (.list (hAll hs (t.map lowA)))) s
noncomputable def hAdd (hs : HS) (a b : List Nat) : HS := hs ++ [(a, b)]
noncomputable def MakeOk (g : Pg) (c : Addr) : Prop := ∀ (A : Around) (s : Shared), Rm g.r A → Tops g.h₁ s.heap → WP g.prog g.w A (call (.ref c) []) (fun v s' => ∃ x d l, v = .ref x ∧ (∀ b, b = x ∨ b = d ∨ b = l → s.heap.get? b = none) ∧ Step0 s s' ∧ HD s'.heap c x d l ∧ IsL s'.heap.get? "list" l []) s
noncomputable abbrev hdDict (hh : Int) (t : Tok) (ep : Nat) (l : Addr) : Obj := { cls := .type "dict", dict := none, data := .dict #[{ hash := hh, key := .str "_headers" t, val := .ref l }] ep }
noncomputable abbrev HCl (K : Frag) (h₁ : Heap) (c : Addr) : Prop := (K.In h₁) ∧ (PySem.W.findIn K (.ref c) "__getattribute__" = some (some (.builtin "object.__getattribute__"))) ∧ (PySem.W.findIn K (.ref c) "__getattr__" = some none) ∧ (∀ hh t ep l, findObj K c (some (hdDict hh t ep l)) "_headers" = some (.value (.ref l)))
section
variable {a_ b_ c_} (x_ : HCl a_ b_ c_)
def HCl.X := x_.1
def HCl.ga := x_.2.1
def HCl.ge := x_.2.2.1
def HCl.fo := x_.2.2.2
end
noncomputable abbrev HMeth (K : Frag) (g : Pg) (c : Addr) (m : Str) (f : Addr) : Prop := (PySem.W.findIn K (.ref c) m = some (some (.ref f))) ∧ (typeIn K (.ref f) = some (.type "function")) ∧ (∀ hh t ep l, shadowIn (some (hdDict hh t ep l)) m = some false) ∧ (∃ o fd, g.h₁.get? f = some o ∧ o.data = .func fd)
section
variable {a_ b_ c_ d_ e_} (x_ : HMeth a_ b_ c_ d_ e_)
def HMeth.fi := x_.1
def HMeth.ty := x_.2.1
def HMeth.sh := x_.2.2.1
def HMeth.ob := x_.2.2.2
end
structure Hw (g : Pg) (c : Addr) : Prop where
  cls : g.mg "Headers" = some (.ref c)
  K : ∃ K, HCl K g.h₁ c ∧ keepIn K (.ref c) = true ∧ (∃ f, HMeth K g c "add_header" f ∧ MutOk g c f (fun zz zz zz => .none) hAdd) ∧ ∃ f, HMeth K g c "get_all" f ∧ AllOk g c f
  made : MakeOk g c
noncomputable abbrev Rk (X : Addr → Prop) (L : Addr) (s s' : Shared) : Prop := (Step X s s') ∧ (∀ m, s.heap.Ns L m → s'.heap.Ns L m)
section
variable {a_ b_ c_ d_} (x_ : Rk a_ b_ c_ d_)
def Rk.st := x_.1
def Rk.ns := x_.2
end
noncomputable def RefCall (c : Cx) : Prop := ∃ fa o fd, c.g.mg "_law_refused" = some (.ref fa) ∧ c.g.h₁.get? fa = some o ∧ o.data = .func fd ∧ ∀ (s : Shared) (a : Addr) (t0 : Tok) (vr : List Value), Tops c.g.h₁ s.heap → (∃ m, s.heap.Ns c.env.locals m) → s.heap.IsList a (Value.int 0 t0 :: vr).toArray →
  c.WP (call (.ref fa) [.ref a]) (fun v s' => v = .bool true ∧ Rk (· = c.env.locals) c.env.locals s s') s
structure Good (c : Cx) : Prop extends Rd0 c where
  gl : ∀ x p, (x, p) ∈ c.k.gl → ∃ v, c.g.mg x = some v ∧ RV c.g.h₁.get? p v
  fn : ∀ f ps p, c.g.F f ps = some p → ∃ fa o fd, c.g.mg f = some (.ref fa) ∧ c.g.h₁.get? fa = some o ∧ o.data = .func fd ∧ FnOk c.g fa ps p
  gi : c.k.gi = true → GiFn c.g
  hw : ∀ cl, c.k.hd = some cl → Hw c.g cl
  rf : c.k.rf = true → RefCall c
structure At (k : KC) where
  c : Cx
  ρ : Rho
  ow : Ow
  s : Shared
  hk : c.k = k
  D : Good c
  T : Ok c ρ ow s
noncomputable abbrev At.F {k : KC} (a : At k) : FT := a.c.g.F
noncomputable abbrev At.env {k : KC} (a : At k) : Env := a.c.env
noncomputable def WO (s : Shared) (ow : Ow) (p : PV) (v : Value) (s' : Shared) : Prop := Step0 s s' ∧ RW s'.heap ow p v
noncomputable def At.E {k : KC} (a : At k) (t : Sem Value) (p : PV) : Prop := a.c.WP t (PE a.s a.ow p) a.s
noncomputable def At.O {k : KC} (a : At k) (t : Sem Value) (p : PV) : Prop := a.c.WP t (WO a.s a.ow p) a.s
noncomputable def At.B {k : KC} (a : At k) (t : Sem Bool) (b : Bool) : Prop := a.c.WP t (fun b' s' => b' = b ∧ Step0 a.s s') a.s
noncomputable def At.step {k : KC} (a : At k) {s' : Shared} (h : Step0 a.s s') : At k := { a with s := s', T := a.T.step h }
noncomputable def At.oc {k : KC} (a : At k) {s' : Shared} (h : Step0 a.s s') : Oc := ⟨a.c.g.prog, a.c.g.w, a.c.A, s', a.ow, a.D.R.le (Nat.succ_le_succ (Nat.zero_le _)), a.T.live.step h⟩
theorem PE.after {s s₁ s₂ : Shared} {ow : Ow} {p : PV} {v : Value} (h : Step0 s s₁) (x : PE s₁ ow p v s₂) : PE s ow p v s₂ := ⟨h.trans0 x.1, x.2⟩
theorem PE.toO {s s₁ : Shared} {ow : Ow} {p : PV} {v : Value} (x : PE s ow p v s₁) : WO s ow p v s₁ := ⟨x.1, .inl x.2⟩
noncomputable def SndE (k : KC) (x : X) (e : Expr) : Prop := ∀ (a : At k) (p : PV), evE a.F x a.ρ = some p → a.E (eval e a.env) p
noncomputable def SndO (k : KC) (x : Opd) (e : Expr) : Prop := ∀ (a : At k) (p : PV), evO a.F x a.ρ = some p → a.O (eval e a.env) p
noncomputable def SndT (k : KC) (t : T) (e : Expr) : Prop := ∀ (a : At k) (b : Bool), evT a.F t a.ρ = some b → a.B (isTrue e a.env (eval e a.env)) b
noncomputable def SndXs (k : KC) (xs : Xs) (es : List Expr) : Prop := ∀ (a : At k) (pos : Pos) (l : List PV), evXs a.F xs a.ρ = some l → a.c.WP (spliced (backTo pos (starEach es a.env))) (fun vs s' => Step0 a.s s' ∧ RVs (vis s'.heap a.ow) l vs) a.s
theorem castS {S S' : PV → PV → PV → Prop} {p q r : PV} (h : S = S') (x : S p q r) : S' p q r := h ▸ x
theorem castS1 {S S' : PV → PV → Prop} {p r : PV} (h : S = S') (x : S p r) : S' p r := h ▸ x
theorem bindE {α β : Type} {o : Option α} {f : α → Option β} {r : β} (h : o.bind f = some r) : ∃ p, o = some p ∧ f p = some r := Option.bind_eq_some_iff.mp h
section
variable {k : KC} {x y z t : Opd} {ex ey ez et : Expr} {o : Op2} {o1 : Op1} {pos np apos p1 p2 p3 : Pos} {p q r : PV}
theorem SndE.toO {u : X} {e : Expr} (h : SndE k u e) : SndO k (.e u) e := fun a p he => (h a p he).mono fun zz zz => PE.toO
theorem S1.run {f : Value → Sem Value} (h : S1 f p r) (a : At k) {s : Shared} {v : Value} (hs : Step0 a.s s) (hv : RW s.heap a.ow p v) : a.c.WP (f v) (PE a.s a.ow r) s := (h (a.oc hs) v hv).mono fun zz zz x => x.after hs
theorem S2.run {f : Value → Value → Sem Value} (h : S2 f p q r) (a : At k) {s : Shared} {v u : Value} (hs : Step0 a.s s) (hv : RW s.heap a.ow p v) (hu : RW s.heap a.ow q u) : a.c.WP (f v u) (PE a.s a.ow r) s := (h (a.oc hs) v u hv hu).mono fun zz zz x => x.after hs
theorem At.two (a : At k) (hx : SndO k x ex) (hy : SndO k y ey) (h1 : evO a.F x a.ρ = some p) (h2 : evO a.F y a.ρ = some q) {Q : Value → Value → Shared → Prop} (h : ∀ v u s, Step0 a.s s → RW s.heap a.ow p v → RW s.heap a.ow q u → Q v u s) :
    a.c.WP (eval ex a.env) (fun v s₁ => a.c.WP (eval ey a.env) (Q v) s₁) a.s :=
  (hx a p h1).mono fun v zz r1 => (hy (a.step r1.1) q h2).mono fun u s r2 => h v u s (r1.1.trans0 r2.1) (r1.2.step r2.1) r2.2
theorem eBin {op : Operator} (hx : SndO k x ex) (hy : SndO k y ey) (ho : Snd2 o = BinS op) : SndE k (.op2 o x y) (.BinOp ex op ey pos) := fun a r h => by
  obtain ⟨p, h1, h⟩ := bindE h
  obtain ⟨q, h2, h⟩ := bindE h
  exact wpAny_BinOp (a.two hx hy h1 h2 fun v u s hs hv hu => S2.run (castS ho (snd2 h)) a hs hv hu)
theorem eCmp {op : CmpOp} (hx : SndO k x ex) (hy : SndO k y ey) (ho : Snd2 o = CmpS op) (hm : behindInMarks op ey = false) : SndE k (.op2 o x y) (.Compare ex [op] [ey] pos) := fun a r h => by
  obtain ⟨p, h1, h⟩ := bindE h
  obtain ⟨q, h2, h⟩ := bindE h
  exact wpAny_Compare1 (a.two hx hy h1 h2 fun v u s hs hv hu => S2.run (castS ho (snd2 h)) a hs hv hu) hm
theorem eIdx (hx : SndO k x ex) (hy : SndO k y ey) : SndE k (.op2 .idx x y) (.Subscript ex ey pos) := fun a r h => by
  obtain ⟨p, h1, h⟩ := bindE h
  obtain ⟨q, h2, h⟩ := bindE h
  have h := snd2 h
  exact Subscript_rule (a.two hx hy h1 h2 fun v u s hs hv hu => ⟨h.1 _ _ _ hv, S2.run h.2 a hs hv hu⟩)
theorem S3.run {lo hi : Option Int} {v vl vu : Value} {s : Shared} (h : S3 lo hi p r) (a : At k) (hs : Step0 a.s s) (h1 : IsPart vl lo) (h2 : IsPart vu hi) (hv : RW s.heap a.ow p v) {tk : Nat} :
    HasItems { s with heap := s.heap.push { cls := .type "slice", data := .fields #[vl, vu, .none] }, toks := tk } v ∧ a.c.WP (getItem v (.ref s.heap.objs.size)) (PE a.s a.ow r) { s with heap := s.heap.push { cls := .type "slice", data := .fields #[vl, vu, .none] }, toks := tk } :=
  have hs' := hs.trans0 (Step.pushTok (o := { cls := .type "slice", data := .fields #[vl, vu, .none] }) (tk := tk))
  have := h (a.oc hs') v _ vl vu h1 h2 (Heap.get?_push_size _ rfl) (hv.step Step.pushTok)
  ⟨this.1, this.2.mono fun zz zz x => x.after hs'⟩
theorem eFrom (hx : SndO k x ex) (hy : SndO k y ey) : SndE k (.op2 .from_ x y) (.Subscript ex (.Slice (some ey) none none p1) pos) := fun a r h => by
  obtain ⟨p, h1, h⟩ := bindE h
  obtain ⟨q, h2, h⟩ := bindE h
  obtain ⟨i, rfl, h'⟩ := snd2 h
  refine Subscript_rule ((hx a p h1).mono fun v zz r1 => wpAny_Slice ((hy (a.step r1.1) _ h2).mono fun u s r2 => wpAny_pure (wpAny_pure ?_)))
  obtain ⟨t, rfl⟩ := r2.2.int
  exact h'.run a (r1.1.trans0 r2.1) (.int i t) .none (r1.2.step r2.1)
theorem eTo (hx : SndO k x ex) (hy : SndO k y ey) : SndE k (.op2 .to_ x y) (.Subscript ex (.Slice none (some ey) none p1) pos) := fun a r h => by
  obtain ⟨p, h1, h⟩ := bindE h
  obtain ⟨q, h2, h⟩ := bindE h
  obtain ⟨i, rfl, h'⟩ := snd2 h
  refine Subscript_rule ((hx a p h1).mono fun v zz r1 => wpAny_Slice (wpAny_pure ((hy (a.step r1.1) _ h2).mono fun u s r2 => wpAny_pure ?_)))
  obtain ⟨t, rfl⟩ := r2.2.int
  exact h'.run a (r1.1.trans0 r2.1) .none (.int i t) (r1.2.step r2.1)
theorem e3 (hx : SndO k x ex) (hy : SndO k y ey) (hz : SndO k z ez) : SndE k (.op3 x y z) (.Subscript ex (.Slice (some ey) (some ez) none p1) pos) := fun a r h => by
  obtain ⟨p, h1, h⟩ := bindE h
  obtain ⟨q, h2, h⟩ := bindE h
  obtain ⟨q', h3, h⟩ := bindE h
  obtain ⟨i, j, rfl, rfl, h'⟩ := snd3 h
  refine Subscript_rule ((hx a p h1).mono fun v zz r1 => wpAny_Slice ((hy (a.step r1.1) _ h2).mono fun u zz r2 => (hz ((a.step r1.1).step r2.1) _ h3).mono fun u' s r3 => wpAny_pure ?_))
  obtain ⟨t, rfl⟩ := r2.2.int
  obtain ⟨t', rfl⟩ := r3.2.int
  exact h'.run a ((r1.1.trans0 r2.1).trans0 r3.1) (.int i t) (.int j t') ((r1.2.step r2.1).step r3.1)
noncomputable abbrev Blt (k : KC) (x : Str) (fv : Value) : Prop := (isGlob k.sc x = true) ∧ (x ≠ "__name__") ∧ (x ∈ (["len", "chr", "abs", "int", "list", "sorted", "sum", "max", "isinstance", "bool", "divmod", "set", "range", "zip"] : List Str)) ∧ (bootBuiltins x = some fv) ∧ ((∃ id, fv = .builtin id) ∨ ∃ T, fv = .type T)
section
variable {a_ b_ c_} (x_ : Blt a_ b_ c_)
def Blt.g := x_.1
def Blt.n := x_.2.1
def Blt.no := x_.2.2.1
def Blt.b := x_.2.2.2.1
def Blt.f := x_.2.2.2.2
end
theorem Blt.call {x : Str} {fv : Value} {e : Expr} {es : List Expr} {Q : Value → Shared → Prop} (b : Blt k x fv) (a : At k) (hp : (e :: es).all plainE = true) (h : a.c.WP (spliced (backTo pos (starEach (e :: es) a.env))) (fun vs s₁ => a.c.WP (call fv vs) Q s₁) a.s) : a.c.WP (eval (.Call (.Name x np) (e :: es) [] pos) a.env) Q a.s :=
  Call_fn a.D.toRd0 a.T.top (by rw [a.hk]; exact b.g) b.n (a.D.B.no _ b.no) b.b b.f hp h
theorem eFn1 {n : Str} {fv : Value} (b : Blt k n fv) (hx : SndO k x ex) (hp : plainE ex = true) (ho : Snd1 o1 = S1 fun v => call fv [v]) : SndE k (.op1 o1 x) (.Call (.Name n np) [ex] [] pos) := fun a r h => by
  obtain ⟨p, h1, h⟩ := bindE h
  exact b.call a ((Bool.and_true _).trans hp) (args1 hp ((hx a p h1).mono fun v s r1 => S1.run (f := fun v => call fv [v]) (castS1 ho (snd1 h)) a r1.1 r1.2))
theorem eNeg (hx : SndO k x ex) : SndE k (.op1 .neg x) (.UnaryOp .USub ex pos) := fun a r h => by
  obtain ⟨p, h1, h⟩ := bindE h
  exact wpAny_UnaryOp ((hx a p h1).mono fun v s r1 => S1.run (snd1 h) a r1.1 r1.2)
theorem eRev {n : Nat} (hx : SndO k x ex) : SndE k (.op1 .rev x) (.Subscript ex (.Slice none none (some (.UnaryOp .USub (.Constant (.int 1) n p1) p2)) p3) pos) := fun a r h => by
  obtain ⟨p, h1, h⟩ := bindE h
  refine Subscript_rule ((hx a p h1).mono fun v s r1 => wpAny_Slice (wpAny_pure (wpAny_pure (wpAny_UnaryOp (wpAny_Constant_int (neg_int ?_))))))
  have hs := r1.1.trans0 (Step.pushTok (o := { cls := .type "slice", data := .fields #[.none, .none, .int (-1) (s.toks + 1)] }) (tk := s.toks + 1 + 1))
  have := snd1 h (a.oc hs) v _ (s.toks + 1) (Heap.get?_push_size _ rfl) (r1.2.step Step.pushTok)
  exact ⟨this.1, this.2.mono fun zz zz x => x.after hs⟩
theorem eLower (hb : BaseP ex) (hl : (apos.endLine == pos.line) = true) (hx : SndO k x ex) : SndE k (.op1 .lower x) (.Call (.Attribute ex "lower" apos) [] [] pos) := fun a r h => by
  obtain ⟨p, h1, h⟩ := bindE h
  obtain ⟨⟨w, rfl⟩, h'⟩ := snd1 h
  refine Call_meth hb rfl (by decide) hl ((hx a _ h1).mono fun v s r1 => ?_)
  obtain ⟨⟨t, rfl⟩, _⟩ := r1.2.str
  with_reducible refine getMethod_str (c := a.c) F.slot_str_lower F.type_str_lower ?_
  exact callWith_method0 (S1.run h' a r1.1 r1.2)
theorem eDecode (hb : BaseP ex) (hl : (apos.endLine == pos.line) = true) (hx : SndO k x ex) : SndE k (.op1 .decode x) (.Call (.Attribute ex "decode" apos) [] [] pos) := fun a r h => by
  obtain ⟨p, h1, h⟩ := bindE h
  obtain ⟨⟨w, rfl⟩, h'⟩ := snd1 h
  refine Call_meth hb rfl (by decide) hl ((hx a _ h1).mono fun v s r1 => ?_)
  obtain ⟨⟨t, rfl⟩, _⟩ := r1.2.bytes
  with_reducible refine getMethod_bytes (c := a.c) FB.slot_bytes_decode FB.type_bytes_decode ?_
  exact callWith_method0 (S1.run h' a r1.1 r1.2)
theorem eMeth {m : Str} {id : String} (slot : Slot "str" m id) (ty : typeOf (.builtin id) = pure (.type "method_descriptor")) (ho : ∀ p q r, Snd2 o p q r → IsStr p ∧ ∀ (c : Oc) v u, c.Is p v → c.Is q u → c.W (call (.builtin id) [v, u]) r)
    (hb : BaseP ex) (hp : plainE ey = true) (hl : (apos.endLine == pos.line) = true) (hx : SndO k x ex) (hy : SndO k y ey) : SndE k (.op2 o x y) (.Call (.Attribute ex m apos) [ey] [] pos) := fun a r h => by
  obtain ⟨p, h1, h⟩ := bindE h
  obtain ⟨q, h2, h⟩ := bindE h
  obtain ⟨⟨w, rfl⟩, h'⟩ := ho _ _ _ (snd2 h)
  refine Call_meth hb ((Bool.and_true _).trans hp) (by show 1 < 30; decide) hl ((hx a _ h1).mono fun v s r1 => ?_)
  have hs := r1.2.str
  obtain ⟨⟨t, rfl⟩, _⟩ := hs
  with_reducible refine getMethod_str (c := a.c) slot ty ?_
  refine (callFn (.inl ⟨_, rfl⟩) ((Bool.and_true _).trans hp) (args1 hp ((hy (a.step r1.1) q h2).mono fun u s₂ r2 => ?_)))
  have hs2 := r1.1.trans0 r2.1
  exact (h' (a.oc hs2) _ u (r1.2.step r2.1) r2.2).mono fun zz zz x => x.after hs2
theorem eDivmod (b : Blt k "divmod" (.builtin "divmod")) (hx : SndO k x ex) (hy : SndO k y ey) (hp : plainE ex = true) (hq : plainE ey = true) : SndE k (.op2 .divmod x y) (.Call (.Name "divmod" np) [ex, ey] [] pos) := fun a r h => by
  obtain ⟨p, h1, h⟩ := bindE h
  obtain ⟨q, h2, h⟩ := bindE h
  exact b.call a (by rw [List.all_cons, hp, List.all_cons, hq]; rfl) (args2 hp hq (a.two hx hy h1 h2 fun v u s hs hv hu => S2.run (snd2 h) a hs hv hu))
theorem e4 (hb : BaseP ex) (hp1 : plainE ey = true) (hp2 : plainE ez = true) (hp3 : plainE et = true) (hl : (apos.endLine == pos.line) = true) (hx : SndO k x ex) (hy : SndO k y ey) (hz : SndO k z ez) (ht : SndO k t et) : SndE k (.op4 x y z t) (.Call (.Attribute ex "find" apos) [ey, ez, et] [] pos) := fun a r h => by
  obtain ⟨p, h1, h⟩ := bindE h
  obtain ⟨q, h2, h⟩ := bindE h
  obtain ⟨q3, h3, h⟩ := bindE h
  obtain ⟨q4, h4, h⟩ := bindE h
  obtain ⟨⟨w, rfl⟩, h'⟩ := snd4 h
  have hpl : [ey, ez, et].all plainE = true := by rw [List.all_cons, hp1, List.all_cons, hp2, List.all_cons, hp3]; rfl
  refine Call_meth hb hpl (by show 3 < 30; decide) hl ((hx a _ h1).mono fun v s r1 => ?_)
  obtain ⟨⟨t, rfl⟩, _⟩ := r1.2.str
  with_reducible refine getMethod_str (c := a.c) F.slot_str_find F.type_str_find ?_
  refine (callFn (.inl ⟨_, rfl⟩) hpl (args3 hp1 hp2 hp3 ((hy (a.step r1.1) q h2).mono fun u zz r2 => (hz ((a.step r1.1).step r2.1) q3 h3).mono fun u' zz r3 => (ht (((a.step r1.1).step r2.1).step r3.1) q4 h4).mono fun u'' s₂ r4 => ?_)))
  have hs := ((r1.1.trans0 r2.1).trans0 r3.1).trans0 r4.1
  exact (h' (a.oc hs) _ u u' u'' (((r1.2.step r2.1).step r3.1).step r4.1) ((r2.2.step r3.1).step r4.1) (r3.2.step r4.1) r4.2).mono fun zz zz x => x.after hs
end
noncomputable def TruP (e : Expr) : Prop := ∀ (c : Cx) (s : Shared) (Q : Bool → Shared → Prop), c.WP (eval e c.env) (fun v s₁ => c.WP (truthy v) Q s₁) s → c.WP (isTrue e c.env (eval e c.env)) Q s
theorem isTrue_cmpG {M : Model} {A : Around} {E : Value → Shared → Prop} {env : Env} {s : Shared} {Q : Bool → Shared → Prop} {l r : Expr} {op : CmpOp} {pos : Pos} (hm : behindInMarks op r = false) (hv : wpAny M A (eval (.Compare l [op] [r] pos) env) (fun v s₁ => wpAny M A (truthy v) Q E s₁) E s) : wpAny M A (isTrue (.Compare l [op] [r] pos) env (eval (.Compare l [op] [r] pos) env)) Q E s := fun Γ p hΓ => by
  have := hv Γ p hΓ
  simp only [eval_Compare1, markedBehindIn_of_false hm, Sem.wp_bind', Sem.wp_holding, Sem.wp_cmd_standAt, Sem.wp_operate] at this
  simp only [isTrue_Compare1, markedBehindIn_of_false hm, Sem.wp_bind', Sem.wp_holding, Sem.wp_cmd_standAt, Sem.wp_operate]
  exact Sem.wp_mono _ Γ _ (fun a p₁ s₁ h₁ => Sem.wp_mono _ Γ _ (fun b p₂ s₂ h₂ => Sem.wp_mono _ Γ _ (fun c p₃ s₃ h₃ => h₃ Γ p₃ hΓ) (fun zz zz zz h' => h') _ _ h₂) (fun zz zz zz h' => h') _ _ h₁) (fun zz zz zz h' => h') _ _ this
theorem isTrue_cmp {l r : Expr} {op : CmpOp} {pos : Pos} (hm : behindInMarks op r = false) : TruP (.Compare l [op] [r] pos) := fun zz zz zz h => isTrue_cmpG hm h
section
variable {k : KC} {x y : Opd} {ex ey : Expr} {pos np : Pos} {t : Mine.T} {e : Expr}
theorem tX (h : TruP ex) (hx : SndO k x ex) : SndT k (.x x) ex := fun a b hb => by
  obtain ⟨p, h1, hb⟩ := bindE hb
  exact h a.c a.s _ ((hx a p h1).mono fun v s r1 => (sndTru hb (a.oc r1.1) v r1.2).mono fun zz zz q => ⟨q.1, r1.1.trans0 q.2⟩)
theorem tNot (h : SndT k t e) : SndT k (.not_ t) (.UnaryOp .Not e pos) := fun a b hb => by
  obtain ⟨b', h1, hb⟩ := bindE hb
  cases hb
  exact wpAny_isTrue_Not ((h a b' h1).mono fun zz zz q => ⟨congrArg not q.1, q.2⟩)
noncomputable def SndTs (k : KC) (o : Bool) (ts : Ts) (es : List Expr) : Prop := ∀ (a : At k) (b : Bool), evTs a.F o ts a.ρ = some b → a.B (allTrue (if o then .Or else .And) es a.env) b
theorem tsNil {o : Bool} : SndTs k o .nil [] := fun a b hb => by
  cases hb
  cases o
  · exact wpAny_allTrue_And_nil ⟨rfl, Step.refl _ _⟩
  · exact wpAny_allTrue_Or_nil ⟨rfl, Step.refl _ _⟩
theorem tsCons {o : Bool} {ts : Ts} {es : List Expr} (h : SndT k t e) (hs : SndTs k o ts es) : SndTs k o (.cons t ts) (e :: es) := fun a b hb => by
  obtain ⟨b', h1, hb⟩ := bindE hb
  cases o
  · refine wpAny_allTrue_And_cons ((h a b' h1).mono fun b2 s q => ?_)
    obtain ⟨rfl, q⟩ := q
    cases b2
    · cases hb; exact ⟨rfl, q⟩
    · exact (hs (a.step q) b hb).mono fun zz zz z => ⟨z.1, q.trans0 z.2⟩
  · refine wpAny_allTrue_Or_cons ((h a b' h1).mono fun b2 s q => ?_)
    obtain ⟨rfl, q⟩ := q
    cases b2
    · exact (hs (a.step q) b hb).mono fun zz zz z => ⟨z.1, q.trans0 z.2⟩
    · cases hb; exact ⟨rfl, q⟩
theorem tBool {o : Bool} {ts : Ts} {es : List Expr} (hs : SndTs k o ts es) : SndT k (.bool_ o ts) (.BoolOp (if o then .Or else .And) es pos) := fun a b hb => wpAny_isTrue_BoolOp (hs a b hb)
noncomputable def testsOf (es : List Expr) (env : Env) : Sem Bool := forIn es true fun c r => if r = true then do let ok ← isTrue c env (eval c env); pure (ForInStep.yield ok) else pure (ForInStep.yield r)
noncomputable def SndIfs (k : KC) (ts : Ts) (es : List Expr) : Prop := ∀ (a : At k) (b : Bool), evTs a.F false ts a.ρ = some b → a.B (testsOf es a.env) b
theorem ifsNil : SndIfs k .nil [] := fun a b hb => by cases hb; exact wpAny_pure ⟨rfl, Step.refl _ _⟩
theorem testsOf_off {env : Env} : ∀ (es : List Expr), (forIn es false fun c r => if r = true then do let ok ← isTrue c env (eval c env); pure (ForInStep.yield ok) else pure (ForInStep.yield r) : Sem Bool) = pure false
  | [] => rfl
  | e :: es => by rw [List.forIn_cons]; exact testsOf_off es
theorem ifsCons {ts : Ts} {es : List Expr} (h : SndT k t e) (hs : SndIfs k ts es) : SndIfs k (.cons t ts) (e :: es) := fun a b hb => by
  obtain ⟨b', h1, hb⟩ := bindE hb
  show a.c.WP (forIn (e :: es) true _) _ _
  rw [List.forIn_cons]
  refine wpAny_bind (wpAny_bind ((h a b' h1).mono fun b2 s q => wpAny_pure ?_))
  obtain ⟨rfl, q⟩ := q
  cases b2
  · cases hb
    exact wpAny_of_eq (testsOf_off es) ⟨rfl, q⟩
  · exact (hs (a.step q) b hb).mono fun zz zz z => ⟨z.1, q.trans0 z.2⟩
noncomputable def constC : (p : PV) → (c : Const) → Option (PLift (∀ (k : KC) (n : Nat) (pos : Pos), SndE k (.k p) (.Constant c n pos)))
  | .none, .none => some ⟨fun zz zz zz a zz h => by cases h; exact wpAny_Constant_none ⟨Step.refl _ _, rfl⟩⟩
  | .bool b, .bool d => if h : b = d then some ⟨fun zz zz zz a zz q => by cases q; subst h; exact wpAny_Constant_bool PE.bool⟩ else none
  | .int i, .int j => if h : i = j then some ⟨fun zz zz zz a zz q => by cases q; subst h; exact wpAny_Constant_int PE.int⟩ else none
  | .str x, .str y => if h : y = ⟨x.toArray⟩ ∧ x.all (fun c => decide (c < 128)) = true ∧ x.length ≤ LEN then some ⟨fun zz zz zz a zz q => by cases q; rw [h.1]; exact wpAny_Constant_str (PE.str h.2)⟩ else none
  | .bytes x, .bytes y => if h : x = y ∧ x.length ≤ LEN then some ⟨fun zz zz zz a zz q => by
      cases q
      obtain ⟨rfl, h2⟩ := h
      have : PE a.s a.ow (PV.bytes x) (.bytes _ a.s.toks) { a.s with toks := a.s.toks + 1 } := ⟨Step.tok, ⟨_, rfl⟩, h2⟩
      exact fun zz zz zz => this⟩ else none
  | _, _ => none
theorem Name_load {c : Cx} {s : Shared} {x : Str} {Q : Value → Shared → Prop} (hd : x ≠ "__debug__") (h : c.WP (loadName c.env x) Q s) : c.WP (eval (.Name x pos) c.env) Q s := wpAny_Name h (beq_eq_false_iff_ne.mpr hd)
structure Nm (k : KC) (i : Nat) (x : Str) : Prop where
  m : (i, x) ∈ k.nm
  d : x ≠ "__debug__"
theorem Nm.load {i : Nat} {x : Str} {Q : Value → Shared → Prop} (n : Nm k i x) (a : At k) (hs : get a.ρ i ≠ .un) (h : ∀ v, SlotR a.c.g.w a.s.heap a.ow (tg a.c (.slot i)) (get a.ρ i) (some v) → Q v a.s) : a.c.WP (eval (.Name x pos) a.env) Q a.s :=
  Name_load n.d (a.T.load a.D.O (by rw [a.hk]; exact n.m) hs h)
theorem eVar {i : Nat} {x : Str} (n : Nm k i x) : SndE k (.var i) (.Name x pos) := fun a p h => by
  change valOf (get a.ρ i) = some p at h
  refine n.load a (fun q => by rw [q] at h; cases h) fun v hv => ?_
  generalize get a.ρ i = sv at h hv
  cases hv <;> cases h
  exact ⟨Step.refl _ _, ‹_›⟩
theorem oVar {i : Nat} {x : Str} (n : Nm k i x) : SndO k (.v i) (.Name x pos) := fun a p h => by
  change readOf (get a.ρ i) = some p at h
  refine n.load a (fun q => by rw [q] at h; cases h) fun v hv => ?_
  generalize get a.ρ i = sv at h hv
  cases hv <;> cases h
  · exact ⟨Step.refl _ _, .inl ‹_›⟩
  · exact ⟨Step.refl _ _, .inr ⟨_, _, _, rfl, ‹_›, rfl, ‹_›, ‹_›⟩⟩
theorem eGlob {x : Str} {p : PV} (hg : isGlob k.sc x = true) (hm : (x, p) ∈ k.gl) : SndE k (.glob x p) (.Name x pos) := fun a q h => by
  cases h
  obtain ⟨v, hv, hr⟩ := a.D.gl x p (by rw [a.hk]; exact hm)
  exact eval_global a.D.toRd0 a.T.top (by rw [a.hk]; exact hg) hv ⟨Step.refl _ _, hr.mono fun b o e => vis_of (a.T.top b o e) (Classical.byContradiction fun h => not_none e (a.T.old b h))⟩
theorem eIte {u w : X} {eu ew et : Expr} (ht : SndT k t et) (hu : SndE k u eu) (hw : SndE k w ew) : SndE k (.ite t u w) (.IfExp et eu ew pos) := fun a r h => by
  obtain ⟨b, h1, h⟩ := bindE h
  refine wpAny_IfExp ((ht a b h1).mono fun b2 s q => ?_)
  obtain ⟨rfl, q⟩ := q
  cases b2
  · exact (hw (a.step q) r h).mono fun zz zz z => z.after q
  · exact (hu (a.step q) r h).mono fun zz zz z => z.after q
theorem xsNil : SndXs k .nil [] := fun a pos l h => by cases h; exact args_nil ⟨Step.refl _ _, rfl⟩
theorem xsCons {u : X} {xs : Xs} {es : List Expr} (hp : plainE e = true) (hu : SndE k u e) (hs : SndXs k xs es) : SndXs k (.cons u xs) (e :: es) := fun a pos l h => by
  obtain ⟨p, h1, h⟩ := bindE h
  obtain ⟨ps, h2, h⟩ := bindE h
  cases h
  exact args_cons ((hu a p h1).mono fun v zz r1 => (hs (a.step r1.1) pos ps h2).mono fun vs zz r2 => ⟨r1.1.trans0 r2.1, v, vs, rfl, r1.2.mono (Sub.step0 r2.1), r2.2⟩) (starEach_plain hp _ _)
set_option tactic.hygienic true in
theorem mkList_some {l : List PV} {p : PV} (h : mkList l = some p) : p = .list l ∧ okL l := by
  unfold mkList at h
  split at h
  · rename_i hc
    have ⟨h1, h2⟩ := (Bool.and_eq_true _ _).mp hc
    exact ⟨(Option.some.inj h).symm, h1, of_decide_eq_true h2⟩
  · cases h
noncomputable def SndF (k : KC) (x : X) (e : Expr) : Prop := ∀ (a : At k) (l : List PV), evE a.F x a.ρ = some (.list l) → a.c.WP (eval e a.env) (PF a.s a.ow l) a.s
theorem PF.after {s s₁ s₂ : Shared} {ow : Ow} {l : List PV} {v : Value} (h : Step0 s s₁) (x : PF s₁ ow l v s₂) : PF s ow l v s₂ := by
  obtain ⟨st, ok, a, vs, e, h0, r⟩ := x
  exact ⟨h.trans0 st, ok, a, vs, e, none_back h h0, r⟩
theorem fLst {xs : Xs} {es : List Expr} (hs : SndXs k xs es) : SndF k (.lst xs) (.List es pos) := fun a l h => by
  obtain ⟨l', h1, h⟩ := bindE h
  obtain ⟨e, ok⟩ := mkList_some h
  cases e
  exact wpAny_List ((hs a pos l h1).mono fun vs s r1 => ⟨len_line (Nat.le_trans (Nat.le_of_eq r1.2.length) ok.2), (PF.newList (tk := s.toks) r1.2 ok).after r1.1⟩)
theorem eLst {xs : Xs} {es : List Expr} (hs : SndXs k xs es) : SndE k (.lst xs) (.List es pos) := fun a p h => by
  obtain ⟨l, h1, h2⟩ := bindE h
  obtain ⟨rfl, _⟩ := mkList_some h2
  exact (fLst hs a l h).mono fun zz zz z => z.toE a.T.live
theorem At.st (a : At k) {s : Shared} (h : Step0 a.s s) : St a.c.g a.ow s := have T := a.T.step h; ⟨T.top, T.old, T.live⟩
theorem eCall {f : Str} {u : X} {xs : Xs} {es : List Expr} (hg : isGlob k.sc f = true) (hp : plainE e = true) (hs : SndXs k (.cons u xs) (e :: es)) : SndE k (.call f (.cons u xs)) (.Call (.Name f np) (e :: es) [] pos) := fun a p h => by
  obtain ⟨l, h1, h⟩ := bindE h
  obtain ⟨fa, o, fd, hm, ho, hd, hcall⟩ := a.D.fn _ _ _ h
  refine wpAny_bind (eval_global a.D.toRd0 a.T.top (by rw [a.hk]; exact hg) hm ?_)
  exact callWith_def (e := e) (rest := es) hd ((hs a pos l h1).mono fun vs s r1 => ⟨(a.T.step r1.1).top _ _ ho, (hcall a.c.A a.ow s vs (a.D.R.le (Nat.le_succ _)) (a.st r1.1) r1.2).mono fun zz zz z => z.after r1.1⟩) (starEach_plain (e := e) hp es a.env)
theorem eRngv {n : Nat} {mk : Nat} {mp : Pos} (b : Blt k "range" (.type "range")) : SndE k (.rngv n) (.Call (.Name "range" np) [.Constant (.int n) mk mp] [] pos) := fun a p h => by
  cases h
  exact b.call a rfl (args1 rfl (wpAny_Constant_int (call_range_1 ⟨Step.pushTok, _, _, _, _, rfl, vis_of (Heap.get?_push_size _ rfl) (a.T.live.free (size_none _))⟩)))
noncomputable def SndB (k : KC) (o : Bool) (xs : Xs) (es : List Expr) : Prop := ∀ (a : At k) (pos : Pos) (p : PV), evB a.F o xs a.ρ = some p → a.E (boolOp pos (if o then .Or else .And) (evalEach es a.env)) p
end
noncomputable def isName : Expr → Bool
  | .Name .. => true
  | _ => false
theorem go_name {tgt : Expr} (h : isName tgt = true) (it v : Value) : letOwnedTupleGo tgt it v = pure () := by
  cases tgt <;> first | rfl | cases h
section
variable {g : Pg} {A : Around} {tgt : Expr} {s : Shared} {G : GO} {items : List PV}
theorem Walk.of {N n : Nat} {I : Addr} {fp : List Addr} {P : Nat → Value → Prop} {St : Nat → Heap → Prop} (W : Walks g.prog g.w A I fp [I] n P St) (hn : n = items.length)
    (hgo : ∀ (i : Nat) (p : PV) (v : Value) (s : Shared) (Q : Unit → Shared → Prop), items[i]? = some p → RV G p v → St (i + 1) s.heap → Q () s → WP g.prog g.w A (letOwnedTupleGo tgt (.ref I) v) Q s)
    (hP : ∀ i v p, P i v → items[i]? = some p → RV G p v) (hl : ∀ i h, St i h → (h.get? I).isSome = true) : Walk g A N tgt (.ref I) fp G items (fun own i s => own = [I] ∧ St i s.heap) where
  live own i s h b hb := by
    obtain ⟨rfl, h⟩ := h
    exact List.mem_singleton.mp hb ▸ hl i s.heap h
  frame own i s s' h hk _ := ⟨h.1, W.frame i s.heap s'.heap h.2 fun b hb => hk b (.inr hb)⟩
  item own i p s hp hs := by
    obtain ⟨rfl, hs⟩ := hs
    refine W.item i s _ _ (by rw [hn]; exact (List.getElem?_eq_some_iff.mp hp).1) hs fun v h' tk hv hs' hk => ⟨v, rfl, ?_⟩
    have hst : Step (· ∈ [I]) s { s with heap := h', toks := tk } := Step.heapTok fun b o e hb => hk b o hb e
    exact hgo i p v _ _ hp (hP i v p hv hp) hs' ⟨[], (fun zz h => nomatch h), ⟨rfl, hs'⟩, hst.n, fun ow hlv how hG => (hP i v p hv hp).mono (hG.trans (Sub.step hst.keep (fun b hb => .inl (how b hb)) fun b hb => .inl hb))⟩
  done own s hs := by
    obtain ⟨rfl, hs⟩ := hs
    exact W.done s _ _ (hn ▸ hs) fun h' tk hk => ⟨rfl, (Step.heapTok fun b o e hb => hk b o hb e).n⟩
  self own i s hs := W.self i s _ _ hs.2 ⟨rfl, rfl⟩
theorem Iter.of {o : Obj} {fp : List Addr} {St : Nat → Heap → Prop} (W : ∀ N, Walk g A N tgt (.ref s.heap.objs.size) (s.heap.objs.size :: fp) G items (fun own i s' => own = [s.heap.objs.size] ∧ St i s'.heap)) (h0 : St 0 (s.heap.push o)) :
    Iter g A tgt G items s (.ref s.heap.objs.size) { s with heap := s.heap.push o } fp :=
  ⟨⟨[s.heap.objs.size], _, s.gens.size, (fun g x e => (Array.getElem?_eq_some_iff.mp e).1), W _, ⟨rfl, h0⟩, fun b hb => List.mem_singleton.mp hb ▸ size_none _⟩, Step.push⟩
theorem listIter_live {h : Heap} {I ax : Addr} {i : Nat} (x : h.IsListIter I ax i) : (h.get? I).isSome = true := let ⟨_, e, _⟩ := x; isSome_of e
theorem pick {xs : List PV} {vs : List Value} (ra : RVs G xs vs) (i : Nat) (v : Value) (p : PV) (hv : vs.toArray[i]? = some v) (hp : xs[i]? = some p) : RV G p v := by
  obtain ⟨v', e, r⟩ := ra.get hp
  have : vs[i]? = some v := (List.getElem?_toArray).symm.trans hv
  rw [e] at this; cases this; exact r
theorem go_ok {tgt : Expr} (h : isName tgt = true) {it v : Value} {s : Shared} {Q : Unit → Shared → Prop} (hQ : Q () s) : WP g.prog g.w A (letOwnedTupleGo tgt it v) Q s := by rw [go_name h]; exact wpAny_pure hQ
theorem iter_list {xs : List PV} {a : Addr} {vs : List Value} (hh : A.handled = none) (ht : isName tgt = true) (la : IsL s.heap.get? "list" a vs) (ra : RVs G xs vs) : WP g.prog g.w A (pyIter (.ref a)) (fun it s' => Iter g A tgt G xs s it s' [a]) s :=
  have hne : a ≠ s.heap.objs.size := let ⟨_, e⟩ := la; Nat.ne_of_lt (Heap.lt_size e)
  wpAny_pyIter_list (la.list fun zz zz e => e) (Iter.of (fun N => Walk.of (Walks.list hh s.heap.objs.size a hne vs.toArray) (by rw [List.size_toArray]; exact ra.length) (fun zz zz zz zz zz zz zz zz hQ => go_ok ht hQ) (pick ra) fun i h hs => listIter_live hs.1) ⟨⟨_, Heap.get?_push_size _ rfl, rfl, rfl⟩, (la.list fun zz zz e => e).push _⟩)
theorem iter_tuple {xs : List PV} {a : Addr} {vs : List Value} (hh : A.handled = none) (ht : isName tgt = true) (la : IsL s.heap.get? "tuple" a vs) (ra : RVs G xs vs) : WP g.prog g.w A (pyIter (.ref a)) (fun it s' => Iter g A tgt G xs s it s' [a]) s :=
  have hne : a ≠ s.heap.objs.size := let ⟨_, e⟩ := la; Nat.ne_of_lt (Heap.lt_size e)
  wpAny_pyIter_tuple (la.tuple fun zz zz e => e) (Iter.of (fun N => Walk.of (Walks.tuple hh s.heap.objs.size a hne vs.toArray) (by rw [List.size_toArray]; exact ra.length) (fun zz zz zz zz zz zz zz zz hQ => go_ok ht hQ) (pick ra) fun i h hs => let ⟨⟨_, e, _⟩, _⟩ := hs; isSome_of e) ⟨⟨_, Heap.get?_push_size _ rfl, rfl, rfl⟩, (la.tuple fun zz zz e => e).push _⟩)
theorem iter_str {x : List Nat} {t : Tok} (hh : A.handled = none) (ht : isName tgt = true) (hx : okS x) : WP g.prog g.w A (pyIter (.str ⟨x.toArray⟩ t)) (fun it s' => Iter g A tgt G (x.map fun c => .str [c]) s it s' []) s := by
  refine wpAny_pyIter_ascii ((List.all_toArray).trans hx.1) (Iter.of (fun N => Walk.of (Walks.strAscii hh s.heap.objs.size ⟨x.toArray⟩ t) (by rw [List.length_map]; exact List.size_toArray) (fun zz zz zz zz zz zz zz zz hQ => go_ok ht hQ) (fun i v p hv hp => ?_) fun i h hs => let ⟨_, e, _⟩ := hs; isSome_of e) ⟨_, Heap.get?_push_size _ rfl, rfl, rfl⟩)
  obtain ⟨c, u, e, rfl⟩ := hv
  have e' : x[i]? = some c := (List.getElem?_toArray).symm.trans e
  rw [List.getElem?_map, e'] at hp
  cases hp
  exact ⟨⟨u, rfl⟩, (Bool.and_true _).trans (List.all_eq_true.mp hx.1 c (List.mem_of_getElem? e')), by show 1 ≤ 100000; decide⟩
theorem iter_range {a b : Int} {rr : Addr} {t u w' : Tok} (hh : A.handled = none) (ht : isName tgt = true) (hr : IsRange s.heap rr a b 1 t u w') (h1 : -(2 ^ 62) ≤ a) (h2 : a < 2 ^ 62) (h3 : -(2 ^ 62) ≤ b) (h4 : b < 2 ^ 62) :
    WP g.prog g.w A (pyIter (.ref rr)) (fun it s' => Iter g A tgt G ((rangeL a (b - a).toNat).map .int) s it s' []) s := by
  refine wpAny_pyIter_range hr (small_one h1 h2 h3 h4) ?_
  refine Iter.of (fun N => Walk.of (Walks.range hh s.heap.objs.size a 1 (b - a).toNat) ((List.length_map _).trans (rangeL_length _ _)).symm (fun zz zz zz zz zz zz zz zz hQ => go_ok ht hQ) (fun i v p hv hp => ?_) fun i h hs => isSome_of hs) ?_
  · obtain ⟨t, rfl⟩ := hv
    rw [List.getElem?_map, Option.map_eq_some_iff] at hp
    obtain ⟨x, hp, rfl⟩ := hp
    exact ⟨t, by rw [rangeL_get hp, Int.mul_one]⟩
  · have e2 : (((b - a).toNat : Int) - ((0 : Nat) : Int)) = Builtin.Range.rangeSize a b 1 := by rw [rangeSize_one]; split <;> lia
    show IsRangeIter _ _ (a + ((0 : Nat) : Int) * 1) (((b - a).toNat : Int) - ((0 : Nat) : Int)) 1
    rw [e2, show a + ((0 : Nat) : Int) * 1 = a by simp]
    exact Heap.get?_push_size _ rfl
end
section
variable {k : KC} {wk : Bool} {tgt e e' : Expr} {pos np : Pos} {items : List PV} {p q : PV} {v u it : Value} {s s₁ s' : Shared}
inductive Made (a : At k) (wk : Bool) (tgt : Expr) (items : List PV) (it : Value) (s' : Shared) : Prop
  | mk (G : GO) (fp own : List Addr) (St : List Addr → Nat → Shared → Prop) (N : Nat) (hN : ∀ (g : Nat) (x : GenState), a.s.gens[g]? = some x → g < N) (W : Walk a.c.g a.c.A N tgt it (own ++ fp) G items St) (h0 : St own 0 s') (hn : ∀ b ∈ own, a.s.heap.get? b = none) (step : Step0 a.s s')
    (sub : Sub G (vis s'.heap (a.ow.aux own))) (fpA : ∀ b ∈ fp, (s'.heap.get? b).isSome = true ∧ (wk = false → ¬ (a.ow b).mine))
theorem Iter.made (a : At k) {G : GO} {fp : List Addr} (h : Step0 a.s s) (x : Iter a.c.g a.c.A tgt G items s it s' fp) (hG : Sub G (vis s.heap a.ow)) (hf : ∀ b ∈ fp, (s.heap.get? b).isSome = true ∧ (wk = false → ¬ (a.ow b).mine)) : Made a wk tgt items it s' :=
  by
  obtain ⟨own, St, N, hN, W, h0, hn⟩ := x.ex
  exact ⟨G, fp, own, St, N, (fun i z e => hN i z (h.gens i z e)), W, h0, (fun b hb => none_back h (hn b hb)), h.trans0 x.step, hG.trans (Sub.step x.step.keep (fun zz h => h.elim) fun b hb => (Classical.em (b ∈ own)).elim (fun q => .inr (hn b q)) fun q => .inl ((Ow.aux_ne q).trans hb)), fun b hb => ⟨x.step.alive (hf b hb).1 id, (hf b hb).2⟩⟩
noncomputable def SndSrc (k : KC) (wk : Bool) (src : Src) (tgt e : Expr) : Prop := ∀ (a : At k) (items : List PV), evSrc a.F src a.ρ = some items → a.c.WP (eval e a.env) (fun v s₁ => a.c.WP (pyIter v) (Made a wk tgt items) s₁) a.s
theorem At.hh (a : At k) : a.c.A.handled = none := a.D.R.handled
theorem isL_live {h : Heap} {c : String} {b : Addr} {vs : List Value} (x : IsL h.get? c b vs) : (h.get? b).isSome = true := let ⟨_, e⟩ := x; isSome_of e
theorem Made.one (a : At k) {G : GO} {ad : Addr} {c : String} {vs : List Value} (h : Step0 a.s s) (hG : Sub G (vis s.heap a.ow)) (la : IsL s.heap.get? c ad vs) (hm : wk = false → ¬ (a.ow ad).mine) (x : Iter a.c.g a.c.A tgt G items s it s' [ad]) : Made a wk tgt items it s' :=
  x.made a h hG fun zz hb => List.mem_singleton.mp hb ▸ ⟨isL_live la, hm⟩
theorem isL_free {h : Heap} {ow : Ow} {c : String} {b : Addr} {vs : List Value} (x : IsL (vis h ow) c b vs) : ow b = .free := let ⟨_, e⟩ := x; (vis_some e).2
theorem madeV (a : At k) (h : Step0 a.s s) (ht : isName tgt = true) (hv : RV (vis s.heap a.ow) p v) (hi : itemsOf p = some items) : a.c.WP (pyIter v) (Made a wk tgt items) s := by
  cases p with
  | list xs =>
    cases hi
    obtain ⟨ok, ad, vs, rfl, la, ra⟩ := hv
    exact (iter_list a.hh ht (la.mono Sub.heap) ra).mono fun zz zz x => .one a h (Sub.refl _) (la.mono Sub.heap) (fun zz q => (Tag.mine_ne q).1 (isL_free la)) x
  | tup xs =>
    cases hi
    obtain ⟨ok, ad, vs, rfl, la, ra⟩ := hv
    exact (iter_tuple a.hh ht (la.mono Sub.heap) ra).mono fun zz zz x => .one a h (Sub.refl _) (la.mono Sub.heap) (fun zz q => (Tag.mine_ne q).1 (isL_free la)) x
  | str x =>
    cases hi
    obtain ⟨⟨t, rfl⟩, hx⟩ := hv
    exact (iter_str (G := vis s.heap a.ow) a.hh ht hx).mono fun zz zz x => x.made a h (Sub.refl _) fun zz h => nomatch h
  | _ => cases hi
theorem srcE {x : X} (hx : SndE k x e) (ht : isName tgt = true) : SndSrc k wk (.one (.e x)) tgt e := fun a items h => by
  obtain ⟨p, h1, h⟩ := bindE h
  exact (hx a p h1).mono fun v s r => madeV a r.1 ht r.2 h
theorem srcV {i : Nat} {x : Str} (n : Nm k i x) (hw : wk = false → k.st = false) (ht : isName tgt = true) : SndSrc k wk (.one (.v i)) tgt (.Name x pos) := fun a items h => by
  obtain ⟨p, h1, h⟩ := bindE h
  change readOf (get a.ρ i) = some p at h1
  refine n.load a (fun q => by rw [q] at h1; cases h1) fun v hv => ?_
  generalize get a.ρ i = sv at h1 hv
  cases hv with
  | val r => cases h1; exact madeV a (Step.refl _ _) ht r h
  | own ta ok l r =>
    cases h1
    cases h
    exact (iter_list a.hh ht l r).mono fun zz zz x => .one a (Step.refl _ _) (Sub.refl _) l (fun q => by
      have := hw q
      rw [← a.hk] at this
      rw [ta]; unfold tg
      rw [this]; exact id) x
  | _ => cases h1
theorem small62 {n : Int} (h : n < 100000 ∧ -100000 < n) : -(2 ^ 62) ≤ n ∧ n < 2 ^ 62 := by lia
theorem madeR (a : At k) {m n : Int} {rr : Addr} {t u w : Tok} (h : Step0 a.s s) (ht : isName tgt = true) (hr : IsRange s.heap rr m n 1 t u w) (hm : m < 100000 ∧ -100000 < m) (hn : n < 100000 ∧ -100000 < n) : a.c.WP (pyIter (.ref rr)) (Made a wk tgt ((rangeL m (n - m).toNat).map .int)) s :=
  (iter_range (G := vis s.heap a.ow) a.hh ht hr (small62 hm).1 (small62 hm).2 (small62 hn).1 (small62 hn).2).mono fun zz zz x => x.made a h (Sub.refl _) fun zz h => nomatch h
set_option tactic.hygienic true in
theorem srcRng {x : Opd} (b : Blt k "range" (.type "range")) (hx : SndO k x e) (hp : plainE e = true) (ht : isName tgt = true) : SndSrc k wk (.rng x) tgt (.Call (.Name "range" np) [e] [] pos) := fun a items h => by
  obtain ⟨p, h1, h⟩ := bindE h
  refine b.call a ((Bool.and_true _).trans hp) (args1 hp ((hx a p h1).mono fun v s r => ?_))
  cases p with
  | int n =>
    change (if n < 100000 ∧ -100000 < n then some ((rangeL 0 n.toNat).map PV.int) else none) = some items at h
    split at h
    · rename_i hn
      cases h
      obtain ⟨t, rfl⟩ := r.2.int
      have := fun tk => madeR (wk := wk) a (r.1.trans0 (Step.pushTok (tk := tk))) ht (IsRange.new s.heap 0 n 1 s.toks t (s.toks + 1)) (by decide) hn
      rw [Int.sub_zero] at this
      exact call_range_1 (this _)
    · cases h
  | _ => cases h
end
noncomputable def tvars : Tgt → List Nat
  | .one i => [i]
  | .two i j => [i, j]
noncomputable abbrev Tn (k : KC) (i : Nat) (x : Str) : Prop := ((i, x) ∈ k.nm) ∧ (k.sc.names.lookup x = some .local ∨ k.st = true)
section
variable {a_ b_ c_} (x_ : Tn a_ b_ c_)
def Tn.m := x_.1
def Tn.k := x_.2
end
noncomputable def TgtP (k : KC) (t : Tgt) (tg : Expr) : Prop := ∀ (a : At k) (p : PV) (v : Value) (ρ' : Rho), RV (vis a.s.heap a.ow) p v → setT t p a.ρ = some ρ' → a.c.WP (assign tg a.env v) (fun zz s' => Ok a.c ρ' a.ow s' ∧ Step (Mn a.c a.ow) a.s s') a.s
section
variable {k : KC} {i j : Nat} {x y : Str} {pos p1 p2 : Pos}
theorem Tn.store (n : Tn k i x) (a : At k) {sv : SV} {v : Value} (h : SlotR a.c.g.w a.s.heap a.ow (tg a.c (.slot i)) sv (some v)) : a.c.WP (storeName a.env x v) (fun zz s' => Ok a.c (set a.ρ i sv) a.ow s' ∧ Step (Mn a.c a.ow) a.s s') a.s :=
  a.T.store a.D.O a.D.N (by rw [a.hk]; exact n.m) (n.k.imp (fun h => a.D.O.loc x (by rw [a.hk]; exact h)) fun h => by rw [a.hk]; exact h) h
theorem tgt1 (n : Tn k i x) : TgtP k (.one i) (.Name x pos) := fun a p v ρ' hv h => by
  change (if i < a.ρ.length then some (set a.ρ i (.val p)) else none) = some ρ' at h
  split at h
  · cases h
    exact wpAny_assign_Name (n.store a (.val hv))
  · cases h
theorem Mn.sub {c : Cx} {ow : Ow} {s s' : Shared} (h : Step (Mn c ow) s s') : Sub (vis s.heap ow) (vis s'.heap ow) := h.gr.sub
theorem tgt2 {n : Nat} (n1 : Tn k i x) (n2 : Tn k j y) : TgtP k (.two i j) (.Tuple [.Name x p1, .Name y p2] n pos) := fun a p v ρ' hv h => by
  cases p with
  | tup l =>
    match l, h with
    | [p1, p2], h =>
      change (if i < a.ρ.length ∧ j < a.ρ.length then some (set (set a.ρ i (.val p1)) j (.val p2)) else none) = some ρ' at h
      split at h
      · cases h
        obtain ⟨ok, ad, vs, rfl, la, v1, vs1, rfl, r1, v2, vs2, rfl, r2, rfl⟩ := hv
        refine wpAny_assign_Tuple a.hh (la.tuple Sub.heap) rfl rfl fun h' hs => ?_
        have hst : Step0 a.s { a.s with heap := h' } := Step.heap fun b o e zz => hs b o (Nat.ne_of_lt (Heap.lt_size e)) e
        refine wpAny_assignInOrder_more (wpAny_assign_Name ((n1.store (a.step hst) (.val (r1.mono (Sub.step0 hst)))).mono fun zz s₁ h1 => ?_))
        have r2' := (r2.mono (Sub.step0 hst)).mono (Mn.sub h1.2)
        refine wpAny_assignInOrder_more (wpAny_assign_Name ((n2.store { a with ρ := _, s := s₁, T := h1.1 } (.val r2')).mono fun zz s₂ h2 => ?_))
        exact wpAny_assignInOrder_none ⟨h2.1, (hst.up.trans0 h1.2).trans0 h2.2⟩
      · cases h
  | _ => cases h
theorem setT_ne {t : Tgt} {p : PV} {ρ ρ' : Rho} (e : setT t p ρ = some ρ') {i : Nat} (hi : i ∉ tvars t) : get ρ' i = get ρ i := by
  have key : ∀ {q : Prop} [Decidable q] {r : Rho}, (if q then some r else none) = some ρ' → r = ρ' := fun h => Option.some.inj (Option.ite_none_right_eq_some.mp h).2
  cases t with
  | one j => exact key e ▸ get_set_ne fun q => hi (List.mem_singleton.mpr q)
  | two j l =>
    rcases p with _ | _ | _ | _ | _ | _ | xs | _ <;> try (cases e; done)
    rcases xs with _ | ⟨x, _ | ⟨y, _ | ⟨z, xs⟩⟩⟩ <;> try (cases e; done)
    exact key e ▸ (get_set_ne fun q => hi (List.mem_cons.mpr (.inr (List.mem_singleton.mpr q)))).trans (get_set_ne fun q => hi (List.mem_cons.mpr (.inl q)))
theorem item_step {a : At k} {N : Nat} {it : Value} {fp : List Addr} {G : GO} {items : List PV} {St : List Addr → Nat → Shared → Prop} {own : List Addr} {i : Nat} {p : PV} {t : Tgt} {tg : Expr} {ρ' : Rho} {Q : Shared → Prop} (W : Walk a.c.g a.c.A N tg it fp G items St) (hp : items[i]? = some p) (hSt : St own i a.s)
    (ho : ∀ b ∈ own, a.ow b = .aux) (hfp : ∀ b ∈ fp, ¬ (a.ow b).mine) (hG : Sub G (vis a.s.heap a.ow)) (ht : TgtP k t tg) (hs : setT t p a.ρ = some ρ')
    (h : ∀ nw s', (∀ b ∈ nw, a.s.heap.get? b = none) → St (nw ++ own) (i + 1) s' → Ok a.c ρ' (a.ow.aux nw) s' → StepN N (fun b => b ∈ own ∨ Mn a.c a.ow b) a.s s' → Q s') :
    a.c.WP (pyNext it) (fun o s₁ => ∃ v, o = some v ∧ a.c.WP (letOwnedTupleGo tg it v) (fun zz s₂ => a.c.WP (assign tg a.env v) (fun zz s₃ => Q s₃) s₂) s₁) a.s := by
  refine (W.item own i p a.s hp hSt).mono fun o s₁ hv => ?_
  obtain ⟨v, rfl, hv⟩ := hv
  refine ⟨v, rfl, hv.mono fun zz s₂ h2 => ?_⟩
  obtain ⟨nw, hnw, hSt2, hs2, hRV⟩ := h2.ex
  have nn : ∀ {b}, a.ow b ≠ .free → b ∉ nw := fun hb h => Bool.false_ne_true ((congrArg Option.isSome (hnw _ h)).symm.trans (a.T.live _ hb))
  have ne : ∀ {b}, b ∉ nw → a.ow.aux nw b = a.ow b := fun h => Ow.aux_ne h
  have T2 : Ok a.c a.ρ (a.ow.aux nw) s₂ := a.T.move hs2.keep (fun b hb => .inl (ho b hb)) (fun b hb => ?_) (fun b h1 zz => ne (nn h1)) fun b hb => ?_
  · have hRV := hRV a.ow a.T.live (fun b hb q => nomatch (ho b hb).symm.trans q) hG
    refine (ht { a with ow := a.ow.aux nw, s := s₂, T := T2 } p v ρ' hRV hs).mono fun zz s₃ h3 => ?_
    obtain ⟨T3, hs3⟩ := h3
    have nm : ∀ b, b ∈ nw ++ own ∨ b ∈ fp → ¬ Mn a.c (a.ow.aux nw) b := fun b hb q => by
      have q := q.1
      by_cases hn : b ∈ nw
      · rw [Ow.aux_at hn] at q; exact q
      · rw [ne hn] at q
        rcases hb with hb | hb
        · rw [ho b ((List.mem_append.mp hb).resolve_left hn)] at q; exact q
        · exact hfp b hb q
    refine h nw s₃ hnw (W.frame _ _ _ _ hSt2 (fun b hb o e => hs3.keep b o e (nm b hb)) hs3.gens) T3 ((hs2.up fun zz => fun h => .inl (.inl h)).trans hs3.n fun b hb => ?_)
    by_cases hn : b ∈ nw
    · exact .inr (hnw b hn)
    · refine .inl (.inr ?_)
      have : a.ow.aux nw b = a.ow b := ne hn
      unfold Mn at hb
      dsimp only at hb
      rw [this] at hb
      exact hb
  · by_cases hn : b ∈ nw
    · exact W.live _ _ _ hSt2 b (List.mem_append_left _ hn)
    · by_cases hw : b ∈ own
      · exact W.live _ _ _ hSt2 b (List.mem_append_right _ hw)
      · exact hs2.alive (a.T.live b (ne hn ▸ hb)) hw
  · by_cases hn : b ∈ nw
    · exact .inr (hnw b hn)
    · exact .inl ((ne hn).trans hb)
end
noncomputable def notSet : Expr → Bool
  | .Set .. => false
  | _ => true
theorem folded_plain {e : Expr} (h : notSet e = true) (env : Env) (x : Value) : foldedSetIterable e env x = pure x := by
  cases e <;> first | rfl | cases h
noncomputable def capt (k : KC) (scope : Scope) : List (Nat × Str) := k.nm.filter fun n => scope.names.lookup n.2 == some .free && k.sc.names.lookup n.2 == some .cell
noncomputable abbrev compKC (k : KC) (scope : Scope) (vs : List (Nat × Str)) : KC := { sc := scope, nm := vs ++ capt k scope, st := false, gl := k.gl, gi := k.gi, hd := none }
noncomputable def nmOkB (nm : List (Nat × Str)) : Bool := nm.all fun a => nm.all fun b => (a.1 == b.1) == (a.2 == b.2)
theorem nmOkB_ok {nm : List (Nat × Str)} (h : nmOkB nm = true) : NmOk nm :=
  have key : ∀ {i j x y}, (i, x) ∈ nm → (j, y) ∈ nm → (i == j) = (x == y) := fun ha hb => beq_iff_eq.mp (List.all_eq_true.mp (List.all_eq_true.mp h _ ha) _ hb)
  ⟨fun i j x hi hj => beq_iff_eq.mp ((key hi hj).trans (beq_self_eq_true x)), fun i x y hx hy => beq_iff_eq.mp ((key hx hy).symm.trans (beq_self_eq_true i))⟩
noncomputable def nmK (k : KC) (scope : Scope) (x : Str × NameKind) : Bool := match x.2 with
  | .cell => false
  | .local => scope.names.lookup x.1 == some .local
  | .free => k.sc.names.lookup x.1 == some .cell
  | _ => true
noncomputable def scopeOk (k : KC) (scope : Scope) (vs : List (Nat × Str)) : Bool := (scope.kind == .function && scope.names.all (nmK k scope)) && (vs.all (fun v => scope.names.lookup v.2 == some .local) && nmOkB (vs ++ capt k scope))
noncomputable abbrev ScOk (k : KC) (scope : Scope) (vs : List (Nat × Str)) : Prop := (scope.kind = .function) ∧ (∀ x ∈ scope.names, nmK k scope x = true) ∧ (∀ i x, (i, x) ∈ vs → scope.names.lookup x = some .local) ∧ (NmOk (vs ++ capt k scope))
section
variable {a_ b_ c_} (x_ : ScOk a_ b_ c_)
def ScOk.kind := x_.1
def ScOk.nk := x_.2.1
def ScOk.vl := x_.2.2.1
def ScOk.N := x_.2.2.2
end
theorem scopeOk_ok {k : KC} {scope : Scope} {vs : List (Nat × Str)} (h : scopeOk k scope vs = true) : ScOk k scope vs :=
  have ⟨h1, h2⟩ := (Bool.and_eq_true _ _).mp h
  have ⟨h3, h4⟩ := (Bool.and_eq_true _ _).mp h1
  have ⟨h5, h6⟩ := (Bool.and_eq_true _ _).mp h2
  ⟨beq_iff_eq.mp h3, List.all_eq_true.mp h4, fun zz zz h => beq_iff_eq.mp (List.all_eq_true.mp h5 _ h), nmOkB_ok h6⟩
section
variable {k : KC} {scope : Scope} {vs : List (Nat × Str)}
theorem ScOk.cell (S : ScOk k scope vs) : ∀ x ∈ scope.names, x.2 ≠ .cell := fun x hx q => by have := S.nk x hx; unfold nmK at this; rw [q] at this; cases this
theorem ScOk.loc (S : ScOk k scope vs) : ∀ x ∈ scope.names, x.2 = .local → scope.names.lookup x.1 = some .local := fun x hx q => by have := S.nk x hx; unfold nmK at this; rw [q] at this; exact beq_iff_eq.mp this
theorem ScOk.free (S : ScOk k scope vs) : ∀ x ∈ scope.names, x.2 = .free → k.sc.names.lookup x.1 = some .cell := fun x hx q => by have := S.nk x hx; unfold nmK at this; rw [q] at this; exact beq_iff_eq.mp this
theorem capt_mem {i : Nat} {x : Str} (h : (i, x) ∈ capt k scope) : (i, x) ∈ k.nm ∧ scope.names.lookup x = some .free ∧ k.sc.names.lookup x = some .cell :=
  have ⟨h1, h2⟩ := List.mem_filter.mp h
  have ⟨h3, h4⟩ := (Bool.and_eq_true _ _).mp h2
  ⟨h1, beq_iff_eq.mp h3, beq_iff_eq.mp h4⟩
end
theorem set_un {ρ : Rho} {i j : Nat} : get (set ρ i .un) j = get ρ j ∨ get (set ρ i .un) j = .un := by
  by_cases hi : j = i
  · rw [hi]; exact .inr (get_set_eq.elim id id)
  · exact .inl (get_set_ne hi)
theorem unsetV_or : ∀ (vs : List (Nat × Str)) (ρ : Rho) (i : Nat), get (unsetV vs ρ) i = get ρ i ∨ get (unsetV vs ρ) i = .un
  | [], _, _ => .inl rfl
  | v :: vs, ρ, i => (unsetV_or vs (set ρ v.1 .un) i).elim (fun h => set_un.imp h.trans h.trans) .inr
theorem unsetV_un : ∀ (vs : List (Nat × Str)) (ρ : Rho) (i : Nat), i ∈ vs.map (·.1) → get (unsetV vs ρ) i = .un
  | v :: vs, ρ, i, h => (List.mem_cons.mp h).elim (fun q => (unsetV_or vs (set ρ v.1 .un) i).elim (fun e => e.trans (q ▸ get_set_eq.elim id id)) id) (unsetV_un vs _ i)
set_option tactic.hygienic true in
theorem closure_go {env : Env} : ∀ (l : List (Str × NameKind)) (acc : List (Str × Addr)), (∀ x ∈ l, x.2 = .free → (env.cells.lookup x.1).isSome = true) → (∀ x c, acc.lookup x = some c → env.cells.lookup x = some c) →
    ∃ cl, (forIn l acc (fun (x : Str × NameKind) cs => match x with | (name, kind) => if (kind == NameKind.free) = true then (do let c ← cellOf env name; pure (ForInStep.yield ((name, c) :: cs))) else pure (ForInStep.yield cs)) : Sem (List (Str × Addr))) = pure cl ∧
      (∀ x c, cl.lookup x = some c → env.cells.lookup x = some c) ∧ (∀ x, x.2 = .free → x ∈ l → (cl.lookup x.1).isSome = true) ∧ ∀ x, (acc.lookup x).isSome = true → (cl.lookup x).isSome = true
  | [], acc, _, ha => ⟨acc, rfl, ha, (fun zz zz h => nomatch h), fun zz h => h⟩
  | (n, kd) :: l, acc, hl, ha => by
    rw [List.forIn_cons]
    by_cases hk : kd = .free
    · subst hk
      obtain ⟨c, hc⟩ := Option.isSome_iff_exists.mp (hl (n, .free) List.mem_cons_self rfl)
      have hh : ∀ x, ((n, c) :: acc).lookup x = if x = n then some c else acc.lookup x := fun x => by
        rw [List.lookup_cons]
        by_cases q : x = n
        · rw [if_pos q, beq_iff_eq.mpr q]
        · rw [if_neg q, beq_eq_false_iff_ne.mpr q]
      obtain ⟨cl, e, c1, c2, c3⟩ := closure_go l ((n, c) :: acc) (fun x hx => hl x (List.mem_cons_of_mem _ hx)) fun x d hd => by
        rw [hh] at hd
        split at hd
        · rename_i q; cases hd; rw [q]; exact hc
        · exact ha x d hd
      refine ⟨cl, ?_, c1, fun x hf hx => ?_, fun x hx => c3 x ?_⟩
      · rw [← e]
        show (cellOf env n >>= _) >>= _ = _
        unfold cellOf
        rw [hc]; rfl
      · exact (List.mem_cons.mp hx).elim (fun q => c3 x.1 (by rw [hh, if_pos (congrArg Prod.fst q)]; rfl)) (c2 x hf)
      · rw [hh]; split
        · rfl
        · exact hx
    · obtain ⟨cl, e, c1, c2, c3⟩ := closure_go l acc (fun x hx => hl x (List.mem_cons_of_mem _ hx)) ha
      refine ⟨cl, ?_, c1, fun x hf hx => (List.mem_cons.mp hx).elim (fun q => absurd ((congrArg Prod.snd q).symm.trans hf) hk) (c2 x hf), c3⟩
      rw [← e]
      show ((if (kd == NameKind.free) = true then _ else _) >>= _) = _
      rw [if_neg (by rw [beq_iff_eq]; exact hk)]; rfl
theorem closure_cells {scope : Scope} {env : Env} (h : ∀ x ∈ scope.names, x.2 = .free → (env.cells.lookup x.1).isSome = true) :
    ∃ cl, closureFor scope env = pure cl ∧ (∀ x c, cl.lookup x = some c → env.cells.lookup x = some c) ∧ ∀ x, x.2 = .free → x ∈ scope.names → (cl.lookup x.1).isSome = true :=
  let ⟨cl, e, c1, c2, _⟩ := closure_go scope.names [] h fun x c hc => nomatch hc
  ⟨cl, (show closureFor scope env = _ >>= _ from rfl).trans (congrArg (fun m => m >>= fun cs => pure cs) e), c1, c2⟩
theorem lookup_relabel {env : Env} {x : Str} {kd kd' : NameKind} (hh : (if (kd == NameKind.free && env.scope.kind == .function && env.kindOf x == some .cell) = true then (x, NameKind.cell) else (x, kd)) = (x, kd')) : ∀ {names : List (Str × NameKind)}, names.lookup x = some kd →
    (names.map fun (n, k) => if (k == NameKind.free && env.scope.kind == .function && env.kindOf n == some .cell) then (n, NameKind.cell) else (n, k)).lookup x = some kd'
  | (n, k) :: r, h => by
    have ih := @lookup_relabel env x kd kd' hh r
    show List.lookup x ((if (k == NameKind.free && env.scope.kind == .function && env.kindOf n == some .cell) = true then (n, NameKind.cell) else (n, k)) :: _) = _
    rw [List.lookup_cons] at h
    by_cases q : x = n
    · subst q
      rw [beq_self_eq_true] at h
      cases h
      rw [hh, List.lookup_cons, beq_self_eq_true]
    · have hb := beq_eq_false_iff_ne.mpr q
      rw [hb] at h
      split <;> rw [List.lookup_cons, hb] <;> exact ih h
theorem relabel_free {env : Env} (hk : env.scope.kind = .function) {x : Str} (hc : env.kindOf x = some .cell) {names : List (Str × NameKind)} : names.lookup x = some .free →
    (names.map fun (n, k) => if (k == NameKind.free && env.scope.kind == .function && env.kindOf n == some .cell) then (n, NameKind.cell) else (n, k)).lookup x = some .cell :=
  lookup_relabel (by rw [hk, hc]; rfl)
noncomputable def Ow.hide (ow : Ow) : Ow := fun b => match ow b with
  | .free => .free
  | _ => .ext
section
variable {c : Cx} {ρ : Rho} {ow ow' : Ow} {s s' : Shared} {C D : Addr}
theorem Ow.hide_or (ow : Ow) (b : Addr) : ow.hide b = .free ∧ ow b = .free ∨ ow.hide b = .ext ∧ ow b ≠ .free := by
  unfold Ow.hide
  cases ow b <;> first | exact .inl ⟨rfl, rfl⟩ | exact .inr ⟨rfl, fun h => nomatch h⟩
noncomputable abbrev Cx.comp (c : Cx) (scope : Scope) (vs : List (Nat × Str)) (cl : List (Str × Addr)) (C : Addr) : Cx := { c with k := compKC c.k scope vs, env := compEnvC scope cl C c.env }
theorem comp_good {scope : Scope} {vs : List (Nat × Str)} {cl : List (Str × Addr)} (G : Good c) (S : ScOk c.k scope vs) : Good (c.comp scope vs cl C) where
  B := G.B
  R := G.R
  O := ⟨S.kind, G.O.glob, G.O.blt, fun x hx => lookup_relabel rfl hx, fun x hx => absurd rfl (S.cell _ (mem_of_lookup hx)), fun x hx => lookup_relabel rfl hx⟩
  N := S.N
  gl := G.gl
  fn := G.fn
  gi := G.gi
  hw := fun zz h => nomatch h
  rf := fun h => nomatch h
theorem comp_ok {scope : Scope} {vs : List (Nat × Str)} {cl : List (Str × Addr)} (G : Good c) (S : ScOk c.k scope vs) (T : Ok c ρ ow s) (hun : ∀ i ∈ vs.map (·.1), get ρ i = .un)
    (hcl : ∀ x a, cl.lookup x = some a → c.env.cells.lookup x = some a) (hcf : ∀ x, x.2 = .free → x ∈ scope.names → (cl.lookup x.1).isSome = true)
    (hs : Step0 s s') (hC : s'.heap.Ns C fun zz => none) (hl : Lv s' ow') (tC : ow' C = .loc) (ext : ∀ b, ow b ≠ .free → ow' b = .ext) (hf : ∀ b, ow b = .free → ow' b = .free ∨ s.heap.get? b = none) : Ok (c.comp scope vs cl C) ρ ow' s' := by
  obtain ⟨m, hm, hb⟩ := T.body
  refine ⟨fun b o e => hs.get (T.top b o e), fun b hb => ?_, hl, tC, fun x a e => ext a ?_, _, hC, fun i x hi => ?_⟩
  · by_cases q : ow b = .free
    · exact Option.eq_none_iff_forall_not_mem.mpr fun o e => not_none (T.top b o e) ((hf b q).resolve_left hb)
    · exact T.old b q
  · rw [T.cells x a (hcl x a e)]; exact tg_ne _ (fun h => nomatch h)
  · rcases List.mem_append.mp hi with h | h
    · refine ⟨none, .loc (lookup_relabel rfl (S.vl i x h)) rfl, ?_⟩
      rw [hun i (List.mem_map.mpr ⟨_, h, rfl⟩)]; exact .un
    · obtain ⟨h1, h2, h3⟩ := capt_mem h
      obtain ⟨ov, n, sl⟩ := hb i x h1
      obtain ⟨a, ha⟩ := Option.isSome_iff_exists.mp (hcf _ rfl (mem_of_lookup h2))
      refine ⟨ov, .cel (relabel_free G.O.kind (G.O.cel x h3).1 h2) a ha ?_, sl.mono (fun b hb zz => ⟨ext b (by rw [hb]; exact tg_ne _ (fun h => nomatch h)), fun o e => hs.get e⟩) (Sub.step hs.keep (fun zz h => h.elim) hf)⟩
      cases n with
      | loc k1 e1 => rw [(G.O.cel x h3).1] at k1; cases k1
      | cel k1 a1 hc1 e1 => rw [hcl x a ha] at hc1; cases hc1; exact IsCell_keep e1 fun o e => hs.get e
end
noncomputable abbrev cX (m : Bool) (elt : Expr) (gens : List Comprehension) (scope : Scope) (pos : Pos) : Expr := cond m (.SetComp elt gens scope pos) (.ListComp elt gens scope pos)
noncomputable def emitX (m : Bool) (elt : Expr) (acc : Value) (env : Env) : Sem Unit := cond m (do let x ← eval elt env; standAt elt.pos; let _ ← call (.builtin "set.add") [acc, x]; pure ()) (do let x ← eval elt env; let _ ← call (.builtin "list.append") [acc, x]; pure ())
noncomputable def bodyOf (m : Bool) (elt : Expr) (gens : List Comprehension) (scope : Scope) (pos : Pos) (d : Nat) (it acc : Value) (env : Env) : Option Comprehension → Sem Fin
  | some g' => do
    let x ← eval g'.iter env
    standAt g'.iter.pos
    let x ← foldedSetIterable g'.iter env x
    let i ← holding [x] (pyIter x)
    let _ ← runOwn (.compStart (cX m elt gens scope pos) (d + 1) i acc env) env
    again (.compLoop (cX m elt gens scope pos) d it acc env)
  | none => do
    emitX m elt acc env
    again (.compLoop (cX m elt gens scope pos) d it acc env)
theorem turn {m : Bool} {elt : Expr} {gens : List Comprehension} {scope : Scope} {pos : Pos} {d : Nat} {it acc : Value} {env : Env} {g : Comprehension} (hg : gens[d]? = some g) (ha : g.is_async = 0) (ha' : ∀ g', gens[d + 1]? = some g' → g'.is_async = 0) :
    compTurn (cX m elt gens scope pos) d it acc env = (do
      standAt g.iter.pos
      match ← pyNext it with
      | none => pure (.done .next)
      | some v => do
        letOwnedTupleGo g.target it v
        assign g.target env v
        let ok ← testsOf g.ifs env
        if ok = true then bodyOf m elt gens scope pos d it acc env gens[d + 1]? else again (.compLoop (cX m elt gens scope pos) d it acc env)) := by
  cases m <;> unfold compTurn <;> cases h : gens[d + 1]? with
  | none => simp only [cX, cond_true, cond_false, hg, ha, h]; rfl
  | some g' => simp only [cX, cond_true, cond_false, hg, ha, h, ha' g' h]; rfl
noncomputable def AccAt (m : Bool) (g : Pg) (D : Addr) (done : List PV) (ow : Ow) (s : Shared) : Prop := cond m (∃ l, done = l.map .str ∧ (∀ x ∈ l, okS x) ∧ FSet g.prog g.w s.heap D ((dedupS l).map strOf)) (∃ vs, IsL s.heap.get? "list" D vs ∧ RVs (vis s.heap ow) done vs)
noncomputable abbrev AccP (m : Bool) (l : List PV) : Prop := (l.length ≤ cond m 64 LEN) ∧ (m = true → ∃ l' : List (List Nat), l = l'.map PV.str)
section
variable {a_ b_} (x_ : AccP a_ b_)
def AccP.n := x_.1
def AccP.s := x_.2
end
theorem AccAt.at {m : Bool} {g : Pg} {D : Addr} {done : List PV} {ow ow' : Ow} {s s' : Shared} (x : AccAt m g D done ow s) {P : Addr → Prop} (hk : Keeps P s s') (hD : ¬ P D) (hv : Sub (vis s.heap ow) (vis s'.heap ow')) : AccAt m g D done ow' s' := by
  cases m with
  | false => exact let ⟨vs, ⟨n, l⟩, r⟩ := x; ⟨vs, ⟨n, hk D _ l hD⟩, r.mono hv⟩
  | true => exact let ⟨l, e, o, es, ep, t, F⟩ := x; ⟨l, e, o, es, ep, t, F.at fun o e => hk D o e hD⟩
theorem AccAt.live {m : Bool} {g : Pg} {D : Addr} {done : List PV} {ow : Ow} {s : Shared} (x : AccAt m g D done ow s) : (s.heap.get? D).isSome = true := by
  cases m with
  | false => exact let ⟨_, l, _⟩ := x; isL_live l
  | true => exact let ⟨_, _, _, _, _, _, F⟩ := x; isSome_of F.ob
noncomputable abbrev CL (m : Bool) (c : Cx) (ρ : Rho) (ow : Ow) (D : Addr) (done : List PV) (s : Shared) : Prop := (Ok c ρ ow s) ∧ (ow D = .loc) ∧ (D ≠ c.env.locals) ∧ (AccAt m c.g D done ow s)
section
variable {a_ b_ c_ d_ e_ f_ g_} (x_ : CL a_ b_ c_ d_ e_ f_ g_)
def CL.fr := x_.1
def CL.acc := x_.2.1
def CL.ne := x_.2.2.1
def CL.list := x_.2.2.2
end
noncomputable abbrev GrN (N : Nat) (own : List Addr) (ow ow' : Ow) (s s' : Shared) : Prop := (StepN N (fun b => b ∈ own ∨ (ow b).mine) s s') ∧ (∀ b, ow' b = ow b ∨ (b ∈ own ∨ (ow b).mine) ∨ s.heap.get? b = none)
section
variable {a_ b_ c_ d_ e_ f_} (x_ : GrN a_ b_ c_ d_ e_ f_)
def GrN.step := x_.1
def GrN.new := x_.2
end
inductive BodyEnd (m : Bool) {k : KC} (a : At k) (D : Addr) (done : List PV) (code : Code) (fin : Fin) (s' : Shared) : Prop
  | mk (ow' : Ow) (e : fin = .again code) (cl : CL m a.c a.ρ ow' D done s') (gr : Gr a.ow ow' a.s s')
inductive LoopEnd (m : Bool) (c : Cx) (ρ : Rho) (D : Addr) (N : Nat) (own : List Addr) (ow : Ow) (done : List PV) (s : Shared) (r : Result) (s' : Shared) : Prop
  | mk (ow' : Ow) (e : r = .ok .next) (cl : CL m c ρ ow' D done s') (gr : GrN N own ow ow' s s')
noncomputable def varsC : C → List Nat
  | .emit _ => []
  | .for_ t _ _ k => tvars t ++ varsC k
noncomputable def SndC (m : Bool) (k : KC) (cc : C) (elt : Expr) (gs : List Comprehension) : Prop := ∀ (gens : List Comprehension) (scope : Scope) (pos : Pos) (d : Nat) (it : Value) (D : Addr) (a : At k) (done l : List PV), gens.drop (d + 1) = gs → (∀ i ∈ varsC cc, get a.ρ i = .un) → CL m a.c a.ρ a.ow D done a.s → evC a.F cc a.ρ = some l → AccP m (done ++ l) →
  a.c.WP (bodyOf m elt gens scope pos d it (.ref D) a.env gens[d + 1]?) (BodyEnd m a D (done ++ l) (.compLoop (cX m elt gens scope pos) d it (.ref D) a.env)) a.s
noncomputable abbrev ClP (m : Bool) (k : KC) (t : Tgt) (ifs : Ts) (cc : C) (elt : Expr) (g : Comprehension) (gs : List Comprehension) : Prop := (g.is_async = 0) ∧ (∀ g' ∈ gs, g'.is_async = 0) ∧ (notSet g.iter = true) ∧ (TgtP k t g.target) ∧ (SndIfs k ifs g.ifs) ∧ (SndC m k cc elt gs) ∧ (∀ i ∈ tvars t, i ∉ varsC cc)
section
variable {a_ b_ c_ d_ e_ f_ g_ h_} (x_ : ClP a_ b_ c_ d_ e_ f_ g_ h_)
def ClP.as0 := x_.1
def ClP.asn := x_.2.1
def ClP.nset := x_.2.2.1
def ClP.tgt := x_.2.2.2.1
def ClP.ifs := x_.2.2.2.2.1
def ClP.body := x_.2.2.2.2.2.1
def ClP.dis := x_.2.2.2.2.2.2
end
section
variable {m : Bool} {k : KC} {c : Cx} {ρ ρ' : Rho} {ow ow' : Ow} {D : Addr} {done l : List PV} {s s' : Shared} {elt : Expr} {gens gs : List Comprehension} {scope : Scope} {pos : Pos} {d : Nat} {it : Value} {g : Comprehension} {t : Tgt} {ifs : Ts} {cc : C}
theorem CL.at (x : CL m c ρ ow D done s) {P : Addr → Prop} (T : Ok c ρ' ow' s') (hk : Keeps P s s') (hD : ¬ P D) (e : ow' D = ow D) (hv : Sub (vis s.heap ow) (vis s'.heap ow')) : CL m c ρ' ow' D done s' :=
  ⟨T, e.trans x.acc, x.ne, x.list.at hk hD hv⟩
theorem CL.step (x : CL m c ρ ow D done s) (hs : Step0 s s') : CL m c ρ ow D done s' := x.at (x.fr.step hs) hs.keep id rfl (Sub.step0 hs)
theorem drop_cons {α : Type} {l r : List α} {i : Nat} {p : α} (h : l.drop i = p :: r) : l[i]? = some p ∧ l.drop (i + 1) = r ∧ i + 1 ≤ l.length := by
  have h1 : l[i]? = some p := by rw [← List.head?_drop, h]; rfl
  exact ⟨h1, by rw [← List.tail_drop, h]; rfl, (List.getElem?_eq_some_iff.mp h1).1⟩
theorem AccP.left {done l1 l2 : List PV} (h : AccP m (done ++ (l1 ++ l2))) : AccP m (done ++ l1) :=
  have e : done ++ (l1 ++ l2) = (done ++ l1) ++ l2 := (List.append_assoc ..).symm
  ⟨Nat.le_trans (by rw [e, List.length_append (as := done ++ l1)]; exact Nat.le_add_right _ _) h.n, fun q => let ⟨l', h⟩ := h.s q; ⟨l'.take (done ++ l1).length, by rw [List.map_take, ← h, e, List.take_left]⟩⟩
theorem CL.back (x : CL m c ρ' ow D done s) {p : PV} (e : setT t p ρ = some ρ') (hun : ∀ i ∈ tvars t, get ρ i = .un) : CL m c ρ ow D done s :=
  ⟨x.fr.less fun i => (Classical.em (i ∈ tvars t)).elim (fun h => .inr (hun i h)) fun h => .inl (setT_ne e h).symm, x.acc, x.ne, x.list⟩
theorem keep_back {P : Addr → Prop} (x : Keeps P s s') {b : Addr} (h : s'.heap.get? b = none) : P b ∨ s.heap.get? b = none := (Classical.em (P b)).imp id fun hb => Option.eq_none_iff_forall_not_mem.mpr fun o e => not_none (x b o e hb) h
theorem GrN.trans {N : Nat} {own own' : List Addr} {ow'' : Ow} {s'' : Shared} (x : GrN N own ow ow' s s') (y : GrN N own' ow' ow'' s' s'') (h : ∀ b ∈ own', (b ∈ own ∨ (ow b).mine) ∨ s.heap.get? b = none) : GrN N own ow ow'' s s'' := by
  have up : ∀ b, b ∈ own' ∨ (ow' b).mine → (b ∈ own ∨ (ow b).mine) ∨ s.heap.get? b = none := fun b hb => hb.elim (h b) fun hb => (x.new b).elim (fun q => .inl (.inr (q ▸ hb))) id
  exact ⟨x.step.trans y.step up, fun b => (y.new b).elim (fun q => (x.new b).imp q.trans id) fun q => .inr (q.elim (up b) (keep_back x.step.keep))⟩
noncomputable abbrev Nx (St : List Addr → Nat → Shared → Prop) (G : GO) (N : Nat) (fp own own' : List Addr) (ow ow' : Ow) (i : Nat) (s s' : Shared) : Prop := (St own' i s') ∧ (∀ b ∈ own', ow' b = .aux) ∧ (∀ b ∈ fp, (s'.heap.get? b).isSome = true ∧ ¬ (ow' b).mine) ∧ (Sub G (vis s'.heap ow')) ∧ (GrN N own ow ow' s s')
section
variable {a_ b_ c_ d_ e_ f_ g_ h_ i_ j_ k_} (x_ : Nx a_ b_ c_ d_ e_ f_ g_ h_ i_ j_ k_)
def Nx.st := x_.1
def Nx.ownA := x_.2.1
def Nx.fpA := x_.2.2.1
def Nx.sub := x_.2.2.2.1
def Nx.gr := x_.2.2.2.2
end
theorem nn {nw : List Addr} (hnw : ∀ b ∈ nw, s.heap.get? b = none) {b : Addr} (hb : (s.heap.get? b).isSome = true) : b ∉ nw := fun h => Bool.false_ne_true ((congrArg Option.isSome (hnw _ h)).symm.trans hb)
theorem item_sub {N : Nat} {own nw : List Addr} (ho : ∀ b ∈ own, ow b = .aux) (hnw : ∀ b ∈ nw, s.heap.get? b = none) (hs : StepN N (fun b => b ∈ own ∨ Mn c ow b) s s') : Sub (vis s.heap ow) (vis s'.heap (ow.aux nw)) :=
  Sub.step hs.keep (fun b hb => .inl fun q => hb.elim (fun hb => nomatch (ho b hb).symm.trans q) fun hb => (Tag.mine_ne hb.1).1 q) fun b hb => (Classical.em (b ∈ nw)).elim (fun q => .inr (hnw b q)) fun q => .inl ((Ow.aux_ne q).trans hb)
theorem item_next {g : Pg} {A : Around} {tg : Expr} {N i : Nat} {fp own nw : List Addr} {G : GO} {items : List PV} {St : List Addr → Nat → Shared → Prop} {s₅ : Shared} (W : Walk g A N tg it fp G items St) (ho : ∀ b ∈ own, ow b = .aux) (hfp : ∀ b ∈ fp, (s.heap.get? b).isSome = true ∧ ¬ (ow b).mine) (hG : Sub G (vis s.heap ow))
    (hnw : ∀ b ∈ nw, s.heap.get? b = none) (hSt : St (nw ++ own) i s') (hs : StepN N (fun b => b ∈ own ∨ Mn c ow b) s s') (g5 : Gr (ow.aux nw) ow' s' s₅) : Nx St G N fp own (nw ++ own) ow ow' i s s₅ := by
  have ta : ∀ b ∈ nw ++ own, ow.aux nw b = .aux := fun b hb => (Classical.em (b ∈ nw)).elim Ow.aux_at fun q => (Ow.aux_ne q).trans (ho b ((List.mem_append.mp hb).resolve_left q))
  have nm : ∀ b, b ∈ nw ++ own ∨ b ∈ fp → ¬ (ow.aux nw b).mine := fun b hb q => hb.elim (fun hb => by rw [ta b hb] at q; exact q) fun hb => (hfp b hb).2 ((Ow.aux_ne (ow := ow) (nn hnw (hfp b hb).1)) ▸ q)
  have la : ∀ b, b ∈ nw ++ own ∨ b ∈ fp → (s'.heap.get? b).isSome = true := fun b hb => by
    by_cases q : b ∈ nw ++ own
    · exact W.live _ _ _ hSt b q
    · have hb := hb.resolve_left q
      exact hs.alive (hfp b hb).1 fun h => h.elim (fun h => q (List.mem_append_right _ h)) fun h => (hfp b hb).2 h.1
  have tag : ∀ b, b ∈ nw ++ own ∨ b ∈ fp → ow' b = ow.aux nw b := fun b hb => (g5.new b).resolve_right fun h => h.elim (nm b hb) fun h => Bool.false_ne_true ((congrArg Option.isSome h).symm.trans (la b hb))
  have up : ∀ b, (ow.aux nw b).mine → (b ∈ own ∨ (ow b).mine) ∨ s.heap.get? b = none := fun b hb => (Classical.em (b ∈ nw)).elim (fun q => .inr (hnw b q)) fun q => .inl (.inr (Ow.aux_ne (ow := ow) q ▸ hb))
  have hs' : StepN N (fun b => b ∈ own ∨ (ow b).mine) s s' := hs.up fun b h => .inl (h.imp id (·.1))
  exact ⟨W.frame _ _ _ _ hSt (fun b hb o e => g5.step.keep b o e (nm b hb)) g5.step.gens, fun b hb => (tag b (.inl hb)).trans (ta b hb), fun b hb => ⟨g5.step.alive (la b (.inr hb)) (nm b (.inr hb)), (tag b (.inr hb)).symm ▸ nm b (.inr hb)⟩, (hG.trans (item_sub ho hnw hs)).trans g5.sub,
    hs'.trans g5.step.n up, fun b => (g5.new b).elim (fun q => (Classical.em (b ∈ nw)).elim (fun q => .inr (.inr (hnw b q))) fun q' => .inl (q.trans (Ow.aux_ne q'))) fun q => .inr (q.elim (up b) (keep_back hs'.keep))⟩
noncomputable def Ow.drop (ow : Ow) (l : List Addr) : Ow := fun b => if b ∈ l then .free else ow b
theorem Ok.drop {N : Nat} {own : List Addr} (T : Ok c ρ ow s) (ho : ∀ b ∈ own, ow b = .aux) (hs : StepN N (· ∈ own) s s') : Ok c ρ (ow.drop own) s' ∧ GrN N own ow (ow.drop own) s s' ∧ Sub (vis s.heap ow) (vis s'.heap (ow.drop own)) := by
  have hn : ∀ b, ow b = .free → ow.drop own b = .free ∨ s.heap.get? b = none := fun b hb => .inl (by unfold Ow.drop; split; rfl; exact hb)
  refine ⟨T.move hs.keep (fun b hb => .inl (ho b hb)) (fun b hb => ?_) (fun b zz h2 => if_neg fun q => h2 (ho b q)) hn, ⟨hs.up fun b h => .inl (.inl h), fun b => (Classical.em (b ∈ own)).elim (fun q => .inr (.inl (.inl q))) fun q => .inl (if_neg q)⟩, Sub.step hs.keep (fun b hb => .inl fun q => nomatch (ho b hb).symm.trans q) hn⟩
  have q : b ∉ own := fun q => hb (if_pos q)
  exact hs.alive (T.live b fun h => hb ((if_neg q).trans h)) q
theorem loop_tree {acc : Value} {A : Around} {prog : Program} {w : World} {env : Env} {R : Result → Shared → Prop} (h : WP prog w A (compTurn (cX m elt gens scope pos) d it acc env) (fun fin s' => match fin with | .done f => R (.ok f) s' | .again c' => c'.quiet = true ∧ codeAny (model prog w) A c' R s') s) : codeAny (model prog w) A (.compLoop (cX m elt gens scope pos) d it acc env) R s := by
  cases m <;> exact codeAny_of_tree (show wpAny _ A ((compTurn _ d it acc env).onRaise (fun x => do noteFrame x env; theTreesLotGoes x)) _ _ s from wpAny_noted (WP.e h))
theorem loopC (hk : c.k = k) (Dg : Good c) (P : ClP m k t ifs cc elt g gs) {N : Nat} {fp : List Addr} {G : GO} {items : List PV} {St : List Addr → Nat → Shared → Prop} (W : Walk c.g c.A N g.target it fp G items St) (hg : gens[d]? = some g) (hd : gens.drop (d + 1) = gs) (hun : ∀ i ∈ varsC (.for_ t (.rng (.v 0)) ifs cc), get ρ i = .un) :
    ∀ (rest : List PV) (i : Nat) (done l : List PV) (own : List Addr) (ow : Ow) (s : Shared), items.drop i = rest → i ≤ items.length →
      evItems (fun p => (setT t p ρ).bind fun ρ' => (evTs c.g.F false ifs ρ').bind fun b => if b then evC c.g.F cc ρ' else some []) rest = some l → AccP m (done ++ l) → St own i s → CL m c ρ ow D done s → (∀ b ∈ own, ow b = .aux) → (∀ b ∈ fp, (s.heap.get? b).isSome = true ∧ ¬ (ow b).mine) → Sub G (vis s.heap ow) →
      codeAny (model c.g.prog c.g.w) c.A (.compLoop (cX m elt gens scope pos) d it (.ref D) c.env) (LoopEnd m c ρ D N own ow (done ++ l) s) s := by
  have ht := fun acc => turn (m := m) (elt := elt) (scope := scope) (pos := pos) (it := it) (acc := acc) (env := c.env) hg P.as0 fun g' h => P.asn g' (by rw [← hd]; exact List.mem_of_getElem? (i := 0) (by rw [List.getElem?_drop]; exact h))
  have tree := fun {s : Shared} {R : Result → Shared → Prop} => loop_tree (m := m) (elt := elt) (gens := gens) (scope := scope) (pos := pos) (d := d) (it := it) (acc := .ref D) (A := c.A) (prog := c.g.prog) (w := c.g.w) (env := c.env) (s := s) (R := R)
  intro rest
  induction rest with
  | nil =>
    intro i done l own ow s hr hi hl hlen hSt hC ho hfp hG
    cases hl
    have hi := Nat.le_antisymm hi (List.drop_eq_nil_iff.mp hr)
    subst hi
    refine tree ?_
    rw [ht]
    refine wpAny_bind (wpAny_standAt (wpAny_bind (WP.mono (W.done own s hSt) fun o s' h => ?_)))
    obtain ⟨rfl, hs⟩ := h
    rw [List.append_nil]
    have hD : D ∉ own := fun q => nomatch (ho D q).symm.trans hC.acc
    have h := hC.fr.drop ho hs
    exact wpAny_pure ⟨_, rfl, hC.at h.1 hs.keep hD (if_neg hD) h.2.2, h.2.1⟩
  | cons p rest ih =>
    intro i done l own ow s hr hi hl hlen hSt hC ho hfp hG
    obtain ⟨hp, hr', hi'⟩ := drop_cons hr
    obtain ⟨l1, h1, h2⟩ := bindE hl
    obtain ⟨l2, h3, rfl⟩ := Option.map_eq_some_iff.mp h2
    obtain ⟨ρ1, hρ1, h1⟩ := bindE h1
    obtain ⟨b, hb, h1⟩ := bindE h1
    refine tree ?_
    rw [ht]
    refine wpAny_bind (wpAny_standAt (wpAny_bind (WP.mono (item_step (a := ⟨c, ρ, ow, s, hk, Dg, hC.fr⟩) (Q := fun s₃ => c.WP (testsOf g.ifs c.env >>= fun ok => if ok = true then bodyOf m elt gens scope pos d it (.ref D) c.env gens[d + 1]? else again (.compLoop (cX m elt gens scope pos) d it (.ref D) c.env)) (fun fin s' => match fin with | .done f => LoopEnd m c ρ D N own ow (done ++ (l1 ++ l2)) s (.ok f) s' | .again c' => c'.quiet = true ∧ codeAny (model c.g.prog c.g.w) c.A c' (LoopEnd m c ρ D N own ow (done ++ (l1 ++ l2)) s) s') s₃) W hp hSt ho (fun b hb => (hfp b hb).2) hG P.tgt hρ1 ?_) fun o s₁ h => ?_)))
    rotate_left
    · obtain ⟨v, rfl, h⟩ := h
      exact wpAny_bind (h.mono fun zz s₂ h => wpAny_bind (h.mono fun zz s₃ h => h))
    intro nw s₂ hnw hSt2 T2 hs2
    have hC2 : CL m c ρ1 (ow.aux nw) D done s₂ := hC.at T2 hs2.keep (fun q => q.elim (fun q => nomatch (ho D q).symm.trans hC.acc) fun q => hC.ne (q.2.1 hC.acc)) (Ow.aux_ne (nn hnw hC.list.live)) (item_sub ho hnw hs2)
    have fin : ∀ (ow' : Ow) (s₅ : Shared), CL m c ρ1 ow' D (done ++ l1) s₅ → Gr (ow.aux nw) ow' s₂ s₅ → codeAny (model c.g.prog c.g.w) c.A (.compLoop (cX m elt gens scope pos) d it (.ref D) c.env) (LoopEnd m c ρ D N own ow (done ++ (l1 ++ l2)) s) s₅ := fun ow' s₅ h5 g5 => by
      have X := item_next W ho hfp hG hnw hSt2 hs2 g5
      refine codeAny_mono (ih (i + 1) (done ++ l1) l2 (nw ++ own) ow' s₅ hr' hi' h3 (by rw [List.append_assoc]; exact hlen) X.st (h5.back hρ1 fun i h => hun i (List.mem_append_left _ h)) X.ownA X.fpA X.sub) fun r s' hr => ?_
      obtain ⟨ow'', e, cl, gr⟩ := hr
      rw [List.append_assoc] at cl
      exact ⟨ow'', e, cl, X.gr.trans gr fun b hb => (List.mem_append.mp hb).elim (fun q => .inr (hnw b q)) fun q => .inl (.inl q)⟩
    refine wpAny_bind ((P.ifs ⟨c, ρ1, ow.aux nw, s₂, hk, Dg, T2⟩ b hb).mono fun ok s₄ h4 => ?_)
    obtain ⟨rfl, hs4⟩ := h4
    cases ok with
    | false =>
      cases h1
      exact wpAny_pure ⟨rfl, fin _ s₄ (by rw [List.append_nil]; exact hC2.step hs4) (.of0 hs4)⟩
    | true =>
      refine (P.body gens scope pos d it D ⟨c, ρ1, ow.aux nw, s₄, hk, Dg, T2.step hs4⟩ done l1 hd (fun i h => ?_) (hC2.step hs4) h1 hlen.left).mono fun f s₅ h5 => ?_
      · rw [setT_ne hρ1 fun q => P.dis i q h]; exact hun i (List.mem_append_right _ h)
      · obtain ⟨ow', rfl, h5, g5⟩ := h5
        exact ⟨rfl, fin ow' s₅ h5 ((Gr.of0 hs4).trans g5)⟩
end
section
variable {m : Bool} {k : KC} {c : Cx} {ρ : Rho} {ow ow' : Ow} {D : Addr} {done l : List PV} {s s' : Shared} {elt e : Expr} {gens gs : List Comprehension} {scope : Scope} {pos : Pos} {d : Nat} {it : Value} {g : Comprehension} {t : Tgt} {ifs : Ts} {cc : C} {vs : List (Nat × Str)} {src : Src} {x : X}
theorem tg_ne2 {t t' : Tag} (h : t ≠ t') (h' : t' ≠ .ext) : tg c t ≠ t' := by unfold tg; split; exact h; exact h'.symm
theorem Ok.beside {a : Addr} (T : Ok c ρ ow s) (hs : Step (· = a) s s') (ha : ow a = .loc) (hne : a ≠ c.env.locals) (hal : (s'.heap.get? a).isSome = true) : Ok c ρ ow s' ∧ Gr ow ow s s' :=
  let ⟨_, hm, hb⟩ := T.body
  T.chg hs ha trivial hal (Ns_keep hm fun o e => hs.keep _ o e (Ne.symm hne)) fun i x hi =>
    let ⟨ov, n, sl⟩ := hb i x hi
    ⟨ov, n.keep fun b hb o e => hs.keep b o e fun q => tg_ne2 (t := .cell x) (t' := .loc) (fun h => nomatch h) (fun h => nomatch h) ((T.cells x b hb).symm.trans (q ▸ ha)), sl.chg hs ha (fun h => nomatch h) (tg_ne2 (t := .slot i) (t' := .loc) (fun h => nomatch h) fun h => nomatch h)⟩
theorem cEmit (hx : SndE k x elt) : SndC false k (.emit x) elt [] := fun gens scope pos d it D a done l hd hun hC he hlen => by
  obtain ⟨p, h1, h2⟩ := bindE he
  cases h2
  rw [List.getElem?_eq_none (List.drop_eq_nil_iff.mp hd)]
  refine wpAny_bind (wpAny_bind ((hx a p h1).mono fun v s₁ h => ?_))
  have hC1 := hC.step h.1
  obtain ⟨vs, ⟨n, l⟩, rv⟩ := hC1.list
  refine wpAny_bind (wpAny_list_append_plain (items := vs.toArray) ⟨n, l⟩ (fun h' hp hs => ?_) ?_)
  · obtain ⟨m, em⟩ := hp
    have hst : Step (· = D) s₁ { s₁ with heap := h' } := Step.sameBut (tk := s₁.toks) hs rfl
    have T := hC1.fr.beside hst hC.acc hC.ne (isSome_of em)
    have hv := T.2.sub
    exact wpAny_pure (wpAny_pure ⟨_, rfl, ⟨T.1, hC.acc, hC.ne, vs ++ [v], ⟨m, em.trans (by rw [List.push_toArray]; rfl)⟩, (rv.mono hv).append ⟨v, [], rfl, h.2.mono hv, rfl⟩⟩, (Gr.of0 h.1).trans T.2⟩)
  · rw [List.size_toArray, rv.length]
    have hlen := hlen.n
    rw [List.length_append] at hlen
    exact Nat.le_trans (Nat.le_trans (Nat.le_add_right _ _) hlen) (by decide)
theorem At.enter (a : At k) {own : List Addr} (hn : ∀ b ∈ own, a.s.heap.get? b = none) (hl : ∀ b ∈ own, (s'.heap.get? b).isSome = true) (st : Step0 a.s s') : Ok a.c a.ρ (a.ow.aux own) s' ∧ Sub (vis a.s.heap a.ow) (vis s'.heap (a.ow.aux own)) := by
  have hf : ∀ b, a.ow b = .free → a.ow.aux own b = .free ∨ a.s.heap.get? b = none := fun b hb => (Classical.em (b ∈ own)).elim (fun q => .inr (hn b q)) fun q => .inl ((Ow.aux_ne q).trans hb)
  refine ⟨a.T.move st.keep (fun zz h => h.elim) (fun b hb => ?_) (fun b h1 zz => Ow.aux_ne (nn hn (a.T.live b h1))) hf, Sub.step st.keep (fun zz h => h.elim) hf⟩
  by_cases q : b ∈ own
  · exact hl b q
  · exact st.alive (a.T.live b fun h => hb ((Ow.aux_ne q).trans h)) id
theorem GrN.gr {N : Nat} {own : List Addr} {s₂ : Shared} (hN : ∀ (g : Nat) (x : GenState), s.gens[g]? = some x → g < N) (hn : ∀ b ∈ own, s.heap.get? b = none) (st : Step0 s s₂) (x : GrN N own (ow.aux own) ow' s₂ s') : Gr ow ow' s s' := by
  have up : ∀ b, b ∈ own ∨ (ow.aux own b).mine → (ow b).mine ∨ s.heap.get? b = none := fun b hb => (Classical.em (b ∈ own)).elim (fun q => .inr (hn b q)) fun q => .inl (Ow.aux_ne (ow := ow) q ▸ hb.resolve_left q)
  exact ⟨(st.up.n.trans x.step up).all hN, fun b => (x.new b).elim (fun q => (Classical.em (b ∈ own)).elim (fun q => .inr (.inr (hn b q))) fun q' => .inl (q.trans (Ow.aux_ne q'))) fun q => .inr (q.elim (up b) fun h => .inr (none_back st h))⟩
theorem start_tree {acc : Value} {A : Around} {prog : Program} {w : World} {env : Env} {R : Result → Shared → Prop} (h : WP prog w A (compStart (cX m elt gens scope pos) d it acc env) (fun fin s' => match fin with | .done f => R (.ok f) s' | .again c' => c'.quiet = true ∧ codeAny (model prog w) A c' R s') s) : codeAny (model prog w) A (.compStart (cX m elt gens scope pos) d it acc env) R s := by
  cases m <;> exact codeAny_of_tree (show wpAny _ A ((compStart _ d it acc env).onRaise (fun x => do noteFrame x env; standAt theWindowsPlace)) _ _ s from wpAny_notedAt (WP.e h))
noncomputable abbrev accO (m : Bool) (w : World) : Obj := cond m (setObj0 w) (lObj "list" [] 0)
noncomputable abbrev newAcc (m : Bool) : Sem Value := cond m (newSet (.type "set")) (newList [])
theorem newAcc_ok {A : Around} {prog : Program} {w : World} {Q : Value → Shared → Prop} (h : Q (.ref s.heap.objs.size) { s with heap := s.heap.push (accO m w) }) : WP prog w A (newAcc m) Q s := by
  cases m with
  | false => exact wpAny_newObj_type h
  | true =>
    show wpAny _ _ (newSet (.type "set")) _ _ _
    unfold newSet
    refine wpAny_bind (m := setsByText) (wpAny_bind (m := ask) (wpAny_askSetting (wpAny_pure ?_)))
    exact wpAny_newObj_type h
theorem acc0 {g : Pg} (h : s.heap.get? D = some (accO m g.w)) : AccAt m g D [] ow s := by
  cases m with
  | false => exact ⟨[], ⟨0, h⟩, rfl⟩
  | true => exact ⟨[], rfl, (fun zz h => nomatch h), fset_nil h⟩
theorem start {elt : Expr} {gens : List Comprehension} {A : Around} {acc : Value} {prog : Program} {w : World} {env : Env} {R : Result → Shared → Prop} (hg : gens[d]? = some g) (ha : g.is_async = 0)
    (h0 : codeAny (model prog w) A (.compLoop (cX m elt gens scope pos) d it acc env) R s) (h : WP prog w A (pyIter it) (fun it' s' => it' = it ∧ s' = s) s) :
    codeAny (model prog w) A (.compStart (cX m elt gens scope pos) d it acc env) R s := by
  refine start_tree ?_
  unfold compStart
  have hcl : (clausesOf (cX m elt gens scope pos))[d]? = some g := by cases m <;> exact hg
  rw [hcl, Option.elim_some, ha]
  refine wpAny_bind (wpAny_askSetting (wpAny_ite ?_))
  split
  · first
      | exact wpAny_bind (wpAny_pure (wpAny_pure (And.intro rfl h0)))
      | exact wpAny_pure (And.intro rfl h0)
  · refine wpAny_bind (wpAny_rule (wpAny_bind (wpAny_standAt (wpAny_bind (WP.mono h fun it' s' h' => ?_)))))
    obtain ⟨rfl, rfl⟩ := h'
    exact wpAny_pure ⟨rfl, h0⟩
theorem cFor (hst : k.st = false) (hs : SndSrc k false src g.target g.iter) (P : ClP m k t ifs cc elt g gs) : SndC m k (.for_ t src ifs cc) elt (g :: gs) := fun gens scope pos d it D a done l hd hun hC he hlen => by
  obtain ⟨items, h1, h2⟩ := bindE he
  obtain ⟨hg, hd', _⟩ := drop_cons hd
  rw [hg]
  refine wpAny_bind ((hs a items h1).mono fun xv s₁ hx => wpAny_bind (wpAny_standAt (wpAny_bind (wpAny_of_eq (folded_plain P.nset _ xv) (wpAny_bind (wpAny_holding (WP.mono hx fun it' s₂ h => ?_)))))))
  obtain ⟨G, fp, own, St, N, hN, W, h0, hn, st, sub, fpA⟩ := h
  have ⟨T2, hv⟩ := a.enter hn (W.live _ _ _ h0) st
  have fpO : ∀ b ∈ own ++ fp, (s₂.heap.get? b).isSome = true ∧ ¬ (a.ow.aux own b).mine := fun b hb => by
    by_cases q : b ∈ own
    · exact ⟨W.live _ _ _ h0 b q, by rw [Ow.aux_at q]; exact id⟩
    · have := fpA b ((List.mem_append.mp hb).resolve_left q)
      exact ⟨this.1, by rw [Ow.aux_ne q]; exact this.2 rfl⟩
  have hDn : D ∉ own := nn hn hC.list.live
  have lp := loopC (m := m) (scope := scope) (pos := pos) (elt := elt) a.hk a.D P W hg hd' hun items 0 done l own _ s₂ rfl (Nat.zero_le _) h2 hlen h0 (hC.at T2 st.keep id (Ow.aux_ne hDn) hv) (fun b hb => Ow.aux_at hb) fpO sub
  refine wpAny_bind (wpAny_runOwn (codeAny_mono (start hg P.as0 lp (W.self _ 0 _ h0)) fun r s' hr => ?_))
  obtain ⟨ow', rfl, cl, gr⟩ := hr
  exact wpAny_pure ⟨ow', rfl, cl, gr.gr hN hn st⟩
noncomputable abbrev CEnd (m : Bool) (a : At k) (l : List PV) (C D : Addr) (s' : Shared) : Prop := (Step0 a.s s') ∧ (a.s.heap.get? C = none) ∧ (a.s.heap.get? D = none) ∧ (D ≠ C) ∧ (AccAt m a.c.g D l ((a.ow.put D .ext).put C .ext) s') ∧ (∃ m, s'.heap.Ns C m)
section
variable {a_ b_ c_ d_ e_ f_} (x_ : @CEnd k a_ b_ c_ d_ e_ f_)
def CEnd.st := x_.1
def CEnd.c0 := x_.2.1
def CEnd.d0 := x_.2.2.1
def CEnd.cd := x_.2.2.2.1
def CEnd.fin := x_.2.2.2.2.1
def CEnd.ns := x_.2.2.2.2.2
end
noncomputable def SndComp (m : Bool) (k : KC) (vs : List (Nat × Str)) (cc : C) (elt : Expr) (gs : List Comprehension) (scope : Scope) : Prop := ∀ (a : At k) (l : List PV), evC a.F cc (unsetV vs a.ρ) = some l → AccP m l → ∀ (pos ppos : Pos) (use : Option (Value → Sem Unit)) (Q : Value → Shared → Prop),
  (∀ C D s', CEnd m a l C D s' → compPost (model a.c.g.prog a.c.g.w) a.c.A (fun zz zz => False) use Q (.ref D) C (.ok .next) s') → a.c.WP (comprehension (cX m elt gs scope pos) scope a.env ppos (newAcc m) (firstAsync gs) (firstIter gs a.env) use) Q a.s
theorem comp_at (S : ScOk k scope vs) (P : ClP m (compKC k scope vs) t ifs cc elt g gs) (hv : ∀ i ∈ tvars t ++ varsC cc, i ∈ vs.map (·.1)) (a : At k) {items l : List PV}
    (hs : ∀ T : Ok a.c (unsetV vs a.ρ) a.ow a.s, a.c.WP (eval g.iter a.env) (fun v s₁ => a.c.WP (pyIter v) (Made (⟨a.c, unsetV vs a.ρ, a.ow, a.s, a.hk, a.D, T⟩ : At k) true g.target items) s₁) a.s)
    (h2 : evItems (fun p => (setT t p (unsetV vs a.ρ)).bind fun ρ' => (evTs a.F false ifs ρ').bind fun b => if b then evC a.F cc ρ' else some []) items = some l) (hl : AccP m l) (pos ppos : Pos) (use : Option (Value → Sem Unit)) (Q : Value → Shared → Prop)
    (hend : ∀ C D s', CEnd m a l C D s' → compPost (model a.c.g.prog a.c.g.w) a.c.A (fun zz zz => False) use Q (.ref D) C (.ok .next) s') : a.c.WP (comprehension (cX m elt (g :: gs) scope pos) scope a.env ppos (newAcc m) (firstAsync (g :: gs)) (firstIter (g :: gs) a.env) use) Q a.s := by
  obtain ⟨c, ρ, ow, s, hk, Gd, T⟩ := a
  subst hk
  obtain ⟨cl, hcl, hcl1, hcl2⟩ := closure_cells (scope := scope) (env := c.env) fun x hx hf => (Gd.O.cel _ (S.free x hx hf)).2
  have ha : firstAsync (g :: gs) = false := by obtain ⟨t, i, f, a⟩ := g; cases P.as0; rfl
  have hi : firstIter (g :: gs) c.env = eval g.iter c.env := by cases g; rfl
  show WP c.g.prog c.g.w c.A (comprehension _ scope c.env ppos (newAcc m) _ _ use) Q s
  rw [ha, hi]
  have hX := T.less (ρ' := unsetV vs ρ) (unsetV_or vs ρ)
  refine wpAny_comprehension_free (g := g) (gs := gs) (by cases m <;> rfl) (folded_plain P.nset c.env) hcl S.kind S.loc ((hs hX).mono fun xv s₁ h1 => WP.mono h1 fun it s₂ h => ?_)
  obtain ⟨G, fp, own, St, N, hN, W, h0, hn, st, sub, fpA⟩ := h
  refine newAcc_ok (wpAny_newFunctionEnv S.cell (fun y hy => nomatch hy) (fun h₃ hns₃ hsb₃ => ?_) S.kind)
  dsimp only at hns₃ hsb₃ ⊢
  generalize hH2 : s₂.heap.push (accO m c.g.w) = H2 at hns₃ hsb₃ ⊢
  have hsz : H2.objs.size = s₂.heap.objs.size + 1 := by rw [← hH2, Heap.size_push]
  have hDC : s₂.heap.objs.size ≠ H2.objs.size := by rw [hsz]; exact Nat.ne_of_lt (Nat.lt_succ_self _)
  have up : ∀ b o, s₂.heap.get? b = some o → h₃.get? b = some o := fun b o e => hsb₃.extBut b o (by rw [hsz]; exact Nat.ne_of_lt (Nat.lt_succ_of_lt (Heap.lt_size e))) (Heap.get?_push_of_some _ (hH2 ▸ Heap.get?_push_of_some _ e))
  have hst3 : Step0 s₂ { s₂ with heap := h₃, toks := s₂.toks + ([] : List (Str × Value)).length } := Step.heapTok fun b o e zz => up b o e
  have hD3 : h₃.get? s₂.heap.objs.size = some (accO m c.g.w) := hsb₃.extBut _ _ hDC (Heap.get?_push_of_some _ (hH2 ▸ Heap.get?_push_size _ (by cases m <;> rfl)))
  have hC2 : s₂.heap.get? H2.objs.size = none := get_none (by rw [hsz]; exact Nat.le_succ _)
  have hD2 : s₂.heap.get? s₂.heap.objs.size = none := size_none _
  generalize s₂.heap.objs.size = D at hD3 hDC hD2 ⊢
  generalize H2.objs.size = C at hns₃ hDC hC2 ⊢
  generalize hs3 : ({ s₂ with heap := h₃, toks := s₂.toks + ([] : List (Str × Value)).length } : Shared) = s₃ at hst3 ⊢
  have e3 : h₃ = s₃.heap := by rw [← hs3]
  rw [e3] at hD3 hns₃
  have st3 := st.trans0 hst3
  have hCo : C ∉ own := fun q => Bool.false_ne_true ((congrArg Option.isSome hC2).symm.trans (W.live _ _ _ h0 C q))
  have hDo : D ∉ own := fun q => Bool.false_ne_true ((congrArg Option.isSome hD2).symm.trans (W.live _ _ _ h0 D q))
  have hw := W.frame own 0 s₂ s₃ h0 (fun b zz o e => hst3.get e) hst3.gens
  obtain ⟨ow', hO⟩ : ∃ ow', ow' = ((ow.hide.put D .loc).put C .loc).aux own := ⟨_, rfl⟩
  have tC : ow' C = .loc := by rw [hO, Ow.aux_ne hCo, Ow.put_at]
  have tD : ow' D = .loc := by rw [hO, Ow.aux_ne hDo, Ow.put_ne _ _ hDC, Ow.put_at]
  have tn : ∀ b, b ≠ C → b ≠ D → b ∉ own → ow' b = ow.hide b := fun b h1 h2 h3 => by rw [hO, Ow.aux_ne h3, Ow.put_ne _ _ h1, Ow.put_ne _ _ h2]
  have ta : ∀ b ∈ own, ow' b = .aux := fun b hb => by rw [hO]; exact Ow.aux_at hb
  clear hO
  have c0 := none_back st hC2
  have d0 := none_back st hD2
  have cs : ∀ b, (b = C ∨ b = D ∨ b ∈ own) ∧ s.heap.get? b = none ∨ ow' b = ow.hide b := fun b => by
    by_cases q : b = C ∨ b = D ∨ b ∈ own
    · exact .inl ⟨q, q.elim (· ▸ c0) fun q => q.elim (· ▸ d0) (hn b)⟩
    · exact .inr (tn b (fun h => q (.inl h)) (fun h => q (.inr (.inl h))) fun h => q (.inr (.inr h)))
  have mine : ∀ b, (ow' b).mine → b = C ∨ b = D := fun b hb => by
    rcases cs b with h | h
    · exact h.1.imp id fun h => h.resolve_right fun q => by rw [ta b q] at hb; exact hb
    · rw [h] at hb
      exact (ow.hide_or b).elim (fun h => by rw [h.1] at hb; exact hb.elim) fun h => by rw [h.1] at hb; exact hb.elim
  have ext : ∀ b, ow b ≠ .free → ow' b = .ext := fun b hb => (cs b).elim (fun h => absurd (T.live b hb) fun q => Bool.false_ne_true ((congrArg Option.isSome h.2).symm.trans q)) fun h => h.trans ((ow.hide_or b).elim (fun h => absurd h.2 hb) (·.1))
  have hf : ∀ b, ow b = .free → ow' b = .free ∨ s.heap.get? b = none := fun b hb => (cs b).elim (fun h => .inr h.2) fun h => .inl (h.trans ((ow.hide_or b).elim (·.1) fun h => absurd hb h.2))
  have fr : ∀ b, ow' b = .free → ow b = .free := fun b hb => Classical.byContradiction fun q => nomatch (ext b q).symm.trans hb
  have lv : Lv s₃ ow' := fun b hb => by
    refine (cs b).elim (fun h => h.1.elim (fun q => q ▸ ns_live hns₃) fun h => h.elim (fun q => q ▸ isSome_of hD3) fun q => W.live _ _ _ hw b q) fun h => st3.alive (T.live b fun q => hb (h.trans ((ow.hide_or b).elim (·.1) fun h => absurd q h.2))) id
  have Tc := comp_ok (cl := cl) Gd S hX (unsetV_un vs ρ) hcl1 hcl2 st3 hns₃ lv tC ext hf
  have lp := loopC (m := m) (scope := scope) (pos := pos) (elt := elt) (D := D) (d := 0) (gens := g :: gs) (c := c.comp scope vs cl C) rfl (comp_good Gd S) P W rfl rfl (fun i h => unsetV_un vs ρ i (hv i h)) items 0 [] l own ow' s₃ rfl (Nat.zero_le _) h2 hl hw
    ⟨Tc, tD, hDC, acc0 hD3⟩ ta (fun b hb => ?_) (sub.trans (Sub.step hst3.keep (fun zz h => h.elim) fun b hb => ?_))
  · refine start (g := g) rfl P.as0 (codeAny_mono lp fun r s' hr => ?_) (W.self own 0 _ hw)
    obtain ⟨ow'', rfl, C3, gr⟩ := hr
    obtain ⟨mm, hm, _⟩ := C3.fr.body
    have hst := (st3.n.trans gr.step fun b hb => .inr (hb.elim (hn b) fun q => (mine b q).elim (· ▸ c0) (· ▸ d0))).all hN
    have fin : ∀ b, ow'' b = .free → ((ow.put D .ext).put C .ext) b = .free := fun b hb => by
      have nC : b ≠ C := fun q => have h : ow'' C = .free := q ▸ hb; nomatch h.symm.trans C3.fr.loc
      have nD : b ≠ D := fun q => have h : ow'' D = .free := q ▸ hb; nomatch h.symm.trans C3.acc
      rw [Ow.put_ne _ _ nC, Ow.put_ne _ _ nD]
      refine (gr.new b).elim (fun q => fr b (q.symm.trans hb)) fun q => q.elim (fun q => q.elim (fun q => T.live.free (hn b q)) fun q => ((mine b q).elim nC nD).elim) fun q => T.live.free (none_back st3 q)
    exact hend C D s' ⟨hst, c0, d0, hDC, C3.list.at (P := fun zz => False) (fun zz zz e zz => e) id (Sub.less fin), mm, hm⟩
  · by_cases q : b ∈ own
    · exact ⟨W.live _ _ _ hw b q, by rw [ta b q]; exact id⟩
    · have hl2 := (fpA b ((List.mem_append.mp hb).resolve_left q)).1
      exact ⟨hst3.alive hl2 id, fun h => Bool.false_ne_true ((congrArg Option.isSome (show s₂.heap.get? b = none from (mine b h).elim (· ▸ hC2) (· ▸ hD2))).symm.trans hl2)⟩
  · by_cases q : b ∈ own
    · rw [Ow.aux_at q] at hb; cases hb
    · rw [Ow.aux_ne q] at hb
      exact (cs b).elim (fun h => h.1.elim (fun e => .inr (e ▸ hC2)) fun h => h.elim (fun e => .inr (e ▸ hD2)) fun h => absurd h q) fun h => .inl (h.trans ((ow.hide_or b).elim (·.1) fun h => absurd hb h.2))
theorem comp_run (S : ScOk k scope vs) (hs : SndSrc k true src g.target g.iter) (P : ClP m (compKC k scope vs) t ifs cc elt g gs) (hv : ∀ i ∈ varsC (.for_ t src ifs cc), i ∈ vs.map (·.1)) : SndComp m k vs (.for_ t src ifs cc) elt (g :: gs) scope := fun a l he hl pos ppos use Q hend => by
  obtain ⟨items, h1, h2⟩ := bindE he
  exact comp_at S P hv a (fun T => hs ⟨a.c, unsetV vs a.ρ, a.ow, a.s, a.hk, a.D, T⟩ items h1) h2 hl pos ppos use Q hend
theorem fComp_go (a : At k) {l : List PV} (ok : okL l) (h : ∀ (use : Option (Value → Sem Unit)) (Q : Value → Shared → Prop), (∀ C D s', CEnd false a l C D s' → compPost (model a.c.g.prog a.c.g.w) a.c.A (fun zz zz => False) use Q (.ref D) C (.ok .next) s') → a.c.WP (comprehension (cX false elt gs scope pos) scope a.env (firstIterPos gs pos) (newAcc false) (firstAsync gs) (firstIter gs a.env) use) Q a.s) : a.c.WP (eval (.ListComp elt gs scope pos) a.env) (PF a.s a.ow l) a.s := by
  rw [eval_ListComp]
  refine h none _ fun C D s' x => ?_
  obtain ⟨m, hm⟩ := x.ns
  obtain ⟨vs', ⟨n, lD⟩, rD⟩ := x.fin
  refine ⟨m, hm, fun h' hsb => ?_⟩
  have hs : Step (· = C) s' { s' with heap := h' } := Step.heap fun b o e hb => hsb.extBut b o hb e
  exact ⟨x.st.trans hs fun b q => .inr (q ▸ x.c0), ok, D, vs', rfl, x.d0, ⟨n, hs.keep _ _ lD x.cd⟩, rD.mono (Sub.step (ow := (a.ow.put D .ext).put C .ext) (ow' := a.ow.put D .ext) hs.keep (fun b q => .inl (by rw [q, Ow.put_at]; exact fun h => nomatch h)) fun b hb => .inl (put_free (t := .ext) (fun h => nomatch h) hb))⟩
theorem fComp (h : SndComp false k vs cc elt gs scope) : SndF k (.comp vs cc) (.ListComp elt gs scope pos) := fun a l he => by
  obtain ⟨l', h1, h2⟩ := bindE he
  obtain ⟨e, ok⟩ := mkList_some h2
  cases e
  exact fComp_go a ok fun use Q => h a l h1 ⟨ok.2, fun q => nomatch q⟩ pos _ use Q
theorem eComp (h : SndComp false k vs cc elt gs scope) : SndE k (.comp vs cc) (.ListComp elt gs scope pos) := fun a p he => by
  obtain ⟨l, h1, h2⟩ := bindE he
  obtain ⟨rfl, _⟩ := mkList_some h2
  exact (fComp h a l he).mono fun zz zz z => z.toE a.T.live
theorem bOne {u : X} {o : Bool} (hu : SndE k u e) : SndB k o (.cons u .nil) [e] := fun a pos p h => by
  obtain ⟨q, h1, h⟩ := bindE h
  cases q <;> cases h
  exact hu a _ h1
theorem bMore {u v : X} {xs : Xs} {e' : Expr} {es : List Expr} {o : Bool} (hu : SndE k u e) (hs : SndB k o (.cons v xs) (e' :: es)) : SndB k o (.cons u (.cons v xs)) (e :: e' :: es) := fun a pos p h => by
  obtain ⟨q, h1, h⟩ := bindE h
  cases q with
  | bool b =>
    show a.c.WP (boolOp pos (if o then .Or else .And) (eval e a.env :: eval e' a.env :: evalEach es a.env)) _ _
    refine wpAny_bind ((hu a _ h1).mono fun v s₁ h₁ => ?_)
    obtain ⟨hs1, rfl⟩ := h₁
    refine wpAny_bind (wpAny_standAt (wpAny_bind (wpAny_holding (wpAny_truthy_bool ?_))))
    have go := fun h => (hs (a.step hs1) pos p h).mono (E := fun zz zz => False) fun zz zz z => z.after hs1
    cases o <;> cases b
    · cases h; exact wpAny_pure ⟨hs1, rfl⟩
    · exact go h
    · exact go h
    · cases h; exact wpAny_pure ⟨hs1, rfl⟩
  | _ => cases h
theorem eBoolE {xs : Xs} {es : List Expr} {o : Bool} (h : SndB k o xs es) : SndE k (.bool_ o xs) (.BoolOp (if o then .Or else .And) es pos) := fun a p he => h a pos p he
end
section
variable {k : KC} {wk : Bool} {tgt e ex ey : Expr} {pos np apos p1 p2 p3 p4 p5 : Pos} {x y : Opd} {o : Op2} {o1 : Op1}
theorem srcGi {n : Nat} {r : X} {c0 : Nat} (bz : Blt k "zip" (.type "zip")) (br : Blt k "range" (.type "range")) (hg : isGlob k.sc "_grouping_intervals" = true) (hgi : k.gi = true) (hx : SndE k r e) (hp : plainE e = true) (ht : isTuple tgt = true) (hn : 1 ≤ n ∧ n < 1000) :
    SndSrc k wk (.gi n r) tgt (.Call (.Name "zip" np) [.Call (.Name "range" p1) [.Constant (.int n) c0 p2] [] p3, .Call (.Name "_grouping_intervals" p4) [e] [] p5] [] pos) := fun a items h => by
  obtain ⟨p, h1, h⟩ := bindE h
  refine bz.call a rfl (args2 rfl rfl (br.call a rfl (args1 rfl (wpAny_Constant_int (call_range_1 ?_)))))
  have hst : Step0 a.s { a.s with heap := a.s.heap.push _, toks := _ } := Step.pushTok (o := { cls := .type "range", data := .fields #[.int 0 (a.s.toks + 1), .int n a.s.toks, .int 1 (a.s.toks + 1 + 1)] }) (tk := a.s.toks + 1 + 1 + 1)
  cases p with
  | list xs =>
    obtain ⟨l, hl, h⟩ := bindE h
    obtain ⟨gl, hgl, rfl⟩ := Option.map_eq_some_iff.mp h
    obtain ⟨l', _, rfl⟩ := Option.map_eq_some_iff.mp hl
    obtain ⟨fa, fo, fd, hm, ho, hd, hcall⟩ := a.D.gi (by rw [a.hk]; exact hgi)
    refine wpAny_bind (eval_global a.D.toRd0 (a.T.step hst).top (by rw [a.hk]; exact hg) hm ?_)
    refine callWith_def (e := e) (rest := []) hd (args1 hp ((hx (a.step hst) _ h1).mono fun v s r1 => ⟨((a.T.step hst).step r1.1).top _ _ ho, ?_⟩)) (starEach_plain (e := e) hp [] a.env)
    have hs := hst.trans0 r1.1
    refine (hcall a.c.g.F a.c.g.r a.c.A a.ow s tgt _ _ _ _ n xs v l'.1 gl a.hh a.D.R.room (a.st hs) ht (r1.1.get (Heap.get?_push_size _ rfl)) r1.2 l'.2 hn hgl).mono fun gv s₁ h => h.mono fun z s₂ h => h.mono fun it s₃ h => ?_
    obtain ⟨fp, I, hf⟩ := h
    obtain ⟨own, St, N, hN, W, h0, hnw⟩ := I.ex
    exact ⟨_, fp, own, St, N, fun i z e => hN i z (hs.gens i z e), W, h0, fun b hb => none_back hs (hnw b hb), hs.trans0 I.step, Sub.step I.step.keep (fun zz h => h.elim) fun b hb => (Classical.em (b ∈ own)).elim (fun q => .inr (hnw b q)) fun q => .inl ((Ow.aux_ne q).trans hb), fun b hb => ⟨(hf b hb).1, fun zz => (hf b hb).2⟩⟩
  | _ => cases h
theorem b_len : bootBuiltins "len" = some (.builtin "len") := by decide +kernel
theorem b_chr : bootBuiltins "chr" = some (.builtin "chr") := by decide +kernel
theorem b_abs : bootBuiltins "abs" = some (.builtin "abs") := by decide +kernel
theorem b_int : bootBuiltins "int" = some (.type "int") := by decide +kernel
theorem b_sorted : bootBuiltins "sorted" = some (.builtin "sorted") := by decide +kernel
theorem b_list : bootBuiltins "list" = some (.type "list") := by decide +kernel
theorem b_range : bootBuiltins "range" = some (.type "range") := by decide +kernel
theorem b_zip : bootBuiltins "zip" = some (.type "zip") := by decide +kernel
theorem b_divmod : bootBuiltins "divmod" = some (.builtin "divmod") := by decide +kernel
noncomputable abbrev G' (k : KC) (x : Str) : Prop := isGlob k.sc x = true
theorem bltF {id : String} {x : Str} (h : G' k x) (b : bootBuiltins x = some (.builtin id)) (n : x ≠ "__name__") (m : x ∈ (["len", "chr", "abs", "int", "list", "sorted", "sum", "max", "isinstance", "bool", "divmod", "set", "range", "zip"] : List Str)) : Blt k x (.builtin id) := ⟨h, n, m, b, .inl ⟨_, rfl⟩⟩
theorem bltT {T : String} {x : Str} (h : G' k x) (b : bootBuiltins x = some (.type T)) (n : x ≠ "__name__") (m : x ∈ (["len", "chr", "abs", "int", "list", "sorted", "sum", "max", "isinstance", "bool", "divmod", "set", "range", "zip"] : List Str)) : Blt k x (.type T) := ⟨h, n, m, b, .inr ⟨_, rfl⟩⟩
noncomputable abbrev P' (p : Prop) := Option (PLift p)
theorem eSplit (hb : BaseP ex) (hp : plainE ey = true) (hl : (apos.endLine == pos.line) = true) (hx : SndO k x ex) (hy : SndO k y ey) : SndF k (.op2 .split x y) (.Call (.Attribute ex "split" apos) [ey] [] pos) := fun a l h => by
  obtain ⟨p, h1, h⟩ := bindE h
  obtain ⟨q, h2, h⟩ := bindE h
  obtain ⟨⟨w, rfl⟩, xs, e, h'⟩ := snd2 h
  cases e
  refine Call_meth hb ((Bool.and_true _).trans hp) (by show 1 < 30; decide) hl ((hx a _ h1).mono fun v s r1 => ?_)
  have hs := r1.2.str
  obtain ⟨⟨t, rfl⟩, _⟩ := hs
  with_reducible refine getMethod_str (c := a.c) F.slot_str_split F.type_str_split ?_
  refine (callFn (.inl ⟨_, rfl⟩) ((Bool.and_true _).trans hp) (args1 hp ((hy (a.step r1.1) q h2).mono fun u s₂ r2 => ?_)))
  have hs2 := r1.1.trans0 r2.1
  exact (h' (a.oc hs2) _ u (r1.2.step r2.1) r2.2).mono fun zz zz x => x.after hs2
theorem fList (b : Blt k "list" (.type "list")) (hx : SndO k x ex) (hp : plainE ex = true) : SndF k (.op1 .list_ x) (.Call (.Name "list" np) [ex] [] pos) := fun a l h => by
  obtain ⟨p, h1, h⟩ := bindE h
  obtain ⟨xs, e, h'⟩ := snd1 h
  cases e
  exact b.call a ((Bool.and_true _).trans hp) (args1 hp ((hx a p h1).mono fun v s r1 => (h' (a.oc r1.1) v r1.2).mono fun zz zz x => x.after r1.1))
end
set_option genCtorIdx false
inductive UX | val (x : X) | own (x : X) | hdr | dct
set_option genCtorIdx true
set_option genCtorIdx false
mutual
inductive S
 | assign (i : Nat) (u : UX)
 | unpack (us : List (Nat × UX))
 | unpackE (i j : Nat) (x : X)
 | aug (i : Nat) (o : Op2) (x : Opd)
 | augL (i : Nat) (x : Opd)
 | augIdx (i : Nat) (ix x : Opd)
 | append (i : Nat) (x : X)
 | insert (i : Nat) (a : Opd) (x : X)
 | pop (i : Nat)
 | popAdd (j i : Nat) (ix : Opd)
 | del (i : Nat) (n : Int)
 | ret (x : Opd)
 | if_ (t : T) (a b : Ss)
 | while_ (n : Nat) (t : T) (b : Ss)
 | for_ (t : Tgt) (src : Src) (b : Ss)
 | freeze (i : Nat)
 | assert_ (t : T)
 | sp (n : Nat)
inductive Ss
 | nil
 | cons (s : S) (ss : Ss)
end
set_option genCtorIdx true
inductive Out where
  | next (ρ : Rho)
  | ret (p : PV)
noncomputable abbrev SPT : Type := (Addr) × (Nat → FT → Rho → Option Out)
section
variable (x_ : SPT)
noncomputable abbrev SPT.c := x_.1
noncomputable abbrev SPT.f := x_.2
end
noncomputable def setI (i : Nat) (v : SV) (ρ : Rho) : Option Rho := if i < ρ.length then some (set ρ i v) else none
noncomputable def setN (i : Nat) (v : SV) (ρ : Rho) : Option Out := if i < ρ.length then some (.next (set ρ i v)) else none
noncomputable def setAll : List (Nat × SV) → Rho → Option Out
  | [], ρ => some (.next ρ)
  | (i, v) :: l, ρ => (setI i v ρ).bind fun ρ => setAll l ρ
noncomputable def ownL : PV → Option SV
  | .list xs => some (.own xs)
  | _ => none
noncomputable def evV (F : FT) (c : Addr) : UX → Rho → Option SV
  | .val x, ρ => (evE F x ρ).bind fun p => some (.val p)
  | .own x, ρ => (evE F x ρ).bind ownL
  | .hdr, _ => some (.hdr c [])
  | .dct, _ => some (.dct [])
noncomputable def evU (F : FT) (c : Addr) : List (Nat × UX) → Rho → Option (List (Nat × SV))
  | [], _ => some []
  | (i, u) :: us, ρ => (evV F c u ρ).bind fun v => (evU F c us ρ).bind fun l => some ((i, v) :: l)
noncomputable def loopW (t : Rho → Option Bool) (b : Rho → Option Out) : Nat → Rho → Option Out
  | 0, _ => none
  | n + 1, ρ => (t ρ).bind fun c => if c then (b ρ).bind fun o => (match o with | .next ρ' => loopW t b n ρ' | .ret p => some (.ret p)) else some (.next ρ)
noncomputable def loopF (t : Tgt) (b : Rho → Option Out) : List PV → Rho → Option Out
  | [], ρ => some (.next ρ)
  | p :: ps, ρ => (setT t p ρ).bind fun ρ1 => (b ρ1).bind fun o => match o with | .next ρ' => loopF t b ps ρ' | .ret p => some (.ret p)
noncomputable def intOf : SV → Option Int
  | .val (.int p) => some p
  | _ => none
noncomputable def ownOf : SV → Option (List PV)
  | .own xs => some xs
  | _ => none
noncomputable def listOf : PV → Option (List PV)
  | .list xs => some xs
  | _ => none
noncomputable def okLB (xs : List PV) : Bool := okPys xs 8 && decide (xs.length ≤ LEN)
noncomputable def setOwn (i : Nat) (xs : List PV) (ρ : Rho) : Option Out := if okLB xs then setN i (.own xs) ρ else none
noncomputable def evIdx (xs : List PV) (k b : PV) : Option (List PV) := match k, b with
  | .int (.ofNat k), .int b => (match xs[k]? with | some (.int a) => some (xs.set k (.int (a + b))) | _ => none)
  | _, _ => none
noncomputable def evDel (xs : List PV) (n : Int) : Option (List PV) := (pyIx xs.length n).bind fun j => some (xs.eraseIdx j)
noncomputable def evPopAt (xs : List PV) (k : PV) : Option (PV × List PV) := match k with
  | .int k => (pyIx xs.length k).bind fun j => (xs[j]?).bind fun v => some (v, xs.eraseIdx j)
  | _ => none
noncomputable def evIns (xs : List PV) (k v : PV) : Option (List PV) := match k with
  | .int (.ofNat k) => if k < 100000 then some (xs.take k ++ v :: xs.drop k) else none
  | _ => none
noncomputable def two? : PV → Option (PV × PV)
  | .list [p, q] => some (p, q)
  | .tup [p, q] => some (p, q)
  | _ => none
noncomputable def strong : Src → Rho → Bool
  | .one (.v i), ρ => (valOf (get ρ i)).isSome
  | _, _ => true
mutual
noncomputable def evS (F : FT) (SP : SPT) : S → Rho → Option Out
  | .assign i u, ρ => (evV F SP.c u ρ).bind fun v => setN i v ρ
  | .unpack us, ρ => (evU F SP.c us ρ).bind fun l => setAll l ρ
  | .unpackE i j x, ρ => (evE F x ρ).bind fun p => (two? p).bind fun p => setAll [(i, .val p.1), (j, .val p.2)] ρ
  | .aug i o x, ρ => (intOf (get ρ i)).bind fun p => (evO F x ρ).bind fun q => (op2 o (.int p) q).bind fun r => setN i (.val r) ρ
  | .augL i x, ρ => (ownOf (get ρ i)).bind fun xs => (evO F x ρ).bind fun q => (listOf q).bind fun ys => setOwn i (xs ++ ys) ρ
  | .augIdx i ix x, ρ => (ownOf (get ρ i)).bind fun xs => (evO F ix ρ).bind fun k => (evO F x ρ).bind fun q => (evIdx xs k q).bind fun ys => setOwn i ys ρ
  | .append i x, ρ => (ownOf (get ρ i)).bind fun xs => (evE F x ρ).bind fun p => setOwn i (xs ++ [p]) ρ
  | .insert i a x, ρ => (ownOf (get ρ i)).bind fun xs => (evO F a ρ).bind fun k => (evE F x ρ).bind fun p => (evIns xs k p).bind fun ys => setOwn i ys ρ
  | .pop i, ρ => (ownOf (get ρ i)).bind fun xs => if xs.isEmpty then none else setOwn i (xs.take (xs.length - 1)) ρ
  | .popAdd j i ix, ρ => (ownOf (get ρ j)).bind fun ys => (ownOf (get ρ i)).bind fun xs => (evO F ix ρ).bind fun k => (evPopAt xs k).bind fun r =>
      if i = j then none else (setI i (.own r.2) ρ).bind fun ρ => setOwn j (ys ++ [r.1]) ρ
  | .del i n, ρ => (ownOf (get ρ i)).bind fun xs => (evDel xs n).bind fun ys => setOwn i ys ρ
  | .ret x, ρ => (evO F x ρ).bind fun p => some (.ret p)
  | .if_ t a b, ρ => (evT F t ρ).bind fun c => if c then evSs F SP a ρ else evSs F SP b ρ
  | .while_ n t b, ρ => loopW (evT F t) (evSs F SP b) n ρ
  | .for_ t src b, ρ => if strong src ρ then (evSrc F src ρ).bind fun items => loopF t (evSs F SP b) items ρ else none
  | .freeze i, ρ => (ownOf (get ρ i)).bind fun xs => setN i (.val (.list xs)) ρ
  | .assert_ t, ρ => (evT F t ρ).bind fun c => if c then some (.next ρ) else none
  | .sp n, ρ => SP.f n F ρ
noncomputable def evSs (F : FT) (SP : SPT) : Ss → Rho → Option Out
  | .nil, ρ => some (.next ρ)
  | .cons s ss, ρ => (evS F SP s ρ).bind fun o => match o with | .next ρ' => evSs F SP ss ρ' | .ret p => some (.ret p)
end
noncomputable def andThen (o : Option Out) (f : Rho → Option Out) : Option Out := o.bind fun o => match o with | .next ρ' => f ρ' | .ret p => some (.ret p)
section
variable {prog : Program} {w : World} {A : Around} {s : Shared} {a : Addr} {vs : List Value} {v : Value}
noncomputable abbrev Mut (a : Addr) (vs : List Value) (s s' : Shared) : Prop := (IsL s'.heap.get? "list" a vs) ∧ (Step (· = a) s s')
section
variable {a_ b_ c_ d_} (x_ : Mut a_ b_ c_ d_)
def Mut.l := x_.1
def Mut.st := x_.2
end
theorem getMethod_lst {c : Cx} {m : Str} {id : String} {pl : Sem Bool} {Q : Value × List Value → Shared → Prop} (hl : IsL s.heap.get? "list" a vs) (slot : Slot "list" m id) (ty : typeOf (.builtin id) = pure (.type "method_descriptor"))
    (h : Q (.builtin id, [.ref a]) s) : c.WP (getMethod (.ref a) m pl) Q s := by
  obtain ⟨n, ho⟩ := hl
  have hT : s.TypeIs (.ref a) "list" := ⟨_, ho, rfl⟩
  unfold getMethod
  refine wpAny_bind (wpAny_specialOf hT list_getattribute ?_)
  show c.WP (if (Manifest.canonical "list.__getattribute__" != "object.__getattribute__") = true then _ else _) Q s
  rw [canon_list_getattribute, if_neg Bool.false_ne_true]
  exact wpAny_bind (wpAny_specialOf hT list_getattr_none (wpAny_bind (wpAny_specialOf hT slot.lookup (wpAny_bind (wpAny_of_eq ty (wpAny_bind (wpAny_load ho (wpAny_bind (wpAny_rule (wpAny_pure h))))))))))
theorem upd_mut {n : Nat} {ws : List Value} (ho : s.heap.get? a = some (lObj "list" vs n)) (f : Array Value → Array Value) (h : (f vs.toArray).toList = ws) : Mut a ws s { s with heap := s.heap.update a (Obj.mapSeq f) } := by
  subst h
  refine ⟨⟨if (f vs.toArray).size == vs.toArray.size then n else n + 1, (Heap.get?_update_self _ ho rfl).trans ?_⟩, Step.heap fun b o e hb => (Heap.get?_update_other _ _ (Ne.symm hb)).trans e⟩
  rw [lObj, Array.toArray_toList]; rfl
theorem line_le (hz : vs.length ≤ LEN) : vs.toArray.size ≤ sizeLine := Nat.le_trans (Nat.le_of_eq (List.size_toArray ..)) (len_line hz)
theorem append_mut (hl : IsL s.heap.get? "list" a vs) (hz : vs.length ≤ LEN) : WP prog w A (call (.builtin "list.append") [.ref a, v]) (fun r s' => r = .none ∧ Mut a (vs ++ [v]) s s') s := by
  obtain ⟨n, ho⟩ := hl
  refine wpAny_list_append_plain (items := vs.toArray) ⟨n, ho⟩ (fun h' hp hs => ⟨rfl, ?_, Step.sameBut (tk := s.toks) hs rfl⟩) (line_le hz)
  obtain ⟨m, e⟩ := hp
  exact ⟨m, e.trans (by rw [List.push_toArray]; rfl)⟩
theorem fits_small {j : Int} (h2 : j < 100000000 ∧ -100000000 < j) : Builtin.List.listFitsIndex j = true := by
  unfold Builtin.List.listFitsIndex
  rw [Bool.and_eq_true, decide_eq_true_eq, decide_eq_true_eq]
  lia
theorem nb {b : Bool} (h : b = true) : ¬(!b) = true := by subst h; exact Bool.false_ne_true
theorem erase_list {j : Nat} (hlt : j < vs.length) : (vs.toArray.eraseIdxIfInBounds j).toList = vs.eraseIdx j := by
  unfold Array.eraseIdxIfInBounds
  rw [dif_pos (show j < vs.toArray.size from hlt), Array.toList_eraseIdx]
theorem ix_small {n k : Nat} {i : Int} (h : pyIx n i = some k) (hn : n ≤ LEN) : k < n ∧ Builtin.List.listFitsIndex i = true := by
  have ⟨h1, _, h3⟩ := ix_fits h hn
  have hn' : (n : Int) ≤ 100000 := Int.ofNat_le.mpr hn
  rcases h3 with ⟨a, b⟩ | ⟨a, b, _⟩
  · exact ⟨h1, fits_small ⟨Int.lt_of_lt_of_le ((Int.toNat_lt a).mp (b ▸ h1)) (Int.le_trans hn' (by decide)), Int.lt_of_lt_of_le (by decide) a⟩⟩
  · exact ⟨h1, fits_small ⟨Int.lt_trans a (by decide), Int.lt_of_lt_of_le (Int.lt_of_lt_of_le (by decide) (Int.neg_le_neg hn')) b⟩⟩
theorem popAt_mut {k : Int} {t : Tok} {j : Nat} (hl : IsL s.heap.get? "list" a vs) (hz : vs.length ≤ LEN) (hj : pyIx vs.length k = some j) (hv : vs[j]? = some v) :
    WP prog w A (call (.builtin "list.pop") [.ref a, .int k t]) (fun r s' => r = v ∧ Mut a (vs.eraseIdx j) s s') s := by
  obtain ⟨n, ho⟩ := hl
  have hk := ix_small hj hz
  exact call_meets F.slot_list_pop ⟨_, ho, rfl⟩ F.entry_list_pop (F.args_list_pop_2 _ _) (MeetsSeq.list_pop_at a vs.toArray n k t j v hk.2 (by rw [List.size_toArray]; exact hj) (List.getElem?_toArray.trans hv) (line_le hz)) ⟨ho, rfl, upd_mut ho (fun xs => xs.eraseIdxIfInBounds j) (erase_list hk.1)⟩
theorem del_mut {k : Int} {t : Tok} {j : Nat} (hl : IsL s.heap.get? "list" a vs) (hz : vs.length ≤ LEN) (hj : pyIx vs.length k = some j) : WP prog w A (delItem (.ref a) (.int k t)) (fun zz s' => Mut a (vs.eraseIdx j) s s') s := by
  obtain ⟨n, ho⟩ := hl
  have hk := ix_small hj hz
  exact P.delItem_list (n := n) ho hk.2 (by rw [List.size_toArray]; exact hj) (upd_mut ho (fun xs => xs.eraseIdxIfInBounds j) (erase_list hk.1)) (line_le hz)
theorem set_mut {k : Int} {j : Nat} {t : Tok} (e : k = j) (hl : IsL s.heap.get? "list" a vs) (hj : j < vs.length) (hz : vs.length ≤ LEN) : WP prog w A (setItem (.ref a) (.int k t) v) (fun zz s' => Mut a (vs.set j v) s s') s := by
  obtain ⟨n, ho⟩ := hl
  have hT : s.TypeIs (.ref a) "list" := ⟨_, ho, rfl⟩
  unfold setItem
  refine wpAny_holding (wpAny_bind (wpAny_sequenceKey hT (by decide) ?_))
  refine wpAny_bind (wpAny_callSpecial?_slot (name := Str.ofString "__setitem__") hT slot_list_setitem
    (wpAny_call_entry slot_list_setitem hT entry_list_setitem ?_ (args_list_setitem _ _ _)))
  show wpAny _ _ (Builtin.List.listSubscript? (.int k t) >>= _) _ _ s
  refine wpAny_bind (wpAny_listSubscript_int (e ▸ fitsIndex_of (Int.natCast_nonneg j) (len_63 (Nat.le_trans (Nat.le_of_lt hj) hz))) ?_)
  subst e
  show wpAny _ _ ((seqItemAt a j >>= fun r => pure (r.map (j, ·))) >>= _) _ _ s
  refine wpAny_bind (wpAny_bind (wpAny_seqItemAt ho rfl (wpAny_pure ?_)))
  rw [show vs.toArray[j]? = some vs[j] from List.getElem?_toArray.trans (List.getElem?_eq_getElem hj)]
  show wpAny _ _ (setSeqItemAt a j v >>= _) _ _ s
  have hfin' : Mut a (vs.set j v) s { s with heap := s.heap.update a (Obj.mapSeq (·.setIfInBounds j v)) } := upd_mut ho (fun xs => xs.setIfInBounds j v) (by rw [Array.toList_setIfInBounds])
  exact wpAny_bind (wpAny_setSeqItemAt ho rfl (wpAny_pure ⟨.none, rfl, wpAny_pure hfin'⟩))
theorem iadd_mut {b : Addr} {ws : List Value} (hl : IsL s.heap.get? "list" a vs) (hb : IsL s.heap.get? "list" b ws) (hz : vs.length + ws.length ≤ LEN) :
    WP prog w A (inplaceOp .Add (.ref a) (.ref b)) (fun r s' => r = .ref a ∧ Mut a (vs ++ ws) s s') s := by
  obtain ⟨n, ho⟩ := hl
  obtain ⟨m, hm⟩ := hb
  have ha : s.TypeIs (.ref a) "list" := ⟨_, ho, rfl⟩
  have hb : s.TypeIs (.ref b) "list" := ⟨_, hm, rfl⟩
  unfold inplaceOp
  refine wpAny_holding ?_
  have hfi : fillsInplaceSlot (.type "list") "add" (Operator.Add == .Add) = pure false := by
    unfold fillsInplaceSlot
    show (typeLookup (.type "list") (dunderI "add") >>= fun fi => pure (fi.isSome && !isSeqSlot fi)) = pure false
    rw [F.slot_list_iadd.lookup]
    show (pure _ : Sem Bool) = pure false
    congr 1
  have hsi : seqSlot? (.type "list") (dunderI "add") = pure (some (.builtin "list.__iadd__")) := PySem.seqSlot_of F.slot_list_iadd.lookup (by decide +kernel)
  refine wpAny_bind (wpAny_typeOf ha (wpAny_bind (wpAny_of_eq hfi ?_)))
  show wpAny _ A (if false = true then _ else _) _ _ s
  rw [if_neg Bool.false_ne_true]
  refine wpAny_bind (wpAny_binaryOp1_none (nm := "add") ha hb noFill_list_add (wpAny_bind (wpAny_of_eq hsi (wpAny_bind (wpAny_rule ?_)))))
  refine (call_meets F.slot_list_iadd ha F.entry_list_iadd (F.args_list_iadd_2 _ _) (AutoSeq1.list___iadd___list_list_0 a vs.toArray n b ws.toArray m ?_ (line_le (Nat.le_trans (Nat.le_add_right _ _) hz)) (Nat.le_succ_of_le (Nat.le_trans (Nat.le_of_eq (congr (congrArg HAdd.hAdd List.size_toArray) List.size_toArray)) (len_line hz)))) ⟨ho, hm, rfl, upd_mut ho (fun xs => xs ++ ws.toArray) (by rw [List.append_toArray])⟩)
  have : Builtin.List.listTooLong (vs.length + ws.length) = false := decide_eq_false (Nat.not_lt.mpr (Nat.le_trans hz (by decide)))
  rw [List.size_toArray, List.size_toArray, this, Bool.and_false]; exact Bool.false_ne_true
end
noncomputable abbrev Nw (ow ow' : Ow) (s s' : Shared) : Prop := (Step0 s s') ∧ (∀ b, ow' b = ow b ∨ s.heap.get? b = none ∧ (s'.heap.get? b).isSome = true)
section
variable {a_ b_ c_ d_} (x_ : Nw a_ b_ c_ d_)
def Nw.step := x_.1
def Nw.new := x_.2
end
section
variable {c : Cx} {ρ ρ' : Rho} {ow ow' ow'' : Ow} {s s' s'' : Shared}
theorem Nw.of (h : Step0 s s') : Nw ow ow s s' := ⟨h, fun zz => .inl rfl⟩
theorem Nw.gr (x : Nw ow ow' s s') : Gr ow ow' s s' := ⟨x.step.up, fun b => (x.new b).imp id fun h => .inr h.1⟩
theorem Nw.trans (x : Nw ow ow' s s') (y : Nw ow' ow'' s' s'') : Nw ow ow'' s s'' := ⟨x.step.trans0 y.step, fun b => (y.new b).elim (fun q => (x.new b).imp q.trans fun h => ⟨h.1, y.step.alive h.2 id⟩) fun q => .inr ⟨none_back x.step q.1, q.2⟩⟩
theorem Ok.tags (T : Ok c ρ ow s) (x : Nw ow ow' s s') : Ok c ρ ow' s' := T.move x.step.keep (fun zz h => h.elim) (fun b hb => (x.new b).elim (fun q => x.step.alive (T.live b (q ▸ hb)) id) (·.2)) (fun b h1 zz => (x.new b).resolve_right fun q => alive_not (T.live b h1) q.1) fun b hb => (x.new b).imp (·.trans hb) (·.1)
theorem SlotR.nw {w : World} {t : Tag} {sv : SV} {ov : Option Value} (x : SlotR w s.heap ow t sv ov) (n : Nw ow ow' s s') : SlotR w s'.heap ow' t sv ov := x.mono (fun a ha hl => ⟨((n.new a).resolve_right fun q => alive_not hl q.1).trans ha, fun zz e => n.step.get e⟩) n.gr.sub
theorem Nw.put {a : Addr} {t : Tag} (hs : Step0 s s') (ha : s.heap.get? a = none) (hl : (s'.heap.get? a).isSome = true) : Nw ow (ow.put a t) s s' := ⟨hs, fun b => (Classical.em (b = a)).elim (fun q => .inr (q ▸ ⟨ha, hl⟩)) fun q => .inl (Ow.put_ne _ _ q)⟩
end
inductive PS (c : Cx) (ow : Ow) (s : Shared) : Out → Flow → Shared → Prop
  | next {ρ' : Rho} {s' : Shared} (ow' : Ow) (gr : Gr ow ow' s s') (T : Ok c ρ' ow' s') : PS c ow s (.next ρ') .next s'
  | ret {p : PV} {v : Value} {s' : Shared} (ow' : Ow) (gr : Gr ow ow' s s') (r : RV (vis s'.heap ow') p v) : PS c ow s (.ret p) (.ret v) s'
theorem PS.pre {c : Cx} {ow ow1 : Ow} {s s1 s2 : Shared} {o : Out} {f : Flow} (g : Gr ow ow1 s s1) (h : PS c ow1 s1 o f s2) : PS c ow s o f s2 := by
  cases h with
  | next ow' gr T => exact .next ow' (g.trans gr) T
  | ret ow' gr r => exact .ret ow' (g.trans gr) r
noncomputable def SndS (k : KC) (SP : SPT) (x : S) (st : Stmt) : Prop := ∀ (a : At k) (out : Out), evS a.F SP x a.ρ = some out → a.c.WP (exec st a.env) (PS a.c a.ow a.s out) a.s
noncomputable def SndSs (k : KC) (SP : SPT) (x : Ss) (l : List Stmt) : Prop := ∀ (a : At k) (out : Out), evSs a.F SP x a.ρ = some out → a.c.WP (execs l a.env) (PS a.c a.ow a.s out) a.s
inductive SlotEnd (c : Cx) (ρ : Rho) (ow : Ow) (s : Shared) (t : Tag) (sv : SV) (v : Value) (s' : Shared) : Prop
  | mk (ow' : Ow) (nw : Nw ow ow' s s') (T : Ok c ρ ow' s') (sl : SlotR c.g.w s'.heap ow' t sv (some v))
noncomputable def SndV (k : KC) (hc : Addr) (u : UX) (i : Nat) (e : Expr) : Prop := ∀ (a : At k) (sv : SV), evV a.F hc u a.ρ = some sv → a.c.WP (eval e a.env) (SlotEnd a.c a.ρ a.ow a.s (tg a.c (.slot i)) sv) a.s
theorem setN_some {i : Nat} {sv : SV} {ρ : Rho} {o : Out} (h : setN i sv ρ = some o) : i < ρ.length ∧ o = .next (set ρ i sv) := by
  unfold setN at h
  split at h
  · exact ⟨‹_›, (Option.some.inj h).symm⟩
  · cases h
noncomputable abbrev At.to {k : KC} (a : At k) {ρ : Rho} {ow : Ow} {s : Shared} (T : Ok a.c ρ ow s) : At k := { a with ρ := ρ, ow := ow, s := s, T := T }
section
variable {k : KC} {SP : SPT} {hc : Addr} {x : X} {u : UX} {i : Nat} {y : Str} {e : Expr} {py pos np cpos : Pos} {vs : List (Nat × Str)} {cc : C} {elt : Expr} {gs : List Comprehension} {scope : Scope}
theorem vVal (h : SndE k x e) : SndV k hc (.val x) i e := fun a sv he => by
  obtain ⟨p, h1, h2⟩ := bindE he
  cases h2
  exact (h a p h1).mono fun v s r => ⟨a.ow, .of r.1, a.T.step r.1, .val r.2⟩
theorem ownL_some {p : PV} {sv : SV} (h : ownL p = some sv) : ∃ xs, p = .list xs ∧ sv = .own xs := by cases p <;> cases h; exact ⟨_, rfl, rfl⟩
theorem vOwn (h : SndF k x e) : SndV k hc (.own x) i e := fun a sv he => by
  obtain ⟨p, h1, h2⟩ := bindE he
  obtain ⟨xs, rfl, rfl⟩ := ownL_some h2
  refine (h a xs h1).mono fun v s r => ?_
  obtain ⟨st, ok, ad, vs, rfl, h0, l, rv⟩ := r
  have n : Nw a.ow (a.ow.put ad (tg a.c (.slot i))) a.s s := .put st h0 (isL_live l)
  exact ⟨_, n, a.T.tags n, .own (Ow.put_at ..) ok l (rv.mono (Sub.less fun b hb => (Classical.em (b = ad)).elim (fun q => absurd hb (by rw [q, Ow.put_at]; exact fun h => nomatch h)) fun q => (Ow.put_ne _ _ q).trans (put_free (t := .ext) (fun h => nomatch h) hb)))⟩
theorem At.low (a : At k) (hh : k.hd = some hc) : (a.s.heap.objs.size == sysModules) = false := by
  obtain ⟨K, _, _, ⟨f, m, _⟩, _⟩ := (a.D.hw hc (by rw [a.hk]; exact hh)).K
  obtain ⟨o, _, ho, _⟩ := m.ob
  obtain ⟨_, hn, _⟩ := a.T.body
  have h1 := Heap.lt_size (a.T.top f o ho)
  have h2 := hn.lt
  have h3 : f ≠ a.env.locals := fun q => not_none (q ▸ ho) (a.T.old _ (by rw [a.T.loc]; exact fun h => nomatch h))
  generalize a.s.heap.objs.size = n at h1 h2
  generalize a.env.locals = L at h2 h3
  refine beq_eq_false_iff_ne.mpr fun (q : n = 1) => ?_
  subst q
  exact h3 ((Nat.lt_one_iff.mp h1).trans (Nat.lt_one_iff.mp h2).symm)
theorem vHdr (hg : G' k "Headers") (hh : k.hd = some hc) : SndV k hc .hdr i (.Call (.Name "Headers" np) [] [] pos) := fun a sv he => by
  cases he
  have H := a.D.hw hc (by rw [a.hk]; exact hh)
  obtain ⟨K, hK, hk, -⟩ := H.K
  show a.c.WP (do callWith pos (← eval (.Name "Headers" np) a.env) [] (backTo pos (starEach [] a.env)) []) _ a.s
  refine wpAny_bind (eval_global a.D.toRd0 a.T.top (by rw [a.hk]; exact hg) H.cls (callWith_K0 (hK.X.keeps a.T.top) hk ?_))
  refine (H.made a.c.A a.s (a.D.R.le (Nat.le_succ _)) a.T.top).mono fun v s r => ?_
  obtain ⟨x, d, l, rfl, h0, st, HD, hl⟩ := r
  obtain ⟨_, _, _, ed⟩ := HD.dict
  let ow' : Ow := fun b => if b = x ∨ b = d ∨ b = l then tg a.c (.slot i) else a.ow b
  have n : Nw a.ow ow' a.s s := ⟨st, fun b => (Classical.em (b = x ∨ b = d ∨ b = l)).elim (fun q => .inr ⟨h0 b q, q.elim (· ▸ isSome_of HD.inst) fun q => q.elim (· ▸ isSome_of ed) (· ▸ isL_live hl)⟩) fun q => .inl (if_neg q)⟩
  exact ⟨ow', n, a.T.tags n, .hdr (if_pos (.inl rfl)) (if_pos (.inr (.inl rfl))) (if_pos (.inr (.inr rfl))) HD ⟨rfl, Nat.zero_le _⟩ hl rfl⟩
noncomputable def isCompE : Expr → Bool
  | .ListComp .. => true
  | .SetComp .. => true
  | .DictComp .. => true
  | _ => false
theorem swaps_not {e : Expr} {t : Expr} {line : Nat} {env : Env} (h : isCompE e = false) : swapsWith e (some t) line env = pure false := by
  cases e <;> first | rfl | cases h
theorem assign_go (n : Tn k i y) (h : SndV k SP.c u i e) (a : At k) {out : Out} (he : evS a.F SP (.assign i u) a.ρ = some out) (hs : swapsWith e (some (.Name y py)) pos.line a.env = pure false) : a.c.WP (exec (.Assign [.Name y py] e pos) a.env) (PS a.c a.ow a.s out) a.s := by
  obtain ⟨sv, h1, h2⟩ := bindE he
  obtain ⟨hi, rfl⟩ := setN_some h2
  refine wpAny_Assign_Name ((h a sv h1).mono fun v s₁ r => ?_) hs
  obtain ⟨ow', nw, T, sl⟩ := r
  exact (n.store (a.to T) sl).mono fun zz s₂ r2 => .next ow' (nw.gr.trans r2.2.gr) r2.1
theorem sAssign (n : Tn k i y) (h : SndV k SP.c u i e) (hn : isCompE e = false) : SndS k SP (.assign i u) (.Assign [.Name y py] e pos) := fun a zz he => assign_go n h a he (swaps_not hn)
theorem used_go (n : Tn k i y) (h : SndComp false k vs cc elt gs scope) (a : At k) {l : List PV} {sv : SV} (he : evC a.F cc (unsetV vs a.ρ) = some l) (ok : okL l) (hsv : sv = .val (.list l) ∨ sv = .own l) (hsw : swapsWith (.ListComp elt gs scope cpos) (some (.Name y py)) pos.line a.env = pure true) :
    a.c.WP (exec (.Assign [.Name y py] (.ListComp elt gs scope cpos) pos) a.env) (PS a.c a.ow a.s (.next (set a.ρ i sv))) a.s := by
  rw [exec_Assign_Name_used _ _ _ _ hsw]
  refine wpAny_bind (wpAny_standAt (wpAny_bind ?_))
  show a.c.WP (do let _ ← comprehension (.ListComp elt gs scope cpos) scope a.env _ (newList []) (firstAsync gs) (firstIter gs a.env) (some (assign (.Name y py) a.env))) _ a.s
  refine wpAny_bind (WP.mono (h a l he ⟨ok.2, fun q => nomatch q⟩ cpos _ _ (fun zz s' => PS a.c a.ow a.s (.next (set a.ρ i sv)) .next s') fun C D s' x => ?_) fun zz s' hq => wpAny_pure (wpAny_pure hq))
  obtain ⟨m, hm⟩ := x.ns
  obtain ⟨vs', lD, rD⟩ := x.fin
  show a.c.WP (assign (.Name y py) a.env (.ref D)) (fun zz s'' => ∃ m, s''.heap.Ns C m ∧ ∀ h', Heap.SameBut C s''.heap h' → PS a.c a.ow a.s (.next (set a.ρ i sv)) .next { s'' with heap := h' }) s'
  suffices key : ∀ t : Tag, SlotR a.c.g.w s'.heap ((a.ow.put D t).put C .aux) (tg a.c (.slot i)) sv (some (.ref D)) → a.c.WP (assign (.Name y py) a.env (.ref D)) (fun zz s'' => ∃ m, s''.heap.Ns C m ∧ ∀ h', Heap.SameBut C s''.heap h' → PS a.c a.ow a.s (.next (set a.ρ i sv)) .next { s'' with heap := h' }) s' by
    have sub : ∀ t, Sub (vis s'.heap ((a.ow.put D .ext).put C .ext)) (vis s'.heap ((a.ow.put D t).put C .aux)) := fun t => Sub.less fun b hb => by
      have nC : b ≠ C := fun q => by rw [q, Ow.put_at] at hb; cases hb
      rw [Ow.put_ne _ _ nC] at hb ⊢
      have nD : b ≠ D := fun q => by rw [q, Ow.put_at] at hb; cases hb
      rwa [Ow.put_ne _ _ nD] at hb ⊢
    rcases hsv with rfl | rfl
    · exact key .free (.val ⟨ok, D, vs', rfl, lD.vis (by rw [Ow.put_ne _ _ x.cd, Ow.put_at]), rD.mono (sub _)⟩)
    · exact key (tg a.c (.slot i)) (.own (by rw [Ow.put_ne _ _ x.cd, Ow.put_at]) ok lD (rD.mono (sub _)))
  intro t sl
  have new : ∀ (t' : Tag) b, ((a.ow.put D t).put C t') b = a.ow b ∨ b = C ∨ b = D := fun t' b => (Classical.em (b = C)).elim (.inr ∘ .inl) fun q => (Classical.em (b = D)).elim (.inr ∘ .inr) fun q' => .inl ((Ow.put_ne _ _ q).trans (Ow.put_ne _ _ q'))
  have n0 : ∀ {b}, b = C ∨ b = D → a.s.heap.get? b = none := fun h => h.elim (· ▸ x.c0) (· ▸ x.d0)
  have n1 : Nw a.ow ((a.ow.put D t).put C .aux) a.s s' := ⟨x.st, fun b => (new .aux b).imp id fun h => ⟨n0 h, h.elim (· ▸ ns_live hm) (· ▸ isL_live lD)⟩⟩
  refine wpAny_assign_Name ((n.store (a.to (a.T.tags n1)) sl).mono fun zz s'' h2 => ⟨m, Ns_keep hm fun o e => h2.2.keep _ o e fun q => ?_, fun h' hsb => ?_⟩)
  · have := q.1
    dsimp only at this
    rw [Ow.put_at] at this
    exact this
  · have hs3 : Step (· = C) s'' { s'' with heap := h' } := Step.heap fun b o e hb => hsb.extBut b o hb e
    refine .next ((a.ow.put D t).put C .free) ⟨(x.st.up.trans h2.2 fun b hb => ?_).trans hs3 fun b q => .inr (q ▸ x.c0), fun b => (new .free b).imp id fun h => .inr (n0 h)⟩ (h2.1.move hs3.keep (fun b q => .inl (q ▸ Ow.put_at ..)) (fun b hb => ?_) (fun b zz h2 => ?_) fun b hb => ?_)
    · exact (new .aux b).elim (fun q => .inl (q ▸ hb.1)) fun q => .inr (n0 q)
    · have nC : b ≠ C := fun q => by rw [q, Ow.put_at] at hb; exact hb rfl
      exact hs3.alive (h2.1.live b (by rw [Ow.put_ne _ _ nC] at hb; dsimp only; rwa [Ow.put_ne _ _ nC])) nC
    · have nC : b ≠ C := fun q => by dsimp only at h2; rw [q, Ow.put_at] at h2; exact h2 rfl
      dsimp only
      rw [Ow.put_ne _ _ nC, Ow.put_ne _ _ nC]
    · have nC : b ≠ C := fun q => by dsimp only at hb; rw [q, Ow.put_at] at hb; cases hb
      dsimp only at hb
      rw [Ow.put_ne _ _ nC] at hb ⊢
      exact .inl hb
theorem sAssignC (n : Tn k i y) (h : SndComp false k vs cc elt gs scope) (hu : u = .val (.comp vs cc) ∨ u = .own (.comp vs cc)) : SndS k SP (.assign i u) (.Assign [.Name y py] (.ListComp elt gs scope cpos) pos) := fun a out he => by
  obtain ⟨b, hb⟩ : ∃ b, swapsWith (.ListComp elt gs scope cpos) (some (.Name y py)) pos.line a.env = pure b := ⟨_, rfl⟩
  cases b with
  | false => exact assign_go n (by rcases hu with rfl | rfl; exact vVal (eComp h); exact vOwn (fComp h)) a he hb
  | true =>
    obtain ⟨sv, h1, h2⟩ := bindE he
    obtain ⟨hi, rfl⟩ := setN_some h2
    have key : ∃ l, evC a.F cc (unsetV vs a.ρ) = some l ∧ okL l ∧ (sv = .val (.list l) ∨ sv = .own l) := by
      rcases hu with rfl | rfl
      · obtain ⟨p, h5, h3⟩ := bindE h1
        obtain ⟨l, h6, h4⟩ := bindE h5
        obtain ⟨rfl, ok⟩ := mkList_some h4
        cases h3
        exact ⟨l, h6, ok, .inl rfl⟩
      · obtain ⟨p, h5, h3⟩ := bindE h1
        obtain ⟨l, h6, h4⟩ := bindE h5
        obtain ⟨rfl, ok⟩ := mkList_some h4
        cases h3
        exact ⟨l, h6, ok, .inr rfl⟩
    obtain ⟨l, h1, ok, hsv⟩ := key
    exact used_go n h a h1 ok hsv hb
end
noncomputable abbrev Pe : Type := (Nat) × (Str) × (SV) × (Value)
section
variable (x_ : Pe)
noncomputable abbrev Pe.i := x_.1
noncomputable abbrev Pe.x := x_.2.1
noncomputable abbrev Pe.sv := x_.2.2.1
noncomputable abbrev Pe.v := x_.2.2.2
end
noncomputable def setL (l : List Pe) (ρ : Rho) : Rho := l.foldl (fun ρ e => set ρ e.i e.sv) ρ
theorem setAll_L : ∀ {l : List Pe} {ρ : Rho} {o : Out}, setAll (l.map fun e => (e.i, e.sv)) ρ = some o → o = .next (setL l ρ)
  | [], _, _, h => (Option.some.inj h).symm
  | e :: l, ρ, o, h => by
    obtain ⟨ρ1, h1, h2⟩ := bindE h
    unfold setI at h1
    split at h1
    · cases h1; exact setAll_L (l := l) h2
    · cases h1
theorem setL_rev {l : List Pe} (h : l.Pairwise fun a b => a.i ≠ b.i) (ρ : Rho) : setL l.reverse ρ = setL l ρ :=
  ((List.reverse_perm l).symm.foldl_eq' (f := fun (ρ : Rho) (e : Pe) => set ρ e.i e.sv) (List.Pairwise.forall_of_forall_of_flip (R := fun x y => ∀ z : Rho, set (set z x.i x.sv) y.i y.sv = set (set z y.i y.sv) x.i x.sv) (fun zz zz zz => rfl) (h.imp fun q zz => List.set_comm _ _ q) (h.imp fun q zz => List.set_comm _ _ (Ne.symm q))) ρ).symm
noncomputable def Pok (c : Cx) (h : Heap) (ow : Ow) (l : List Pe) : Prop := ∀ e ∈ l, Tn c.k e.i e.x ∧ SlotR c.g.w h ow (tg c (.slot e.i)) e.sv (some e.v)
inductive Sts (env : Env) : List (Value → Sem Unit) → List Pe → Prop
  | nil : Sts env [] []
  | asg {fs : List (Value → Sem Unit)} {l : List Pe} {e : Pe} {pos : Pos} (h : Sts env fs l) : Sts env (assign (.Name e.x pos) env :: fs) (e :: l)
  | bnd {fs : List (Value → Sem Unit)} {l : List Pe} {e : Pe} (h : Sts env fs l) : Sts env ((fun v => bindName env e.x v) :: fs) (e :: l)
theorem mn_slot {c : Cx} {ow : Ow} {b : Addr} {i : Nat} (h : ow b = tg c (.slot i)) (m : Mn c ow b) : False := by
  unfold tg at h
  split at h
  · exact m.2.2 i h
  · have := m.1; rw [h] at this; exact this
section
variable {k : KC} {SP : SPT} {hc : Addr} {x : X} {u : UX} {i j : Nat} {y z : Str} {e e' : Expr} {py pos np cpos p1 p2 p3 : Pos} {us : List (Nat × UX)} {ts es : List Expr} {ns : List Str}
theorem stores_run {fs : List (Value → Sem Unit)} {l : List Pe} (a : At k) (h : Sts a.env fs l) : ∀ {ρ : Rho} {s : Shared}, Ok a.c ρ a.ow s → Pok a.c s.heap a.ow l → a.c.WP (assignInOrder fs (l.map (·.v))) (fun zz s' => Ok a.c (setL l ρ) a.ow s' ∧ Step (Mn a.c a.ow) s s') s := by
  induction h with
  | nil => exact fun T zz => wpAny_assignInOrder_none ⟨T, Step.refl _ _⟩
  | @asg fs l e pos h ih =>
    intro ρ s T P
    obtain ⟨n, sl⟩ := P e List.mem_cons_self
    refine wpAny_assignInOrder_more (wpAny_assign_Name ((Tn.store (k := k) (a.hk ▸ n) (a.to T) sl).mono fun zz s₁ h1 => (ih h1.1 fun e' he => ⟨(P e' (List.mem_cons_of_mem _ he)).1, (P e' (List.mem_cons_of_mem _ he)).2.mono (fun b hb zz => ⟨hb, fun o eo => h1.2.keep b o eo (mn_slot hb)⟩) (Mn.sub h1.2)⟩).mono fun zz s₂ h2 => ⟨h2.1, h1.2.trans0 h2.2⟩))
  | @bnd fs l e h ih =>
    intro ρ s T P
    obtain ⟨n, sl⟩ := P e List.mem_cons_self
    refine wpAny_assignInOrder_more (wpAny_bindName ((Tn.store (k := k) (a.hk ▸ n) (a.to T) sl).mono fun zz s₁ h1 => (ih h1.1 fun e' he => ⟨(P e' (List.mem_cons_of_mem _ he)).1, (P e' (List.mem_cons_of_mem _ he)).2.mono (fun b hb zz => ⟨hb, fun o eo => h1.2.keep b o eo (mn_slot hb)⟩) (Mn.sub h1.2)⟩).mono fun zz s₂ h2 => ⟨h2.1, h1.2.trans0 h2.2⟩))
theorem binds_sts {env : Env} : ∀ l : List Pe, Sts env (l.map fun e v => bindName env e.x v) l
  | [] => .nil
  | _ :: l => .bnd (binds_sts l)
inductive NmT : List Expr → List Str → Prop
  | nil : NmT [] []
  | cons {x : Str} {pos : Pos} {ts : List Expr} {ns : List Str} (h : NmT ts ns) : NmT (.Name x pos :: ts) (x :: ns)
noncomputable abbrev NmE (env : Env) (ts : List Expr) (ns : List Str) : Prop := ((assignEach ts env).length = ns.length) ∧ ((assignEach ts env).findIdx? (·.1) = none) ∧ (ts.length = ns.length) ∧ (∀ l : List Pe, l.map (·.x) = ns → Sts env ((assignEach ts env).map (·.2)) l)
section
variable {a_ b_ c_} (x_ : NmE a_ b_ c_)
def NmE.len := x_.1
def NmE.find := x_.2.1
def NmE.tl := x_.2.2.1
def NmE.sts := x_.2.2.2
end
theorem NmT.each {env : Env} (h : NmT ts ns) : NmE env ts ns := by
  induction h with
  | nil => exact ⟨rfl, rfl, rfl, fun l hl => by cases l with | nil => exact .nil | cons => cases hl⟩
  | @cons x pos ts ns h ih =>
    refine ⟨congrArg (· + 1) ih.len, ?_, congrArg (· + 1) ih.tl, fun l hl => ?_⟩
    · show List.findIdx? (·.1) ((false, assign (.Name x pos) env) :: assignEach ts env) = none
      rw [List.findIdx?_cons, ih.find]; rfl
    · cases l with
      | nil => cases hl
      | cons e l =>
        have := (List.cons.inj hl)
        obtain ⟨rfl, h2⟩ := this
        exact .asg (ih.sts l h2)
theorem NmT.names {f : Expr → Option Str} (hf : ∀ x pos y, f (.Name x pos) = some y → y = x) (h : NmT ts ns) : (ts.filterMap f).length = ts.length → ts.filterMap f = ns := by
  induction h with
  | nil => exact fun zz => rfl
  | @cons x pos ts ns h ih =>
    intro hl
    rw [List.filterMap_cons] at hl ⊢
    cases q : f (.Name x pos) with
    | none =>
      rw [q] at hl
      exact absurd (Nat.le_trans (Nat.le_of_eq hl.symm) (List.length_filterMap_le f ts)) (Nat.not_succ_le_self _)
    | some y =>
      rw [q] at hl
      dsimp only at hl ⊢
      rw [ih (Nat.succ.inj hl), hf x pos y q]
set_option tactic.hygienic true in
theorem swapped_cases {n m : Nat} {env : Env} (ht : NmT ts ns) (hc : es.all (constantsAlone 8) = false) : ∃ r, swappedStores [.Tuple ts n p1] (.Tuple es m p2) env = pure r ∧ (r = none ∨ r = some ns) := by
  unfold swappedStores
  dsimp only
  split
  · exact ⟨none, rfl, .inl rfl⟩
  · split
    · exact ⟨none, rfl, .inl rfl⟩
    · generalize hnm : ts.filterMap _ = names
      split
      · exact ⟨none, rfl, .inl rfl⟩
      · rename_i hlen
        split
        · exact ⟨none, rfl, .inl rfl⟩
        · rw [hc]
          refine ⟨some names, rfl, .inr ?_⟩
          have hl : names.length = ts.length := Classical.byContradiction fun q => hlen (by rw [Bool.or_eq_true, bne_iff_ne]; exact .inl q)
          subst hnm
          refine congrArg some (ht.names (fun x pos y h => ?_) hl)
          dsimp only at h
          split at h
          · cases h; rfl
          · cases h
structure Wait (a : At k) (svs : List (Nat × SV)) (ns : List Str) (ow' : Ow) (l : List Pe) (s' : Shared) : Prop where
  nw : Nw a.ow ow' a.s s'
  ok : Pok a.c s'.heap ow' l
  x : l.map (·.x) = ns
  sv : (l.map fun e => (e.i, e.sv)) = svs
theorem Wait.step {a : At k} {svs : List (Nat × SV)} {ow' : Ow} {l : List Pe} {s' s'' : Shared} (W : Wait a svs ns ow' l s') (h : Step0 s' s'') : Wait a svs ns ow' l s'' :=
  ⟨W.nw.trans (.of h), fun e he => ⟨(W.ok e he).1, (W.ok e he).2.nw (.of h)⟩, W.x, W.sv⟩
noncomputable def SndU (k : KC) (hc : Addr) (us : List (Nat × UX)) (ns : List Str) (es : List Expr) : Prop := ∀ (a : At k) (pos : Pos) (svs : List (Nat × SV)), evU a.F hc us a.ρ = some svs → a.c.WP (spliced (backTo pos (starEach es a.env))) (fun vs s' => ∃ ow' l, Wait a svs ns ow' l s' ∧ l.map (·.v) = vs) a.s
theorem uNil : SndU k hc [] [] [] := fun a pos svs h => by cases h; exact args_nil ⟨a.ow, [], ⟨.of (Step.refl _ _), (fun zz h => nomatch h), rfl, rfl⟩, rfl⟩
theorem uCons (n : Tn k i y) (hp : plainE e = true) (h : SndV k hc u i e) (hs : SndU k hc us ns es) : SndU k hc ((i, u) :: us) (y :: ns) (e :: es) := fun a pos svs he => by
  obtain ⟨sv, h1, he⟩ := bindE he
  obtain ⟨l, h2, he⟩ := bindE he
  cases he
  refine args_cons ((h a sv h1).mono fun v s₁ r => ?_) (starEach_plain hp _ _)
  obtain ⟨ow', nw, T, sl⟩ := r
  refine (hs (a.to T) pos l h2).mono fun vs s₂ r => ?_
  obtain ⟨ow2, l2, W, rfl⟩ := r
  refine ⟨ow2, ⟨i, y, sv, v⟩ :: l2, ⟨nw.trans W.nw, fun e he => ?_, congrArg (y :: ·) W.x, congrArg ((i, sv) :: ·) W.sv⟩, rfl⟩
  rcases List.mem_cons.mp he with rfl | he
  · exact ⟨by rw [a.hk]; exact n, sl.nw W.nw⟩
  · exact W.ok e he
theorem Wait.stores {a : At k} {svs : List (Nat × SV)} {ow' : Ow} {l : List Pe} {s' : Shared} {fs : List (Value → Sem Unit)} {out : Out} (W : Wait a svs ns ow' l s') (hf : Sts a.env fs l) {l' : List Pe} (hl : out = .next (setL l a.ρ)) : a.c.WP (assignInOrder fs (l.map (·.v))) (fun zz => PS a.c a.ow a.s out .next) s' := by
  subst hl
  exact (stores_run (a.to (a.T.tags W.nw)) hf (a.T.tags W.nw) W.ok).mono fun zz s'' h => .next ow' (W.nw.gr.trans h.2.gr) h.1
theorem Wait.rev {a : At k} {svs : List (Nat × SV)} {ow' : Ow} {l : List Pe} {s' : Shared} (W : Wait a svs ns ow' l s') : Wait a svs.reverse ns.reverse ow' l.reverse s' :=
  ⟨W.nw, fun e he => W.ok e (List.mem_reverse.mp he), by rw [List.map_reverse, W.x], by rw [List.map_reverse, W.sv]⟩
theorem evU_fst {F : FT} {ρ : Rho} : ∀ {us : List (Nat × UX)} {svs : List (Nat × SV)}, evU F hc us ρ = some svs → svs.map (·.1) = us.map (·.1)
  | [], _, h => by cases h; rfl
  | (i, u) :: us, _, h => by
    obtain ⟨sv, h1, h⟩ := bindE h
    obtain ⟨l, h2, h⟩ := bindE h
    cases h
    exact congrArg (i :: ·) (evU_fst h2)
theorem sUnpack {n m : Nat} (h : SndU k SP.c us ns es) (ht : NmT ts ns) (hc : es.all (constantsAlone 8) = false) (hz : ts.length ≤ 100) (hd : (us.map (·.1)).Pairwise (· ≠ ·)) : SndS k SP (.unpack us) (.Assign [.Tuple ts n p1] (.Tuple es m p2) pos) := fun a out he => by
  obtain ⟨svs, h1, h2⟩ := bindE he
  have E := ht.each (env := a.env)
  rw [exec_Assign_arm]
  refine wpAny_bind (wpAny_standAt ?_)
  rw [show swapsWithSole [.Tuple ts n p1] (.Tuple es m p2) pos.line a.env = pure false from rfl]
  refine wpAny_bind (wpAny_pure ?_)
  rw [if_neg Bool.false_ne_true]
  refine wpAny_bind (wpAny_Tuple ((h a p2 svs h1).mono fun vs s₁ r => ?_))
  obtain ⟨ow', l, W, rfl⟩ := r
  have hlen : l.length = ns.length := by rw [← W.x, List.length_map]
  have ho := setAll_L (l := l) (by rw [W.sv]; exact h2)
  refine ⟨by rw [List.length_map, hlen, ← E.tl]; exact Nat.le_trans hz (by decide), ?_⟩
  obtain ⟨rr, hr, hrr⟩ := swapped_cases (env := a.env) (n := n) (m := m) (p1 := p1) (p2 := p2) ht hc
  rw [hr]
  refine wpAny_bind (wpAny_pure ?_)
  have W1 := W.step (Step.push (o := { cls := .type "tuple", data := .seq (l.map (·.v)).toArray }))
  have htup : Heap.IsTuple (s₁.heap.push { cls := .type "tuple", data := .seq (l.map (·.v)).toArray }) s₁.heap.objs.size (l.map (·.v)).toArray := ⟨_, Heap.get?_push_size _ rfl, rfl, 0, rfl⟩
  have st : ∀ {h' : Heap}, (∀ b o, b ≠ (s₁.heap.push { cls := .type "tuple", data := .seq (l.map (·.v)).toArray }).objs.size → Heap.get? (s₁.heap.push { cls := .type "tuple", data := .seq (l.map (·.v)).toArray }) b = some o → h'.get? b = some o) → Step0 { s₁ with heap := s₁.heap.push { cls := .type "tuple", data := .seq (l.map (·.v)).toArray } } { s₁ with heap := h' } := fun he => Step.heap fun b o e zz => he b o (Nat.ne_of_lt (Heap.lt_size e)) e
  rcases hrr with rfl | rfl
  · show a.c.WP (do assignAll (.ref s₁.heap.objs.size) ((assignEach [.Tuple ts n p1] a.env).map (·.2)); pure Flow.next) _ _
    refine wpAny_bind ?_
    show a.c.WP (assign (.Tuple ts n p1) a.env (.ref s₁.heap.objs.size)) _ _
    refine wpAny_assign_Tuple a.hh htup (by rw [E.len, List.size_toArray, List.length_map, hlen]) E.find fun h' he => ?_
    exact ((W1.step (st he)).stores (l' := l) (E.sts l W.x) ho).mono fun zz zz h => wpAny_pure h
  · show a.c.WP (do rule "assign.swapped-stores"; let items ← unpackItems (.ref s₁.heap.objs.size) ns.length none; assignInOrder (ns.reverse.map fun n => bindName a.env n) items.reverse; pure Flow.next) _ _
    refine wpAny_bind (wpAny_rule (wpAny_bind ?_))
    rw [show ns.length = (l.map (·.v)).toArray.size by rw [List.size_toArray, List.length_map, hlen]]
    refine wpAny_unpackItems_tuple a.hh htup fun h' he => wpAny_bind ?_
    have e2 : ns.reverse.map (fun n => bindName a.env n) = l.reverse.map fun e v => bindName a.env e.x v := by rw [← W.x, ← List.map_reverse, List.map_map]; rfl
    rw [e2, show (l.map (·.v)).toArray.toList.reverse = l.reverse.map (·.v) from (List.map_reverse ..).symm]
    refine (((W1.step (st he)).rev).stores (l' := l) (binds_sts l.reverse) (ho.trans (congrArg Out.next (setL_rev ?_ a.ρ).symm))).mono fun zz zz h => wpAny_pure h
    have := hd
    rw [← evU_fst h1, ← W.sv, List.map_map, List.pairwise_map] at this
    exact this
end
noncomputable abbrev Hold (c : Cx) (ρ : Rho) (ow : Ow) (s : Shared) (i : Nat) (v : Value) : Prop := (Ok c ρ ow s) ∧ (∃ m, s.heap.Ns c.env.locals m ∧ Slots c ρ ow s.heap m ∧ ∀ x, (i, x) ∈ c.k.nm → Named c m s.heap x (some v)) ∧ (SlotR c.g.w s.heap ow (tg c (.slot i)) (get ρ i) (some v))
section
variable {a_ b_ c_ d_ e_ f_} (x_ : Hold a_ b_ c_ d_ e_ f_)
def Hold.T := x_.1
def Hold.m := x_.2.1
def Hold.sl := x_.2.2
end
section
variable {c : Cx} {ρ : Rho} {ow : Ow} {s s' : Shared} {i j : Nat} {v u : Value} {x : Str} {ad : Addr} {sv : SV}
theorem Hold.of (T : Ok c ρ ow s) (N : NmOk c.k.nm) (hm : (i, x) ∈ c.k.nm) (hu : get ρ i ≠ .un) : ∃ v, Hold c ρ ow s i v := by
  obtain ⟨m, hn, hb⟩ := T.body
  obtain ⟨ov, n, sl⟩ := hb i x hm
  cases ov with
  | none =>
    generalize get ρ i = sv at hu sl
    cases sl
    exact absurd rfl hu
  | some v => exact ⟨v, T, ⟨m, hn, hb, fun y hy => N.nx i y x hy hm ▸ n⟩, sl⟩
theorem Hold.step (H : Hold c ρ ow s i v) (hs : Step0 s s') : Hold c ρ ow s' i v :=
  let ⟨m, hn, hb, hi⟩ := H.m
  ⟨H.T.step hs, ⟨m, Ns_keep hn fun zz e => hs.get e, fun j y hj => let ⟨ov, n, sl⟩ := hb j y hj; ⟨ov, n.keep fun zz zz zz e => hs.get e, sl.nw (.of hs)⟩, fun y hy => (hi y hy).keep fun zz zz zz e => hs.get e⟩, H.sl.nw (.of hs)⟩
theorem Hold.load {Q : Value → Shared → Prop} (H : Hold c ρ ow s i v) (O : EnvOk c.k.sc c.env) (hm : (i, x) ∈ c.k.nm) (h : Q v s) : c.WP (loadName c.env x) Q s := by
  obtain ⟨m, hn, hb, hi⟩ := H.m
  cases hi x hm with
  | loc k e => exact wpAny_loadName_local O.kind k hn e h
  | cel k a hc e => exact wpAny_loadName_cell O.kind k hc e h
noncomputable abbrev Chg (c : Cx) (ow : Ow) (s s' : Shared) (i : Nat) (ad : Addr) : Prop := (Step (· = ad) s s') ∧ (c.k.st = true) ∧ (ow ad = tg c (.slot i)) ∧ ((s'.heap.get? ad).isSome = true)
section
variable {a_ b_ c_ d_ e_ f_} (x_ : Chg a_ b_ c_ d_ e_ f_)
def Chg.hs := x_.1
def Chg.st := x_.2.1
def Chg.ht := x_.2.2.1
def Chg.al := x_.2.2.2
end
theorem Chg.tag (C : Chg c ow s s' i ad) : ow ad = .slot i := C.ht.trans (if_pos C.st)
theorem Chg.named {m : Str → Option Value} {y : Str} {ov : Option Value} (C : Chg c ow s s' i ad) (T : Ok c ρ ow s) (n : Named c m s.heap y ov) : Named c m s'.heap y ov := n.keep fun b hb o e => C.hs.keep b o e fun q => by
  have := T.cells y b hb
  rw [q, C.tag] at this
  exact tg_ne2 (c := c) (t := .cell y) (t' := .slot i) (fun h => nomatch h) (fun h => nomatch h) this.symm
theorem Chg.ns {m : Str → Option Value} (C : Chg c ow s s' i ad) (T : Ok c ρ ow s) (n : s.heap.Ns c.env.locals m) : s'.heap.Ns c.env.locals m := Ns_keep n fun o e => C.hs.keep _ o e fun q => by
  have := C.tag
  rw [← q, T.loc] at this
  cases this
theorem Chg.slot {sv : SV} {ov : Option Value} (C : Chg c ow s s' i ad) (hj : j ≠ i) (x : SlotR c.g.w s.heap ow (tg c (.slot j)) sv ov) : SlotR c.g.w s'.heap ow (tg c (.slot j)) sv ov := x.chg C.hs C.tag (fun h => nomatch h) (tg_ne2 (t' := .slot i) (fun h => hj (by injection h)) fun h => nomatch h)
theorem Chg.sub (C : Chg c ow s s' i ad) : Sub (vis s.heap ow) (vis s'.heap ow) := Sub.step C.hs.keep (fun b q => .inl (by rw [q, C.tag]; exact fun h => nomatch h)) fun zz => .inl
theorem Chg.slots {m : Str → Option Value} (C : Chg c ow s s' i ad) (H : Hold c ρ ow s i v) (hb : Slots c ρ ow s.heap m) (hi : ∀ x, (i, x) ∈ c.k.nm → Named c m s.heap x (some v)) (sl : SlotR c.g.w s'.heap ow (tg c (.slot i)) sv (some v)) : Slots c (set ρ i sv) ow s'.heap m := fun j y hj => by
  by_cases q : j = i
  · subst q
    exact ⟨some v, C.named H.T (hi y hj), get_set_eq.elim (· ▸ sl) fun e => e ▸ .un⟩
  · obtain ⟨ov, n, sl⟩ := hb j y hj
    exact ⟨ov, C.named H.T n, by rw [get_set_ne q]; exact C.slot q sl⟩
theorem Hold.upd (H : Hold c ρ ow s i v) (C : Chg c ow s s' i ad) (sl : SlotR c.g.w s'.heap ow (tg c (.slot i)) sv (some v)) : Ok c (set ρ i sv) ow s' ∧ Gr ow ow s s' :=
  let ⟨_, hn, hb, hi⟩ := H.m
  H.T.chg C.hs C.tag trivial C.al (C.ns H.T hn) (C.slots H hb hi sl)
theorem Ns_uniq {h : Heap} {a : Addr} {m m' : Str → Option Value} (x : h.Ns a m) (y : h.Ns a m') : ∀ n, m n = m' n := by
  obtain ⟨o, es, ep, e, d, _, f⟩ := x
  obtain ⟨o', es', ep', e', d', _, f'⟩ := y
  rw [e] at e'; cases e'
  rw [d] at d'; cases d'
  exact fun n => (f n).symm.trans (f' n)
theorem Hold.other (H : Hold c ρ ow s i v) (N : NmOk c.k.nm) (P : Hold c ρ ow s j u) (hm : (i, x) ∈ c.k.nm) (hu : get ρ j ≠ .un) (hij : j ≠ i) (C : Chg c ow s s' i ad) (sl : SlotR c.g.w s'.heap ow (tg c (.slot i)) sv (some v)) : Hold c (set ρ i sv) ow s' j u := by
  obtain ⟨m, hn, hb, hp⟩ := P.m
  refine ⟨(H.upd C sl).1, ⟨m, C.ns H.T hn, fun l y hl => ?_, fun y hy => C.named H.T (hp y hy)⟩, by rw [get_set_ne hij]; exact C.slot hij P.sl⟩
  by_cases q : l = i
  · subst q
    obtain ⟨m', hn', hb', hi'⟩ := H.m
    have e := Ns_uniq hn hn'
    obtain rfl : m = m' := funext e
    exact ⟨some v, C.named H.T (hi' y hl), get_set_eq.elim (· ▸ sl) fun e => e ▸ .un⟩
  · obtain ⟨ov, n, sl⟩ := hb l y hl
    exact ⟨ov, C.named H.T n, by rw [get_set_ne q]; exact C.slot q sl⟩
end
noncomputable abbrev OwnL (c : Cx) (ow : Ow) (s : Shared) (i : Nat) (xs : List PV) (ad : Addr) (vs : List Value) : Prop := (ow ad = tg c (.slot i)) ∧ (okL xs) ∧ (IsL s.heap.get? "list" ad vs) ∧ (RVs (vis s.heap ow) xs vs)
section
variable {a_ b_ c_ d_ e_ f_ g_} (x_ : OwnL a_ b_ c_ d_ e_ f_ g_)
def OwnL.t := x_.1
def OwnL.ok := x_.2.1
def OwnL.l := x_.2.2.1
def OwnL.r := x_.2.2.2
end
theorem OwnL.step {c : Cx} {ow : Ow} {s s' : Shared} {i : Nat} {xs : List PV} {ad : Addr} {vs : List Value} (O : OwnL c ow s i xs ad vs) (hs : Step0 s s') : OwnL c ow s' i xs ad vs := ⟨O.t, O.ok, O.l.step hs, O.r.mono (Sub.step0 hs)⟩
theorem ownOf_some {sv : SV} {xs : List PV} (h : ownOf sv = some xs) : sv = .own xs := by cases sv <;> cases h; rfl
theorem okLB_ok {xs : List PV} (h : okLB xs = true) : okL xs := have ⟨h1, h2⟩ := (Bool.and_eq_true _ _).mp h; ⟨h1, of_decide_eq_true h2⟩
theorem setOwn_some {i : Nat} {xs : List PV} {ρ : Rho} {o : Out} (h : setOwn i xs ρ = some o) : okL xs ∧ o = .next (set ρ i (.own xs)) := by
  unfold setOwn at h
  split at h
  · exact ⟨okLB_ok ‹_›, (setN_some h).2⟩
  · cases h
section
variable {k : KC} {i : Nat} {y : Str} {xs xs' : List PV}
structure No (k : KC) (i : Nat) (y : Str) : Prop extends Nm k i y where
  st : k.st = true
theorem No.tn (n : No k i y) : Tn k i y := ⟨n.m, .inr n.st⟩
theorem No.own (n : No k i y) (a : At k) (h : ownOf (get a.ρ i) = some xs) : ∃ ad vs, Hold a.c a.ρ a.ow a.s i (.ref ad) ∧ OwnL a.c a.ow a.s i xs ad vs := by
  have e := ownOf_some h
  obtain ⟨v, H⟩ := Hold.of a.T a.D.N (by rw [a.hk]; exact n.m) (fun q => by rw [e] at q; cases q)
  have sl := H.sl
  rw [e] at sl
  cases sl with
  | @own _ ad vs ta ok l r => exact ⟨ad, vs, H, ta, ok, l, r⟩
theorem No.load {pos : Pos} {v : Value} {Q : Value → Shared → Prop} (n : No k i y) (a : At k) (H : Hold a.c a.ρ a.ow a.s i v) (h : Q v a.s) : a.c.WP (eval (.Name y pos) a.env) Q a.s := Name_load n.d (H.load a.D.O (by rw [a.hk]; exact n.m) h)
theorem No.upd (n : No k i y) (a : At k) {ad : Addr} {vs vs' : List Value} {s₁ s₂ : Shared} {out : Out} (H : Hold a.c a.ρ a.ow a.s i (.ref ad)) (O : OwnL a.c a.ow a.s i xs ad vs) (hs : Step0 a.s s₁) (M : Mut ad vs' s₁ s₂) (hr : RVs (vis s₁.heap a.ow) xs' vs') (ho : setOwn i xs' a.ρ = some out) :
    PS a.c a.ow a.s out .next s₂ := by
  obtain ⟨ok, rfl⟩ := setOwn_some ho
  have C : Chg a.c a.ow s₁ s₂ i ad := ⟨M.st, by rw [a.hk]; exact n.st, O.t, isL_live M.l⟩
  have := (H.step hs).upd C (.own O.t ok M.l (hr.mono C.sub))
  exact .next a.ow ((Gr.of0 hs).trans this.2) this.1
end
noncomputable def SndAug (o : Op2) (op : Operator) : Prop := ∀ i q r, op2 o (.int i) q = some r → S2 (inplaceOp op) (.int i) q r
theorem optMap {α β : Type} {q : Prop} [Decidable q] {f : q → β} {g : β → α} {r : α} (h : Option.map g (if h : q then some (f h) else none) = some r) : ∃ h : q, g (f h) = r := by
  split at h
  · exact ⟨‹_›, Option.some.inj h⟩
  · cases h
theorem augAdd : SndAug .add .Add := fun i q r h => by
  cases q <;> cases h
  exact .ii fun zz zz zz => PySem.P.iadd_int PE.int
theorem augSub : SndAug .sub .Sub := fun i q r h => by
  cases q <;> cases h
  exact .ii fun zz zz zz => PySem.P.isub_int PE.int
theorem augDiv : SndAug .fdiv .FloorDiv := fun i q r h => by
  cases q with
  | int j =>
    obtain ⟨hs, rfl⟩ := optMap h
    exact .ii fun zz zz zz => ifloordiv_int (Int.ne_of_gt hs.1) ((fdiv_pos _ _ hs.1).symm ▸ PE.int) (Or.inl (PyProof.noPylong_small (by lia)))
  | _ => cases h
theorem getMethod_at {k : KC} {a : At k} {s : Shared} {ad : Addr} {vs : List Value} {m : Str} {id : String} {pl : Sem Bool} {Q : Value × List Value → Shared → Prop} (hl : IsL s.heap.get? "list" ad vs) (slot : Slot "list" m id) (ty : typeOf (.builtin id) = pure (.type "method_descriptor")) (h : Q (.builtin id, [.ref ad]) s) : a.c.WP (getMethod (.ref ad) m pl) Q s := getMethod_lst (c := a.c) hl slot ty h
section
variable {k : KC} {SP : SPT} {x : X} {ox oy : Opd} {o : Op2} {op : Operator} {i j : Nat} {y z : Str} {e e1 e2 ei : Expr} {npos pos apos spos tpos npos2 apos2 pos2 p1 : Pos}
theorem sAug (n : No k i y) (ho : SndAug o op) (hx : SndO k ox e) : SndS k SP (.aug i o ox) (.AugAssign (.Name y npos) op e pos) := fun a out he => by
  obtain ⟨p, h1, he⟩ := bindE he
  obtain ⟨q, h2, he⟩ := bindE he
  obtain ⟨r, h3, he⟩ := bindE he
  obtain ⟨_, rfl⟩ := setN_some he
  have e : get a.ρ i = .val (.int p) := by
    generalize get a.ρ i = sv at h1
    cases sv with
    | val w => cases w <;> cases h1; rfl
    | _ => cases h1
  refine wpAny_AugAssign_Name (a.T.load a.D.O (by rw [a.hk]; exact n.m) (by rw [e]; exact fun h => nomatch h) fun v hv => ?_)
  rw [e] at hv
  cases hv with | @val _ _ rv =>
  refine (hx a q h2).mono fun u s₁ r1 => (S2.run (ho _ _ _ h3) a r1.1 (.inl (rv.mono (Sub.step0 r1.1))) r1.2).mono fun w s₂ r2 => ?_
  exact (n.tn.store (a.step r2.1) (.val r2.2)).mono fun zz s₃ r3 => .next a.ow ((Gr.of0 r2.1).trans r3.2.gr) r3.1
theorem listOf_some {q : PV} {ys : List PV} (h : listOf q = some ys) : q = .list ys := by cases q <;> cases h; rfl
theorem sAugL (n : No k i y) (hx : SndO k ox e) : SndS k SP (.augL i ox) (.AugAssign (.Name y npos) .Add e pos) := fun a out he => by
  obtain ⟨xs, h1, he⟩ := bindE he
  obtain ⟨q, h2, he⟩ := bindE he
  obtain ⟨ys, h3, he⟩ := bindE he
  obtain rfl := listOf_some h3
  obtain ⟨ad, vs, H, O⟩ := n.own a h1
  refine wpAny_AugAssign_Name (H.load a.D.O (by rw [a.hk]; exact n.m) ((hx a _ h2).mono fun u s₁ r1 => ?_))
  obtain ⟨b, ws, oy, lb, rb⟩ := r1.2.list
  have O1 := O.step r1.1
  have ok := (setOwn_some he).1.2
  rw [List.length_append] at ok
  refine (iadd_mut O1.l lb (by rw [O1.r.length, rb.length]; exact ok)).mono fun rr s₂ r2 => ?_
  obtain ⟨rfl, M⟩ := r2
  obtain ⟨okl, rfl⟩ := setOwn_some he
  have C : Chg a.c a.ow s₁ s₂ i ad := ⟨M.st, by rw [a.hk]; exact n.st, O.t, isL_live M.l⟩
  have sl : SlotR a.c.g.w s₂.heap a.ow (tg a.c (.slot i)) (.own (xs ++ ys)) (some (.ref ad)) := .own O.t okl M.l ((O1.r.append rb).mono C.sub)
  have U := (H.step r1.1).upd C sl
  have S := n.tn.store (a.to U.1) sl
  exact S.mono fun zz s₃ r3 => .next a.ow (((Gr.of0 r1.1).trans U.2).trans r3.2.gr) (r3.1.less fun l => .inl (by
    show get (set a.ρ i _) l = get (set (set a.ρ i _) i _) l
    unfold set; rw [List.set_set]))
noncomputable def notSlice : Expr → Bool
  | .Slice .. => false
  | _ => true
theorem augStore_plain {e : Expr} (h : notSlice e = true) (ov iv new : Value) : augStore e ov iv new = (do holding [new, ov, iv] (setItem ov iv new); release [new, ov, iv] []; pure .next) := by
  cases e <;> first | rfl | cases h
theorem RVs.set' {G : GO} : ∀ {ps : List PV} {vs : List Value}, RVs G ps vs → ∀ (n : Nat) {p : PV} {v : Value}, RV G p v → RVs G (ps.set n p) (vs.set n v)
  | [], _, h, _, _, _, _ => by cases h; exact rfl
  | _ :: ps, _, h, 0, p, v, hp => by obtain ⟨v', vs', rfl, r1, r2⟩ := h; exact ⟨v, vs', rfl, hp, r2⟩
  | _ :: ps, _, h, n + 1, p, v, hp => by obtain ⟨v', vs', rfl, r1, r2⟩ := h; exact ⟨v', _, rfl, r1, r2.set' n hp⟩
theorem RVs.erase {G : GO} : ∀ {ps : List PV} {vs : List Value}, RVs G ps vs → ∀ n : Nat, RVs G (ps.eraseIdx n) (vs.eraseIdx n)
  | [], _, h, _ => by cases h; rfl
  | _ :: ps, _, h, 0 => by obtain ⟨v', vs', rfl, r1, r2⟩ := h; exact r2
  | _ :: ps, _, h, n + 1 => by obtain ⟨v', vs', rfl, r1, r2⟩ := h; exact ⟨v', _, rfl, r1, r2.erase n⟩
set_option tactic.hygienic true in
theorem evIdx_some {xs ys : List PV} {k b : PV} (h : evIdx xs k b = some ys) : ∃ (m : Nat) (a c : Int), k = .int m ∧ b = .int c ∧ xs[m]? = some (.int a) ∧ ys = xs.set m (.int (a + c)) := by
  cases k <;> try (cases h; done)
  rename_i k
  cases k <;> try (cases h; done)
  cases b <;> try (cases h; done)
  rename_i m c
  change (match xs[m]? with | some (.int a) => some (xs.set m (.int (a + c))) | _ => none) = some ys at h
  cases hx : xs[m]? with
  | none => rw [hx] at h; cases h
  | some p =>
    rw [hx] at h
    cases p <;> cases h
    exact ⟨m, _, c, rfl, rfl, hx, rfl⟩
theorem sAugIdx (n : No k i y) (hns : notSlice ei = true) (hi : SndO k ox ei) (hx : SndO k oy e) : SndS k SP (.augIdx i ox oy) (.AugAssign (.Subscript (.Name y npos) ei tpos) .Add e pos) := fun a out he => by
  obtain ⟨xs, h1, he⟩ := bindE he
  obtain ⟨q, h2, he⟩ := bindE he
  obtain ⟨r, h3, he⟩ := bindE he
  obtain ⟨ys, h4, he⟩ := bindE he
  obtain ⟨m, c, b, rfl, rfl, hc, rfl⟩ := evIdx_some h4
  obtain ⟨ad, vs, H, O⟩ := n.own a h1
  refine wpAny_AugAssign_SubscriptAny (n.load a H ((hi a _ h2).mono fun iv s₁ r1 => ?_)) (augStore_plain hns)
  obtain ⟨tj, rfl⟩ := r1.2.int
  have O1 := O.step r1.1
  obtain ⟨cv, ecv, tc, rfl⟩ := O1.r.get hc
  have hm := (List.getElem?_eq_some_iff.mp ecv).1
  have hz : vs.length ≤ LEN := Nat.le_trans (Nat.le_of_eq O1.r.length) O.ok.2
  refine wpAny_getItem_list (items := vs.toArray) (O1.l.list fun zz zz e => e) (Int.natCast_nonneg m) (len_63 (Nat.le_trans (Nat.le_of_lt hm) hz)) (x := .int c tc) (List.getElem?_toArray.trans (by rw [Int.toNat_natCast]; exact ecv)) ?_
  refine (hx (a.step r1.1) _ h3).mono fun u s₂ r2 => ?_
  obtain ⟨tb, rfl⟩ := r2.2.int
  refine PySem.P.iadd_int ?_
  have hs : Step0 a.s { s₂ with toks := s₂.toks + 1 } := (r1.1.trans0 r2.1).trans0 Step.tok
  exact (set_mut rfl (O.step hs).l hm hz).mono fun zz s₃ M => n.upd a H O hs M ((O.step hs).r.set' m (p := .int (c + b)) ⟨_, rfl⟩) he
theorem interactive_no (a : At k) : interactive a.env = false := by unfold interactive; rw [a.D.O.kind]; rfl
theorem sAppend (n : No k i y) (hl : (apos.endLine == pos.line) = true) (hp : plainE e = true) (hx : SndE k x e) : SndS k SP (.append i x) (.Expr (.Call (.Attribute (.Name y npos) "append" apos) [e] [] pos) spos) := fun a out he => by
  obtain ⟨xs, h1, he⟩ := bindE he
  obtain ⟨p, h2, he⟩ := bindE he
  obtain ⟨ad, vs, H, O⟩ := n.own a h1
  refine wpAny_Expr_any (Call_meth (fun zz zz zz => rfl) ((Bool.and_true _).trans hp) (by show 1 < 30; decide) hl (n.load a H (getMethod_at (a := a) O.l PySem.F.slot_list_append PySem.F.type_list_append ?_))) (interactive_no a) rfl
  refine callFn (.inl ⟨_, rfl⟩) ((Bool.and_true _).trans hp) (args1 hp ((hx a _ h2).mono fun u s₁ r1 => ?_))
  have O1 := O.step r1.1
  exact (append_mut O1.l (Nat.le_trans (Nat.le_of_eq O1.r.length) O.ok.2)).mono fun rr s₂ M => n.upd a H O r1.1 M.2 (O1.r.append (qs := [p]) ⟨u, [], rfl, r1.2, rfl⟩) he
theorem sDel (n : No k i y) {m : Int} (hi : ∀ (a : At k), a.c.WP (eval ei a.env) (PE a.s a.ow (.int m)) a.s) : SndS k SP (.del i m) (.Delete [.Subscript (.Name y npos) ei tpos] pos) := fun a out he => by
  obtain ⟨xs, h1, he⟩ := bindE he
  obtain ⟨ys, h2, he⟩ := bindE he
  obtain ⟨j, h3, h2⟩ := bindE h2
  cases h2
  obtain ⟨ad, vs, H, O⟩ := n.own a h1
  refine wpAny_Delete (wpAny_deleteEach_cons (wpAny_delete_Subscript (n.load a H ((hi a).mono fun iv s₁ r1 => ?_))))
  obtain ⟨tj, rfl⟩ := r1.2
  have O1 := O.step r1.1
  exact (del_mut O1.l (Nat.le_trans (Nat.le_of_eq O1.r.length) O.ok.2) (by rw [O1.r.length]; exact h3)).mono fun zz s₂ M => wpAny_deleteEach_nil (n.upd a H O r1.1 M (O1.r.erase j) he)
theorem evPopAt_some {xs xs' : List PV} {k p : PV} (h : evPopAt xs k = some (p, xs')) : ∃ (m : Int) (j : Nat), k = .int m ∧ pyIx xs.length m = some j ∧ xs[j]? = some p ∧ xs' = xs.eraseIdx j := by
  unfold evPopAt at h
  split at h
  · obtain ⟨j, h1, h⟩ := bindE h
    obtain ⟨v, h2, h⟩ := bindE h
    cases h
    exact ⟨_, j, rfl, h1, h2, rfl⟩
  · cases h
set_option tactic.hygienic true in
theorem sPopAdd (nj : No k j z) (n : No k i y) (hl : (apos.endLine == pos.line) = true) (hl2 : (apos2.endLine == pos2.line) = true) (hp : plainE e = true) (hx : SndO k ox e) :
    SndS k SP (.popAdd j i ox) (.Expr (.Call (.Attribute (.Name z npos) "append" apos) [.Call (.Attribute (.Name y npos2) "pop" apos2) [e] [] pos2] [] pos) spos) := fun a out he => by
  obtain ⟨ys, h1, he⟩ := bindE he
  obtain ⟨xs, h2, he⟩ := bindE he
  obtain ⟨q, h3, he⟩ := bindE he
  obtain ⟨⟨p, xs'⟩, h4, he⟩ := bindE he
  obtain ⟨m, l, rfl, h5, h6, rfl⟩ := evPopAt_some h4
  split at he
  · cases he
  · rename_i hij
    obtain ⟨ρ1, h7, he⟩ := bindE he
    unfold setI at h7
    split at h7
    · cases h7
      obtain ⟨b, ws, Hj, Oj⟩ := nj.own a h1
      obtain ⟨ad, vs, H, O⟩ := n.own a h2
      refine wpAny_Expr_any (Call_meth (fun zz zz zz => rfl) rfl (by show 1 < 30; decide) hl (nj.load a Hj (getMethod_at (a := a) Oj.l PySem.F.slot_list_append PySem.F.type_list_append ?_))) (interactive_no a) rfl
      refine callFn (.inl ⟨_, rfl⟩) rfl (args1 rfl ?_)
      refine Call_meth (fun zz zz zz => rfl) ((Bool.and_true _).trans hp) (by show 1 < 30; decide) hl2 (n.load a H (getMethod_at (a := a) O.l PySem.F.slot_list_pop PySem.F.type_list_pop ?_))
      refine callFn (.inl ⟨_, rfl⟩) ((Bool.and_true _).trans hp) (args1 hp ((hx a _ h3).mono fun u s₁ r1 => ?_))
      obtain ⟨tm, rfl⟩ := r1.2.int
      have O1 := O.step r1.1
      have Oj1 := Oj.step r1.1
      obtain ⟨v, ev, rv⟩ := O1.r.get h6
      have okx : okL (xs.eraseIdx l) := ⟨okPys_sub (fun x hx => List.mem_of_mem_eraseIdx hx) O.ok.1, Nat.le_trans (List.length_eraseIdx_le ..) O.ok.2⟩
      refine (popAt_mut O1.l (Nat.le_trans (Nat.le_of_eq O1.r.length) O.ok.2) (by rw [O1.r.length]; exact h5) ev).mono fun rr s₂ r2 => ?_
      obtain ⟨rfl, M⟩ := r2
      have C : Chg a.c a.ow s₁ s₂ i ad := ⟨M.st, by rw [a.hk]; exact n.st, O.t, isL_live M.l⟩
      have sl : SlotR a.c.g.w s₂.heap a.ow (tg a.c (.slot i)) (.own (xs.eraseIdx l)) (some (.ref ad)) := .own O.t okx M.l ((O1.r.erase l).mono C.sub)
      have U := (H.step r1.1).upd C sl
      have Hj2 := (H.step r1.1).other a.D.N (Hj.step r1.1) (by rw [a.hk]; exact n.m) (by rw [ownOf_some h1]; exact fun h => nomatch h) (Ne.symm hij) C sl
      have lb : IsL s₂.heap.get? "list" b ws := let ⟨n', e⟩ := Oj1.l; ⟨n', M.st.keep _ _ e fun q => by
        have := Oj.t.symm.trans ((congrArg a.ow q).trans C.tag)
        exact tg_ne2 (c := a.c) (t := .slot j) (t' := .slot i) (fun h => hij (by injection h with h; exact h.symm)) (fun h => nomatch h) this⟩
      have rj := Oj1.r.mono C.sub
      refine (append_mut lb (Nat.le_trans (Nat.le_of_eq rj.length) Oj.ok.2)).mono fun rr s₃ M2 => ?_
      exact .pre ((Gr.of0 r1.1).trans U.2) (nj.upd (a.to U.1) Hj2 ⟨Oj.t, Oj.ok, lb, rj⟩ (Step.refl _ _) M2.2 (rj.append (qs := [p]) ⟨_, [], rfl, rv.mono C.sub, rfl⟩) he)
    · cases h7
theorem sRet {x : X} (hx : SndE k x e) : SndS k SP (.ret (.e x)) (.Return (some e) pos) := fun a out he => by
  obtain ⟨p, h1, he⟩ := bindE he
  cases he
  exact wpAny_Return_some ((hx a p h1).mono fun v s' r => .ret a.ow (Gr.of0 r.1) r.2)
theorem free_list {a : At k} {xs : List PV} {ad : Addr} {vs : List Value} (O : OwnL a.c a.ow a.s i xs ad vs) : RV (vis a.s.heap (a.ow.put ad .free)) (.list xs) (.ref ad) :=
  ⟨O.ok, ad, vs, rfl, O.l.vis (Ow.put_at ..), O.r.mono (Sub.less fun b hb => (Classical.em (b = ad)).elim (· ▸ Ow.put_at ..) fun q => (Ow.put_ne _ _ q).trans hb)⟩
theorem free_gr {a : At k} {ad : Addr} (h : (a.ow ad).mine) : Gr a.ow (a.ow.put ad .free) a.s a.s := ⟨Step.refl _ _, fun b => (Classical.em (b = ad)).elim (fun q => .inr (.inl (q ▸ h))) fun q => .inl (Ow.put_ne _ _ q)⟩
theorem own_mine {a : At k} {xs : List PV} {ad : Addr} {vs : List Value} (n : No k i y) (O : OwnL a.c a.ow a.s i xs ad vs) : a.ow ad = .slot i := O.t.trans (if_pos (by rw [a.hk]; exact n.st))
theorem sRetV (n : No k i y) : SndS k SP (.ret (.v i)) (.Return (some (.Name y npos)) pos) := fun a out he => by
  obtain ⟨p, h1, he⟩ := bindE he
  cases he
  change readOf (get a.ρ i) = some p at h1
  refine wpAny_Return_some ?_
  cases h : get a.ρ i with
  | val q =>
    rw [h] at h1
    cases h1
    exact (eVar n.toNm a p (by show valOf (get a.ρ i) = _; rw [h]; rfl)).mono fun v s' r => .ret a.ow (Gr.of0 r.1) r.2
  | own xs =>
    rw [h] at h1
    cases h1
    obtain ⟨ad, vs, H, O⟩ := n.own a (by rw [h]; rfl)
    exact n.load a H (.ret _ (free_gr (by rw [own_mine n O]; trivial)) (free_list O))
  | _ => rw [h] at h1; cases h1
theorem ssFreeze {ss : Ss} {l : List Stmt} (n : No k i y) (hs : SndSs k SP ss l) : SndSs k SP (.cons (.freeze i) ss) l := fun a out he => by
  obtain ⟨o, h1, he⟩ := bindE he
  obtain ⟨xs, h2, h1⟩ := bindE h1
  obtain ⟨hi, rfl⟩ := setN_some h1
  obtain ⟨ad, vs, H, O⟩ := n.own a h2
  have tad := own_mine n O
  have ne : ∀ {b}, a.ow b ≠ .slot i → a.ow.put ad .free b = a.ow b := fun h => Ow.put_ne _ _ fun q => h (q ▸ tad)
  have nl : ∀ {b}, a.ow b = .free → a.ow.put ad .free b = .free := fun hb => (ne (by rw [hb]; exact fun h => nomatch h)).trans hb
  have T : Ok a.c (set a.ρ i (.val (.list xs))) (a.ow.put ad .free) a.s := by
    obtain ⟨m, hn, hb, hi⟩ := H.m
    refine ⟨a.T.top, fun b hb => a.T.old b fun q => hb (nl q), fun b hb => a.T.live b fun q => hb (nl q), (ne (by rw [a.T.loc]; exact fun h => nomatch h)).trans a.T.loc, fun x b hc => (ne ?_).trans (a.T.cells x b hc), m, hn, fun j x hj => ?_⟩
    · rw [a.T.cells x b hc]; exact tg_ne2 (fun h => nomatch h) fun h => nomatch h
    · by_cases q : j = i
      · subst q
        exact ⟨_, hi x hj, get_set_eq.elim (fun e => e ▸ .val (free_list O)) fun e => e ▸ .un⟩
      · obtain ⟨ov, nm, sl⟩ := hb j x hj
        exact ⟨ov, nm, by rw [get_set_ne q]; exact sl.mono (fun b hb zz => ⟨(ne (by rw [hb]; exact tg_ne2 (fun h => q (by injection h)) fun h => nomatch h)).trans hb, fun zz e => e⟩) (Sub.less fun b => nl)⟩
  exact (hs (a.to T) out he).mono fun f s' h => .pre (free_gr (by rw [tad]; trivial)) h
end
section
variable {k : KC} {SP : SPT} {x : S} {xs b b2 : Ss} {t : Mine.T} {tt : Tgt} {src : Src} {i n : Nat} {y : Str} {e tg : Expr} {st : Stmt} {l body els : List Stmt} {pos : Pos}
theorem ssNil : SndSs k SP .nil [] := fun a out he => by cases he; exact wpAny_execs_nil (.next a.ow (Gr.refl _ _) a.T)
theorem ssCons (h : SndS k SP x st) (hs : SndSs k SP xs l) : SndSs k SP (.cons x xs) (st :: l) := fun a out he => by
  obtain ⟨o, h1, he⟩ := bindE he
  refine wpAny_execs_cons ((h a o h1).mono fun f s' hf => ?_)
  cases hf with
  | next ow' gr T => exact (hs (a.to T) out he).mono fun f s2 h2 => .pre gr h2
  | ret ow' gr r => cases he; exact .ret ow' gr r
theorem sIf (ht : SndT k t e) (ha : SndSs k SP b body) (hb : SndSs k SP b2 els) : SndS k SP (.if_ t b b2) (.If e body els pos) := fun a out he => by
  obtain ⟨c, h1, he⟩ := bindE he
  refine wpAny_If ((ht a c h1).mono fun c' s1 q => ?_)
  obtain ⟨rfl, hs⟩ := q
  cases c'
  · exact (hb (a.step hs) out he).mono fun f s2 h2 => .pre (Gr.of0 hs) h2
  · exact (ha (a.step hs) out he).mono fun f s2 h2 => .pre (Gr.of0 hs) h2
theorem sAssert (ht : SndT k t e) : SndS k SP (.assert_ t) (.Assert e none pos) := fun a out he => by
  obtain ⟨c, h1, he⟩ := bindE he
  refine wpAny_Assert a.hh ((ht a c h1).mono fun c' s1 q => ?_)
  obtain ⟨rfl, hs⟩ := q
  cases c'
  · cases he
  · cases he; exact .next a.ow (Gr.of0 hs) (a.T.step hs)
structure WInv (a : At k) (tt : Rho → Option Bool) (bb : Rho → Option Out) (out : Out) (m : Nat) (s : Shared) : Prop where
  ex : ∃ ρ ow, Ok a.c ρ ow s ∧ Gr a.ow ow a.s s ∧ loopW tt bb m ρ = some out
theorem sWhile (ht : SndT k t e) (hb : SndSs k SP b body) : SndS k SP (.while_ n t b) (.While e body [] pos) := fun a out he => by
  suffices key : codeAny (model a.c.g.prog a.c.g.w) a.c.A (.whileLoop e body [] a.env) (fun r s' => ∃ f, r = .ok f ∧ PS a.c a.ow a.s out f s') a.s from wpAny_While (codeAny_mono key fun r s' ⟨f, e, h⟩ => by subst e; exact h)
  refine codeAny_whileLoop (WInv a (evT a.F t) (evSs a.F SP b) out) (fun m s hI => ?_) n ⟨a.ρ, a.ow, a.T, Gr.refl _ _, he⟩
  obtain ⟨ρ, ow, T, g, h1⟩ := hI.ex
  cases m with
  | zero => cases h1
  | succ m =>
    obtain ⟨c, hc, h1⟩ := bindE h1
    refine (ht (a.to T) c hc).mono fun c' s2 q => ?_
    obtain ⟨rfl, hs⟩ := q
    have g2 := g.trans (Gr.of0 hs)
    cases c' with
    | false => cases h1; exact wpAny_execs_nil ⟨.next, rfl, .next ow g2 (T.step hs)⟩
    | true =>
      obtain ⟨o, ho, h1⟩ := bindE h1
      refine (hb (a.to (T.step hs)) o ho).mono fun f s3 h3 => ?_
      cases h3 with
      | next ow' gr T3 => exact ⟨m, Nat.lt_succ_self _, _, ow', T3, g2.trans gr, h1⟩
      | ret ow' gr r => cases h1; exact ⟨_, rfl, .ret ow' (g2.trans gr) r⟩
noncomputable def SndSrcS (k : KC) (src : Src) (tgt e : Expr) : Prop := ∀ (a : At k) (items : List PV), strong src a.ρ = true → evSrc a.F src a.ρ = some items → a.c.WP (eval e a.env) (fun v s₁ => a.c.WP (pyIter v) (Made a false tgt items) s₁) a.s
theorem srcS (h : SndSrc k false src tg e) : SndSrcS k src tg e := fun a items zz he => h a items he
theorem srcSv (n : Nm k i y) (ht : isName tg = true) : SndSrcS k (.one (.v i)) tg (.Name y pos) := fun a items hs he => by
  refine srcE (eVar n) ht a items ?_
  change (valOf (get a.ρ i)).isSome = true at hs
  change ((readOf (get a.ρ i)).bind itemsOf) = some items at he
  show ((valOf (get a.ρ i)).bind itemsOf) = some items
  generalize get a.ρ i = sv at hs he
  cases sv with
  | val p => exact he
  | _ => cases hs
structure FInv (a : At k) (N : Nat) (fp own : List Addr) (ow0 : Ow) (s0 : Shared) (G : GO) (St : List Addr → Nat → Shared → Prop) (tt : Tgt) (bb : Rho → Option Out) (items : List PV) (out : Out) (m : Nat) (s : Shared) : Prop where
  ex : ∃ i ρ own1 ow1, m + i = items.length + 1 ∧ i ≤ items.length ∧ Ok a.c ρ ow1 s ∧ St own1 i s ∧ (∀ b ∈ own1, ow1 b = .aux) ∧ (∀ b ∈ own1, (b ∈ own ∨ (ow0 b).mine) ∨ s0.heap.get? b = none) ∧ (∀ b ∈ fp, (s.heap.get? b).isSome = true ∧ ¬ (ow1 b).mine) ∧ Sub G (vis s.heap ow1) ∧ GrN N own ow0 ow1 s0 s ∧ loopF tt bb (items.drop i) ρ = some out
theorem for_core {items : List PV} {out : Out} {it : Value} {s₂ : Shared} {R : Result → Shared → Prop} (a : At k) (h : Made a false tg items it s₂) (ht : TgtP k tt tg) (hb : SndSs k SP b body) (he : loopF tt (evSs a.F SP b) items a.ρ = some out) (hR : ∀ f s', PS a.c a.ow a.s out f s' → R (.ok f) s') : codeAny (model a.c.g.prog a.c.g.w) a.c.A (.forLoop tg it body [] a.env) R s₂ := by
  obtain ⟨G, fp, own, St, N, hN, W, h0, hn, st, sub, fpA⟩ := h
  have ⟨T2, hv⟩ := a.enter hn (W.live _ _ _ h0) st
  have fpO : ∀ b ∈ own ++ fp, (s₂.heap.get? b).isSome = true ∧ ¬ (a.ow.aux own b).mine := fun b hb => by
    by_cases q : b ∈ own
    · exact ⟨W.live _ _ _ h0 b q, by rw [Ow.aux_at q]; exact id⟩
    · have := fpA b ((List.mem_append.mp hb).resolve_left q)
      exact ⟨this.1, by rw [Ow.aux_ne q]; exact this.2 rfl⟩
  obtain ⟨I, hI⟩ : ∃ I : Nat → Shared → Prop, ∀ m s, I m s ↔ FInv a N (own ++ fp) own (a.ow.aux own) s₂ G St tt (evSs a.F SP b) items out m s := ⟨_, fun zz zz => Iff.rfl⟩
  refine codeAny_forLoop_any I (fun m s hIm => ?_) (items.length + 1) ((hI _ _).mpr ⟨0, a.ρ, own, _, rfl, Nat.zero_le _, T2, h0, fun b hb => Ow.aux_at hb, fun b hb => .inl (.inl hb), fpO, sub, ⟨(Step.refl _ _).n, fun zz => .inl rfl⟩, he⟩)
  obtain ⟨i, ρ, own1, ow1, hm, hi, T, hSt, ho, ho2, hfp, hG, gr, hl⟩ := ((hI m s).mp hIm).ex
  cases hr : items.drop i with
  | nil =>
    rw [hr] at hl
    cases hl
    obtain rfl := Nat.le_antisymm hi (List.drop_eq_nil_iff.mp hr)
    refine WP.mono (W.done own1 s hSt) fun o s' h => ?_
    obtain ⟨rfl, hs⟩ := h
    have D := T.drop ho hs
    exact wpAny_execs_nil (hR _ _ (.next _ ((gr.trans D.2.1 ho2).gr hN hn st) D.1))
  | cons p rest =>
    rw [hr] at hl
    obtain ⟨hp, hr', hi'⟩ := drop_cons hr
    obtain ⟨ρ1, hρ1, hl⟩ := bindE hl
    obtain ⟨o, ho5, hl⟩ := bindE hl
    refine WP.mono (item_step (a := a.to T) (Q := fun s₃ => wpAny (model a.c.g.prog a.c.g.w) a.c.A (execs body a.env) (fun f s₄ => match f with
          | .next | .cont => ∃ m', m' < m ∧ I m' s₄
          | .brk => R (.ok .next) s₄
          | .ret v => R (.ok (.ret v)) s₄) (notedBy (model a.c.g.prog a.c.g.w) a.c.A a.env fun e s' => R (.error e) s') s₃) W hp hSt ho (fun b hb => (hfp b hb).2) hG ht hρ1 ?_) fun o s₁ h => ?_
    rotate_left
    · obtain ⟨v, rfl, h⟩ := h
      exact WP.mono h fun zz s₂ h => WP.mono h fun zz s₃ h => h
    intro nw s₃ hnw hSt2 T3 hs3
    refine (hb (a.to T3) o ho5).mono fun f s₅ h5 => ?_
    cases h5 with
    | next ow' g5 T5 =>
      have X := item_next W ho hfp hG hnw hSt2 hs3 g5
      refine ⟨m - 1, by lia, (hI _ _).mpr ⟨i + 1, _, nw ++ own1, ow', by lia, hi', T5, X.st, X.ownA, fun b hb => ?_, X.fpA, X.sub, gr.trans X.gr ho2, hr' ▸ hl⟩⟩
      exact (List.mem_append.mp hb).elim (fun q => keep_back gr.step.keep (hnw b q)) (ho2 b)
    | ret ow' g5 r =>
      cases hl
      have X := item_next W ho hfp hG hnw hSt2 hs3 g5
      exact hR _ _ (.ret ow' ((gr.trans X.gr ho2).gr hN hn st) r)
theorem for_go {items : List PV} {out : Out} (a : At k) (hns : notSet e = true) (hs : a.c.WP (eval e a.env) (fun v s₁ => a.c.WP (pyIter v) (Made a false tg items) s₁) a.s) (ht : TgtP k tt tg) (hb : SndSs k SP b body) (he : loopF tt (evSs a.F SP b) items a.ρ = some out) : a.c.WP (exec (.For tg e body [] pos) a.env) (PS a.c a.ow a.s out) a.s :=
  wpAny_For (hs.mono fun zz zz hx => WP.mono hx fun zz zz h => for_core a h ht hb he fun f s' h => h) (folded_plain hns a.env)
theorem sFor (hns : notSet e = true) (hs : SndSrcS k src tg e) (ht : TgtP k tt tg) (hb : SndSs k SP b body) : SndS k SP (.for_ tt src b) (.For tg e body [] pos) := fun a out he => by
  change (if strong src a.ρ = true then (evSrc a.F src a.ρ).bind fun items => loopF tt (evSs a.F SP b) items a.ρ else none) = some out at he
  split at he
  · obtain ⟨items, h1, he⟩ := bindE he
    exact for_go a hns (hs a items ‹_› h1) ht hb he
  · cases he
end
section
variable {prog : Program} {w : World} {A : Around} {s : Shared}
theorem draw_list {it t : Addr} {items : Array Value} (hne : t ≠ it) : ∀ (n i : Nat) (s : Shared) (Q : List Value → Shared → Prop), s.heap.IsListIter it t i → s.heap.IsList t items → i + n ≤ items.size →
    (∀ h', h'.IsListIter it t (i + n) → Heap.SameBut it s.heap h' → Q ((items.toList.drop i).take n) { s with heap := h' }) → WP prog w A (draw (.ref it) n) Q s
  | 0, i, s, Q, hit, _, _, hQ => wpAny_pure (hQ s.heap hit (Heap.SameBut.refl ..))
  | n + 1, i, s, Q, hit, ht, hle, hQ => by
    have hlt : i < items.size := Nat.lt_of_lt_of_le (Nat.lt_add_of_pos_right (Nat.succ_pos n)) hle
    refine wpAny_bind (wpAny_pyNext_list_item hit ht (x := items[i]) (Array.getElem?_eq_getElem hlt) fun h₁ hit₁ hs₁ => ?_)
    refine wpAny_bind (wpAny_holding (draw_list hne n (i + 1) _ _ hit₁ (ht.extBut hs₁.extBut hne) (by rw [Nat.add_right_comm]; exact hle) fun h₂ hit₂ hs₂ => wpAny_pure ?_))
    have := hQ h₂ (by rw [← Nat.add_right_comm] at hit₂; exact hit₂) (hs₁.trans hs₂)
    rw [List.drop_eq_getElem_cons (show i < items.toList.length from hlt), List.take_succ_cons] at this
    exact this
theorem unpackItems_list {t : Addr} {items : Array Value} {Q : List Value → Shared → Prop} (hh : A.handled = none) (ht : s.heap.IsList t items)
    (hQ : ∀ h', Heap.ExtBut s.heap.objs.size s.heap h' → Q items.toList { s with heap := h' }) : WP prog w A (unpackItems (.ref t) items.size none) Q s := by
  have hlt : t ≠ s.heap.objs.size := by obtain ⟨o, ho, _⟩ := ht; exact Nat.ne_of_lt (Heap.lt_size ho)
  unfold unpackItems
  refine wpAny_bind ?_
  unfold notIterableAtAll
  refine wpAny_bind (wpAny_specialOf ht.typeIs F.slot_list_iter.lookup (wpAny_pure ?_))
  dsimp only [Option.isNone_some, Bool.false_and]
  rw [if_neg Bool.false_ne_true]
  refine wpAny_bind (wpAny_holding (wpAny_pyIter_list ht ?_))
  refine wpAny_bind (wpAny_holding (draw_list hlt items.size 0 _ _ ⟨_, Heap.get?_push_size _ rfl, rfl, rfl⟩ (ht.push _) (Nat.le_of_eq (Nat.zero_add _)) fun h₁ hit₁ hs₁ => ?_))
  rw [List.drop_zero, List.take_of_length_le (Nat.le_of_eq Array.length_toList), if_neg (by rw [Array.length_toList]; exact Nat.lt_irrefl _)]
  refine wpAny_bind (wpAny_holding (wpAny_pyNext_list_end hh hit₁ ((ht.push _).extBut hs₁.extBut hlt) (Array.getElem?_eq_none (Nat.le_of_eq (Nat.zero_add _).symm)) fun h₂ he₂ => ?_))
  rw [Option.isSome_none, if_neg Bool.false_ne_true]
  exact wpAny_pure (hQ h₂ fun b o hb e => he₂ b o hb (hs₁.extBut b o hb (Heap.get?_push_of_some _ e)))
theorem two_some {p : PV} {q : PV × PV} (h : two? p = some q) : p = .list [q.1, q.2] ∨ p = .tup [q.1, q.2] := by
  rcases p with _ | _ | _ | _ | _ | xs | xs | _ <;> try (cases h; done)
  all_goals
    rcases xs with _ | ⟨x, _ | ⟨y, _ | ⟨z, xs⟩⟩⟩ <;> try (cases h; done)
    cases h
  · exact .inl rfl
  · exact .inr rfl
theorem unpackItems_two {ow : Ow} {p : PV} {q : PV × PV} {v : Value} {Q : List Value → Shared → Prop} (hh : A.handled = none) (hv : RV (vis s.heap ow) p v) (hp : two? p = some q)
    (hQ : ∀ v1 v2 s', Step0 s s' → RV (vis s'.heap ow) q.1 v1 → RV (vis s'.heap ow) q.2 v2 → Q [v1, v2] s') : WP prog w A (unpackItems v 2 none) Q s := by
  have st : ∀ {h'}, Heap.ExtBut s.heap.objs.size s.heap h' → Step0 s { s with heap := h' } := fun he => Step.heap fun b o e zz => he b o (Nat.ne_of_lt (Heap.lt_size e)) e
  rcases two_some hp with rfl | rfl
  · obtain ⟨ok, a, vs, rfl, la, v1, vs1, rfl, r1, v2, vs2, rfl, r2, rfl⟩ := hv
    exact unpackItems_list (items := #[v1, v2]) hh (la.list Sub.heap) fun h' he => hQ v1 v2 _ (st he) (r1.mono (Sub.step0 (st he))) (r2.mono (Sub.step0 (st he)))
  · obtain ⟨ok, a, vs, rfl, la, v1, vs1, rfl, r1, v2, vs2, rfl, r2, rfl⟩ := hv
    exact wpAny_unpackItems_tuple (items := #[v1, v2]) hh (la.tuple Sub.heap) fun h' he => hQ v1 v2 _ (st he) (r1.mono (Sub.step0 (st he))) (r2.mono (Sub.step0 (st he)))
end
noncomputable def notTup : Expr → Bool
  | .Tuple .. => false
  | _ => true
theorem sUnpackE {k : KC} {SP : SPT} {x : X} {i j : Nat} {y z : Str} {e : Expr} {p1 p2 p3 pos : Pos} {n : Nat} (n1 : No k i y) (n2 : No k j z) (hx : SndE k x e) (h1 : notTup e = true) (h2 : isCompE e = false) : SndS k SP (.unpackE i j x) (.Assign [.Tuple [.Name y p1, .Name z p2] n p3] e pos) := fun a out he => by
  obtain ⟨p, e1, he⟩ := bindE he
  obtain ⟨q, e2, he⟩ := bindE he
  have hw : swappedStores [.Tuple [.Name y p1, .Name z p2] n p3] e a.env = pure none := by cases e <;> first | rfl | cases h1
  have hs0 : swapsWithSole [.Tuple [.Name y p1, .Name z p2] n p3] e pos.line a.env = pure false := by cases e <;> first | rfl | cases h2
  refine wpAny_Assign_stores ((hx a p e1).mono fun v s₁ r => ?_) hs0 hw
  show a.c.WP (assign (.Tuple [.Name y p1, .Name z p2] n p3) a.env v) _ _
  rw [arm_assign_Tuple]
  refine wpAny_bind (wpAny_standAt ?_)
  unfold unpack
  refine wpAny_bind (wpAny_holding (unpackItems_two a.hh r.2 e2 fun v1 v2 s₂ hs r1 r2 => ?_))
  have nw : Nw a.ow a.ow a.s s₂ := .of (r.1.trans0 hs)
  have W : Wait a [(i, .val q.1), (j, .val q.2)] [y, z] a.ow [⟨i, y, .val q.1, v1⟩, ⟨j, z, .val q.2, v2⟩] s₂ := ⟨nw, fun e he => by
    rcases List.mem_cons.mp he with rfl | he
    · exact ⟨by rw [a.hk]; exact n1.tn, .val r1⟩
    · obtain rfl := List.mem_singleton.mp he
      exact ⟨by rw [a.hk]; exact n2.tn, .val r2⟩, rfl, rfl⟩
  exact W.stores (l' := []) ((NmT.cons (.cons .nil)).each.sts [⟨i, y, .val q.1, v1⟩, ⟨j, z, .val q.2, v2⟩] rfl) (setAll_L (l := [⟨i, y, .val q.1, v1⟩, ⟨j, z, .val q.2, v2⟩]) he)
noncomputable def flowV : Flow → Value
  | .ret v => v
  | _ => .none
noncomputable def retOf : Out → PV
  | .ret p => p
  | .next _ => .none
noncomputable abbrev Ent (ow ow' : Ow) (s s₁ : Shared) : Prop := (Lv s ow) ∧ (Step0 s s₁) ∧ (∀ b, ow b ≠ .free → ow' b = .ext ∨ ow' b = .aux) ∧ (∀ b, (ow' b).mine → s.heap.get? b = none) ∧ (∀ b, ow b = .free → ow' b = .free ∨ s.heap.get? b = none)
section
variable {a_ b_ c_ d_} (x_ : Ent a_ b_ c_ d_)
def Ent.lv := x_.1
def Ent.st := x_.2.1
def Ent.hid := x_.2.2.1
def Ent.mine := x_.2.2.2.1
def Ent.fr := x_.2.2.2.2
end
section
variable {c : Cx} {ρ : Rho} {ow ow' hid : Ow} {s s₁ s2 : Shared} {out : Out} {f : Flow}
theorem Ent.back (E : Ent ow ow' s s₁) {b : Addr} (h : ow' b = .free) : ow b = .free := Classical.byContradiction fun q => (E.hid b q).elim (fun e => nomatch h.symm.trans e) fun e => nomatch h.symm.trans e
theorem Ent.less (E : Ent ow ow' s s₁) {ow2 : Ow} (g : Gr ow' ow2 s₁ s2) : Sub (vis s2.heap ow2) (vis s2.heap ow) := Sub.less fun b hb => (g.new b).elim (fun q => E.back (q.symm.trans hb)) fun q => E.lv.free (q.elim (E.mine b) (none_back E.st))
theorem Ent.step (E : Ent ow ow' s s₁) {ow2 : Ow} (g : Gr ow' ow2 s₁ s2) : Step0 s s2 := E.st.trans g.step fun b hb => .inr (E.mine b hb)
theorem Ent.done (E : Ent ow ow' s s₁) (h : PS c ow' s₁ out f s2) : PE s ow (retOf out) (flowV f) s2 := by
  cases h with
  | next ow2 g T => exact ⟨E.step g, rfl⟩
  | ret ow2 g r => exact ⟨E.step g, r.mono (E.less g)⟩
noncomputable def frameOw (hid : Ow) (env : Env) : Ow := fun b => if b = env.locals then .loc else match env.cells.find? (fun y => y.2 == b && env.cells.lookup y.1 == some y.2) with
  | some y => .cell y.1
  | none => hid b
inductive ArgR (s : Shared) (ow : Ow) : SV → Option Value → Prop
  | un {o : Option Value} : ArgR s ow .un o
  | val {p : PV} {v : Value} (r : RV (vis s.heap ow) p v) : ArgR s ow (.val p) (some v)
  | obj {a : Addr} : ArgR s ow (.obj a) (some (.ref a))
noncomputable abbrev Entry (c : Cx) (ρ : Rho) (ow hid : Ow) (s s₁ : Shared) : Prop := (St c.g ow s) ∧ (Step0 s s₁) ∧ (c.k.st = true) ∧ (∀ b, ow b = .free → hid b = .free) ∧ (∀ b, ow b ≠ .free → hid b = .ext ∨ hid b = .aux) ∧ (s.heap.get? c.env.locals = none) ∧ (∀ x a, c.env.cells.lookup x = some a → s.heap.get? a = none ∧ a ≠ c.env.locals) ∧ (c.env.cells.Pairwise fun x y => x.2 ≠ y.2) ∧ (∃ m, s₁.heap.Ns c.env.locals m ∧ (∀ x a, c.env.cells.lookup x = some a → (s₁.heap.get? a).isSome = true) ∧ ∀ i x, (i, x) ∈ c.k.nm → ∃ ov, Named c m s₁.heap x ov ∧ ArgR s ow (get ρ i) ov)
section
variable {a_ b_ c_ d_ e_ f_} (x_ : Entry a_ b_ c_ d_ e_ f_)
def Entry.S := x_.1
def Entry.st := x_.2.1
def Entry.k := x_.2.2.1
def Entry.hf := x_.2.2.2.1
def Entry.hh := x_.2.2.2.2.1
def Entry.new := x_.2.2.2.2.2.1
def Entry.cnew := x_.2.2.2.2.2.2.1
def Entry.apart := x_.2.2.2.2.2.2.2.1
def Entry.body := x_.2.2.2.2.2.2.2.2
end
set_option tactic.hygienic true in
theorem Entry.go (E : Entry c ρ ow hid s s₁) : Ok c ρ (frameOw hid c.env) s₁ ∧ Ent ow (frameOw hid c.env) s s₁ ∧ ∀ b, ow b ≠ .free → frameOw hid c.env b = hid b := by
  have cs : ∀ b, frameOw hid c.env b = .loc ∧ b = c.env.locals ∨ (∃ x, frameOw hid c.env b = .cell x ∧ c.env.cells.lookup x = some b) ∨ frameOw hid c.env b = hid b := fun b => by
    unfold frameOw
    split
    · exact .inl ⟨rfl, ‹_›⟩
    · split
      · rename_i y hy
        have ⟨h1, h2⟩ := (Bool.and_eq_true _ _).mp (List.find?_some (p := fun y : Str × Addr => y.2 == b && c.env.cells.lookup y.1 == some y.2) hy)
        exact .inr (.inl ⟨y.1, rfl, beq_iff_eq.mp h1 ▸ beq_iff_eq.mp h2⟩)
      · exact .inr (.inr rfl)
  have hid_mine : ∀ b, ¬ (hid b).mine := fun b h => by
    by_cases q : ow b = .free
    · rw [E.hf b q] at h; exact h
    · rcases E.hh b q with e | e <;> rw [e] at h <;> exact h
  have nw : ∀ b, (frameOw hid c.env b).mine → s.heap.get? b = none := fun b h => by
    rcases cs b with ⟨_, e⟩ | ⟨x, _, e⟩ | e
    · exact e ▸ E.new
    · exact (E.cnew _ _ e).1
    · rw [e] at h; exact (hid_mine b h).elim
  have fr : ∀ b, ow b = .free → frameOw hid c.env b = .free ∨ s.heap.get? b = none := fun b hb => by
    rcases cs b with ⟨_, e⟩ | ⟨x, _, e⟩ | e
    · exact .inr (e ▸ E.new)
    · exact .inr (E.cnew _ _ e).1
    · exact .inl (e.trans (E.hf b hb))
  have he : ∀ b, ow b ≠ .free → frameOw hid c.env b = hid b := fun b hb => by
    rcases cs b with ⟨_, e⟩ | ⟨x, _, e⟩ | e
    · exact (alive_not (E.S.live b hb) (e ▸ E.new)).elim
    · exact (alive_not (E.S.live b hb) (E.cnew _ _ e).1).elim
    · exact e
  obtain ⟨m, hn, hcl, hb⟩ := E.body
  refine ⟨⟨fun b o e => E.st.get (E.S.top b o e), fun b h => ?_, fun b h => ?_, if_pos rfl, fun x a e => ?_, m, hn, fun i x hi => ?_⟩, ⟨E.S.live, E.st, fun b hb => he b hb ▸ E.hh b hb, nw, fr⟩, he⟩
  · by_cases q : ow b = .free
    · exact Option.eq_none_iff_forall_not_mem.mpr fun o e => not_none (E.S.top b o e) ((fr b q).resolve_left h)
    · exact E.S.old b q
  · rcases cs b with ⟨_, e⟩ | ⟨x, _, e⟩ | e
    · exact e ▸ ns_live hn
    · exact hcl _ _ e
    · refine E.st.alive (E.S.live b fun q => h (e.trans (E.hf b q))) id
  · have hm := mem_of_lookup e
    have : tg c (.cell x) = .cell x := if_pos E.k
    rw [this]
    unfold frameOw
    rw [if_neg (E.cnew _ _ e).2]
    cases q : c.env.cells.find? (fun y => y.2 == a && c.env.cells.lookup y.1 == some y.2) with
    | none => exact absurd ((Bool.and_eq_true _ _).mpr ⟨beq_self_eq_true a, beq_iff_eq.mpr e⟩) (List.find?_eq_none.mp q _ hm)
    | some y =>
      have h2 := beq_iff_eq.mp ((Bool.and_eq_true _ _).mp (List.find?_some (p := fun y : Str × Addr => y.2 == a && c.env.cells.lookup y.1 == some y.2) q)).1
      exact congrArg Tag.cell (name_of_addr E.apart (h2 ▸ List.mem_of_find?_eq_some q) hm)
  · obtain ⟨ov, n, r⟩ := hb i x hi
    refine ⟨ov, n, ?_⟩
    generalize get ρ i = sv at r
    cases r with
    | un => exact .un
    | val r => exact .val (r.mono (Sub.step E.st.keep (fun zz h => h.elim) fr))
    | obj => exact .obj
end
set_option tactic.hygienic true in
theorem cellsFrom_mem : ∀ {names : List (Str × NameKind)} {n : Nat} {acc : List (Str × Addr)} {x : Str}, (names.lookup x = some .cell ∨ (acc.lookup x).isSome = true) → ((cellsFrom n names acc).lookup x).isSome = true
  | [], n, acc, x, h => h.elim (fun h => nomatch h) id
  | (y, kd) :: r, n, acc, x, h => by
    unfold cellsFrom
    rw [List.lookup_cons] at h
    split
    · refine cellsFrom_mem ?_
      rw [List.lookup_cons]
      cases hb : x == y with
      | true => exact .inr rfl
      | false => rw [hb] at h; exact h
    · rename_i hk
      refine cellsFrom_mem ?_
      cases hb : x == y with
      | true =>
        rw [hb] at h
        exact h.elim (fun h => absurd (by cases h; rfl) hk) .inr
      | false => rw [hb] at h; exact h
theorem bind_get {kindOf : Str → Option NameKind} : ∀ {ps : List Str} {vs : List Value} {m cm : Str → Option Value} {x : Str}, x ∉ ps → bindL kindOf (ps.zip vs) m x = m x ∧ bindC kindOf (ps.zip vs) cm x = cm x
  | [], _, _, _, _, _ => ⟨rfl, rfl⟩
  | _ :: _, [], _, _, _, _ => ⟨rfl, rfl⟩
  | p :: ps, v :: vs, m, cm, x, h => by
    have h1 : x ≠ p := fun q => h (q ▸ List.mem_cons_self)
    have h2 : x ∉ ps := fun q => h (List.mem_cons_of_mem _ q)
    rw [List.zip_cons_cons, bindL, bindC, (bind_get (m := if kindOf p = some .local then fun y => if y = p then some v else m y else m) (cm := cm) h2).1, (bind_get (m := m) (cm := if kindOf p = some .local then cm else fun y => if y = p then some v else cm y) h2).2]
    split <;> exact ⟨by first | rfl | exact if_neg h1, by first | rfl | exact if_neg h1⟩
theorem bind_at {kindOf : Str → Option NameKind} : ∀ {ps : List Str} {vs : List Value} {m cm : Str → Option Value} {i : Nat} {x : Str} {v : Value}, ps.Pairwise (· ≠ ·) → ps[i]? = some x → vs[i]? = some v →
    (kindOf x = some .local → bindL kindOf (ps.zip vs) m x = some v) ∧ (kindOf x ≠ some .local → bindC kindOf (ps.zip vs) cm x = some v)
  | [], _, _, _, _, _, _, _, h, _ => nomatch h
  | _ :: _, [], _, _, _, _, _, _, _, h => nomatch h
  | p :: ps, u :: vs, m, cm, 0, x, v, hp, h1, h2 => by
    cases h1
    cases h2
    have hx : p ∉ ps := fun h => (List.pairwise_cons.mp hp).1 p h rfl
    rw [List.zip_cons_cons, bindL, bindC, (bind_get (kindOf := kindOf) (cm := cm) hx).1, (bind_get (kindOf := kindOf) (m := m) hx).2]
    exact ⟨fun hk => by rw [if_pos hk]; exact if_pos rfl, fun hk => by rw [if_neg hk]; exact if_pos rfl⟩
  | p :: ps, u :: vs, m, cm, i + 1, x, v, hp, h1, h2 => bind_at (ps := ps) (vs := vs) (List.pairwise_cons.mp hp).2 h1 h2
noncomputable abbrev FnAt (g : Pg) (name : Str) (fa : Addr) (o : Obj) (fd : FuncData) (body : List Stmt) (ps : List Str) (k : KC) : Prop := (g.mg name = some (.ref fa)) ∧ (g.h₁.get? fa = some o) ∧ (o.data = .func fd) ∧ (g.h₁.CodeRec fd.code fd.qualname) ∧ (fd.body = .stmts body) ∧ (fd.closure = []) ∧ (fd.globals = mainGlobals) ∧ (fd.builtins = builtinsNs) ∧ (fd.scope = k.sc) ∧ (∀ vals : List Value, vals.length = ps.length → bindArgs fd ⟨vals, []⟩ = pure (ps.zip vals)) ∧ (ps.Pairwise (· ≠ ·))
section
variable {a_ b_ c_ d_ e_ f_ g_ h_} (x_ : FnAt a_ b_ c_ d_ e_ f_ g_ h_)
def FnAt.gl := x_.1
def FnAt.ob := x_.2.1
def FnAt.dat := x_.2.2.1
def FnAt.code := x_.2.2.2.1
def FnAt.body := x_.2.2.2.2.1
def FnAt.clo := x_.2.2.2.2.2.1
def FnAt.glob := x_.2.2.2.2.2.2.1
def FnAt.blt := x_.2.2.2.2.2.2.2.1
def FnAt.sc := x_.2.2.2.2.2.2.2.2.1
def FnAt.bind := x_.2.2.2.2.2.2.2.2.2.1
def FnAt.nd := x_.2.2.2.2.2.2.2.2.2.2
end
noncomputable def fnChk (k : KC) (ps : List Str) : Bool :=
  nmOkB k.nm && (k.st && ((k.nm.all fun n => k.sc.names.lookup n.2 == some .local || k.sc.names.lookup n.2 == some .cell) && (((List.range ps.length).zip ps).all (fun n => k.nm.contains n) && (k.sc.kind == .function && (!k.sc.isCoroutine && !k.sc.isGenerator)))))
noncomputable abbrev FnSc (k : KC) (ps : List Str) : Prop := (NmOk k.nm) ∧ (k.st = true) ∧ (∀ i x, (i, x) ∈ k.nm → k.sc.names.lookup x = some .local ∨ k.sc.names.lookup x = some .cell) ∧ (∀ i x, ps[i]? = some x → (i, x) ∈ k.nm) ∧ (k.sc.kind = .function) ∧ (k.sc.isCoroutine = false) ∧ (k.sc.isGenerator = false)
section
variable {a_ b_} (x_ : FnSc a_ b_)
def FnSc.N := x_.1
def FnSc.st := x_.2.1
def FnSc.kinds := x_.2.2.1
def FnSc.par := x_.2.2.2.1
def FnSc.kind := x_.2.2.2.2.1
def FnSc.co := x_.2.2.2.2.2.1
def FnSc.ge := x_.2.2.2.2.2.2
end
theorem fnChk_ok {k : KC} {ps : List Str} (h : fnChk k ps = true) : FnSc k ps := by
  have ⟨h1, h⟩ := (Bool.and_eq_true _ _).mp h
  have ⟨h2, h⟩ := (Bool.and_eq_true _ _).mp h
  have ⟨h3, h⟩ := (Bool.and_eq_true _ _).mp h
  have ⟨h4, h⟩ := (Bool.and_eq_true _ _).mp h
  have ⟨h5, h⟩ := (Bool.and_eq_true _ _).mp h
  have ⟨h6, h7⟩ := (Bool.and_eq_true _ _).mp h
  refine ⟨nmOkB_ok h1, h2, fun i x hx => ?_, fun i x hx => ?_, beq_iff_eq.mp h5, (Bool.not_eq_true' _).mp h6, (Bool.not_eq_true' _).mp h7⟩
  · exact ((Bool.or_eq_true _ _).mp (List.all_eq_true.mp h3 _ hx)).imp beq_iff_eq.mp beq_iff_eq.mp
  · refine List.contains_iff_mem.mp (List.all_eq_true.mp h4 (i, x) (List.mem_of_getElem? (i := i) ?_))
    rw [List.getElem?_zip_eq_some]
    exact ⟨List.getElem?_range (List.getElem?_eq_some_iff.mp hx).1, hx⟩
noncomputable def rho0 (n : Nat) (args : List PV) : Rho := args.map .val ++ List.replicate (n - args.length) .un
theorem rho0_get {n : Nat} {args : List PV} {i : Nat} : get (rho0 n args) i = (match args[i]? with | some p => .val p | none => .un) := by
  unfold get rho0
  rw [List.getD_eq_getElem?_getD]
  cases h : args[i]? with
  | some p => rw [List.getElem?_append_left (by rw [List.length_map]; exact (List.getElem?_eq_some_iff.mp h).1), List.getElem?_map, h]; rfl
  | none =>
    have := List.getElem?_eq_none_iff.mp h
    rw [List.getElem?_append_right (by rw [List.length_map]; exact this), List.getElem?_replicate]
    split <;> rfl
section
variable {g : Pg} {k : KC} {SP : SPT}
theorem cells_call {mg' : Str → Option Value} {name : Str} {fa : Addr} {o : Obj} {fd : FuncData} {body : List Stmt} {ps : List Str} {ρ : Rho} {A : Around} {ow : Ow} {s : Shared} {vs : List Value} {Q : Value → Shared → Prop}
    (G : ∀ L, g.h₁.get? L = none → Rm (g.r + 1) (A.deeper (callEnvC fd L fa)) → EnvOk k.sc (callEnvC fd L fa) → Good ⟨g, A.deeper (callEnvC fd L fa), k, callEnvC fd L fa⟩) (D : FnAt { g with mg := mg' } name fa o fd body ps k) (F : FnSc k ps) (hvl : vs.length = ps.length) (hR : Rm (g.r + 2) A) (S : St g ow s)
    (hv : ∀ i x, (i, x) ∈ k.nm → (∀ v, vs[i]? = some v → ArgR s ow (get ρ i) (some v)) ∧ (vs[i]? = none → get ρ i = .un)) (nl : g.h₁.NoLimit)
    (h : ∀ (a : At k) (s₁ : Shared), a.s = s₁ → a.c.g = g → a.ρ = ρ → (∀ b, ow b ≠ .free → a.ow b = ow.hide b) → Ent ow a.ow s s₁ → a.c.WP (execs body a.env) (fun f s' => Q (flowV f) s') s₁) :
    WP g.prog g.w A (call (.ref fa) vs) Q s := by
  refine wpAny_call (codeAny_call_cells (fd := fd) (body := body) (binds := ps.zip vs) hR.room (S.top _ _ D.ob) D.dat (nl.keeps S.top) (D.code.keeps S.top) D.body (D.bind vs hvl) D.clo (fun x hx => ?_) (fun s₁ C => ?_) (by rw [D.sc]; exact F.co) (by rw [D.sc]; exact F.ge) (by rw [D.sc]; exact F.kind))
  · obtain ⟨i, hi⟩ := List.getElem?_of_mem (List.of_mem_zip (show (x.1, x.2) ∈ ps.zip vs from hx)).1
    rw [D.sc]
    exact (F.kinds _ _ (F.par _ _ hi)).imp id fun h => ⟨h, cellsFrom_mem (.inl h)⟩
  · have hkd : ∀ y, (callEnvC fd s.heap.objs.size fa).kindOf y = k.sc.names.lookup y := fun y => by show fd.scope.names.lookup y = _; rw [D.sc]
    have O : EnvOk k.sc (callEnvC fd s.heap.objs.size fa) := ⟨by show fd.scope.kind = _; rw [D.sc]; exact F.kind, D.glob, D.blt, fun x h => (hkd x).trans h, fun x h => ⟨(hkd x).trans h, cellsFrom_mem (.inl (by rw [D.sc]; exact h))⟩, fun x h => (hkd x).trans h⟩
    have hRm : Rm (g.r + 1) (A.deeper (callEnvC fd s.heap.objs.size fa)) := hR.deeper _
    have G := G s.heap.objs.size (Option.eq_none_iff_forall_not_mem.mpr fun o e => not_none (S.top _ o e) (size_none _)) hRm O
    generalize callEnvC fd s.heap.objs.size fa = env at C O hkd hRm G ⊢
    obtain ⟨h', tk, rfl, hkeep⟩ := C.done
    have hge : ∀ {b}, s.heap.objs.size ≤ b → s.heap.get? b = none := get_none
    have E : Entry ⟨g, A.deeper env, k, env⟩ ρ ow ow.hide s { s with heap := h', toks := tk } := by
      refine ⟨S, Step.heapTok fun b o e zz => hkeep b o e, F.st, fun b h => (ow.hide_or b).elim (·.1) fun q => absurd h q.2, fun b h => (ow.hide_or b).elim (fun q => absurd q.2 h) fun q => .inl q.1, hge C.toInCall.fresh, fun x a e => ?_, C.apart, _, C.toInCall.ns, fun x a e => ?_, fun i x hx => ?_⟩
      · have := C.above x a (mem_of_lookup e)
        exact ⟨hge (Nat.le_of_lt (Nat.lt_of_le_of_lt C.toInCall.fresh this)), Nat.ne_of_gt this⟩
      · obtain ⟨o, e, _⟩ := C.cell x a e
        exact isSome_of e
      · have at_ : ∀ {ov : Option Value}, (∀ v, ps[i]? = some x → vs[i]? = some v → ov = some v) → ArgR s ow (get ρ i) ov := fun {ov} ha => by
          cases h : vs[i]? with
          | none => rw [(hv i x hx).2 h]; exact .un
          | some v =>
            have hi : i < ps.length := hvl ▸ (List.getElem?_eq_some_iff.mp h).1
            have h1 := List.getElem?_eq_getElem hi
            rw [ha v (by rw [h1, F.N.nx i _ x (F.par i _ h1) hx]) h]
            exact (hv i x hx).1 v h
        rcases F.kinds i x hx with hk | hk
        · exact ⟨_, .loc ((hkd x).trans hk) rfl, at_ fun v e1 e2 => (bind_at (cm := fun zz => none) D.nd e1 e2).1 ((hkd x).trans hk)⟩
        · obtain ⟨a, ha⟩ := Option.isSome_iff_exists.mp (O.cel x hk).2
          exact ⟨_, .cel (O.cel x hk).1 a ha (C.cell x a ha), at_ fun v e1 e2 => (bind_at (m := fun zz => none) D.nd e1 e2).2 (by rw [hkd, hk]; exact fun h => nomatch h)⟩
    obtain ⟨T, En, he⟩ := E.go
    refine (h ⟨⟨g, A.deeper env, k, env⟩, ρ, _, _, rfl, G, T⟩ _ rfl rfl rfl he En).mono fun f s2 h2 => ?_
    cases f <;> exact h2
theorem call_sound {name : Str} {fa : Addr} {o : Obj} {fd : FuncData} {body : List Stmt} {ps : List Str} {xs : Ss} {n : Nat} {args : List PV} {out : Out} {A : Around} {ow : Ow} {s : Shared} {vs : List Value}
    (G : ∀ L, g.h₁.get? L = none → Rm (g.r + 1) (A.deeper (callEnvC fd L fa)) → EnvOk k.sc (callEnvC fd L fa) → Good ⟨g, A.deeper (callEnvC fd L fa), k, callEnvC fd L fa⟩) (D : FnAt g name fa o fd body ps k) (F : FnSc k ps) (h : SndSs k SP xs body) (hl : args.length = ps.length) (hR : Rm (g.r + 2) A) (S : St g ow s) (hv : RVs (vis s.heap ow) args vs) (he : evSs g.F SP xs (rho0 n args) = some out) (nl : g.h₁.NoLimit) :
    WP g.prog g.w A (call (.ref fa) vs) (PE s ow (retOf out)) s :=
  cells_call (mg' := g.mg) (ρ := rho0 n args) G D F (by rw [hv.length, hl]) hR S (fun i x zz => by
    rw [rho0_get]
    cases h : args[i]? with
    | none => exact ⟨fun zz zz => .un, fun zz => rfl⟩
    | some p =>
      obtain ⟨v, e, r⟩ := hv.get h
      exact ⟨fun v' e' => by rw [e] at e'; cases e'; exact .val r, fun q => by rw [e] at q; cases q⟩) nl fun a s₁ e hg hρ zz En => by
    subst e
    exact (h a out (by rw [hρ, show a.F = g.F from congrArg Pg.F hg]; exact he)).mono fun f s2 h2 => En.done h2
end
structure Glo (g : Pg) (gl : List (Str × PV)) (gi : Bool) (hd : Option Addr) : Prop where
  B : Base g.h₁ g.mg g.mb
  gl : ∀ x p, (x, p) ∈ gl → ∃ v, g.mg x = some v ∧ RV g.h₁.get? p v
  fn : ∀ f ps p, g.F f ps = some p → ∃ fa o fd, g.mg f = some (.ref fa) ∧ g.h₁.get? fa = some o ∧ o.data = .func fd ∧ FnOk g fa ps p
  gi : gi = true → GiFn g
  hw : ∀ cl, hd = some cl → Hw g cl
noncomputable def fnF (F : FT) (SP : SPT) (name : Str) (np z : Nat) (x : Ss) : FT := fun f ps =>
  if f == name then (if ps.length = np then (evSs F SP x (rho0 z ps)).map retOf else none) else F f ps
noncomputable abbrev Pg.more (g : Pg) (SP : SPT) (name : Str) (np z : Nat) (x : Ss) : Pg := { g with F := fnF g.F SP name np z x, r := g.r + 2 }
section
variable {g : Pg} {gl : List (Str × PV)} {gi : Bool} {hd : Option Addr} {k : KC} {SP : SPT}
theorem Hw.more {F : FT} {r : Nat} {c : Addr} (H : Hw g c) (h : g.r ≤ r) : Hw { g with F := F, r := r } c := by
  obtain ⟨K, hK, hk, ⟨f, m, q⟩, f2, m2, q2⟩ := H.K
  exact ⟨H.cls, ⟨K, hK, hk, ⟨f, ⟨m.fi, m.ty, m.sh, m.ob⟩, fun A ow s x d l va vb a b hs hR S => q A ow s x d l va vb a b hs (hR.le h) ⟨S.top, S.old, S.live⟩⟩, f2, ⟨m2.fi, m2.ty, m2.sh, m2.ob⟩, fun A ow s x d l va t hs hR S => q2 A ow s x d l va t hs (hR.le h) ⟨S.top, S.old, S.live⟩⟩, fun A s hR => H.made A s (hR.le h)⟩
set_option tactic.hygienic true in
theorem Glo.add {name : Str} {fa : Addr} {o : Obj} {fd : FuncData} {body : List Stmt} {ps : List Str} {xs : Ss} {n : Nat} (G : Glo g gl gi hd) (hk : k.gl = gl ∧ k.gi = gi ∧ k.hd = hd ∧ k.rf = false) (D : FnAt g name fa o fd body ps k) (hc : fnChk k ps = true) (h : SndSs k SP xs body) : Glo (g.more SP name ps.length n xs) gl gi hd where
  B := G.B
  gl := G.gl
  gi hg := by
    obtain ⟨fa, o, fd, a, b, c, d⟩ := G.gi hg
    exact ⟨fa, o, fd, a, b, c, fun F r A ow s tgt rr t u w K xs v l gl hh hd S => d F r A ow s tgt rr t u w K xs v l gl hh hd ⟨S.top, S.old, S.live⟩⟩
  hw cl h := (G.hw cl h).more (Nat.le_add_right _ _)
  fn f args p hf := by
    change (if f == name then (if args.length = ps.length then (evSs g.F SP xs (rho0 n args)).map retOf else none) else g.F f args) = some p at hf
    split at hf
    · rename_i hn
      split at hf
      · rename_i hl
        obtain ⟨out, he, rfl⟩ := Option.map_eq_some_iff.mp hf
        have F := fnChk_ok hc
        refine ⟨fa, o, fd, beq_iff_eq.mp hn ▸ D.gl, D.ob, D.dat, fun A ow s vs hR S hv => ?_⟩
        exact call_sound (g := g) (fun L zz hR O => ⟨⟨G.B, hR, O, F.N⟩, by rw [hk.1]; exact G.gl, G.fn, by rw [hk.2.1]; exact G.gi, by rw [hk.2.2.1]; exact G.hw, fun h => by rw [hk.2.2.2] at h; cases h⟩) D F h hl hR ⟨S.top, S.old, S.live⟩ hv he G.B.nolimit
      · cases hf
    · obtain ⟨fa, o, fd, a, b, c, d⟩ := G.fn f args p hf
      exact ⟨fa, o, fd, a, b, c, fun A ow s vs hR S => d A ow s vs (hR.le (Nat.le_add_right _ _)) ⟨S.top, S.old, S.live⟩⟩
end
noncomputable abbrev MAt (h₁ : Heap) (f : Addr) (fd : FuncData) (body : List Stmt) (sc : Scope) : Prop := (∃ o, h₁.get? f = some o ∧ o.data = .func fd) ∧ (h₁.CodeRec fd.code fd.qualname) ∧ (fd.body = .stmts body) ∧ (fd.closure = []) ∧ (fd.globals = mainGlobals) ∧ (fd.builtins = builtinsNs) ∧ (fd.scope = sc) ∧ (sc.kind = .function) ∧ (sc.isCoroutine = false) ∧ (sc.isGenerator = false) ∧ (∀ x ∈ sc.names, x.2 ≠ .cell)
section
variable {a_ b_ c_ d_ e_} (x_ : MAt a_ b_ c_ d_ e_)
def MAt.ob := x_.1
def MAt.code := x_.2.1
def MAt.body := x_.2.2.1
def MAt.clo := x_.2.2.2.1
def MAt.glob := x_.2.2.2.2.1
def MAt.blt := x_.2.2.2.2.2.1
def MAt.scp := x_.2.2.2.2.2.2.1
def MAt.kind := x_.2.2.2.2.2.2.2.1
def MAt.co := x_.2.2.2.2.2.2.2.2.1
def MAt.ge := x_.2.2.2.2.2.2.2.2.2.1
def MAt.cell := x_.2.2.2.2.2.2.2.2.2.2
end
noncomputable def noF : FT := fun zz zz => none
noncomputable abbrev kM (sc : Scope) (nm : List (Nat × Str)) : KC := ⟨sc, nm, true, [], false, none, false⟩
noncomputable abbrev Hid (ow hid : Ow) : Prop := (∀ b, ow b = .free → hid b = .free) ∧ (∀ b, ow b ≠ .free → hid b = .ext ∨ hid b = .aux)
section
variable {a_ b_} (x_ : Hid a_ b_)
def Hid.hf := x_.1
def Hid.hh := x_.2
end
noncomputable def hidL (ow : Ow) (l : Addr) : Ow := fun b => if b = l then .aux else ow.hide b
theorem hidL_ok {ow : Ow} {l : Addr} (h : ow l ≠ .free) : Hid ow (hidL ow l) := ⟨fun b hb => by
  unfold hidL
  rw [if_neg (show ¬ b = l from fun q => h (q ▸ hb))]
  exact (ow.hide_or b).elim (·.1) fun q => absurd hb q.2, fun b hb => by
  unfold hidL
  split
  · exact .inr rfl
  · exact (ow.hide_or b).elim (fun q => absurd q.2 hb) fun q => .inl q.1⟩
theorem hide_ok {ow : Ow} : Hid ow ow.hide := ⟨fun b hb => (ow.hide_or b).elim (·.1) fun q => absurd hb q.2, fun b hb => (ow.hide_or b).elim (fun q => absurd q.2 hb) fun q => .inl q.1⟩
noncomputable abbrev Bnd (g : Pg) (sc : Scope) (nm : List (Nat × Str)) (binds : List (Str × Value)) (ρ : Rho) (s : Shared) (ow : Ow) : Prop := (∀ x ∈ binds, sc.names.lookup x.1 = some .local) ∧ (∀ n ∈ nm, sc.names.lookup n.2 = some .local) ∧ (NmOk nm) ∧ (∀ i x, (i, x) ∈ nm → ArgR s ow (get ρ i) (binds.reverse.lookup x))
section
variable {a_ b_ c_ d_ e_ f_ g_} (x_ : Bnd a_ b_ c_ d_ e_ f_ g_)
def Bnd.loc := x_.1
def Bnd.nl := x_.2.1
def Bnd.N := x_.2.2.1
def Bnd.sl := x_.2.2.2
end
section
variable {g : Pg} {A : Around} {s s₀ : Shared} {ow hid : Ow} {f : Addr} {fd : FuncData} {body : List Stmt} {sc : Scope} {pos : List Value} {kw : List (Str × Value)} {binds : List (Str × Value)} {nm : List (Nat × Str)} {ρ : Rho} {Q : Value → Shared → Prop}
theorem meth_code (B : Base g.h₁ g.mg g.mb) (hF : g.F = noF) (M : MAt g.h₁ f fd body sc) (hR : Rm (g.r + 2) A) (hT0 : Tops g.h₁ s₀.heap) (S : St g ow s) (H : Hid ow hid)
    (hbind : ∀ (A : Around) (E : Value → Shared → Prop) (Q : List (Str × Value) → Shared → Prop), Q binds s → wpAny (model g.prog g.w) A (bindArgs fd ⟨pos, kw⟩) Q E s₀) (b : Bnd g sc nm binds ρ s ow)
    (h : ∀ (a : At (kM sc nm)) (s₁ : Shared), a.s = s₁ → a.c.g = g → a.ρ = ρ → (∀ b, ow b ≠ .free → a.ow b = hid b) → (a.ow a.env.locals).mine → Ent ow a.ow s s₁ → a.c.WP (execs body a.env) (fun f s' => Q (flowV f) s') s₁) :
    codeAny (model g.prog g.w) A (.call (.ref f) ⟨pos, kw⟩) (fun r s' => match r with | .ok (.ret v) => Q v s' | _ => False) s₀ := by
  obtain ⟨o, ho, hd⟩ := M.ob
  refine codeAny_call_function (Nat.lt_of_le_of_lt (Nat.le_refl _) hR.room) (hT0 _ _ ho) hd (by rw [M.scp]; exact M.co) (by rw [M.scp]; exact M.ge) M.body (M.code.keeps hT0) (hbind _ _ _ ?_)
  refine wpAny_newFunctionEnv (by rw [M.scp]; exact M.cell) (by rw [M.scp]; exact b.loc) (fun h₀ hns hsb => ⟨(B.nolimit.keeps S.top).fresh _ hsb, codeAny_func ?_⟩) (by rw [M.scp]; exact M.kind)
  have hk : ∀ b o, s.heap.get? b = some o → h₀.get? b = some o := fun b o e => hsb.extBut b o (Nat.ne_of_lt (Heap.lt_size e)) (Heap.get?_push_of_some _ e)
  clear hsb
  show wpAny _ (A.deeper (callEnv fd s.heap.objs.size f)) (execs body (callEnv fd s.heap.objs.size f)) _ (fun e s' => wpAny _ (A.deeper (callEnv fd s.heap.objs.size f)) (leaving (callEnv fd s.heap.objs.size f) e) _ _ s') _
  have hkd : ∀ y, (callEnv fd s.heap.objs.size f).kindOf y = sc.names.lookup y := fun y => by show fd.scope.names.lookup y = _; rw [M.scp]
  have hcl : (callEnv fd s.heap.objs.size f).cells = [] := M.clo
  have O : EnvOk sc (callEnv fd s.heap.objs.size f) := ⟨by show fd.scope.kind = _; rw [M.scp]; exact M.kind, M.glob, M.blt, fun x h => (hkd x).trans h, fun x h => absurd rfl (M.cell _ (mem_of_lookup h)), fun x h => (hkd x).trans h⟩
  have hRm : Rm (g.r + 1) (A.deeper (callEnv fd s.heap.objs.size f)) := hR.deeper _
  have hLe : (callEnv fd s.heap.objs.size f).locals = s.heap.objs.size := rfl
  generalize callEnv fd s.heap.objs.size f = env at O hkd hcl hRm hLe ⊢
  have hS : Step0 s { s with heap := h₀, toks := s.toks + binds.length } := Step.heapTok fun b o e zz => hk b o e
  rw [← hLe] at hns
  have E : Entry ⟨g, A.deeper env, kM sc nm, env⟩ ρ ow hid s { s with heap := h₀, toks := s.toks + binds.length } :=
    ⟨S, hS, rfl, H.hf, H.hh, by rw [hLe]; exact size_none _, (fun x a e => by rw [show env.cells = [] from hcl] at e; cases e), by rw [show env.cells = [] from hcl]; exact .nil, _, hns, (fun x a e => by rw [show env.cells = [] from hcl] at e; cases e), fun i x hi => ⟨_, .loc ((hkd x).trans (b.nl _ hi)) rfl, b.sl i x hi⟩⟩
  obtain ⟨T, En, he⟩ := E.go
  have D : Good ⟨g, A.deeper env, kM sc nm, env⟩ := ⟨⟨B, hRm, O, b.N⟩, (fun zz zz h => nomatch h), (fun f ps p h => by rw [show g.F = noF from hF] at h; cases h), (fun h => nomatch h), (fun zz h => nomatch h), fun h => nomatch h⟩
  refine (h ⟨⟨g, A.deeper env, kM sc nm, env⟩, ρ, frameOw hid env, _, rfl, D, T⟩ _ rfl rfl rfl he (by show (frameOw hid env env.locals).mine; rw [show frameOw hid env env.locals = .loc from if_pos rfl]; trivial) En).mono fun f s' hf => ?_
  cases f <;> exact hf
theorem meth_call (B : Base g.h₁ g.mg g.mb) (hF : g.F = noF) (M : MAt g.h₁ f fd body sc) (hR : Rm (g.r + 2) A) (S : St g ow s) (H : Hid ow hid) (hbind : BindsTo s fd ⟨pos, kw⟩ binds) (b : Bnd g sc nm binds ρ s ow)
    (h : ∀ (a : At (kM sc nm)) (s₁ : Shared), a.s = s₁ → a.c.g = g → a.ρ = ρ → (∀ b, ow b ≠ .free → a.ow b = hid b) → (a.ow a.env.locals).mine → Ent ow a.ow s s₁ → a.c.WP (execs body a.env) (fun f s' => Q (flowV f) s') s₁) :
    WP g.prog g.w A (call (.ref f) pos kw) Q s :=
  wpAny_call (codeAny_mono (meth_code B hF M hR S.top S H (fun A E Q => hbind _ A E Q) b h) fun r s' hr => by
    cases r with
    | ok f => cases f <;> exact hr
    | error e => exact hr.elim)
end
end Mine
namespace Mine
open PySem PySem.W PyProof.Rows PySem.Builtin.Re
theorem slot_pat_search : Slot "re.Pattern" "search" "re.Pattern.search" :=
  .of (owner := "re.Pattern") (n := "search") (by rw [typeLookup_type, builtinLookup_eq_fast]; kernel_rfl) (by decide +kernel) (by decide +kernel) (by decide +kernel)
    (by first | exact .inl (by decide +kernel) | exact .inr (by decide +kernel)) (by rw [isSubtype_type]; kernel_rfl)
theorem type_pat_search : typeOf (.builtin "re.Pattern.search") = pure (.type "method_descriptor") := by show builtinType _ = _; rw [builtinType_eq_fast]; kernel_rfl
theorem entry_pat_search : entryFor table "re.Pattern.search" = some Builtin.«re.Pattern.search» := entryFor_of_tree (by kernel_rfl)
theorem args_pat_search (a b : Value) : argsOk "re.Pattern.search" ⟨[a, b], []⟩ := by unfold argsOk; kernel_rfl
theorem named_search (v : Value) : reNamed "re.Pattern.search" "search" ["string", "pos", "endpos"] 1 [v] [] = pure [some v, none, none] := by kernel_rfl
noncomputable def codeN : List Nat := [14, 10, 4, 1, 1, 22, 0, 31, 16, 127, 0, 13, 7, 22, 0, 31, 16, 127, 0, 1]
noncomputable def codeV : List Nat := [14, 14, 4, 1, 1, 9, 4294966783, 0, 0, 2147483648, 0, 0, 0, 0, 0, 13, 11, 9, 4294966783, 0, 0, 2147483648, 0, 0, 0, 0, 0, 1]
theorem inSetN {c : Nat} (h : okC c = true) (seen : Sre.Seen) : ∃ s', Sre.inSet codeN.toArray c codeN.toArray.size 5 true seen = .ok (false, s') := by
  unfold okC at h
  simp only [Bool.and_eq_true, decide_eq_true_eq] at h
  have h1 : (decide (0 ≤ c) && decide (c ≤ 31)) = false := by simp; lia
  have h2 : (c == 127) = false := by simp; lia
  refine ⟨((seen.add 22).add 16).add 0, ?_⟩
  show (if (decide (0 ≤ c) && decide (c ≤ 31)) = true then _ else (if (c == 127) = true then _ else _)) = _
  rw [h1, h2]; rfl
theorem inSetV {c : Nat} (h : okC c = true) (seen : Sre.Seen) : ∃ s', Sre.inSet codeV.toArray c codeV.toArray.size 5 true seen = .ok (false, s') := by
  have key : ∀ c : Fin 128, okC c.val = true → (c.val < 256 && (codeV.toArray.getD (5 + (1 + c.val / 32)) 0).testBit (c.val % 32)) = false := by decide +kernel
  have hc : c < 128 := by unfold okC at h; simp only [Bool.and_eq_true, decide_eq_true_eq] at h; lia
  have := key ⟨c, hc⟩ h
  refine ⟨(seen.add 9).add 0, ?_⟩
  show (if (decide (c < 256) && (codeV.toArray.getD (5 + (1 + c / 32)) 0).testBit (c % 32)) = true then _ else _) = _
  rw [this]; rfl
theorem admitted_none {m : Sre.M} {code : List Nat} (hm : m.code = code.toArray) (hs : ∀ {c : Nat}, okC c = true → ∀ seen, ∃ s', Sre.inSet code.toArray c code.toArray.size 5 true seen = .ok (false, s')) (ht : ∀ i, i < m.lim → okC (m.text.getD i 0) = true) :
    ∀ (fuel s : Nat) (seen : Sre.Seen), ∃ s', Sre.M.admitted m fuel s seen = .ok (none, s')
  | 0, s, seen => ⟨seen, rfl⟩
  | fuel + 1, s, seen => by
    unfold Sre.M.admitted
    by_cases h : s ≥ m.lim
    · rw [if_pos h]; exact ⟨_, rfl⟩
    · rw [if_neg h, hm]
      obtain ⟨s1, e1⟩ := hs (ht s (by lia)) seen
      rw [e1]
      exact admitted_none hm @hs ht fuel (s + 1) s1
theorem run_failed (m : Sre.M) (h1 : m.answer = some false) (h2 : m.frames = []) (h3 : m.outcome = none) : (m.runFor reTurnSteps).outcome = some .failed := by
  obtain ⟨⟩ := m
  dsimp only at h1 h2 h3
  subst h1; subst h2; subst h3
  rfl
theorem attempt_failed {m : Sre.M} {code : List Nat} (hm : m.code = code.toArray) (hf : m.hasFirstSet = true) (hs : ∀ {c : Nat}, okC c = true → ∀ seen, ∃ s', Sre.inSet code.toArray c code.toArray.size 5 true seen = .ok (false, s'))
    (ht : ∀ i, i < m.lim → okC (m.text.getD i 0) = true) (h2 : m.frames = []) (h3 : m.outcome = none) : ((m.attemptFrom 0 true).runFor reTurnSteps).outcome = some .failed := by
  unfold Sre.M.attemptFrom
  obtain ⟨s', e⟩ := admitted_none hm @hs ht (m.lim + 1 - 0) 0 m.seen
  rw [hf, e]
  exact run_failed _ rfl h2 h3
theorem search_failed {code text : List Nat} (hc : code = codeN ∨ code = codeV) (ht : ∀ c ∈ text, okC c = true) :
    ((Sre.forSearch code.toArray text.toArray 0 0 text.toArray.size false).runFor reTurnSteps).outcome = some .failed := by
  have htx : ∀ i, i < text.toArray.size → okC (text.toArray.getD i 0) = true := fun i hi => by
    have hi' : i < text.length := by simpa using hi
    have : text.toArray.getD i 0 = text[i] := by simp [Array.getD, hi']
    rw [this]
    exact ht _ (List.getElem_mem hi')
  by_cases hn : text = []
  · subst hn
    rcases hc with rfl | rfl <;> rfl
  · have hpos : 0 < text.length := by cases text with | nil => exact absurd rfl hn | cons => simp
    have hlt : (decide (0 > text.toArray.size) || decide (text.toArray.size - 0 < 1)) = false := by
      simp; lia
    rcases hc with rfl | rfl
    · have e : Sre.forSearch codeN.toArray text.toArray 0 0 text.toArray.size false = (if (decide (0 > text.toArray.size) || decide (text.toArray.size - 0 < 1)) = true then _ else Sre.M.attemptFrom _ 0 true) := rfl
      rw [e, hlt, if_neg Bool.false_ne_true]
      exact attempt_failed (code := codeN) rfl rfl inSetN htx rfl rfl
    · have e : Sre.forSearch codeV.toArray text.toArray 0 0 text.toArray.size false = (if (decide (0 > text.toArray.size) || decide (text.toArray.size - 0 < 1)) = true then _ else Sre.M.attemptFrom _ 0 true) := rfl
      rw [e, hlt, if_neg Bool.false_ne_true]
      exact attempt_failed (code := codeV) rfl rfl inSetV htx rfl rfl
structure PatAt (h : Heap) (P : Addr) (code : List Nat) : Prop where
  pat : ∃ T x t a b c, h.get? P = some { cls := .type "re.Pattern", dict := none, data := .fields #[.str x t, .int 32 a, .int 0 b, .none, .none, .ref T, .int 0 c] } ∧
    ∃ vs : List Value, vs.map reRawOf = code.map (Int.ofNat ·) ∧ h.get? T = some { cls := .type "tuple", dict := none, data := .seq vs.toArray }
section
variable {prog : Program} {w : World} {A : Around} {s : Shared}
theorem drive_succ (n : Nat) (m : Sre.M) : reDrive (n + 1) m = (if (m.runFor reTurnSteps).outcome.isSome then pure (m.runFor reTurnSteps) else do rule "sre.turn"; reDrive n (m.runFor reTurnSteps)) := rfl
theorem drive_failed {m : Sre.M} {Q : Option Sre.M → Shared → Prop} (h : (m.runFor reTurnSteps).outcome = some .failed) (hq : Q none s) : WP prog w A (reRunToEnd m) Q s := by
  unfold reRunToEnd
  rw [show (2 : Nat) ^ 64 = 18446744073709551615 + 1 from rfl, drive_succ, h]
  refine wpAny_bind (wpAny_pure ?_)
  refine wpAny_bind (wpAny_forIn_list _ (fun zz zz s' => s' = s) (fun zz s' => s' = s) (fun x rest b s' hs => ?_) (fun zz zz h => h) _ _ rfl |> fun z => WP.mono z fun zz s' hs => ?_)
  · subst hs
    rw [h]
    exact wpAny_pure hq
  · subst hs
    split
    · exact wpAny_bind (wpAny_rule (wpAny_pure rfl))
    · exact wpAny_pure rfl
set_option tactic.hygienic true in
theorem search_none {P : Addr} {code a : List Nat} {t : Tok} (hP : PatAt s.heap P code) (hc : code = codeN ∨ code = codeV) (ha : ∀ c ∈ a, okC c = true) (hl : a.length ≤ LEN) :
    WP prog w A (call (.builtin "re.Pattern.search") [.ref P, .str ⟨a.toArray⟩ t]) (fun v s' => v = .none ∧ Step0 s s') s := by
  obtain ⟨T, x, t1, a1, b1, c1, hp, vs, hv, hT⟩ := hP.pat
  refine wpAny_call_entry slot_pat_search ⟨_, hp, rfl⟩ entry_pat_search ?_ (args_pat_search _ _)
  unfold Builtin.«re.Pattern.search» reTarget
  dsimp only
  rw [named_search]
  refine wpAny_bind (wpAny_bind (wpAny_pure ?_))
  dsimp only
  refine wpAny_bind (wpAny_pure (wpAny_bind (wpAny_pure ?_)))
  refine wpAny_bind (wpAny_fieldsOf hp rfl ?_)
  refine wpAny_bind (wpAny_bind (wpAny_pure (wpAny_pure ?_)))
  dsimp only
  split
  · rename_i h; exact absurd (show false = true from h) Bool.false_ne_true
  split
  · rename_i h; exact absurd (show false = true from h) Bool.false_ne_true
  refine wpAny_bind ?_
  show wpAny _ _ (pure ()) _ _ _
  refine wpAny_pure (wpAny_bind ?_)
  show wpAny _ _ (reRawItems (.ref T)) _ _ _
  unfold reRawItems
  refine wpAny_bind (wpAny_seqItems hT rfl (wpAny_pure (wpAny_pure ?_)))
  have e1 : Array.map (fun x => x.toNat) (((some vs.toArray).getD #[]).map reRawOf) = code.toArray := by
    show Array.map _ (vs.toArray.map reRawOf) = _
    have e0 : vs.toArray.map reRawOf = (vs.map reRawOf).toArray := by simp
    rw [e0, hv, List.map_toArray, List.map_map]
    congr 1
    have : ((fun x : Int => x.toNat) ∘ fun x : Nat => Int.ofNat x) = id := by funext x; rfl
    rw [this, List.map_id]
  have e2 : min ((2 ^ 63 - 1 : Int)).toNat a.toArray.size = a.toArray.size := by
    have : a.length ≤ 100000 := hl
    simp only [List.size_toArray]
    have e : ((2 : Int) ^ 63 - 1).toNat = 9223372036854775807 := rfl
    rw [e]; lia
  dsimp only
  unfold reAnswer
  rw [e1, e2]
  refine wpAny_bind (drive_failed (search_failed hc ha) ?_)
  exact wpAny_pure ⟨_, rfl, rfl, Step.refl _ _⟩
end
end Mine
namespace Mine
open PySem PySem.W PyProof.Rows
theorem pat_ga : typeLookup (.type "re.Pattern") "__getattribute__" = pure (some (.builtin "object.__getattribute__")) := by rw [typeLookup_type, builtinLookup_eq_fast]; kernel_rfl
theorem pat_canon : (Manifest.canonical "object.__getattribute__" != "object.__getattribute__") = false := by decide +kernel
theorem pat_gn : typeLookup (.type "re.Pattern") "__getattr__" = pure none := by rw [typeLookup_type, builtinLookup_eq_fast]; kernel_rfl
theorem getMethod_pat {prog : Program} {w : World} {A : Around} {s : Shared} {P : Addr} {code : List Nat} {pl : Sem Bool} {Q : Value × List Value → Shared → Prop} (hP : PatAt s.heap P code) (h : Q (.builtin "re.Pattern.search", [.ref P]) s) : WP prog w A (getMethod (.ref P) "search" pl) Q s := by
  obtain ⟨T, x, t, a, b, c, ho, -⟩ := hP.pat
  have hT : s.TypeIs (.ref P) "re.Pattern" := ⟨_, ho, rfl⟩
  unfold getMethod
  refine wpAny_bind (wpAny_specialOf hT pat_ga ?_)
  show WP prog w A (if (Manifest.canonical "object.__getattribute__" != "object.__getattribute__") = true then _ else _) Q s
  rw [pat_canon, if_neg Bool.false_ne_true]
  exact wpAny_bind (wpAny_specialOf hT pat_gn (wpAny_bind (wpAny_specialOf hT slot_pat_search.lookup (wpAny_bind (wpAny_of_eq type_pat_search (wpAny_bind (wpAny_load ho (wpAny_bind (wpAny_rule (wpAny_pure h))))))))))
theorem PatAt.keep {h h' : Heap} {P : Addr} {code : List Nat} (x : PatAt h P code) (hk : ∀ b o, h.get? b = some o → h'.get? b = some o) : PatAt h' P code := by
  obtain ⟨T, x, t, a, b, c, ho, vs, hv, hT⟩ := x.pat
  exact ⟨T, x, t, a, b, c, hk _ _ ho, vs, hv, hk _ _ hT⟩
structure HTop (g : Pg) : Prop where
  B : Base g.h₁ g.mg g.mb
  F : g.F = noF
  ty : g.mg "type" = none
  st : g.mg "str" = none
  pn : ∃ P, g.mg "_name_disallowed_re" = some (.ref P) ∧ PatAt g.h₁ P codeN
  pv : ∃ P, g.mg "_value_disallowed_re" = some (.ref P) ∧ PatAt g.h₁ P codeV
noncomputable abbrev Sc' (sc : Scope) (nm : List (Nat × Str)) (gs : List Str) : Prop := (∀ n ∈ nm, sc.names.lookup n.2 = some .local) ∧ (∀ x ∈ gs, isGlob sc x = true) ∧ (NmOk nm)
section
variable {a_ b_ c_} (x_ : Sc' a_ b_ c_)
def Sc'.l := x_.1
def Sc'.g := x_.2.1
def Sc'.N := x_.2.2
end
noncomputable def scB (sc : Scope) (nm : List (Nat × Str)) (gs : List Str) : Bool := nm.all (fun n => sc.names.lookup n.2 == some .local) && (gs.all (isGlob sc) && nmOkB nm)
theorem scB_ok {sc : Scope} {nm : List (Nat × Str)} {gs : List Str} (h : scB sc nm gs = true) : Sc' sc nm gs :=
  have ⟨h1, h2⟩ := (Bool.and_eq_true _ _).mp h
  have ⟨h3, h4⟩ := (Bool.and_eq_true _ _).mp h2
  ⟨fun n hn => beq_iff_eq.mp (List.all_eq_true.mp h1 n hn), List.all_eq_true.mp h3, nmOkB_ok h4⟩
section
variable {sc : Scope} {nm : List (Nat × Str)} {i : Nat} {x : Str} {pos : Pos}
theorem ldObj {k : KC} (a : At k) {o : Addr} {Q : Value → Shared → Prop} (n : Nm k i x) (h : get a.ρ i = .obj o) (hq : Q (.ref o) a.s) : a.c.WP (eval (.Name x pos) a.env) Q a.s :=
  n.load a (by rw [h]; exact fun q => nomatch q) fun v hv => by rw [h] at hv; cases hv; exact hq
theorem ldVal {k : KC} (a : At k) {p : PV} {Q : Value → Shared → Prop} (n : Nm k i x) (h : get a.ρ i = .val p) (hq : ∀ v, RV (vis a.s.heap a.ow) p v → Q v a.s) : a.c.WP (eval (.Name x pos) a.env) Q a.s :=
  n.load a (by rw [h]; exact fun q => nomatch q) fun v hv => by rw [h] at hv; cases hv; exact hq v ‹_›
end
noncomputable abbrev nmL (l : List Str) : List (Nat × Str) := (List.range l.length).zip l
theorem nmL_get {l : List Str} {i : Nat} {x : Str} (h : (i, x) ∈ nmL l) : l[i]? = some x := by
  obtain ⟨j, hj⟩ := List.getElem?_of_mem h
  obtain ⟨h1, h2⟩ := List.getElem?_zip_eq_some.mp hj
  obtain rfl : j = i := by
    have := (List.getElem?_eq_some_iff.mp h1)
    obtain ⟨q, e⟩ := this
    rw [List.getElem_range] at e
    exact e
  exact h2
theorem lookup_rev : ∀ {l : List Str} {vs : List Value} {i : Nat} {x : Str} {v : Value}, l.Pairwise (· ≠ ·) → l[i]? = some x → vs[i]? = some v → ((l.zip vs).reverse).lookup x = some v
  | [], _, _, _, _, _, h, _ => nomatch h
  | _ :: _, [], _, _, _, _, _, h => nomatch h
  | y :: l, u :: vs, 0, x, v, hp, h1, h2 => by
    cases h1
    cases h2
    rw [List.zip_cons_cons, List.reverse_cons, List.lookup_append, List.lookup_eq_none_iff.mpr fun z hz => bne_iff_ne.mpr (fun q => (List.pairwise_cons.mp hp).1 z.1 (List.of_mem_zip (show (z.1, z.2) ∈ l.zip vs from List.mem_reverse.mp hz)).1 q), List.lookup_cons, beq_self_eq_true]; rfl
  | y :: l, u :: vs, i + 1, x, v, hp, h1, h2 => by
    rw [List.zip_cons_cons, List.reverse_cons, List.lookup_append, lookup_rev (l := l) (vs := vs) (List.pairwise_cons.mp hp).2 h1 h2]; rfl
noncomputable def rhoL (l : List Str) (args : List (SV × Value)) : Rho := args.map (·.1) ++ List.replicate (l.length - args.length) .un
theorem bnd_of {g : Pg} {sc : Scope} {l : List Str} {gs : List Str} {args : List (SV × Value)} {s : Shared} {ow : Ow} (C : Sc' sc (nmL l) gs) (hd : l.Pairwise (· ≠ ·)) (h : ∀ e ∈ args, ArgR s ow e.1 (some e.2)) : Bnd g sc (nmL l) (l.zip (args.map (·.2))) (rhoL l args) s ow := by
  refine ⟨fun x hx => ?_, C.l, C.N, fun i x hi => ?_⟩
  · obtain ⟨i, hi⟩ := List.getElem?_of_mem (List.of_mem_zip (show (x.1, x.2) ∈ _ from hx)).1
    exact C.l (i, x.1) (List.mem_of_getElem? (i := i) (List.getElem?_zip_eq_some.mpr ⟨List.getElem?_range (List.getElem?_eq_some_iff.mp hi).1, hi⟩))
  · have hx := nmL_get hi
    unfold get rhoL
    rw [List.getD_eq_getElem?_getD]
    cases q : args[i]? with
    | some e =>
      rw [List.getElem?_append_left (by rw [List.length_map]; exact (List.getElem?_eq_some_iff.mp q).1), List.getElem?_map, q, lookup_rev hd hx (v := e.2) (by rw [List.getElem?_map, q]; rfl)]
      exact h e (List.mem_of_getElem? q)
    | none =>
      rw [List.getElem?_append_right (by rw [List.length_map]; exact List.getElem?_eq_none_iff.mp q), List.getElem?_replicate]
      split <;> exact .un
noncomputable abbrev nsV : List Str := ["self", "value", "name", "regex"]
noncomputable abbrev nmV : List (Nat × Str) := nmL nsV
noncomputable def ConvOk (g : Pg) (f : Addr) : Prop := ∀ (A : Around) (ow : Ow) (s : Shared) (x : Addr) (va : Value) (a : List Nat) (b : Bool), Rm 2 A → St g ow s → RV (vis s.heap ow) (.str a) va → okH a → WP g.prog g.w A (call (.ref f) [.ref x, va] [("name", .bool b)]) (PE s ow (.str a)) s
theorem conv_call {g : Pg} {f : Addr} {fd : FuncData} {sc : Scope} {rest els : List Stmt} {rs : List Stmt} {p1 p2 p3 p4 p5 p6 p7 p8 p9 p10 p11 p12 p13 p14 p15 p16 p17 p18 p19 : Pos}
    (HT : HTop g) (M : MAt g.h₁ f fd (.If (.Compare (.Call (.Name "type" p1) [.Name "value" p2] [] p3) [.Is] [.Name "str" p4] p5) [.Assign [.Name "regex" p6] (.IfExp (.Name "name" p7) (.Name "_name_disallowed_re" p8) (.Name "_value_disallowed_re" p9) p10) p11,
      .If (.Call (.Attribute (.Name "regex" p12) "search" p13) [.Name "value" p14] [] p15) rs [] p16, .Return (some (.Name "value" p17)) p18] els p19 :: rest) sc)
    (hsc : scB sc nmV ["type", "str", "_name_disallowed_re", "_value_disallowed_re"] = true) (hln : (p13.endLine == p15.line) = true)
    (hbind : ∀ x v b, bindArgs fd ⟨[x, v], [("name", b)]⟩ = pure [(("self" : Str), x), ("value", v), ("name", b)]) : ConvOk g f := fun A ow s x va a b hR S hv ha => by
  have C := scB_ok hsc
  have m1 : ((1 : Nat), ("value" : Str)) ∈ nmV := by decide
  have m2 : ((2 : Nat), ("name" : Str)) ∈ nmV := by decide
  have m3 : ((3 : Nat), ("regex" : Str)) ∈ nmV := by decide
  have n1 : Nm (kM sc nmV) 1 "value" := ⟨m1, by decide⟩
  have n2 : Nm (kM sc nmV) 2 "name" := ⟨m2, by decide⟩
  have n3 : No (kM sc nmV) 3 "regex" := ⟨⟨m3, by decide⟩, rfl⟩
  refine meth_call (g := { g with r := 0 }) HT.B HT.F M hR ⟨S.top, S.old, S.live⟩ hide_ok (.of_eq (hbind _ _ _)) (bnd_of (l := nsV) (args := [(.obj x, .ref x), (.val (.str a), va), (.val (.bool b), .bool b)]) C (by decide) fun e he => ?_) fun fr s₁ hs1 hg hρ how hloc En => ?_
  · rcases List.mem_cons.mp he with rfl | he
    · exact .obj
    rcases List.mem_cons.mp he with rfl | he
    · exact .val hv
    · exact List.mem_singleton.mp he ▸ .val (p := .bool b) rfl
  · subst hs1
    have hmg : ∀ {y : Str} {v : Option Value}, g.mg y = v → fr.c.g.mg y = v := fun h => by rw [hg]; exact h
    have top : ∀ {s : Shared}, Tops fr.c.g.h₁ s.heap → Tops g.h₁ s.heap := fun h => by rw [hg] at h; exact h
    have gl : ∀ y ∈ (["type", "str", "_name_disallowed_re", "_value_disallowed_re"] : List Str), isGlob fr.c.k.sc y = true := fun y hy => by rw [fr.hk]; exact C.g y hy
    have tail : ∀ {P : Addr} {code : List Nat} {Q : Flow → Shared → Prop}, PatAt g.h₁ P code → (code = codeN ∨ code = codeV) → (∀ v s', PE s ow (.str a) v s' → Q (.ret v) s') →
        fr.c.WP (storeName fr.env "regex" (.ref P)) (fun zz s' => fr.c.WP (execs [.If (.Call (.Attribute (.Name "regex" p12) "search" p13) [.Name "value" p14] [] p15) rs [] p16, .Return (some (.Name "value" p17)) p18] fr.env) Q s') fr.s := fun {P code Q} hP hc hQ => by
      refine (n3.tn.store fr (sv := .obj P) .obj).mono fun zz s₂ h2 => ?_
      have g1 : get (fr.to h2.1).ρ 1 = .val (.str a) := by show get (set fr.ρ 3 _) 1 = _; rw [get_set_ne (by decide), hρ]; rfl
      have g3 : get (fr.to h2.1).ρ 3 = .obj P := by show get (set fr.ρ 3 _) 3 = _; rw [get_set_lt (by rw [hρ]; show 3 < 4; decide)]
      refine wpAny_execs_cons (wpAny_If (wpAny_isTrue_value (?_ : fr.c.WP _ _ _)))
      refine Call_meth (fun zz zz zz => rfl) rfl (by show 1 < 30; decide) hln (ldObj (fr.to h2.1) n3.toNm g3 (getMethod_pat (hP.keep (top h2.1.top)) ?_))
      refine callFn (.inl ⟨_, rfl⟩) rfl (args1 rfl (ldVal (fr.to h2.1) n1 g1 fun v hv => ?_))
      obtain ⟨⟨tk, rfl⟩, -⟩ := hv
      refine (search_none (hP.keep (top h2.1.top)) hc ha.2 ha.1.2).mono fun v s₃ h3 => ?_
      obtain ⟨rfl, hs3⟩ := h3
      refine truthy_none ?_
      rw [if_neg Bool.false_ne_true]
      have T3 := (fr.to h2.1).T.step hs3
      refine wpAny_execs_nil ?_
      refine wpAny_execs_cons (wpAny_Return_some (ldVal ((fr.to h2.1).to T3) n1 g1 fun v hv => hQ v s₃ (En.done (c := fr.c) (f := .ret v) (.ret fr.ow (h2.2.gr.trans (Gr.of0 hs3)) hv))))
    have bi : ∀ {y : Str} {v : Value} {p : Pos} {Q : Value → Shared → Prop}, y ∈ (["type", "str", "_name_disallowed_re", "_value_disallowed_re"] : List Str) → y ≠ "__name__" → g.mg y = none → bootBuiltins y = some v → Q v fr.s → fr.c.WP (eval (.Name y p) fr.env) Q fr.s := fun hy hn hm hb hq => eval_builtin fr.D.toRd0 fr.T.top (gl _ hy) hn (hmg hm) hb hq
    obtain ⟨PN, hPN, qPN⟩ := HT.pn
    obtain ⟨PV', hPV, qPV⟩ := HT.pv
    have r1 : get fr.ρ 1 = .val (.str a) := by rw [hρ]; rfl
    have r2 : get fr.ρ 2 = .val (.bool b) := by rw [hρ]; rfl
    refine wpAny_execs_cons (wpAny_If (isTrue_cmp rfl _ _ _ (wpAny_Compare1 (wpAny_bind (bi (v := .type "type") (by decide) (by decide) HT.ty (by decide +kernel) (callFn (first := []) (.inr ⟨_, rfl⟩) rfl (args1 rfl (ldVal fr n1 r1 fun v hv => ?_))))) rfl)))
    obtain ⟨⟨tk, rfl⟩, -⟩ := hv
    refine call_type_of (typeIs_str _ _ _) (by decide +kernel) (bi (v := .type "str") (by decide) (by decide) HT.st (by decide +kernel) (wpAny_is_plain rfl (wpAny_truthy_bool ?_)))
    rw [if_pos (by rfl)]
    refine wpAny_execs_cons (wpAny_Assign_Name (wpAny_IfExp (wpAny_isTrue_value (?_ : fr.c.WP _ _ _))) rfl)
    refine ldVal fr n2 r2 fun v hv => ?_
    cases hv
    refine wpAny_truthy_bool ?_
    cases b with
    | true =>
      rw [if_pos rfl]
      exact eval_global fr.D.toRd0 fr.T.top (gl _ (by decide)) (hmg hPN) (tail qPN (.inl rfl) fun v s' h => h)
    | false =>
      rw [if_neg Bool.false_ne_true]
      exact eval_global fr.D.toRd0 fr.T.top (gl _ (by decide)) (hmg hPV) (tail qPV (.inr rfl) fun v s' h => h)
section
variable {prog : Program} {w : World} {A : Around} {s : Shared} {K : Frag} {g : Pg} {c x d l : Addr}
theorem HD.at_ (H : HD s.heap c x d l) : ∃ hh t ep, PySem.W.InstAt s.heap x { cls := .ref c, dict := some d, data := .plain } c (some (hdDict hh t ep l)) := by
  obtain ⟨hh, t, ep, e⟩ := H.dict
  exact ⟨hh, t, ep, ⟨H.inst, rfl, rfl, e⟩⟩
theorem hdr_attr {b : Bool} {h₁ : Heap} {Q : Value → Shared → Prop} (C : HCl K h₁ c) (hT : Tops h₁ s.heap) (H : HD s.heap c x d l) (hq : Q (.ref l) { s with toks := s.toks + 1 }) : WP prog w A (getAttr (.ref x) "_headers" b) Q s := by
  obtain ⟨hh, t, ep, I⟩ := H.at_
  exact get_value (C.X.keeps hT) I C.ga (C.fo hh t ep l) rfl hq
theorem hdr_meth {m : Str} {f : Addr} {pl : Sem Bool} {Q : Value × List Value → Shared → Prop} (C : HCl K g.h₁ c) (hm : HMeth K g c m f) (hT : Tops g.h₁ s.heap) (H : HD s.heap c x d l) (hq : Q (.ref f, [.ref x]) s) : WP prog w A (getMethod (.ref x) m pl) Q s := by
  obtain ⟨hh, t, ep, I⟩ := H.at_
  exact method_fn (C.X.keeps hT) I C.ga C.ge hm.fi hm.ty (hm.sh hh t ep l) hq
end
theorem HD.step' {s s' : Shared} {P : Addr → Prop} {c x d l : Addr} (H : HD s.heap c x d l) (hs : Keeps P s s') (h : ∀ b, b = x ∨ b = d → ¬ P b) : HD s'.heap c x d l := H.at fun a ha o e => hs a o e (h a ha)
theorem Call_methK {c : Cx} {s : Shared} {o : Expr} {m : Str} {apos pos : Pos} {es : List Expr} {kws : List Keyword} {Q : Value → Shared → Prop} (ho : BaseP o) (hf : methodCallForm (es.length + kws.length) (backTo pos (starEach es c.env)) (backToKw pos (keywordEach kws c.env)) = true) (hl : (apos.endLine == pos.line) = true)
    (h : c.WP (eval o c.env) (fun ov s₁ => c.WP (getMethod ov m (do return (← importBound o c.env).getD true)) (fun fx s₂ => c.WP (callWith pos fx.1 fx.2 (backTo pos (starEach es c.env)) (backToKw pos (keywordEach kws c.env))) Q s₂) s₁) s) :
    c.WP (eval (.Call (.Attribute o m apos) es kws pos) c.env) Q s := by
  have e0 : eval (.Call (.Attribute o m apos) es kws pos) c.env = (do
      let ov ← attributeBase o m c.env (eval o c.env)
      standAt apos.atName
      methodCall o m apos pos c.env ov (es.length + kws.length) (backTo pos (starEach es c.env)) (backToKw pos (keywordEach kws c.env))) := rfl
  rw [e0, ho]
  refine wpAny_bind (wpAny_mono h (fun ov s₁ h₁ => wpAny_bind (wpAny_standAt ?_)) fun zz zz x => x)
  unfold methodCall
  rw [hf]
  unfold calleeOf
  rw [if_pos rfl]
  refine wpAny_bind (wpAny_holding (wpAny_mono h₁ (fun fx s₂ h₂ => ?_) fun zz zz x => x))
  unfold methodCallPos
  rw [hl, Bool.or_true, if_pos rfl]
  exact wpAny_bind (wpAny_pure h₂)
theorem conv_expr {K : Frag} {g : Pg} {c x d l fC : Addr} {k : KC} {i : Nat} {e : Expr} {t : List Nat} {b : Bool} {n : Nat} {sx : Str} {p1 p2 p3 p4 p5 : Pos} (C : HCl K g.h₁ c) (hC : HMeth K g c "_convert_string_type" fC) (hcv : ConvOk g fC)
    (a : At k) (hR : Rm 2 a.c.A) (hp : a.c.g.prog = g.prog ∧ a.c.g.w = g.w ∧ a.c.g.h₁ = g.h₁) (nm : Nm k i sx) (hg : get a.ρ i = .obj x) (H : HD a.s.heap c x d l) (hpl : plainE e = true) (hln : (p2.endLine == p4.line) = true) (he : a.E (eval e a.env) (.str t)) (ha : okH t) :
    a.E (eval (.Call (.Attribute (.Name sx p1) "_convert_string_type" p2) [e] [⟨some "name", .Constant (.bool b) n p3, p5⟩] p4) a.env) (.str t) := by
  have hb : starEach [e] a.env = [(false, eval e a.env)] := starEach_plain hpl [] a.env
  have top : ∀ {s}, Ok a.c a.ρ a.ow s → Tops g.h₁ s.heap := fun T => hp.2.2 ▸ T.top
  obtain ⟨o, fd, ho, hd⟩ := hC.ob
  refine Call_methK (fun zz zz zz => rfl) (by rw [hb]; rfl) hln (ldObj a nm hg (hdr_meth C hC (top a.T) H ?_))
  refine callWith_function_kw (o := o) (fd := fd) ?_
  rw [hb]
  refine evalArgs_kw rfl ?_
  have := args1 (pos := p4) (Q := fun vs s₁ => ∃ va, vs = [va] ∧ PE a.s a.ow (.str t) va s₁) (c := a.c) hpl (he.mono fun va s₁ h1 => ⟨va, rfl, h1⟩)
  rw [hb] at this
  refine WP.mono this fun vs s₁ h1 => ?_
  obtain ⟨va, rfl, h1⟩ := h1
  refine wpAny_evalAll_cons (wpAny_bind (wpAny_Constant_bool (wpAny_bind (wpAny_standAt (wpAny_pure (wpAny_evalAll_nil ⟨⟨top (a.T.step h1.1) _ _ ho, hd⟩, ?_⟩))))))
  have S := a.st h1.1
  have r := hcv a.c.A a.ow s₁ x va t b hR ⟨top (a.T.step h1.1), hp.2.2 ▸ S.old, S.live⟩ h1.2 ha
  rw [← hp.1, ← hp.2.1] at r
  exact r.mono fun v s₂ h2 => h2.after h1.1
theorem RV.tupRef {G : GO} {xs : List PV} {v : Value} (h : RV G (.tup xs) v) : ∃ a, v = .ref a := by
  obtain ⟨_, a, _, e, _⟩ := h
  exact ⟨a, e⟩
theorem iter_listT {g : Pg} {A : Around} {tgt : Expr} {s : Shared} {G : GO} {xs : List PV} {a : Addr} {vs : List Value} (hh : A.handled = none) (ht : isTuple tgt = true) (hx : ∀ p ∈ xs, ∃ l, p = .tup l) (la : IsL s.heap.get? "list" a vs) (ra : RVs G xs vs) : WP g.prog g.w A (pyIter (.ref a)) (fun it s' => Iter g A tgt G xs s it s' [a]) s :=
  have hne : a ≠ s.heap.objs.size := let ⟨_, e⟩ := la; Nat.ne_of_lt (Heap.lt_size e)
  wpAny_pyIter_list (la.list fun zz zz e => e) (Iter.of (fun N => Walk.of (Walks.list hh s.heap.objs.size a hne vs.toArray) (by rw [List.size_toArray]; exact ra.length) (fun i p v s' Q hp hv hst hQ => by
    obtain ⟨l, rfl⟩ := hx p (List.mem_of_getElem? hp)
    obtain ⟨T, rfl⟩ := hv.tupRef
    cases tgt <;> first | (cases ht; done) | exact wpAny_letOwnedTupleGo_listiter hst.1 hQ) (pick ra) fun i h hs => listIter_live hs.1) ⟨⟨_, Heap.get?_push_size _ rfl, rfl, rfl⟩, (la.list fun zz zz e => e).push _⟩)
noncomputable abbrev noSP : SPT := ⟨0, fun zz zz zz => none⟩
theorem Ent.not {ow ow' : Ow} {s s₁ : Shared} (E : Ent ow ow' s s₁) {b : Addr} (h : ow b ≠ .free) : ¬ (ow' b).mine := fun q => (E.hid b h).elim (fun e => by rw [e] at q; exact q) fun e => by rw [e] at q; exact q
theorem Ent.sub {ow ow' : Ow} {s s₁ : Shared} (E : Ent ow ow' s s₁) : Sub (vis s.heap ow) (vis s₁.heap ow') := Sub.step E.st.keep (fun zz h => h.elim) E.fr
theorem lowA_ok {c : Nat} (h : okC c = true) : okC (lowA c) = true := by
  have key : ∀ c : Fin 128, okC c.val = true → okC (lowA c.val) = true := by decide +kernel
  exact key ⟨c, Nat.lt_trans (of_decide_eq_true ((Bool.and_eq_true _ _).mp h).2) (by decide)⟩ h
theorem okH_of {a : List Nat} (h : ∀ c ∈ a, okC c = true) (hl : a.length ≤ LEN) : okH a := ⟨⟨List.all_eq_true.mpr fun c hc => decide_eq_true (Nat.lt_trans (of_decide_eq_true ((Bool.and_eq_true _ _).mp (h c hc)).2) (by decide)), hl⟩, h⟩
theorem okH_low {a : List Nat} (h : okH a) : okH (a.map lowA) := okH_of (fun c hc => by
  obtain ⟨b, hb, rfl⟩ := List.mem_map.mp hc
  exact lowA_ok (h.2 b hb)) (by rw [List.length_map]; exact h.1.2)
structure Hk (K : Frag) (g : Pg) (c : Addr) : Prop extends HTop g where
  C : HCl K g.h₁ c
theorem same_of {g g' : Pg} {n : Nat} (h : g' = { g with r := n }) : g'.prog = g.prog ∧ g'.w = g.w ∧ g'.h₁ = g.h₁ := by subst h; exact ⟨rfl, rfl, rfl⟩
theorem kNone {k : KC} {n : Nat} {pos : Pos} : SndE k (.k .none) (.Constant .none n pos) := fun a p h => by cases h; exact wpAny_Constant_none ⟨Step.refl _ _, rfl⟩
theorem hdrs_append (hs : HS) (a b : List Nat) : hdrs (hs ++ [(a, b)]) = hdrs hs ++ [.tup [.str a, .str b]] := List.map_append
theorem HdrAt.in_ {ow ow' : Ow} {s s₁ : Shared} {c x d l : Addr} {hs : HS} (H : HdrAt s ow c x d l hs) (E : Ent ow ow' s s₁) : HdrAt s₁ ow' c x d l hs :=
  ⟨H.H.step' E.st.keep fun zz zz h => h, let ⟨vs, l, r⟩ := H.il; ⟨vs, l.step E.st, r.mono E.sub⟩, H.ok, fun b hb => (E.hid b (H.nf b hb)).elim (fun e => by rw [e]; exact fun h => nomatch h) fun e => by rw [e]; exact fun h => nomatch h⟩
theorem HdrAt.gr {ow ow' : Ow} {s s' : Shared} {c x d l : Addr} {hs : HS} (H : HdrAt s ow c x d l hs) (g : Gr ow ow' s s') (h : ∀ b, b = x ∨ b = d ∨ b = l → ¬ (ow b).mine) : HdrAt s' ow' c x d l hs := by
  obtain ⟨vs, ⟨n, e⟩, r⟩ := H.il
  obtain ⟨_, _, _, ed⟩ := H.H.dict
  refine ⟨H.H.step' g.step.keep fun b hb => h b (hb.imp id .inl), ⟨vs, ⟨n, g.step.keep _ _ e (h l (.inr (.inr rfl)))⟩, r.mono g.sub⟩, H.ok, fun b hb => ?_⟩
  have hl : (s.heap.get? b).isSome = true := by
    rcases hb with rfl | rfl | rfl
    · exact isSome_of H.H.inst
    · exact isSome_of ed
    · exact isSome_of e
  rw [(g.new b).resolve_right fun q => q.elim (h b hb) (alive_not hl)]
  exact H.nf b hb
theorem WP.all {α : Type} {prog : Program} {w : World} {A : Around} {t : Sem α} {R : α → Shared → Prop} {s : Shared} (h : ∀ Q : α → Shared → Prop, (∀ v s', R v s' → Q v s') → WP prog w A t Q s) : WP prog w A t R s := h R fun zz zz x => x
noncomputable abbrev nmA : List (Nat × Str) := [(0, "self"), (1, "name")]
noncomputable abbrev eltA : X := .op2 .idx (.v 2) (.e (.k (.int 1)))
noncomputable abbrev ifsA : Ts := .cons (.x (.e (.op2 .eq (.e (.op1 .lower (.e (.op2 .idx (.v 2) (.e (.k (.int 0))))))) (.v 1)))) .nil
theorem gA_at (F : FT) (u : SV) (n a b : List Nat) : ((setT (.one 2) (.tup [.str a, .str b]) [u, .val (.str n), .un]).bind fun ρ' => (evTs F false ifsA ρ').bind fun b => if b then evC F (.emit eltA) ρ' else some []) = some (if sEq (a.map lowA) n then [.str b] else []) := by
  show (evTs F false ifsA [u, .val (.str n), .val (.tup [.str a, .str b])]).bind _ = _
  have h1 : evTs F false ifsA [u, .val (.str n), .val (.tup [.str a, .str b])] = some (sEq (a.map lowA) n) := by
    show (some (sEq (a.map lowA) n)).bind (fun c => if c == false then some false else some (!false)) = _
    cases sEq (a.map lowA) n <;> rfl
  rw [h1]
  cases sEq (a.map lowA) n <;> rfl
theorem hAll_items (F : FT) (u : SV) (n : List Nat) : ∀ (hs : HS), evItems (fun p => (setT (.one 2) p [u, .val (.str n), .un]).bind fun ρ' => (evTs F false ifsA ρ').bind fun b => if b then evC F (.emit eltA) ρ' else some []) (hdrs hs) = some (hAll hs n)
  | [] => rfl
  | (a, b) :: hs => by
    show (((setT (.one 2) (.tup [.str a, .str b]) [u, .val (.str n), .un]).bind fun ρ' => (evTs F false ifsA ρ').bind fun b => if b then evC F (.emit eltA) ρ' else some []).bind fun l => (evItems _ (hdrs hs)).map (l ++ ·)) = _
    rw [gA_at, Option.bind_some, hAll_items F u n hs]
    unfold hAll
    rw [List.filter_cons]
    dsimp only
    cases sEq (a.map lowA) n <;> rfl
theorem kInt {k : KC} {i : Int} {n : Nat} {pos : Pos} : SndE k (.k (.int i)) (.Constant (.int i) n pos) := fun a p h => by cases h; exact wpAny_Constant_int PE.int
theorem hAll_len (hs : HS) (n : List Nat) : (hAll hs n).length ≤ hs.length := Nat.le_trans (Nat.le_of_eq (List.length_map _)) (List.length_filter_le _ _)
theorem getall_call {K : Frag} {g : Pg} {c f fC : Addr} {o : Obj} {fd : FuncData} {sc csc : Scope} {n c0 c1 : Nat} {p1 p2 p3 p4 p5 p6 p7 p8 p9 p10 q1 q2 q3 q4 q5 q6 q7 q8 q9 t1 t2 t3 t4 t5 t6 : Pos} (W : Hk K g c) (hC : HMeth K g c "_convert_string_type" fC) (hcv : ConvOk g fC)
    (D : FnAt { g with mg := fun zz => some (.ref f), r := 1 } "get_all" f o fd [.Assign [.Name "name" p1] (.Call (.Attribute (.Name "self" p2) "_convert_string_type" p3) [.Call (.Attribute (.Name "name" p4) "lower" p5) [] [] p6] [⟨some "name", .Constant (.bool true) n p7, p8⟩] p9) p10,
      .Return (some (.ListComp (.Subscript (.Name "kv" q1) (.Constant (.int 1) c1 q2) q3) [⟨.Name "kv" q4, .Attribute (.Name "self" q5) "_headers" q6, [.Compare (.Call (.Attribute (.Subscript (.Name "kv" q7) (.Constant (.int 0) c0 q8) q9) "lower" t1) [] [] t2) [.Eq] [.Name "name" t3] t4], 0⟩] csc t5)) t6] ["self", "name"] (kM sc nmA))
    (hk : fnChk (kM sc nmA) ["self", "name"] = true) (hsc : scopeOk (kM sc nmA) csc [(2, "kv")] = true) (hm : ((1 : Nat), ("name" : Str)) ∈ (compKC (kM sc nmA) csc [(2, "kv")]).nm) (hl1 : (p3.endLine == p9.line) = true) (hl2 : (p5.endLine == p6.line) = true) (hl3 : (t1.endLine == t2.line) = true) : AllOk { g with r := 3 } c f := fun A ow s x d l va t hs hR S H hv ht => by
  have FS := fnChk_ok hk
  have n0 : Nm (kM sc nmA) 0 "self" := ⟨.head _, by decide⟩
  have n1 : No (kM sc nmA) 1 "name" := ⟨⟨.tail _ (.head _), by decide⟩, rfl⟩
  obtain ⟨vs, hL, hr⟩ := H.il
  have nx := H.nf x (.inl rfl)
  have nd := H.nf d (.inr (.inl rfl))
  have nl := H.nf l (.inr (.inr rfl))
  refine cells_call (g := { g with r := 1 }) (ρ := [.obj x, .val (.str t), .un]) (fun L zz hR O => ⟨⟨W.B, hR, O, FS.N⟩, (fun zz zz h => nomatch h), (fun f ps p h => by rw [show g.F = noF from W.F] at h; cases h), (fun h => nomatch h), (fun zz h => nomatch h), fun h => nomatch h⟩) D FS rfl hR ⟨S.top, S.old, S.live⟩ (fun i y hi => ?_) W.B.nolimit fun fr s₁ hs1 hg hρ zz En => ?_
  · rcases List.mem_cons.mp hi with h | hi
    · cases h
      exact ⟨fun v e => by cases e; exact .obj, fun q => nomatch q⟩
    · cases List.mem_singleton.mp hi
      exact ⟨fun v e => by cases e; exact .val hv, fun q => nomatch q⟩
  · subst hs1
    have sm := same_of hg
    have g1 : get fr.ρ 1 = .val (.str t) := by rw [hρ]; rfl
    have HF : HD fr.s.heap c x d l := H.H.step' En.st.keep fun zz zz h => h
    have e1 := conv_expr (p1 := p2) (p2 := p3) (p3 := p7) (p4 := p9) (p5 := p8) (n := n) (b := true) W.C hC hcv fr (fr.D.R.le (by rw [hg]; exact Nat.le_refl 2)) sm n0 (by rw [hρ]; rfl) HF rfl hl1 (eLower (pos := p6) (fun zz zz zz => rfl) hl2 (oVar (pos := p4) n1.toNm) fr (.str (t.map lowA)) (by show ((readOf (get fr.ρ 1)).bind fun p => op1 .lower p) = _; rw [g1]; rfl)) (okH_low ht)
    refine wpAny_execs_cons (wpAny_Assign_Name (e1.mono fun v s2 h2 => (n1.tn.store (fr.step h2.1) (.val h2.2)).mono fun zz s3 h3 => ?_) rfl)
    obtain ⟨T3, st3⟩ := h3
    have hρ3 : set fr.ρ 1 (.val (.str (t.map lowA))) = [.obj x, .val (.str (t.map lowA)), .un] := by rw [hρ]; rfl
    have gr3 : Gr fr.ow fr.ow fr.s s3 := (Gr.of0 h2.1).trans st3.gr
    have keep : Keeps (fun b => (fr.ow b).mine) s s3 := fun b o e hb => gr3.step.keep b o (En.st.get e) hb
    have H3 : HD s3.heap c x d l := H.H.step' keep fun b hb => hb.elim (fun q => q ▸ En.not nx) fun q => q ▸ En.not nd
    have l3 : IsL s3.heap.get? "list" l vs := let ⟨m, e⟩ := hL; ⟨m, keep _ _ e (En.not nl)⟩
    have r3 := hr.mono (En.sub.trans gr3.sub)
    have hun : unsetV [(2, "kv")] (set fr.ρ 1 (.val (.str (t.map lowA)))) = [.obj x, .val (.str (t.map lowA)), .un] := by rw [hρ3]; rfl
    have ok : okL (hAll hs (t.map lowA)) := ⟨okPys_map _ fun zz => rfl, Nat.le_trans (hAll_len _ _) (Nat.le_trans (Nat.le_of_eq (List.length_map _).symm) H.ok.2)⟩
    have k2 : Nm (compKC (kM sc nmA) csc [(2, "kv")]) 2 "kv" := ⟨.head _, by decide⟩
    have k1 : Nm (compKC (kM sc nmA) csc [(2, "kv")]) 1 "name" := ⟨hm, by decide⟩
    have P : ClP false (compKC (kM sc nmA) csc [(2, "kv")]) (.one 2) ifsA (.emit eltA) (.Subscript (.Name "kv" q1) (.Constant (.int 1) c1 q2) q3) ⟨.Name "kv" q4, .Attribute (.Name "self" q5) "_headers" q6, [.Compare (.Call (.Attribute (.Subscript (.Name "kv" q7) (.Constant (.int 0) c0 q8) q9) "lower" t1) [] [] t2) [.Eq] [.Name "name" t3] t4], 0⟩ [] :=
      ⟨rfl, (fun zz h => nomatch h), rfl, tgt1 ⟨.head _, .inl ((scopeOk_ok hsc).vl 2 "kv" (.head _))⟩, ifsCons (tX (isTrue_cmp rfl) (eCmp (eLower (fun zz zz zz => rfl) hl3 (eIdx (oVar k2) kInt.toO).toO).toO (oVar k1) rfl rfl).toO) ifsNil, cEmit (eIdx (oVar k2) kInt.toO), fun i hi q => nomatch q⟩
    refine wpAny_execs_cons (wpAny_Return_some (WP.mono (fComp_go (fr.to T3) (l := hAll hs (t.map lowA)) ok fun use Q hend => comp_at (scopeOk_ok hsc) P (fun i hi => hi) (fr.to T3) (items := hdrs hs) (fun T => ?_) ?_ ⟨ok.2, fun q => nomatch q⟩ _ _ use Q hend) fun v s4 h4 => ?_))
    · refine Attribute_name (ldObj ⟨fr.c, _, fr.ow, s3, fr.hk, fr.D, T⟩ n0 (by show get (unsetV _ (set fr.ρ 1 _)) 0 = _; rw [hun]; rfl) (hdr_attr W.C (sm.2.2 ▸ T3.top) H3 ?_))
      have l4 : IsL ({ s3 with toks := s3.toks + 1 } : Shared).heap.get? "list" l vs := l3
      exact (iter_list (g := fr.c.g) (fr.hh) rfl l4 r3).mono fun it s' h => .one (⟨fr.c, _, fr.ow, s3, fr.hk, fr.D, T⟩ : At _) Step.tok (Sub.refl _) l4 (fun zz => En.not nl) h
    · show evItems (fun p => (setT (.one 2) p (unsetV _ (set fr.ρ 1 _))).bind _) _ = _
      rw [hun]
      exact hAll_items _ _ _ hs
    · have h5 := h4.toE T3.live
      exact En.done (c := fr.c) (f := .ret v) (.ret fr.ow (gr3.trans (Gr.of0 h5.1)) h5.2)
noncomputable abbrev nsA : List Str := ["self", "_name", "_value", "_params", "parts", "k", "v"]
noncomputable abbrev edict : Obj := { cls := .type "dict", data := .dict #[] }
theorem entry_itemiter_iter : entryFor table "dict_itemiterator.__iter__" = some Builtin.«dict_keyiterator.__iter__» :=
  entryFor_alias (id' := "dict_keyiterator.__iter__") (by kernel_rfl) rfl (by decide +kernel) (by kernel_rfl)
theorem edict_at {prog : Program} {w : World} {h : Heap} {d : Addr} (e : h.get? d = some edict) : h.DictAt (strKind prog w) d [] 0 :=
  ⟨_, #[], e, ⟨rfl, rfl, rfl⟩, rfl, (fun zz he => nomatch he), Pairs.nil, List.nodup_nil⟩
theorem items_none {g : Pg} {A : Around} {s : Shared} {tgt : Expr} {G : GO} {vw D : Addr} (hh : A.handled = none) (hv : s.heap.IsItemsView vw D) (e : s.heap.get? D = some edict) :
    WP g.prog g.w A (pyIter (.ref vw)) (fun it s' => Iter g A tgt G [] s it s' [D]) s := by
  refine wpAny_pyIter_items (knd := strKind g.prog g.w) hv (edict_at e) ?_
  have hI : D ≠ s.heap.objs.size := Nat.ne_of_lt (Heap.lt_size e)
  refine Iter.of (St := fun zz h => IsItemIter h s.heap.objs.size D 0 0 0 .none .none ∧ h.get? D = some edict) (fun N => ⟨fun own i s' h b hb => ?_, fun own i s' s'' h hk zz => ?_, fun own i p s' hp => ?_, fun own s' h => ?_, fun own i s' h => ?_⟩) ⟨Heap.get?_push_size _ rfl, Heap.get?_push_of_some _ e⟩
  · obtain ⟨rfl, h1, h2⟩ := h
    rw [List.mem_singleton.mp hb, h1]; rfl
  · obtain ⟨rfl, h1, h2⟩ := h
    exact ⟨rfl, hk _ (.inl (.head _)) _ h1, hk _ (.inr (.tail _ (.head _))) _ h2⟩
  · cases hp
  · obtain ⟨rfl, h1, h2⟩ := h
    exact wpAny_pyNext_items_end (knd := strKind g.prog g.w) (kvs := []) hh h1 (edict_at h2) rfl fun h' hx => ⟨rfl, (Step.heapTok (tk := s'.toks) fun b o e hb => hx b o (fun q => hb (List.mem_singleton.mpr q)) e).n⟩
  · obtain ⟨rfl, h1, h2⟩ := h
    have hT : s'.TypeIs (.ref s.heap.objs.size) "dict_itemiterator" := ⟨_, h1, rfl⟩
    refine wpAny_pyIter_slot hT PySem.F.slot_dict_itemiterator_iter (wpAny_call_entry PySem.F.slot_dict_itemiterator_iter hT entry_itemiter_iter ?_ (PySem.F.args_dict_itemiterator_iter_1 _))
    show wpAny _ _ (ret (Value.ref s.heap.objs.size)) _ _ s'
    exact wpAny_pure ⟨_, rfl, "dict_itemiterator", _, hT, PySem.F.slot_dict_itemiterator_next.lookup, rfl, rfl⟩
theorem Gr.same {ow ow' : Ow} {s s' : Shared} {b : Addr} (g : Gr ow ow' s s') (hm : ¬ (ow b).mine) (hl : (s.heap.get? b).isSome = true) : ow' b = ow b := (g.new b).resolve_right fun q => q.elim hm (alive_not hl)
theorem join_one {s u : List Nat} (h1 : s.length ≤ 100) (h2 : u.length ≤ lenLine) : op2 .join (.str s) (.list [.str u]) = some (.str u) :=
  have e : List.intercalate s [u] = u := List.append_nil u
  (congrArg (Option.map Subtype.val) (dif_pos (c := s.length ≤ 100 ∧ (List.intercalate s [u]).length ≤ lenLine) ⟨h1, by rw [e]; exact h2⟩)).trans (congrArg (fun z => some (PV.str z)) e)
theorem add_call {K : Frag} {g : Pg} {c f fC : Addr} {fd : FuncData} {sc : Scope} {c1 c2 c3 c4 m m2 : Nat} {p1 p2 p3 p4 p5 p6 p7 p8 p9 p10 p11 p12 p13 p14 q1 q2 q3 q4 q5 q6 u1 u2 u3 u4 u5 u6 u7 t1 t2 t3 t4 t5 t6 v1 v2 v3 v4 v5 v6 w1 w2 w3 w4 : Pos} {fb : List Stmt}
    (W : Hk K g c) (hC : HMeth K g c "_convert_string_type" fC) (hcv : ConvOk g fC)
    (M : MAt g.h₁ f fd [.Assign [.Name "parts" p1] (.List [] p2) p3,
      .If (.Compare (.Name "_value" p4) [.IsNot] [.Constant .none c1 p5] p6)
        [.Assign [.Name "_value" p7] (.Call (.Attribute (.Name "self" q1) "_convert_string_type" q2) [.Name "_value" q3] [⟨some "name", .Constant (.bool false) c2 q4, q5⟩] q6) p8,
          .Expr (.Call (.Attribute (.Name "parts" p9) "append" p10) [.Name "_value" p11] [] p12) p13] [] p14,
      .For (.Tuple [.Name "k" u1, .Name "v" u2] m u3) (.Call (.Attribute (.Name "_params" u4) "items" u5) [] [] u6) fb [] u7,
      .Expr (.Call (.Attribute (.Attribute (.Name "self" t1) "_headers" t2) "append" t3) [.Tuple [.Call (.Attribute (.Name "self" v1) "_convert_string_type" v2) [.Name "_name" v3] [⟨some "name", .Constant (.bool true) c3 v4, v5⟩] v6,
        .Call (.Attribute (.Constant (.str "; ") c4 w1) "join" w2) [.Name "parts" w3] [] w4] m2 t4] [] t5) t6] sc)
    (hsc : scB sc (nmL nsA) [] = true) (hl1 : (q2.endLine == q6.line) = true) (hl2 : (p10.endLine == p12.line) = true) (hl3 : (u5.endLine == u6.line) = true) (hl4 : (t3.endLine == t5.line) = true) (hl5 : (v2.endLine == v6.line) = true) (hl6 : (w2.endLine == w4.line) = true) (hf : 1 < f)
    (hbind : ∀ (x v u : Value), bindArgs fd ⟨[x, v, u], []⟩ = (alloc edict >>= fun d => pure [(("self" : Str), x), ("_name", v), ("_value", u), ("_params", .ref d)])) : MutOk { g with r := 3 } c f (fun zz zz zz => .none) hAdd := fun A ow s x d l va vb t u hs hR S H hv ht hu hut hlen => by
  have Sc := scB_ok hsc
  have nl := H.nf l (.inr (.inr rfl))
  have n0 : Nm (kM sc (nmL nsA)) 0 "self" := ⟨by show ((0 : Nat), ("self" : Str)) ∈ nmL nsA; decide, by decide⟩
  have n1 : Nm (kM sc (nmL nsA)) 1 "_name" := ⟨by show ((1 : Nat), ("_name" : Str)) ∈ nmL nsA; decide, by decide⟩
  have n2 : No (kM sc (nmL nsA)) 2 "_value" := ⟨⟨by show ((2 : Nat), ("_value" : Str)) ∈ nmL nsA; decide, by decide⟩, rfl⟩
  have n3 : Nm (kM sc (nmL nsA)) 3 "_params" := ⟨by show ((3 : Nat), ("_params" : Str)) ∈ nmL nsA; decide, by decide⟩
  have n4 : No (kM sc (nmL nsA)) 4 "parts" := ⟨⟨by show ((4 : Nat), ("parts" : Str)) ∈ nmL nsA; decide, by decide⟩, rfl⟩
  have n5 : Tn (kM sc (nmL nsA)) 5 "k" := ⟨by show ((5 : Nat), ("k" : Str)) ∈ nmL nsA; decide, .inr rfl⟩
  have n6 : Tn (kM sc (nmL nsA)) 6 "v" := ⟨by show ((6 : Nat), ("v" : Str)) ∈ nmL nsA; decide, .inr rfl⟩
  have hDs : (s.heap.objs.size == sysModules) = false := by
    obtain ⟨o, ho, _⟩ := M.ob
    exact beq_eq_false_iff_ne.mpr (Nat.ne_of_gt (Nat.lt_trans hf (Heap.lt_size (S.top f o ho))))
  have hst : Step0 s { s with heap := s.heap.push edict } := Step.push
  have hD1 : (s.heap.push edict).get? s.heap.objs.size = some edict := Heap.get?_push_size _ rfl
  refine wpAny_call (codeAny_mono (meth_code (g := { g with r := 1 }) (ow := ow) (s := { s with heap := s.heap.push edict }) (binds := [(("self" : Str), .ref x), ("_name", va), ("_value", vb), ("_params", .ref s.heap.objs.size)])
    (Q := fun v s' => Step (· = l) s s' ∧ RV (vis s'.heap ow) .none v ∧ ∃ vs', IsL s'.heap.get? "list" l vs' ∧ RVs (vis s'.heap ow) (hdrs (hAdd hs t u)) vs') W.B W.F M hR S.top
    ⟨fun b o e => hst.get (S.top b o e), S.old, fun b hb => hst.alive (S.live b hb) id⟩ (hidL_ok nl) (fun A E Q hq => by rw [hbind]; exact wpAny_bind (wpAny_alloc (wpAny_pure hq)))
    (bnd_of (l := nsA) (args := [(.obj x, .ref x), (.val (.str t), va), (.val (.str u), vb), (.obj s.heap.objs.size, .ref s.heap.objs.size)]) Sc (by decide) fun e he => ?_) fun fr s₁ hs1 hg hρ how hloc En => ?_) fun rr s' hr => ?_)
  · rcases List.mem_cons.mp he with rfl | he
    · exact .obj
    rcases List.mem_cons.mp he with rfl | he
    · exact .val (hv.mono (Sub.step0 hst))
    rcases List.mem_cons.mp he with rfl | he
    · exact .val (hu.mono (Sub.step0 hst))
    · exact List.mem_singleton.mp he ▸ .obj
  · subst hs1
    have hD0 := size_none s.heap
    generalize s.heap.objs.size = D at hDs hD1 hρ hD0
    have hρ : fr.ρ = [.obj x, .val (.str t), .val (.str u), .obj D, .un, .un, .un] := hρ
    have sm := same_of hg
    have top : ∀ {ρ ow s}, Ok fr.c ρ ow s → Tops g.h₁ s.heap := fun T => sm.2.2 ▸ T.top
    have room : Rm 2 fr.c.A := fr.D.R.le (by rw [hg]; exact Nat.le_refl 2)
    have H1 : HdrAt { s with heap := s.heap.push edict } ow c x d l hs := ⟨H.H.step' hst.keep fun zz zz h => h, let ⟨vs, l, r⟩ := H.il; ⟨vs, l.step hst, r.mono (Sub.step0 hst)⟩, H.ok, H.nf⟩
    have HF := H1.in_ En
    have nm : ∀ b, b = x ∨ b = d ∨ b = l → ¬ (fr.ow b).mine := fun b hb => En.not (H.nf b hb)
    have tl : fr.ow l = .aux := (how l nl).trans (if_pos rfl)
    have hDe : fr.s.heap.get? D = some edict := En.st.get hD1
    have tD : fr.ow D = .free := (En.fr D (S.live.free hD0)).resolve_right fun q => not_none hD1 q
    refine WP.all fun Q hQ => ?_
    refine wpAny_execs_cons (((sAssign (SP := noSP) (pos := p3) (py := p1) n4.tn (vOwn (fLst (pos := p2) xsNil)) rfl) fr (.next [.obj x, .val (.str t), .val (.str u), .obj D, .own [], .un, .un]) (by rw [hρ]; rfl)).mono fun f2 s2 h2 => ?_)
    cases h2 with
    | next ow2 gr2 T2 =>
    have test : SndT (kM sc (nmL nsA)) (.x (.e (.op2 .isNot (.v 2) (.e (.k .none))))) (.Compare (.Name "_value" p4) [.IsNot] [.Constant .none c1 p5] p6) := tX (isTrue_cmp rfl) (eCmp (oVar n2.toNm) kNone.toO rfl rfl).toO
    refine wpAny_execs_cons (wpAny_If ((test ⟨fr.c, _, ow2, s2, fr.hk, fr.D, T2⟩ true rfl).mono fun b' s3 h3 => ?_))
    obtain ⟨rfl, hs3⟩ := h3
    rw [if_pos rfl]
    have T3 := T2.step hs3
    have g3 := gr2.trans (Gr.of0 hs3)
    have e1 := conv_expr (p1 := q1) (p2 := q2) (p3 := q4) (p4 := q6) (p5 := q5) (n := c2) (b := false) W.C hC hcv ⟨fr.c, _, ow2, s3, fr.hk, fr.D, T3⟩ room sm n0 rfl (HF.gr g3 nm).H rfl hl1 (eVar (pos := q3) n2.toNm ⟨fr.c, _, ow2, s3, fr.hk, fr.D, T3⟩ (.str u) rfl) hut
    refine wpAny_execs_cons (wpAny_Assign_Name (e1.mono fun v s4 h4 => (n2.tn.store ((⟨fr.c, _, ow2, s3, fr.hk, fr.D, T3⟩ : At _).step h4.1) (.val h4.2)).mono fun zz s5 h5 => ?_) rfl)
    obtain ⟨T5, st5⟩ := h5
    refine wpAny_execs_cons ((sAppend (SP := noSP) n4 hl2 rfl (eVar n2.toNm) ⟨fr.c, _, ow2, s5, fr.hk, fr.D, T5⟩ (.next [.obj x, .val (.str t), .val (.str u), .obj D, .own [.str u], .un, .un]) rfl).mono fun f6 s6 h6 => ?_)
    cases h6 with
    | next ow6 gr6 T6 =>
    refine wpAny_execs_nil ?_
    have g6 : Gr fr.ow ow6 fr.s s6 := ((g3.trans (Gr.of0 h4.1)).trans st5.gr).trans gr6
    have fD : ¬ (fr.ow D).mine := by rw [tD]; exact id
    have tD6 : ow6 D = .free := (g6.same fD (isSome_of hDe)).trans tD
    have hD6 : s6.heap.get? D = some edict := g6.step.keep D _ hDe fD
    refine wpAny_execs_cons (WP.mono (for_go ⟨fr.c, _, ow6, s6, fr.hk, fr.D, T6⟩ (SP := noSP) (b := .cons (.sp 0) .nil) (items := []) (out := .next _) rfl ?_ (tgt2 n5 n6) (fun a o he => nomatch he) rfl) fun f7 s7 h7 => ?_)
    · refine Call_meth (fun zz zz zz => rfl) rfl (by show 0 < 30; decide) hl3 (ldObj ⟨fr.c, _, ow6, s6, fr.hk, fr.D, T6⟩ n3 rfl ?_)
      refine getMethod_builtin (T := "dict") ⟨_, hD6, rfl⟩ PySem.F.plainAttrs_dict PySem.F.slot_dict_items PySem.F.type_dict_items (fun b q => by cases q; exact ⟨_, hD6, rfl⟩) ?_
      refine callWith_method0 (call_meetsIn PySem.F.slot_dict_items ⟨_, hD6, rfl⟩ PySem.F.entry_dict_items (PySem.F.args_dict_items_1 _) (meets_dict_items (PySem.strKind fr.c.g.prog fr.c.g.w) D hDs) ⟨⟨[], (edict_at hD6).dictOf⟩, ?_⟩)
      exact (items_none (g := fr.c.g) fr.hh ⟨_, Heap.get?_push_size _ rfl, rfl, rfl⟩ (Heap.get?_push_of_some _ hD6)).mono fun it s' h => h.made (⟨fr.c, _, ow6, s6, fr.hk, fr.D, T6⟩ : At _) Step.push (Sub.refl _) fun b hb => by
        have e := List.mem_singleton.mp hb
        subst e
        exact ⟨isSome_of (Heap.get?_push_of_some _ hD6), fun zz => by show ¬ (ow6 _).mine; rw [tD6]; exact id⟩
    cases h7 with
    | next ow7 gr7 T7 =>
    have g7 := g6.trans gr7
    have H7 := HF.gr g7 nm
    have tok := Step.tok (P := fun zz => False) (s := s7) (tk := s7.toks + 1)
    have T8 := T7.step tok
    obtain ⟨vs0, L0, R0⟩ := H.il
    have S7 : Step0 s s7 := hst.trans0 (En.step g7)
    refine wpAny_execs_cons (wpAny_Expr_any (Call_meth (fun zz zz zz => rfl) rfl (by show 1 < 30; decide) hl4 (Attribute_name (ldObj ⟨fr.c, _, ow7, s7, fr.hk, fr.D, T7⟩ n0 rfl (hdr_attr W.C (top T7) H7.H (getMethod_lst (c := fr.c) ((L0.step S7).step tok) PySem.F.slot_list_append PySem.F.type_list_append ?_))))) (interactive_no fr) rfl)
    refine callFn (.inl ⟨_, rfl⟩) rfl (args1 rfl (wpAny_Tuple (args2 rfl rfl ?_)))
    refine (conv_expr W.C hC hcv ⟨fr.c, _, ow7, _, fr.hk, fr.D, T8⟩ room sm n0 rfl H7.H rfl hl5 (eVar n1 ⟨fr.c, _, ow7, _, fr.hk, fr.D, T8⟩ (.str t) rfl) ht).mono fun v1 s9 h9 => ?_
    have T9 := T8.step h9.1
    have ej : SndE (kM sc (nmL nsA)) (.op2 .join (.e (.k (.str [59, 32]))) (.v 4)) (.Call (.Attribute (.Constant (.str "; ") c4 w1) "join" w2) [.Name "parts" w3] [] w4) := eMeth F.slot_str_join F.type_str_join (fun zz zz zz h => h) (fun zz zz zz => rfl) rfl hl6 (SndE.toO (((constC (.str [59, 32]) (.str "; ")).get rfl).1 _ _ _)) (oVar n4.toNm)
    refine (ej ⟨fr.c, _, ow7, _, fr.hk, fr.D, T9⟩ (.str u) (join_one (by decide) hut.1.2)).mono fun v2 s10 h10 => ?_
    have hrv : RVs (vis s10.heap ow7) [.str t, .str u] [v1, v2] := ⟨v1, _, rfl, h9.2.mono (Sub.step0 h10.1), v2, _, rfl, h10.2, rfl⟩
    have htup := PE.newTup (s := s10) (tk := s10.toks) (T9.step h10.1).live hrv ⟨rfl, by show 2 ≤ 100000; decide⟩
    refine ⟨by show 2 ≤ _; decide, ?_⟩
    have s710 := ((tok.trans0 h9.1).trans0 h10.1).trans0 htup.1
    refine WP.mono (append_mut ((L0.step S7).step s710) (Nat.le_trans (Nat.le_of_eq R0.length) H.ok.2)) fun rr s12 h12 => ?_
    have st12 : Step (· = l) s s12 := (S7.trans0 s710).up.trans0 h12.2.st
    refine wpAny_execs_nil (hQ _ _ ⟨st12, rfl, _, h12.2.l, ?_⟩)
    unfold hAdd
    rw [hdrs_append]
    have sb : Sub (vis _ ow) (vis s12.heap ow) := Sub.step h12.2.st.keep (fun b q => .inl (q ▸ nl)) fun zz => .inl
    exact (R0.mono (Sub.step st12.keep (fun b q => .inl (q ▸ nl)) fun zz => .inl)).append (qs := [_]) ⟨_, [], rfl, (htup.2.mono (En.less (g7.trans (Gr.of0 s710)))).mono sb, rfl⟩
  · cases rr with
    | ok f => cases f <;> exact hr
    | error e => exact hr.elim
noncomputable def others (h : Heap) (L d : Addr) : List (Addr × Obj) := (List.range h.objs.size).filterMap fun b => if b = L ∨ b = d then none else (h.get? b).map fun o => (b, o)
set_option tactic.hygienic true in
theorem others_mem {h : Heap} {L d : Addr} {p : Addr × Obj} (hp : p ∈ others h L d) : h.get? p.1 = some p.2 ∧ p.1 ≠ L ∧ p.1 ≠ d := by
  obtain ⟨b, -, hb⟩ := List.mem_filterMap.mp hp
  split at hb
  · cases hb
  · rename_i hn
    obtain ⟨o, ho, rfl⟩ := Option.map_eq_some_iff.mp hb
    exact ⟨ho, fun h => hn (.inl h), fun h => hn (.inr h)⟩
theorem others_of {h : Heap} {L d b : Addr} {o : Obj} (ho : h.get? b = some o) (h1 : b ≠ L) (h2 : b ≠ d) : (b, o) ∈ others h L d :=
  List.mem_filterMap.mpr ⟨b, List.mem_range.mpr (Heap.lt_size ho), by rw [if_neg (fun h => h.elim h1 h2), ho]; rfl⟩
theorem Ok.rens {c : Cx} {ρ : Rho} {ow : Ow} {s s' : Shared} {m : Str → Option Value} {d : Addr} (T : Ok c ρ ow s) (hm : s.heap.Ns c.env.locals m) (hm' : s'.heap.Ns c.env.locals m) (hd : ow d = .loc ∨ ow d = .aux) (hs : Step (fun b => b = c.env.locals ∨ b = d) s s') (hl : (s'.heap.get? d).isSome = true) : Ok c ρ ow s' := by
  have nk : ∀ {b}, ow b ≠ .loc → ow b ≠ .aux → ∀ o, s.heap.get? b = some o → s'.heap.get? b = some o := fun h1 h2 o e => hs.keep _ o e fun q => q.elim (fun q => h1 (q ▸ T.loc)) fun q => hd.elim (fun z => h1 (q ▸ z)) fun z => h2 (q ▸ z)
  have tn : ∀ {t}, t ≠ .loc → t ≠ .aux → tg c t ≠ .loc ∧ tg c t ≠ .aux := fun h1 h2 => ⟨tg_ne2 h1 (fun h => nomatch h), tg_ne2 h2 (fun h => nomatch h)⟩
  have nf : ∀ {b}, b = c.env.locals ∨ b = d → ow b ≠ .free := fun q h => q.elim (fun q => by rw [q, T.loc] at h; cases h) fun q => by rw [q] at h; exact hd.elim (fun z => nomatch h.symm.trans z) fun z => nomatch h.symm.trans z
  obtain ⟨m0, hm0, hb⟩ := T.body
  obtain rfl : m = m0 := funext (Ns_uniq hm hm0)
  refine ⟨fun b o e => hs.keep b o (T.top b o e) fun q => not_none e (T.old b (nf q)), T.old, fun b h => ?_, T.loc, T.cells, m, hm', fun i x hi => ?_⟩
  · by_cases q : b = c.env.locals ∨ b = d
    · exact q.elim (fun q => q ▸ ns_live hm') fun q => q ▸ hl
    · exact hs.alive (T.live b h) q
  · obtain ⟨ov, n, sl⟩ := hb i x hi
    refine ⟨ov, n.keep fun a ha => ?_, sl.mono (fun a ha zz => ⟨ha, ?_⟩) (Sub.step hs.keep (fun b q => .inl (nf q)) fun zz => .inl)⟩
    · have := tn (t := .cell x) (fun h => nomatch h) (fun h => nomatch h)
      rw [← T.cells x a ha] at this
      exact nk this.1 this.2
    · have := tn (t := .slot i) (fun h => nomatch h) (fun h => nomatch h)
      rw [← ha] at this
      exact nk this.1 this.2
noncomputable abbrev HSt (K : Frag) (c : Addr) : Prop := (PySem.W.findIn K (.ref c) "__setattr__" = some (some (.builtin "object.__setattr__"))) ∧ (plainOver K c = true) ∧ (takerIn K c "_headers" = some none) ∧ ((clsIn K c).any (·.hasDict) = true)
section
variable {a_ b_} (x_ : HSt a_ b_)
def HSt.sa := x_.1
def HSt.po := x_.2.1
def HSt.tk := x_.2.2.1
def HSt.hd := x_.2.2.2
end
theorem setattr_hdr {prog : Program} {w : World} {A : Around} {s : Shared} {K : Frag} {h₁ : Heap} {c x d l : Addr} {Q : Unit → Shared → Prop} {m : Str → Option Value} {L : Addr} (C : HCl K h₁ c) (S : HSt K c) (hT : Tops h₁ s.heap) (hx : s.heap.get? x = some { cls := .ref c, dict := some d, data := .plain }) (hd : s.heap.get? d = some { cls := .type "dict", data := .dict #[] })
    (hL : s.heap.Ns L m) (hLd : L ≠ d) (hLx : L ≠ x) (hxl : x ≠ l) (hdl : d ≠ l)
    (h : ∀ s', Step (fun b => b = L ∨ b = d) s s' → s'.heap.Ns L m → (s'.heap.get? d).isSome = true → HD s'.heap c x d l → Q () s') : WP prog w A (setAttr (.ref x) "_headers" (.ref l)) Q s := by
  have hxd : x ≠ d := fun e => by rw [e, hd] at hx; cases hx
  have I : PySem.W.InstAt s.heap x { cls := .ref c, dict := some d, data := .plain } c (some { cls := .type "dict", data := .dict #[] }) := ⟨hx, rfl, rfl, hd⟩
  have F : Fr ({} : Heap) L s.heap m := ⟨hL, fun b o e => (by cases e), Nat.zero_le _⟩
  have N : News ({} : Heap) L s.heap (others s.heap L d ++ (d, { cls := .type "dict", data := .dict #[] }) :: []) := fun p hp => by
    rcases List.mem_append.mp hp with h | h
    · exact ⟨(others_mem h).1, (others_mem h).2.1, rfl⟩
    · rw [List.mem_singleton.mp h]; exact ⟨hd, Ne.symm hLd, rfl⟩
  refine set_plain (C.X.keeps hT) I S.sa ?_
  refine osa_dict (s := { s with toks := s.toks + 1 }) F N (C.X.keeps hT) I rfl S.po S.tk S.hd rfl (fun p hp => (others_mem hp).2.2) (fun zz h => nomatch h) rfl (es := [_]) rfl (by show 1 ≤ 1000; decide) fun h' F' N' => ?_
  have nb := (N' (d, _) (List.mem_append_right _ List.mem_cons_self)).1
  have ob : ∀ b o, s.heap.get? b = some o → b ≠ L → b ≠ d → h'.get? b = some o := fun b o e h1 h2 => (N' (b, o) (List.mem_append_left _ (others_of e h1 h2))).1
  exact h _ (Step.heapTok fun b o e hb => ob b o e (fun q => hb (.inl q)) fun q => hb (.inr q)) F'.ns (isSome_of nb) ⟨ob x _ hx (Ne.symm hLx) hxd, ⟨_, _, _, nb⟩, hxl, hdl⟩
noncomputable abbrev nsN : List Str := ["self", "headers", "k", "v"]
noncomputable def InitPost (c x d : Addr) (s : Shared) (v : Value) (s' : Shared) : Prop := v = .none ∧ ∃ l, s.heap.get? l = none ∧ Step (· = d) s s' ∧ HD s'.heap c x d l ∧ IsL s'.heap.get? "list" l []
noncomputable def InitOk (g : Pg) (c f : Addr) : Prop := ∀ (A : Around) (ow : Ow) (s : Shared) (x d : Addr), Rm 2 A → St g ow s → s.heap.get? x = some { cls := .ref c, dict := some d, data := .plain } → s.heap.get? d = some { cls := .type "dict", data := .dict #[] } → ow x ≠ .free → ow d ≠ .free →
  codeAny (model g.prog g.w) A (.call (.ref f) ⟨[.ref x], []⟩) (fun r s' => match r with | .ok (.ret v) => InitPost c x d s v s' | _ => False) s
theorem init_code {K : Frag} {g : Pg} {c f : Addr} {fd : FuncData} {sc : Scope} {c1 c2 m : Nat} {p1 p2 p3 p4 p5 p6 p7 p8 q1 q2 q3 q4 q5 q6 t1 t2 t3 t4 t5 u1 u2 u3 u4 u5 u6 : Pos} {rs lb : List Stmt} (W : Hk K g c) (Q : HSt K c)
    (M : MAt g.h₁ f fd [.Assign [.Name "headers" p1] (.IfExp (.Compare (.Name "headers" p2) [.IsNot] [.Constant .none c1 p3] p4) (.Name "headers" p5) (.List [] p6) p7) p8,
      .If (.Compare (.Call (.Name "type" q1) [.Name "headers" q2] [] q3) [.IsNot] [.Name "list" q4] q5) rs [] q6,
      .Assign [.Attribute (.Name "self" t1) "_headers" t2] (.Name "headers" t3) t4,
      .If (.Constant (.bool true) c2 t5) [.For (.Tuple [.Name "k" u1, .Name "v" u2] m u3) (.Name "headers" u4) lb [] u5] [] u6] sc)
    (hsc : scB sc (nmL nsN) ["type", "list"] = true) (hbind : ∀ (s : Shared) (x : Value), Tops g.h₁ s.heap → BindsTo s fd ⟨[x], []⟩ [(("self" : Str), x), ("headers", .none)]) : InitOk g c f := fun A ow s x d hR S hx hd nx nd => by
  have Sc := scB_ok hsc
  have n0 : Nm (kM sc (nmL nsN)) 0 "self" := ⟨by show ((0 : Nat), ("self" : Str)) ∈ nmL nsN; decide, by decide⟩
  have n1 : No (kM sc (nmL nsN)) 1 "headers" := ⟨⟨by show ((1 : Nat), ("headers" : Str)) ∈ nmL nsN; decide, by decide⟩, rfl⟩
  have n2 : Tn (kM sc (nmL nsN)) 2 "k" := ⟨by show ((2 : Nat), ("k" : Str)) ∈ nmL nsN; decide, .inr rfl⟩
  have n3 : Tn (kM sc (nmL nsN)) 3 "v" := ⟨by show ((3 : Nat), ("v" : Str)) ∈ nmL nsN; decide, .inr rfl⟩
  refine meth_code (g := { g with r := 0 }) (Q := InitPost c x d s) W.B W.F M hR S.top ⟨S.top, S.old, S.live⟩ (hidL_ok nd) (fun A E Q => hbind _ _ S.top _ A E Q) (bnd_of (l := nsN) (args := [(.obj x, .ref x), (.val .none, .none)]) Sc (by decide) fun e he => ?_) fun fr s₁ hs1 hg hρ how hloc En => ?_
  · rcases List.mem_cons.mp he with rfl | he
    · exact .obj
    · exact List.mem_singleton.mp he ▸ .val (p := .none) rfl
  · subst hs1
    have sm := same_of hg
    have gl : ∀ y ∈ (["type", "list"] : List Str), isGlob fr.c.k.sc y = true := fun y hy => by rw [fr.hk]; exact Sc.g y hy
    have hmg : ∀ {y : Str} {v : Option Value}, g.mg y = v → fr.c.g.mg y = v := fun h => by rw [hg]; exact h
    have td : fr.ow d = .aux := (how d nd).trans (if_pos rfl)
    have test : SndT (kM sc (nmL nsN)) (.x (.e (.op2 .isNot (.v 1) (.e (.k .none))))) (.Compare (.Name "headers" p2) [.IsNot] [.Constant .none c1 p3] p4) := tX (isTrue_cmp rfl) (eCmp (oVar n1.toNm) kNone.toO rfl rfl).toO
    refine wpAny_execs_cons (wpAny_Assign_Name (wpAny_IfExp ((test fr false (by rw [hρ]; rfl)).mono fun b' s2 h2 => ?_)) rfl)
    obtain ⟨rfl, hs2⟩ := h2
    rw [if_neg Bool.false_ne_true]
    refine (fLst (xsNil (k := kM sc (nmL nsN))) (fr.step hs2) [] rfl).mono fun u s3 h3 => ?_
    obtain ⟨hs3, -, l, vs, rfl, hl0, hL3, hr3⟩ := h3
    cases hr3
    have hs13 := hs2.trans0 hs3
    have nw : Nw fr.ow (fr.ow.put l .aux) fr.s s3 := .put hs13 (none_back hs2 hl0) (isL_live hL3)
    refine (n1.tn.store (fr.to (fr.T.tags nw)) (sv := .obj l) .obj).mono fun zz s4 h4 => ?_
    obtain ⟨T4, st4⟩ := h4
    have hl1 : s.heap.get? l = none := none_back En.st (none_back hs2 hl0)
    have tl : (fr.ow.put l .aux) l = .aux := Ow.put_at ..
    have td' : (fr.ow.put l .aux) d = .aux := (Classical.em (d = l)).elim (fun q => q ▸ tl) fun q => (Ow.put_ne _ _ q).trans td
    have hρ4 : set fr.ρ 1 (.obj l) = [.obj x, .obj l, .un, .un] := by rw [hρ]; rfl
    have g0 : get (set fr.ρ 1 (.obj l)) 0 = .obj x := by rw [hρ4]; rfl
    have g1 : get (set fr.ρ 1 (.obj l)) 1 = .obj l := by rw [hρ4]; rfl
    have gr4 : Gr fr.ow (fr.ow.put l .aux) fr.s s4 := nw.gr.trans st4.gr
    have S4 : Step0 s s4 := En.step gr4
    have hL4 : IsL s4.heap.get? "list" l [] := let ⟨m, e⟩ := hL3; ⟨m, st4.keep _ _ e fun q => by
      have := q.1
      dsimp only at this
      rw [tl] at this
      exact this⟩
    obtain ⟨ml, el⟩ := hL4
    have bi : ∀ {y : Str} {v : Value} {p : Pos} {Q : Value → Shared → Prop}, y ∈ (["type", "list"] : List Str) → y ≠ "__name__" → g.mg y = none → bootBuiltins y = some v → Q v s4 → fr.c.WP (eval (.Name y p) fr.env) Q s4 := fun hy hn hm hb hq => eval_builtin fr.D.toRd0 T4.top (gl _ hy) hn (hmg hm) hb hq
    refine wpAny_execs_cons (wpAny_If (isTrue_cmp rfl _ _ _ (wpAny_Compare1 (wpAny_bind (bi (v := .type "type") (by decide) (by decide) W.ty (by decide +kernel) (callFn (first := []) (.inr ⟨_, rfl⟩) rfl (args1 rfl (ldObj (fr.to T4) n1.toNm g1 ?_))))) rfl)))
    refine call_type_of (Tx := "list") ⟨_, el, rfl⟩ (by decide +kernel) (bi (v := .type "list") (by decide) (by decide) (W.B.no _ (by decide)) b_list (wpAny_isNot_plain rfl (wpAny_truthy_bool ?_)))
    rw [if_neg (by decide)]
    refine wpAny_execs_nil ?_
    refine wpAny_execs_cons (plainObj_wpAny_Assign_Attribute (ldObj (fr.to T4) n1.toNm g1 (ldObj (fr.to T4) n0 g0 ?_)) rfl)
    obtain ⟨m0, hm0, -⟩ := T4.body
    have nL : ∀ {b}, ow b ≠ .free → b ≠ fr.c.env.locals := fun h q => En.not h (q ▸ hloc)
    have lne : ∀ {b}, (s.heap.get? b).isSome = true → b ≠ l := fun h q => alive_not h (q ▸ hl1)
    refine setattr_hdr W.C Q (sm.2.2 ▸ T4.top) (S4.get hx) (S4.get hd) hm0 (Ne.symm (nL nd)) (Ne.symm (nL nx)) (lne (isSome_of hx)) (lne (isSome_of hd)) fun s5 hs5 hm5 hd5 H5 => ?_
    have T5 := T4.rens hm0 hm5 (.inr td') hs5 hd5
    have lL : l ≠ fr.c.env.locals := fun q => by
      have := T4.loc
      rw [← q] at this
      exact nomatch tl.symm.trans this
    have hL5 : IsL s5.heap.get? "list" l [] := ⟨ml, hs5.keep _ _ el fun h => h.elim lL fun q => lne (isSome_of hd) q.symm⟩
    have S5 : Step (· = d) s s5 := S4.up.trans hs5 fun b q => q.elim (fun q => .inr (En.mine b (q ▸ hloc))) .inl
    refine wpAny_execs_cons (wpAny_If (wpAny_isTrue_value (wpAny_Constant_bool (wpAny_truthy_bool ?_))))
    rw [if_pos rfl]
    refine wpAny_execs_cons (WP.mono (for_go (fr.to T5) (SP := noSP) (b := .cons (.sp 0) .nil) (items := []) (out := .next _) rfl (ldObj (fr.to T5) n1.toNm g1 ((iter_listT (g := fr.c.g) (xs := []) (vs := []) (G := vis s5.heap (fr.ow.put l .aux)) fr.hh rfl (fun zz h => nomatch h) hL5 rfl).mono fun it s' h => .one (fr.to T5) (Step.refl _ _) (Sub.refl _) hL5 (fun zz => by show ¬ ((fr.ow.put l .aux) l).mine; rw [tl]; exact id) h)) (tgt2 n2 n3) (fun a o he => nomatch he) rfl) fun f6 s6 h6 => ?_)
    cases h6 with
    | next ow6 gr6 T6 =>
      have nmn : ∀ {b}, ow b ≠ .free → (s.heap.get? b).isSome = true → ¬ ((fr.ow.put l .aux) b).mine := fun h1 h2 => by rw [Ow.put_ne _ _ (lne h2)]; exact En.not h1
      refine wpAny_execs_nil (wpAny_execs_nil ⟨rfl, l, hl1, S5.trans gr6.step fun b hb => .inr ?_, H5.step' gr6.step.keep fun b hb => hb.elim (fun q => q ▸ nmn nx (isSome_of hx)) fun q => q ▸ nmn nd (isSome_of hd), let ⟨m, e⟩ := hL5; ⟨m, gr6.step.keep _ _ e (by show ¬ ((fr.ow.put l .aux) l).mine; rw [tl]; exact id)⟩⟩)
      by_cases q : b = l
      · exact q ▸ hl1
      · exact En.mine b (by have := hb; dsimp only at this; rwa [Ow.put_ne _ _ q] at this)
theorem Rm.under_make {c : Addr} {vals : List Value} {A : Around} (h : Rm 3 A) : Rm 2 (A.under (.builtin "type.__call__" ⟨.ref c :: vals, []⟩)) := by
  refine ⟨h.handled, ?_, ?_⟩
  · have := h.depth
    show A.depth + 1 + 2 < 900
    lia
  · have := h.units
    have e : (A.under (.builtin "type.__call__" ⟨.ref c :: vals, []⟩)).units ≤ A.units + 5 := Nat.add_le_add_left (Nat.le_of_ble_eq_true rfl) _
    lia
theorem make_hdr {K : Frag} {g : Pg} {c fI : Addr} (C : HCl K g.h₁ c) (hmk : makesIn K c = true) (hi : HMeth K g c "__init__" fI) (hI : InitOk g c fI) : MakeOk { g with r := 3 } c := fun A s hR hT => by
  have X := C.X.keeps hT
  obtain ⟨h, gs, dd, t, os⟩ := s
  dsimp only at X hT
  refine wpAny_call (make_core (makes_of X hmk) (looks_findIn X hi.fi) (fun self => bind_fn X self hi.ty) (.inl rfl) ?_)
  have k : ∀ b o, h.get? b = some o → ((h.push emptyDict).push (instObj c h.objs.size)).get? b = some o := fun b o e => Heap.get?_push_of_some _ (Heap.get?_push_of_some _ e)
  have hx : ((h.push emptyDict).push (instObj c h.objs.size)).get? (h.objs.size + 1) = some (instObj c h.objs.size) := by heap_get
  have hd : ((h.push emptyDict).push (instObj c h.objs.size)).get? h.objs.size = some emptyDict := by heap_get
  have f1 : h.get? (h.objs.size + 1) = none := get_none (Nat.le_succ _)
  have f2 : h.get? h.objs.size = none := size_none _
  let ow : Ow := fun b => if b = h.objs.size + 1 ∨ b = h.objs.size then .ext else .free
  have hS : Step0 (⟨h, gs, dd, t, os⟩ : Shared) ⟨(h.push emptyDict).push (instObj c h.objs.size), gs, dd, t, os⟩ := Step.heap fun b o e zz => k b o e
  have hw : ∀ b, ow b ≠ .free → b = h.objs.size + 1 ∨ b = h.objs.size := fun b hb => Classical.byContradiction fun q => hb (if_neg q)
  have ne : ∀ b, (b = h.objs.size + 1 ∨ b = h.objs.size) → ow b ≠ .free := fun b q => by show (if _ then _ else _) ≠ _; rw [if_pos q]; exact fun h => nomatch h
  refine codeAny_mono (hI _ ow _ (h.objs.size + 1) h.objs.size hR.under_make ⟨fun b o e => hS.get (hT b o e), fun b hb => Option.eq_none_iff_forall_not_mem.mpr fun o e => not_none (hT b o e) ((hw b hb).elim (· ▸ f1) (· ▸ f2)), fun b hb => (hw b hb).elim (fun q => by rw [q]; exact isSome_of hx) fun q => by rw [q]; exact isSome_of hd⟩ hx hd (ne _ (.inl rfl)) (ne _ (.inr rfl))) fun r s' hr => ?_
  rcases r with e | (v | _ | _ | _) <;> try exact hr.elim
  obtain ⟨rfl, l, hl, hs, H, hL⟩ := hr
  exact ⟨rfl, _, _, l, rfl, fun b hb => hb.elim (· ▸ f1) fun q => q.elim (· ▸ f2) fun q => q ▸ none_back hS hl, hS.trans hs fun b q => .inr (q ▸ f2), H, hL⟩
section
variable {M : Model} {A : Around} {R : GenEnd} {Y : Protocol} {n : Nat} {s₀ : Shared} {c : Code} {fs : List Frame} {s : Shared} {env : Env}
  {K : Flow → Sem Fin} {H : Value → Sem Fin} {gd : Bool → Bool} {lv : List Value → List Value}
noncomputable def ownK (env : Env) (K : Flow → Sem Fin) (H : Value → Sem Fin) (gd : Bool → Bool) (lv : List Value → List Value) : Result → Sem Fin := fun r =>
  ((match r with | .ok f => (.pure f : Sem Flow) | .error e => .raise e).onRaise fun (x : Value) => do
        if (← field x 1) == Value.none then unsupported "frame.own-activation:exception-without-traceback"
        setFlight x env.frame).wrap K H gd lv
theorem gen_For {target iter : Expr} {body orelse : List Stmt} {pos : Pos} (hs : ∀ x, foldedSetIterable iter env x = pure x)
    (h : wpAny M (A.over c fs) (eval iter env) (fun x s₁ => wpAny M (A.over c fs) (pyIter x) (fun it s₂ => ∀ p, Seg M A R Y n s₀ (.forLoop target it body orelse env) (M.den (.forLoop target it body orelse env))
      (.ret (ownK env K H gd lv) none (gd false) (lv []) c p [] :: fs) s₂) (fun zz zz => False) s₁) (fun zz zz => False) s) :
    Seg M A R Y n s₀ c ((exec (.For target iter body orelse pos) env).wrap K H gd lv) fs s := by
  rw [exec_For]
  show Seg M A R Y n s₀ c (.at pos fun zz => (eval iter env >>= fun v => foldedSetIterable iter env v >>= fun x => (standAt iter.pos >>= fun zz => holding [x] (pyIter x) >>= fun it => runOwn (.forLoop target it body orelse env) env)).wrap K H gd lv) fs s
  refine seg_at (seg_bind_wrap (wpAny_mono h (fun x s₁ h₁ => ?_) fun zz zz h => h.elim))
  rw [hs x]
  show Seg M A R Y n s₀ c (.at iter.pos fun zz => (holding [x] (pyIter x) >>= fun it => runOwn (.forLoop target it body orelse env) env).wrap K H gd lv) fs s₁
  refine seg_at (seg_bind_wrap (wpAny_holding (wpAny_mono h₁ (fun it s₂ h₂ => ?_) fun zz zz h => h.elim)))
  exact seg_call h₂
theorem gen_If {test : Expr} {body orelse : List Stmt} {pos : Pos}
    (h : wpAny M (A.over c fs) (isTrue test env (eval test env)) (fun b s' => if b then Seg M A R Y n s₀ c ((execs body env).wrap K H gd lv) fs s' else Seg M A R Y n s₀ c ((execs orelse env).wrap K H gd lv) fs s') (fun zz zz => False) s) :
    Seg M A R Y n s₀ c ((exec (.If test body orelse pos) env).wrap K H gd lv) fs s := by
  rw [exec_If]
  show Seg M A R Y n s₀ c (.at pos fun zz => (isTrue test env (eval test env) >>= fun b => if b then execs body env else execs orelse env).wrap K H gd lv) fs s
  refine seg_at (seg_bind_wrap (wpAny_mono h (fun b s₁ h₁ => ?_) fun zz zz h => h.elim))
  cases b with
  | true => exact h₁
  | false => exact h₁
theorem gen_stmt {st : Stmt} (h : wpAny M (A.over c fs) (exec st env) (fun f s' => Seg M A R Y n s₀ c (K f) fs s') (fun zz zz => False) s) : Seg M A R Y n s₀ c ((exec st env).wrap K H gd lv) fs s :=
  seg_wrap (wpAny_mono h (fun zz zz h => h) fun zz zz h => h.elim)
end
section
variable {prog : Program} {w : World} {A : Around} {R : GenEnd} {Y : Protocol} {n : Nat} {s₀ : Shared} {fs : List Frame} {s : Shared} {env : Env}
noncomputable def loopH (env : Env) : Value → Sem Fin := fun e => (do noteFrame e env; theTreesLotGoes e : Sem Unit).wrap (fun zz => .raise e) .raise id id
noncomputable def loopK (c : Code) : Flow → Sem Fin
  | .next | .cont => .pure (.again c)
  | .brk => .pure (.done .next)
  | .ret v => .pure (.done (.ret v))
theorem gen_forLoop {target : Expr} {it : Value} {body orelse : List Stmt}
    (h : wpAny (model prog w) (A.over (.forLoop target it body orelse env) fs) (pyNext it) (fun o s₁ => match o with
        | none => Seg (model prog w) A R Y n s₀ (.forLoop target it body orelse env) (.pure (.again (.block orelse env))) fs s₁
        | some v => wpAny (model prog w) (A.over (.forLoop target it body orelse env) fs) (letOwnedTupleGo target it v) (fun zz s₂ => wpAny (model prog w) (A.over (.forLoop target it body orelse env) fs) (assign target env v) (fun zz s₃ =>
          Seg (model prog w) A R Y n s₀ (.forLoop target it body orelse env) ((execs body env).wrap (loopK (.forLoop target it body orelse env)) (loopH env) id id) fs s₃) (fun zz zz => False) s₂) (fun zz zz => False) s₁) (fun zz zz => False) s) :
    Seg (model prog w) A R Y n s₀ (.forLoop target it body orelse env) ((model prog w).den (.forLoop target it body orelse env)) fs s := by
  show Seg _ A R Y n s₀ _ ((forTurn target it body orelse env).onRaise (fun x => do noteFrame x env; theTreesLotGoes x)) fs s
  unfold forTurn
  rw [Sem.onRaise_eq_wrap]
  show Seg _ A R Y n s₀ _ (.at target.pos fun zz => ((pyNext it).onRaise (fun zz => standAt { target.pos with line := 0 }) >>= fun o => match o with
    | none => again (.block orelse env)
    | some v => letOwnedTupleGo target it v >>= fun zz => assign target env v >>= fun zz => execs body env >>= fun f => match f with
      | .next | .cont => again (.forLoop target it body orelse env)
      | .brk => pure (.done .next)
      | .ret v => pure (.done (.ret v))).wrap .pure _ id id) fs s
  refine seg_at (seg_bind_wrap (wpAny_onRaise (wpAny_mono h (fun o s₁ h₁ => ?_) fun zz zz h => h.elim)))
  cases o with
  | none => exact h₁
  | some v =>
    refine seg_bind_wrap (wpAny_mono h₁ (fun zz s₂ h₂ => ?_) fun zz zz h => h.elim)
    refine seg_bind_wrap (wpAny_mono h₂ (fun zz s₃ h₃ => ?_) fun zz zz h => h.elim)
    rw [Sem.bind_eq_wrap', Sem.wrap_wrap]
    rw [Sem.wrap_congr (execs body env) _ _ (K' := loopK (.forLoop target it body orelse env)) (H' := loopH env)
        (fun f => by cases f <;> rfl)
        (fun e => by first | exact Sem.bind_eq_wrap _ _ | (show (do noteFrame e env; theTreesLotGoes e : Sem Unit).bind (fun zz => .raise e) = _; rw [Sem.bind_eq_wrap]; rfl))]
    exact h₃
end
noncomputable def lastR : Option Int → Value → Prop
  | none, v => v = .none
  | some i, v => ∃ t, v = .int i t
noncomputable abbrev GiAt (h₁ : Heap) (L I a : Addr) (vs : List Value) (i : Nat) (last : Option Int) (s : Shared) : Prop := (Tops h₁ s.heap) ∧ (∃ m lv, s.heap.Ns L m ∧ m "last_interval" = some lv ∧ lastR last lv) ∧ (s.heap.IsListIter I a i) ∧ (s.heap.IsList a vs.toArray)
section
variable {a_ b_ c_ d_ e_ f_ g_ h_} (x_ : GiAt a_ b_ c_ d_ e_ f_ g_ h_)
def GiAt.top := x_.1
def GiAt.ns := x_.2.1
def GiAt.it := x_.2.2.1
def GiAt.li := x_.2.2.2
end
noncomputable def GSame (h₁ : Heap) (L I a : Addr) (s' s'' : Shared) : Prop := (∀ b ∈ [L, I, a], ∀ o, s'.heap.get? b = some o → s''.heap.get? b = some o) ∧ Tops h₁ s''.heap
noncomputable abbrev GSt (L I : Addr) (s s' : Shared) : Prop := (Step (fun b => b = L ∨ b = I) s s') ∧ (s'.gens = s.gens)
section
variable {a_ b_ c_ d_} (x_ : GSt a_ b_ c_ d_)
def GSt.step := x_.1
def GSt.gens := x_.2
end
theorem GSt.refl (L I : Addr) (s : Shared) : GSt L I s s := ⟨Step.refl _ _, rfl⟩
theorem GSt.trans {L I : Addr} {s s' s'' : Shared} (x : GSt L I s s') (y : GSt L I s' s'') : GSt L I s s'' := ⟨x.step.trans0 y.step, y.gens.trans x.gens⟩
noncomputable def giY (h₁ : Heap) (L I a : Addr) (T : Nat) (vals : List Int) : Protocol := fun k s₀ v s' kap =>
  (∃ x t, vals[T - 1 - k]? = some x ∧ v = .int x t) ∧ ((s'.heap.get? I).isSome = true ∧ (s'.heap.get? L).isSome = true) ∧ GSt L I s₀ s' ∧ (k ≠ 0 → ∀ s'', GSame h₁ L I a s' s'' → kap (.send .none) s'')
noncomputable def giP (L I : Addr) (T : Nat) (vals : List Int) : Nat → Shared → Shared → Prop := fun n s₀ s₁ => vals.length ≤ T - n ∧ GSt L I s₀ s₁
noncomputable def giR (L I : Addr) (T : Nat) (vals : List Int) : GenEnd := fun n s₀ r s₁ => r = .ok (.ret .none) ∧ giP L I T vals n s₀ s₁
theorem GiAt.same {h₁ : Heap} {L I a : Addr} {vs : List Value} {i : Nat} {last : Option Int} {s s' : Shared} (x : GiAt h₁ L I a vs i last s) (h : GSame h₁ L I a s s') : GiAt h₁ L I a vs i last s' := by
  obtain ⟨m, lv, hn, h1, h2⟩ := x.ns
  exact ⟨h.2, ⟨m, lv, Ns_keep hn fun o e => h.1 L (by simp) o e, h1, h2⟩, x.it.at fun o e => h.1 I (by simp) o e, x.li.at fun o e => h.1 a (by simp) o e⟩
theorem GiAt.tok {h₁ : Heap} {L I a : Addr} {vs : List Value} {i tk : Nat} {last : Option Int} {s : Shared} (x : GiAt h₁ L I a vs i last s) : GiAt h₁ L I a vs i last { s with toks := tk } := ⟨x.top, x.ns, x.it, x.li⟩
theorem GSt.tok {L I : Addr} {s : Shared} {tk : Nat} : GSt L I s { s with toks := tk } := ⟨Step.tok, rfl⟩
section
variable {prog : Program} {w : World} {A : Around} {h₁ : Heap} {mg mb : Str → Option Value} {s s₀ : Shared} {env : Env} {sc : Scope} {L I a : Addr} {vs : List Value} {ns : List Int} {i n T : Nat} {last : Option Int} {vals : List Int} {fs : List Frame}
theorem replicate_tail {n : Nat} {x : Int} {l : List Int} {k : Nat} (h : l.drop k = List.replicate (n + 1) x) : l[k]? = some x ∧ l.drop (k + 1) = List.replicate n x := by
  constructor
  · have := congrArg (fun l => l[0]?) h
    simpa using this
  · have := congrArg (fun l => l.drop 1) h
    simpa [List.drop_drop, List.replicate_succ] using this
theorem sub_e1 (T n : Nat) : T - 1 - (n + 1) = T - (n + 1 + 1) := by lia
theorem sub_e2 {T n : Nat} (h : n + 1 ≤ T) : T - (n + 1) + 1 = T - n := by lia
theorem sub_e3 (T n : Nat) : T - 1 - n = T - (n + 1) := by lia
theorem gi_while {p1 p2 p3 p4 : Pos} {n1 : Nat} {x : Int} (O : EnvOk sc env) (hsc : sc.names.lookup ("last_interval" : Str) = some .local) (hco : env.scope.isCoroutine = false) (hIL : I ≠ L) (hIa : I ≠ a) (hL : env.locals = L)
    (hfs : splitAtGen fs = none) (hfg : fs.any Frame.guarded = false) :
    ∀ (n : Nat) (s₀ s : Shared), n + 1 ≤ T → vals.drop (T - (n + 1)) = List.replicate (n + 1) x → GiAt h₁ L I a vs i (some x) s → GSt L I s₀ s →
      Seg (model prog w) A (giR L I T vals) (giY h₁ L I a T vals) (n + 1) s₀ (.whileLoop (.Constant (.bool true) n1 p1) [.Expr (.Yield (some (.Name "last_interval" p2)) p3) p4] [] env)
        ((model prog w).den (.whileLoop (.Constant (.bool true) n1 p1) [.Expr (.Yield (some (.Name "last_interval" p2)) p3) p4] [] env)) fs s := by
  intro n
  induction n with
  | zero => ?_
  | succ n ih => ?_
  all_goals
    intro s₀ s hT hv G hs
    refine seg_whileLoop (wpAny_isTrue_value (wpAny_Constant_bool (wpAny_truthy_bool ?_)))
    rw [if_pos rfl]
    refine seg_execs_cons (seg_Expr_Yield hfs rfl hfg ?_ hco (by unfold interactive; rw [O.kind]; rfl))
    obtain ⟨m, lv, hn, hm, t, rfl⟩ := G.ns
    refine wpAny_Name (wpAny_loadName_local (m := m) O.kind (O.loc _ hsc) (hL ▸ hn) hm ?_) rfl
    obtain ⟨q1, q2⟩ := replicate_tail hv
    intro kap hk
  · refine ⟨⟨x, t, q1, rfl⟩, ⟨listIter_live G.it, ns_live hn⟩, hs, fun h => absurd rfl h⟩
  · refine ⟨⟨x, t, by rw [sub_e1]; exact q1, rfl⟩, ⟨listIter_live G.it, ns_live hn⟩, hs, fun zz s'' hsame => hk .none s'' ?_⟩
    exact seg_again rfl (ih s'' s'' (Nat.le_of_succ_le hT) (by rw [← sub_e2 hT]; exact q2) (G.same hsame) (GSt.refl _ _ _))
end
noncomputable def scOk (sc : Scope) (ls gs : List Str) : Bool := (ls.all fun x => sc.names.lookup x == some .local) && (gs.all fun x => isGlob sc x)
theorem scOk_l {sc : Scope} {ls gs : List Str} (h : scOk sc ls gs = true) {x : Str} (hx : x ∈ ls) : sc.names.lookup x = some .local := beq_iff_eq.mp (List.all_eq_true.mp ((Bool.and_eq_true _ _).mp h).1 x hx)
theorem scOk_g {sc : Scope} {ls gs : List Str} (h : scOk sc ls gs = true) {x : Str} (hx : x ∈ gs) : isGlob sc x = true := List.all_eq_true.mp ((Bool.and_eq_true _ _).mp h).2 x hx
theorem evG {prog : Program} {w : World} {A : Around} {E : Value → Shared → Prop} {h₁ : Heap} {mg mb : Str → Option Value} {s : Shared} {env : Env} {sc : Scope} {x : Str} {pos : Pos} {v : Value} {Q : Value → Shared → Prop} (B : Base h₁ mg mb) (O : EnvOk sc env) (ht : Tops h₁ s.heap) (hx : isGlob sc x = true) (hv : mg x = some v) (h : Q v s) : wpAny (model prog w) A (eval (.Name x pos) env) Q E s :=
  have ⟨h1, h2⟩ := isGlob_iff hx
  Calls.Name_function_global O.kind (O.names x h1) (Calls.loadGlobal_global (mg := mg) (by rw [O.glob]; exact B.g.keeps ht) hv h) h2
section
variable {prog : Program} {w : World} {A : Around} {h₁ : Heap} {mg mb : Str → Option Value} {s s₀ : Shared} {env : Env} {sc : Scope} {L I a : Addr} {vs : List Value} {ns : List Int} {i n T : Nat} {last : Option Int} {vals : List Int} {fs : List Frame}
structure GiPos where
  p : Fin 30 → Pos
  n : Fin 4 → Nat
noncomputable def giBody (P : GiPos) (rs : List Stmt) : List Stmt := [
  .If (.Compare (.Name "interval" (P.p 0)) [.Eq] [.Name "CHAR_MAX" (P.p 1)] (P.p 2)) [.Return none (P.p 3)] [] (P.p 4),
  .If (.Compare (.Name "interval" (P.p 5)) [.Eq] [.Constant (.int 0) (P.n 0) (P.p 6)] (P.p 7)) [
     .If (.Compare (.Name "last_interval" (P.p 8)) [.Is] [.Constant .none (P.n 1) (P.p 9)] (P.p 10)) rs [] (P.p 11),
     .While (.Constant (.bool true) (P.n 2) (P.p 12)) [.Expr (.Yield (some (.Name "last_interval" (P.p 13))) (P.p 14)) (P.p 15)] [] (P.p 16)] [] (P.p 17),
  .Expr (.Yield (some (.Name "interval" (P.p 18))) (P.p 19)) (P.p 20),
  .Assign [.Name "last_interval" (P.p 21)] (.Name "interval" (P.p 22)) (P.p 23)]
theorem wpAny_Return_none' {M : Model} {A : Around} {E : Value → Shared → Prop} {pos : Pos} {Q : Flow → Shared → Prop} {env : Env} (h : Q (.ret .none) s) : wpAny M A (exec (.Return none pos) env) Q E s := wpAny_Return_none h
theorem lastR_is {x : Option Int} {v : Value} (h : lastR x v) : plainIs v .none = true ∧ (v == .none) = x.isNone := by
  cases x with
  | none => cases h; exact ⟨rfl, rfl⟩
  | some i => obtain ⟨t, rfl⟩ := h; exact ⟨rfl, rfl⟩
theorem gi_for {P : GiPos} {rs : List Stmt} {tp p0 : Pos} {c0 : Code} {k1 : Result → Sem Fin} (B : Base h₁ mg mb) (O : EnvOk sc env) (hsc : scOk sc ["grouping", "interval", "last_interval"] ["CHAR_MAX"] = true) (hcm : ∃ t, mg "CHAR_MAX" = some (.int 127 t)) (hco : env.scope.isCoroutine = false)
    (hh : (A.over (.forLoop (.Name "interval" tp) (.ref I) (giBody P rs) [] env) [.ret k1 none false [] c0 p0 []]).handled = none)
    (hIL : I ≠ L) (hIa : I ≠ a) (hLa : L ≠ a) (hL0 : h₁.get? L = none) (hI0 : h₁.get? I = none) (hL : env.locals = L) (hi : IntsAre vs ns)
    (hk1 : ∀ (n : Nat) (s₀ s : Shared) (r : Flow), (r = .next ∨ r = .ret .none) → giP L I T vals n s₀ s → Seg (model prog w) A (giR L I T vals) (giY h₁ L I a T vals) n s₀ c0 (k1 (.ok r)) [] s) :
    ∀ (rest : List Int) (i n : Nat) (last : Option Int) (s₀ s : Shared), ns.drop i = rest → n ≤ T → 1 ≤ n → gIntervals n last rest = some (vals.drop (T - n)) → GiAt h₁ L I a vs i last s → GSt L I s₀ s →
      Seg (model prog w) A (giR L I T vals) (giY h₁ L I a T vals) n s₀ (.forLoop (.Name "interval" tp) (.ref I) (giBody P rs) [] env) ((model prog w).den (.forLoop (.Name "interval" tp) (.ref I) (giBody P rs) [] env)) [.ret k1 none false [] c0 p0 []] s := by
  have hl : ∀ {x}, x ∈ (["grouping", "interval", "last_interval"] : List Str) → env.kindOf x = some .local := fun h => O.loc _ (scOk_l hsc h)
  have hg : isGlob sc "CHAR_MAX" = true := scOk_g hsc (by simp)
  have hpl : (env.scope.kind == .class || (env.scope.kind == .module && env.locals != env.globals)) = false := by rw [O.kind]; rfl
  intro rest
  induction rest with
  | nil =>
    intro i n last s₀ s hd hnT hn1 hv G hs
    refine gen_forLoop ?_
    have hge : ns.length ≤ i := List.drop_eq_nil_iff.mp hd
    refine wpAny_pyNext_list_end hh G.it G.li (Array.getElem?_eq_none (by rw [List.size_toArray, hi.length]; exact hge)) fun h' hx => ?_
    refine seg_again rfl ?_
    show Seg _ A _ _ n s₀ _ (leafOf (.ok .next)) _ _
    refine seg_leaf _ (hk1 n s₀ _ _ (.inl rfl) ⟨?_, hs.trans ⟨Step.extBut (tk := s.toks) hx (.inr rfl), rfl⟩⟩)
    obtain ⟨n, rfl⟩ := Nat.exists_eq_add_of_le' hn1
    have : ([] : List Int) = vals.drop (T - (n + 1)) := Option.some.inj hv
    exact List.drop_eq_nil_iff.mp this.symm
  | cons x rest ih =>
    intro i n last s₀ s hd hnT hn1 hv G hs
    obtain ⟨n, rfl⟩ := Nat.exists_eq_add_of_le' hn1
    obtain ⟨hx, hd', -⟩ := drop_cons hd
    refine gen_forLoop ?_
    obtain ⟨t, hvx⟩ : ∃ t, vs[i]? = some (.int x t) := by
      have h1 : i < vs.length := by rw [hi.length]; exact (List.getElem?_eq_some_iff.mp hx).1
      obtain ⟨t, e⟩ := hi.int_at i _ (List.getElem?_eq_getElem h1)
      refine ⟨t, ?_⟩
      rw [List.getElem?_eq_getElem h1, e, List.getD_eq_getElem?_getD, hx]; rfl
    refine wpAny_pyNext_list_item G.it G.li (x := .int x t) (by rw [List.getElem?_toArray]; exact hvx) fun h' hit hsb => ?_
    refine wpAny_pure ?_
    obtain ⟨m, lv, hns, hm, hlr⟩ := G.ns
    subst hL
    refine wpAny_assign_Name (wpAny_storeName_local (m := m) (hl (by simp)) (hns.sameBut hsb (Ne.symm hIL)) (fun h2 hns2 hsb2 => ?_) hpl)
    dsimp only at hsb2
    have kp : ∀ b o, s.heap.get? b = some o → b ≠ I → b ≠ env.locals → h2.get? b = some o := fun b o e h3 h4 => (hsb2.2 b h4).trans ((hsb.2 b h3).trans e)
    have G3 : ∀ tk, GiAt h₁ env.locals I a vs (i + 1) last { s with heap := h2, toks := tk } := fun tk => ⟨fun b o e => kp b o (G.top b o e) (fun h => by rw [h, hI0] at e; cases e) (fun h => by rw [h, hL0] at e; cases e), ⟨_, lv, hns2, by rw [if_neg (by decide)]; exact hm, hlr⟩, hit.extBut hsb2.extBut hIL, (G.li.extBut hsb.extBut (Ne.symm hIa)).extBut hsb2.extBut (Ne.symm hLa)⟩
    have hs3 : ∀ tk, GSt env.locals I s₀ { s with heap := h2, toks := tk } := fun tk => hs.trans ⟨Step.heapTok fun b o e hb => kp b o e (fun h => hb (.inr h)) (fun h => hb (.inl h)), rfl⟩
    have ld : ∀ {A : Around} {E : Value → Shared → Prop} {tk : Nat} {p : Pos} {Q : Value → Shared → Prop}, Q (.int x t) { s with heap := h2, toks := tk } → wpAny (model prog w) A (eval (.Name "interval" p) env) Q E { s with heap := h2, toks := tk } := fun hQ =>
      wpAny_Name (wpAny_loadName_local O.kind (hl (by simp)) hns2 (if_pos rfl) hQ) rfl
    have ldl : ∀ {A : Around} {E : Value → Shared → Prop} {tk : Nat} {p : Pos} {Q : Value → Shared → Prop}, Q lv { s with heap := h2, toks := tk } → wpAny (model prog w) A (eval (.Name "last_interval" p) env) Q E { s with heap := h2, toks := tk } := fun hQ =>
      wpAny_Name (wpAny_loadName_local O.kind (hl (by simp)) hns2 ((if_neg (by decide)).trans hm) hQ) rfl
    obtain ⟨tc, hcm⟩ := hcm
    refine seg_execs_cons (gen_If (isTrue_cmpG rfl (wpAny_Compare1 (ld (evG B O (G3 _).top hg hcm (PyProof.Rows.eq_int (wpAny_truthy_bool ?_)))) rfl)))
    by_cases h127 : x = 127
    · subst h127
      rw [if_pos (by decide)]
      refine seg_execs_cons (gen_stmt (wpAny_Return_none' ?_))
      show Seg _ A _ _ (n + 1) s₀ _ (leafOf (.ok (.ret .none))) _ _
      refine seg_leaf _ (hk1 (n + 1) s₀ _ _ (.inr rfl) ⟨?_, hs3 _⟩)
      have : ([] : List Int) = vals.drop (T - (n + 1)) := Option.some.inj hv
      exact List.drop_eq_nil_iff.mp this.symm
    · rw [if_neg (fun q => h127 (beq_iff_eq.mp q))]
      refine seg_execs_nil (seg_execs_cons (gen_If (isTrue_cmpG rfl (wpAny_Compare1 (ld (wpAny_Constant_int (PyProof.Rows.eq_int (wpAny_truthy_bool ?_)))) rfl))))
      change (if x = 127 then some [] else _) = _ at hv
      rw [if_neg h127] at hv
      by_cases h0 : x = 0
      · subst h0
        rw [if_pos (by decide)]
        rw [if_pos rfl] at hv
        cases last with
        | none => cases hv
        | some l =>
          have hv := Option.some.inj hv
          refine seg_execs_cons (gen_If (isTrue_cmpG rfl (wpAny_Compare1 (ldl (wpAny_Constant_none (wpAny_is_plain (lastR_is hlr).1 (wpAny_truthy_bool ?_)))) rfl)))
          rw [(lastR_is hlr).2, if_neg (by show ¬ (false = true); decide)]
          refine seg_execs_nil (seg_execs_cons (seg_While fun p => ?_))
          exact gi_while O (scOk_l hsc (by simp)) hco hIL hIa rfl rfl rfl n s₀ _ hnT hv.symm (G3 _) (hs3 _)
      · rw [if_neg (fun q => h0 (beq_iff_eq.mp q))]
        rw [if_neg h0] at hv
        rw [Option.map_eq_some_iff] at hv
        obtain ⟨ys, hys, hv⟩ := hv
        obtain ⟨v1, v2, -⟩ := drop_cons hv.symm
        refine seg_execs_nil (seg_execs_cons (seg_Expr_Yield rfl rfl rfl ?_ hco (by unfold interactive; rw [O.kind]; rfl)))
        refine ld ?_
        intro kap hk
        refine ⟨⟨x, t, by show vals[T - 1 - n]? = _; rw [sub_e3]; exact v1, rfl⟩, ⟨listIter_live (G3 0).it, ns_live hns2⟩, hs3 _, fun hn s'' hsame => hk .none s'' ?_⟩
        have hns4 : s''.heap.Ns env.locals _ := Ns_keep hns2 fun o e => hsame.1 env.locals (by simp) o e
        have it4 : s''.heap.IsListIter I a (i + 1) := (G3 0).it.at fun o e => hsame.1 I (by simp) o e
        have li4 : s''.heap.IsList a vs.toArray := (G3 0).li.at fun o e => hsame.1 a (by simp) o e
        refine seg_execs_cons (gen_stmt (wpAny_Assign_Name (wpAny_Name (wpAny_loadName_local O.kind (hl (by simp)) hns4 (if_pos rfl) ?_) rfl) rfl))
        refine wpAny_storeName_local (hl (by simp)) hns4 (fun h5 hns5 hsb5 => ?_) hpl
        refine seg_execs_nil (seg_again rfl ?_)
        have hst5 : GSt env.locals I s'' { s'' with heap := h5, toks := s''.toks + 1 } := ⟨Step.sameBut hsb5 (.inl rfl), rfl⟩
        refine ih (i + 1) n (some x) s'' _ hd' (Nat.le_of_succ_le hnT) (Nat.pos_of_ne_zero hn) ?_ ⟨fun b o e => (hsb5.2 b (fun h => by rw [h, hL0] at e; cases e)).trans (hsame.2 b o e), ⟨_, _, hns5, if_pos rfl, t, rfl⟩, it4.extBut hsb5.extBut hIL, li4.extBut hsb5.extBut (Ne.symm hLa)⟩ hst5
        rw [hys, ← sub_e2 hnT, v2]
end
section
variable {prog : Program} {w : World} {A : Around} {E : Value → Shared → Prop} {s : Shared}
theorem nextOf_gen {a : Addr} {g n : Nat} {gs : GenState} {P : Nat → Shared → Shared → Prop} {Y : Protocol} {Q : Value → Shared → Prop} (hh : A.handled = none) (hl : s.heap.NoLimit) (hroom : A.depth < recursionLimit)
    (hg : s.heap.IsGen a g) (hgs : s.gens[g]? = some gs)
    (hgo : gs.Goes (model prog w) A.in1 (fun n s₀ r s₁ => r = .ok (.ret .none) ∧ P n s₀ s₁) Y n (.send .none) (s.setGen g .running))
    (hY : ∀ v s₁ gs', gs'.bare = true → Y (n - 1) (s.setGen g .running) v s₁ (fun r' s'' => match n with
        | 0 => False
        | m + 1 => gs'.Goes (model prog w) A.in1 (fun n s₀ r s₁ => r = .ok (.ret .none) ∧ P n s₀ s₁) Y m r' s'') → Q v (s₁.setGen g gs'))
    (hP : ∀ s₁, P n (s.setGen g .running) s₁ → ∀ h' e, (∀ b o, s₁.heap.get? b = some o → h'.get? b = some o) → (∃ o, h'.get? e = some o ∧ o.cls = .type "StopIteration") → s₁.heap.get? e = none → E (.ref e) { s₁.setGen g .finished with heap := h' }) :
    wpAny (model prog w) A (Builtin.SmallTypes.nextOf (.ref a)) Q E s := by
  unfold Builtin.SmallTypes.nextOf
  refine wpAny_bind (wpAny_callSpecial?_slot (name := Str.ofString "__next__") hg.typeIs slot_gen_next
    (wpAny_call_entry slot_gen_next hg.typeIs entry_gen_next ?_ (args_gen_next _)))
  show wpAny _ A.in1 (Builtin.Generator.genWake (.ref a) (.send .none)) _ _ s
  unfold Builtin.Generator.genWake
  refine wpAny_bind (wpAny_holding (wpAny_genNumber hg (wpAny_bind (wpAny_genState hgs ?_))))
  cases gs with
  | running => exact hgo.elim
  | finished => exact hgo.elim
  | _ =>
    refine wpAny_bind (wpAny_roomToWake hl hroom ?_)
    show wpAny _ A.in1 (.resume g (.send .none) [] _) _ _ s
    refine wpAny_resumeQ hgs hgo (fun x s₁ hx => ?_) (fun v s₁ gs' hb hv => ?_)
    · obtain ⟨rfl, hp⟩ := hx
      show wpAny _ A.in1 (newExc (.type "StopIteration") [] >>= _) _ _ _
      refine wpAny_bind ?_
      simp only [newExc, newTuple]
      refine wpAny_bind (wpAny_newObj_type ?_ (by size_fits))
      refine wpAny_bind (m := firstArgMember _ _) (wpAny_of_eq (a := Value.none) (by first | rfl | (simp only [firstArgMember]; rfl)) ?_)
      refine wpAny_newObj_type ?_ (by size_fits)
      simp only [raiseNew]
      refine wpAny_bind (wpAny_bind (wpAny_handled ?_))
      first | rw [show A.in1.handled = none from hh] | rw [hh]
      refine wpAny_throw ?_
      refine hP s₁ hp _ _ (fun b o hb => Heap.get?_push_of_some _ (Heap.get?_push_of_some _ hb)) ⟨_, Heap.get?_push_size _ rfl, rfl⟩ ?_
      exact get_none (by rw [Heap.size_push]; exact Nat.le_succ _)
    · exact wpAny_pure ⟨v, rfl, wpAny_pure (hY v s₁ gs' hb hv)⟩
theorem nextOf_range_item {i : Addr} {k m : Int} {Q : Value → Shared → Prop} (hi : IsRangeIter s.heap i k m 1) (hm : 0 < m)
    (h : ∀ h' , IsRangeIter h' i (k + 1) (m - 1) 1 → Heap.SameBut i s.heap h' → Q (.int k s.toks) { s with heap := h', toks := s.toks + 1 }) : wpAny (model prog w) A (Builtin.SmallTypes.nextOf (.ref i)) Q E s := by
  have hT : s.TypeIs (.ref i) "range_iterator" := ⟨_, hi, rfl⟩
  unfold Builtin.SmallTypes.nextOf
  refine wpAny_bind (wpAny_callSpecial?_slot (name := Str.ofString "__next__") hT PySem.F.slot_range_iterator_next
    (call_meets PySem.F.slot_range_iterator_next hT PySem.F.entry_range_iterator_next (PySem.F.args_range_iterator_next_1 _) (AutoRange.range_iterator___next___range_iterator_1 i k m 1 (by lia)) ⟨hi, ?_⟩))
  exact wpAny_pure (h _ (Heap.get?_update_self _ (Heap.get?_update_self _ hi rfl) rfl) ((Heap.SameBut.update ..).trans (Heap.SameBut.update ..)))
theorem nextOf_range_end {i : Addr} {k m : Int} {Q : Value → Shared → Prop} (hh : A.handled = none) (hi : IsRangeIter s.heap i k m 1) (hm : m ≤ 0)
    (hE : ∀ h' e, Heap.ExtBut i s.heap h' → (∃ o, h'.get? e = some o ∧ o.cls = .type "StopIteration") → s.heap.get? e = none → E (.ref e) { s with heap := h' }) : wpAny (model prog w) A (Builtin.SmallTypes.nextOf (.ref i)) Q E s := by
  have hT : s.TypeIs (.ref i) "range_iterator" := ⟨_, hi, rfl⟩
  unfold Builtin.SmallTypes.nextOf
  refine wpAny_bind (wpAny_callSpecial?_slot (name := Str.ofString "__next__") hT PySem.F.slot_range_iterator_next
    (wpAny_call_entry PySem.F.slot_range_iterator_next hT PySem.F.entry_range_iterator_next ?_ (PySem.F.args_range_iterator_next_1 _)))
  show wpAny _ _ (field (.ref i) 0 >>= _) _ _ s
  refine wpAny_bind (wpAny_field hi rfl (x := rawInt k) rfl ?_)
  show wpAny _ _ (field (.ref i) 1 >>= _) _ _ s
  refine wpAny_bind (wpAny_field hi rfl (x := rawInt m) rfl ?_)
  show wpAny _ _ (field (.ref i) 2 >>= _) _ _ s
  refine wpAny_bind (wpAny_field hi rfl (x := rawInt 1) rfl ?_)
  show wpAny _ _ (if m ≤ 0 then _ else _) _ _ s
  rw [if_pos hm]
  refine wpAny_bind (wpAny_rule ?_)
  refine wpAny_bind ?_
  show wpAny _ _ (newExc (.type "StopIteration") [] >>= _) _ _ _
  refine wpAny_bind ?_
  simp only [newExc, newTuple]
  refine wpAny_bind (wpAny_newObj_type ?_ (by size_fits))
  refine wpAny_bind (m := firstArgMember _ _) (wpAny_of_eq (a := Value.none) (by first | rfl | (simp only [firstArgMember]; rfl)) ?_)
  refine wpAny_newObj_type ?_ (by size_fits)
  simp only [raiseNew]
  refine wpAny_bind (wpAny_handled ?_)
  first | rw [show A.in1.handled = none from hh] | rw [hh]
  refine wpAny_bind (wpAny_pure (wpAny_throw ?_))
  exact hE _ _ (((Heap.ExtBut.refl i s.heap).push _).push _) ⟨_, Heap.get?_push_size _ rfl, rfl⟩ (get_none (by rw [Heap.size_push]; exact Nat.le_succ _))
noncomputable abbrev zipMid (h : Heap) (z TI TO : Addr) : Prop := IsZip h z TI TO .ellipsis
theorem zip_next2 {z TI TO i1 i2 : Addr} {a b : Value} {Q : Fin → Shared → Prop} (d1 : TI ≠ z) (d2 : TO ≠ z)
    (hz : IsZip s.heap z TI TO .none) (hTI : IsPair s.heap TI (.ref i1) (.ref i2)) (hTO : IsPair s.heap TO a b)
    (h : ∀ h1, zipMid h1 z TI TO → Heap.SameBut z s.heap h1 → wpAny (model prog w) A (Builtin.SmallTypes.nextOf (.ref i1)) (fun x s2 => (zipMid s2.heap z TI TO ∧ IsPair s2.heap TO a b) ∧ ∀ h3, IsPair h3 TO x b → Heap.SameBut TO s2.heap h3 →
      wpAny (model prog w) A (Builtin.SmallTypes.nextOf (.ref i2)) (fun y s4 => (zipMid s4.heap z TI TO ∧ IsPair s4.heap TO x b) ∧ ∀ h', IsZip h' z TI TO (rawInt s4.heap.objs.size) → IsPair h' TO x y → IsPair h' s4.heap.objs.size x y →
          (∀ c o, c ≠ z → c ≠ TO → s4.heap.get? c = some o → h'.get? c = some o) → Q (.done (.ret (.ref s4.heap.objs.size))) { s4 with heap := h' })
        (fun e s' => zipMid s'.heap z TI TO ∧ ∀ h', Heap.SameBut z s'.heap h' → E e { s' with heap := h' }) { s2 with heap := h3 })
      (fun e s' => zipMid s'.heap z TI TO ∧ ∀ h', Heap.SameBut z s'.heap h' → E e { s' with heap := h' }) { s with heap := h1 }) :
    wpAny (model prog w) A (Builtin.«zip.__next__» ⟨[.ref z], []⟩) Q E s := by
  have onR : ∀ {e : Value} {s' : Shared}, (zipMid s'.heap z TI TO ∧ ∀ h', Heap.SameBut z s'.heap h' → E e { s' with heap := h' }) → wpAny (model prog w) A (setField (.ref z) 0 .none) (fun zz s'' => E e s'') E s' := fun h =>
    wpAny_setField_rec h.1 (by simp) fun h' zz hs => h.2 h' hs
  show wpAny _ _ (field (.ref z) 2 >>= _) _ _ _
  refine wpAny_bind (wpAny_field hz rfl (x := .bool false) rfl ?_)
  show wpAny _ _ (field (.ref z) 3 >>= _) _ _ _
  refine wpAny_bind (wpAny_field hz rfl (x := .ref TI) rfl ?_)
  refine wpAny_bind (wpAny_seqItems hTI rfl ?_)
  show wpAny _ _ (Builtin.SmallTypes.ownedTupleIsFree (.ref z) >>= _) _ _ _
  refine wpAny_bind ?_
  unfold Builtin.SmallTypes.ownedTupleIsFree
  refine wpAny_bind (wpAny_field hz rfl (x := .none) rfl (wpAny_pure ?_))
  simp only [if_true]
  refine wpAny_bind (wpAny_rule ?_)
  refine wpAny_bind (wpAny_field hz rfl (x := .ref TO) rfl ?_)
  refine wpAny_bind (wpAny_setField_rec hz (by simp) fun h₁ hz₁ hs₁ => ?_)
  replace hz₁ : IsZip h₁ z TI TO .ellipsis := hz₁
  refine wpAny_bind ?_
  simp only [List.zipIdx_cons, List.zipIdx_nil, List.forIn_cons, List.forIn_nil]
  refine wpAny_bind (wpAny_bind (wpAny_onRaise ?_))
  show wpAny _ _ (Builtin.SmallTypes.nextOf (.ref i1) >>= _) _ _ _
  refine wpAny_bind (wpAny_mono (h h₁ hz₁ hs₁) (fun x s2 h2 => wpAny_pure ?_) fun e s' he => onR he)
  obtain ⟨⟨hz2, hTO2⟩, h2⟩ := h2
  refine wpAny_bind (wpAny_seqItems hTO2 rfl ?_)
  refine wpAny_bind (wpAny_updateSeq_pair hTO2 fun h₃ hTO₃ hs₃ => ?_)
  replace hTO₃ : IsPair h₃ TO x b := hTO₃
  refine wpAny_bind (wpAny_letGo (wpAny_pure ?_))
  refine wpAny_bind (wpAny_bind (wpAny_onRaise ?_))
  show wpAny _ _ (Builtin.SmallTypes.nextOf (.ref i2) >>= _) _ _ _
  refine wpAny_bind (wpAny_mono (h2 h₃ hTO₃ hs₃) (fun y s4 h4 => wpAny_pure ?_) fun e s' he => onR he)
  obtain ⟨⟨hz4, hTO4⟩, h4⟩ := h4
  refine wpAny_bind (wpAny_seqItems hTO4 rfl ?_)
  refine wpAny_bind (wpAny_updateSeq_pair hTO4 fun h₅ hTO₅ hs₅ => ?_)
  replace hTO₅ : IsPair h₅ TO x y := hTO₅
  refine wpAny_bind (wpAny_letGo (wpAny_pure (wpAny_pure ?_)))
  refine wpAny_bind (wpAny_seqItems hTO₅ rfl ?_)
  refine wpAny_bind (wpAny_newTuple ?_)
  have hsz : h₅.objs.size = s4.heap.objs.size := hs₅.1
  have hz₅ : IsZip h₅ z TI TO .ellipsis := hs₅.extBut _ _ (Ne.symm d2) hz4
  have hzlt : z < h₅.objs.size := Heap.lt_size hz₅
  show wpAny _ _ (Builtin.SmallTypes.ownedTupleHandOut (.ref z) (.ref h₅.objs.size) >>= _) _ _ _
  refine wpAny_bind ?_
  unfold Builtin.SmallTypes.ownedTupleHandOut
  have hz₆ : IsZip (h₅.push { cls := .type "tuple", data := .seq #[x, y] }) z TI TO .ellipsis := Heap.get?_push_of_some _ hz₅
  refine wpAny_bind (wpAny_setField_rec hz₆ (by simp) fun h₇ hz₇ hs₇ => ?_)
  replace hz₇ : IsZip h₇ z TI TO (rawInt h₅.objs.size) := hz₇
  refine wpAny_setField_rec hz₇ (by simp) fun h₈ hz₈ hs₈ => ?_
  replace hz₈ : IsZip h₈ z TI TO (rawInt h₅.objs.size) := hz₈
  have up : ∀ c o, c ≠ z → h₅.get? c = some o → h₈.get? c = some o := fun c o c1 e => hs₈.extBut _ _ c1 (hs₇.extBut _ _ c1 (Heap.get?_push_of_some _ e))
  have hT₈ : IsPair h₈ h₅.objs.size x y := hs₈.extBut _ _ (Nat.ne_of_gt hzlt) (hs₇.extBut _ _ (Nat.ne_of_gt hzlt) (Heap.get?_push_size _ rfl))
  rw [hsz] at hz₈ hT₈
  refine wpAny_pure ?_
  show Q (.done (.ret (.ref h₅.objs.size))) _
  rw [hsz]
  exact h4 h₈ hz₈ (up _ _ d2 hTO₅) hT₈ fun c o c1 c2 e => up c o c1 (hs₅.extBut _ _ c2 e)
end
section
variable {prog : Program} {w : World} {A : Around} {E : Value → Shared → Prop} {s s₀ : Shared} {h₁ : Heap} {mg mb : Str → Option Value} {env : Env} {sc : Scope} {L a : Addr} {vs : List Value} {ns : List Int} {T : Nat} {vals : List Int}
theorem pyNext_zip2 {z TI TO i1 i2 : Addr} {a b : Value} {Q : Option Value → Shared → Prop} (d1 : TI ≠ z) (d2 : TO ≠ z)
    (hz : IsZip s.heap z TI TO .none) (hTI : IsPair s.heap TI (.ref i1) (.ref i2)) (hTO : IsPair s.heap TO a b)
    (h : ∀ h1, zipMid h1 z TI TO → Heap.SameBut z s.heap h1 → wpAny (model prog w) A.in1 (Builtin.SmallTypes.nextOf (.ref i1)) (fun x s2 => (zipMid s2.heap z TI TO ∧ IsPair s2.heap TO a b) ∧ ∀ h3, IsPair h3 TO x b → Heap.SameBut TO s2.heap h3 →
      wpAny (model prog w) A.in1 (Builtin.SmallTypes.nextOf (.ref i2)) (fun y s4 => (zipMid s4.heap z TI TO ∧ IsPair s4.heap TO x b) ∧ ∀ h', IsZip h' z TI TO (rawInt s4.heap.objs.size) → IsPair h' TO x y → IsPair h' s4.heap.objs.size x y →
          (∀ c o, c ≠ z → c ≠ TO → s4.heap.get? c = some o → h'.get? c = some o) → Q (some (.ref s4.heap.objs.size)) { s4 with heap := h' })
        (fun e s' => zipMid s'.heap z TI TO ∧ ∃ ea, e = .ref ea ∧ (∃ o, s'.heap.get? ea = some o ∧ o.cls = .type "StopIteration") ∧ ∀ h', Heap.SameBut z s'.heap h' → Q none { s' with heap := h' }) { s2 with heap := h3 })
      (fun e s' => zipMid s'.heap z TI TO ∧ ∃ ea, e = .ref ea ∧ (∃ o, s'.heap.get? ea = some o ∧ o.cls = .type "StopIteration") ∧ ∀ h', Heap.SameBut z s'.heap h' → Q none { s' with heap := h' }) { s with heap := h1 }) :
    wpAny (model prog w) A (pyNext (.ref z)) Q E s := by
  have hT : s.TypeIs (.ref z) "zip" := ⟨_, hz, rfl⟩
  unfold pyNext
  have stop : ∀ {e : Value} {s' : Shared}, (zipMid s'.heap z TI TO ∧ ∃ ea, e = .ref ea ∧ (∃ o, s'.heap.get? ea = some o ∧ o.cls = .type "StopIteration") ∧ ∀ h', Heap.SameBut z s'.heap h' → Q none { s' with heap := h' }) →
      zipMid s'.heap z TI TO ∧ ∀ h', Heap.SameBut z s'.heap h' → wpAny (model prog w) A (do if ← isInstance e (.type "StopIteration") then pure none else throw e) Q E { s' with heap := h' } := by
    rintro e s' ⟨hz, ea, rfl, ⟨o, ho, hc⟩, hq⟩
    refine ⟨hz, fun h' hs => ?_⟩
    have hne : ea ≠ z := fun x => by subst x; rw [hz] at ho; cases ho; simp at hc
    refine wpAny_bind (wpAny_isInstance (T := "StopIteration") (b := true) ⟨o, hs.extBut _ _ hne ho, hc⟩ isSubtype_stop ?_)
    exact wpAny_pure (hq h' hs)
  refine wpAny_bind (wpAny_attempt (wpAny_callSpecial?_slot (name := Str.ofString "__next__") hT PySem.F.slot_zip_next
    (wpAny_call_entry PySem.F.slot_zip_next hT PySem.F.entry_zip_next (zip_next2 d1 d2 hz hTI hTO fun h1 q1 q2 => wpAny_mono (h h1 q1 q2) (fun x s2 h2 => ⟨h2.1, fun h3 q3 q4 => wpAny_mono (h2.2 h3 q3 q4) (fun y s4 h4 => ⟨h4.1, fun h' q5 q6 q7 q8 => ⟨_, rfl, ?_⟩⟩) fun e s' he => ?_⟩) fun e s' he => ?_) (PySem.F.args_zip_next_1 _))))
  · exact wpAny_pure (h4.2 h' q5 q6 q7 q8)
  · exact stop he
  · exact stop he
theorem gi_start {P : GiPos} {rs : List Stmt} {tp p1 p2 p3 p4 p5 : Pos} {n0 : Nat} (B : Base h₁ mg mb) (O : EnvOk sc env) (hsc : scOk sc ["grouping", "interval", "last_interval"] ["CHAR_MAX"] = true) (hcm : ∃ t, mg "CHAR_MAX" = some (.int 127 t)) (hco : env.scope.isCoroutine = false)
    (hh : A.handled = none) (hLa : L ≠ a) (hL0 : h₁.get? L = none) (hL : env.locals = L) (hi : IntsAre vs ns) (hT1 : 1 ≤ T) (hv : gIntervals T none ns = some vals)
    (hT : Tops h₁ s.heap) (hns : ∃ m, s.heap.Ns L m ∧ m "grouping" = some (.ref a)) (hl : s.heap.IsList a vs.toArray) :
    Seg (model prog w) A (giR L s.heap.objs.size T vals) (giY h₁ L s.heap.objs.size a T vals) T s (.func [.Assign [.Name "last_interval" p1] (.Constant .none n0 p2) p3, .For (.Name "interval" tp) (.Name "grouping" p4) (giBody P rs) [] p5] env)
      ((model prog w).den (.func [.Assign [.Name "last_interval" p1] (.Constant .none n0 p2) p3, .For (.Name "interval" tp) (.Name "grouping" p4) (giBody P rs) [] p5] env)) [] s := by
  have hlk : ∀ {x}, x ∈ (["grouping", "interval", "last_interval"] : List Str) → env.kindOf x = some .local := fun h => O.loc _ (scOk_l hsc h)
  have hpl : (env.scope.kind == .class || (env.scope.kind == .module && env.locals != env.globals)) = false := by rw [O.kind]; rfl
  obtain ⟨m, hn, hg⟩ := hns
  subst hL
  refine seg_func (seg_execs_cons (gen_stmt (wpAny_Assign_Name (wpAny_Constant_none (wpAny_storeName_local (m := m) (hlk (by simp)) hn (fun h2 hn2 hs2 => ?_) hpl)) rfl)))
  refine seg_execs_cons (gen_For (fun zz => rfl) (wpAny_Name (wpAny_loadName_local O.kind (hlk (by simp)) hn2 ((if_neg (by decide)).trans hg) ?_) rfl))
  rw [← hs2.1]
  have hl2 : h2.IsList a vs.toArray := hl.extBut hs2.extBut (Ne.symm hLa)
  refine wpAny_pyIter_list hl2 fun p => ?_
  have hI : h2.get? h2.objs.size = none := size_none _
  have hIL : h2.objs.size ≠ env.locals := fun e => by obtain ⟨o, _, _, q, _⟩ := hn2; rw [e, q] at hI; cases hI
  have hIa : h2.objs.size ≠ a := fun e => by obtain ⟨o, q, _⟩ := hl2; rw [e, q] at hI; cases hI
  have top2 : Tops h₁ h2 := fun b o e => (hs2.2 b (fun h => by rw [h, hL0] at e; cases e)).trans (hT b o e)
  have hI0 : h₁.get? h2.objs.size = none := Option.eq_none_iff_forall_not_mem.mpr fun o q => not_none (top2 _ o q) hI
  refine gi_for B O hsc hcm hco hh hIL hIa hLa hL0 hI0 rfl hi ?_ ns 0 T none s _ rfl (Nat.le_refl _) hT1 (by rw [Nat.sub_self]; exact hv) ?_ ?_
  · rintro n s₀ s r (rfl | rfl) hp
    · exact seg_end (.ok (.ret .none)) ⟨rfl, hp⟩
    · exact seg_end (.ok (.ret .none)) ⟨rfl, hp⟩
  · exact ⟨fun b o e => Heap.get?_push_of_some _ (top2 b o e), ⟨_, .none, hn2.push _, if_pos rfl, rfl⟩, ⟨_, Heap.get?_push_size _ rfl, rfl, rfl⟩, hl2.push _⟩
  · refine ⟨Step.heapTok fun b o e hb => Heap.get?_push_of_some _ ((hs2.2 b fun h => hb (.inl h)).trans e), rfl⟩
end
structure GiC where
  n : Nat
  a : Nat
  g : Nat
  K : Nat
noncomputable def GiC.own (c : GiC) : List Addr := [c.n, c.n + 2, c.n + 4, c.n + 5]
noncomputable def gI (Il : List Addr) (s : Shared) : Addr := Il.headD s.heap.objs.size
noncomputable abbrev GZ (g : Pg) (A : Around) (c : GiC) (vs : List Value) (vals : List Int) (Il : List Addr) (j : Nat) (s : Shared) : Prop := (IsZip s.heap (c.n + 5) (c.n + 3) (c.n + 4) .none) ∧ (IsPair s.heap (c.n + 3) (.ref (c.n + 2)) (.ref (c.n + 1))) ∧ (∃ a b, IsPair s.heap (c.n + 4) a b) ∧ (IsRangeIter s.heap (c.n + 2) j (c.K - j) 1) ∧ (s.heap.IsGen (c.n + 1) c.g) ∧ (Tops g.h₁ s.heap) ∧ (s.heap.IsList c.a vs.toArray) ∧ (∀ b, b = c.n ∨ b ∈ Il → (s.heap.get? b).isSome = true) ∧ (∀ b ∈ Il, c.n + 6 ≤ b) ∧ (c.n + 6 ≤ s.heap.objs.size) ∧ (j ≤ c.K) ∧ (∃ gs, s.gens[c.g]? = some gs ∧ gs.bare = true ∧ (j < c.K → ∀ s'' : Shared, (∀ b, b = c.n ∨ b = c.a ∨ b ∈ Il → ∀ o, s.heap.get? b = some o → s''.heap.get? b = some o) → Tops g.h₁ s''.heap → gs.Goes (model g.prog g.w) A.in1.in1 (giR c.n (gI Il s'') c.K vals) (giY g.h₁ c.n (gI Il s'') c.a c.K vals) (c.K - j) (.send .none) s''))
section
variable {a_ b_ c_ d_ e_ f_ g_ h_} (x_ : GZ a_ b_ c_ d_ e_ f_ g_ h_)
def GZ.z := x_.1
def GZ.ti := x_.2.1
def GZ.to := x_.2.2.1
def GZ.ri := x_.2.2.2.1
def GZ.gn := x_.2.2.2.2.1
def GZ.top := x_.2.2.2.2.2.1
def GZ.li := x_.2.2.2.2.2.2.1
def GZ.live := x_.2.2.2.2.2.2.2.1
def GZ.ap := x_.2.2.2.2.2.2.2.2.1
def GZ.sz := x_.2.2.2.2.2.2.2.2.2.1
def GZ.le := x_.2.2.2.2.2.2.2.2.2.2.1
def GZ.gs := x_.2.2.2.2.2.2.2.2.2.2.2
end
noncomputable abbrev GC0 (g : Pg) (A : Around) (c : GiC) : Prop := (A.handled = none) ∧ (A.depth < recursionLimit) ∧ (g.h₁.NoLimit) ∧ (c.a < c.n) ∧ (∀ b, c.n ≤ b → g.h₁.get? b = none)
section
variable {a_ b_ c_} (x_ : GC0 a_ b_ c_)
def GC0.hh := x_.1
def GC0.room := x_.2.1
def GC0.lim := x_.2.2.1
def GC0.an := x_.2.2.2.1
def GC0.top := x_.2.2.2.2
end
section
variable {g : Pg} {A : Around} {s s' : Shared} {c : GiC} {vs : List Value} {vals : List Int} {Il : List Addr} {j : Nat}
noncomputable def GiC.By (c : GiC) (I b : Addr) : Prop := b ≠ c.n ∧ b ≠ c.n + 2 ∧ b ≠ c.n + 4 ∧ b ≠ c.n + 5 ∧ b ≠ I
theorem off {n i j : Nat} (h : (i == j) = false) : n + i ≠ n + j := fun q => beq_eq_false_iff_ne.mp h (Nat.add_left_cancel q)
theorem off0 {n j : Nat} (h : (0 == j) = false) : n ≠ n + j := off (i := 0) h
theorem GC0.tn (C : GC0 g A c) {b d : Nat} {o : Obj} (e : g.h₁.get? b = some o) (h : c.n ≤ d) : b ≠ d := fun q => not_none e (C.top b (q ▸ h))
theorem GZ.pres (x : GZ g A c vs vals Il j s) : ∀ k : Nat, k < 6 → (s.heap.get? (c.n + k)).isSome = true
  | 0, _ => x.live _ (.inl rfl)
  | 1, _ => let ⟨_, _, _, e, _⟩ := x.gn; isSome_of e
  | 2, _ => isSome_of x.ri
  | 3, _ => isSome_of x.ti
  | 4, _ => let ⟨_, _, e⟩ := x.to; isSome_of e
  | 5, _ => isSome_of x.z
  | k + 6, h => absurd h (Nat.not_lt.mpr (Nat.le_add_left 6 k))
theorem GZ.frame (x : GZ g A c vs vals Il j s) (hk : ∀ b, b ∈ Il ++ c.own ∨ b = c.n + 3 ∨ b = c.n + 1 ∨ b = c.a ∨ (g.h₁.get? b).isSome = true → ∀ o, s.heap.get? b = some o → s'.heap.get? b = some o) (hg : ∀ (g : Nat) (x : GenState), s.gens[g]? = some x → s'.gens[g]? = some x) : GZ g A c vs vals Il j s' := by
  have ow : ∀ b ∈ c.own, ∀ o, s.heap.get? b = some o → s'.heap.get? b = some o := fun b hb => hk b (.inl (List.mem_append_right _ hb))
  have il : ∀ b, b = c.n ∨ b ∈ Il → ∀ o, s.heap.get? b = some o → s'.heap.get? b = some o := fun b hb => hb.elim (fun q => q ▸ ow _ List.mem_cons_self) fun q => hk b (.inl (List.mem_append_left _ q))
  have o2 := ow (c.n + 2) (.tail _ (.head _))
  have o4 := ow (c.n + 4) (.tail _ (.tail _ (.head _)))
  have o5 := ow (c.n + 5) (.tail _ (.tail _ (.tail _ (.head _))))
  obtain ⟨ta, tb, hto⟩ := x.to
  obtain ⟨gs, e1, e2, e3⟩ := x.gs
  obtain ⟨go, nm, qn, eg, qg⟩ := x.gn
  obtain ⟨lo, el, ql⟩ := x.li
  exact ⟨o5 _ x.z, hk _ (.inr (.inl rfl)) _ x.ti, ⟨ta, tb, o4 _ hto⟩, o2 _ x.ri, ⟨go, nm, qn, hk _ (.inr (.inr (.inl rfl))) _ eg, qg⟩, fun b o e => hk b (.inr (.inr (.inr (.inr (isSome_of e))))) o (x.top b o e), ⟨lo, hk _ (.inr (.inr (.inr (.inl rfl)))) _ el, ql⟩, fun b hb => let ⟨o, e⟩ := Option.isSome_iff_exists.mp (x.live b hb); isSome_of (il b hb o e), x.ap,
    Nat.lt_of_not_le fun q => not_none (o5 _ x.z) (get_none q), x.le, gs, hg _ _ e1, e2, fun hj s'' hs ht => e3 hj s'' (fun b hb o e => hs b hb o (hb.elim (fun q => il b (.inl q) o e) fun q => q.elim (fun q => hk b (.inr (.inr (.inr (.inl q)))) o e) fun q => il b (.inr q) o e)) ht⟩
theorem gens_set {s s₁ : Shared} {g : Nat} {gs gs' : GenState} (h : s.gens[g]? = some gs) (e : s₁.gens = (s.setGen g .running).gens) : (s₁.setGen g gs').gens[g]? = some gs' ∧ ∀ k, k ≠ g → (s₁.setGen g gs').gens[k]? = s.gens[k]? := by
  have hg : g < s.gens.size := (Array.getElem?_eq_some_iff.mp h).1
  have e' : s₁.gens = s.gens.setIfInBounds g .running := e
  constructor
  · show (s₁.gens.setIfInBounds g gs')[g]? = _
    rw [e', Array.getElem?_setIfInBounds, if_pos rfl, if_pos (by rw [Array.size_setIfInBounds]; exact hg)]
  · intro k hk
    show (s₁.gens.setIfInBounds g gs')[k]? = _
    rw [e', Array.getElem?_setIfInBounds, if_neg (Ne.symm hk), Array.getElem?_setIfInBounds, if_neg (Ne.symm hk)]
theorem gens_bare {s s₁ : Shared} {g : Nat} {gs gs' : GenState} (h : s.gens[g]? = some gs) (e : s₁.gens = (s.setGen g .running).gens) (hb : gs'.bare = true) (ha : AllBare s.gens) : AllBare (s₁.setGen g gs').gens := by
  obtain ⟨h1, h2⟩ := gens_set (gs' := gs') h e
  intro y hy
  obtain ⟨i, hi, rfl⟩ := Array.mem_iff_getElem.mp hy
  have h3 := Array.getElem?_eq_getElem hi
  by_cases q : i = g
  · subst q
    rw [h1] at h3
    exact Option.some.inj h3 ▸ hb
  · rw [h2 i q] at h3
    obtain ⟨h4, h5⟩ := Array.getElem?_eq_some_iff.mp h3
    exact h5 ▸ ha _ (Array.getElem_mem h4)
noncomputable abbrev Mid (c : GiC) (s : Shared) (j : Nat) (tb : Value) (h3 : Heap) : Prop := (∀ b o, b ≠ c.n + 5 → b ≠ c.n + 2 → b ≠ c.n + 4 → s.heap.get? b = some o → h3.get? b = some o) ∧ (zipMid h3 (c.n + 5) (c.n + 3) (c.n + 4)) ∧ (IsRangeIter h3 (c.n + 2) (j + 1) (c.K - j - 1) 1) ∧ (IsPair h3 (c.n + 4) (.int j s.toks) tb) ∧ (h3.objs.size = s.heap.objs.size)
section
variable {a_ b_ c_ d_ e_} (x_ : Mid a_ b_ c_ d_ e_)
def Mid.k := x_.1
def Mid.z := x_.2.1
def Mid.ri := x_.2.2.1
def Mid.to := x_.2.2.2.1
def Mid.sz := x_.2.2.2.2
end
theorem GZ.I (C : GC0 g A c) (X : GZ g A c vs vals Il j s) : c.n + 6 ≤ gI Il s := by
  unfold gI
  cases Il with
  | nil => exact X.sz
  | cons I r => exact X.ap I List.mem_cons_self
theorem gI_eq {Il : List Addr} {s s' : Shared} (h : s'.heap.objs.size = s.heap.objs.size) : gI Il s' = gI Il s := by unfold gI; rw [h]
theorem gI_not {Il : List Addr} {s : Shared} {b : Addr} {o : Obj} (e : s.heap.get? b = some o) (h : b ∉ Il) : b ≠ gI Il s := fun q => by
  unfold gI at q
  cases Il with
  | nil => rw [q] at e; exact not_none e (size_none _)
  | cons I r => exact h (q ▸ List.mem_cons_self)
theorem mid_go (C : GC0 g A c) (X : GZ g A c vs vals Il j s) (hjK : j < c.K) {Q : Option Value → Shared → Prop}
    (h : ∀ tb h3 gs, Mid c s j tb h3 → s.gens[c.g]? = some gs → (gs.Goes (model g.prog g.w) A.in1.in1 (giR c.n (gI Il s) c.K vals) (giY g.h₁ c.n (gI Il s) c.a c.K vals) (c.K - j) (.send .none) ((⟨h3, s.gens, s.drawn, s.toks + 1, s.os⟩ : Shared).setGen c.g .running)) → Tops g.h₁ h3 →
      wpAny (model g.prog g.w) A.in1 (Builtin.SmallTypes.nextOf (.ref (c.n + 1))) (fun y s4 => (zipMid s4.heap (c.n + 5) (c.n + 3) (c.n + 4) ∧ IsPair s4.heap (c.n + 4) (.int j s.toks) tb) ∧ ∀ h', IsZip h' (c.n + 5) (c.n + 3) (c.n + 4) (rawInt s4.heap.objs.size) → IsPair h' (c.n + 4) (.int j s.toks) y → IsPair h' s4.heap.objs.size (.int j s.toks) y →
          (∀ b o, b ≠ c.n + 5 → b ≠ c.n + 4 → s4.heap.get? b = some o → h'.get? b = some o) → Q (some (.ref s4.heap.objs.size)) { s4 with heap := h' })
        (fun e s' => zipMid s'.heap (c.n + 5) (c.n + 3) (c.n + 4) ∧ ∃ ea, e = .ref ea ∧ (∃ o, s'.heap.get? ea = some o ∧ o.cls = .type "StopIteration") ∧ ∀ h', Heap.SameBut (c.n + 5) s'.heap h' → Q none { s' with heap := h' }) ⟨h3, s.gens, s.drawn, s.toks + 1, s.os⟩) :
    WP g.prog g.w A (pyNext (.ref (c.n + 5))) Q s := by
  obtain ⟨ta, tb, hto⟩ := X.to
  obtain ⟨gs, e1, e2, e3⟩ := X.gs
  refine pyNext_zip2 (off rfl) (off rfl) X.z X.ti hto fun h1 hz1 hs1 => ?_
  have ri1 : IsRangeIter h1 (c.n + 2) j (c.K - j) 1 := hs1.extBut _ _ (off rfl) X.ri
  refine nextOf_range_item (s := { s with heap := h1 }) ri1 (by lia) fun h2 ri2 hs2 => ⟨⟨hs2.extBut _ _ (off rfl) hz1, hs2.extBut _ _ (off rfl) (hs1.extBut _ _ (off rfl) hto)⟩, fun h3 hto3 hs3 => ?_⟩
  dsimp only at hs2 hs3
  have k3 : ∀ b o, b ≠ c.n + 5 → b ≠ c.n + 2 → b ≠ c.n + 4 → s.heap.get? b = some o → h3.get? b = some o := fun b o q1 q2 q3 e => (hs3.2 b q3).trans ((hs2.2 b q2).trans ((hs1.2 b q1).trans e))
  have M : Mid c s j tb h3 := ⟨k3, hs3.extBut _ _ (off rfl) (hs2.extBut _ _ (off rfl) hz1), (hs3.2 _ (off rfl)).trans ri2, hto3, hs3.1.trans (hs2.1.trans hs1.1)⟩
  have top3 : Tops g.h₁ h3 := fun b o e => k3 b o (C.tn e (Nat.le_add_right _ _)) (C.tn e (Nat.le_add_right _ _)) (C.tn e (Nat.le_add_right _ _)) (X.top b o e)
  have hgo := e3 hjK ((⟨h3, s.gens, s.drawn, s.toks + 1, s.os⟩ : Shared).setGen c.g .running) (fun b hb o e => by
    have : b < c.n + 1 ∨ c.n + 6 ≤ b := hb.elim (fun q => .inl (q ▸ Nat.lt_succ_self _)) fun q => q.elim (fun q => .inl (q ▸ Nat.lt_succ_of_lt C.an)) fun q => .inr (X.ap b q)
    exact k3 b o (fun q : b = c.n + 5 => by subst q; lia) (fun q : b = c.n + 2 => by subst q; lia) (fun q : b = c.n + 4 => by subst q; lia) e) top3
  rw [gI_eq (s := s) (show _ = _ from M.sz)] at hgo
  exact h tb h3 gs M e1 hgo top3
end
noncomputable def nwI (Il : List Addr) (s : Shared) : List Addr := match Il with
  | [] => [s.heap.objs.size]
  | _ :: _ => []
section
variable {g : Pg} {A : Around} {s s' : Shared} {c : GiC} {vs : List Value} {vals : List Int} {Il : List Addr} {j : Nat}
theorem nwI_mem {b : Addr} (h : b ∈ nwI Il s) : b = gI Il s ∧ s.heap.get? b = none := by
  cases Il with
  | nil => obtain rfl := List.mem_singleton.mp h; exact ⟨rfl, size_none _⟩
  | cons => cases h
theorem nwI_or {b : Addr} (h : b ∈ nwI Il s ++ Il) : b = gI Il s ∨ b ∈ Il := (List.mem_append.mp h).imp (fun h => (nwI_mem h).1) id
theorem nwI_in : gI Il s ∈ nwI Il s ++ Il := by
  cases Il with
  | nil => exact List.mem_cons_self
  | cons => exact List.mem_cons_self
theorem nwI_gI {s3 : Shared} : gI (nwI Il s ++ Il) s3 = gI Il s := by cases Il <;> rfl
theorem own_mem {b : Addr} (h : b ∉ Il ++ c.own) : b ∉ Il ∧ b ≠ c.n ∧ b ≠ c.n + 2 ∧ b ≠ c.n + 4 ∧ b ≠ c.n + 5 :=
  ⟨fun q => h (List.mem_append_left _ q), fun q => h (List.mem_append_right _ (q ▸ .head _)), fun q => h (List.mem_append_right _ (q ▸ .tail _ (.head _))), fun q => h (List.mem_append_right _ (q ▸ .tail _ (.tail _ (.head _)))), fun q => h (List.mem_append_right _ (q ▸ .tail _ (.tail _ (.tail _ (.head _)))))⟩
structure Ran (c : GiC) (s : Shared) (I : Addr) (h3 h4 : Heap) : Prop where
  k : ∀ b o, b ≠ c.n → b ≠ I → h3.get? b = some o → h4.get? b = some o
theorem Ran.all {I : Addr} {tb : Value} {h3 h4 h6 : Heap} (R : Ran c s I h3 h4) (M : Mid c s j tb h3) (k6 : ∀ b o, b ≠ c.n + 5 → b ≠ c.n + 4 → h4.get? b = some o → h6.get? b = some o) {b : Addr} {o : Obj} (h : c.By I b) (e : s.heap.get? b = some o) : h6.get? b = some o :=
  k6 b o h.2.2.2.1 h.2.2.1 (R.k b o h.1 h.2.2.2.2 (M.k b o h.2.2.2.1 h.2.1 h.2.2.1 e))
theorem by_low {I b : Nat} (h : b < c.n) (hI : c.n + 6 ≤ I) : c.By I b := ⟨Nat.ne_of_lt h, Nat.ne_of_lt (Nat.lt_add_right _ h), Nat.ne_of_lt (Nat.lt_add_right _ h), Nat.ne_of_lt (Nat.lt_add_right _ h), Nat.ne_of_lt (Nat.lt_of_lt_of_le (Nat.lt_add_right 6 h) hI)⟩
theorem by_mid {I k : Nat} (hI : c.n + 6 ≤ I) (h : k = 1 ∨ k = 3) : c.By I (c.n + k) := by
  rcases h with rfl | rfl <;> exact ⟨Ne.symm (off0 rfl), off rfl, off rfl, off rfl, Nat.ne_of_lt (Nat.lt_of_lt_of_le (Nat.add_lt_add_left (by decide) _) hI)⟩
theorem by_high {I b : Nat} (h : c.n + 6 ≤ b) (hb : b ≠ I) : c.By I b := by
  have key : ∀ k, k < 6 → b ≠ c.n + k := fun k hk q => Nat.not_lt.mpr h (q ▸ Nat.add_lt_add_left hk _)
  exact ⟨key 0 (by decide), key 2 (by decide), key 4 (by decide), key 5 (by decide), hb⟩
theorem GC0.low (C : GC0 g A c) {b : Nat} {o : Obj} (e : g.h₁.get? b = some o) : b < c.n := Nat.lt_of_not_le fun q => not_none e (C.top b q)
theorem gen_at (C : GC0 g A c) (X : GZ g A c vs vals Il j s) {tb : Value} {h3 : Heap} (M : Mid c s j tb h3) : h3.IsGen (c.n + 1) c.g := by
  obtain ⟨o, nm, qn, e, q⟩ := X.gn
  exact ⟨o, nm, qn, M.k _ o (off rfl) (off rfl) (off rfl) e, q⟩
theorem gz_item {tgt : Expr} {x : Int} {G : GO} (C : GC0 g A c) (ht : isTuple tgt = true) (X : GZ g A c vs vals Il j s) (hv : vals[j]? = some x) (hjK : j < c.K) :
    WP g.prog g.w A (pyNext (.ref (c.n + 5))) (fun o s' => ∃ v, o = some v ∧ WP g.prog g.w A (letOwnedTupleGo tgt (.ref (c.n + 5)) v) (fun zz s'' => Item G c.g (Il ++ c.own) (fun own s => ∃ Il, own = Il ++ c.own ∧ GZ g A c vs vals Il (j + 1) s) (.tup [.int j, .int x]) v s s'') s') s := by
  refine mid_go C X hjK fun tb h3 gs M e1 hgo top3 => ?_
  have hI6 := X.I C
  refine nextOf_gen (s := ⟨h3, s.gens, s.drawn, s.toks + 1, s.os⟩) (P := giP c.n (gI Il s) c.K vals) (n := c.K - j) C.hh (C.lim.keeps top3) C.room (gen_at C X M) e1 hgo (fun v s₁ gs' hb hY => ?_) fun s₁ hp h' e hk hst hn => ?_
  · obtain ⟨⟨x', t, hx', rfl⟩, ⟨hIl, hLl⟩, hst, hkap⟩ := hY
    have ej : c.K - 1 - (c.K - j - 1) = j := (congrArg (c.K - 1 - ·) (Nat.sub_right_comm c.K j 1)).trans (Nat.sub_sub_self (Nat.le_sub_one_of_lt hjK))
    rw [ej, hv] at hx'
    cases hx'
    have R : Ran c s (gI Il s) h3 s₁.heap := ⟨fun b o q1 q2 e => hst.step.keep b o e fun q => q.elim q1 q2⟩
    have nI : ∀ k, k < 6 → c.n + k ≠ gI Il s := fun k hk => Nat.ne_of_lt (Nat.lt_of_lt_of_le (Nat.add_lt_add_left hk _) hI6)
    have kb : ∀ k, k < 6 → (k == 0) = false → ∀ o, h3.get? (c.n + k) = some o → s₁.heap.get? (c.n + k) = some o := fun k hk h0 o e => R.k _ o (off (j := 0) h0) (nI k hk) e
    have hz4 : IsZip s₁.heap (c.n + 5) (c.n + 3) (c.n + 4) .ellipsis := kb 5 (by decide) rfl _ M.z
    have hto4 : IsPair s₁.heap (c.n + 4) (.int j s.toks) tb := kb 4 (by decide) rfl _ M.to
    refine ⟨⟨hz4, hto4⟩, fun h' hz5 hto5 hT5 k5 => ⟨_, rfl, ?_⟩⟩
    cases tgt <;> try cases ht
    dsimp only [Shared.setGen] at hz5 hT5 k5
    refine wpAny_letOwnedTupleGo_zip (s := ⟨h', (s₁.setGen c.g gs').gens, s₁.drawn, s₁.toks, s₁.os⟩) hz5 fun h6 hz6 hs6 => ?_
    dsimp only at hs6
    have k6 : ∀ b o, b ≠ c.n + 5 → b ≠ c.n + 4 → s₁.heap.get? b = some o → h6.get? b = some o := fun b o q1 q2 e => (hs6.2 b q1).trans (k5 b o q1 q2 e)
    have all : ∀ {b : Addr} {o : Obj}, c.By (gI Il s) b → s.heap.get? b = some o → h6.get? b = some o := fun h e => R.all M k6 h e
    obtain ⟨g1, g2⟩ := gens_set (s₁ := s₁) (gs' := gs') (s := ⟨h3, s.gens, s.drawn, s.toks + 1, s.os⟩) e1 hst.gens
    have li6 : ∀ b, b = c.n ∨ b = gI Il s → ∀ o, s₁.heap.get? b = some o → h6.get? b = some o := fun b hb o e => by
      have : b ≠ c.n + 5 ∧ b ≠ c.n + 4 := hb.elim (fun q => q ▸ ⟨off0 rfl, off0 rfl⟩) fun q => q ▸ ⟨Ne.symm (nI 5 (by decide)), Ne.symm (nI 4 (by decide))⟩
      exact k6 b o this.1 this.2 e
    have lv : ∀ b, b = c.n ∨ b = gI Il s → (h6.get? b).isSome = true := fun b hb => by
      obtain ⟨o, e⟩ := Option.isSome_iff_exists.mp (show (s₁.heap.get? b).isSome = true from hb.elim (· ▸ hLl) (· ▸ hIl))
      exact isSome_of (li6 b hb o e)
    have hIeq : ((j + 1 : Nat) : Int) = (j : Int) + 1 := rfl
    have X' : GZ g A c vs vals (nwI Il s ++ Il) (j + 1) ⟨h6, (s₁.setGen c.g gs').gens, s₁.drawn, s₁.toks, s₁.os⟩ := by
      refine ⟨hz6, all (by_mid hI6 (.inr rfl)) X.ti, ⟨_, _, hs6.extBut _ _ (off rfl) hto5⟩, ?_, let ⟨o, nm, qn, e, q⟩ := X.gn; ⟨o, nm, qn, all (by_mid hI6 (.inl rfl)) e, q⟩, fun b o e => all (by_low (C.low e) hI6) (X.top b o e), let ⟨o, e, q⟩ := X.li; ⟨o, all (by_low C.an hI6) e, q⟩, fun b hb => ?_, fun b hb => (nwI_or hb).elim (· ▸ hI6) (X.ap b), ?_, hjK, gs', g1, hb, fun hj s3 hkeep ht3 => ?_⟩
      · have := k6 _ _ (off rfl) (off rfl) (kb 2 (by decide) rfl _ M.ri)
        have e2 : (c.K : Int) - ((j + 1 : Nat) : Int) = (c.K : Int) - j - 1 := (Int.sub_sub (c.K : Int) j 1).symm
        show IsRangeIter h6 (c.n + 2) ((j + 1 : Nat) : Int) ((c.K : Int) - ((j + 1 : Nat) : Int)) 1
        rw [e2]; exact this
      · rcases hb.imp id nwI_or with h | h | h
        · exact lv b (.inl h)
        · exact lv b (.inr h)
        · by_cases q : b = gI Il s
          · exact lv b (.inr q)
          · obtain ⟨o, e⟩ := Option.isSome_iff_exists.mp (X.live b (.inr h))
            exact isSome_of (all (by_high (X.ap b h) q) e)
      · exact Nat.le_of_not_lt fun q => not_none hz6 (get_none (Nat.le_of_lt_succ q))
      · obtain ⟨m, hm⟩ : ∃ m, c.K - j = m + 1 := ⟨c.K - j - 1, (Nat.sub_add_cancel (Nat.sub_pos_of_lt hjK)).symm⟩
        have hk2 := hkap (by lia) s3 ⟨fun b hb o e => ?_, ht3⟩
        · rw [hm] at hk2
          rw [nwI_gI, show c.K - (j + 1) = m from (Nat.sub_add_eq c.K j 1).trans (congrArg (· - 1) hm)]
          exact hk2
        · rcases List.mem_cons.mp hb with rfl | hb
          · exact hkeep _ (.inl rfl) o (li6 _ (.inl rfl) o e)
          rcases List.mem_cons.mp hb with rfl | hb
          · exact hkeep _ (.inr (.inr nwI_in)) o (li6 _ (.inr rfl) o e)
          · obtain rfl := List.mem_singleton.mp hb
            exact hkeep _ (.inr (.inl rfl)) o (k6 _ o (Nat.ne_of_lt (Nat.lt_add_right _ C.an)) (Nat.ne_of_lt (Nat.lt_add_right _ C.an)) e)
    have n1 := size_none s₁.heap
    have dead : s.heap.get? s₁.heap.objs.size = none := Option.eq_none_iff_forall_not_mem.mpr fun o q => by
      have ne : ∀ {b : Addr} {o : Obj}, s₁.heap.get? b = some o → s₁.heap.objs.size ≠ b := fun e q => not_none e (q ▸ n1)
      exact not_none (R.k _ o (fun q => alive_not hLl (q ▸ n1)) (fun q => alive_not hIl (q ▸ n1)) (M.k _ o (ne hz4) (ne (kb 2 (by decide) rfl _ M.ri)) (ne hto4) q)) n1
    refine ⟨nwI Il s, fun b hb => (nwI_mem hb).2, ⟨nwI Il s ++ Il, (List.append_assoc _ _ _).symm, X'⟩, ⟨fun b o e hb => ?_, hst.step.os, fun k y hk e => (g2 k (Nat.ne_of_lt hk)).trans e, fun ha => gens_bare (s := ⟨h3, s.gens, s.drawn, s.toks + 1, s.os⟩) e1 hst.gens hb ha⟩,
      fun ow hlv how hG => ⟨⟨rfl, by show 2 ≤ 100000; decide⟩, s₁.heap.objs.size, [.int j s.toks, .int x t], rfl, IsL.vis ⟨0, (hs6.2 _ fun q => not_none hz4 (q ▸ n1)).trans hT5⟩ ?_, .int j s.toks, [.int x t], rfl, ⟨_, rfl⟩, .int x t, [], rfl, ⟨t, rfl⟩, rfl⟩⟩
    · obtain ⟨q0, q1, q2, q3, q4⟩ := own_mem hb
      exact all ⟨q1, q2, q3, q4, gI_not e q0⟩ e
    · rw [Ow.aux_ne fun q => alive_not hIl ((nwI_mem q).1 ▸ n1)]
      exact hlv.free dead
  · exact (Nat.not_lt.mpr (show vals.length ≤ j by have := hp.1; lia) (List.getElem?_eq_some_iff.mp hv).1).elim
end
section
variable {g : Pg} {A : Around} {s s' : Shared} {c : GiC} {vs : List Value} {vals : List Int} {Il : List Addr} {j : Nat}
theorem gz_done (C : GC0 g A c) (X : GZ g A c vs vals Il j s) (hv : vals.length = j) : WP g.prog g.w A (pyNext (.ref (c.n + 5))) (fun o s' => o = none ∧ StepN c.g (· ∈ Il ++ c.own) s s') s := by
  by_cases hjK : j = c.K
  · obtain ⟨ta, tb, hto⟩ := X.to
    refine pyNext_zip2 (off rfl) (off rfl) X.z X.ti hto fun h1 hz1 hs1 => ?_
    have ri1 : IsRangeIter h1 (c.n + 2) j (c.K - j) 1 := hs1.extBut _ _ (off rfl) X.ri
    refine nextOf_range_end (s := { s with heap := h1 }) C.hh ri1 (by lia) fun h2 e hx hst hn => ⟨hx _ _ (off rfl) hz1, e, rfl, hst, fun h' hs => ⟨rfl, (Step.heap fun b o eb hb => ?_).n⟩⟩
    obtain ⟨-, -, q2, -, q5⟩ := own_mem hb
    exact (hs.2 b q5).trans (hx b o q2 ((hs1.2 b q5).trans eb))
  · have hjl : j < c.K := Nat.lt_of_le_of_ne X.le hjK
    have hI6 := X.I C
    refine mid_go C X hjl fun tb h3 gs M e1 hgo top3 => ?_
    refine nextOf_gen (s := ⟨h3, s.gens, s.drawn, s.toks + 1, s.os⟩) (P := giP c.n (gI Il s) c.K vals) (n := c.K - j) C.hh (C.lim.keeps top3) C.room (gen_at C X M) e1 hgo (fun v s₁ gs' hb hY => ?_) fun s₁ hp h' e hk hst hn => ?_
    · obtain ⟨⟨x', t, hx', _⟩, _⟩ := hY
      exact (Nat.not_lt.mpr (show vals.length ≤ c.K - 1 - (c.K - j - 1) from Nat.le_trans (Nat.le_of_eq hv) (Nat.le_of_eq ((congrArg (c.K - 1 - ·) (Nat.sub_right_comm c.K j 1)).trans (Nat.sub_sub_self (Nat.le_sub_one_of_lt hjl))).symm)) (List.getElem?_eq_some_iff.mp hx').1).elim
    · have hst1 := hp.2
      have R : Ran c s (gI Il s) h3 s₁.heap := ⟨fun b o q1 q2 e => hst1.step.keep b o e fun q => q.elim q1 q2⟩
      have hz4 : IsZip s₁.heap (c.n + 5) (c.n + 3) (c.n + 4) .ellipsis := R.k _ _ (Ne.symm (off0 rfl)) (Nat.ne_of_lt (Nat.lt_of_lt_of_le (Nat.add_lt_add_left (by decide) _) hI6)) M.z
      obtain ⟨g1, g2⟩ := gens_set (s₁ := s₁) (gs' := .finished) (s := ⟨h3, s.gens, s.drawn, s.toks + 1, s.os⟩) e1 hst1.gens
      refine ⟨hk _ _ hz4, e, rfl, hst, fun h6 hs6 => ⟨rfl, fun b o eb hb => ?_, hst1.step.os, fun k y hkk ek => (g2 k (Nat.ne_of_lt hkk)).trans ek, fun ha => gens_bare (s := ⟨h3, s.gens, s.drawn, s.toks + 1, s.os⟩) e1 hst1.gens rfl ha⟩⟩
      obtain ⟨q0, q1, q2, q3, q4⟩ := own_mem hb
      exact (hs6.2 b q4).trans (hk b o (R.k b o q1 (gI_not eb q0) (M.k b o q4 q2 q3 eb)))
theorem gi_items_get {K : Nat} : ∀ {as : List Int} {vals : List Int} {i : Nat} {p : PV}, (zipPV (as.map .int) (vals.map .int))[i]? = some p → ∃ x y, as[i]? = some x ∧ vals[i]? = some y ∧ p = .tup [.int x, .int y]
  | [], _, _, _, h => nomatch h
  | _ :: _, [], _, _, h => nomatch h
  | a :: as, b :: bs, 0, p, h => by cases h; exact ⟨a, b, rfl, rfl, rfl⟩
  | a :: as, b :: bs, i + 1, p, h => gi_items_get (K := K) (as := as) (vals := bs) (i := i) h
theorem zip_len : ∀ {as : List Int} {vals : List Int}, vals.length ≤ as.length → (zipPV (as.map .int) (vals.map .int)).length = vals.length
  | [], [], _ => rfl
  | [], _ :: _, h => nomatch h
  | _ :: _, [], _ => rfl
  | _ :: as, _ :: bs, h => congrArg (· + 1) (zip_len (as := as) (vals := bs) (Nat.le_of_succ_le_succ h))
theorem gz_walk {tgt : Expr} {G : GO} {fp : List Addr} (C : GC0 g A c) (ht : isTuple tgt = true) (hle : vals.length ≤ c.K) (hfp : ∀ b, b = c.n + 3 ∨ b = c.n + 1 ∨ b = c.a ∨ (g.h₁.get? b).isSome = true → b ∈ fp) :
    Walk g A c.g tgt (.ref (c.n + 5)) fp G (zipPV ((rangeL 0 c.K).map .int) (vals.map .int)) (fun own j s => ∃ Il, own = Il ++ c.own ∧ GZ g A c vs vals Il j s) where
  live := by
    rintro own i s ⟨Il, rfl, X⟩ b hb
    rcases List.mem_append.mp hb with h | h
    · exact X.live b (.inr h)
    · rcases List.mem_cons.mp h with rfl | h
      · exact X.live _ (.inl rfl)
      rcases List.mem_cons.mp h with rfl | h
      · exact X.pres 2 (by decide)
      rcases List.mem_cons.mp h with rfl | h
      · exact X.pres 4 (by decide)
      · exact List.mem_singleton.mp h ▸ X.pres 5 (by decide)
  frame := by
    rintro own i s s' ⟨Il, rfl, X⟩ hk hg
    exact ⟨Il, rfl, X.frame (fun b hb => hk b (hb.imp id (hfp b))) hg⟩
  item := by
    rintro own i p s hp ⟨Il, rfl, X⟩
    obtain ⟨x, y, h1, h2, rfl⟩ := gi_items_get (K := 0) hp
    have hi := (List.getElem?_eq_some_iff.mp h2).1
    rw [show x = i by rw [rangeL_get h1, Int.zero_add]]
    exact gz_item C ht X h2 (Nat.lt_of_lt_of_le hi hle)
  done := by
    rintro own s ⟨Il, rfl, X⟩
    rw [zip_len (by rw [rangeL_length]; exact hle)] at X
    exact gz_done C X rfl
  self := by
    rintro own i s ⟨Il, rfl, X⟩
    exact wpAny_pyIter_zip X.z ⟨rfl, rfl⟩
end
noncomputable abbrev zG1 (h : Heap) (K : Int) : Heap := h.push { cls := .type "range_iterator", data := .fields #[rawInt 0, rawInt (Builtin.Range.rangeSize 0 K 1), rawInt 1] }
noncomputable abbrev zG2 (h : Heap) (K : Int) (go : Addr) : Heap := (zG1 h K).push { cls := .type "tuple", data := .seq #[.ref h.objs.size, .ref go] }
noncomputable abbrev zG3 (h : Heap) (K : Int) (go : Addr) : Heap := (zG2 h K go).push { cls := .type "tuple", data := .seq #[.none, .none] }
noncomputable abbrev zG4 (h : Heap) (K : Int) (go : Addr) : Heap := (zG3 h K go).push { cls := .type "zip", data := .fields #[.none, .bool false, .bool false, .ref (zG1 h K).objs.size, .ref (zG2 h K go).objs.size] }
theorem meets_zip_gen (r go : Addr) (K : Int) (t u v : Tok) (g : Nat) (hsm : Builtin.Range.small 0 K 1 = true) :
    Meets (Builtin.«zip.__new__» ⟨[.type "zip", .ref r, .ref go], []⟩) (fun zz R s => IsRange s.heap r 0 K 1 t u v ∧ s.heap.IsGen go g ∧
      R (.ok (.ret (.ref (zG3 s.heap K go).objs.size))) { s with heap := zG4 s.heap K go }) :=
  .of_wp fun prog w A R s h => by
    obtain ⟨hp, gg, d, tk, os⟩ := s; obtain ⟨hl1, hl2, h⟩ := h
    have hsub := sub_zip
    have hL1 : IsRange (Shared.heap ⟨hp, gg, d, tk, os⟩) r 0 K 1 t u v := hl1
    have hL2 : Heap.IsGen (Shared.heap ⟨zG1 hp K, gg, d, tk, os⟩) go g := Heap.IsGen.push hl2 _
    wp_walk using (wpAny_pyIter_range hL1 hsm), (wpAny_pyIter_gen hL2)
    exact ⟨_, rfl, h⟩
section
variable {prog : Program} {w : World} {A : Around} {E : Value → Shared → Prop} {s : Shared}
theorem call_zip_gen {r go : Addr} {K : Nat} {t u v : Tok} {g : Nat} {Q : Value → Shared → Prop} (hK : K < 1000) (hr : IsRange s.heap r 0 K 1 t u v) (hg : s.heap.IsGen go g)
    (h : ∀ h', IsZip h' (s.heap.objs.size + 3) (s.heap.objs.size + 1) (s.heap.objs.size + 2) .none → IsPair h' (s.heap.objs.size + 1) (.ref s.heap.objs.size) (.ref go) → IsPair h' (s.heap.objs.size + 2) .none .none →
      IsRangeIter h' s.heap.objs.size 0 K 1 → h'.objs.size = s.heap.objs.size + 4 → (∀ c o, s.heap.get? c = some o → h'.get? c = some o) → Q (.ref (s.heap.objs.size + 3)) { s with heap := h' }) :
    wpAny (model prog w) A (call (.type "zip") [.ref r, .ref go]) Q E s := by
  have hsm : Builtin.Range.small 0 K 1 = true := small_one (by decide) (by decide) (by lia) (by lia)
  have hrs : Builtin.Range.rangeSize 0 (K : Int) 1 = K := by rw [rangeSize_one]; split <;> lia
  refine callType_new PySem.F.called_zip (by decide) (PySem.F.typeCall_zip_2 _ _) (PySem.F.newCall_zip_2 _ _) (fun obj => PySem.F.args_object_init_3 obj _ _) PySem.F.entry_zip_new
    (meets_zip_gen r go K t u v g hsm) ⟨hr, hg, ?_⟩
  have z1 : (zG1 s.heap K).objs.size = s.heap.objs.size + 1 := Heap.size_push ..
  have z2 : (zG2 s.heap K go).objs.size = s.heap.objs.size + 2 := by rw [Heap.size_push, z1]
  have z3 : (zG3 s.heap K go).objs.size = s.heap.objs.size + 3 := by rw [Heap.size_push, z2]
  have z4 : (zG4 s.heap K go).objs.size = s.heap.objs.size + 4 := by rw [Heap.size_push, z3]
  have g4 : (zG4 s.heap K go).get? (zG3 s.heap K go).objs.size = some _ := Heap.get?_push_size _ rfl
  have g3 : (zG4 s.heap K go).get? (zG2 s.heap K go).objs.size = some _ := Heap.get?_push_of_some _ (Heap.get?_push_size _ rfl)
  have g2 : (zG4 s.heap K go).get? (zG1 s.heap K).objs.size = some _ := Heap.get?_push_of_some _ (Heap.get?_push_of_some _ (Heap.get?_push_size _ rfl))
  have g1 : (zG4 s.heap K go).get? s.heap.objs.size = some _ := Heap.get?_push_of_some _ (Heap.get?_push_of_some _ (Heap.get?_push_of_some _ (Heap.get?_push_size _ rfl)))
  show _ ∧ _
  rw [z1, z2, z3] at g4
  rw [z2] at g3
  rw [z1] at g2
  rw [hrs] at g1
  rw [z3]
  exact ⟨⟨_, g4, rfl⟩, h _ g4 g2 g3 g1 z4 fun c o x => Heap.get?_push_of_some _ (Heap.get?_push_of_some _ (Heap.get?_push_of_some _ (Heap.get?_push_of_some _ x)))⟩
end
noncomputable def topL (h₁ : Heap) : List Addr := (List.range h₁.objs.size).filter fun b => (h₁.get? b).isSome
theorem topL_mem {h₁ : Heap} {b : Addr} (h : (h₁.get? b).isSome = true) : b ∈ topL h₁ := let ⟨_, e⟩ := Option.isSome_iff_exists.mp h; List.mem_filter.mpr ⟨List.mem_range.mpr (Heap.lt_size e), h⟩
noncomputable abbrev giF (P : GiPos) (rs : List Stmt) (tp p1 p2 p3 p4 p5 : Pos) (n0 : Nat) : List Stmt := [.Assign [.Name "last_interval" p1] (.Constant .none n0 p2) p3, .For (.Name "interval" tp) (.Name "grouping" p4) (giBody P rs) [] p5]
structure GAt (g : Pg) (f : Addr) (fd : FuncData) (sc : Scope) : Prop where
  ob : ∃ o, g.h₁.get? f = some o ∧ o.data = .func fd
  code : g.h₁.CodeRec fd.code fd.qualname
  body : ∃ (P : GiPos) (rs : List Stmt) (tp p1 p2 p3 p4 p5 : Pos) (n0 : Nat), fd.body = .stmts (giF P rs tp p1 p2 p3 p4 p5 n0)
  clo : fd.closure = []
  glob : fd.globals = mainGlobals
  blt : fd.builtins = builtinsNs
  scp : fd.scope = sc
  kind : sc.kind = .function
  co : sc.isCoroutine = false
  ge : sc.isGenerator = true
  cell : ∀ x ∈ sc.names, x.2 ≠ .cell
  nms : scOk sc ["grouping", "interval", "last_interval"] ["CHAR_MAX"] = true
  bind : ∀ v, bindArgs fd ⟨[v], []⟩ = pure [(("grouping" : Str), v)]
  cmax : ∃ t, g.mg "CHAR_MAX" = some (.int 127 t)
theorem ints_are {G : GO} : ∀ {l : List Int} {vs : List Value}, RVs G (l.map .int) vs → IntsAre vs l
  | [], _, r => by cases r; exact .nil
  | i :: l, _, r => by
    obtain ⟨v, vs', rfl, ⟨t, rfl⟩, r2⟩ := r
    exact .cons i t (ints_are r2)
theorem gIntervals_length : ∀ (n : Nat) (last : Option Int) (l g : List Int), gIntervals n last l = some g → g.length ≤ n
  | 0, _, _, g, h => by cases h; exact Nat.le_refl _
  | n + 1, _, [], g, h => by cases h; exact Nat.zero_le _
  | n + 1, last, x :: xs, g, h => by
    unfold gIntervals at h
    split at h
    · cases h; exact Nat.zero_le _
    split at h
    · cases last with
      | none => cases h
      | some l => cases h; exact Nat.le_of_eq (List.length_replicate ..)
    · obtain ⟨g', h', rfl⟩ := Option.map_eq_some_iff.mp h
      exact Nat.succ_le_succ (gIntervals_length n (some x) xs g' h')
section
variable {g : Pg} {A : Around} {s : Shared}
noncomputable abbrev GiMade (g : Pg) (s : Shared) (a K : Nat) (gl : List Int) (gen : GenState) (s' : Shared) : Prop := (s'.heap.objs.size = s.heap.objs.size + 2) ∧ (Step0 s s') ∧ (s'.heap.IsGen (s.heap.objs.size + 1) s.gens.size) ∧ ((s'.heap.get? s.heap.objs.size).isSome = true) ∧ (s'.gens = s.gens.push gen) ∧ (gen.bare = true) ∧ (∀ (A' : Around), A'.handled = none → ∀ s'' : Shared, (∀ b, b = s.heap.objs.size ∨ b = a → ∀ o, s'.heap.get? b = some o → s''.heap.get? b = some o) → Tops g.h₁ s''.heap → gen.Goes (model g.prog g.w) A' (giR s.heap.objs.size s''.heap.objs.size K gl) (giY g.h₁ s.heap.objs.size s''.heap.objs.size a K gl) K (.send .none) s'')
section
variable {a_ b_ c_ d_ e_ f_ g_} (x_ : GiMade a_ b_ c_ d_ e_ f_ g_)
def GiMade.sz := x_.1
def GiMade.st := x_.2.1
def GiMade.gn := x_.2.2.1
def GiMade.L := x_.2.2.2.1
def GiMade.gs := x_.2.2.2.2.1
def GiMade.bare := x_.2.2.2.2.2.1
def GiMade.go := x_.2.2.2.2.2.2
end
theorem gi_call {f : Addr} {fd : FuncData} {sc : Scope} {a : Addr} {vs : List Value} {l gl : List Int} {K : Nat} {Q : Value → Shared → Prop} (B : Base g.h₁ g.mg g.mb) (M : GAt g f fd sc) (hroom : A.depth < recursionLimit) (hT : Tops g.h₁ s.heap)
    (hl : s.heap.IsList a vs.toArray) (hi : IntsAre vs l) (hK : 1 ≤ K) (hg : gIntervals K none l = some gl)
    (h : ∀ (gs : GenState) (s' : Shared), GiMade g s a K gl gs s' → Q (.ref (s.heap.objs.size + 1)) s') :
    WP g.prog g.w A (call (.ref f) [.ref a]) Q s := by
  obtain ⟨o, ho, hd⟩ := M.ob
  obtain ⟨P, rs, tp, p1, p2, p3, p4, p5, n0, hb⟩ := M.body
  refine wpAny_call (codeAny_call_generator hroom (hT _ _ ho) hd (by rw [M.scp]; exact M.co) (by rw [M.scp]; exact M.ge) hb (M.code.keeps hT) ?_)
  rw [M.bind]
  refine wpAny_pure (wpAny_newFunctionEnv (by rw [M.scp]; exact M.cell) (fun x hx => ?_) (fun h' hns hsb => ?_) (by rw [M.scp]; exact M.kind))
  · rw [List.mem_singleton.mp hx, M.scp]
    exact scOk_l M.nms (.head _)
  · have hsz : h'.objs.size = s.heap.objs.size + 1 := by rw [hsb.1, Heap.size_push]
    have kp : ∀ b o, s.heap.get? b = some o → h'.get? b = some o := fun b o e => (hsb.2 b (Nat.ne_of_lt (Heap.lt_size e))).trans (Heap.get?_push_of_some _ e)
    clear hsb
    refine ⟨(B.nolimit.keeps hT).keeps kp, ?_⟩
    have hkd : ∀ y, (newEnv fd.scope s.heap.objs.size fd.globals fd.closure (fd.qualname ++ ".<locals>.") (some f) fd.code none fd.builtins).kindOf y = sc.names.lookup y := fun y => by show fd.scope.names.lookup y = _; rw [M.scp]
    have O : EnvOk sc (newEnv fd.scope s.heap.objs.size fd.globals fd.closure (fd.qualname ++ ".<locals>.") (some f) fd.code none fd.builtins) := ⟨by show fd.scope.kind = _; rw [M.scp]; exact M.kind, M.glob, M.blt, fun x h => (hkd x).trans h, fun x h => absurd rfl (M.cell _ (mem_of_lookup h)), fun x h => (hkd x).trans h⟩
    have hco : (newEnv fd.scope s.heap.objs.size fd.globals fd.closure (fd.qualname ++ ".<locals>.") (some f) fd.code none fd.builtins).scope.isCoroutine = false := by show fd.scope.isCoroutine = _; rw [M.scp]; exact M.co
    have eL : (newEnv fd.scope s.heap.objs.size fd.globals fd.closure (fd.qualname ++ ".<locals>.") (some f) fd.code none fd.builtins).locals = s.heap.objs.size := rfl
    generalize newEnv fd.scope s.heap.objs.size fd.globals fd.closure (fd.qualname ++ ".<locals>.") (some f) fd.code none fd.builtins = env at O hco eL ⊢
    have hL0 : g.h₁.get? s.heap.objs.size = none := Option.eq_none_iff_forall_not_mem.mpr fun o q => not_none (hT _ o q) (size_none _)
    have hLa : s.heap.objs.size ≠ a := fun e => by obtain ⟨o, q, _⟩ := hl; rw [← e, size_none] at q; cases q
    obtain ⟨_, _, _, hns0, _⟩ := id hns
    have hal := hl.at (h' := h') fun o e => kp a o e
    show Q (.ref h'.objs.size) _
    rw [hsz]
    refine h (.fresh (.func (giF P rs tp p1 p2 p3 p4 p5 n0) env)) _ ⟨by rw [Heap.size_push, hsz], ⟨fun b o e zz => Heap.get?_push_of_some _ (kp b o e), rfl, fun g x e => ?_, fun hb => hb.push rfl⟩, ?_, by rw [Heap.get?_push_of_some _ hns0]; rfl, rfl, rfl, fun A' hh' s'' hk ht => ⟨rfl, ?_⟩⟩
    · rw [Array.getElem?_push]
      rw [if_neg (Nat.ne_of_lt (Array.getElem?_eq_some_iff.mp e).1)]
      exact e
    · rw [← hsz]
      exact ⟨_, _, _, Heap.get?_push_size _ rfl, rfl, rfl, rfl⟩
    · exact gi_start B O M.nms M.cmax hco hh' hLa hL0 eL hi hK hg ht ⟨_, let ⟨o, es, ep, e, r⟩ := hns; ⟨o, es, ep, hk _ (.inl rfl) o (Heap.get?_push_of_some _ e), r⟩, rfl⟩ (hal.at fun o e => hk a (.inr rfl) o (Heap.get?_push_of_some _ e))
end
theorem gi_ok {g : Pg} {f : Addr} {fd : FuncData} {sc : Scope} (B : Base g.h₁ g.mg g.mb) (M : GAt g f fd sc) : GiOk g f := fun F r A ow s tgt rr t u w' K xs v l gl hh hroom S ht hr hv hi hK hg => by
  subst hi
  obtain ⟨ok, a, vs, rfl, la, ra⟩ := hv
  obtain ⟨m, ea⟩ := la.mono Sub.heap
  have hal : s.heap.IsList a vs.toArray := ⟨_, ea, rfl, m, rfl⟩
  have ha : a < s.heap.objs.size := Heap.lt_size ea
  refine gi_call B M hroom S.top hal (ints_are ra) hK.1 hg fun gs s1 G => ?_
  refine call_zip_gen hK.2 (G.st.get hr) G.gn fun h' hz hTI hTO hri hsz hk => ?_
  rw [G.sz] at hz hTI hTO hri hsz ⊢
  refine wpAny_pyIter_zip (s := { s1 with heap := h' }) hz ?_
  have st : Step0 s { s1 with heap := h' } := G.st.trans0 (Step.heap fun b o e zz => hk b o e)
  have fr : ∀ {b : Nat}, s.heap.objs.size ≤ b → s.heap.get? b = none := fun hb => get_none hb
  have C : GC0 { g with F := F, r := r } A ⟨s.heap.objs.size, a, s.gens.size, K⟩ := ⟨hh, hroom, B.nolimit, ha, fun b hb => Option.eq_none_iff_forall_not_mem.mpr fun o q => not_none (S.top b o q) (fr hb)⟩
  have top : Tops g.h₁ h' := fun b o e => st.get (S.top b o e)
  obtain ⟨oL, eL⟩ := Option.isSome_iff_exists.mp G.L
  obtain ⟨og, nm, qn, eg, qg⟩ := G.gn
  have X : GZ { g with F := F, r := r } A ⟨s.heap.objs.size, a, s.gens.size, K⟩ vs gl [] 0 { s1 with heap := h' } := by
    refine ⟨hz, hTI, ⟨_, _, hTO⟩, ?_, ⟨og, nm, qn, hk _ _ eg, qg⟩, top, hal.at fun o e => st.get e, fun b hb => ?_, (fun zz h => nomatch h), Nat.le_of_eq hsz.symm, Nat.zero_le _, gs, ?_, G.bare, fun zz s'' hkk ht => ?_⟩
    · show IsRangeIter h' (s.heap.objs.size + 2) ((0 : Nat) : Int) ((K : Int) - ((0 : Nat) : Int)) 1
      rw [show (K : Int) - ((0 : Nat) : Int) = K from Int.sub_zero _]
      exact hri
    · rw [hb.resolve_right fun h => nomatch h]
      exact isSome_of (hk _ _ eL)
    · show s1.gens[s.gens.size]? = _
      rw [G.gs]
      exact Array.getElem?_push_size
    · exact G.go A.in1.in1 hh s'' (fun b hb o e => hkk b (hb.imp id .inl) o (hk b o e)) ht
  refine ⟨(s.heap.objs.size + 3) :: (s.heap.objs.size + 1) :: a :: topL g.h₁, ⟨⟨(⟨s.heap.objs.size, a, s.gens.size, K⟩ : GiC).own, _, s.gens.size, fun i x e => (Array.getElem?_eq_some_iff.mp e).1, gz_walk C ht (gIntervals_length K none l gl hg) fun b hb => ?_, ⟨[], rfl, X⟩, fun b hb => ?_⟩, st⟩, fun b hb => ?_⟩
  · refine List.mem_append_right _ ?_
    rcases hb with rfl | rfl | rfl | hb
    · exact .head _
    · exact .tail _ (.head _)
    · exact .tail _ (.tail _ (.head _))
    · exact .tail _ (.tail _ (.tail _ (topL_mem hb)))
  · refine fr ?_
    rcases List.mem_cons.mp hb with rfl | hb
    · exact Nat.le_refl _
    rcases List.mem_cons.mp hb with rfl | hb
    · exact Nat.le_add_right _ _
    rcases List.mem_cons.mp hb with rfl | hb
    · exact Nat.le_add_right _ _
    · exact List.mem_singleton.mp hb ▸ Nat.le_add_right _ _
  · have new : ∀ {b : Nat}, s.heap.objs.size ≤ b → ¬ (ow b).mine := fun hb q => by
      rw [S.live.free (fr hb)] at q
      exact q
    rcases List.mem_cons.mp hb with rfl | hb
    · exact ⟨isSome_of hTI, new (Nat.le_add_right _ _)⟩
    rcases List.mem_cons.mp hb with rfl | hb
    · exact ⟨isSome_of (hk _ _ eg), new (Nat.le_add_right _ _)⟩
    rcases List.mem_cons.mp hb with rfl | hb
    · exact ⟨isSome_of (st.get ea), fun q => by rw [isL_free la] at q; exact q⟩
    · obtain ⟨o, e⟩ := Option.isSome_iff_exists.mp (List.mem_filter.mp hb).2
      exact ⟨isSome_of (top b o e), fun q => not_none e (S.old b fun z => by rw [z] at q; exact q)⟩
noncomputable abbrev OwnH (c : Cx) (ow : Ow) (s : Shared) (i : Nat) (hc : Addr) (hs : HS) (x d l : Addr) (vs : List Value) : Prop := (ow x = tg c (.slot i)) ∧ (ow d = tg c (.slot i)) ∧ (ow l = tg c (.slot i)) ∧ (HD s.heap hc x d l) ∧ (okL (hdrs hs)) ∧ (IsL s.heap.get? "list" l vs) ∧ (RVs (vis s.heap ow) (hdrs hs) vs)
section
variable {a_ b_ c_ d_ e_ f_ g_ h_ i_ j_} (x_ : OwnH a_ b_ c_ d_ e_ f_ g_ h_ i_ j_)
def OwnH.tx := x_.1
def OwnH.td := x_.2.1
def OwnH.tl := x_.2.2.1
def OwnH.H := x_.2.2.2.1
def OwnH.ok := x_.2.2.2.2.1
def OwnH.il := x_.2.2.2.2.2.1
def OwnH.r := x_.2.2.2.2.2.2
end
theorem OwnH.step {c : Cx} {ow : Ow} {s s' : Shared} {i : Nat} {hc : Addr} {hs : HS} {x d l : Addr} {vs : List Value} (O : OwnH c ow s i hc hs x d l vs) (h : Step0 s s') : OwnH c ow s' i hc hs x d l vs :=
  ⟨O.tx, O.td, O.tl, O.H.step' h.keep fun zz zz => id, O.ok, O.il.step h, O.r.mono (Sub.step0 h)⟩
theorem OwnH.at {c : Cx} {ow : Ow} {s : Shared} {i : Nat} {hc : Addr} {hs : HS} {x d l : Addr} {vs : List Value} (O : OwnH c ow s i hc hs x d l vs) : HdrAt s ow hc x d l hs :=
  ⟨O.H, ⟨vs, O.il, O.r⟩, O.ok, fun b hb => (hb.elim (fun q => q ▸ O.tx) fun q => q.elim (fun q => q ▸ O.td) fun q => q ▸ O.tl : ow b = tg c (.slot i)) ▸ tg_ne _ fun h => nomatch h⟩
theorem hAdd_len (hs : HS) (a b : List Nat) : (hAdd hs a b).length ≤ hs.length + 1 := Nat.le_of_eq List.length_append
section
variable {k : KC} {SP : SPT} {i : Nat} {y : Str} {x1 x2 x : X} {e1 e2 e : Expr} {hc : Addr} {hs : HS} {t u : List Nat} {np apos pos cpos : Pos} {b : Ss} {body : List Stmt}
theorem No.hdr (n : No k i y) (a : At k) (h : get a.ρ i = .hdr hc hs) : ∃ x d l vs, Hold a.c a.ρ a.ow a.s i (.ref x) ∧ OwnH a.c a.ow a.s i hc hs x d l vs := by
  obtain ⟨v, H⟩ := Hold.of a.T a.D.N (by rw [a.hk]; exact n.m) (fun q => by rw [h] at q; cases q)
  have sl := H.sl
  rw [h] at sl
  cases sl with
  | @hdr _ _ x d l vs tx td tl H' ok il r => exact ⟨x, d, l, vs, H, tx, td, tl, H', ok, il, r⟩
noncomputable abbrev HSet (a : At k) (i : Nat) (hc : Addr) (new : HS) (r : PV) (v : Value) (s' : Shared) : Prop := (Ok a.c (set a.ρ i (.hdr hc new)) a.ow s') ∧ (Gr a.ow a.ow a.s s') ∧ (RV (vis s'.heap a.ow) r v)
section
variable {a_ b_ c_ d_ e_ f_ g_} (x_ : @HSet k a_ b_ c_ d_ e_ f_ g_)
def HSet.T := x_.1
def HSet.gr := x_.2.1
def HSet.r := x_.2.2
end
theorem add_expr (n : No k i y) (a : At k) (hg : get a.ρ i = .hdr hc hs) (hw : Hw a.c.g hc) (hl : (apos.endLine == pos.line) = true) (hp1 : plainE e1 = true) (hp2 : plainE e2 = true) (hx : SndE k x1 e1) (hy : SndE k x2 e2)
    (h1 : evE a.F x1 a.ρ = some (.str t)) (h2 : evE a.F x2 a.ρ = some (.str u)) (ot : okH t) (ou : okH u) (hlen : hs.length < LEN) :
    a.c.WP (eval (.Call (.Attribute (.Name y np) "add_header" apos) [e1, e2] [] pos) a.env) (HSet a i hc (hAdd hs t u) .none) a.s := by
  obtain ⟨x, d, l, vs, H, O⟩ := n.hdr a hg
  obtain ⟨K, C, _, ⟨f, m, q⟩, _⟩ := hw.K
  obtain ⟨o, fd, ho, hd⟩ := m.ob
  refine Call_meth (fun zz zz zz => rfl) (by rw [List.all_cons, hp1, List.all_cons, hp2]; rfl) (by show 2 < 30; decide) hl (n.load a H (hdr_meth C m a.T.top O.H ?_))
  refine callWith_meth (h₀ := a.c.g.h₁) hd ho (args2 hp1 hp2 ((hx a _ h1).mono fun v s1 r1 => (hy (a.step r1.1) _ h2).mono fun v2 s2 r2 => ?_)) (starEach_plain (e := e1) hp1 [e2] a.env)
  have st := r1.1.trans0 r2.1
  have O2 := O.step st
  refine ⟨(a.T.step st).top, (q a.c.A a.ow s2 x d l v v2 t u hs (a.D.R.le (Nat.le_succ _)) (a.st st) O2.at (r1.2.mono (Sub.step0 r2.1)) ot r2.2 ou hlen).mono fun v3 s3 r3 => ?_⟩
  obtain ⟨st3, hr, vs', L', R'⟩ := r3
  have Ch : Chg a.c a.ow s2 s3 i l := ⟨st3, by rw [a.hk]; exact n.st, O.tl, isL_live L'⟩
  have := (H.step st).upd Ch (.hdr (hs := hAdd hs t u) O.tx O.td O.tl (O2.H.step' st3.keep fun b hb => hb.elim (fun q => q ▸ O.H.xl) fun q => q ▸ O.H.dl) ⟨okPys_map _ fun zz => rfl, (List.length_map _).symm ▸ Nat.le_trans (hAdd_len hs t u) hlen⟩ L' R')
  exact ⟨this.1, (Gr.of0 st).trans this.2, hr⟩
theorem hsOf_some {c : Nat} {sv : SV} {hs : HS} (h : hsOf c sv = some hs) : sv = .hdr c hs := by
  cases sv with
  | hdr c' hs' =>
    obtain ⟨h1, h2⟩ := Option.ite_none_right_eq_some.mp h
    cases h2
    rw [h1]
  | _ => cases h
theorem strOf_some {p : PV} {t : List Nat} (h : strOf? p = some t) : p = .str t := by cases p <;> cases h; rfl
theorem okHb_ok {a : List Nat} (h : okHb a = true) : okH a := have ⟨h1, h2⟩ := (Bool.and_eq_true _ _).mp h; okH_of (List.all_eq_true.mp h1) (of_decide_eq_true h2)
theorem eHget {ox : Opd} (n : No k i y) (hh : k.hd = some hc) (hl : (apos.endLine == pos.line) = true) (hp : plainE e = true) (hx : SndO k ox e) : SndE k (.hget hc i ox) (.Call (.Attribute (.Name y np) "get_all" apos) [e] [] pos) := fun a p he => by
  obtain ⟨hs, g1, he⟩ := bindE he
  obtain ⟨q, g2, he⟩ := bindE he
  obtain ⟨t, g3, he⟩ := bindE he
  obtain ⟨g4, he⟩ := Option.ite_none_right_eq_some.mp he
  obtain ⟨rfl, ok⟩ := mkList_some he
  obtain ⟨x, d, l, vs, H, O⟩ := n.hdr a (hsOf_some g1)
  obtain ⟨K, C, _, _, f, m, q'⟩ := (a.D.hw _ (by rw [a.hk]; exact hh)).K
  obtain ⟨o, fd, ho, hd⟩ := m.ob
  refine Call_meth (fun zz zz zz => rfl) (by rw [List.all_cons, hp]; rfl) (by show 1 < 30; decide) hl (n.load a H (hdr_meth C m a.T.top O.H ?_))
  refine callWith_meth (h₀ := a.c.g.h₁) hd ho (args1 hp ((hx a q g2).mono fun v s1 r1 => ?_)) (starEach_plain hp [] a.env)
  have r2 : RV (vis s1.heap a.ow) (.str t) v := by
    have r := r1.2
    rw [strOf_some g3] at r
    exact r.get fun zz e => nomatch e
  exact ⟨(a.T.step r1.1).top, (q' a.c.A a.ow s1 x d l v t hs (a.D.R.le (Nat.le_succ _)) (a.st r1.1) (O.step r1.1).at r2 (okHb_ok g4)).mono fun v3 s3 r3 => r3.after r1.1⟩
end
set_option genCtorIdx false
inductive SPx
  | addH (i : Nat) (a b : X)
set_option genCtorIdx true
noncomputable def evX (F : FT) (c : Addr) : SPx → Rho → Option Out
  | .addH i a b, ρ => (hsOf c (get ρ i)).bind fun hs => (evE F a ρ).bind fun p => (strOf? p).bind fun t => (evE F b ρ).bind fun q => (strOf? q).bind fun u => if okHb t = true ∧ okHb u = true ∧ hs.length < LEN then some (.next (set ρ i (.hdr c (hAdd hs t u)))) else none
noncomputable def SndX (k : KC) (f : FT → Rho → Option Out) (st : Stmt) : Prop := ∀ (a : At k) (out : Out), f a.F a.ρ = some out → a.c.WP (exec st a.env) (PS a.c a.ow a.s out) a.s
theorem xAddH {k : KC} {i : Nat} {y : Str} {x1 x2 : X} {e1 e2 : Expr} {hc : Addr} {np apos pos spos : Pos} (n : No k i y) (hh : k.hd = some hc) (hl : (apos.endLine == pos.line) = true) (hp1 : plainE e1 = true) (hp2 : plainE e2 = true) (hx : SndE k x1 e1) (hy : SndE k x2 e2) :
    SndX k (fun F => evX F hc (.addH i x1 x2)) (.Expr (.Call (.Attribute (.Name y np) "add_header" apos) [e1, e2] [] pos) spos) := fun a out he => by
  obtain ⟨hs, g1, he⟩ := bindE he
  obtain ⟨p, g2, he⟩ := bindE he
  obtain ⟨t, g3, he⟩ := bindE he
  obtain ⟨q, g4, he⟩ := bindE he
  obtain ⟨u, g5, he⟩ := bindE he
  obtain ⟨g6, he⟩ := Option.ite_none_right_eq_some.mp he
  cases he
  exact wpAny_Expr_any ((add_expr n a (hsOf_some g1) (a.D.hw _ (by rw [a.hk]; exact hh)) hl hp1 hp2 hx hy (strOf_some g3 ▸ g2) (strOf_some g5 ▸ g4) (okHb_ok g6.1) (okHb_ok g6.2.1) g6.2.2).mono fun zz s1 h => .next a.ow h.gr h.T) (interactive_no a) rfl
noncomputable def spTab (c : Addr) (l : List SPx) : SPT := ⟨c, fun n F ρ => (l[n]?).bind fun x => evX F c x ρ⟩
end Mine
namespace Mine
noncomputable def dots : List Nat := [46, 46, 46]
end Mine
namespace Mine
open PySem PySem.W PyProof.Rows
noncomputable def n_strcoll : List (Nat × Str) := [(0, "a"), (1, "b")]
noncomputable def p_strcoll : List Str := ["a", "b"]
noncomputable def x_strcoll : Ss := .cons (.ret (.e (.op2 .sub (.e (.op2 .gt (.v 0) (.v 1))) (.e (.op2 .lt (.v 0) (.v 1)))))) .nil
noncomputable def retF : Ss := .cons (.ret (.e (.k (.bool false)))) .nil
noncomputable def n_ell : List (Nat × Str) := [(0, "want"), (1, "got"), (2, "ws"), (3, "startpos"), (4, "endpos"), (5, "w")]
noncomputable def p_ell : List Str := ["want", "got"]
noncomputable def m_ell : Opd := .e (.glob "ELLIPSIS_MARKER" (.str [46, 46, 46]))
noncomputable def b_ell : Ss := .cons (.assign 3 (.val (.op4 (.v 1) (.v 5) (.v 3) (.v 4)))) (.cons (.if_ (.x (.e (.op2 .lt (.v 3) (.e (.k (.int 0)))))) retF .nil) (.cons (.aug 3 .add (.e (.op1 .len (.v 5)))) .nil))
noncomputable def x_ell3 : Ss := .cons (.if_ (.x (.e (.op2 .gt (.v 3) (.v 4)))) retF .nil) (.cons (.freeze 2) (.cons (.for_ (.one 5) (.one (.v 2)) b_ell) (.cons (.ret (.e (.k (.bool true)))) .nil)))
noncomputable def x_ell2 : Ss := .cons (.assign 5 (.val (.op2 .idx (.v 2) (.e (.op1 .neg (.e (.k (.int 1)))))))) (.cons (.if_ (.x (.v 5)) (.cons (.if_ (.x (.e (.op2 .endswith (.v 1) (.v 5)))) (.cons (.aug 4 .sub (.e (.op1 .len (.v 5)))) (.cons (.del 2 (-1)) .nil)) retF) .nil) .nil) x_ell3)
noncomputable def x_ell1 : Ss := .cons (.assign 5 (.val (.op2 .idx (.v 2) (.e (.k (.int 0)))))) (.cons (.if_ (.x (.v 5)) (.cons (.if_ (.x (.e (.op2 .startswith (.v 1) (.v 5)))) (.cons (.assign 3 (.val (.op1 .len (.v 5)))) (.cons (.del 2 0) .nil)) retF) .nil) .nil) x_ell2)
noncomputable def x_ell : Ss := .cons (.if_ (.x (.e (.op2 .notIn m_ell (.v 0)))) (.cons (.ret (.e (.op2 .eq (.v 0) (.v 1)))) .nil) .nil) (.cons (.assign 2 (.own (.op2 .split (.v 0) m_ell))) (.cons (.assert_ (.x (.e (.op2 .ge (.e (.op1 .len (.v 2))) (.e (.k (.int 2))))))) (.cons (.unpack [(3, .val (.k (.int 0))), (4, .val (.op1 .len (.v 1)))]) x_ell1)))
noncomputable def n_int2ap : List (Nat × Str) := [(0, "num"), (1, "val"), (2, "AP"), (3, "mod")]
noncomputable def p_int2ap : List Str := ["num"]
noncomputable def b_int2ap : Ss := .cons (.unpackE 0 3 (.op2 .divmod (.v 0) (.e (.k (.int 16))))) (.cons (.assign 1 (.val (.op2 .add (.e (.op3 (.v 2) (.v 3) (.e (.op2 .add (.v 3) (.e (.k (.int 1))))))) (.v 1)))) .nil)
noncomputable def APs : List UInt8 := [65, 66, 67, 68, 69, 70, 71, 72, 73, 74, 75, 76, 77, 78, 79, 80]
noncomputable def x_int2ap : Ss := .cons (.assign 1 (.val (.k (.bytes [])))) (.cons (.assign 2 (.val (.k (.bytes APs)))) (.cons (.assign 0 (.val (.op1 .int_ (.e (.op1 .abs (.v 0)))))) (.cons (.while_ 40 (.x (.v 0)) b_int2ap) (.cons (.ret (.v 1)) .nil))))
section
variable {F : FT} {SP : SPT} {s : S} {ss a b : Ss} {ρ ρ' : Rho} {p : PV} {t : T} {o : Option Out}
theorem next_ (h : evS F SP s ρ = some (.next ρ')) (e : evSs F SP ss ρ' = o) : evSs F SP (.cons s ss) ρ = o := (congrArg (fun z => andThen z (evSs F SP ss)) h).trans e
theorem ret_ (h : evS F SP s ρ = some (.ret p)) : evSs F SP (.cons s ss) ρ = some (.ret p) := congrArg (fun z => andThen z (evSs F SP ss)) h
theorem ifT (h : evT F t ρ = some true) (e : evSs F SP a ρ = o) : evS F SP (.if_ t a b) ρ = o := (congrArg (fun z : Option Bool => z.bind fun c => if c then evSs F SP a ρ else evSs F SP b ρ) h).trans e
theorem ifF (h : evT F t ρ = some false) (e : evSs F SP b ρ = o) : evS F SP (.if_ t a b) ρ = o := (congrArg (fun z : Option Bool => z.bind fun c => if c then evSs F SP a ρ else evSs F SP b ρ) h).trans e
theorem forS {tt : Tgt} {src : Src} {items : List PV} (h : strong src ρ = true) (e : evSrc F src ρ = some items) (k : loopF tt (evSs F SP a) items ρ = o) : evS F SP (.for_ tt src a) ρ = o :=
  (if_pos h).trans ((congrArg (fun z : Option (List PV) => z.bind fun items => loopF tt (evSs F SP a) items ρ) e).trans k)
theorem asg {i : Nat} {x : X} (h : evE F x ρ = some p) (hi : i < ρ.length) : evS F SP (.assign i (.val x)) ρ = some (.next (set ρ i (.val p))) :=
  (congrArg (fun z : Option PV => (z.bind fun p => some (SV.val p)).bind fun v => setN i v ρ) h).trans (if_pos hi)
end
end Mine
namespace Mine
noncomputable def ellGo (got : List Nat) (en : Nat) : List (List Nat) → Nat → Option Nat
  | [], st => some st
  | w :: ws, st => if findIn got w st en < 0 then none else ellGo got en ws ((findIn got w st en).toNat + w.length)
noncomputable def endsB (got w : List Nat) : Bool := decide (w.length ≤ got.length) && sEq (got.drop (got.length - w.length)) w
noncomputable def ellE (got : List Nat) (ws : List (List Nat)) (en st : Nat) : Bool := if en < st then false else (ellGo got en ws st).isSome
noncomputable def ellT (got : List Nat) (ws : List (List Nat)) (st : Nat) : Bool :=
  if (ws.getLastD []).isEmpty = true then ellE got ws got.length st else if endsB got (ws.getLastD []) = true then ellE got ws.dropLast (got.length - (ws.getLastD []).length) st else false
noncomputable def ellW (ws : List (List Nat)) (got : List Nat) : Bool :=
  if (ws.headD []).isEmpty = true then ellT got ws 0 else if isPre (ws.headD []) got = true then ellT got ws.tail (ws.headD []).length else false
noncomputable def eR (want got : List Nat) (ws : SV) (st en : Int) (w : SV) : Rho := [.val (.str want), .val (.str got), ws, .val (.int st), .val (.int en), w]
section
variable {F : FT} {SP : SPT} {want got : List Nat} {x wv : SV} {st en : Nat}
theorem ell_turn {w : List Nat} : evSs F SP b_ell (eR want got x st en (.val (.str w))) = if findIn got w st en < 0 then some (.ret (.bool false)) else some (.next (eR want got x ((findIn got w st en).toNat + w.length : Nat) en (.val (.str w)))) := by
  refine next_ (asg (p := .int (findIn got w st en)) rfl (by decide : 3 < 6)) ?_
  by_cases h : findIn got w st en < 0
  · rw [if_pos h]
    exact ret_ (ifT (congrArg some (decide_eq_true h)) rfl)
  · rw [if_neg h]
    refine next_ (ifF (congrArg some (decide_eq_false h)) rfl) (next_ (ρ' := eR want got x (findIn got w st en + w.length) en (.val (.str w))) rfl ?_)
    show some (Out.next (eR want got x (findIn got w st en + w.length) en (.val (.str w)))) = _
    rw [Int.natCast_add, Int.toNat_of_nonneg (Int.not_lt.mp h)]
theorem ell_loop : ∀ (ws : List (List Nat)) (st : Nat) (wv : SV), ∃ wv', loopF (.one 5) (evSs F SP b_ell) (ws.map .str) (eR want got x st en wv) = some (match ellGo got en ws st with | none => .ret (.bool false) | some st' => .next (eR want got x st' en wv'))
  | [], st, wv => ⟨wv, rfl⟩
  | w :: ws, st, wv => by
    have e : loopF (.one 5) (evSs F SP b_ell) ((w :: ws).map .str) (eR want got x st en wv) = andThen (evSs F SP b_ell (eR want got x st en (.val (.str w)))) (loopF (.one 5) (evSs F SP b_ell) (ws.map .str)) := rfl
    rw [e, ell_turn]
    unfold ellGo
    by_cases h : findIn got w st en < 0
    · rw [if_pos h, if_pos h]
      exact ⟨wv, rfl⟩
    · rw [if_neg h, if_neg h]
      exact ell_loop ws _ _
theorem ell3_ok {ws : List (List Nat)} : evSs F SP x_ell3 (eR want got (.own (ws.map .str)) st en wv) = some (.ret (.bool (ellE got ws en st))) := by
  unfold ellE
  by_cases h : en < st
  · rw [if_pos h]
    exact ret_ (ifT (congrArg some (decide_eq_true (Int.ofNat_lt.mpr h))) rfl)
  · rw [if_neg h]
    refine next_ (ifF (congrArg some (decide_eq_false fun q => h (Int.ofNat_lt.mp q))) rfl) (next_ (ρ' := eR want got (.val (.list (ws.map .str))) st en wv) rfl ?_)
    obtain ⟨wv', e⟩ := ell_loop (F := F) (SP := SP) (want := want) (got := got) (x := .val (.list (ws.map .str))) (en := en) ws st wv
    show andThen (loopF (.one 5) (evSs F SP b_ell) (ws.map .str) (eR want got (.val (.list (ws.map .str))) st en wv)) _ = _
    rw [e]
    cases ellGo got en ws st <;> rfl
end
theorem pv_get {ws : List (List Nat)} {i : Nat} : (ws.map PV.str)[i]? = (ws[i]?).map .str := List.getElem?_map
theorem op_idx {xs : List PV} {i : Int} {n : Nat} {p : PV} (h : pyIx xs.length i = some n) (e : xs[n]? = some p) : op2 .idx (.list xs) (.int i) = some p := by
  refine congrArg (Option.map Subtype.val) (?_ : op2S .idx (.list xs) (.int i) = some ⟨p, fun zz zz zz => itemsList, sIdxList h e⟩)
  exact (opt_some h (fun k hk => opt xs[k]? fun y hy => (some ⟨y, fun zz zz zz => itemsList, sIdxList hk hy⟩ : Option {r : PV // Snd2 .idx (.list xs) (.int i) r}))).trans (opt_some e (fun y hy => (some ⟨y, fun zz zz zz => itemsList, sIdxList h hy⟩ : Option {r : PV // Snd2 .idx (.list xs) (.int i) r})))
theorem pyIx_nat {n k : Nat} (h : k < n) : pyIx n k = some k := by
  show (if (decide ((0 : Int) ≤ if (k : Int) < 0 then (k : Int) + n else k) && decide ((if (k : Int) < 0 then (k : Int) + n else k) < n)) = true then some (if (k : Int) < 0 then (k : Int) + n else k).toNat else none) = _
  rw [if_neg (Int.not_lt.mpr (Int.natCast_nonneg k)), decide_eq_true (Int.natCast_nonneg k), decide_eq_true (Int.ofNat_lt.mpr h)]; rfl
theorem pyIx_last {n : Nat} : pyIx (n + 1) (-1) = some n := by
  have e : (-1 : Int) + ((n + 1 : Nat) : Int) = n := by lia
  show (if (decide ((0 : Int) ≤ (-1 : Int) + ((n + 1 : Nat) : Int)) && decide ((-1 : Int) + ((n + 1 : Nat) : Int) < ((n + 1 : Nat) : Int))) = true then some ((-1 : Int) + ((n + 1 : Nat) : Int)).toNat else none) = _
  rw [e, decide_eq_true (Int.natCast_nonneg n), decide_eq_true (Int.ofNat_lt.mpr (Nat.lt_succ_self n))]; rfl
theorem okLB_strs {ws : List (List Nat)} (h : ws.length ≤ 10000) : okLB (ws.map .str) = true := by
  unfold okLB
  rw [okPys_strs, Bool.true_and, List.length_map]
  exact decide_eq_true (Nat.le_trans h (by decide))
section
variable {F : FT} {SP : SPT} {want got w0 w1 : List Nat} {wv : SV} {st : Nat} {ws wr : List (List Nat)}
theorem del_ {ρ : Rho} {i j : Nat} {n : Int} {xs : List PV} (h : ownOf (get ρ i) = some xs) (e : pyIx xs.length n = some j) (ok : okLB (xs.eraseIdx j) = true) (hi : i < ρ.length) : evS F SP (.del i n) ρ = some (.next (set ρ i (.own (xs.eraseIdx j)))) := by
  show ((ownOf (get ρ i)).bind fun xs => ((pyIx xs.length n).bind fun j => some (xs.eraseIdx j)).bind fun ys => setOwn i ys ρ) = _
  rw [h]
  show ((pyIx xs.length n).bind fun j => some (xs.eraseIdx j)).bind _ = _
  rw [e]
  show setOwn i (xs.eraseIdx j) ρ = _
  unfold setOwn setN
  rw [ok, if_pos hi]; rfl
theorem ell2_ok {ini : List (List Nat)} {l : List Nat} (hl : ini.length ≤ 2000) : evSs F SP x_ell2 (eR want got (.own ((ini ++ [l]).map .str)) st got.length wv) = some (.ret (.bool (ellT got (ini ++ [l]) st))) := by
  have e0 : ((ini ++ [l]).map PV.str).length = ini.length + 1 := by rw [List.length_map, List.length_append]; rfl
  have e1 : pyIx ((ini ++ [l]).map PV.str).length (-1) = some ini.length := by rw [e0]; exact pyIx_last
  have e2 : (ini ++ [l]).getLastD [] = l := by rw [List.getLastD_eq_getLast?, List.getLast?_concat]; rfl
  refine next_ (asg (op_idx (p := .str l) e1 (by rw [pv_get, List.getElem?_concat_length]; rfl)) (by decide : 5 < 6)) ?_
  show evSs F SP _ (eR want got (.own ((ini ++ [l]).map .str)) st got.length (.val (.str l))) = _
  unfold ellT
  rw [e2, List.dropLast_concat]
  have ht : evT F (.x (.v 5)) (eR want got (.own ((ini ++ [l]).map .str)) st got.length (.val (.str l))) = some (!l.isEmpty) := rfl
  cases hq : l.isEmpty with
  | true =>
    rw [hq] at ht
    exact next_ (ifF ht rfl) ell3_ok
  | false =>
    rw [hq] at ht
    have he : evT F (.x (.e (.op2 .endswith (.v 1) (.v 5)))) (eR want got (.own ((ini ++ [l]).map .str)) st got.length (.val (.str l))) = some (endsB got l) := rfl
    rw [if_neg Bool.false_ne_true]
    cases hb : endsB got l with
    | false =>
      rw [hb] at he
      exact ret_ (ifT ht (ret_ (ifF he rfl)))
    | true =>
      rw [hb] at he
      have hle : l.length ≤ got.length := of_decide_eq_true ((Bool.and_eq_true _ _).mp hb).1
      have e3 : ((ini ++ [l]).map PV.str).eraseIdx ini.length = ini.map .str := by
        rw [List.map_append, List.eraseIdx_append_of_length_le (Nat.le_of_eq (List.length_map _)), List.length_map, Nat.sub_self]
        exact List.append_nil _
      have d := del_ (F := F) (SP := SP) (ρ := eR want got (.own ((ini ++ [l]).map .str)) st (got.length - l.length) (.val (.str l))) (i := 2) rfl e1 (by rw [e3]; exact okLB_strs (Nat.le_trans hl (by decide))) (by decide : 2 < 6)
      rw [e3] at d
      refine next_ (ρ' := eR want got (.own (ini.map .str)) st (got.length - l.length) (.val (.str l))) (ifT ht (next_ (ifT he (next_ (ρ' := eR want got (.own ((ini ++ [l]).map .str)) st (got.length - l.length) (.val (.str l))) rfl (next_ d rfl))) rfl)) ?_
      rw [← Int.ofNat_sub hle]
      exact ell3_ok
theorem ell1_ok (hl : wr.length ≤ 1000) : evSs F SP x_ell1 (eR want got (.own ((w0 :: w1 :: wr).map .str)) 0 got.length .un) = some (.ret (.bool (ellW (w0 :: w1 :: wr) got))) := by
  have two : ∀ (a : List Nat) (st : Nat) (wv : SV) (l : List (List Nat)), l.length ≤ 1001 → evSs F SP x_ell2 (eR want got (.own ((a :: l).map .str)) st got.length wv) = some (.ret (.bool (ellT got (a :: l) st))) := fun a st wv l hl => by
    have e := List.dropLast_concat_getLast (l := a :: l) (fun h => nomatch h)
    rw [← e]
    exact ell2_ok (by rw [List.length_dropLast]; exact Nat.le_trans hl (by decide))
  have e0 : ((w0 :: w1 :: wr).map PV.str).length = wr.length + 2 := congrArg (· + 2) (List.length_map _)
  have e1 : pyIx ((w0 :: w1 :: wr).map PV.str).length 0 = some 0 := by rw [e0]; exact pyIx_nat (Nat.succ_pos _)
  refine next_ (asg (op_idx (p := .str w0) e1 rfl) (by decide : 5 < 6)) ?_
  show evSs F SP _ (eR want got (.own ((w0 :: w1 :: wr).map .str)) 0 got.length (.val (.str w0))) = _
  have ht : evT F (.x (.v 5)) (eR want got (.own ((w0 :: w1 :: wr).map .str)) 0 got.length (.val (.str w0))) = some (!w0.isEmpty) := rfl
  show _ = some (Out.ret (.bool (if w0.isEmpty = true then ellT got (w0 :: w1 :: wr) 0 else if isPre w0 got = true then ellT got (w1 :: wr) w0.length else false)))
  cases hq : w0.isEmpty with
  | true =>
    rw [hq] at ht
    exact next_ (ifF ht rfl) (two w0 0 _ (w1 :: wr) (Nat.succ_le_succ hl))
  | false =>
    rw [hq] at ht
    have he : evT F (.x (.e (.op2 .startswith (.v 1) (.v 5)))) (eR want got (.own ((w0 :: w1 :: wr).map .str)) 0 got.length (.val (.str w0))) = some (isPre w0 got) := rfl
    rw [if_neg Bool.false_ne_true]
    cases hb : isPre w0 got with
    | false =>
      rw [hb] at he
      exact ret_ (ifT ht (ret_ (ifF he rfl)))
    | true =>
      rw [hb] at he
      have d := del_ (F := F) (SP := SP) (ρ := eR want got (.own ((w0 :: w1 :: wr).map .str)) w0.length got.length (.val (.str w0))) (i := 2) rfl e1 (okLB_strs (ws := w1 :: wr) (Nat.le_trans (Nat.succ_le_succ hl) (by decide))) (by decide : 2 < 6)
      exact next_ (ρ' := eR want got (.own ((w1 :: wr).map .str)) w0.length got.length (.val (.str w0))) (ifT ht (next_ (ifT he (next_ (ρ' := eR want got (.own ((w0 :: w1 :: wr).map .str)) w0.length got.length (.val (.str w0))) rfl (next_ d rfl))) rfl)) (two w1 w0.length _ wr (Nat.le_succ_of_le hl))
theorem ev_ell (h1 : splitP dots want = w0 :: w1 :: wr) (h2 : (findAt dots want 0).isSome = true) (hw : want.length ≤ 1000) (hr : wr.length ≤ 1000) : evSs F SP x_ell (rho0 6 [.str want, .str got]) = some (.ret (.bool (ellW (w0 :: w1 :: wr) got))) := by
  have e1 : evT F (.x (.e (.op2 .notIn m_ell (.v 0)))) (rho0 6 [.str want, .str got]) = some false := by
    show some (!(findAt dots want 0).isSome) = _
    rw [h2]; rfl
  refine next_ (ifF e1 rfl) (next_ (ρ' := [.val (.str want), .val (.str got), .own ((w0 :: w1 :: wr).map .str), .un, .un, .un]) ?_ (next_ (ρ' := [.val (.str want), .val (.str got), .own ((w0 :: w1 :: wr).map .str), .un, .un, .un]) ?_ (next_ (ρ' := eR want got (.own ((w0 :: w1 :: wr).map .str)) 0 got.length .un) rfl (ell1_ok hr))))
  · have e2 : op2 .split (.str want) (.str dots) = some (.list ((w0 :: w1 :: wr).map .str)) := by
      rw [← h1]
      exact congrArg (Option.map Subtype.val) (dif_pos (show dots.isEmpty = false ∧ want.length ≤ 1000 from ⟨rfl, hw⟩))
    show ((op2 .split (.str want) (.str dots)).bind ownL).bind _ = _
    rw [e2]; rfl
  · show ((some (decide ((2 : Int) ≤ (((w0 :: w1 :: wr).map PV.str).length : Nat)))).bind fun c => if c then _ else _) = _
    have h3 : (2 : Int) ≤ ((wr.length + 2 : Nat) : Int) := Int.ofNat_le.mpr (Nat.le_add_left 2 _)
    rw [show ((w0 :: w1 :: wr).map PV.str).length = wr.length + 2 from congrArg (· + 2) (List.length_map _), decide_eq_true h3]; rfl
theorem ev_ell0 (h2 : findAt dots want 0 = none) : evSs F SP x_ell (rho0 6 [.str want, .str got]) = some (.ret (.bool (sEq want got))) := by
  have e1 : evT F (.x (.e (.op2 .notIn m_ell (.v 0)))) (rho0 6 [.str want, .str got]) = some true := by
    show some (!(findAt dots want 0).isSome) = _
    rw [h2]; rfl
  exact ret_ (ifT e1 rfl)
end
end Mine
namespace Mine
open PySem PySem.W PyProof.Rows
theorem last_map (g : List Nat → List Nat) (hg : g [] = []) (ws : List (List Nat)) : (ws.map g).getLastD [] = g (ws.getLastD []) := by
  rw [List.getLastD_eq_getLast?, List.getLastD_eq_getLast?, List.getLast?_map]
  cases ws.getLast? with
  | none => exact hg.symm
  | some w => rfl
theorem empty_map {f : Nat → Nat} {w : List Nat} : (w.map f).isEmpty = w.isEmpty := by cases w <;> rfl
noncomputable def sc (a b : List Nat) : Int := b2i (sLt b a) - b2i (sLt a b)
theorem ev_strcoll {F : FT} {SP : SPT} {a b : List Nat} : evSs F SP x_strcoll (rho0 2 [.str a, .str b]) = some (.ret (.int (sc a b))) := rfl
noncomputable def letter (c : Nat) : UInt8 := UInt8.ofNat (65 + c)
noncomputable def i2apF : Nat → Nat → List UInt8 → List UInt8
  | 0, _, acc => acc
  | k + 1, n, acc => if n = 0 then acc else i2apF k (n / 16) (letter (n % 16) :: acc)
noncomputable def i2ap (n : Nat) : List UInt8 := i2apF 39 n []
theorem ap_slice : ∀ m : Fin 16, pySlice APs (m.val : Int) ((m.val : Int) + 1) = [letter m.val] := by decide +kernel
noncomputable def iR (n : Int) (acc : List UInt8) (mv : SV) : Rho := [.val (.int n), .val (.bytes acc), .val (.bytes APs), mv]
section
variable {F : FT} {SP : SPT}
theorem int_turn {n : Nat} {acc : List UInt8} {mv : SV} (hl : acc.length ≤ 100) : evSs F SP b_int2ap (iR n acc mv) = some (.next (iR (n / 16 : Nat) (letter (n % 16) :: acc) (.val (.int (n % 16 : Nat))))) := by
  refine next_ (ρ' := iR (n / 16 : Nat) acc (.val (.int (n % 16 : Nat)))) rfl (next_ (asg (p := .bytes (letter (n % 16) :: acc)) ?_ (by decide : 1 < 4)) rfl)
  have e4 : op2 .add (.bytes [letter (n % 16)]) (.bytes acc) = some (.bytes (letter (n % 16) :: acc)) :=
    congrArg (Option.map Subtype.val) (dif_pos (show 1 + acc.length ≤ lenLine from Nat.le_trans (Nat.add_le_add_left hl 1) (by decide)))
  have e3 := ap_slice ⟨n % 16, Nat.mod_lt _ (by decide)⟩
  show op2 .add (.bytes (pySlice APs ((n % 16 : Nat) : Int) (((n % 16 : Nat) : Int) + 1))) (.bytes acc) = _
  rw [e3]
  exact e4
theorem int_loop : ∀ (k n : Nat) (acc : List UInt8) (mv : SV), n < 16 ^ k → acc.length + k ≤ 100 →
    ∃ mv', loopW (evT F (.x (.v 0))) (evSs F SP b_int2ap) (k + 1) (iR n acc mv) = some (.next (iR 0 (i2apF k n acc) mv'))
  | 0, n, acc, mv, h, _ => by
    obtain rfl : n = 0 := Nat.lt_one_iff.mp h
    exact ⟨mv, rfl⟩
  | k + 1, n, acc, mv, h, hl => by
    unfold i2apF
    by_cases hn : n = 0
    · subst hn
      exact ⟨mv, rfl⟩
    · have ht : evT F (.x (.v 0)) (iR n acc mv) = some true := congrArg (fun b => some (!b)) (beq_eq_false_iff_ne.mpr fun q : (n : Int) = 0 => hn (Int.ofNat_eq_zero.mp q))
      have e : loopW (evT F (.x (.v 0))) (evSs F SP b_int2ap) (k + 1 + 1) (iR n acc mv) = (evT F (.x (.v 0)) (iR n acc mv)).bind fun c => if c then andThen (evSs F SP b_int2ap (iR n acc mv)) (loopW (evT F (.x (.v 0))) (evSs F SP b_int2ap) (k + 1)) else some (.next (iR n acc mv)) := rfl
      rw [e, ht, if_neg hn]
      show ∃ mv', andThen (evSs F SP b_int2ap (iR n acc mv)) _ = _
      rw [int_turn (Nat.le_trans (Nat.le_add_right _ _) hl)]
      exact int_loop k (n / 16) _ _ ((Nat.div_lt_iff_lt_mul (by decide)).mpr h) (by rw [List.length_cons, Nat.succ_add]; exact hl)
theorem ev_int2ap {m : Int} (h : m.natAbs < 16 ^ 39) : evSs F SP x_int2ap (rho0 4 [.int m]) = some (.ret (.bytes (i2ap m.natAbs))) := by
  obtain ⟨mv', e⟩ := int_loop (F := F) (SP := SP) 39 m.natAbs [] .un h (by decide)
  exact next_ (ρ' := [.val (.int m), .val (.bytes []), .un, .un]) rfl (next_ (ρ' := iR m [] .un) rfl (next_ (ρ' := iR m.natAbs [] .un) rfl (next_ e rfl)))
end
end Mine
namespace Mine
theorem i2apF_app : ∀ (k n : Nat) (acc : List UInt8), i2apF k n acc = i2apF k n [] ++ acc
  | 0, _, acc => rfl
  | k + 1, n, acc => by
    unfold i2apF
    split
    · rfl
    · rw [i2apF_app k _ (letter (n % 16) :: acc), i2apF_app k _ [letter (n % 16)], List.append_assoc]; rfl
noncomputable def lets : Nat → Nat → List Nat
  | 0, _ => []
  | k + 1, n => lets k (n / 16) ++ [65 + n % 16]
theorem letter_nat {c : Nat} (h : c < 16) : (letter c).toNat = 65 + c := (by decide +kernel : ∀ c : Fin 16, (letter c.val).toNat = 65 + c.val) ⟨c, h⟩
theorem mod16 (n : Nat) : n % 16 < 16 := Nat.mod_lt _ (by decide)
theorem div16 {k n : Nat} (h : n < 16 ^ (k + 1)) : n / 16 < 16 ^ k := (Nat.div_lt_iff_lt_mul (by decide)).mpr h
theorem lets_zero : ∀ k : Nat, lets k 0 = List.replicate k 65
  | 0 => rfl
  | k + 1 => by rw [lets, Nat.zero_div, lets_zero k, List.replicate_succ']
theorem i2apF_zero : ∀ j : Nat, i2apF j 0 [] = []
  | 0 => rfl
  | _ + 1 => rfl
theorem i2ap_lets : ∀ (k n j : Nat), n < 16 ^ k → k ≤ j → List.replicate (k - (i2apF j n []).length) 65 ++ (i2apF j n []).map UInt8.toNat = lets k n ∧ (i2apF j n []).length ≤ k
  | 0, n, j, h, _ => by
    obtain rfl : n = 0 := Nat.lt_one_iff.mp h
    rw [i2apF_zero]
    exact ⟨rfl, Nat.zero_le _⟩
  | k + 1, n, 0, h, hj => nomatch hj
  | k + 1, n, j + 1, h, hj => by
    by_cases hn : n = 0
    · subst hn
      rw [i2apF_zero, lets_zero]
      exact ⟨List.append_nil _, Nat.zero_le _⟩
    · obtain ⟨h1, h2⟩ := i2ap_lets k (n / 16) j (div16 h) (Nat.le_of_succ_le_succ hj)
      have e : i2apF (j + 1) n [] = i2apF j (n / 16) [] ++ [letter (n % 16)] := (if_neg hn).trans (i2apF_app _ _ _)
      rw [e, lets, ← h1, List.length_append, List.map_append, List.map_cons, letter_nat (mod16 n), ← List.append_assoc]
      show List.replicate (k + 1 - ((i2apF j (n / 16) []).length + 1)) 65 ++ _ ++ [65 + n % 16] = _ ∧ _
      rw [Nat.add_sub_add_right]
      exact ⟨rfl, Nat.succ_le_succ h2⟩
theorem i2ap_head : ∀ (j n : Nat) (c : UInt8) (r : List UInt8), n < 16 ^ j → i2apF j n [] = c :: r → c ≠ 65
  | 0, _, _, _, _, h => nomatch h
  | j + 1, n, c, r, hlt, h => by
    by_cases hn : n = 0
    · subst hn
      rw [i2apF_zero] at h; cases h
    · have e : i2apF (j + 1) n [] = i2apF j (n / 16) [] ++ [letter (n % 16)] := (if_neg hn).trans (i2apF_app _ _ _)
      rw [e] at h
      cases q : i2apF j (n / 16) [] with
      | cons c' r' =>
        rw [q] at h
        cases h
        exact i2ap_head j _ _ _ (div16 hlt) q
      | nil =>
        rw [q] at h
        cases h
        have hz : n / 16 = 0 := by
          cases j with
          | zero => exact Nat.lt_one_iff.mp (div16 hlt)
          | succ j =>
            by_cases hz : n / 16 = 0
            · exact hz
            · rw [show i2apF (j + 1) (n / 16) [] = i2apF j (n / 16 / 16) [] ++ [letter (n / 16 % 16)] from (if_neg hz).trans (i2apF_app _ _ _)] at q
              exact absurd (congrArg List.length q) (by rw [List.length_append]; exact Nat.succ_ne_zero _)
        intro hc
        have := congrArg UInt8.toNat hc
        rw [letter_nat (mod16 n)] at this
        have h0 : n % 16 = 0 := Nat.add_left_cancel (n := 65) this
        exact hn (by rw [← Nat.div_add_mod n 16, hz, h0])
theorem i2ap_ascii : ∀ (j n : Nat) (acc : List UInt8), (∀ c ∈ acc, 65 ≤ c.toNat ∧ c.toNat ≤ 80) → ∀ c ∈ i2apF j n acc, 65 ≤ c.toNat ∧ c.toNat ≤ 80
  | 0, _, acc, h, c, hc => h c hc
  | j + 1, n, acc, h, c, hc => by
    unfold i2apF at hc
    split at hc
    · exact h c hc
    · refine i2ap_ascii j _ _ (fun d hd => ?_) c hc
      rcases List.mem_cons.mp hd with rfl | hd
      · rw [letter_nat (mod16 n)]
        exact ⟨Nat.le_add_right _ _, Nat.add_le_add_left (Nat.le_of_lt_succ (mod16 n)) 65⟩
      · exact h d hd
theorem o_mod {a b : Int} (h : 0 < b) : op2 .mod (.int a) (.int b) = some (.int (a % b)) := congrArg (Option.map Subtype.val) (dif_pos h)
theorem o_fdiv {a b : Int} (h : 0 < b ∧ b < 1073741824) : op2 .fdiv (.int a) (.int b) = some (.int (a / b)) := congrArg (Option.map Subtype.val) (dif_pos h)
theorem o_mul {a b : Int} (h : a.natAbs < 2 ^ 64) : op2 .mul (.int a) (.int b) = some (.int (a * b)) := congrArg (Option.map Subtype.val) (dif_pos h)
theorem o_cat {a b : List Nat} (h : a.length + b.length ≤ lenLine) : op2 .add (.str a) (.str b) = some (.str (a ++ b)) := congrArg (Option.map Subtype.val) (dif_pos h)
theorem o_catl {a b : List PV} (h : a.length + b.length ≤ lenLine) : op2 .add (.list a) (.list b) = some (.list (a ++ b)) := congrArg (Option.map Subtype.val) (dif_pos h)
theorem o_idx {xs : List PV} {i : Nat} {p : PV} (h : xs[i]? = some p) : op2 .idx (.list xs) (.int i) = some p := op_idx (pyIx_nat (List.getElem?_eq_some_iff.mp h).1) h
theorem o_idx_str {s : List Nat} {i c : Nat} (h : s[i]? = some c) : op2 .idx (.str s) (.int i) = some (.str [c]) := by
  have hk := pyIx_nat (List.getElem?_eq_some_iff.mp h).1
  refine congrArg (Option.map Subtype.val) (?_ : op2S .idx (.str s) (.int i) = some ⟨.str [c], fun zz zz zz => itemsStr, sIdxStr hk h⟩)
  exact (opt_some hk (fun k hk => opt s[k]? fun y hy => (some ⟨.str [y], fun zz zz zz => itemsStr, sIdxStr hk hy⟩ : Option {r : PV // Snd2 .idx (.str s) (.int i) r}))).trans (opt_some h (fun y hy => (some ⟨.str [y], fun zz zz zz => itemsStr, sIdxStr hk hy⟩ : Option {r : PV // Snd2 .idx (.str s) (.int i) r})))
theorem rangeL_nat : ∀ (n a : Nat), rangeL (a : Int) n = (List.range' a n).map fun i : Nat => (i : Int)
  | 0, _ => rfl
  | n + 1, a => congrArg ((a : Int) :: ·) (rangeL_nat n (a + 1))
theorem mk_strs {ws : List (List Nat)} (h : ws.length ≤ 10000) : mkList (ws.map .str) = some (.list (ws.map .str)) := if_pos (okLB_strs h)
theorem clamp_nat (n i : Nat) : clampIx n (i : Int) = min i n := by
  have := PySem.clipAt_cast n i
  rw [if_neg (Int.not_lt.mpr (Int.natCast_nonneg i)), Int.max_eq_right (Int.le_min.mpr ⟨Int.natCast_nonneg i, Int.natCast_nonneg n⟩)] at this
  rcases Nat.le_total i n with h | h
  · rw [Int.min_eq_left (Int.ofNat_le.mpr h)] at this
    exact (Int.ofNat.inj this).trans (Nat.min_eq_left h).symm
  · rw [Int.min_eq_right (Int.ofNat_le.mpr h)] at this
    exact (Int.ofNat.inj this).trans (Nat.min_eq_right h).symm
theorem take_min {α : Type} (l : List α) (i : Nat) : l.take (min i l.length) = l.take i := by rw [← List.take_take, List.take_length]
theorem drop_min {α : Type} (l : List α) (i : Nat) : l.drop (min i l.length) = l.drop i := by
  by_cases h : i ≤ l.length
  · rw [Nat.min_eq_left h]
  · rw [Nat.min_eq_right (Nat.le_of_not_le h), List.drop_length, List.drop_of_length_le (Nat.le_of_not_le h)]
theorem o_to {s : List Nat} {i : Nat} : op2 .to_ (.str s) (.int i) = some (.str (s.take i)) := by
  show some (PV.str (s.take (clampIx s.length i))) = _
  rw [clamp_nat, take_min]
theorem o_from {s : List Nat} {i : Nat} : op2 .from_ (.str s) (.int i) = some (.str (s.drop i)) := by
  show some (PV.str (s.drop (clampIx s.length i))) = _
  rw [clamp_nat, drop_min]
theorem o_from_l {s : List PV} {i : Nat} : op2 .from_ (.list s) (.int i) = some (.list (s.drop i)) := by
  show some (PV.list (s.drop (clampIx s.length i))) = _
  rw [clamp_nat, drop_min]
theorem rng_src {n : Nat} (h : n < 100000) : rngSrc (.int n) = some ((List.range n).map fun i : Nat => PV.int (i : Int)) := by
  have e : (rangeL 0 (n : Int).toNat).map PV.int = (List.range n).map fun i : Nat => PV.int (i : Int) := by
    show (rangeL ((0 : Nat) : Int) n).map PV.int = _
    rw [rangeL_nat, List.map_map, List.range_eq_range']; rfl
  have hc : (n : Int) < 100000 ∧ -100000 < (n : Int) := by lia
  show (if (n : Int) < 100000 ∧ -100000 < (n : Int) then some ((rangeL 0 (n : Int).toNat).map PV.int) else none) = _
  rw [if_pos hc, e]
end Mine
namespace Mine
open PySem PySem.W PyProof.Rows
noncomputable def gPos (l : List Pos) (ns : List Nat) : GiPos := ⟨fun i => l.getD i.val ⟨0, 0, 0, 0⟩, fun i => ns.getD i.val 0⟩
theorem gi_shape {rs : List Stmt} {p0 p1 p2 p3 p4 p5 p6 p7 p8 p9 p10 p11 p12 p13 p14 p15 p16 p17 p18 p19 p20 p21 p22 p23 tp a1 a2 a3 a4 a5 : Pos} {n0 n1 n2 m0 : Nat} :
    FuncBody.stmts [.Assign [.Name "last_interval" a1] (.Constant .none m0 a2) a3, .For (.Name "interval" tp) (.Name "grouping" a4) [
  .If (.Compare (.Name "interval" p0) [.Eq] [.Name "CHAR_MAX" p1] p2) [.Return none p3] [] p4,
  .If (.Compare (.Name "interval" p5) [.Eq] [.Constant (.int 0) n0 p6] p7) [
     .If (.Compare (.Name "last_interval" p8) [.Is] [.Constant .none n1 p9] p10) rs [] p11,
     .While (.Constant (.bool true) n2 p12) [.Expr (.Yield (some (.Name "last_interval" p13)) p14) p15] [] p16] [] p17,
  .Expr (.Yield (some (.Name "interval" p18)) p19) p20,
  .Assign [.Name "last_interval" p21] (.Name "interval" p22) p23] [] a5] =
    .stmts [.Assign [.Name "last_interval" a1] (.Constant .none m0 a2) a3, .For (.Name "interval" tp) (.Name "grouping" a4) (giBody (gPos [p0, p1, p2, p3, p4, p5, p6, p7, p8, p9, p10, p11, p12, p13, p14, p15, p16, p17, p18, p19, p20, p21, p22, p23] [n0, n1, n2]) rs) [] a5] := rfl
noncomputable def ow0 : Ow := fun zz => .free
theorem vis0 {h : Heap} {b : Addr} {o : Obj} (e : h.get? b = some o) : vis h ow0 b = some o := vis_of e rfl
theorem good_true {c : ClaimW} {cl : Str → Option Addr} {mean : ExcName → Option Value} {args : List WData} {s₁ s' : Shared} {v : Value} (hg : s₁.gens = #[]) (hp : PE s₁ ow0 (.bool true) v s') (hn : ∀ cls, c.raises args cls = false) (hpost : c.post args (.bool true) args = true) :
    GoodWG c cl mean args s₁ (.ok (.ret v)) s' := by
  obtain ⟨hs, hv⟩ := hp
  cases hv
  exact ⟨.inl ⟨_, .bool true, [], rfl, hn, .bool true, hpost, fun zz => ⟨.nil, (fun zz h => nomatch h)⟩⟩, OldK.of_keep (fun b o e => hs.get e), hs.os, hs.bare (.of_eq hg)⟩
theorem rvs_ints {G : GO} {vs : List Value} {ns : List Int} (h : IntsAre vs ns) : RVs G (ns.map .int) vs := by
  induction h with
  | nil => rfl
  | cons n t h ih => exact ⟨_, _, rfl, ⟨t, rfl⟩, ih⟩
theorem rv_script {h : Heap} {a : Addr} {vs : List Value} {ns : List Int} (ho : h.get? a = some { cls := .type "list", data := .seq vs.toArray }) (hi : IntsAre vs ns) (hn : ns.length ≤ 63) : RV (vis h ow0) (.list (ns.map .int)) (.ref a) :=
  ⟨⟨okPys_map _ fun zz => rfl, (List.length_map _).symm ▸ Nat.le_trans hn (by decide)⟩, a, vs, rfl, ⟨0, vis0 ho⟩, rvs_ints hi⟩
theorem of1 {P : List Value → Prop} (h : ∀ v, P [v]) (vs : List Value) (hl : vs.length = 1) : P vs := by
  obtain ⟨v, rfl⟩ := List.length_eq_one_iff.mp hl
  exact h v
theorem of2 {P : List Value → Prop} (h : ∀ v u, P [v, u]) (vs : List Value) (hl : vs.length = 2) : P vs := by
  rcases vs with _ | ⟨v, _ | ⟨u, _ | ⟨w, l⟩⟩⟩ <;> first | (cases hl; done) | exact h v u
end Mine
namespace Mine
noncomputable def bnd {α β : Type} (a : Option α) (f : α → Option β) : Option β := Option.rec (motive := fun zz => Option β) none f a
noncomputable def takeQ {α : Type} (n : Nat) (l : List α) : List α := Nat.rec (motive := fun zz => List α → List α) (fun zz => []) (fun zz ih l => List.rec (motive := fun zz => List α) [] (fun h t zz => h :: ih t) l) n l
noncomputable def dropQ {α : Type} (n : Nat) (l : List α) : List α := Nat.rec (motive := fun zz => List α → List α) (fun l => l) (fun zz ih l => List.rec (motive := fun zz => List α) [] (fun zz t zz => ih t) l) n l
noncomputable def apQ {α : Type} (a b : List α) : List α := List.rec (motive := fun zz => List α) b (fun h zz ih => h :: ih) a
noncomputable def mapQ {α β : Type} (f : α → β) (a : List α) : List β := List.rec (motive := fun zz => List β) [] (fun h zz ih => f h :: ih) a
noncomputable def lenQ {α : Type} (l : List α) : Nat := List.rec (motive := fun zz => Nat) 0 (fun zz zz ih => Nat.succ ih) l
noncomputable def revQ {α : Type} (l acc : List α) : List α := List.rec (motive := fun zz => List α → List α) (fun acc => acc) (fun h zz ih acc => ih (h :: acc)) l acc
noncomputable def nthQ {α : Type} (l : List α) (n : Nat) : Option α := Nat.rec (motive := fun zz => List α → Option α) (fun l => List.rec (motive := fun zz => Option α) none (fun h zz zz => some h) l) (fun zz ih l => List.rec (motive := fun zz => Option α) none (fun zz t zz => ih t) l) n l
noncomputable def eqQ (a b : List Nat) : Bool := List.rec (motive := fun zz => List Nat → Bool) (fun b => List.rec (motive := fun zz => Bool) true (fun zz zz zz => false) b) (fun x zz ih b => List.rec (motive := fun zz => Bool) false (fun y t zz => and (Nat.beq x y) (ih t)) b) a b
noncomputable def beqB (a b : Bool) : Bool := Bool.rec (motive := fun zz => Bool) (not b) b a
theorem beqB_eq (a b : Bool) : beqB a b = (a == b) := by cases a <;> cases b <;> rfl
section
variable {α β : Type}
theorem bndE {a : Option α} {f : α → Option β} {r : β} (h : bnd a f = some r) : ∃ p, a = some p ∧ f p = some r := by
  cases a with
  | none => cases h
  | some p => exact ⟨p, rfl, h⟩
theorem takeQ_eq : ∀ (n : Nat) (l : List α), takeQ n l = l.take n
  | 0, _ => rfl
  | _ + 1, [] => rfl
  | n + 1, h :: t => congrArg (h :: ·) (takeQ_eq n t)
theorem dropQ_eq : ∀ (n : Nat) (l : List α), dropQ n l = l.drop n
  | 0, _ => rfl
  | _ + 1, [] => rfl
  | n + 1, _ :: t => dropQ_eq n t
theorem apQ_eq : ∀ (a b : List α), apQ a b = a ++ b
  | [], _ => rfl
  | h :: t, b => congrArg (h :: ·) (apQ_eq t b)
theorem mapQ_eq (f : α → β) : ∀ (a : List α), mapQ f a = a.map f
  | [] => rfl
  | h :: t => congrArg (f h :: ·) (mapQ_eq f t)
theorem lenQ_eq : ∀ (a : List α), lenQ a = a.length
  | [] => rfl
  | _ :: t => congrArg Nat.succ (lenQ_eq t)
theorem revQ_eq : ∀ (l acc : List α), revQ l acc = l.reverse ++ acc
  | [], _ => rfl
  | h :: t, acc => (revQ_eq t (h :: acc)).trans (List.reverse_cons (a := h) (as := t) ▸ (List.append_cons _ _ _))
theorem nthQ_eq : ∀ (l : List α) (n : Nat), nthQ l n = l[n]?
  | [], 0 => rfl
  | _ :: _, 0 => rfl
  | [], _ + 1 => rfl
  | _ :: t, n + 1 => nthQ_eq t n
end
theorem eqQ_eq : ∀ a b : List Nat, eqQ a b = sEq a b
  | [], [] => rfl
  | [], _ :: _ => rfl
  | _ :: _, [] => rfl
  | a :: as, b :: bs => congrArg (and (Nat.beq a b)) (eqQ_eq as bs)
structure Ei (e : Nat → Nat) : Prop where
  inj : ∀ a b, e a = e b → a = b
  lo : ∀ c, c ≤ 64 → e c = c
section
variable {e : Nat → Nat} (E : Ei e)
include E
theorem Ei.beq (a b : Nat) : Nat.beq (e a) (e b) = Nat.beq a b := Bool.eq_iff_iff.mpr ⟨fun h => E.inj _ _ (Nat.eq_of_beq_eq_true h) ▸ Nat.beq_refl a, fun h => Nat.eq_of_beq_eq_true h ▸ Nat.beq_refl _⟩
theorem Ei.sEq : ∀ (a b : List Nat), sEq (a.map e) (b.map e) = eqQ a b
  | [], [] => rfl
  | [], _ :: _ => rfl
  | _ :: _, [] => rfl
  | a :: as, b :: bs => by
    show (Nat.beq (e a) (e b) && Mine.sEq (as.map e) (bs.map e)) = (Nat.beq a b && eqQ as bs)
    rw [E.beq, Ei.sEq as bs]
theorem Ei.isPre : ∀ (a b : List Nat), isPre (a.map e) (b.map e) = isPre a b
  | [], [] => rfl
  | [], _ :: _ => rfl
  | _ :: _, [] => rfl
  | a :: as, b :: bs => by
    show (Nat.beq (e a) (e b) && Mine.isPre (as.map e) (bs.map e)) = (Nat.beq a b && Mine.isPre as bs)
    rw [E.beq, Ei.isPre as bs]
theorem Ei.findAt (a : List Nat) : ∀ (b : List Nat) (i : Nat), findAt (a.map e) (b.map e) i = findAt a b i
  | [], i => by cases a <;> rfl
  | c :: bs, i => by
    show (if Mine.isPre (a.map e) ((c :: bs).map e) = true then some i else Mine.findAt (a.map e) (bs.map e) (i + 1)) = _
    rw [E.isPre, Ei.findAt a bs (i + 1)]; rfl
end
/-! law 2's change of letters: 65 to 68 the deck's by place; 70 and 71 the lowest label's letter, great and small, 72 and 73 A and a of labels; 75 to 77 A, B, C of namings; 80 to 83 letters that rise.
Letters are compared within their five alone. -/
noncomputable def lowQ (c : Nat) : Nat := cond (Nat.beq c 70) 71 (cond (Nat.beq c 72) 73 c)
noncomputable def lowOk (c : Nat) : Bool := or (Nat.ble c 64) (and (Nat.ble 70 c) (Nat.ble c 73))
structure Em (e : Nat → Nat) : Prop where
  inj : ∀ a b, 64 < a → 64 < b → a / 5 = b / 5 → e a = e b → a = b
  up : ∀ a, 64 < a → 64 < e a
  lo : ∀ c, c ≤ 64 → e c = c
  ris : ∀ a b, 75 ≤ a → a / 5 = b / 5 → a < b → e a < e b
  low : ∀ c, lowOk c = true → lowA (e c) = e (lowQ c)
  pr : ∀ c, 32 ≤ c → c < 85 → 32 ≤ e c ∧ e c < 127
  an : e 72 = 65
  n0 : e 75 = 65
  n1 : e 76 = 66
  n2 : e 77 = 67
noncomputable def parted (a b : Nat) : Bool := or (Nat.ble a 64) (or (Nat.ble b 64) (Nat.beq (Nat.div a 5) (Nat.div b 5)))
noncomputable def eqO (a b : List Nat) : Option Bool := List.rec (motive := fun zz => List Nat → Option Bool) (fun b => List.rec (motive := fun zz => Option Bool) (some true) (fun zz zz zz => some false) b) (fun x zz ih b => List.rec (motive := fun zz => Option Bool) (some false) (fun y t zz => cond (Nat.beq x y) (ih t) (cond (parted x y) (some false) none)) b) a b
noncomputable def risen (a b : Nat) : Bool := or (and (Nat.ble a 64) (Nat.ble b 64)) (and (Nat.ble 75 a) (and (Nat.ble 75 b) (Nat.beq (Nat.div a 5) (Nat.div b 5))))
noncomputable def ltO (a b : List Nat) : Option Bool := List.rec (motive := fun zz => List Nat → Option Bool) (fun b => List.rec (motive := fun zz => Option Bool) (some false) (fun zz zz zz => some true) b) (fun x zz ih b => List.rec (motive := fun zz => Option Bool) (some false) (fun y t zz => cond (Nat.beq x y) (ih t) (cond (risen x y) (some (Nat.blt x y)) none)) b) a b
section
variable {e : Nat → Nat} (E : Em e)
include E
theorem Em.ne {a b : Nat} (h : parted a b = true) (hn : a ≠ b) : e a ≠ e b := fun q => by
  by_cases ha : a ≤ 64
  · by_cases hb : b ≤ 64
    · rw [E.lo a ha, E.lo b hb] at q; exact hn q
    · rw [E.lo a ha] at q
      exact Nat.lt_irrefl _ (Nat.lt_of_lt_of_le (E.up b (Nat.lt_of_not_le hb)) (q ▸ ha))
  · by_cases hb : b ≤ 64
    · rw [E.lo b hb] at q
      exact Nat.lt_irrefl _ (Nat.lt_of_lt_of_le (E.up a (Nat.lt_of_not_le ha)) (q.symm ▸ hb))
    · unfold parted at h
      rw [Bool.or_eq_true, Bool.or_eq_true] at h
      have := (h.resolve_left fun q => ha (Nat.le_of_ble_eq_true q)).resolve_left fun q => hb (Nat.le_of_ble_eq_true q)
      exact hn (E.inj a b (Nat.lt_of_not_le ha) (Nat.lt_of_not_le hb) (Nat.eq_of_beq_eq_true this) q)
omit E in
theorem beq_false {a b : Nat} (h : a ≠ b) : Nat.beq a b = false := Bool.eq_false_iff.mpr fun q => h (Nat.eq_of_beq_eq_true q)
theorem Em.sEq : ∀ {a b : List Nat} {r : Bool}, eqO a b = some r → sEq (a.map e) (b.map e) = r
  | [], [], _, h => by cases h; rfl
  | [], _ :: _, _, h => by cases h; rfl
  | _ :: _, [], _, h => by cases h; rfl
  | a :: as, b :: bs, r, h => by
    change cond (Nat.beq a b) (eqO as bs) (cond (parted a b) (some false) none) = some r at h
    show (Nat.beq (e a) (e b) && Mine.sEq (as.map e) (bs.map e)) = r
    cases hb : Nat.beq a b with
    | true =>
      rw [hb] at h
      rw [Nat.eq_of_beq_eq_true hb, Nat.beq_refl, Em.sEq (show eqO as bs = some r from h)]; rfl
    | false =>
      rw [hb] at h
      obtain ⟨hp, rfl⟩ : parted a b = true ∧ false = r := by
        cases hp : parted a b <;> rw [hp] at h <;> cases h
        exact ⟨rfl, rfl⟩
      rw [beq_false (E.ne hp fun q => by rw [q, Nat.beq_refl] at hb; cases hb)]; rfl
theorem Em.sLt : ∀ {a b : List Nat} {r : Bool}, ltO a b = some r → sLt (a.map e) (b.map e) = r
  | [], [], _, h => by cases h; rfl
  | [], _ :: _, _, h => by cases h; rfl
  | _ :: _, [], _, h => by cases h; rfl
  | a :: as, b :: bs, r, h => by
    change cond (Nat.beq a b) (ltO as bs) (cond (risen a b) (some (Nat.blt a b)) none) = some r at h
    show (if Nat.blt (e a) (e b) = true then true else if Nat.beq (e a) (e b) = true then Mine.sLt (as.map e) (bs.map e) else false) = r
    cases hb : Nat.beq a b with
    | true =>
      rw [hb] at h
      rw [Nat.eq_of_beq_eq_true hb, if_neg (c := Nat.blt (e b) (e b) = true) (fun q => Nat.lt_irrefl _ (Nat.le_of_ble_eq_true q)), if_pos (Nat.beq_refl _), Em.sLt (show ltO as bs = some r from h)]
    | false =>
      rw [hb] at h
      obtain ⟨hp, rfl⟩ : risen a b = true ∧ Nat.blt a b = r := by
        cases hp : risen a b <;> rw [hp] at h <;> cases h
        exact ⟨rfl, rfl⟩
      have hn : a ≠ b := fun q => by rw [q, Nat.beq_refl] at hb; cases hb
      have key : ∀ {a b : Nat}, risen a b = true → a < b → e a < e b := fun {a b} hp hl => by
        unfold risen at hp
        rcases (Bool.or_eq_true _ _).mp hp with h | h
        · have ⟨h1, h2⟩ := (Bool.and_eq_true _ _).mp h
          rw [E.lo a (Nat.le_of_ble_eq_true h1), E.lo b (Nat.le_of_ble_eq_true h2)]; exact hl
        · have ⟨h1, h2⟩ := (Bool.and_eq_true _ _).mp h
          exact E.ris a b (Nat.le_of_ble_eq_true h1) (Nat.eq_of_beq_eq_true ((Bool.and_eq_true _ _).mp h2).2) hl
      have sw : risen b a = true := by
        unfold risen at hp ⊢
        rcases (Bool.or_eq_true _ _).mp hp with h | h
        · have ⟨h1, h2⟩ := (Bool.and_eq_true _ _).mp h
          rw [h1, h2]; rfl
        · have ⟨h1, h2⟩ := (Bool.and_eq_true _ _).mp h
          have ⟨h3, h4⟩ := (Bool.and_eq_true _ _).mp h2
          rw [h1, h3, Nat.eq_of_beq_eq_true h4, Nat.beq_refl]
          exact Bool.or_true _
      rcases Nat.lt_or_gt_of_ne hn with hl | hl
      · rw [if_pos (c := Nat.blt (e a) (e b) = true) (Nat.ble_eq_true_of_le (key hp hl))]
        exact (Nat.ble_eq_true_of_le hl).symm
      · have hg := key sw hl
        rw [if_neg (c := Nat.blt (e a) (e b) = true) (fun q => Nat.lt_asymm hg (Nat.le_of_ble_eq_true q)), if_neg (fun q => Nat.ne_of_gt hg (Nat.eq_of_beq_eq_true q))]
        exact (Bool.eq_false_iff.mpr fun q => Nat.lt_asymm hl (Nat.le_of_ble_eq_true q)).symm
theorem Em.low_map {a : List Nat} (h : a.all lowOk = true) : (a.map e).map lowA = (mapQ lowQ a).map e := by
  rw [mapQ_eq, List.map_map, List.map_map]
  exact List.map_congr_left fun c hc => E.low c (List.all_eq_true.mp h c hc)
theorem Em.ei {k : Nat} (hk : k ≤ 16) : Ei fun c => if c ≤ 64 ∨ c / 5 = k then e c else c + 200 where
  inj a b h := by
    have hlt : ∀ {c}, (c ≤ 64 ∨ c / 5 = k) → e c < 200 := fun {c} hc => by
      by_cases h1 : c ≤ 64
      · rw [E.lo c h1]; exact Nat.lt_of_le_of_lt h1 (by decide)
      · have h2 := hc.resolve_left h1
        exact Nat.lt_trans (E.pr c (Nat.le_trans (by decide) (Nat.lt_of_not_le h1)) (by lia)).2 (by decide)
    by_cases ha : a ≤ 64 ∨ a / 5 = k <;> by_cases hb : b ≤ 64 ∨ b / 5 = k
    · rw [if_pos ha, if_pos hb] at h
      refine Classical.byContradiction fun q => E.ne (a := a) (b := b) ?_ q h
      unfold parted
      by_cases h1 : a ≤ 64
      · rw [Nat.ble_eq_true_of_le h1]; rfl
      · by_cases h2 : b ≤ 64
        · rw [Nat.ble_eq_true_of_le h2, Bool.true_or, Bool.or_true]
        · show (_ || (_ || Nat.beq (a / 5) (b / 5))) = true
          rw [ha.resolve_left h1, hb.resolve_left h2, Nat.beq_refl]
          exact (congrArg _ (Bool.or_true _)).trans (Bool.or_true _)
    · rw [if_pos ha, if_neg hb] at h
      exact absurd (h ▸ hlt ha) (Nat.not_lt.mpr (Nat.le_add_left _ _))
    · rw [if_neg ha, if_pos hb] at h
      exact absurd (h.symm ▸ hlt hb) (Nat.not_lt.mpr (Nat.le_add_left _ _))
    · rw [if_neg ha, if_neg hb] at h
      exact Nat.add_right_cancel h
  lo c h := (if_pos (.inl h)).trans (E.lo c h)
end
noncomputable def allQ (f : Nat → Bool) (a : List Nat) : Bool := List.rec (motive := fun zz => Bool) true (fun c zz ih => and (f c) ih) a
theorem allQ_eq (f : Nat → Bool) : ∀ a : List Nat, allQ f a = a.all f
  | [] => rfl
  | c :: a => congrArg (and (f c)) (allQ_eq f a)
noncomputable def inK (k c : Nat) : Bool := or (Nat.ble c 64) (Nat.beq (Nat.div c 5) k)
theorem inK_map {e : Nat → Nat} {k : Nat} {a : List Nat} (h : allQ (inK k) a = true) : a.map e = a.map fun c => if c ≤ 64 ∨ c / 5 = k then e c else c + 200 := by
  rw [allQ_eq] at h
  refine List.map_congr_left fun c hc => (if_pos ?_).symm
  exact ((Bool.or_eq_true _ _).mp (List.all_eq_true.mp h c hc)).imp Nat.le_of_ble_eq_true Nat.eq_of_beq_eq_true
noncomputable def oneK (a b : List Nat) : Bool := or (and (allQ (inK 13) a) (allQ (inK 13) b)) (or (and (allQ (inK 15) a) (allQ (inK 15) b)) (and (allQ (inK 16) a) (allQ (inK 16) b)))
theorem oneK_ok {e : Nat → Nat} (E : Em e) {a b : List Nat} (h : oneK a b = true) : ∃ e', Ei e' ∧ a.map e = a.map e' ∧ b.map e = b.map e' := by
  have key : ∀ {k : Nat}, k ≤ 16 → (and (allQ (inK k) a) (allQ (inK k) b)) = true → ∃ e', Ei e' ∧ a.map e = a.map e' ∧ b.map e = b.map e' := fun hk h => have ⟨h1, h2⟩ := (Bool.and_eq_true _ _).mp h; ⟨_, E.ei hk, inK_map h1, inK_map h2⟩
  rcases (Bool.or_eq_true _ _).mp h with h | h
  · exact key (by decide) h
  rcases (Bool.or_eq_true _ _).mp h with h | h
  · exact key (by decide) h
  · exact key (by decide) h
noncomputable def preQ (a b : List Nat) : Bool := List.rec (motive := fun zz => List Nat → Bool) (fun zz => true) (fun x zz ih b => List.rec (motive := fun zz => Bool) false (fun y t zz => and (Nat.beq x y) (ih t)) b) a b
noncomputable def findQ (w s : List Nat) (i : Nat) : Option Nat := List.rec (motive := fun zz => Nat → Option Nat) (fun i => cond w.isEmpty (some i) none) (fun c t ih i => cond (preQ w (c :: t)) (some i) (ih (Nat.succ i))) s i
theorem preQ_eq : ∀ a b : List Nat, preQ a b = isPre a b
  | [], _ => rfl
  | _ :: _, [] => rfl
  | a :: as, b :: bs => congrArg (and (Nat.beq a b)) (preQ_eq as bs)
theorem findQ_eq (w : List Nat) : ∀ (s : List Nat) (i : Nat), findQ w s i = findAt w s i
  | [], i => by
    show cond w.isEmpty (some i) none = if w.isEmpty = true then some i else none
    cases w.isEmpty <;> rfl
  | c :: t, i => by
    show cond (preQ w (c :: t)) (some i) (findQ w t (i + 1)) = if isPre w (c :: t) = true then some i else findAt w t (i + 1)
    rw [preQ_eq, findQ_eq w t]
    cases isPre w (c :: t) <;> rfl
noncomputable def findG (w s : List Nat) : Option (Option Nat) := cond (oneK w s) (some (findQ w s 0)) none
theorem findG_ok {e : Nat → Nat} (E : Em e) {w s : List Nat} {r : Option Nat} (h : findG w s = some r) : findAt (w.map e) (s.map e) 0 = r := by
  unfold findG at h
  cases hk : oneK w s with
  | false => rw [hk] at h; cases h
  | true =>
    rw [hk] at h
    obtain ⟨e', E', h1, h2⟩ := oneK_ok E hk
    rw [h1, h2, E'.findAt, ← findQ_eq]
    exact Option.some.inj h
set_option genCtorIdx false
inductive QV where
  | none
  | bool (b : Bool)
  | int (i : Int)
  | str (s : List Nat)
  | abs (s : List Nat)
  | bytes (b : List UInt8)
  | list (xs : List QV)
  | tup (xs : List QV)
set_option genCtorIdx true
mutual
noncomputable def er (e : Nat → Nat) : QV → PV
  | .none => .none
  | .bool b => .bool b
  | .int i => .int i
  | .str s => .str s
  | .abs s => .str (s.map e)
  | .bytes b => .bytes b
  | .list xs => .list (ers e xs)
  | .tup xs => .tup (ers e xs)
noncomputable def ers (e : Nat → Nat) : List QV → List PV
  | [] => []
  | x :: xs => er e x :: ers e xs
end
theorem ers_eq (e : Nat → Nat) : ∀ xs : List QV, ers e xs = xs.map (er e)
  | [] => rfl
  | x :: xs => congrArg (er e x :: ·) (ers_eq e xs)
theorem ers_len (e : Nat → Nat) (xs : List QV) : (ers e xs).length = lenQ xs := by rw [ers_eq, lenQ_eq, List.length_map]
theorem ers_app (e : Nat → Nat) : ∀ (xs ys : List QV), ers e (apQ xs ys) = ers e xs ++ ers e ys
  | [], _ => rfl
  | x :: xs, ys => congrArg (er e x :: ·) (ers_app e xs ys)
theorem ers_take (e : Nat → Nat) (n : Nat) (xs : List QV) : ers e (takeQ n xs) = (ers e xs).take n := by rw [ers_eq, ers_eq, takeQ_eq, List.map_take]
theorem ers_drop (e : Nat → Nat) (n : Nat) (xs : List QV) : ers e (dropQ n xs) = (ers e xs).drop n := by rw [ers_eq, ers_eq, dropQ_eq, List.map_drop]
theorem ers_nth (e : Nat → Nat) {n : Nat} {xs : List QV} {x : QV} (h : nthQ xs n = some x) : (ers e xs)[n]? = some (er e x) := by rw [ers_eq, List.getElem?_map, ← nthQ_eq, h]; rfl
noncomputable def tabs (l : List (List Nat)) : List QV := mapQ .abs l
theorem ers_tabs (e : Nat → Nat) : ∀ l : List (List Nat), ers e (tabs l) = (l.map (List.map e)).map .str
  | [] => rfl
  | x :: l => congrArg (PV.str (x.map e) :: ·) (ers_tabs e l)
noncomputable abbrev R1 (o : Op1) (p r : QV) : Prop := ∀ e, Em e → op1 o (er e p) = some (er e r)
noncomputable abbrev R2 (o : Op2) (p q r : QV) : Prop := ∀ e, Em e → op2 o (er e p) (er e q) = some (er e r)
theorem cond_some {α : Type} {b : Bool} {x : α} {r : α} (h : cond b (some x) none = some r) : b = true ∧ x = r := by
  cases b with
  | false => cases h
  | true => cases h; exact ⟨rfl, rfl⟩
noncomputable def cQ {α : Type} (p : QV) (fb : Bool → Option α) (fi : Int → Option α) (fa : List Nat → Option α) (fl : List QV → Option α) : Option α :=
  QV.rec (motive_1 := fun zz => Option α) (motive_2 := fun zz => Unit) none fb fi (fun zz => none) fa (fun zz => none) (fun xs zz => fl xs) (fun zz zz => none) () (fun zz zz zz zz => ()) p
noncomputable def nO {α β : Type} : β → Option α := fun zz => none
inductive EQ {α : Type} (fb : Bool → Option α) (fi : Int → Option α) (fa : List Nat → Option α) (fl : List QV → Option α) (r : α) : QV → Prop
  | b {x} (h : fb x = some r) : EQ fb fi fa fl r (.bool x)
  | i {x} (h : fi x = some r) : EQ fb fi fa fl r (.int x)
  | a {x} (h : fa x = some r) : EQ fb fi fa fl r (.abs x)
  | l {x} (h : fl x = some r) : EQ fb fi fa fl r (.list x)
theorem cQ_some {α : Type} {p : QV} {fb : Bool → Option α} {fi : Int → Option α} {fa : List Nat → Option α} {fl : List QV → Option α} {r : α} (h : cQ p fb fi fa fl = some r) : EQ fb fi fa fl r p := by
  cases p with
  | bool x => exact .b h
  | int x => exact .i h
  | abs x => exact .a h
  | list x => exact .l h
  | _ => cases h
noncomputable def onI {α : Type} (p : QV) (f : Int → Option α) : Option α := cQ p nO f nO nO
theorem onI_eq {α : Type} {p : QV} {f : Int → Option α} {r : α} (h : onI p f = some r) : ∃ a, p = .int a ∧ f a = some r := by
  cases cQ_some h with
  | i h => exact ⟨_, rfl, h⟩
  | _ h => cases h
noncomputable def onA {α : Type} (p : QV) (f : List Nat → Option α) : Option α := cQ p nO nO f nO
theorem onA_eq {α : Type} {p : QV} {f : List Nat → Option α} {r : α} (h : onA p f = some r) : ∃ a, p = .abs a ∧ f a = some r := by
  cases cQ_some h with
  | a h => exact ⟨_, rfl, h⟩
  | _ h => cases h
noncomputable def onL {α : Type} (p : QV) (f : List QV → Option α) : Option α := cQ p nO nO nO f
theorem onL_eq {α : Type} {p : QV} {f : List QV → Option α} {r : α} (h : onL p f = some r) : ∃ a, p = .list a ∧ f a = some r := by
  cases cQ_some h with
  | l h => exact ⟨_, rfl, h⟩
  | _ h => cases h
noncomputable def onB {α : Type} (p : QV) (f : Bool → Option α) : Option α := cQ p f nO nO nO
theorem onB_eq {α : Type} {p : QV} {f : Bool → Option α} {r : α} (h : onB p f = some r) : ∃ a, p = .bool a ∧ f a = some r := by
  cases cQ_some h with
  | b h => exact ⟨_, rfl, h⟩
  | _ h => cases h
noncomputable def onN {α : Type} (i : Int) (f : Nat → Option α) : Option α := Int.rec (motive := fun zz => Option α) f (fun zz => none) i
theorem onN_eq {α : Type} {i : Int} {f : Nat → Option α} {r : α} (h : onN i f = some r) : ∃ n : Nat, i = .ofNat n ∧ f n = some r := by
  cases i with
  | ofNat n => exact ⟨n, rfl, h⟩
  | negSucc n => cases h
noncomputable def onQ {α : Type} (p : QV) (f : Nat → Option α) : Option α := onI p fun i => onN i f
theorem onQ_eq {α : Type} {p : QV} {f : Nat → Option α} {r : α} (h : onQ p f = some r) : ∃ n : Nat, p = .int (.ofNat n) ∧ f n = some r := by
  obtain ⟨i, rfl, h⟩ := onI_eq h
  obtain ⟨n, rfl, h⟩ := onN_eq h
  exact ⟨n, rfl, h⟩
noncomputable abbrev O1 (o : Op1) : Type := (n : QV → Option QV) ×' ((∀ p r, n p = some r → R1 o p r))
section
variable {a_} (x_ : O1 a_)
noncomputable abbrev O1.n := x_.1
theorem O1.ok : ∀ p r, x_.n p = some r → R1 a_ p r := x_.2
end
noncomputable abbrev O2 (o : Op2) : Type := (n : QV → QV → Option QV) ×' ((∀ p q r, n p q = some r → R2 o p q r))
section
variable {a_} (x_ : O2 a_)
noncomputable abbrev O2.n := x_.1
theorem O2.ok : ∀ p q r, x_.n p q = some r → R2 a_ p q r := x_.2
end
noncomputable def nthI {α : Type} (xs : List α) (i : Int) : Option α := Int.rec (motive := fun zz => Option α) (fun n => nthQ xs n) (fun m => cond (Nat.ble (Nat.succ m) (lenQ xs)) (nthQ xs (lenQ xs - Nat.succ m)) none) i
theorem pyIx_neg {n m : Nat} (h : m + 1 ≤ n) : pyIx n (.negSucc m) = some (n - (m + 1)) := by
  have e : (Int.negSucc m) + (n : Int) = ((n - (m + 1) : Nat) : Int) := (Int.add_comm (Int.negSucc m) n).trans (Int.ofNat_sub h).symm
  show (if (decide ((0 : Int) ≤ if Int.negSucc m < 0 then Int.negSucc m + (n : Int) else Int.negSucc m) && decide ((if Int.negSucc m < 0 then Int.negSucc m + (n : Int) else Int.negSucc m) < (n : Int))) = true then some (if Int.negSucc m < 0 then Int.negSucc m + (n : Int) else Int.negSucc m).toNat else none) = _
  rw [if_pos (Int.negSucc_lt_zero m), e, decide_eq_true (Int.natCast_nonneg _), decide_eq_true (Int.ofNat_lt.mpr (Nat.sub_lt (Nat.lt_of_lt_of_le (Nat.succ_pos _) h) (Nat.succ_pos _)))]; rfl
theorem idx_list {xs : List QV} {i : Int} {x : QV} (h : nthI xs i = some x) : R2 .idx (.list xs) (.int i) x := fun e zz => by
  cases i with
  | ofNat n => exact o_idx (ers_nth e h)
  | negSucc m =>
    change cond (Nat.ble (Nat.succ m) (lenQ xs)) (nthQ xs (lenQ xs - Nat.succ m)) none = some x at h
    cases hb : Nat.ble (Nat.succ m) (lenQ xs) with
    | false => rw [hb] at h; cases h
    | true =>
      rw [hb] at h
      have hl := Nat.le_of_ble_eq_true hb
      rw [← ers_len e xs] at hl h
      exact op_idx (pyIx_neg hl) (ers_nth e h)
theorem op_idx_str {s : List Nat} {i : Int} {k c : Nat} (hk : pyIx s.length i = some k) (h : s[k]? = some c) : op2 .idx (.str s) (.int i) = some (.str [c]) := by
  refine congrArg (Option.map Subtype.val) (?_ : op2S .idx (.str s) (.int i) = some ⟨.str [c], fun zz zz zz => itemsStr, sIdxStr hk h⟩)
  exact (opt_some hk (fun k hk => opt s[k]? fun y hy => (some ⟨.str [y], fun zz zz zz => itemsStr, sIdxStr hk hy⟩ : Option {r : PV // Snd2 .idx (.str s) (.int i) r}))).trans (opt_some h (fun y hy => (some ⟨.str [y], fun zz zz zz => itemsStr, sIdxStr hk hy⟩ : Option {r : PV // Snd2 .idx (.str s) (.int i) r})))
theorem idx_abs {s : List Nat} {i : Int} {c : Nat} (h : nthI s i = some c) : R2 .idx (.abs s) (.int i) (.abs [c]) := fun e zz => by
  have key : ∀ {k : Nat}, nthQ s k = some c → (s.map e)[k]? = some (e c) := fun h => by rw [List.getElem?_map, ← nthQ_eq, h]; rfl
  cases i with
  | ofNat n => exact o_idx_str (i := n) (key h)
  | negSucc m =>
    change cond (Nat.ble (Nat.succ m) (lenQ s)) (nthQ s (lenQ s - Nat.succ m)) none = some c at h
    cases hb : Nat.ble (Nat.succ m) (lenQ s) with
    | false => rw [hb] at h; cases h
    | true =>
      rw [hb] at h
      have hl := Nat.le_of_ble_eq_true hb
      have el : (s.map e).length = lenQ s := (List.length_map _).trans (lenQ_eq s).symm
      exact op_idx_str (pyIx_neg (by rw [el]; exact hl)) (by rw [el]; exact key h)
noncomputable def addI (a b : Int) : Int := Int.rec (motive := fun zz => Int) (fun m => Int.rec (motive := fun zz => Int) (fun n => .ofNat (Nat.add m n)) (fun n => Int.add (.ofNat m) (.negSucc n)) b) (fun m => Int.add (.negSucc m) b) a
theorem addI_eq (a b : Int) : addI a b = a + b := by cases a <;> first | rfl | (cases b <;> rfl)
noncomputable def subI (a b : Int) : Int := Int.rec (motive := fun zz => Int) (fun m => Int.rec (motive := fun zz => Int) (fun n => cond (Nat.ble n m) (.ofNat (Nat.sub m n)) (Int.sub (.ofNat m) (.ofNat n))) (fun n => .ofNat (Nat.succ (Nat.add m n))) b) (fun m => Int.sub (.negSucc m) b) a
theorem subI_eq (a b : Int) : subI a b = a - b := by
  cases a with
  | negSucc m => rfl
  | ofNat m => cases b with
    | negSucc n => rfl
    | ofNat n =>
      show cond (Nat.ble n m) (Int.ofNat (m - n)) (Int.sub (.ofNat m) (.ofNat n)) = _
      cases hb : Nat.ble n m with
      | false => rfl
      | true => exact Int.ofNat_sub (Nat.le_of_ble_eq_true hb)
noncomputable def modI (a : Int) (k : Nat) : Int := Int.rec (motive := fun zz => Int) (fun m => .ofNat (Nat.mod m k)) (fun m => Int.emod (.negSucc m) (.ofNat k)) a
theorem modI_eq (a : Int) (k : Nat) : modI a k = a % (Int.ofNat k) := by cases a <;> rfl
noncomputable def ltI (a b : Int) : Bool := Int.rec (motive := fun zz => Bool) (fun m => Int.rec (motive := fun zz => Bool) (fun n => Nat.blt m n) (fun zz => false) b) (fun m => Int.rec (motive := fun zz => Bool) (fun zz => true) (fun n => Nat.blt n m) b) a
theorem ltI_eq (a b : Int) : ltI a b = decide (a < b) := by
  cases a with
  | ofNat m => cases b with
    | ofNat n => exact Bool.eq_iff_iff.mpr (by rw [decide_eq_true_iff]; exact (Iff.of_eq Nat.blt_eq).trans Int.ofNat_lt.symm)
    | negSucc n => exact (decide_eq_false (Int.not_lt.mpr (Int.le_of_lt (Int.lt_of_lt_of_le (Int.negSucc_lt_zero n) (Int.natCast_nonneg m))))).symm
  | negSucc m => cases b with
    | ofNat n => exact (decide_eq_true (Int.lt_of_lt_of_le (Int.negSucc_lt_zero m) (Int.natCast_nonneg n))).symm
    | negSucc n => exact Bool.eq_iff_iff.mpr (by rw [decide_eq_true_iff]; exact (Iff.of_eq Nat.blt_eq).trans (by rw [Int.negSucc_eq, Int.negSucc_eq]; lia))
theorem leI_eq (a b : Int) : (!(ltI b a)) = decide (a ≤ b) := by rw [ltI_eq]; exact Bool.eq_iff_iff.mpr (by rw [Bool.not_eq_true', decide_eq_false_iff_not, decide_eq_true_iff]; exact Int.not_lt)
noncomputable def eqI (a b : Int) : Bool := Int.rec (motive := fun zz => Bool) (fun m => Int.rec (motive := fun zz => Bool) (fun n => Nat.beq m n) (fun zz => false) b) (fun m => Int.rec (motive := fun zz => Bool) (fun zz => false) (fun n => Nat.beq m n) b) a
theorem beq_nat {a b : Nat} {p q : Int} (h : p = q ↔ a = b) : (p == q) = Nat.beq a b := Bool.eq_iff_iff.mpr (by rw [beq_iff_eq, Nat.beq_eq]; exact h)
theorem eqI_eq : ∀ a b : Int, (a == b) = eqI a b
  | .ofNat _, .ofNat _ => beq_nat Int.ofNat_inj
  | .negSucc _, .negSucc _ => beq_nat Int.negSucc_inj
  | .ofNat _, .negSucc _ => rfl
  | .negSucc _, .ofNat _ => rfl
theorem pyEq_list (a b : List PV) : pyEq (.list a) (.list b) = pyEqs a b := by
  show ((pyEqsS a b).map _).map _ = _
  rw [Option.map_map]; rfl
theorem pyEq_tup (a b : List PV) : pyEq (.tup a) (.tup b) = pyEqs a b := by
  show ((pyEqsS a b).map _).map _ = _
  rw [Option.map_map]; rfl
noncomputable abbrev EqT (a b : PV) (as bs : List PV) := {r : Bool // PySem.PyData.eqvAll (toPys (a :: as)) (toPys (b :: bs)) = r}
theorem pyEqs_t {a b : PV} {as bs : List PV} {x : Bool} (h : pyEq a b = some true) (h2 : pyEqs as bs = some x) : pyEqs (a :: as) (b :: bs) = some x := by
  obtain ⟨y, h1, hy⟩ := Option.map_eq_some_iff.mp h
  obtain ⟨z, h3, hz⟩ := Option.map_eq_some_iff.mp h2
  show ((pyEqS a b).bind fun x => if h : x.1 = true then (pyEqsS as bs).map fun y => (⟨y.1, and_t (x.2.1.trans h) y.2⟩ : EqT a b as bs) else some ⟨false, and_f (x.2.1.trans (Bool.not_eq_true _ ▸ h))⟩).map Subtype.val = _
  rw [h1, Option.bind_some, dif_pos hy, h3, Option.map_some, Option.map_some, hz]
theorem pyEqs_f {a b : PV} {as bs : List PV} (h : pyEq a b = some false) : pyEqs (a :: as) (b :: bs) = some false := by
  obtain ⟨y, h1, hy⟩ := Option.map_eq_some_iff.mp h
  show ((pyEqS a b).bind fun x => if h : x.1 = true then (pyEqsS as bs).map fun y => (⟨y.1, and_t (x.2.1.trans h) y.2⟩ : EqT a b as bs) else some ⟨false, and_f (x.2.1.trans (Bool.not_eq_true _ ▸ h))⟩).map Subtype.val = _
  rw [h1, Option.bind_some, dif_neg (by rw [hy]; exact Bool.false_ne_true)]; rfl
noncomputable def OpEq (p q : PV) : Prop := op2 .eq p q = (pyEq p q).map .bool ∧ op2 .ne p q = (pyEq p q).map fun b => .bool (!b)
theorem opq {p q : PV} (h : op2S .eq p q = (pyEqS p q).map (fun x => ⟨.bool x.1, sEq2 x.2⟩)) (h2 : op2S .ne p q = (pyEqS p q).map (fun x => ⟨.bool (!x.1), sNe2 x.2⟩)) : OpEq p q :=
  ⟨(congrArg (Option.map Subtype.val) h).trans ((Option.map_map _ _ _).trans (Option.map_map PV.bool Subtype.val _).symm), (congrArg (Option.map Subtype.val) h2).trans ((Option.map_map _ _ _).trans (Option.map_map (fun b => PV.bool (!b)) Subtype.val _).symm)⟩
noncomputable abbrev EqR (p q : QV) (b : Bool) : Prop := ∀ e, Em e → pyEq (er e p) (er e q) = some b ∧ OpEq (er e p) (er e q)
noncomputable abbrev EqRs (p q : List QV) (b : Bool) : Prop := ∀ e, Em e → pyEqs (ers e p) (ers e q) = some b
noncomputable def eqN (p : QV) : QV → Option Bool :=
  QV.rec (motive_1 := fun zz => QV → Option Bool) (motive_2 := fun zz => List QV → Option Bool) (fun zz => none) (fun a q => onB q fun b => some (beqB a b)) (fun a q => onI q fun b => some (eqI a b)) (fun zz zz => none) (fun a q => onA q fun b => eqO a b) (fun zz zz => none) (fun zz ih q => onL q ih)
    (fun zz ih q => QV.rec (motive_1 := fun zz => Option Bool) (motive_2 := fun zz => Unit) none (fun zz => none) (fun zz => none) (fun zz => none) (fun zz => none) (fun zz => none) (fun zz zz => none) (fun ys zz => ih ys) () (fun zz zz zz zz => ()) q)
    (fun ys => List.rec (motive := fun zz => Option Bool) (some true) (fun zz zz zz => some false) ys) (fun zz zz ih ihs ys => List.rec (motive := fun zz => Option Bool) (some false) (fun y t zz => bnd (ih y) fun b => cond b (ihs t) (some false)) ys) p
noncomputable def eqNs (xs : List QV) : List QV → Option Bool := List.rec (motive := fun zz => List QV → Option Bool) (fun ys => List.rec (motive := fun zz => Option Bool) (some true) (fun zz zz zz => some false) ys) (fun x zz ihs ys => List.rec (motive := fun zz => Option Bool) (some false) (fun y t zz => bnd (eqN x y) fun b => cond b (ihs t) (some false)) ys) xs
theorem eqN_list : ∀ (xs : List QV) (q : QV), eqN (.list xs) q = onL q (eqNs xs) ∧ ∀ ys, eqN (.tup xs) (.tup ys) = eqNs xs ys := fun xs => by
  have key : ∀ xs : List QV, (QV.rec_1 (motive_1 := fun zz => QV → Option Bool) (motive_2 := fun zz => List QV → Option Bool) (fun zz => none) (fun a q => onB q fun b => some (beqB a b)) (fun a q => onI q fun b => some (eqI a b)) (fun zz zz => none) (fun a q => onA q fun b => eqO a b) (fun zz zz => none) (fun zz ih q => onL q ih)
    (fun zz ih q => QV.rec (motive_1 := fun zz => Option Bool) (motive_2 := fun zz => Unit) none (fun zz => none) (fun zz => none) (fun zz => none) (fun zz => none) (fun zz => none) (fun zz zz => none) (fun ys zz => ih ys) () (fun zz zz zz zz => ()) q)
    (fun ys => List.rec (motive := fun zz => Option Bool) (some true) (fun zz zz zz => some false) ys) (fun zz zz ih ihs ys => List.rec (motive := fun zz => Option Bool) (some false) (fun y t zz => bnd (ih y) fun b => cond b (ihs t) (some false)) ys) xs : List QV → Option Bool) = eqNs xs := fun xs => by
    induction xs with
    | nil => rfl
    | cons x xs ih => exact congrArg (fun f : List QV → Option Bool => fun ys : List QV => List.rec (motive := fun zz => Option Bool) (some false) (fun y t zz => bnd (eqN x y) fun b => cond b (f t) (some false)) ys) ih
  exact fun q => ⟨congrArg (onL q) (key xs), fun ys => congrFun (key xs) ys⟩
mutual
theorem eqN_ok : ∀ (p q : QV) (b : Bool), eqN p q = some b → EqR p q b
  | .none, _, _, h => nomatch h
  | .str _, _, _, h => nomatch h
  | .bytes _, _, _, h => nomatch h
  | .bool a, q, b, h => by
    obtain ⟨c, rfl, h⟩ := onB_eq (p := q) h
    cases h
    exact fun zz zz => ⟨congrArg some (beqB_eq a c).symm, opq rfl rfl⟩
  | .int a, q, b, h => by
    obtain ⟨c, rfl, h⟩ := onI_eq (p := q) h
    cases h
    exact fun zz zz => ⟨congrArg some (eqI_eq a c), opq rfl rfl⟩
  | .abs a, q, b, h => by
    obtain ⟨c, rfl, h⟩ := onA_eq (p := q) h
    exact fun zz E => ⟨congrArg some (E.sEq h), opq rfl rfl⟩
  | .list xs, q, b, h => by
    rw [(eqN_list xs q).1] at h
    obtain ⟨ys, rfl, h⟩ := onL_eq h
    exact fun e E => ⟨(pyEq_list _ _).trans (eqNs_ok xs ys b h e E), opq rfl rfl⟩
  | .tup xs, q, b, h => by
    cases q <;> first | (cases h; done) | skip
    rw [(eqN_list xs .none).2] at h
    exact fun e E => ⟨(pyEq_tup _ _).trans (eqNs_ok xs _ b h e E), opq rfl rfl⟩
theorem eqNs_ok : ∀ (p q : List QV) (b : Bool), eqNs p q = some b → EqRs p q b
  | [], [], b, h => by cases h; exact fun zz zz => rfl
  | [], _ :: _, b, h => by cases h; exact fun zz zz => rfl
  | _ :: _, [], b, h => by cases h; exact fun zz zz => rfl
  | x :: xs, y :: ys, b, h => by
    obtain ⟨c, h1, h2⟩ := bndE h
    have h3 := eqN_ok x y c h1
    cases c with
    | true => exact fun e E => pyEqs_t (h3 e E).1 (eqNs_ok xs ys b h2 e E)
    | false => cases h2; exact fun e E => pyEqs_f (h3 e E).1
end
noncomputable def natQ : QV → Option Nat
  | .int (.ofNat n) => some n
  | _ => none
set_option tactic.hygienic true in
theorem natQ_eq {p : QV} {n : Nat} (h : natQ p = some n) : p = .int (.ofNat n) := by
  cases p <;> first | (cases h; done) | (cases h; rfl) | (rename_i i; cases i <;> cases h; rfl)
noncomputable def listQ : QV → Option (List QV)
  | .list xs => some xs
  | _ => none
set_option tactic.hygienic true in
theorem listQ_eq {p : QV} {l : List QV} (h : listQ p = some l) : p = .list l := by
  cases p <;> first | (cases h; done) | (cases h; rfl) | (rename_i i; cases i <;> cases h; rfl)
noncomputable def absQ : QV → Option (List Nat)
  | .abs s => some s
  | _ => none
set_option tactic.hygienic true in
theorem absQ_eq {p : QV} {l : List Nat} (h : absQ p = some l) : p = .abs l := by
  cases p <;> first | (cases h; done) | (cases h; rfl) | (rename_i i; cases i <;> cases h; rfl)
noncomputable def boolQ : QV → Option Bool
  | .bool b => some b
  | _ => none
set_option tactic.hygienic true in
theorem boolQ_eq {p : QV} {b : Bool} (h : boolQ p = some b) : p = .bool b := by
  cases p <;> first | (cases h; done) | (cases h; rfl) | (rename_i i; cases i <;> cases h; rfl)
noncomputable def two : List QV → Option (QV × QV)
  | [a, b] => some (a, b)
  | _ => none
theorem two_eq {l : List QV} {x : QV × QV} (h : two l = some x) : l = [x.1, x.2] := by
  rcases l with _ | ⟨a, _ | ⟨b, _ | ⟨c, l⟩⟩⟩ <;> cases h
  rfl
noncomputable def kadd : O2 .add := ⟨fun p q => cQ p nO (fun a => onI q fun b => some (.int (addI a b))) (fun a => onA q fun b => cond (Nat.ble (Nat.add (lenQ a) (lenQ b)) 1000) (some (.abs (apQ a b))) none) (fun a => onL q fun b => cond (Nat.ble (Nat.add (lenQ a) (lenQ b)) 1000) (some (.list (apQ a b))) none), fun p q r h => by
  cases cQ_some h with
  | b h => cases h
  | i h =>
    obtain ⟨b, rfl, h⟩ := onI_eq h
    cases h
    exact fun zz zz => congrArg (fun i => some (PV.int i)) (addI_eq _ _).symm
  | @a x h =>
    obtain ⟨b, rfl, h⟩ := onA_eq h
    obtain ⟨hb, rfl⟩ := cond_some h
    exact fun e zz => (o_cat (by rw [List.length_map, List.length_map, ← lenQ_eq, ← lenQ_eq]; exact Nat.le_trans (Nat.le_of_ble_eq_true hb) (by decide))).trans (by rw [← List.map_append, ← apQ_eq]; rfl)
  | @l x h =>
    obtain ⟨b, rfl, h⟩ := onL_eq h
    obtain ⟨hb, rfl⟩ := cond_some h
    exact fun e zz => (o_catl (by rw [ers_len, ers_len]; exact Nat.le_trans (Nat.le_of_ble_eq_true hb) (by decide))).trans (by rw [← ers_app]; rfl)⟩
noncomputable def k2i {o : Op2} (f : Int → Int → QV) (h : ∀ a b, R2 o (.int a) (.int b) (f a b)) : O2 o := ⟨fun p q => onI p fun a => onI q fun b => some (f a b), fun p q r hr => by
  obtain ⟨a, rfl, hr⟩ := onI_eq (p := p) hr
  obtain ⟨b, rfl, hr⟩ := onI_eq (p := q) hr
  cases hr
  exact h a b⟩
noncomputable def ksub : O2 .sub := k2i (fun a b => .int (subI a b)) fun a b zz zz => congrArg (fun i => some (PV.int i)) (subI_eq a b).symm
noncomputable def klt : O2 .lt := k2i (fun a b => .bool (ltI a b)) fun a b zz zz => congrArg (fun i => some (PV.bool i)) (ltI_eq a b).symm
noncomputable def kgt : O2 .gt := k2i (fun a b => .bool (ltI b a)) fun a b zz zz => congrArg (fun i => some (PV.bool i)) (ltI_eq b a).symm
noncomputable def kge : O2 .ge := k2i (fun a b => .bool (not (ltI a b))) fun a b zz zz => congrArg (fun i => some (PV.bool i)) (leI_eq b a).symm
noncomputable def kmod : O2 .mod := ⟨fun p q => onI p fun a => onQ q fun b => cond (Nat.blt 0 b) (some (.int (modI a b))) none, fun p q r hr => by
  obtain ⟨a, rfl, hr⟩ := onI_eq (p := p) hr
  obtain ⟨b, rfl, hr⟩ := onQ_eq (p := q) hr
  obtain ⟨h, rfl⟩ := cond_some hr
  exact fun zz zz => (o_mod (b := Int.ofNat b) (Int.ofNat_lt.mpr (Nat.le_of_ble_eq_true h))).trans (congrArg (fun i => some (PV.int i)) (modI_eq a b).symm)⟩
noncomputable def kisNot : O2 .isNot := ⟨fun p q => onB p fun a => onB q fun b => some (.bool (not (beqB a b))), fun p q r hr => by
  obtain ⟨a, rfl, hr⟩ := onB_eq (p := p) hr
  obtain ⟨b, rfl, hr⟩ := onB_eq (p := q) hr
  cases hr
  exact fun zz zz => congrArg (fun b => some (PV.bool (!b))) (beqB_eq a b).symm⟩
noncomputable def kidx : O2 .idx := ⟨fun p q => onI q fun i => cQ p nO nO (fun s => bnd (nthI s i) fun c => some (.abs [c])) (fun xs => nthI xs i), fun p q r hr => by
  obtain ⟨i, rfl, hr⟩ := onI_eq (p := q) hr
  cases cQ_some (p := p) hr with
  | a h =>
    obtain ⟨c, h1, h2⟩ := bndE h
    cases h2
    exact idx_abs h1
  | l h => exact idx_list h
  | _ h => cases h⟩
theorem clamp_neg (n m : Nat) : clampIx n (.negSucc m) = n - (m + 1) := by
  have h := PySem.clipAt_cast n (.negSucc m)
  rw [if_pos (Int.negSucc_lt_zero m), Int.negSucc_eq] at h
  show PySem.clipAt n (.negSucc m) = _
  rw [Int.negSucc_eq]
  lia
theorem o_from_neg {s : List PV} {m : Nat} : op2 .from_ (.list s) (.int (.negSucc m)) = some (.list (s.drop (s.length - (m + 1)))) := by
  show some (PV.list (s.drop (clampIx s.length (.negSucc m)))) = _
  rw [clamp_neg]
theorem o_to_l {s : List PV} {i : Nat} : op2 .to_ (.list s) (.int i) = some (.list (s.take i)) := by
  show some (PV.list (s.take (clampIx s.length i))) = _
  rw [clamp_nat, take_min]
noncomputable def kfrom : O2 .from_ := ⟨fun p q => onI q fun i => cQ p nO nO (fun s => onN i fun n => some (.abs (dropQ n s))) (fun s => Int.rec (motive := fun zz => Option QV) (fun n => some (.list (dropQ n s))) (fun m => some (.list (dropQ (Nat.sub (lenQ s) (Nat.succ m)) s))) i), fun p q r hr => by
  obtain ⟨i, rfl, hr⟩ := onI_eq (p := q) hr
  cases cQ_some (p := p) hr with
  | a h =>
    obtain ⟨n, rfl, h⟩ := onN_eq h
    cases h
    exact fun zz zz => (o_from (i := n)).trans (by rw [← List.map_drop, ← dropQ_eq]; rfl)
  | l h =>
    cases i with
    | ofNat n => cases h; exact fun e zz => (o_from_l (i := n)).trans (by rw [← ers_drop]; rfl)
    | negSucc m => cases h; exact fun e zz => o_from_neg.trans (by rw [ers_len, ← ers_drop]; rfl)
  | _ h => cases h⟩
noncomputable def kto : O2 .to_ := ⟨fun p q => onQ q fun n => cQ p nO nO (fun s => some (.abs (takeQ n s))) (fun s => some (.list (takeQ n s))), fun p q r hr => by
  obtain ⟨n, rfl, hr⟩ := onQ_eq (p := q) hr
  cases cQ_some (p := p) hr with
  | a h => cases h; exact fun zz zz => (o_to (i := n)).trans (by rw [← List.map_take, ← takeQ_eq]; rfl)
  | l h => cases h; exact fun e zz => (o_to_l (i := n)).trans (by rw [← ers_take]; rfl)
  | _ h => cases h⟩
noncomputable def repQ (s : List Nat) (n : Nat) : List Nat := Nat.rec (motive := fun zz => List Nat) [] (fun zz ih => apQ s ih) n
theorem repQ_eq (e : Nat → Nat) (s : List Nat) : ∀ n : Nat, (List.replicate n (s.map e)).flatten = (repQ s n).map e
  | 0 => rfl
  | n + 1 => by
    show _ = (apQ s (repQ s n)).map e
    rw [List.replicate_succ, List.flatten_cons, repQ_eq e s n, apQ_eq, List.map_append]
noncomputable def kmulS : O2 .mul := ⟨fun p q => onA p fun s => onQ q fun n => cond (and (Nat.ble n 1000) (Nat.ble (lenQ s) 50)) (some (.abs (repQ s n))) none, fun p q r hr => by
  obtain ⟨s, rfl, hr⟩ := onA_eq (p := p) hr
  obtain ⟨n, rfl, hr⟩ := onQ_eq (p := q) hr
  obtain ⟨h, rfl⟩ := cond_some hr
  have ⟨h1, h2⟩ := (Bool.and_eq_true _ _).mp h
  exact fun e zz => (congrArg (Option.map Subtype.val) (dif_pos (show n ≤ 1000 ∧ (s.map e).length ≤ 50 from ⟨Nat.le_of_ble_eq_true h1, by rw [List.length_map, ← lenQ_eq]; exact Nat.le_of_ble_eq_true h2⟩))).trans (congrArg (fun l => some (PV.str l)) (repQ_eq e s n))⟩
theorem memV {p x : PV} {xs : List PV} {b : Bool} (h : pyEq x p = some b) : (memS p (x :: xs)).map (·.1) = cond b (some true) ((memS p xs).map (·.1)) := by
  obtain ⟨y, h1, rfl⟩ := Option.map_eq_some_iff.mp h
  show ((pyEqS x p).bind fun r => if h : r.1 = true then some (⟨true, or_t (r.2.1.trans h)⟩ : {b : Bool // ((toPys (x :: xs)).any fun y => PySem.PyData.eqv y (toPy p)) = b}) else (memS p xs).map fun y => ⟨y.1, or_f (r.2.1.trans (Bool.not_eq_true _ ▸ h)) y.2⟩).map _ = _
  rw [h1, Option.bind_some]
  by_cases hy : y.1 = true
  · rw [dif_pos hy]
    exact (congrArg (fun z => cond z (some true) ((memS p xs).map (·.1))) hy).symm
  · rw [dif_neg hy, Option.map_map]
    exact (congrArg (fun z => cond z (some true) ((memS p xs).map (·.1))) (Bool.eq_false_iff.mpr hy)).symm
noncomputable abbrev MemR (p : QV) (xs : List QV) (b : Bool) : Prop := ∀ e, Em e → (memS (er e p) (ers e xs)).map (·.1) = some b
noncomputable def memN (f : QV → Option Bool) (xs : List QV) : Option Bool := List.rec (motive := fun zz => Option Bool) (some false) (fun x zz ih => bnd (f x) fun b => cond b (some true) ih) xs
theorem memN_ok {p : QV} {f : QV → Option Bool} (hf : ∀ x b, f x = some b → EqR x p b) : ∀ {xs : List QV} {b : Bool}, memN f xs = some b → MemR p xs b
  | [], b, h => by cases h; exact fun zz zz => rfl
  | x :: xs, b, h => by
    obtain ⟨c, h1, h2⟩ := bndE h
    have h3 := hf x c h1
    cases c with
    | true => cases h2; exact fun e E => memV (h3 e E).1
    | false => exact fun e E => (memV (h3 e E).1).trans (memN_ok hf h2 e E)
theorem eq_int {a : Int} (x : QV) (b : Bool) (h : (onI x fun c => some (eqI c a)) = some b) : EqR x (.int a) b := by
  obtain ⟨c, rfl, h⟩ := onI_eq h
  cases h
  exact fun zz zz => ⟨congrArg some (eqI_eq c a), opq rfl rfl⟩
theorem op_findIn {a b : List Nat} : op2 .in_ (.str a) (.str b) = some (.bool (findAt a b 0).isSome) := rfl
theorem op_findNo {a b : List Nat} : op2 .notIn (.str a) (.str b) = some (.bool (!(findAt a b 0).isSome)) := rfl
theorem op_notInL {p : PV} {xs : List PV} {b : Bool} (hp : plainP p = true) (h : (memS p xs).map (·.1) = some b) (he : op2S .notIn p (.list xs) = if h : plainP p = true then (memS p xs).map fun x => ⟨.bool (!x.1), sNotInList h x.2⟩ else none) : op2 .notIn p (.list xs) = some (.bool (!b)) := by
  obtain ⟨y, h1, rfl⟩ := Option.map_eq_some_iff.mp h
  show (op2S .notIn p (.list xs)).map Subtype.val = _
  rw [he, dif_pos hp, h1]; rfl
noncomputable def kin : O2 .in_ := ⟨fun p q => onA p fun a => onA q fun b => bnd (findG a b) fun r => some (.bool r.isSome), fun p q r hr => by
  obtain ⟨a, rfl, hr⟩ := onA_eq (p := p) hr
  obtain ⟨b, rfl, hr⟩ := onA_eq (p := q) hr
  obtain ⟨o, h, hr⟩ := bndE hr
  cases hr
  exact fun e E => op_findIn.trans (by rw [findG_ok E h]; rfl)⟩
noncomputable def knotIn : O2 .notIn := ⟨fun p q => cQ p nO (fun a => onL q fun xs => bnd (memN (fun x => onI x fun c => some (eqI c a)) xs) fun b => some (.bool (not b))) (fun a => onA q fun b => bnd (findG a b) fun r => some (.bool (not r.isSome))) nO, fun p q r hr => by
  cases cQ_some (p := p) hr with
  | i hr =>
    obtain ⟨xs, rfl, hr⟩ := onL_eq (p := q) hr
    obtain ⟨b, h, hr⟩ := bndE hr
    cases hr
    exact fun e E => op_notInL rfl (memN_ok eq_int h e E) rfl
  | a hr =>
    obtain ⟨b, rfl, hr⟩ := onA_eq (p := q) hr
    obtain ⟨o, h, hr⟩ := bndE hr
    cases hr
    exact fun e E => op_findNo.trans (by rw [findG_ok E h]; rfl)
  | _ h => cases h⟩
theorem op_index {s w : List Nat} {k : Nat} (h : findAt w s 0 = some k) : op2 .index (.str s) (.str w) = some (.int k) :=
  congrArg (Option.map Subtype.val) (opt_some h (fun k h => (some ⟨.int k, ⟨s, rfl⟩, sIndex s w h⟩ : Option {r : PV // Snd2 .index (.str s) (.str w) r})))
noncomputable def kindex : O2 .index := ⟨fun p q => onA p fun a => onA q fun b => bnd (findG b a) fun o => bnd o fun k => some (.int (.ofNat k)), fun p q r hr => by
  obtain ⟨a, rfl, hr⟩ := onA_eq (p := p) hr
  obtain ⟨b, rfl, hr⟩ := onA_eq (p := q) hr
  obtain ⟨o, h, hr⟩ := bndE hr
  obtain ⟨k, rfl, hr⟩ := bndE hr
  cases hr
  exact fun e E => op_index (findG_ok E h)⟩
noncomputable def keq : O2 .eq := ⟨fun p q => bnd (eqN p q) fun b => some (.bool b), fun p q r hr => by
  obtain ⟨b, h, hr⟩ := bndE hr
  cases hr
  exact fun e E => have h3 := eqN_ok p q b h e E; h3.2.1.trans (congrArg (Option.map PV.bool) h3.1)⟩
noncomputable def kne : O2 .ne := ⟨fun p q => bnd (eqN p q) fun b => some (.bool (not b)), fun p q r hr => by
  obtain ⟨b, h, hr⟩ := bndE hr
  cases hr
  exact fun e E => have h3 := eqN_ok p q b h e E; h3.2.2.trans (congrArg (Option.map fun b => PV.bool (!b)) h3.1)⟩
noncomputable def klen : O1 .len := ⟨fun p => cQ p nO nO (fun s => some (.int (.ofNat (lenQ s)))) (fun s => some (.int (.ofNat (lenQ s)))), fun p r hr => by
  cases cQ_some hr with
  | a h => cases h; exact fun e zz => congrArg (fun n : Nat => some (PV.int n)) ((List.length_map _).trans (lenQ_eq _).symm)
  | l h => cases h; exact fun e zz => congrArg (fun n : Nat => some (PV.int n)) (ers_len e _)
  | _ h => cases h⟩
noncomputable def kneg : O1 .neg := ⟨fun p => onI p fun i => some (.int (Int.neg i)), fun p r hr => by
  obtain ⟨i, rfl, hr⟩ := onI_eq hr
  cases hr
  exact fun zz zz => rfl⟩
noncomputable def klower : O1 .lower := ⟨fun p => onA p fun s => cond (allQ lowOk s) (some (.abs (mapQ lowQ s))) none, fun p r hr => by
  obtain ⟨s, rfl, hr⟩ := onA_eq hr
  obtain ⟨h, rfl⟩ := cond_some hr
  exact fun zz E => congrArg (fun l => some (PV.str l)) (E.low_map (by rw [← allQ_eq]; exact h))⟩
noncomputable def krev : O1 .rev := ⟨fun p => onA p fun s => some (.abs (revQ s [])), fun p r hr => by
  obtain ⟨s, rfl, hr⟩ := onA_eq hr
  cases hr
  exact fun e zz => congrArg (fun l => some (PV.str l)) (by rw [revQ_eq, List.append_nil, List.map_reverse])⟩
theorem o_sl {s : List Nat} {a b : Nat} : op3 (.str s) (.int a) (.int b) = some (.str ((s.drop a).take (b - a))) := by
  show some (PV.str (pySlice s a b)) = _
  unfold pySlice
  rw [clamp_nat, clamp_nat, drop_min]
  by_cases h : a ≤ s.length
  · rw [Nat.min_eq_left h]
    by_cases h2 : b ≤ s.length
    · rw [Nat.min_eq_left h2]
    · rw [Nat.min_eq_right (Nat.le_of_not_le h2), List.take_of_length_le (by rw [List.length_drop]; exact Nat.le_refl _), List.take_of_length_le (by rw [List.length_drop]; exact Nat.sub_le_sub_right (Nat.le_of_not_le h2) a)]
  · rw [List.drop_of_length_le (Nat.le_of_not_le h), List.take_nil, List.take_nil]
noncomputable def op3N (p q t : QV) : Option QV := onA p fun s => onQ q fun a => onQ t fun b => some (.abs (takeQ (Nat.sub b a) (dropQ a s)))
theorem op3N_ok {p q t r : QV} (h : op3N p q t = some r) (e : Nat → Nat) : op3 (er e p) (er e q) (er e t) = some (er e r) := by
  obtain ⟨s, rfl, h⟩ := onA_eq (p := p) h
  obtain ⟨a, rfl, h⟩ := onQ_eq (p := q) h
  obtain ⟨b, rfl, h⟩ := onQ_eq (p := t) h
  cases h
  exact o_sl.trans (by rw [takeQ_eq, dropQ_eq, ← List.map_drop, ← List.map_take]; rfl)
theorem nz (i : Nat) : ((Int.ofNat i) == 0) = Nat.beq i 0 := by cases i <;> rfl
noncomputable def truN (p : QV) : Option Bool := cQ p (fun b => some b) (fun i => onN i fun n => some (not (Nat.beq n 0))) nO nO
theorem truN_ok {p : QV} {b : Bool} (h : truN p = some b) (e : Nat → Nat) : truth (er e p) = some b := by
  cases cQ_some h with
  | b h => cases h; rfl
  | i h =>
    obtain ⟨n, rfl, h⟩ := onN_eq h
    cases h
    exact congrArg (fun b => some (!b)) (nz n)
  | _ h => cases h
noncomputable abbrev Tx := Bool × List Nat
noncomputable def tx (e : Nat → Nat) (t : Tx) : List Nat := cond t.1 (t.2.map e) t.2
noncomputable def erh (e : Nat → Nat) (h : Tx × Tx) : List Nat × List Nat := (tx e h.1, tx e h.2)
set_option genCtorIdx false
inductive QSV where
  | un
  | val (q : QV)
  | own (xs : List QV)
  | hdr (c : Nat) (hs : List (Tx × Tx))
  | dct (es : List (Tx × QV))
set_option genCtorIdx true
noncomputable def erd (e : Nat → Nat) (x : Tx × QV) : List Nat × PV := (tx e x.1, er e x.2)
noncomputable def erS (e : Nat → Nat) : QSV → SV
  | .un => .un
  | .val q => .val (er e q)
  | .own xs => .own (ers e xs)
  | .hdr c hs => .hdr c (hs.map (erh e))
  | .dct es => .dct (es.map (erd e))
structure F6 (α : Type) where
  a : α
  b : α
  c : α
  d : α
  e : α
  f : α
noncomputable def Fr : Nat → Type
  | 0 => QSV
  | n + 1 => F6 (Fr n)
noncomputable def erR (e : Nat → Nat) : {Z : Nat} → Fr Z → Rho
  | 0, v => [erS e v]
  | _ + 1, t => erR e (F6.a t) ++ (erR e (F6.b t) ++ (erR e (F6.c t) ++ (erR e (F6.d t) ++ (erR e (F6.e t) ++ erR e (F6.f t)))))
theorem erR_len (e : Nat → Nat) : ∀ {Z : Nat} (t : Fr Z), (erR e t).length = 6 ^ Z
  | 0, _ => rfl
  | n + 1, t => by
    show (erR e (F6.a t) ++ (erR e (F6.b t) ++ (erR e (F6.c t) ++ (erR e (F6.d t) ++ (erR e (F6.e t) ++ erR e (F6.f t)))))).length = _
    simp only [List.length_append, erR_len e, Nat.pow_succ]
    lia
noncomputable abbrev Sl (Z i : Nat) : Type := (g : Fr Z → QSV) ×' (p : Fr Z → QSV → Fr Z) ×' ((Nat.blt i (6 ^ Z) = true) ∧ (∀ e t, get (erR e t) i = erS e (g t)) ∧ (∀ e t v, set (erR e t) i (erS e v) = erR e (p t v)))
section
variable {a_ b_} (x_ : Sl a_ b_)
noncomputable abbrev Sl.g := x_.1
noncomputable abbrev Sl.p := x_.2.1
include x_ in
theorem Sl.hi : Nat.blt b_ (6 ^ a_) = true := x_.2.2.1
theorem Sl.hg : ∀ e t, get (erR e t) b_ = erS e (x_.g t) := x_.2.2.2.1
theorem Sl.hp : ∀ e t v, set (erR e t) b_ (erS e v) = erR e (x_.p t v) := x_.2.2.2.2
end
theorem Sl.lt {Z i : Nat} (s : Sl Z i) (e : Nat → Nat) (t : Fr Z) : i < (erR e t).length := by
  rw [erR_len]
  exact Nat.le_of_ble_eq_true s.hi
noncomputable abbrev Rn {α β : Type} (g : (Nat → Nat) → α → β) (Z : Nat) (ev : Rho → Option β) : Type := (n : Fr Z → Option α) ×' ((∀ e, Em e → ∀ ρ : Fr Z, ∀ r, n ρ = some r → ev (erR e ρ) = some (g e r)))
section
variable {a_ b_ c_ d_ e_} (x_ : @Rn a_ b_ c_ d_ e_)
noncomputable abbrev Rn.n := x_.1
theorem Rn.ok : ∀ e, Em e → ∀ ρ : Fr d_, ∀ r, x_.n ρ = some r → e_ (erR e ρ) = some (c_ e r) := x_.2
end
noncomputable abbrev RX (F : FT) (Z : Nat) (x : X) := Rn er Z (evE F x)
noncomputable abbrev RO (F : FT) (Z : Nat) (x : Opd) := Rn er Z (evO F x)
noncomputable abbrev RXs (F : FT) (Z : Nat) (x : Xs) := Rn ers Z (evXs F x)
noncomputable abbrev RT (F : FT) (Z : Nat) (x : T) := Rn (fun zz b => b) Z (evT F x)
noncomputable abbrev RTs (F : FT) (Z : Nat) (o : Bool) (x : Ts) := Rn (fun zz b => b) Z (evTs F o x)
noncomputable abbrev RB (F : FT) (Z : Nat) (o : Bool) (x : Xs) := Rn er Z (evB F o x)
noncomputable abbrev RC (F : FT) (Z : Nat) (x : C) := Rn ers Z (evC F x)
noncomputable abbrev RSrc (F : FT) (Z : Nat) (x : Src) := Rn ers Z (evSrc F x)
section
variable {α β γ α' β' γ' : Type} {g : (Nat → Nat) → α → α'} {g2 : (Nat → Nat) → β → β'} {g3 : (Nat → Nat) → γ → γ'} {F : FT} {Z : Nat}
theorem bindE2 {o : Option α'} {f : α' → Option γ'} {p : α'} {r : Option γ'} (h : o = some p) (h2 : f p = r) : o.bind f = r := by rw [h]; exact h2
noncomputable def rn1 {ev : Rho → Option α'} (A : Rn g Z ev) (f : α → Option β) (f' : α' → Option β') (h : ∀ e, Em e → ∀ p r, f p = some r → f' (g e p) = some (g2 e r)) : Rn g2 Z (fun ρ => (ev ρ).bind f') :=
  ⟨fun ρ => bnd (A.n ρ) f, fun e E ρ zz hr => let ⟨p, h1, h2⟩ := bndE hr; bindE2 (A.ok e E ρ p h1) (h e E p _ h2)⟩
noncomputable def rn2 {ev : Rho → Option α'} {ev2 : Rho → Option β'} (A : Rn g Z ev) (B : Rn g2 Z ev2) (f : α → β → Option γ) (f' : α' → β' → Option γ') (h : ∀ e, Em e → ∀ p q r, f p q = some r → f' (g e p) (g2 e q) = some (g3 e r)) : Rn g3 Z (fun ρ => (ev ρ).bind fun p => (ev2 ρ).bind fun q => f' p q) :=
  ⟨fun ρ => bnd (A.n ρ) fun p => bnd (B.n ρ) (f p), fun e E ρ zz hr => let ⟨p, h1, h2⟩ := bndE hr; let ⟨q, h3, h4⟩ := bndE h2; bindE2 (A.ok e E ρ p h1) (bindE2 (B.ok e E ρ q h3) (h e E p q _ h4))⟩
noncomputable def valQ (v : QSV) : Option QV := QSV.rec (motive := fun zz => Option QV) none (fun q => some q) (fun zz => none) (fun zz zz => none) (fun zz => none) v
noncomputable def readQ (v : QSV) : Option QV := QSV.rec (motive := fun zz => Option QV) none (fun q => some q) (fun xs => some (.list xs)) (fun zz zz => none) (fun zz => none) v
noncomputable def rK (q : QV) {p : PV} (h : ∀ e, Em e → er e q = p) : RX F Z (.k p) := ⟨fun zz => some q, fun e E zz zz hr => by cases hr; exact congrArg some (h e E).symm⟩
noncomputable def rI (i : Int) : RX F Z (.k (.int i)) := rK (.int i) fun zz zz => rfl
noncomputable def rBo (b : Bool) : RX F Z (.k (.bool b)) := rK (.bool b) fun zz zz => rfl
theorem map_lo {e : Nat → Nat} (E : Em e) : ∀ {s : List Nat}, s.all (fun c => Nat.ble c 64) = true → s.map e = s
  | [], _ => rfl
  | c :: s, h => by
    obtain ⟨h1, h2⟩ := (Bool.and_eq_true _ _).mp (List.all_cons ▸ h)
    rw [List.map_cons, E.lo c (Nat.le_of_ble_eq_true h1), map_lo E h2]
noncomputable def rA (s : List Nat) (h : s.all (fun c => Nat.ble c 64) = true) : RX F Z (.k (.str s)) := rK (.abs s) fun zz E => congrArg PV.str (map_lo E h)
theorem valQ_ok {e : Nat → Nat} {v : QSV} {r : QV} (h : valQ v = some r) : erS e v = .val (er e r) := by cases v <;> cases h; rfl
theorem readQ_ok {e : Nat → Nat} {v : QSV} {r : QV} (h : readQ v = some r) : readOf (erS e v) = some (er e r) := by cases v <;> first | (cases h; done) | (cases h; rfl)
noncomputable def rVar {i : Nat} (s : Sl Z i) : RX F Z (.var i) := ⟨fun ρ => valQ (s.g ρ), fun e zz ρ r hr => by
  show valOf (get (erR e ρ) i) = _
  rw [s.hg, valQ_ok hr]; rfl⟩
noncomputable def rV {i : Nat} (s : Sl Z i) : RO F Z (.v i) := ⟨fun ρ => readQ (s.g ρ), fun e zz ρ r hr => by
  show readOf (get (erR e ρ) i) = _
  rw [s.hg]
  exact readQ_ok hr⟩
noncomputable def rE {x : X} (A : RX F Z x) : RO F Z (.e x) := ⟨A.n, A.ok⟩
noncomputable def rOp1 {o : Op1} (K : O1 o) {a : Opd} (A : RO F Z a) : RX F Z (.op1 o a) := rn1 A K.n (op1 o) fun e E zz zz h => K.ok _ _ h e E
noncomputable def rOp2 {o : Op2} (K : O2 o) {a b : Opd} (A : RO F Z a) (B : RO F Z b) : RX F Z (.op2 o a b) := rn2 A B K.n (op2 o) fun e E zz zz zz h => K.ok _ _ _ h e E
noncomputable def rOp3 {a b c : Opd} (A : RO F Z a) (B : RO F Z b) (C : RO F Z c) : RX F Z (.op3 a b c) := ⟨fun ρ => bnd (A.n ρ) fun p => bnd (B.n ρ) fun q => bnd (C.n ρ) (op3N p q), fun e E ρ r hr =>
  let ⟨p, h1, h2⟩ := bndE hr
  let ⟨q, h3, h4⟩ := bndE h2
  let ⟨t, h5, h6⟩ := bndE h4
  bindE2 (A.ok e E ρ p h1) (bindE2 (B.ok e E ρ q h3) (bindE2 (C.ok e E ρ t h5) (op3N_ok h6 e)))⟩
noncomputable def rIte {t : T} {a b : X} (A : RT F Z t) (B : RX F Z a) (C : RX F Z b) : RX F Z (.ite t a b) := ⟨fun ρ => bnd (A.n ρ) fun c => cond c (B.n ρ) (C.n ρ), fun e E ρ r hr =>
  let ⟨c, h1, h2⟩ := bndE hr
  bindE2 (A.ok e E ρ c h1) (by
    cases c with
    | true => exact B.ok e E ρ r h2
    | false => exact C.ok e E ρ r h2)⟩
noncomputable def rXn : RXs F Z .nil := ⟨fun zz => some [], fun zz zz zz zz h => by cases h; rfl⟩
noncomputable def rXc {x : X} {xs : Xs} (A : RX F Z x) (B : RXs F Z xs) : RXs F Z (.cons x xs) := rn2 A B (fun p ps => some (p :: ps)) (fun p ps => some (p :: ps)) fun zz zz zz zz zz h => by cases h; rfl
noncomputable def allB (f : QV → Bool) (l : List QV) : Bool := List.rec (motive := fun zz => Bool) true (fun x zz ih => and (f x) ih) l
noncomputable def atomQ (q : QV) : Bool := QV.rec (motive_1 := fun zz => Bool) (motive_2 := fun zz => Unit) true (fun zz => true) (fun zz => true) (fun zz => true) (fun zz => true) (fun zz => false) (fun zz zz => false) (fun zz zz => false) () (fun zz zz zz zz => ()) q
noncomputable def okU (q : QV) : Bool := QV.rec (motive_1 := fun zz => Bool) (motive_2 := fun zz => Unit) true (fun zz => true) (fun zz => true) (fun zz => true) (fun zz => true) (fun zz => false) (fun xs zz => allB atomQ xs) (fun xs zz => allB atomQ xs) () (fun zz zz zz zz => ()) q
theorem allB_ok {e : Nat → Nat} {f : QV → Bool} {n : Nat} (hf : ∀ q, f q = true → okPy (er e q) n = true) : ∀ l : List QV, allB f l = true → okPys (ers e l) n = true
  | [], _ => rfl
  | x :: xs, h => let ⟨h1, h2⟩ := (Bool.and_eq_true _ _).mp h; (Bool.and_eq_true _ _).mpr ⟨hf x h1, allB_ok hf xs h2⟩
theorem atomQ_ok (e : Nat → Nat) (n : Nat) (q : QV) (h : atomQ q = true) : okPy (er e q) n = true := by
  cases q <;> first | (cases h; done) | (cases n <;> rfl)
theorem okU_ok (e : Nat → Nat) (q : QV) (h : okU q = true) : okPy (er e q) 8 = true := by
  cases q with
  | list xs => exact allB_ok (atomQ_ok e 7) xs h
  | tup xs => exact allB_ok (atomQ_ok e 7) xs h
  | bytes => cases h
  | _ => rfl
noncomputable def okLQ (l : List QV) : Bool := and (allB okU l) (Nat.ble (lenQ l) 1000)
theorem okLQ_er (e : Nat → Nat) {l : List QV} (h : okLQ l = true) : (okPys (ers e l) 8 && decide ((ers e l).length ≤ LEN)) = true :=
  let ⟨h1, h2⟩ := (Bool.and_eq_true _ _).mp h
  (Bool.and_eq_true _ _).mpr ⟨allB_ok (okU_ok e) l h1, decide_eq_true (by rw [ers_len]; exact Nat.le_trans (Nat.le_of_ble_eq_true h2) (by decide))⟩
noncomputable def mkQ (f : List QV → QV) (l : List QV) : Option QV := cond (okLQ l) (some (f l)) none
theorem mkQ_ok {f : List QV → QV} {l : List QV} {r : QV} (h : mkQ f l = some r) : okLQ l = true ∧ f l = r := by
  unfold mkQ at h
  cases hb : okLQ l with
  | false => rw [hb] at h; cases h
  | true => rw [hb] at h; cases h; exact ⟨rfl, rfl⟩
theorem mkQ_list {e : Nat → Nat} {l : List QV} {r : QV} (h : mkQ .list l = some r) : mkList (ers e l) = some (er e r) := let ⟨h1, h2⟩ := mkQ_ok h; (if_pos (okLQ_er e h1)).trans (h2 ▸ rfl)
noncomputable def rLst {xs : Xs} (A : RXs F Z xs) : RX F Z (.lst xs) := rn1 A (mkQ .list) mkList fun zz zz zz zz h => mkQ_list h
noncomputable abbrev FnQ (F : FT) (f : PySem.Str) : Type := (n : List QV → Option QV) ×' ((∀ e, Em e → ∀ ps r, n ps = some r → F f (ers e ps) = some (er e r)))
section
variable {a_ b_} (x_ : FnQ a_ b_)
noncomputable abbrev FnQ.n := x_.1
theorem FnQ.ok : ∀ e, Em e → ∀ ps r, x_.n ps = some r → a_ b_ (ers e ps) = some (er e r) := x_.2
end
noncomputable def rCall {f : PySem.Str} (K : FnQ F f) {xs : Xs} (A : RXs F Z xs) : RX F Z (.call f xs) := rn1 A K.n (F f) K.ok
noncomputable def rB1 {o : Bool} {x : X} (A : RX F Z x) : RB F Z o (.cons x .nil) := rn1 A (fun p => bnd (boolQ p) fun b => some (QV.bool b)) (fun p => boolStep o p true none) fun e E p r h => by
  obtain ⟨b, h1, h2⟩ := bndE h
  cases h2
  rw [boolQ_eq h1]; rfl
theorem step_ok {o b : Bool} {r : Option PV} {x : PV} (h : b = o → x = .bool b) (h2 : b ≠ o → r = some x) : boolStep o (.bool b) false r = some x := by
  show (if (false || b == o) = true then some (PV.bool b) else r) = _
  rw [Bool.false_or]
  by_cases hb : b = o
  · rw [if_pos (beq_iff_eq.mpr hb), h hb]
  · rw [if_neg fun q => hb (beq_iff_eq.mp q), h2 hb]
noncomputable def rBc {o : Bool} {x y : X} {xs : Xs} (A : RX F Z x) (B : RB F Z o (.cons y xs)) : RB F Z o (.cons x (.cons y xs)) := ⟨fun ρ => bnd (A.n ρ) fun p => bnd (boolQ p) fun b => cond (beqB b o) (some (.bool b)) (B.n ρ), fun e E ρ r hr => by
  obtain ⟨p, h1, h2⟩ := bndE hr
  obtain ⟨b, h3, h4⟩ := bndE h2
  refine bindE2 (A.ok e E ρ p h1) ?_
  rw [boolQ_eq h3]
  refine step_ok (fun hb => ?_) fun hb => ?_
  · rw [beqB_eq, beq_iff_eq.mpr hb] at h4; cases h4; rfl
  · rw [beqB_eq, beq_eq_false_iff_ne.mpr hb] at h4; exact B.ok e E ρ r h4⟩
noncomputable def rBool {o : Bool} {xs : Xs} (A : RB F Z o xs) : RX F Z (.bool_ o xs) := ⟨A.n, A.ok⟩
noncomputable def rTx {a : Opd} (A : RO F Z a) : RT F Z (.x a) := rn1 A truN truth fun e zz zz zz h => truN_ok h e
noncomputable def rTn {t : T} (A : RT F Z t) : RT F Z (.not_ t) := rn1 A (fun b => some (not b)) (fun b => some (!b)) fun zz zz zz zz h => by cases h; rfl
noncomputable def rTsn {o : Bool} : RTs F Z o .nil := ⟨fun zz => some (not o), fun zz zz zz zz h => by cases h; rfl⟩
noncomputable def rTsc {o : Bool} {t : T} {ts : Ts} (A : RT F Z t) (B : RTs F Z o ts) : RTs F Z o (.cons t ts) := ⟨fun ρ => bnd (A.n ρ) fun b => cond (beqB b o) (some o) (B.n ρ), fun e E ρ r hr => by
  obtain ⟨b, h1, h2⟩ := bndE hr
  refine bindE2 (A.ok e E ρ b h1) ?_
  show (if (b == o) = true then some o else evTs F o ts (erR e ρ)) = _
  rw [beqB_eq] at h2
  cases hb : b == o with
  | true => rw [hb] at h2; cases h2; rfl
  | false => rw [hb] at h2; exact B.ok e E ρ r h2⟩
noncomputable def rTb {o : Bool} {ts : Ts} (A : RTs F Z o ts) : RT F Z (.bool_ o ts) := ⟨A.n, A.ok⟩
end
noncomputable def itemsQ : QV → Option (List QV)
  | .list xs => some xs
  | .tup xs => some xs
  | .abs s => some (mapQ (fun c => .abs [c]) s)
  | _ => none
theorem ers_chars (e : Nat → Nat) : ∀ s : List Nat, ers e (mapQ (fun c => .abs [c]) s) = (s.map e).map fun c => .str [c]
  | [] => rfl
  | c :: s => congrArg (PV.str [e c] :: ·) (ers_chars e s)
theorem itemsQ_ok {e : Nat → Nat} {p : QV} {r : List QV} (h : itemsQ p = some r) : itemsOf (er e p) = some (ers e r) := by
  cases p <;> cases h <;> first | rfl | exact congrArg some (ers_chars e _).symm
theorem ers_ints (e : Nat → Nat) : ∀ l : List Int, ers e (mapQ .int l) = l.map .int
  | [] => rfl
  | c :: s => congrArg (PV.int c :: ·) (ers_ints e s)
noncomputable def upQ (a n : Nat) : List Int := Nat.rec (motive := fun zz => Nat → List Int) (fun zz => []) (fun zz ih a => .ofNat a :: ih (Nat.succ a)) n a
theorem upQ_eq : ∀ (n a : Nat), upQ a n = rangeL (a : Int) n
  | 0, _ => rfl
  | n + 1, a => congrArg ((a : Int) :: ·) (upQ_eq n (a + 1))
theorem rng_up {n : Nat} (h : n < 1000) : rngSrc (.int (.ofNat n)) = some ((rangeL ((0 : Nat) : Int) n).map .int) := by
  show (if (n : Int) < 100000 ∧ -100000 < (n : Int) then some ((rangeL 0 (n : Int).toNat).map PV.int) else none) = _
  rw [if_pos (show ((n : Int) < 100000 ∧ -100000 < (n : Int)) by lia)]; rfl
noncomputable def rngQ (p : QV) : Option (List QV) := bnd (natQ p) fun n => cond (Nat.blt n 1000) (some (mapQ .int (upQ 0 n))) none
theorem rngQ_ok {e : Nat → Nat} {p : QV} {r : List QV} (h : rngQ p = some r) : rngSrc (er e p) = some (ers e r) := by
  obtain ⟨n, h1, h⟩ := bndE h
  obtain ⟨h2, rfl⟩ := cond_some h
  rw [natQ_eq h1, ers_ints, upQ_eq]
  exact rng_up (Nat.le_of_ble_eq_true h2)
noncomputable def txsQ (xs : List QV) : Option {l : List (List Nat) // ∀ e, ers e xs = (l.map (List.map e)).map .str} := List.rec (motive := fun xs => Option {l : List (List Nat) // ∀ e, ers e xs = (l.map (List.map e)).map .str}) (some ⟨[], fun zz => rfl⟩) (fun x xs ih => match x with
  | .abs s => ih.map fun l => ⟨s :: l.1, fun e => congrArg (PV.str (s.map e) :: ·) (l.2 e)⟩
  | _ => none) xs
noncomputable def interQ (s : List Nat) (l : List (List Nat)) : List Nat := List.rec (motive := fun zz => List Nat) [] (fun x t ih => List.rec (motive := fun zz => List Nat) x (fun zz zz zz => apQ x (apQ s ih)) t) l
theorem inter_two (s x y : List Nat) (t : List (List Nat)) : List.intercalate s (x :: y :: t) = x ++ (s ++ List.intercalate s (y :: t)) := by simp [List.intercalate]
theorem interQ_eq (e : Nat → Nat) (s : List Nat) : ∀ l : List (List Nat), List.intercalate (s.map e) (l.map (List.map e)) = (interQ s l).map e
  | [] => rfl
  | [x] => List.append_nil (x.map e)
  | x :: y :: t => by
    have ih := interQ_eq e s (y :: t)
    show List.intercalate (s.map e) (x.map e :: y.map e :: t.map (List.map e)) = (apQ x (apQ s (interQ s (y :: t)))).map e
    rw [inter_two, show List.intercalate (s.map e) (y.map e :: t.map (List.map e)) = (interQ s (y :: t)).map e from ih, apQ_eq, apQ_eq, List.map_append, List.map_append]
theorem o_join {s : List Nat} {l : List (List Nat)} (h : s.length ≤ 100 ∧ (List.intercalate s l).length ≤ lenLine) : op2 .join (.str s) (.list (l.map .str)) = some (.str (List.intercalate s l)) := by
  show ((strsS (l.map .str)).bind fun l' => if h : s.length ≤ 100 ∧ (List.intercalate s l'.1).length ≤ lenLine then some (⟨.str (List.intercalate s l'.1), ⟨s, rfl⟩, sJoinL s l'.2 h.1 h.2⟩ : {r : PV // Snd2 .join (.str s) (.list (l.map .str)) r}) else none).map Subtype.val = _
  rw [strsS_map, Option.bind_some, dif_pos h]; rfl
theorem o_joinS {s t : List Nat} (h : s.length ≤ 100 ∧ t.length ≤ 100) : op2 .join (.str s) (.str t) = some (.str (List.intercalate s (t.map fun c => [c]))) := congrArg (Option.map Subtype.val) (dif_pos h)
noncomputable def kjoin : O2 .join := ⟨fun p q => onA p fun s => cond (Nat.ble (lenQ s) 100) (cQ q nO nO (fun t => cond (Nat.ble (lenQ t) 100) (some (.abs (interQ s (mapQ (fun c => [c]) t)))) none) (fun xs => bnd (txsQ xs) fun l => cond (Nat.ble (lenQ (interQ s l.1)) 1000) (some (.abs (interQ s l.1))) none)) none, fun p q r hr => by
  obtain ⟨s, rfl, h0⟩ := onA_eq (p := p) hr
  clear hr
  cases hs : Nat.ble (lenQ s) 100 with
  | false => rw [hs] at h0; cases h0
  | true =>
    rw [hs] at h0
    have h1 := Nat.le_of_ble_eq_true hs
    cases cQ_some (p := q) h0 with
    | a hr =>
      obtain ⟨h2, rfl⟩ := cond_some hr
      refine fun e zz => (o_joinS ⟨by rw [List.length_map, ← lenQ_eq]; exact h1, by rw [List.length_map, ← lenQ_eq]; exact Nat.le_of_ble_eq_true h2⟩).trans (congrArg (fun l => some (PV.str l)) ?_)
      rw [← interQ_eq, mapQ_eq, List.map_map, List.map_map]; rfl
    | l hr =>
      obtain ⟨l, h3, hr⟩ := bndE hr
      obtain ⟨h4, rfl⟩ := cond_some hr
      refine fun e zz => ?_
      show op2 .join (.str (s.map e)) (.list (ers e _)) = _
      rw [l.2 e]
      refine (o_join ⟨by rw [List.length_map, ← lenQ_eq]; exact h1, ?_⟩).trans (congrArg (fun l => some (PV.str l)) (interQ_eq e s l.1))
      rw [interQ_eq, List.length_map, ← lenQ_eq]
      exact Nat.le_trans (Nat.le_of_ble_eq_true h4) (by decide)
    | _ h => cases h⟩
section
variable {F : FT} {Z : Nat}
noncomputable def rOne {a : Opd} (A : RO F Z a) : RSrc F Z (.one a) := rn1 A itemsQ itemsOf fun zz zz zz zz h => itemsQ_ok h
noncomputable def rRng {a : Opd} (A : RO F Z a) : RSrc F Z (.rng a) := rn1 A rngQ rngSrc fun zz zz zz zz h => rngQ_ok h
noncomputable abbrev RTg (Z : Nat) (t : Tgt) : Type := (n : QV → Fr Z → Option (Fr Z)) ×' ((∀ e p ρ ρ', n p ρ = some ρ' → setT t (er e p) (erR e ρ) = some (erR e ρ')))
section
variable {a_ b_} (x_ : RTg a_ b_)
noncomputable abbrev RTg.n := x_.1
theorem RTg.ok : ∀ e p ρ ρ', x_.n p ρ = some ρ' → setT b_ (er e p) (erR e ρ) = some (erR e ρ') := x_.2
end
noncomputable def tOne {i : Nat} (s : Sl Z i) : RTg Z (.one i) := ⟨fun p ρ => some (s.p ρ (.val p)), fun e p ρ ρ' h => by
  cases h
  exact (if_pos (s.lt e ρ)).trans (congrArg some (s.hp e ρ (.val p)))⟩
noncomputable def itsQ (f : QV → Option (List QV)) (l : List QV) : Option (List QV) := List.rec (motive := fun zz => Option (List QV)) (some []) (fun p zz ih => bnd (f p) fun a => bnd ih fun b => some (apQ a b)) l
theorem itsQ_ok {e : Nat → Nat} {f : QV → Option (List QV)} {f' : PV → Option (List PV)} (hf : ∀ p r, f p = some r → f' (er e p) = some (ers e r)) : ∀ (l : List QV) (r : List QV), itsQ f l = some r → evItems f' (ers e l) = some (ers e r)
  | [], r, h => by cases h; rfl
  | p :: ps, r, h => by
    obtain ⟨a, h1, h2⟩ := bndE h
    obtain ⟨b, h3, h4⟩ := bndE h2
    cases h4
    refine bindE2 (hf p a h1) ?_
    rw [itsQ_ok hf ps b h3, ers_app]; rfl
noncomputable def rEmit {x : X} (A : RX F Z x) : RC F Z (.emit x) := rn1 A (fun p => some [p]) (fun p => some [p]) fun zz zz zz zz h => by cases h; rfl
noncomputable def rFC {t : Tgt} {src : Src} {ifs : Ts} {k : C} (G : RTg Z t) (A : RSrc F Z src) (B : RTs F Z false ifs) (K : RC F Z k) : RC F Z (.for_ t src ifs k) :=
  ⟨fun ρ => bnd (A.n ρ) fun items => itsQ (fun p => bnd (G.n p ρ) fun ρ' => bnd (B.n ρ') fun b => cond b (K.n ρ') (some [])) items, fun e E ρ r hr => by
    obtain ⟨items, h1, h2⟩ := bndE hr
    refine bindE2 (A.ok e E ρ items h1) (itsQ_ok (fun p r h => ?_) items r h2)
    obtain ⟨ρ', h3, h4⟩ := bndE h
    obtain ⟨b, h5, h6⟩ := bndE h4
    refine bindE2 (G.ok e p ρ ρ' h3) (bindE2 (B.ok e E ρ' b h5) ?_)
    cases b with
    | true => exact K.ok e E ρ' r h6
    | false => cases h6; rfl⟩
noncomputable abbrev RUn (Z : Nat) (vs : List (Nat × PySem.Str)) : Type := (n : Fr Z → Fr Z) ×' ((∀ e ρ, unsetV vs (erR e ρ) = erR e (n ρ)))
section
variable {a_ b_} (x_ : RUn a_ b_)
noncomputable abbrev RUn.n := x_.1
theorem RUn.ok : ∀ e ρ, unsetV b_ (erR e ρ) = erR e (x_.n ρ) := x_.2
end
noncomputable def uNl : RUn Z [] := ⟨fun ρ => ρ, fun zz zz => rfl⟩
noncomputable def uCn {i : Nat} {x : PySem.Str} {vs : List (Nat × PySem.Str)} (s : Sl Z i) (U : RUn Z vs) : RUn Z ((i, x) :: vs) := ⟨fun ρ => U.n (s.p ρ .un), fun e ρ => by
  rw [← U.ok, ← s.hp]; rfl⟩
noncomputable def rComp {vs : List (Nat × PySem.Str)} {c : C} (U : RUn Z vs) (A : RC F Z c) : RX F Z (.comp vs c) := ⟨fun ρ => bnd (A.n (U.n ρ)) (mkQ .list), fun e E ρ r hr => by
  obtain ⟨l, h1, h2⟩ := bndE hr
  show (evC F c (unsetV vs (erR e ρ))).bind _ = _
  rw [U.ok]
  exact bindE2 (A.ok e E _ l h1) (mkQ_list h2)⟩
end
inductive QOut (Z : Nat) where
  | next (ρ : Fr Z)
  | ret (q : QV)
noncomputable def erO (e : Nat → Nat) {Z : Nat} : QOut Z → Out
  | .next ρ => .next (erR e ρ)
  | .ret q => .ret (er e q)
noncomputable abbrev Rs (Z : Nat) (ev : Rho → Option Out) : Type := (n : Fr Z → Option (QOut Z)) ×' ((∀ e, Em e → ∀ ρ : Fr Z, ∀ r, n ρ = some r → ev (erR e ρ) = some (erO e r)))
section
variable {a_ b_} (x_ : Rs a_ b_)
noncomputable abbrev Rs.n := x_.1
theorem Rs.ok : ∀ e, Em e → ∀ ρ : Fr a_, ∀ r, x_.n ρ = some r → b_ (erR e ρ) = some (erO e r) := x_.2
end
noncomputable abbrev RS (F : FT) (SP : SPT) (Z : Nat) (s : S) := Rs Z (evS F SP s)
noncomputable abbrev RSs (F : FT) (SP : SPT) (Z : Nat) (s : Ss) := Rs Z (evSs F SP s)
noncomputable abbrev RV' (F : FT) (c : Nat) (Z : Nat) (u : UX) := Rn erS Z (evV F c u)
section
variable {F : FT} {SP : SPT} {Z : Nat} {c : Nat}
theorem Sl.setN {i : Nat} (s : Sl Z i) (e : Nat → Nat) (ρ : Fr Z) (v : QSV) : Mine.setN i (erS e v) (erR e ρ) = some (erO e (.next (s.p ρ v))) := (if_pos (s.lt e ρ)).trans (congrArg (fun r => some (Out.next r)) (s.hp e ρ v))
theorem Sl.setI {i : Nat} (s : Sl Z i) (e : Nat → Nat) (ρ : Fr Z) (v : QSV) : Mine.setI i (erS e v) (erR e ρ) = some (erR e (s.p ρ v)) := (if_pos (s.lt e ρ)).trans (congrArg some (s.hp e ρ v))
noncomputable def rVal {x : X} (A : RX F Z x) : RV' F c Z (.val x) := rn1 A (fun q => some (QSV.val q)) (fun p => some (SV.val p)) fun zz zz zz zz h => by cases h; rfl
noncomputable def rOwn {x : X} (A : RX F Z x) : RV' F c Z (.own x) := rn1 A (fun p => bnd (listQ p) fun l => some (QSV.own l)) ownL fun e zz p r h => by
  obtain ⟨l, h1, h2⟩ := bndE h
  cases h2
  rw [listQ_eq h1]; rfl
noncomputable def rHdr : RV' F c Z .hdr := ⟨fun zz => some (.hdr c []), fun zz zz zz zz h => by cases h; rfl⟩
noncomputable def rAsg {i : Nat} (s : Sl Z i) {u : UX} (A : RV' F SP.c Z u) : RS F SP Z (.assign i u) := ⟨fun ρ => bnd (A.n ρ) fun v => some (.next (s.p ρ v)), fun e E ρ r hr => by
  obtain ⟨v, h1, h2⟩ := bndE hr
  cases h2
  exact bindE2 (A.ok e E ρ v h1) (s.setN e ρ v)⟩
noncomputable abbrev RU (F : FT) (c : Nat) (Z : Nat) (us : List (Nat × UX)) : Type := (n : Fr Z → Option (Fr Z → Fr Z)) ×' ((∀ e, Em e → ∀ ρ f, n ρ = some f → ∃ l, evU F c us (erR e ρ) = some l ∧ ∀ ρ', setAll l (erR e ρ') = some (.next (erR e (f ρ')))))
section
variable {a_ b_ c_ d_} (x_ : RU a_ b_ c_ d_)
noncomputable abbrev RU.n := x_.1
theorem RU.ok : ∀ e, Em e → ∀ ρ f, x_.n ρ = some f → ∃ l, evU a_ b_ d_ (erR e ρ) = some l ∧ ∀ ρ', setAll l (erR e ρ') = some (.next (erR e (f ρ'))) := x_.2
end
noncomputable def rUn : RU F c Z [] := ⟨fun zz => some fun ρ => ρ, fun zz zz zz zz h => by cases h; exact ⟨[], rfl, fun zz => rfl⟩⟩
noncomputable def rUc {i : Nat} (s : Sl Z i) {u : UX} {us : List (Nat × UX)} (A : RV' F c Z u) (B : RU F c Z us) : RU F c Z ((i, u) :: us) := ⟨fun ρ => bnd (A.n ρ) fun v => bnd (B.n ρ) fun f => some fun ρ' => f (s.p ρ' v), fun e E ρ f h => by
  obtain ⟨v, h1, h⟩ := bndE h
  obtain ⟨g, h2, h⟩ := bndE h
  cases h
  obtain ⟨l, h3, h4⟩ := B.ok e E ρ g h2
  exact ⟨(i, erS e v) :: l, bindE2 (A.ok e E ρ v h1) (bindE2 h3 rfl), fun ρ' => bindE2 (s.setI e ρ' v) (h4 _)⟩⟩
noncomputable def rUnp {us : List (Nat × UX)} (A : RU F SP.c Z us) : RS F SP Z (.unpack us) := ⟨fun ρ => bnd (A.n ρ) fun f => some (.next (f ρ)), fun e E ρ r hr => by
  obtain ⟨f, h1, h2⟩ := bndE hr
  cases h2
  obtain ⟨l, h3, h4⟩ := A.ok e E ρ f h1
  exact bindE2 h3 (h4 ρ)⟩
noncomputable def intQ : QSV → Option Int
  | .val (.int i) => some i
  | _ => none
set_option tactic.hygienic true in
theorem intQ_ok {e : Nat → Nat} {v : QSV} {i : Int} (h : intQ v = some i) : intOf (erS e v) = some i := by
  cases v <;> first | (cases h; done) | (rename_i q; cases q <;> first | (cases h; done) | (cases h; rfl))
noncomputable def rAug {i : Nat} (s : Sl Z i) {o : Op2} (K : O2 o) {x : Opd} (A : RO F Z x) : RS F SP Z (.aug i o x) := ⟨fun ρ => bnd (intQ (s.g ρ)) fun p => bnd (A.n ρ) fun q => bnd (K.n (.int p) q) fun r => some (.next (s.p ρ (.val r))), fun e E ρ r hr => by
  obtain ⟨p, h1, h2⟩ := bndE hr
  obtain ⟨q, h3, h4⟩ := bndE h2
  obtain ⟨v, h5, h6⟩ := bndE h4
  cases h6
  exact bindE2 ((congrArg intOf (s.hg e ρ)).trans (intQ_ok h1)) (bindE2 (A.ok e E ρ q h3) (bindE2 (K.ok _ _ _ h5 e E) (s.setN e ρ (.val v))))⟩
noncomputable def ownlQ : QSV → Option (List QV)
  | .own xs => some xs
  | _ => none
theorem ownlQ_ok {e : Nat → Nat} {v : QSV} {l : List QV} (h : ownlQ v = some l) : ownOf (erS e v) = some (ers e l) := by
  cases v <;> first | (cases h; done) | (cases h; rfl)
theorem Sl.own {i : Nat} (s : Sl Z i) {e : Nat → Nat} {ρ : Fr Z} {l : List QV} (h : ownlQ (s.g ρ) = some l) : ownOf (get (erR e ρ) i) = some (ers e l) := (congrArg ownOf (s.hg e ρ)).trans (ownlQ_ok h)
noncomputable def setOQ {i : Nat} (s : Sl Z i) (xs : List QV) (ρ : Fr Z) : Option (QOut Z) := cond (okLQ xs) (some (.next (s.p ρ (.own xs)))) none
theorem setOQ_ok {e : Nat → Nat} {i : Nat} {s : Sl Z i} {xs : List QV} {ρ : Fr Z} {r : QOut Z} (h : setOQ s xs ρ = some r) : setOwn i (ers e xs) (erR e ρ) = some (erO e r) := by
  obtain ⟨h1, rfl⟩ := cond_some h
  exact (if_pos (okLQ_er e h1)).trans (s.setN e ρ (.own xs))
noncomputable def rApp {i : Nat} (s : Sl Z i) {x : X} (A : RX F Z x) : RS F SP Z (.append i x) := ⟨fun ρ => bnd (ownlQ (s.g ρ)) fun xs => bnd (A.n ρ) fun p => setOQ s (apQ xs [p]) ρ, fun e E ρ r hr => by
  obtain ⟨xs, h1, h2⟩ := bndE hr
  obtain ⟨p, h3, h4⟩ := bndE h2
  have h5 := setOQ_ok (e := e) h4
  rw [ers_app] at h5
  exact bindE2 (s.own h1) (bindE2 (A.ok e E ρ p h3) h5)⟩
theorem listQ_ok {e : Nat → Nat} {p : QV} {l : List QV} (h : listQ p = some l) : listOf (er e p) = some (ers e l) := by rw [listQ_eq h]; rfl
noncomputable def rAugL {i : Nat} (s : Sl Z i) {x : Opd} (A : RO F Z x) : RS F SP Z (.augL i x) := ⟨fun ρ => bnd (ownlQ (s.g ρ)) fun xs => bnd (A.n ρ) fun p => bnd (listQ p) fun ys => setOQ s (apQ xs ys) ρ, fun e E ρ r hr => by
  obtain ⟨xs, h1, h2⟩ := bndE hr
  obtain ⟨p, h3, h4⟩ := bndE h2
  obtain ⟨ys, h6, h7⟩ := bndE h4
  have h5 := setOQ_ok (e := e) h7
  rw [ers_app] at h5
  exact bindE2 (s.own h1) (bindE2 (A.ok e E ρ p h3) (bindE2 (listQ_ok h6) h5))⟩
noncomputable def rRet {x : Opd} (A : RO F Z x) : RS F SP Z (.ret x) := ⟨fun ρ => bnd (A.n ρ) fun p => some (.ret p), fun e E ρ r hr => by
  obtain ⟨p, h1, h2⟩ := bndE hr
  cases h2
  exact bindE2 (A.ok e E ρ p h1) rfl⟩
noncomputable def rIf {t : T} {a b : Ss} (A : RT F Z t) (B : RSs F SP Z a) (C : RSs F SP Z b) : RS F SP Z (.if_ t a b) := ⟨fun ρ => bnd (A.n ρ) fun c => cond c (B.n ρ) (C.n ρ), fun e E ρ r hr => by
  obtain ⟨b, h1, h2⟩ := bndE hr
  refine bindE2 (A.ok e E ρ b h1) ?_
  cases b with
  | true => exact B.ok e E ρ r h2
  | false => exact C.ok e E ρ r h2⟩
noncomputable def thenQ (o : Option (QOut Z)) (f : Fr Z → Option (QOut Z)) : Option (QOut Z) := bnd o fun o => QOut.rec (motive := fun zz => Option (QOut Z)) f (fun p => some (.ret p)) o
theorem thenQ_ok {e : Nat → Nat} {o : Option (QOut Z)} {f : Fr Z → Option (QOut Z)} {o' : Option Out} {f' : Rho → Option Out} {r : QOut Z} (h : thenQ o f = some r) (ho : ∀ r, o = some r → o' = some (erO e r))
    (hf : ∀ ρ r, f ρ = some r → f' (erR e ρ) = some (erO e r)) : (o'.bind fun o => match o with | .next ρ' => f' ρ' | .ret p => some (.ret p)) = some (erO e r) := by
  obtain ⟨x, h1, h2⟩ := bndE h
  refine bindE2 (ho x h1) ?_
  cases x with
  | next ρ => exact hf ρ r h2
  | ret p => cases h2; rfl
noncomputable def lwQ (t : Fr Z → Option Bool) (b : Fr Z → Option (QOut Z)) (n : Nat) (ρ : Fr Z) : Option (QOut Z) := Nat.rec (motive := fun zz => Fr Z → Option (QOut Z)) (fun zz => none) (fun zz ih ρ => bnd (t ρ) fun c => cond c (thenQ (b ρ) ih) (some (.next ρ))) n ρ
noncomputable def rWh (n : Nat) {t : T} {b : Ss} (A : RT F Z t) (B : RSs F SP Z b) : RS F SP Z (.while_ n t b) := ⟨fun ρ => lwQ A.n B.n n ρ, fun e E ρ r hr => by
  have key : ∀ (n : Nat) (ρ : Fr Z) (r : QOut Z), lwQ A.n B.n n ρ = some r → loopW (evT F t) (evSs F SP b) n (erR e ρ) = some (erO e r) := fun n => by
    induction n with
    | zero => exact fun zz zz h => nomatch h
    | succ n ih =>
      intro ρ r h
      obtain ⟨c, h1, h2⟩ := bndE h
      refine bindE2 (A.ok e E ρ c h1) ?_
      cases c with
      | true => exact thenQ_ok h2 (fun r hr => B.ok e E ρ r hr) ih
      | false => cases h2; rfl
  exact key n ρ r hr⟩
noncomputable def lfQ (t : QV → Fr Z → Option (Fr Z)) (b : Fr Z → Option (QOut Z)) (l : List QV) (ρ : Fr Z) : Option (QOut Z) := List.rec (motive := fun zz => Fr Z → Option (QOut Z)) (fun ρ => some (.next ρ)) (fun p zz ih ρ => bnd (t p ρ) fun ρ => thenQ (b ρ) ih) l ρ
theorem lfQ_ok {e : Nat → Nat} (E : Em e) {t : Tgt} {b : Ss} (G : RTg Z t) (B : RSs F SP Z b) : ∀ (l : List QV) (ρ : Fr Z) (r : QOut Z), lfQ G.n B.n l ρ = some r → loopF t (evSs F SP b) (ers e l) (erR e ρ) = some (erO e r)
  | [], ρ, r, h => by cases h; rfl
  | p :: ps, ρ, r, h => by
    obtain ⟨ρ', h1, h2⟩ := bndE h
    exact bindE2 (G.ok e p ρ ρ' h1) (thenQ_ok h2 (fun r hr => B.ok e E ρ' r hr) (lfQ_ok E G B ps))
noncomputable def rFor {t : Tgt} {src : Src} {b : Ss} (G : RTg Z t) (hs : ∀ ρ, strong src ρ = true) (A : RSrc F Z src) (B : RSs F SP Z b) : RS F SP Z (.for_ t src b) := ⟨fun ρ => bnd (A.n ρ) fun l => lfQ G.n B.n l ρ, fun e E ρ r hr => by
  obtain ⟨l, h1, h2⟩ := bndE hr
  show (if strong src (erR e ρ) = true then _ else none) = _
  rw [if_pos (hs _)]
  exact bindE2 (A.ok e E ρ l h1) (lfQ_ok E G B l ρ r h2)⟩
noncomputable def rForV {t : Tgt} {i : Nat} (s : Sl Z i) {b : Ss} (G : RTg Z t) (B : RSs F SP Z b) : RS F SP Z (.for_ t (.one (.v i)) b) := ⟨fun ρ => bnd (valQ (s.g ρ)) fun p => bnd (itemsQ p) fun l => lfQ G.n B.n l ρ, fun e E ρ r hr => by
  obtain ⟨p, h1, h2⟩ := bndE hr
  obtain ⟨l, h3, h4⟩ := bndE h2
  have hg : get (erR e ρ) i = .val (er e p) := (s.hg e ρ).trans (valQ_ok h1)
  have h5 : strong (.one (.v i)) (erR e ρ) = true := by
    show (valOf (get (erR e ρ) i)).isSome = true
    rw [hg]; rfl
  show (if strong (.one (.v i)) (erR e ρ) = true then _ else none) = _
  rw [if_pos h5]
  show (((readOf (get (erR e ρ) i)).bind fun p => itemsOf p).bind _) = _
  rw [hg]
  exact bindE2 (itemsQ_ok h3) (lfQ_ok E G B l ρ r h4)⟩
noncomputable def rN : RSs F SP Z .nil := ⟨fun ρ => some (.next ρ), fun zz zz zz zz h => by cases h; rfl⟩
noncomputable def rC {s : S} {ss : Ss} (A : RS F SP Z s) (B : RSs F SP Z ss) : RSs F SP Z (.cons s ss) := ⟨fun ρ => thenQ (A.n ρ) B.n, fun e E ρ zz hr => thenQ_ok hr (fun r hr => A.ok e E ρ r hr) fun ρ r hr => B.ok e E ρ r hr⟩
end
noncomputable def okA (s : List Nat) : Bool := and (allQ (fun c => and (Nat.ble 32 c) (Nat.blt c 85)) s) (Nat.ble (lenQ s) 1000)
theorem okA_ok {e : Nat → Nat} (E : Em e) {s : List Nat} (h : okA s = true) : okHb (s.map e) = true := by
  obtain ⟨h1, h2⟩ := (Bool.and_eq_true _ _).mp h
  rw [allQ_eq] at h1
  refine (Bool.and_eq_true _ _).mpr ⟨List.all_eq_true.mpr fun c hc => ?_, decide_eq_true (by rw [List.length_map, ← lenQ_eq]; exact Nat.le_trans (Nat.le_of_ble_eq_true h2) (by decide))⟩
  obtain ⟨d, hd, rfl⟩ := List.mem_map.mp hc
  obtain ⟨h3, h4⟩ := (Bool.and_eq_true _ _).mp (List.all_eq_true.mp h1 d hd)
  obtain ⟨h5, h6⟩ := E.pr d (Nat.le_of_ble_eq_true h3) (Nat.le_of_ble_eq_true h4)
  exact (Bool.and_eq_true _ _).mpr ⟨decide_eq_true h5, decide_eq_true h6⟩
noncomputable def hdrQ (c : Nat) (v : QSV) : Option (List (Tx × Tx)) := QSV.rec (motive := fun zz => Option (List (Tx × Tx))) none (fun zz => none) (fun zz => none) (fun c' hs => cond (Nat.beq c' c) (some hs) none) (fun zz => none) v
theorem hdrQ_ok {e : Nat → Nat} {c : Nat} {v : QSV} {hs : List (Tx × Tx)} (h : hdrQ c v = some hs) : hsOf c (erS e v) = some (hs.map (erh e)) := by
  cases v with
  | hdr c' hs' =>
    obtain ⟨h1, rfl⟩ := cond_some h
    exact if_pos (Nat.eq_of_beq_eq_true h1)
  | _ => cases h
noncomputable def hallQ (n : List Nat) (hs : List (Tx × Tx)) : Option (List QV) := List.rec (motive := fun zz => Option (List QV)) (some []) (fun h zz ih => cond (and h.1.1 (and h.2.1 (allQ lowOk h.1.2))) (bnd (eqO (mapQ lowQ h.1.2) n) fun b => bnd ih fun l => some (cond b (.abs h.2.2 :: l) l)) none) hs
theorem hallQ_ok {e : Nat → Nat} (E : Em e) {n : List Nat} : ∀ {hs : List (Tx × Tx)} {r : List QV}, hallQ n hs = some r → hAll (hs.map (erh e)) (n.map e) = ers e r
  | [], r, h => by cases h; rfl
  | ((k, a), (k', b)) :: hs, r, h => by
    change cond (and k (and k' (allQ lowOk a))) (bnd (eqO (mapQ lowQ a) n) fun c => bnd (hallQ n hs) fun l => some (cond c (.abs b :: l) l)) none = some r at h
    obtain ⟨rfl, rfl, h1, h⟩ : k = true ∧ k' = true ∧ allQ lowOk a = true ∧ (bnd (eqO (mapQ lowQ a) n) fun c => bnd (hallQ n hs) fun l => some (cond c (QV.abs b :: l) l)) = some r := by
      cases k with
      | false => cases h
      | true =>
        cases k' with
        | false => cases h
        | true =>
          cases hq : allQ lowOk a with
          | false => rw [hq] at h; cases h
          | true => rw [hq] at h; exact ⟨rfl, rfl, rfl, h⟩
    obtain ⟨c, h2, h⟩ := bndE h
    obtain ⟨l, h3, h⟩ := bndE h
    cases h
    have h4 := E.sEq h2
    rw [← E.low_map (by rw [← allQ_eq]; exact h1)] at h4
    have ih := hallQ_ok E h3
    unfold hAll at ih ⊢
    show (List.filter (fun h : List Nat × List Nat => sEq (h.1.map lowA) (n.map e)) ((a.map e, b.map e) :: hs.map (erh e))).map (fun h => PV.str h.2) = _
    rw [List.filter_cons]
    dsimp only
    rw [h4]
    cases c with
    | true => exact congrArg (PV.str (b.map e) :: ·) ih
    | false => exact ih
section
variable {F : FT} {Z : Nat} {c : Nat}
noncomputable def rHget {i : Nat} (s : Sl Z i) {x : Opd} (A : RO F Z x) : RX F Z (.hget c i x) := ⟨fun ρ => bnd (hdrQ c (s.g ρ)) fun hs => bnd (A.n ρ) fun p => bnd (absQ p) fun t => cond (and (okA t) (allQ lowOk t)) (bnd (hallQ (mapQ lowQ t) hs) (mkQ .list)) none, fun e E ρ r hr => by
  obtain ⟨hs, h1, hr⟩ := bndE hr
  obtain ⟨p, h2, hr⟩ := bndE hr
  obtain ⟨t, h3, hr⟩ := bndE hr
  obtain ⟨h4, h5⟩ : and (okA t) (allQ lowOk t) = true ∧ bnd (hallQ (mapQ lowQ t) hs) (mkQ .list) = some r := by
    cases hq : and (okA t) (allQ lowOk t) <;> rw [hq] at hr
    · cases hr
    · exact ⟨rfl, hr⟩
  obtain ⟨l, h6, h7⟩ := bndE h5
  obtain ⟨o1, o2⟩ := (Bool.and_eq_true _ _).mp h4
  have h8 := A.ok e E ρ p h2
  rw [absQ_eq h3] at h8
  refine bindE2 ((congrArg (hsOf c) (s.hg e ρ)).trans (hdrQ_ok h1)) (bindE2 h8 (bindE2 (p := t.map e) rfl ?_))
  rw [if_pos (okA_ok E o1), E.low_map (by rw [← allQ_eq]; exact o2), hallQ_ok E h6]
  exact mkQ_list h7⟩
noncomputable def rAddH {i : Nat} (s : Sl Z i) {a b : X} (A : RX F Z a) (B : RX F Z b) : Rs Z (evX F c (.addH i a b)) := ⟨fun ρ => bnd (hdrQ c (s.g ρ)) fun hs => bnd (A.n ρ) fun p => bnd (absQ p) fun t => bnd (B.n ρ) fun q => bnd (absQ q) fun u => cond (and (okA t) (and (okA u) (Nat.blt (lenQ hs) 1000))) (some (.next (s.p ρ (.hdr c (apQ hs [((true, t), (true, u))]))))) none, fun e E ρ r hr => by
  obtain ⟨hs, h1, hr⟩ := bndE hr
  obtain ⟨p, h2, hr⟩ := bndE hr
  obtain ⟨t, h3, hr⟩ := bndE hr
  obtain ⟨q, h4, hr⟩ := bndE hr
  obtain ⟨u, h5, hr⟩ := bndE hr
  obtain ⟨h6, rfl⟩ := cond_some hr
  obtain ⟨o1, h7⟩ := (Bool.and_eq_true _ _).mp h6
  obtain ⟨o2, o3⟩ := (Bool.and_eq_true _ _).mp h7
  have h8 := A.ok e E ρ p h2
  rw [absQ_eq h3] at h8
  have h9 := B.ok e E ρ q h4
  rw [absQ_eq h5] at h9
  refine bindE2 ((congrArg (hsOf c) (s.hg e ρ)).trans (hdrQ_ok h1)) (bindE2 h8 (bindE2 (p := t.map e) rfl (bindE2 h9 (bindE2 (p := u.map e) rfl ?_))))
  rw [if_pos ⟨okA_ok E o1, okA_ok E o2, by rw [List.length_map, ← lenQ_eq]; exact Nat.lt_of_lt_of_le (Nat.le_of_ble_eq_true o3) (by decide)⟩]
  refine congrArg (fun r => some (Out.next r)) ?_
  rw [← s.hp]
  refine congrArg (fun hs => set (erR e ρ) i (.hdr c hs)) ?_
  unfold hAdd
  rw [apQ_eq, List.map_append]; rfl⟩
noncomputable def rSp {l : List SPx} (n : Nat) {x : SPx} (h : l[n]? = some x) (A : Rs Z (evX F c x)) : RS F (spTab c l) Z (.sp n) := ⟨A.n, fun e E ρ r hr => by
  show ((l[n]?).bind _) = _
  rw [h]
  exact A.ok e E ρ r hr⟩
end
noncomputable def consH (c : Nat) (l : List (List Nat)) : List (List Nat) := List.rec (motive := fun zz => List (List Nat)) [[c]] (fun h t zz => (c :: h) :: t) l
noncomputable def splQ (w s : List Nat) (k : Nat) : List (List Nat) := List.rec (motive := fun zz => Nat → List (List Nat)) (fun zz => [[]]) (fun c t ih k => Nat.rec (cond (preQ w (c :: t)) ([] :: ih (Nat.pred w.length)) (consH c (ih 0))) (fun k zz => ih k) k) s k
noncomputable def att (p : List Nat) : List (List Nat) → List (List Nat)
  | [] => [p]
  | h :: t => (p ++ h) :: t
theorem att_cons {p : List Nat} {c : Nat} {l : List (List Nat)} (h : l ≠ []) : att p (consH c l) = att (p ++ [c]) l := by
  cases l with
  | nil => exact absurd rfl h
  | cons a l => exact congrArg (· :: l) (List.append_cons _ _ _)
theorem splQ_ne (w : List Nat) : ∀ (s : List Nat) (k : Nat), splQ w s k ≠ []
  | [], _, h => nomatch h
  | c :: t, k + 1, h => splQ_ne w t k h
  | c :: t, 0, h => by
    change cond (preQ w (c :: t)) ([] :: splQ w t (Nat.pred w.length)) (consH c (splQ w t 0)) = [] at h
    cases hp : preQ w (c :: t) <;> rw [hp] at h
    · change consH c (splQ w t 0) = [] at h
      cases hq : splQ w t 0 with
      | nil => exact splQ_ne w t 0 hq
      | cons a l => rw [hq] at h; cases h
    · cases h
theorem spl_key {w full : List Nat} {m : Nat} (hm : w.length = m + 1) : ∀ (s : List Nat) (i : Nat), s = full.drop i → i + s.length = full.length →
    (∀ a f, a ≤ i → f ≤ i → cutParts full (m + 1) a (occL w s i f) = att ((full.drop a).take (i - a)) (splQ w s 0)) ∧ (∀ k, cutParts full (m + 1) (i + k) (occL w s i (i + k)) = splQ w s k)
  | [], i, hs, hi => by
    have e : ∀ f, occL w [] i f = [] := fun f => by
      unfold occL
      cases w with
      | nil => cases hm
      | cons => rw [show isPre (_ :: _) [] = false from rfl, Bool.and_false]; rfl
    refine ⟨fun a f ha hf => ?_, fun k => ?_⟩
    · rw [e]
      show [full.drop a] = [(full.drop a).take (i - a) ++ []]
      rw [List.append_nil, List.take_of_length_le (by rw [List.length_drop]; have : i = full.length := hi; lia)]
    · rw [e]
      show [full.drop (i + k)] = [[]]
      rw [List.drop_of_length_le (by have : i = full.length := hi; lia)]
  | c :: t, i, hs, hi => by
    have ht : t = full.drop (i + 1) := by rw [← List.drop_drop, ← hs]; rfl
    have hl : i + 1 + t.length = full.length := by rw [← hi, List.length_cons]; lia
    obtain ⟨h1, h2⟩ := spl_key hm t (i + 1) ht hl
    have hc : full[i]? = some c := by rw [← List.head?_drop, ← hs]; rfl
    refine ⟨fun a f ha hf => ?_, fun k => ?_⟩
    · show cutParts full (m + 1) a (if (Nat.ble f i && isPre w (c :: t)) = true then i :: occL w t (i + 1) (i + w.length) else occL w t (i + 1) f) = att _ (cond (preQ w (c :: t)) ([] :: splQ w t (Nat.pred w.length)) (consH c (splQ w t 0)))
      rw [Nat.ble_eq_true_of_le hf, Bool.true_and, preQ_eq]
      cases isPre w (c :: t) with
      | true =>
        rw [if_pos rfl, hm]
        show (full.drop a).take (i - a) :: cutParts full (m + 1) (i + (m + 1)) (occL w t (i + 1) (i + (m + 1))) = ((full.drop a).take (i - a) ++ []) :: splQ w t m
        have h3 := h2 m
        rw [show i + 1 + m = i + (m + 1) by lia] at h3
        rw [h3, List.append_nil]
      | false =>
        rw [if_neg Bool.false_ne_true]
        show _ = att _ (consH c (splQ w t 0))
        rw [att_cons (splQ_ne w t 0), h1 a f (Nat.le_succ_of_le ha) (Nat.le_succ_of_le hf)]
        refine congrArg (fun p => att p (splQ w t 0)) ?_
        rw [show i + 1 - a = (i - a) + 1 by lia, List.take_add_one, List.getElem?_drop, show a + (i - a) = i by lia, hc]; rfl
    · cases k with
      | zero =>
        have h3 : cutParts full (m + 1) i (occL w (c :: t) i i) = splQ w (c :: t) 0 := by
          show cutParts full (m + 1) i (if (Nat.ble i i && isPre w (c :: t)) = true then i :: occL w t (i + 1) (i + w.length) else occL w t (i + 1) i) = cond (preQ w (c :: t)) ([] :: splQ w t (Nat.pred w.length)) (consH c (splQ w t 0))
          rw [Nat.ble_eq_true_of_le (Nat.le_refl i), Bool.true_and, preQ_eq]
          cases isPre w (c :: t) with
          | true =>
            rw [if_pos rfl, hm]
            show (full.drop i).take (i - i) :: cutParts full (m + 1) (i + (m + 1)) (occL w t (i + 1) (i + (m + 1))) = [] :: splQ w t m
            have h3 := h2 m
            rw [show i + 1 + m = i + (m + 1) by lia] at h3
            rw [h3, Nat.sub_self]; rfl
          | false =>
            rw [if_neg Bool.false_ne_true, h1 i i (Nat.le_succ i) (Nat.le_succ i), show i + 1 - i = 1 by lia, ← hs]
            show att [c] (splQ w t 0) = consH c (splQ w t 0)
            cases splQ w t 0 <;> rfl
        exact h3
      | succ k =>
        have h3 := h2 k
        rw [show i + 1 + k = i + (k + 1) by lia] at h3
        show cutParts full (m + 1) (i + (k + 1)) (if (Nat.ble (i + (k + 1)) i && isPre w (c :: t)) = true then _ else occL w t (i + 1) (i + (k + 1))) = splQ w t k
        rw [show Nat.ble (i + (k + 1)) i = false from Bool.eq_false_iff.mpr fun q => by have := Nat.le_of_ble_eq_true q; lia, Bool.false_and, if_neg Bool.false_ne_true, h3]
theorem splQ_eq {w : List Nat} {m : Nat} (hm : w.length = m + 1) (s : List Nat) : splQ w s 0 = splitP w s := by
  have h := (spl_key (full := s) hm s 0 rfl (Nat.zero_add _)).2 0
  rw [← h]
  unfold splitP
  rw [hm]
theorem map_loI {e : Nat → Nat} (E : Ei e) : ∀ {s : List Nat}, s.all (fun c => Nat.ble c 64) = true → s.map e = s
  | [], _ => rfl
  | c :: s, h => by
    obtain ⟨h1, h2⟩ := (Bool.and_eq_true _ _).mp (List.all_cons ▸ h)
    rw [List.map_cons, E.lo c (Nat.le_of_ble_eq_true h1), map_loI E h2]
section
variable {e : Nat → Nat} (E : Ei e)
include E
theorem Ei.findIn (a b : List Nat) (lo hi : Nat) : findIn (b.map e) (a.map e) lo hi = findIn b a lo hi := by
  unfold Mine.findIn
  rw [← List.map_take, ← List.map_drop, List.length_map, E.findAt]
theorem Ei.ends (g w : List Nat) : endsB (g.map e) (w.map e) = endsB g w := by
  unfold endsB
  rw [List.length_map, List.length_map, ← List.map_drop, E.sEq, eqQ_eq]
theorem Ei.go (g : List Nat) (en : Nat) : ∀ (ws : List (List Nat)) (st : Nat), ellGo (g.map e) en (ws.map (List.map e)) st = ellGo g en ws st
  | [], _ => rfl
  | w :: ws, st => by
    show (if Mine.findIn (g.map e) (w.map e) st en < 0 then none else ellGo (g.map e) en (ws.map (List.map e)) ((Mine.findIn (g.map e) (w.map e) st en).toNat + (w.map e).length)) = _
    rw [E.findIn, List.length_map, Ei.go g en ws]; rfl
theorem Ei.ellT (g : List Nat) (ws : List (List Nat)) (st : Nat) : ellT (g.map e) (ws.map (List.map e)) st = ellT g ws st := by
  unfold Mine.ellT ellE
  rw [last_map (List.map e) rfl, E.ends, List.length_map, List.length_map, ← List.map_dropLast, E.go, E.go, empty_map]
theorem Ei.ellW (g : List Nat) (w : List Nat) (ws : List (List Nat)) : ellW ((w :: ws).map (List.map e)) (g.map e) = ellW (w :: ws) g := by
  show (if (w.map e).isEmpty = true then Mine.ellT (g.map e) ((w :: ws).map (List.map e)) 0 else if Mine.isPre (w.map e) (g.map e) = true then Mine.ellT (g.map e) (ws.map (List.map e)) (w.map e).length else false) = _
  rw [empty_map, E.isPre, List.length_map, E.ellT, E.ellT]; rfl
theorem Ei.occ (w : List Nat) : ∀ (s : List Nat) (i f : Nat), occL (w.map e) (s.map e) i f = occL w s i f
  | [], i, f => by
    show (if (Nat.ble f i && Mine.isPre (w.map e) ([].map e)) = true then [i] else []) = _
    rw [E.isPre]; rfl
  | c :: s, i, f => by
    show (if (Nat.ble f i && Mine.isPre (w.map e) ((c :: s).map e)) = true then i :: occL (w.map e) (s.map e) (i + 1) (i + (w.map e).length) else occL (w.map e) (s.map e) (i + 1) f) = _
    rw [E.isPre, List.length_map, Ei.occ w s, Ei.occ w s]; rfl
omit E in
theorem cut_map (s : List Nat) (k : Nat) : ∀ (cs : List Nat) (a : Nat), cutParts (s.map e) k a cs = (cutParts s k a cs).map (List.map e)
  | [], a => congrArg (fun x => [x]) List.map_drop.symm
  | c :: cs, a => by
    show ((s.map e).drop a).take (c - a) :: cutParts (s.map e) k (c + k) cs = _
    rw [cut_map s k cs, ← List.map_drop, ← List.map_take]; rfl
theorem Ei.split (s : List Nat) : splitP dots (s.map e) = (splitP dots s).map (List.map e) := by
  have hd : dots.map e = dots := map_loI E rfl
  unfold splitP
  rw [← cut_map]
  exact congrArg (fun w : List Nat => cutParts (s.map e) 3 0 (occL w (s.map e) 0 0)) hd.symm ▸ congrArg (cutParts (s.map e) 3 0) (E.occ dots s 0 0)
end
noncomputable def goQ (g : List Nat) (n : Nat) (ws : List (List Nat)) (st : Nat) : Bool := List.rec (motive := fun zz => Nat → Bool) (fun zz => true) (fun w zz ih st => cond (Nat.blt n st) false (Option.rec (motive := fun zz => Bool) false (fun i => ih (i + lenQ w)) (findQ w (dropQ st g) st))) ws st
theorem goQ_eq (got : List Nat) (en : Nat) : ∀ (ws : List (List Nat)) (st : Nat), goQ (got.take en) (Nat.min en got.length) ws st = (ellGo got en ws st).isSome
  | [], _ => rfl
  | w :: ws, st => by
    show cond (Nat.blt (Nat.min en got.length) st) false (Option.rec (motive := fun zz => Bool) false (fun i => goQ (got.take en) (Nat.min en got.length) ws (i + lenQ w)) (findQ w (dropQ st (got.take en)) st)) = (if findIn got w st en < 0 then none else ellGo got en ws ((findIn got w st en).toNat + w.length)).isSome
    rw [findQ_eq, dropQ_eq, lenQ_eq]
    unfold findIn
    cases hb : Nat.blt (Nat.min en got.length) st with
    | true =>
      rw [if_pos (c := min en got.length < st) (Nat.le_of_ble_eq_true hb)]; rfl
    | false =>
      rw [if_neg (c := min en got.length < st) fun q => Bool.false_ne_true (hb.symm.trans (Nat.ble_eq_true_of_le q))]
      cases findAt w ((got.take en).drop st) st with
      | none => rfl
      | some i =>
        show goQ (got.take en) (Nat.min en got.length) ws (i + w.length) = (if (i : Int) < 0 then none else ellGo got en ws ((i : Int).toNat + w.length)).isSome
        rw [if_neg (Int.not_lt.mpr (Int.natCast_nonneg i)), Int.toNat_natCast, goQ_eq got en ws]
noncomputable def lastQ (ws : List (List Nat)) : List Nat := List.rec (motive := fun zz => List Nat) [] (fun h t ih => List.rec (motive := fun zz => List Nat) h (fun zz zz zz => ih) t) ws
noncomputable def initQ (ws : List (List Nat)) : List (List Nat) := List.rec (motive := fun zz => List (List Nat)) [] (fun h t ih => List.rec (motive := fun zz => List (List Nat)) [] (fun zz zz zz => h :: ih) t) ws
theorem lastQ_eq : ∀ ws : List (List Nat), lastQ ws = ws.getLastD []
  | [] => rfl
  | [_] => rfl
  | _ :: b :: t => lastQ_eq (b :: t)
theorem initQ_eq : ∀ ws : List (List Nat), initQ ws = ws.dropLast
  | [] => rfl
  | [_] => rfl
  | a :: b :: t => congrArg (a :: ·) (initQ_eq (b :: t))
noncomputable def eQ (got : List Nat) (ws : List (List Nat)) (en st : Nat) : Bool := cond (Nat.blt en st) false (goQ (takeQ en got) (Nat.min en (lenQ got)) ws st)
theorem eQ_eq (got : List Nat) (ws : List (List Nat)) (en st : Nat) : eQ got ws en st = ellE got ws en st := by
  unfold eQ ellE
  rw [takeQ_eq, lenQ_eq, goQ_eq]
  cases hb : Nat.blt en st with
  | true => rw [if_pos (c := en < st) (Nat.le_of_ble_eq_true hb)]; rfl
  | false => rw [if_neg (c := en < st) fun q => Bool.false_ne_true (hb.symm.trans (Nat.ble_eq_true_of_le q))]; rfl
noncomputable def endQ (got w : List Nat) : Bool := and (Nat.ble (lenQ w) (lenQ got)) (eqQ (dropQ (lenQ got - lenQ w) got) w)
theorem endQ_eq (got w : List Nat) : endQ got w = endsB got w := by
  unfold endQ endsB
  rw [lenQ_eq, lenQ_eq, dropQ_eq, eqQ_eq]
  exact congrArg (and · _) (Bool.eq_iff_iff.mpr (by rw [decide_eq_true_iff]; exact ⟨Nat.le_of_ble_eq_true, Nat.ble_eq_true_of_le⟩))
noncomputable def tQ (got : List Nat) (ws : List (List Nat)) (st : Nat) : Bool := cond (lastQ ws).isEmpty (eQ got ws (lenQ got) st) (cond (endQ got (lastQ ws)) (eQ got (initQ ws) (lenQ got - lenQ (lastQ ws)) st) false)
theorem if_cond {α : Type} (b : Bool) (x y : α) : (if b = true then x else y) = cond b x y := by cases b <;> rfl
theorem tQ_eq (got : List Nat) (ws : List (List Nat)) (st : Nat) : tQ got ws st = ellT got ws st := by
  unfold tQ ellT
  rw [lastQ_eq, endQ_eq, initQ_eq, eQ_eq, eQ_eq, lenQ_eq, lenQ_eq, if_cond, if_cond]
noncomputable def wQ (w : List Nat) (ws : List (List Nat)) (got : List Nat) : Bool := cond w.isEmpty (tQ got (w :: ws) 0) (cond (preQ w got) (tQ got ws (lenQ w)) false)
theorem wQ_eq (w : List Nat) (ws : List (List Nat)) (got : List Nat) : wQ w ws got = ellW (w :: ws) got := by
  show wQ w ws got = (if w.isEmpty = true then ellT got (w :: ws) 0 else if isPre w got = true then ellT got ws w.length else false)
  unfold wQ
  rw [tQ_eq, tQ_eq, preQ_eq, lenQ_eq, if_cond, if_cond]
theorem occ_none {w : List Nat} : ∀ {s : List Nat} {i f : Nat}, w ≠ [] → findAt w s i = none → occL w s i f = []
  | [], i, f, hw, h => by
    cases w with
    | nil => exact absurd rfl hw
    | cons c w => unfold occL; rw [show isPre (c :: w) [] = false from rfl, Bool.and_false]; rfl
  | c :: s, i, f, hw, h => by
    unfold findAt at h
    cases hp : isPre w (c :: s) with
    | true => rw [hp] at h; cases h
    | false =>
      rw [hp, if_neg Bool.false_ne_true] at h
      unfold occL
      rw [hp, Bool.and_false, if_neg Bool.false_ne_true, occ_none hw h]
theorem split_has {s w0 w1 : List Nat} {wr : List (List Nat)} (h : splitP dots s = w0 :: w1 :: wr) : (findAt dots s 0).isSome = true := by
  cases hf : findAt dots s 0 with
  | some i => rfl
  | none =>
    unfold splitP at h
    rw [occ_none (w := dots) (by decide) hf] at h
    cases h
noncomputable def HasEll (F : FT) : Prop := ∀ (want got w0 w1 : List Nat) (wr : List (List Nat)), splitP dots want = w0 :: w1 :: wr → (findAt dots want 0).isSome = true → want.length ≤ 1000 → wr.length ≤ 1000 → F "_ellipsis_match" [.str want, .str got] = some (.bool (ellW (w0 :: w1 :: wr) got))
theorem occ_some {w : List Nat} : ∀ {s : List Nat} {i f j : Nat}, f ≤ i → findAt w s i = some j → occL w s i f ≠ []
  | [], i, f, j, hf, h => by
    unfold findAt at h
    cases w with
    | nil => unfold occL; rw [Nat.ble_eq_true_of_le hf]; exact fun q => nomatch q
    | cons c w => cases h
  | c :: s, i, f, j, hf, h => by
    unfold findAt at h
    unfold occL
    cases hp : isPre w (c :: s) with
    | true => rw [Nat.ble_eq_true_of_le hf]; exact fun q => nomatch q
    | false =>
      rw [hp, if_neg Bool.false_ne_true] at h
      rw [Bool.and_false, if_neg Bool.false_ne_true]
      exact occ_some (Nat.le_succ_of_le hf) h
theorem split_one {s w0 : List Nat} (h : splitP dots s = [w0]) : findAt dots s 0 = none := by
  cases hf : findAt dots s 0 with
  | none => rfl
  | some j =>
    have h1 := occ_some (Nat.le_refl 0) hf
    unfold splitP at h
    cases q : occL dots s 0 0 with
    | nil => exact absurd q h1
    | cons c cs =>
      rw [q] at h
      cases cs <;> cases h
noncomputable def HasEq (F : FT) : Prop := ∀ want got : List Nat, findAt dots want 0 = none → F "_ellipsis_match" [.str want, .str got] = some (.bool (sEq want got))
noncomputable def ellN (want got : List Nat) : Option QV := List.rec (motive := fun zz => Option QV) none (fun w0 t zz => List.rec (motive := fun zz => Option QV) (some (.bool (eqQ want got))) (fun w1 wr zz => cond (and (Nat.ble want.length 1000) (Nat.ble wr.length 1000)) (some (.bool (wQ w0 (w1 :: wr) got))) none) t) (splQ dots want 0)
theorem ellN_ok {F : FT} (H : HasEll F) (H0 : HasEq F) {e : Nat → Nat} (E : Ei e) {want got : List Nat} {r : QV} (h : ellN want got = some r) : (∃ b, r = .bool b) ∧ F "_ellipsis_match" [.str (want.map e), .str (got.map e)] = some (er e r) := by
  unfold ellN at h
  rw [splQ_eq (w := dots) (m := 2) rfl] at h
  cases hs : splitP dots want with
  | nil => rw [hs] at h; cases h
  | cons w0 t =>
    cases t with
    | nil =>
      rw [hs] at h
      cases h
      have h4 : splitP dots (want.map e) = [w0.map e] := by rw [E.split, hs]; rfl
      exact ⟨⟨_, rfl⟩, by rw [H0 _ _ (split_one h4), E.sEq]; rfl⟩
    | cons w1 wr =>
      rw [hs] at h
      obtain ⟨h1, rfl⟩ := cond_some h
      obtain ⟨h2, h3⟩ := (Bool.and_eq_true _ _).mp h1
      have h4 : splitP dots (want.map e) = w0.map e :: w1.map e :: wr.map (List.map e) := by rw [E.split, hs]; rfl
      refine ⟨⟨_, rfl⟩, ?_⟩
      rw [H _ _ _ _ _ h4 (split_has h4) (by rw [List.length_map]; exact Nat.le_of_ble_eq_true h2) (by rw [List.length_map]; exact Nat.le_of_ble_eq_true h3), wQ_eq]
      exact congrArg (fun b => some (PV.bool b)) (E.ellW got w0 (w1 :: wr))
noncomputable def fn2T {F : FT} {f : PySem.Str} (g : List Nat → List Nat → Option QV) (h : ∀ e, Em e → ∀ a b r, g a b = some r → F f [.str (a.map e), .str (b.map e)] = some (er e r)) : FnQ F f :=
  ⟨fun ps => bnd (two ps) fun x => bnd (absQ x.1) fun a => bnd (absQ x.2) (g a), fun e E ps r hr => by
    obtain ⟨x, h1, hr⟩ := bndE hr
    obtain ⟨a, h2, hr⟩ := bndE hr
    obtain ⟨b, h3, hr⟩ := bndE hr
    rw [two_eq h1, absQ_eq h2, absQ_eq h3]
    exact h e E a b r hr⟩
noncomputable def ellQ {F : FT} (H : HasEll F) (H0 : HasEq F) : FnQ F "_ellipsis_match" := fn2T (fun a b => cond (oneK a b) (ellN a b) none) fun e E a b r h => by
  cases hk : oneK a b with
  | false => rw [hk] at h; cases h
  | true =>
    rw [hk] at h
    obtain ⟨e', E', h1, h2⟩ := oneK_ok E hk
    obtain ⟨⟨x, rfl⟩, h3⟩ := ellN_ok H H0 E' h
    rw [h1, h2]
    exact h3
noncomputable def scQ (a b : List Nat) : Option Int := bnd (ltO b a) fun x => bnd (ltO a b) fun y => some (cond x (cond y (.ofNat 0) (.ofNat 1)) (cond y (.negSucc 0) (.ofNat 0)))
theorem scQ_eq {e : Nat → Nat} (E : Em e) {a b : List Nat} {r : Int} (h : scQ a b = some r) : sc (a.map e) (b.map e) = r := by
  obtain ⟨x, h1, h⟩ := bndE h
  obtain ⟨y, h2, h⟩ := bndE h
  cases h
  unfold sc
  rw [E.sLt h1, E.sLt h2]
  cases x <;> cases y <;> rfl
noncomputable def scollQ {F : FT} (H : ∀ a b, F "_strcoll" [.str a, .str b] = some (.int (sc a b))) : FnQ F "_strcoll" := fn2T (fun a b => bnd (scQ a b) fun i => some (.int i)) fun e E a b r h => by
  obtain ⟨i, h1, h⟩ := bndE h
  cases h
  exact (H _ _).trans (congrArg (fun i => some (PV.int i)) (scQ_eq E h1))
noncomputable def retQ {Z : Nat} (o : QOut Z) : Option QV := QOut.rec (motive := fun zz => Option QV) (fun zz => none) (fun q => some q) o
noncomputable abbrev Mk (Z np : Nat) : Type := (n : List QV → Option (Fr Z)) ×' ((∀ ps t, n ps = some t → ps.length = np ∧ ∀ e, rho0 (6 ^ Z) (ers e ps) = erR e t))
section
variable {a_ b_} (x_ : Mk a_ b_)
noncomputable abbrev Mk.n := x_.1
theorem Mk.ok : ∀ ps t, x_.n ps = some t → ps.length = b_ ∧ ∀ e, rho0 (6 ^ a_) (ers e ps) = erR e t := x_.2
end
noncomputable def u6 : Fr 1 := F6.mk .un .un .un .un .un .un
noncomputable def mk1N : List QV → Option (Fr 1)
  | [p] => some (F6.mk (.val p) .un .un .un .un .un)
  | _ => none
noncomputable def mk2N : List QV → Option (Fr 1)
  | [p, q] => some (F6.mk (.val p) (.val q) .un .un .un .un)
  | _ => none
noncomputable def mk4N : List QV → Option (Fr 2)
  | [p, q, r, t] => some (F6.mk (F6.mk (.val p) (.val q) (.val r) (.val t) .un .un) u6 u6 u6 u6 u6)
  | _ => none
noncomputable def mk1 : Mk 1 1 := ⟨mk1N, fun ps t h => by
  rcases ps with _ | ⟨a, _ | ⟨b, l⟩⟩ <;> cases h
  exact ⟨rfl, fun zz => rfl⟩⟩
noncomputable def mk2 : Mk 1 2 := ⟨mk2N, fun ps t h => by
  rcases ps with _ | ⟨a, _ | ⟨b, _ | ⟨c, l⟩⟩⟩ <;> cases h
  exact ⟨rfl, fun zz => rfl⟩⟩
noncomputable def mk4 : Mk 2 4 := ⟨mk4N, fun ps t h => by
  rcases ps with _ | ⟨a, _ | ⟨b, _ | ⟨c, _ | ⟨d, _ | ⟨f, l⟩⟩⟩⟩⟩ <;> cases h
  exact ⟨rfl, fun zz => rfl⟩⟩
noncomputable def mkFn {F : FT} {SP : SPT} {x : Ss} (name : PySem.Str) {Z np : Nat} (M : Mk Z np) (R : RSs F SP Z x) : FnQ (fnF F SP name np (6 ^ Z) x) name :=
  ⟨fun ps => bnd (M.n ps) fun t => bnd (R.n t) retQ, fun e E ps r h => by
    obtain ⟨t, h0, h⟩ := bndE h
    obtain ⟨o, h1, h2⟩ := bndE h
    obtain ⟨hl, h3⟩ := M.ok ps t h0
    have h5 := R.ok e E _ o h1
    rw [← h3 e] at h5
    unfold fnF
    rw [if_pos (beq_self_eq_true _), if_pos (show (ers e ps).length = np by rw [ers_eq, List.length_map]; exact hl), h5]
    cases o <;> cases h2
    rfl⟩
noncomputable def FnQ.lift {F : FT} {f : PySem.Str} (K : FnQ F f) {SP : SPT} {z np : Nat} {x : Ss} {name : PySem.Str} (h : (f == name) = false) : FnQ (fnF F SP name np z x) f :=
  ⟨K.n, fun e E ps r hr => by
    unfold fnF
    rw [h, if_neg Bool.false_ne_true]
    exact K.ok e E ps r hr⟩
theorem fnF_eq {F : FT} {SP : SPT} {name : PySem.Str} {np z : Nat} {x : Ss} {ps : List PV} (hl : ps.length = np) {p : PV} (h : evSs F SP x (rho0 z ps) = some (.ret p)) : fnF F SP name np z x name ps = some p := by
  unfold fnF
  rw [if_pos (beq_self_eq_true _), if_pos hl, h]; rfl
theorem fnF_ne {F : FT} {SP : SPT} {name f : PySem.Str} {np z : Nat} {x : Ss} {ps : List PV} (h : (f == name) = false) : fnF F SP name np z x f ps = F f ps := by
  unfold fnF
  rw [h, if_neg Bool.false_ne_true]
noncomputable def sl1_0 : Sl 1 0 := ⟨fun t => F6.rec (motive := fun zz => QSV) (fun a b c d e f => a) t, fun t v => F6.rec (motive := fun zz => Fr 1) (fun a b c d e f => F6.mk v b c d e f) t, by decide, fun e t => by kernel_rfl, fun e t v => by kernel_rfl⟩
noncomputable def sl1_1 : Sl 1 1 := ⟨fun t => F6.rec (motive := fun zz => QSV) (fun a b c d e f => b) t, fun t v => F6.rec (motive := fun zz => Fr 1) (fun a b c d e f => F6.mk a v c d e f) t, by decide, fun e t => by kernel_rfl, fun e t v => by kernel_rfl⟩
noncomputable def sl1_2 : Sl 1 2 := ⟨fun t => F6.rec (motive := fun zz => QSV) (fun a b c d e f => c) t, fun t v => F6.rec (motive := fun zz => Fr 1) (fun a b c d e f => F6.mk a b v d e f) t, by decide, fun e t => by kernel_rfl, fun e t v => by kernel_rfl⟩
noncomputable def sl1_3 : Sl 1 3 := ⟨fun t => F6.rec (motive := fun zz => QSV) (fun a b c d e f => d) t, fun t v => F6.rec (motive := fun zz => Fr 1) (fun a b c d e f => F6.mk a b c v e f) t, by decide, fun e t => by kernel_rfl, fun e t v => by kernel_rfl⟩
noncomputable def sl2_0 : Sl 2 0 := ⟨fun t => F6.rec (motive := fun zz => QSV) (fun a1 b1 c1 d1 e1 f1 => F6.rec (motive := fun zz => QSV) (fun a b c d e f => a) a1) t, fun t v => F6.rec (motive := fun zz => Fr 2) (fun a1 b1 c1 d1 e1 f1 => F6.mk (F6.rec (motive := fun zz => Fr 1) (fun a b c d e f => F6.mk v b c d e f) a1) b1 c1 d1 e1 f1) t, by decide, fun e t => by kernel_rfl, fun e t v => by kernel_rfl⟩
noncomputable def sl2_1 : Sl 2 1 := ⟨fun t => F6.rec (motive := fun zz => QSV) (fun a1 b1 c1 d1 e1 f1 => F6.rec (motive := fun zz => QSV) (fun a b c d e f => b) a1) t, fun t v => F6.rec (motive := fun zz => Fr 2) (fun a1 b1 c1 d1 e1 f1 => F6.mk (F6.rec (motive := fun zz => Fr 1) (fun a b c d e f => F6.mk a v c d e f) a1) b1 c1 d1 e1 f1) t, by decide, fun e t => by kernel_rfl, fun e t v => by kernel_rfl⟩
noncomputable def sl2_2 : Sl 2 2 := ⟨fun t => F6.rec (motive := fun zz => QSV) (fun a1 b1 c1 d1 e1 f1 => F6.rec (motive := fun zz => QSV) (fun a b c d e f => c) a1) t, fun t v => F6.rec (motive := fun zz => Fr 2) (fun a1 b1 c1 d1 e1 f1 => F6.mk (F6.rec (motive := fun zz => Fr 1) (fun a b c d e f => F6.mk a b v d e f) a1) b1 c1 d1 e1 f1) t, by decide, fun e t => by kernel_rfl, fun e t v => by kernel_rfl⟩
noncomputable def sl2_3 : Sl 2 3 := ⟨fun t => F6.rec (motive := fun zz => QSV) (fun a1 b1 c1 d1 e1 f1 => F6.rec (motive := fun zz => QSV) (fun a b c d e f => d) a1) t, fun t v => F6.rec (motive := fun zz => Fr 2) (fun a1 b1 c1 d1 e1 f1 => F6.mk (F6.rec (motive := fun zz => Fr 1) (fun a b c d e f => F6.mk a b c v e f) a1) b1 c1 d1 e1 f1) t, by decide, fun e t => by kernel_rfl, fun e t v => by kernel_rfl⟩
noncomputable def sl2_4 : Sl 2 4 := ⟨fun t => F6.rec (motive := fun zz => QSV) (fun a1 b1 c1 d1 e1 f1 => F6.rec (motive := fun zz => QSV) (fun a b c d e f => e) a1) t, fun t v => F6.rec (motive := fun zz => Fr 2) (fun a1 b1 c1 d1 e1 f1 => F6.mk (F6.rec (motive := fun zz => Fr 1) (fun a b c d e f => F6.mk a b c d v f) a1) b1 c1 d1 e1 f1) t, by decide, fun e t => by kernel_rfl, fun e t v => by kernel_rfl⟩
noncomputable def sl2_5 : Sl 2 5 := ⟨fun t => F6.rec (motive := fun zz => QSV) (fun a1 b1 c1 d1 e1 f1 => F6.rec (motive := fun zz => QSV) (fun a b c d e f => f) a1) t, fun t v => F6.rec (motive := fun zz => Fr 2) (fun a1 b1 c1 d1 e1 f1 => F6.mk (F6.rec (motive := fun zz => Fr 1) (fun a b c d e f => F6.mk a b c d e v) a1) b1 c1 d1 e1 f1) t, by decide, fun e t => by kernel_rfl, fun e t v => by kernel_rfl⟩
noncomputable def sl2_6 : Sl 2 6 := ⟨fun t => F6.rec (motive := fun zz => QSV) (fun a1 b1 c1 d1 e1 f1 => F6.rec (motive := fun zz => QSV) (fun a b c d e f => a) b1) t, fun t v => F6.rec (motive := fun zz => Fr 2) (fun a1 b1 c1 d1 e1 f1 => F6.mk a1 (F6.rec (motive := fun zz => Fr 1) (fun a b c d e f => F6.mk v b c d e f) b1) c1 d1 e1 f1) t, by decide, fun e t => by kernel_rfl, fun e t v => by kernel_rfl⟩
noncomputable def sl2_7 : Sl 2 7 := ⟨fun t => F6.rec (motive := fun zz => QSV) (fun a1 b1 c1 d1 e1 f1 => F6.rec (motive := fun zz => QSV) (fun a b c d e f => b) b1) t, fun t v => F6.rec (motive := fun zz => Fr 2) (fun a1 b1 c1 d1 e1 f1 => F6.mk a1 (F6.rec (motive := fun zz => Fr 1) (fun a b c d e f => F6.mk a v c d e f) b1) c1 d1 e1 f1) t, by decide, fun e t => by kernel_rfl, fun e t v => by kernel_rfl⟩
noncomputable def sl2_8 : Sl 2 8 := ⟨fun t => F6.rec (motive := fun zz => QSV) (fun a1 b1 c1 d1 e1 f1 => F6.rec (motive := fun zz => QSV) (fun a b c d e f => c) b1) t, fun t v => F6.rec (motive := fun zz => Fr 2) (fun a1 b1 c1 d1 e1 f1 => F6.mk a1 (F6.rec (motive := fun zz => Fr 1) (fun a b c d e f => F6.mk a b v d e f) b1) c1 d1 e1 f1) t, by decide, fun e t => by kernel_rfl, fun e t v => by kernel_rfl⟩
noncomputable def sl2_9 : Sl 2 9 := ⟨fun t => F6.rec (motive := fun zz => QSV) (fun a1 b1 c1 d1 e1 f1 => F6.rec (motive := fun zz => QSV) (fun a b c d e f => d) b1) t, fun t v => F6.rec (motive := fun zz => Fr 2) (fun a1 b1 c1 d1 e1 f1 => F6.mk a1 (F6.rec (motive := fun zz => Fr 1) (fun a b c d e f => F6.mk a b c v e f) b1) c1 d1 e1 f1) t, by decide, fun e t => by kernel_rfl, fun e t v => by kernel_rfl⟩
noncomputable def sl2_10 : Sl 2 10 := ⟨fun t => F6.rec (motive := fun zz => QSV) (fun a1 b1 c1 d1 e1 f1 => F6.rec (motive := fun zz => QSV) (fun a b c d e f => e) b1) t, fun t v => F6.rec (motive := fun zz => Fr 2) (fun a1 b1 c1 d1 e1 f1 => F6.mk a1 (F6.rec (motive := fun zz => Fr 1) (fun a b c d e f => F6.mk a b c d v f) b1) c1 d1 e1 f1) t, by decide, fun e t => by kernel_rfl, fun e t v => by kernel_rfl⟩
noncomputable def sl2_14 : Sl 2 14 := ⟨fun t => F6.rec (motive := fun zz => QSV) (fun a1 b1 c1 d1 e1 f1 => F6.rec (motive := fun zz => QSV) (fun a b c d e f => c) c1) t, fun t v => F6.rec (motive := fun zz => Fr 2) (fun a1 b1 c1 d1 e1 f1 => F6.mk a1 b1 (F6.rec (motive := fun zz => Fr 1) (fun a b c d e f => F6.mk a b v d e f) c1) d1 e1 f1) t, by decide, fun e t => by kernel_rfl, fun e t v => by kernel_rfl⟩
noncomputable def sl2_15 : Sl 2 15 := ⟨fun t => F6.rec (motive := fun zz => QSV) (fun a1 b1 c1 d1 e1 f1 => F6.rec (motive := fun zz => QSV) (fun a b c d e f => d) c1) t, fun t v => F6.rec (motive := fun zz => Fr 2) (fun a1 b1 c1 d1 e1 f1 => F6.mk a1 b1 (F6.rec (motive := fun zz => Fr 1) (fun a b c d e f => F6.mk a b c v e f) c1) d1 e1 f1) t, by decide, fun e t => by kernel_rfl, fun e t v => by kernel_rfl⟩
noncomputable def sl2_16 : Sl 2 16 := ⟨fun t => F6.rec (motive := fun zz => QSV) (fun a1 b1 c1 d1 e1 f1 => F6.rec (motive := fun zz => QSV) (fun a b c d e f => e) c1) t, fun t v => F6.rec (motive := fun zz => Fr 2) (fun a1 b1 c1 d1 e1 f1 => F6.mk a1 b1 (F6.rec (motive := fun zz => Fr 1) (fun a b c d e f => F6.mk a b c d v f) c1) d1 e1 f1) t, by decide, fun e t => by kernel_rfl, fun e t v => by kernel_rfl⟩
noncomputable def sl2_17 : Sl 2 17 := ⟨fun t => F6.rec (motive := fun zz => QSV) (fun a1 b1 c1 d1 e1 f1 => F6.rec (motive := fun zz => QSV) (fun a b c d e f => f) c1) t, fun t v => F6.rec (motive := fun zz => Fr 2) (fun a1 b1 c1 d1 e1 f1 => F6.mk a1 b1 (F6.rec (motive := fun zz => Fr 1) (fun a b c d e f => F6.mk a b c d e v) c1) d1 e1 f1) t, by decide, fun e t => by kernel_rfl, fun e t v => by kernel_rfl⟩
noncomputable def sl2_18 : Sl 2 18 := ⟨fun t => F6.rec (motive := fun zz => QSV) (fun a1 b1 c1 d1 e1 f1 => F6.rec (motive := fun zz => QSV) (fun a b c d e f => a) d1) t, fun t v => F6.rec (motive := fun zz => Fr 2) (fun a1 b1 c1 d1 e1 f1 => F6.mk a1 b1 c1 (F6.rec (motive := fun zz => Fr 1) (fun a b c d e f => F6.mk v b c d e f) d1) e1 f1) t, by decide, fun e t => by kernel_rfl, fun e t v => by kernel_rfl⟩
noncomputable def sl2_19 : Sl 2 19 := ⟨fun t => F6.rec (motive := fun zz => QSV) (fun a1 b1 c1 d1 e1 f1 => F6.rec (motive := fun zz => QSV) (fun a b c d e f => b) d1) t, fun t v => F6.rec (motive := fun zz => Fr 2) (fun a1 b1 c1 d1 e1 f1 => F6.mk a1 b1 c1 (F6.rec (motive := fun zz => Fr 1) (fun a b c d e f => F6.mk a v c d e f) d1) e1 f1) t, by decide, fun e t => by kernel_rfl, fun e t v => by kernel_rfl⟩
noncomputable def sl2_20 : Sl 2 20 := ⟨fun t => F6.rec (motive := fun zz => QSV) (fun a1 b1 c1 d1 e1 f1 => F6.rec (motive := fun zz => QSV) (fun a b c d e f => c) d1) t, fun t v => F6.rec (motive := fun zz => Fr 2) (fun a1 b1 c1 d1 e1 f1 => F6.mk a1 b1 c1 (F6.rec (motive := fun zz => Fr 1) (fun a b c d e f => F6.mk a b v d e f) d1) e1 f1) t, by decide, fun e t => by kernel_rfl, fun e t v => by kernel_rfl⟩
noncomputable def sl2_21 : Sl 2 21 := ⟨fun t => F6.rec (motive := fun zz => QSV) (fun a1 b1 c1 d1 e1 f1 => F6.rec (motive := fun zz => QSV) (fun a b c d e f => d) d1) t, fun t v => F6.rec (motive := fun zz => Fr 2) (fun a1 b1 c1 d1 e1 f1 => F6.mk a1 b1 c1 (F6.rec (motive := fun zz => Fr 1) (fun a b c d e f => F6.mk a b c v e f) d1) e1 f1) t, by decide, fun e t => by kernel_rfl, fun e t v => by kernel_rfl⟩
noncomputable def sl2_23 : Sl 2 23 := ⟨fun t => F6.rec (motive := fun zz => QSV) (fun a1 b1 c1 d1 e1 f1 => F6.rec (motive := fun zz => QSV) (fun a b c d e f => f) d1) t, fun t v => F6.rec (motive := fun zz => Fr 2) (fun a1 b1 c1 d1 e1 f1 => F6.mk a1 b1 c1 (F6.rec (motive := fun zz => Fr 1) (fun a b c d e f => F6.mk a b c d e v) d1) e1 f1) t, by decide, fun e t => by kernel_rfl, fun e t v => by kernel_rfl⟩
noncomputable def sl2_24 : Sl 2 24 := ⟨fun t => F6.rec (motive := fun zz => QSV) (fun a1 b1 c1 d1 e1 f1 => F6.rec (motive := fun zz => QSV) (fun a b c d e f => a) e1) t, fun t v => F6.rec (motive := fun zz => Fr 2) (fun a1 b1 c1 d1 e1 f1 => F6.mk a1 b1 c1 d1 (F6.rec (motive := fun zz => Fr 1) (fun a b c d e f => F6.mk v b c d e f) e1) f1) t, by decide, fun e t => by kernel_rfl, fun e t v => by kernel_rfl⟩
noncomputable def sl2_25 : Sl 2 25 := ⟨fun t => F6.rec (motive := fun zz => QSV) (fun a1 b1 c1 d1 e1 f1 => F6.rec (motive := fun zz => QSV) (fun a b c d e f => b) e1) t, fun t v => F6.rec (motive := fun zz => Fr 2) (fun a1 b1 c1 d1 e1 f1 => F6.mk a1 b1 c1 d1 (F6.rec (motive := fun zz => Fr 1) (fun a b c d e f => F6.mk a v c d e f) e1) f1) t, by decide, fun e t => by kernel_rfl, fun e t v => by kernel_rfl⟩
noncomputable def sl2_26 : Sl 2 26 := ⟨fun t => F6.rec (motive := fun zz => QSV) (fun a1 b1 c1 d1 e1 f1 => F6.rec (motive := fun zz => QSV) (fun a b c d e f => c) e1) t, fun t v => F6.rec (motive := fun zz => Fr 2) (fun a1 b1 c1 d1 e1 f1 => F6.mk a1 b1 c1 d1 (F6.rec (motive := fun zz => Fr 1) (fun a b c d e f => F6.mk a b v d e f) e1) f1) t, by decide, fun e t => by kernel_rfl, fun e t v => by kernel_rfl⟩
noncomputable def sl2_27 : Sl 2 27 := ⟨fun t => F6.rec (motive := fun zz => QSV) (fun a1 b1 c1 d1 e1 f1 => F6.rec (motive := fun zz => QSV) (fun a b c d e f => d) e1) t, fun t v => F6.rec (motive := fun zz => Fr 2) (fun a1 b1 c1 d1 e1 f1 => F6.mk a1 b1 c1 d1 (F6.rec (motive := fun zz => Fr 1) (fun a b c d e f => F6.mk a b c v e f) e1) f1) t, by decide, fun e t => by kernel_rfl, fun e t v => by kernel_rfl⟩
noncomputable def sl2_28 : Sl 2 28 := ⟨fun t => F6.rec (motive := fun zz => QSV) (fun a1 b1 c1 d1 e1 f1 => F6.rec (motive := fun zz => QSV) (fun a b c d e f => e) e1) t, fun t v => F6.rec (motive := fun zz => Fr 2) (fun a1 b1 c1 d1 e1 f1 => F6.mk a1 b1 c1 d1 (F6.rec (motive := fun zz => Fr 1) (fun a b c d e f => F6.mk a b c d v f) e1) f1) t, by decide, fun e t => by kernel_rfl, fun e t v => by kernel_rfl⟩
noncomputable def sl2_29 : Sl 2 29 := ⟨fun t => F6.rec (motive := fun zz => QSV) (fun a1 b1 c1 d1 e1 f1 => F6.rec (motive := fun zz => QSV) (fun a b c d e f => f) e1) t, fun t v => F6.rec (motive := fun zz => Fr 2) (fun a1 b1 c1 d1 e1 f1 => F6.mk a1 b1 c1 d1 (F6.rec (motive := fun zz => Fr 1) (fun a b c d e f => F6.mk a b c d e v) e1) f1) t, by decide, fun e t => by kernel_rfl, fun e t v => by kernel_rfl⟩
noncomputable def sl2_30 : Sl 2 30 := ⟨fun t => F6.rec (motive := fun zz => QSV) (fun a1 b1 c1 d1 e1 f1 => F6.rec (motive := fun zz => QSV) (fun a b c d e f => a) f1) t, fun t v => F6.rec (motive := fun zz => Fr 2) (fun a1 b1 c1 d1 e1 f1 => F6.mk a1 b1 c1 d1 e1 (F6.rec (motive := fun zz => Fr 1) (fun a b c d e f => F6.mk v b c d e f) f1)) t, by decide, fun e t => by kernel_rfl, fun e t v => by kernel_rfl⟩
noncomputable def sl2_31 : Sl 2 31 := ⟨fun t => F6.rec (motive := fun zz => QSV) (fun a1 b1 c1 d1 e1 f1 => F6.rec (motive := fun zz => QSV) (fun a b c d e f => b) f1) t, fun t v => F6.rec (motive := fun zz => Fr 2) (fun a1 b1 c1 d1 e1 f1 => F6.mk a1 b1 c1 d1 e1 (F6.rec (motive := fun zz => Fr 1) (fun a b c d e f => F6.mk a v c d e f) f1)) t, by decide, fun e t => by kernel_rfl, fun e t v => by kernel_rfl⟩
noncomputable def sl2_32 : Sl 2 32 := ⟨fun t => F6.rec (motive := fun zz => QSV) (fun a1 b1 c1 d1 e1 f1 => F6.rec (motive := fun zz => QSV) (fun a b c d e f => c) f1) t, fun t v => F6.rec (motive := fun zz => Fr 2) (fun a1 b1 c1 d1 e1 f1 => F6.mk a1 b1 c1 d1 e1 (F6.rec (motive := fun zz => Fr 1) (fun a b c d e f => F6.mk a b v d e f) f1)) t, by decide, fun e t => by kernel_rfl, fun e t v => by kernel_rfl⟩
noncomputable def sl2_33 : Sl 2 33 := ⟨fun t => F6.rec (motive := fun zz => QSV) (fun a1 b1 c1 d1 e1 f1 => F6.rec (motive := fun zz => QSV) (fun a b c d e f => d) f1) t, fun t v => F6.rec (motive := fun zz => Fr 2) (fun a1 b1 c1 d1 e1 f1 => F6.mk a1 b1 c1 d1 e1 (F6.rec (motive := fun zz => Fr 1) (fun a b c d e f => F6.mk a b c v e f) f1)) t, by decide, fun e t => by kernel_rfl, fun e t v => by kernel_rfl⟩
noncomputable def sl2_34 : Sl 2 34 := ⟨fun t => F6.rec (motive := fun zz => QSV) (fun a1 b1 c1 d1 e1 f1 => F6.rec (motive := fun zz => QSV) (fun a b c d e f => e) f1) t, fun t v => F6.rec (motive := fun zz => Fr 2) (fun a1 b1 c1 d1 e1 f1 => F6.mk a1 b1 c1 d1 e1 (F6.rec (motive := fun zz => Fr 1) (fun a b c d e f => F6.mk a b c d v f) f1)) t, by decide, fun e t => by kernel_rfl, fun e t v => by kernel_rfl⟩
end Mine
namespace Mine
open PySem PySem.W PyProof.Rows
noncomputable def n_heaps2 : List (Nat × Str) := [(0, "script"), (1, "heaps"), (2, "place")]
noncomputable def p_heaps2 : List Str := ["script"]
noncomputable def z_heaps2 : Nat := 4
noncomputable def x_heaps2 : Ss :=
  (.cons (.assign 1 (.own (.lst (.cons (.k (.int 20464)) (.cons (.k (.int 26)) (.cons (.k (.int 7)) (.cons (.k (.int 12)) .nil)))))))
  (.cons (.for_ (.one 2) (.rng (.e (.op1 .len (.v 0))))
  (.cons (.augIdx 1 (.e (.op2 .mod (.v 2) (.e (.k (.int 4))))) (.e (.op2 .idx (.v 0) (.v 2))))
    .nil))
  (.cons (.ret (.e (.comp [(3, "heap")] (.for_ (.one 3) (.one (.v 1)) .nil (.emit (.op2 .mod (.v 3) (.e (.op2 .pow (.e (.k (.int 10))) (.e (.k (.int 6)))))))))))
  .nil)))
noncomputable def n_picked : List (Nat × Str) := [(0, "number"), (1, "things"), (2, "left"), (3, "picked"), (4, "turn")]
noncomputable def p_picked : List Str := ["number", "things"]
noncomputable def z_picked : Nat := 5
noncomputable def x_picked : Ss :=
  (.cons (.unpack [(2, .own (.op1 .list_ (.v 1))), (3, .own (.lst .nil))])
  (.cons (.for_ (.one 4) (.rng (.e (.k (.int 4))))
  (.cons (.popAdd 3 2 (.e (.op2 .mod (.v 0) (.e (.op1 .len (.v 2))))))
    (.cons (.aug 0 .fdiv (.e (.op2 .add (.e (.op1 .len (.v 2))) (.e (.k (.int 1))))))
    .nil)))
  (.cons (.ret (.v 3))
  .nil)))
noncomputable def n_cut : List (Nat × Str) := [(0, "row"), (1, "sizes"), (2, "pieces"), (3, "size")]
noncomputable def p_cut : List Str := ["row", "sizes"]
noncomputable def x_cut : Ss :=
  (.cons (.assign 2 (.own (.lst .nil)))
  (.cons (.for_ (.one 3) (.one (.v 1))
  (.cons (.if_ (.x (.e (.op2 .ne (.v 0) (.e (.k (.str []))))))
    (.cons (.append 2 (.op2 .to_ (.v 0) (.v 3)))
      .nil)
    .nil)
    (.cons (.assign 0 (.val (.op2 .from_ (.v 0) (.v 3))))
    .nil)))
  (.cons (.if_ (.x (.e (.op2 .ne (.v 0) (.e (.k (.str []))))))
  (.cons (.append 2 (.var 0))
    .nil)
  .nil)
  (.cons (.ret (.v 2))
  .nil))))
noncomputable def n_next : List (Nat × Str) := [(0, "row"), (1, "first"), (2, "last"), (3, "rest")]
noncomputable def p_next : List Str := ["row"]
noncomputable def x_next : Ss :=
  (.cons (.unpack [(1, .val (.op2 .sub (.e (.op1 .len (.v 0))) (.e (.k (.int 2))))), (2, .val (.op2 .sub (.e (.op1 .len (.v 0))) (.e (.k (.int 1)))))])
  (.cons (.while_ 8 (.bool_ false (.cons (.x (.e (.op2 .ge (.v 1) (.e (.k (.int 0)))))) (.cons (.x (.e (.op2 .ne (.e (.call "_strcoll" (.cons (.op2 .idx (.v 0) (.v 1)) (.cons (.op2 .idx (.v 0) (.e (.op2 .add (.v 1) (.e (.k (.int 1)))))) .nil)))) (.e (.op1 .neg (.e (.k (.int 1)))))))) .nil)))
  (.cons (.aug 1 .sub (.e (.k (.int 1))))
    .nil))
  (.cons (.if_ (.x (.e (.op2 .lt (.v 1) (.e (.k (.int 0))))))
  (.cons (.ret (.e (.k (.str []))))
    .nil)
  .nil)
  (.cons (.while_ 8 (.x (.e (.op2 .ne (.e (.call "_strcoll" (.cons (.op2 .idx (.v 0) (.v 2)) (.cons (.op2 .idx (.v 0) (.v 1)) .nil)))) (.e (.k (.int 1))))))
  (.cons (.aug 2 .sub (.e (.k (.int 1))))
    .nil))
  (.cons (.assign 3 (.val (.op2 .add (.e (.op2 .add (.e (.op3 (.v 0) (.e (.op2 .add (.v 1) (.e (.k (.int 1))))) (.v 2))) (.e (.op2 .idx (.v 0) (.v 1))))) (.e (.op2 .from_ (.v 0) (.e (.op2 .add (.v 2) (.e (.k (.int 1))))))))))
  (.cons (.ret (.e (.op2 .add (.e (.op2 .add (.e (.op2 .to_ (.v 0) (.v 1))) (.e (.op2 .idx (.v 0) (.v 2))))) (.e (.op1 .rev (.v 3))))))
  .nil))))))
noncomputable def n_orders : List (Nat × Str) := [(0, "row"), (1, "orders")]
noncomputable def p_orders : List Str := ["row"]
noncomputable def x_orders : Ss :=
  (.cons (.assign 1 (.own (.lst .nil)))
  (.cons (.while_ 30 (.bool_ false (.cons (.x (.e (.op2 .ne (.v 0) (.e (.k (.str [])))))) (.cons (.x (.e (.op2 .lt (.e (.op1 .len (.v 1))) (.e (.k (.int 25)))))) .nil)))
  (.cons (.append 1 (.var 0))
    (.cons (.assign 0 (.val (.call "_law_next" (.cons (.var 0) .nil))))
    .nil)))
  (.cons (.ret (.v 1))
  .nil)))
noncomputable def n_riffled : List (Nat × Str) := [(0, "pieces"), (1, "row"), (2, "piece")]
noncomputable def p_riffled : List Str := ["pieces", "row"]
noncomputable def x_riffled : Ss :=
  (.cons (.for_ (.one 2) (.one (.v 0))
  (.cons (.if_ (.bool_ false (.cons (.x (.e (.op2 .gt (.e (.op1 .len (.v 2))) (.e (.k (.int 1)))))) (.cons (.x (.e (.op2 .isNot (.e (.call "_ellipsis_match" (.cons (.op2 .add (.e (.op2 .add (.e (.k (.str [46, 46, 46]))) (.e (.op2 .join (.e (.k (.str [46, 46, 46]))) (.v 2))))) (.e (.k (.str [46, 46, 46])))) (.cons (.var 1) .nil)))) (.e (.k (.bool true)))))) .nil)))
    (.cons (.ret (.e (.k (.bool false))))
      .nil)
    .nil)
    .nil))
  (.cons (.ret (.e (.k (.bool true))))
  .nil))
noncomputable def n_dealt : List (Nat × Str) := [(0, "named"), (1, "labels"), (2, "deck"), (3, "aim"), (4, "table"), (5, "piles"), (6, "told"), (7, "turn"), (8, "label"), (9, "place"), (10, "letter")]
noncomputable def p_dealt : List Str := ["named", "labels", "deck", "aim"]
noncomputable def x_dealt : Ss :=
  (.cons (.unpack [(4, .hdr), (5, .own (.lst .nil)), (6, .val (.lst .nil))])
  (.cons (.for_ (.one 7) (.rng (.e (.k (.int 4))))
  (.cons (.assign 8 (.val (.op2 .idx (.v 0) (.e (.op2 .index (.v 2) (.e (.op2 .idx (.v 3) (.v 7))))))))
    (.cons (.sp 0)
    .nil)))
  (.cons (.for_ (.one 9) (.rng (.e (.op1 .len (.v 1))))
  (.cons (.assign 6 (.val (.hget 182 4 (.e (.ite (.x (.e (.op2 .mod (.v 9) (.e (.k (.int 2)))))) (.op2 .idx (.v 1) (.v 9)) (.op1 .lower (.e (.op2 .idx (.v 1) (.v 9)))))))))
    (.cons (.augL 5 (.v 6))
    .nil)))
  (.cons (.for_ (.one 10) (.one (.e (.op2 .from_ (.v 6) (.e (.op1 .neg (.e (.k (.int 1))))))))
  (.cons (.sp 1)
    .nil))
  (.cons (.if_ (.bool_ true (.cons (.x (.e (.op2 .ne (.e (.hget 182 4 (.e (.op2 .idx (.v 1) (.e (.op1 .neg (.e (.k (.int 1))))))))) (.e (.op2 .add (.v 6) (.e (.op2 .from_ (.v 6) (.e (.op1 .neg (.e (.k (.int 1)))))))))))) (.cons (.x (.e (.op2 .ne (.e (.hget 182 4 (.e (.k (.str [45]))))) (.e (.lst .nil))))) .nil)))
  (.cons (.ret (.e (.k (.str []))))
    .nil)
  .nil)
  (.cons (.ret (.e (.op2 .join (.e (.k (.str []))) (.v 5))))
  .nil))))))
noncomputable def s_law2_0 : S :=
  (.assign 1 (.val (.call "_law_heaps" (.cons (.var 0) .nil))))
noncomputable def s_law2_1 : S :=
  (.assign 2 (.val (.call "_law_picked" (.cons (.op2 .idx (.v 1) (.e (.k (.int 0)))) (.cons (.rngv 16) .nil)))))
noncomputable def s_law2_2 : S :=
  (.assign 3 (.val (.op2 .add (.e (.op2 .mul (.e (.op2 .add (.e (.op2 .mul (.e (.op2 .add (.e (.op2 .mul (.e (.op2 .idx (.v 2) (.e (.k (.int 0))))) (.e (.k (.int 16))))) (.e (.op2 .idx (.v 2) (.e (.k (.int 1))))))) (.e (.k (.int 16))))) (.e (.op2 .idx (.v 2) (.e (.k (.int 2))))))) (.e (.k (.int 16))))) (.e (.op2 .idx (.v 2) (.e (.k (.int 3))))))))
noncomputable def s_law2_3 : S :=
  (.assign 4 (.val (.call "Int2AP" (.cons (.ite (.x (.e (.op2 .mod (.e (.op2 .fdiv (.e (.op2 .idx (.v 1) (.e (.k (.int 1))))) (.e (.k (.int 24))))) (.e (.k (.int 2)))))) (.op1 .neg (.v 3)) (.var 3)) .nil))))
noncomputable def s_law2_4 : S :=
  (.assign 5 (.val (.op2 .add (.e (.op2 .mul (.e (.k (.str [65]))) (.e (.op2 .sub (.e (.k (.int 4))) (.e (.op1 .len (.v 4))))))) (.e (.op1 .decode (.v 4))))))
noncomputable def s_law2_5 : S :=
  (.if_ (.bool_ true (.cons (.x (.e (.op2 .eq (.e (.op2 .to_ (.v 4) (.e (.k (.int 1))))) (.e (.k (.bytes [65])))))) (.cons (.x (.e (.op2 .ne (.v 5) (.e (.op2 .join (.e (.k (.str []))) (.e (.comp [(31, "figure")] (.for_ (.one 31) (.one (.v 2)) .nil (.emit (.op1 .chr (.e (.op2 .add (.e (.k (.int 65))) (.v 31))))))))))))) .nil)))
  (.cons (.ret (.e (.k (.bool false))))
    .nil)
  .nil)
noncomputable def s_law2_6 : S :=
  (.unpack [(6, .val (.op2 .join (.e (.k (.str []))) (.e (.call "_law_picked" (.cons (.op2 .idx (.v 1) (.e (.k (.int 1)))) (.cons (.var 5) .nil)))))), (7, .own (.lst .nil))])
noncomputable def s_law2_7 : S :=
  (.for_ (.one 8) (.one (.e (.op2 .from_ (.v 1) (.e (.k (.int 2))))))
  (.cons (.unpack [(9, .val (.op2 .add (.e (.k (.int 1))) (.e (.op2 .mod (.v 8) (.e (.k (.int 3))))))), (10, .val (.op2 .add (.e (.k (.int 1))) (.e (.op2 .mod (.e (.op2 .fdiv (.v 8) (.e (.k (.int 3))))) (.e (.k (.int 3))))))), (11, .val (.op2 .mod (.e (.op2 .mod (.e (.op2 .fdiv (.v 8) (.e (.k (.int 9))))) (.e (.k (.int 7))))) (.e (.k (.int 4)))))])
    (.cons (.assign 12 (.val (.op2 .idx (.e (.lst (.cons (.lst (.cons (.var 9) (.cons (.k (.int 0)) (.cons (.var 10) .nil)))) (.cons (.lst (.cons (.var 9) (.cons (.var 10) .nil))) (.cons (.lst (.cons (.var 9) (.cons (.k (.int 127)) (.cons (.var 10) .nil)))) (.cons (.lst (.cons (.k (.int 127)) (.cons (.var 9) (.cons (.var 10) .nil)))) .nil)))))) (.v 11))))
    (.cons (.assign 13 (.val (.comp [(31, "turn"), (32, "step")] (.for_ (.two 31 32) (.gi 3 (.var 12)) .nil (.emit (.var 32))))))
    (.cons (.if_ (.x (.e (.op2 .ne (.v 13) (.e (.op2 .idx (.e (.lst (.cons (.lst (.cons (.var 9) (.cons (.var 9) (.cons (.var 9) .nil)))) (.cons (.lst (.cons (.var 9) (.cons (.var 10) .nil))) (.cons (.lst (.cons (.var 9) .nil)) (.cons (.lst .nil) .nil)))))) (.v 11))))))
    (.cons (.ret (.e (.k (.bool false))))
      .nil)
    .nil)
    (.cons (.append 7 (.op2 .to_ (.v 13) (.e (.k (.int 2)))))
    .nil))))))
noncomputable def s_law2_8 : S :=
  (.assign 14 (.val (.op1 .sorted_ (.v 5))))
noncomputable def s_law2_9 : S :=
  (.assign 15 (.val (.call "_law_orders" (.cons (.op2 .join (.e (.k (.str []))) (.v 14)) .nil))))
noncomputable def s_law2_10 : S :=
  (.if_ (.x (.e (.op2 .ne (.v 15) (.e (.comp [(31, "a"), (32, "b"), (33, "c"), (34, "d")] (.for_ (.one 31) (.one (.v 14)) .nil (.for_ (.one 32) (.one (.v 14)) (.cons (.x (.e (.op2 .ne (.v 32) (.v 31)))) .nil) (.for_ (.one 33) (.one (.v 14)) (.cons (.x (.e (.op2 .notIn (.v 33) (.e (.op2 .add (.v 31) (.v 32)))))) .nil) (.for_ (.one 34) (.one (.v 14)) (.cons (.x (.e (.op2 .notIn (.v 34) (.e (.op2 .add (.e (.op2 .add (.v 31) (.v 32))) (.v 33)))))) .nil) (.emit (.op2 .add (.e (.op2 .add (.e (.op2 .add (.v 31) (.v 32))) (.v 33))) (.v 34))))))))))))
  (.cons (.ret (.e (.k (.bool false))))
    .nil)
  .nil)
noncomputable def s_law2_11 : S :=
  (.assign 16 (.val (.call "_law_cut" (.cons (.var 5) (.cons (.op2 .idx (.v 7) (.e (.k (.int 0)))) .nil)))))
noncomputable def s_law2_12 : S :=
  (.assign 17 (.val (.comp [(31, "row")] (.for_ (.one 31) (.one (.v 15)) (.cons (.bool_ false (.cons (.x (.e (.call "_law_riffled" (.cons (.var 16) (.cons (.var 31) .nil))))) (.cons (.x (.e (.call "_law_riffled" (.cons (.call "_law_cut" (.cons (.var 31) (.cons (.op2 .idx (.v 7) (.e (.k (.int 1)))) .nil))) (.cons (.var 6) .nil))))) .nil))) .nil) (.emit (.var 31))))))
noncomputable def s_law2_13 : S :=
  (.for_ (.one 18) (.one (.v 17))
  (.cons (.if_ (.x (.e (.op2 .isNot (.e (.call "_ellipsis_match" (.cons (.op2 .add (.e (.op2 .add (.e (.op2 .to_ (.v 18) (.e (.k (.int 2))))) (.e (.k (.str [46, 46, 46]))))) (.e (.op2 .from_ (.v 18) (.e (.k (.int 2)))))) (.cons (.var 18) .nil)))) (.e (.k (.bool true))))))
    (.cons (.ret (.e (.k (.bool false))))
      .nil)
    .nil)
    (.cons (.if_ (.x (.e (.op2 .isNot (.e (.call "_ellipsis_match" (.cons (.op2 .add (.e (.op2 .add (.e (.op2 .to_ (.v 18) (.e (.k (.int 3))))) (.e (.k (.str [46, 46, 46]))))) (.e (.op2 .from_ (.v 18) (.e (.k (.int 2)))))) (.cons (.var 18) .nil)))) (.e (.k (.bool false))))))
    (.cons (.ret (.e (.k (.bool false))))
      .nil)
    .nil)
    (.cons (.for_ (.one 19) (.one (.v 16))
    (.cons (.assign 20 (.val (.bool_ false (.cons (.op2 .gt (.e (.op1 .len (.v 19))) (.e (.k (.int 1)))) (.cons (.op2 .eq (.e (.op2 .idx (.v 18) (.e (.k (.int 0))))) (.e (.op2 .idx (.v 19) (.e (.k (.int 0)))))) (.cons (.op2 .eq (.e (.op2 .idx (.v 18) (.e (.op1 .neg (.e (.k (.int 1))))))) (.e (.op2 .idx (.v 19) (.e (.op1 .neg (.e (.k (.int 1)))))))) .nil))))))
      (.cons (.if_ (.x (.e (.op2 .isNot (.e (.call "_ellipsis_match" (.cons (.op2 .join (.e (.k (.str [46, 46, 46]))) (.v 19)) (.cons (.var 18) .nil)))) (.v 20))))
      (.cons (.ret (.e (.k (.bool false))))
        .nil)
      .nil)
      (.cons (.if_ (.x (.e (.op2 .isNot (.e (.call "_ellipsis_match" (.cons (.op2 .add (.e (.op2 .add (.e (.k (.str [46, 46, 46]))) (.v 19))) (.e (.k (.str [46, 46, 46])))) (.cons (.var 18) .nil)))) (.e (.op2 .in_ (.v 19) (.v 18))))))
      (.cons (.ret (.e (.k (.bool false))))
        .nil)
      .nil)
      .nil))))
    .nil))))
noncomputable def s_law2_14 : S :=
  (.unpack [(21, .val (.call "_law_cut" (.cons (.var 5) (.cons (.op2 .idx (.v 7) (.e (.k (.int 1)))) .nil)))), (22, .val (.op2 .add (.e (.k (.int 1))) (.e (.op2 .mod (.e (.op2 .fdiv (.e (.op2 .idx (.v 1) (.e (.k (.int 0))))) (.e (.k (.int 43680))))) (.e (.k (.int 13)))))))])
noncomputable def s_law2_15 : S :=
  (.assign 23 (.val (.comp [(31, "place")] (.for_ (.one 31) (.rng (.e (.op1 .len (.v 21)))) .nil (.emit (.op1 .decode (.e (.call "Int2AP" (.cons (.op2 .mul (.v 22) (.e (.op2 .pow (.e (.k (.int 16))) (.v 31)))) .nil)))))))))
noncomputable def s_law2_16 : S :=
  (.assign 24 (.val (.op2 .join (.e (.k (.str []))) (.e (.comp [(31, "place")] (.for_ (.one 31) (.rng (.e (.op1 .len (.v 21)))) .nil (.emit (.op2 .mul (.e (.op2 .idx (.e (.k (.str [65, 66, 67]))) (.v 31))) (.e (.op1 .len (.e (.op2 .idx (.v 21) (.v 31)))))))))))))
noncomputable def s_law2_17 : S :=
  (.assign 25 (.val (.comp [(31, "k")] (.for_ (.one 31) (.rng (.e (.k (.int 3)))) .nil (.emit (.call "_ellipsis_match" (.cons (.op2 .add (.e (.op2 .add (.e (.op2 .add (.e (.op2 .add (.e (.k (.str [46, 46, 46]))) (.e (.op2 .idx (.v 5) (.v 31))))) (.e (.k (.str [46, 46, 46]))))) (.e (.op2 .idx (.v 5) (.e (.op2 .add (.v 31) (.e (.k (.int 1))))))))) (.e (.k (.str [46, 46, 46])))) (.cons (.var 6) .nil))))))))
noncomputable def s_law2_18 : S :=
  (.assign 26 (.val (.comp [(31, "k")] (.for_ (.one 31) (.rng (.e (.op1 .len (.v 16)))) .nil (.emit (.op1 .len (.e (.op2 .join (.e (.k (.str []))) (.e (.op2 .to_ (.v 16) (.e (.op2 .add (.v 31) (.e (.k (.int 1)))))))))))))))
noncomputable def s_law2_19 : S :=
  (.assign 27 (.own (.lst .nil)))
noncomputable def s_law2_20 : S :=
  (.for_ (.one 28) (.one (.e (.call "_law_orders" (.cons (.var 24) .nil))))
  (.cons (.assign 29 (.val (.comp [(31, "letter")] (.for_ (.one 31) (.one (.v 28)) .nil (.emit (.op2 .idx (.v 23) (.e (.op2 .index (.e (.k (.str [65, 66, 67]))) (.v 31)))))))))
    (.cons (.assign 30 (.val (.comp [(31, "k")] (.for_ (.one 31) (.rng (.e (.k (.int 3)))) .nil (.emit (.call "_strcoll" (.cons (.op2 .idx (.v 29) (.v 31)) (.cons (.op2 .idx (.v 29) (.e (.op2 .add (.v 31) (.e (.k (.int 1)))))) .nil))))))))
    (.cons (.if_ (.x (.e (.op2 .eq (.e (.comp [(31, "k")] (.for_ (.one 31) (.rng (.e (.k (.int 3)))) (.cons (.bool_ false (.cons (.x (.e (.op2 .notIn (.e (.op2 .add (.v 31) (.e (.k (.int 1))))) (.v 26)))) (.cons (.x (.e (.op2 .ne (.e (.op2 .idx (.v 30) (.v 31))) (.e (.op1 .neg (.e (.k (.int 1)))))))) (.cons (.bool_ true (.cons (.x (.e (.op2 .ne (.e (.op2 .idx (.v 30) (.v 31))) (.e (.k (.int 0)))))) (.cons (.not_ (.x (.e (.op2 .idx (.v 25) (.v 31))))) .nil))) .nil)))) .nil) (.emit (.var 31))))) (.e (.lst .nil)))))
    (.cons (.append 27 (.call "_law_dealt" (.cons (.var 29) (.cons (.var 23) (.cons (.var 5) (.cons (.var 6) .nil))))))
      .nil)
    .nil)
    .nil))))
noncomputable def s_law2_21 : S :=
  (.ret (.e (.op2 .eq (.e (.op1 .sorted_ (.v 27))) (.v 17))))
noncomputable def n_law2 : List (Nat × Str) := [(0, "script"), (1, "heaps"), (2, "figures"), (3, "number"), (4, "written"), (5, "deck"), (6, "aim"), (7, "sizes"), (8, "heap"), (9, "size"), (10, "other"), (11, "form"), (12, "ruler"), (13, "told"), (14, "low"), (15, "orders"), (16, "packets"), (17, "between"), (18, "row"), (19, "packet"), (20, "ends"), (21, "pieces"), (22, "lowest"), (23, "labels"), (24, "naming"), (25, "ahead"), (26, "marks"), (27, "dealt"), (28, "letters"), (29, "named"), (30, "signs")]
noncomputable def p_law2 : List Str := ["script"]
noncomputable def x_law2 : Ss :=
  (.cons s_law2_0 (.cons s_law2_1 (.cons s_law2_2 (.cons s_law2_3 (.cons s_law2_4 (.cons s_law2_5 (.cons s_law2_6 (.cons s_law2_7 (.cons s_law2_8 (.cons s_law2_9 (.cons s_law2_10 (.cons s_law2_11 (.cons s_law2_12 (.cons s_law2_13 (.cons s_law2_14 (.cons s_law2_15 (.cons s_law2_16 (.cons s_law2_17 (.cons s_law2_18 (.cons s_law2_19 (.cons s_law2_20 (.cons s_law2_21 .nil))))))))))))))))))))))
noncomputable def spD : List SPx := [
  .addH 4 (.ite (.x (.e (.op2 .mod (.v 7) (.e (.k (.int 2)))))) (.op1 .lower (.v 8)) (.var 8)) (.op2 .idx (.v 3) (.v 7)),
  .addH 4 (.op2 .idx (.v 1) (.e (.op1 .neg (.e (.k (.int 1)))))) (.var 10)]
noncomputable def gl3 : List (Str × PV) := [("ELLIPSIS_MARKER", .str [46, 46, 46]), ("CHAR_MAX", .int 127)]
noncomputable def k3 (sc : Scope) (nm : List (Nat × Str)) (c : Addr) : KC := ⟨sc, nm, true, gl3, true, some c, false⟩
end Mine
namespace Mine
noncomputable def rAbc {F : FT} {Z : Nat} : RX F Z (.k (.str [65, 66, 67])) := rK (.abs [75, 76, 77]) fun e E => by
  show PV.str [e 75, e 76, e 77] = _
  rw [E.n0, E.n1, E.n2]
noncomputable def r_cut {F : FT} {SP : SPT} : RSs F SP 1 x_cut := (rC (rAsg sl1_2 (rOwn (rLst rXn))) (rC (rForV sl1_1 (tOne sl1_3) (rC (rIf (rTx (rE (rOp2 kne (rV sl1_0) (rE (rA [] rfl))))) (rC (rApp sl1_2 (rOp2 kto (rV sl1_0) (rV sl1_3))) rN) rN) (rC (rAsg sl1_0 (rVal (rOp2 kfrom (rV sl1_0) (rV sl1_3)))) rN))) (rC (rIf (rTx (rE (rOp2 kne (rV sl1_0) (rE (rA [] rfl))))) (rC (rApp sl1_2 (rVar sl1_0)) rN) rN) (rC (rRet (rV sl1_2)) rN))))
noncomputable def r_next {F : FT} {SP : SPT} (Ksc : FnQ F "_strcoll") : RSs F SP 1 x_next := (rC (rUnp (rUc sl1_1 (rVal (rOp2 ksub (rE (rOp1 klen (rV sl1_0))) (rE (rI 2)))) (rUc sl1_2 (rVal (rOp2 ksub (rE (rOp1 klen (rV sl1_0))) (rE (rI 1)))) rUn))) (rC (rWh 8 (rTb (rTsc (rTx (rE (rOp2 kge (rV sl1_1) (rE (rI 0))))) (rTsc (rTx (rE (rOp2 kne (rE (rCall Ksc (rXc (rOp2 kidx (rV sl1_0) (rV sl1_1)) (rXc (rOp2 kidx (rV sl1_0) (rE (rOp2 kadd (rV sl1_1) (rE (rI 1))))) rXn)))) (rE (rOp1 kneg (rE (rI 1))))))) rTsn))) (rC (rAug sl1_1 ksub (rE (rI 1))) rN)) (rC (rIf (rTx (rE (rOp2 klt (rV sl1_1) (rE (rI 0))))) (rC (rRet (rE (rA [] rfl))) rN) rN) (rC (rWh 8 (rTx (rE (rOp2 kne (rE (rCall Ksc (rXc (rOp2 kidx (rV sl1_0) (rV sl1_2)) (rXc (rOp2 kidx (rV sl1_0) (rV sl1_1)) rXn)))) (rE (rI 1))))) (rC (rAug sl1_2 ksub (rE (rI 1))) rN)) (rC (rAsg sl1_3 (rVal (rOp2 kadd (rE (rOp2 kadd (rE (rOp3 (rV sl1_0) (rE (rOp2 kadd (rV sl1_1) (rE (rI 1)))) (rV sl1_2))) (rE (rOp2 kidx (rV sl1_0) (rV sl1_1))))) (rE (rOp2 kfrom (rV sl1_0) (rE (rOp2 kadd (rV sl1_2) (rE (rI 1))))))))) (rC (rRet (rE (rOp2 kadd (rE (rOp2 kadd (rE (rOp2 kto (rV sl1_0) (rV sl1_1))) (rE (rOp2 kidx (rV sl1_0) (rV sl1_2))))) (rE (rOp1 krev (rV sl1_3)))))) rN))))))
noncomputable def r_orders {F : FT} {SP : SPT} (Kne : FnQ F "_law_next") : RSs F SP 1 x_orders := (rC (rAsg sl1_1 (rOwn (rLst rXn))) (rC (rWh 30 (rTb (rTsc (rTx (rE (rOp2 kne (rV sl1_0) (rE (rA [] rfl))))) (rTsc (rTx (rE (rOp2 klt (rE (rOp1 klen (rV sl1_1))) (rE (rI 25))))) rTsn))) (rC (rApp sl1_1 (rVar sl1_0)) (rC (rAsg sl1_0 (rVal (rCall Kne (rXc (rVar sl1_0) rXn)))) rN))) (rC (rRet (rV sl1_1)) rN)))
noncomputable def r_riffled {F : FT} {SP : SPT} (Kel : FnQ F "_ellipsis_match") : RSs F SP 1 x_riffled := (rC (rForV sl1_0 (tOne sl1_2) (rC (rIf (rTb (rTsc (rTx (rE (rOp2 kgt (rE (rOp1 klen (rV sl1_2))) (rE (rI 1))))) (rTsc (rTx (rE (rOp2 kisNot (rE (rCall Kel (rXc (rOp2 kadd (rE (rOp2 kadd (rE (rA [46, 46, 46] rfl)) (rE (rOp2 kjoin (rE (rA [46, 46, 46] rfl)) (rV sl1_2))))) (rE (rA [46, 46, 46] rfl))) (rXc (rVar sl1_1) rXn)))) (rE (rBo true))))) rTsn))) (rC (rRet (rE (rBo false))) rN) rN) rN)) (rC (rRet (rE (rBo true))) rN))
noncomputable def r_dealt {F : FT} : RSs F (spTab 182 spD) 2 x_dealt := (rC (rUnp (rUc sl2_4 rHdr (rUc sl2_5 (rOwn (rLst rXn)) (rUc sl2_6 (rVal (rLst rXn)) rUn)))) (rC (rFor (tOne sl2_7) (fun zz => rfl) (rRng (rE (rI 4))) (rC (rAsg sl2_8 (rVal (rOp2 kidx (rV sl2_0) (rE (rOp2 kindex (rV sl2_2) (rE (rOp2 kidx (rV sl2_3) (rV sl2_7)))))))) (rC (rSp 0 rfl (rAddH sl2_4 (rIte (rTx (rE (rOp2 kmod (rV sl2_7) (rE (rI 2))))) (rOp1 klower (rV sl2_8)) (rVar sl2_8)) (rOp2 kidx (rV sl2_3) (rV sl2_7)))) rN))) (rC (rFor (tOne sl2_9) (fun zz => rfl) (rRng (rE (rOp1 klen (rV sl2_1)))) (rC (rAsg sl2_6 (rVal (rHget sl2_4 (rE (rIte (rTx (rE (rOp2 kmod (rV sl2_9) (rE (rI 2))))) (rOp2 kidx (rV sl2_1) (rV sl2_9)) (rOp1 klower (rE (rOp2 kidx (rV sl2_1) (rV sl2_9))))))))) (rC (rAugL sl2_5 (rV sl2_6)) rN))) (rC (rFor (tOne sl2_10) (fun zz => rfl) (rOne (rE (rOp2 kfrom (rV sl2_6) (rE (rOp1 kneg (rE (rI 1))))))) (rC (rSp 1 rfl (rAddH sl2_4 (rOp2 kidx (rV sl2_1) (rE (rOp1 kneg (rE (rI 1))))) (rVar sl2_10))) rN)) (rC (rIf (rTb (rTsc (rTx (rE (rOp2 kne (rE (rHget sl2_4 (rE (rOp2 kidx (rV sl2_1) (rE (rOp1 kneg (rE (rI 1)))))))) (rE (rOp2 kadd (rV sl2_6) (rE (rOp2 kfrom (rV sl2_6) (rE (rOp1 kneg (rE (rI 1))))))))))) (rTsc (rTx (rE (rOp2 kne (rE (rHget sl2_4 (rE (rA [45] rfl)))) (rE (rLst rXn))))) rTsn))) (rC (rRet (rE (rA [] rfl))) rN) rN) (rC (rRet (rE (rOp2 kjoin (rE (rA [] rfl)) (rV sl2_5)))) rN))))))
noncomputable def r_law2_9 {F : FT} {SP : SPT} (Ksc : FnQ F "_strcoll") (Kel : FnQ F "_ellipsis_match") (Kcu : FnQ F "_law_cut") (Kne : FnQ F "_law_next") (Kor : FnQ F "_law_orders") (Kri : FnQ F "_law_riffled") (Kde : FnQ F "_law_dealt") : RS F SP 2 s_law2_9 := (rAsg sl2_15 (rVal (rCall Kor (rXc (rOp2 kjoin (rE (rA [] rfl)) (rV sl2_14)) rXn))))
noncomputable def r_law2_10 {F : FT} {SP : SPT} (Ksc : FnQ F "_strcoll") (Kel : FnQ F "_ellipsis_match") (Kcu : FnQ F "_law_cut") (Kne : FnQ F "_law_next") (Kor : FnQ F "_law_orders") (Kri : FnQ F "_law_riffled") (Kde : FnQ F "_law_dealt") : RS F SP 2 s_law2_10 := (rIf (rTx (rE (rOp2 kne (rV sl2_15) (rE (rComp (uCn sl2_31 (uCn sl2_32 (uCn sl2_33 (uCn sl2_34 uNl)))) (rFC (tOne sl2_31) (rOne (rV sl2_14)) rTsn (rFC (tOne sl2_32) (rOne (rV sl2_14)) (rTsc (rTx (rE (rOp2 kne (rV sl2_32) (rV sl2_31)))) rTsn) (rFC (tOne sl2_33) (rOne (rV sl2_14)) (rTsc (rTx (rE (rOp2 knotIn (rV sl2_33) (rE (rOp2 kadd (rV sl2_31) (rV sl2_32)))))) rTsn) (rFC (tOne sl2_34) (rOne (rV sl2_14)) (rTsc (rTx (rE (rOp2 knotIn (rV sl2_34) (rE (rOp2 kadd (rE (rOp2 kadd (rV sl2_31) (rV sl2_32))) (rV sl2_33)))))) rTsn) (rEmit (rOp2 kadd (rE (rOp2 kadd (rE (rOp2 kadd (rV sl2_31) (rV sl2_32))) (rV sl2_33))) (rV sl2_34)))))))))))) (rC (rRet (rE (rBo false))) rN) rN)
noncomputable def r_law2_16 {F : FT} {SP : SPT} (Ksc : FnQ F "_strcoll") (Kel : FnQ F "_ellipsis_match") (Kcu : FnQ F "_law_cut") (Kne : FnQ F "_law_next") (Kor : FnQ F "_law_orders") (Kri : FnQ F "_law_riffled") (Kde : FnQ F "_law_dealt") : RS F SP 2 s_law2_16 := (rAsg sl2_24 (rVal (rOp2 kjoin (rE (rA [] rfl)) (rE (rComp (uCn sl2_31 uNl) (rFC (tOne sl2_31) (rRng (rE (rOp1 klen (rV sl2_21)))) rTsn (rEmit (rOp2 kmulS (rE (rOp2 kidx (rE rAbc) (rV sl2_31))) (rE (rOp1 klen (rE (rOp2 kidx (rV sl2_21) (rV sl2_31)))))))))))))
noncomputable def r_law2_17 {F : FT} {SP : SPT} (Ksc : FnQ F "_strcoll") (Kel : FnQ F "_ellipsis_match") (Kcu : FnQ F "_law_cut") (Kne : FnQ F "_law_next") (Kor : FnQ F "_law_orders") (Kri : FnQ F "_law_riffled") (Kde : FnQ F "_law_dealt") : RS F SP 2 s_law2_17 := (rAsg sl2_25 (rVal (rComp (uCn sl2_31 uNl) (rFC (tOne sl2_31) (rRng (rE (rI 3))) rTsn (rEmit (rCall Kel (rXc (rOp2 kadd (rE (rOp2 kadd (rE (rOp2 kadd (rE (rOp2 kadd (rE (rA [46, 46, 46] rfl)) (rE (rOp2 kidx (rV sl2_5) (rV sl2_31))))) (rE (rA [46, 46, 46] rfl)))) (rE (rOp2 kidx (rV sl2_5) (rE (rOp2 kadd (rV sl2_31) (rE (rI 1)))))))) (rE (rA [46, 46, 46] rfl))) (rXc (rVar sl2_6) rXn))))))))
noncomputable def r_law2_18 {F : FT} {SP : SPT} (Ksc : FnQ F "_strcoll") (Kel : FnQ F "_ellipsis_match") (Kcu : FnQ F "_law_cut") (Kne : FnQ F "_law_next") (Kor : FnQ F "_law_orders") (Kri : FnQ F "_law_riffled") (Kde : FnQ F "_law_dealt") : RS F SP 2 s_law2_18 := (rAsg sl2_26 (rVal (rComp (uCn sl2_31 uNl) (rFC (tOne sl2_31) (rRng (rE (rOp1 klen (rV sl2_16)))) rTsn (rEmit (rOp1 klen (rE (rOp2 kjoin (rE (rA [] rfl)) (rE (rOp2 kto (rV sl2_16) (rE (rOp2 kadd (rV sl2_31) (rE (rI 1))))))))))))))
noncomputable def r_law2_19 {F : FT} {SP : SPT} (Ksc : FnQ F "_strcoll") (Kel : FnQ F "_ellipsis_match") (Kcu : FnQ F "_law_cut") (Kne : FnQ F "_law_next") (Kor : FnQ F "_law_orders") (Kri : FnQ F "_law_riffled") (Kde : FnQ F "_law_dealt") : RS F SP 2 s_law2_19 := (rAsg sl2_27 (rOwn (rLst rXn)))
noncomputable def r_law2_20 {F : FT} {SP : SPT} (Ksc : FnQ F "_strcoll") (Kel : FnQ F "_ellipsis_match") (Kcu : FnQ F "_law_cut") (Kne : FnQ F "_law_next") (Kor : FnQ F "_law_orders") (Kri : FnQ F "_law_riffled") (Kde : FnQ F "_law_dealt") : RS F SP 2 s_law2_20 := (rFor (tOne sl2_28) (fun zz => rfl) (rOne (rE (rCall Kor (rXc (rVar sl2_24) rXn)))) (rC (rAsg sl2_29 (rVal (rComp (uCn sl2_31 uNl) (rFC (tOne sl2_31) (rOne (rV sl2_28)) rTsn (rEmit (rOp2 kidx (rV sl2_23) (rE (rOp2 kindex (rE rAbc) (rV sl2_31))))))))) (rC (rAsg sl2_30 (rVal (rComp (uCn sl2_31 uNl) (rFC (tOne sl2_31) (rRng (rE (rI 3))) rTsn (rEmit (rCall Ksc (rXc (rOp2 kidx (rV sl2_29) (rV sl2_31)) (rXc (rOp2 kidx (rV sl2_29) (rE (rOp2 kadd (rV sl2_31) (rE (rI 1))))) rXn)))))))) (rC (rIf (rTx (rE (rOp2 keq (rE (rComp (uCn sl2_31 uNl) (rFC (tOne sl2_31) (rRng (rE (rI 3))) (rTsc (rTb (rTsc (rTx (rE (rOp2 knotIn (rE (rOp2 kadd (rV sl2_31) (rE (rI 1)))) (rV sl2_26)))) (rTsc (rTx (rE (rOp2 kne (rE (rOp2 kidx (rV sl2_30) (rV sl2_31))) (rE (rOp1 kneg (rE (rI 1))))))) (rTsc (rTb (rTsc (rTx (rE (rOp2 kne (rE (rOp2 kidx (rV sl2_30) (rV sl2_31))) (rE (rI 0))))) (rTsc (rTn (rTx (rE (rOp2 kidx (rV sl2_25) (rV sl2_31))))) rTsn))) rTsn)))) rTsn) (rEmit (rVar sl2_31))))) (rE (rLst rXn))))) (rC (rApp sl2_27 (rCall Kde (rXc (rVar sl2_29) (rXc (rVar sl2_23) (rXc (rVar sl2_5) (rXc (rVar sl2_6) rXn)))))) rN) rN) rN))))
noncomputable def FA : FT := fnF (fun zz zz => none) noSP "_strcoll" 2 2 x_strcoll
noncomputable def FB : FT := fnF FA noSP "_ellipsis_match" 2 6 x_ell
noncomputable def FC : FT := fnF FB noSP "Int2AP" 1 4 x_int2ap
noncomputable def FD : FT := fnF FC noSP "_law_heaps" 1 z_heaps2 x_heaps2
noncomputable def FE : FT := fnF FD noSP "_law_picked" 2 z_picked x_picked
noncomputable def FG : FT := fnF FE noSP "_law_cut" 2 6 x_cut
noncomputable def FH : FT := fnF FG noSP "_law_next" 1 6 x_next
noncomputable def FI : FT := fnF FH noSP "_law_orders" 1 6 x_orders
noncomputable def FJ : FT := fnF FI noSP "_law_riffled" 2 6 x_riffled
noncomputable def FK : FT := fnF FJ (spTab 182 spD) "_law_dealt" 4 36 x_dealt
theorem FE_ell : HasEll FE := fun want got w0 w1 wr h1 h2 hw hr => by
  unfold FE FD FC FB
  rw [fnF_ne (by decide), fnF_ne (by decide), fnF_ne (by decide)]
  exact fnF_eq rfl (ev_ell h1 h2 hw hr)
theorem FE_eq : HasEq FE := fun want got h => by
  unfold FE FD FC FB
  rw [fnF_ne (by decide), fnF_ne (by decide), fnF_ne (by decide)]
  exact fnF_eq rfl (ev_ell0 h)
theorem FE_sc (a b : List Nat) : FE "_strcoll" [.str a, .str b] = some (.int (sc a b)) := by
  unfold FE FD FC FB
  rw [fnF_ne (by decide), fnF_ne (by decide), fnF_ne (by decide), fnF_ne (by decide)]
  exact fnF_eq rfl ev_strcoll
noncomputable def Ksc0 : FnQ FE "_strcoll" := scollQ FE_sc
noncomputable def Kel0 : FnQ FE "_ellipsis_match" := ellQ FE_ell FE_eq
noncomputable def upG {f : PySem.Str} (K : FnQ FE f) (h : (f == "_law_cut") = false) : FnQ FG f := K.lift h
noncomputable def upH {f : PySem.Str} (K : FnQ FG f) (h : (f == "_law_next") = false) : FnQ FH f := K.lift h
noncomputable def upI {f : PySem.Str} (K : FnQ FH f) (h : (f == "_law_orders") = false) : FnQ FI f := K.lift h
noncomputable def upJ {f : PySem.Str} (K : FnQ FI f) (h : (f == "_law_riffled") = false) : FnQ FJ f := K.lift h
noncomputable def upK {f : PySem.Str} (K : FnQ FJ f) (h : (f == "_law_dealt") = false) : FnQ FK f := K.lift h
noncomputable def KcuG : FnQ FG "_law_cut" := mkFn (F := FE) (SP := noSP) (x := x_cut) (Z := 1) _ mk2 r_cut
noncomputable def KneH : FnQ FH "_law_next" := mkFn (F := FG) (SP := noSP) (x := x_next) (Z := 1) _ mk1 (r_next (upG Ksc0 (by decide)))
noncomputable def KorI : FnQ FI "_law_orders" := mkFn (F := FH) (SP := noSP) (x := x_orders) (Z := 1) _ mk1 (r_orders KneH)
noncomputable def KriJ : FnQ FJ "_law_riffled" := mkFn (F := FI) (SP := noSP) (x := x_riffled) (Z := 1) _ mk2 (r_riffled (upI (upH (upG Kel0 (by decide)) (by decide)) (by decide)))
noncomputable def KdeK : FnQ FK "_law_dealt" := mkFn (F := FJ) (SP := spTab 182 spD) (x := x_dealt) (Z := 2) _ mk4 r_dealt
noncomputable def KscK : FnQ FK "_strcoll" := upK (upJ (upI (upH (upG Ksc0 (by decide)) (by decide)) (by decide)) (by decide)) (by decide)
noncomputable def KelK : FnQ FK "_ellipsis_match" := upK (upJ (upI (upH (upG Kel0 (by decide)) (by decide)) (by decide)) (by decide)) (by decide)
noncomputable def KcuK : FnQ FK "_law_cut" := upK (upJ (upI (upH KcuG (by decide)) (by decide)) (by decide)) (by decide)
noncomputable def KneK : FnQ FK "_law_next" := upK (upJ (upI KneH (by decide)) (by decide)) (by decide)
noncomputable def KorK : FnQ FK "_law_orders" := upK (upJ KorI (by decide)) (by decide)
noncomputable def KriK : FnQ FK "_law_riffled" := upK KriJ (by decide)
section
variable {F : FT} {SP : SPT}
noncomputable def b_heaps : Ss := .cons (.augIdx 1 (.e (.op2 .mod (.v 2) (.e (.k (.int 4))))) (.e (.op2 .idx (.v 0) (.v 2)))) .nil
noncomputable def hR (ns : List Int) (h : Int × Int × Int × Int) (pv : SV) : Rho := [.val (.list (ns.map .int)), .own [.int h.1, .int h.2.1, .int h.2.2.1, .int h.2.2.2], pv, .un]
theorem heaps_turn {ns : List Int} {h : Int × Int × Int × Int} {v : Int} {i : Nat} (hv : (ns.map PV.int)[i]? = some (.int v)) : ∃ h', evSs F SP b_heaps (hR ns h (.val (.int i))) = some (.next (hR ns h' (.val (.int i)))) := by
  have e0 : ∀ m : Nat, i % 4 = m → op2 .mod (.int i) (.int 4) = some (.int m) := fun m hm => by
    rw [o_mod (by decide), ← hm]; rfl
  obtain ⟨x, y, z, t⟩ := h
  have key : ∀ m : Nat, i % 4 = m → ∀ h', (evIdx [.int x, .int y, .int z, .int t] (.int m) (.int v)).bind (fun ys => setOwn 1 ys (hR ns (x, y, z, t) (.val (.int i)))) = some (.next (hR ns h' (.val (.int i)))) → evSs F SP b_heaps (hR ns (x, y, z, t) (.val (.int i))) = some (.next (hR ns h' (.val (.int i)))) := fun m hm h' hh => by
    refine next_ ?_ rfl
    show ((op2 .mod (.int i) (.int 4)).bind fun k => (op2 .idx (.list (ns.map .int)) (.int i)).bind fun q => (evIdx [.int x, .int y, .int z, .int t] k q).bind fun ys => setOwn 1 ys _) = _
    rw [e0 m hm, o_idx hv]
    exact hh
  have hm := Nat.mod_lt i (show 4 > 0 by decide)
  generalize hq : i % 4 = m at hm
  rcases m with _ | _ | _ | _ | m
  · exact ⟨(x + v, y, z, t), key 0 hq _ rfl⟩
  · exact ⟨(x, y + v, z, t), key 1 hq _ rfl⟩
  · exact ⟨(x, y, z + v, t), key 2 hq _ rfl⟩
  · exact ⟨(x, y, z, t + v), key 3 hq _ rfl⟩
  · exact absurd hm (Nat.not_lt.mpr (Nat.le_add_left 4 m))
theorem heaps_loop {ns : List Int} : ∀ (k i : Nat) (h : Int × Int × Int × Int) (pv : SV), i + k = ns.length → ∃ h' pv', loopF (.one 2) (evSs F SP b_heaps) ((List.range' i k).map fun i : Nat => PV.int (i : Int)) (hR ns h pv) = some (.next (hR ns h' pv'))
  | 0, i, h, pv, _ => ⟨h, pv, rfl⟩
  | k + 1, i, h, pv, hk => by
    have hi : i < ns.length := by lia
    obtain ⟨h1, hb⟩ := heaps_turn (F := F) (SP := SP) (ns := ns) (h := h) (i := i) (v := ns[i]) (by rw [List.getElem?_map, List.getElem?_eq_getElem hi]; rfl)
    obtain ⟨h2, pv2, e⟩ := heaps_loop (ns := ns) k (i + 1) h1 (.val (.int i)) (by lia)
    refine ⟨h2, pv2, ?_⟩
    show andThen (evSs F SP b_heaps (hR ns h (.val (.int i)))) (loopF (.one 2) (evSs F SP b_heaps) ((List.range' (i + 1) k).map fun i : Nat => PV.int (i : Int))) = _
    rw [hb]
    exact e
theorem m6 (x : Int) : ∃ a : Nat, x % 1000000 = a ∧ a < 1000000 :=
  ⟨(x % 1000000).toNat, (Int.toNat_of_nonneg (Int.emod_nonneg _ (by decide))).symm, (Int.toNat_lt (Int.emod_nonneg _ (by decide))).mpr (Int.emod_lt_of_pos _ (by decide))⟩
theorem ev_heaps {ns : List Int} (h : ns.length ≤ 63) : ∃ a b c d : Nat, evSs F SP x_heaps2 (rho0 z_heaps2 [.list (ns.map .int)]) = some (.ret (.list [.int a, .int b, .int c, .int d])) ∧ a < 1000000 ∧ b < 1000000 ∧ c < 1000000 ∧ d < 1000000 := by
  obtain ⟨⟨x, y, z, t⟩, pv, e⟩ := heaps_loop (F := F) (SP := SP) (ns := ns) ns.length 0 (20464, 26, 7, 12) .un (Nat.zero_add _)
  obtain ⟨a, ha, la⟩ := m6 x
  obtain ⟨b, hb, lb⟩ := m6 y
  obtain ⟨c, hc, lc⟩ := m6 z
  obtain ⟨d, hd, ld⟩ := m6 t
  refine ⟨a, b, c, d, ?_, la, lb, lc, ld⟩
  refine next_ (ρ' := hR ns (20464, 26, 7, 12) .un) rfl (next_ (ρ' := hR ns (x, y, z, t) pv) (forS (items := (List.range' 0 ns.length).map fun i : Nat => PV.int (i : Int)) rfl ?_ e) (ret_ ?_))
  · have h1 : evO F (.e (.op1 .len (.v 0))) (hR ns (20464, 26, 7, 12) .un) = some (.int ns.length) := congrArg (fun n : Nat => some (PV.int n)) (List.length_map _)
    show ((evO F (.e (.op1 .len (.v 0))) (hR ns (20464, 26, 7, 12) .un)).bind fun p => rngSrc p) = _
    rw [h1, ← List.range_eq_range', Option.bind_some, rng_src (n := ns.length) (by lia)]
  · rw [← ha, ← hb, ← hc, ← hd]; rfl
noncomputable def b_picked : Ss := .cons (.popAdd 3 2 (.e (.op2 .mod (.v 0) (.e (.op1 .len (.v 2)))))) (.cons (.aug 0 .fdiv (.e (.op2 .add (.e (.op1 .len (.v 2))) (.e (.k (.int 1)))))) .nil)
noncomputable def pR (a : Nat) (th : SV) (xs ys : List PV) (pv : SV) : Rho := [.val (.int a), th, .own xs, .own ys, pv]
noncomputable def sel {α : Type} : Nat → Nat → List α → List α
  | 0, _, _ => []
  | k + 1, a, xs => (xs[a % xs.length]?).toList ++ sel k (a / xs.length) (xs.eraseIdx (a % xs.length))
theorem picked_turn {a : Nat} {th pv : SV} {xs ys : List PV} {x : PV} (hl : 0 < xs.length) (hl2 : xs.length ≤ 16) (hx : xs[a % xs.length]? = some x) (ok : okLB (ys ++ [x]) = true) :
    evSs F SP b_picked (pR a th xs ys pv) = some (.next (pR (a / xs.length) th (xs.eraseIdx (a % xs.length)) (ys ++ [x]) pv)) := by
  have hm : a % xs.length < xs.length := Nat.mod_lt _ hl
  refine next_ (ρ' := pR a th (xs.eraseIdx (a % xs.length)) (ys ++ [x]) pv) ?_ (next_ (ρ' := pR (a / xs.length) th (xs.eraseIdx (a % xs.length)) (ys ++ [x]) pv) ?_ rfl)
  · show ((op2 .mod (.int a) (.int xs.length)).bind fun k => (evPopAt xs k).bind fun r => (some (pR a th r.2 ys pv)).bind fun ρ => setOwn 3 (ys ++ [r.1]) ρ) = _
    rw [o_mod (Int.ofNat_lt.mpr hl), Option.bind_some]
    show (((pyIx xs.length ((a : Int) % xs.length)).bind fun j => (xs[j]?).bind fun v => some (v, xs.eraseIdx j)).bind fun r => (some (pR a th r.2 ys pv)).bind fun ρ => setOwn 3 (ys ++ [r.1]) ρ) = _
    rw [show (a : Int) % xs.length = ((a % xs.length : Nat) : Int) from (Int.natCast_emod a xs.length).symm, pyIx_nat hm, Option.bind_some, hx]
    exact if_pos ok
  · have e1 : ((xs.eraseIdx (a % xs.length)).length : Int) + 1 = xs.length := by
      rw [List.length_eraseIdx_of_lt hm]
      lia
    show ((some (PV.int (((xs.eraseIdx (a % xs.length)).length : Int) + 1))).bind fun q => (op2 .fdiv (.int a) q).bind fun r => setN 0 (.val r) (pR a th (xs.eraseIdx (a % xs.length)) (ys ++ [x]) pv)) = _
    rw [e1, Option.bind_some, o_fdiv ⟨Int.ofNat_lt.mpr hl, by lia⟩, Option.bind_some, show (a : Int) / xs.length = ((a / xs.length : Nat) : Int) from (Int.natCast_ediv a xs.length).symm]; rfl
theorem picked_loop : ∀ (k i a : Nat) (th pv : SV) (xs ys : List PV), k ≤ xs.length → xs.length ≤ 16 → ys.length + k ≤ 16 → (∀ x ∈ xs, okPy x 8 = true) → (∀ x ∈ ys, okPy x 8 = true) → ∃ a' xs' pv', loopF (.one 4) (evSs F SP b_picked) ((List.range' i k).map fun i : Nat => PV.int (i : Int)) (pR a th xs ys pv) = some (.next (pR a' th xs' (ys ++ sel k a xs) pv'))
  | 0, i, a, th, pv, xs, ys, _, _, _, _, _ => ⟨a, xs, pv, by rw [show sel 0 a xs = [] from rfl, List.append_nil]; rfl⟩
  | k + 1, i, a, th, pv, xs, ys, hk, hl, hy, ox, oy => by
    have h0 : 0 < xs.length := Nat.lt_of_lt_of_le (Nat.succ_pos k) hk
    have hm : a % xs.length < xs.length := Nat.mod_lt _ h0
    have hx := List.getElem?_eq_getElem hm
    have oy' : ∀ x ∈ ys ++ [xs[a % xs.length]], okPy x 8 = true := fun x h => (List.mem_append.mp h).elim (oy x) fun h => List.mem_singleton.mp h ▸ ox _ (List.getElem_mem hm)
    have ok : okLB (ys ++ [xs[a % xs.length]]) = true := (Bool.and_eq_true _ _).mpr ⟨by rw [okPys_all]; exact List.all_eq_true.mpr oy', decide_eq_true (by rw [List.length_append]; show _ ≤ 100000; have : [xs[a % xs.length]].length = 1 := rfl; lia)⟩
    have ht := picked_turn (F := F) (SP := SP) (th := th) (pv := .val (.int i)) (ys := ys) h0 hl hx ok
    obtain ⟨a', xs', pv', e⟩ := picked_loop k (i + 1) (a / xs.length) th (.val (.int i)) (xs.eraseIdx (a % xs.length)) (ys ++ [xs[a % xs.length]]) (by rw [List.length_eraseIdx_of_lt hm]; lia) (Nat.le_trans (List.length_eraseIdx_le ..) hl) (by rw [List.length_append]; have : [xs[a % xs.length]].length = 1 := rfl; lia) (fun x h => ox x (List.mem_of_mem_eraseIdx h)) oy'
    refine ⟨a', xs', pv', ?_⟩
    show andThen (evSs F SP b_picked (pR a th xs ys (.val (.int i)))) (loopF (.one 4) (evSs F SP b_picked) ((List.range' (i + 1) k).map fun i : Nat => PV.int (i : Int))) = _
    rw [ht]
    refine e.trans ?_
    rw [show sel (k + 1) a xs = (xs[a % xs.length]?).toList ++ sel k (a / xs.length) (xs.eraseIdx (a % xs.length)) from rfl, hx, List.append_assoc]; rfl
theorem ev_picked {a : Nat} {p : PV} {xs : List PV} (hp : op1 .list_ p = some (.list xs)) (h4 : 4 ≤ xs.length) (hl : xs.length ≤ 16) (ox : ∀ x ∈ xs, okPy x 8 = true) : evSs F SP x_picked (rho0 z_picked [.int a, p]) = some (.ret (.list (sel 4 a xs))) := by
  obtain ⟨a', xs', pv', e⟩ := picked_loop (F := F) (SP := SP) 4 0 a (.val p) .un xs [] h4 hl (by decide) ox fun zz h => nomatch h
  refine next_ (ρ' := pR a (.val p) xs [] .un) ?_ (next_ (ρ' := pR a' (.val p) xs' (sel 4 a xs) pv') (forS (items := (List.range' 0 4).map fun i : Nat => PV.int (i : Int)) rfl rfl e) rfl)
  show ((((op1 .list_ p).bind ownL).bind fun v => ((some ([] : List (Nat × SV))).bind fun l => some ((3, SV.own []) :: l)).bind fun l => some ((2, v) :: l)).bind fun l => setAll l _) = _
  rw [hp]; rfl
end
section
variable {α β : Type}
theorem erase_map (f : α → β) : ∀ (l : List α) (i : Nat), (l.map f).eraseIdx i = (l.eraseIdx i).map f
  | [], _ => rfl
  | _ :: _, 0 => rfl
  | x :: l, i + 1 => congrArg (f x :: ·) (erase_map f l i)
theorem sel_map (f : α → β) : ∀ (k a : Nat) (l : List α), sel k a (l.map f) = (sel k a l).map f
  | 0, _, _ => rfl
  | k + 1, a, l => by
    show ((l.map f)[a % (l.map f).length]?).toList ++ sel k (a / (l.map f).length) ((l.map f).eraseIdx (a % (l.map f).length)) = ((l[a % l.length]?).toList ++ sel k (a / l.length) (l.eraseIdx (a % l.length))).map f
    rw [List.length_map, List.getElem?_map, erase_map, sel_map f k, List.map_append]
    cases l[a % l.length]? <;> rfl
theorem sel_mem : ∀ (k a : Nat) (l : List α), ∀ x ∈ sel k a l, x ∈ l
  | 0, _, _, _, h => nomatch h
  | k + 1, a, l, x, h => by
    rcases List.mem_append.mp (show x ∈ (l[a % l.length]?).toList ++ sel k (a / l.length) (l.eraseIdx (a % l.length)) from h) with h | h
    · exact List.mem_of_getElem? (Option.mem_toList.mp h)
    · exact List.mem_of_mem_eraseIdx (sel_mem k _ _ x h)
theorem sel_nodup : ∀ (k a : Nat) (l : List α), l.Nodup → (sel k a l).Nodup
  | 0, _, _, _ => .nil
  | k + 1, a, l, h => by
    show ((l[a % l.length]?).toList ++ sel k (a / l.length) (l.eraseIdx (a % l.length))).Nodup
    have ih := sel_nodup k (a / l.length) _ (h.sublist (List.eraseIdx_sublist l (a % l.length)))
    cases q : l[a % l.length]? with
    | none => exact ih
    | some x =>
      refine List.nodup_cons.mpr ⟨fun hx => ?_, ih⟩
      obtain ⟨hi, e⟩ := List.getElem?_eq_some_iff.mp q
      have hm := sel_mem k _ _ x hx
      rw [List.mem_eraseIdx_iff_getElem?] at hm
      obtain ⟨j, hj, e2⟩ := hm
      obtain ⟨hj2, e3⟩ := List.getElem?_eq_some_iff.mp e2
      exact hj ((List.getElem_inj h).mp (e3.trans e.symm))
theorem sel_len : ∀ (k a : Nat) (l : List α), k ≤ l.length → (sel k a l).length = k
  | 0, _, _, _ => rfl
  | k + 1, a, l, h => by
    have hm : a % l.length < l.length := Nat.mod_lt _ (Nat.lt_of_lt_of_le (Nat.succ_pos k) h)
    show ((l[a % l.length]?).toList ++ sel k (a / l.length) (l.eraseIdx (a % l.length))).length = k + 1
    rw [List.getElem?_eq_getElem hm, List.length_append, sel_len k _ _ (by rw [List.length_eraseIdx_of_lt hm]; lia)]
    exact Nat.add_comm 1 k
end
theorem four_of {α : Type} {l : List α} (h : l.length = 4) : ∃ a b c d, l = [a, b, c, d] := by
  rcases l with _ | ⟨a, _ | ⟨b, _ | ⟨c, _ | ⟨d, _ | ⟨x, l⟩⟩⟩⟩⟩ <;> first | exact ⟨a, b, c, d, rfl⟩ | cases h
section
variable {F : FT} {SP : SPT}
noncomputable def P36 (l : List SV) : Rho := l ++ List.replicate (36 - l.length) .un
theorem decode_ap (n : Nat) : op1 .decode (.bytes (i2ap n)) = some (.str ((i2ap n).map UInt8.toNat)) := congrArg (Option.map Subtype.val) (dif_pos (List.all_eq_true.mpr fun c hc => decide_eq_true (Nat.lt_of_le_of_lt (i2ap_ascii 39 n [] (fun zz h => nomatch h) c hc).2 (by decide))))
theorem rep_flat (k : Nat) : (List.replicate k [65]).flatten = List.replicate k (65 : Nat) := by
  induction k with
  | zero => rfl
  | succ k ih => rw [List.replicate_succ, List.flatten_cons, ih]; rfl
theorem o_rep {k : Nat} (h : k ≤ 1000) : op2 .mul (.str [65]) (.int k) = some (.str (List.replicate k 65)) := by
  rw [← rep_flat]
  exact congrArg (Option.map Subtype.val) (dif_pos (show k ≤ 1000 ∧ ([65] : List Nat).length ≤ 50 from ⟨h, by decide⟩))
theorem o_chr {k : Nat} (h : k < 128) : op1 .chr (.int k) = some (.str [k]) := congrArg (Option.map Subtype.val) (dif_pos h)
theorem ts_next {o : Bool} {t : T} {ts : Ts} {ρ : Rho} {r : Option Bool} (h : evT F t ρ = some (!o)) (h2 : evTs F o ts ρ = r) : evTs F o (.cons t ts) ρ = r := by
  show (evT F t ρ).bind _ = r
  rw [h]
  cases o <;> exact h2
theorem o_mulN {m k : Nat} (h : m < 2 ^ 64) : op2 .mul (.int m) (.int k) = some (.int ((m * k : Nat) : Int)) := o_mul (a := (m : Int)) h
noncomputable def nm4 (f : Nat → Nat) : Nat := ((f 0 * 16 + f 1) * 16 + f 2) * 16 + f 3
noncomputable def dk (f : Nat → Nat) : List Nat := [65 + f 0, 65 + f 1, 65 + f 2, 65 + f 3]
theorem lets_dk {f : Nat → Nat} (h : ∀ i, i < 4 → f i < 16) : lets 4 (nm4 f) = dk f := by
  have h0 := h 0 (by decide)
  have h1 := h 1 (by decide)
  have h2 := h 2 (by decide)
  have h3 := h 3 (by decide)
  show [65 + nm4 f / 16 / 16 / 16 % 16, 65 + nm4 f / 16 / 16 % 16, 65 + nm4 f / 16 % 16, 65 + nm4 f % 16] = _
  unfold nm4 dk
  generalize f 0 = a at *
  generalize f 1 = b at *
  generalize f 2 = c at *
  generalize f 3 = d at *
  have e1 : (((a * 16 + b) * 16 + c) * 16 + d) / 16 = (a * 16 + b) * 16 + c := by lia
  have e2 : ((a * 16 + b) * 16 + c) / 16 = a * 16 + b := by lia
  have e3 : (a * 16 + b) / 16 = a := by lia
  have e4 : (((a * 16 + b) * 16 + c) * 16 + d) % 16 = d := by lia
  have e5 : ((a * 16 + b) * 16 + c) % 16 = c := by lia
  have e6 : (a * 16 + b) % 16 = b := by lia
  rw [e1, e2, e3, e4, e5, e6, Nat.mod_eq_of_lt h0]
theorem nm4_lt {f : Nat → Nat} (h : ∀ i, i < 4 → f i < 16) : nm4 f < 16 ^ 4 := by
  have h0 := h 0 (by decide)
  have h1 := h 1 (by decide)
  have h2 := h 2 (by decide)
  have h3 := h 3 (by decide)
  unfold nm4
  lia
noncomputable def fgs (f : Nat → Nat) : PV := .list [.int (f 0), .int (f 1), .int (f 2), .int (f 3)]
noncomputable def hps (a b c d : Nat) : PV := .list [.int a, .int b, .int c, .int d]
noncomputable def chC : X := .comp [(31, "figure")] (.for_ (.one 31) (.one (.v 2)) .nil (.emit (.op1 .chr (.e (.op2 .add (.e (.k (.int 65))) (.v 31))))))
noncomputable def jnX : X := .op2 .join (.e (.k (.str []))) (.e chC)
theorem law2_A {ns : List Int} {a b c d : Nat} {f : Nat → Nat} (H1 : F "_law_heaps" [.list (ns.map .int)] = some (hps a b c d)) (H2 : F "_law_picked" [.int a, .range 0 16] = some (fgs f)) (hf : ∀ i, i < 4 → f i < 16)
    (H3 : ∀ m : Int, m.natAbs < 16 ^ 39 → F "Int2AP" [.int m] = some (.bytes (i2ap m.natAbs))) {ss : Ss} {o : Option Out}
    (e : evSs F SP ss (P36 [.val (.list (ns.map .int)), .val (hps a b c d), .val (fgs f), .val (.int (nm4 f)), .val (.bytes (i2ap (nm4 f))), .val (.str (dk f))]) = o) :
    evSs F SP (.cons s_law2_0 (.cons s_law2_1 (.cons s_law2_2 (.cons s_law2_3 (.cons s_law2_4 (.cons s_law2_5 ss)))))) (rho0 36 [.list (ns.map .int)]) = o := by
  have hn := nm4_lt hf
  obtain ⟨hl1, hl2⟩ := i2ap_lets 4 (nm4 f) 39 hn (by decide)
  have hd := lets_dk hf
  refine next_ (ρ' := P36 [.val (.list (ns.map .int)), .val (hps a b c d)]) (asg H1 (by decide : 1 < 36)) (next_ (ρ' := P36 [.val (.list (ns.map .int)), .val (hps a b c d), .val (fgs f)]) (asg H2 (by decide : 2 < 36)) (next_ (ρ' := P36 [.val (.list (ns.map .int)), .val (hps a b c d), .val (fgs f), .val (.int (nm4 f))]) (asg ?_ (by decide : 3 < 36)) (next_ (ρ' := P36 [.val (.list (ns.map .int)), .val (hps a b c d), .val (fgs f), .val (.int (nm4 f)), .val (.bytes (i2ap (nm4 f)))]) (asg ?_ (by decide : 4 < 36)) (next_ (ρ' := P36 [.val (.list (ns.map .int)), .val (hps a b c d), .val (fgs f), .val (.int (nm4 f)), .val (.bytes (i2ap (nm4 f))), .val (.str (dk f))]) (asg ?_ (by decide : 5 < 36)) (next_ ?_ e)))))
  · have h0 := hf 0 (by decide)
    have h1 := hf 1 (by decide)
    have h2 := hf 2 (by decide)
    show ((((((op2 .mul (.int (f 0)) (.int (16 : Nat))).bind fun p => op2 .add p (.int (f 1))).bind fun p => op2 .mul p (.int (16 : Nat))).bind fun p => op2 .add p (.int (f 2))).bind fun p => op2 .mul p (.int (16 : Nat))).bind fun p => op2 .add p (.int (f 3))) = _
    rw [o_mulN (by lia)]
    show ((((op2 .mul (.int ((f 0 * 16 + f 1 : Nat) : Int)) (.int (16 : Nat))).bind fun p => op2 .add p (.int (f 2))).bind fun p => op2 .mul p (.int (16 : Nat))).bind fun p => op2 .add p (.int (f 3))) = _
    rw [o_mulN (by lia)]
    show ((op2 .mul (.int (((f 0 * 16 + f 1) * 16 + f 2 : Nat) : Int)) (.int (16 : Nat))).bind fun p => op2 .add p (.int (f 3))) = _
    rw [o_mulN (by lia)]; rfl
  · have h0 : ∃ m : Int, m.natAbs = nm4 f ∧ evE F (.ite (.x (.e (.op2 .mod (.e (.op2 .fdiv (.e (.op2 .idx (.v 1) (.e (.k (.int 1))))) (.e (.k (.int 24))))) (.e (.k (.int 2)))))) (.op1 .neg (.v 3)) (.var 3)) (P36 [.val (.list (ns.map .int)), .val (hps a b c d), .val (fgs f), .val (.int (nm4 f))]) = some (.int m) := by
      have hT : evT F (.x (.e (.op2 .mod (.e (.op2 .fdiv (.e (.op2 .idx (.v 1) (.e (.k (.int 1))))) (.e (.k (.int 24))))) (.e (.k (.int 2)))))) (P36 [.val (.list (ns.map .int)), .val (hps a b c d), .val (fgs f), .val (.int (nm4 f))]) = some (!((b : Int) / 24 % 2 == 0)) := rfl
      cases hc : (!((b : Int) / 24 % 2 == 0)) with
      | true => exact ⟨-(nm4 f : Int), Int.natAbs_neg _, bindE2 (hT.trans (congrArg some hc)) rfl⟩
      | false => exact ⟨nm4 f, rfl, bindE2 (hT.trans (congrArg some hc)) rfl⟩
    obtain ⟨m, hm, h0⟩ := h0
    have h1 := H3 m (by rw [hm]; exact Nat.lt_trans hn (by decide))
    rw [hm] at h1
    exact bindE2 (p := [.int m]) (bindE2 h0 rfl) h1
  · have h0 : op2 .mul (.str [65]) (.int ((4 : Int) - ((i2ap (nm4 f)).length : Nat))) = some (.str (List.replicate (4 - (i2ap (nm4 f)).length) 65)) := by
      rw [show ((4 : Int) - ((i2ap (nm4 f)).length : Nat)) = ((4 - (i2ap (nm4 f)).length : Nat) : Int) from (Int.ofNat_sub (m := (i2ap (nm4 f)).length) (n := 4) hl2).symm]
      exact o_rep (Nat.le_trans (Nat.sub_le _ _) (by decide))
    refine bindE2 h0 (bindE2 (decode_ap (nm4 f)) ?_)
    rw [o_cat (by rw [List.length_replicate, List.length_map]; show _ ≤ 100000; have : (i2ap (nm4 f)).length ≤ 4 := hl2; lia), show List.replicate (4 - (i2ap (nm4 f)).length) 65 ++ (i2ap (nm4 f)).map UInt8.toNat = lets 4 (nm4 f) from hl1, hd]
  · have ch : ∀ i, i < 4 → op1 .chr (.int ((65 + f i : Nat) : Int)) = some (.str [65 + f i]) := fun i hi => o_chr (by have := hf i hi; lia)
    have h0 : evE F chC (P36 [.val (.list (ns.map .int)), .val (hps a b c d), .val (fgs f), .val (.int (nm4 f)), .val (.bytes (i2ap (nm4 f))), .val (.str (dk f))]) = some (.list (([[65 + f 0], [65 + f 1], [65 + f 2], [65 + f 3]] : List (List Nat)).map .str)) := by
      refine bindE2 (bindE2 (p := [.int (f 0), .int (f 1), .int (f 2), .int (f 3)]) rfl ?_) (mk_strs (ws := [[65 + f 0], [65 + f 1], [65 + f 2], [65 + f 3]]) (by show 4 ≤ 10000; decide))
      refine bindE2 (p := [.str [65 + f 0]]) (bindE2 (p := set (P36 [.val (.list (ns.map .int)), .val (hps a b c d), .val (fgs f), .val (.int (nm4 f)), .val (.bytes (i2ap (nm4 f))), .val (.str (dk f))]) 31 (.val (.int (f 0)))) rfl (bindE2 (p := true) rfl (bindE2 (p := .str [65 + f 0]) (bindE2 (p := .int ((65 + f 0 : Nat) : Int)) rfl (ch 0 (by decide))) rfl))) (Option.map_eq_some_iff.mpr ⟨[.str [65 + f 1], .str [65 + f 2], .str [65 + f 3]], ?_, rfl⟩)
      refine bindE2 (p := [.str [65 + f 1]]) (bindE2 (p := set (P36 [.val (.list (ns.map .int)), .val (hps a b c d), .val (fgs f), .val (.int (nm4 f)), .val (.bytes (i2ap (nm4 f))), .val (.str (dk f))]) 31 (.val (.int (f 1)))) rfl (bindE2 (p := true) rfl (bindE2 (p := .str [65 + f 1]) (bindE2 (p := .int ((65 + f 1 : Nat) : Int)) rfl (ch 1 (by decide))) rfl))) (Option.map_eq_some_iff.mpr ⟨[.str [65 + f 2], .str [65 + f 3]], ?_, rfl⟩)
      refine bindE2 (p := [.str [65 + f 2]]) (bindE2 (p := set (P36 [.val (.list (ns.map .int)), .val (hps a b c d), .val (fgs f), .val (.int (nm4 f)), .val (.bytes (i2ap (nm4 f))), .val (.str (dk f))]) 31 (.val (.int (f 2)))) rfl (bindE2 (p := true) rfl (bindE2 (p := .str [65 + f 2]) (bindE2 (p := .int ((65 + f 2 : Nat) : Int)) rfl (ch 2 (by decide))) rfl))) (Option.map_eq_some_iff.mpr ⟨[.str [65 + f 3]], ?_, rfl⟩)
      exact bindE2 (p := [.str [65 + f 3]]) (bindE2 (p := set (P36 [.val (.list (ns.map .int)), .val (hps a b c d), .val (fgs f), .val (.int (nm4 f)), .val (.bytes (i2ap (nm4 f))), .val (.str (dk f))]) 31 (.val (.int (f 3)))) rfl (bindE2 (p := true) rfl (bindE2 (p := .str [65 + f 3]) (bindE2 (p := .int ((65 + f 3 : Nat) : Int)) rfl (ch 3 (by decide))) rfl))) rfl
    have et : op2 .to_ (.bytes (i2ap (nm4 f))) (.int 1) = some (.bytes ((i2ap (nm4 f)).take 1)) := by
      show some (PV.bytes ((i2ap (nm4 f)).take (clampIx (i2ap (nm4 f)).length ((1 : Nat) : Int)))) = _
      rw [clamp_nat, take_min]
    have eb : ((i2ap (nm4 f)).take 1 == [65]) = false := by
      cases q : i2ap (nm4 f) with
      | nil => rfl
      | cons c r =>
        have := i2ap_head 39 (nm4 f) c r (Nat.lt_trans hn (by decide)) q
        exact beq_eq_false_iff_ne.mpr fun h => this (List.cons.inj h).1
    have e1 : evT F (.x (.e (.op2 .eq (.e (.op2 .to_ (.v 4) (.e (.k (.int 1))))) (.e (.k (.bytes [65])))))) (P36 [.val (.list (ns.map .int)), .val (hps a b c d), .val (fgs f), .val (.int (nm4 f)), .val (.bytes (i2ap (nm4 f))), .val (.str (dk f))]) = some false := by
      show (((op2 .to_ (.bytes (i2ap (nm4 f))) (.int 1)).bind fun p => op2 .eq p (.bytes [65])).bind truth) = _
      rw [et]
      exact congrArg some eb
    have hj : op2 .join (.str []) (.list (([[65 + f 0], [65 + f 1], [65 + f 2], [65 + f 3]] : List (List Nat)).map .str)) = some (.str (dk f)) := o_join (s := []) (l := [[65 + f 0], [65 + f 1], [65 + f 2], [65 + f 3]]) ⟨Nat.zero_le _, by show 4 ≤ 100000; decide⟩
    have hjx : evE F jnX (P36 [.val (.list (ns.map .int)), .val (hps a b c d), .val (fgs f), .val (.int (nm4 f)), .val (.bytes (i2ap (nm4 f))), .val (.str (dk f))]) = some (.str (dk f)) := by
      show ((some (PV.str [])).bind fun p => (evE F chC (P36 [.val (.list (ns.map .int)), .val (hps a b c d), .val (fgs f), .val (.int (nm4 f)), .val (.bytes (i2ap (nm4 f))), .val (.str (dk f))])).bind fun q => op2 .join p q) = _
      rw [h0]
      exact hj
    have hne : evE F (.op2 .ne (.v 5) (.e jnX)) (P36 [.val (.list (ns.map .int)), .val (hps a b c d), .val (fgs f), .val (.int (nm4 f)), .val (.bytes (i2ap (nm4 f))), .val (.str (dk f))]) = some (.bool false) := by
      show ((some (PV.str (dk f))).bind fun p => (evE F jnX (P36 [.val (.list (ns.map .int)), .val (hps a b c d), .val (fgs f), .val (.int (nm4 f)), .val (.bytes (i2ap (nm4 f))), .val (.str (dk f))])).bind fun q => op2 .ne p q) = _
      rw [hjx]
      exact congrArg (fun b => some (PV.bool (!b))) ((sEq_iff (dk f) (dk f)).mpr rfl)
    have e2 : evT F (.x (.e (.op2 .ne (.v 5) (.e jnX)))) (P36 [.val (.list (ns.map .int)), .val (hps a b c d), .val (fgs f), .val (.int (nm4 f)), .val (.bytes (i2ap (nm4 f))), .val (.str (dk f))]) = some false := by
      show (evE F (.op2 .ne (.v 5) (.e jnX)) (P36 [.val (.list (ns.map .int)), .val (hps a b c d), .val (fgs f), .val (.int (nm4 f)), .val (.bytes (i2ap (nm4 f))), .val (.str (dk f))])).bind truth = _
      rw [hne]; rfl
    exact ifF (ts_next (o := true) e1 (ts_next (o := true) e2 rfl)) rfl
end
structure Lt (f l : Nat → Nat) (lam : Nat) : Prop where
  f16 : ∀ i, i < 4 → f i < 16
  fi : ∀ i j, i < 4 → j < 4 → f i = f j → i = j
  l1 : 1 ≤ lam
  l13 : lam ≤ 13
  m16 : ∀ i, i < 4 → l i < 16
  up : ∀ i j, i < j → j < 4 → l i < l j
noncomputable def gE (f l : Nat → Nat) (lam : Nat) : Nat → Nat → Nat
  | 13, r => if r < 4 then 65 + f r else 100
  | 14, 0 => 65 + lam
  | 14, 1 => 97 + lam
  | 14, 2 => 65
  | 14, 3 => 97
  | 14, _ => 120
  | 15, r => 65 + r
  | _, r => if r < 4 then 65 + l r else 100
noncomputable def eG (f l : Nat → Nat) (lam c : Nat) : Nat := if c ≤ 64 then c else if c < 85 then gE f l lam (c / 5) (c % 5) else c + 100
section
variable {f l : Nat → Nat} {lam : Nat}
theorem eG_lo {c : Nat} (h : c ≤ 64) : eG f l lam c = c := if_pos h
theorem eG_hi {c : Nat} (h : 85 ≤ c) : eG f l lam c = c + 100 := by
  unfold eG
  rw [if_neg (by lia), if_neg (by lia)]
theorem eG_mid {q r : Nat} (h1 : 13 ≤ q) (h2 : q ≤ 16) (h : r < 5) : eG f l lam (5 * q + r) = gE f l lam q r := by
  unfold eG
  rw [if_neg (by lia), if_pos (by lia), show (5 * q + r) / 5 = q by lia, show (5 * q + r) % 5 = r by lia]
inductive Three : Nat → Prop
  | lo (c : Nat) (h : c ≤ 64) : Three c
  | mid (q r : Nat) (h1 : 13 ≤ q) (h2 : q ≤ 16) (h : r < 5) : Three (5 * q + r)
  | hi (c : Nat) (h : 85 ≤ c) : Three c
theorem three (c : Nat) : Three c := by
  by_cases h1 : c ≤ 64
  · exact .lo c h1
  · by_cases h2 : 85 ≤ c
    · exact .hi c h2
    · have := Three.mid (c / 5) (c % 5) (by lia) (by lia) (Nat.mod_lt _ (by decide))
      rwa [Nat.div_add_mod] at this
theorem four16 {q : Nat} (h1 : 13 ≤ q) (h2 : q ≤ 16) : q = 13 ∨ q = 14 ∨ q = 15 ∨ q = 16 := by lia
variable (H : Lt f l lam)
include H
theorem gE_in {q r : Nat} (h1 : 13 ≤ q) (h2 : q ≤ 16) (h : r < 5) : 65 ≤ gE f l lam q r ∧ gE f l lam q r < 127 := by
  have a1 := H.l1
  have a2 := H.l13
  rcases four16 h1 h2 with rfl | rfl | rfl | rfl
  · show 65 ≤ (if r < 4 then 65 + f r else 100) ∧ _
    by_cases hr : r < 4
    · have := H.f16 r hr
      show 65 ≤ (if r < 4 then 65 + f r else 100) ∧ (if r < 4 then 65 + f r else 100) < 127
      rw [if_pos hr]; lia
    · show 65 ≤ (if r < 4 then 65 + f r else 100) ∧ (if r < 4 then 65 + f r else 100) < 127
      rw [if_neg hr]; decide
  · rcases r with _ | _ | _ | _ | _ | r
    · show 65 ≤ 65 + lam ∧ 65 + lam < 127; lia
    · show 65 ≤ 97 + lam ∧ 97 + lam < 127; lia
    · show 65 ≤ 65 ∧ 65 < 127; decide
    · show 65 ≤ 97 ∧ 97 < 127; decide
    · show 65 ≤ 120 ∧ 120 < 127; decide
    · lia
  · show 65 ≤ 65 + r ∧ 65 + r < 127; lia
  · by_cases hr : r < 4
    · have := H.m16 r hr
      show 65 ≤ (if r < 4 then 65 + l r else 100) ∧ (if r < 4 then 65 + l r else 100) < 127
      rw [if_pos hr]; lia
    · show 65 ≤ (if r < 4 then 65 + l r else 100) ∧ (if r < 4 then 65 + l r else 100) < 127
      rw [if_neg hr]; decide
theorem gE_inj {q r t : Nat} (h1 : 13 ≤ q) (h2 : q ≤ 16) (hr : r < 5) (ht : t < 5) (e : gE f l lam q r = gE f l lam q t) : r = t := by
  have a1 := H.l1
  have a2 := H.l13
  have lin : ∀ i j, i < 4 → j < 4 → l i = l j → i = j := fun i j hi hj e => by
    rcases Nat.lt_trichotomy i j with h | h | h
    · have := H.up i j h hj; lia
    · exact h
    · have := H.up j i h hi; lia
  have key : ∀ g : Nat → Nat, (∀ i, i < 4 → g i < 16) → (∀ i j, i < 4 → j < 4 → g i = g j → i = j) → (if r < 4 then 65 + g r else 100) = (if t < 4 then 65 + g t else 100) → r = t := fun g g16 gi e => by
    by_cases h1 : r < 4 <;> by_cases h2 : t < 4
    · rw [if_pos h1, if_pos h2] at e; exact gi r t h1 h2 (by lia)
    · rw [if_pos h1, if_neg h2] at e; have := g16 r h1; lia
    · rw [if_neg h1, if_pos h2] at e; have := g16 t h2; lia
    · lia
  rcases four16 h1 h2 with rfl | rfl | rfl | rfl
  · exact key f H.f16 H.fi e
  · clear key lin
    rcases r with _ | _ | _ | _ | _ | r <;> rcases t with _ | _ | _ | _ | _ | t <;> first | rfl | (exact absurd hr (by lia)) | (exact absurd ht (by lia)) | (simp only [gE] at e; lia)
  · have e : 65 + r = 65 + t := e
    lia
  · exact key l H.m16 lin e
theorem em_of : Em (eG f l lam) where
  inj a b ha hb hq e := by
    cases three a with
    | lo _ h => lia
    | hi _ h =>
      rw [eG_hi h, eG_hi (by lia)] at e; lia
    | mid q r h1 h2 h =>
      cases three b with
      | lo _ h => lia
      | hi _ h => lia
      | mid q' r' h1' h2' h' =>
        obtain rfl : q = q' := by lia
        rw [eG_mid h1 h2 h, eG_mid h1 h2 h'] at e
        rw [gE_inj H h1 h2 h h' e]
  up a ha := by
    cases three a with
    | lo _ h => lia
    | hi _ h => rw [eG_hi h]; lia
    | mid q r h1 h2 h => rw [eG_mid h1 h2 h]; have := (gE_in H h1 h2 h).1; lia
  lo c h := eG_lo h
  ris a b ha hq hl := by
    cases three a with
    | lo _ h => lia
    | hi _ h => rw [eG_hi h, eG_hi (by lia)]; lia
    | mid q r h1 h2 h =>
      cases three b with
      | lo _ h => lia
      | hi _ h => lia
      | mid q' r' h1' h2' h' =>
        obtain rfl : q = q' := by lia
        rw [eG_mid h1 h2 h, eG_mid h1 h2 h']
        have hq2 : q = 15 ∨ q = 16 := by lia
        rcases hq2 with rfl | rfl
        · show 65 + r < 65 + r'; lia
        · show (if r < 4 then 65 + l r else 100) < if r' < 4 then 65 + l r' else 100
          have hr : r < 4 := by lia
          rw [if_pos hr]
          have h16 := H.m16 r hr
          by_cases h4 : r' < 4
          · rw [if_pos h4]; have := H.up r r' (by lia) h4; lia
          · rw [if_neg h4]; lia
  low c hc := by
    have a1 := H.l1
    have a2 := H.l13
    have hin : ∀ {x : Nat}, 65 ≤ x → x ≤ 90 → lowA x = x + 32 := fun h1 h2 => if_pos ((Bool.and_eq_true _ _).mpr ⟨Nat.ble_eq_true_of_le h1, Nat.ble_eq_true_of_le h2⟩)
    have hout : ∀ {x : Nat}, (x < 65 ∨ 90 < x) → lowA x = x := fun h => if_neg fun q => have ⟨h1, h2⟩ := (Bool.and_eq_true _ _).mp q; h.elim (Nat.not_lt.mpr (Nat.le_of_ble_eq_true h1)) (Nat.not_lt.mpr (Nat.le_of_ble_eq_true h2))
    rcases (Bool.or_eq_true _ _).mp hc with h | h
    · have h := Nat.le_of_ble_eq_true h
      have e1 : lowQ c = c := by
        unfold lowQ
        rw [beq_false (show c ≠ 70 by lia), beq_false (show c ≠ 72 by lia)]; rfl
      rw [e1, eG_lo h, hout (.inl (by lia))]
    · have ⟨h1, h2⟩ := (Bool.and_eq_true _ _).mp h
      have h1 := Nat.le_of_ble_eq_true h1
      have h2 := Nat.le_of_ble_eq_true h2
      have : c = 70 ∨ c = 71 ∨ c = 72 ∨ c = 73 := by lia
      rcases this with rfl | rfl | rfl | rfl
      · show lowA (65 + lam) = 97 + lam
        rw [hin (by lia) (by lia)]; lia
      · show lowA (97 + lam) = 97 + lam
        exact hout (.inr (by lia))
      · rfl
      · rfl
  pr c h1 h2 := by
    cases three c with
    | lo _ h => rw [eG_lo h]; lia
    | hi _ h => lia
    | mid q r a1 a2 h => rw [eG_mid a1 a2 h]; have := gE_in H a1 a2 h; lia
  an := rfl
  n0 := rfl
  n1 := rfl
  n2 := rfl
end
noncomputable def C4 : List Nat := [65, 66, 67, 68]
noncomputable def P24 : List (List Nat) := [[65,66,67,68],[65,66,68,67],[65,67,66,68],[65,67,68,66],[65,68,66,67],[65,68,67,66],[66,65,67,68],[66,65,68,67],[66,67,65,68],[66,67,68,65],[66,68,65,67],[66,68,67,65],[67,65,66,68],[67,65,68,66],[67,66,65,68],[67,66,68,65],[67,68,65,66],[67,68,66,65],[68,65,66,67],[68,65,67,66],[68,66,65,67],[68,66,67,65],[68,67,65,66],[68,67,66,65]]
theorem in_P24 {w : List Nat} (hl : w.length = 4) (hm : ∀ c ∈ w, c ∈ C4) (hn : w.Nodup) : w ∈ P24 := by
  have key : ∀ a ∈ C4, ∀ b ∈ C4, ∀ c ∈ C4, ∀ d ∈ C4, [a, b, c, d].Nodup → [a, b, c, d] ∈ P24 := by decide +kernel
  obtain ⟨a, b, c, d, rfl⟩ := four_of hl
  exact key a (hm a (.head _)) b (hm b (.tail _ (.head _))) c (hm c (.tail _ (.tail _ (.head _)))) d (hm d (.tail _ (.tail _ (.tail _ (.head _))))) hn
theorem sel_P24 (b : Nat) : sel 4 b C4 ∈ P24 := in_P24 (sel_len 4 b C4 (by decide)) (sel_mem 4 b C4) (sel_nodup 4 b C4 (by decide))
section
variable {F : FT} {SP : SPT} {ρ : Rho}
theorem join_sing {l : List Nat} (h : l.length = 4) : op2 .join (.str []) (.list ((l.map fun c => [c]).map .str)) = some (.str l) := by
  obtain ⟨a, b, c, d, rfl⟩ := four_of h
  exact o_join (s := []) (l := [[a], [b], [c], [d]]) ⟨Nat.zero_le _, by show 4 ≤ 100000; decide⟩
noncomputable def cut2 (s o : Nat) : Nat → List Nat
  | 0 => [s, s]
  | 1 => [s, o]
  | 2 => [s]
  | _ => []
noncomputable def toldV (s o : Nat) : Nat → List Nat
  | 0 => [s, s, s]
  | 1 => [s, o]
  | 2 => [s]
  | _ => []
noncomputable def rulV (s o : Nat) : Nat → List Nat
  | 0 => [s, 0, o]
  | 1 => [s, o]
  | 2 => [s, 127, o]
  | _ => [127, s, o]
noncomputable def intsV (l : List Nat) : PV := .list (l.map fun n : Nat => .int n)
noncomputable def L13 : List (List Nat) := [[1,1],[1,2],[1,3],[2,1],[2,2],[2,3],[3,1],[3,2],[3,3],[1],[2],[3],[]]
noncomputable def b7 : Ss := match s_law2_7 with
  | .for_ _ _ b => b
  | _ => .nil
noncomputable def b7r : Ss := match b7 with
  | .cons _ b => b
  | _ => .nil
noncomputable def hdS : Ss → S
  | .cons s _ => s
  | .nil => .pop 0
noncomputable def tlS : Ss → Ss
  | .cons _ b => b
  | .nil => .nil
theorem told_two (s o : Nat) : ∀ g, (toldV s o g).take 2 = cut2 s o g
  | 0 => rfl
  | 1 => rfl
  | 2 => rfl
  | _ + 3 => rfl
noncomputable def S7 (v : List SV) (xs : List PV) (w : List SV) : Rho := v ++ (.own xs :: w) ++ List.replicate 22 .un
theorem b7_rest (v : List SV) (hv : v.length = 7) (xs : List PV) (hp : SV) (s o g : Nat) (hs : s < 3) (ho : o < 3) (hg : g < 4) (w4 w5 : SV) (ok : okLB (xs ++ [intsV (cut2 (1 + s) (1 + o) g)]) = true) :
    evSs F SP b7r (S7 v xs [hp, .val (.int ((1 + s : Nat) : Int)), .val (.int ((1 + o : Nat) : Int)), .val (.int (g : Nat)), w4, w5]) =
      some (.next (S7 v (xs ++ [intsV (cut2 (1 + s) (1 + o) g)]) [hp, .val (.int ((1 + s : Nat) : Int)), .val (.int ((1 + o : Nat) : Int)), .val (.int (g : Nat)), .val (intsV (rulV (1 + s) (1 + o) g)), .val (intsV (toldV (1 + s) (1 + o) g))])) := by
  rcases v with _ | ⟨v0, _ | ⟨v1, _ | ⟨v2, _ | ⟨v3, _ | ⟨v4, _ | ⟨v5, _ | ⟨v6, _ | ⟨v7, v⟩⟩⟩⟩⟩⟩⟩⟩ <;> first | cases hv | skip
  have app : ∀ {ρ : Rho} {told two : List Nat}, get ρ 7 = .own xs → get ρ 13 = .val (intsV told) → told.take 2 = two → 7 < ρ.length → okLB (xs ++ [intsV two]) = true → evSs F SP (.cons (.append 7 (.op2 .to_ (.v 13) (.e (.k (.int 2))))) .nil) ρ = some (.next (set ρ 7 (.own (xs ++ [intsV two])))) := fun {ρ told two} h1 h2 h3 h4 h5 => by
    refine next_ ?_ rfl
    show (ownOf (get ρ 7)).bind (fun xs => (((readOf (get ρ 13)).bind fun p => op2 .to_ p (.int (2 : Nat)))).bind fun p => setOwn 7 (xs ++ [p]) ρ) = _
    rw [h1, h2]
    show ((op2 .to_ (intsV told) (.int (2 : Nat)))).bind (fun p => setOwn 7 (xs ++ [p]) ρ) = _
    rw [show op2 .to_ (intsV told) (.int (2 : Nat)) = some (intsV two) from o_to_l.trans (by rw [← List.map_take, h3]; rfl)]
    show (if okLB (xs ++ [intsV two]) = true then (if 7 < ρ.length then some (Out.next (set ρ 7 (.own (xs ++ [intsV two])))) else none) else none) = _
    rw [if_pos h5, if_pos h4]
  have go : ∀ {s1 s2 s3 s4 : S} {ρ ρ1 ρ2 ρ3 : Rho}, evS F SP s1 ρ = some (.next ρ1) → evS F SP s2 ρ1 = some (.next ρ2) → evS F SP s3 ρ2 = some (.next ρ2) → evSs F SP (.cons s4 .nil) ρ2 = some (.next ρ3) → evSs F SP (.cons s1 (.cons s2 (.cons s3 (.cons s4 .nil)))) ρ = some (.next ρ3) := fun h1 h2 h3 h4 => next_ h1 (next_ h2 (next_ h3 h4))
  have ap2 : ∀ {w : List SV} {told two : List Nat}, w.length = 6 → get (S7 [v0, v1, v2, v3, v4, v5, v6] xs w) 13 = .val (intsV told) → told.take 2 = two → okLB (xs ++ [intsV two]) = true → evSs F SP (.cons (.append 7 (.op2 .to_ (.v 13) (.e (.k (.int 2))))) .nil) (S7 [v0, v1, v2, v3, v4, v5, v6] xs w) = some (.next (S7 [v0, v1, v2, v3, v4, v5, v6] (xs ++ [intsV two]) w)) := fun {w told two} hw h2 h3 h5 => app (ρ := S7 [v0, v1, v2, v3, v4, v5, v6] xs w) rfl h2 h3 (by unfold S7; rw [List.length_append, List.length_append, List.length_replicate]; exact Nat.lt_of_lt_of_le (show 7 < 22 by decide) (Nat.le_add_left _ _)) h5
  have key : evS F SP (hdS b7r) (S7 [v0, v1, v2, v3, v4, v5, v6] xs [hp, .val (.int ((1 + s : Nat) : Int)), .val (.int ((1 + o : Nat) : Int)), .val (.int (g : Nat)), w4, w5]) = some (.next (S7 [v0, v1, v2, v3, v4, v5, v6] xs [hp, .val (.int ((1 + s : Nat) : Int)), .val (.int ((1 + o : Nat) : Int)), .val (.int (g : Nat)), .val (intsV (rulV (1 + s) (1 + o) g)), w5]))
      ∧ evS F SP (hdS (tlS b7r)) (S7 [v0, v1, v2, v3, v4, v5, v6] xs [hp, .val (.int ((1 + s : Nat) : Int)), .val (.int ((1 + o : Nat) : Int)), .val (.int (g : Nat)), .val (intsV (rulV (1 + s) (1 + o) g)), w5]) = some (.next (S7 [v0, v1, v2, v3, v4, v5, v6] xs [hp, .val (.int ((1 + s : Nat) : Int)), .val (.int ((1 + o : Nat) : Int)), .val (.int (g : Nat)), .val (intsV (rulV (1 + s) (1 + o) g)), .val (intsV (toldV (1 + s) (1 + o) g))]))
      ∧ evS F SP (hdS (tlS (tlS b7r))) (S7 [v0, v1, v2, v3, v4, v5, v6] xs [hp, .val (.int ((1 + s : Nat) : Int)), .val (.int ((1 + o : Nat) : Int)), .val (.int (g : Nat)), .val (intsV (rulV (1 + s) (1 + o) g)), .val (intsV (toldV (1 + s) (1 + o) g))]) = some (.next (S7 [v0, v1, v2, v3, v4, v5, v6] xs [hp, .val (.int ((1 + s : Nat) : Int)), .val (.int ((1 + o : Nat) : Int)), .val (.int (g : Nat)), .val (intsV (rulV (1 + s) (1 + o) g)), .val (intsV (toldV (1 + s) (1 + o) g))])) := by
    clear ok ap2 app go
    rcases s with _ | _ | _ | s <;> first | (exact absurd hs (Nat.not_lt.mpr (Nat.le_add_left 3 s))) | skip
    all_goals rcases o with _ | _ | _ | o <;> first | (exact absurd ho (Nat.not_lt.mpr (Nat.le_add_left 3 o))) | skip
    all_goals rcases g with _ | _ | _ | _ | g <;> first | (exact absurd hg (Nat.not_lt.mpr (Nat.le_add_left 4 g))) | exact ⟨rfl, rfl, rfl⟩
  exact go key.1 key.2.1 key.2.2 (ap2 rfl rfl (told_two _ _ g) ok)
end
section
variable {F : FT} {SP : SPT}
theorem evU_cons {c i : Nat} {x : X} {us : List (Nat × UX)} {p : PV} {l : List (Nat × SV)} {ρ : Rho} (h : evE F x ρ = some p) (h2 : evU F c us ρ = some l) : evU F c ((i, .val x) :: us) ρ = some ((i, .val p) :: l) := bindE2 (bindE2 h rfl) (bindE2 h2 rfl)
theorem evU_nil {c : Nat} {ρ : Rho} : evU F c [] ρ = some [] := rfl
noncomputable def Pl (v : SV) : Prop := ∃ q : QSV, ∀ e, erS e q = v
theorem pl_int (i : Int) : Pl (.val (.int i)) := ⟨.val (.int i), fun zz => rfl⟩
theorem er_ints (e : Nat → Nat) (l : List Nat) : er e (.list (l.map fun n : Nat => QV.int n)) = intsV l := by
  show PV.list (ers e (l.map fun n : Nat => QV.int n)) = _
  rw [ers_eq, List.map_map]; rfl
theorem pl_ints (l : List Nat) : Pl (.val (intsV l)) := ⟨.val (.list (l.map fun n : Nat => QV.int n)), fun e => congrArg SV.val (er_ints e l)⟩
noncomputable def cz (h : Nat) : List Nat := cut2 (1 + h % 3) (1 + h / 3 % 3) (h / 9 % 7 % 4)
theorem cz_L13 (h : Nat) : cz h ∈ L13 := by
  have key : ∀ s : Fin 3, ∀ o : Fin 3, ∀ g : Fin 4, cut2 (1 + s.val) (1 + o.val) g.val ∈ L13 := by decide +kernel
  exact key ⟨h % 3, Nat.mod_lt _ (by decide)⟩ ⟨h / 3 % 3, Nat.mod_lt _ (by decide)⟩ ⟨h / 9 % 7 % 4, Nat.mod_lt _ (by decide)⟩
theorem intsV_ok (l : List Nat) : okPy (intsV l) 8 = true := by
  show okPys (l.map fun n : Nat => PV.int n) 7 = true
  rw [okPys_all, List.all_map]
  exact List.all_eq_true.mpr fun zz zz => rfl
theorem okLB_ints {xs : List (List Nat)} (h : xs.length ≤ 100) : okLB (xs.map intsV) = true := by
  refine (Bool.and_eq_true _ _).mpr ⟨?_, decide_eq_true (by rw [List.length_map]; show _ ≤ 100000; lia)⟩
  rw [okPys_all, List.all_map]
  exact List.all_eq_true.mpr fun l zz => intsV_ok l
theorem op_modN {h k : Nat} (hk : 0 < k) : op2 .mod (.int h) (.int (k : Nat)) = some (.int ((h % k : Nat) : Int)) := (o_mod (Int.ofNat_lt.mpr hk)).trans (by rw [Int.natCast_emod])
theorem op_divN {h k : Nat} (hk : 0 < k) (hk2 : k < 1000000000) : op2 .fdiv (.int h) (.int (k : Nat)) = some (.int ((h / k : Nat) : Int)) := (o_fdiv ⟨Int.ofNat_lt.mpr hk, by lia⟩).trans (by rw [Int.natCast_ediv])
theorem b7_turn {v : List SV} (hv : v.length = 7) {xs : List (List Nat)} (hx : xs.length ≤ 5) (h : Nat) {w1 w2 w3 w4 w5 : SV} : ∃ w : List SV, w.length = 5 ∧ (∀ v ∈ w, Pl v) ∧ evSs F SP b7 (S7 v (xs.map intsV) [.val (.int h), w1, w2, w3, w4, w5]) = some (.next (S7 v ((xs ++ [cz h]).map intsV) (.val (.int h) :: w))) := by
  have hok : okLB (xs.map intsV ++ [intsV (cut2 (1 + h % 3) (1 + h / 3 % 3) (h / 9 % 7 % 4))]) = true := by
    have := okLB_ints (xs := xs ++ [cz h]) (by rw [List.length_append]; show xs.length + 1 ≤ 100; lia)
    rwa [List.map_append] at this
  refine ⟨[.val (.int ((1 + h % 3 : Nat) : Int)), .val (.int ((1 + h / 3 % 3 : Nat) : Int)), .val (.int ((h / 9 % 7 % 4 : Nat) : Int)), .val (intsV (rulV (1 + h % 3) (1 + h / 3 % 3) (h / 9 % 7 % 4))), .val (intsV (toldV (1 + h % 3) (1 + h / 3 % 3) (h / 9 % 7 % 4)))], rfl, ?_, next_ (ρ' := S7 v (xs.map intsV) [.val (.int h), .val (.int ((1 + h % 3 : Nat) : Int)), .val (.int ((1 + h / 3 % 3 : Nat) : Int)), .val (.int ((h / 9 % 7 % 4 : Nat) : Int)), w4, w5]) ?_ ((b7_rest v hv (xs.map intsV) (.val (.int h)) (h % 3) (h / 3 % 3) (h / 9 % 7 % 4) (Nat.mod_lt _ (by decide)) (Nat.mod_lt _ (by decide)) (Nat.mod_lt _ (by decide)) w4 w5 hok).trans ?_)⟩
  · intro v hv
    rcases hv with _ | ⟨_, _ | ⟨_, _ | ⟨_, _ | ⟨_, _ | ⟨_, h⟩⟩⟩⟩⟩
    · exact pl_int _
    · exact pl_int _
    · exact pl_int _
    · exact pl_ints _
    · exact pl_ints _
    · cases h
  · rcases v with _ | ⟨v0, _ | ⟨v1, _ | ⟨v2, _ | ⟨v3, _ | ⟨v4, _ | ⟨v5, _ | ⟨v6, _ | ⟨v7, v⟩⟩⟩⟩⟩⟩⟩⟩ <;> first | cases hv | skip
    have e1 : evE F (.op2 .add (.e (.k (.int 1))) (.e (.op2 .mod (.v 8) (.e (.k (.int 3)))))) (S7 [v0, v1, v2, v3, v4, v5, v6] (xs.map intsV) [.val (.int h), w1, w2, w3, w4, w5]) = some (.int ((1 + h % 3 : Nat) : Int)) := by
      show ((op2 .mod (.int h) (.int (3 : Nat))).bind fun q => op2 .add (.int 1) q) = _
      rw [op_modN (by decide)]; rfl
    have e2 : evE F (.op2 .add (.e (.k (.int 1))) (.e (.op2 .mod (.e (.op2 .fdiv (.v 8) (.e (.k (.int 3))))) (.e (.k (.int 3)))))) (S7 [v0, v1, v2, v3, v4, v5, v6] (xs.map intsV) [.val (.int h), w1, w2, w3, w4, w5]) = some (.int ((1 + h / 3 % 3 : Nat) : Int)) := by
      show (((op2 .fdiv (.int h) (.int (3 : Nat))).bind fun p => op2 .mod p (.int (3 : Nat))).bind fun q => op2 .add (.int 1) q) = _
      rw [op_divN (by decide) (by decide)]
      show ((op2 .mod (.int ((h / 3 : Nat) : Int)) (.int (3 : Nat))).bind fun q => op2 .add (.int 1) q) = _
      rw [op_modN (by decide)]; rfl
    have e3 : evE F (.op2 .mod (.e (.op2 .mod (.e (.op2 .fdiv (.v 8) (.e (.k (.int 9))))) (.e (.k (.int 7))))) (.e (.k (.int 4)))) (S7 [v0, v1, v2, v3, v4, v5, v6] (xs.map intsV) [.val (.int h), w1, w2, w3, w4, w5]) = some (.int ((h / 9 % 7 % 4 : Nat) : Int)) := by
      show (((op2 .fdiv (.int h) (.int (9 : Nat))).bind fun p => op2 .mod p (.int (7 : Nat))).bind fun p => op2 .mod p (.int (4 : Nat))) = _
      rw [op_divN (by decide) (by decide)]
      show ((op2 .mod (.int ((h / 9 : Nat) : Int)) (.int (7 : Nat))).bind fun p => op2 .mod p (.int (4 : Nat))) = _
      rw [op_modN (by decide)]
      exact op_modN (by decide)
    show (evU F SP.c [(9, .val (.op2 .add (.e (.k (.int 1))) (.e (.op2 .mod (.v 8) (.e (.k (.int 3))))))), (10, .val (.op2 .add (.e (.k (.int 1))) (.e (.op2 .mod (.e (.op2 .fdiv (.v 8) (.e (.k (.int 3))))) (.e (.k (.int 3))))))), (11, .val (.op2 .mod (.e (.op2 .mod (.e (.op2 .fdiv (.v 8) (.e (.k (.int 9))))) (.e (.k (.int 7))))) (.e (.k (.int 4)))))] (S7 [v0, v1, v2, v3, v4, v5, v6] (xs.map intsV) [.val (.int h), w1, w2, w3, w4, w5])).bind (fun l => setAll l (S7 [v0, v1, v2, v3, v4, v5, v6] (xs.map intsV) [.val (.int h), w1, w2, w3, w4, w5])) = _
    rw [evU_cons e1 (evU_cons e2 (evU_cons e3 evU_nil))]
    rfl
  · rw [List.map_append]; rfl
theorem law2_B {v0 v2 v3 v4 : SV} {a b c d : Nat} {D A : List Nat} (hpk : F "_law_picked" [.int b, .str D] = some (.list ((A.map fun c => [c]).map .str))) (hA : A.length = 4) {ss : Ss} {o : Option Out}
    (e : ∀ l0 l1 w, l0 ∈ L13 → l1 ∈ L13 → w.length = 6 → (∀ v ∈ w, Pl v) → evSs F SP ss (S7 [v0, .val (hps a b c d), v2, v3, v4, .val (.str D), .val (.str A)] ([l0, l1].map intsV) w) = o) :
    evSs F SP (.cons s_law2_6 (.cons s_law2_7 ss)) (P36 [v0, .val (hps a b c d), v2, v3, v4, .val (.str D)]) = o := by
  obtain ⟨w, hw, _, e1⟩ := b7_turn (F := F) (SP := SP) (v := [v0, .val (hps a b c d), v2, v3, v4, .val (.str D), .val (.str A)]) rfl (xs := []) (by decide) c (w1 := .un) (w2 := .un) (w3 := .un) (w4 := .un) (w5 := .un)
  rcases w with _ | ⟨w1, _ | ⟨w2, _ | ⟨w3, _ | ⟨w4, _ | ⟨w5, _ | ⟨w6, w⟩⟩⟩⟩⟩⟩ <;> first | cases hw | skip
  obtain ⟨w, hw, hp, e2⟩ := b7_turn (F := F) (SP := SP) (v := [v0, .val (hps a b c d), v2, v3, v4, .val (.str D), .val (.str A)]) rfl (xs := [cz c]) (by show 1 ≤ 5; decide) d (w1 := w1) (w2 := w2) (w3 := w3) (w4 := w4) (w5 := w5)
  refine next_ (ρ' := S7 [v0, .val (hps a b c d), v2, v3, v4, .val (.str D), .val (.str A)] [] [.un, .un, .un, .un, .un, .un]) ?_ (next_ (forS (items := [.int c, .int d]) rfl rfl (o := some (.next (S7 [v0, .val (hps a b c d), v2, v3, v4, .val (.str D), .val (.str A)] ([cz c, cz d].map intsV) (.val (.int d) :: w)))) ?_) (e (cz c) (cz d) _ (cz_L13 c) (cz_L13 d) (by rw [List.length_cons, hw]) (List.forall_mem_cons.mpr ⟨pl_int _, hp⟩)))
  · have hj : evE F (.op2 .join (.e (.k (.str []))) (.e (.call "_law_picked" (.cons (.op2 .idx (.v 1) (.e (.k (.int 1)))) (.cons (.var 5) .nil))))) (P36 [v0, .val (hps a b c d), v2, v3, v4, .val (.str D)]) = some (.str A) := by
      show ((F "_law_picked" [.int b, .str D]).bind fun q => op2 .join (.str []) q) = _
      rw [hpk]
      exact join_sing hA
    exact bindE2 (p := [(6, .val (.str A)), (7, .own [])]) (evU_cons hj rfl) rfl
  · show andThen (evSs F SP b7 (S7 [v0, .val (hps a b c d), v2, v3, v4, .val (.str D), .val (.str A)] (([] : List (List Nat)).map intsV) [.val (.int c), .un, .un, .un, .un, .un])) (loopF (.one 8) (evSs F SP b7) [.int d]) = _
    rw [e1]
    show andThen (evSs F SP b7 (S7 [v0, .val (hps a b c d), v2, v3, v4, .val (.str D), .val (.str A)] (([cz c] : List (List Nat)).map intsV) [.val (.int d), w1, w2, w3, w4, w5])) (loopF (.one 8) (evSs F SP b7) []) = _
    rw [e2]; rfl
end
noncomputable def cutS : List Nat → List Nat → List (List Nat)
  | [], w => cond w.isEmpty [] [w]
  | n :: l, w => cond w.isEmpty (cutS l w) (w.take n :: cutS l (w.drop n))
noncomputable def isSub : List Nat → List Nat → Bool
  | [], _ => true
  | _ :: _, [] => false
  | a :: as, b :: bs => cond (Nat.beq a b) (isSub as bs) (isSub (a :: as) bs)
noncomputable def rif (pk : List (List Nat)) (row : List Nat) : Bool := pk.all fun p => isSub p row
noncomputable def inQ (l : List Nat) : QV := .list (mapQ (fun n : Nat => .int (.ofNat n)) l)
noncomputable def L7 : List (List Nat) := [[], [1], [2], [3], [1, 1], [1, 2], [2, 1]]
noncomputable def sh : List Nat → List Nat
  | [1, 1] => [1, 1]
  | [1, 2] => [1, 2]
  | [2, 1] => [2, 1]
  | [1, _] => [1]
  | [2, _] => [2]
  | [3, _] => [3]
  | l => l
theorem sh_L7 : ∀ l ∈ L13, sh l ∈ L7 := by decide +kernel
theorem sh_cut : ∀ l ∈ L13, ∀ w ∈ P24, cutS l w = cutS (sh l) w := by decide +kernel
theorem maps_eq {α β : Type} {f g : α → β} {l : List α} (h : mapQ f l = l.map g) : ∀ x ∈ l, f x = g x := List.map_inj_left.mp ((mapQ_eq f l).symm.trans h)
theorem t_cut : ∀ l ∈ L13, (mapQ (fun w => KcuK.n [.abs w, inQ l]) P24) = P24.map fun w => some (QV.list (tabs (cutS l w))) := by
  refine maps_eq (f := fun l => mapQ (fun w => KcuK.n [.abs w, inQ l]) P24) (g := fun l => P24.map fun w => some (QV.list (tabs (cutS l w)))) ?_
  kernel_rfl
theorem t_rif0 : (mapQ (fun w => mapQ (fun row => KriK.n [.list (tabs (cutS [] w)), .abs row]) P24) P24) = P24.map fun w => P24.map fun row => some (QV.bool (rif (cutS [] w) row)) := by kernel_rfl
theorem t_rif1 : (mapQ (fun w => mapQ (fun row => KriK.n [.list (tabs (cutS [1] w)), .abs row]) P24) P24) = P24.map fun w => P24.map fun row => some (QV.bool (rif (cutS [1] w) row)) := by kernel_rfl
theorem t_rif2 : (mapQ (fun w => mapQ (fun row => KriK.n [.list (tabs (cutS [2] w)), .abs row]) P24) P24) = P24.map fun w => P24.map fun row => some (QV.bool (rif (cutS [2] w) row)) := by kernel_rfl
theorem t_rif3 : (mapQ (fun w => mapQ (fun row => KriK.n [.list (tabs (cutS [3] w)), .abs row]) P24) P24) = P24.map fun w => P24.map fun row => some (QV.bool (rif (cutS [3] w) row)) := by kernel_rfl
theorem t_rif4 : (mapQ (fun w => mapQ (fun row => KriK.n [.list (tabs (cutS [1, 1] w)), .abs row]) P24) P24) = P24.map fun w => P24.map fun row => some (QV.bool (rif (cutS [1, 1] w) row)) := by kernel_rfl
theorem t_rif5 : (mapQ (fun w => mapQ (fun row => KriK.n [.list (tabs (cutS [1, 2] w)), .abs row]) P24) P24) = P24.map fun w => P24.map fun row => some (QV.bool (rif (cutS [1, 2] w) row)) := by kernel_rfl
theorem t_rif6 : (mapQ (fun w => mapQ (fun row => KriK.n [.list (tabs (cutS [2, 1] w)), .abs row]) P24) P24) = P24.map fun w => P24.map fun row => some (QV.bool (rif (cutS [2, 1] w) row)) := by kernel_rfl
theorem t_rif {l : List Nat} (h : l ∈ L13) {w row : List Nat} (hw : w ∈ P24) (hr : row ∈ P24) : KriK.n [.list (tabs (cutS l w)), .abs row] = some (.bool (rif (cutS l w) row)) := by
  rw [sh_cut l h w hw]
  have h7 := sh_L7 l h
  generalize sh l = k at h7
  have go : ∀ k, (mapQ (fun w => mapQ (fun row => KriK.n [.list (tabs (cutS k w)), .abs row]) P24) P24) = (P24.map fun w => P24.map fun row => some (QV.bool (rif (cutS k w) row))) → KriK.n [.list (tabs (cutS k w)), .abs row] = some (.bool (rif (cutS k w) row)) := fun k e =>
    maps_eq (maps_eq e w hw) row hr
  rcases h7 with _ | ⟨_, _ | ⟨_, _ | ⟨_, _ | ⟨_, _ | ⟨_, _ | ⟨_, h⟩⟩⟩⟩⟩⟩
  · exact go _ t_rif0
  · exact go _ t_rif1
  · exact go _ t_rif2
  · exact go _ t_rif3
  · exact go _ t_rif4
  · exact go _ t_rif5
  · rcases h with _ | ⟨_, h⟩
    · exact go _ t_rif6
    · cases h
theorem cut_ok {e : Nat → Nat} (E : Em e) {l : List Nat} (h : l ∈ L13) {w : List Nat} (hw : w ∈ P24) : FK "_law_cut" [.str (w.map e), intsV l] = some (.list (((cutS l w).map (List.map e)).map .str)) := by
  have := KcuK.ok e E _ _ (maps_eq (t_cut l h) w hw)
  rw [show er e (.list (tabs (cutS l w))) = .list (((cutS l w).map (List.map e)).map .str) from congrArg PV.list (ers_tabs e _)] at this
  have e1 : ers e [.abs w, inQ l] = [.str (w.map e), intsV l] := by
    show [PV.str (w.map e), PV.list (ers e (mapQ (fun n : Nat => .int (.ofNat n)) l))] = _
    rw [mapQ_eq, ers_eq, List.map_map]; rfl
  rwa [e1] at this
theorem rif_ok {e : Nat → Nat} (E : Em e) {l : List Nat} (h : l ∈ L13) {w row : List Nat} (hw : w ∈ P24) (hr : row ∈ P24) : FK "_law_riffled" [.list (((cutS l w).map (List.map e)).map .str), .str (row.map e)] = some (.bool (rif (cutS l w) row)) := by
  have := KriK.ok e E _ _ (t_rif h hw hr)
  have e1 : ers e [.list (tabs (cutS l w)), .abs row] = [.list (((cutS l w).map (List.map e)).map .str), .str (row.map e)] := by
    show [PV.list (ers e (tabs (cutS l w))), PV.str (row.map e)] = _
    rw [ers_tabs]
  rwa [e1] at this
noncomputable def b13 : Ss := match s_law2_13 with
  | .for_ _ _ b => b
  | _ => .nil
noncomputable def r13b {SP : SPT} : RSs FK SP 2 b13 := (fun (Kel : FnQ FK "_ellipsis_match") => ((rC (rIf (rTx (rE (rOp2 kisNot (rE (rCall Kel (rXc (rOp2 kadd (rE (rOp2 kadd (rE (rOp2 kto (rV sl2_18) (rE (rI 2)))) (rE (rA [46, 46, 46] rfl)))) (rE (rOp2 kfrom (rV sl2_18) (rE (rI 2))))) (rXc (rVar sl2_18) rXn)))) (rE (rBo true))))) (rC (rRet (rE (rBo false))) rN) rN) (rC (rIf (rTx (rE (rOp2 kisNot (rE (rCall Kel (rXc (rOp2 kadd (rE (rOp2 kadd (rE (rOp2 kto (rV sl2_18) (rE (rI 3)))) (rE (rA [46, 46, 46] rfl)))) (rE (rOp2 kfrom (rV sl2_18) (rE (rI 2))))) (rXc (rVar sl2_18) rXn)))) (rE (rBo false))))) (rC (rRet (rE (rBo false))) rN) rN) (rC (rForV sl2_16 (tOne sl2_19) (rC (rAsg sl2_20 (rVal (rBool (rBc (rOp2 kgt (rE (rOp1 klen (rV sl2_19))) (rE (rI 1))) (rBc (rOp2 keq (rE (rOp2 kidx (rV sl2_18) (rE (rI 0)))) (rE (rOp2 kidx (rV sl2_19) (rE (rI 0))))) (rB1 (rOp2 keq (rE (rOp2 kidx (rV sl2_18) (rE (rOp1 kneg (rE (rI 1)))))) (rE (rOp2 kidx (rV sl2_19) (rE (rOp1 kneg (rE (rI 1))))))))))))) (rC (rIf (rTx (rE (rOp2 kisNot (rE (rCall Kel (rXc (rOp2 kjoin (rE (rA [46, 46, 46] rfl)) (rV sl2_19)) (rXc (rVar sl2_18) rXn)))) (rV sl2_20)))) (rC (rRet (rE (rBo false))) rN) rN) (rC (rIf (rTx (rE (rOp2 kisNot (rE (rCall Kel (rXc (rOp2 kadd (rE (rOp2 kadd (rE (rA [46, 46, 46] rfl)) (rV sl2_19))) (rE (rA [46, 46, 46] rfl))) (rXc (rVar sl2_18) rXn)))) (rE (rOp2 kin (rV sl2_19) (rV sl2_18)))))) (rC (rRet (rE (rBo false))) rN) rN) rN)))) rN))) : RSs FK SP 2 b13)) KelK
noncomputable def lastP (pk : List (List Nat)) : List Nat := pk.getLastD []
noncomputable def enB (row p : List Nat) : Bool := and (Nat.blt 1 p.length) (and (Nat.beq (row.headD 0) (p.headD 0)) (Nat.beq (row.getLastD 0) (p.getLastD 0)))
noncomputable def wds' (l : List (List Nat)) : QSV := .val (.list (tabs l))
section
variable {SP : SPT} (x0 x1 x2 x3 x4 x5 x6 x7 x8 x9 x10 x11 x12 x13 x14 x15 x17 : QSV)
noncomputable def fr13 (pk : List (List Nat)) (y18 y19 y20 : QSV) : Fr 2 := F6.mk (F6.mk x0 x1 x2 x3 x4 x5) (F6.mk x6 x7 x8 x9 x10 x11) (F6.mk x12 x13 x14 x15 (wds' pk) x17) (F6.mk y18 y19 y20 .un .un .un) u6 u6
noncomputable def Rl (l0 : List Nat) : List (List Nat) := P24.filter (rif (cutS l0 C4))
theorem t_13 (y19 y20 : QSV) : mapQ (fun l0 => mapQ (fun row => (r13b (SP := SP)).n (fr13 x0 x1 x2 x3 x4 x5 x6 x7 x8 x9 x10 x11 x12 x13 x14 x15 x17 (cutS l0 C4) (.val (.abs row)) y19 y20)) (Rl l0)) L7 = L7.map fun l0 => (Rl l0).map fun row => some (.next (fr13 x0 x1 x2 x3 x4 x5 x6 x7 x8 x9 x10 x11 x12 x13 x14 x15 x17 (cutS l0 C4) (.val (.abs row)) (.val (.abs (lastP (cutS l0 C4)))) (.val (.bool (enB row (lastP (cutS l0 C4))))))) := by kernel_rfl
end
theorem sLe_one {a b : Nat} (h : sLe [65 + a] [65 + b]) : a ≤ b := by
  rcases Nat.lt_or_ge b a with q | q
  · have h : sLt [65 + b] [65 + a] = false := h
    have e1 : sLt [65 + b] [65 + a] = true := if_pos (Nat.ble_eq_true_of_le (show 65 + b + 1 ≤ 65 + a by lia))
    rw [e1] at h; cases h
  · exact q
noncomputable def l4 (a b c d : Nat) : Nat → Nat
  | 0 => a
  | 1 => b
  | 2 => c
  | _ => d
noncomputable def lowL (l : Nat → Nat) : List (List Nat) := [[65 + l 0], [65 + l 1], [65 + l 2], [65 + l 3]]
theorem order_of {f : Nat → Nat} (f16 : ∀ i, i < 4 → f i < 16) (fi : ∀ i j, i < 4 → j < 4 → f i = f j → i = j) :
    ∃ l p, p ∈ P24 ∧ (∀ i j, i < j → j < 4 → l i < l j) ∧ (∀ i, i < 4 → l i < 16) ∧ (∀ i, i < 4 → ∃ j, j < 4 ∧ p[i]? = some (65 + j) ∧ l i = f j) ∧ sortS ((dk f).map fun c => [c]) = lowL l := by
  have hperm := sortS_perm ((dk f).map fun c => [c])
  have hr := sortS_rises ((dk f).map fun c => [c])
  obtain ⟨a, b, c, d, he⟩ := four_of (l := sortS ((dk f).map fun c => [c])) (by rw [hperm.length_eq]; rfl)
  have hn : ((dk f).map fun c => [c]).Nodup := by
    have h01 : f 0 ≠ f 1 := fun h => absurd (fi 0 1 (by decide) (by decide) h) (by decide)
    have h02 : f 0 ≠ f 2 := fun h => absurd (fi 0 2 (by decide) (by decide) h) (by decide)
    have h03 : f 0 ≠ f 3 := fun h => absurd (fi 0 3 (by decide) (by decide) h) (by decide)
    have h12 : f 1 ≠ f 2 := fun h => absurd (fi 1 2 (by decide) (by decide) h) (by decide)
    have h13 : f 1 ≠ f 3 := fun h => absurd (fi 1 3 (by decide) (by decide) h) (by decide)
    have h23 : f 2 ≠ f 3 := fun h => absurd (fi 2 3 (by decide) (by decide) h) (by decide)
    simp [dk, h01, h02, h03, h12, h13, h23]
  have hn2 := hperm.nodup_iff.mpr hn
  have hm : ∀ x, x ∈ sortS ((dk f).map fun c => [c]) → ∃ j, j < 4 ∧ x = [65 + f j] := fun x hx => by
    rcases hperm.mem_iff.mp hx with _ | ⟨_, _ | ⟨_, _ | ⟨_, _ | ⟨_, h⟩⟩⟩⟩
    · exact ⟨0, by decide, rfl⟩
    · exact ⟨1, by decide, rfl⟩
    · exact ⟨2, by decide, rfl⟩
    · exact ⟨3, by decide, rfl⟩
    · cases h
  rw [he] at hr hn2 hm
  obtain ⟨j0, h0, rfl⟩ := hm a (.head _)
  obtain ⟨j1, h1, rfl⟩ := hm b (.tail _ (.head _))
  obtain ⟨j2, h2, rfl⟩ := hm c (.tail _ (.tail _ (.head _)))
  obtain ⟨j3, h3, rfl⟩ := hm d (.tail _ (.tail _ (.tail _ (.head _))))
  clear hm hperm hn
  obtain ⟨r0, hr⟩ := List.pairwise_cons.mp hr
  obtain ⟨r1, hr⟩ := List.pairwise_cons.mp hr
  obtain ⟨r2, _⟩ := List.pairwise_cons.mp hr
  obtain ⟨n0, hn2⟩ := List.nodup_cons.mp hn2
  obtain ⟨n1, hn2⟩ := List.nodup_cons.mp hn2
  obtain ⟨n2, _⟩ := List.nodup_cons.mp hn2
  have a01 := sLe_one (r0 _ (.head _))
  have a12 := sLe_one (r1 _ (.head _))
  have a23 := sLe_one (r2 _ (.head _))
  have b01 : f j0 ≠ f j1 := fun h => n0 (h ▸ .head _)
  have b12 : f j1 ≠ f j2 := fun h => n1 (h ▸ .head _)
  have b23 : f j2 ≠ f j3 := fun h => n2 (h ▸ .head _)
  clear r0 r1 r2 n0 n1 n2
  refine ⟨l4 (f j0) (f j1) (f j2) (f j3), [65 + j0, 65 + j1, 65 + j2, 65 + j3], ?_, ?_, ?_, ?_, he⟩
  · have hC : ∀ j, j < 4 → 65 + j ∈ C4 := fun j h => by
      have : ∀ j : Fin 4, 65 + j.val ∈ C4 := by decide
      exact this ⟨j, h⟩
    refine in_P24 rfl (fun c hc => ?_) ?_
    · rcases hc with _ | ⟨_, _ | ⟨_, _ | ⟨_, _ | ⟨_, h⟩⟩⟩⟩
      · exact hC _ h0
      · exact hC _ h1
      · exact hC _ h2
      · exact hC _ h3
      · cases h
    · have d01 : j0 ≠ j1 := fun h => b01 (h ▸ rfl)
      have d02 : j0 ≠ j2 := fun h => by rw [h] at a01 b01; lia
      have d03 : j0 ≠ j3 := fun h => by rw [h] at a01 b01; lia
      have d12 : j1 ≠ j2 := fun h => b12 (h ▸ rfl)
      have d13 : j1 ≠ j3 := fun h => by rw [h] at a12 b12; lia
      have d23 : j2 ≠ j3 := fun h => b23 (h ▸ rfl)
      simp [d01, d02, d03, d12, d13, d23]
  · intro i j hij hj
    have : (i = 0 ∨ i = 1 ∨ i = 2) ∧ (j = 1 ∨ j = 2 ∨ j = 3) := by lia
    obtain ⟨rfl | rfl | rfl, rfl | rfl | rfl⟩ := this <;> first | (exact absurd hij (by decide)) | (simp only [l4]; lia)
  · intro i hi
    have : i = 0 ∨ i = 1 ∨ i = 2 ∨ i = 3 := by lia
    rcases this with rfl | rfl | rfl | rfl
    · exact f16 _ h0
    · exact f16 _ h1
    · exact f16 _ h2
    · exact f16 _ h3
  · intro i hi
    have : i = 0 ∨ i = 1 ∨ i = 2 ∨ i = 3 := by lia
    rcases this with rfl | rfl | rfl | rfl
    · exact ⟨j0, h0, rfl, rfl⟩
    · exact ⟨j1, h1, rfl, rfl⟩
    · exact ⟨j2, h2, rfl, rfl⟩
    · exact ⟨j3, h3, rfl, rfl⟩
noncomputable def r6 {SP : SPT} : RSs FK SP 2 (.cons s_law2_16 (.cons s_law2_17 (.cons s_law2_18 (.cons s_law2_19 (.cons s_law2_20 .nil))))) :=
  rC (r_law2_16 KscK KelK KcuK KneK KorK KriK KdeK) (rC (r_law2_17 KscK KelK KcuK KneK KorK KriK KdeK) (rC (r_law2_18 KscK KelK KcuK KneK KorK KriK KdeK) (rC (r_law2_19 KscK KelK KcuK KneK KorK KriK KdeK) (rC (r_law2_20 KscK KelK KcuK KneK KorK KriK KdeK) rN))))
noncomputable def wds (l : List (List Nat)) : QSV := .val (.list (tabs l))
noncomputable def labs (n : Nat) : List (List Nat) := List.take n [[70], [70, 72], [70, 72, 72]]
noncomputable def Tb (a l0 l1 row : List Nat) : Bool := rif (cutS l0 C4) row && rif (cutS l1 row) a
noncomputable def Tl (a l0 l1 : List Nat) : List (List Nat) := P24.filter (Tb a l0 l1)
noncomputable def strsQ' : List QV → Option (List (List Nat))
  | [] => some []
  | .abs s :: l => (strsQ' l).map (s :: ·)
  | _ => none
noncomputable def eqLL : List (List Nat) → List (List Nat) → Bool
  | [], [] => true
  | a :: as, b :: bs => and (a == b) (eqLL as bs)
  | _, _ => false
noncomputable def goodB (t : List (List Nat)) (v : QSV) : Bool := match v with
  | .own xs => (match strsQ' xs with
    | some ws => eqLL (sortS ws) t
    | none => false)
  | _ => false
noncomputable def obs (t : List (List Nat)) (o : Option (QOut 2)) : Option (Bool × QSV) := match o with
  | some (.next F) => some (goodB t (sl2_27.g F), sl2_17.g F)
  | _ => none
section
variable {SP : SPT} (x0 x1 x2 x3 x4 x7 x8 x9 x10 x11 x12 x13 x14 x15 x17 x18 x19 x20 x22 : QSV)
noncomputable def fr16 (a : List Nat) (pk pc lb : List (List Nat)) : Fr 2 := F6.mk (F6.mk x0 x1 x2 x3 x4 (.val (.abs [65,66,67,68]))) (F6.mk (.val (.abs a)) x7 x8 x9 x10 x11) (F6.mk x12 x13 x14 x15 (wds pk) x17) (F6.mk x18 x19 x20 (wds pc) x22 (wds lb)) u6 u6
noncomputable def run6 (a l0 l1 : List Nat) : Option (Bool × QSV) := obs (Tl a l0 l1) ((r6 (SP := SP)).n (fr16 x0 x1 x2 x3 x4 x7 x8 x9 x10 x11 x12 x13 x14 x15 x17 x18 x19 x20 x22 a (cutS l0 C4) (cutS l1 C4) (labs (cutS l1 C4).length)))
theorem t_d0 : mapQ (fun l0 => mapQ (fun l1 => run6 (SP := SP) x0 x1 x2 x3 x4 x7 x8 x9 x10 x11 x12 x13 x14 x15 x17 x18 x19 x20 x22 [65, 66, 67, 68] l0 l1) L7) L7 = L7.map fun zz => L7.map fun zz => some (true, x17) := by kernel_rfl
theorem t_d1 : mapQ (fun l0 => mapQ (fun l1 => run6 (SP := SP) x0 x1 x2 x3 x4 x7 x8 x9 x10 x11 x12 x13 x14 x15 x17 x18 x19 x20 x22 [65, 66, 68, 67] l0 l1) L7) L7 = L7.map fun zz => L7.map fun zz => some (true, x17) := by kernel_rfl
theorem t_d2 : mapQ (fun l0 => mapQ (fun l1 => run6 (SP := SP) x0 x1 x2 x3 x4 x7 x8 x9 x10 x11 x12 x13 x14 x15 x17 x18 x19 x20 x22 [65, 67, 66, 68] l0 l1) L7) L7 = L7.map fun zz => L7.map fun zz => some (true, x17) := by kernel_rfl
theorem t_d3 : mapQ (fun l0 => mapQ (fun l1 => run6 (SP := SP) x0 x1 x2 x3 x4 x7 x8 x9 x10 x11 x12 x13 x14 x15 x17 x18 x19 x20 x22 [65, 67, 68, 66] l0 l1) L7) L7 = L7.map fun zz => L7.map fun zz => some (true, x17) := by kernel_rfl
theorem t_d4 : mapQ (fun l0 => mapQ (fun l1 => run6 (SP := SP) x0 x1 x2 x3 x4 x7 x8 x9 x10 x11 x12 x13 x14 x15 x17 x18 x19 x20 x22 [65, 68, 66, 67] l0 l1) L7) L7 = L7.map fun zz => L7.map fun zz => some (true, x17) := by kernel_rfl
theorem t_d5 : mapQ (fun l0 => mapQ (fun l1 => run6 (SP := SP) x0 x1 x2 x3 x4 x7 x8 x9 x10 x11 x12 x13 x14 x15 x17 x18 x19 x20 x22 [65, 68, 67, 66] l0 l1) L7) L7 = L7.map fun zz => L7.map fun zz => some (true, x17) := by kernel_rfl
theorem t_d6 : mapQ (fun l0 => mapQ (fun l1 => run6 (SP := SP) x0 x1 x2 x3 x4 x7 x8 x9 x10 x11 x12 x13 x14 x15 x17 x18 x19 x20 x22 [66, 65, 67, 68] l0 l1) L7) L7 = L7.map fun zz => L7.map fun zz => some (true, x17) := by kernel_rfl
theorem t_d7 : mapQ (fun l0 => mapQ (fun l1 => run6 (SP := SP) x0 x1 x2 x3 x4 x7 x8 x9 x10 x11 x12 x13 x14 x15 x17 x18 x19 x20 x22 [66, 65, 68, 67] l0 l1) L7) L7 = L7.map fun zz => L7.map fun zz => some (true, x17) := by kernel_rfl
theorem t_d8 : mapQ (fun l0 => mapQ (fun l1 => run6 (SP := SP) x0 x1 x2 x3 x4 x7 x8 x9 x10 x11 x12 x13 x14 x15 x17 x18 x19 x20 x22 [66, 67, 65, 68] l0 l1) L7) L7 = L7.map fun zz => L7.map fun zz => some (true, x17) := by kernel_rfl
theorem t_d9 : mapQ (fun l0 => mapQ (fun l1 => run6 (SP := SP) x0 x1 x2 x3 x4 x7 x8 x9 x10 x11 x12 x13 x14 x15 x17 x18 x19 x20 x22 [66, 67, 68, 65] l0 l1) L7) L7 = L7.map fun zz => L7.map fun zz => some (true, x17) := by kernel_rfl
theorem t_d10 : mapQ (fun l0 => mapQ (fun l1 => run6 (SP := SP) x0 x1 x2 x3 x4 x7 x8 x9 x10 x11 x12 x13 x14 x15 x17 x18 x19 x20 x22 [66, 68, 65, 67] l0 l1) L7) L7 = L7.map fun zz => L7.map fun zz => some (true, x17) := by kernel_rfl
theorem t_d11 : mapQ (fun l0 => mapQ (fun l1 => run6 (SP := SP) x0 x1 x2 x3 x4 x7 x8 x9 x10 x11 x12 x13 x14 x15 x17 x18 x19 x20 x22 [66, 68, 67, 65] l0 l1) L7) L7 = L7.map fun zz => L7.map fun zz => some (true, x17) := by kernel_rfl
theorem t_d12 : mapQ (fun l0 => mapQ (fun l1 => run6 (SP := SP) x0 x1 x2 x3 x4 x7 x8 x9 x10 x11 x12 x13 x14 x15 x17 x18 x19 x20 x22 [67, 65, 66, 68] l0 l1) L7) L7 = L7.map fun zz => L7.map fun zz => some (true, x17) := by kernel_rfl
theorem t_d13 : mapQ (fun l0 => mapQ (fun l1 => run6 (SP := SP) x0 x1 x2 x3 x4 x7 x8 x9 x10 x11 x12 x13 x14 x15 x17 x18 x19 x20 x22 [67, 65, 68, 66] l0 l1) L7) L7 = L7.map fun zz => L7.map fun zz => some (true, x17) := by kernel_rfl
theorem t_d14 : mapQ (fun l0 => mapQ (fun l1 => run6 (SP := SP) x0 x1 x2 x3 x4 x7 x8 x9 x10 x11 x12 x13 x14 x15 x17 x18 x19 x20 x22 [67, 66, 65, 68] l0 l1) L7) L7 = L7.map fun zz => L7.map fun zz => some (true, x17) := by kernel_rfl
theorem t_d15 : mapQ (fun l0 => mapQ (fun l1 => run6 (SP := SP) x0 x1 x2 x3 x4 x7 x8 x9 x10 x11 x12 x13 x14 x15 x17 x18 x19 x20 x22 [67, 66, 68, 65] l0 l1) L7) L7 = L7.map fun zz => L7.map fun zz => some (true, x17) := by kernel_rfl
theorem t_d16 : mapQ (fun l0 => mapQ (fun l1 => run6 (SP := SP) x0 x1 x2 x3 x4 x7 x8 x9 x10 x11 x12 x13 x14 x15 x17 x18 x19 x20 x22 [67, 68, 65, 66] l0 l1) L7) L7 = L7.map fun zz => L7.map fun zz => some (true, x17) := by kernel_rfl
theorem t_d17 : mapQ (fun l0 => mapQ (fun l1 => run6 (SP := SP) x0 x1 x2 x3 x4 x7 x8 x9 x10 x11 x12 x13 x14 x15 x17 x18 x19 x20 x22 [67, 68, 66, 65] l0 l1) L7) L7 = L7.map fun zz => L7.map fun zz => some (true, x17) := by kernel_rfl
theorem t_d18 : mapQ (fun l0 => mapQ (fun l1 => run6 (SP := SP) x0 x1 x2 x3 x4 x7 x8 x9 x10 x11 x12 x13 x14 x15 x17 x18 x19 x20 x22 [68, 65, 66, 67] l0 l1) L7) L7 = L7.map fun zz => L7.map fun zz => some (true, x17) := by kernel_rfl
theorem t_d19 : mapQ (fun l0 => mapQ (fun l1 => run6 (SP := SP) x0 x1 x2 x3 x4 x7 x8 x9 x10 x11 x12 x13 x14 x15 x17 x18 x19 x20 x22 [68, 65, 67, 66] l0 l1) L7) L7 = L7.map fun zz => L7.map fun zz => some (true, x17) := by kernel_rfl
theorem t_d20 : mapQ (fun l0 => mapQ (fun l1 => run6 (SP := SP) x0 x1 x2 x3 x4 x7 x8 x9 x10 x11 x12 x13 x14 x15 x17 x18 x19 x20 x22 [68, 66, 65, 67] l0 l1) L7) L7 = L7.map fun zz => L7.map fun zz => some (true, x17) := by kernel_rfl
theorem t_d21 : mapQ (fun l0 => mapQ (fun l1 => run6 (SP := SP) x0 x1 x2 x3 x4 x7 x8 x9 x10 x11 x12 x13 x14 x15 x17 x18 x19 x20 x22 [68, 66, 67, 65] l0 l1) L7) L7 = L7.map fun zz => L7.map fun zz => some (true, x17) := by kernel_rfl
theorem t_d22 : mapQ (fun l0 => mapQ (fun l1 => run6 (SP := SP) x0 x1 x2 x3 x4 x7 x8 x9 x10 x11 x12 x13 x14 x15 x17 x18 x19 x20 x22 [68, 67, 65, 66] l0 l1) L7) L7 = L7.map fun zz => L7.map fun zz => some (true, x17) := by kernel_rfl
theorem t_d23 : mapQ (fun l0 => mapQ (fun l1 => run6 (SP := SP) x0 x1 x2 x3 x4 x7 x8 x9 x10 x11 x12 x13 x14 x15 x17 x18 x19 x20 x22 [68, 67, 66, 65] l0 l1) L7) L7 = L7.map fun zz => L7.map fun zz => some (true, x17) := by kernel_rfl
theorem t_d {a l0 l1 : List Nat} (ha : a ∈ P24) (h0 : l0 ∈ L7) (h1 : l1 ∈ L7) : run6 (SP := SP) x0 x1 x2 x3 x4 x7 x8 x9 x10 x11 x12 x13 x14 x15 x17 x18 x19 x20 x22 a l0 l1 = some (true, x17) := by
  have go : ∀ a, (mapQ (fun l0 => mapQ (fun l1 => run6 (SP := SP) x0 x1 x2 x3 x4 x7 x8 x9 x10 x11 x12 x13 x14 x15 x17 x18 x19 x20 x22 a l0 l1) L7) L7 = L7.map fun zz => L7.map fun zz => some (true, x17)) → run6 (SP := SP) x0 x1 x2 x3 x4 x7 x8 x9 x10 x11 x12 x13 x14 x15 x17 x18 x19 x20 x22 a l0 l1 = some (true, x17) := fun a e => maps_eq (maps_eq e l0 h0) l1 h1
  have all : ∀ a ∈ P24, (mapQ (fun l0 => mapQ (fun l1 => run6 (SP := SP) x0 x1 x2 x3 x4 x7 x8 x9 x10 x11 x12 x13 x14 x15 x17 x18 x19 x20 x22 a l0 l1) L7) L7 = L7.map fun zz => L7.map fun zz => some (true, x17)) := by
    intro a ha
    rcases ha with _ | ⟨_, _ | ⟨_, _ | ⟨_, _ | ⟨_, _ | ⟨_, _ | ⟨_, _ | ⟨_, _ | ⟨_, _ | ⟨_, _ | ⟨_, _ | ⟨_, _ | ⟨_, _ | ⟨_, _ | ⟨_, _ | ⟨_, _ | ⟨_, _ | ⟨_, _ | ⟨_, _ | ⟨_, _ | ⟨_, _ | ⟨_, _ | ⟨_, _ | ⟨_, _ | ⟨_, ha⟩⟩⟩⟩⟩⟩⟩⟩⟩⟩⟩⟩⟩⟩⟩⟩⟩⟩⟩⟩⟩⟩⟩⟩
    · exact t_d0 x0 x1 x2 x3 x4 x7 x8 x9 x10 x11 x12 x13 x14 x15 x17 x18 x19 x20 x22
    · exact t_d1 x0 x1 x2 x3 x4 x7 x8 x9 x10 x11 x12 x13 x14 x15 x17 x18 x19 x20 x22
    · exact t_d2 x0 x1 x2 x3 x4 x7 x8 x9 x10 x11 x12 x13 x14 x15 x17 x18 x19 x20 x22
    · exact t_d3 x0 x1 x2 x3 x4 x7 x8 x9 x10 x11 x12 x13 x14 x15 x17 x18 x19 x20 x22
    · exact t_d4 x0 x1 x2 x3 x4 x7 x8 x9 x10 x11 x12 x13 x14 x15 x17 x18 x19 x20 x22
    · exact t_d5 x0 x1 x2 x3 x4 x7 x8 x9 x10 x11 x12 x13 x14 x15 x17 x18 x19 x20 x22
    · exact t_d6 x0 x1 x2 x3 x4 x7 x8 x9 x10 x11 x12 x13 x14 x15 x17 x18 x19 x20 x22
    · exact t_d7 x0 x1 x2 x3 x4 x7 x8 x9 x10 x11 x12 x13 x14 x15 x17 x18 x19 x20 x22
    · exact t_d8 x0 x1 x2 x3 x4 x7 x8 x9 x10 x11 x12 x13 x14 x15 x17 x18 x19 x20 x22
    · exact t_d9 x0 x1 x2 x3 x4 x7 x8 x9 x10 x11 x12 x13 x14 x15 x17 x18 x19 x20 x22
    · exact t_d10 x0 x1 x2 x3 x4 x7 x8 x9 x10 x11 x12 x13 x14 x15 x17 x18 x19 x20 x22
    · exact t_d11 x0 x1 x2 x3 x4 x7 x8 x9 x10 x11 x12 x13 x14 x15 x17 x18 x19 x20 x22
    · exact t_d12 x0 x1 x2 x3 x4 x7 x8 x9 x10 x11 x12 x13 x14 x15 x17 x18 x19 x20 x22
    · exact t_d13 x0 x1 x2 x3 x4 x7 x8 x9 x10 x11 x12 x13 x14 x15 x17 x18 x19 x20 x22
    · exact t_d14 x0 x1 x2 x3 x4 x7 x8 x9 x10 x11 x12 x13 x14 x15 x17 x18 x19 x20 x22
    · exact t_d15 x0 x1 x2 x3 x4 x7 x8 x9 x10 x11 x12 x13 x14 x15 x17 x18 x19 x20 x22
    · exact t_d16 x0 x1 x2 x3 x4 x7 x8 x9 x10 x11 x12 x13 x14 x15 x17 x18 x19 x20 x22
    · exact t_d17 x0 x1 x2 x3 x4 x7 x8 x9 x10 x11 x12 x13 x14 x15 x17 x18 x19 x20 x22
    · exact t_d18 x0 x1 x2 x3 x4 x7 x8 x9 x10 x11 x12 x13 x14 x15 x17 x18 x19 x20 x22
    · exact t_d19 x0 x1 x2 x3 x4 x7 x8 x9 x10 x11 x12 x13 x14 x15 x17 x18 x19 x20 x22
    · exact t_d20 x0 x1 x2 x3 x4 x7 x8 x9 x10 x11 x12 x13 x14 x15 x17 x18 x19 x20 x22
    · exact t_d21 x0 x1 x2 x3 x4 x7 x8 x9 x10 x11 x12 x13 x14 x15 x17 x18 x19 x20 x22
    · exact t_d22 x0 x1 x2 x3 x4 x7 x8 x9 x10 x11 x12 x13 x14 x15 x17 x18 x19 x20 x22
    · exact t_d23 x0 x1 x2 x3 x4 x7 x8 x9 x10 x11 x12 x13 x14 x15 x17 x18 x19 x20 x22
    · cases ha
  exact go a (all a ha)
end
theorem pyEqs_refl : ∀ l : List (List Nat), pyEqs (l.map .str) (l.map .str) = some true
  | [] => rfl
  | x :: l => pyEqs_t (show some (sEq x x) = some true from congrArg some ((sEq_iff x x).mpr rfl)) (pyEqs_refl l)
theorem o_eqL (l : List (List Nat)) : op2 .eq (.list (l.map .str)) (.list (l.map .str)) = some (.bool true) := ((opq rfl rfl).1 : op2 .eq (.list (l.map .str)) (.list (l.map .str)) = _).trans (congrArg (Option.map PV.bool) ((pyEq_list _ _).trans (pyEqs_refl l)))
theorem o_sortL {l : List (List Nat)} (h : l.length < 64) : op1 .sorted_ (.list (l.map .str)) = some (.list ((sortS l).map .str)) := by
  show (((strsS (l.map .str)).bind fun l' => if h : l'.1.length < 64 then some (⟨.list ((sortS l'.1).map .str), sSortL l'.2 h⟩ : {r : PV // S1 (fn "sorted") (.list (l.map .str)) r}) else none)).map Subtype.val = _
  rw [strsS_map, Option.bind_some, dif_pos h]; rfl
theorem o_sortD {s : List Nat} (h : s.length < 64) : op1 .sorted_ (.str s) = some (.list ((sortS (s.map fun c => [c])).map .str)) := congrArg (Option.map Subtype.val) (dif_pos h)
noncomputable def up15 (w : List Nat) : List Nat := w.map (· + 15)
noncomputable def O24 : List (List Nat) := P24.map up15
noncomputable def back (p w : List Nat) : List Nat := w.map fun c => p.getD (c - 65) 0
noncomputable def Rp (p : List Nat) : List (List Nat) := P24.map (back p)
theorem Rp_perm {p : List Nat} (h : p ∈ P24) : (Rp p).Perm P24 := by
  have key : ∀ p ∈ P24, sortS (Rp p) = P24 := by decide +kernel
  exact (sortS_perm (Rp p)).symm.trans (.of_eq (key p h))
theorem O24_rises {e : Nat → Nat} (E : Em e) : (O24.map (List.map e)).Pairwise sLe := by
  have key : O24.Pairwise fun a b => ltO b a = some false := by decide +kernel
  refine List.pairwise_map.mpr (key.imp fun {a b} h => ?_)
  exact E.sLt h
theorem back_map {e : Nat → Nat} {p w : List Nat} (h : ∀ i, i < 4 → e (80 + i) = e (p.getD i 0)) (hw : w ∈ P24) : (up15 w).map e = (back p w).map e := by
  have key : ∀ w ∈ P24, ∀ c ∈ w, 65 ≤ c ∧ c - 65 < 4 := by decide +kernel
  unfold up15 back
  rw [List.map_map, List.map_map]
  refine List.map_congr_left fun c hc => ?_
  obtain ⟨h1, h2⟩ := key w hw c hc
  have := h _ h2
  show e (c + 15) = e (p.getD (c - 65) 0)
  rw [← this, show 80 + (c - 65) = c + 15 by lia]
theorem O24_map {e : Nat → Nat} {p : List Nat} (h : ∀ i, i < 4 → e (80 + i) = e (p.getD i 0)) : O24.map (List.map e) = (Rp p).map (List.map e) := by
  unfold O24 Rp
  rw [List.map_map, List.map_map]
  exact List.map_congr_left fun w hw => back_map h hw
theorem sorted_dealt {e : Nat → Nat} (E : Em e) {p : List Nat} (hp : p ∈ P24) (h : ∀ i, i < 4 → e (80 + i) = e (p.getD i 0)) {T : List Nat → Bool} {D : List (List Nat)} (hD : sortS D = P24.filter T) :
    sortS (D.map (List.map e)) = ((Rp p).filter T).map (List.map e) := by
  refine (eq_sortS ?_ ?_).symm
  · have h1 : ((Rp p).filter T).Perm D := ((Rp_perm hp).filter T).trans ((List.Perm.of_eq hD.symm).trans (sortS_perm D))
    exact h1.map _
  · have h1 := O24_rises E
    rw [O24_map h] at h1
    exact h1.sublist ((List.filter_sublist).map _)
theorem eqLL_eq : ∀ {a b : List (List Nat)}, eqLL a b = true → a = b
  | [], [], _ => rfl
  | [], _ :: _, h => by cases h
  | _ :: _, [], h => by cases h
  | a :: as, b :: bs, h => by
    obtain ⟨h1, h2⟩ := (Bool.and_eq_true _ _).mp h
    rw [beq_iff_eq.mp h1, eqLL_eq h2]
theorem strsQ'_eq : ∀ {xs : List QV} {ws : List (List Nat)}, strsQ' xs = some ws → xs = tabs ws
  | [], ws, h => by cases h; rfl
  | x :: xs, ws, h => by
    cases x <;> first | (cases h; done) | skip
    obtain ⟨v, h1, rfl⟩ := Option.map_eq_some_iff.mp h
    rw [strsQ'_eq h1]; rfl
set_option tactic.hygienic true in
theorem goodB_eq {t : List (List Nat)} {v : QSV} (h : goodB t v = true) : ∃ D, v = .own (tabs D) ∧ sortS D = t := by
  cases v <;> first | (cases h; done) | skip
  rename_i xs
  unfold goodB at h
  dsimp only at h
  cases q : strsQ' xs with
  | none => rw [q] at h; cases h
  | some ws => rw [q] at h; exact ⟨ws, congrArg QSV.own (strsQ'_eq q), eqLL_eq h⟩
set_option tactic.hygienic true in
theorem obs_eq {t : List (List Nat)} {o : Option (QOut 2)} {x : QSV} (h : obs t o = some (true, x)) : ∃ G, o = some (.next G) ∧ sl2_17.g G = x ∧ ∃ D, sl2_27.g G = .own (tabs D) ∧ sortS D = t := by
  unfold obs at h
  split at h
  · rename_i G
    have h := Option.some.inj h
    exact ⟨G, rfl, (Prod.mk.inj h).2, goodB_eq (Prod.mk.inj h).1⟩
  · cases h
section
variable {SP : SPT}
noncomputable def lowQ' : QSV := .val (.list (tabs [[80], [81], [82], [83]]))
theorem t_910 (x0 x1 x2 x3 x4 x5 x6 x7 x8 x9 x10 x11 x12 x13 : QSV) : (rC (r_law2_9 (SP := SP) KscK KelK KcuK KneK KorK KriK KdeK) (rC (r_law2_10 KscK KelK KcuK KneK KorK KriK KdeK) rN)).n (F6.mk (F6.mk x0 x1 x2 x3 x4 x5) (F6.mk x6 x7 x8 x9 x10 x11) (F6.mk x12 x13 lowQ' .un .un .un) u6 u6 u6) = some (.next (F6.mk (F6.mk x0 x1 x2 x3 x4 x5) (F6.mk x6 x7 x8 x9 x10 x11) (F6.mk x12 x13 lowQ' (wds O24) .un .un) u6 u6 u6)) := by kernel_rfl
end
section
variable {F : FT} {SP : SPT} {e : Nat → Nat}
noncomputable def frB (x0 x1 x2 x3 x4 x7 x8 x9 x10 x11 x12 x13 : QSV) (a : List Nat) (lo or pk be ro pt en pi lw lb : QSV) : Fr 2 := F6.mk (F6.mk x0 x1 x2 x3 x4 (.val (.abs [65,66,67,68]))) (F6.mk (.val (.abs a)) x7 x8 x9 x10 x11) (F6.mk x12 x13 lo or pk be) (F6.mk ro pt en pi lw lb) u6 u6
theorem asgQ {Z i : Nat} (s : Sl Z i) {ρ : Fr Z} {x : X} {p : PV} (v : QSV) (h : evE F x (erR e ρ) = some p) (hv : SV.val p = erS e v) : evS F SP (.assign i (.val x)) (erR e ρ) = some (.next (erR e (s.p ρ v))) := bindE2 (p := SV.val p) (bindE2 h rfl) (by rw [hv]; exact s.setN e ρ v)
theorem er_tabs (l : List (List Nat)) : er e (.list (tabs l)) = .list ((l.map (List.map e)).map .str) := congrArg PV.list (ers_tabs e l)
theorem er_inQ (l : List Nat) : er e (inQ l) = intsV l := by
  show PV.list (ers e (mapQ (fun n : Nat => .int (.ofNat n)) l)) = _
  rw [mapQ_eq, ers_eq, List.map_map]; rfl
theorem evItems_rows {g : PV → Option (List PV)} {T : List Nat → Bool} {m : List Nat → List Nat} : ∀ {rows : List (List Nat)}, (∀ r ∈ rows, g (.str (m r)) = some (if T r then [.str (m r)] else [])) → evItems g ((rows.map m).map .str) = some (((rows.filter T).map m).map .str)
  | [], _ => rfl
  | r :: rows, hp => by
    show (g (.str (m r))).bind (fun l => (evItems g ((rows.map m).map .str)).map (l ++ ·)) = _
    rw [hp r (.head _), Option.bind_some, evItems_rows fun q hq => hp q (.tail _ hq), List.filter_cons]
    cases T r <;> rfl
theorem evItems_nat {g : PV → Option (List PV)} {h : Nat → List Nat} : ∀ {l : List Nat}, (∀ k ∈ l, g (.int k) = some [.str (h k)]) → evItems g (l.map fun i : Nat => PV.int (i : Int)) = some ((l.map h).map .str)
  | [], _ => rfl
  | k :: l, hp => bindE2 (hp k (.head _)) (by rw [evItems_nat fun q hq => hp q (.tail _ hq)]; rfl)
variable {x0 x1 x2 x3 x4 x7 x8 x9 x10 x11 x12 x13 : QSV} {a l0 l1 : List Nat}
theorem q8 {l : Nat → Nat} (hs : sortS ((C4.map e).map fun c => [c]) = lowL l) (hl : lowL l = [[80], [81], [82], [83]].map (List.map e)) :
    evS F SP s_law2_8 (erR e (frB x0 x1 x2 x3 x4 x7 x8 x9 x10 x11 x12 x13 a .un .un .un .un .un .un .un .un .un .un)) = some (.next (erR e (frB x0 x1 x2 x3 x4 x7 x8 x9 x10 x11 x12 x13 a lowQ' .un .un .un .un .un .un .un .un .un))) :=
  asgQ sl2_14 (ρ := (frB x0 x1 x2 x3 x4 x7 x8 x9 x10 x11 x12 x13 a .un .un .un .un .un .un .un .un .un .un)) lowQ' (p := .list ((lowL l).map .str)) ((o_sortD (s := C4.map e) (by rw [List.length_map]; decide)).trans (by rw [hs])) (by
    rw [hl]
    exact congrArg SV.val (er_tabs _).symm)
theorem q11 (h : F "_law_cut" [.str (C4.map e), intsV l0] = some (.list (((cutS l0 C4).map (List.map e)).map .str))) {lo or : QSV} :
    evS F SP s_law2_11 (erR e (frB x0 x1 x2 x3 x4 (.own [inQ l0, inQ l1]) x8 x9 x10 x11 x12 x13 a lo or .un .un .un .un .un .un .un .un)) = some (.next (erR e (frB x0 x1 x2 x3 x4 (.own [inQ l0, inQ l1]) x8 x9 x10 x11 x12 x13 a lo or (wds (cutS l0 C4)) .un .un .un .un .un .un .un))) :=
  asgQ sl2_16 (ρ := (frB x0 x1 x2 x3 x4 (.own [inQ l0, inQ l1]) x8 x9 x10 x11 x12 x13 a lo or .un .un .un .un .un .un .un .un)) (wds (cutS l0 C4)) (p := .list (((cutS l0 C4).map (List.map e)).map .str)) (by
    show F "_law_cut" [.str (C4.map e), er e (inQ l0)] = _
    rw [er_inQ, h]) (congrArg SV.val (er_tabs _).symm)
theorem q12 {rows : List (List Nat)} {T1 T2 : List Nat → Bool} {q : List Nat → PV} (hr : rows.length ≤ 10000) {or pk lo : QSV} {pkv : PV} (hpk : pk = (wds (cutS l0 C4))) (hor : erS e or = .val (.list ((rows.map (List.map e)).map .str)))
    (hp : pkv = .list (((cutS l0 C4).map (List.map e)).map .str))
    (h1 : ∀ r ∈ rows, F "_law_riffled" [pkv, .str (r.map e)] = some (.bool (T1 r))) (h2 : ∀ r ∈ rows, F "_law_cut" [.str (r.map e), intsV l1] = some (q r)) (h3 : ∀ r ∈ rows, F "_law_riffled" [q r, .str (a.map e)] = some (.bool (T2 r))) {v : QSV} (hv : SV.val (.list (((rows.filter fun r => T1 r && T2 r).map (List.map e)).map .str)) = erS e v) :
    evS F SP s_law2_12 (erR e (frB x0 x1 x2 x3 x4 (.own [inQ l0, inQ l1]) x8 x9 x10 x11 x12 x13 a lo or pk .un .un .un .un .un .un .un)) = some (.next (erR e (frB x0 x1 x2 x3 x4 (.own [inQ l0, inQ l1]) x8 x9 x10 x11 x12 x13 a lo or pk v .un .un .un .un .un .un))) := by
  refine asgQ sl2_17 (ρ := (frB x0 x1 x2 x3 x4 (.own [inQ l0, inQ l1]) x8 x9 x10 x11 x12 x13 a lo or pk .un .un .un .un .un .un .un)) v (p := .list (((rows.filter fun r => T1 r && T2 r).map (List.map e)).map .str)) ?_ hv
  subst hpk
  have hsrc : evSrc F (.one (.v 15)) (erR e (frB x0 x1 x2 x3 x4 (.own [inQ l0, inQ l1]) x8 x9 x10 x11 x12 x13 a lo or (wds (cutS l0 C4)) .un .un .un .un .un .un .un)) = some ((rows.map (List.map e)).map .str) := by
    show (readOf (erS e or)).bind _ = _
    rw [hor]; rfl
  refine bindE2 (bindE2 hsrc (evItems_rows (T := fun r => T1 r && T2 r) (m := List.map e) fun r hr => ?_)) (mk_strs (by
    rw [List.length_map]; exact Nat.le_trans (List.length_filter_le _ _) hr))
  have e1 := h1 r hr
  rw [hp] at e1
  have e2 := h2 r hr
  have e3 := h3 r hr
  have g1 : ((F "_law_riffled" [er e (.list (tabs (cutS l0 C4))), .str (r.map e)]).bind truth) = some (T1 r) := by
    rw [er_tabs, e1]; rfl
  have g2 : (((F "_law_cut" [.str (r.map e), er e (inQ l1)]).bind fun p => F "_law_riffled" [p, .str (a.map e)]).bind truth) = some (T2 r) := by
    rw [er_inQ, e2, Option.bind_some, e3]; rfl
  have k1 : evT F (.x (.e (.call "_law_riffled" (.cons (.var 16) (.cons (.var 31) .nil))))) (set (erR e (frB x0 x1 x2 x3 x4 (.own [inQ l0, inQ l1]) x8 x9 x10 x11 x12 x13 a lo or (wds (cutS l0 C4)) .un .un .un .un .un .un .un)) 31 (.val (.str (r.map e)))) = some (T1 r) := g1
  have k2 : evT F (.x (.e (.call "_law_riffled" (.cons (.call "_law_cut" (.cons (.var 31) (.cons (.op2 .idx (.v 7) (.e (.k (.int 1)))) .nil))) (.cons (.var 6) .nil))))) (set (erR e (frB x0 x1 x2 x3 x4 (.own [inQ l0, inQ l1]) x8 x9 x10 x11 x12 x13 a lo or (wds (cutS l0 C4)) .un .un .un .un .un .un .un)) 31 (.val (.str (r.map e)))) = some (T2 r) := by
    refine Eq.trans ?_ g2
    show (((F "_law_cut" [.str (r.map e), er e (inQ l1)]).bind fun p => some [p, .str (a.map e)]).bind (F "_law_riffled")).bind truth = _
    cases F "_law_cut" [.str (r.map e), er e (inQ l1)] <;> rfl
  refine bindE2 (p := set (erR e (frB x0 x1 x2 x3 x4 (.own [inQ l0, inQ l1]) x8 x9 x10 x11 x12 x13 a lo or (wds (cutS l0 C4)) .un .un .un .un .un .un .un)) 31 (.val (.str (r.map e)))) rfl (bindE2 (p := T1 r && T2 r) ?_ ?_)
  · cases c1 : T1 r with
    | false =>
      rw [c1] at k1
      exact bindE2 (bindE2 k1 rfl) rfl
    | true =>
      rw [c1] at k1
      exact bindE2 (p := T2 r) (bindE2 k1 (bindE2 (p := T2 r) k2 (by cases T2 r <;> rfl))) (by cases T2 r <;> rfl)
  · cases T1 r && T2 r <;> rfl
end
section
variable {SP : SPT} {e : Nat → Nat}
theorem C4_P24 : C4 ∈ P24 := .head _
theorem loop13 (E : Em e) {x0 x1 x2 x3 x4 x5 x6 x7 x8 x9 x10 x11 x12 x13 x14 x15 x17 : QSV} {l0 : List Nat} (h0 : l0 ∈ L7) : ∀ (rows : List (List Nat)), (∀ r ∈ rows, r ∈ Rl l0) → ∀ y18 y19 y20 : QSV, ∃ z18 z19 z20 : QSV,
    loopF (.one 18) (evSs FK SP b13) ((rows.map (List.map e)).map .str) (erR e (fr13 x0 x1 x2 x3 x4 x5 x6 x7 x8 x9 x10 x11 x12 x13 x14 x15 x17 (cutS l0 C4) y18 y19 y20)) = some (.next (erR e (fr13 x0 x1 x2 x3 x4 x5 x6 x7 x8 x9 x10 x11 x12 x13 x14 x15 x17 (cutS l0 C4) z18 z19 z20)))
  | [], _, y18, y19, y20 => ⟨y18, y19, y20, rfl⟩
  | r :: rows, h, y18, y19, y20 => by
    have h1 := (r13b (SP := SP)).ok e E _ _ (maps_eq (maps_eq (t_13 (SP := SP) x0 x1 x2 x3 x4 x5 x6 x7 x8 x9 x10 x11 x12 x13 x14 x15 x17 y19 y20) l0 h0) r (h r (.head _)))
    obtain ⟨z18, z19, z20, h2⟩ := loop13 E (l0 := l0) h0 rows (fun q hq => h q (.tail _ hq)) (.val (.abs r)) (.val (.abs (lastP (cutS l0 C4)))) (.val (.bool (enB r (lastP (cutS l0 C4)))))
    refine ⟨z18, z19, z20, ?_⟩
    show andThen (evSs FK SP b13 (erR e (fr13 x0 x1 x2 x3 x4 x5 x6 x7 x8 x9 x10 x11 x12 x13 x14 x15 x17 (cutS l0 C4) (.val (.abs r)) y19 y20))) (loopF (.one 18) (evSs FK SP b13) ((rows.map (List.map e)).map .str)) = _
    rw [h1]
    exact h2
variable {x0 x1 x2 x3 x4 x7 x8 x9 x10 x11 x12 x13 : QSV} {a l0 l1 : List Nat}
theorem q13 (E : Em e) (h0 : l0 ∈ L13) {lo or be : QSV} {rows : List (List Nat)} (hr : ∀ r ∈ rows, r ∈ P24 ∧ rif (cutS l0 C4) r = true) (hbe : erS e be = .val (.list ((rows.map (List.map e)).map .str))) :
    ∃ ro pt en : QSV, evS FK SP s_law2_13 (erR e (frB x0 x1 x2 x3 x4 x7 x8 x9 x10 x11 x12 x13 a lo or (wds (cutS l0 C4)) be .un .un .un .un .un .un)) = some (.next (erR e (frB x0 x1 x2 x3 x4 x7 x8 x9 x10 x11 x12 x13 a lo or (wds (cutS l0 C4)) be ro pt en .un .un .un))) := by
  rw [sh_cut l0 h0 C4 C4_P24]
  rw [sh_cut l0 h0 C4 C4_P24] at hr
  have h7 := sh_L7 l0 h0
  generalize sh l0 = k at *
  obtain ⟨ro, pt, en, h⟩ := loop13 (SP := SP) E (x0 := x0) (x1 := x1) (x2 := x2) (x3 := x3) (x4 := x4) (x5 := .val (.abs [65,66,67,68])) (x6 := .val (.abs a)) (x7 := x7) (x8 := x8) (x9 := x9) (x10 := x10) (x11 := x11) (x12 := x12) (x13 := x13) (x14 := lo) (x15 := or) (x17 := be) h7 rows (fun r q => List.mem_filter.mpr (hr r q)) .un .un .un
  refine ⟨ro, pt, en, forS (items := (rows.map (List.map e)).map .str) ?_ ?_ h⟩
  · show (valOf (erS e be)).isSome = true
    rw [hbe]; rfl
  · show (readOf (erS e be)).bind _ = _
    rw [hbe]; rfl
end
section
variable {F : FT} {SP : SPT} {e : Nat → Nat} {x0 x1 x2 x3 x4 x7 x8 x9 x10 x11 x12 x13 : QSV} {a l0 l1 : List Nat} {lo or pk be ro pt en : QSV}
noncomputable def hpQ (n0 n1 n2 n3 : Nat) : QSV := .val (.list [.int n0, .int n1, .int n2, .int n3])
theorem q14 (h : F "_law_cut" [.str (C4.map e), intsV l1] = some (.list (((cutS l1 C4).map (List.map e)).map .str))) {n0 n1 n2 n3 : Nat} :
    evS F SP s_law2_14 (erR e (frB x0 (hpQ n0 n1 n2 n3) x2 x3 x4 (.own [inQ l0, inQ l1]) x8 x9 x10 x11 x12 x13 a lo or pk be ro pt en .un .un .un)) = some (.next (erR e (frB x0 (hpQ n0 n1 n2 n3) x2 x3 x4 (.own [inQ l0, inQ l1]) x8 x9 x10 x11 x12 x13 a lo or pk be ro pt en (wds (cutS l1 C4)) (.val (.int ((1 + n0 / 43680 % 13 : Nat) : Int))) .un))) := by
  have e1 : evE F (.call "_law_cut" (.cons (.var 5) (.cons (.op2 .idx (.v 7) (.e (.k (.int 1)))) .nil))) (erR e (frB x0 (hpQ n0 n1 n2 n3) x2 x3 x4 (.own [inQ l0, inQ l1]) x8 x9 x10 x11 x12 x13 a lo or pk be ro pt en .un .un .un)) = some (er e (.list (tabs (cutS l1 C4)))) := by
    show F "_law_cut" [.str (C4.map e), er e (inQ l1)] = _
    rw [er_inQ, h, er_tabs]
  have e2 : evE F (.op2 .add (.e (.k (.int 1))) (.e (.op2 .mod (.e (.op2 .fdiv (.e (.op2 .idx (.v 1) (.e (.k (.int 0))))) (.e (.k (.int 43680))))) (.e (.k (.int 13)))))) (erR e (frB x0 (hpQ n0 n1 n2 n3) x2 x3 x4 (.own [inQ l0, inQ l1]) x8 x9 x10 x11 x12 x13 a lo or pk be ro pt en .un .un .un)) = some (.int ((1 + n0 / 43680 % 13 : Nat) : Int)) := by
    show (((op2 .fdiv (.int n0) (.int (43680 : Nat))).bind fun p => op2 .mod p (.int (13 : Nat))).bind fun q => op2 .add (.int 1) q) = _
    rw [op_divN (by decide) (by decide)]
    show ((op2 .mod (.int ((n0 / 43680 : Nat) : Int)) (.int (13 : Nat))).bind fun q => op2 .add (.int 1) q) = _
    rw [op_modN (by decide)]; rfl
  show (evU F SP.c [(21, .val (.call "_law_cut" (.cons (.var 5) (.cons (.op2 .idx (.v 7) (.e (.k (.int 1)))) .nil)))), (22, .val (.op2 .add (.e (.k (.int 1))) (.e (.op2 .mod (.e (.op2 .fdiv (.e (.op2 .idx (.v 1) (.e (.k (.int 0))))) (.e (.k (.int 43680))))) (.e (.k (.int 13)))))))] (erR e (frB x0 (hpQ n0 n1 n2 n3) x2 x3 x4 (.own [inQ l0, inQ l1]) x8 x9 x10 x11 x12 x13 a lo or pk be ro pt en .un .un .un))).bind (fun l => setAll l (erR e (frB x0 (hpQ n0 n1 n2 n3) x2 x3 x4 (.own [inQ l0, inQ l1]) x8 x9 x10 x11 x12 x13 a lo or pk be ro pt en .un .un .un))) = _
  rw [evU_cons e1 (evU_cons e2 evU_nil)]
  rfl
noncomputable def L3 : List (List Nat) := [[70], [70, 72], [70, 72, 72]]
theorem lt3 {k : Nat} (h : k < 3) : k = 0 ∨ k = 1 ∨ k = 2 := by lia
theorem labs_range {n : Nat} (h : n ≤ 3) : (List.range n).map (fun k => (L3.getD k []).map e) = (labs n).map (List.map e) := by
  have : n = 0 ∨ n = 1 ∨ n = 2 ∨ n = 3 := by lia
  rcases this with rfl | rfl | rfl | rfl <;> rfl
theorem q15 {lam : Nat} (hlam : lam < 16) (hn : (cutS l1 C4).length ≤ 3)
    (h : ∀ k, k < 3 → F "Int2AP" [.int ((lam * 16 ^ k : Nat) : Int)] = some (.bytes (i2ap (lam * 16 ^ k)))) (h2 : ∀ k, k < 3 → (i2ap (lam * 16 ^ k)).map UInt8.toNat = (L3.getD k []).map e) :
    evS F SP s_law2_15 (erR e (frB x0 x1 x2 x3 x4 x7 x8 x9 x10 x11 x12 x13 a lo or pk be ro pt en (wds (cutS l1 C4)) (.val (.int (lam : Int))) .un)) = some (.next (erR e (frB x0 x1 x2 x3 x4 x7 x8 x9 x10 x11 x12 x13 a lo or pk be ro pt en (wds (cutS l1 C4)) (.val (.int (lam : Int))) (wds (labs (cutS l1 C4).length))))) := by
  refine asgQ sl2_23 (ρ := (frB x0 x1 x2 x3 x4 x7 x8 x9 x10 x11 x12 x13 a lo or pk be ro pt en (wds (cutS l1 C4)) (.val (.int (lam : Int))) .un)) (wds (labs (cutS l1 C4).length)) (p := .list (((labs (cutS l1 C4).length).map (List.map e)).map .str)) ?_ (congrArg SV.val (er_tabs _).symm)
  have hsrc : evSrc F (.rng (.e (.op1 .len (.v 21)))) (erR e (frB x0 x1 x2 x3 x4 x7 x8 x9 x10 x11 x12 x13 a lo or pk be ro pt en (wds (cutS l1 C4)) (.val (.int (lam : Int))) .un)) = some ((List.range (cutS l1 C4).length).map fun i : Nat => PV.int (i : Int)) := by
    show ((op1 .len (er e (.list (tabs (cutS l1 C4))))).bind rngSrc) = _
    have hl : ∀ xs : List PV, op1 .len (.list xs) = some (.int (xs.length : Nat)) := fun zz => rfl
    rw [er_tabs, hl, Option.bind_some, List.length_map, List.length_map]
    exact rng_src (Nat.lt_of_le_of_lt hn (by decide))
  rw [← labs_range hn]
  refine bindE2 (bindE2 hsrc (evItems_nat (h := fun k => (L3.getD k []).map e) fun k hk => ?_)) (mk_strs (by
    rw [List.length_map, List.length_range]; exact Nat.le_trans hn (by decide)))
  have hk : k < 3 := Nat.lt_of_lt_of_le (List.mem_range.mp hk) hn
  have hm : (op2 .pow (.int 16) (.int k)).bind (fun q => op2 .mul (.int (lam : Int)) q) = some (.int ((lam * 16 ^ k : Nat) : Int)) := by
    rcases lt3 hk with rfl | rfl | rfl <;> exact o_mulN (Nat.lt_trans hlam (by decide))
  have hx : evE F (.op1 .decode (.e (.call "Int2AP" (.cons (.op2 .mul (.v 22) (.e (.op2 .pow (.e (.k (.int 16))) (.v 31)))) .nil)))) (set (erR e (frB x0 x1 x2 x3 x4 x7 x8 x9 x10 x11 x12 x13 a lo or pk be ro pt en (wds (cutS l1 C4)) (.val (.int (lam : Int))) .un)) 31 (.val (.int k))) = some (.str ((L3.getD k []).map e)) := by
    show (((((op2 .pow (.int 16) (.int k)).bind (fun q => op2 .mul (.int (lam : Int)) q)).bind fun p => some [p]).bind (F "Int2AP")).bind (op1 .decode)) = _
    rw [hm]
    show ((F "Int2AP" [.int ((lam * 16 ^ k : Nat) : Int)]).bind (op1 .decode)) = _
    rw [h k hk, Option.bind_some, decode_ap, h2 k hk]
  exact bindE2 (p := set (erR e (frB x0 x1 x2 x3 x4 x7 x8 x9 x10 x11 x12 x13 a lo or pk be ro pt en (wds (cutS l1 C4)) (.val (.int (lam : Int))) .un)) 31 (.val (.int k))) rfl (bindE2 (p := true) rfl (bindE2 hx rfl))
end
section
variable {SP : SPT} {e : Nat → Nat}
noncomputable def appS : Ss → Ss → Ss
  | .nil, b => b
  | .cons s a, b => .cons s (appS a b)
theorem evSs_app {F : FT} {b : Ss} {ρ' : Rho} : ∀ {a : Ss} {ρ : Rho}, evSs F SP a ρ = some (.next ρ') → evSs F SP (appS a b) ρ = evSs F SP b ρ'
  | .nil, ρ, h => by
    have h : some (Out.next ρ) = some (.next ρ') := h
    cases h; rfl
  | .cons s a, ρ, h => by
    have h : andThen (evS F SP s ρ) (evSs F SP a) = some (.next ρ') := h
    show andThen (evS F SP s ρ) (evSs F SP (appS a b)) = _
    cases q : evS F SP s ρ with
    | none => rw [q] at h; cases h
    | some o =>
      rw [q] at h
      cases o with
      | next ρ1 => exact evSs_app (a := a) (ρ := ρ1) h
      | ret p => cases h
theorem Tl_sh {a l0 l1 : List Nat} (h0 : l0 ∈ L13) (h1 : l1 ∈ L13) : Tl a (sh l0) (sh l1) = P24.filter (Tb a l0 l1) := by
  refine List.filter_congr fun w hw => ?_
  unfold Tb
  rw [← sh_cut l0 h0 C4 C4_P24, ← sh_cut l1 h1 w hw]
theorem q16 (E : Em e) {x0 x1 x2 x3 x4 x7 x8 x9 x10 x11 x12 x13 x14 x15 x17 x18 x19 x20 x22 : QSV} {a l0 l1 p : List Nat} (ha : a ∈ P24) (h0 : l0 ∈ L13) (h1 : l1 ∈ L13) (hp : p ∈ P24) (h : ∀ i, i < 4 → e (80 + i) = e (p.getD i 0)) (hbe : erS e x17 = .val (.list ((((Rp p).filter (Tb a l0 l1)).map (List.map e)).map .str))) :
    evSs FK SP (.cons s_law2_16 (.cons s_law2_17 (.cons s_law2_18 (.cons s_law2_19 (.cons s_law2_20 (.cons s_law2_21 .nil)))))) (erR e (fr16 x0 x1 x2 x3 x4 x7 x8 x9 x10 x11 x12 x13 x14 x15 x17 x18 x19 x20 x22 a (cutS l0 C4) (cutS l1 C4) (labs (cutS l1 C4).length))) = some (.ret (.bool true)) := by
  obtain ⟨G, hG, h17, D, h27, hD⟩ := obs_eq (t_d (SP := SP) x0 x1 x2 x3 x4 x7 x8 x9 x10 x11 x12 x13 x14 x15 x17 x18 x19 x20 x22 ha (sh_L7 l0 h0) (sh_L7 l1 h1))
  rw [← sh_cut l0 h0 C4 C4_P24, ← sh_cut l1 h1 C4 C4_P24] at hG
  rw [Tl_sh h0 h1] at hD
  refine (evSs_app (a := .cons s_law2_16 (.cons s_law2_17 (.cons s_law2_18 (.cons s_law2_19 (.cons s_law2_20 .nil))))) (b := .cons s_law2_21 .nil) ((r6 (SP := SP)).ok e E _ _ hG)).trans (ret_ ?_)
  have hs := sorted_dealt E hp h hD
  have hl : (D.map (List.map e)).length < 64 := by
    rw [List.length_map, ← (sortS_perm D).length_eq, hD]
    exact Nat.lt_of_le_of_lt (List.length_filter_le _ _) (by decide)
  have e27 : readOf (get (erR e G) 27) = some (.list ((D.map (List.map e)).map .str)) := by
    rw [sl2_27.hg e G, h27]
    show some (PV.list (ers e (tabs D))) = _
    rw [ers_tabs]
  have e17 : readOf (get (erR e G) 17) = some (.list ((((Rp p).filter (Tb a l0 l1)).map (List.map e)).map .str)) := by
    rw [sl2_17.hg e G, h17, hbe]; rfl
  show (((((readOf (get (erR e G) 27)).bind fun p => op1 .sorted_ p).bind fun p => (readOf (get (erR e G) 17)).bind fun q => op2 .eq p q)).bind fun p => some (Out.ret p)) = _
  rw [e27, Option.bind_some, o_sortL hl, Option.bind_some, e17, hs, Option.bind_some, o_eqL]
  rfl
end
theorem FK_E {f : PySem.Str} {ps : List PV} (h1 : (f == "_law_cut") = false) (h2 : (f == "_law_next") = false) (h3 : (f == "_law_orders") = false) (h4 : (f == "_law_riffled") = false) (h5 : (f == "_law_dealt") = false) : FK f ps = FE f ps := by
  unfold FK FJ FI FH FG
  rw [fnF_ne h5, fnF_ne h4, fnF_ne h3, fnF_ne h2, fnF_ne h1]
theorem FK_int2ap (m : Int) (h : m.natAbs < 16 ^ 39) : FK "Int2AP" [.int m] = some (.bytes (i2ap m.natAbs)) := by
  rw [FK_E (by decide) (by decide) (by decide) (by decide) (by decide)]
  unfold FE FD FC
  rw [fnF_ne (by decide), fnF_ne (by decide)]
  exact fnF_eq rfl (ev_int2ap h)
theorem FK_picked {k : Nat} {p : PV} {xs : List PV} (hp : op1 .list_ p = some (.list xs)) (h4 : 4 ≤ xs.length) (hl : xs.length ≤ 16) (ox : ∀ x ∈ xs, okPy x 8 = true) : FK "_law_picked" [.int k, p] = some (.list (sel 4 k xs)) := by
  rw [FK_E (by decide) (by decide) (by decide) (by decide) (by decide)]
  unfold FE
  exact fnF_eq rfl (ev_picked hp h4 hl ox)
theorem lab_i2ap {m : Nat} (h1 : 1 ≤ m) (h2 : m ≤ 13) : ∀ k, k < 3 → (i2ap (m * 16 ^ k)).map UInt8.toNat = (65 + m) :: List.replicate k 65 := by
  have key : ∀ m : Fin 14, 1 ≤ m.val → ∀ k : Fin 3, (i2ap (m.val * 16 ^ k.val)).map UInt8.toNat = (65 + m.val) :: List.replicate k.val 65 := by decide +kernel
  exact fun k hk => key ⟨m, Nat.lt_succ_of_le h2⟩ h1 ⟨k, hk⟩
theorem cut_len : ∀ l ∈ L13, (cutS l C4).length ≤ 3 := by decide +kernel
theorem pl_list (ns : List Int) : Pl (.val (.list (ns.map .int))) := ⟨.val (.list (ns.map QV.int)), fun e => by
  show SV.val (PV.list (ers e (ns.map QV.int))) = _
  rw [ers_eq, List.map_map]; rfl⟩
theorem figs (a : Nat) : ∃ f : Nat → Nat, FK "_law_picked" [.int a, .range 0 16] = some (fgs f) ∧ (∀ i, i < 4 → f i < 16) ∧ ∀ i j, i < 4 → j < 4 → f i = f j → i = j := by
  have hx : op1 .list_ (.range 0 16) = some (.list ((List.range 16).map fun i : Nat => PV.int (i : Int))) := rfl
  have h := FK_picked (k := a) hx (by decide) (by decide) (fun x hx => by
    obtain ⟨i, _, rfl⟩ := List.mem_map.mp hx
    rfl)
  rw [sel_map] at h
  have hm := sel_mem 4 a (List.range 16)
  have hn := sel_nodup 4 a (List.range 16) List.nodup_range
  obtain ⟨p0, p1, p2, p3, hs⟩ := four_of (sel_len 4 a (List.range 16) (by decide))
  rw [hs] at h hm hn
  have m0 := List.mem_range.mp (hm p0 (.head _))
  have m1 := List.mem_range.mp (hm p1 (.tail _ (.head _)))
  have m2 := List.mem_range.mp (hm p2 (.tail _ (.tail _ (.head _))))
  have m3 := List.mem_range.mp (hm p3 (.tail _ (.tail _ (.tail _ (.head _)))))
  obtain ⟨n0, hn⟩ := List.nodup_cons.mp hn
  obtain ⟨n1, hn⟩ := List.nodup_cons.mp hn
  obtain ⟨n2, _⟩ := List.nodup_cons.mp hn
  have d01 : p0 ≠ p1 := fun h => n0 (h ▸ .head _)
  have d02 : p0 ≠ p2 := fun h => n0 (h ▸ .tail _ (.head _))
  have d03 : p0 ≠ p3 := fun h => n0 (h ▸ .tail _ (.tail _ (.head _)))
  have d12 : p1 ≠ p2 := fun h => n1 (h ▸ .head _)
  have d13 : p1 ≠ p3 := fun h => n1 (h ▸ .tail _ (.head _))
  have d23 : p2 ≠ p3 := fun h => n2 (h ▸ .head _)
  have four : ∀ i, i < 4 → i = 0 ∨ i = 1 ∨ i = 2 ∨ i = 3 := fun i hi => by lia
  refine ⟨l4 p0 p1 p2 p3, h, fun i hi => ?_, fun i j hi hj e => ?_⟩
  · rcases four i hi with rfl | rfl | rfl | rfl <;> assumption
  · rcases four i hi with rfl | rfl | rfl | rfl <;> rcases four j hj with rfl | rfl | rfl | rfl <;> first | rfl | (exact absurd e (by assumption)) | (exact absurd e.symm (by assumption))
theorem ev_law2 {ns : List Int} (h : ns.length ≤ 63) : evSs FK noSP x_law2 (rho0 36 [.list (ns.map .int)]) = some (.ret (.bool true)) := by
  obtain ⟨n0, n1, n2, n3, eh, -, -, -, -⟩ := ev_heaps (F := FC) (SP := noSP) h
  have H1 : FK "_law_heaps" [.list (ns.map .int)] = some (hps n0 n1 n2 n3) := by
    rw [FK_E (by decide) (by decide) (by decide) (by decide) (by decide)]
    unfold FE FD
    rw [fnF_ne (by decide)]
    exact fnF_eq rfl eh
  obtain ⟨f, H2, f16, fi⟩ := figs n0
  obtain ⟨l, p, hp, lup, l16, hlp, hsort⟩ := order_of f16 fi
  have hlam : 1 ≤ 1 + n0 / 43680 % 13 := Nat.le_add_right _ _
  have hlam2 : 1 + n0 / 43680 % 13 ≤ 13 := by
    have := Nat.mod_lt (n0 / 43680) (show 13 > 0 by decide)
    lia
  have E : Em (eG f l (1 + n0 / 43680 % 13)) := em_of ⟨f16, fi, hlam, hlam2, l16, lup⟩
  have e65 : ∀ j, j < 4 → eG f l (1 + n0 / 43680 % 13) (65 + j) = 65 + f j := fun j hj => by
    have : j = 0 ∨ j = 1 ∨ j = 2 ∨ j = 3 := by lia
    rcases this with rfl | rfl | rfl | rfl <;> rfl
  have e80 : ∀ j, j < 4 → eG f l (1 + n0 / 43680 % 13) (80 + j) = 65 + l j := fun j hj => by
    have : j = 0 ∨ j = 1 ∨ j = 2 ∨ j = 3 := by lia
    rcases this with rfl | rfl | rfl | rfl <;> rfl
  have hbk : ∀ i, i < 4 → eG f l (1 + n0 / 43680 % 13) (80 + i) = eG f l (1 + n0 / 43680 % 13) (p.getD i 0) := fun i hi => by
    obtain ⟨j, hj, h1, h2⟩ := hlp i hi
    rw [e80 i hi, h2, List.getD_eq_getElem?_getD, h1]
    exact (e65 j hj).symm
  have hdk : dk f = C4.map (eG f l (1 + n0 / 43680 % 13)) := rfl
  have hlow : lowL l = [[80], [81], [82], [83]].map (List.map (eG f l (1 + n0 / 43680 % 13))) := rfl
  have e70 : eG f l (1 + n0 / 43680 % 13) 70 = 65 + (1 + n0 / 43680 % 13) := rfl
  have e72 : eG f l (1 + n0 / 43680 % 13) 72 = 65 := rfl
  rw [hdk] at hsort
  refine law2_A (ss := .cons s_law2_6 (.cons s_law2_7 (.cons s_law2_8 (.cons s_law2_9 (.cons s_law2_10 (.cons s_law2_11 (.cons s_law2_12 (.cons s_law2_13 (.cons s_law2_14 (.cons s_law2_15 (.cons s_law2_16 (.cons s_law2_17 (.cons s_law2_18 (.cons s_law2_19 (.cons s_law2_20 (.cons s_law2_21 .nil)))))))))))))))) H1 H2 f16 FK_int2ap ?_
  rw [hdk]
  generalize eG f l (1 + n0 / 43680 % 13) = e at *
  have ha := sel_P24 n1
  have hpk : FK "_law_picked" [.int n1, .str (C4.map e)] = some (.list ((((sel 4 n1 C4).map e).map fun c => [c]).map .str)) := by
    have hx : op1 .list_ (.str (C4.map e)) = some (.list (((C4.map e).map fun c => [c]).map .str)) := rfl
    have h := FK_picked (k := n1) hx (Nat.le_refl 4) (show 4 ≤ 16 by decide) (fun x hx => by
      obtain ⟨i, _, rfl⟩ := List.mem_map.mp hx
      rfl)
    rw [sel_map, sel_map, sel_map] at h
    exact h
  refine law2_B hpk (by rw [List.length_map]; exact sel_len 4 n1 C4 (by decide)) fun l0 l1 w h0 h1 hw hpw => ?_
  generalize sel 4 n1 C4 = α at *
  rcases w with _ | ⟨w8, _ | ⟨w9, _ | ⟨w10, _ | ⟨w11, _ | ⟨w12, _ | ⟨w13, _ | ⟨w14, w⟩⟩⟩⟩⟩⟩⟩ <;> first | cases hw | skip
  obtain ⟨x8, q8'⟩ := hpw w8 (.head _)
  obtain ⟨x9, q9'⟩ := hpw w9 (.tail _ (.head _))
  obtain ⟨x10, q10'⟩ := hpw w10 (.tail _ (.tail _ (.head _)))
  obtain ⟨x11, q11'⟩ := hpw w11 (.tail _ (.tail _ (.tail _ (.head _))))
  obtain ⟨x12, q12'⟩ := hpw w12 (.tail _ (.tail _ (.tail _ (.tail _ (.head _)))))
  obtain ⟨x13, q13'⟩ := hpw w13 (.tail _ (.tail _ (.tail _ (.tail _ (.tail _ (.head _))))))
  obtain ⟨x0, q0'⟩ := pl_list ns
  rw [← q0' e, ← q8' e, ← q9' e, ← q10' e, ← q11' e, ← q12' e, ← q13' e]
  clear q0' q8' q9' q10' q11' q12' q13' hpw
  have hρ : S7 [erS e x0, .val (hps n0 n1 n2 n3), .val (fgs f), .val (.int (nm4 f)), .val (.bytes (i2ap (nm4 f))), .val (.str (C4.map e)), .val (.str (α.map e))] ([l0, l1].map intsV) [erS e x8, erS e x9, erS e x10, erS e x11, erS e x12, erS e x13] = erR e (frB x0 (hpQ n0 n1 n2 n3) (.val (.list [.int (f 0), .int (f 1), .int (f 2), .int (f 3)])) (.val (.int (nm4 f))) (.val (.bytes (i2ap (nm4 f)))) (.own [inQ l0, inQ l1]) x8 x9 x10 x11 x12 x13 α .un .un .un .un .un .un .un .un .un .un) := by
    show S7 _ [intsV l0, intsV l1] _ = _
    rw [← er_inQ (e := e) l0, ← er_inQ (e := e) l1]; rfl
  rw [hρ]
  refine next_ (q8 hsort hlow) ?_
  refine (evSs_app (a := .cons s_law2_9 (.cons s_law2_10 .nil)) (b := .cons s_law2_11 (.cons s_law2_12 (.cons s_law2_13 (.cons s_law2_14 (.cons s_law2_15 (.cons s_law2_16 (.cons s_law2_17 (.cons s_law2_18 (.cons s_law2_19 (.cons s_law2_20 (.cons s_law2_21 .nil))))))))))) (Rs.ok _ e E _ _ (t_910 (SP := noSP) x0 (hpQ n0 n1 n2 n3) (.val (.list [.int (f 0), .int (f 1), .int (f 2), .int (f 3)])) (.val (.int (nm4 f))) (.val (.bytes (i2ap (nm4 f)))) (.val (.abs [65,66,67,68])) (.val (.abs α)) (.own [inQ l0, inQ l1]) x8 x9 x10 x11 x12 x13))).trans ?_
  refine next_ (q11 (lo := lowQ') (or := wds O24) (cut_ok E h0 C4_P24)) ?_
  have hsub : ∀ r ∈ Rp p, r ∈ P24 := fun r hr => (Rp_perm hp).mem_iff.mp hr
  have hor : erS e (wds O24) = .val (.list (((Rp p).map (List.map e)).map .str)) := by
    rw [← O24_map hbk]
    exact congrArg SV.val (er_tabs _)
  refine next_ (q12 (rows := Rp p) (T1 := rif (cutS l0 C4)) (T2 := fun r => rif (cutS l1 r) α) (q := fun r => .list (((cutS l1 r).map (List.map e)).map .str)) (by rw [(Rp_perm hp).length_eq]; decide) rfl hor rfl (fun r hr => rif_ok E h0 C4_P24 (hsub r hr)) (fun r hr => cut_ok E h1 (hsub r hr)) (fun r hr => rif_ok E h1 (hsub r hr) ha) (v := wds ((Rp p).filter (Tb α l0 l1))) (congrArg SV.val (er_tabs _).symm)) ?_
  have hbe : erS e (wds ((Rp p).filter (Tb α l0 l1))) = .val (.list ((((Rp p).filter (Tb α l0 l1)).map (List.map e)).map .str)) := congrArg SV.val (er_tabs _)
  obtain ⟨ro, pt, en, h13⟩ := q13 (SP := noSP) (x0 := x0) (x1 := hpQ n0 n1 n2 n3) (x2 := .val (.list [.int (f 0), .int (f 1), .int (f 2), .int (f 3)])) (x3 := .val (.int (nm4 f))) (x4 := .val (.bytes (i2ap (nm4 f)))) (x7 := .own [inQ l0, inQ l1]) (x8 := x8) (x9 := x9) (x10 := x10) (x11 := x11) (x12 := x12) (x13 := x13) (a := α) E h0 (lo := lowQ') (or := wds O24) (rows := (Rp p).filter (Tb α l0 l1)) (fun r hr => ⟨hsub r (List.mem_filter.mp hr).1, ((Bool.and_eq_true _ _).mp (List.mem_filter.mp hr).2).1⟩) hbe
  refine next_ h13 (next_ (q14 (cut_ok E h1 C4_P24)) (next_ (q15 (Nat.lt_of_le_of_lt hlam2 (by decide)) (cut_len l1 h1) (fun k hk => ?_) (fun k hk => ?_)) ?_))
  · refine FK_int2ap _ ?_
    show (1 + n0 / 43680 % 13) * 16 ^ k < 16 ^ 39
    have : k = 0 ∨ k = 1 ∨ k = 2 := by lia
    rcases this with rfl | rfl | rfl <;> exact Nat.lt_of_le_of_lt (Nat.mul_le_mul_right _ hlam2) (by decide)
  · rw [lab_i2ap hlam hlam2 k hk]
    rcases lt3 hk with rfl | rfl | rfl
    · show [65 + (1 + n0 / 43680 % 13)] = [e 70]
      rw [e70]
    · show [65 + (1 + n0 / 43680 % 13), 65] = [e 70, e 72]
      rw [e70, e72]
    · show [65 + (1 + n0 / 43680 % 13), 65, 65] = [e 70, e 72, e 72]
      rw [e70, e72]
  · exact q16 E ha h0 h1 hp hbk hbe
end Mine
namespace Mine
open PySem PySem.W PyProof.Rows
noncomputable def nmB (k : KC) (i : Nat) (x : Str) : Bool := k.nm.contains (i, x) && x != "__debug__"
noncomputable def noB (k : KC) (i : Nat) (x : Str) : Bool := k.st && nmB k i x
noncomputable def tnB (k : KC) (i : Nat) (x : Str) : Bool := k.nm.contains (i, x) && (k.sc.names.lookup x == some .local || k.st)
noncomputable abbrev gB (k : KC) (x : Str) : Bool := isGlob k.sc x
theorem and1 {a b : Bool} (h : (a && b) = true) : a = true := ((Bool.and_eq_true _ _).mp h).1
theorem and2 {a b : Bool} (h : (a && b) = true) : b = true := ((Bool.and_eq_true _ _).mp h).2
theorem nm_of {k : KC} {i : Nat} {x : Str} (h : nmB k i x = true) : Nm k i x := ⟨List.contains_iff_mem.mp (and1 h), bne_iff_ne.mp (and2 h)⟩
theorem no_of {k : KC} {i : Nat} {x : Str} (h : noB k i x = true) : No k i x := ⟨nm_of (and2 h), and1 h⟩
theorem tn_of {k : KC} {i : Nat} {x : Str} (h : tnB k i x = true) : Tn k i x := ⟨List.contains_iff_mem.mp (and1 h), ((Bool.or_eq_true _ _).mp (and2 h)).imp beq_iff_eq.mp id⟩
structure DE (k : KC) (x : X) (e : Expr) : Prop where
  d : SndE k x e
structure DO (k : KC) (x : Opd) (e : Expr) : Prop where
  d : SndO k x e
structure DXs (k : KC) (xs : Xs) (es : List Expr) : Prop where
  d : SndXs k xs es
structure DB (k : KC) (o : Bool) (xs : Xs) (es : List Expr) : Prop where
  d : SndB k o xs es
structure DT (k : KC) (t : T) (e : Expr) : Prop where
  d : SndT k t e
structure DTs (k : KC) (o : Bool) (ts : Ts) (es : List Expr) : Prop where
  d : SndTs k o ts es
structure DIf (k : KC) (ts : Ts) (es : List Expr) : Prop where
  d : SndIfs k ts es
structure DTg (k : KC) (t : Tgt) (e : Expr) : Prop where
  d : TgtP k t e
structure DC (m : Bool) (k : KC) (c : C) (elt : Expr) (gs : List Comprehension) : Prop where
  d : SndC m k c elt gs
structure DCl (m : Bool) (k : KC) (t : Tgt) (ifs : Ts) (cc : C) (elt : Expr) (g : Comprehension) (gs : List Comprehension) : Prop where
  d : ClP m k t ifs cc elt g gs
structure DCo (m : Bool) (k : KC) (vs : List (Nat × Str)) (c : C) (elt : Expr) (gs : List Comprehension) (scope : Scope) : Prop where
  d : SndComp m k vs c elt gs scope
structure DSrc (k : KC) (wk : Bool) (s : Src) (tgt e : Expr) : Prop where
  d : SndSrc k wk s tgt e
structure DSrS (k : KC) (s : Src) (tgt e : Expr) : Prop where
  d : SndSrcS k s tgt e
structure DF (k : KC) (x : X) (e : Expr) : Prop where
  d : SndF k x e
structure DV (k : KC) (hc : Addr) (u : UX) (i : Nat) (e : Expr) : Prop where
  d : SndV k hc u i e
structure DU (k : KC) (hc : Addr) (us : List (Nat × UX)) (ns : List Str) (es : List Expr) : Prop where
  d : SndU k hc us ns es
structure DS (k : KC) (SP : SPT) (x : S) (st : Stmt) : Prop where
  d : SndS k SP x st
structure DSs (k : KC) (SP : SPT) (x : Ss) (l : List Stmt) : Prop where
  d : SndSs k SP x l
structure DSx (k : KC) (c : Addr) (x : SPx) (st : Stmt) : Prop where
  d : SndX k (fun F => evX F c x) st
section
variable {k : KC} {SP : SPT} {i j n n2 : Nat} {x y z m f : Str} {e ex ey ez et tgt : Expr} {es : List Expr} {p : PV} {a b u v w : X} {ox oy oz ot : Opd} {pos np apos cpos p1 p2 p3 p4 p5 : Pos} {o : Op2} {xs : Xs} {t : T} {ts : Ts} {o' : Bool}
theorem dV (h : nmB k i x = true) : DE k (.var i) (.Name x pos) := ⟨eVar (nm_of h)⟩
theorem dO (h : nmB k i x = true) : DO k (.v i) (.Name x pos) := ⟨oVar (nm_of h)⟩
theorem dX (h : DE k u e) : DO k (.e u) e := ⟨h.1.toO⟩
theorem dK {c : Const} (h : (constC p c).isSome = true) : DE k (.k p) (.Constant c n pos) := ⟨((constC p c).get h).1 k n pos⟩
theorem dLen (h : (gB k "len" && plainE ex) = true) (hx : DO k ox ex) : DE k (.op1 .len ox) (.Call (.Name "len" np) [ex] [] pos) := ⟨eFn1 (bltF (and1 h) b_len (by decide) (by decide)) hx.1 (and2 h) rfl⟩
theorem dChr (h : (gB k "chr" && plainE ex) = true) (hx : DO k ox ex) : DE k (.op1 .chr ox) (.Call (.Name "chr" np) [ex] [] pos) := ⟨eFn1 (bltF (and1 h) b_chr (by decide) (by decide)) hx.1 (and2 h) rfl⟩
theorem dAbs (h : (gB k "abs" && plainE ex) = true) (hx : DO k ox ex) : DE k (.op1 .abs ox) (.Call (.Name "abs" np) [ex] [] pos) := ⟨eFn1 (bltF (and1 h) b_abs (by decide) (by decide)) hx.1 (and2 h) rfl⟩
theorem dInt (h : (gB k "int" && plainE ex) = true) (hx : DO k ox ex) : DE k (.op1 .int_ ox) (.Call (.Name "int" np) [ex] [] pos) := ⟨eFn1 (bltT (and1 h) b_int (by decide) (by decide)) hx.1 (and2 h) rfl⟩
theorem dDm (h : (gB k "divmod" && (plainE ex && plainE ey)) = true) (hx : DO k ox ex) (hy : DO k oy ey) : DE k (.op2 .divmod ox oy) (.Call (.Name "divmod" np) [ex, ey] [] pos) := ⟨eDivmod (bltF (and1 h) b_divmod (by decide) (by decide)) hx.1 hy.1 (and1 (and2 h)) (and2 (and2 h))⟩
theorem dSw (hb : BaseP ex) (h : (plainE ey && (apos.endLine == pos.line)) = true) (hx : DO k ox ex) (hy : DO k oy ey) : DE k (.op2 .startswith ox oy) (.Call (.Attribute ex "startswith" apos) [ey] [] pos) := ⟨eMeth F.slot_str_startswith F.type_str_startswith (fun zz zz zz h => h) hb (and1 h) (and2 h) hx.1 hy.1⟩
theorem dEw (hb : BaseP ex) (h : (plainE ey && (apos.endLine == pos.line)) = true) (hx : DO k ox ex) (hy : DO k oy ey) : DE k (.op2 .endswith ox oy) (.Call (.Attribute ex "endswith" apos) [ey] [] pos) := ⟨eMeth F.slot_str_endswith F.type_str_endswith (fun zz zz zz h => h) hb (and1 h) (and2 h) hx.1 hy.1⟩
theorem dJn (hb : BaseP ex) (h : (plainE ey && (apos.endLine == pos.line)) = true) (hx : DO k ox ex) (hy : DO k oy ey) : DE k (.op2 .join ox oy) (.Call (.Attribute ex "join" apos) [ey] [] pos) := ⟨eMeth F.slot_str_join F.type_str_join (fun zz zz zz h => h) hb (and1 h) (and2 h) hx.1 hy.1⟩
theorem dFi (hb : BaseP ex) (h : (plainE ey && (plainE ez && (plainE et && (apos.endLine == pos.line)))) = true) (hx : DO k ox ex) (hy : DO k oy ey) (hz : DO k oz ez) (ht : DO k ot et) : DE k (.op4 ox oy oz ot) (.Call (.Attribute ex "find" apos) [ey, ez, et] [] pos) := ⟨e4 hb (and1 h) (and1 (and2 h)) (and1 (and2 (and2 h))) (and2 (and2 (and2 h))) hx.1 hy.1 hz.1 ht.1⟩
theorem dAndE (h : DB k false xs es) : DE k (.bool_ false xs) (.BoolOp .And es pos) := ⟨eBoolE h.1⟩
theorem dAndT (h : DTs k false ts es) : DT k (.bool_ false ts) (.BoolOp .And es pos) := ⟨tBool h.1⟩
theorem dOrT (h : DTs k true ts es) : DT k (.bool_ true ts) (.BoolOp .Or es pos) := ⟨tBool h.1⟩
theorem dTc {l r : Expr} {op : CmpOp} (hm : behindInMarks op r = false) (hx : DO k ox (.Compare l [op] [r] pos)) : DT k (.x ox) (.Compare l [op] [r] pos) := ⟨tX (isTrue_cmp hm) hx.1⟩
theorem dTn (hx : DO k ox (.Name x pos)) : DT k (.x ox) (.Name x pos) := ⟨tX (fun zz zz zz h => wpAny_isTrue_value h) hx.1⟩
theorem dTb {l r : Expr} {op : Operator} (hx : DO k ox (.BinOp l op r pos)) : DT k (.x ox) (.BinOp l op r pos) := ⟨tX (fun zz zz zz h => wpAny_isTrue_value h) hx.1⟩
theorem dTi (hx : DO k ox (.Subscript ex ey pos)) : DT k (.x ox) (.Subscript ex ey pos) := ⟨tX (fun zz zz zz h => wpAny_isTrue_value h) hx.1⟩
theorem dTf {kw : List Keyword} (hx : DO k ox (.Call e es kw pos)) : DT k (.x ox) (.Call e es kw pos) := ⟨tX (fun zz zz zz h => wpAny_isTrue_value h) hx.1⟩
theorem dTg (h : tnB k i x = true) : DTg k (.one i) (.Name x pos) := ⟨tgt1 (tn_of h)⟩
theorem dTg2 (h : (tnB k i x && tnB k j y) = true) : DTg k (.two i j) (.Tuple [.Name x p1, .Name y p2] n pos) := ⟨tgt2 (tn_of (and1 h)) (tn_of (and2 h))⟩
theorem dCl {mm : Bool} {t : Tgt} {ifs : Ts} {cc : C} {elt : Expr} {g : Comprehension} {gs : List Comprehension} (h : (g.is_async == 0 && (gs.all (fun g' => g'.is_async == 0) && (notSet g.iter && (tvars t).all fun i => !(varsC cc).contains i))) = true) (ht : DTg k t g.target) (hi : DIf k ifs g.ifs) (hb : DC mm k cc elt gs) : DCl mm k t ifs cc elt g gs := ⟨
  ⟨beq_iff_eq.mp (and1 h), fun g' hg => beq_iff_eq.mp (List.all_eq_true.mp (and1 (and2 h)) g' hg), and1 (and2 (and2 h)), ht.1, hi.1, hb.1, fun i hm q => by
    have := List.all_eq_true.mp (and2 (and2 (and2 h))) i hm
    rw [List.contains_iff_mem.mpr q] at this
    cases this⟩⟩
theorem dCo {mm : Bool} {vs : List (Nat × Str)} {t : Tgt} {src : Src} {ifs : Ts} {cc : C} {elt : Expr} {g : Comprehension} {gs : List Comprehension} {scope : Scope} (h : (scopeOk k scope vs && (varsC (.for_ t src ifs cc)).all fun i => (vs.map (·.1)).contains i) = true) (hs : DSrc k true src g.target g.iter) (P : DCl mm (compKC k scope vs) t ifs cc elt g gs) : DCo mm k vs (.for_ t src ifs cc) elt (g :: gs) scope := ⟨
  comp_run (scopeOk_ok (and1 h)) hs.1 P.1 fun i hi => List.contains_iff_mem.mp (List.all_eq_true.mp (and2 h) i hi)⟩
theorem dSr {wk : Bool} (h : (gB k "range" && (plainE e && isName tgt)) = true) (hx : DO k ox e) : DSrc k wk (.rng ox) tgt (.Call (.Name "range" np) [e] [] pos) := ⟨srcRng (bltT (and1 h) b_range (by decide) (by decide)) hx.1 (and1 (and2 h)) (and2 (and2 h))⟩
theorem dSg {wk : Bool} {c0 : Nat} (h : (gB k "zip" && (gB k "range" && (gB k "_grouping_intervals" && (k.gi && (plainE e && (isTuple tgt && (Nat.ble 1 n && Nat.blt n 1000))))))) = true) (hx : DE k u e) : DSrc k wk (.gi n u) tgt (.Call (.Name "zip" np) [.Call (.Name "range" p1) [.Constant (.int n) c0 p2] [] p3, .Call (.Name "_grouping_intervals" p4) [e] [] p5] [] pos) := ⟨
  have h2 := and2 (and2 (and2 h))
  srcGi (bltT (and1 h) b_zip (by decide) (by decide)) (bltT (and1 (and2 h)) b_range (by decide) (by decide)) (and1 (and2 (and2 h))) (and1 h2) hx.1 (and1 (and2 h2)) (and1 (and2 (and2 h2))) ⟨Nat.le_of_ble_eq_true (and1 (and2 (and2 (and2 h2)))), Nat.le_of_ble_eq_true (and2 (and2 (and2 (and2 h2))))⟩⟩
theorem dSv {wk : Bool} (h : (nmB k i x && ((wk || !k.st) && isName tgt)) = true) : DSrc k wk (.one (.v i)) tgt (.Name x pos) := ⟨srcV (nm_of (and1 h)) (fun q => by
  have := and1 (and2 h)
  rw [q, Bool.false_or] at this
  exact (Bool.not_eq_true' _).mp this) (and2 (and2 h))⟩
theorem dSe {wk : Bool} (h : isName tgt = true) (hx : DE k u e) : DSrc k wk (.one (.e u)) tgt e := ⟨srcE hx.1 h⟩
theorem dHdr {hc : Addr} (h : (gB k "Headers" && k.hd == some hc) = true) : DV k hc .hdr i (.Call (.Name "Headers" np) [] [] pos) := ⟨vHdr (and1 h) (beq_iff_eq.mp (and2 h))⟩
end
section
variable {k : KC} {SP : SPT} {i j n n2 : Nat} {x y z m : Str} {e ex ey tgt : Expr} {es ts : List Expr} {u v : X} {ox oy : Opd} {pos np apos cpos spos p1 p2 p3 p4 p5 : Pos} {us : List (Nat × UX)} {ux : UX} {ns : List Str} {hc : Addr}
theorem dAs (h : (noB k i y && !isCompE e) = true) (hv : DV k SP.c ux i e) : DS k SP (.assign i ux) (.Assign [.Name y p1] e pos) := ⟨sAssign (no_of (and1 h)).tn hv.1 ((Bool.not_eq_true' _).mp (and2 h))⟩
theorem dAv {vs : List (Nat × Str)} {cc : C} {elt : Expr} {gs : List Comprehension} {scope : Scope} (h : noB k i y = true) (hc : DCo false k vs cc elt gs scope) : DS k SP (.assign i (.val (.comp vs cc))) (.Assign [.Name y p1] (.ListComp elt gs scope cpos) pos) := ⟨sAssignC (no_of h).tn hc.1 (.inl rfl)⟩
theorem dUc (h : (noB k i y && plainE e) = true) (hv : DV k hc ux i e) (hs : DU k hc us ns es) : DU k hc ((i, ux) :: us) (y :: ns) (e :: es) := ⟨uCons (no_of (and1 h)).tn (and2 h) hv.1 hs.1⟩
noncomputable def disB : List Nat → Bool
  | [] => true
  | i :: l => !l.contains i && disB l
theorem disB_ok : ∀ {l : List Nat}, disB l = true → l.Pairwise (· ≠ ·)
  | [], _ => .nil
  | i :: l, h => by
      refine List.pairwise_cons.mpr ⟨fun j hj q => ?_, disB_ok (and2 h)⟩
      have := and1 h
      rw [List.contains_iff_mem.mpr (q ▸ hj)] at this
      cases this
theorem dU2 (h : (!es.all (constantsAlone 8) && disB (us.map (·.1))) = true) (hs : DU k SP.c us [x, y] es) : DS k SP (.unpack us) (.Assign [.Tuple [.Name x p3, .Name y p4] n p1] (.Tuple es n2 p2) pos) := ⟨sUnpack hs.1 (.cons (.cons .nil)) ((Bool.not_eq_true' _).mp (and1 h)) (Nat.le_of_ble_eq_true rfl) (disB_ok (and2 h))⟩
theorem dU3 (h : (!es.all (constantsAlone 8) && disB (us.map (·.1))) = true) (hs : DU k SP.c us [x, y, z] es) : DS k SP (.unpack us) (.Assign [.Tuple [.Name x p3, .Name y p4, .Name z p5] n p1] (.Tuple es n2 p2) pos) := ⟨sUnpack hs.1 (.cons (.cons (.cons .nil))) ((Bool.not_eq_true' _).mp (and1 h)) (Nat.le_of_ble_eq_true rfl) (disB_ok (and2 h))⟩
theorem dUe (h : (noB k i y && (noB k j z && (notTup e && !isCompE e))) = true) (hx : DE k u e) : DS k SP (.unpackE i j u) (.Assign [.Tuple [.Name y p1, .Name z p2] n p3] e pos) := ⟨sUnpackE (no_of (and1 h)) (no_of (and1 (and2 h))) hx.1 (and1 (and2 (and2 h))) ((Bool.not_eq_true' _).mp (and2 (and2 (and2 h))))⟩
theorem dAug {o : Op2} {op : Operator} (ho : SndAug o op) (h : noB k i y = true) (hx : DO k ox e) : DS k SP (.aug i o ox) (.AugAssign (.Name y np) op e pos) := ⟨sAug (no_of h) ho hx.1⟩
theorem dAx (h : (noB k i y && notSlice ex) = true) (hi : DO k ox ex) (hx : DO k oy e) : DS k SP (.augIdx i ox oy) (.AugAssign (.Subscript (.Name y np) ex p1) .Add e pos) := ⟨sAugIdx (no_of (and1 h)) (and2 h) hi.1 hx.1⟩
theorem dAp (h : (noB k i y && ((apos.endLine == pos.line) && plainE e)) = true) (hx : DE k u e) : DS k SP (.append i u) (.Expr (.Call (.Attribute (.Name y np) "append" apos) [e] [] pos) spos) := ⟨sAppend (no_of (and1 h)) (and1 (and2 h)) (and2 (and2 h)) hx.1⟩
theorem dDl {a : Int} (h : noB k i y = true) : DS k SP (.del i a) (.Delete [.Subscript (.Name y np) (.Constant (.int a) n p1) p2] pos) := ⟨sDel (no_of h) fun zz => wpAny_Constant_int PE.int⟩
theorem dDn {a : Int} (h : noB k i y = true) : DS k SP (.del i (-a)) (.Delete [.Subscript (.Name y np) (.UnaryOp .USub (.Constant (.int a) n p1) p2) p3] pos) := ⟨sDel (no_of h) fun zz => wpAny_UnaryOp (wpAny_Constant_int (neg_int (PE.int.after Step.tok)))⟩
theorem dRv (h : noB k i y = true) : DS k SP (.ret (.v i)) (.Return (some (.Name y np)) pos) := ⟨sRetV (no_of h)⟩
theorem dSo (h : (nmB k i y && isName tgt) = true) : DSrS k (.one (.v i)) tgt (.Name y pos) := ⟨srcSv (nm_of (and1 h)) (and2 h)⟩
noncomputable def nmFd (i : Nat) : List (Nat × Str) → Str
  | [] => ""
  | (j, x) :: l => cond (Nat.beq i j) x (nmFd i l)
theorem dFz {ss : Ss} {l : List Stmt} (h : noB k i (nmFd i k.nm) = true) (hs : DSs k SP ss l) : DSs k SP (.cons (.freeze i) ss) l := ⟨ssFreeze (no_of h) hs.1⟩
theorem dSp {c : Addr} {l : List SPx} {st : Stmt} (x : SPx) (h : l[n]? = some x) (hx : DSx k c x st) : DS k (spTab c l) (.sp n) st := ⟨fun a out he => hx.1 a out (by
  change (l[n]?).bind _ = some out at he
  rw [h] at he
  exact he)⟩
theorem dX0 {a b : X} {e1 e2 : Expr} (h : (noB k i y && (k.hd == some hc && ((apos.endLine == pos.line) && (plainE e1 && plainE e2)))) = true) (hx : DE k a e1) (hy : DE k b e2) : DSx k hc (.addH i a b) (.Expr (.Call (.Attribute (.Name y np) "add_header" apos) [e1, e2] [] pos) spos) := ⟨
  xAddH (no_of (and1 h)) (beq_iff_eq.mp (and1 (and2 h))) (and1 (and2 (and2 h))) (and1 (and2 (and2 (and2 h)))) (and2 (and2 (and2 (and2 h)))) hx.1 hy.1⟩
theorem dHg (h : (noB k i y && (k.hd == some hc && ((apos.endLine == pos.line) && plainE e))) = true) (hx : DO k ox e) : DE k (.hget hc i ox) (.Call (.Attribute (.Name y np) "get_all" apos) [e] [] pos) := ⟨eHget (no_of (and1 h)) (beq_iff_eq.mp (and1 (and2 h))) (and1 (and2 (and2 h))) (and2 (and2 (and2 h))) hx.1⟩
theorem dRg {c0 : Nat} (h : gB k "range" = true) : DE k (.rngv n) (.Call (.Name "range" np) [.Constant (.int n) c0 p1] [] pos) := ⟨eRngv (bltT h b_range (by decide) (by decide))⟩
theorem dLs (h : (gB k "list" && plainE ex) = true) (hx : DO k ox ex) : DF k (.op1 .list_ ox) (.Call (.Name "list" np) [ex] [] pos) := ⟨fList (bltT (and1 h) b_list (by decide) (by decide)) hx.1 (and2 h)⟩
theorem dSd (h : (gB k "sorted" && plainE ex) = true) (hx : DO k ox ex) : DE k (.op1 .sorted_ ox) (.Call (.Name "sorted" np) [ex] [] pos) := ⟨eFn1 (bltF (and1 h) b_sorted (by decide) (by decide)) hx.1 (and2 h) rfl⟩
theorem dIx (hb : BaseP ex) (h : (plainE ey && (apos.endLine == pos.line)) = true) (hx : DO k ox ex) (hy : DO k oy ey) : DE k (.op2 .index ox oy) (.Call (.Attribute ex "index" apos) [ey] [] pos) := ⟨eMeth F.slot_str_index F.type_str_index (fun zz zz zz h => h) hb (and1 h) (and2 h) hx.1 hy.1⟩
theorem dPA (h : (noB k j z && (noB k i y && ((apos.endLine == pos.line) && ((p2.endLine == p3.line) && plainE e)))) = true) (hx : DO k ox e) : DS k SP (.popAdd j i ox) (.Expr (.Call (.Attribute (.Name z np) "append" apos) [.Call (.Attribute (.Name y p1) "pop" p2) [e] [] p3] [] pos) spos) := ⟨sPopAdd (no_of (and1 h)) (no_of (and1 (and2 h))) (and1 (and2 (and2 h))) (and1 (and2 (and2 (and2 h)))) (and2 (and2 (and2 (and2 h)))) hx.1⟩
theorem dAL (h : noB k i y = true) (hx : DO k ox e) : DS k SP (.augL i ox) (.AugAssign (.Name y np) .Add e pos) := ⟨sAugL (no_of h) hx.1⟩
end
section
variable {k : KC} {SP : SPT} {i j n n2 : Nat} {x y z m f : Str} {e e' ex ey ez et tgt elt : Expr} {es : List Expr} {p : PV} {a b u v w : X} {ox oy oz ot : Opd} {pos np apos cpos p1 p2 p3 p4 p5 : Pos} {o : Op2} {xs : Xs} {t : T} {ts : Ts} {o' wk : Bool} {cc : C} {gs : List Comprehension} {g : Comprehension} {scope : Scope} {vs : List (Nat × Str)} {src : Src} {tt : Tgt} {ifs : Ts} {hc : Addr} {sb sb2 ss : Ss} {body els l : List Stmt} {sx : S} {st : Stmt}
theorem qBin {op : Operator} (ho : Snd2 o = BinS op) (hx : DO k ox ex) (hy : DO k oy ey) : DE k (.op2 o ox oy) (.BinOp ex op ey pos) := ⟨eBin hx.1 hy.1 ho⟩
theorem qCmp {op : CmpOp} (ho : Snd2 o = CmpS op) (hm : behindInMarks op ey = false) (hx : DO k ox ex) (hy : DO k oy ey) : DE k (.op2 o ox oy) (.Compare ex [op] [ey] pos) := ⟨eCmp hx.1 hy.1 ho hm⟩
theorem qRev (hx : DO k ox ex) : DE k (.op1 .rev ox) (.Subscript ex (.Slice none none (some (.UnaryOp .USub (.Constant (.int 1) n p1) p2)) p3) pos) := ⟨eRev hx.1⟩
theorem qFrom (hx : DO k ox ex) (hy : DO k oy ey) : DE k (.op2 .from_ ox oy) (.Subscript ex (.Slice (some ey) none none p1) pos) := ⟨eFrom hx.1 hy.1⟩
theorem qTo (hx : DO k ox ex) (hy : DO k oy ey) : DE k (.op2 .to_ ox oy) (.Subscript ex (.Slice none (some ey) none p1) pos) := ⟨eTo hx.1 hy.1⟩
theorem qSl (hx : DO k ox ex) (hy : DO k oy ey) (hz : DO k oz ez) : DE k (.op3 ox oy oz) (.Subscript ex (.Slice (some ey) (some ez) none p1) pos) := ⟨e3 hx.1 hy.1 hz.1⟩
theorem qIdx (hx : DO k ox ex) (hy : DO k oy ey) : DE k (.op2 .idx ox oy) (.Subscript ex ey pos) := ⟨eIdx hx.1 hy.1⟩
theorem qCall (h : (gB k f && plainE e) = true) (hs : DXs k (.cons u xs) (e :: es)) : DE k (.call f (.cons u xs)) (.Call (.Name f np) (e :: es) [] pos) := ⟨eCall (and1 h) (and2 h) hs.1⟩
theorem qXc (h : plainE e = true) (hu : DE k u e) (hs : DXs k xs es) : DXs k (.cons u xs) (e :: es) := ⟨xsCons h hu.1 hs.1⟩
theorem qXn : DXs k .nil [] := ⟨xsNil⟩
theorem qNeg (hx : DO k ox ex) : DE k (.op1 .neg ox) (.UnaryOp .USub ex pos) := ⟨eNeg hx.1⟩
theorem qIte (ht : DT k t et) (hu : DE k u ex) (hw : DE k w ey) : DE k (.ite t u w) (.IfExp et ex ey pos) := ⟨eIte ht.1 hu.1 hw.1⟩
theorem qLst (hs : DXs k xs es) : DE k (.lst xs) (.List es pos) := ⟨eLst hs.1⟩
theorem qCm (h : DCo false k vs cc elt gs scope) : DE k (.comp vs cc) (.ListComp elt gs scope pos) := ⟨eComp h.1⟩
theorem qBm (hu : DE k u e) (hs : DB k o' (.cons v xs) (e' :: es)) : DB k o' (.cons u (.cons v xs)) (e :: e' :: es) := ⟨bMore hu.1 hs.1⟩
theorem qBo (hu : DE k u e) : DB k o' (.cons u .nil) [e] := ⟨bOne hu.1⟩
theorem qGl (h : gB k x = true) (hm : (x, p) ∈ k.gl) : DE k (.glob x p) (.Name x pos) := ⟨eGlob h hm⟩
theorem qLow (hb : BaseP ex) (hl : (apos.endLine == pos.line) = true) (hx : DO k ox ex) : DE k (.op1 .lower ox) (.Call (.Attribute ex "lower" apos) [] [] pos) := ⟨eLower hb hl hx.1⟩
theorem qDec (hb : BaseP ex) (hl : (apos.endLine == pos.line) = true) (hx : DO k ox ex) : DE k (.op1 .decode ox) (.Call (.Attribute ex "decode" apos) [] [] pos) := ⟨eDecode hb hl hx.1⟩
theorem qNot (h : DT k t e) : DT k (.not_ t) (.UnaryOp .Not e pos) := ⟨tNot h.1⟩
theorem qTc (h : DT k t e) (hs : DTs k o' ts es) : DTs k o' (.cons t ts) (e :: es) := ⟨tsCons h.1 hs.1⟩
theorem qTn : DTs k o' .nil [] := ⟨tsNil⟩
theorem qIn : DIf k .nil [] := ⟨ifsNil⟩
theorem qIc (h : DT k t e) (hs : DIf k ts es) : DIf k (.cons t ts) (e :: es) := ⟨ifsCons h.1 hs.1⟩
theorem qEm (h : DE k u elt) : DC false k (.emit u) elt [] := ⟨cEmit h.1⟩
theorem qFo {mm : Bool} (h : k.st = false) (hs : DSrc k false src g.target g.iter) (P : DCl mm k tt ifs cc elt g gs) : DC mm k (.for_ tt src ifs cc) elt (g :: gs) := ⟨cFor h hs.1 P.1⟩
theorem qSs (h : DSrc k false src tgt e) : DSrS k src tgt e := ⟨srcS h.1⟩
theorem qVv (h : DE k u e) : DV k hc (.val u) i e := ⟨vVal h.1⟩
theorem qVo (h : DF k u e) : DV k hc (.own u) i e := ⟨vOwn h.1⟩
theorem qFl (hs : DXs k xs es) : DF k (.lst xs) (.List es pos) := ⟨fLst hs.1⟩
theorem qSp (hb : BaseP ex) (h : (plainE ey && (apos.endLine == pos.line)) = true) (hx : DO k ox ex) (hy : DO k oy ey) : DF k (.op2 .split ox oy) (.Call (.Attribute ex "split" apos) [ey] [] pos) := ⟨eSplit hb (and1 h) (and2 h) hx.1 hy.1⟩
theorem qUn : DU k hc [] [] [] := ⟨uNil⟩
theorem qNil : DSs k SP .nil [] := ⟨ssNil⟩
theorem qCons (h : DS k SP sx st) (hs : DSs k SP ss l) : DSs k SP (.cons sx ss) (st :: l) := ⟨ssCons h.1 hs.1⟩
theorem qIf (ht : DT k t e) (ha : DSs k SP sb body) (hb : DSs k SP sb2 els) : DS k SP (.if_ t sb sb2) (.If e body els pos) := ⟨sIf ht.1 ha.1 hb.1⟩
theorem qWh (ht : DT k t e) (hb : DSs k SP sb body) : DS k SP (.while_ n t sb) (.While e body [] pos) := ⟨sWhile ht.1 hb.1⟩
theorem qFr (h : notSet e = true) (hs : DSrS k src tgt e) (ht : DTg k tt tgt) (hb : DSs k SP sb body) : DS k SP (.for_ tt src sb) (.For tgt e body [] pos) := ⟨sFor h hs.1 ht.1 hb.1⟩
theorem qRet (hx : DE k u e) : DS k SP (.ret (.e u)) (.Return (some e) pos) := ⟨sRet hx.1⟩
theorem qAs (ht : DT k t e) : DS k SP (.assert_ t) (.Assert e none pos) := ⟨sAssert ht.1⟩
end
end Mine

set_option maxHeartbeats 0
namespace Mine
open PySem PySem.W PyProof.Rows
noncomputable def defN : List Stmt → Nat → List Stmt
  | .FunctionDef _ _ b .. :: _, 0 => b
  | _ :: l, n + 1 => defN l n
  | _, _ => []
noncomputable def defS : List Stmt → Nat → Scope
  | .FunctionDef (scope := s) .. :: _, 0 => s
  | _ :: l, n + 1 => defS l n
  | _, _ => { kind := .function, names := [], isGenerator := false, isCoroutine := false }
noncomputable abbrev pB : List Stmt := PySem.Challenge.pw_wr0040_02.main.body
noncomputable def A0 : Prop := DSs (k3 (defS pB 14) n_strcoll 182) noSP x_strcoll (defN pB 14)
noncomputable def A1 : Prop := DSs (k3 (defS pB 10) n_ell 182) noSP x_ell (defN pB 10)
noncomputable def A2 : Prop := DSs (k3 (defS pB 12) n_int2ap 182) noSP x_int2ap (defN pB 12)
noncomputable def A3 : Prop := DSs (k3 (defS pB 18) n_heaps2 182) noSP x_heaps2 (defN pB 18)
noncomputable def A4 : Prop := DSs (k3 (defS pB 19) n_picked 182) noSP x_picked (defN pB 19)
noncomputable def A5 : Prop := DSs (k3 (defS pB 20) n_cut 182) noSP x_cut (defN pB 20)
noncomputable def A6 : Prop := DSs (k3 (defS pB 21) n_next 182) noSP x_next (defN pB 21)
noncomputable def A7 : Prop := DSs (k3 (defS pB 22) n_orders 182) noSP x_orders (defN pB 22)
noncomputable def A8 : Prop := DSs (k3 (defS pB 23) n_riffled 182) noSP x_riffled (defN pB 23)
noncomputable def A9 : Prop := DSs (k3 (defS pB 24) n_dealt 182) (spTab 182 spD) x_dealt (defN pB 24)
noncomputable def A10 : Prop := DSs (k3 (defS pB 25) n_law2 182) noSP x_law2 (defN pB 25)
theorem drv : A0 ∧ A1 ∧ A2 ∧ A3 ∧ A4 ∧ A5 ∧ A6 ∧ A7 ∧ A8 ∧ A9 ∧ A10 := by
  refine ⟨?_, ?_, ?_, ?_, ?_, ?_, ?_, ?_, ?_, ?_, ?_⟩
  all_goals (first | unfold A0 | unfold A1 | unfold A2 | unfold A3 | unfold A4 | unfold A5 | unfold A6 | unfold A7 | unfold A8 | unfold A9 | unfold A10)
  all_goals (repeat' first | exact qNil | refine dFz (by kernel_rfl) ?_ | refine qCons ?_ ?_ | refine dAv (by kernel_rfl) ?_ | refine dAo (by kernel_rfl) ?_ | refine dAs (by kernel_rfl) ?_ | refine qIf ?_ ?_ ?_ | refine qFr (by kernel_rfl) ?_ ?_ ?_ | refine qWh ?_ ?_ | refine qRet ?_ | exact dRv (by kernel_rfl) | refine dU2 (by kernel_rfl) ?_ | refine dU3 (by kernel_rfl) ?_ | refine dUe (by kernel_rfl) ?_ | refine dAug augAdd (by kernel_rfl) ?_ | refine dAug augSub (by kernel_rfl) ?_ | refine dAug augMul (by kernel_rfl) ?_ | refine dAug augDiv (by kernel_rfl) ?_ | refine dAx (by kernel_rfl) ?_ ?_ | refine dAp (by kernel_rfl) ?_ | refine dIn (by kernel_rfl) ?_ ?_ | exact dPo (by kernel_rfl) | exact dDl (by kernel_rfl) | exact dDn (by kernel_rfl) | refine qAs ?_ | refine dSp _ rfl ?_ | refine dX0 (by kernel_rfl) ?_ ?_ | refine dHg (by kernel_rfl) ?_ | exact dRg (by kernel_rfl) | refine dLs (by kernel_rfl) ?_ | refine dSd (by kernel_rfl) ?_ | refine dIx (fun zz zz zz => rfl) (by kernel_rfl) ?_ ?_ | refine dPA (by kernel_rfl) ?_ | refine dAL (by kernel_rfl) ?_ | exact dV (by kernel_rfl) | exact dO (by kernel_rfl) | refine dX ?_ | exact dK (by kernel_rfl) | refine qBin rfl ?_ ?_ | refine qCmp rfl (by kernel_rfl) ?_ ?_ | refine qRev ?_ | refine qFrom ?_ ?_ | refine qTo ?_ ?_ | refine qSl ?_ ?_ ?_ | refine qIdx ?_ ?_ | refine dLen (by kernel_rfl) ?_ | refine qCall (by kernel_rfl) ?_ | refine qXc (by kernel_rfl) ?_ ?_ | exact qXn | refine qNeg ?_ | refine qIte ?_ ?_ ?_ | refine qLst ?_ | refine qTup ?_ | refine qCm ?_ | refine dAndE ?_ | refine dOrE ?_ | refine qBm ?_ ?_ | refine qBo ?_ | exact qGl (by kernel_rfl) (.head _) | exact qGl (by kernel_rfl) (.tail _ (.head _)) | refine qLow (fun zz zz zz => rfl) (by kernel_rfl) ?_ | refine qDec (fun zz zz zz => rfl) (by kernel_rfl) ?_ | refine dChr (by kernel_rfl) ?_ | refine dAbs (by kernel_rfl) ?_ | refine dInt (by kernel_rfl) ?_ | refine dMax (by kernel_rfl) ?_ | refine dIsB (by kernel_rfl) ?_ | refine dDm (by kernel_rfl) ?_ ?_ | refine dSw (fun zz zz zz => rfl) (by kernel_rfl) ?_ ?_ | refine dEw (fun zz zz zz => rfl) (by kernel_rfl) ?_ ?_ | refine dJn (fun zz zz zz => rfl) (by kernel_rfl) ?_ ?_ | refine dFi (fun zz zz zz => rfl) (by kernel_rfl) ?_ ?_ ?_ ?_ | refine dSS (by kernel_rfl) ?_ | refine dTc (by kernel_rfl) ?_ | refine qNot ?_ | refine dAndT ?_ | refine dOrT ?_ | refine qTc ?_ ?_ | exact qTn | refine dTn ?_ | refine dTb ?_ | refine dTk ?_ | refine dTf ?_ | refine dTi ?_ | exact qIn | refine qIc ?_ ?_ | refine dCo (by kernel_rfl) ?_ ?_ | refine dCl (by kernel_rfl) ?_ ?_ ?_ | refine qEm ?_ | refine qEs ?_ | refine qFo (by kernel_rfl) ?_ ?_ | exact dSo (by kernel_rfl) | refine qSs ?_ | refine dSr (by kernel_rfl) ?_ | exact dSv (by kernel_rfl) | refine dSe (by kernel_rfl) ?_ | refine dSr2 (by kernel_rfl) ?_ ?_ | refine dSz (by kernel_rfl) ?_ ?_ | refine dSg (by kernel_rfl) ?_ | exact dTg (by kernel_rfl) | exact dTg2 (by kernel_rfl) | refine qVv ?_ | refine qVo ?_ | exact dHdr (by kernel_rfl) | exact dDct (by kernel_rfl) | refine qFl ?_ | refine qFc ?_ | refine qSp (fun zz zz zz => rfl) (by kernel_rfl) ?_ ?_ | exact qUn | refine dUc (by kernel_rfl) ?_ ?_ | exact NmT.nil | refine NmT.cons ?_)
theorem mg_at {h : Heap} {a : Addr} {m : Str → Option Value} {o : Obj} {es : Array DictEntry} {ep : Nat} (N : h.Ns a m) (ho : h.get? a = some o) (hd : o.data = .dict es ep) (n : Str) : m n = nsFind es n := by
  obtain ⟨o', es', ep', e, d, _, f⟩ := N
  rw [ho] at e; cases e
  rw [hd] at d; cases d
  exact (f n).symm
theorem base_of {p : Program} {loose : List Str} {mean : ExcName → Option Value} {mg mb : Str → Option Value} {h : Heap} (T : Top p loose mean mg mb h) {o : Obj} {es : Array DictEntry} {ep : Nat} (ho : h.get? mainGlobals = some o) (hd : o.data = .dict es ep)
    (hn : ((["len", "chr", "abs", "int", "list", "sorted", "sum", "max", "isinstance", "bool", "divmod", "set", "range", "zip"] : List Str).all fun x => (nsFind es x).isNone) = true) : Base h mg mb where
  g := T.g
  b := T.b
  nolimit := T.nolimit
  boot := T.builtins
  no x hx := by
    rw [mg_at T.g ho hd]
    exact Option.isNone_iff_eq_none.mp (List.all_eq_true.mp hn x hx)
section
variable {prog : Program} {w : World} {h₁ : Heap} {mg mb : Str → Option Value}
noncomputable abbrev P0 (prog : Program) (w : World) (h₁ : Heap) (mg mb : Str → Option Value) (r : Nat) : Pg := ⟨prog, w, h₁, mg, mb, noF, r⟩
theorem mk_hw {g : Pg} {K : Frag} {c f1 f2 : Addr} (cls : g.mg "Headers" = some (.ref c)) (C : HCl K g.h₁ c) (hk : keepIn K (.ref c) = true) (m1 : HMeth K g c "add_header" f1) (s1 : MutOk { g with r := 3 } c f1 (fun zz zz zz => .none) hAdd) (m2 : HMeth K g c "get_all" f2) (s2 : AllOk { g with r := 3 } c f2) (mk : MakeOk { g with r := 3 } c) (hr : 4 ≤ g.r) : Hw g c where
  cls := cls
  K := ⟨K, C, hk, ⟨f1, m1, fun A ow s x d l va vb a b hs hR S => s1 A ow s x d l va vb a b hs (hR.le (Nat.le_trans (show 3 ≤ 4 by decide) hr)) ⟨S.top, S.old, S.live⟩⟩, f2, m2, fun A ow s x d l va t hs hR S => s2 A ow s x d l va t hs (hR.le (Nat.le_trans (show 3 ≤ 4 by decide) hr)) ⟨S.top, S.old, S.live⟩⟩
  made A s hR := mk A s (hR.le (Nat.le_trans (show 3 ≤ 4 by decide) hr))
theorem FnAt.more {g : Pg} {name : Str} {fa : Addr} {o : Obj} {fd : FuncData} {body : List Stmt} {ps : List Str} {k : KC} (D : FnAt g name fa o fd body ps k) (F : FT) (r : Nat) : FnAt { g with F := F, r := r } name fa o fd body ps k := ⟨D.gl, D.ob, D.dat, D.code, D.body, D.clo, D.glob, D.blt, D.sc, D.bind, D.nd⟩
section
variable {K : Frag} {h : Heap} {c : Addr}
theorem mkSt (_ : K.In h) (a : PySem.W.findIn K (.ref c) "__setattr__" = some (some (.builtin "object.__setattr__"))) (b : plainOver K c = true) (d : takerIn K c "_headers" = some none) (e : (clsIn K c).any (·.hasDict) = true) : HSt K c := ⟨a, b, d, e⟩
theorem mkHM {g : Pg} {m : Str} {f : Addr} (_ : K.In h) (a : PySem.W.findIn K (.ref c) m = some (some (.ref f))) (b : typeIn K (.ref f) = some (.type "function")) (s : ∀ hh t ep l, shadowIn (some (hdDict hh t ep l)) m = some false) (o : ∃ o fd, g.h₁.get? f = some o ∧ o.data = .func fd) : HMeth K g c m f := ⟨a, b, s, o⟩
end
theorem rm_law : Rm 28 callerA := ⟨rfl, by decide, by decide⟩
structure DefAt (g : Pg) (c : Nat) (name : Str) (ps : List Str) (nm : List (Nat × Str)) (SP : SPT) (x : Ss) : Prop where
  ex : ∃ fa o fd body sc, FnAt g name fa o fd body ps (k3 sc nm c) ∧ fnChk (k3 sc nm c) ps = true ∧ SndSs (k3 sc nm c) SP x body
theorem DefAt.mk' {g : Pg} {c : Nat} {name : Str} {ps : List Str} {nm : List (Nat × Str)} {SP : SPT} {x : Ss} {fa : Addr} {o : Obj} {fd : FuncData} {body : List Stmt} {sc : Scope} (D : FnAt g name fa o fd body ps (k3 sc nm c)) (hc : fnChk (k3 sc nm c) ps = true) (h : DSs (k3 sc nm c) SP x body) : DefAt g c name ps nm SP x := ⟨_, _, _, _, _, D, hc, h.1⟩
theorem Glo.def {g : Pg} {c : Nat} {name : Str} {ps : List Str} {nm : List (Nat × Str)} {SP : SPT} {x : Ss} (F : FT) (r n np : Nat) (G : Glo { g with F := F, r := r } gl3 true (some c)) (D : DefAt g c name ps nm SP x) (hn : ps.length = np) : Glo { g with F := fnF F SP name np n x, r := r + 2 } gl3 true (some c) := by
  obtain ⟨fa, o, fd, body, sc, D, hc, h⟩ := D.ex
  subst hn
  exact Glo.add (k := k3 sc nm c) G ⟨rfl, rfl, rfl, rfl⟩ (D.more F r) hc h
theorem of4 {P : List Value → Prop} (h : ∀ v u y z, P [v, u, y, z]) (vs : List Value) (hl : vs.length = 4) : P vs := by
  obtain ⟨a, b, c, d, rfl⟩ := four_of hl
  exact h a b c d
theorem law2_run {g : Pg} (B : Base g.h₁ g.mg g.mb) (H : Hw { g with F := noF, r := 6 } 182) (hgf : GiFn { g with F := noF, r := 6 })
    (hE : ∃ t, g.mg "ELLIPSIS_MARKER" = some (.str ⟨#[46, 46, 46]⟩ t)) (hC : ∃ t, g.mg "CHAR_MAX" = some (.int 127 t))
    (D1 : DefAt g 182 "_strcoll" p_strcoll n_strcoll noSP x_strcoll)
    (D2 : DefAt g 182 "_ellipsis_match" p_ell n_ell noSP x_ell)
    (D3 : DefAt g 182 "Int2AP" p_int2ap n_int2ap noSP x_int2ap)
    (D4 : DefAt g 182 "_law_heaps" p_heaps2 n_heaps2 noSP x_heaps2)
    (D5 : DefAt g 182 "_law_picked" p_picked n_picked noSP x_picked)
    (D6 : DefAt g 182 "_law_cut" p_cut n_cut noSP x_cut)
    (D7 : DefAt g 182 "_law_next" p_next n_next noSP x_next)
    (D8 : DefAt g 182 "_law_orders" p_orders n_orders noSP x_orders)
    (D9 : DefAt g 182 "_law_riffled" p_riffled n_riffled noSP x_riffled)
    (D10 : DefAt g 182 "_law_dealt" p_dealt n_dealt (spTab 182 spD) x_dealt)
    {f0 : Addr} {o : Obj} {fd : FuncData} {body : List Stmt} {sc : Scope} (D0 : FnAt g "law" f0 o fd body p_law2 (k3 sc n_law2 182)) (hc : fnChk (k3 sc n_law2 182) p_law2 = true) (hS : DSs (k3 sc n_law2 182) noSP x_law2 body)
    {f1 : Addr} (h1 : g.mg "law" = some (.ref f1)) {A : Around} {s : Shared} {ns : List Int} {v : Value} (hR : Rm 28 A) (S : St g ow0 s) (hv : RV (vis s.heap ow0) (.list (ns.map .int)) v) (hn : ns.length ≤ 63) : WP g.prog g.w A (call (.ref f1) [v]) (PE s ow0 (.bool true)) s := by
  cases D0.gl.symm.trans h1
  have G0 : Glo { g with F := noF, r := 6 } gl3 true (some 182) := {
    B := B
    gl := fun x p hx => by
      rcases List.mem_cons.mp hx with e | hx
      · cases e
        obtain ⟨t, h⟩ := hE
        have ok : okS [46, 46, 46] := ⟨rfl, Nat.le_of_ble_eq_true rfl⟩
        exact ⟨_, h, ⟨t, rfl⟩, ok⟩
      · cases List.mem_singleton.mp hx
        obtain ⟨t, h⟩ := hC
        exact ⟨_, h, t, rfl⟩
    fn := fun zz zz zz h => nomatch h
    gi := fun zz => hgf
    hw := fun cl h => by cases h; exact H }
  have G1 : Glo { g with F := FA, r := 8 } gl3 true (some 182) := Glo.def noF 6 2 2 G0 D1 rfl
  have G2 : Glo { g with F := FB, r := 10 } gl3 true (some 182) := Glo.def FA 8 6 2 G1 D2 rfl
  have G3 : Glo { g with F := FC, r := 12 } gl3 true (some 182) := Glo.def FB 10 4 1 G2 D3 rfl
  have G4 : Glo { g with F := FD, r := 14 } gl3 true (some 182) := Glo.def FC 12 z_heaps2 1 G3 D4 rfl
  have G5 : Glo { g with F := FE, r := 16 } gl3 true (some 182) := Glo.def FD 14 z_picked 2 G4 D5 rfl
  have G6 : Glo { g with F := FG, r := 18 } gl3 true (some 182) := Glo.def FE 16 6 2 G5 D6 rfl
  have G7 : Glo { g with F := FH, r := 20 } gl3 true (some 182) := Glo.def FG 18 6 1 G6 D7 rfl
  have G8 : Glo { g with F := FI, r := 22 } gl3 true (some 182) := Glo.def FH 20 6 1 G7 D8 rfl
  have G9 : Glo { g with F := FJ, r := 24 } gl3 true (some 182) := Glo.def FI 22 6 2 G8 D9 rfl
  have G10 : Glo { g with F := FK, r := 26 } gl3 true (some 182) := Glo.def FJ 24 36 4 G9 D10 rfl
  have Fs := fnChk_ok hc
  refine call_sound (g := { g with F := FK, r := 26 }) (k := k3 sc n_law2 182) (SP := noSP) (n := 36) (args := [.list (ns.map .int)]) (out := .ret (.bool true)) (fun L hL hR' O => ?_) (D0.more FK 26) Fs hS.1 rfl hR ⟨S.top, S.old, S.live⟩ ⟨v, [], rfl, hv, rfl⟩ (ev_law2 hn) B.nolimit
  exact ⟨⟨B, hR', O, Fs.N⟩, G10.gl, G10.fn, G10.gi, G10.hw, fun h => nomatch h⟩
end
end Mine

open PySem PySem.W PyProof.Rows PySem.W.X PySem.W.ZRun
theorem Mine.well_obj {P : Params} {h : Heap} {a : Addr} {d : List WData} {its : Array Value} (x : WellAll P h [.ref a] [.list d]) (hL : h.IsList a its) : h.get? a = some { cls := .type "list", data := .seq its } := by
  obtain ⟨o, e, hc, n, hd⟩ := hL
  cases (wellAll_head x).1 with
  | list g _ => cases e.symm.trans g; cases hd; exact g
set_option maxRecDepth 100000 in
set_option maxHeartbeats 0 in
theorem PySem.Challenge.cw_wr0040_02_holds : PySem.Challenge.rw_wr0040_02.Holds := by
  refine Mine.hd ?_
  k_fill
  intro w s₀ s₁ mg mb G Y fa o pm cd doc dV kV ho hd hcd hD hmg hg args vals as hpre hlay hrd hwl hlo
  have KX := kIn_of Y
  have hwl' := hwl
  refine Ground.open G ?_
  intro T B D TE TW
  wrow_args hpre hlay hrd hwl hlo
  have hio := Mine.rv_script (Mine.well_obj hwl' ‹Heap.IsList _ _ _›) ‹IntsAre _ _› (by omega)
  refine wpAny_mono (Q := fun v s' => Mine.PE s₁ Mine.ow0 (.bool true) v s') (E := fun zz zz => False) ?_ (fun v s' h => Mine.good_true hg h (fun zz => by kernel_rfl) (by kernel_rfl)) fun zz zz h => h.elim
  have hm := Mine.mg_at T.g (KX mainGlobals _ rfl) rfl
  have B : Mine.Base s₁.heap mg mb := Mine.base_of T (KX mainGlobals _ rfl) rfl (by kernel_rfl)
  have W : Mine.Hk _ (Mine.P0 PySem.Challenge.rw_wr0040_02.row.prog w s₁.heap mg mb 6) 182 := ⟨⟨B, rfl, (hm _).trans (by kernel_rfl), (hm _).trans (by kernel_rfl), ⟨_, (hm _).trans rfl, ⟨_, _, _, _, _, _, KX _ _ rfl, _, by kernel_rfl, KX _ _ rfl⟩⟩, ⟨_, (hm _).trans rfl, ⟨_, _, _, _, _, _, KX _ _ rfl, _, by kernel_rfl, KX _ _ rfl⟩⟩⟩, ⟨KX, by kernel_rfl, by kernel_rfl, by intro hh t ep l; kernel_rfl⟩⟩
  have S : Mine.HSt _ 182 := Mine.mkSt KX (by kernel_rfl) (by kernel_rfl) (by kernel_rfl) (by kernel_rfl)
  have M5 : Mine.HMeth _ (Mine.P0 PySem.Challenge.rw_wr0040_02.row.prog w s₁.heap mg mb 6) 182 "__init__" 76 := Mine.mkHM KX (by kernel_rfl) (by kernel_rfl) (by intro hh t ep l; kernel_rfl) ⟨_, _, KX 76 _ rfl, rfl⟩
  have M6 : Mine.HMeth _ (Mine.P0 PySem.Challenge.rw_wr0040_02.row.prog w s₁.heap mg mb 6) 182 "_convert_string_type" 83 := Mine.mkHM KX (by kernel_rfl) (by kernel_rfl) (by intro hh t ep l; kernel_rfl) ⟨_, _, KX 83 _ rfl, rfl⟩
  have M8 : Mine.HMeth _ (Mine.P0 PySem.Challenge.rw_wr0040_02.row.prog w s₁.heap mg mb 6) 182 "add_header" 179 := Mine.mkHM KX (by kernel_rfl) (by kernel_rfl) (by intro hh t ep l; kernel_rfl) ⟨_, _, KX 179 _ rfl, rfl⟩
  have M9 : Mine.HMeth _ (Mine.P0 PySem.Challenge.rw_wr0040_02.row.prog w s₁.heap mg mb 6) 182 "get_all" 121 := Mine.mkHM KX (by kernel_rfl) (by kernel_rfl) (by intro hh t ep l; kernel_rfl) ⟨_, _, KX 121 _ rfl, rfl⟩
  have g1 := Mine.conv_call W.toHTop ⟨⟨_, KX 83 _ rfl, rfl⟩, ⟨_, _, _, _, rfl, KX _ _ rfl, rfl, rfl⟩, rfl, rfl, rfl, rfl, rfl, rfl, rfl, rfl, by decide⟩ (by kernel_rfl) (by kernel_rfl) (by intro x v b; kernel_rfl)
  have g2 := Mine.add_call (f := 179) W M6 g1 ⟨⟨_, KX 179 _ rfl, rfl⟩, ⟨_, _, _, _, rfl, KX _ _ rfl, rfl, rfl⟩, rfl, rfl, rfl, rfl, rfl, rfl, rfl, rfl, by decide⟩ (by kernel_rfl) (by kernel_rfl) (by kernel_rfl) (by kernel_rfl) (by kernel_rfl) (by kernel_rfl) (by kernel_rfl) (by decide) (by intro x v u; kernel_rfl)
  have g3 := Mine.getall_call (f := 121) W M6 g1 ⟨rfl, KX 121 _ rfl, rfl, ⟨_, _, _, _, rfl, KX _ _ rfl, rfl, rfl⟩, rfl, rfl, rfl, rfl, rfl, Mine.of2 fun v u => by kernel_rfl, by decide⟩ (by kernel_rfl) (by kernel_rfl) (by decide) (by kernel_rfl) (by kernel_rfl) (by kernel_rfl)
  have g5 := Mine.init_code W S ⟨⟨_, KX 76 _ rfl, rfl⟩, ⟨_, _, _, _, rfl, KX _ _ rfl, rfl, rfl⟩, rfl, rfl, rfl, rfl, rfl, rfl, rfl, rfl, by decide⟩ (by kernel_rfl) (fun s x hT => binds_K (KX.keeps hT) rfl rfl rfl rfl (by kernel_rfl))
  have g6 := Mine.make_hdr W.C (by kernel_rfl) M5 g5
  have H := Mine.mk_hw (g := (Mine.P0 PySem.Challenge.rw_wr0040_02.row.prog w s₁.heap mg mb 6)) ((hm _).trans rfl) W.C (by kernel_rfl) M8 g2 M9 g3 g6 (show 4 ≤ 6 by decide)
  have hgi : Mine.GiFn (Mine.P0 PySem.Challenge.rw_wr0040_02.row.prog w s₁.heap mg mb 6) := ⟨_, _, _, (hm _).trans rfl, KX 214 _ rfl, rfl, Mine.gi_ok B ⟨⟨_, KX 214 _ rfl, rfl⟩, ⟨_, _, _, _, rfl, KX _ _ rfl, rfl, rfl⟩, ⟨_, _, _, _, _, _, _, _, _, Mine.gi_shape⟩, rfl, rfl, rfl, rfl, rfl, rfl, rfl, by decide, by kernel_rfl, (by intro v; kernel_rfl), ⟨_, (hm _).trans rfl⟩⟩⟩
  refine Mine.law2_run (g := (Mine.P0 PySem.Challenge.rw_wr0040_02.row.prog w s₁.heap mg mb 6)) B H hgi ⟨_, (hm _).trans rfl⟩ ⟨_, (hm _).trans rfl⟩ ?_ ?_ ?_ ?_ ?_ ?_ ?_ ?_ ?_ ?_ ⟨(hm _).trans rfl, KX 266 _ rfl, rfl, ⟨_, _, _, _, rfl, KX _ _ rfl, rfl, rfl⟩, rfl, rfl, rfl, rfl, rfl, Mine.of1 fun v => by kernel_rfl, by decide⟩ (by kernel_rfl) ((Mine.drv.2.2.2.2.2.2.2.2.2.2)) hmg Mine.rm_law ⟨fun b o e => e, fun zz h => absurd rfl h, fun zz h => absurd rfl h⟩ hio (by omega)
  · exact Mine.DefAt.mk' ⟨(hm _).trans rfl, KX _ _ rfl, rfl, ⟨_, _, _, _, rfl, KX _ _ rfl, rfl, rfl⟩, rfl, rfl, rfl, rfl, rfl, Mine.of2 fun v u => by kernel_rfl, by decide⟩ (by kernel_rfl) (Mine.drv.1)
  · exact Mine.DefAt.mk' ⟨(hm _).trans rfl, KX _ _ rfl, rfl, ⟨_, _, _, _, rfl, KX _ _ rfl, rfl, rfl⟩, rfl, rfl, rfl, rfl, rfl, Mine.of2 fun v u => by kernel_rfl, by decide⟩ (by kernel_rfl) (Mine.drv.2.1)
  · exact Mine.DefAt.mk' ⟨(hm _).trans rfl, KX _ _ rfl, rfl, ⟨_, _, _, _, rfl, KX _ _ rfl, rfl, rfl⟩, rfl, rfl, rfl, rfl, rfl, Mine.of1 fun v => by kernel_rfl, by decide⟩ (by kernel_rfl) (Mine.drv.2.2.1)
  · exact Mine.DefAt.mk' ⟨(hm _).trans rfl, KX _ _ rfl, rfl, ⟨_, _, _, _, rfl, KX _ _ rfl, rfl, rfl⟩, rfl, rfl, rfl, rfl, rfl, Mine.of1 fun v => by kernel_rfl, by decide⟩ (by kernel_rfl) (Mine.drv.2.2.2.1)
  · exact Mine.DefAt.mk' ⟨(hm _).trans rfl, KX _ _ rfl, rfl, ⟨_, _, _, _, rfl, KX _ _ rfl, rfl, rfl⟩, rfl, rfl, rfl, rfl, rfl, Mine.of2 fun v u => by kernel_rfl, by decide⟩ (by kernel_rfl) (Mine.drv.2.2.2.2.1)
  · exact Mine.DefAt.mk' ⟨(hm _).trans rfl, KX _ _ rfl, rfl, ⟨_, _, _, _, rfl, KX _ _ rfl, rfl, rfl⟩, rfl, rfl, rfl, rfl, rfl, Mine.of2 fun v u => by kernel_rfl, by decide⟩ (by kernel_rfl) (Mine.drv.2.2.2.2.2.1)
  · exact Mine.DefAt.mk' ⟨(hm _).trans rfl, KX _ _ rfl, rfl, ⟨_, _, _, _, rfl, KX _ _ rfl, rfl, rfl⟩, rfl, rfl, rfl, rfl, rfl, Mine.of1 fun v => by kernel_rfl, by decide⟩ (by kernel_rfl) (Mine.drv.2.2.2.2.2.2.1)
  · exact Mine.DefAt.mk' ⟨(hm _).trans rfl, KX _ _ rfl, rfl, ⟨_, _, _, _, rfl, KX _ _ rfl, rfl, rfl⟩, rfl, rfl, rfl, rfl, rfl, Mine.of1 fun v => by kernel_rfl, by decide⟩ (by kernel_rfl) (Mine.drv.2.2.2.2.2.2.2.1)
  · exact Mine.DefAt.mk' ⟨(hm _).trans rfl, KX _ _ rfl, rfl, ⟨_, _, _, _, rfl, KX _ _ rfl, rfl, rfl⟩, rfl, rfl, rfl, rfl, rfl, Mine.of2 fun v u => by kernel_rfl, by decide⟩ (by kernel_rfl) (Mine.drv.2.2.2.2.2.2.2.2.1)
  · exact Mine.DefAt.mk' ⟨(hm _).trans rfl, KX _ _ rfl, rfl, ⟨_, _, _, _, rfl, KX _ _ rfl, rfl, rfl⟩, rfl, rfl, rfl, rfl, rfl, Mine.of4 fun v u y z => by kernel_rfl, by decide⟩ (by kernel_rfl) (Mine.drv.2.2.2.2.2.2.2.2.2.1)

