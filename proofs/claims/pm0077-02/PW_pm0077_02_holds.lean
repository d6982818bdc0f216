import PyProof.Rows.All
import PySem.Builtin.Re_Pattern.W2All
import PyProof.TableTree
import PyProof.FactsTree
import PyProof.EqAt
import KE.KItem
import KE.KLcPair
import Wide.FinOn
import OpenK.AllK
import Wide.All
import PySem.Challenge.RW_pm0077_02
set_option Elab.async false
set_option compiler.extract_closed false
section
open PySem PySem.W PyProof.Rows
set_option Elab.async false
set_option maxRecDepth 100000
set_option maxHeartbeats 8000000
namespace Lw
noncomputable def keptAt : List Nat → Nat → List Stmt → List Stmt
  | _, _, [] => []
  | ks, i, s :: r => bif ks.contains i then s :: keptAt ks (i + 1) r else keptAt ks (i + 1) r
noncomputable def view : Program := { PySem.Challenge.rw_pm0077_02.row.prog with main := { PySem.Challenge.rw_pm0077_02.row.prog.main with body := keptAt [0, 1, 3, 5, 6, 8, 9, 10, 12, 13, 14, 15, 16, 17, 18] 0 PySem.Challenge.rw_pm0077_02.row.prog.main.body } }
/-- what the top leaves, where the world's one row is told -/
noncomputable def Part (p q : Program) (loose : List Str) (Xt : Shared → Bool) {α : Type} (Yf : Shared → α) (Ya : World → α) (N : Nat) (row : String) (b : Bool) : Prop :=
  ∀ w : World, (openEnds treeTable p (w.withFollow row b) N).map (fun s => (openSeen q loose (importedModules p.main.body) Xt true s, Yf s)) = some (openGood q loose, Ya (w.withFollow row b))
theorem holdsParts {r : OpenRow} {q : Program} {loose : List Str} {Xt : Shared → Bool} {XP : (Str → Option Value) → Heap → Prop} {α : Type} {Yf : Shared → α} {Ya : World → α} {YP : World → Heap → Prop} {d : DefRec} {kwd : List (Str × Expr)} {N : Nat} (row : String)
    (hY : ∀ w s, Yf s = Ya w → YP w s.heap) (hYk : ∀ w h h', YP w h → (∀ b o, h.get? b = some o → h'.get? b = some o) → YP w h')
    (hX : ∀ s, Xt s = true → XP (s.heap.nsMap mainGlobals) s.heap) (hXk : ∀ mg h h', XP mg h → (∀ b o, h.get? b = some o → h'.get? b = some o) → XP mg h')
    (hdef : defOf q r.name = some (d, kwd)) (hp : r.prog.theDef r.name = some (d.params, d.body, d.scope)) (hk : kwWritten? d.params.kwonlyargs d.params.kw_defaults = some kwd) (hRf : ∀ s, Xt s = true → RecFacts r.records s.heap) (hwr : (!r.writes || r.records.isEmpty) = true)
    (k1 : r.wellSaid = true) (ok : (chainsOk q && opensWell r.prog && (frees r.toRowW && r.within.isEmpty)) = true) (hb : r.prog.bare) (hw : r.toRowW.promised)
    (h : Part r.prog q loose Xt Yf Ya N row false ∧ Part r.prog q loose Xt Yf Ya N row true ∧ WalkO q loose XP YP r.toRowW d kwd fun f vs => PySem.call f vs) : r.Holds :=
  holds_open (fun w => byRow2 row (P := fun w => (openEnds treeTable r.prog w N).map (fun s => (openSeen q loose (importedModules r.prog.main.body) Xt true s, Yf s)) = some (openGood q loose, Ya w)) h.1 h.2.1 w) hY hYk hX hXk hdef hp hk hRf hwr k1 ok hb hw h.2.2
end Lw
local macro_rules
  | `(tactic| o_law) => `(tactic| refine PySem.W.holds_law (by kernel_rfl) fun said => ?_)
set_option hygiene false in
local macro_rules
  | `(tactic| o_head $H:term) => `(tactic|
      refine Lw.holdsParts (q := Lw.view) (loose := [PySem.Str.ofString "Whitespace", PySem.Str.ofString "_name_disallowed_re", PySem.Str.ofString "_value_disallowed_re"]) (Xt := fun s => xlAt Lw.view [] s && recOk (RowW.records (OpenRow.toRowW PySem.Challenge.rw_pm0077_02.row)) s) (XP := XL Lw.view []) (Yf := Hook.obs $H) (Ya := Hook.val $H) (YP := Hook.says $H) (N := 3526) "special-get-raises" (Hook.of $H) (Hook.keeps $H) (fun s e => xl_of s (Bool.and_eq_true_iff.mp e).1) XL.keeps (by rfl) (by rfl) (by rfl) (fun s e => recFacts_of (Bool.and_eq_true_iff.mp e).2) (by rfl) (by first | assumption | decide +kernel) (by decide +kernel) ⟨rfl, rfl, rfl, rfl, rfl, by decide +kernel⟩ ?hw ?hc)
open_top hd_02 for PySem.Challenge.rw_pm0077_02
namespace Lw
noncomputable def addrs : List Addr := [2, 3, 32, 34, 35, 37, 38, 49, 51, 52, 54, 55, 56, 58, 59, 61, 62, 63, 65, 66, 68, 69, 70, 72, 73, 75, 76, 77, 79, 80, 82, 83, 84, 86, 87, 89, 90, 91, 93, 94, 96, 97, 98, 99, 100, 101, 102, 105, 107, 108, 110, 111, 112, 114, 115, 117, 118, 122, 123, 127, 128, 136, 137, 139, 140, 142, 143, 144, 146, 147, 149, 150, 151, 153, 154, 156, 157, 158, 160, 161, 163, 164, 165, 168, 169, 170, 172, 173, 175, 176, 177, 179, 180, 182, 183, 184, 186, 187, 189, 190, 191, 192, 194, 195, 197, 198, 199, 202, 203, 204, 207, 208, 209, 211, 212, 214, 215, 216, 218, 219, 221, 222, 223, 226, 227, 228, 230, 231, 233, 234, 235, 237, 238, 240, 241, 242, 244, 245, 247, 248, 249, 250, 251, 252, 253, 256, 258, 259, 261, 262, 263, 266, 267, 268, 271, 272, 273, 276, 277, 278, 281, 282, 283, 285, 286, 288, 289, 290, 293, 294]
theorem partF : Part PySem.Challenge.rw_pm0077_02.row.prog view [Str.ofString "Whitespace", Str.ofString "_name_disallowed_re", Str.ofString "_value_disallowed_re"] (fun s => xlAt view [] s && recOk (RowW.records (OpenRow.toRowW PySem.Challenge.rw_pm0077_02.row)) s) (fun s => addrs.map s.heap.get?) (fun w => (hd_02.heap_1 w.params).map fun p => some p.2) 3526 "special-get-raises" false := fun w => by
  unfold openEnds fencedOpening topFrom
  rw [Fast.te14364793385576792824, Fast.te10274390034422433532, Fast.te14082659384304107361, Fast.te14289696077712309145, Fast.te1435165496053646825, Fast.te4187177175401517315, Fast.te5923862056798008813, Fast.te8920871248978507458]
  kernel_rfl
theorem partT : Part PySem.Challenge.rw_pm0077_02.row.prog view [Str.ofString "Whitespace", Str.ofString "_name_disallowed_re", Str.ofString "_value_disallowed_re"] (fun s => xlAt view [] s && recOk (RowW.records (OpenRow.toRowW PySem.Challenge.rw_pm0077_02.row)) s) (fun s => addrs.map s.heap.get?) (fun w => (hd_02.heap_1 w.params).map fun p => some p.2) 3526 "special-get-raises" true := fun w => by
  unfold openEnds fencedOpening topFrom
  rw [Fast.te14364793385576792824, Fast.te10274390034422433532, Fast.te14082659384304107361, Fast.te14289696077712309145, Fast.te1435165496053646825, Fast.te4187177175401517315, Fast.te5923862056798008813, Fast.te8920871248978507458]
  kernel_rfl
end Lw
end
section
set_option autoImplicit false
set_option linter.unusedVariables false
set_option Elab.async false
namespace Lw
open PySem PySem.Calls PyProof.Rows PySem.W

/-- data: what a value stands for; `v` is a value taken as it is -/
inductive D where
  | v (x : Value)
  | none
  | bool (b : Bool)
  | int (i : Int)
  | flt (x : UInt64)
  | str (s : Str)
  | tup (ds : List D)
  | lst (ds : List D)
  | inst (C : Addr) (fs : List (Str × D))
  | rng (a b c : Int)
  | slc (lo hi st : Option Int)

noncomputable abbrev tupObj (vs : Array Value) (n : Nat) : Obj := { cls := .type "tuple", data := .seq vs n }
noncomputable abbrev dctObj (es : Array DictEntry) (n : Nat) : Obj := { cls := .type "dict", data := .dict es n }
noncomputable abbrev lstObj (vs : Array Value) (n : Nat) : Obj := { cls := .type "list", data := .seq vs n }

mutual
inductive In (g : Heap) : Value → D → Prop
  | v (x : Value) : In g x (.v x)
  | none : In g .none .none
  | bool (b : Bool) : In g (.bool b) (.bool b)
  | int (i : Int) (t : Tok) : In g (.int i t) (.int i)
  | flt (x : UInt64) (t : Tok) : In g (.float x t) (.flt x)
  | str (s : Str) (t : Tok) : In g (.str s t) (.str s)
  | tup {a : Addr} {vs : Array Value} {n : Nat} {ds : List D} : g.get? a = some (tupObj vs n) → InL g vs.toList ds → In g (.ref a) (.tup ds)
  | lst {a : Addr} {vs : Array Value} {n : Nat} {ds : List D} : g.get? a = some (lstObj vs n) → InL g vs.toList ds → In g (.ref a) (.lst ds)
  | inst {a C dx : Addr} {es : Array DictEntry} {n : Nat} {fs : List (Str × D)} : g.get? a = some (instObj C dx) → g.get? dx = some (dctObj es n) → InE g es.toList fs → In g (.ref a) (.inst C fs)
  | rng {r : Addr} {a b c : Int} {t u v : Tok} : g.get? r = some { cls := .type "range", dict := none, data := .fields #[.int a t, .int b u, .int c v], slots := #[] } → In g (.ref r) (.rng a b c)
  | slc {r : Addr} (l u st : Option (Int × Tok)) : g.get? r = some { cls := .type "slice", data := .fields #[partValue l, partValue u, partValue st] } → In g (.ref r) (.slc (l.map (·.1)) (u.map (·.1)) (st.map (·.1)))
inductive InL (g : Heap) : List Value → List D → Prop
  | nil : InL g [] []
  | cons {v : Value} {vs : List Value} {d : D} {ds : List D} : In g v d → InL g vs ds → InL g (v :: vs) (d :: ds)
inductive InE (g : Heap) : List DictEntry → List (Str × D) → Prop
  | nil : InE g [] []
  | cons {e : DictEntry} {es : List DictEntry} {x : Str} {t : Tok} {d : D} {fs : List (Str × D)} : e.key = .str x t → In g e.val d → InE g es fs → InE g (e :: es) ((x, d) :: fs)
end

noncomputable def Sub (g h : Heap) : Prop := ∀ b o, g.get? b = some o → h.get? b = some o
theorem Sub.refl (g : Heap) : Sub g g := fun _ _ e => e
theorem Sub.trans {g h k : Heap} (a : Sub g h) (b : Sub h k) : Sub g k := fun x o e => b x o (a x o e)

mutual
theorem In.up {g g' : Heap} (k : Sub g g') : ∀ {v : Value} {d : D}, In g v d → In g' v d
  | _, _, .v x => .v x
  | _, _, .none => .none
  | _, _, .bool b => .bool b
  | _, _, .int i t => .int i t
  | _, _, .flt x t => .flt x t
  | _, _, .str x t => .str x t
  | _, _, .tup e r => .tup (k _ _ e) (InL.up k r)
  | _, _, .lst e r => .lst (k _ _ e) (InL.up k r)
  | _, _, .inst e n r => .inst (k _ _ e) (k _ _ n) (InE.up k r)
  | _, _, .rng e => .rng (k _ _ e)
  | _, _, .slc a b c e => .slc a b c (k _ _ e)
theorem InL.up {g g' : Heap} (k : Sub g g') : ∀ {vs : List Value} {ds : List D}, InL g vs ds → InL g' vs ds
  | _, _, .nil => .nil
  | _, _, .cons a r => .cons (In.up k a) (InL.up k r)
theorem InE.up {g g' : Heap} (k : Sub g g') : ∀ {es : List DictEntry} {fs : List (Str × D)}, InE g es fs → InE g' es fs
  | _, _, .nil => .nil
  | _, _, .cons e a r => .cons e (In.up k a) (InE.up k r)
end

theorem InL.length {g : Heap} : ∀ {vs : List Value} {ds : List D}, InL g vs ds → vs.length = ds.length
  | _, _, .nil => rfl
  | _, _, .cons _ r => by rw [List.length_cons, List.length_cons, InL.length r]
theorem InL.append {g : Heap} : ∀ {vs ws : List Value} {ds es : List D}, InL g vs ds → InL g ws es → InL g (vs ++ ws) (ds ++ es)
  | _, _, _, _, .nil, r => r
  | _, _, _, _, .cons a r, q => .cons a (InL.append r q)
theorem InL.get {g : Heap} : ∀ {vs : List Value} {ds : List D}, InL g vs ds → ∀ {i : Nat} {d : D}, ds[i]? = some d → ∃ v, vs[i]? = some v ∧ In g v d
  | _, _, .nil, i, d, e => by simp at e
  | _, _, .cons a r, 0, d, e => by simp at e; subst e; exact ⟨_, rfl, a⟩
  | _, _, .cons a r, i + 1, d, e => by
    obtain ⟨v, h1, h2⟩ := InL.get r (i := i) (d := d) (by simpa using e)
    exact ⟨v, by simpa using h1, h2⟩
/-- a field's data -/
inductive FAt : List (Str × D) → Str → D → Prop
  | here {x : Str} {d : D} {r : List (Str × D)} : FAt ((x, d) :: r) x d
  | there {x y : Str} {d e : D} {r : List (Str × D)} : (y == x) = false → FAt r x d → FAt ((y, e) :: r) x d
noncomputable def FNo (fs : List (Str × D)) (x : Str) : Bool := fs.all fun p => !(p.1 == x)
theorem isStr_str (y x : Str) (t : Tok) : (Value.str y t).isStr x = (y == x) := rfl
theorem InE.get {g : Heap} : ∀ {es : List DictEntry} {fs : List (Str × D)}, InE g es fs → ∀ {x : Str} {d : D}, FAt fs x d → ∃ e, es.find? (·.key.isStr x) = some e ∧ In g e.val d := by
  intro es fs h x d f
  induction f generalizing es with
  | here => cases h with | cons k a r => exact ⟨_, by rw [List.find?_cons, k, isStr_str, beq_self_eq_true], a⟩
  | there n _ ih =>
    cases h with
    | cons k a r =>
      obtain ⟨e, h1, h2⟩ := ih r
      exact ⟨e, by rw [List.find?_cons, k, isStr_str, n]; exact h1, h2⟩
theorem InE.no {g : Heap} : ∀ {es : List DictEntry} {fs : List (Str × D)}, InE g es fs → ∀ {x : Str}, FNo fs x = true → es.find? (·.key.isStr x) = none
  | _, _, .nil, x, _ => rfl
  | _, _, .cons (x := y) k a r, x, h => by
    unfold FNo at h
    rw [List.all_cons, Bool.and_eq_true] at h
    rw [List.find?_cons, k, isStr_str]
    have h1 : (y == x) = false := by simpa using h.1
    rw [h1]
    exact InE.no r h.2
theorem InE.plain {g : Heap} : ∀ {es : List DictEntry} {fs : List (Str × D)}, InE g es fs → es.any (·.refKey) = false
  | _, _, .nil => rfl
  | _, _, .cons k a r => by
    rw [List.any_cons, InE.plain r]
    unfold DictEntry.refKey
    rw [k]; rfl
theorem InE.append {g : Heap} : ∀ {es es' : List DictEntry} {fs fs' : List (Str × D)}, InE g es fs → InE g es' fs' → InE g (es ++ es') (fs ++ fs')
  | _, _, _, _, .nil, r => r
  | _, _, _, _, .cons k a r, q => .cons k a (InE.append r q)
theorem InE.length {g : Heap} : ∀ {es : List DictEntry} {fs : List (Str × D)}, InE g es fs → es.length = fs.length
  | _, _, .nil => rfl
  | _, _, .cons _ _ r => by rw [List.length_cons, List.length_cons, InE.length r]

/-- what a changeable object holds -/
inductive Cont where
  | list (ds : List D)
  | dict (fs : List (Str × D))
  | obj (C dx : Addr)
  | iter (ds : List D)
  | lit (l : Addr) (i : Nat)

noncomputable def rangeFrom (x st : Int) : Nat → List D
  | 0 => []
  | n + 1 => .int x :: rangeFrom (x + st) st n
noncomputable def signs (l : List Nat) : List D := l.map fun c => .str ⟨#[c]⟩
/-- an iterator over what does not change -/
inductive ItOf (g : Heap) : Obj → List D → Prop
  | lst {o : Obj} {l : Addr} {vs : Array Value} {n i : Nat} {ds : List D} : o.cls = .type "list_iterator" → o.data = .fields #[.ref l, .int i 0] → g.get? l = some (lstObj vs n) → InL g (vs.toList.drop i) ds → ItOf g o ds
  | tup {o : Obj} {l : Addr} {vs : Array Value} {n i : Nat} {ds : List D} : o.cls = .type "tuple_iterator" → o.data = .fields #[.ref l, .int i 0] → g.get? l = some (tupObj vs n) → InL g (vs.toList.drop i) ds → ItOf g o ds
  | rng {x st : Int} {n : Nat} : ItOf g { cls := .type "range_iterator", dict := none, data := .fields #[rawInt x, rawInt n, rawInt st], slots := #[] } (rangeFrom x st n)
  | str {o : Obj} {ty : String} {x : Str} {t : Tok} {i : Nat} : (ty = "str_ascii_iterator" ∨ ty = "str_iterator") → o.cls = .type ty → o.data = .fields #[.str x t, .int i 0] → ItOf g o (signs (x.cps.toList.drop i))
theorem ItOf.up {g g' : Heap} (k : Sub g g') {o : Obj} {ds : List D} (h : ItOf g o ds) : ItOf g' o ds := by
  cases h with
  | lst a b c d => exact .lst a b (k _ _ c) (d.up k)
  | tup a b c d => exact .tup a b (k _ _ c) (d.up k)
  | rng => exact .rng
  | str a b c => exact .str a b c

/-- the fixed part of the world: the program, the written part of the heap, the names at the top -/
structure Gam where
  prog : Program
  w : World
  K : Frag
  mg : Str → Option Value
  mb : Str → Option Value
  os : OsState
structure Gam.In (Γ : Gam) (g : Heap) : Prop where
  kin : Γ.K.In g
  ng : g.Ns mainGlobals Γ.mg
  nb : g.Ns builtinsNs Γ.mb
  nl : g.NoLimit
  boot : ∀ x : Str, x ≠ "__name__" → Γ.mb x = bootBuiltins x
theorem Gam.In.up {Γ : Gam} {g g' : Heap} (k : Sub g g') (h : Γ.In g) : Γ.In g' := ⟨fun a o e => k _ _ (h.kin a o e), h.ng.keeps k, h.nb.keeps k, h.nl.keeps k, h.boot⟩
noncomputable abbrev Gam.M (Γ : Gam) : Model := model Γ.prog Γ.w

/-- room for n frames more -/
structure Room (A : Around) (n : Nat) : Prop where
  h : A.handled = none
  d : A.depth + n < 990
  u : A.units + 8 * n + 300 < cLine
theorem Room.less {A : Around} {n k : Nat} (h : Room A n) (q : k ≤ n) : Room A k := ⟨h.h, by have := h.d; omega, by have := h.u; omega⟩

noncomputable abbrev Own := List (Addr × Cont)
noncomputable def Holds (g h : Heap) (a : Addr) : Cont → Prop
  | .list ds => ∃ vs n, h.get? a = some (lstObj vs n) ∧ InL g vs.toList ds
  | .dict fs => ∃ es n, h.get? a = some (dctObj es n) ∧ InE g es.toList fs
  | .obj C dx => h.get? a = some (instObj C dx)
  | .iter ds => ∃ o, h.get? a = some o ∧ ItOf g o ds
  | .lit l i => h.IsListIter a l i

structure Okb (Γ : Gam) (g : Heap) (s : Shared) (O : Own) : Prop where
  keep : Sub g s.heap
  gam : Γ.In g
  own : ∀ p ∈ O, Holds g s.heap p.1 p.2 ∧ g.get? p.1 = none
  nd : (O.map (·.1)).Nodup
  gens : s.gens = #[]
  os : s.os = Γ.os

structure To (g : Heap) (s : Shared) (X : Addr → Prop) (g' : Heap) (s' : Shared) : Prop where
  pres : ∀ b o, s.heap.get? b = some o → ¬ X b → s'.heap.get? b = some o
  up : Sub g g'
  new : ∀ b o, g'.get? b = some o → g.get? b = none → s.heap.get? b = none ∨ X b

theorem To.refl {g : Heap} {s : Shared} {X : Addr → Prop} : To g s X g s := ⟨fun _ _ e _ => e, Sub.refl _, fun b o e q => by rw [q] at e; cases e⟩
theorem To.trans {g g' g'' : Heap} {s s' s'' : Shared} {X Y : Addr → Prop} (a : To g s X g' s') (b : To g' s' Y g'' s'') (h : ∀ b, Y b → X b ∨ s.heap.get? b = none) : To g s X g'' s'' := by
  refine ⟨fun x o e q => ?_, a.up.trans b.up, fun x o e q => ?_⟩
  · refine b.pres x o (a.pres x o e q) fun y => ?_
    rcases h x y with z | z
    · exact q z
    · rw [e] at z; cases z
  · cases r : g'.get? x with
    | none =>
      rcases b.new x o e r with z | z
      · cases w : s.heap.get? x with
        | none => exact .inl rfl
        | some o' =>
          by_cases xx : X x
          · exact .inr xx
          · rw [a.pres x o' w xx] at z; cases z
      · rcases h x z with z | z
        · exact .inr z
        · exact .inl z
    | some o' => exact a.new x o' r q
theorem To.weak {g g' : Heap} {s s' : Shared} {X Y : Addr → Prop} (a : To g s X g' s') (h : ∀ b, X b → Y b ∨ s.heap.get? b = none) : To g s Y g' s' := To.trans (.refl) a h

noncomputable abbrev dom (O : Own) : Addr → Prop := fun b => b ∈ O.map (·.1)
/-- the changeable objects behind: those of before, or new ones -/
noncomputable def Wi (O O' : Own) (h : Heap) : Prop := ∀ b, dom O' b → dom O b ∨ h.get? b = none
theorem Wi.refl {O : Own} {h : Heap} : Wi O O h := fun _ h => .inl h

/-- from the state (g, s, O) to (g', s', O') -/
structure Go (Γ : Gam) (g : Heap) (s : Shared) (O : Own) (g' : Heap) (s' : Shared) (O' : Own) : Prop where
  ok : Okb Γ g' s' O'
  to : To g s (dom O) g' s'
  wi : Wi O O' s.heap
theorem Go.refl {Γ : Gam} {g : Heap} {s : Shared} {O : Own} (h : Okb Γ g s O) : Go Γ g s O g s O := ⟨h, .refl, .refl⟩
theorem wi_trans {O O' O'' : Own} {g g' : Heap} {s s' : Shared} {X : Addr → Prop} (a : Wi O O' s.heap) (t : To g s X g' s') (b : Wi O' O'' s'.heap) (h : ∀ b, X b → dom O b ∨ s.heap.get? b = none ∨ ¬ dom O'' b) : Wi O O'' s.heap := fun x q => by
  rcases b x q with z | z
  · exact a x z
  · cases w : s.heap.get? x with
    | none => exact .inr rfl
    | some o =>
      by_cases xx : X x
      · rcases h x xx with y | y | y
        · exact .inl y
        · rw [w] at y; cases y
        · exact absurd q y
      · rw [t.pres x o w xx] at z; cases z
theorem Go.trans {Γ : Gam} {g g' g'' : Heap} {s s' s'' : Shared} {O O' O'' : Own} (a : Go Γ g s O g' s' O') (b : Go Γ g' s' O' g'' s'' O'') : Go Γ g s O g'' s'' O'' :=
  ⟨b.ok, a.to.trans b.to a.wi, wi_trans a.wi a.to b.wi fun _ h => .inl h⟩
theorem Okb.toks {Γ : Gam} {g : Heap} {s : Shared} {O : Own} (h : Okb Γ g s O) (t : Nat) : Okb Γ g { s with toks := t } O := ⟨h.keep, h.gam, h.own, h.nd, h.gens, h.os⟩
theorem To.toks {g : Heap} {s : Shared} {X : Addr → Prop} (t : Nat) : To g s X g { s with toks := t } := ⟨fun _ _ e _ => e, Sub.refl _, fun b o e q => by rw [q] at e; cases e⟩
theorem Go.toks {Γ : Gam} {g : Heap} {s : Shared} {O : Own} (h : Okb Γ g s O) (t : Nat) : Go Γ g s O g { s with toks := t } O := ⟨h.toks t, .toks t, .refl⟩

/-- a tree of the machine from a state, its end told over data -/
noncomputable def T (Γ : Gam) (A : Around) {α δ : Type} (t : Sem α) (R : Heap → α → δ → Prop) (g : Heap) (s : Shared) (O : Own) (Q : δ → Own → Prop) : Prop :=
  wpAny Γ.M A t (fun v s' => ∃ g' O' d, Go Γ g s O g' s' O' ∧ R g' v d ∧ Q d O') (fun _ _ => False) s

theorem T.mono {Γ : Gam} {A : Around} {α δ : Type} {t : Sem α} {R : Heap → α → δ → Prop} {g : Heap} {s : Shared} {O : Own} {Q Q' : δ → Own → Prop} (h : T Γ A t R g s O Q) (k : ∀ d O', Q d O' → Q' d O') : T Γ A t R g s O Q' :=
  wpAny_mono h (fun _ _ ⟨g', O', d, a, b, c⟩ => ⟨g', O', d, a, b, k _ _ c⟩) fun _ _ e => e

noncomputable abbrev Rho := List (Str × Option D)
/-- what a frame knows of its names: ρ its own dict's, κ its cells' -/
structure Frm (env : Env) (g h : Heap) (O : Own) (ρ κ : Rho) : Prop where
  kind : env.scope.kind = .function
  glob : env.globals = mainGlobals
  bi : env.builtins = builtinsNs
  loc : ∃ m, h.Ns env.locals m ∧ ∀ x d, (x, some d) ∈ ρ → ∃ v, m x = some v ∧ In g v d
  lk : ∀ p ∈ ρ, env.kindOf p.1 = some .local ∧ (p.1 == ("__debug__" : Str)) = false
  nd : (ρ.map (·.1)).Nodup
  gl : g.get? env.locals = none
  lo : ¬ dom O env.locals
  ck : ∀ p ∈ κ, (p.1 == ("__debug__" : Str)) = false ∧ (p.1 == ("__classdict__" : Str)) = false
  cel : ∀ p ∈ κ, (env.kindOf p.1 = some .cell ∨ env.kindOf p.1 = some .free) ∧ ∃ ca, env.cells.lookup p.1 = some ca ∧ g.get? ca = none ∧ ¬ dom O ca ∧ ca ≠ env.locals ∧ ∃ ov, h.IsCell ca ov ∧ ∀ d, p.2 = some d → ∃ v, ov = some v ∧ In g v d
  cnd : (κ.map (·.1)).Nodup
  cin : ∀ p ∈ κ, ∀ q ∈ κ, env.cells.lookup p.1 = env.cells.lookup q.1 → p.1 = q.1

theorem To.none {g g' : Heap} {s s' : Shared} {X : Addr → Prop} (a : To g s X g' s') {b : Addr} {o : Obj} (e : s.heap.get? b = some o) (x : ¬ X b) (n : g.get? b = none) : g'.get? b = none := by
  cases q : g'.get? b with
  | none => rfl
  | some o' =>
    rcases a.new b o' q n with z | z
    · rw [e] at z; cases z
    · exact absurd z x
theorem Wi.off {O O' : Own} {h : Heap} (w : Wi O O' h) {b : Addr} {o : Obj} (x : ¬ dom O b) (e : h.get? b = some o) : ¬ dom O' b := fun y => (w b y).elim x fun z => by rw [e] at z; cases z
theorem Frm.go {Γ : Gam} {env : Env} {g g' : Heap} {s s' : Shared} {O O' : Own} {ρ κ : Rho} (F : Frm env g s.heap O ρ κ) (G : Go Γ g s O g' s' O') : Frm env g' s'.heap O' ρ κ := by
  obtain ⟨m, hm, hr⟩ := F.loc
  obtain ⟨o, es, ep, ho, hd, hk, hf⟩ := hm
  refine ⟨F.kind, F.glob, F.bi, ⟨m, ⟨o, es, ep, G.to.pres _ _ ho F.lo, hd, hk, hf⟩, fun x d hx => ?_⟩, F.lk, F.nd, G.to.none ho F.lo F.gl, G.wi.off F.lo ho, F.ck, fun p hp => ?_, F.cnd, F.cin⟩
  · obtain ⟨v, a, b⟩ := hr x d hx
    exact ⟨v, a, b.up G.to.up⟩
  · obtain ⟨h1, ca, h2, h3, h4, h5, ov, ⟨oc, hoc, hdc⟩, h6⟩ := F.cel p hp
    refine ⟨h1, ca, h2, G.to.none hoc h4 h3, G.wi.off h4 hoc, h5, ov, ⟨oc, G.to.pres _ _ hoc h4, hdc⟩, fun d hd => ?_⟩
    obtain ⟨v, a, b⟩ := h6 d hd
    exact ⟨v, a, b.up G.to.up⟩

/-- an expression of the text, in a frame -/
noncomputable def Ev (Γ : Gam) (A : Around) (env : Env) (ρ κ : Rho) (O : Own) (e : Expr) (Q : D → Own → Prop) : Prop :=
  ∀ g s, Okb Γ g s O → Frm env g s.heap O ρ κ → T Γ A (eval e env) In g s O Q
/-- an operation upon values -/
noncomputable def Op1 (Γ : Gam) (A : Around) (O : Own) (f : Value → Sem Value) (a : D) (Q : D → Own → Prop) : Prop :=
  ∀ g s v, Okb Γ g s O → In g v a → T Γ A (f v) In g s O Q
noncomputable def Op2 (Γ : Gam) (A : Around) (O : Own) (f : Value → Value → Sem Value) (a b : D) (Q : D → Own → Prop) : Prop :=
  ∀ g s v w, Okb Γ g s O → In g v a → In g w b → T Γ A (f v w) In g s O Q
noncomputable def Tr (Γ : Gam) (A : Around) (O : Own) (a : D) (Q : Bool → Own → Prop) : Prop :=
  ∀ g s v, Okb Γ g s O → In g v a → T Γ A (truthy v) (fun _ b c => b = c) g s O Q
/-- a test -/
noncomputable def Te (Γ : Gam) (A : Around) (env : Env) (ρ κ : Rho) (O : Own) (e : Expr) (Q : Bool → Own → Prop) : Prop :=
  ∀ g s, Okb Γ g s O → Frm env g s.heap O ρ κ → T Γ A (isTrue e env (eval e env)) (fun _ b c => b = c) g s O Q

section
variable {Γ : Gam} {A : Around} {env : Env} {ρ κ : Rho} {O : Own}

/-- an end: the value is there, the state is as it was but for the tokens -/
theorem T.val {g : Heap} {s : Shared} {Q : D → Own → Prop} {v : Value} {d : D} (ok : Okb Γ g s O) (t : Nat) (r : In g v d) (q : Q d O) : ∃ g' O' d, Go Γ g s O g' { s with toks := t } O' ∧ In g' v d ∧ Q d O' := ⟨g, O, d, .toks ok t, r, q⟩
theorem T.val0 {g : Heap} {s : Shared} {Q : D → Own → Prop} {v : Value} {d : D} (ok : Okb Γ g s O) (r : In g v d) (q : Q d O) : ∃ g' O' d, Go Γ g s O g' s O' ∧ In g' v d ∧ Q d O' := ⟨g, O, d, .refl ok, r, q⟩

theorem Ev.int {i : Int} {k : Nat} {pos : Pos} {Q : D → Own → Prop} (q : Q (.int i) O) : Ev Γ A env ρ κ O (.Constant (.int i) k pos) Q := fun _ _ ok _ => wpAny_Constant_int (T.val ok _ (.int _ _) q)
theorem Ev.str {x : Str} {k : Nat} {pos : Pos} {Q : D → Own → Prop} (q : Q (.str x) O) : Ev Γ A env ρ κ O (.Constant (.str x) k pos) Q := fun _ _ ok _ => Constant_str (T.val ok _ (.str _ _) q)
theorem Ev.flt {x : UInt64} {k : Nat} {pos : Pos} {Q : D → Own → Prop} (q : Q (.flt x) O) : Ev Γ A env ρ κ O (.Constant (.float x) k pos) Q := fun _ _ ok _ => wpAny_Constant_float (T.val ok _ (.flt _ _) q)
theorem Ev.bool {x : Bool} {k : Nat} {pos : Pos} {Q : D → Own → Prop} (q : Q (.bool x) O) : Ev Γ A env ρ κ O (.Constant (.bool x) k pos) Q := fun _ _ ok _ => wpAny_Constant_bool (T.val0 ok (.bool _) q)
theorem Ev.non {k : Nat} {pos : Pos} {Q : D → Own → Prop} (q : Q .none O) : Ev Γ A env ρ κ O (.Constant .none k pos) Q := fun _ _ ok _ => wpAny_Constant_none (T.val0 ok .none q)

theorem Ev.loc {x : Str} {pos : Pos} {d : D} {Q : D → Own → Prop} (h : (x, some d) ∈ ρ) (q : Q d O) : Ev Γ A env ρ κ O (.Name x pos) Q := fun g s ok F => by
  obtain ⟨m, hm, hr⟩ := F.loc
  obtain ⟨v, a, b⟩ := hr x d h
  exact wpAny_Name (wpAny_loadName_local F.kind (F.lk _ h).1 hm a (T.val0 ok b q)) (F.lk _ h).2
theorem Ev.cel {x : Str} {pos : Pos} {d : D} {Q : D → Own → Prop} (h : (x, some d) ∈ κ) (q : Q d O) : Ev Γ A env ρ κ O (.Name x pos) Q := fun g s ok F => by
  obtain ⟨h1, ca, h2, _, _, _, ov, hc, h6⟩ := F.cel _ h
  obtain ⟨v, rfl, b⟩ := h6 d rfl
  rcases h1 with h1 | h1
  · exact wpAny_Name (wpAny_loadName_cell F.kind h1 h2 hc (T.val0 ok b q)) (F.ck _ h).1
  · exact wpAny_Name (wpAny_loadName_free F.kind h1 h2 hc (T.val0 ok b q) (F.ck _ h).2) (F.ck _ h).1
/-- a name of the top -/
structure Glo (Γ : Gam) (x : Str) (v : Value) : Prop where
  h : nsIn Γ.K mainGlobals x = some (some v)
  d : (x == ("__debug__" : Str)) = false
/-- a name of the built-ins -/
structure Bui (Γ : Gam) (x : Str) (v : Value) : Prop where
  h : nsIn Γ.K mainGlobals x = some none
  b : bootBuiltins x = some v
  n : x ≠ "__name__"
  d : (x == ("__debug__" : Str)) = false
theorem Ev.glo {x : Str} {pos : Pos} {v : Value} {Q : D → Own → Prop} (hv : Glo Γ x v) (q : Q (.v v) O) (hx : env.kindOf x = some .globalImplicit) :
    Ev Γ A env ρ κ O (.Name x pos) Q := fun g s ok F =>
  Name_function_global F.kind hx (loadGlobal_global (by rw [F.glob]; exact ok.gam.ng.keeps ok.keep) (mg_of ok.gam.kin ok.gam.ng hv.h) (T.val0 ok (.v v) q)) hv.d
theorem Ev.bui {x : Str} {pos : Pos} {v : Value} {Q : D → Own → Prop} (hv : Bui Γ x v) (q : Q (.v v) O) (hx : env.kindOf x = some .globalImplicit) :
    Ev Γ A env ρ κ O (.Name x pos) Q := fun g s ok F =>
  Name_function_global F.kind hx (loadGlobal_builtin (by rw [F.glob]; exact ok.gam.ng.keeps ok.keep) (mg_none_of ok.gam.kin ok.gam.ng hv.h) (by rw [F.bi]; exact ok.gam.nb.keeps ok.keep) ((ok.gam.boot x hv.n).trans hv.b) (T.val0 ok (.v v) q)) hv.d

theorem Ev.bin {l r : Expr} {op : Operator} {pos : Pos} {Q : D → Own → Prop} (h : Ev Γ A env ρ κ O l fun a O₁ => Ev Γ A env ρ κ O₁ r fun b O₂ => Op2 Γ A O₂ (binaryOp op) a b Q) : Ev Γ A env ρ κ O (.BinOp l op r pos) Q := fun g s ok F =>
  wpAny_BinOp (wpAny_mono (h g s ok F) (fun v s₁ ⟨g₁, O₁, a, G₁, ia, h₁⟩ => wpAny_mono (h₁ g₁ s₁ G₁.ok (F.go G₁)) (fun w s₂ ⟨g₂, O₂, b, G₂, ib, h₂⟩ =>
    wpAny_mono (h₂ g₂ s₂ v w G₂.ok (ia.up G₂.to.up) ib) (fun u s₃ ⟨g₃, O₃, c, G₃, ic, q⟩ => ⟨g₃, O₃, c, (G₁.trans G₂).trans G₃, ic, q⟩) fun _ _ e => e) fun _ _ e => e) fun _ _ e => e)
theorem Ev.cmp {l r : Expr} {op : CmpOp} {pos : Pos} {Q : D → Own → Prop} (h : Ev Γ A env ρ κ O l fun a O₁ => Ev Γ A env ρ κ O₁ r fun b O₂ => Op2 Γ A O₂ (compareOp op) a b Q) (hm : behindInMarks op r = false := by with_unfolding_all rfl) :
    Ev Γ A env ρ κ O (.Compare l [op] [r] pos) Q := fun g s ok F =>
  wpAny_Compare1 (wpAny_mono (h g s ok F) (fun v s₁ ⟨g₁, O₁, a, G₁, ia, h₁⟩ => wpAny_mono (h₁ g₁ s₁ G₁.ok (F.go G₁)) (fun w s₂ ⟨g₂, O₂, b, G₂, ib, h₂⟩ =>
    wpAny_mono (h₂ g₂ s₂ v w G₂.ok (ia.up G₂.to.up) ib) (fun u s₃ ⟨g₃, O₃, c, G₃, ic, q⟩ => ⟨g₃, O₃, c, (G₁.trans G₂).trans G₃, ic, q⟩) fun _ _ e => e) fun _ _ e => e) fun _ _ e => e) hm
theorem Ev.ife {test body orelse : Expr} {pos : Pos} {Q : D → Own → Prop} (h : Te Γ A env ρ κ O test fun b O₁ => if b then Ev Γ A env ρ κ O₁ body Q else Ev Γ A env ρ κ O₁ orelse Q) : Ev Γ A env ρ κ O (.IfExp test body orelse pos) Q := fun g s ok F =>
  wpAny_IfExp (wpAny_mono (h g s ok F) (fun b s₁ ⟨g₁, O₁, c, G₁, ia, h₁⟩ => by
    subst ia
    cases b <;> exact wpAny_mono (h₁ g₁ s₁ G₁.ok (F.go G₁)) (fun u s₃ ⟨g₃, O₃, c, G₃, ic, q⟩ => ⟨g₃, O₃, c, G₁.trans G₃, ic, q⟩) fun _ _ e => e) fun _ _ e => e)

theorem Te.cmp {l r : Expr} {op : CmpOp} {pos : Pos} {Q : Bool → Own → Prop} (h : Ev Γ A env ρ κ O l fun a O₁ => Ev Γ A env ρ κ O₁ r fun b O₂ => Op2 Γ A O₂ (compareOp op) a b fun c O₃ => Tr Γ A O₃ c Q) (hm : behindInMarks op r = false := by with_unfolding_all rfl) :
    Te Γ A env ρ κ O (.Compare l [op] [r] pos) Q := fun g s ok F =>
  wpAny_isTrue_Compare1 (wpAny_mono (h g s ok F) (fun v s₁ ⟨g₁, O₁, a, G₁, ia, h₁⟩ => wpAny_mono (h₁ g₁ s₁ G₁.ok (F.go G₁)) (fun w s₂ ⟨g₂, O₂, b, G₂, ib, h₂⟩ =>
    wpAny_mono (h₂ g₂ s₂ v w G₂.ok (ia.up G₂.to.up) ib) (fun u s₃ ⟨g₃, O₃, c, G₃, ic, h₃⟩ => wpAny_mono (h₃ g₃ s₃ u G₃.ok ic) (fun b' s₄ ⟨g₄, O₄, c', G₄, e, q⟩ => ⟨g₄, O₄, c', ((G₁.trans G₂).trans G₃).trans G₄, e, q⟩) fun _ _ e => e)
      fun _ _ e => e) fun _ _ e => e) fun _ _ e => e) hm
theorem Tr.bool {b : Bool} {Q : Bool → Own → Prop} (q : Q b O) : Tr Γ A O (.bool b) Q := fun g s v ok i => by
  cases i; exact wpAny_truthy_bool ⟨g, O, b, .refl ok, rfl, q⟩
theorem Tr.non {Q : Bool → Own → Prop} (q : Q false O) : Tr Γ A O .none Q := fun g s v ok i => by
  cases i; exact wpAny_pure ⟨g, O, false, .refl ok, rfl, q⟩
end
end Lw
end
section
set_option autoImplicit false
set_option linter.unusedVariables false
set_option Elab.async false
namespace Lw
open PySem PySem.Calls PyProof.Rows PySem.W

section
variable {Γ : Gam} {A : Around} {O : Own} {Q : D → Own → Prop} {a b : Int} {x y : UInt64} {u w : Str}
theorem Op2.addI (q : Q (.int (a + b)) O) : Op2 Γ A O (binaryOp .Add) (.int a) (.int b) Q := fun g s v w ok i j => by cases i; cases j; exact add_int (T.val ok _ (.int _ _) q)
theorem Op2.subI (q : Q (.int (a - b)) O) : Op2 Γ A O (binaryOp .Sub) (.int a) (.int b) Q := fun g s v w ok i j => by cases i; cases j; exact PyProof.Rows.sub_int (T.val ok _ (.int _ _) q)
theorem Op2.mulI (hm : IntMulOk a b) (q : Q (.int (a * b)) O) : Op2 Γ A O (binaryOp .Mult) (.int a) (.int b) Q := fun g s v w ok i j => by cases i; cases j; exact PyProof.Rows.mul_int (T.val ok _ (.int _ _) q) hm
theorem Op2.fdivI (hb : b ≠ 0) (hs : b.natAbs < 1073741824) (q : Q (.int (a.fdiv b)) O) : Op2 Γ A O (binaryOp .FloorDiv) (.int a) (.int b) Q := fun g s v w ok i j => by cases i; cases j; exact PyProof.Rows.floordiv_int hb (T.val ok _ (.int _ _) q) (.inl (PyProof.noPylong_small hs))
theorem Op2.modI (hb : b ≠ 0) (q : Q (.int (a.fmod b)) O) : Op2 Γ A O (binaryOp .Mod) (.int a) (.int b) Q := fun g s v w ok i j => by cases i; cases j; exact PyProof.Rows.mod_int' hb (T.val ok _ (.int _ _) q)
theorem Op2.shrI (hb : 0 ≤ b) (q : Q (.int (a.fdiv (2 ^ b.toNat))) O) : Op2 Γ A O (binaryOp .RShift) (.int a) (.int b) Q := fun g s v w ok i j => by cases i; cases j; exact PyProof.Rows.rshift_int hb (T.val ok _ (.int _ _) q)
theorem Op2.andI (q : Q (.int (Builtin.bitAnd a b)) O) : Op2 Γ A O (binaryOp .BitAnd) (.int a) (.int b) Q := fun g s v w ok i j => by cases i; cases j; exact PyProof.Rows.and_int (T.val ok _ (.int _ _) q)
theorem Op2.powI (hb : 0 ≤ b) (hs : (Builtin.Int.intBits a : Int) * b ≤ 2 ^ 27) (q : Q (.int (a ^ b.toNat)) O) : Op2 Γ A O (binaryOp .Pow) (.int a) (.int b) Q := fun g s v w ok i j => by cases i; cases j; exact PyProof.Rows.pow_int hb hs (T.val ok _ (.int _ _) q)
theorem Op2.eqI (q : Q (.bool (a == b)) O) : Op2 Γ A O (compareOp .Eq) (.int a) (.int b) Q := fun g s v w ok i j => by cases i; cases j; exact PyProof.Rows.eq_int (T.val0 ok (.bool _) q)
theorem Op2.neI (q : Q (.bool (a != b)) O) : Op2 Γ A O (compareOp .NotEq) (.int a) (.int b) Q := fun g s v w ok i j => by cases i; cases j; exact PyProof.Rows.ne_int (T.val0 ok (.bool _) q)
theorem Op2.leI (q : Q (.bool (decide (a ≤ b))) O) : Op2 Γ A O (compareOp .LtE) (.int a) (.int b) Q := fun g s v w ok i j => by cases i; cases j; exact PyProof.Rows.le_int (T.val0 ok (.bool _) q)
theorem Op2.geI (q : Q (.bool (decide (b ≤ a))) O) : Op2 Γ A O (compareOp .GtE) (.int a) (.int b) Q := fun g s v w ok i j => by cases i; cases j; exact PyProof.Rows.ge_int (T.val0 ok (.bool _) q)

/-- int / int -/
noncomputable def idiv (a b : Int) : UInt64 := Float64.ofFrac (decide (a < 0) != decide (b < 0)) a.natAbs b.natAbs
theorem Op2.divI (hb : (b == 0) = false) (hi : Float64.isInf (idiv a b) = false) (q : Q (.flt (idiv a b)) O) : Op2 Γ A O (binaryOp .Div) (.int a) (.int b) Q := fun g s v w ok i j => by
  cases i; cases j; exact AutoIntOps.truediv_2 (by rw [hb]; decide) (by rw [show Float64.ofFrac _ _ _ = idiv a b from rfl, hi]; decide) (T.val ok _ (.flt _ _) q)
theorem Op2.addF (q : Q (.flt (Float64.add x y)) O) : Op2 Γ A O (binaryOp .Add) (.flt x) (.flt y) Q := fun g s v w ok i j => by cases i; cases j; exact PyProof.Rows.add_float (T.val ok _ (.flt _ _) q)
theorem Op2.subF (q : Q (.flt (Float64.sub x y)) O) : Op2 Γ A O (binaryOp .Sub) (.flt x) (.flt y) Q := fun g s v w ok i j => by cases i; cases j; exact PyProof.Rows.sub_float (T.val ok _ (.flt _ _) q)
theorem Op2.mulF (q : Q (.flt (Float64.mul x y)) O) : Op2 Γ A O (binaryOp .Mult) (.flt x) (.flt y) Q := fun g s v w ok i j => by cases i; cases j; exact PyProof.Rows.mul_float (T.val ok _ (.flt _ _) q)
theorem Op2.divF (hz : Float64.isZero y = false) (q : Q (.flt (Float64.div x y)) O) : Op2 Γ A O (binaryOp .Div) (.flt x) (.flt y) Q := fun g s v w ok i j => by
  cases i; cases j; exact AutoFloatOpsIf.truediv (by rw [if_neg (by rw [hz]; decide)]; exact T.val ok _ (.flt _ _) q)
theorem Op2.modF (hz : Float64.isZero y = false) (q : Q (.flt (Float64.divmod x y).2) O) : Op2 Γ A O (binaryOp .Mod) (.flt x) (.flt y) Q := fun g s v w ok i j => by
  cases i; cases j; exact AutoFloatOpsIf.mod (by rw [if_neg (by rw [hz]; decide)]; exact T.val ok _ (.flt _ _) q)
theorem Op2.eqF (q : Q (.bool (Float64.cmp x y == some .eq)) O) : Op2 Γ A O (compareOp .Eq) (.flt x) (.flt y) Q := fun g s v w ok i j => by cases i; cases j; exact AutoFloatOps.eq_0 (T.val0 ok (.bool _) q)
theorem Op2.subFI (hf : b.natAbs < 2 ^ 1023) (q : Q (.flt (Float64.sub x (Float64.ofInt b))) O) : Op2 Γ A O (binaryOp .Sub) (.flt x) (.int b) Q := fun g s v w ok i j => by cases i; cases j; exact PyProof.Rows.sub_fi_fits hf (T.val ok _ (.flt _ _) q)
theorem Op2.mulFI (hf : b.natAbs < 2 ^ 1023) (q : Q (.flt (Float64.mul x (Float64.ofInt b))) O) : Op2 Γ A O (binaryOp .Mult) (.flt x) (.int b) Q := fun g s v w ok i j => by cases i; cases j; exact PyProof.Rows.mul_fi_fits hf (T.val ok _ (.flt _ _) q)
theorem Op2.divIF (hf : Float64.isInf (Float64.ofInt a) = false) (hz : Float64.isZero y = false) (q : Q (.flt (Float64.div (Float64.ofInt a) y)) O) : Op2 Γ A O (binaryOp .Div) (.int a) (.flt y) Q := fun g s v w ok i j => by
  cases i; cases j; exact AutoFloatOps.truediv_if_2 (by rw [hf]; decide) (by rw [hz]; decide) (T.val ok _ (.flt _ _) q)

theorem Op2.addS (hs : u.length + w.length ≤ sizeLine) (q : Q (.str (u ++ w)) O) : Op2 Γ A O (binaryOp .Add) (.str u) (.str w) Q := fun g s v w ok i j => by cases i; cases j; exact PyProof.Rows.add_str (fun _ _ => T.val ok _ (.str _ _) q) hs
theorem Op2.mulS {n : Int} (hs : MulOk u n) (q : Q (.str (Txt.mul u n)) O) : Op2 Γ A O (binaryOp .Mult) (.str u) (.int n) Q := fun g s v w ok i j => by cases i; cases j; exact SB.mul hs (fun _ _ => T.val ok _ (.str _ _) q)
theorem Op2.eqS (q : Q (.bool (u == w)) O) : Op2 Γ A O (compareOp .Eq) (.str u) (.str w) Q := fun g s v w ok i j => by cases i; cases j; exact PyProof.Rows.eq_str (T.val0 ok (.bool _) q)
theorem Op2.neS (q : Q (.bool (u != w)) O) : Op2 Γ A O (compareOp .NotEq) (.str u) (.str w) Q := fun g s v w ok i j => by cases i; cases j; exact PyProof.Rows.ne_str (T.val0 ok (.bool _) q)
theorem Op2.ltS (q : Q (.bool (u.cps.toList < w.cps.toList)) O) : Op2 Γ A O (compareOp .Lt) (.str u) (.str w) Q := fun g s v w ok i j => by cases i; cases j; exact PyProof.Rows.lt_str (T.val0 ok (.bool _) q)
end
end Lw
end
section
set_option autoImplicit false
set_option linter.unusedVariables false
set_option Elab.async false
namespace Lw
open PySem PySem.Calls PyProof.Rows PySem.W

theorem Holds.same {g h h' : Heap} {a : Addr} (e : h'.get? a = h.get? a) : ∀ {c : Cont}, Holds g h a c → Holds g h' a c
  | .list ds, ⟨vs, n, x, y⟩ => ⟨vs, n, e.trans x, y⟩
  | .dict fs, ⟨es, n, x, y⟩ => ⟨es, n, e.trans x, y⟩
  | .obj C dx, x => e.trans x
  | .iter ds, ⟨o, x, y⟩ => ⟨o, e.trans x, y⟩
  | .lit l i, ⟨o, x, y⟩ => ⟨o, e.trans x, y⟩
theorem Holds.up {g g' h : Heap} {a : Addr} (k : Sub g g') : ∀ {c : Cont}, Holds g h a c → Holds g' h a c
  | .list ds, ⟨vs, n, x, y⟩ => ⟨vs, n, x, y.up k⟩
  | .dict fs, ⟨es, n, x, y⟩ => ⟨es, n, x, y.up k⟩
  | .obj C dx, x => x
  | .iter ds, ⟨o, x, y⟩ => ⟨o, x, y.up k⟩
  | .lit l i, x => x
theorem Holds.there {g h : Heap} {a : Addr} : ∀ {c : Cont}, Holds g h a c → ∃ o, h.get? a = some o
  | .list ds, ⟨_, _, x, _⟩ => ⟨_, x⟩
  | .dict fs, ⟨_, _, x, _⟩ => ⟨_, x⟩
  | .obj C dx, x => ⟨_, x⟩
  | .iter ds, ⟨o, x, _⟩ => ⟨o, x⟩
  | .lit l i, ⟨o, x, _⟩ => ⟨o, x⟩

theorem Okb.but {Γ : Gam} {g h' : Heap} {s : Shared} {O : Own} {a : Addr} (h : Okb Γ g s O) (hs : Heap.SameBut a s.heap h') (ga : g.get? a = none) (oa : ¬ dom O a) (t : Nat) : Okb Γ g { s with heap := h', toks := t } O :=
  ⟨fun b o e => (hs.2 b (fun z => by rw [z, ga] at e; cases e)).trans (h.keep b o e), h.gam,
    fun p hp => ⟨(h.own p hp).1.same (hs.2 p.1 fun z => oa (z ▸ List.mem_map_of_mem hp)), (h.own p hp).2⟩, h.nd, h.gens, h.os⟩
theorem To.but {g h' : Heap} {s : Shared} {X : Addr → Prop} {a : Addr} (hs : Heap.SameBut a s.heap h') (x : X a) (t : Nat) : To g s X g { s with heap := h', toks := t } :=
  ⟨fun b o e q => (hs.2 b fun z => q (z ▸ x)).trans e, Sub.refl _, fun b o e q => by rw [q] at e; cases e⟩

inductive Fl where
  | next
  | brk
  | cont
  | ret (d : D)
inductive FlIn (g : Heap) : Flow → Fl → Prop
  | next : FlIn g .next .next
  | brk : FlIn g .brk .brk
  | cont : FlIn g .cont .cont
  | ret {v : Value} {d : D} : In g v d → FlIn g (.ret v) (.ret d)
noncomputable def isCell (env : Env) (κ : Rho) (b : Addr) : Prop := env.func.isSome = true ∧ ∃ x ∈ κ.map (·.1), env.cells.lookup x = some b
noncomputable def Xf (env : Env) (κ : Rho) (O : Own) : Addr → Prop := fun b => b = env.locals ∨ isCell env κ b ∨ dom O b

structure Gs (Γ : Gam) (env : Env) (g : Heap) (s : Shared) (κ : Rho) (O : Own) (g' : Heap) (s' : Shared) (ρ' κ' : Rho) (O' : Own) : Prop where
  ok : Okb Γ g' s' O'
  fr : Frm env g' s'.heap O' ρ' κ'
  to : To g s (Xf env κ O) g' s'
  wi : Wi O O' s.heap
  ks : κ'.map (·.1) = κ.map (·.1)
theorem Gs.ofGo {Γ : Gam} {env : Env} {g g' : Heap} {s s' : Shared} {ρ κ : Rho} {O O' : Own} (F : Frm env g s.heap O ρ κ) (G : Go Γ g s O g' s' O') : Gs Γ env g s κ O g' s' ρ κ O' :=
  ⟨G.ok, F.go G, G.to.weak fun _ h => .inl (.inr (.inr h)), G.wi, rfl⟩
theorem Gs.trans {Γ : Gam} {env : Env} {g g' g'' : Heap} {s s' s'' : Shared} {ρ' κ κ' ρ'' κ'' : Rho} {O O' O'' : Own} (a : Gs Γ env g s κ O g' s' ρ' κ' O') (b : Gs Γ env g' s' κ' O' g'' s'' ρ'' κ'' O'') : Gs Γ env g s κ O g'' s'' ρ'' κ'' O'' := by
  refine ⟨b.ok, b.fr, a.to.trans b.to fun x h => ?_, wi_trans a.wi a.to b.wi fun x h => ?_, b.ks.trans a.ks⟩
  · rcases h with h | h | h
    · exact .inl (.inl h)
    · exact .inl (.inr (.inl (by unfold isCell at h ⊢; rw [a.ks] at h; exact h)))
    · rcases a.wi x h with z | z
      · exact .inl (.inr (.inr z))
      · exact .inr z
  · rcases h with h | h | h
    · exact .inr (.inr (h ▸ b.fr.lo))
    · refine .inr (.inr ?_)
      have h' : isCell env κ'' x := by unfold isCell at h ⊢; rw [b.ks.trans a.ks]; exact h
      obtain ⟨_, y, hy, e⟩ := h'
      obtain ⟨p, hp, rfl⟩ := List.mem_map.mp hy
      obtain ⟨_, ca, h2, _, h4, _⟩ := b.fr.cel p hp
      rw [e] at h2; cases h2; exact h4
    · exact .inl h

noncomputable def Exs (Γ : Gam) (A : Around) (env : Env) (ρ κ : Rho) (O : Own) (t : Sem Flow) (Q : Fl → Rho → Rho → Own → Prop) : Prop :=
  ∀ g s, Okb Γ g s O → Frm env g s.heap O ρ κ → wpAny Γ.M A t (fun v s' => ∃ g' ρ' κ' O' f, Gs Γ env g s κ O g' s' ρ' κ' O' ∧ FlIn g' v f ∧ Q f ρ' κ' O') (fun _ _ => False) s
noncomputable abbrev Ss (Γ : Gam) (A : Around) (env : Env) (ρ κ : Rho) (O : Own) (l : List Stmt) (Q : Fl → Rho → Rho → Own → Prop) : Prop := Exs Γ A env ρ κ O (execs l env) Q
noncomputable abbrev S1 (Γ : Gam) (A : Around) (env : Env) (ρ κ : Rho) (O : Own) (st : Stmt) (Q : Fl → Rho → Rho → Own → Prop) : Prop := Exs Γ A env ρ κ O (exec st env) Q

inductive Put : Rho → Str → D → Rho → Prop
  | here {x : Str} {od : Option D} {r : Rho} {d : D} : Put ((x, od) :: r) x d ((x, some d) :: r)
  | there {x : Str} {p : Str × Option D} {r r' : Rho} {d : D} : Put r x d r' → Put (p :: r) x d (p :: r')
theorem Put.keys : ∀ {ρ ρ' : Rho} {x : Str} {d : D}, Put ρ x d ρ' → ρ'.map (·.1) = ρ.map (·.1)
  | _, _, _, _, .here => rfl
  | _, _, _, _, .there h => by rw [List.map_cons, List.map_cons, Put.keys h]
theorem Put.key : ∀ {ρ ρ' : Rho} {x : Str} {d : D}, Put ρ x d ρ' → x ∈ ρ.map (·.1)
  | _, _, _, _, .here => .head _
  | _, _, _, _, .there h => .tail _ h.key
theorem Put.mem : ∀ {ρ ρ' : Rho} {x : Str} {d : D}, Put ρ x d ρ' → (ρ.map (·.1)).Nodup → ∀ {y : Str} {oe : Option D}, (y, oe) ∈ ρ' → (y = x ∧ oe = some d) ∨ (y ≠ x ∧ (y, oe) ∈ ρ)
  | _, _, x, d, .here (r := r), hn, y, oe, h => by
    rw [List.map_cons, List.nodup_cons] at hn
    rcases List.mem_cons.mp h with q | q
    · cases q; exact .inl ⟨rfl, rfl⟩
    · exact .inr ⟨fun z => hn.1 (z ▸ List.mem_map_of_mem (f := (·.1)) q), .tail _ q⟩
  | _, _, x, d, .there (p := p) (r := r) h', hn, y, oe, h => by
    rw [List.map_cons, List.nodup_cons] at hn
    rcases List.mem_cons.mp h with q | q
    · cases q; exact .inr ⟨fun z => hn.1 (z ▸ h'.key), .head _⟩
    · rcases h'.mem hn.2 q with z | ⟨z, w⟩
      · exact .inl z
      · exact .inr ⟨z, .tail _ w⟩

section
variable {Γ : Gam} {A : Around} {env : Env} {ρ κ : Rho} {O : Own} {Q : Fl → Rho → Rho → Own → Prop}

theorem Exs.mono {t : Sem Flow} {Q' : Fl → Rho → Rho → Own → Prop} (h : Exs Γ A env ρ κ O t Q) (k : ∀ f ρ' κ' O', Q f ρ' κ' O' → Q' f ρ' κ' O') : Exs Γ A env ρ κ O t Q' := fun g s ok F =>
  wpAny_mono (h g s ok F) (fun _ _ ⟨g', ρ', κ', O', f, a, b, c⟩ => ⟨g', ρ', κ', O', f, a, b, k _ _ _ _ c⟩) fun _ _ e => e
theorem Ss.nil (q : Q .next ρ κ O) : Ss Γ A env ρ κ O [] Q := fun g s ok F => wpAny_execs_nil ⟨g, ρ, κ, O, .next, .ofGo F (.refl ok), .next, q⟩
theorem Ss.cons {st : Stmt} {rest : List Stmt} (h : S1 Γ A env ρ κ O st fun f ρ₁ κ₁ O₁ => match f with | .next => Ss Γ A env ρ₁ κ₁ O₁ rest Q | f => Q f ρ₁ κ₁ O₁) : Ss Γ A env ρ κ O (st :: rest) Q := fun g s ok F =>
  wpAny_execs_cons (wpAny_mono (h g s ok F) (fun v s₁ ⟨g₁, ρ₁, κ₁, O₁, f, G, hf, q⟩ => by
    cases hf with
    | next => exact wpAny_mono (q g₁ s₁ G.ok G.fr) (fun v s₂ ⟨g₂, ρ₂, κ₂, O₂, f, G', hf, q⟩ => ⟨g₂, ρ₂, κ₂, O₂, f, G.trans G', hf, q⟩) fun _ _ e => e
    | brk => exact ⟨g₁, ρ₁, κ₁, O₁, .brk, G, .brk, q⟩
    | cont => exact ⟨g₁, ρ₁, κ₁, O₁, .cont, G, .cont, q⟩
    | ret a => exact ⟨g₁, ρ₁, κ₁, O₁, .ret _, G, .ret a, q⟩) fun _ _ e => e)

/-- a name of the frame's own is stored -/
theorem store_loc {g : Heap} {s : Shared} {x : Str} {v : Value} {d : D} {ρ' : Rho} {R : Unit → Shared → Prop} (ok : Okb Γ g s O) (F : Frm env g s.heap O ρ κ) (i : In g v d) (p : Put ρ x d ρ')
    (h : ∀ s', Gs Γ env g s κ O g s' ρ' κ O → R () s') : wpAny Γ.M A (storeName env x v) R (fun _ _ => False) s := by
  obtain ⟨m, hm, hr⟩ := F.loc
  obtain ⟨q, hq, hqx⟩ := List.mem_map.mp p.key
  have hl : env.kindOf x = some .local := hqx ▸ (F.lk q hq).1
  refine wpAny_storeName_local hl hm (fun h' hn hs => h _ ⟨ok.but hs F.gl F.lo _, ⟨F.kind, F.glob, F.bi, ⟨_, hn, fun y e hy => ?_⟩, fun r hr => ?_, by rw [p.keys]; exact F.nd, F.gl, F.lo, F.ck, fun r hr => ?_, F.cnd, F.cin⟩, .but hs (.inl rfl) _, .refl, rfl⟩) (by rw [F.kind]; rfl)
  · rcases p.mem F.nd hy with ⟨rfl, z⟩ | ⟨z, w⟩
    · cases z; exact ⟨v, by rw [if_pos rfl], i⟩
    · obtain ⟨u, a, b⟩ := hr y e w
      exact ⟨u, by rw [if_neg z]; exact a, b⟩
  · have : r.1 ∈ ρ.map (·.1) := p.keys ▸ List.mem_map_of_mem hr
    obtain ⟨r', hr', e⟩ := List.mem_map.mp this
    exact e ▸ F.lk r' hr'
  · obtain ⟨h1, ca, h2, h3, h4, h5, ov, hc, h6⟩ := F.cel r hr
    exact ⟨h1, ca, h2, h3, h4, h5, ov, hc.sameBut hs h5, h6⟩
/-- a cell of the frame's own is stored -/
theorem store_cel {g : Heap} {s : Shared} {x : Str} {v : Value} {d : D} {κ' : Rho} {R : Unit → Shared → Prop} (ok : Okb Γ g s O) (F : Frm env g s.heap O ρ κ) (i : In g v d) (p : Put κ x d κ') (hl : env.kindOf x = some .cell) (hf : env.func.isSome = true)
    (h : ∀ s', Gs Γ env g s κ O g s' ρ κ' O → R () s') : wpAny Γ.M A (storeName env x v) R (fun _ _ => False) s := by
  obtain ⟨m, hm, hr⟩ := F.loc
  obtain ⟨q, hq, rfl⟩ := List.mem_map.mp p.key
  obtain ⟨h1, ca, h2, h3, h4, h5, ov, hc, h6⟩ := F.cel q hq
  refine wpAny_storeName_cell F.kind hl h2 hc fun h' hn hs => h _ ⟨ok.but hs h3 h4 _, ⟨F.kind, F.glob, F.bi, ⟨m, hm.sameBut hs (Ne.symm h5), hr⟩, F.lk, F.nd, F.gl, F.lo, fun r hr => ?_, fun r hr => ?_, by rw [p.keys]; exact F.cnd, fun a ha b hb e => ?_⟩, .but hs (.inr (.inl ⟨hf, q.1, List.mem_map_of_mem hq, h2⟩)) _, .refl, p.keys⟩
  · have hk : r.1 ∈ κ.map (·.1) := p.keys ▸ List.mem_map_of_mem hr
    obtain ⟨r', hr', e⟩ := List.mem_map.mp hk
    exact e ▸ F.ck r' hr'
  · have hk : r.1 ∈ κ.map (·.1) := p.keys ▸ List.mem_map_of_mem hr
    rcases p.mem F.cnd (y := r.1) (oe := r.2) hr with ⟨z, w⟩ | ⟨z, w⟩
    · rw [z]
      refine ⟨h1, ca, h2, h3, h4, h5, some v, hn, fun e he => ?_⟩
      rw [w] at he; cases he; exact ⟨v, rfl, i⟩
    · obtain ⟨k1, cb, k2, k3, k4, k5, ow, kc, k6⟩ := F.cel _ w
      refine ⟨k1, cb, k2, k3, k4, k5, ow, kc.sameBut hs fun y => z ?_, k6⟩
      exact F.cin _ w q hq (by rw [k2, h2, y])
  · have ha' : a.1 ∈ κ.map (·.1) := p.keys ▸ List.mem_map_of_mem ha
    have hb' : b.1 ∈ κ.map (·.1) := p.keys ▸ List.mem_map_of_mem hb
    obtain ⟨a', ha', ea⟩ := List.mem_map.mp ha'
    obtain ⟨b', hb', eb⟩ := List.mem_map.mp hb'
    rw [← ea, ← eb] at e ⊢
    exact F.cin a' ha' b' hb' e

theorem S1.asL {x : Str} {p1 pos : Pos} {value : Expr} (h : Ev Γ A env ρ κ O value fun d O₁ => ∃ ρ', Put ρ x d ρ' ∧ Q .next ρ' κ O₁) (hs : swapsWith value (some (.Name x p1)) pos.line env = pure false) : S1 Γ A env ρ κ O (.Assign [.Name x p1] value pos) Q := fun g s ok F =>
  wpAny_Assign_Name (wpAny_mono (h g s ok F) (fun v s₁ ⟨g₁, O₁, d, G₁, i, ρ', p, q⟩ => store_loc G₁.ok (F.go G₁) i p fun s' G' => ⟨g₁, ρ', κ, O₁, .next, (Gs.ofGo F G₁).trans G', .next, q⟩) fun _ _ e => e) hs
theorem S1.asC {x : Str} {p1 pos : Pos} {value : Expr} (h : Ev Γ A env ρ κ O value fun d O₁ => ∃ κ', Put κ x d κ' ∧ Q .next ρ κ' O₁) (hl : env.kindOf x = some .cell) (hf : env.func.isSome = true) (hs : swapsWith value (some (.Name x p1)) pos.line env = pure false) : S1 Γ A env ρ κ O (.Assign [.Name x p1] value pos) Q := fun g s ok F =>
  wpAny_Assign_Name (wpAny_mono (h g s ok F) (fun v s₁ ⟨g₁, O₁, d, G₁, i, ρ', p, q⟩ => store_cel G₁.ok (F.go G₁) i p hl hf fun s' G' => ⟨g₁, ρ, ρ', O₁, .next, (Gs.ofGo F G₁).trans G', .next, q⟩) fun _ _ e => e) hs
theorem S1.ret {e : Expr} {pos : Pos} (h : Ev Γ A env ρ κ O e fun d O₁ => Q (.ret d) ρ κ O₁) : S1 Γ A env ρ κ O (.Return (some e) pos) Q := fun g s ok F =>
  wpAny_Return_some (wpAny_mono (h g s ok F) (fun v s₁ ⟨g₁, O₁, d, G₁, i, q⟩ => ⟨g₁, ρ, κ, O₁, .ret d, .ofGo F G₁, .ret i, q⟩) fun _ _ e => e)
theorem S1.ite {test : Expr} {body orelse : List Stmt} {pos : Pos} (h : Te Γ A env ρ κ O test fun b O₁ => if b then Ss Γ A env ρ κ O₁ body Q else Ss Γ A env ρ κ O₁ orelse Q) : S1 Γ A env ρ κ O (.If test body orelse pos) Q := fun g s ok F =>
  wpAny_If (wpAny_mono (h g s ok F) (fun b s₁ ⟨g₁, O₁, d, G₁, i, q⟩ => by
    subst i
    cases b <;> exact wpAny_mono (q g₁ s₁ G₁.ok (F.go G₁)) (fun v s₂ ⟨g₂, ρ₂, κ₂, O₂, f, G', hf, q⟩ => ⟨g₂, ρ₂, κ₂, O₂, f, (Gs.ofGo F G₁).trans G', hf, q⟩) fun _ _ e => e) fun _ _ e => e)
theorem S1.brk {pos : Pos} (q : Q .brk ρ κ O) : S1 Γ A env ρ κ O (.Break pos) Q := fun g s ok F => wpAny_Break ⟨g, ρ, κ, O, .brk, .ofGo F (.refl ok), .brk, q⟩
end
end Lw
end
section
set_option autoImplicit false
set_option linter.unusedVariables false
set_option Elab.async false
namespace Lw
open PySem PySem.Calls PyProof.Rows PySem.W

/-- a code that hands back a value, its end told over data -/
noncomputable def CT (Γ : Gam) (A : Around) (c : Code) (g : Heap) (s : Shared) (O : Own) (Q : D → Own → Prop) : Prop :=
  codeAny Γ.M A c (fun r s' => match r with | .ok (.ret v) => ∃ g' O' d, Go Γ g s O g' s' O' ∧ In g' v d ∧ Q d O' | .ok _ => False | .error _ => False) s
theorem CT.map {Γ : Gam} {A : Around} {c : Code} {g : Heap} {s : Shared} {O O₁ : Own} {Q Q₁ : D → Own → Prop} (h : CT Γ A c g s O₁ Q₁) (k : ∀ v s' g' O' d, Go Γ g s O₁ g' s' O' → In g' v d → Q₁ d O' → ∃ g' O' d, Go Γ g s O g' s' O' ∧ In g' v d ∧ Q d O') : CT Γ A c g s O Q :=
  codeAny_mono h fun r s' x => by
    rcases r with e | (_ | _ | _ | v)
    · exact x
    · exact x
    · exact x
    · exact x
    · obtain ⟨g', O', d, a, b, c⟩ := x
      exact k v s' g' O' d a b c
theorem CT.call {Γ : Gam} {A : Around} {f : Value} {vs : List Value} {kw : List (Str × Value)} {g : Heap} {s : Shared} {O : Own} {Q : D → Own → Prop} (h : CT Γ A (.call f ⟨vs, kw⟩) g s O Q) : T Γ A (call f vs kw) In g s O Q :=
  wpAny_call h
/-- a call of f, told over data, from any state with these changeable objects -/
noncomputable def Cal (Γ : Gam) (n : Nat) (f : Value) (ds : List D) (kws : List (Str × D)) (O : Own) (Q : D → Own → Prop) : Prop :=
  ∀ A g s vs ks, Room A n → Okb Γ g s O → InL g vs ds → InL g ks (kws.map (·.2)) → CT Γ A (.call f ⟨vs, (kws.map (·.1)).zip ks⟩) g s O Q
theorem Cal.mono {Γ : Gam} {n : Nat} {f : Value} {ds : List D} {kws : List (Str × D)} {O : Own} {Q Q' : D → Own → Prop} (h : Cal Γ n f ds kws O Q) (k : ∀ d O', Q d O' → Q' d O') : Cal Γ n f ds kws O Q' :=
  fun A g s vs ks r ok i j => (h A g s vs ks r ok i j).map fun v s' g' O' d a b c => ⟨g', O', d, a, b, k _ _ c⟩

theorem Okb.perm {Γ : Gam} {g : Heap} {s : Shared} {O P : Own} (h : Okb Γ g s O) (p : O.Perm P) : Okb Γ g s P :=
  ⟨h.keep, h.gam, fun q hq => h.own q (p.mem_iff.mpr hq), (p.map (·.1)).nodup_iff.mp h.nd, h.gens, h.os⟩
theorem Okb.left {Γ : Gam} {g : Heap} {s : Shared} {O P : Own} (h : Okb Γ g s (O ++ P)) : Okb Γ g s O :=
  ⟨h.keep, h.gam, fun q hq => h.own q (List.mem_append_left _ hq), by have := h.nd; rw [List.map_append] at this; exact (List.nodup_append.mp this).1, h.gens, h.os⟩
theorem Go.frame {Γ : Gam} {g g' : Heap} {s s' : Shared} {O O' P : Own} (ok : Okb Γ g s (O ++ P)) (G : Go Γ g s O g' s' O') : Go Γ g s (O ++ P) g' s' (O' ++ P) := by
  have nd := ok.nd
  rw [List.map_append] at nd
  obtain ⟨n1, n2, n3⟩ := List.nodup_append.mp nd
  have off : ∀ p ∈ P, ¬ dom O p.1 := fun p hp x => n3 _ x _ (List.mem_map_of_mem hp) rfl
  refine ⟨⟨G.ok.keep, G.ok.gam, fun p hp => ?_, ?_, G.ok.gens, G.ok.os⟩, G.to.weak fun b x => .inl (by show b ∈ (O ++ P).map (·.1); rw [List.map_append]; exact List.mem_append_left _ x), fun b x => ?_⟩
  · rcases List.mem_append.mp hp with q | q
    · exact G.ok.own p q
    · obtain ⟨a, b⟩ := ok.own p (List.mem_append_right _ q)
      obtain ⟨o, ho⟩ := a.there
      exact ⟨(a.same (by rw [G.to.pres _ _ ho (off p q), ho])).up G.to.up, G.to.none ho (off p q) b⟩
  · rw [List.map_append]
    refine List.nodup_append.mpr ⟨G.ok.nd, n2, fun a ha b hb e => ?_⟩
    subst e
    obtain ⟨p, hp, rfl⟩ := List.mem_map.mp hb
    rcases G.wi _ ha with z | z
    · exact off p hp z
    · obtain ⟨o, ho⟩ := (ok.own p (List.mem_append_right _ hp)).1.there
      rw [ho] at z; cases z
  · have x : b ∈ (O' ++ P).map (·.1) := x
    rw [List.map_append] at x
    rcases List.mem_append.mp x with q | q
    · exact (G.wi b q).imp (fun z => by show b ∈ (O ++ P).map (·.1); rw [List.map_append]; exact List.mem_append_left _ z) id
    · exact .inl (by show b ∈ (O ++ P).map (·.1); rw [List.map_append]; exact List.mem_append_right _ q)
theorem Go.perm {Γ : Gam} {g g' : Heap} {s s' : Shared} {O O' P : Own} (p : O.Perm P) (G : Go Γ g s O g' s' O') : Go Γ g s P g' s' O' :=
  ⟨G.ok, G.to.weak fun b x => .inl ((p.map (·.1)).mem_iff.mp x), fun b x => (G.wi b x).imp (fun z => (p.map (·.1)).mem_iff.mp z) id⟩
theorem CT.frame {Γ : Gam} {A : Around} {c : Code} {g : Heap} {s : Shared} {O P : Own} {Q Q' : D → Own → Prop} (ok : Okb Γ g s (O ++ P)) (h : CT Γ A c g s O Q) (k : ∀ d O', Q d O' → Q' d (O' ++ P)) : CT Γ A c g s (O ++ P) Q' :=
  h.map fun v s' g' O' d a b c => ⟨g', O' ++ P, d, a.frame ok, b, k _ _ c⟩
/-- a call that touches some of the changeable objects alone -/
theorem Cal.frame {Γ : Gam} {n : Nat} {f : Value} {ds : List D} {kws : List (Str × D)} {O P : Own} {Q Q' : D → Own → Prop} (h : Cal Γ n f ds kws O Q) (k : ∀ d O', Q d O' → Q' d (O' ++ P)) : Cal Γ n f ds kws (O ++ P) Q' := fun A g s vs ks r ok i j =>
  CT.frame ok (h A g s vs ks r ok.left i j) k
theorem Cal.perm {Γ : Gam} {n : Nat} {f : Value} {ds : List D} {kws : List (Str × D)} {O P : Own} {Q : D → Own → Prop} (p : O.Perm P) (h : Cal Γ n f ds kws O Q) : Cal Γ n f ds kws P Q := fun A g s vs ks r ok i j =>
  (h A g s vs ks r (ok.perm p.symm) i j).map fun v s' g' O' d a b c => ⟨g', O', d, a.perm p, b, c⟩
/-- a call that touches no changeable object -/
theorem Cal.pure {Γ : Gam} {n : Nat} {f : Value} {ds : List D} {kws : List (Str × D)} {O : Own} {Q Q' : D → Own → Prop} (h : Cal Γ n f ds kws [] Q) (k : ∀ d O', Q d O' → O' = [] ∧ Q' d O) : Cal Γ n f ds kws O Q' :=
  Cal.frame (O := []) (P := O) h fun d O' q => by
    rw [(k d O' q).1]; exact (k d O' q).2

noncomputable def rho0 (names : List (Str × NameKind)) (b : List (Str × D)) : Rho := names.filterMap fun x => if x.2 = .local then some (x.1, b.lookup x.1) else none
noncomputable def kap0 (names : List (Str × NameKind)) (b : List (Str × D)) : Rho := names.filterMap fun x => if x.2 = .cell then some (x.1, b.lookup x.1) else none

theorem mem_rho0 {names : List (Str × NameKind)} {b : List (Str × D)} {x : Str} {od : Option D} (h : (x, od) ∈ rho0 names b) : (x, NameKind.local) ∈ names ∧ b.lookup x = od := by
  obtain ⟨p, hp, e⟩ := List.mem_filterMap.mp h
  split at e
  · rename_i q
    cases e
    exact ⟨by rw [← q]; exact hp, rfl⟩
  · cases e
theorem mem_kap0 {names : List (Str × NameKind)} {b : List (Str × D)} {x : Str} {od : Option D} (h : (x, od) ∈ kap0 names b) : (x, NameKind.cell) ∈ names ∧ b.lookup x = od := by
  obtain ⟨p, hp, e⟩ := List.mem_filterMap.mp h
  split at e
  · rename_i q
    cases e
    exact ⟨by rw [← q]; exact hp, rfl⟩
  · cases e
theorem filterMap_keys {names : List (Str × NameKind)} {f : Str × NameKind → Option (Str × Option D)} (hf : ∀ x y, f x = some y → y.1 = x.1) (hn : (names.map (·.1)).Nodup) : ((names.filterMap f).map (·.1)).Nodup := by
  induction names with
  | nil => exact List.nodup_nil
  | cons x r ih =>
    rw [List.map_cons, List.nodup_cons] at hn
    rw [List.filterMap_cons]
    split
    · exact ih hn.2
    · rename_i y e
      rw [List.map_cons, List.nodup_cons]
      refine ⟨fun hm => ?_, ih hn.2⟩
      obtain ⟨q, hq, e'⟩ := List.mem_map.mp hm
      obtain ⟨p, hp, e''⟩ := List.mem_filterMap.mp hq
      rw [hf _ _ e, hf _ _ e''] at *
      exact hn.1 (e' ▸ List.mem_map_of_mem (f := (·.1)) hp)
theorem lookup_of_mem {α : Type} : ∀ {l : List (Str × α)} {x : Str} {k : α}, (l.map (·.1)).Nodup → (x, k) ∈ l → l.lookup x = some k
  | (y, j) :: r, x, k, hn, h => by
    rw [List.map_cons, List.nodup_cons] at hn
    rw [List.lookup_cons]
    rcases List.mem_cons.mp h with q | q
    · cases q; simp
    · have : x ≠ y := fun e => hn.1 (e ▸ List.mem_map_of_mem (f := (·.1)) q)
      rw [show (x == y) = false from beq_eq_false_iff_ne.mpr this]
      exact lookup_of_mem hn.2 q
theorem zip_get {g : Heap} : ∀ {ps : List Str} {vs : List Value} {ds : List D}, InL g vs ds → ∀ {x : Str} {d : D}, (ps.zip ds).lookup x = some d → ∃ v, (ps.zip vs).lookup x = some v ∧ In g v d
  | [], _, _, _, x, d, e => by simp at e
  | p :: ps, _, _, .nil, x, d, e => by simp at e
  | p :: ps, _, _, .cons a r, x, d, e => by
    rw [List.zip_cons_cons, List.lookup_cons] at e ⊢
    cases q : x == p with
    | true => rw [q] at e; cases e; exact ⟨_, rfl, a⟩
    | false => rw [q] at e; exact zip_get r e
theorem zip_keys {α : Type} : ∀ {ps : List Str} {vs : List α}, ps.Nodup → ((ps.zip vs).map (·.1)).Nodup
  | [], _, _ => by simp
  | p :: ps, [], _ => by simp
  | p :: ps, v :: vs, h => by
    rw [List.nodup_cons] at h
    rw [List.zip_cons_cons, List.map_cons, List.nodup_cons]
    refine ⟨fun hm => ?_, zip_keys h.2⟩
    obtain ⟨q, hq, e⟩ := List.mem_map.mp hm
    exact h.1 (by rw [show p = q.1 from e.symm]; exact (List.of_mem_zip (a := q.1) (b := q.2) hq).1)
theorem bindL_at {kindOf : Str → Option NameKind} {x : Str} (hx : kindOf x = some .local) : ∀ {b : List (Str × Value)} {m : Str → Option Value}, (b.map (·.1)).Nodup → bindL kindOf b m x = (b.lookup x).or (m x)
  | [], m, _ => rfl
  | (n, v) :: r, m, hn => by
    rw [List.map_cons, List.nodup_cons] at hn
    rw [bindL, bindL_at hx hn.2, List.lookup_cons]
    by_cases e : x = n
    · subst e
      have : r.lookup x = none := by
        cases q : r.lookup x with
        | none => rfl
        | some v => exact absurd (List.mem_map_of_mem (f := (·.1)) (mem_of_lookup q)) hn.1
      rw [this, if_pos hx]; simp
    · rw [show (x == n) = false from beq_eq_false_iff_ne.mpr e]
      split <;> simp [e]
theorem bindC_at {kindOf : Str → Option NameKind} {x : Str} (hx : kindOf x = some .cell) : ∀ {b : List (Str × Value)} {m : Str → Option Value}, (b.map (·.1)).Nodup → bindC kindOf b m x = (b.lookup x).or (m x)
  | [], m, _ => rfl
  | (n, v) :: r, m, hn => by
    rw [List.map_cons, List.nodup_cons] at hn
    rw [bindC, bindC_at hx hn.2, List.lookup_cons]
    by_cases e : x = n
    · subst e
      have : r.lookup x = none := by
        cases q : r.lookup x with
        | none => rfl
        | some v => exact absurd (List.mem_map_of_mem (f := (·.1)) (mem_of_lookup q)) hn.1
      rw [this, if_neg (by rw [hx]; decide)]; simp
    · rw [show (x == n) = false from beq_eq_false_iff_ne.mpr e]
      split <;> simp [e]
theorem cellsFrom_some : ∀ {names : List (Str × NameKind)} {n : Nat} {acc : List (Str × Addr)} {x : Str}, ((x, NameKind.cell) ∈ names ∨ (acc.lookup x).isSome = true) → ((cellsFrom n names acc).lookup x).isSome = true
  | [], n, acc, x, h => by
    rcases h with h | h
    · cases h
    · exact h
  | (y, k) :: r, n, acc, x, h => by
    unfold cellsFrom
    split
    · rename_i hk
      refine cellsFrom_some ?_
      rcases h with h | h
      · rcases List.mem_cons.mp h with q | q
        · cases q; exact .inr (by simp)
        · exact .inl q
      · refine .inr ?_
        rw [List.lookup_cons]
        cases x == y <;> simp [h]
    · rename_i hk
      refine cellsFrom_some ?_
      rcases h with h | h
      · rcases List.mem_cons.mp h with q | q
        · cases q; exact absurd rfl hk
        · exact .inl q
      · exact .inr h

inductive RetOf : Fl → D → Prop
  | ret {d : D} : RetOf (.ret d) d
  | next : RetOf .next .none

theorem Room.deep {A : Around} {env : Env} {n : Nat} (h : Room A (n + 1)) : Room (A.deeper env) n := ⟨h.h, by have := h.d; show A.depth + 1 + n < 990; omega, by have := h.u; show A.units + 3 + 8 * n + 300 < cLine; omega⟩

theorem Cal.intro {Γ : Gam} {n : Nat} {f : Addr} {ds : List D} {kws : List (Str × D)} {O : Own} {Q : D → Own → Prop} {oc : Value} {od : Option Addr} {osl : Array (Option Value)} {fd : FuncData} {body : List Stmt} {params : List Str} {bds : List D} (ρ₀ κ₀ : Rho)
    (hk : Γ.K.lookup f = some ⟨oc, od, .func fd, osl⟩) (hcd : codeIn Γ.K fd.code fd.qualname = true) (hb : fd.body = .stmts body)
    (hfix : fd.closure = [] ∧ fd.globals = mainGlobals ∧ fd.builtins = builtinsNs ∧ fd.scope.isCoroutine = false ∧ fd.scope.isGenerator = false ∧ fd.scope.kind = .function)
    (hbind : ∀ g s vs ks, Okb Γ g s O → InL g vs ds → InL g ks (kws.map (·.2)) → ∃ bvs, BindsTo s fd ⟨vs, (kws.map (·.1)).zip ks⟩ (params.zip bvs) ∧ InL g bvs bds)
    (hdb : (fd.scope.names.all fun x => (!(x.2 == .local) && !(x.2 == .cell)) || (!(x.1 == ("__debug__" : Str)) && !(x.1 == ("__classdict__" : Str)))) = true) (hn : (fd.scope.names.map (·.1)).Nodup) (hp : params.Nodup) (hpk : ∀ p ∈ params, (p, NameKind.local) ∈ fd.scope.names ∨ (p, NameKind.cell) ∈ fd.scope.names)
    (hρ : rho0 fd.scope.names (params.zip bds) = ρ₀) (hκ : kap0 fd.scope.names (params.zip bds) = κ₀)
    (h : ∀ A L, Room A n → Ss Γ A (callEnvC fd L f) ρ₀ κ₀ O body fun fl _ _ O' => ∃ d, RetOf fl d ∧ Q d O') :
    Cal Γ (n + 1) (.ref f) ds kws O Q := by
  subst hρ hκ
  intro A g s vs ks room ok iv ik
  obtain ⟨f1, f2, f3, f4, f5, f6⟩ := hfix
  obtain ⟨bvs, hB, ib⟩ := hbind g s vs ks ok iv ik
  have kin : Γ.K.In s.heap := fun a o e => ok.keep _ _ (ok.gam.kin a o e)
  have hL : g.get? s.heap.objs.size = none := by
    cases q : g.get? s.heap.objs.size with
    | none => rfl
    | some o => exact absurd (Heap.lt_size (ok.keep _ _ q)) (Nat.lt_irrefl _)
  have hnew : ∀ b, s.heap.objs.size ≤ b → g.get? b = none := fun b hb => by
    cases q : g.get? b with
    | none => rfl
    | some o => exact absurd (Heap.lt_size (ok.keep _ _ q)) (Nat.not_lt.mpr hb)
  have hfree : ∀ b, s.heap.objs.size ≤ b → s.heap.get? b = none := fun b hb => by
    cases q : s.heap.get? b with
    | none => rfl
    | some o => exact absurd (Heap.lt_size q) (Nat.not_lt.mpr hb)
  have hoff : ∀ b, s.heap.objs.size ≤ b → ¬ dom O b := fun b hb hm => by
    obtain ⟨p, hp, rfl⟩ := List.mem_map.mp hm
    obtain ⟨o, ho⟩ := (ok.own p hp).1.there
    exact absurd (Heap.lt_size ho) (Nat.not_lt.mpr hb)
  refine (codeAny_call_function (show A.depth < recursionLimit by have := room.d; unfold recursionLimit; omega) (kin _ _ hk) rfl f4 f5 hb (codeRec_of kin hcd) (hB _ _ _ _ ?_))
  rw [f1]
  refine wpAny_newFunctionEnv_cells f6 (fun x hx => ?_) fun env he s₁ x => ?_
  · have hx1 : x.1 ∈ params := (List.of_mem_zip hx).1
    rcases hpk _ hx1 with z | z
    · exact .inl (lookup_of_mem hn z)
    · exact .inr ⟨lookup_of_mem hn z, cellsFrom_some (.inl z)⟩
  · have he' : env = callEnvC fd s.heap.objs.size f := he
    subst he'
    obtain ⟨h₁, tk, es⟩ := x.toInCall.same
    have k1 := x.toInCall.keep
    have hkind : ∀ y k, (y, k) ∈ fd.scope.names → (callEnvC fd s.heap.objs.size f).kindOf y = some k := fun y k hy => lookup_of_mem hn hy
    have ok₁ : Okb Γ g s₁ O := by
      refine ⟨ok.keep.trans k1, ok.gam, fun p hp => ?_, ok.nd, by rw [es]; exact ok.gens, by rw [es]; exact ok.os⟩
      obtain ⟨a, b⟩ := ok.own p hp
      obtain ⟨o, ho⟩ := a.there
      exact ⟨a.same (by rw [k1 _ _ ho, ho]), b⟩
    have F₁ : Frm (callEnvC fd s.heap.objs.size f) g s₁.heap O (rho0 fd.scope.names (params.zip bds)) (kap0 fd.scope.names (params.zip bds)) := by
      have hdbg : ∀ x k, (x, k) ∈ fd.scope.names → (k = .local ∨ k = .cell) → (x == ("__debug__" : Str)) = false ∧ (x == ("__classdict__" : Str)) = false := fun x k hx hk => by
        have := List.all_eq_true.mp hdb _ hx
        rcases hk with rfl | rfl <;> simpa using this
      refine ⟨f6, f2, f3, ⟨_, x.toInCall.ns, fun y d hy => ?_⟩, fun p hp => ?_, ?_, hL, hoff _ (Nat.le_refl _), fun p hp => hdbg _ _ (mem_kap0 (x := p.1) (od := p.2) hp).1 (.inr rfl), fun p hp => ?_, ?_, fun p hp q hq e => ?_⟩
      · obtain ⟨z1, z2⟩ := mem_rho0 hy
        obtain ⟨v, a, b⟩ := zip_get ib z2
        exact ⟨v, by rw [bindL_at (hkind _ _ z1) (zip_keys hp), a]; rfl, b⟩
      · exact ⟨hkind _ _ (mem_rho0 (x := p.1) (od := p.2) hp).1, (hdbg _ _ (mem_rho0 (x := p.1) (od := p.2) hp).1 (.inl rfl)).1⟩
      · exact filterMap_keys (fun a b e => by split at e <;> cases e; rfl) hn
      · obtain ⟨z1, z2⟩ := mem_kap0 (x := p.1) (od := p.2) hp
        refine ⟨.inl (hkind _ _ z1), ?_⟩
        have hs : (((callEnvC fd s.heap.objs.size f).cells).lookup p.1).isSome = true := cellsFrom_some (.inl z1)
        obtain ⟨ca, hca⟩ := Option.isSome_iff_exists.mp hs
        have hab := x.above _ _ (mem_of_lookup hca)
        have hle : s.heap.objs.size ≤ ca := Nat.le_of_lt hab
        refine ⟨ca, hca, hnew _ hle, hoff _ hle, Nat.ne_of_gt hab, _, x.cell _ _ hca, fun d hd => ?_⟩
        obtain ⟨v, a, b⟩ := zip_get ib (z2.trans hd)
        exact ⟨v, by rw [bindC_at (hkind _ _ z1) (zip_keys ‹params.Nodup›), a]; rfl, b⟩
      · exact filterMap_keys (fun a b e => by split at e <;> cases e; rfl) hn
      · obtain ⟨z1, _⟩ := mem_kap0 (x := p.1) (od := p.2) hp
        have hs : (((callEnvC fd s.heap.objs.size f).cells).lookup p.1).isSome = true := cellsFrom_some (.inl z1)
        obtain ⟨ca, hca⟩ := Option.isSome_iff_exists.mp hs
        have hq' := e ▸ hca
        exact name_of_addr x.apart (mem_of_lookup hca) (mem_of_lookup hq')
    refine ⟨ok.gam.nl.keeps (ok.keep.trans k1), codeAny_func ?_⟩
    refine wpAny_mono (h _ _ room.deep g s₁ ok₁ F₁) (fun fl s₂ ⟨g₂, ρ₂, κ₂, O₂, q, G, hq, d, r, hQ⟩ => ?_) fun _ _ e => e.elim
    have to₁ : To g s (dom O) g s₁ := ⟨fun b o e _ => k1 b o e, Sub.refl _, fun b o e z => by rw [z] at e; cases e⟩
    have Gf : Go Γ g s O g₂ s₂ O₂ := by
      refine ⟨G.ok, to₁.trans G.to fun b hb => ?_, wi_trans .refl to₁ G.wi fun _ h => .inl h⟩
      rcases hb with hb | hb | hb
      · exact .inr (hfree _ (Nat.le_of_eq hb.symm))
      · obtain ⟨_, y, hy, hl⟩ := hb
        exact .inr (hfree _ (Nat.le_of_lt (x.above _ _ (mem_of_lookup hl))))
      · exact .inl hb
    cases r with
    | ret => cases hq with | ret i => exact ⟨g₂, O₂, _, Gf, i, hQ⟩
    | next => cases hq; exact ⟨g₂, O₂, _, Gf, .none, hQ⟩
end Lw
end
section
set_option autoImplicit false
set_option linter.unusedVariables false
set_option Elab.async false
namespace Lw
open PySem PySem.Calls PyProof.Rows PySem.W

noncomputable def freedObj : Obj := { cls := .none, data := .freed }
noncomputable def mask (h : Heap) (p : Nat → Bool) : Heap := ⟨h.objs.mapIdx fun i o => if p i then o else freedObj, h.life⟩
theorem mask_get (h : Heap) (p : Nat → Bool) (b : Addr) : (mask h p).get? b = if p b then h.get? b else none := by
  unfold mask Heap.get?
  simp only [Array.getElem?_mapIdx]
  cases q : h.objs[b]? with
  | none => simp
  | some o =>
    simp only [Option.map_some]
    cases p b <;> simp [freedObj]
theorem grow {g h : Heap} {a : Addr} {o : Obj} (k : Sub g h) (e : h.get? a = some o) : ∃ g', Sub g g' ∧ g'.get? a = some o ∧ Sub g' h ∧ ∀ b, b ≠ a → g'.get? b = g.get? b := by
  refine ⟨mask h fun b => (g.get? b).isSome || b == a, fun b o' q => ?_, ?_, fun b o' q => ?_, fun b hb => ?_⟩
  · rw [mask_get, q]; simp [k b o' q]
  · rw [mask_get]; simp [e]
  · rw [mask_get] at q
    split at q
    · exact q
    · cases q
  · rw [mask_get]
    cases q : g.get? b with
    | none => simp [hb]
    | some o' => simp [k b o' q]

section
variable {Γ : Gam} {A : Around} {O : Own}
/-- the state behind a new object that will not change again -/
theorem Go.alloc {g : Heap} {s : Shared} {o : Obj} (ok : Okb Γ g s O) (hf : o.isFreed = false) : ∃ g', Go Γ g s O g' { s with heap := s.heap.push o } O ∧ g'.get? s.heap.objs.size = some o := by
  have kp : Sub s.heap (s.heap.push o) := fun b o' e => Heap.get?_push_of_some _ e
  have ha : (s.heap.push o).get? s.heap.objs.size = some o := Heap.get?_push_size _ hf
  obtain ⟨g', k1, k2, k3, k4⟩ := grow (ok.keep.trans kp) ha
  have off : ∀ p ∈ O, p.1 ≠ s.heap.objs.size := fun p hp e => by
    obtain ⟨o', ho⟩ := (ok.own p hp).1.there
    exact absurd (Heap.lt_size ho) (by rw [e]; exact Nat.lt_irrefl _)
  refine ⟨g', ⟨⟨k3, ok.gam.up k1, fun p hp => ?_, ok.nd, ok.gens, ok.os⟩, ⟨fun b o' e _ => kp b o' e, k1, fun b o' e n => ?_⟩, .refl⟩, k2⟩
  · obtain ⟨a, b⟩ := ok.own p hp
    obtain ⟨o', ho⟩ := a.there
    exact ⟨(a.same (by rw [kp _ _ ho, ho])).up k1, by rw [k4 _ (off p hp)]; exact b⟩
  · by_cases q : b = s.heap.objs.size
    · refine .inl ?_
      cases z : s.heap.get? b with
      | none => rfl
      | some o' => exact absurd (Heap.lt_size z) (by rw [q]; exact Nat.lt_irrefl _)
    · rw [k4 b q, n] at e; cases e
/-- the state behind a new object of the call's own -/
theorem Go.allocO {g : Heap} {s : Shared} {o : Obj} {c : Cont} (ok : Okb Γ g s O) (hf : o.isFreed = false) (hc : Holds g (s.heap.push o) s.heap.objs.size c) : Go Γ g s O g { s with heap := s.heap.push o } ((s.heap.objs.size, c) :: O) := by
  have kp : Sub s.heap (s.heap.push o) := fun b o' e => Heap.get?_push_of_some _ e
  have off : ∀ p ∈ O, p.1 ≠ s.heap.objs.size := fun p hp e => by
    obtain ⟨o', ho⟩ := (ok.own p hp).1.there
    exact absurd (Heap.lt_size ho) (by rw [e]; exact Nat.lt_irrefl _)
  refine ⟨⟨ok.keep.trans kp, ok.gam, fun p hp => ?_, ?_, ok.gens, ok.os⟩, ⟨fun b o' e _ => kp b o' e, Sub.refl _, fun b o' e n => by rw [n] at e; cases e⟩, fun b hb => ?_⟩
  · rcases List.mem_cons.mp hp with rfl | hp
    · refine ⟨hc, ?_⟩
      cases q : g.get? s.heap.objs.size with
      | none => rfl
      | some o' => exact absurd (Heap.lt_size (ok.keep _ _ q)) (Nat.lt_irrefl _)
    · obtain ⟨a, b⟩ := ok.own p hp
      obtain ⟨o', ho⟩ := a.there
      exact ⟨a.same (by rw [kp _ _ ho, ho]), b⟩
  · rw [List.map_cons, List.nodup_cons]
    refine ⟨fun hm => ?_, ok.nd⟩
    obtain ⟨p, hp, e⟩ := List.mem_map.mp hm
    exact off p hp e
  · have hb : b ∈ s.heap.objs.size :: O.map (·.1) := hb
    rcases List.mem_cons.mp hb with q | q
    · refine .inr ?_
      cases z : s.heap.get? b with
      | none => rfl
      | some o' => exact absurd (Heap.lt_size z) (by rw [q]; exact Nat.lt_irrefl _)
    · exact .inl q
/-- a list of the call's own is let be from here on -/
theorem Go.freeze {g : Heap} {s : Shared} {a : Addr} {ds : List D} (ok : Okb Γ g s ((a, .list ds) :: O)) : ∃ g', Go Γ g s ((a, .list ds) :: O) g' s O ∧ In g' (.ref a) (.lst ds) := by
  obtain ⟨⟨vs, n, e, i⟩, hn⟩ := ok.own _ (.head _)
  obtain ⟨g', k1, k2, k3, k4⟩ := grow ok.keep e
  have nd := ok.nd
  rw [List.map_cons, List.nodup_cons] at nd
  have off : ∀ p ∈ O, p.1 ≠ a := fun p hp q => nd.1 (q ▸ List.mem_map_of_mem (f := (·.1)) hp)
  refine ⟨g', ⟨⟨k3, ok.gam.up k1, fun p hp => ?_, nd.2, ok.gens, ok.os⟩, ⟨fun b o' e _ => e, k1, fun b o' e n => ?_⟩, fun b hb => .inl (.tail _ hb)⟩, .lst k2 (i.up k1)⟩
  · obtain ⟨x, y⟩ := ok.own p (.tail _ hp)
    exact ⟨x.up k1, by rw [k4 _ (off p hp)]; exact y⟩
  · by_cases q : b = a
    · exact .inr (by rw [q]; exact .head _)
    · rw [k4 b q, n] at e; cases e
end

/-- expressions one behind the other -/
noncomputable def Evs (Γ : Gam) (A : Around) (env : Env) (ρ κ : Rho) (O : Own) (l : List Expr) (Q : List D → Own → Prop) : Prop :=
  ∀ pos g s, Okb Γ g s O → Frm env g s.heap O ρ κ → T Γ A (spliced (backTo pos (starEach l env))) InL g s O Q
/-- keyword arguments -/
noncomputable def EvK (Γ : Gam) (A : Around) (env : Env) (ρ κ : Rho) (O : Own) (l : List Keyword) (Q : List D → Own → Prop) : Prop :=
  ∀ pos g s, Okb Γ g s O → Frm env g s.heap O ρ κ → T Γ A (evalAll ((backToKw pos (keywordEach l env)).map (·.2))) InL g s O Q
/-- a call upon data -/
noncomputable def Ca (Γ : Gam) (A : Around) (O : Own) (f : Value) (ds : List D) (kws : List (Str × D)) (Q : D → Own → Prop) : Prop :=
  ∀ g s vs ks, Okb Γ g s O → InL g vs ds → InL g ks (kws.map (·.2)) → T Γ A (call f vs ((kws.map (·.1)).zip ks)) In g s O Q
noncomputable def Kp (Γ : Gam) (f : Value) : Prop := ∀ h, Γ.K.In h → ∃ k, (k = Keeper.frame ∨ k = Keeper.machine ∨ k = Keeper.boundFrame) ∧ Looks Γ.M h (keeperOf f) k
theorem Kp.bui {Γ : Gam} {id : String} : Kp Γ (.builtin id) := fun _ _ => ⟨.machine, .inr (.inl rfl), Looks.of_pure rfl⟩
theorem Kp.typ {Γ : Gam} {id : String} : Kp Γ (.type id) := fun _ _ => ⟨.machine, .inr (.inl rfl), Looks.of_pure rfl⟩
theorem Kp.fn {Γ : Gam} {f : Value} (h : keepIn Γ.K f = true) : Kp Γ f := keeps_K h

section
variable {Γ : Gam} {A : Around} {env : Env} {ρ κ : Rho} {O : Own}
theorem Cal.ca {n : Nat} {f : Value} {ds : List D} {kws : List (Str × D)} {Q : D → Own → Prop} (h : Cal Γ n f ds kws O Q) (r : Room A n) : Ca Γ A O f ds kws Q := fun g s vs ks ok i j => (h A g s vs ks r ok i j).call
theorem Ev.mono {e : Expr} {Q Q' : D → Own → Prop} (h : Ev Γ A env ρ κ O e Q) (k : ∀ d O', Q d O' → Q' d O') : Ev Γ A env ρ κ O e Q' := fun g s ok F => (h g s ok F).mono k
theorem Evs.nil {Q : List D → Own → Prop} (q : Q [] O) : Evs Γ A env ρ κ O [] Q := fun pos g s ok F => spliced_nil ⟨g, O, [], .refl ok, .nil, q⟩
theorem Evs.cons {e : Expr} {rest : List Expr} {Q : List D → Own → Prop} (h : Ev Γ A env ρ κ O e fun d O₁ => Evs Γ A env ρ κ O₁ rest fun ds O₂ => Q (d :: ds) O₂) (he : starEach (e :: rest) env = (false, eval e env) :: starEach rest env := by rfl) : Evs Γ A env ρ κ O (e :: rest) Q := fun pos g s ok F => by
  rw [he]
  exact spliced_cons (wpAny_mono (h g s ok F) (fun v s₁ ⟨g₁, O₁, d, G₁, i, h₁⟩ => wpAny_mono (h₁ pos g₁ s₁ G₁.ok (F.go G₁)) (fun vs s₂ ⟨g₂, O₂, ds, G₂, is, q⟩ => ⟨g₂, O₂, _, G₁.trans G₂, .cons (i.up G₂.to.up) is, q⟩) fun _ _ e => e) fun _ _ e => e)
theorem EvK.one {x : Option Str} {e : Expr} {kp : Pos} {Q : List D → Own → Prop} (h : Ev Γ A env ρ κ O e fun d O₁ => Q [d] O₁) : EvK Γ A env ρ κ O [⟨x, e, kp⟩] Q := fun pos g s ok F => by
  show wpAny _ _ (evalAll [eval e env >>= fun v => standAt pos >>= fun _ => pure v]) _ _ _
  unfold evalAll
  refine wpAny_bind (wpAny_bind (wpAny_mono (h g s ok F) (fun v s₁ ⟨g₁, O₁, d, G₁, i, q⟩ => wpAny_bind (wpAny_standAt (wpAny_pure ?_))) fun _ _ e => e))
  exact wpAny_bind (wpAny_holding (wpAny_pure (wpAny_pure ⟨g₁, O₁, _, G₁, .cons i .nil, q⟩)))

theorem evArgs {f : Value} {l : List (Bool × Sem Value)} {s : Shared} {E : Value → Shared → Prop} {Q : Args → Shared → Prop} (hp : l.any (·.1) = false) (h : wpAny Γ.M A (spliced l) (fun vs s' => Q ⟨vs, []⟩ s') E s) : wpAny Γ.M A (evalArgs f true l []) Q E s := by
  cases l with
  | nil =>
    unfold evalArgs
    show wpAny Γ.M A (spliced [] >>= _) Q E s
    refine wpAny_bind (wpAny_mono h (fun vs s' h' => ?_) fun _ _ e => e)
    refine wpAny_bind (wpAny_pure ?_)
    refine wpAny_holding ?_
    exact wpAny_bind (wpAny_pure (wpAny_bind (wpAny_pure (wpAny_pure h'))))
  | cons x r =>
    obtain ⟨b, t⟩ := x
    have : b = false := (Bool.or_eq_false_iff.mp hp).1
    subst this
    exact evalArgs_plain h

theorem callKp {pos : Pos} {f : Value} {first : List Value} {l : List (Bool × Sem Value)} {s : Shared} {E : Value → Shared → Prop} {Q : Value → Shared → Prop} (hk : Kp Γ f) (hp : l.any (·.1) = false)
    (h : wpAny Γ.M A (spliced l) (fun vs s' => Γ.K.In s'.heap ∧ wpAny Γ.M A (call f (first ++ vs)) Q E s') E s) : wpAny Γ.M A (callWith pos f first l []) Q E s :=
  callWith_of (P := Γ.K.In) (by rw [hp]; rfl) hk (evArgs hp h)
theorem Okb.kin {g : Heap} {s : Shared} (ok : Okb Γ g s O) : Γ.K.In s.heap := fun a o e => ok.keep _ _ (ok.gam.kin a o e)
noncomputable abbrev NoStar (env : Env) (l : List Expr) : Prop := ∀ pos, (backTo pos (starEach l env)).any (·.1) = false

/-- the tail of a call: the arguments, then the call -/
theorem callTail {pos : Pos} {f : Value} {first : List Value} {fd : List D} {args : List Expr} {g : Heap} {s : Shared} {Q : D → Own → Prop} (ok : Okb Γ g s O) (F : Frm env g s.heap O ρ κ) (ifst : InL g first fd) (hk : Kp Γ f) (hp : NoStar env args)
    (h : Evs Γ A env ρ κ O args fun ds O₂ => Ca Γ A O₂ f (fd ++ ds) [] Q) : T Γ A (callWith pos f first (backTo pos (starEach args env)) []) In g s O Q :=
  callKp hk (hp pos) (wpAny_mono (h pos g s ok F) (fun vs s₂ ⟨g₂, O₂, ds, G₂, is, q⟩ => ⟨G₂.ok.kin, wpAny_mono (q g₂ s₂ (first ++ vs) [] G₂.ok ((ifst.up G₂.to.up).append is) .nil) (fun u s₃ ⟨g₃, O₃, c, G₃, ic, q⟩ => ⟨g₃, O₃, c, G₂.trans G₃, ic, q⟩) fun _ _ e => e⟩) fun _ _ e => e)

theorem Ev.call {x : Str} {p pos : Pos} {args : List Expr} {Q : D → Own → Prop} (h : Ev Γ A env ρ κ O (.Name x p) fun df O₁ => ∃ f, df = .v f ∧ Kp Γ f ∧ Evs Γ A env ρ κ O₁ args fun ds O₂ => Ca Γ A O₂ f ds [] Q) (hp : NoStar env args := by intro _; rfl) :
    Ev Γ A env ρ κ O (.Call (.Name x p) args [] pos) Q := fun g s ok F =>
  wpAny_bind (wpAny_mono (h g s ok F) (fun v s₁ ⟨g₁, O₁, d, G₁, i, f, e, hk, h₁⟩ => by
    subst e; cases i
    exact wpAny_mono (callTail (first := []) (fd := []) G₁.ok (F.go G₁) .nil hk hp h₁) (fun u s₃ ⟨g₃, O₃, c, G₃, ic, q⟩ => ⟨g₃, O₃, c, G₁.trans G₃, ic, q⟩) fun _ _ e => e) fun _ _ e => e)

/-- a method looked up on a value -/
noncomputable def GetM (Γ : Gam) (A : Around) (O : Own) (name : Str) (d : D) (K : Value → List D → Own → Prop) : Prop :=
  ∀ pl g s v, Okb Γ g s O → In g v d → wpAny Γ.M A (getMethod v name pl) (fun fx s' => ∃ g' O' fd, Go Γ g s O g' s' O' ∧ InL g' fx.2 fd ∧ K fx.1 fd O') (fun _ _ => False) s
noncomputable def MethForm (o : Expr) (name : Str) (apos pos : Pos) (args : List Expr) (kws : List Keyword) (env : Env) : Prop :=
  ∃ pl, eval (.Call (.Attribute o name apos) args kws pos) env = (do
      let ov ← eval o env
      standAt apos.atName
      let (f, first) ← holding [ov] (getMethod ov name pl)
      callWith pos f first (backTo pos (starEach args env)) (backToKw pos (keywordEach kws env)))
theorem Ev.meth {o : Expr} {name : Str} {apos pos : Pos} {args : List Expr} {Q : D → Own → Prop} (h : Ev Γ A env ρ κ O o fun d O₁ => GetM Γ A O₁ name d fun f fd O₂ => Kp Γ f ∧ Evs Γ A env ρ κ O₂ args fun ds O₃ => Ca Γ A O₃ f (fd ++ ds) [] Q)
    (hm : MethForm o name apos pos args [] env := by exact ⟨_, rfl⟩) (hp : NoStar env args := by intro _; rfl) : Ev Γ A env ρ κ O (.Call (.Attribute o name apos) args [] pos) Q := fun g s ok F => by
  obtain ⟨pl, he⟩ := hm
  unfold T
  rw [he]
  refine wpAny_bind (wpAny_mono (h g s ok F) (fun v s₁ ⟨g₁, O₁, d, G₁, i, h₁⟩ => wpAny_bind (wpAny_standAt (wpAny_bind (wpAny_holding (wpAny_mono (h₁ pl g₁ s₁ v G₁.ok i) (fun fx s₂ ⟨g₂, O₂, fd, G₂, ifd, hk, h₂⟩ => ?_) fun _ _ e => e))))) fun _ _ e => e)
  exact wpAny_mono (callTail G₂.ok (F.go (G₁.trans G₂)) ifd hk hp h₂) (fun u s₃ ⟨g₃, O₃, c, G₃, ic, q⟩ => ⟨g₃, O₃, c, (G₁.trans G₂).trans G₃, ic, q⟩) fun _ _ e => e

/-- an attribute read -/
noncomputable def GetA (Γ : Gam) (A : Around) (O : Own) (name : Str) (d : D) (Q : D → Own → Prop) : Prop := Op1 Γ A O (fun v => getAttr v name true) d Q
noncomputable def AttrForm (value : Expr) (attr : Str) (pos : Pos) (env : Env) : Prop := eval (.Attribute value attr pos) env = (do
      let o ← eval value env
      standAt pos.atName
      let r ← holding [o] (getAttr o attr true)
      letTemporaryGo value o r
      pure r)
theorem Ev.attr {value : Expr} {attr : Str} {pos : Pos} {Q : D → Own → Prop} (h : Ev Γ A env ρ κ O value fun d O₁ => GetA Γ A O₁ attr d Q) (he : AttrForm value attr pos env := by rfl) : Ev Γ A env ρ κ O (.Attribute value attr pos) Q := fun g s ok F => by
  unfold T
  rw [he]
  refine wpAny_bind (wpAny_mono (h g s ok F) (fun v s₁ ⟨g₁, O₁, d, G₁, i, h₁⟩ => wpAny_bind (wpAny_standAt (wpAny_bind (wpAny_holding (wpAny_mono (h₁ g₁ s₁ v G₁.ok i) (fun u s₂ ⟨g₂, O₂, c, G₂, ic, q⟩ => ?_) fun _ _ e => e))))) fun _ _ e => e)
  exact wpAny_bind (wpAny_letTemporaryGo (wpAny_pure ⟨g₂, O₂, c, G₁.trans G₂, ic, q⟩))
theorem Ev.sub {value slice : Expr} {pos : Pos} {Q : D → Own → Prop} (h : Ev Γ A env ρ κ O value fun a O₁ => Ev Γ A env ρ κ O₁ slice fun b O₂ => Op2 Γ A O₂ (subscriptTail value slice) a b Q) : Ev Γ A env ρ κ O (.Subscript value slice pos) Q := fun g s ok F =>
  Subscript_ (wpAny_mono (h g s ok F) (fun v s₁ ⟨g₁, O₁, a, G₁, ia, h₁⟩ => wpAny_mono (h₁ g₁ s₁ G₁.ok (F.go G₁)) (fun w s₂ ⟨g₂, O₂, b, G₂, ib, h₂⟩ =>
    wpAny_mono (h₂ g₂ s₂ v w G₂.ok (ia.up G₂.to.up) ib) (fun u s₃ ⟨g₃, O₃, c, G₃, ic, q⟩ => ⟨g₃, O₃, c, (G₁.trans G₂).trans G₃, ic, q⟩) fun _ _ e => e) fun _ _ e => e) fun _ _ e => e)

theorem newTuple_T {g : Heap} {s : Shared} {vs : List Value} {ds : List D} {Q : D → Own → Prop} (ok : Okb Γ g s O) (is : InL g vs ds) (hl : ds.length ≤ sizeLine) (q : Q (.tup ds) O) : T Γ A (newTuple vs) In g s O Q := by
  obtain ⟨g', G, e⟩ := Go.alloc (o := tupObj vs.toArray 0) ok rfl
  exact wpAny_newObj_type (⟨g', O, _, G, .tup e (by rw [List.toList_toArray]; exact is.up G.to.up), q⟩) (by show vs.toArray.size ≤ sizeLine; rw [List.size_toArray, is.length]; exact hl)
theorem newList_T {g : Heap} {s : Shared} {vs : List Value} {ds : List D} {Q : D → Own → Prop} (ok : Okb Γ g s O) (is : InL g vs ds) (hl : ds.length ≤ sizeLine) (q : Q (.lst ds) O) : T Γ A (newList vs) In g s O Q := by
  obtain ⟨g', G, e⟩ := Go.alloc (o := lstObj vs.toArray 0) ok rfl
  exact wpAny_newObj_type (⟨g', O, _, G, .lst e (by rw [List.toList_toArray]; exact is.up G.to.up), q⟩) (by show vs.toArray.size ≤ sizeLine; rw [List.size_toArray, is.length]; exact hl)
theorem newListO_T {g : Heap} {s : Shared} {vs : List Value} {ds : List D} {Q : D → Own → Prop} (ok : Okb Γ g s O) (is : InL g vs ds) (hl : ds.length ≤ sizeLine) (q : ∀ a, Q (.v (.ref a)) ((a, .list ds) :: O)) : T Γ A (newList vs) In g s O Q := by
  have G := Go.allocO (o := lstObj vs.toArray 0) (c := .list ds) ok rfl ⟨vs.toArray, 0, Heap.get?_push_size _ rfl, by rw [List.toList_toArray]; exact is⟩
  exact wpAny_newObj_type (⟨g, _, _, G, .v _, q _⟩) (by show vs.toArray.size ≤ sizeLine; rw [List.size_toArray, is.length]; exact hl)
theorem Ev.tup {elts : List Expr} {k : Nat} {pos : Pos} {Q : D → Own → Prop} (h : Evs Γ A env ρ κ O elts fun ds O₁ => ds.length ≤ sizeLine ∧ Q (.tup ds) O₁) : Ev Γ A env ρ κ O (.Tuple elts k pos) Q := fun g s ok F =>
  Tuple_ (wpAny_mono (h pos g s ok F) (fun vs s₁ ⟨g₁, O₁, ds, G₁, is, hl, q⟩ => wpAny_mono (newTuple_T G₁.ok is hl q) (fun u s₃ ⟨g₃, O₃, c, G₃, ic, q⟩ => ⟨g₃, O₃, c, G₁.trans G₃, ic, q⟩) fun _ _ e => e) fun _ _ e => e)
theorem Ev.lst {elts : List Expr} {pos : Pos} {Q : D → Own → Prop} (h : Evs Γ A env ρ κ O elts fun ds O₁ => ds.length ≤ sizeLine ∧ Q (.lst ds) O₁) : Ev Γ A env ρ κ O (.List elts pos) Q := fun g s ok F =>
  List_ (wpAny_mono (h pos g s ok F) (fun vs s₁ ⟨g₁, O₁, ds, G₁, is, hl, q⟩ => wpAny_mono (newList_T G₁.ok is hl q) (fun u s₃ ⟨g₃, O₃, c, G₃, ic, q⟩ => ⟨g₃, O₃, c, G₁.trans G₃, ic, q⟩) fun _ _ e => e) fun _ _ e => e)
theorem Ev.lstO {elts : List Expr} {pos : Pos} {Q : D → Own → Prop} (h : Evs Γ A env ρ κ O elts fun ds O₁ => ds.length ≤ sizeLine ∧ ∀ a, Q (.v (.ref a)) ((a, .list ds) :: O₁)) : Ev Γ A env ρ κ O (.List elts pos) Q := fun g s ok F =>
  List_ (wpAny_mono (h pos g s ok F) (fun vs s₁ ⟨g₁, O₁, ds, G₁, is, hl, q⟩ => wpAny_mono (newListO_T G₁.ok is hl q) (fun u s₃ ⟨g₃, O₃, c, G₃, ic, q⟩ => ⟨g₃, O₃, c, G₁.trans G₃, ic, q⟩) fun _ _ e => e) fun _ _ e => e)

/-- a test by a value's truth -/
theorem Te.val {e : Expr} {Q : Bool → Own → Prop} (h : Ev Γ A env ρ κ O e fun d O₁ => Tr Γ A O₁ d Q) (he : isTrue e env (eval e env) = (do let v ← eval e env; standAt e.pos; holding [v] (truthy v))) : Te Γ A env ρ κ O e Q := fun g s ok F => by
  unfold T
  rw [he]
  exact wpAny_bind (wpAny_mono (h g s ok F) (fun v s₁ ⟨g₁, O₁, d, G₁, i, h₁⟩ => wpAny_bind (wpAny_standAt (wpAny_holding (wpAny_mono (h₁ g₁ s₁ v G₁.ok i) (fun b s₂ ⟨g₂, O₂, c, G₂, ic, q⟩ => ⟨g₂, O₂, c, G₁.trans G₂, ic, q⟩) fun _ _ e => e)))) fun _ _ e => e)
noncomputable def Tes (Γ : Gam) (A : Around) (env : Env) (ρ κ : Rho) (O : Own) (op : BoolOp) (l : List Expr) (Q : Bool → Own → Prop) : Prop :=
  ∀ g s, Okb Γ g s O → Frm env g s.heap O ρ κ → T Γ A (allTrue op l env) (fun _ b c => b = c) g s O Q
theorem Te.bool {op : BoolOp} {l : List Expr} {pos : Pos} {Q : Bool → Own → Prop} (h : Tes Γ A env ρ κ O op l Q) : Te Γ A env ρ κ O (.BoolOp op l pos) Q := fun g s ok F => h g s ok F
theorem Tes.andNil {Q : Bool → Own → Prop} (q : Q true O) : Tes Γ A env ρ κ O .And [] Q := fun g s ok F => wpAny_pure ⟨g, O, true, .refl ok, rfl, q⟩
theorem Tes.and {x : Expr} {rest : List Expr} {Q : Bool → Own → Prop} (h : Te Γ A env ρ κ O x fun b O₁ => if b then Tes Γ A env ρ κ O₁ .And rest Q else Q false O₁) : Tes Γ A env ρ κ O .And (x :: rest) Q := fun g s ok F =>
  wpAny_bind (wpAny_mono (h g s ok F) (fun b s₁ ⟨g₁, O₁, d, G₁, i, h₁⟩ => by
    subst i
    cases b with
    | true => exact wpAny_mono (h₁ g₁ s₁ G₁.ok (F.go G₁)) (fun b s₂ ⟨g₂, O₂, c, G₂, ic, q⟩ => ⟨g₂, O₂, c, G₁.trans G₂, ic, q⟩) fun _ _ e => e
    | false => exact wpAny_pure ⟨g₁, O₁, false, G₁, rfl, h₁⟩) fun _ _ e => e)
end
end Lw
end
section
set_option autoImplicit false
set_option linter.unusedVariables false
set_option Elab.async false
namespace Lw
open PySem PySem.Calls PyProof.Rows PySem.W
theorem InL.one {g : Heap} {vs : List Value} {d : D} (h : InL g vs [d]) : ∃ v, vs = [v] ∧ In g v d := by
  cases h with | cons a r => cases r with | nil => exact ⟨_, rfl, a⟩
theorem InL.two {g : Heap} {vs : List Value} {d e : D} (h : InL g vs [d, e]) : ∃ v w, vs = [v, w] ∧ In g v d ∧ In g w e := by
  cases h with | cons a r => obtain ⟨w, rfl, b⟩ := r.one; exact ⟨_, w, rfl, a, b⟩
theorem InL.three {g : Heap} {vs : List Value} {d e f : D} (h : InL g vs [d, e, f]) : ∃ v w u, vs = [v, w, u] ∧ In g v d ∧ In g w e ∧ In g u f := by
  cases h with | cons a r => obtain ⟨w, u, rfl, b, c⟩ := r.two; exact ⟨_, w, u, rfl, a, b, c⟩
theorem InL.nil' {g : Heap} {vs : List Value} (h : InL g vs []) : vs = [] := by cases h; rfl
/-- int(x) of a float -/
noncomputable def ftrunc (x : UInt64) : Option Int := match Float64.decode x with
  | .fin sg m e => some (Float64.truncOf sg m e)
  | _ => none
section
variable {Γ : Gam} {A : Around} {O : Own}
theorem Ca.plain1 {f : Value} {a : D} {Q : D → Own → Prop} (h : Op1 Γ A O (fun v => call f [v]) a Q) : Ca Γ A O f [a] [] Q := fun g s vs ks ok iv ik => by
  obtain ⟨v, rfl, i⟩ := iv.one
  exact h g s v ok i
theorem Ca.plain2 {f : Value} {a b : D} {Q : D → Own → Prop} (h : Op2 Γ A O (fun v w => call f [v, w]) a b Q) : Ca Γ A O f [a, b] [] Q := fun g s vs ks ok iv ik => by
  obtain ⟨v, w, rfl, i, j⟩ := iv.two
  exact h g s v w ok i j
theorem Ca.intF {x : UInt64} {i : Int} {Q : D → Own → Prop} (h : ftrunc x = some i) (q : Q (.int i) O) : Ca Γ A O (.type "int") [.flt x] [] Q := Ca.plain1 fun g s v ok iv => by
  cases iv
  unfold ftrunc at h
  split at h
  · rename_i sg m e hd
    cases h
    exact call_int_float hd (T.val ok _ (.int _ _) q)
  · cases h
end
end Lw
end
section
set_option autoImplicit false
set_option linter.unusedVariables false
set_option Elab.async false
set_option maxRecDepth 100000
namespace Lw
open PySem PySem.Calls PyProof.Rows PySem.W

section
variable {Γ : Gam} {A : Around} {O : Own}
theorem Go.sub {g h' : Heap} {s : Shared} (ok : Okb Γ g s O) (k : Sub s.heap h') (t : Nat) : Go Γ g s O g { s with heap := h', toks := t } O :=
  ⟨⟨ok.keep.trans k, ok.gam, fun p hp => by
    obtain ⟨a, b⟩ := ok.own p hp
    obtain ⟨o, ho⟩ := a.there
    exact ⟨a.same (by rw [k _ _ ho, ho]), b⟩, ok.nd, ok.gens, ok.os⟩, ⟨fun b o e _ => k b o e, Sub.refl _, fun b o e n => by rw [n] at e; cases e⟩, .refl⟩
/-- one of the changeable objects turns -/
inductive OUp : Own → Addr → Cont → Cont → Own → Prop
  | here {a : Addr} {c c' : Cont} {r : Own} : OUp ((a, c) :: r) a c c' ((a, c') :: r)
  | there {a : Addr} {c c' : Cont} {p : Addr × Cont} {r r' : Own} : OUp r a c c' r' → OUp (p :: r) a c c' (p :: r')
theorem OUp.mem {O O' : Own} {a : Addr} {c c' : Cont} (h : OUp O a c c' O') : (a, c) ∈ O := by
  induction h with
  | here => exact .head _
  | there _ ih => exact .tail _ ih
theorem OUp.keys {O O' : Own} {a : Addr} {c c' : Cont} (h : OUp O a c c' O') : O'.map (·.1) = O.map (·.1) := by
  induction h with
  | here => rfl
  | there _ ih => rw [List.map_cons, List.map_cons, ih]
theorem OUp.new {O O' : Own} {a : Addr} {c c' : Cont} (h : OUp O a c c' O') (nd : (O.map (·.1)).Nodup) {p : Addr × Cont} (hp : p ∈ O') : p = (a, c') ∨ (p ∈ O ∧ p.1 ≠ a) := by
  induction h with
  | here =>
    rw [List.map_cons, List.nodup_cons] at nd
    rcases List.mem_cons.mp hp with q | q
    · exact .inl q
    · exact .inr ⟨.tail _ q, fun e => nd.1 (e ▸ List.mem_map_of_mem (f := (·.1)) q)⟩
  | there h ih =>
    rw [List.map_cons, List.nodup_cons] at nd
    rcases List.mem_cons.mp hp with q | q
    · subst q
      exact .inr ⟨.head _, fun e => nd.1 (by rw [e]; exact List.mem_map_of_mem (f := (·.1)) h.mem)⟩
    · rcases ih nd.2 q with z | ⟨z, w⟩
      · exact .inl z
      · exact .inr ⟨.tail _ z, w⟩
theorem Go.turn {g h' : Heap} {s : Shared} {O' : Own} {a : Addr} {c c' : Cont} (ok : Okb Γ g s O) (u : OUp O a c c' O') (hs : Heap.SameBut a s.heap h') (hc : Holds g h' a c') (t : Nat) : Go Γ g s O g { s with heap := h', toks := t } O' := by
  have ga := (ok.own _ u.mem).2
  refine ⟨⟨fun b o e => (hs.2 b (fun z => by rw [z, ga] at e; cases e)).trans (ok.keep b o e), ok.gam, fun p hp => ?_, by rw [u.keys]; exact ok.nd, ok.gens, ok.os⟩, .but hs (List.mem_map_of_mem (f := (·.1)) u.mem) t, fun b hb => .inl (by show b ∈ O.map (·.1); rw [← u.keys]; exact hb)⟩
  rcases u.new ok.nd hp with rfl | ⟨z, w⟩
  · exact ⟨hc, ga⟩
  · exact ⟨(ok.own p z).1.same (hs.2 p.1 w), (ok.own p z).2⟩
/-- a list, let be or of the call's own -/
inductive LstOf (O : Own) : D → List D → Prop
  | frz {ds : List D} : LstOf O (.lst ds) ds
  | own {a : Addr} {ds : List D} : (a, .list ds) ∈ O → LstOf O (.v (.ref a)) ds
theorem LstOf.at {g : Heap} {s : Shared} {d : D} {ds : List D} {v : Value} (h : LstOf O d ds) (ok : Okb Γ g s O) (i : In g v d) : ∃ a vs n, v = .ref a ∧ s.heap.get? a = some (lstObj vs n) ∧ InL g vs.toList ds := by
  cases h with
  | frz => cases i with | lst e r => exact ⟨_, _, _, rfl, ok.keep _ _ e, r⟩
  | own m =>
    cases i
    obtain ⟨⟨vs, n, e, r⟩, _⟩ := ok.own _ m
    exact ⟨_, vs, n, rfl, e, r⟩
theorem isList_of {h : Heap} {a : Addr} {vs : Array Value} {n : Nat} (e : h.get? a = some (lstObj vs n)) : h.IsList a vs := ⟨_, e, rfl, n, rfl⟩
theorem isTuple_of {h : Heap} {a : Addr} {vs : Array Value} {n : Nat} (e : h.get? a = some (tupObj vs n)) : h.IsTuple a vs := ⟨_, e, rfl, n, rfl⟩

theorem Ca.len {d : D} {ds : List D} {Q : D → Own → Prop} (l : LstOf O d ds) (hf : ds.length < 2 ^ 62) (q : Q (.int ds.length) O) : Ca Γ A O (.builtin "len") [d] [] Q := Ca.plain1 fun g s v ok iv => by
  obtain ⟨a, vs, n, rfl, e, r⟩ := l.at ok iv
  have hz : vs.size = ds.length := by rw [← r.length, Array.length_toList]
  exact call_len_list (isList_of e) (by rw [hz]; omega) (by rw [hz]; exact T.val ok _ (.int _ _) q)
theorem Ca.tupL {d : D} {ds : List D} {Q : D → Own → Prop} (l : LstOf O d ds) (hf : ds.length ≤ sizeLine) (q : Q (.tup ds) O) : Ca Γ A O (.type "tuple") [d] [] Q := Ca.plain1 fun g s v ok iv => by
  obtain ⟨a, vs, n, rfl, e, r⟩ := l.at ok iv
  have hz : vs.size = ds.length := by rw [← r.length, Array.length_toList]
  refine call_tuple_list (isList_of e) (fun h' k => ?_) (by rw [hz]; exact hf)
  have G₁ := Go.sub ok k s.toks
  obtain ⟨g', G₂, e'⟩ := Go.alloc (o := tupObj vs 0) G₁.ok rfl
  exact ⟨g', O, .tup ds, G₁.trans G₂, .tup e' (r.up G₂.to.up), q⟩
theorem Ca.append {a : Addr} {d : D} {ds : List D} {O' : Own} {Q : D → Own → Prop} (u : OUp O a (.list ds) (.list (ds ++ [d])) O') (hf : ds.length ≤ sizeLine) (q : Q .none O') : Ca Γ A O (.builtin "list.append") [.v (.ref a), d] [] Q := Ca.plain2 fun g s v w ok iv iw => by
  cases iv
  obtain ⟨⟨vs, n, e, r⟩, ga⟩ := ok.own _ u.mem
  have hz : vs.size = ds.length := by rw [← r.length, Array.length_toList]
  refine append_at e (fun h' hs e' => ⟨g, O', .none, Go.turn ok u hs ⟨_, _, e', by rw [Array.toList_push]; exact r.append (.cons iw .nil)⟩ _, .none, q⟩) (by rw [hz]; exact hf)
theorem setNth {g : Heap} : ∀ {vs : List Value} {ds : List D}, InL g vs ds → ∀ (i : Nat) {w : Value} {e : D}, In g w e → InL g (vs.set i w) (ds.set i e)
  | _, _, .nil, i, w, e, h => by simp; exact .nil
  | _, _, .cons a r, 0, w, e, h => .cons h r
  | _, _, .cons a r, i + 1, w, e, h => .cons a (setNth r i h)
/-- o[i] = v -/
noncomputable def Op3 (Γ : Gam) (A : Around) (O : Own) (f : Value → Value → Value → Sem Unit) (a b c : D) (Q : Own → Prop) : Prop :=
  ∀ g s v w u, Okb Γ g s O → In g v a → In g w b → In g u c → T Γ A (f v w u) (fun _ _ _ => True) g s O (fun (_ : Unit) O' => Q O')
theorem Op3.setL {a : Addr} {k : Int} {d : D} {ds : List D} {O' : Own} {Q : Own → Prop} (h0 : 0 ≤ k) (h1 : k < ds.length) (h2 : k < 2 ^ 63) (u : OUp O a (.list ds) (.list (ds.set k.toNat d)) O') (q : Q O') : Op3 Γ A O setItem (.v (.ref a)) (.int k) d Q := fun g s v w z ok iv iw iz => by
  cases iv; cases iw
  obtain ⟨⟨vs, n, e, r⟩, ga⟩ := ok.own _ u.mem
  have hz : vs.size = ds.length := by rw [← r.length, Array.length_toList]
  refine ki_setAt e h0 h2 (by rw [hz]; exact h1) ⟨g, O', (), Go.turn ok u (Heap.SameBut.update ..) ⟨_, _, PySem.IsL.update e _, ?_⟩ _, trivial, q⟩
  rw [Array.toList_setIfInBounds]
  exact setNth r _ iz
/-- the sum stands as a list of the call's own -/
theorem Op2.addLO {x y : D} {ds es : List D} {Q : D → Own → Prop} (l : LstOf O x ds) (m : LstOf O y es) (hf : ds.length + es.length ≤ sizeLine) (q : ∀ c, Q (.v (.ref c)) ((c, .list (ds ++ es)) :: O)) : Op2 Γ A O (binaryOp .Add) x y Q := fun g s v w ok i j => by
  obtain ⟨a, vs, n, rfl, e, r⟩ := l.at ok i
  obtain ⟨b, ws, k, rfl, e2, r2⟩ := m.at ok j
  have hz : vs.size = ds.length := by rw [← r.length, Array.length_toList]
  have hz2 : ws.size = es.length := by rw [← r2.length, Array.length_toList]
  refine concat_meets ⟨_, e, rfl⟩ ⟨_, e2, rfl⟩ noFill_list_add seq_list_add PySem.F.slot_list_add PySem.F.entry_list_add (PySem.F.args_list_add_2 _ _) (list_addW a b vs ws n k none none #[] #[] (by rw [hz, hz2]; exact hf)) ⟨e, e2, ?_⟩
  have G := Go.allocO (o := lstObj (vs ++ ws) 0) (c := .list (ds ++ es)) ok rfl ⟨_, 0, Heap.get?_push_size _ rfl, by rw [Array.toList_append]; exact r.append r2⟩
  exact ⟨g, _, _, G, .v _, q _⟩
theorem Op2.mulL1 {x : D} {e : D} {k : Int} {Q : D → Own → Prop} (l : LstOf O x [e]) (h0 : 0 ≤ k) (h1 : k ≤ 1000000) (q : Q (.lst (List.replicate k.toNat e)) O) : Op2 Γ A O (binaryOp .Mult) x (.int k) Q := fun g s v w ok i j => by
  obtain ⟨a, vs, n, rfl, he, r⟩ := l.at ok i
  cases j
  obtain ⟨v1, hv1, i1⟩ := r.one
  obtain ⟨vl⟩ := vs
  dsimp only at hv1
  subst hv1
  have hsz : (Array.mk [v1]).size = 1 := rfl
  refine wpAny_binaryOp_repeat_ref (T := "list") (U := "int") (by decide) ⟨_, he, rfl⟩ (fun s' => typeIs_int s' k _) noFill_list_mul F.fills_int_mul F.slot_int_rmul repeat_list F.slot_int_index.lookup
    (call_meets F.slot_int_rmul (typeIs_int s k _) F.entry_int_rmul (F.args_int_rmul_2 _ _) (int___rmul___int_list k _ a _ n)
      ⟨he, rfl, ⟨_, he, rfl⟩, call_meets F.slot_list_mul ⟨_, he, rfl⟩ F.entry_list_mul (F.args_list_mul_2 _ _)
        (AutoListH.list___mul___list_int_3 a _ n k _ (by simp [Builtin.List.listFitsIndex]; omega) (by rw [hsz]; omega) (by unfold Builtin.List.listTooLong sizeLine; rw [hsz]; simp; omega))
        ⟨he, ?_⟩⟩)
  have hrep : ∀ (m : Nat), InL g (List.foldl (fun x1 x2 => x1 ++ x2) (#[] : Array Value) (List.replicate m #[v1])).toList (List.replicate m e) := by
    have : ∀ (m : Nat) (acc : Array Value) (ds : List D), InL g acc.toList ds → InL g (List.foldl (fun x1 x2 => x1 ++ x2) acc (List.replicate m #[v1])).toList (ds ++ List.replicate m e) := by
      intro m
      induction m with
      | zero => intro acc ds h; simpa using h
      | succ m ih =>
        intro acc ds h
        rw [List.replicate_succ, List.foldl_cons, List.replicate_succ]
        have := ih (acc ++ #[v1]) (ds ++ [e]) (by rw [Array.toList_append]; exact h.append (.cons i1 .nil))
        rwa [List.append_assoc] at this
    intro m
    simpa using this m #[] [] .nil
  obtain ⟨g', G, e'⟩ := Go.alloc (o := lstObj (List.foldl (fun x1 x2 => x1 ++ x2) #[] (List.replicate (if (#[v1] : Array Value).isEmpty = true then 0 else k.toNat) #[v1])) 0) ok rfl
  exact ⟨g', O, _, G, .lst e' ((hrep _).up G.to.up), by simpa using q⟩
end
end Lw
end
section
set_option autoImplicit false
set_option linter.unusedVariables false
set_option Elab.async false
namespace Lw
open PySem PySem.Calls PyProof.Rows PySem.W

inductive OptIn (g : Heap) : Option Value → Option D → Prop
  | none : OptIn g none none
  | some {v : Value} {d : D} : In g v d → OptIn g (some v) (some d)
inductive ODel : Own → Addr → Own → Prop
  | here {a : Addr} {c : Cont} {r : Own} : ODel ((a, c) :: r) a r
  | there {a : Addr} {p : Addr × Cont} {r r' : Own} : ODel r a r' → ODel (p :: r) a (p :: r')
theorem ODel.sub {O O' : Own} {a : Addr} (h : ODel O a O') : O'.Sublist O := by
  induction h with
  | here => exact List.sublist_cons_self _ _
  | there _ ih => exact ih.cons_cons _
theorem ODel.in {O O' : Own} {a : Addr} (h : ODel O a O') : a ∈ O.map (·.1) := by
  induction h with
  | here => exact .head _
  | there _ ih => exact .tail _ ih
theorem ODel.ne {O O' : Own} {a : Addr} (h : ODel O a O') (nd : (O.map (·.1)).Nodup) : ∀ p ∈ O', p.1 ≠ a := by
  induction h with
  | here =>
    rw [List.map_cons, List.nodup_cons] at nd
    exact fun p hp e => nd.1 (e ▸ List.mem_map_of_mem (f := (·.1)) hp)
  | there h ih =>
    rw [List.map_cons, List.nodup_cons] at nd
    intro p hp e
    rcases List.mem_cons.mp hp with rfl | hp
    · exact nd.1 (e ▸ h.in)
    · exact ih nd.2 p hp e
section
variable {Γ : Gam} {A : Around} {O : Own}
theorem Go.del {g h' : Heap} {s : Shared} {O' : Own} {a : Addr} (ok : Okb Γ g s O) (u : ODel O a O') (hs : Heap.ExtBut a s.heap h') : Go Γ g s O g { s with heap := h' } O' := by
  have ha : g.get? a = none := by
    obtain ⟨p, hp, e⟩ := List.mem_map.mp u.in
    exact e ▸ (ok.own p hp).2
  refine ⟨⟨fun b o e => hs b o (fun z => by rw [z, ha] at e; cases e) (ok.keep b o e), ok.gam, fun p hp => ?_, ok.nd.sublist (u.sub.map _), ok.gens, ok.os⟩, ⟨fun b o e q => hs b o (fun z => q (z ▸ u.in)) e, Sub.refl _, fun b o e q => by rw [q] at e; cases e⟩, fun b hb => .inl ((u.sub.map _).subset hb)⟩
  obtain ⟨x, y⟩ := ok.own p (u.sub.subset hp)
  obtain ⟨o, ho⟩ := x.there
  exact ⟨x.same (by rw [hs _ _ (u.ne ok.nd p hp) ho, ho]), y⟩

/-- the next of an iterator -/
noncomputable def Nx (Γ : Gam) (A : Around) (O : Own) (it : Addr) (Q : Option D → Own → Prop) : Prop :=
  ∀ g s, Okb Γ g s O → T Γ A (pyNext (.ref it)) OptIn g s O Q
/-- the iterator of a value -/
noncomputable def GetI (Γ : Gam) (A : Around) (O : Own) (d : D) (K : Addr → Own → Prop) : Prop :=
  ∀ g s v, Okb Γ g s O → In g v d → T Γ A (pyIter v) (fun _ v I => v = .ref I) g s O K

theorem drop_cons {g : Heap} {vs : List Value} {i : Nat} {d : D} {ds : List D} (h : InL g (vs.drop i) (d :: ds)) : ∃ v, vs[i]? = some v ∧ In g v d ∧ InL g (vs.drop (i + 1)) ds := by
  cases q : vs.drop i with
  | nil => rw [q] at h; cases h
  | cons v r =>
    rw [q] at h
    cases h with
    | cons a b =>
      have hi : i < vs.length := by
        rcases Nat.lt_or_ge i vs.length with z | z
        · exact z
        · rw [List.drop_eq_nil_of_le z] at q; cases q
      rw [List.drop_eq_getElem_cons hi] at q
      cases q
      exact ⟨_, List.getElem?_eq_getElem hi, a, b⟩
theorem drop_nil {g : Heap} {vs : List Value} {i : Nat} (h : InL g (vs.drop i) []) : vs[i]? = none := by
  cases q : vs.drop i with
  | nil => exact List.getElem?_eq_none (List.drop_eq_nil_iff.mp q)
  | cons v r => rw [q] at h; cases h
theorem signs_cons {l : List Nat} {i : Nat} {d : D} {ds : List D} (h : signs (l.drop i) = d :: ds) : ∃ c, l[i]? = some c ∧ d = .str ⟨#[c]⟩ ∧ ds = signs (l.drop (i + 1)) := by
  cases q : l.drop i with
  | nil => rw [q] at h; cases h
  | cons v r =>
    rw [q] at h
    have hi : i < l.length := by
      rcases Nat.lt_or_ge i l.length with z | z
      · exact z
      · rw [List.drop_eq_nil_of_le z] at q; cases q
    rw [List.drop_eq_getElem_cons hi] at q
    cases q
    cases h
    exact ⟨_, List.getElem?_eq_getElem hi, rfl, rfl⟩

theorem Nx.item {it : Addr} {d : D} {ds : List D} {O' : Own} {Q : Option D → Own → Prop} (u : OUp O it (.iter (d :: ds)) (.iter ds) O') (q : Q (some d) O') : Nx Γ A O it Q := fun g s ok => by
  obtain ⟨⟨o, ho, hi⟩, hn⟩ := ok.own _ u.mem
  generalize hx : d :: ds = xs at hi
  have fin : ∀ (h' : Heap) (tk : Nat) (v : Value), Heap.SameBut it s.heap h' → (∃ o, h'.get? it = some o ∧ ItOf g o ds) → In g v d → ∃ g' O' d, Go Γ g s O g' { s with heap := h', toks := tk } O' ∧ OptIn g' (some v) d ∧ Q d O' := fun h' tk v hs hc iv => ⟨g, O', some d, Go.turn ok u hs hc tk, .some iv, q⟩
  cases hi with
  | lst h1 h2 h3 h4 =>
    subst hx
    obtain ⟨v, e, iv, r⟩ := drop_cons h4
    exact wpAny_pyNext_list_item (x := v) ⟨o, ho, h1, h2⟩ (isList_of (ok.keep _ _ h3)) (by rw [← Array.getElem?_toList]; exact e) fun h' hit hs => by
      obtain ⟨o', a, b, c⟩ := hit
      exact fin h' s.toks v hs ⟨o', a, .lst b c h3 r⟩ iv
  | tup h1 h2 h3 h4 =>
    subst hx
    obtain ⟨v, e, iv, r⟩ := drop_cons h4
    exact wpAny_pyNext_tuple_item (x := v) ⟨o, ho, h1, h2⟩ (isTuple_of (ok.keep _ _ h3)) (by rw [← Array.getElem?_toList]; exact e) fun h' hit hs => by
      obtain ⟨o', a, b, c⟩ := hit
      exact fin h' s.toks v hs ⟨o', a, .tup b c h3 r⟩ iv
  | rng =>
    rename_i x st n
    cases n with
    | zero => cases hx
    | succ n =>
      cases hx
      exact wpAny_pyNext_range_item ho (by omega) fun h' hit hs => fin h' _ _ hs ⟨_, by
        have := hit
        unfold IsRangeIter at this
        rw [show ((n + 1 : Nat) : Int) - 1 = (n : Int) by omega] at this
        exact this, .rng⟩ (.int _ _)
  | str h0 h1 h2 =>
    rename_i ty x t i
    obtain ⟨c, e, rfl, rfl⟩ := signs_cons hx.symm
    have e' : x.cps[i]? = some c := by rw [← Array.getElem?_toList]; exact e
    rcases h0 with rfl | rfl
    · exact wpAny_pyNext_ascii_item ⟨o, ho, h1, h2⟩ e' fun h' hit hs => by
        obtain ⟨o', a, b, c'⟩ := hit
        exact fin h' _ _ hs ⟨o', a, .str (.inl rfl) b c'⟩ (.str _ _)
    · exact wpAny_pyNext_wide_item ⟨o, ho, h1, h2⟩ e' fun h' hit hs => by
        obtain ⟨o', a, b, c'⟩ := hit
        exact fin h' _ _ hs ⟨o', a, .str (.inr rfl) b c'⟩ (.str _ _)
theorem Nx.stop {it : Addr} {O' : Own} {Q : Option D → Own → Prop} (hh : A.handled = none) (m : (it, .iter []) ∈ O) (u : ODel O it O') (q : Q none O') : Nx Γ A O it Q := fun g s ok => by
  obtain ⟨⟨o, ho, hi⟩, hn⟩ := ok.own _ m
  generalize hx : ([] : List D) = xs at hi
  have fin : ∀ (h' : Heap), Heap.ExtBut it s.heap h' → ∃ g' O' d, Go Γ g s O g' { s with heap := h' } O' ∧ OptIn g' none d ∧ Q d O' := fun h' hs => ⟨g, O', none, Go.del ok u hs, .none, q⟩
  cases hi with
  | lst h1 h2 h3 h4 =>
    subst hx
    exact wpAny_pyNext_list_end hh ⟨o, ho, h1, h2⟩ (isList_of (ok.keep _ _ h3)) (by rw [← Array.getElem?_toList]; exact drop_nil h4) fun h' hs => fin h' hs
  | tup h1 h2 h3 h4 =>
    subst hx
    exact wpAny_pyNext_tuple_end hh ⟨o, ho, h1, h2⟩ (isTuple_of (ok.keep _ _ h3)) (by rw [← Array.getElem?_toList]; exact drop_nil h4) fun h' hs => fin h' hs
  | rng =>
    rename_i x st n
    cases n with
    | zero => exact wpAny_pyNext_range_end hh ho (by omega) fun h' hs => fin h' hs
    | succ n => cases hx
  | str h0 h1 h2 =>
    rename_i ty x t i
    have e : x.cps[i]? = none := by
      rw [← Array.getElem?_toList]
      cases q : x.cps.toList.drop i with
      | nil => exact List.getElem?_eq_none (List.drop_eq_nil_iff.mp q)
      | cons v r => rw [q] at hx; cases hx
    rcases h0 with rfl | rfl
    · exact wpAny_pyNext_ascii_end hh ⟨o, ho, h1, h2⟩ e fun h' hs => fin h' hs
    · exact wpAny_pyNext_wide_end hh ⟨o, ho, h1, h2⟩ e fun h' hs => fin h' hs
theorem Nx.litItem {it l : Addr} {i : Nat} {d : D} {ds : List D} {O' : Own} {Q : Option D → Own → Prop} (u : OUp O it (.lit l i) (.lit l (i + 1)) O') (m : (l, .list ds) ∈ O) (hd : ds[i]? = some d) (q : Q (some d) O') : Nx Γ A O it Q := fun g s ok => by
  obtain ⟨hi, hn⟩ := ok.own _ u.mem
  obtain ⟨⟨vs, n, e, r⟩, _⟩ := ok.own _ m
  obtain ⟨v, hv, iv⟩ := r.get hd
  exact wpAny_pyNext_list_item (x := v) hi (isList_of e) (by rw [← Array.getElem?_toList]; exact hv) fun h' hit hs => ⟨g, O', some d, Go.turn ok u hs hit s.toks, .some iv, q⟩
theorem Nx.litStop {it l : Addr} {i : Nat} {ds : List D} {O' : Own} {Q : Option D → Own → Prop} (hh : A.handled = none) (m₀ : (it, .lit l i) ∈ O) (u : ODel O it O') (m : (l, .list ds) ∈ O) (hd : ds[i]? = none) (q : Q none O') : Nx Γ A O it Q := fun g s ok => by
  obtain ⟨hi, hn⟩ := ok.own _ m₀
  obtain ⟨⟨vs, n, e, r⟩, _⟩ := ok.own _ m
  exact wpAny_pyNext_list_end hh hi (isList_of e) (by
    rw [← Array.getElem?_toList]
    refine List.getElem?_eq_none ?_
    rw [r.length]
    exact List.getElem?_eq_none_iff.mp hd) fun h' hs => ⟨g, O', none, Go.del ok u hs, .none, q⟩

theorem GetI.lst {ds : List D} {K : Addr → Own → Prop} (q : ∀ I, K I ((I, .iter ds) :: O)) : GetI Γ A O (.lst ds) K := fun g s v ok i => by
  cases i with
  | lst e r =>
    exact wpAny_pyIter_list (isList_of (ok.keep _ _ e)) ⟨g, _, _, Go.allocO (c := .iter ds) ok rfl ⟨_, Heap.get?_push_size _ rfl, .lst (i := 0) rfl rfl e (by rw [List.drop_zero]; exact r)⟩, rfl, q _⟩
theorem GetI.own {a : Addr} {ds : List D} {K : Addr → Own → Prop} (m : (a, .list ds) ∈ O) (q : ∀ I, K I ((I, .lit a 0) :: O)) : GetI Γ A O (.v (.ref a)) K := fun g s v ok i => by
  cases i
  obtain ⟨⟨vs, n, e, r⟩, _⟩ := ok.own _ m
  exact wpAny_pyIter_list (isList_of e) ⟨g, _, _, Go.allocO (c := .lit a 0) ok rfl ⟨_, Heap.get?_push_size _ rfl, rfl, rfl⟩, rfl, q _⟩
theorem GetI.tup {ds : List D} {K : Addr → Own → Prop} (q : ∀ I, K I ((I, .iter ds) :: O)) : GetI Γ A O (.tup ds) K := fun g s v ok i => by
  cases i with
  | tup e r =>
    exact wpAny_pyIter_tuple (isTuple_of (ok.keep _ _ e)) ⟨g, _, _, Go.allocO (c := .iter ds) ok rfl ⟨_, Heap.get?_push_size _ rfl, .tup (i := 0) rfl rfl e (by rw [List.drop_zero]; exact r)⟩, rfl, q _⟩
theorem GetI.str {x : Str} {K : Addr → Own → Prop} (q : ∀ I, K I ((I, .iter (signs x.cps.toList)) :: O)) : GetI Γ A O (.str x) K := fun g s v ok i => by
  cases i
  cases ha : x.cps.all (· < 128)
  · exact wpAny_pyIter_wide ha ⟨g, _, _, Go.allocO (c := .iter (signs x.cps.toList)) ok rfl ⟨_, Heap.get?_push_size _ rfl, .str (i := 0) (.inr rfl) rfl rfl⟩, rfl, q _⟩
  · exact wpAny_pyIter_ascii ha ⟨g, _, _, Go.allocO (c := .iter (signs x.cps.toList)) ok rfl ⟨_, Heap.get?_push_size _ rfl, .str (i := 0) (.inl rfl) rfl rfl⟩, rfl, q _⟩
theorem GetI.rng {a b c : Int} {n : Nat} {K : Addr → Own → Prop} (hsm : Builtin.Range.small a b c = true) (hn : Builtin.Range.rangeSize a b c = (n : Int)) (q : ∀ I, K I ((I, .iter (rangeFrom a c n)) :: O)) : GetI Γ A O (.rng a b c) K := fun g s v ok i => by
  cases i with
  | rng e =>
    exact wpAny_pyIter_range (ok.keep _ _ e) hsm ⟨g, _, _, Go.allocO (c := .iter (rangeFrom a c n)) ok rfl ⟨_, Heap.get?_push_size _ rfl, by rw [hn]; exact .rng⟩, rfl, q _⟩
/-- an iterator is its own iterator -/
theorem selfI {it : Addr} {c : Cont} {g : Heap} {s : Shared} {E : Value → Shared → Prop} {Q : Value → Shared → Prop} (ok : Okb Γ g s O) (m : (it, c) ∈ O) (hc : (∃ ds, c = .iter ds) ∨ ∃ l i, c = .lit l i) (h : Q (.ref it) s) : wpAny Γ.M A (pyIter (.ref it)) Q E s := by
  have hh := (ok.own _ m).1
  rcases hc with ⟨ds, rfl⟩ | ⟨l, i, rfl⟩
  · obtain ⟨o, ho, hi⟩ := hh
    cases hi with
    | lst h1 h2 _ _ => exact wpAny_pyIter_listiter ⟨o, ho, h1, h2⟩ h
    | tup h1 h2 _ _ => exact wpAny_pyIter_tupleiter ⟨o, ho, h1, h2⟩ h
    | rng => exact wpAny_pyIter_rangeiter ho h
    | str h0 h1 h2 =>
      rcases h0 with rfl | rfl
      · exact wpAny_pyIter_striter_ascii ⟨o, ho, h1, h2⟩ h
      · exact wpAny_pyIter_striter_wide ⟨o, ho, h1, h2⟩ h
  · exact wpAny_pyIter_listiter hh h
end

/-- a target is given its value -/
noncomputable def As (Γ : Gam) (A : Around) (env : Env) (ρ κ : Rho) (O : Own) (t : Value → Sem Unit) (d : D) (Q : Rho → Rho → Own → Prop) : Prop :=
  ∀ g s v, Okb Γ g s O → Frm env g s.heap O ρ κ → In g v d → wpAny Γ.M A (t v) (fun _ s' => ∃ g' ρ' κ' O', Gs Γ env g s κ O g' s' ρ' κ' O' ∧ Q ρ' κ' O') (fun _ _ => False) s
noncomputable def Asl (Γ : Gam) (A : Around) (env : Env) (ρ κ : Rho) (O : Own) (ts : List (Value → Sem Unit)) (ds : List D) (Q : Rho → Rho → Own → Prop) : Prop :=
  ∀ g s vs, Okb Γ g s O → Frm env g s.heap O ρ κ → InL g vs ds → wpAny Γ.M A (assignInOrder ts vs) (fun _ s' => ∃ g' ρ' κ' O', Gs Γ env g s κ O g' s' ρ' κ' O' ∧ Q ρ' κ' O') (fun _ _ => False) s
section
variable {Γ : Gam} {A : Around} {env : Env} {ρ κ : Rho} {O : Own}
theorem As.loc {x : Str} {pos : Pos} {d : D} {Q : Rho → Rho → Own → Prop} (h : ∃ ρ', Put ρ x d ρ' ∧ Q ρ' κ O) : As Γ A env ρ κ O (assign (.Name x pos) env) d Q := fun g s v ok F i => by
  obtain ⟨ρ', p, q⟩ := h
  exact wpAny_assign_Name (store_loc ok F i p fun s' G => ⟨g, ρ', κ, O, G, q⟩)
theorem As.cel {x : Str} {pos : Pos} {d : D} {Q : Rho → Rho → Own → Prop} (h : ∃ κ', Put κ x d κ' ∧ Q ρ κ' O) (hl : env.kindOf x = some .cell) (hf : env.func.isSome = true) : As Γ A env ρ κ O (assign (.Name x pos) env) d Q := fun g s v ok F i => by
  obtain ⟨κ', p, q⟩ := h
  exact wpAny_assign_Name (store_cel ok F i p hl hf fun s' G => ⟨g, ρ, κ', O, G, q⟩)
theorem Asl.nil {Q : Rho → Rho → Own → Prop} (q : Q ρ κ O) : Asl Γ A env ρ κ O [] [] Q := fun g s vs ok F i => by
  cases i
  exact wpAny_pure ⟨g, ρ, κ, O, .ofGo F (.refl ok), q⟩
theorem Asl.cons {t : Value → Sem Unit} {ts : List (Value → Sem Unit)} {d : D} {ds : List D} {Q : Rho → Rho → Own → Prop} (h : As Γ A env ρ κ O t d fun ρ₁ κ₁ O₁ => Asl Γ A env ρ₁ κ₁ O₁ ts ds Q) : Asl Γ A env ρ κ O (t :: ts) (d :: ds) Q := fun g s vs ok F i => by
  cases i with
  | cons a r =>
    unfold assignInOrder
    refine wpAny_bind (wpAny_holding (wpAny_mono (h g s _ ok F a) (fun _ s₁ ⟨g₁, ρ₁, κ₁, O₁, G₁, q⟩ => ?_) fun _ _ e => e))
    exact wpAny_mono (q g₁ s₁ _ G₁.ok G₁.fr (r.up G₁.to.up)) (fun _ s₂ ⟨g₂, ρ₂, κ₂, O₂, G₂, q⟩ => ⟨g₂, ρ₂, κ₂, O₂, G₁.trans G₂, q⟩) fun _ _ e => e
theorem As.tup {elts : List Expr} {x1 : Nat} {pos : Pos} {ds : List D} {ts : List (Value → Sem Unit)} {Q : Rho → Rho → Own → Prop} (hh : A.handled = none) (ht : (assignEach elts env).map (·.2) = ts) (hl : (assignEach elts env).length = ds.length) (hstar : (assignEach elts env).findIdx? (·.1) = none)
    (h : Asl Γ A env ρ κ O ts ds Q) : As Γ A env ρ κ O (assign (.Tuple elts x1 pos) env) (.tup ds) Q := fun g s v ok F i => by
  subst ht
  cases i with
  | tup e r =>
    rename_i a vs n
    refine wpAny_assign_Tuple (items := vs) hh (isTuple_of (ok.keep _ _ e)) (by rw [hl, ← Array.length_toList, r.length]) hstar fun h' hs => ?_
    have G := Go.sub ok (h' := h') (fun b o q => hs b o (fun z => absurd (Heap.lt_size q) (by rw [z]; exact Nat.lt_irrefl _)) q) s.toks
    exact wpAny_mono (h g _ _ G.ok (F.go G) r) (fun _ s₂ ⟨g₂, ρ₂, κ₂, O₂, G₂, q⟩ => ⟨g₂, ρ₂, κ₂, O₂, (Gs.ofGo F G).trans G₂, q⟩) fun _ _ e => e

/-- values of names are let out of sight -/
inductive Fgt : Rho → Rho → Prop
  | nil : Fgt [] []
  | keep {p : Str × Option D} {r r' : Rho} : Fgt r r' → Fgt (p :: r) (p :: r')
  | drop {x : Str} {od : Option D} {r r' : Rho} : Fgt r r' → Fgt ((x, od) :: r) ((x, none) :: r')
theorem Fgt.refl : ∀ {r : Rho}, Fgt r r
  | [] => .nil
  | _ :: _ => .keep .refl
theorem Fgt.keys {r r' : Rho} (h : Fgt r r') : r'.map (·.1) = r.map (·.1) := by
  induction h with
  | nil => rfl
  | keep _ ih => rw [List.map_cons, List.map_cons, ih]
  | drop _ ih => rw [List.map_cons, List.map_cons, ih]
theorem Fgt.mem {r r' : Rho} (h : Fgt r r') {x : Str} {d : D} (m : (x, some d) ∈ r') : (x, some d) ∈ r := by
  induction h with
  | nil => exact m
  | keep _ ih =>
    rcases List.mem_cons.mp m with q | q
    · exact q ▸ .head _
    · exact .tail _ (ih q)
  | drop _ ih =>
    rcases List.mem_cons.mp m with q | q
    · cases q
    · exact .tail _ (ih q)
theorem Frm.forget {g h : Heap} {ρ' : Rho} (F : Frm env g h O ρ κ) (f : Fgt ρ ρ') : Frm env g h O ρ' κ := by
  obtain ⟨m, hm, hr⟩ := F.loc
  refine ⟨F.kind, F.glob, F.bi, ⟨m, hm, fun x d hx => hr x d (f.mem hx)⟩, fun p hp => ?_, by rw [f.keys]; exact F.nd, F.gl, F.lo, F.ck, F.cel, F.cnd, F.cin⟩
  have : p.1 ∈ ρ.map (·.1) := f.keys ▸ List.mem_map_of_mem hp
  obtain ⟨q, hq, e⟩ := List.mem_map.mp this
  exact e ▸ F.lk q hq
theorem Frm.less {g h : Heap} {O' : Own} (F : Frm env g h O ρ κ) (l : ∀ b, dom O' b → dom O b) : Frm env g h O' ρ κ :=
  ⟨F.kind, F.glob, F.bi, F.loc, F.lk, F.nd, F.gl, fun x => F.lo (l _ x), F.ck, fun p hp => by
    obtain ⟨h1, ca, h2, h3, h4, h5⟩ := F.cel p hp
    exact ⟨h1, ca, h2, h3, fun x => h4 (l _ x), h5⟩, F.cnd, F.cin⟩
/-- what is left of the changeable objects, in whatever order -/
noncomputable def OS (O' O : Own) : Prop := ∃ P, List.Perm O' P ∧ List.Sublist P O
theorem OS.of {O' O : Own} (h : List.Sublist O' O) : OS O' O := ⟨O', .refl _, h⟩
theorem OS.refl {O : Own} : OS O O := .of (List.Sublist.refl _)
theorem OS.swap {p q : Addr × Cont} {r O : Own} (h : List.Sublist (q :: p :: r) O) : OS (p :: q :: r) O := ⟨_, .swap q p r, h⟩
theorem OS.okb {Γ : Gam} {g : Heap} {s : Shared} {O O' : Own} (l : OS O' O) (ok : Okb Γ g s O) : Okb Γ g s O' := by
  obtain ⟨P, a, b⟩ := l
  have okP : Okb Γ g s P := ⟨ok.keep, ok.gam, fun p hp => ok.own p (b.subset hp), ok.nd.sublist (b.map _), ok.gens, ok.os⟩
  exact okP.perm a.symm
theorem OS.dom {O O' : Own} (l : OS O' O) (b : Addr) (h : dom O' b) : dom O b := by
  obtain ⟨P, x, y⟩ := l
  exact (y.map _).subset ((x.map _).subset h)
theorem Gs.forget {g g' : Heap} {s s' : Shared} {ρ' κ' : Rho} {O' ρ₂ O₂} (G : Gs Γ env g s κ O g' s' ρ' κ' O') (f : Fgt ρ' ρ₂) (l : OS O₂ O') : Gs Γ env g s κ O g' s' ρ₂ κ' O₂ :=
  ⟨l.okb G.ok, (G.fr.forget f).less fun b hb => l.dom b hb, G.to, fun b hb => G.wi b (l.dom b hb), G.ks⟩

noncomputable def PairT (target : Expr) : Bool := match target with | .Tuple .. => true | .Name .. => true | _ => false
/-- targets of two names let no tuple go: the iterator is none of those that own theirs -/
theorem letGo_of {g : Heap} {s : Shared} {it : Addr} {c : Cont} {target : Expr} {v : Value} {E : Value → Shared → Prop} {Q : Unit → Shared → Prop} (ok : Okb Γ g s O) (m : (it, c) ∈ O) (hc : (∃ ds, c = .iter ds) ∨ ∃ l i, c = .lit l i) (ht : PairT target = true) (h : Q () s) : wpAny Γ.M A (letOwnedTupleGo target (.ref it) v) Q E s := by
  cases target with
  | Name x p => exact wpAny_pure h
  | Tuple elts x1 pos =>
    have hh := (ok.own _ m).1
    have key : ∀ (o : Obj) (n : String) (vs : Array Value), s.heap.get? it = some o → o.cls = .type n → o.data = .fields vs → (["enumerate", "zip", "dict_itemiterator", "dict_reverseitemiterator", "odict_iterator", "itertools.zip_longest", "itertools.pairwise"].contains n) = false → wpAny Γ.M A (letOwnedTupleGo (.Tuple elts x1 pos) (.ref it) v) Q E s := fun o n vs ho h1 h2 h3 => by
      unfold letOwnedTupleGo
      cases v with
      | ref a =>
        refine wpAny_bind (wpAny_load ho ?_)
        simp only [h1, h2, h3, Bool.false_and, Bool.false_eq_true, if_false]
        exact wpAny_pure h
      | _ => exact wpAny_pure h
    rcases hc with ⟨ds, rfl⟩ | ⟨l, i, rfl⟩
    · obtain ⟨o, ho, hi⟩ := hh
      cases hi with
      | lst h1 h2 _ _ => exact key o _ _ ho h1 h2 (by decide)
      | tup h1 h2 _ _ => exact key o _ _ ho h1 h2 (by decide)
      | rng => exact key _ _ _ ho rfl rfl (by decide)
      | str h0 h1 h2 =>
        rcases h0 with rfl | rfl
        · exact key o _ _ ho h1 h2 (by decide)
        · exact key o _ _ ho h1 h2 (by decide)
    · obtain ⟨o, ho, h1, h2⟩ := hh
      exact key o _ _ ho h1 h2 (by decide)
  | _ => cases ht
end
end Lw
end
section
set_option autoImplicit false
set_option linter.unusedVariables false
set_option Elab.async false
namespace Lw
open PySem PySem.Calls PyProof.Rows PySem.W

noncomputable def ItIn (it : Addr) (O : Own) : Prop := ∃ c, (it, c) ∈ O ∧ ((∃ ds, c = .iter ds) ∨ ∃ l i, c = .lit l i)
theorem OUp.mem' {O O' : Own} {a : Addr} {c c' : Cont} (h : OUp O a c c' O') : (a, c') ∈ O' := by
  induction h with
  | here => exact .head _
  | there _ ih => exact .tail _ ih
section
variable {Γ : Gam} {A : Around} {env : Env} {ρ κ : Rho} {O : Own}
/-- the next of an iterator that stays one -/
noncomputable def NxT (Γ : Gam) (A : Around) (O : Own) (it : Addr) (Q : Option D → Own → Prop) : Prop := Nx Γ A O it fun od O₁ => (od.isSome = true → ItIn it O₁) ∧ Q od O₁
theorem NxT.item {it : Addr} {d : D} {ds : List D} {O' : Own} {Q : Option D → Own → Prop} (u : OUp O it (.iter (d :: ds)) (.iter ds) O') (q : Q (some d) O') : NxT Γ A O it Q := Nx.item u ⟨fun _ => ⟨_, u.mem', .inl ⟨_, rfl⟩⟩, q⟩
theorem NxT.stop {it : Addr} {O' : Own} {Q : Option D → Own → Prop} (hh : A.handled = none) (m : (it, .iter []) ∈ O) (u : ODel O it O') (q : Q none O') : NxT Γ A O it Q := Nx.stop hh m u ⟨fun h => (by cases h), q⟩
theorem NxT.litItem {it l : Addr} {i : Nat} {d : D} {ds : List D} {O' : Own} {Q : Option D → Own → Prop} (u : OUp O it (.lit l i) (.lit l (i + 1)) O') (m : (l, .list ds) ∈ O) (hd : ds[i]? = some d) (q : Q (some d) O') : NxT Γ A O it Q := Nx.litItem u m hd ⟨fun _ => ⟨_, u.mem', .inr ⟨_, _, rfl⟩⟩, q⟩
theorem NxT.litStop {it l : Addr} {i : Nat} {ds : List D} {O' : Own} {Q : Option D → Own → Prop} (hh : A.handled = none) (m₀ : (it, .lit l i) ∈ O) (u : ODel O it O') (m : (l, .list ds) ∈ O) (hd : ds[i]? = none) (q : Q none O') : NxT Γ A O it Q := Nx.litStop hh m₀ u m hd ⟨fun h => (by cases h), q⟩
theorem noE {M : Model} {E : Value → Shared → Prop} {α : Type} {t : Sem α} {Q : α → Shared → Prop} {s : Shared} (h : wpAny M A t Q (fun _ _ => False) s) : wpAny M A t Q E s := wpAny_mono h (fun _ _ x => x) fun _ _ e => e.elim

/-- one turn of a loop over an iterator -/
noncomputable def Turn (Γ : Gam) (A : Around) (env : Env) (target : Expr) (body : List Stmt) (it : Addr) (Q : Fl → Rho → Rho → Own → Prop) (Inv : Nat → Rho → Rho → Own → Prop) (n : Nat) (ρ κ : Rho) (O : Own) : Prop :=
  NxT Γ A O it fun od O₁ => match od with
    | none => Q .next ρ κ O₁
    | some d => As Γ A env ρ κ O₁ (assign target env) d fun ρ₂ κ₂ O₂ => Ss Γ A env ρ₂ κ₂ O₂ body fun f ρ₃ κ₃ O₃ => match f with
      | .brk => Q .next ρ₃ κ₃ O₃
      | .ret d => Q (.ret d) ρ₃ κ₃ O₃
      | _ => ∃ m ρ' O', m < n ∧ Fgt ρ₃ ρ' ∧ OS O' O₃ ∧ Inv m ρ' κ₃ O'
theorem S1.for {target iter : Expr} {body : List Stmt} {pos : Pos} {Q : Fl → Rho → Rho → Own → Prop} (Inv : Addr → Nat → Rho → Rho → Own → Prop)
    (h : Ev Γ A env ρ κ O iter fun d O₁ => GetI Γ A O₁ d fun I O₂ => ∃ n ρ', Fgt ρ ρ' ∧ Inv I n ρ' κ O₂)
    (turn : ∀ I n ρ' κ' O', Inv I n ρ' κ' O' → Turn Γ A env target body I Q (Inv I) n ρ' κ' O')
    (hp : PairT target = true) (hs : ∀ x, foldedSetIterable iter env x = pure x) : S1 Γ A env ρ κ O (.For target iter body [] pos) Q := fun g s ok F => by
  refine wpAny_For (wpAny_mono (h g s ok F) (fun v s₁ ⟨g₁, O₁, d, G₁, i, h₁⟩ => wpAny_mono (h₁ g₁ s₁ v G₁.ok i) (fun u s₂ ⟨g₂, O₂, I, G₂, e, n, ρ', hf, hI⟩ => ?_) fun _ _ e => e) fun _ _ e => e) hs
  subst e
  refine codeAny_forLoop_any (fun n s' => ∃ g' ρ' κ' O', Gs Γ env g s κ O g' s' ρ' κ' O' ∧ Inv I n ρ' κ' O') ?_ n ⟨g₂, ρ', κ, O₂, (Gs.ofGo F (G₁.trans G₂)).forget hf .refl, hI⟩
  rintro n s' ⟨g', ρ', κ', O', G, hI⟩
  refine noE (wpAny_mono (turn I n ρ' κ' O' hI g' s' G.ok) (fun r s₃ ⟨g₃, O₃, od, G₃, hr, hit, hq⟩ => ?_) fun _ _ e => e)
  cases hr with
  | none => exact noE (wpAny_execs_nil ⟨g₃, ρ', κ', O₃, .next, G.trans (.ofGo G.fr G₃), .next, hq⟩)
  | some iv =>
    obtain ⟨c, hm, hc⟩ := hit rfl
    refine letGo_of G₃.ok hm hc hp ?_
    refine noE (wpAny_mono (hq g₃ s₃ _ G₃.ok (G.fr.go G₃) iv) (fun _ s₄ ⟨g₄, ρ₄, κ₄, O₄, G₄, hb⟩ => ?_) fun _ _ e => e)
    refine noE (wpAny_mono (hb g₄ s₄ G₄.ok G₄.fr) (fun f s₅ ⟨g₅, ρ₅, κ₅, O₅, fl, G₅, hf, hq⟩ => ?_) fun _ _ e => e)
    have Gall := ((G.trans (.ofGo G.fr G₃)).trans G₄).trans G₅
    cases hf with
    | next =>
      obtain ⟨m, ρ₆, O₆, hlt, hfg, hsub, hI'⟩ := hq
      exact ⟨m, hlt, g₅, ρ₆, κ₅, O₆, Gall.forget hfg hsub, hI'⟩
    | cont =>
      obtain ⟨m, ρ₆, O₆, hlt, hfg, hsub, hI'⟩ := hq
      exact ⟨m, hlt, g₅, ρ₆, κ₅, O₆, Gall.forget hfg hsub, hI'⟩
    | brk => exact ⟨g₅, ρ₅, κ₅, O₅, .next, Gall, .next, hq⟩
    | ret a => exact ⟨g₅, ρ₅, κ₅, O₅, .ret _, Gall, .ret a, hq⟩

/-- a loop over what does not change, its state told -/
theorem S1.forIn {target iter : Expr} {body : List Stmt} {pos : Pos} {Q : Fl → Rho → Rho → Own → Prop} {σ : Type} (R K : σ → Rho) (W : σ → Own) (P : σ → List D → Prop) (hh : A.handled = none)
    (h : Ev Γ A env ρ κ O iter fun d O₁ => GetI Γ A O₁ d fun I O₂ => ∃ st ds, Fgt ρ (R st) ∧ κ = K st ∧ O₂ = (I, .iter ds) :: W st ∧ P st ds)
    (turn : ∀ I st d ds, P st (d :: ds) → As Γ A env (R st) (K st) ((I, .iter ds) :: W st) (assign target env) d fun ρ₂ κ₂ O₂ => Ss Γ A env ρ₂ κ₂ O₂ body fun f ρ₃ κ₃ O₃ => match f with
      | .brk => Q .next ρ₃ κ₃ O₃
      | .ret d => Q (.ret d) ρ₃ κ₃ O₃
      | _ => ∃ st', Fgt ρ₃ (R st') ∧ κ₃ = K st' ∧ OS ((I, .iter ds) :: W st') O₃ ∧ P st' ds)
    (fin : ∀ st, P st [] → Q .next (R st) (K st) (W st))
    (hp : PairT target = true) (hs : ∀ x, foldedSetIterable iter env x = pure x) : S1 Γ A env ρ κ O (.For target iter body [] pos) Q := by
  refine S1.for (fun I n ρ' κ' O' => ∃ st ds, n = ds.length ∧ ρ' = R st ∧ κ' = K st ∧ O' = (I, .iter ds) :: W st ∧ P st ds) (fun g s ok F => ?_) ?_ hp hs
  · refine (h g s ok F).mono fun d O₁ h₁ g s v ok i => (h₁ g s v ok i).mono fun I O₂ ⟨st, ds, a, b, c, d⟩ => ⟨ds.length, R st, a, st, ds, rfl, rfl, b, c, d⟩
  · rintro I n ρ' κ' O' ⟨st, ds, rfl, rfl, rfl, rfl, hP⟩
    unfold Turn
    cases ds with
    | nil => exact .stop hh (.head _) .here (fin st hP)
    | cons d ds =>
      refine .item .here ?_
      intro g s v ok F i
      refine wpAny_mono (turn I st d ds hP g s v ok F i) (fun _ s₁ ⟨g₁, ρ₁, κ₁, O₁, G₁, h₁⟩ => ⟨g₁, ρ₁, κ₁, O₁, G₁, h₁.mono fun f ρ₃ κ₃ O₃ q => ?_⟩) fun _ _ e => e
      cases f with
      | brk => exact q
      | ret d => exact q
      | next =>
        obtain ⟨st', a, b, c, d⟩ := q
        exact ⟨ds.length, R st', _, Nat.lt_succ_self _, a, c, st', ds, rfl, rfl, b, rfl, d⟩
      | cont =>
        obtain ⟨st', a, b, c, d⟩ := q
        exact ⟨ds.length, R st', _, Nat.lt_succ_self _, a, c, st', ds, rfl, rfl, b, rfl, d⟩
/-- a loop over a list of the call's own, which the loop leaves as it is -/
theorem S1.forLit {target iter : Expr} {body : List Stmt} {pos : Pos} {Q : Fl → Rho → Rho → Own → Prop} {σ : Type} (R K : σ → Rho) (W : σ → Own) (P : σ → List D → Prop) (l : Addr) (xs : List D) (hl : ∀ st, (l, .list xs) ∈ W st) (hh : A.handled = none)
    (h : Ev Γ A env ρ κ O iter fun d O₁ => GetI Γ A O₁ d fun I O₂ => ∃ st, Fgt ρ (R st) ∧ κ = K st ∧ O₂ = (I, .lit l 0) :: W st ∧ P st xs)
    (turn : ∀ I st i d ds, P st (d :: ds) → As Γ A env (R st) (K st) ((I, .lit l i) :: W st) (assign target env) d fun ρ₂ κ₂ O₂ => Ss Γ A env ρ₂ κ₂ O₂ body fun f ρ₃ κ₃ O₃ => match f with
      | .brk => Q .next ρ₃ κ₃ O₃
      | .ret d => Q (.ret d) ρ₃ κ₃ O₃
      | _ => ∃ st', Fgt ρ₃ (R st') ∧ κ₃ = K st' ∧ OS ((I, .lit l i) :: W st') O₃ ∧ P st' ds)
    (fin : ∀ st, P st [] → Q .next (R st) (K st) (W st))
    (hp : PairT target = true) (hs : ∀ x, foldedSetIterable iter env x = pure x) : S1 Γ A env ρ κ O (.For target iter body [] pos) Q := by
  refine S1.for (fun I n ρ' κ' O' => ∃ st i, n + i = xs.length ∧ ρ' = R st ∧ κ' = K st ∧ O' = (I, .lit l i) :: W st ∧ P st (xs.drop i)) (fun g s ok F => ?_) ?_ hp hs
  · refine (h g s ok F).mono fun d O₁ h₁ g s v ok i => (h₁ g s v ok i).mono fun I O₂ ⟨st, a, b, c, d⟩ => ⟨xs.length, R st, a, st, 0, rfl, rfl, b, c, d⟩
  · rintro I n ρ' κ' O' ⟨st, i, hn, rfl, rfl, rfl, hP⟩
    unfold Turn
    cases hx : xs.drop i with
    | nil =>
      rw [hx] at hP
      exact .litStop hh (.head _) .here (.tail _ (hl st)) (List.getElem?_eq_none (List.drop_eq_nil_iff.mp hx)) (fin st hP)
    | cons d ds =>
      rw [hx] at hP
      have hi : i < xs.length := by
        rcases Nat.lt_or_ge i xs.length with z | z
        · exact z
        · rw [List.drop_eq_nil_of_le z] at hx; cases hx
      rw [List.drop_eq_getElem_cons hi] at hx
      obtain ⟨hd, hds⟩ := List.cons.inj hx
      refine .litItem .here (.tail _ (hl st)) (by rw [List.getElem?_eq_getElem hi, hd]) ?_
      intro g s v ok F iv
      refine wpAny_mono (turn I st (i + 1) d ds hP g s v ok F iv) (fun _ s₁ ⟨g₁, ρ₁, κ₁, O₁, G₁, h₁⟩ => ⟨g₁, ρ₁, κ₁, O₁, G₁, h₁.mono fun f ρ₃ κ₃ O₃ q => ?_⟩) fun _ _ e => e
      cases f with
      | brk => exact q
      | ret d => exact q
      | next =>
        obtain ⟨st', a, b, c, d⟩ := q
        exact ⟨n - 1, R st', _, by omega, a, c, st', i + 1, by omega, rfl, b, rfl, by rw [hds]; exact d⟩
      | cont =>
        obtain ⟨st', a, b, c, d⟩ := q
        exact ⟨n - 1, R st', _, by omega, a, c, st', i + 1, by omega, rfl, b, rfl, by rw [hds]; exact d⟩
end
end Lw
end
section
set_option autoImplicit false
set_option linter.unusedVariables false
set_option Elab.async false
namespace Lw
open PySem PySem.Calls PyProof.Rows PySem.W

section
variable {Γ : Gam} {A : Around} {env : Env} {ρ κ : Rho} {O : Own}

noncomputable def Cl (Γ : Gam) (A : Around) (env : Env) (ρ κ : Rho) (O : Own) (c : Code) (Q : Rho → Rho → Own → Prop) : Prop :=
  ∀ g s, Okb Γ g s O → Frm env g s.heap O ρ κ → codeAny Γ.M A c (fun r s' => match r with | .ok _ => ∃ g' ρ' κ' O', Gs Γ env g s κ O g' s' ρ' κ' O' ∧ Q ρ' κ' O' | .error _ => False) s
noncomputable def Tl (Γ : Gam) (A : Around) (env : Env) (ρ κ : Rho) (O : Own) (t : Sem Fin → Sem Fin) (Q : Rho → Rho → Own → Prop) : Prop :=
  ∀ g s, Okb Γ g s O → Frm env g s.heap O ρ κ → ∀ (k : Sem Fin) (R : Fin → Shared → Prop) (E : Value → Shared → Prop), (∀ g' s' ρ' κ' O', Gs Γ env g s κ O g' s' ρ' κ' O' → Q ρ' κ' O' → wpAny Γ.M A k R E s') → wpAny Γ.M A (t k) R E s
noncomputable def emitL (elt : Expr) (acc : Value) (env : Env) (k : Sem Fin) : Sem Fin := (do let _ ← call (.builtin "list.append") [acc, ← eval elt env]) >>= fun (_ : Unit) => k
noncomputable def innerL (e : Expr) (iter : Expr) (n : Nat) (acc : Value) (env : Env) (k : Sem Fin) : Sem Fin := do
  let x ← eval iter env
  standAt iter.pos
  let x ← foldedSetIterable iter env x
  let _ ← runOwn (.compStart e n (← holding [x] (pyIter x)) acc env) env
  k
noncomputable def turnL (e : Expr) (k : Nat) (target iter : Expr) (ifs : List Expr) (tail : Sem Fin → Sem Fin) (it acc : Value) (env : Env) : Sem Fin := do
  standAt iter.pos
  match ← pyNext it with
  | none => pure (.done .next)
  | some v =>
    letOwnedTupleGo target it v
    assign target env v
    let mut ok := true
    for c in ifs do
      if ok then ok ← isTrue c env (eval c env)
    if ok then tail (again (.compLoop e k it acc env)) else again (.compLoop e k it acc env)
theorem turn_one (elt target iter : Expr) (ifs : List Expr) (scope : Scope) (pos : Pos) (it acc : Value) (env : Env) :
    compTurn (.ListComp elt [⟨target, iter, ifs, 0⟩] scope pos) 0 it acc env = turnL (.ListComp elt [⟨target, iter, ifs, 0⟩] scope pos) 0 target iter ifs (emitL elt acc env) it acc env := rfl
theorem turn_two0 (elt target iter t2 i2 : Expr) (ifs f2 : List Expr) (scope : Scope) (pos : Pos) (it acc : Value) (env : Env) :
    compTurn (.ListComp elt [⟨target, iter, ifs, 0⟩, ⟨t2, i2, f2, 0⟩] scope pos) 0 it acc env = turnL (.ListComp elt [⟨target, iter, ifs, 0⟩, ⟨t2, i2, f2, 0⟩] scope pos) 0 target iter ifs (innerL (.ListComp elt [⟨target, iter, ifs, 0⟩, ⟨t2, i2, f2, 0⟩] scope pos) i2 1 acc env) it acc env := rfl
theorem turn_two1 (elt target iter t2 i2 : Expr) (ifs f2 : List Expr) (scope : Scope) (pos : Pos) (it acc : Value) (env : Env) :
    compTurn (.ListComp elt [⟨target, iter, ifs, 0⟩, ⟨t2, i2, f2, 0⟩] scope pos) 1 it acc env = turnL (.ListComp elt [⟨target, iter, ifs, 0⟩, ⟨t2, i2, f2, 0⟩] scope pos) 1 t2 i2 f2 (emitL elt acc env) it acc env := rfl

/-- the tests of a comprehension, one behind the other -/
noncomputable def Ifs (Γ : Gam) (A : Around) (env : Env) (ρ κ : Rho) (O : Own) (ifs : List Expr) (Q : Bool → Own → Prop) : Prop :=
  ∀ g s, Okb Γ g s O → Frm env g s.heap O ρ κ → T Γ A (forIn ifs true fun c r => if r = true then do let ok ← isTrue c env (eval c env); pure (ForInStep.yield ok) else pure (ForInStep.yield r)) (fun _ b c => b = c) g s O Q
theorem Ifs.nil {Q : Bool → Own → Prop} (q : Q true O) : Ifs Γ A env ρ κ O [] Q := fun g s ok F => wpAny_tests_nil ⟨g, O, true, .refl ok, rfl, q⟩
theorem Ifs.one {c : Expr} {Q : Bool → Own → Prop} (h : Te Γ A env ρ κ O c Q) : Ifs Γ A env ρ κ O [c] Q := fun g s ok F => wpAny_tests_one (h g s ok F)
theorem Tl.emit {elt : Expr} {acc : Addr} {Q : Rho → Rho → Own → Prop} (h : Ev Γ A env ρ κ O elt fun d O₁ => ∃ ds O', OUp O₁ acc (.list ds) (.list (ds ++ [d])) O' ∧ ds.length ≤ sizeLine ∧ Q ρ κ O') : Tl Γ A env ρ κ O (emitL elt (.ref acc) env) Q := fun g s ok F k R E hk =>
  wpAny_bind (wpAny_bind (noE (wpAny_mono (h g s ok F) (fun v s₁ ⟨g₁, O₁, d, G₁, i, ds, O', u, hl, q⟩ => wpAny_bind (noE (wpAny_mono (Ca.append (Q := fun d O₂ => O₂ = O') u hl rfl g₁ s₁ [.ref acc, v] [] G₁.ok (.cons (.v _) (.cons i .nil)) .nil) (fun _ s₂ ⟨g₂, O₂, d₂, G₂, _, e⟩ => by
    subst e
    exact wpAny_pure (hk g₂ s₂ ρ κ O₂ (.ofGo F (G₁.trans G₂)) q)) fun _ _ e => e))) fun _ _ e => e)))
theorem Cl.start {e : Expr} {k : Nat} {it acc : Addr} {Q : Rho → Rho → Own → Prop} (hit : ItIn it O) (hgo : ∃ g0 gs s p, e = .ListComp g0 gs s p ∧ ∃ g1, gs[k]? = some g1 ∧ g1.is_async = 0)
    (h : Cl Γ A env ρ κ O (.compLoop e k (.ref it) (.ref acc) env) Q) : Cl Γ A env ρ κ O (.compStart e k (.ref it) (.ref acc) env) Q := fun g s ok F => by
  obtain ⟨elt, gens, scope, pos, rfl, g1, hg1, ha⟩ := hgo
  obtain ⟨c, hm, hc⟩ := hit
  refine codeAny_of_tree ?_
  show wpAny _ _ ((compStart (.ListComp elt gens scope pos) k (.ref it) (.ref acc) env).onRaise (fun x => do noteFrame x env; standAt theWindowsPlace)) _ _ s
  refine wpAny_notedAt ?_
  unfold compStart
  have hcl : (clausesOf (.ListComp elt gens scope pos))[k]? = some g1 := hg1
  simp only [hcl, Option.elim_some, ha]
  show wpAny _ _ (ask >>= _) _ _ s
  refine wpAny_bind (wpAny_askSetting (wpAny_ite ?_))
  split
  · exact wpAny_pure (And.intro rfl (h g s ok F))
  · refine wpAny_bind (wpAny_rule ?_)
    refine wpAny_bind (wpAny_standAt (wpAny_bind (selfI ok hm hc (wpAny_pure (And.intro rfl (h g s ok F))))))
theorem Tl.inner {e iter : Expr} {n : Nat} {acc : Addr} {Q : Rho → Rho → Own → Prop} (hs : ∀ x, foldedSetIterable iter env x = pure x) (h : Ev Γ A env ρ κ O iter fun d O₁ => GetI Γ A O₁ d fun I O₂ => Cl Γ A env ρ κ O₂ (.compStart e n (.ref I) (.ref acc) env) Q) :
    Tl Γ A env ρ κ O (innerL e iter n (.ref acc) env) Q := fun g s ok F k R E hk => by
  unfold innerL
  refine wpAny_bind (noE (wpAny_mono (h g s ok F) (fun v s₁ ⟨g₁, O₁, d, G₁, i, h₁⟩ => ?_) fun _ _ e => e))
  refine wpAny_bind (wpAny_standAt (wpAny_bind (wpAny_of_eq (hs v) ?_)))
  refine wpAny_bind (wpAny_holding (noE (wpAny_mono (h₁ g₁ s₁ v G₁.ok i) (fun u s₂ ⟨g₂, O₂, I, G₂, e, h₂⟩ => ?_) fun _ _ e => e)))
  subst e
  have G := Gs.ofGo F (G₁.trans G₂)
  refine wpAny_bind (wpAny_runOwn (codeAny_mono (h₂ g₂ s₂ G.ok G.fr) fun r s₃ hr => ?_))
  cases r with
  | error e => exact hr.elim
  | ok f =>
    obtain ⟨g₃, ρ₃, κ₃, O₃, G₃, q⟩ := hr
    exact hk g₃ s₃ ρ₃ κ₃ O₃ (G.trans G₃) q

theorem Cl.loop {e target iter : Expr} {ifs : List Expr} {k : Nat} {tail : Sem Fin → Sem Fin} {it acc : Addr} {n : Nat} {Q : Rho → Rho → Own → Prop} (Inv : Nat → Rho → Rho → Own → Prop)
    (ht : compTurn e k (.ref it) (.ref acc) env = turnL e k target iter ifs tail (.ref it) (.ref acc) env) (hq : ∃ a b c d, e = .ListComp a b c d) (hp : PairT target = true)
    (h0 : ∃ ρ', Fgt ρ ρ' ∧ Inv n ρ' κ O)
    (turn : ∀ n ρ κ O, Inv n ρ κ O → NxT Γ A O it fun od O₁ => match od with
      | none => Q ρ κ O₁
      | some d => As Γ A env ρ κ O₁ (assign target env) d fun ρ₂ κ₂ O₂ => Ifs Γ A env ρ₂ κ₂ O₂ ifs fun b O₃ =>
        if b = true then Tl Γ A env ρ₂ κ₂ O₃ tail fun ρ₃ κ₃ O₄ => ∃ m ρ' O', m < n ∧ Fgt ρ₃ ρ' ∧ OS O' O₄ ∧ Inv m ρ' κ₃ O'
        else ∃ m ρ' O', m < n ∧ Fgt ρ₂ ρ' ∧ OS O' O₃ ∧ Inv m ρ' κ₂ O') : Cl Γ A env ρ κ O (.compLoop e k (.ref it) (.ref acc) env) Q := fun g s ok F => by
  obtain ⟨a, b, c, d, rfl⟩ := hq
  obtain ⟨ρ₀, hf0, hI0⟩ := h0
  refine codeAny_loop rfl (fun n s' => ∃ g' ρ' κ' O', Gs Γ env g s κ O g' s' ρ' κ' O' ∧ Inv n ρ' κ' O') (fun n s' hI => ?_) n ⟨g, ρ₀, κ, O, (Gs.ofGo F (.refl ok)).forget hf0 .refl, hI0⟩
  obtain ⟨g', ρ', κ', O', G, hI⟩ := hI
  show wpAny _ A ((compTurn (.ListComp a b c d) k (.ref it) (.ref acc) env).onRaise (fun x => do noteFrame x env; theTreesLotGoes x)) _ _ s'
  refine wpAny_noted ?_
  rw [ht]
  unfold turnL
  refine wpAny_bind (wpAny_standAt (wpAny_bind (noE (wpAny_mono (turn n ρ' κ' O' hI g' s' G.ok) (fun r s₃ ⟨g₃, O₃, od, G₃, hr, hit, hq⟩ => ?_) fun _ _ e => e))))
  cases hr with
  | none => exact wpAny_pure ⟨g₃, ρ', κ', O₃, G.trans (.ofGo G.fr G₃), hq⟩
  | some iv =>
    obtain ⟨c, hm, hc⟩ := hit rfl
    refine wpAny_bind (letGo_of G₃.ok hm hc hp ?_)
    refine wpAny_bind (noE (wpAny_mono (hq g₃ s₃ _ G₃.ok (G.fr.go G₃) iv) (fun _ s₄ ⟨g₄, ρ₄, κ₄, O₄, G₄, hb⟩ => ?_) fun _ _ e => e))
    refine wpAny_bind (noE (wpAny_mono (hb g₄ s₄ G₄.ok G₄.fr) (fun ok' s₅ ⟨g₅, O₅, b', G₅, hbb, hq⟩ => ?_) fun _ _ e => e))
    subst hbb
    have Gall := ((G.trans (.ofGo G.fr G₃)).trans G₄).trans (.ofGo G₄.fr G₅)
    cases ok' with
    | false =>
      obtain ⟨m, ρ₆, O₆, hlt, hfg, hsub, hI'⟩ := hq
      exact wpAny_pure ⟨rfl, m, hlt, g₅, ρ₆, κ₄, O₆, Gall.forget hfg hsub, hI'⟩
    | true =>
      refine hq g₅ s₅ Gall.ok Gall.fr _ _ _ fun g₆ s₆ ρ₆ κ₆ O₆ G₆ hh => ?_
      obtain ⟨m, ρ₇, O₇, hlt, hfg, hsub, hI'⟩ := hh
      exact wpAny_pure ⟨rfl, m, hlt, g₆, ρ₇, κ₆, O₇, (Gall.trans G₆).forget hfg hsub, hI'⟩

/-- what the frame of a comprehension knows of the cells around it -/
inductive CK (env : Env) (sc : Scope) (cl : List (Str × Addr)) (κ : Rho) : Rho → Prop
  | nil : CK env sc cl κ []
  | cons {p : Str × Option D} {r : Rho} : p ∈ κ → sc.names.lookup p.1 = some .cell ∨ sc.names.lookup p.1 = some .free → cl.lookup p.1 = env.cells.lookup p.1 → (∀ q ∈ r, q.1 ≠ p.1) → CK env sc cl κ r → CK env sc cl κ (p :: r)
theorem CK.mem {sc : Scope} {cl : List (Str × Addr)} {κ κc : Rho} (h : CK env sc cl κ κc) : ∀ p ∈ κc, p ∈ κ ∧ (sc.names.lookup p.1 = some .cell ∨ sc.names.lookup p.1 = some .free) ∧ cl.lookup p.1 = env.cells.lookup p.1 := by
  induction h with
  | nil => exact fun _ h => nomatch h
  | cons a b c _ _ ih =>
    intro q hq
    rcases List.mem_cons.mp hq with rfl | hq
    · exact ⟨a, b, c⟩
    · exact ih q hq
theorem CK.nd {sc : Scope} {cl : List (Str × Addr)} {κ κc : Rho} (h : CK env sc cl κ κc) : (κc.map (·.1)).Nodup := by
  induction h with
  | nil => exact List.nodup_nil
  | cons a b c d _ ih =>
    rw [List.map_cons, List.nodup_cons]
    refine ⟨fun hm => ?_, ih⟩
    obtain ⟨q, hq, e⟩ := List.mem_map.mp hm
    exact d q hq e
theorem Frm.but {g h h' : Heap} {L : Addr} (F : Frm env g h O ρ κ) (hs : Heap.SameBut L h h') (hl : L ≠ env.locals) (hc : ∀ p ∈ κ, env.cells.lookup p.1 ≠ some L) : Frm env g h' O ρ κ := by
  obtain ⟨m, hm, hr⟩ := F.loc
  refine ⟨F.kind, F.glob, F.bi, ⟨m, hm.sameBut hs (Ne.symm hl), hr⟩, F.lk, F.nd, F.gl, F.lo, F.ck, fun p hp => ?_, F.cnd, F.cin⟩
  obtain ⟨h1, ca, h2, h3, h4, h5, ov, hc', h6⟩ := F.cel p hp
  exact ⟨h1, ca, h2, h3, h4, h5, ov, hc'.sameBut hs fun e => hc p hp (e ▸ h2), h6⟩

/-- a list comprehension's own frame, from the list it begins with to its end -/
theorem compRun {elt target iter : Expr} {ifs : List Expr} {rest : List Comprehension} {scope : Scope} {pos p1 : Pos} {cl : List (Str × Addr)} {ρc κc : Rho} {K : Addr → Own → Prop} {g : Heap} {s : Shared} {use : Option (Value → Sem Unit)} {Q : Value → Shared → Prop}
    (ok : Okb Γ g s O) (F : Frm env g s.heap O ρ κ)
    (hclos : closureFor scope env = pure cl) (hkind : scope.kind = .function) (hnames : (scope.names.map (·.1)).Nodup) (hnc : (scope.names.all fun x => !(x.2 == .cell) && !(x.1 == ("__debug__" : Str))) = true)
    (hρ : rho0 scope.names [] = ρc) (hκ : CK env (relabel scope env) cl κ κc) (hs : ∀ x, foldedSetIterable iter env x = pure x)
    (h : Ev Γ A env ρ κ O iter fun d O₁ => GetI Γ A O₁ d fun I O₂ => ItIn I O₂ ∧ ∀ acc L, Cl Γ A (compEnvC scope cl L env) ρc κc ((acc, .list []) :: O₂) (.compStart (.ListComp elt (⟨target, iter, ifs, 0⟩ :: rest) scope pos) 0 (.ref I) (.ref acc) (compEnvC scope cl L env)) fun _ _ O₃ => K acc O₃)
    (hQ : ∀ acc L g' s' O₃ m f, Go Γ g s O g' s' O₃ → K acc O₃ → s'.heap.Ns L m → g'.get? L = none → ¬ dom O₃ L → L ≠ env.locals → (∀ p ∈ κ, env.cells.lookup p.1 ≠ some L) → (dom O L ∨ s.heap.get? L = none) → compPost Γ.M A (fun _ _ => False) use Q (.ref acc) L (.ok f) s') :
    wpAny Γ.M A (comprehension (.ListComp elt (⟨target, iter, ifs, 0⟩ :: rest) scope pos) scope env p1 (newList []) false (eval iter env) use) Q (fun _ _ => False) s := by
  refine wpAny_comprehension_free rfl hs hclos hkind (fun x hx hl => by obtain ⟨a, b⟩ := x; dsimp only at hl; subst hl; exact lookup_of_mem hnames hx) ?_
  refine wpAny_mono (h g s ok F) (fun v s₁ ⟨g₁, O₁, d, G₁, i, h₁⟩ => ?_) fun _ _ e => e
  refine wpAny_mono (h₁ g₁ s₁ v G₁.ok i) (fun u s₂ ⟨g₂, O₂, I, G₂, e, hit, h₂⟩ => ?_) fun _ _ e => e
  subst e
  refine wpAny_mono (newListO_T (Γ := Γ) (A := A) (O := O₂) (ds := []) (Q := fun d O₃ => ∃ a, d = .v (.ref a) ∧ O₃ = (a, .list []) :: O₂) G₂.ok .nil (by decide) fun a => ⟨a, rfl, rfl⟩) (fun av s₃ ⟨g₃, O₃, d₃, G₃, i₃, acc, e₁, e₂⟩ => ?_) fun _ _ e => e
  subst e₁ e₂
  cases i₃
  have hcells : ∀ x ∈ scope.names, x.2 ≠ .cell := fun x hx e => by
    have := List.all_eq_true.mp hnc x hx
    rw [e] at this
    simp at this
  refine wpAny_newFunctionEnv hcells (fun x hx => nomatch hx) (fun h' hns hsb => ?_) hkind
  have G0 := (G₁.trans G₂).trans G₃
  have kp : Sub s₃.heap h' := fun b o e => by
    have hne : b ≠ s₃.heap.objs.size := Nat.ne_of_lt (Heap.lt_size e)
    rw [hsb.2 b hne]
    exact Heap.get?_push_of_some _ e
  have hfree : s₃.heap.get? s₃.heap.objs.size = none := by
    cases q : s₃.heap.get? s₃.heap.objs.size with
    | none => rfl
    | some o => exact absurd (Heap.lt_size q) (Nat.lt_irrefl _)
  have G4 : Go Γ g₃ s₃ ((acc, .list []) :: O₂) g₃ { s₃ with heap := h', toks := s₃.toks + 0 } ((acc, .list []) :: O₂) := Go.sub G₃.ok kp _
  have hgL : g₃.get? s₃.heap.objs.size = none := by
    cases q : g₃.get? s₃.heap.objs.size with
    | none => rfl
    | some o => rw [G₃.ok.keep _ _ q] at hfree; cases hfree
  have hdL : ¬ dom ((acc, .list []) :: O₂) s₃.heap.objs.size := fun hm => by
    obtain ⟨p, hp, e⟩ := List.mem_map.mp hm
    obtain ⟨o, ho⟩ := (G₃.ok.own p hp).1.there
    rw [e, hfree] at ho; cases ho
  have F3 := F.go (G0.trans G4)
  have Fc : Frm (compEnvC scope cl s₃.heap.objs.size env) g₃ h' ((acc, .list []) :: O₂) ρc κc := by
    subst hρ
    refine ⟨hkind, F.glob, F.bi, ⟨_, hns, fun x d hx => by obtain ⟨_, e⟩ := mem_rho0 hx; simp at e⟩, fun p hp => ?_, filterMap_keys (fun a b e => by split at e <;> cases e; rfl) hnames, hgL, hdL, fun p hp => F3.ck p (hκ.mem p hp).1, fun p hp => ?_, hκ.nd, fun p hp q hq e => ?_⟩
    · obtain ⟨z, _⟩ := mem_rho0 (x := p.1) (od := p.2) hp
      refine ⟨lookup_relabel_local (lookup_of_mem hnames z), ?_⟩
      have := List.all_eq_true.mp hnc _ z
      simpa using this
    · obtain ⟨z1, z2, z3⟩ := hκ.mem p hp
      obtain ⟨_, ca, y2, y3, y4, y5, ov, y6, y7⟩ := F3.cel p z1
      refine ⟨z2, ca, z3.trans y2, y3, y4, fun e => ?_, ov, y6, y7⟩
      obtain ⟨_, ca', x2, _, _, _, ov', ⟨oc, x6, _⟩, _⟩ := (F.go G0).cel p z1
      rw [x2] at y2; cases y2
      have e' : ca = s₃.heap.objs.size := e
      rw [e', hfree] at x6; cases x6
    · obtain ⟨z1, _, z3⟩ := hκ.mem p hp
      obtain ⟨w1, _, w3⟩ := hκ.mem q hq
      exact F.cin p z1 q w1 (by rw [← z3, ← w3]; exact e)
  refine codeAny_mono (h₂ acc s₃.heap.objs.size g₃ _ G4.ok Fc) fun r s₅ hr => ?_
  cases r with
  | error e => exact hr.elim
  | ok f =>
    obtain ⟨g₅, ρ₅, κ₅, O₅, G₅, hK⟩ := hr
    obtain ⟨m, hm, _⟩ := G₅.fr.loc
    have hLO : dom O s₃.heap.objs.size ∨ s.heap.get? s₃.heap.objs.size = none := by
      cases q : s.heap.get? s₃.heap.objs.size with
      | none => exact .inr rfl
      | some o =>
        by_cases hd : dom O s₃.heap.objs.size
        · exact .inl hd
        · have := G0.to.pres _ _ q hd
          rw [hfree] at this; cases this
    have G04 := G0.trans G4
    have hX : ∀ b, Xf (compEnvC scope cl s₃.heap.objs.size env) κc ((acc, .list []) :: O₂) b → dom O b ∨ s.heap.get? b = none := fun b hb => by
      rcases hb with hb | ⟨hb, _⟩ | hb
      · have hb : b = s₃.heap.objs.size := hb
        rw [hb]; exact hLO
      · cases hb
      · exact G04.wi b hb
    refine hQ acc _ g₅ s₅ O₅ m f ⟨G₅.ok, G04.to.trans G₅.to hX, wi_trans G04.wi G04.to G₅.wi fun b hb => ?_⟩ hK hm G₅.fr.gl G₅.fr.lo ?_ (fun p hp e => ?_) hLO
    · by_cases hz : b = s₃.heap.objs.size
      · rw [hz]; exact .inr (.inr G₅.fr.lo)
      · rcases (Or.inl hb : dom O b ∨ s.heap.get? b = none) with x | x
        · exact .inl x
        · exact .inr (.inl x)
    · intro e
      obtain ⟨_, ⟨oc, _, _, x6, _⟩, _⟩ := (F.go G0).loc
      have e' : s₃.heap.objs.size = env.locals := e
      rw [← e', hfree] at x6; cases x6
    · obtain ⟨_, ca', x2, _, _, _, ov', ⟨oc, x6, _⟩, _⟩ := (F.go G0).cel p hp
      have e' : env.cells.lookup p.1 = some s₃.heap.objs.size := e
      rw [x2] at e'; cases e'
      rw [hfree] at x6; cases x6

theorem Ev.comp {elt target iter : Expr} {ifs : List Expr} {rest : List Comprehension} {scope : Scope} {pos : Pos} {cl : List (Str × Addr)} (ρc κc : Rho) {Q : D → Own → Prop}
    (hclos : closureFor scope env = pure cl) (hkind : scope.kind = .function) (hnames : (scope.names.map (·.1)).Nodup) (hnc : (scope.names.all fun x => !(x.2 == .cell) && !(x.1 == ("__debug__" : Str))) = true)
    (hρ : rho0 scope.names [] = ρc) (hκ : CK env (relabel scope env) cl κ κc) (hs : ∀ x, foldedSetIterable iter env x = pure x)
    (h : Ev Γ A env ρ κ O iter fun d O₁ => GetI Γ A O₁ d fun I O₂ => ItIn I O₂ ∧ ∀ acc L, Cl Γ A (compEnvC scope cl L env) ρc κc ((acc, .list []) :: O₂) (.compStart (.ListComp elt (⟨target, iter, ifs, 0⟩ :: rest) scope pos) 0 (.ref I) (.ref acc) (compEnvC scope cl L env)) fun _ _ O₃ => ∃ ds O', O₃ = (acc, .list ds) :: O' ∧ Q (.lst ds) O') :
    Ev Γ A env ρ κ O (.ListComp elt (⟨target, iter, ifs, 0⟩ :: rest) scope pos) Q := fun g s ok F => by
  refine compRun (use := none) ok F hclos hkind hnames hnc hρ hκ hs h fun acc L g' s' O₃ m f G hK hm hL hd hl hc hLO => ?_
  obtain ⟨ds, O', e, q⟩ := hK
  subst e
  refine ⟨m, hm, fun h' hs' => ?_⟩
  have ok' := G.ok.but hs' hL hd s'.toks
  have G' : Go Γ g s O g' { s' with heap := h' } ((acc, .list ds) :: O') := ⟨ok', G.to.trans (To.but (X := fun b => b = L) hs' rfl s'.toks) fun b hb => by rw [hb]; exact hLO, G.wi⟩
  obtain ⟨g'', G'', i⟩ := Go.freeze ok'
  exact ⟨g'', O', .lst ds, G'.trans G'', i, q⟩
/-- `x = [ ... ]` on one line: the store comes before the frame goes -/
theorem S1.asComp {t : Str} {tp : Pos} {elt target iter : Expr} {ifs : List Expr} {rest : List Comprehension} {scope : Scope} {pos spos : Pos} {cl : List (Str × Addr)} (ρc κc : Rho) {Q : Fl → Rho → Rho → Own → Prop}
    (hsw : swapsWith (.ListComp elt (⟨target, iter, ifs, 0⟩ :: rest) scope pos) (some (.Name t tp)) spos.line env = pure true)
    (hclos : closureFor scope env = pure cl) (hkind : scope.kind = .function) (hnames : (scope.names.map (·.1)).Nodup) (hnc : (scope.names.all fun x => !(x.2 == .cell) && !(x.1 == ("__debug__" : Str))) = true)
    (hρ : rho0 scope.names [] = ρc) (hκ : CK env (relabel scope env) cl κ κc) (hs : ∀ x, foldedSetIterable iter env x = pure x)
    (h : Ev Γ A env ρ κ O iter fun d O₁ => GetI Γ A O₁ d fun I O₂ => ItIn I O₂ ∧ ∀ acc L, Cl Γ A (compEnvC scope cl L env) ρc κc ((acc, .list []) :: O₂) (.compStart (.ListComp elt (⟨target, iter, ifs, 0⟩ :: rest) scope pos) 0 (.ref I) (.ref acc) (compEnvC scope cl L env)) fun _ _ O₃ => ∃ ds O', O₃ = (acc, .list ds) :: O' ∧ ∃ ρ', Put ρ t (.lst ds) ρ' ∧ Q .next ρ' κ O') :
    S1 Γ A env ρ κ O (.Assign [.Name t tp] (.ListComp elt (⟨target, iter, ifs, 0⟩ :: rest) scope pos) spos) Q := fun g s ok F => by
  rw [exec_Assign_Name_used _ _ _ _ hsw]
  refine wpAny_bind (wpAny_standAt (wpAny_bind ?_))
  show wpAny _ A (do let _ ← comprehension (.ListComp elt (⟨target, iter, ifs, 0⟩ :: rest) scope pos) scope env _ (newList []) false (eval iter env) (some (assign (.Name t tp) env))) _ _ s
  refine wpAny_bind (wpAny_mono (Q := fun _ s' => ∃ g' ρ' κ' O' f, Gs Γ env g s κ O g' s' ρ' κ' O' ∧ FlIn g' .next f ∧ Q f ρ' κ' O') (compRun (use := some (assign (.Name t tp) env)) ok F hclos hkind hnames hnc hρ hκ hs h fun acc L g' s' O₃ m f G hK hm hL hd hl hc hLO => ?_) (fun _ s' hq => wpAny_pure (wpAny_pure hq)) fun _ _ e => e)
  obtain ⟨ds, O', e, ρ', hput, q⟩ := hK
  subst e
  obtain ⟨g'', G'', i⟩ := Go.freeze G.ok
  have G2 := G.trans G''
  show wpAny _ A (assign (.Name t tp) env (.ref acc)) _ _ s'
  refine wpAny_assign_Name (store_loc G2.ok (F.go G2) i hput fun s₂ G₂ => ?_)
  obtain ⟨oL, eL, epL, hoL, hrL⟩ := id hm
  have hL'' : g''.get? L = none := G''.to.none hoL hd hL
  have hd' : ¬ dom O' L := fun x => hd (.tail _ x)
  have hns : s₂.heap.Ns L m := by
    refine hm.at' fun o ho => G₂.to.pres _ _ ho fun x => ?_
    rcases x with x | ⟨_, y, hy, x⟩ | x
    · exact hl x
    · obtain ⟨p, hp, rfl⟩ := List.mem_map.mp hy
      exact hc p hp x
    · exact hd' x
  refine ⟨m, hns, fun h' hs' => ⟨g'', ρ', κ, O', .next, ?_, .next, q⟩⟩
  have Gall := (Gs.ofGo F G2).trans G₂
  refine ⟨Gall.ok.but hs' hL'' hd' s₂.toks, Gall.fr.but hs' hl hc, Gall.to.trans (To.but (X := fun b => b = L) hs' rfl s₂.toks) fun b hb => ?_, Gall.wi, Gall.ks⟩
  rw [hb]
  exact hLO.imp (fun x => .inr (.inr x)) id
end
end Lw
end
section
set_option autoImplicit false
set_option linter.unusedVariables false
set_option Elab.async false
namespace Lw
open PySem PySem.Calls PyProof.Rows PySem.W
section
variable {Γ : Gam} {A : Around} {env : Env} {ρ κ : Rho} {O : Own}
/-- the body of a one-clause list comprehension at one item -/
noncomputable def BodyC (Γ : Gam) (A : Around) (cenv : Env) (ρc κc : Rho) (target : Expr) (ifs : List Expr) (elt : Expr) (d : D) (r : Option D) : Prop :=
  ∀ O, As Γ A cenv ρc κc O (assign target cenv) d fun ρ₂ κ₂ O₂ => Ifs Γ A cenv ρ₂ κ₂ O₂ ifs fun b O₃ =>
    if b = true then Ev Γ A cenv ρ₂ κ₂ O₃ elt fun e O₄ => (O₄ = O ∧ r = some e) ∧ κ₂ = κc ∧ Fgt ρ₂ ρc else (O₃ = O ∧ r = none) ∧ κ₂ = κc ∧ Fgt ρ₂ ρc
theorem Ifs.mono {ifs : List Expr} {Q Q' : Bool → Own → Prop} (h : Ifs Γ A env ρ κ O ifs Q) (k : ∀ d O', Q d O' → Q' d O') : Ifs Γ A env ρ κ O ifs Q' := fun g s ok F => (h g s ok F).mono k
theorem As.mono {t : Value → Sem Unit} {d : D} {Q Q' : Rho → Rho → Own → Prop} (h : As Γ A env ρ κ O t d Q) (k : ∀ ρ' κ' O', Q ρ' κ' O' → Q' ρ' κ' O') : As Γ A env ρ κ O t d Q' := fun g s v ok F i =>
  wpAny_mono (h g s v ok F i) (fun _ _ ⟨g', ρ', κ', O', a, b⟩ => ⟨g', ρ', κ', O', a, k _ _ _ b⟩) fun _ _ e => e

theorem Cl.mapIn {elt target iter : Expr} {ifs : List Expr} {scope : Scope} {pos : Pos} {acc I : Addr} {ds : List D} {W : Own} {Q : Rho → Rho → Own → Prop} (f : D → Option D) (hh : A.handled = none) (hp : PairT target = true)
    (body : ∀ d ∈ ds, BodyC Γ A env ρ κ target ifs elt d (f d)) (hlen : ds.length ≤ sizeLine) (q : Q ρ κ ((acc, .list (ds.filterMap f)) :: W)) :
    Cl Γ A env ρ κ ((acc, .list []) :: (I, .iter ds) :: W) (.compStart (.ListComp elt [⟨target, iter, ifs, 0⟩] scope pos) 0 (.ref I) (.ref acc) env) Q := by
  refine Cl.start ⟨_, .tail _ (.head _), .inl ⟨_, rfl⟩⟩ ⟨_, _, _, _, rfl, _, rfl, rfl⟩ ?_
  refine Cl.loop (n := ds.length) (fun n ρ' κ' O' => ∃ done rest, ds = done ++ rest ∧ n = rest.length ∧ ρ' = ρ ∧ κ' = κ ∧ O' = (acc, .list (done.filterMap f)) :: (I, .iter rest) :: W) (turn_one ..) ⟨_, _, _, _, rfl⟩ hp ⟨ρ, .refl, [], ds, rfl, rfl, rfl, rfl, rfl⟩ ?_
  rintro n ρ' κ' O' ⟨done, rest, hds, rfl, rfl, rfl, rfl⟩
  cases rest with
  | nil =>
    rw [List.append_nil] at hds; subst hds
    exact .stop hh (.tail _ (.head _)) (.there .here) q
  | cons d rest =>
    refine .item (.there .here) ((body d (by rw [hds]; simp) _).mono fun ρ₂ κ₂ O₂ hb => Ifs.mono hb fun b O₃ hb => ?_)
    cases b with
    | true =>
      rw [if_pos rfl] at hb ⊢
      refine Tl.emit (hb.mono fun e O₄ ⟨⟨e1, e2⟩, e3, e4⟩ => ?_)
      subst e1 e3
      have hl : (done.filterMap f).length ≤ sizeLine := Nat.le_trans (List.length_filterMap_le _ _) (Nat.le_trans (by rw [hds, List.length_append]; omega) hlen)
      refine ⟨done.filterMap f, _, .here, hl, rest.length, ρ', _, Nat.lt_succ_self _, e4, OS.refl, done ++ [d], rest, by rw [hds]; simp, rfl, rfl, rfl, ?_⟩
      rw [List.filterMap_append, List.filterMap_cons, e2]; rfl
    | false =>
      rw [if_neg (by decide)] at hb ⊢
      obtain ⟨⟨e1, e2⟩, e3, e4⟩ := hb
      subst e1 e3
      refine ⟨rest.length, ρ', _, Nat.lt_succ_self _, e4, OS.refl, done ++ [d], rest, by rw [hds]; simp, rfl, rfl, rfl, ?_⟩
      rw [List.filterMap_append, List.filterMap_cons, e2]; simp
theorem Cl.mapLit {elt target iter : Expr} {ifs : List Expr} {scope : Scope} {pos : Pos} {acc I l : Addr} {ds : List D} {W : Own} {Q : Rho → Rho → Own → Prop} (f : D → Option D) (hh : A.handled = none) (hp : PairT target = true) (hl : (l, .list ds) ∈ W)
    (body : ∀ d ∈ ds, BodyC Γ A env ρ κ target ifs elt d (f d)) (hlen : ds.length ≤ sizeLine) (q : Q ρ κ ((acc, .list (ds.filterMap f)) :: W)) :
    Cl Γ A env ρ κ ((acc, .list []) :: (I, .lit l 0) :: W) (.compStart (.ListComp elt [⟨target, iter, ifs, 0⟩] scope pos) 0 (.ref I) (.ref acc) env) Q := by
  refine Cl.start ⟨_, .tail _ (.head _), .inr ⟨_, _, rfl⟩⟩ ⟨_, _, _, _, rfl, _, rfl, rfl⟩ ?_
  refine Cl.loop (n := ds.length) (fun n ρ' κ' O' => ∃ done rest, ds = done ++ rest ∧ n = rest.length ∧ ρ' = ρ ∧ κ' = κ ∧ O' = (acc, .list (done.filterMap f)) :: (I, .lit l done.length) :: W) (turn_one ..) ⟨_, _, _, _, rfl⟩ hp ⟨ρ, .refl, [], ds, rfl, rfl, rfl, rfl, rfl⟩ ?_
  rintro n ρ' κ' O' ⟨done, rest, hds, rfl, rfl, rfl, rfl⟩
  cases rest with
  | nil =>
    rw [List.append_nil] at hds; subst hds
    exact .litStop hh (.tail _ (.head _)) (.there .here) (.tail _ (.tail _ hl)) (List.getElem?_eq_none (Nat.le_refl _)) q
  | cons d rest =>
    refine .litItem (.there .here) (.tail _ (.tail _ hl)) (by rw [hds]; simp) ((body d (by rw [hds]; simp) _).mono fun ρ₂ κ₂ O₂ hb => Ifs.mono hb fun b O₃ hb => ?_)
    cases b with
    | true =>
      rw [if_pos rfl] at hb ⊢
      refine Tl.emit (hb.mono fun e O₄ ⟨⟨e1, e2⟩, e3, e4⟩ => ?_)
      subst e1 e3
      have hl' : (done.filterMap f).length ≤ sizeLine := Nat.le_trans (List.length_filterMap_le _ _) (Nat.le_trans (by rw [hds, List.length_append]; omega) hlen)
      refine ⟨done.filterMap f, _, .here, hl', rest.length, ρ', _, Nat.lt_succ_self _, e4, OS.refl, done ++ [d], rest, by rw [hds]; simp, rfl, rfl, rfl, ?_⟩
      rw [List.filterMap_append, List.filterMap_cons, e2, List.length_append]; rfl
    | false =>
      rw [if_neg (by decide)] at hb ⊢
      obtain ⟨⟨e1, e2⟩, e3, e4⟩ := hb
      subst e1 e3
      refine ⟨rest.length, ρ', _, Nat.lt_succ_self _, e4, OS.refl, done ++ [d], rest, by rw [hds]; simp, rfl, rfl, rfl, ?_⟩
      rw [List.filterMap_append, List.filterMap_cons, e2, List.length_append]; simp

theorem Ev.compM {elt target iter : Expr} {ifs : List Expr} {scope : Scope} {pos : Pos} {cl : List (Str × Addr)} (ρc κc : Rho) (f : D → Option D) {Q : D → Own → Prop} (hh : A.handled = none) (hp : PairT target = true)
    (hclos : closureFor scope env = pure cl) (hkind : scope.kind = .function) (hnames : (scope.names.map (·.1)).Nodup) (hnc : (scope.names.all fun x => !(x.2 == .cell) && !(x.1 == ("__debug__" : Str))) = true)
    (hρ : rho0 scope.names [] = ρc) (hκ : CK env (relabel scope env) cl κ κc) (hs : ∀ x, foldedSetIterable iter env x = pure x)
    (h : Ev Γ A env ρ κ O iter fun d O₁ => GetI Γ A O₁ d fun I O₂ => ∃ ds W, O₂ = (I, .iter ds) :: W ∧ (∀ L, ∀ d ∈ ds, BodyC Γ A (compEnvC scope cl L env) ρc κc target ifs elt d (f d)) ∧ ds.length ≤ sizeLine ∧ Q (.lst (ds.filterMap f)) W) :
    Ev Γ A env ρ κ O (.ListComp elt [⟨target, iter, ifs, 0⟩] scope pos) Q := by
  refine Ev.comp ρc κc hclos hkind hnames hnc hρ hκ hs (h.mono fun d O₁ h₁ g s v ok i => (h₁ g s v ok i).mono fun I O₂ ⟨ds, W, e, hb, hl, q⟩ => ?_)
  subst e
  exact ⟨⟨_, .head _, .inl ⟨_, rfl⟩⟩, fun acc L => Cl.mapIn f hh hp (hb L) hl ⟨_, _, rfl, q⟩⟩
theorem Ev.compLit {elt target iter : Expr} {ifs : List Expr} {scope : Scope} {pos : Pos} {cl : List (Str × Addr)} (ρc κc : Rho) (f : D → Option D) {Q : D → Own → Prop} (hh : A.handled = none) (hp : PairT target = true)
    (hclos : closureFor scope env = pure cl) (hkind : scope.kind = .function) (hnames : (scope.names.map (·.1)).Nodup) (hnc : (scope.names.all fun x => !(x.2 == .cell) && !(x.1 == ("__debug__" : Str))) = true)
    (hρ : rho0 scope.names [] = ρc) (hκ : CK env (relabel scope env) cl κ κc) (hs : ∀ x, foldedSetIterable iter env x = pure x)
    (h : Ev Γ A env ρ κ O iter fun d O₁ => GetI Γ A O₁ d fun I O₂ => ∃ l ds W, O₂ = (I, .lit l 0) :: W ∧ (l, .list ds) ∈ W ∧ (∀ L, ∀ d ∈ ds, BodyC Γ A (compEnvC scope cl L env) ρc κc target ifs elt d (f d)) ∧ ds.length ≤ sizeLine ∧ Q (.lst (ds.filterMap f)) W) :
    Ev Γ A env ρ κ O (.ListComp elt [⟨target, iter, ifs, 0⟩] scope pos) Q := by
  refine Ev.comp ρc κc hclos hkind hnames hnc hρ hκ hs (h.mono fun d O₁ h₁ g s v ok i => (h₁ g s v ok i).mono fun I O₂ ⟨l, ds, W, e, hm, hb, hl, q⟩ => ?_)
  subst e
  exact ⟨⟨_, .head _, .inr ⟨_, _, rfl⟩⟩, fun acc L => Cl.mapLit f hh hp hm (hb L) hl ⟨_, _, rfl, q⟩⟩
theorem S1.asCompM {t : Str} {tp : Pos} {elt target iter : Expr} {ifs : List Expr} {scope : Scope} {pos spos : Pos} {cl : List (Str × Addr)} (ρc κc : Rho) (f : D → Option D) {Q : Fl → Rho → Rho → Own → Prop} (hh : A.handled = none) (hp : PairT target = true)
    (hsw : swapsWith (.ListComp elt [⟨target, iter, ifs, 0⟩] scope pos) (some (.Name t tp)) spos.line env = pure true)
    (hclos : closureFor scope env = pure cl) (hkind : scope.kind = .function) (hnames : (scope.names.map (·.1)).Nodup) (hnc : (scope.names.all fun x => !(x.2 == .cell) && !(x.1 == ("__debug__" : Str))) = true)
    (hρ : rho0 scope.names [] = ρc) (hκ : CK env (relabel scope env) cl κ κc) (hs : ∀ x, foldedSetIterable iter env x = pure x)
    (h : Ev Γ A env ρ κ O iter fun d O₁ => GetI Γ A O₁ d fun I O₂ => ∃ ds W, O₂ = (I, .iter ds) :: W ∧ (∀ L, ∀ d ∈ ds, BodyC Γ A (compEnvC scope cl L env) ρc κc target ifs elt d (f d)) ∧ ds.length ≤ sizeLine ∧ ∃ ρ', Put ρ t (.lst (ds.filterMap f)) ρ' ∧ Q .next ρ' κ W) :
    S1 Γ A env ρ κ O (.Assign [.Name t tp] (.ListComp elt [⟨target, iter, ifs, 0⟩] scope pos) spos) Q := by
  refine S1.asComp ρc κc hsw hclos hkind hnames hnc hρ hκ hs (h.mono fun d O₁ h₁ g s v ok i => (h₁ g s v ok i).mono fun I O₂ ⟨ds, W, e, hb, hl, q⟩ => ?_)
  subst e
  exact ⟨⟨_, .head _, .inl ⟨_, rfl⟩⟩, fun acc L => Cl.mapIn f hh hp (hb L) hl ⟨_, _, rfl, q⟩⟩
end
end Lw
end
section
set_option autoImplicit false
set_option linter.unusedVariables false
set_option Elab.async false
namespace Lw
open PySem PySem.Calls PyProof.Rows PySem.W
section
variable {Γ : Gam} {A : Around} {env : Env} {ρ κ : Rho} {O : Own}

/-- an object with its own names, let be or under construction -/
inductive ObjOf (O : Own) : D → Addr → List (Str × D) → Prop
  | frz {C : Addr} {fs : List (Str × D)} : ObjOf O (.inst C fs) C fs
  | own {x C dx : Addr} {fs : List (Str × D)} : (x, .obj C dx) ∈ O → (dx, .dict fs) ∈ O → ObjOf O (.v (.ref x)) C fs
theorem instAt_of {h : Heap} {x C dx : Addr} {es : Array DictEntry} {n : Nat} (a : h.get? x = some (instObj C dx)) (b : h.get? dx = some (dctObj es n)) : PySem.W.InstAt h x (instObj C dx) C (some (dctObj es n)) := ⟨a, rfl, rfl, b⟩
theorem ObjOf.at {g : Heap} {s : Shared} {d : D} {C : Addr} {fs : List (Str × D)} {v : Value} (h : ObjOf O d C fs) (ok : Okb Γ g s O) (i : In g v d) : ∃ x dx es n, v = .ref x ∧ s.heap.get? x = some (instObj C dx) ∧ s.heap.get? dx = some (dctObj es n) ∧ InE g es.toList fs := by
  cases h with
  | frz => cases i with | inst a b c => exact ⟨_, _, _, _, rfl, ok.keep _ _ a, ok.keep _ _ b, c⟩
  | own m m' =>
    cases i
    obtain ⟨⟨es, n, e, r⟩, _⟩ := ok.own _ m'
    exact ⟨_, _, es, n, rfl, (ok.own _ m).1, e, r⟩
theorem lookIn_some {g : Heap} {es : Array DictEntry} {n : Nat} {fs : List (Str × D)} {x : Str} {d : D} (r : InE g es.toList fs) (f : FAt fs x d) : ∃ v, PySem.W.lookIn x (dctObj es n) = some (some v) ∧ In g v d := by
  obtain ⟨e, h1, h2⟩ := r.get f
  exact ⟨e.val, by unfold PySem.W.lookIn; simp only [h1], h2⟩
theorem lookIn_none {g : Heap} {es : Array DictEntry} {n : Nat} {fs : List (Str × D)} {x : Str} (r : InE g es.toList fs) (f : FNo fs x = true) : PySem.W.lookIn x (dctObj es n) = some none := by
  unfold PySem.W.lookIn; simp only [r.no f, r.plain]; rfl
/-- a value that is handed out as it is -/
noncomputable def Handed : D → Bool
  | .v v => handedIn v
  | _ => true
theorem handed_of {g : Heap} {v : Value} {d : D} (i : In g v d) (h : Handed d = true) : handedIn v = true := by
  cases i <;> first | exact h | rfl
theorem GetA.own {name : Str} {d e : D} {C : Addr} {fs : List (Str × D)} {attr : Option Value} {Q : D → Own → Prop} (o : ObjOf O d C fs) (f : FAt fs name e)
    (hg : plainGet Γ.K C name = true) (hh : hasDictIn Γ.K C = true) (ha : findIn Γ.K (.ref C) name = some attr) (hn : noGet Γ.K attr = true) (hd : Handed e = true) (q : Q e O) : GetA Γ A O name d Q := fun g s v ok i => by
  obtain ⟨x, dx, es, n, rfl, a, b, r⟩ := o.at ok i
  obtain ⟨w, h1, h2⟩ := lookIn_some (n := n) r f
  exact get_value ok.kin (instAt_of a b) (plainGet_of hg).1 (findObj_own hh ha hn h1) (handed_of h2 hd) (T.val ok _ h2 q)
theorem GetA.cls {name : Str} {C : Addr} {mc v : Value} {d : D} {Q : D → Own → Prop} (hr : readsIn Γ.K C mc = true) (e : findCls Γ.K (.ref C) mc name = some (.val v)) (hh : handedIn v = true) (i : ∀ g, In g v d) (q : Q d O) : GetA Γ A O name (.v (.ref C)) Q := fun g s w ok j => by
  cases j
  exact cls_value ok.kin hr e hh (T.val ok _ (i g) q)
theorem GetM.inst {name : Str} {d : D} {C f : Addr} {fs : List (Str × D)} {K : Value → List D → Own → Prop} (o : ObjOf O d C fs) (hs : FNo fs name = true) (hg : plainGet Γ.K C name = true)
    (hf : findIn Γ.K (.ref C) name = some (some (.ref f))) (ht : typeIn Γ.K (.ref f) = some (.type "function")) (q : K (.ref f) [d] O) : GetM Γ A O name d K := fun pl g s v ok i => by
  obtain ⟨x, dx, es, n, rfl, a, b, r⟩ := o.at ok i
  exact method_fn ok.kin (instAt_of a b) (plainGet_of hg).1 (plainGet_of hg).2 hf ht (by show (PySem.W.lookIn name (dctObj es n)).map _ = _; rw [lookIn_none r hs]; rfl) ⟨g, O, [d], .refl ok, .cons i .nil, q⟩

/-- o.name = v -/
noncomputable def SetA (Γ : Gam) (A : Around) (O : Own) (name : Str) (a b : D) (Q : Own → Prop) : Prop :=
  ∀ g s v w, Okb Γ g s O → In g v a → In g w b → T Γ A (setAttr v name w) (fun _ _ _ => True) g s O (fun (_ : Unit) O' => Q O')
theorem osa_own {K : Frag} {prog : Program} {w : World} {C x dx : Addr} {s : Shared} {R : Result → Shared → Prop} {name : Str} {tk : Tok} {v : Value} {es : Array DictEntry} {n : Nat} (X : K.In s.heap) (a : s.heap.get? x = some (instObj C dx)) (D : s.heap.get? dx = some (dctObj es n))
    (hp : plainOver K C = true) (ht : takerIn K C name = some none) (hh : (clsIn K C).any (·.hasDict) = true)
    (h1 : es.toList.find? (·.key.isStr name) = none) (h2 : es.toList.any (·.refKey) = false) (hz : es.size ≤ 1000)
    (h : ∀ h' e, Heap.SameBut dx s.heap h' → h'.get? dx = some (dctObj (es.push e) (n + 1)) → e.key = .str name s.toks → e.val = v → R (.ok (.ret .none)) { s with heap := h', toks := s.toks + 1 }) :
    codeAny (model prog w) A (.call (.builtin "object.__setattr__") ⟨[.ref x, .str name tk, v], []⟩) R s := by
  refine osa_open X (instAt_of a D) hp ht fun b => ?_
  obtain ⟨cd, hc, hd'⟩ := any_some hh
  refine wpAny_bind (wpAny_pure (wpAny_bind (wpAny_bind (wpAny_loadPart a (wpAny_bind ((looks_clsIn X hc).here ?_))))))
  rw [hd']
  refine wpAny_pure (a := some dx) (wpAny_bind (wpAny_pure (wpAny_bind ?_)))
  unfold nsSet
  refine wpAny_bind (wpAny_bind (wpAny_askSetting (wpAny_pure (wpAny_bind (wpAny_mkText (wpAny_bind (wpAny_loadPart D ?_)))))))
  dsimp only
  have c : (!es.any (·.key.isStr name) && es.any (·.refKey)) = false := by
    rw [← Array.any_toList, ← Array.any_toList, h2, Bool.and_false]
  rw [aRefKeyMayBeTheName_at, c]
  refine wpAny_updatePart D ?_
  have hi : es.findIdx? (fun x => x.key.isStr name) = none := by
    rw [Array.findIdx?_eq_none_iff]
    exact fun y hy => by simpa using List.find?_eq_none.mp h1 y (by simpa using hy)
  have e' : Obj.putName name (PyData.keyHash w.params name) (.str name s.toks) v (dctObj es n) = dctObj (es.push ⟨PyData.keyHash w.params name, .str name s.toks, v⟩) (n + 1) := by
    simp only [Obj.putName_eq, Obj.putNameByArray, hi]
  have D' : (s.heap.update dx (Obj.putName name (PyData.keyHash w.params name) (.str name s.toks) v)).get? dx = some (dctObj (es.push ⟨PyData.keyHash w.params name, .str name s.toks, v⟩) (n + 1)) := by
    rw [← e']
    exact Heap.get?_update_self _ D (by rw [e']; rfl)
  refine wpAny_bind (wpAny_lookBehind D' (pastItsLine_dict (by rw [Array.size_push, sizeLine_eq]; omega)) ?_)
  exact wpAny_pure (h _ _ (Heap.SameBut.update ..) D' rfl rfl)
theorem SetA.own {name : Str} {x C dx : Addr} {e : D} {fs : List (Str × D)} {O' : Own} {Q : Own → Prop} (m : (x, .obj C dx) ∈ O) (u : OUp O dx (.dict fs) (.dict (fs ++ [(name, e)])) O') (hf : FNo fs name = true) (hz : fs.length ≤ 1000)
    (hs : findIn Γ.K (.ref C) "__setattr__" = some (some (.builtin "object.__setattr__"))) (hp : plainOver Γ.K C = true) (ht : takerIn Γ.K C name = some none) (hh : (clsIn Γ.K C).any (·.hasDict) = true) (q : Q O') : SetA Γ A O name (.v (.ref x)) e Q := fun g s v w ok i j => by
  cases i
  obtain ⟨⟨es, n, b, r⟩, _⟩ := ok.own _ u.mem
  have a := (ok.own _ m).1
  refine set_plain ok.kin (instAt_of a b) hs (osa_own (s := { s with toks := s.toks + 1 }) ok.kin a b hp ht hh (r.no hf) r.plain (by rw [← Array.length_toList, r.length]; exact hz) fun h' en hsb hd hk hv => ?_)
  exact ⟨g, O', (), Go.turn ok u hsb ⟨_, _, hd, by rw [Array.toList_push]; exact r.append (.cons hk (by rw [hv]; exact j) .nil)⟩ _, trivial, q⟩
theorem As.attr {o : Expr} {name : Str} {pos : Pos} {d : D} {Q : Rho → Rho → Own → Prop} (h : Ev Γ A env ρ κ O o fun a O₁ => SetA Γ A O₁ name a d fun O₂ => Q ρ κ O₂) : As Γ A env ρ κ O (assign (.Attribute o name pos) env) d Q := fun g s v ok F i => by
  rw [arm_assign_Attribute]
  refine wpAny_bind (wpAny_holding (wpAny_mono (h g s ok F) (fun ov s₁ ⟨g₁, O₁, a, G₁, ia, h₁⟩ => ?_) fun _ _ e => e))
  refine wpAny_bind (wpAny_standAt (wpAny_bind (wpAny_holding (wpAny_mono (h₁ g₁ s₁ ov v G₁.ok ia (i.up G₁.to.up)) (fun _ s₂ ⟨g₂, O₂, _, G₂, _, q⟩ => ?_) fun _ _ e => e))))
  exact wpAny_release ⟨g₂, ρ, κ, O₂, .ofGo F (G₁.trans G₂), q⟩
theorem As.sub {o i : Expr} {pos : Pos} {d : D} {Q : Rho → Rho → Own → Prop} (h : Ev Γ A env ρ κ O o fun a O₁ => Ev Γ A env ρ κ O₁ i fun b O₂ => Op3 Γ A O₂ setItem a b d fun O₃ => Q ρ κ O₃) : As Γ A env ρ κ O (assign (.Subscript o i pos) env) d Q := fun g s v ok F iv => by
  rw [arm_assign_Subscript]
  refine wpAny_bind (wpAny_holding (wpAny_mono (h g s ok F) (fun ov s₁ ⟨g₁, O₁, a, G₁, ia, h₁⟩ => ?_) fun _ _ e => e))
  refine wpAny_bind (wpAny_holding (wpAny_mono (h₁ g₁ s₁ G₁.ok (F.go G₁)) (fun kv s₂ ⟨g₂, O₂, b, G₂, ib, h₂⟩ => ?_) fun _ _ e => e))
  refine wpAny_bind (wpAny_standAt (wpAny_bind (wpAny_holding (wpAny_mono (h₂ g₂ s₂ ov kv v G₂.ok (ia.up G₂.to.up) ib (iv.up (G₁.trans G₂).to.up)) (fun _ s₃ ⟨g₃, O₃, _, G₃, _, q⟩ => ?_) fun _ _ e => e))))
  exact wpAny_release ⟨g₃, ρ, κ, O₃, .ofGo F ((G₁.trans G₂).trans G₃), q⟩
/-- one target, whatever it is -/
theorem S1.as1 {t value : Expr} {pos : Pos} {Q : Fl → Rho → Rho → Own → Prop} (h : Ev Γ A env ρ κ O value fun d O₁ => As Γ A env ρ κ O₁ (assign t env) d fun ρ' κ' O' => Q .next ρ' κ' O')
    (hs : swapsWithSole [t] value pos.line env = pure false) (hw : swappedStores [t] value env = pure none) (he : (assignEach [t] env).map (·.2) = [assign t env]) : S1 Γ A env ρ κ O (.Assign [t] value pos) Q := fun g s ok F => by
  refine wpAny_Assign_stores (wpAny_mono (h g s ok F) (fun v s₁ ⟨g₁, O₁, d, G₁, i, h₁⟩ => ?_) fun _ _ e => e) hs hw
  rw [he]
  exact wpAny_mono (h₁ g₁ s₁ v G₁.ok (F.go G₁) i) (fun _ s₂ ⟨g₂, ρ₂, κ₂, O₂, G₂, q⟩ => ⟨g₂, ρ₂, κ₂, O₂, .next, (Gs.ofGo F G₁).trans G₂, .next, q⟩) fun _ _ e => e
theorem S1.as3 {t₁ t₂ t₃ value : Expr} {pos : Pos} {Q : Fl → Rho → Rho → Own → Prop} (h : Ev Γ A env ρ κ O value fun d O₁ => ∀ O₁', O₁' = O₁ → As Γ A env ρ κ O₁ (assign t₁ env) d fun ρ₂ κ₂ O₂ => As Γ A env ρ₂ κ₂ O₂ (assign t₂ env) d fun ρ₃ κ₃ O₃ => As Γ A env ρ₃ κ₃ O₃ (assign t₃ env) d fun ρ' κ' O' => Q .next ρ' κ' O')
    (he : (assignEach [t₁, t₂, t₃] env).map (·.2) = [assign t₁ env, assign t₂ env, assign t₃ env]) (hw : swappedStores [t₁, t₂, t₃] value env = pure none) : S1 Γ A env ρ κ O (.Assign [t₁, t₂, t₃] value pos) Q := fun g s ok F => by
  refine wpAny_Assign_three (wpAny_mono (h g s ok F) (fun v s₁ ⟨g₁, O₁, d, G₁, i, h₁⟩ => ?_) fun _ _ e => e) he hw
  refine wpAny_mono (h₁ _ rfl g₁ s₁ v G₁.ok (F.go G₁) i) (fun _ s₂ ⟨g₂, ρ₂, κ₂, O₂, G₂, h₂⟩ => ?_) fun _ _ e => e
  refine wpAny_mono (h₂ g₂ s₂ v G₂.ok G₂.fr (i.up G₂.to.up)) (fun _ s₃ ⟨g₃, ρ₃, κ₃, O₃, G₃, h₃⟩ => ?_) fun _ _ e => e
  exact wpAny_mono (h₃ g₃ s₃ v G₃.ok G₃.fr (i.up (G₂.trans G₃).to.up)) (fun _ s₄ ⟨g₄, ρ₄, κ₄, O₄, G₄, q⟩ => ⟨g₄, ρ₄, κ₄, O₄, .next, (((Gs.ofGo F G₁).trans G₂).trans G₃).trans G₄, .next, q⟩) fun _ _ e => e

theorem Room.make {C : Addr} {rest : List Value} {kw : List (Str × Value)} {n : Nat} (r : Room A (n + 1)) : Room (A.under (.builtin "type.__call__" ⟨.ref C :: rest, kw⟩)) n :=
  ⟨r.h, by have := r.d; show A.depth + 1 + n < 990; omega, by
    have := r.u
    have e : (Code.builtin "type.__call__" ⟨.ref C :: rest, kw⟩).cUnits ≤ 8 := Nat.le_of_ble_eq_true (by kernel_rfl)
    show A.units + (Code.builtin "type.__call__" ⟨.ref C :: rest, kw⟩).cUnits + 8 * n + 300 < cLine
    omega⟩
/-- an object is made: its init is called upon it, and it is let be behind it -/
theorem Ca.make {C fI : Addr} {n : Nat} {ds : List D} {Q : D → Own → Prop} (r : Room A (n + 1)) (hm : makesIn Γ.K C = true) (hi : findIn Γ.K (.ref C) "__init__" = some (some (.ref fI))) (hf : typeIn Γ.K (.ref fI) = some (.type "function"))
    (h : ∀ x dx, Cal Γ n (.ref fI) (.v (.ref x) :: ds) [] ((x, .obj C dx) :: (dx, .dict []) :: O) fun d O' => d = .none ∧ ∃ fs O₂, OS ((x, .obj C dx) :: (dx, .dict fs) :: O₂) O' ∧ Q (.inst C fs) O₂) : Ca Γ A O (.ref C) ds [] Q := fun g s vs ks ok iv ik => by
  obtain rfl := ik.nil'
  refine wpAny_call ?_
  obtain ⟨hh, gs, dr, t, os⟩ := s
  refine make_core (makes_of ok.kin hm) (looks_findIn ok.kin hi) (fun self => bind_fn ok.kin self hf) (.inl rfl) ?_
  have G₁ : Go Γ g ⟨hh, gs, dr, t, os⟩ O g ⟨hh.push emptyDict, gs, dr, t, os⟩ ((hh.objs.size, .dict []) :: O) := Go.allocO (s := ⟨hh, gs, dr, t, os⟩) (o := emptyDict) (c := .dict []) ok rfl ⟨#[], 0, Heap.get?_push_size _ rfl, .nil⟩
  have G₂ := Go.allocO (s := ⟨hh.push emptyDict, gs, dr, t, os⟩) (o := instObj C hh.objs.size) (c := .obj C hh.objs.size) G₁.ok rfl (Heap.get?_push_size _ rfl)
  have G := G₁.trans G₂
  have hsz : (hh.push emptyDict).objs.size = hh.objs.size + 1 := Heap.size_push ..
  simp only [hsz] at G
  refine codeAny_mono (h (hh.objs.size + 1) hh.objs.size _ g _ (.ref (hh.objs.size + 1) :: vs) [] (Room.make r) G.ok (.cons (.v _) iv) .nil) fun res s' hr => ?_
  rcases res with e | (_ | _ | _ | v)
  · exact hr.elim
  · exact hr.elim
  · exact hr.elim
  · exact hr.elim
  · obtain ⟨g', O', d, G', i, rfl, fs, O₂, hsub, q⟩ := hr
    cases i
    refine ⟨rfl, ?_⟩
    show ∃ g'' O'' d, _
    have okS : Okb Γ g' s' ((hh.objs.size + 1, .obj C hh.objs.size) :: (hh.objs.size, .dict fs) :: O₂) := hsub.okb G'.ok
    obtain ⟨hx, nx⟩ := okS.own _ (.head _)
    obtain ⟨⟨es, k, hd, rd⟩, nd⟩ := okS.own _ (.tail _ (.head _))
    obtain ⟨g₁, a1, a2, a3, a4⟩ := grow okS.keep hx
    obtain ⟨g₂, b1, b2, b3, b4⟩ := grow a3 hd
    have ndp := okS.nd
    rw [List.map_cons, List.map_cons, List.nodup_cons, List.nodup_cons] at ndp
    have off1 : ∀ p ∈ O₂, p.1 ≠ hh.objs.size + 1 := fun p hp e => ndp.1 (.tail _ (e ▸ List.mem_map_of_mem (f := (·.1)) hp))
    have off2 : ∀ p ∈ O₂, p.1 ≠ hh.objs.size := fun p hp e => ndp.2.1 (e ▸ List.mem_map_of_mem (f := (·.1)) hp)
    have subO : ∀ b, dom O₂ b → dom O' b := fun b hb => hsub.dom b (.tail _ (.tail _ hb))
    have Gall := G.trans G'
    refine ⟨g₂, O₂, .inst C fs, ⟨⟨b3, G'.ok.gam.up (a1.trans b1), fun p hp => ?_, ndp.2.2, G'.ok.gens, G'.ok.os⟩, ⟨Gall.to.pres, Gall.to.up.trans (a1.trans b1), fun b o e hn => ?_⟩, fun b hb => Gall.wi b (subO b hb)⟩, .inst (b1 _ _ a2) b2 (rd.up (a1.trans b1)), q⟩
    · obtain ⟨y, z⟩ := okS.own p (.tail _ (.tail _ hp))
      exact ⟨y.up (a1.trans b1), by rw [b4 _ (off2 p hp), a4 _ (off1 p hp)]; exact z⟩
    · by_cases e1 : b = hh.objs.size
      · left
        rw [e1]
        cases q : hh.get? hh.objs.size with
        | none => rfl
        | some o => exact absurd (Heap.lt_size q) (Nat.lt_irrefl _)
      · by_cases e2 : b = hh.objs.size + 1
        · left
          rw [e2]
          cases q : hh.get? (hh.objs.size + 1) with
          | none => rfl
          | some o => exact absurd (Heap.lt_size q) (Nat.not_lt.mpr (Nat.le_succ _))
        · rw [b4 b e1, a4 b e2] at e
          exact Gall.to.new b o e hn
end
end Lw
end
section
set_option autoImplicit false
set_option linter.unusedVariables false
set_option Elab.async false
set_option maxRecDepth 100000
namespace Lw
open PySem PySem.Calls PyProof.Rows PySem.W
theorem tooLong_no {n : Nat} (h : n ≤ sizeLine) : Builtin.Str.tooLong n = false := by unfold Builtin.Str.tooLong; exact decide_eq_false (Nat.not_lt.mpr h)
noncomputable def lowered (x : Str) : Str := ⟨placed x fun i _ => Unicode.lowerAt x.cps i⟩
noncomputable def uppered (x : Str) : Str := ⟨placed x fun _ c => Unicode.upperOf c⟩
section
variable {Γ : Gam} {A : Around} {env : Env} {ρ κ : Rho} {O : Own}
theorem Op2.itemL {value slice : Expr} {x : D} {ds : List D} {k : Int} {d : D} {Q : D → Own → Prop} (l : LstOf O x ds) (h0 : 0 ≤ k) (h1 : k < 2 ^ 63) (hd : ds[k.toNat]? = some d) (q : Q d O)
    (hs : ∀ a u, subscripted slice false (.ref a) (.int k u) = operate [.ref a, .int k u] (getItem (.ref a) (.int k u))) : Op2 Γ A O (subscriptTail value slice) x (.int k) Q := fun g s v w ok i j => by
  obtain ⟨a, vs, n, rfl, e, r⟩ := l.at ok i
  cases j
  obtain ⟨y, hy, iy⟩ := r.get hd
  exact item_litK (vs := vs.toList) (by rw [Array.toArray_toList]; exact isList_of e) h0 h1 hy (T.val0 ok iy q) (hs _ _)
theorem Op2.itemT {value slice : Expr} {ds : List D} {k : Int} {j : Nat} {d : D} {Q : D → Own → Prop} (hlo : -(2 ^ 63) ≤ k) (hhi : k < 2 ^ 63) (hj : seqIndex? k ds.length = some j) (hd : ds[j]? = some d) (q : Q d O)
    (hs : ∀ a u, subscripted slice false (.ref a) (.int k u) = operate [.ref a, .int k u] (getItem (.ref a) (.int k u))) : Op2 Γ A O (subscriptTail value slice) (.tup ds) (.int k) Q := fun g s v w ok i j' => by
  cases i with
  | tup e r =>
    cases j'
    obtain ⟨y, hy, iy⟩ := r.get hd
    refine item_tupleT (l := List.map id _) (j := j) ?_ hlo hhi (by rw [List.map_id, r.length]; exact hj) (by rw [List.map_id]; exact hy) (T.val0 ok iy q) (hs _ _)
    rw [List.map_id, Array.toArray_toList]
    exact ⟨_, ok.keep _ _ e, rfl, _, rfl⟩
theorem Op2.itemS {value slice : Expr} {x : Str} {k : Int} {c : Nat} {Q : D → Own → Prop} (hr : (decide (k < -(2 ^ 63 : Int)) || decide (k ≥ 2 ^ 63)) = false) (hc : (seqIndex? k x.length).bind (x.cps[·]?) = some c) (q : Q (.str ⟨#[c]⟩) O)
    (hs : ∀ t u, subscripted slice false (.str x t) (.int k u) = operate [.str x t, .int k u] (getItem (.str x t) (.int k u))) : Op2 Γ A O (subscriptTail value slice) (.str x) (.int k) Q := fun g s v w ok i j => by
  cases i; cases j
  exact tail_any (typeIs_str s x _) F.slot_str_getitem.lookup (P.getItem_str hr hc (T.val ok _ (.str _ _) q)) (hs _ _)

theorem GetM.str {name : Str} {id : String} {x : Str} {K : Value → List D → Own → Prop} (slot : Slot "str" name id) (hty : typeOf (.builtin id) = pure (.type "method_descriptor")) (q : K (.builtin id) [.str x] O) : GetM Γ A O name (.str x) K := fun pl g s v ok i => by
  cases i
  exact getMethod_builtin (typeIs_str s x _) F.plainAttrs_str slot hty (fun a e => nomatch e) ⟨g, O, [.str x], .refl ok, .cons (.str _ _) .nil, q⟩
theorem GetM.list {name : Str} {id : String} {d : D} {ds : List D} {K : Value → List D → Own → Prop} (l : LstOf O d ds) (slot : Slot "list" name id) (hty : typeOf (.builtin id) = pure (.type "method_descriptor")) (q : K (.builtin id) [d] O) : GetM Γ A O name d K := fun pl g s v ok i => by
  obtain ⟨a, vs, n, rfl, e, r⟩ := l.at ok i
  exact getMethod_builtin (T := "list") ⟨_, e, rfl⟩ F.plainAttrs_list slot hty (fun a' h => by cases h; exact ⟨_, e, rfl⟩) ⟨g, O, [d], .refl ok, .cons i .nil, q⟩
theorem Ca.lower {x : Str} {Q : D → Own → Prop} (h : (lowered x).length ≤ sizeLine) (q : Q (.str (lowered x)) O) : Ca Γ A O (.builtin "str.lower") [.str x] [] Q := Ca.plain1 fun g s v ok i => by
  cases i
  exact call_gives F.slot_str_lower (typeIs_str s x _) F.entry_str_lower (F.args_str_lower_1 _) (gives_str_lower x _ (tooLong_no h)) ⟨h, T.val ok _ (.str _ _) q⟩
theorem Ca.upper {x : Str} {Q : D → Own → Prop} (h : (uppered x).length ≤ sizeLine) (q : Q (.str (uppered x)) O) : Ca Γ A O (.builtin "str.upper") [.str x] [] Q := Ca.plain1 fun g s v ok i => by
  cases i
  exact call_gives F.slot_str_upper (typeIs_str s x _) F.entry_str_upper (F.args_str_upper_1 _) (gives_str_upper x _ (tooLong_no h)) ⟨h, T.val ok _ (.str _ _) q⟩
theorem Ca.ord {c : Nat} {Q : D → Own → Prop} (q : Q (.int c) O) : Ca Γ A O (.builtin "ord") [.str ⟨#[c]⟩] [] Q := Ca.plain1 fun g s v ok i => by
  cases i; exact P.ord_of_char (T.val ok _ (.int _ _) q)
theorem Ca.chr {i : Int} {Q : D → Own → Prop} (h : (decide (i < 0) || decide (i > 0x10FFFF)) = false) (q : Q (.str ⟨#[i.toNat]⟩) O) : Ca Γ A O (.builtin "chr") [.int i] [] Q := Ca.plain1 fun g s v ok j => by
  cases j; exact P.chr_of_int h (T.val ok _ (.str _ _) q)
theorem Ca.lenS {x : Str} {Q : D → Own → Prop} (h : x.length < 2 ^ 62) (q : Q (.int x.length) O) : Ca Γ A O (.builtin "len") [.str x] [] Q := Ca.plain1 fun g s v ok j => by
  cases j; exact P.len_str (by omega) (T.val ok _ (.int _ _) q)
theorem Ca.range1 {n : Int} {Q : D → Own → Prop} (q : Q (.rng 0 n 1) O) : Ca Γ A O (.type "range") [.int n] [] Q := Ca.plain1 fun g s v ok i => by
  cases i
  refine call_range_1 ?_
  obtain ⟨g', G, e⟩ := Go.alloc (o := { cls := .type "range", data := .fields #[.int 0 s.toks, .int n _, .int 1 (s.toks + 1)] }) ok rfl
  exact ⟨g', O, _, G.trans (Go.toks G.ok _), .rng e, q⟩
theorem Ca.range2 {a b : Int} {Q : D → Own → Prop} (q : Q (.rng a b 1) O) : Ca Γ A O (.type "range") [.int a, .int b] [] Q := Ca.plain2 fun g s v w ok i j => by
  cases i; cases j
  refine call_range_2 ?_
  obtain ⟨g', G, e⟩ := Go.alloc (o := { cls := .type "range", data := .fields #[.int a _, .int b _, .int 1 s.toks] }) ok rfl
  exact ⟨g', O, _, G.trans (Go.toks G.ok _), .rng e, q⟩
theorem Ca.lenT {ds : List D} {Q : D → Own → Prop} (hf : ds.length < 2 ^ 62) (q : Q (.int ds.length) O) : Ca Γ A O (.builtin "len") [.tup ds] [] Q := Ca.plain1 fun g s v ok iv => by
  cases iv with
  | tup e r =>
    rename_i a vs n
    have hz : vs.size = ds.length := by rw [← r.length, Array.length_toList]
    exact len_tuple ⟨_, ok.keep _ _ e, rfl, _, rfl⟩ (by rw [hz]; omega) (by rw [hz]; exact T.val ok _ (.int _ _) q)
theorem Op2.inS {x y : Str} {Q : D → Own → Prop} (q : Q (.bool !(Builtin.Str.occurrences x y 0 x.length 1).isEmpty) O) : Op2 Γ A O (compareOp .In) (.str y) (.str x) Q := fun g s v w ok i j => by
  cases i; cases j
  exact P.in_str (T.val0 ok (.bool _) q)
noncomputable def isNone : D → Bool
  | .none => true
  | .v .none => true
  | _ => false
theorem isNone_of {g : Heap} {v : Value} {d : D} (i : In g v d) : (v == .none) = isNone d := by
  cases i with
  | v => cases v <;> rfl
  | _ => rfl
theorem Op2.isNotN {a : D} {Q : D → Own → Prop} (q : Q (.bool (!isNone a)) O) : Op2 Γ A O (compareOp .IsNot) a .none Q := fun g s v w ok i j => by
  cases j
  refine wpAny_mono (PySem.isNot_none (by rw [isNone_of i]; exact T.val0 (Q := fun d O => Q d O) ok (.bool _) q)) (fun _ _ x => x) fun _ _ e => e
theorem S1.exprAny {e : Expr} {pos : Pos} {Q : Fl → Rho → Rho → Own → Prop} (h : Ev Γ A env ρ κ O e fun d O₁ => Q .next ρ κ O₁) (hi : interactive env = false) (hs : swapsWith e none pos.line env = pure false) : S1 Γ A env ρ κ O (.Expr e pos) Q := fun g s ok F =>
  wpAny_Expr_any (wpAny_mono (h g s ok F) (fun v s₁ ⟨g₁, O₁, d, G₁, i, q⟩ => ⟨g₁, ρ, κ, O₁, .next, .ofGo F G₁, .next, q⟩) fun _ _ e => e) hi hs
end
end Lw
end
section
set_option autoImplicit false
set_option linter.unusedVariables false
set_option Elab.async false
set_option maxRecDepth 100000
namespace Lw
open PySem PySem.Calls PyProof.Rows PySem.W
theorem isPart_of (p : Option (Int × Tok)) : IsPart (partValue p) (p.map (·.1)) := by
  rcases p with _ | ⟨i, t⟩
  · exact .none
  · exact .int i t
noncomputable def pickD (ds : List D) (lo hi st : Option Int) : List D :=
  (sliceRange (sliceBounds lo hi st ds.length).1 (sliceBounds lo hi st ds.length).2.1 (sliceBounds lo hi st ds.length).2.2).filterMap (ds[·]?)
theorem InL.pick {g : Heap} {vs : List Value} {ds : List D} (r : InL g vs ds) : ∀ (l : List Nat), InL g (l.filterMap (vs[·]?)) (l.filterMap (ds[·]?))
  | [] => .nil
  | i :: l => by
    rw [List.filterMap_cons, List.filterMap_cons]
    cases q : ds[i]? with
    | none =>
      have : vs[i]? = none := List.getElem?_eq_none (by rw [r.length]; exact List.getElem?_eq_none_iff.mp q)
      rw [this]
      exact InL.pick r l
    | some d =>
      obtain ⟨v, hv, iv⟩ := r.get q
      rw [hv]
      exact .cons iv (InL.pick r l)
section
variable {Γ : Gam} {A : Around} {env : Env} {ρ κ : Rho} {O : Own}
/-- a part of a slice -/
noncomputable def EvP (Γ : Gam) (A : Around) (env : Env) (ρ κ : Rho) (O : Own) (e : Option Expr) (Q : Option Int → Own → Prop) : Prop :=
  ∀ g s, Okb Γ g s O → Frm env g s.heap O ρ κ → T Γ A (evalPart e env) (fun _ v d => ∃ p : Option (Int × Tok), v = partValue p ∧ d = p.map (·.1)) g s O Q
theorem EvP.none {Q : Option Int → Own → Prop} (q : Q .none O) : EvP Γ A env ρ κ O .none Q := fun g s ok F => wpAny_pure ⟨g, O, _, .refl ok, ⟨.none, rfl, rfl⟩, q⟩
theorem EvP.some {e : Expr} {Q : Option Int → Own → Prop} (h : Ev Γ A env ρ κ O e fun d O₁ => ∃ i, d = .int i ∧ Q (.some i) O₁) : EvP Γ A env ρ κ O (.some e) Q := fun g s ok F =>
  evalPart_some_step (wpAny_mono (h g s ok F) (fun v s₁ ⟨g₁, O₁, d, G₁, iv, i, hd, q⟩ => by
    subst hd
    cases iv
    exact ⟨g₁, O₁, _, G₁, ⟨.some (i, _), rfl, rfl⟩, q⟩) fun _ _ e => e)
theorem Ev.slice {lower upper step : Option Expr} {p : Pos} {Q : D → Own → Prop} (h : EvP Γ A env ρ κ O lower fun a O₁ => EvP Γ A env ρ κ O₁ upper fun b O₂ => EvP Γ A env ρ κ O₂ step fun c O₃ => Q (.slc a b c) O₃) : Ev Γ A env ρ κ O (.Slice lower upper step p) Q := fun g s ok F => by
  refine wpAny_Slice (wpAny_mono (h g s ok F) (fun vl s₁ ⟨g₁, O₁, a, G₁, ⟨pl, e1, e2⟩, h₁⟩ => ?_) fun _ _ e => e)
  subst e1 e2
  refine wpAny_mono (h₁ g₁ s₁ G₁.ok (F.go G₁)) (fun vu s₂ ⟨g₂, O₂, b, G₂, ⟨pu, e1, e2⟩, h₂⟩ => ?_) fun _ _ e => e
  subst e1 e2
  refine wpAny_mono (h₂ g₂ s₂ G₂.ok (F.go (G₁.trans G₂))) (fun vs s₃ ⟨g₃, O₃, c, G₃, ⟨ps, e1, e2⟩, q⟩ => ?_) fun _ _ e => e
  subst e1 e2
  obtain ⟨g', G, e⟩ := Go.alloc (o := { cls := .type "slice", data := .fields #[partValue pl, partValue pu, partValue ps] }) G₃.ok rfl
  exact ⟨g', O₃, _, ((G₁.trans G₂).trans G₃).trans G, .slc pl pu ps e, q⟩
/-- a slice of a text -/
noncomputable def sliceS (x : Str) (lo hi st : Option Int) : Str :=
  if (st.getD 1 == 1 && (Builtin.Str.strSliceIndices lo hi (st.getD 1) x.length).length == x.length) = true then x else ⟨((Builtin.Str.strSliceIndices lo hi (st.getD 1) x.length).filterMap (x.cps[·]?)).toArray⟩
theorem Op2.sliceS {value slice : Expr} {x : Str} {lo hi st : Option Int} {Q : D → Own → Prop} (h0 : (st.getD 1 == 0) = false) (hz : (Lw.sliceS x lo hi st).length ≤ sizeLine) (q : Q (.str (Lw.sliceS x lo hi st)) O)
    (hs : ∀ t b, ∃ ops, subscripted slice false (.str x t) (.ref b) = operate ops (getItem (.str x t) (.ref b))) : Op2 Γ A O (subscriptTail value slice) (.str x) (.slc lo hi st) Q := fun g s v w ok i j => by
  cases i with
  | str x t =>
  cases j with
  | slc pl pu ps hsl =>
    rename_i b
    obtain ⟨ops, hs⟩ := hs t b
    refine tail_any (T := "str") (typeIs_str s x _) F.slot_str_getitem.lookup (getItem_meets (typeIs_str s x t) (by decide) F.slot_str_getitem F.entry_str_getitem (F.args_str_getitem_2 _ _) (meets_str_getitem_slice x t b pl pu ps h0) ⟨⟨_, ok.keep _ _ hsl, rfl, rfl⟩, ?_⟩) hs
    unfold sliceMade
    unfold Lw.sliceS at hz q
    have e1 : slicePicked x pl pu ps = Builtin.Str.strSliceIndices (pl.map (·.1)) (pu.map (·.1)) ((ps.map (·.1)).getD 1) x.length := rfl
    rw [e1]
    split
    · rename_i hc
      rw [if_pos hc] at q
      exact T.val0 ok (.str _ _) q
    · rename_i hc
      rw [if_neg hc] at q hz
      exact ⟨hz, T.val ok _ (.str _ _) q⟩
theorem slc_none {g : Heap} {w : Value} (h : In g w (.slc none none none)) : ∃ sl, w = .ref sl ∧ g.get? sl = some { cls := .type "slice", data := .fields #[.none, .none, .none] } := by
  generalize hq : D.slc none none none = dd at h
  cases h with
  | slc pl pu ps hsl =>
    cases pl <;> cases pu <;> cases ps <;> simp at hq
    exact ⟨_, rfl, hsl⟩
  | _ => cases hq
/-- xs[:] = ys, another list -/
theorem Op3.setAll {a : Addr} {y : D} {ds es : List D} {O' : Own} {Q : Own → Prop} (u : OUp O a (.list ds) (.list es) O') (hl : LstOf O y es) (hne : ∀ b, y = .v (.ref b) → b ≠ a) (hz1 : ds.length ≤ 1000000) (hz2 : es.length ≤ 1000000) (q : Q O') : Op3 Γ A O setItem (.v (.ref a)) (.slc none none none) y Q := fun g s v w z ok iv iw iz => by
  obtain ⟨⟨vs, n, e, r⟩, ga⟩ := ok.own _ u.mem
  obtain ⟨b, ws, k, rfl, e2, r2⟩ := hl.at ok iz
  cases iv
  obtain ⟨sl, rfl, hsl⟩ := slc_none iw
  have hos := ok.keep _ _ hsl
  have hTs : s.TypeIs (.ref sl) "slice" := ⟨_, hos, rfl⟩
  have hTl : s.TypeIs (.ref b) "list" := ⟨_, e2, rfl⟩
  have hTa : s.TypeIs (.ref a) "list" := ⟨_, e, rfl⟩
  have hz : vs.size = ds.length := by rw [← r.length, Array.length_toList]
  have hzw : ws.size = es.length := by rw [← r2.length, Array.length_toList]
  have hab : b ≠ a := by
    cases hl with
    | frz => cases iz with | lst h _ => intro hh; rw [hh, ga] at h; cases h
    | own m => cases iz; exact hne _ rfl
  unfold T setItem
  refine wpAny_holding ?_
  refine wpAny_bind (wpAny_sequenceKey hTa (by decide) ?_)
  refine wpAny_bind (wpAny_callSpecial?_slot (name := Str.ofString "__setitem__") hTa slot_list_setitem
    (wpAny_call_entry slot_list_setitem hTa entry_list_setitem ?_ (args_list_setitem _ _ _)))
  show wpAny _ _ (Builtin.List.listSubscript? (.ref sl) >>= _) _ _ s
  refine wpAny_bind ?_
  unfold Builtin.List.listSubscript?
  refine wpAny_bind (wpAny_specialOf hTs slice_no_index ?_)
  simp only [Option.isNone_none, if_true]
  refine wpAny_pure ?_
  show wpAny _ _ (typeOf (.ref sl) >>= _) _ _ s
  refine wpAny_bind (wpAny_typeOf hTs ?_)
  rw [if_neg (by decide)]
  rw [listSliceParts_eq]
  refine wpAny_bind (wpAny_bind (wpAny_field hos rfl (x := .none) rfl (wpAny_bind (wpAny_listPart .none ?_))))
  rw [if_neg (by decide)]
  refine wpAny_bind (wpAny_field hos rfl (x := .none) rfl (wpAny_bind (wpAny_listPart .none ?_)))
  refine wpAny_bind (wpAny_field hos rfl (x := .none) rfl (wpAny_bind (wpAny_listPart .none (wpAny_pure ?_))))
  have hsame : Builtin.List.listSameRef (.ref a) (.ref b) = false := by
    show (a == b) = false
    exact beq_eq_false_iff_ne.mpr (Ne.symm hab)
  rw [if_neg (by rw [hsame]; decide)]
  refine wpAny_bind ?_
  unfold Builtin.List.listAllItems
  refine wpAny_bind (wpAny_typeOf hTl ?_)
  rw [if_pos (by decide)]
  unfold Builtin.List.listItems
  refine wpAny_bind (wpAny_seqItems e2 rfl (wpAny_pure ?_))
  show wpAny _ _ (Builtin.List.listItems (.ref a) >>= _) _ _ s
  refine wpAny_bind ?_
  unfold Builtin.List.listItems
  refine wpAny_bind (wpAny_seqItems e rfl (wpAny_pure ?_))
  refine wpAny_bind (wpAny_of_eq (sliceIndices_raw none none none vs.size (by simp)) ?_)
  have hb : sliceBounds none none none vs.size = (0, (vs.size : Int), 1) := rfl
  rw [hb]
  show wpAny _ _ (if ((1 : Int) == 1) = true then _ else _) _ _ s
  rw [if_pos (by decide)]
  refine wpAny_bind (wpAny_rule ?_)
  rw [if_neg (by unfold Builtin.List.listTooLong; simp [sizeLine]; omega)]
  show wpAny _ _ (updateSeq a _ >>= _) _ _ s
  refine wpAny_bind (wpAny_updateSeq e rfl ?_ (by rw [hz]; simp [sizeLine]; omega) ?_)
  · refine wpAny_bind (wpAny_letGo (wpAny_pure ⟨.none, rfl, ?_⟩))
    refine wpAny_pure ⟨g, O', (), Go.turn (t := s.toks) ok u (Heap.SameBut.update ..) ⟨_, _, PySem.IsL.update e _, ?_⟩, trivial, q⟩
    have e0 : (max (0 : Int) (vs.size : Int)).toNat = vs.size := by omega
    show InL g ((vs.extract 0 0 ++ ws) ++ vs.extract (max (0 : Int) (vs.size : Int)).toNat vs.size).toList es
    rw [e0]
    simpa using r2
  · simp [sizeLine]; omega
end
end Lw
end
section
set_option autoImplicit false
set_option linter.unusedVariables false
set_option Elab.async false
set_option maxRecDepth 100000
namespace Lw
open PySem PySem.Calls PyProof.Rows PySem.W

mutual
noncomputable def toPy : D → Option PyData
  | .none => some .none
  | .bool b => some (.bool b)
  | .int i => some (.int i)
  | .str s => some (.str s)
  | .tup ds => (toPyL ds).map .tuple
  | .lst ds => (toPyL ds).map .list
  | _ => none
noncomputable def toPyL : List D → Option (List PyData)
  | [] => some []
  | d :: r => (toPy d).bind fun p => (toPyL r).map (p :: ·)
end
mutual
theorem reads_of {g : Heap} : ∀ {v : Value} {d : D} {p : PyData}, In g v d → toPy d = some p → ∃ as, Reads g v p as
  | _, _, p, .v x, e => by simp [toPy] at e
  | _, _, p, .none, e => by simp only [toPy] at e; cases e; exact ⟨_, .none⟩
  | _, _, p, .bool b, e => by simp only [toPy] at e; cases e; exact ⟨_, .bool b⟩
  | _, _, p, .int i t, e => by simp only [toPy] at e; cases e; exact ⟨_, .int i t⟩
  | _, _, p, .flt x t, e => by simp [toPy] at e
  | _, _, p, .str x t, e => by simp only [toPy] at e; cases e; exact ⟨_, .str x t⟩
  | _, _, p, .tup h r, e => by
    simp only [toPy, Option.map_eq_some_iff] at e
    obtain ⟨ps, e1, rfl⟩ := e
    obtain ⟨as, q⟩ := readsAll_of r e1
    exact ⟨_, .tuple h rfl rfl q⟩
  | _, _, p, .lst h r, e => by
    simp only [toPy, Option.map_eq_some_iff] at e
    obtain ⟨ps, e1, rfl⟩ := e
    obtain ⟨as, q⟩ := readsAll_of r e1
    exact ⟨_, .list h rfl rfl q⟩
  | _, _, p, .inst _ _ _, e => by simp [toPy] at e
  | _, _, p, .rng _, e => by simp [toPy] at e
  | _, _, p, .slc _ _ _ _, e => by simp [toPy] at e
theorem readsAll_of {g : Heap} : ∀ {vs : List Value} {ds : List D} {ps : List PyData}, InL g vs ds → toPyL ds = some ps → ∃ as, ReadsAll g vs ps as
  | _, _, ps, .nil, e => by simp only [toPyL] at e; cases e; exact ⟨_, .nil⟩
  | _, _, ps, .cons a r, e => by
    simp only [toPyL, Option.bind_eq_some_iff, Option.map_eq_some_iff] at e
    obtain ⟨p, e1, qs, e2, rfl⟩ := e
    obtain ⟨as, q1⟩ := reads_of a e1
    obtain ⟨bs, q2⟩ := readsAll_of r e2
    exact ⟨_, .cons q1 q2⟩
end

section
variable {Γ : Gam} {A : Around} {env : Env} {ρ κ : Rho} {O : Own}
theorem Op2.eqD {a b : D} {da db : PyData} {Q : D → Own → Prop} (ha : toPy a = some da) (hb : toPy b = some db) (ca : SeqAt.shaped da = true) (cb : SeqAt.shaped db = true) (hu : A.units + 64 < cLine) (q : Q (.bool (PyData.eqv da db)) O) : Op2 Γ A O (compareOp .Eq) a b Q := fun g s v w ok i j => by
  obtain ⟨as, ra⟩ := reads_of (i.up ok.keep) ha
  obtain ⟨bs, rb⟩ := reads_of (j.up ok.keep) hb
  exact SeqAt.compareEq_shaped ra rb ca cb hu (T.val0 ok (.bool _) q)
theorem Op2.neD {a b : D} {da db : PyData} {Q : D → Own → Prop} (ha : toPy a = some da) (hb : toPy b = some db) (ca : SeqAt.shaped da = true) (cb : SeqAt.shaped db = true) (hu : A.units + 64 < cLine) (q : Q (.bool (!PyData.eqv da db)) O) : Op2 Γ A O (compareOp .NotEq) a b Q := fun g s v w ok i j => by
  obtain ⟨as, ra⟩ := reads_of (i.up ok.keep) ha
  obtain ⟨bs, rb⟩ := reads_of (j.up ok.keep) hb
  exact SeqAt.compareNe_shaped ra rb ca cb hu (T.val0 ok (.bool _) q)

theorem intsAre_of {g : Heap} : ∀ {vs : List Value} {ns : List Int}, InL g vs (ns.map .int) → IntsAre vs ns
  | _, [], h => by cases h; exact .nil
  | _, n :: ns, h => by
    cases h with
    | cons a r => cases a with | int i t => exact .cons n t (intsAre_of r)
theorem Ca.sum {x : D} {ns : List Int} {Q : D → Own → Prop} (hh : A.handled = none) (l : LstOf O x (ns.map .int)) (q : Q (.int ns.sum) O) : Ca Γ A O (.builtin "sum") [x] [] Q := Ca.plain1 fun g s v ok i => by
  obtain ⟨a, vs, n, rfl, e, r⟩ := l.at ok i
  have hi := intsAre_of r
  obtain ⟨xs, hx⟩ := (hi.allInts (l := vs.toList)).items
  have hx' : vs = intItems xs := by rw [← hx, Array.toArray_toList]
  refine sum_intListG hh (xs := xs) (by rw [← hx']; exact isList_of e) fun h' tk t' k => ?_
  have hs : preSum (numAt xs) xs.size = ns.sum := by
    rw [preSum_eq, List.take_of_length_le (by simp), ← nums_intItems, ← hx', hi.numsOf]
  rw [hs]
  exact ⟨g, O, _, Go.sub ok k tk, .int _ _, q⟩
noncomputable def fMax (a b c : UInt64) : UInt64 := if Float64.cmp b a == some .gt then (if Float64.cmp c b == some .gt then c else b) else (if Float64.cmp c a == some .gt then c else a)
noncomputable def fMin (a b c : UInt64) : UInt64 := if Float64.cmp b a == some .lt then (if Float64.cmp c b == some .lt then c else b) else (if Float64.cmp c a == some .lt then c else a)
theorem best3 (f : UInt64 → UInt64 → Bool) (a b c : UInt64) (va vb vc : Value) (v : Value) (h : (#[va, vb, vc] : Array Value)[argBest (fun i j => f ([a, b, c].getD i 0) ([a, b, c].getD j 0)) 2]? = some v) : v = if f b a then (if f c b then vc else vb) else (if f c a then vc else va) := by
  by_cases h1 : f b a = true
  · by_cases h2 : f c b = true
    · simp [argBest, h1, h2] at h ⊢; exact h.symm
    · simp [argBest, h1, h2] at h ⊢; exact h.symm
  · by_cases h2 : f c a = true
    · simp [argBest, h1, h2] at h ⊢; exact h.symm
    · simp [argBest, h1, h2] at h ⊢; exact h.symm
theorem at3 {vs : Array Value} {a b c : UInt64} {t u x : Tok} (hv : vs = #[.float a t, .float b u, .float c x]) {i : Nat} {v : Value} (h : vs[i]? = some v) : ∃ k, v = .float ([a, b, c].getD i 0) k := by
  subst hv
  rcases i with _ | _ | _ | i
  · exact ⟨t, by simpa using h.symm⟩
  · exact ⟨u, by simpa using h.symm⟩
  · exact ⟨x, by simpa using h.symm⟩
  · simp at h
theorem Ca.max3 {a b c : UInt64} {Q : D → Own → Prop} (hh : A.handled = none) (q : Q (.flt (fMax a b c)) O) : Ca Γ A O (.builtin "max") [.flt a, .flt b, .flt c] [] Q := fun g s vs ks ok iv ik => by
  obtain rfl := ik.nil'
  obtain ⟨x, y, z, rfl, i, j, k⟩ := iv.three
  cases i; cases j; cases k
  rename_i t u x
  have hT : (s.heap.push { cls := .type "tuple", data := .seq #[.float a t, .float b u, .float c x] }).IsTuple s.heap.objs.size #[.float a t, .float b u, .float c x] := ⟨_, Heap.get?_push_size _ rfl, rfl, 0, rfl⟩
  refine call_max_three (wpAny_pyIter_tuple hT ?_)
  have hsz : (s.heap.push { cls := .type "tuple", data := .seq #[.float a t, .float b u, .float c x] }).objs.size = s.heap.objs.size + 1 := Heap.size_push ..
  refine ⟨_, [_, s.heap.objs.size], [_], _, _, _, (fun i j => Float64.cmp ([a, b, c].getD i 0) ([a, b, c].getD j 0) == some .gt), rfl, Walks.tuple (A := A.in1) hh _ s.heap.objs.size (by rw [hsz]; exact Nat.ne_of_lt (Nat.lt_succ_self _)) #[.float a t, .float b u, .float c x],
    ⟨⟨_, Heap.get?_push_size _ rfl, rfl, rfl⟩, hT.push _⟩, fun d hd => ?_, by simp, fun i j vi vj s Q E hi hj h => ?_, fun v h' tk hP hk => ?_⟩
  · show d < ((s.heap.push _).push _).objs.size
    rw [Heap.size_push, hsz]
    simp only [List.mem_cons, List.not_mem_nil, or_false] at hd
    rcases hd with rfl | rfl
    · rw [hsz]; exact Nat.lt_succ_self _
    · exact Nat.lt_succ_of_lt (Nat.lt_succ_self _)
  · obtain ⟨_, rfl⟩ := at3 rfl hi
    obtain ⟨_, rfl⟩ := at3 rfl hj
    exact AutoFloatOps.gt_0 h
  · have hold : Sub s.heap h' := fun d o e => by
      refine hk d o (fun hm => ?_) (Heap.get?_push_of_some _ (Heap.get?_push_of_some _ e))
      have := Heap.lt_size e
      simp only [List.mem_cons, List.not_mem_nil, or_false] at hm
      rw [hm, hsz] at this
      exact absurd this (Nat.not_lt.mpr (Nat.le_succ _))
    have hv := best3 (fun p q => Float64.cmp p q == some .gt) a b c (.float a t) (.float b u) (.float c x) v hP
    refine ⟨g, O, .flt (fMax a b c), ?_, ?_, q⟩
    · have G := Go.sub ok hold tk
      exact G
    · rw [hv]
      unfold fMax
      split <;> split <;> exact .flt _ _
theorem Ca.min3 {a b c : UInt64} {Q : D → Own → Prop} (hh : A.handled = none) (q : Q (.flt (fMin a b c)) O) : Ca Γ A O (.builtin "min") [.flt a, .flt b, .flt c] [] Q := fun g s vs ks ok iv ik => by
  obtain rfl := ik.nil'
  obtain ⟨x, y, z, rfl, i, j, k⟩ := iv.three
  cases i; cases j; cases k
  rename_i t u x
  have hT : (s.heap.push { cls := .type "tuple", data := .seq #[.float a t, .float b u, .float c x] }).IsTuple s.heap.objs.size #[.float a t, .float b u, .float c x] := ⟨_, Heap.get?_push_size _ rfl, rfl, 0, rfl⟩
  refine call_min_three (wpAny_pyIter_tuple hT ?_)
  have hsz : (s.heap.push { cls := .type "tuple", data := .seq #[.float a t, .float b u, .float c x] }).objs.size = s.heap.objs.size + 1 := Heap.size_push ..
  refine ⟨_, [_, s.heap.objs.size], [_], _, _, _, (fun i j => Float64.cmp ([a, b, c].getD i 0) ([a, b, c].getD j 0) == some .lt), rfl, Walks.tuple (A := A.in1) hh _ s.heap.objs.size (by rw [hsz]; exact Nat.ne_of_lt (Nat.lt_succ_self _)) #[.float a t, .float b u, .float c x],
    ⟨⟨_, Heap.get?_push_size _ rfl, rfl, rfl⟩, hT.push _⟩, fun d hd => ?_, by simp, fun i j vi vj s Q E hi hj h => ?_, fun v h' tk hP hk => ?_⟩
  · show d < ((s.heap.push _).push _).objs.size
    rw [Heap.size_push, hsz]
    simp only [List.mem_cons, List.not_mem_nil, or_false] at hd
    rcases hd with rfl | rfl
    · rw [hsz]; exact Nat.lt_succ_self _
    · exact Nat.lt_succ_of_lt (Nat.lt_succ_self _)
  · obtain ⟨_, rfl⟩ := at3 rfl hi
    obtain ⟨_, rfl⟩ := at3 rfl hj
    exact AutoFloatOps.lt_0 h
  · have hold : Sub s.heap h' := fun d o e => by
      refine hk d o (fun hm => ?_) (Heap.get?_push_of_some _ (Heap.get?_push_of_some _ e))
      have := Heap.lt_size e
      simp only [List.mem_cons, List.not_mem_nil, or_false] at hm
      rw [hm, hsz] at this
      exact absurd this (Nat.not_lt.mpr (Nat.le_succ _))
    have hv := best3 (fun p q => Float64.cmp p q == some .lt) a b c (.float a t) (.float b u) (.float c x) v hP
    refine ⟨g, O, .flt (fMin a b c), ?_, ?_, q⟩
    · have G := Go.sub ok hold tk
      exact G
    · rw [hv]
      unfold fMin
      split <;> split <;> exact .flt _ _

theorem Op3.inst {C f : Addr} {d i v : D} {fs : List (Str × D)} {Q : Own → Prop} (o : ObjOf O d C fs) (hq : noSeq Γ.K C = true) (hs : findIn Γ.K (.ref C) "__setitem__" = some (some (.ref f))) (hf : isFn Γ.K (.ref f) = true)
    (h : Ca Γ A O (.ref f) [d, i, v] [] fun _ O' => Q O') : Op3 Γ A O setItem d i v Q := fun g s v w u ok iv iw iu => by
  obtain ⟨x, dx, es, n, rfl, a, b, r⟩ := o.at ok iv
  unfold T setItem sequenceKey
  have I := instAt_of a b
  refine wpAny_holding (wpAny_bind (wpAny_bind (I.type.here ?_)))
  refine wpAny_bind ((anyM_none ok.kin hq).here ?_)
  rw [if_pos (show (!false) = true from rfl)]
  exact wpAny_pure (wpAny_bind (special_fn ok.kin I hs (beq_iff_eq.mp hf) (wpAny_mono (h g s [_, w, u] [] ok (.cons iv (.cons iw (.cons iu .nil))) .nil) (fun _ _ ⟨g', O', d, G, i, q⟩ => wpAny_pure ⟨g', O', (), G, trivial, q⟩) fun _ _ e => e)))
theorem DelI.inst {C f : Addr} {d i : D} {fs : List (Str × D)} {Q : Own → Prop} (o : ObjOf O d C fs) (hq : noSeq Γ.K C = true) (hs : findIn Γ.K (.ref C) "__delitem__" = some (some (.ref f))) (hf : isFn Γ.K (.ref f) = true)
    (h : Ca Γ A O (.ref f) [d, i] [] fun _ O' => Q O') : ∀ g s v w, Okb Γ g s O → In g v d → In g w i → T Γ A (delItem v w) (fun _ _ _ => True) g s O (fun (_ : Unit) O' => Q O') := fun g s v w ok iv iw => by
  obtain ⟨x, dx, es, n, rfl, a, b, r⟩ := o.at ok iv
  unfold T delItem sequenceKey
  have I := instAt_of a b
  refine wpAny_holding (wpAny_bind (wpAny_bind (I.type.here ?_)))
  refine wpAny_bind ((anyM_none ok.kin hq).here ?_)
  rw [if_pos (show (!false) = true from rfl)]
  exact wpAny_pure (wpAny_bind (special_fn ok.kin I hs (beq_iff_eq.mp hf) (wpAny_mono (h g s [_, w] [] ok (.cons iv (.cons iw .nil)) .nil) (fun _ _ ⟨g', O', d, G, i, q⟩ => wpAny_pure ⟨g', O', (), G, trivial, q⟩) fun _ _ e => e)))
/-- del o[i], of an object whose class has the word for it -/
theorem S1.delI {o i : Expr} {pos p : Pos} {Q : Fl → Rho → Rho → Own → Prop} (h : Ev Γ A env ρ κ O o fun a O₁ => Ev Γ A env ρ κ O₁ i fun b O₂ => ∃ C f fs, ObjOf O₂ a C fs ∧ noSeq Γ.K C = true ∧ findIn Γ.K (.ref C) "__delitem__" = some (some (.ref f)) ∧ isFn Γ.K (.ref f) = true ∧ Ca Γ A O₂ (.ref f) [a, b] [] fun _ O' => Q .next ρ κ O') :
    S1 Γ A env ρ κ O (.Delete [.Subscript o i p] pos) Q := fun g s ok F => by
  refine wpAny_Delete ?_
  show wpAny _ _ (do delete (.Subscript o i p) env; deleteEach [] env) _ _ s
  refine wpAny_bind (wpAny_delete_Subscript (wpAny_mono (h g s ok F) (fun v s₁ ⟨g₁, O₁, a, G₁, ia, h₁⟩ => wpAny_mono (h₁ g₁ s₁ G₁.ok (F.go G₁)) (fun w s₂ ⟨g₂, O₂, b, G₂, ib, C, f, fs, h1, h2, h3, h4, h5⟩ => ?_) fun _ _ e => e) fun _ _ e => e))
  refine wpAny_mono (DelI.inst h1 h2 h3 h4 h5 g₂ s₂ v w G₂.ok (ia.up G₂.to.up) ib) (fun _ s₃ ⟨g₃, O₃, _, G₃, _, q⟩ => ?_) fun _ _ e => e
  exact wpAny_pure ⟨g₃, ρ, κ, O₃, .next, .ofGo F ((G₁.trans G₂).trans G₃), .next, q⟩
end
end Lw
end
section
set_option autoImplicit false
set_option linter.unusedVariables false
set_option Elab.async false
set_option maxRecDepth 100000
namespace Lw
open PySem PySem.Calls PyProof.Rows PySem.W
theorem slot_search : Slot "re.Pattern" "search" "re.Pattern.search" :=
  .of (owner := "re.Pattern") (n := "search") (by rw [typeLookup_type, builtinLookup_eq_fast]; kernel_rfl) (by decide +kernel) (by decide +kernel) (by decide +kernel)
    (by first | exact .inl (by decide +kernel) | exact .inr (by decide +kernel)) (by rw [isSubtype_type]; kernel_rfl)
theorem type_search : typeOf (.builtin "re.Pattern.search") = pure (.type "method_descriptor") := by show builtinType _ = _; rw [builtinType_eq_fast]; kernel_rfl
theorem entry_search : entryFor table "re.Pattern.search" = some Builtin.«re.Pattern.search» := entryFor_of_tree (by kernel_rfl)
theorem args_search (a b : Value) : argsOk "re.Pattern.search" ⟨[a, b], []⟩ := by unfold argsOk; kernel_rfl
theorem plain_pattern : PlainAttrs "re.Pattern" :=
  ⟨⟨"object.__getattribute__", by rw [typeLookup_type, builtinLookup_eq_fast]; kernel_rfl, by decide +kernel⟩, by rw [typeLookup_type, builtinLookup_eq_fast]; kernel_rfl⟩
noncomputable def sreFails : Nat → Sre.M → Bool
  | 0, _ => false
  | k + 1, m => match (m.runFor Builtin.Re.reTurnSteps).outcome with
    | some .failed => true
    | some _ => false
    | none => sreFails k (m.runFor Builtin.Re.reTurnSteps)
section
variable {M : Model} {A : Around} {E : Value → Shared → Prop} {s : Shared}
theorem drive {Q : Sre.M → Shared → Prop} : ∀ (k turns : Nat) (m : Sre.M), k ≤ turns → sreFails k m = true → (∀ m', m'.outcome = some .failed → Q m' s) → wpAny M A (Builtin.Re.reDrive turns m) Q E s
  | 0, _, m, _, h, _ => by cases h
  | k + 1, 0, m, hk, _, _ => by omega
  | k + 1, turns + 1, m, hk, h, hQ => by
    unfold sreFails at h
    unfold Builtin.Re.reDrive
    dsimp only
    cases q : (m.runFor Builtin.Re.reTurnSteps).outcome with
    | none =>
      rw [q] at h
      rw [if_neg (by simp)]
      exact wpAny_bind (wpAny_rule (drive k turns _ (by omega) h hQ))
    | some o =>
      rw [q] at h
      rw [if_pos (by simp)]
      cases o with
      | failed => exact wpAny_pure (hQ _ q)
      | _ => cases h
theorem search_fails {prog : Program} {w : World} {Q : Value → Shared → Prop} {p c : Addr} {x : Str} {t : Tok} {v0 v1 : Value} {t1 t2 : Tok} {vs : Array Value} {n k : Nat} {cls : Value} (hp : s.heap.get? p = some { cls := .type "re.Pattern", data := .fields #[v0, v1, .int 0 t1, .none, .none, .ref c, .int 0 t2] })
    (hc : s.heap.get? c = some { cls := cls, data := .seq vs n }) (hx : x.cps.size ≤ 1000000) (hk : k ≤ 1000000)
    (hf : sreFails k (Sre.forSearch ((vs.map Builtin.Re.reRawOf).map (·.toNat)) x.cps 0 0 x.cps.size false) = true) (h : Q .none s) : wpAny (model prog w) A (call (.builtin "re.Pattern.search") [.ref p, .str x t]) Q E s := by
  refine wpAny_call_entry slot_search ⟨_, hp, rfl⟩ entry_search ?_ (args_search _ _)
  show wpAny _ _ (Builtin.Re.reTarget "re.Pattern.search" "search" ⟨[.ref p, .str x t], []⟩ >>= _) _ _ s
  refine wpAny_bind ?_
  unfold Builtin.Re.reTarget
  refine wpAny_bind (wpAny_of_eq (a := [some (.str x t), none, none]) (by kernel_rfl) ?_)
  refine wpAny_bind (wpAny_pure (wpAny_bind (wpAny_pure (wpAny_bind (wpAny_fieldsOf hp rfl ?_)))))
  refine wpAny_bind (wpAny_of_eq (a := (x.cps, 0)) (by kernel_rfl) ?_)
  show wpAny _ _ (Builtin.Re.reNoCollectionInside (.str x t) 0 >>= _) _ _ s
  refine wpAny_bind (wpAny_pure ?_)
  show wpAny _ _ (Builtin.Re.reRawItems (.ref c) >>= _) _ _ s
  refine wpAny_bind ?_
  unfold Builtin.Re.reRawItems
  refine wpAny_bind (wpAny_seqItems hc rfl (wpAny_pure (wpAny_pure ?_)))
  dsimp only [Option.getD_some]
  unfold Builtin.Re.reAnswer Builtin.Re.reRunToEnd
  have e1 : min ((2 ^ 63 - 1 : Int)).toNat x.cps.size = x.cps.size := Nat.min_eq_right (by have : ((2 ^ 63 - 1 : Int)).toNat = 9223372036854775807 := by decide
                                                                                           omega)
  have e0 : min ((0 : Int)).toNat x.cps.size = 0 := by simp
  refine wpAny_bind (wpAny_bind (drive k _ _ (Nat.le_trans hk (by decide)) ?_ fun m' hm => ?_))
  · show sreFails k (Sre.forSearch _ x.cps 0 (min ((0 : Int)).toNat x.cps.size) (min ((2 ^ 63 - 1 : Int)).toNat x.cps.size) false) = true
    rw [e0, e1]
    exact hf
  · refine wpAny_bind (wpAny_forIn_list _ (fun _ _ s' => s' = s) _ ?_ ?_ _ _ rfl)
    · rintro i rest b s' rfl
      split
      · exact wpAny_bind (wpAny_rule (wpAny_pure rfl))
      · exact wpAny_pure rfl
    · rintro b s' rfl
      rw [hm]
      exact wpAny_pure (wpAny_pure ⟨.none, rfl, h⟩)
end
section
variable {Γ : Gam} {A : Around} {env : Env} {ρ κ : Rho} {O : Own}
/-- the pattern at p, written, with its code -/
structure PatAt (Γ : Gam) (p : Addr) (code : Array Nat) : Prop where
  at_ : ∃ c v0 v1 t1 t2 cls vs n, Γ.K.lookup p = some { cls := .type "re.Pattern", data := .fields #[v0, v1, .int 0 t1, .none, .none, .ref c, .int 0 t2] } ∧ Γ.K.lookup c = some { cls := cls, data := .seq vs n } ∧ (vs.map Builtin.Re.reRawOf).map (·.toNat) = code
noncomputable def noHit (code : Array Nat) (x : Str) : Bool := decide (x.cps.size ≤ 1000000) && sreFails 3000 (Sre.forSearch code x.cps 0 0 x.cps.size false)
theorem GetM.pat {p : Addr} {code : Array Nat} {K : Value → List D → Own → Prop} (h : PatAt Γ p code) (q : K (.builtin "re.Pattern.search") [.v (.ref p)] O) : GetM Γ A O "search" (.v (.ref p)) K := fun pl g s v ok i => by
  cases i
  obtain ⟨c, v0, v1, t1, t2, cls, vs, n, h1, h2, h3⟩ := h.at_
  have hp := ok.kin _ _ h1
  exact getMethod_builtin (T := "re.Pattern") ⟨_, hp, rfl⟩ plain_pattern slot_search type_search (fun a e => by cases e; exact ⟨_, hp, rfl⟩) ⟨g, O, [.v (.ref p)], .refl ok, .cons (.v _) .nil, q⟩
theorem Ca.noHit {p : Addr} {code : Array Nat} {x : Str} {Q : D → Own → Prop} (h : PatAt Γ p code) (hn : Lw.noHit code x = true) (q : Q .none O) : Ca Γ A O (.builtin "re.Pattern.search") [.v (.ref p), .str x] [] Q := Ca.plain2 fun g s v w ok i j => by
  cases i; cases j
  obtain ⟨c, v0, v1, t1, t2, cls, vs, n, h1, h2, h3⟩ := h.at_
  unfold Lw.noHit at hn
  rw [Bool.and_eq_true] at hn
  exact search_fails (k := 3000) (ok.kin _ _ h1) (ok.kin _ _ h2) (of_decide_eq_true hn.1) (by decide) (by rw [h3]; exact hn.2) (T.val0 ok .none q)

noncomputable def tyName : D → Option String
  | .none => some "NoneType"
  | .bool _ => some "bool"
  | .int _ => some "int"
  | .flt _ => some "float"
  | .str _ => some "str"
  | .tup _ => some "tuple"
  | .lst _ => some "list"
  | .rng _ _ _ => some "range"
  | _ => none
theorem typeIs_of {g : Heap} {s : Shared} {v : Value} {d : D} {T : String} (ok : Okb Γ g s O) (i : In g v d) (h : tyName d = some T) : s.TypeIs v T := by
  cases i with
  | v => cases h
  | none => cases h; exact rfl
  | bool => cases h; exact rfl
  | int => cases h; exact rfl
  | flt => cases h; exact rfl
  | str => cases h; exact rfl
  | tup e r => cases h; exact ⟨_, ok.keep _ _ e, rfl⟩
  | lst e r => cases h; exact ⟨_, ok.keep _ _ e, rfl⟩
  | rng e => cases h; exact ⟨_, ok.keep _ _ e, rfl⟩
  | slc => cases h
  | inst => cases h
theorem Ca.type {d : D} {U : String} {Q : D → Own → Prop} (h : tyName d = some U) (hb : (Value.type U == Value.type "builtin_function_or_method") = false) (q : Q (.v (.type U)) O) : Ca Γ A O (.type "type") [d] [] Q := Ca.plain1 fun g s v ok i =>
  call_type_of (typeIs_of ok i h) hb (T.val0 ok (.v _) q)
theorem Ca.typeL {d : D} {ds : List D} {Q : D → Own → Prop} (l : LstOf O d ds) (q : Q (.v (.type "list")) O) : Ca Γ A O (.type "type") [d] [] Q := Ca.plain1 fun g s v ok i => by
  obtain ⟨a, vs, n, rfl, e, r⟩ := l.at ok i
  exact call_type_of (Tx := "list") ⟨_, e, rfl⟩ (by decide) (T.val0 ok (.v _) q)
theorem Op2.isV {a b : Value} {r : Bool} {Q : D → Own → Prop} (h : isSame a b = pure r) (q : Q (.bool r) O) : Op2 Γ A O (compareOp .Is) (.v a) (.v b) Q := fun g s v w ok i j => by
  cases i; cases j
  show wpAny _ A (isSame a b >>= fun c => pure (Value.bool c)) _ _ s
  rw [h]
  exact wpAny_bind (wpAny_pure (wpAny_pure (T.val0 ok (.bool _) q)))
theorem Op2.isNotV {a b : Value} {r : Bool} {Q : D → Own → Prop} (h : isSame a b = pure r) (q : Q (.bool (!r)) O) : Op2 Γ A O (compareOp .IsNot) (.v a) (.v b) Q := fun g s v w ok i j => by
  cases i; cases j
  show wpAny _ A (isSame a b >>= fun c => pure (Value.bool (!c))) _ _ s
  rw [h]
  exact wpAny_bind (wpAny_pure (wpAny_pure (T.val0 ok (.bool _) q)))
theorem Tr.int {i : Int} {Q : Bool → Own → Prop} (q : Q (i != 0) O) : Tr Γ A O (.int i) Q := fun g s v ok iv => by
  cases iv; exact P.truthy_int ⟨g, O, _, .refl ok, rfl, q⟩
/-- an expression one of whose names is read as an argument by keyword -/
theorem Ev.methK {o : Expr} {name : Str} {apos pos : Pos} {a1 : Expr} {args : List Expr} {kws : List Keyword} {ks : List Str} {Q : D → Own → Prop}
    (h : Ev Γ A env ρ κ O o fun d O₁ => GetM Γ A O₁ name d fun f fd O₂ => Kp Γ f ∧ Evs Γ A env ρ κ O₂ (a1 :: args) fun ds O₃ => EvK Γ A env ρ κ O₃ kws fun kd O₄ => kd.length = ks.length ∧ Ca Γ A O₄ f (fd ++ ds) (ks.zip kd) Q)
    (hm : MethForm o name apos pos (a1 :: args) kws env) (hp : NoStar env (a1 :: args)) (hk1 : ∀ pos, (backToKw pos (keywordEach kws env)).any (·.1.isNone) = false) (hk2 : ∀ pos, (backToKw pos (keywordEach kws env)).all (·.1.isSome) = true) (hk3 : ∀ pos, (backToKw pos (keywordEach kws env)).filterMap (·.1) = ks)
    (hf : ∀ pos, ∃ x rest, backTo pos (starEach (a1 :: args) env) = (false, x) :: rest) : Ev Γ A env ρ κ O (.Call (.Attribute o name apos) (a1 :: args) kws pos) Q := fun g s ok F => by
  obtain ⟨pl, he⟩ := hm
  unfold T
  rw [he]
  refine wpAny_bind (wpAny_mono (h g s ok F) (fun v s₁ ⟨g₁, O₁, d, G₁, i, h₁⟩ => wpAny_bind (wpAny_standAt (wpAny_bind (wpAny_holding (wpAny_mono (h₁ pl g₁ s₁ v G₁.ok i) (fun fx s₂ ⟨g₂, O₂, fd, G₂, ifd, hk, h₂⟩ => ?_) fun _ _ e => e))))) fun _ _ e => e)
  have Gb := G₁.trans G₂
  refine callWith_of (P := Γ.K.In) (by rw [hp pos, hk1 pos]; rfl) hk ?_
  have h₃ := h₂ pos g₂ s₂ Gb.ok (F.go Gb)
  obtain ⟨x, rest, e⟩ := hf pos
  unfold T at h₃
  rw [e] at h₃ ⊢
  refine evalArgs_kw (hk2 pos) (wpAny_mono h₃ (fun vs s₃ ⟨g₃, O₃, ds, G₃, is, h₄⟩ => ?_) fun _ _ e => e)
  refine wpAny_mono (h₄ pos g₃ s₃ G₃.ok (F.go (Gb.trans G₃))) (fun kvs s₄ ⟨g₄, O₄, kd, G₄, ik, hl, q⟩ => ?_) fun _ _ e => e
  refine ⟨G₄.ok.kin, ?_⟩
  have hz1 : (ks.zip kd).map (·.1) = ks := by rw [List.map_fst_zip]; omega
  have hz2 : (ks.zip kd).map (·.2) = kd := by rw [List.map_snd_zip]; omega
  have := q g₄ s₄ (fx.2 ++ vs) kvs G₄.ok ((ifd.up (G₃.trans G₄).to.up).append (is.up G₄.to.up)) (by rw [hz2]; exact ik)
  rw [hz1] at this
  show wpAny _ _ (PySem.call fx.1 (fx.2 ++ vs) (((backToKw pos (keywordEach kws env)).filterMap (·.1)).zip kvs)) _ _ _
  rw [hk3 pos]
  exact wpAny_mono this (fun u s₅ ⟨g₅, O₅, c, G₅, ic, q⟩ => ⟨g₅, O₅, c, (Gb.trans (G₃.trans G₄)).trans G₅, ic, q⟩) fun _ _ e => e

theorem tup_inv {g : Heap} {v : Value} {ds : List D} (h : In g v (.tup ds)) : ∃ a vs n, v = .ref a ∧ g.get? a = some (tupObj vs n) ∧ InL g vs.toList ds := by
  cases h with | tup e r => exact ⟨_, _, _, rfl, e, r⟩
/-- `a, b = (x, y)`: the stores go the other way round -/
theorem S1.swap {targets : List Expr} {value : Expr} {pos : Pos} {names : List Str} {ts : List (Value → Sem Unit)} {Q : Fl → Rho → Rho → Own → Prop} (hh : A.handled = none)
    (h : Ev Γ A env ρ κ O value fun d O₁ => ∃ ds, d = .tup ds ∧ ds.length = names.length ∧ Asl Γ A env ρ κ O₁ ts ds.reverse fun ρ' κ' O' => Q .next ρ' κ' O')
    (ht : names.reverse.map (fun n => bindName env n) = ts) (hs : swapsWithSole targets value pos.line env = pure false) (hw : swappedStores targets value env = pure (some names)) : S1 Γ A env ρ κ O (.Assign targets value pos) Q := fun g s ok F => by
  subst ht
  show wpAny _ _ (exec (.Assign targets value pos) env) _ _ s
  rw [PySem.exec_Assign_arm]
  refine wpAny_bind (wpAny_standAt ?_)
  rw [hs]
  refine wpAny_bind (wpAny_pure ?_)
  rw [if_neg (by decide)]
  refine wpAny_bind (wpAny_mono (h g s ok F) (fun v s₁ ⟨g₁, O₁, d, G₁, i, ds, e, hl, h₁⟩ => ?_) fun _ _ x => x)
  subst e
  rw [hw]
  refine wpAny_bind (wpAny_pure ?_)
  obtain ⟨a, vs, n, rfl, e, r⟩ := tup_inv i
  · have hz : vs.size = names.length := by rw [← Array.length_toList, r.length, hl]
    unfold assignStores
    refine wpAny_bind (wpAny_rule (wpAny_bind ?_))
    rw [← hz]
    refine wpAny_unpackItems_tuple hh (isTuple_of (G₁.ok.keep _ _ e)) fun h' hs' => ?_
    have G := Go.sub G₁.ok (h' := h') (fun b o q => hs' b o (fun z => absurd (Heap.lt_size q) (by rw [z]; exact Nat.lt_irrefl _)) q) s₁.toks
    have Gt := G₁.trans G
    have rr : InL g₁ vs.toList.reverse ds.reverse := by
      have : ∀ {l : List Value} {l' : List D}, InL g₁ l l' → InL g₁ l.reverse l'.reverse := by
        intro l l' hh
        induction l generalizing l' with
        | nil => cases hh; exact .nil
        | cons x l ih => cases hh with | cons a b => rw [List.reverse_cons, List.reverse_cons]; exact (ih b).append (.cons a .nil)
      exact this r
    refine wpAny_bind (wpAny_mono (h₁ g₁ _ _ Gt.ok (F.go Gt) rr) (fun _ s₂ ⟨g₂, ρ₂, κ₂, O₂, G₂, q⟩ => ?_) fun _ _ e => e)
    exact wpAny_pure ⟨g₂, ρ₂, κ₂, O₂, .next, (Gs.ofGo F Gt).trans G₂, .next, q⟩
theorem As.bind {x : Str} {d : D} {Q : Rho → Rho → Own → Prop} (h : ∃ ρ', Put ρ x d ρ' ∧ Q ρ' κ O) : As Γ A env ρ κ O (fun v => bindName env x v) d Q := fun g s v ok F i => by
  obtain ⟨ρ', p, q⟩ := h
  exact wpAny_bindName (store_loc ok F i p fun s' G => ⟨g, ρ', κ, O, G, q⟩)
/-- a comprehension whose list stays a changeable one -/
theorem Ev.compO {elt target iter : Expr} {ifs : List Expr} {rest : List Comprehension} {scope : Scope} {pos : Pos} {cl : List (Str × Addr)} (ρc κc : Rho) {Q : D → Own → Prop}
    (hclos : closureFor scope env = pure cl) (hkind : scope.kind = .function) (hnames : (scope.names.map (·.1)).Nodup) (hnc : (scope.names.all fun x => !(x.2 == .cell) && !(x.1 == ("__debug__" : Str))) = true)
    (hρ : rho0 scope.names [] = ρc) (hκ : CK env (relabel scope env) cl κ κc) (hs : ∀ x, foldedSetIterable iter env x = pure x)
    (h : Ev Γ A env ρ κ O iter fun d O₁ => GetI Γ A O₁ d fun I O₂ => ItIn I O₂ ∧ ∀ acc L, Cl Γ A (compEnvC scope cl L env) ρc κc ((acc, .list []) :: O₂) (.compStart (.ListComp elt (⟨target, iter, ifs, 0⟩ :: rest) scope pos) 0 (.ref I) (.ref acc) (compEnvC scope cl L env)) fun _ _ O₃ => ∃ ds O', O₃ = (acc, .list ds) :: O' ∧ Q (.v (.ref acc)) O₃) :
    Ev Γ A env ρ κ O (.ListComp elt (⟨target, iter, ifs, 0⟩ :: rest) scope pos) Q := fun g s ok F => by
  refine compRun (use := none) ok F hclos hkind hnames hnc hρ hκ hs h fun acc L g' s' O₃ m f G hK hm hL hd hl hc hLO => ?_
  obtain ⟨ds, O', e, q⟩ := hK
  subst e
  refine ⟨m, hm, fun h' hs' => ?_⟩
  have ok' := G.ok.but hs' hL hd s'.toks
  have G' : Go Γ g s O g' { s' with heap := h' } ((acc, .list ds) :: O') := ⟨ok', G.to.trans (To.but (X := fun b => b = L) hs' rfl s'.toks) fun b hb => by rw [hb]; exact hLO, G.wi⟩
  exact ⟨g', _, .v (.ref acc), G', .v _, q⟩
theorem Ev.compMO {elt target iter : Expr} {ifs : List Expr} {scope : Scope} {pos : Pos} {cl : List (Str × Addr)} (ρc κc : Rho) (f : D → Option D) {Q : D → Own → Prop} (hh : A.handled = none) (hp : PairT target = true)
    (hclos : closureFor scope env = pure cl) (hkind : scope.kind = .function) (hnames : (scope.names.map (·.1)).Nodup) (hnc : (scope.names.all fun x => !(x.2 == .cell) && !(x.1 == ("__debug__" : Str))) = true)
    (hρ : rho0 scope.names [] = ρc) (hκ : CK env (relabel scope env) cl κ κc) (hs : ∀ x, foldedSetIterable iter env x = pure x)
    (h : Ev Γ A env ρ κ O iter fun d O₁ => GetI Γ A O₁ d fun I O₂ => ∃ ds W, O₂ = (I, .iter ds) :: W ∧ (∀ L, ∀ d ∈ ds, BodyC Γ A (compEnvC scope cl L env) ρc κc target ifs elt d (f d)) ∧ ds.length ≤ sizeLine ∧ ∀ la, Q (.v (.ref la)) ((la, .list (ds.filterMap f)) :: W)) :
    Ev Γ A env ρ κ O (.ListComp elt [⟨target, iter, ifs, 0⟩] scope pos) Q := by
  refine Ev.compO ρc κc hclos hkind hnames hnc hρ hκ hs (h.mono fun d O₁ h₁ g s v ok i => (h₁ g s v ok i).mono fun I O₂ ⟨ds, W, e, hb, hl, q⟩ => ?_)
  subst e
  exact ⟨⟨_, .head _, .inl ⟨_, rfl⟩⟩, fun acc L => Cl.mapIn f hh hp (hb L) hl ⟨_, _, rfl, q acc⟩⟩
end
end Lw
end
section
set_option autoImplicit false
set_option linter.unusedVariables false
set_option Elab.async false
set_option maxRecDepth 100000
namespace Lw
open PySem PySem.Calls PyProof.Rows PySem.W
section
variable {Γ : Gam} {A : Around} {env : Env} {ρ κ : Rho} {O : Own}
theorem draw_it {it : Addr} {es : List D} : ∀ (ds : List D) (g : Heap) (s : Shared), Okb Γ g s ((it, .iter (ds ++ es)) :: O) → T Γ A (draw (.ref it) ds.length) InL g s ((it, .iter (ds ++ es)) :: O) (fun r O' => r = ds ∧ O' = (it, .iter es) :: O)
  | [], g, s, ok => by
    show wpAny _ _ (pure []) _ _ s
    exact wpAny_pure ⟨g, _, [], .refl ok, .nil, rfl, rfl⟩
  | d :: ds, g, s, ok => by
    show wpAny _ _ (pyNext (.ref it) >>= _) _ _ s
    refine wpAny_bind (wpAny_mono (Nx.item (Q := fun od O' => od = some d ∧ O' = (it, .iter (ds ++ es)) :: O) .here ⟨rfl, rfl⟩ g s ok) (fun r s₁ ⟨g₁, O₁, od, G₁, hr, e1, e2⟩ => ?_) fun _ _ e => e)
    subst e1 e2
    cases hr with
    | some iv =>
      refine wpAny_bind (wpAny_holding (wpAny_mono (draw_it ds g₁ s₁ G₁.ok) (fun vs s₂ ⟨g₂, O₂, es', G₂, hv, e1, e2⟩ => ?_) fun _ _ e => e))
      subst e1 e2
      exact wpAny_pure ⟨g₂, _, _, G₁.trans G₂, .cons (iv.up G₂.to.up) hv, rfl, rfl⟩
theorem unpack_lst {ds : List D} {g : Heap} {s : Shared} {v : Value} (hh : A.handled = none) (ok : Okb Γ g s O) (i : In g v (.lst ds)) : T Γ A (unpackItems v ds.length none) InL g s O (fun es O' => es = ds ∧ O' = O) := by
  have hI := GetI.lst (Γ := Γ) (A := A) (O := O) (ds := ds) (K := fun I O' => O' = (I, .iter ds) :: O) (fun _ => rfl) g s v ok i
  have hT : s.TypeIs v "list" := by cases i with | lst e r => exact ⟨_, ok.keep _ _ e, rfl⟩
  unfold T unpackItems
  refine wpAny_bind ?_
  unfold notIterableAtAll
  refine wpAny_bind (wpAny_specialOf hT F.slot_list_iter.lookup ?_)
  refine wpAny_pure ?_
  simp only [Bool.false_eq_true, if_false]
  refine wpAny_bind (wpAny_holding (wpAny_mono hI (fun u s₁ ⟨g₁, O₁, I, G₁, e, e2⟩ => ?_) fun _ _ e => e))
  subst e e2
  have e0 : (I, Cont.iter ds) :: O = (I, .iter (ds ++ [])) :: O := by rw [List.append_nil]
  have ok₁ := G₁.ok
  rw [e0] at ok₁
  refine wpAny_bind (wpAny_holding (wpAny_mono (draw_it ds g₁ s₁ ok₁) (fun vs s₂ ⟨g₂, O₂, es', G₂, hv, e1, e2⟩ => ?_) fun _ _ e => e))
  subst e1 e2
  rw [if_neg (by have := hv.length; simp; omega)]
  rw [← e0] at G₂
  refine wpAny_bind (wpAny_holding (wpAny_mono (Nx.stop (Q := fun od O' => od = none ∧ O' = O) hh (.head _) .here ⟨rfl, rfl⟩ g₂ s₂ G₂.ok) (fun r s₃ ⟨g₃, O₃, od, G₃, hr, e1, e2⟩ => ?_) fun _ _ e => e))
  subst e1 e2
  cases hr
  simp only [Option.isSome_none, Bool.false_eq_true, if_false]
  exact wpAny_pure ⟨g₃, _, _, (G₁.trans G₂).trans G₃, hv.up G₃.to.up, rfl, rfl⟩
theorem As.lst3 {x y z : Str} {p q r pos : Pos} {k : Nat} {d e f : D} {Q : Rho → Rho → Own → Prop} (hh : A.handled = none) (h : Asl Γ A env ρ κ O [assign (.Name x p) env, assign (.Name y q) env, assign (.Name z r) env] [d, e, f] Q) : As Γ A env ρ κ O (assign (.Tuple [.Name x p, .Name y q, .Name z r] k pos) env) (.lst [d, e, f]) Q := fun g s v ok F i => by
  rw [arm_assign_Tuple]
  refine wpAny_bind (wpAny_standAt ?_)
  unfold unpack
  refine wpAny_bind (wpAny_holding ?_)
  show wpAny _ _ (unpackItems v 3 none) _ _ s
  have h3 : T Γ A (unpackItems v 3 none) InL g s O (fun es O' => es = [d, e, f] ∧ O' = O) := unpack_lst (ds := [d, e, f]) hh ok i
  unfold T at h3
  refine (wpAny_mono h3 (fun vs s₁ ⟨g₁, O₁, ds, G₁, hv, e1, e2⟩ => ?_) fun _ _ e => e)
  subst e1 e2
  show wpAny _ _ (assignInOrder [assign (.Name x p) env, assign (.Name y q) env, assign (.Name z r) env] vs) _ _ s₁
  exact wpAny_mono (h g₁ s₁ vs G₁.ok (F.go G₁) hv) (fun _ s₂ ⟨g₂, ρ₂, κ₂, O₂, G₂, q⟩ => ⟨g₂, ρ₂, κ₂, O₂, (Gs.ofGo F G₁).trans G₂, q⟩) fun _ _ e => e
end
end Lw
end
section
set_option autoImplicit false
set_option linter.unusedVariables false
set_option Elab.async false
set_option maxRecDepth 100000
set_option maxHeartbeats 1000000
namespace Lw
open PySem PySem.Calls PyProof.Rows PySem.W
section
open PySem.SeqAt AutoSeq1 MeetsSeq MeetsSeq2 MeetsSeq3 SeqRoads2
theorem tuple_gtAt (l b : Addr) (x1 y1 x2 y2 : Value) (c : Bool) (n n2 : Nat) (he : EqGives x1 y1 false) (hr : ∀ (prog : Program) (w : World) (A : Around) (E : Value → Shared → Prop) (s : Shared) (Q : Value → Shared → Prop), Q (.bool c) s → wpAny (model prog w) A (richCompare .Gt x1 y1) Q E s) :
    Meets (Builtin.«tuple.__gt__» ⟨[.ref l, .ref b], []⟩)
      (fun A R s => s.heap.get? l = some (tupObj #[x1, x2] n) ∧ s.heap.get? b = some (tupObj #[y1, y2] n2) ∧ R (.ok (.ret (.bool c))) s) :=
  .of_wp fun prog w A R s h => by
    obtain ⟨hp, g, d, tk, os⟩ := s; obtain ⟨hl, hb, h⟩ := h
    have f2 := AutoSeq1.sub_tuple_tuple
    wp_walk using wpAny_loadPart' hl, wpAny_loadPart' hb, wpAny_forIn_list _ (fun rest b s' => b.1 = none ∧ s' = ⟨hp, g, d, tk, os⟩ ∧ rest = [(x1, y1), (x2, y2)]) _
    case turn =>
      rintro ⟨y, x⟩ rest b s' ⟨hb', rfl, hz⟩
      injection hz with hyx hrest
      have hy : y = x1 := congrArg Prod.fst hyx
      have hx : x = y1 := congrArg Prod.snd hyx
      subst hy hx
      refine wpAny_bind (he prog w _ _ _ _ ?_)
      have hr' : ∀ {E : Value → Shared → Prop} {s : Shared} {Q : Value → Shared → Prop}, Q (.bool c) s → wpAny (model prog w) A.in1 (richCompare .Gt y x) Q E s := fun h => hr prog w _ _ _ _ h
      wp_walk using hr'
      exact ⟨_, rfl, h⟩
    case fin =>
      rintro ⟨b1, b2⟩ s' ⟨hb', rfl, hz⟩
      cases hz
    exact ⟨rfl, rfl, rfl⟩
end
section
variable {Γ : Gam} {A : Around} {env : Env} {ρ κ : Rho} {O : Own}
theorem Op2.gtT {i j : Int} {x y : D} {Q : D → Own → Prop} (hij : (i == j) = false) (hu : A.units < cLine) (q : Q (.bool (decide (j < i))) O) : Op2 Γ A O (compareOp .Gt) (.tup [.int i, x]) (.tup [.int j, y]) Q := fun g s v w ok iv iw => by
  obtain ⟨a, vs, n, rfl, ha, ra⟩ := tup_inv (iv.up ok.keep)
  obtain ⟨b, ws, m, rfl, hb, rb⟩ := tup_inv (iw.up ok.keep)
  obtain ⟨v1, v2, e1, i1, -⟩ := ra.two
  obtain ⟨w1, w2, e2, j1, -⟩ := rb.two
  cases i1 with | int _ t => cases j1 with | int _ u =>
  obtain ⟨vs⟩ := vs
  obtain ⟨ws⟩ := ws
  dsimp only at e1 e2
  subst e1 e2
  exact richCompare_meets_room (op := .Gt) ⟨_, ha, rfl⟩ ⟨_, hb, rfl⟩ F.slot_tuple_gt F.entry_tuple_gt (F.args_tuple_gt_2 _ _) (tuple_gtAt a b _ _ _ _ (decide (j < i)) n m (hij ▸ MeetsSeq.EqGives.int i j t u) fun _ _ _ _ _ _ h => PyProof.Rows.gt_int h)
    ⟨ha, hb, show _ ≠ Value.notImplemented ∧ _ from ⟨(fun x => nomatch x), T.val0 ok (.bool _) q⟩⟩ hu
end
end Lw
end
section
set_option autoImplicit false
set_option linter.unusedVariables false
set_option Elab.async false
set_option maxRecDepth 100000
set_option maxHeartbeats 1000000
namespace Lw
open PySem PySem.Calls PyProof.Rows PySem.W
section
variable {Γ : Gam} {A : Around} {env : Env} {ρ κ : Rho} {O : Own}
/-- one turn of the first clause of two -/
noncomputable def BodyC2 (Γ : Gam) (A : Around) (cenv : Env) (ρc κc : Rho) (t1 t2 i2 : Expr) (f2 : List Expr) (elt : Expr) (d : D) (es : List D) (f : D → Option D) : Prop :=
  ∀ O, As Γ A cenv ρc κc O (assign t1 cenv) d fun ρ₂ κ₂ O₂ => O₂ = O ∧ κ₂ = κc ∧ Fgt ρ₂ ρc ∧ Ev Γ A cenv ρ₂ κc O i2 fun d2 O₃ => GetI Γ A O₃ d2 fun I2 O₄ => O₄ = (I2, .iter es) :: O ∧ ∀ e ∈ es, BodyC Γ A cenv ρ₂ κc t2 f2 elt e (f e)
theorem Cl.map2 {elt t1 i1 t2 i2 : Expr} {f2 : List Expr} {scope : Scope} {pos : Pos} {acc I : Addr} {ds : List D} {W : Own} {Q : Rho → Rho → Own → Prop} (es : D → List D) (f : D → D → Option D) (hh : A.handled = none) (hp : PairT t1 = true) (hp2 : PairT t2 = true) (hs : ∀ x, foldedSetIterable i2 env x = pure x)
    (body : ∀ d ∈ ds, BodyC2 Γ A env ρ κ t1 t2 i2 f2 elt d (es d) (f d)) (hlen : (ds.flatMap fun d => (es d).filterMap (f d)).length ≤ sizeLine) (q : Q ρ κ ((acc, .list (ds.flatMap fun d => (es d).filterMap (f d))) :: W)) :
    Cl Γ A env ρ κ ((acc, .list []) :: (I, .iter ds) :: W) (.compStart (.ListComp elt [⟨t1, i1, [], 0⟩, ⟨t2, i2, f2, 0⟩] scope pos) 0 (.ref I) (.ref acc) env) Q := by
  refine Cl.start ⟨_, .tail _ (.head _), .inl ⟨_, rfl⟩⟩ ⟨_, _, _, _, rfl, _, rfl, rfl⟩ ?_
  refine Cl.loop (n := ds.length) (fun n ρ' κ' O' => ∃ done rest, ds = done ++ rest ∧ n = rest.length ∧ ρ' = ρ ∧ κ' = κ ∧ O' = (acc, .list (done.flatMap fun d => (es d).filterMap (f d))) :: (I, .iter rest) :: W) (turn_two0 ..) ⟨_, _, _, _, rfl⟩ hp ⟨ρ, .refl, [], ds, rfl, rfl, rfl, rfl, rfl⟩ ?_
  rintro n ρ' κ' O' ⟨done, rest, hds, rfl, rfl, rfl, rfl⟩
  cases rest with
  | nil =>
    rw [List.append_nil] at hds; subst hds
    exact .stop hh (.tail _ (.head _)) (.there .here) q
  | cons d rest =>
    refine .item (.there .here) ((body d (by rw [hds]; simp) _).mono fun ρ₂ κ₂ O₂ hb => Ifs.nil ?_)
    obtain ⟨rfl, rfl, hf, hb⟩ := hb
    rw [if_pos rfl]
    refine Tl.inner hs (hb.mono fun d2 O₃ hb g s v ok i => (hb g s v ok i).mono fun I2 O₄ ⟨e, hb⟩ => ?_)
    subst e
    refine Cl.start ⟨_, .head _, .inl ⟨_, rfl⟩⟩ ⟨_, _, _, _, rfl, _, rfl, rfl⟩ ?_
    refine Cl.loop (n := (es d).length) (fun n ρ' κ' O' => ∃ done2 rest2, es d = done2 ++ rest2 ∧ n = rest2.length ∧ ρ' = ρ₂ ∧ κ' = κ₂ ∧ O' = (I2, .iter rest2) :: (acc, .list ((done.flatMap fun d => (es d).filterMap (f d)) ++ done2.filterMap (f d))) :: (I, .iter rest) :: W) (turn_two1 ..) ⟨_, _, _, _, rfl⟩ hp2 ⟨ρ₂, .refl, [], es d, rfl, rfl, rfl, rfl, by rw [List.filterMap_nil, List.append_nil]⟩ ?_
    rintro n ρ' κ' O' ⟨done2, rest2, hes, rfl, rfl, rfl, rfl⟩
    cases rest2 with
    | nil =>
      rw [List.append_nil] at hes; subst hes
      refine .stop hh (.head _) .here ⟨rest.length, _, _, Nat.lt_succ_self _, hf, OS.refl, done ++ [d], rest, by rw [hds]; simp, rfl, rfl, rfl, ?_⟩
      rw [List.flatMap_append]; simp
    | cons e rest2 =>
      refine .item .here ((hb e (by rw [hes]; simp) _).mono fun ρ₃ κ₃ O₃ hb => Ifs.mono hb fun b O₄ hb => ?_)
      cases b with
      | true =>
        rw [if_pos rfl] at hb ⊢
        refine Tl.emit (hb.mono fun x O₅ ⟨⟨e1, e2⟩, e3, e4⟩ => ?_)
        subst e1 e3
        refine ⟨_, _, .there .here, ?_, rest2.length, _, _, Nat.lt_succ_self _, e4, OS.refl, done2 ++ [e], rest2, by rw [hes]; simp, rfl, rfl, rfl, ?_⟩
        · refine Nat.le_trans ?_ hlen
          rw [hds, List.flatMap_append, List.flatMap_cons, hes, List.filterMap_append]
          simp only [List.length_append]
          omega
        · rw [List.filterMap_append, List.filterMap_cons, e2, List.filterMap_nil, List.append_assoc]
      | false =>
        rw [if_neg (by decide)] at hb ⊢
        obtain ⟨⟨e1, e2⟩, e3, e4⟩ := hb
        subst e1 e3
        refine ⟨rest2.length, _, _, Nat.lt_succ_self _, e4, OS.refl, done2 ++ [e], rest2, by rw [hes]; simp, rfl, rfl, rfl, ?_⟩
        rw [List.filterMap_append, List.filterMap_cons, e2]; simp
theorem Ev.compM2 {elt t1 i1 t2 i2 : Expr} {f2 : List Expr} {scope : Scope} {pos : Pos} {cl : List (Str × Addr)} (ρc κc : Rho) (es : D → List D) (f : D → D → Option D) {Q : D → Own → Prop} (hh : A.handled = none) (hp : PairT t1 = true) (hp2 : PairT t2 = true)
    (hclos : closureFor scope env = pure cl) (hkind : scope.kind = .function) (hnames : (scope.names.map (·.1)).Nodup) (hnc : (scope.names.all fun x => !(x.2 == .cell) && !(x.1 == ("__debug__" : Str))) = true)
    (hρ : rho0 scope.names [] = ρc) (hκ : CK env (relabel scope env) cl κ κc) (hs : ∀ x, foldedSetIterable i1 env x = pure x) (hs2 : ∀ L x, foldedSetIterable i2 (compEnvC scope cl L env) x = pure x)
    (h : Ev Γ A env ρ κ O i1 fun d O₁ => GetI Γ A O₁ d fun I O₂ => ∃ ds W, O₂ = (I, .iter ds) :: W ∧ (∀ L, ∀ d ∈ ds, BodyC2 Γ A (compEnvC scope cl L env) ρc κc t1 t2 i2 f2 elt d (es d) (f d)) ∧ (ds.flatMap fun d => (es d).filterMap (f d)).length ≤ sizeLine ∧ Q (.lst (ds.flatMap fun d => (es d).filterMap (f d))) W) :
    Ev Γ A env ρ κ O (.ListComp elt [⟨t1, i1, [], 0⟩, ⟨t2, i2, f2, 0⟩] scope pos) Q := by
  refine Ev.comp ρc κc hclos hkind hnames hnc hρ hκ hs (h.mono fun d O₁ h₁ g s v ok i => (h₁ g s v ok i).mono fun I O₂ ⟨ds, W, e, hb, hl, q⟩ => ?_)
  subst e
  exact ⟨⟨_, .head _, .inl ⟨_, rfl⟩⟩, fun acc L => Cl.map2 es f hh hp hp2 (hs2 L) (hb L) hl ⟨_, _, rfl, q⟩⟩
end
end Lw
end
section
set_option autoImplicit false
set_option linter.unusedVariables false
set_option Elab.async false
set_option maxRecDepth 100000
set_option maxHeartbeats 1000000
namespace Lw
open PySem PySem.Calls PyProof.Rows PySem.W
/-- the same, with more of the heap known -/
noncomputable abbrev Gam.more (Γ : Gam) (X : Frag) : Gam := ⟨Γ.prog, Γ.w, Γ.K ++ X, Γ.mg, Γ.mb, Γ.os⟩
theorem lookup_left {K X : Frag} {a : Addr} {o : Obj} (h : K.lookup a = some o) : (K ++ X).lookup a = some o := by
  rw [List.lookup_append, h]; rfl
theorem Gam.In.less {Γ : Gam} {X : Frag} {g : Heap} (h : (Γ.more X).In g) : Γ.In g := ⟨fun a o e => h.kin a o (lookup_left e), h.ng, h.nb, h.nl, h.boot⟩
theorem Okb.less' {Γ : Gam} {X : Frag} {g : Heap} {s : Shared} {O : Own} (h : Okb (Γ.more X) g s O) : Okb Γ g s O := ⟨h.keep, h.gam.less, h.own, h.nd, h.gens, h.os⟩
theorem Okb.more {Γ : Gam} {X : Frag} {g g' : Heap} {s' : Shared} {O : Own} (h : (Γ.more X).In g) (u : Sub g g') (k : Okb Γ g' s' O) : Okb (Γ.more X) g' s' O := ⟨k.keep, h.up u, k.own, k.nd, k.gens, k.os⟩
theorem Exs.tr {Γ : Gam} {X : Frag} {A : Around} {env : Env} {ρ κ : Rho} {O : Own} {t : Sem Flow} {Q : Fl → Rho → Rho → Own → Prop} (h : Exs Γ A env ρ κ O t Q) : Exs (Γ.more X) A env ρ κ O t Q := fun g s ok F =>
  wpAny_mono (h g s ok.less' F) (fun v s' ⟨g', ρ', κ', O', f, G, hf, q⟩ => ⟨g', ρ', κ', O', f, ⟨G.ok.more ok.gam G.to.up, G.fr, G.to, G.wi, G.ks⟩, hf, q⟩) fun _ _ e => e
section
variable {Γ : Gam} {A : Around} {env : Env} {ρ κ : Rho} {O : Own}
theorem inL_of_ints {g : Heap} : ∀ {vs : List Value} {ns : List Int}, IntsAre vs ns → InL g vs (ns.map .int)
  | _, _, .nil => .nil
  | _, _, .cons n t r => .cons (.int n t) (inL_of_ints r)
theorem Op2.sliceK {value slice : Expr} {l : Addr} {o : Obj} {vs : Array Value} {n : Nat} {ns : List Int} {lo hi st : Option Int} {Q : D → Own → Prop} (hk : Γ.K.lookup l = some o) (hc : o.cls = .type "list") (hd : o.data = .seq vs n) (hi' : IntsAre vs.toList ns) (h0 : st ≠ some 0) (hz : ns.length ≤ sizeLine) (q : Q (.lst (pickD (ns.map .int) lo hi st)) O)
    (hs : ∀ a b, ∃ ops, subscripted slice false (.ref a) (.ref b) = operate ops (getItem (.ref a) (.ref b))) : Op2 Γ A O (subscriptTail value slice) (.v (.ref l)) (.slc lo hi st) Q := fun g s v w ok i j => by
  cases i
  have r : InL g vs.toList (ns.map D.int) := inL_of_ints hi'
  have e : s.heap.get? l = some o := ok.keep _ _ (ok.gam.kin _ _ hk)
  cases j with
  | slc pl pu ps hsl =>
    rename_i b
    obtain ⟨ops, hs⟩ := hs l b
    have hsz : vs.size = ns.length := by have := r.length; rw [Array.length_toList, List.length_map] at this; exact this
    refine tail_any (T := "list") ⟨_, e, hc⟩ slot_list_getitem.lookup (wpAny_getItem_list_slice ⟨_, e, hc, _, hd⟩ ⟨_, ok.keep _ _ hsl, rfl, rfl⟩ (isPart_of pl) (isPart_of pu) (isPart_of ps) h0 ?_ (by rw [hsz]; exact hz)) hs
    obtain ⟨g', G, e'⟩ := Go.alloc (o := lstObj (slicePick vs (pl.map (·.1)) (pu.map (·.1)) (ps.map (·.1))) 0) ok rfl
    refine ⟨g', O, _, G, .lst e' ?_, q⟩
    unfold slicePick pickD
    rw [List.toList_toArray, hsz, List.length_map]
    have := (r.up G.to.up).pick (sliceRange (sliceBounds (pl.map (·.1)) (pu.map (·.1)) (ps.map (·.1)) ns.length).1 (sliceBounds (pl.map (·.1)) (pu.map (·.1)) (ps.map (·.1)) ns.length).2.1 (sliceBounds (pl.map (·.1)) (pu.map (·.1)) (ps.map (·.1)) ns.length).2.2)
    simpa using this
end
end Lw
end
section
set_option autoImplicit false
set_option linter.unusedVariables false
set_option Elab.async false
set_option maxRecDepth 100000
namespace Lw
open PySem PySem.Calls PyProof.Rows PySem.W
noncomputable abbrev Γ2 (w : World) (mg mb : Str → Option Value) (os : OsState) : Gam := ⟨PySem.Challenge.rw_pm0077_02.row.prog, w, hd_02.heap_1 w.params, mg, mb, os⟩
section
variable (w : World) (mg mb : Str → Option Value) (os : OsState)
theorem b_int : Bui (Γ2 w mg mb os) "int" (.type "int") := ⟨by kernel_rfl, Boot.«int», by decide +kernel, by decide +kernel⟩
theorem b_range : Bui (Γ2 w mg mb os) "range" (.type "range") := ⟨by kernel_rfl, Boot.«range», by decide +kernel, by decide +kernel⟩
theorem b_tuple : Bui (Γ2 w mg mb os) "tuple" (.type "tuple") := ⟨by kernel_rfl, Boot.«tuple», by decide +kernel, by decide +kernel⟩
theorem b_type : Bui (Γ2 w mg mb os) "type" (.type "type") := ⟨by kernel_rfl, Boot.«type», by decide +kernel, by decide +kernel⟩
theorem b_str : Bui (Γ2 w mg mb os) "str" (.type "str") := ⟨by kernel_rfl, Boot.«str», by decide +kernel, by decide +kernel⟩
theorem b_list : Bui (Γ2 w mg mb os) "list" (.type "list") := ⟨by kernel_rfl, Boot.«list», by decide +kernel, by decide +kernel⟩
theorem b_len : Bui (Γ2 w mg mb os) "len" (.builtin "len") := ⟨by kernel_rfl, Boot.«len», by decide +kernel, by decide +kernel⟩
theorem b_ord : Bui (Γ2 w mg mb os) "ord" (.builtin "ord") := ⟨by kernel_rfl, Boot.«ord», by decide +kernel, by decide +kernel⟩
theorem b_chr : Bui (Γ2 w mg mb os) "chr" (.builtin "chr") := ⟨by kernel_rfl, Boot.«chr», by decide +kernel, by decide +kernel⟩
theorem b_max : Bui (Γ2 w mg mb os) "max" (.builtin "max") := ⟨by kernel_rfl, Boot.«max», by decide +kernel, by decide +kernel⟩
theorem b_min : Bui (Γ2 w mg mb os) "min" (.builtin "min") := ⟨by kernel_rfl, Boot.«min», by decide +kernel, by decide +kernel⟩
theorem n_Whitespace : Glo (Γ2 w mg mb os) "Whitespace" (.ref 100) := ⟨by kernel_rfl, by decide +kernel⟩
theorem n_rgb_to_hsv : Glo (Γ2 w mg mb os) "rgb_to_hsv" (.ref 111) := ⟨by kernel_rfl, by decide +kernel⟩
theorem n_hsv_to_rgb : Glo (Γ2 w mg mb os) "hsv_to_rgb" (.ref 118) := ⟨by kernel_rfl, by decide +kernel⟩
theorem n__name_disallowed_re : Glo (Γ2 w mg mb os) "_name_disallowed_re" (.ref 123) := ⟨by kernel_rfl, by decide +kernel⟩
theorem n__value_disallowed_re : Glo (Γ2 w mg mb os) "_value_disallowed_re" (.ref 128) := ⟨by kernel_rfl, by decide +kernel⟩
theorem n_Headers : Glo (Γ2 w mg mb os) "Headers" (.ref 251) := ⟨by kernel_rfl, by decide +kernel⟩
theorem n__law_name : Glo (Γ2 w mg mb os) "_law_name" (.ref 262) := ⟨by kernel_rfl, by decide +kernel⟩
theorem n__law_place : Glo (Γ2 w mg mb os) "_law_place" (.ref 267) := ⟨by kernel_rfl, by decide +kernel⟩
theorem n__law_table : Glo (Γ2 w mg mb os) "_law_table" (.ref 272) := ⟨by kernel_rfl, by decide +kernel⟩
theorem n__law_taken : Glo (Γ2 w mg mb os) "_law_taken" (.ref 277) := ⟨by kernel_rfl, by decide +kernel⟩
theorem n__law_crossed : Glo (Γ2 w mg mb os) "_law_crossed" (.ref 282) := ⟨by kernel_rfl, by decide +kernel⟩
theorem n__law_lead : Glo (Γ2 w mg mb os) "_law_lead" (.ref 289) := ⟨by kernel_rfl, by decide +kernel⟩
theorem k_100 : Kp (Γ2 w mg mb os) (.ref 100) := Kp.fn (by kernel_rfl)
theorem k_111 : Kp (Γ2 w mg mb os) (.ref 111) := Kp.fn (by kernel_rfl)
theorem k_118 : Kp (Γ2 w mg mb os) (.ref 118) := Kp.fn (by kernel_rfl)
theorem k_251 : Kp (Γ2 w mg mb os) (.ref 251) := Kp.fn (by kernel_rfl)
theorem k_262 : Kp (Γ2 w mg mb os) (.ref 262) := Kp.fn (by kernel_rfl)
theorem k_267 : Kp (Γ2 w mg mb os) (.ref 267) := Kp.fn (by kernel_rfl)
theorem k_272 : Kp (Γ2 w mg mb os) (.ref 272) := Kp.fn (by kernel_rfl)
theorem k_277 : Kp (Γ2 w mg mb os) (.ref 277) := Kp.fn (by kernel_rfl)
theorem k_282 : Kp (Γ2 w mg mb os) (.ref 282) := Kp.fn (by kernel_rfl)
theorem k_289 : Kp (Γ2 w mg mb os) (.ref 289) := Kp.fn (by kernel_rfl)
theorem k_150 : Kp (Γ2 w mg mb os) (.ref 150) := Kp.fn (by kernel_rfl)
theorem k_198 : Kp (Γ2 w mg mb os) (.ref 198) := Kp.fn (by kernel_rfl)
theorem k_203 : Kp (Γ2 w mg mb os) (.ref 203) := Kp.fn (by kernel_rfl)
theorem k_69 : Kp (Γ2 w mg mb os) (.ref 69) := Kp.fn (by kernel_rfl)
theorem pg_100 (x : Str) : plainGet (Γ2 w mg mb os).K 100 x = true := by unfold plainGet; kernel_rfl
theorem hd_100 : hasDictIn (Γ2 w mg mb os).K 100 = true := by kernel_rfl
theorem mk_100 : makesIn (Γ2 w mg mb os).K 100 = true := by kernel_rfl
theorem sa_100 : findIn (Γ2 w mg mb os).K (.ref 100) "__setattr__" = some (some (.builtin "object.__setattr__")) := by kernel_rfl
theorem po_100 : plainOver (Γ2 w mg mb os).K 100 = true := by kernel_rfl
theorem pg_251 (x : Str) : plainGet (Γ2 w mg mb os).K 251 x = true := by unfold plainGet; kernel_rfl
theorem hd_251 : hasDictIn (Γ2 w mg mb os).K 251 = true := by kernel_rfl
theorem mk_251 : makesIn (Γ2 w mg mb os).K 251 = true := by kernel_rfl
theorem sa_251 : findIn (Γ2 w mg mb os).K (.ref 251) "__setattr__" = some (some (.builtin "object.__setattr__")) := by kernel_rfl
theorem po_251 : plainOver (Γ2 w mg mb os).K 251 = true := by kernel_rfl
theorem ns_251 : noSeq (Γ2 w mg mb os).K 251 = true := by kernel_rfl
theorem a_raw : findIn (Γ2 w mg mb os).K (.ref 100) "raw" = some none := by kernel_rfl
theorem t_raw : takerIn (Γ2 w mg mb os).K 100 "raw" = some none := by kernel_rfl
theorem t_n : takerIn (Γ2 w mg mb os).K 100 "n" = some none := by kernel_rfl
theorem a_nt : findIn (Γ2 w mg mb os).K (.ref 100) "nt" = some none := by kernel_rfl
theorem t_nt : takerIn (Γ2 w mg mb os).K 100 "nt" = some none := by kernel_rfl
theorem a_norm : findIn (Γ2 w mg mb os).K (.ref 100) "norm" = some none := by kernel_rfl
theorem t_norm : takerIn (Γ2 w mg mb os).K 100 "norm" = some none := by kernel_rfl
theorem t_is_simple : takerIn (Γ2 w mg mb os).K 100 "is_simple" = some none := by kernel_rfl
theorem a__headers : findIn (Γ2 w mg mb os).K (.ref 251) "_headers" = some none := by kernel_rfl
theorem t__headers : takerIn (Γ2 w mg mb os).K 251 "_headers" = some none := by kernel_rfl
theorem m_55 : findIn (Γ2 w mg mb os).K (.ref 100) "__init__" = some (some (.ref 55)) := by kernel_rfl
theorem ty_55 : typeIn (Γ2 w mg mb os).K (.ref 55) = some (.type "function") := by kernel_rfl
theorem m_69 : findIn (Γ2 w mg mb os).K (.ref 100) "indent_level" = some (some (.ref 69)) := by kernel_rfl
theorem ty_69 : typeIn (Γ2 w mg mb os).K (.ref 69) = some (.type "function") := by kernel_rfl
theorem m_143 : findIn (Γ2 w mg mb os).K (.ref 251) "__init__" = some (some (.ref 143)) := by kernel_rfl
theorem ty_143 : typeIn (Γ2 w mg mb os).K (.ref 143) = some (.type "function") := by kernel_rfl
theorem m_150 : findIn (Γ2 w mg mb os).K (.ref 251) "_convert_string_type" = some (some (.ref 150)) := by kernel_rfl
theorem ty_150 : typeIn (Γ2 w mg mb os).K (.ref 150) = some (.type "function") := by kernel_rfl
theorem m_164 : findIn (Γ2 w mg mb os).K (.ref 251) "__setitem__" = some (some (.ref 164)) := by kernel_rfl
theorem m_169 : findIn (Γ2 w mg mb os).K (.ref 251) "__delitem__" = some (some (.ref 169)) := by kernel_rfl
theorem m_198 : findIn (Γ2 w mg mb os).K (.ref 251) "get" = some (some (.ref 198)) := by kernel_rfl
theorem ty_198 : typeIn (Γ2 w mg mb os).K (.ref 198) = some (.type "function") := by kernel_rfl
theorem m_203 : findIn (Γ2 w mg mb os).K (.ref 251) "keys" = some (some (.ref 203)) := by kernel_rfl
theorem ty_203 : typeIn (Γ2 w mg mb os).K (.ref 203) = some (.type "function") := by kernel_rfl
end
end Lw
end
section
set_option autoImplicit false
set_option linter.unusedVariables false
set_option Elab.async false
set_option maxRecDepth 100000
namespace Lw
open PySem PySem.Calls PyProof.Rows PySem.W
noncomputable abbrev fOne : UInt64 := 4607182418800017408
noncomputable abbrev fSix : UInt64 := 4618441417868443648
noncomputable abbrev fTwo : UInt64 := 4611686018427387904
noncomputable abbrev fFour : UInt64 := 4616189618054758400
noncomputable abbrev fHalf : UInt64 := 4602678819172646912
noncomputable abbrev f255 : UInt64 := 4643176031446892544
theorem put0 {r : Rho} {x : Str} {od : Option D} {d : D} {P : Rho → Prop} (k : P ((x, some d) :: r)) : ∃ ρ', Put ((x, od) :: r) x d ρ' ∧ P ρ' := ⟨_, .here, k⟩
theorem putS {r : Rho} {x : Str} {p : Str × Option D} {d : D} {P : Rho → Prop} (k : ∃ ρ', Put r x d ρ' ∧ P (p :: ρ')) : ∃ ρ', Put (p :: r) x d ρ' ∧ P ρ' := let ⟨ρ', h, q⟩ := k; ⟨p :: ρ', .there h, q⟩
theorem ite_t {b : Bool} {P R : Prop} (h : b = true) (p : P) : if b = true then P else R := by rw [if_pos h]; exact p
theorem ite_f {b : Bool} {P R : Prop} (h : ¬ b = true) (p : R) : if b = true then P else R := by rw [if_neg h]; exact p
theorem fit3 {n : Nat} (h : n < 1000) : n < 2 ^ 1023 := Nat.lt_trans h (by decide +kernel)
theorem small_bits {a : Int} (h : a.natAbs < 4294967296) : Builtin.Int.intBits a ≤ 64 := by
  have h : a.natAbs < 2 ^ 32 := h
  unfold Builtin.Int.intBits
  split
  · omega
  · rename_i hz
    have := Nat.log2_lt (n := a.natAbs) (k := 32) (by simpa using hz)
    have h3 := this.mpr h
    omega
theorem mulOkL {a b : Int} (h : a.natAbs < 4294967296) : IntMulOk a b := .of_left (small_bits h)
theorem mulOkR {a b : Int} (h : b.natAbs < 4294967296) : IntMulOk a b := .of_right (small_bits h)
noncomputable def HQ (b : Bool) (P : Prop) : Prop := b = true ∧ P
theorem hq {b : Bool} {P : Prop} (h : b = true) (p : P) : HQ b P := ⟨h, p⟩
theorem fat0 {x : Str} {d : D} {r : List (Str × D)} {P : D → Prop} (k : P d) : ∃ e, FAt ((x, d) :: r) x e ∧ P e := ⟨_, .here, k⟩
theorem fatS {x y : Str} {d : D} {r : List (Str × D)} {P : D → Prop} (h : (y == x) = false) (k : ∃ e, FAt r x e ∧ P e) : ∃ e, FAt ((y, d) :: r) x e ∧ P e := let ⟨e, a, b⟩ := k; ⟨e, .there h a, b⟩
theorem As.tup2 {Γ : Gam} {A : Around} {env : Env} {ρ κ : Rho} {O : Own} {x y : Str} {p q pos : Pos} {k : Nat} {d e : D} {Q : Rho → Rho → Own → Prop} (hh : A.handled = none) (h : Asl Γ A env ρ κ O [assign (.Name x p) env, assign (.Name y q) env] [d, e] Q) : As Γ A env ρ κ O (assign (.Tuple [.Name x p, .Name y q] k pos) env) (.tup [d, e]) Q := As.tup hh rfl rfl rfl h
theorem oup0 {a : Addr} {c c' : Cont} {r : Own} {P : Own → Prop} (k : P ((a, c') :: r)) : ∃ O', OUp ((a, c) :: r) a c c' O' ∧ P O' := ⟨_, .here, k⟩
theorem oupS {a : Addr} {c c' : Cont} {p : Addr × Cont} {r : Own} {P : Own → Prop} (k : ∃ O', OUp r a c c' O' ∧ P (p :: O')) : ∃ O', OUp (p :: r) a c c' O' ∧ P O' := let ⟨O', h, q⟩ := k; ⟨p :: O', .there h, q⟩
theorem FAt.last {x : Str} {d : D} : ∀ {fs : List (Str × D)}, FNo fs x = true → FAt (fs ++ [(x, d)]) x d
  | [], _ => .here
  | p :: r, h => by
    unfold FNo at h
    rw [List.all_cons, Bool.and_eq_true] at h
    exact .there (by simpa using h.1) (FAt.last h.2)
theorem fatL {fs : List (Str × D)} {x : Str} {d : D} {P : D → Prop} (h : FNo fs x = true) (k : P d) : ∃ e, FAt (fs ++ [(x, d)]) x e ∧ P e := ⟨d, .last h, k⟩
theorem S1.swap2 {Γ : Gam} {A : Around} {env : Env} {ρ κ : Rho} {O : Own} {targets : List Expr} {value : Expr} {pos : Pos} {x y : Str} {Q : Fl → Rho → Rho → Own → Prop} (hh : A.handled = none)
    (h : Ev Γ A env ρ κ O value fun d O₁ => ∃ a b, d = .tup [a, b] ∧ Asl Γ A env ρ κ O₁ [fun v => bindName env y v, fun v => bindName env x v] [b, a] fun ρ' κ' O' => Q .next ρ' κ' O')
    (hs : swapsWithSole targets value pos.line env = pure false) (hw : swappedStores targets value env = pure (some [x, y])) : S1 Γ A env ρ κ O (.Assign targets value pos) Q :=
  S1.swap (names := [x, y]) hh (h.mono fun d O₁ ⟨a, b, e, q⟩ => ⟨[a, b], e, rfl, q⟩) rfl hs hw
theorem Exs.weak {Γ : Gam} {A : Around} {env : Env} {ρ ρ' κ : Rho} {O O' : Own} {t : Sem Flow} {Q : Fl → Rho → Rho → Own → Prop} (f : Fgt ρ ρ') (l : OS O' O) (h : Exs Γ A env ρ' κ O' t Q) : Exs Γ A env ρ κ O t Q := fun g s ok F => by
  have G := (Gs.ofGo F (Go.refl ok)).forget f l
  exact wpAny_mono (h g s G.ok G.fr) (fun v s₂ ⟨g₂, ρ₂, κ₂, O₂, f, G', hf, q⟩ => ⟨g₂, ρ₂, κ₂, O₂, f, G.trans G', hf, q⟩) fun _ _ e => e
theorem setLk {Γ : Gam} {A : Around} {O : Own} {a : Addr} {k : Int} {d : D} {ds : List D} {Q : Own → Prop} (h0 : 0 ≤ k) (h1 : k < ds.length) (h2 : k < 2 ^ 63) (m : (a, .list ds) ∈ O) (u : ∃ O', OUp O a (.list ds) (.list (ds.set k.toNat d)) O' ∧ Q O') : Op3 Γ A O setItem (.v (.ref a)) (.int k) d Q := let ⟨_, h, q⟩ := u; Op3.setL h0 h1 h2 h q
theorem S1.mono {Γ : Gam} {A : Around} {env : Env} {ρ κ : Rho} {O : Own} {st : Stmt} {Q Q' : Fl → Rho → Rho → Own → Prop} (h : S1 Γ A env ρ κ O st Q) (k : ∀ f ρ' κ' O', Q f ρ' κ' O' → Q' f ρ' κ' O') : S1 Γ A env ρ κ O st Q' := Exs.mono h k
theorem S1.as3n {Γ : Gam} {A : Around} {env : Env} {ρ κ : Rho} {O : Own} {t₁ t₂ t₃ value : Expr} {pos : Pos} {Q : Fl → Rho → Rho → Own → Prop} (h : Ev Γ A env ρ κ O value fun d O₁ => As Γ A env ρ κ O₁ (assign t₁ env) d fun ρ₂ κ₂ O₂ => As Γ A env ρ₂ κ₂ O₂ (assign t₂ env) d fun ρ₃ κ₃ O₃ => As Γ A env ρ₃ κ₃ O₃ (assign t₃ env) d fun ρ' κ' O' => Q .next ρ' κ' O')
    (he : (assignEach [t₁, t₂, t₃] env).map (·.2) = [assign t₁ env, assign t₂ env, assign t₃ env]) (hw : swappedStores [t₁, t₂, t₃] value env = pure none) : S1 Γ A env ρ κ O (.Assign [t₁, t₂, t₃] value pos) Q := S1.as3 (h.mono fun _ _ q _ _ => q) he hw
noncomputable def codeN : Array Nat := #[14, 10, 4, 1, 1, 22, 0, 31, 16, 127, 0, 13, 7, 22, 0, 31, 16, 127, 0, 1]
noncomputable def codeV : Array Nat := #[14, 14, 4, 1, 1, 9, 4294966783, 0, 0, 2147483648, 0, 0, 0, 0, 0, 13, 11, 9, 4294966783, 0, 0, 2147483648, 0, 0, 0, 0, 0, 1]
theorem pat123 (w : World) (mg mb : Str → Option Value) (os : OsState) : PatAt (Γ2 w mg mb os) 123 codeN := ⟨⟨_, _, _, _, _, _, _, _, rfl, rfl, by decide +kernel⟩⟩
theorem pat128 (w : World) (mg mb : Str → Option Value) (os : OsState) : PatAt (Γ2 w mg mb os) 128 codeV := ⟨⟨_, _, _, _, _, _, _, _, rfl, rfl, by decide +kernel⟩⟩
theorem Ca.app1 {Γ : Gam} {A : Around} {O : Own} {f : Value} {a : D} {ds : List D} {kws : List (Str × D)} {Q : D → Own → Prop} (h : Ca Γ A O f (a :: ds) kws Q) : Ca Γ A O f ([a] ++ ds) kws Q := h
theorem Ca.zip1 {Γ : Gam} {A : Around} {O : Own} {f : Value} {k : Str} {d : D} {ds : List D} {Q : D → Own → Prop} (h : Ca Γ A O f ds [(k, d)] Q) : Ca Γ A O f ds ([k].zip [d]) Q := h
inductive Has : Rho → Str → Prop
  | here {x : Str} {od : Option D} {r : Rho} : Has ((x, od) :: r) x
  | there {p : Str × Option D} {r : Rho} {x : Str} : Has r x → Has (p :: r) x
theorem asLk {Γ : Gam} {A : Around} {env : Env} {ρ κ : Rho} {O : Own} {Q : Fl → Rho → Rho → Own → Prop} {x : Str} {p1 pos : Pos} {value : Expr} (hm : Has ρ x) (h : Ev Γ A env ρ κ O value fun d O₁ => ∃ ρ', Put ρ x d ρ' ∧ Q .next ρ' κ O₁) (hs : swapsWith value (some (.Name x p1)) pos.line env = pure false) : S1 Γ A env ρ κ O (.Assign [.Name x p1] value pos) Q := S1.asL h hs
theorem locLk {Γ : Gam} {A : Around} {env : Env} {ρ κ : Rho} {O : Own} {x : Str} {pos : Pos} {d : D} {Q : Rho → Rho → Own → Prop} (hm : Has ρ x) (h : ∃ ρ', Put ρ x d ρ' ∧ Q ρ' κ O) : As Γ A env ρ κ O (assign (.Name x pos) env) d Q := As.loc h
theorem Str.len_app (a b : Str) : (a ++ b).length = a.length + b.length := by show (a.cps ++ b.cps).size = _; rw [Array.size_append]; rfl
theorem addS1 {Γ : Gam} {A : Around} {O : Own} {u : Str} {c : Nat} {Q : D → Own → Prop} (h : u.length < 1000000) (q : Q (.str (u ++ ⟨#[c]⟩)) O) : Op2 Γ A O (binaryOp .Add) (.str u) (.str ⟨#[c]⟩) Q := Op2.addS (by show u.length + 1 ≤ sizeLine; unfold sizeLine; omega) q
noncomputable def truthD : D → Option Bool
  | .bool b => some b
  | .int i => some (i != 0)
  | _ => none
theorem Tr.of {Γ : Gam} {A : Around} {O : Own} {d : D} {b : Bool} {Q : Bool → Own → Prop} (h : truthD d = some b) (q : Q b O) : Tr Γ A O d Q := by
  cases d <;> cases h
  · exact Tr.bool q
  · exact Tr.int q
theorem sgn (c k : Nat) : ((⟨#[c]⟩ : Str) == ⟨#[k]⟩) = (c == k) := by
  cases h : c == k with
  | true => rw [eq_of_beq h]; simp
  | false =>
    have : c ≠ k := beq_eq_false_iff_ne.mp h
    refine beq_eq_false_iff_ne.mpr fun e => this ?_
    have := congrArg (fun s : Str => s.cps.toList) e
    simpa using this
theorem spaceIs : (" " : Str) = ⟨#[32]⟩ := by decide +kernel
theorem tabIs : ("\t" : Str) = ⟨#[9]⟩ := by decide +kernel
theorem rangeSize_one (a b : Int) : Builtin.Range.rangeSize a b 1 = ((b - a).toNat : Int) := by
  unfold Builtin.Range.rangeSize
  rw [if_pos (by decide)]
  split
  · rw [Int.ediv_one]; omega
  · omega
theorem small_one {a b : Int} (ha : a.natAbs < 4294967296) (hb : b.natAbs < 4294967296) : Builtin.Range.small a b 1 = true := by
  have hr := rangeSize_one a b
  unfold Builtin.Range.small Builtin.Range.rangeFitsLong
  rw [hr]
  simp only [Bool.and_eq_true, decide_eq_true_eq, Bool.or_eq_true, gt_iff_lt]
  refine ⟨⟨⟨⟨⟨?_, ?_⟩, ⟨?_, ?_⟩⟩, ⟨?_, ?_⟩⟩, ⟨?_, ?_⟩⟩, .inr ?_⟩
  all_goals first | omega | (rw [if_pos (by decide)]; simp; omega)
theorem getI_range {Γ : Gam} {A : Around} {O : Own} {a b : Int} {K : Addr → Own → Prop} (ha : a.natAbs < 4294967296) (hb : b.natAbs < 4294967296) (q : ∀ I, K I ((I, .iter (rangeFrom a 1 (b - a).toNat)) :: O)) : GetI Γ A O (.rng a b 1) K := GetI.rng (small_one ha hb) (rangeSize_one a b) q
theorem fdiv_small {a b : Int} (h0 : 0 ≤ a) (h1 : a < 2147483648) (h2 : 0 < b) : (a.fdiv b).natAbs < 4294967296 := by
  have e : a.fdiv b = a / b := Int.fdiv_eq_ediv_of_nonneg _ (by omega)
  have e1 := Int.ediv_nonneg h0 (Int.le_of_lt h2)
  have e2 := Int.ediv_le_self b h0
  rw [e]; omega
section
variable {w : World} {mg mb : Str → Option Value} {os : OsState} {A : Around} {O : Own}
theorem attr100 {name : Str} {d : D} {fs : List (Str × D)} {Q : D → Own → Prop} (ha : findIn (Γ2 w mg mb os).K (.ref 100) name = some none) (o : ObjOf O d 100 fs) (k : ∃ e, FAt fs name e ∧ HQ (Handed e) (Q e O)) : GetA (Γ2 w mg mb os) A O name d Q := let ⟨_, f, h, q⟩ := k; GetA.own o f (pg_100 w mg mb os name) (hd_100 w mg mb os) ha rfl h q
theorem attr251 {name : Str} {d : D} {fs : List (Str × D)} {Q : D → Own → Prop} (ha : findIn (Γ2 w mg mb os).K (.ref 251) name = some none) (o : ObjOf O d 251 fs) (k : ∃ e, FAt fs name e ∧ HQ (Handed e) (Q e O)) : GetA (Γ2 w mg mb os) A O name d Q := let ⟨_, f, h, q⟩ := k; GetA.own o f (pg_251 w mg mb os name) (hd_251 w mg mb os) ha rfl h q
theorem set100 {name : Str} {x dx : Addr} {e : D} {fs : List (Str × D)} {Q : Own → Prop} (ht : takerIn (Γ2 w mg mb os).K 100 name = some none) (m : (x, .obj 100 dx) ∈ O) (md : (dx, .dict fs) ∈ O) (hf : FNo fs name = true) (hz : fs.length ≤ 1000) (k : ∃ O', OUp O dx (.dict fs) (.dict (fs ++ [(name, e)])) O' ∧ Q O') : SetA (Γ2 w mg mb os) A O name (.v (.ref x)) e Q := let ⟨_, u, q⟩ := k; SetA.own m u hf hz (sa_100 w mg mb os) (po_100 w mg mb os) ht (hd_100 w mg mb os) q
theorem set251 {name : Str} {x dx : Addr} {e : D} {fs : List (Str × D)} {Q : Own → Prop} (ht : takerIn (Γ2 w mg mb os).K 251 name = some none) (m : (x, .obj 251 dx) ∈ O) (md : (dx, .dict fs) ∈ O) (hf : FNo fs name = true) (hz : fs.length ≤ 1000) (k : ∃ O', OUp O dx (.dict fs) (.dict (fs ++ [(name, e)])) O' ∧ Q O') : SetA (Γ2 w mg mb os) A O name (.v (.ref x)) e Q := let ⟨_, u, q⟩ := k; SetA.own m u hf hz (sa_251 w mg mb os) (po_251 w mg mb os) ht (hd_251 w mg mb os) q
theorem clsStr {K : Frag} {C mc : Value} {name x : Str} (h : (match findCls K C mc name with | some (.val (.str y _)) => y == x | _ => false) = true) : ∃ t, findCls K C mc name = some (.val (.str x t)) := by
  split at h
  · rename_i y t e; rw [e, eq_of_beq h]; exact ⟨t, rfl⟩
  · cases h
theorem clsS100 : ∃ t, findCls (Γ2 w mg mb os).K (.ref 100) (.type "type") "S" = some (.val (.str " " t)) := clsStr (by kernel_rfl)
theorem clsT100 : ∃ t, findCls (Γ2 w mg mb os).K (.ref 100) (.type "type") "T" = some (.val (.str "\t" t)) := clsStr (by kernel_rfl)
theorem rd100 : readsIn (Γ2 w mg mb os).K 100 (.type "type") = true := by kernel_rfl
theorem getS100 {Q : D → Own → Prop} (q : Q (.str " ") O) : GetA (Γ2 w mg mb os) A O "S" (.v (.ref 100)) Q := let ⟨t, e⟩ := clsS100 (w := w) (mg := mg) (mb := mb) (os := os); GetA.cls rd100 e rfl (fun g => .str _ _) q
theorem getT100 {Q : D → Own → Prop} (q : Q (.str "\t") O) : GetA (Γ2 w mg mb os) A O "T" (.v (.ref 100)) Q := let ⟨t, e⟩ := clsT100 (w := w) (mg := mg) (mb := mb) (os := os); GetA.cls rd100 e rfl (fun g => .str _ _) q
theorem meth100 {name : Str} {f : Addr} {d : D} {fs : List (Str × D)} {K : Value → List D → Own → Prop} (hf : findIn (Γ2 w mg mb os).K (.ref 100) name = some (some (.ref f))) (ht : typeIn (Γ2 w mg mb os).K (.ref f) = some (.type "function")) (o : ObjOf O d 100 fs) (hs : FNo fs name = true) (q : K (.ref f) [d] O) : GetM (Γ2 w mg mb os) A O name d K := GetM.inst o hs (pg_100 w mg mb os name) hf ht q
theorem meth251 {name : Str} {f : Addr} {d : D} {fs : List (Str × D)} {K : Value → List D → Own → Prop} (hf : findIn (Γ2 w mg mb os).K (.ref 251) name = some (some (.ref f))) (ht : typeIn (Γ2 w mg mb os).K (.ref f) = some (.type "function")) (o : ObjOf O d 251 fs) (hs : FNo fs name = true) (q : K (.ref f) [d] O) : GetM (Γ2 w mg mb os) A O name d K := GetM.inst o hs (pg_251 w mg mb os name) hf ht q
end
end Lw
end
section
set_option autoImplicit false
set_option linter.unusedVariables false
set_option Elab.async false
set_option maxRecDepth 100000
set_option maxHeartbeats 1000000
namespace Lw
open PySem PySem.Calls PyProof.Rows PySem.W
theorem toPyL_map {α : Type} (f : α → D) (p : α → PyData) (h : ∀ a, toPy (f a) = some (p a)) : ∀ l : List α, toPyL (l.map f) = some (l.map p)
  | [] => by simp [toPyL]
  | a :: l => by simp [toPyL, h a, toPyL_map f p h l]
theorem canLayAll_map {α : Type} (p : α → PyData) (h : ∀ a, (p a).canLay0 = true) : ∀ l : List α, PyData.canLayAll0 (l.map p) = true
  | [] => by simp [PyData.canLayAll0]
  | a :: l => by simp [PyData.canLayAll0, h a, canLayAll_map p h l]
theorem depthAll_map {α : Type} (p : α → PyData) (h : ∀ a, (p a).depth ≤ 8) : ∀ l : List α, PyData.depthAll (l.map p) ≤ 8
  | [] => by simp [PyData.depthAll]
  | a :: l => by have := h a; have := depthAll_map p h l; simp only [List.map_cons, PyData.depthAll]; omega
theorem shaped_map {α : Type} (p : α → PyData) (h : ∀ a, (p a).canLay0 = true) (h2 : ∀ a, (p a).depth ≤ 8) (l : List α) : SeqAt.shaped (.list (l.map p)) = true := by
  have h3 := depthAll_map p h2 l
  have h4 := canLayAll_map p h l
  unfold SeqAt.shaped
  simp only [PyData.canLay0, PyData.depth, h4, Bool.true_and]
  exact decide_eq_true (by omega)
theorem eqvAll_self {α : Type} (p : α → PyData) (h : ∀ a, (p a).eqv (p a) = true) : ∀ l : List α, PyData.eqvAll (l.map p) (l.map p) = true
  | [] => by simp [PyData.eqvAll]
  | a :: l => by simp [PyData.eqvAll, h a, eqvAll_self p h l]
noncomputable abbrev prD (p : Int × Bool) : D := .tup [.int p.1, .bool p.2]
noncomputable abbrev prP (p : Int × Bool) : PyData := .tuple [.int p.1, .bool p.2]
theorem toPy_pr (p : Int × Bool) : toPy (prD p) = some (prP p) := by simp [toPy, toPyL]
theorem toPy_prs (l : List (Int × Bool)) : toPy (.lst (l.map prD)) = some (.list (l.map prP)) := by simp only [toPy, toPyL_map prD prP toPy_pr l, Option.map_some]
theorem shaped_prs (l : List (Int × Bool)) : SeqAt.shaped (.list (l.map prP)) = true := shaped_map _ (fun a => by simp [PyData.canLay0, PyData.canLayAll0]) (fun a => by simp [PyData.depth, PyData.depthAll]) l
theorem eqv_prs (l : List (Int × Bool)) : PyData.eqv (.list (l.map prP)) (.list (l.map prP)) = true := by
  simp only [PyData.eqv]; exact eqvAll_self _ (fun a => by simp [PyData.eqv, PyData.eqvAll]) l
theorem toPy_ints (l : List Int) : toPy (.lst (l.map .int)) = some (.list (l.map .int)) := by simp only [toPy, toPyL_map D.int PyData.int (fun a => by simp [toPy]) l, Option.map_some]
theorem shaped_ints (l : List Int) : SeqAt.shaped (.list (l.map .int)) = true := shaped_map _ (fun a => by simp [PyData.canLay0]) (fun a => by simp [PyData.depth]) l
section
variable {Γ : Gam} {A : Around} {env : Env} {ρ κ : Rho} {O : Own}
theorem Op2.eqEmpty {l : List Int} {Q : D → Own → Prop} (hu : A.units + 64 < cLine) (q : Q (.bool l.isEmpty) O) : Op2 Γ A O (compareOp .Eq) (.lst (l.map .int)) (.lst []) Q :=
  Op2.eqD (db := .list []) (toPy_ints l) (by simp [toPy, toPyL]) (shaped_ints l) (by decide) hu (by
    cases l with
    | nil => simpa [PyData.eqv, PyData.eqvAll] using q
    | cons a l => simpa [PyData.eqv, PyData.eqvAll] using q)
theorem Op2.neSame {l m : List (Int × Bool)} {Q : D → Own → Prop} (e : l = m) (hu : A.units + 64 < cLine) (q : Q (.bool false) O) : Op2 Γ A O (compareOp .NotEq) (.lst (l.map prD)) (.lst (m.map prD)) Q := by
  subst e
  exact Op2.neD (toPy_prs l) (toPy_prs l) (shaped_prs l) (shaped_prs l) hu (by rw [eqv_prs]; exact q)
theorem Op2.eqSame {l m : List (Int × Bool)} {Q : D → Own → Prop} (e : l = m) (hu : A.units + 64 < cLine) (q : Q (.bool true) O) : Op2 Γ A O (compareOp .Eq) (.lst (l.map prD)) (.lst (m.map prD)) Q := by
  subst e
  exact Op2.eqD (toPy_prs l) (toPy_prs l) (shaped_prs l) (shaped_prs l) hu (by rw [eqv_prs]; exact q)
end
end Lw
end
section
set_option autoImplicit false
set_option linter.unusedVariables false
set_option Elab.async false
set_option maxRecDepth 100000
set_option maxHeartbeats 4000000
namespace Lw
open PySem PySem.Calls PyProof.Rows PySem.W

section
variable (w : World) (mg mb : Str → Option Value) (os : OsState)
noncomputable def hsvPick (j : Int) (v p q t : UInt64) : Option (UInt64 × UInt64 × UInt64) :=
  if (j == 0) = true then some (v, t, p) else if (j == 1) = true then some (q, v, p) else if (j == 2) = true then some (p, v, t) else if (j == 3) = true then some (p, q, v) else if (j == 4) = true then some (t, p, v) else if (j == 5) = true then some (v, p, q) else none
noncomputable def hsvSpec (h s v : UInt64) : Option (UInt64 × UInt64 × UInt64) :=
  if (Float64.cmp s 0 == some .eq) = true then some (v, v, v) else
  (ftrunc (Float64.mul h fSix)).bind fun i =>
    if i.natAbs < 1000 then
      hsvPick (i.fmod 6) v (Float64.mul v (Float64.sub fOne s)) (Float64.mul v (Float64.sub fOne (Float64.mul s (Float64.sub (Float64.mul h fSix) (Float64.ofInt i)))))
        (Float64.mul v (Float64.sub fOne (Float64.mul s (Float64.sub fOne (Float64.sub (Float64.mul h fSix) (Float64.ofInt i))))))
    else none
theorem c_hsv (h s v a b c : UInt64) (e : hsvSpec h s v = some (a, b, c)) : Cal (Γ2 w mg mb os) 1 (.ref 118) [.flt h, .flt s, .flt v] [] [] fun d O' => O' = [] ∧ d = .tup [.flt a, .flt b, .flt c] := by
  refine Cal.intro (params := ["h", "s", "v"]) (bds := [.flt h, .flt s, .flt v]) [("h", some (.flt h)), ("s", some (.flt s)), ("v", some (.flt v)), ("i", none), ("f", none), ("p", none), ("q", none), ("t", none)] [] rfl (by kernel_rfl) rfl ⟨rfl, rfl, rfl, rfl, rfl, rfl⟩
    (fun g s vs ks ok iv ik => ?_) (by decide +kernel) (by decide +kernel) (by decide +kernel) (by decide +kernel) (by kernel_rfl) (by kernel_rfl) fun A L room => ?_
  · obtain ⟨x, y, z, rfl, i, j, k⟩ := iv.three
    exact ⟨[x, y, z], .of_eq (by kernel_rfl), iv⟩
  · unfold hsvSpec at e
    by_cases h0 : (Float64.cmp s 0 == some .eq) = true
    · rw [if_pos h0] at e
      cases e
      with_reducible refine Ss.cons ?_
      with_reducible refine S1.ite ?_
      (with_reducible refine' Te.cmp ?_ ?z3hm); (case z3hm => rfl)
      (with_reducible refine' Ev.loc ?z4h ?_); (case z4h => repeat (first | with_reducible exact List.mem_cons_self | with_reducible refine List.mem_cons_of_mem _ ?_))
      with_reducible refine Ev.flt ?_
      with_reducible refine Op2.eqF ?_
      with_reducible refine Tr.bool ?_
      with_reducible refine ite_t (by with_reducible assumption) ?_
      with_reducible refine Ss.cons ?_
      with_reducible refine S1.ret ?_
      with_reducible refine Ev.tup ?_
      (with_reducible refine' Evs.cons ?_ ?z12he); (case z12he => rfl)
      (with_reducible refine' Ev.loc ?z13h ?_); (case z13h => repeat (first | with_reducible exact List.mem_cons_self | with_reducible refine List.mem_cons_of_mem _ ?_))
      (with_reducible refine' Evs.cons ?_ ?z14he); (case z14he => rfl)
      (with_reducible refine' Ev.loc ?z15h ?_); (case z15h => repeat (first | with_reducible exact List.mem_cons_self | with_reducible refine List.mem_cons_of_mem _ ?_))
      (with_reducible refine' Evs.cons ?_ ?z16he); (case z16he => rfl)
      (with_reducible refine' Ev.loc ?z17h ?_); (case z17h => repeat (first | with_reducible exact List.mem_cons_self | with_reducible refine List.mem_cons_of_mem _ ?_))
      with_reducible refine Evs.nil ?_
      with_reducible refine And.intro (Nat.le_of_ble_eq_true rfl) ?_
      exact ⟨_, .ret, rfl, rfl⟩
    · rw [if_neg h0] at e
      obtain ⟨i, hi, e⟩ := Option.bind_eq_some_iff.mp e
      by_cases hz : i.natAbs < 1000
      · rw [if_pos hz] at e
        unfold hsvPick at e
        by_cases j0 : (i.fmod 6 == 0) = true
        · rw [if_pos j0] at e; cases e
          with_reducible refine Ss.cons ?_
          with_reducible refine S1.ite ?_
          (with_reducible refine' Te.cmp ?_ ?z22hm); (case z22hm => rfl)
          (with_reducible refine' Ev.loc ?z23h ?_); (case z23h => repeat (first | with_reducible exact List.mem_cons_self | with_reducible refine List.mem_cons_of_mem _ ?_))
          with_reducible refine Ev.flt ?_
          with_reducible refine Op2.eqF ?_
          with_reducible refine Tr.bool ?_
          with_reducible refine ite_f (by with_reducible assumption) ?_
          with_reducible refine Ss.nil ?_
          with_reducible refine Ss.cons ?_
          (with_reducible refine' asLk ?z30hm ?_ ?z30hs); (case z30hm => repeat (first | with_reducible exact Has.here | with_reducible refine Has.there ?_)); (case z30hs => rfl)
          (with_reducible refine' Ev.call ?_ ?z31hp); (case z31hp => intro _; rfl)
          (with_reducible refine' Ev.bui ?z32h ?_ ?z32hx); (case z32h => with_reducible exact b_int _ _ _ _); (case z32hx => kernel_rfl)
          (with_reducible refine' ⟨_, rfl, ?z33k, ?_⟩); (case z33k => with_reducible exact Kp.typ)
          (with_reducible refine' Evs.cons ?_ ?z34he); (case z34he => rfl)
          with_reducible refine Ev.bin ?_
          (with_reducible refine' Ev.loc ?z36h ?_); (case z36h => repeat (first | with_reducible exact List.mem_cons_self | with_reducible refine List.mem_cons_of_mem _ ?_))
          with_reducible refine Ev.flt ?_
          with_reducible refine Op2.mulF ?_
          with_reducible refine Evs.nil ?_
          with_reducible refine Ca.intF (by with_reducible assumption) ?_
          with_reducible refine putS ?_
          with_reducible refine putS ?_
          with_reducible refine putS ?_
          with_reducible refine put0 ?_
          with_reducible refine Ss.cons ?_
          (with_reducible refine' asLk ?z46hm ?_ ?z46hs); (case z46hm => repeat (first | with_reducible exact Has.here | with_reducible refine Has.there ?_)); (case z46hs => rfl)
          with_reducible refine Ev.bin ?_
          with_reducible refine Ev.bin ?_
          (with_reducible refine' Ev.loc ?z49h ?_); (case z49h => repeat (first | with_reducible exact List.mem_cons_self | with_reducible refine List.mem_cons_of_mem _ ?_))
          with_reducible refine Ev.flt ?_
          with_reducible refine Op2.mulF ?_
          (with_reducible refine' Ev.loc ?z52h ?_); (case z52h => repeat (first | with_reducible exact List.mem_cons_self | with_reducible refine List.mem_cons_of_mem _ ?_))
          with_reducible refine Op2.subFI (fit3 (by with_reducible assumption)) ?_
          with_reducible refine putS ?_
          with_reducible refine putS ?_
          with_reducible refine putS ?_
          with_reducible refine putS ?_
          with_reducible refine put0 ?_
          with_reducible refine Ss.cons ?_
          (with_reducible refine' asLk ?z60hm ?_ ?z60hs); (case z60hm => repeat (first | with_reducible exact Has.here | with_reducible refine Has.there ?_)); (case z60hs => rfl)
          with_reducible refine Ev.bin ?_
          (with_reducible refine' Ev.loc ?z62h ?_); (case z62h => repeat (first | with_reducible exact List.mem_cons_self | with_reducible refine List.mem_cons_of_mem _ ?_))
          with_reducible refine Ev.bin ?_
          with_reducible refine Ev.flt ?_
          (with_reducible refine' Ev.loc ?z65h ?_); (case z65h => repeat (first | with_reducible exact List.mem_cons_self | with_reducible refine List.mem_cons_of_mem _ ?_))
          with_reducible refine Op2.subF ?_
          with_reducible refine Op2.mulF ?_
          with_reducible refine putS ?_
          with_reducible refine putS ?_
          with_reducible refine putS ?_
          with_reducible refine putS ?_
          with_reducible refine putS ?_
          with_reducible refine put0 ?_
          with_reducible refine Ss.cons ?_
          (with_reducible refine' asLk ?z75hm ?_ ?z75hs); (case z75hm => repeat (first | with_reducible exact Has.here | with_reducible refine Has.there ?_)); (case z75hs => rfl)
          with_reducible refine Ev.bin ?_
          (with_reducible refine' Ev.loc ?z77h ?_); (case z77h => repeat (first | with_reducible exact List.mem_cons_self | with_reducible refine List.mem_cons_of_mem _ ?_))
          with_reducible refine Ev.bin ?_
          with_reducible refine Ev.flt ?_
          with_reducible refine Ev.bin ?_
          (with_reducible refine' Ev.loc ?z81h ?_); (case z81h => repeat (first | with_reducible exact List.mem_cons_self | with_reducible refine List.mem_cons_of_mem _ ?_))
          (with_reducible refine' Ev.loc ?z82h ?_); (case z82h => repeat (first | with_reducible exact List.mem_cons_self | with_reducible refine List.mem_cons_of_mem _ ?_))
          with_reducible refine Op2.mulF ?_
          with_reducible refine Op2.subF ?_
          with_reducible refine Op2.mulF ?_
          with_reducible refine putS ?_
          with_reducible refine putS ?_
          with_reducible refine putS ?_
          with_reducible refine putS ?_
          with_reducible refine putS ?_
          with_reducible refine putS ?_
          with_reducible refine put0 ?_
          with_reducible refine Ss.cons ?_
          (with_reducible refine' asLk ?z94hm ?_ ?z94hs); (case z94hm => repeat (first | with_reducible exact Has.here | with_reducible refine Has.there ?_)); (case z94hs => rfl)
          with_reducible refine Ev.bin ?_
          (with_reducible refine' Ev.loc ?z96h ?_); (case z96h => repeat (first | with_reducible exact List.mem_cons_self | with_reducible refine List.mem_cons_of_mem _ ?_))
          with_reducible refine Ev.bin ?_
          with_reducible refine Ev.flt ?_
          with_reducible refine Ev.bin ?_
          (with_reducible refine' Ev.loc ?z100h ?_); (case z100h => repeat (first | with_reducible exact List.mem_cons_self | with_reducible refine List.mem_cons_of_mem _ ?_))
          with_reducible refine Ev.bin ?_
          with_reducible refine Ev.flt ?_
          (with_reducible refine' Ev.loc ?z103h ?_); (case z103h => repeat (first | with_reducible exact List.mem_cons_self | with_reducible refine List.mem_cons_of_mem _ ?_))
          with_reducible refine Op2.subF ?_
          with_reducible refine Op2.mulF ?_
          with_reducible refine Op2.subF ?_
          with_reducible refine Op2.mulF ?_
          with_reducible refine putS ?_
          with_reducible refine putS ?_
          with_reducible refine putS ?_
          with_reducible refine putS ?_
          with_reducible refine putS ?_
          with_reducible refine putS ?_
          with_reducible refine putS ?_
          with_reducible refine put0 ?_
          with_reducible refine Ss.cons ?_
          (with_reducible refine' asLk ?z117hm ?_ ?z117hs); (case z117hm => repeat (first | with_reducible exact Has.here | with_reducible refine Has.there ?_)); (case z117hs => rfl)
          with_reducible refine Ev.bin ?_
          (with_reducible refine' Ev.loc ?z119h ?_); (case z119h => repeat (first | with_reducible exact List.mem_cons_self | with_reducible refine List.mem_cons_of_mem _ ?_))
          with_reducible refine Ev.int ?_
          (with_reducible refine' Op2.modI ?z121h ?_); (case z121h => decide)
          with_reducible refine putS ?_
          with_reducible refine putS ?_
          with_reducible refine putS ?_
          with_reducible refine put0 ?_
          with_reducible refine Ss.cons ?_
          with_reducible refine S1.ite ?_
          (with_reducible refine' Te.cmp ?_ ?z128hm); (case z128hm => rfl)
          (with_reducible refine' Ev.loc ?z129h ?_); (case z129h => repeat (first | with_reducible exact List.mem_cons_self | with_reducible refine List.mem_cons_of_mem _ ?_))
          with_reducible refine Ev.int ?_
          with_reducible refine Op2.eqI ?_
          with_reducible refine Tr.bool ?_
          with_reducible refine ite_t (by with_reducible assumption) ?_
          with_reducible refine Ss.cons ?_
          with_reducible refine S1.ret ?_
          with_reducible refine Ev.tup ?_
          (with_reducible refine' Evs.cons ?_ ?z137he); (case z137he => rfl)
          (with_reducible refine' Ev.loc ?z138h ?_); (case z138h => repeat (first | with_reducible exact List.mem_cons_self | with_reducible refine List.mem_cons_of_mem _ ?_))
          (with_reducible refine' Evs.cons ?_ ?z139he); (case z139he => rfl)
          (with_reducible refine' Ev.loc ?z140h ?_); (case z140h => repeat (first | with_reducible exact List.mem_cons_self | with_reducible refine List.mem_cons_of_mem _ ?_))
          (with_reducible refine' Evs.cons ?_ ?z141he); (case z141he => rfl)
          (with_reducible refine' Ev.loc ?z142h ?_); (case z142h => repeat (first | with_reducible exact List.mem_cons_self | with_reducible refine List.mem_cons_of_mem _ ?_))
          with_reducible refine Evs.nil ?_
          with_reducible refine And.intro (Nat.le_of_ble_eq_true rfl) ?_
          exact ⟨_, .ret, rfl, rfl⟩
        rw [if_neg j0] at e
        by_cases j1 : (i.fmod 6 == 1) = true
        · rw [if_pos j1] at e; cases e
          with_reducible refine Ss.cons ?_
          with_reducible refine S1.ite ?_
          (with_reducible refine' Te.cmp ?_ ?z147hm); (case z147hm => rfl)
          (with_reducible refine' Ev.loc ?z148h ?_); (case z148h => repeat (first | with_reducible exact List.mem_cons_self | with_reducible refine List.mem_cons_of_mem _ ?_))
          with_reducible refine Ev.flt ?_
          with_reducible refine Op2.eqF ?_
          with_reducible refine Tr.bool ?_
          with_reducible refine ite_f (by with_reducible assumption) ?_
          with_reducible refine Ss.nil ?_
          with_reducible refine Ss.cons ?_
          (with_reducible refine' asLk ?z155hm ?_ ?z155hs); (case z155hm => repeat (first | with_reducible exact Has.here | with_reducible refine Has.there ?_)); (case z155hs => rfl)
          (with_reducible refine' Ev.call ?_ ?z156hp); (case z156hp => intro _; rfl)
          (with_reducible refine' Ev.bui ?z157h ?_ ?z157hx); (case z157h => with_reducible exact b_int _ _ _ _); (case z157hx => kernel_rfl)
          (with_reducible refine' ⟨_, rfl, ?z158k, ?_⟩); (case z158k => with_reducible exact Kp.typ)
          (with_reducible refine' Evs.cons ?_ ?z159he); (case z159he => rfl)
          with_reducible refine Ev.bin ?_
          (with_reducible refine' Ev.loc ?z161h ?_); (case z161h => repeat (first | with_reducible exact List.mem_cons_self | with_reducible refine List.mem_cons_of_mem _ ?_))
          with_reducible refine Ev.flt ?_
          with_reducible refine Op2.mulF ?_
          with_reducible refine Evs.nil ?_
          with_reducible refine Ca.intF (by with_reducible assumption) ?_
          with_reducible refine putS ?_
          with_reducible refine putS ?_
          with_reducible refine putS ?_
          with_reducible refine put0 ?_
          with_reducible refine Ss.cons ?_
          (with_reducible refine' asLk ?z171hm ?_ ?z171hs); (case z171hm => repeat (first | with_reducible exact Has.here | with_reducible refine Has.there ?_)); (case z171hs => rfl)
          with_reducible refine Ev.bin ?_
          with_reducible refine Ev.bin ?_
          (with_reducible refine' Ev.loc ?z174h ?_); (case z174h => repeat (first | with_reducible exact List.mem_cons_self | with_reducible refine List.mem_cons_of_mem _ ?_))
          with_reducible refine Ev.flt ?_
          with_reducible refine Op2.mulF ?_
          (with_reducible refine' Ev.loc ?z177h ?_); (case z177h => repeat (first | with_reducible exact List.mem_cons_self | with_reducible refine List.mem_cons_of_mem _ ?_))
          with_reducible refine Op2.subFI (fit3 (by with_reducible assumption)) ?_
          with_reducible refine putS ?_
          with_reducible refine putS ?_
          with_reducible refine putS ?_
          with_reducible refine putS ?_
          with_reducible refine put0 ?_
          with_reducible refine Ss.cons ?_
          (with_reducible refine' asLk ?z185hm ?_ ?z185hs); (case z185hm => repeat (first | with_reducible exact Has.here | with_reducible refine Has.there ?_)); (case z185hs => rfl)
          with_reducible refine Ev.bin ?_
          (with_reducible refine' Ev.loc ?z187h ?_); (case z187h => repeat (first | with_reducible exact List.mem_cons_self | with_reducible refine List.mem_cons_of_mem _ ?_))
          with_reducible refine Ev.bin ?_
          with_reducible refine Ev.flt ?_
          (with_reducible refine' Ev.loc ?z190h ?_); (case z190h => repeat (first | with_reducible exact List.mem_cons_self | with_reducible refine List.mem_cons_of_mem _ ?_))
          with_reducible refine Op2.subF ?_
          with_reducible refine Op2.mulF ?_
          with_reducible refine putS ?_
          with_reducible refine putS ?_
          with_reducible refine putS ?_
          with_reducible refine putS ?_
          with_reducible refine putS ?_
          with_reducible refine put0 ?_
          with_reducible refine Ss.cons ?_
          (with_reducible refine' asLk ?z200hm ?_ ?z200hs); (case z200hm => repeat (first | with_reducible exact Has.here | with_reducible refine Has.there ?_)); (case z200hs => rfl)
          with_reducible refine Ev.bin ?_
          (with_reducible refine' Ev.loc ?z202h ?_); (case z202h => repeat (first | with_reducible exact List.mem_cons_self | with_reducible refine List.mem_cons_of_mem _ ?_))
          with_reducible refine Ev.bin ?_
          with_reducible refine Ev.flt ?_
          with_reducible refine Ev.bin ?_
          (with_reducible refine' Ev.loc ?z206h ?_); (case z206h => repeat (first | with_reducible exact List.mem_cons_self | with_reducible refine List.mem_cons_of_mem _ ?_))
          (with_reducible refine' Ev.loc ?z207h ?_); (case z207h => repeat (first | with_reducible exact List.mem_cons_self | with_reducible refine List.mem_cons_of_mem _ ?_))
          with_reducible refine Op2.mulF ?_
          with_reducible refine Op2.subF ?_
          with_reducible refine Op2.mulF ?_
          with_reducible refine putS ?_
          with_reducible refine putS ?_
          with_reducible refine putS ?_
          with_reducible refine putS ?_
          with_reducible refine putS ?_
          with_reducible refine putS ?_
          with_reducible refine put0 ?_
          with_reducible refine Ss.cons ?_
          (with_reducible refine' asLk ?z219hm ?_ ?z219hs); (case z219hm => repeat (first | with_reducible exact Has.here | with_reducible refine Has.there ?_)); (case z219hs => rfl)
          with_reducible refine Ev.bin ?_
          (with_reducible refine' Ev.loc ?z221h ?_); (case z221h => repeat (first | with_reducible exact List.mem_cons_self | with_reducible refine List.mem_cons_of_mem _ ?_))
          with_reducible refine Ev.bin ?_
          with_reducible refine Ev.flt ?_
          with_reducible refine Ev.bin ?_
          (with_reducible refine' Ev.loc ?z225h ?_); (case z225h => repeat (first | with_reducible exact List.mem_cons_self | with_reducible refine List.mem_cons_of_mem _ ?_))
          with_reducible refine Ev.bin ?_
          with_reducible refine Ev.flt ?_
          (with_reducible refine' Ev.loc ?z228h ?_); (case z228h => repeat (first | with_reducible exact List.mem_cons_self | with_reducible refine List.mem_cons_of_mem _ ?_))
          with_reducible refine Op2.subF ?_
          with_reducible refine Op2.mulF ?_
          with_reducible refine Op2.subF ?_
          with_reducible refine Op2.mulF ?_
          with_reducible refine putS ?_
          with_reducible refine putS ?_
          with_reducible refine putS ?_
          with_reducible refine putS ?_
          with_reducible refine putS ?_
          with_reducible refine putS ?_
          with_reducible refine putS ?_
          with_reducible refine put0 ?_
          with_reducible refine Ss.cons ?_
          (with_reducible refine' asLk ?z242hm ?_ ?z242hs); (case z242hm => repeat (first | with_reducible exact Has.here | with_reducible refine Has.there ?_)); (case z242hs => rfl)
          with_reducible refine Ev.bin ?_
          (with_reducible refine' Ev.loc ?z244h ?_); (case z244h => repeat (first | with_reducible exact List.mem_cons_self | with_reducible refine List.mem_cons_of_mem _ ?_))
          with_reducible refine Ev.int ?_
          (with_reducible refine' Op2.modI ?z246h ?_); (case z246h => decide)
          with_reducible refine putS ?_
          with_reducible refine putS ?_
          with_reducible refine putS ?_
          with_reducible refine put0 ?_
          with_reducible refine Ss.cons ?_
          with_reducible refine S1.ite ?_
          (with_reducible refine' Te.cmp ?_ ?z253hm); (case z253hm => rfl)
          (with_reducible refine' Ev.loc ?z254h ?_); (case z254h => repeat (first | with_reducible exact List.mem_cons_self | with_reducible refine List.mem_cons_of_mem _ ?_))
          with_reducible refine Ev.int ?_
          with_reducible refine Op2.eqI ?_
          with_reducible refine Tr.bool ?_
          with_reducible refine ite_f (by with_reducible assumption) ?_
          with_reducible refine Ss.nil ?_
          with_reducible refine Ss.cons ?_
          with_reducible refine S1.ite ?_
          (with_reducible refine' Te.cmp ?_ ?z262hm); (case z262hm => rfl)
          (with_reducible refine' Ev.loc ?z263h ?_); (case z263h => repeat (first | with_reducible exact List.mem_cons_self | with_reducible refine List.mem_cons_of_mem _ ?_))
          with_reducible refine Ev.int ?_
          with_reducible refine Op2.eqI ?_
          with_reducible refine Tr.bool ?_
          with_reducible refine ite_t (by with_reducible assumption) ?_
          with_reducible refine Ss.cons ?_
          with_reducible refine S1.ret ?_
          with_reducible refine Ev.tup ?_
          (with_reducible refine' Evs.cons ?_ ?z271he); (case z271he => rfl)
          (with_reducible refine' Ev.loc ?z272h ?_); (case z272h => repeat (first | with_reducible exact List.mem_cons_self | with_reducible refine List.mem_cons_of_mem _ ?_))
          (with_reducible refine' Evs.cons ?_ ?z273he); (case z273he => rfl)
          (with_reducible refine' Ev.loc ?z274h ?_); (case z274h => repeat (first | with_reducible exact List.mem_cons_self | with_reducible refine List.mem_cons_of_mem _ ?_))
          (with_reducible refine' Evs.cons ?_ ?z275he); (case z275he => rfl)
          (with_reducible refine' Ev.loc ?z276h ?_); (case z276h => repeat (first | with_reducible exact List.mem_cons_self | with_reducible refine List.mem_cons_of_mem _ ?_))
          with_reducible refine Evs.nil ?_
          with_reducible refine And.intro (Nat.le_of_ble_eq_true rfl) ?_
          exact ⟨_, .ret, rfl, rfl⟩
        rw [if_neg j1] at e
        by_cases j2 : (i.fmod 6 == 2) = true
        · rw [if_pos j2] at e; cases e
          with_reducible refine Ss.cons ?_
          with_reducible refine S1.ite ?_
          (with_reducible refine' Te.cmp ?_ ?z281hm); (case z281hm => rfl)
          (with_reducible refine' Ev.loc ?z282h ?_); (case z282h => repeat (first | with_reducible exact List.mem_cons_self | with_reducible refine List.mem_cons_of_mem _ ?_))
          with_reducible refine Ev.flt ?_
          with_reducible refine Op2.eqF ?_
          with_reducible refine Tr.bool ?_
          with_reducible refine ite_f (by with_reducible assumption) ?_
          with_reducible refine Ss.nil ?_
          with_reducible refine Ss.cons ?_
          (with_reducible refine' asLk ?z289hm ?_ ?z289hs); (case z289hm => repeat (first | with_reducible exact Has.here | with_reducible refine Has.there ?_)); (case z289hs => rfl)
          (with_reducible refine' Ev.call ?_ ?z290hp); (case z290hp => intro _; rfl)
          (with_reducible refine' Ev.bui ?z291h ?_ ?z291hx); (case z291h => with_reducible exact b_int _ _ _ _); (case z291hx => kernel_rfl)
          (with_reducible refine' ⟨_, rfl, ?z292k, ?_⟩); (case z292k => with_reducible exact Kp.typ)
          (with_reducible refine' Evs.cons ?_ ?z293he); (case z293he => rfl)
          with_reducible refine Ev.bin ?_
          (with_reducible refine' Ev.loc ?z295h ?_); (case z295h => repeat (first | with_reducible exact List.mem_cons_self | with_reducible refine List.mem_cons_of_mem _ ?_))
          with_reducible refine Ev.flt ?_
          with_reducible refine Op2.mulF ?_
          with_reducible refine Evs.nil ?_
          with_reducible refine Ca.intF (by with_reducible assumption) ?_
          with_reducible refine putS ?_
          with_reducible refine putS ?_
          with_reducible refine putS ?_
          with_reducible refine put0 ?_
          with_reducible refine Ss.cons ?_
          (with_reducible refine' asLk ?z305hm ?_ ?z305hs); (case z305hm => repeat (first | with_reducible exact Has.here | with_reducible refine Has.there ?_)); (case z305hs => rfl)
          with_reducible refine Ev.bin ?_
          with_reducible refine Ev.bin ?_
          (with_reducible refine' Ev.loc ?z308h ?_); (case z308h => repeat (first | with_reducible exact List.mem_cons_self | with_reducible refine List.mem_cons_of_mem _ ?_))
          with_reducible refine Ev.flt ?_
          with_reducible refine Op2.mulF ?_
          (with_reducible refine' Ev.loc ?z311h ?_); (case z311h => repeat (first | with_reducible exact List.mem_cons_self | with_reducible refine List.mem_cons_of_mem _ ?_))
          with_reducible refine Op2.subFI (fit3 (by with_reducible assumption)) ?_
          with_reducible refine putS ?_
          with_reducible refine putS ?_
          with_reducible refine putS ?_
          with_reducible refine putS ?_
          with_reducible refine put0 ?_
          with_reducible refine Ss.cons ?_
          (with_reducible refine' asLk ?z319hm ?_ ?z319hs); (case z319hm => repeat (first | with_reducible exact Has.here | with_reducible refine Has.there ?_)); (case z319hs => rfl)
          with_reducible refine Ev.bin ?_
          (with_reducible refine' Ev.loc ?z321h ?_); (case z321h => repeat (first | with_reducible exact List.mem_cons_self | with_reducible refine List.mem_cons_of_mem _ ?_))
          with_reducible refine Ev.bin ?_
          with_reducible refine Ev.flt ?_
          (with_reducible refine' Ev.loc ?z324h ?_); (case z324h => repeat (first | with_reducible exact List.mem_cons_self | with_reducible refine List.mem_cons_of_mem _ ?_))
          with_reducible refine Op2.subF ?_
          with_reducible refine Op2.mulF ?_
          with_reducible refine putS ?_
          with_reducible refine putS ?_
          with_reducible refine putS ?_
          with_reducible refine putS ?_
          with_reducible refine putS ?_
          with_reducible refine put0 ?_
          with_reducible refine Ss.cons ?_
          (with_reducible refine' asLk ?z334hm ?_ ?z334hs); (case z334hm => repeat (first | with_reducible exact Has.here | with_reducible refine Has.there ?_)); (case z334hs => rfl)
          with_reducible refine Ev.bin ?_
          (with_reducible refine' Ev.loc ?z336h ?_); (case z336h => repeat (first | with_reducible exact List.mem_cons_self | with_reducible refine List.mem_cons_of_mem _ ?_))
          with_reducible refine Ev.bin ?_
          with_reducible refine Ev.flt ?_
          with_reducible refine Ev.bin ?_
          (with_reducible refine' Ev.loc ?z340h ?_); (case z340h => repeat (first | with_reducible exact List.mem_cons_self | with_reducible refine List.mem_cons_of_mem _ ?_))
          (with_reducible refine' Ev.loc ?z341h ?_); (case z341h => repeat (first | with_reducible exact List.mem_cons_self | with_reducible refine List.mem_cons_of_mem _ ?_))
          with_reducible refine Op2.mulF ?_
          with_reducible refine Op2.subF ?_
          with_reducible refine Op2.mulF ?_
          with_reducible refine putS ?_
          with_reducible refine putS ?_
          with_reducible refine putS ?_
          with_reducible refine putS ?_
          with_reducible refine putS ?_
          with_reducible refine putS ?_
          with_reducible refine put0 ?_
          with_reducible refine Ss.cons ?_
          (with_reducible refine' asLk ?z353hm ?_ ?z353hs); (case z353hm => repeat (first | with_reducible exact Has.here | with_reducible refine Has.there ?_)); (case z353hs => rfl)
          with_reducible refine Ev.bin ?_
          (with_reducible refine' Ev.loc ?z355h ?_); (case z355h => repeat (first | with_reducible exact List.mem_cons_self | with_reducible refine List.mem_cons_of_mem _ ?_))
          with_reducible refine Ev.bin ?_
          with_reducible refine Ev.flt ?_
          with_reducible refine Ev.bin ?_
          (with_reducible refine' Ev.loc ?z359h ?_); (case z359h => repeat (first | with_reducible exact List.mem_cons_self | with_reducible refine List.mem_cons_of_mem _ ?_))
          with_reducible refine Ev.bin ?_
          with_reducible refine Ev.flt ?_
          (with_reducible refine' Ev.loc ?z362h ?_); (case z362h => repeat (first | with_reducible exact List.mem_cons_self | with_reducible refine List.mem_cons_of_mem _ ?_))
          with_reducible refine Op2.subF ?_
          with_reducible refine Op2.mulF ?_
          with_reducible refine Op2.subF ?_
          with_reducible refine Op2.mulF ?_
          with_reducible refine putS ?_
          with_reducible refine putS ?_
          with_reducible refine putS ?_
          with_reducible refine putS ?_
          with_reducible refine putS ?_
          with_reducible refine putS ?_
          with_reducible refine putS ?_
          with_reducible refine put0 ?_
          with_reducible refine Ss.cons ?_
          (with_reducible refine' asLk ?z376hm ?_ ?z376hs); (case z376hm => repeat (first | with_reducible exact Has.here | with_reducible refine Has.there ?_)); (case z376hs => rfl)
          with_reducible refine Ev.bin ?_
          (with_reducible refine' Ev.loc ?z378h ?_); (case z378h => repeat (first | with_reducible exact List.mem_cons_self | with_reducible refine List.mem_cons_of_mem _ ?_))
          with_reducible refine Ev.int ?_
          (with_reducible refine' Op2.modI ?z380h ?_); (case z380h => decide)
          with_reducible refine putS ?_
          with_reducible refine putS ?_
          with_reducible refine putS ?_
          with_reducible refine put0 ?_
          with_reducible refine Ss.cons ?_
          with_reducible refine S1.ite ?_
          (with_reducible refine' Te.cmp ?_ ?z387hm); (case z387hm => rfl)
          (with_reducible refine' Ev.loc ?z388h ?_); (case z388h => repeat (first | with_reducible exact List.mem_cons_self | with_reducible refine List.mem_cons_of_mem _ ?_))
          with_reducible refine Ev.int ?_
          with_reducible refine Op2.eqI ?_
          with_reducible refine Tr.bool ?_
          with_reducible refine ite_f (by with_reducible assumption) ?_
          with_reducible refine Ss.nil ?_
          with_reducible refine Ss.cons ?_
          with_reducible refine S1.ite ?_
          (with_reducible refine' Te.cmp ?_ ?z396hm); (case z396hm => rfl)
          (with_reducible refine' Ev.loc ?z397h ?_); (case z397h => repeat (first | with_reducible exact List.mem_cons_self | with_reducible refine List.mem_cons_of_mem _ ?_))
          with_reducible refine Ev.int ?_
          with_reducible refine Op2.eqI ?_
          with_reducible refine Tr.bool ?_
          with_reducible refine ite_f (by with_reducible assumption) ?_
          with_reducible refine Ss.nil ?_
          with_reducible refine Ss.cons ?_
          with_reducible refine S1.ite ?_
          (with_reducible refine' Te.cmp ?_ ?z405hm); (case z405hm => rfl)
          (with_reducible refine' Ev.loc ?z406h ?_); (case z406h => repeat (first | with_reducible exact List.mem_cons_self | with_reducible refine List.mem_cons_of_mem _ ?_))
          with_reducible refine Ev.int ?_
          with_reducible refine Op2.eqI ?_
          with_reducible refine Tr.bool ?_
          with_reducible refine ite_t (by with_reducible assumption) ?_
          with_reducible refine Ss.cons ?_
          with_reducible refine S1.ret ?_
          with_reducible refine Ev.tup ?_
          (with_reducible refine' Evs.cons ?_ ?z414he); (case z414he => rfl)
          (with_reducible refine' Ev.loc ?z415h ?_); (case z415h => repeat (first | with_reducible exact List.mem_cons_self | with_reducible refine List.mem_cons_of_mem _ ?_))
          (with_reducible refine' Evs.cons ?_ ?z416he); (case z416he => rfl)
          (with_reducible refine' Ev.loc ?z417h ?_); (case z417h => repeat (first | with_reducible exact List.mem_cons_self | with_reducible refine List.mem_cons_of_mem _ ?_))
          (with_reducible refine' Evs.cons ?_ ?z418he); (case z418he => rfl)
          (with_reducible refine' Ev.loc ?z419h ?_); (case z419h => repeat (first | with_reducible exact List.mem_cons_self | with_reducible refine List.mem_cons_of_mem _ ?_))
          with_reducible refine Evs.nil ?_
          with_reducible refine And.intro (Nat.le_of_ble_eq_true rfl) ?_
          exact ⟨_, .ret, rfl, rfl⟩
        rw [if_neg j2] at e
        by_cases j3 : (i.fmod 6 == 3) = true
        · rw [if_pos j3] at e; cases e
          with_reducible refine Ss.cons ?_
          with_reducible refine S1.ite ?_
          (with_reducible refine' Te.cmp ?_ ?z424hm); (case z424hm => rfl)
          (with_reducible refine' Ev.loc ?z425h ?_); (case z425h => repeat (first | with_reducible exact List.mem_cons_self | with_reducible refine List.mem_cons_of_mem _ ?_))
          with_reducible refine Ev.flt ?_
          with_reducible refine Op2.eqF ?_
          with_reducible refine Tr.bool ?_
          with_reducible refine ite_f (by with_reducible assumption) ?_
          with_reducible refine Ss.nil ?_
          with_reducible refine Ss.cons ?_
          (with_reducible refine' asLk ?z432hm ?_ ?z432hs); (case z432hm => repeat (first | with_reducible exact Has.here | with_reducible refine Has.there ?_)); (case z432hs => rfl)
          (with_reducible refine' Ev.call ?_ ?z433hp); (case z433hp => intro _; rfl)
          (with_reducible refine' Ev.bui ?z434h ?_ ?z434hx); (case z434h => with_reducible exact b_int _ _ _ _); (case z434hx => kernel_rfl)
          (with_reducible refine' ⟨_, rfl, ?z435k, ?_⟩); (case z435k => with_reducible exact Kp.typ)
          (with_reducible refine' Evs.cons ?_ ?z436he); (case z436he => rfl)
          with_reducible refine Ev.bin ?_
          (with_reducible refine' Ev.loc ?z438h ?_); (case z438h => repeat (first | with_reducible exact List.mem_cons_self | with_reducible refine List.mem_cons_of_mem _ ?_))
          with_reducible refine Ev.flt ?_
          with_reducible refine Op2.mulF ?_
          with_reducible refine Evs.nil ?_
          with_reducible refine Ca.intF (by with_reducible assumption) ?_
          with_reducible refine putS ?_
          with_reducible refine putS ?_
          with_reducible refine putS ?_
          with_reducible refine put0 ?_
          with_reducible refine Ss.cons ?_
          (with_reducible refine' asLk ?z448hm ?_ ?z448hs); (case z448hm => repeat (first | with_reducible exact Has.here | with_reducible refine Has.there ?_)); (case z448hs => rfl)
          with_reducible refine Ev.bin ?_
          with_reducible refine Ev.bin ?_
          (with_reducible refine' Ev.loc ?z451h ?_); (case z451h => repeat (first | with_reducible exact List.mem_cons_self | with_reducible refine List.mem_cons_of_mem _ ?_))
          with_reducible refine Ev.flt ?_
          with_reducible refine Op2.mulF ?_
          (with_reducible refine' Ev.loc ?z454h ?_); (case z454h => repeat (first | with_reducible exact List.mem_cons_self | with_reducible refine List.mem_cons_of_mem _ ?_))
          with_reducible refine Op2.subFI (fit3 (by with_reducible assumption)) ?_
          with_reducible refine putS ?_
          with_reducible refine putS ?_
          with_reducible refine putS ?_
          with_reducible refine putS ?_
          with_reducible refine put0 ?_
          with_reducible refine Ss.cons ?_
          (with_reducible refine' asLk ?z462hm ?_ ?z462hs); (case z462hm => repeat (first | with_reducible exact Has.here | with_reducible refine Has.there ?_)); (case z462hs => rfl)
          with_reducible refine Ev.bin ?_
          (with_reducible refine' Ev.loc ?z464h ?_); (case z464h => repeat (first | with_reducible exact List.mem_cons_self | with_reducible refine List.mem_cons_of_mem _ ?_))
          with_reducible refine Ev.bin ?_
          with_reducible refine Ev.flt ?_
          (with_reducible refine' Ev.loc ?z467h ?_); (case z467h => repeat (first | with_reducible exact List.mem_cons_self | with_reducible refine List.mem_cons_of_mem _ ?_))
          with_reducible refine Op2.subF ?_
          with_reducible refine Op2.mulF ?_
          with_reducible refine putS ?_
          with_reducible refine putS ?_
          with_reducible refine putS ?_
          with_reducible refine putS ?_
          with_reducible refine putS ?_
          with_reducible refine put0 ?_
          with_reducible refine Ss.cons ?_
          (with_reducible refine' asLk ?z477hm ?_ ?z477hs); (case z477hm => repeat (first | with_reducible exact Has.here | with_reducible refine Has.there ?_)); (case z477hs => rfl)
          with_reducible refine Ev.bin ?_
          (with_reducible refine' Ev.loc ?z479h ?_); (case z479h => repeat (first | with_reducible exact List.mem_cons_self | with_reducible refine List.mem_cons_of_mem _ ?_))
          with_reducible refine Ev.bin ?_
          with_reducible refine Ev.flt ?_
          with_reducible refine Ev.bin ?_
          (with_reducible refine' Ev.loc ?z483h ?_); (case z483h => repeat (first | with_reducible exact List.mem_cons_self | with_reducible refine List.mem_cons_of_mem _ ?_))
          (with_reducible refine' Ev.loc ?z484h ?_); (case z484h => repeat (first | with_reducible exact List.mem_cons_self | with_reducible refine List.mem_cons_of_mem _ ?_))
          with_reducible refine Op2.mulF ?_
          with_reducible refine Op2.subF ?_
          with_reducible refine Op2.mulF ?_
          with_reducible refine putS ?_
          with_reducible refine putS ?_
          with_reducible refine putS ?_
          with_reducible refine putS ?_
          with_reducible refine putS ?_
          with_reducible refine putS ?_
          with_reducible refine put0 ?_
          with_reducible refine Ss.cons ?_
          (with_reducible refine' asLk ?z496hm ?_ ?z496hs); (case z496hm => repeat (first | with_reducible exact Has.here | with_reducible refine Has.there ?_)); (case z496hs => rfl)
          with_reducible refine Ev.bin ?_
          (with_reducible refine' Ev.loc ?z498h ?_); (case z498h => repeat (first | with_reducible exact List.mem_cons_self | with_reducible refine List.mem_cons_of_mem _ ?_))
          with_reducible refine Ev.bin ?_
          with_reducible refine Ev.flt ?_
          with_reducible refine Ev.bin ?_
          (with_reducible refine' Ev.loc ?z502h ?_); (case z502h => repeat (first | with_reducible exact List.mem_cons_self | with_reducible refine List.mem_cons_of_mem _ ?_))
          with_reducible refine Ev.bin ?_
          with_reducible refine Ev.flt ?_
          (with_reducible refine' Ev.loc ?z505h ?_); (case z505h => repeat (first | with_reducible exact List.mem_cons_self | with_reducible refine List.mem_cons_of_mem _ ?_))
          with_reducible refine Op2.subF ?_
          with_reducible refine Op2.mulF ?_
          with_reducible refine Op2.subF ?_
          with_reducible refine Op2.mulF ?_
          with_reducible refine putS ?_
          with_reducible refine putS ?_
          with_reducible refine putS ?_
          with_reducible refine putS ?_
          with_reducible refine putS ?_
          with_reducible refine putS ?_
          with_reducible refine putS ?_
          with_reducible refine put0 ?_
          with_reducible refine Ss.cons ?_
          (with_reducible refine' asLk ?z519hm ?_ ?z519hs); (case z519hm => repeat (first | with_reducible exact Has.here | with_reducible refine Has.there ?_)); (case z519hs => rfl)
          with_reducible refine Ev.bin ?_
          (with_reducible refine' Ev.loc ?z521h ?_); (case z521h => repeat (first | with_reducible exact List.mem_cons_self | with_reducible refine List.mem_cons_of_mem _ ?_))
          with_reducible refine Ev.int ?_
          (with_reducible refine' Op2.modI ?z523h ?_); (case z523h => decide)
          with_reducible refine putS ?_
          with_reducible refine putS ?_
          with_reducible refine putS ?_
          with_reducible refine put0 ?_
          with_reducible refine Ss.cons ?_
          with_reducible refine S1.ite ?_
          (with_reducible refine' Te.cmp ?_ ?z530hm); (case z530hm => rfl)
          (with_reducible refine' Ev.loc ?z531h ?_); (case z531h => repeat (first | with_reducible exact List.mem_cons_self | with_reducible refine List.mem_cons_of_mem _ ?_))
          with_reducible refine Ev.int ?_
          with_reducible refine Op2.eqI ?_
          with_reducible refine Tr.bool ?_
          with_reducible refine ite_f (by with_reducible assumption) ?_
          with_reducible refine Ss.nil ?_
          with_reducible refine Ss.cons ?_
          with_reducible refine S1.ite ?_
          (with_reducible refine' Te.cmp ?_ ?z539hm); (case z539hm => rfl)
          (with_reducible refine' Ev.loc ?z540h ?_); (case z540h => repeat (first | with_reducible exact List.mem_cons_self | with_reducible refine List.mem_cons_of_mem _ ?_))
          with_reducible refine Ev.int ?_
          with_reducible refine Op2.eqI ?_
          with_reducible refine Tr.bool ?_
          with_reducible refine ite_f (by with_reducible assumption) ?_
          with_reducible refine Ss.nil ?_
          with_reducible refine Ss.cons ?_
          with_reducible refine S1.ite ?_
          (with_reducible refine' Te.cmp ?_ ?z548hm); (case z548hm => rfl)
          (with_reducible refine' Ev.loc ?z549h ?_); (case z549h => repeat (first | with_reducible exact List.mem_cons_self | with_reducible refine List.mem_cons_of_mem _ ?_))
          with_reducible refine Ev.int ?_
          with_reducible refine Op2.eqI ?_
          with_reducible refine Tr.bool ?_
          with_reducible refine ite_f (by with_reducible assumption) ?_
          with_reducible refine Ss.nil ?_
          with_reducible refine Ss.cons ?_
          with_reducible refine S1.ite ?_
          (with_reducible refine' Te.cmp ?_ ?z557hm); (case z557hm => rfl)
          (with_reducible refine' Ev.loc ?z558h ?_); (case z558h => repeat (first | with_reducible exact List.mem_cons_self | with_reducible refine List.mem_cons_of_mem _ ?_))
          with_reducible refine Ev.int ?_
          with_reducible refine Op2.eqI ?_
          with_reducible refine Tr.bool ?_
          with_reducible refine ite_t (by with_reducible assumption) ?_
          with_reducible refine Ss.cons ?_
          with_reducible refine S1.ret ?_
          with_reducible refine Ev.tup ?_
          (with_reducible refine' Evs.cons ?_ ?z566he); (case z566he => rfl)
          (with_reducible refine' Ev.loc ?z567h ?_); (case z567h => repeat (first | with_reducible exact List.mem_cons_self | with_reducible refine List.mem_cons_of_mem _ ?_))
          (with_reducible refine' Evs.cons ?_ ?z568he); (case z568he => rfl)
          (with_reducible refine' Ev.loc ?z569h ?_); (case z569h => repeat (first | with_reducible exact List.mem_cons_self | with_reducible refine List.mem_cons_of_mem _ ?_))
          (with_reducible refine' Evs.cons ?_ ?z570he); (case z570he => rfl)
          (with_reducible refine' Ev.loc ?z571h ?_); (case z571h => repeat (first | with_reducible exact List.mem_cons_self | with_reducible refine List.mem_cons_of_mem _ ?_))
          with_reducible refine Evs.nil ?_
          with_reducible refine And.intro (Nat.le_of_ble_eq_true rfl) ?_
          exact ⟨_, .ret, rfl, rfl⟩
        rw [if_neg j3] at e
        by_cases j4 : (i.fmod 6 == 4) = true
        · rw [if_pos j4] at e; cases e
          with_reducible refine Ss.cons ?_
          with_reducible refine S1.ite ?_
          (with_reducible refine' Te.cmp ?_ ?z576hm); (case z576hm => rfl)
          (with_reducible refine' Ev.loc ?z577h ?_); (case z577h => repeat (first | with_reducible exact List.mem_cons_self | with_reducible refine List.mem_cons_of_mem _ ?_))
          with_reducible refine Ev.flt ?_
          with_reducible refine Op2.eqF ?_
          with_reducible refine Tr.bool ?_
          with_reducible refine ite_f (by with_reducible assumption) ?_
          with_reducible refine Ss.nil ?_
          with_reducible refine Ss.cons ?_
          (with_reducible refine' asLk ?z584hm ?_ ?z584hs); (case z584hm => repeat (first | with_reducible exact Has.here | with_reducible refine Has.there ?_)); (case z584hs => rfl)
          (with_reducible refine' Ev.call ?_ ?z585hp); (case z585hp => intro _; rfl)
          (with_reducible refine' Ev.bui ?z586h ?_ ?z586hx); (case z586h => with_reducible exact b_int _ _ _ _); (case z586hx => kernel_rfl)
          (with_reducible refine' ⟨_, rfl, ?z587k, ?_⟩); (case z587k => with_reducible exact Kp.typ)
          (with_reducible refine' Evs.cons ?_ ?z588he); (case z588he => rfl)
          with_reducible refine Ev.bin ?_
          (with_reducible refine' Ev.loc ?z590h ?_); (case z590h => repeat (first | with_reducible exact List.mem_cons_self | with_reducible refine List.mem_cons_of_mem _ ?_))
          with_reducible refine Ev.flt ?_
          with_reducible refine Op2.mulF ?_
          with_reducible refine Evs.nil ?_
          with_reducible refine Ca.intF (by with_reducible assumption) ?_
          with_reducible refine putS ?_
          with_reducible refine putS ?_
          with_reducible refine putS ?_
          with_reducible refine put0 ?_
          with_reducible refine Ss.cons ?_
          (with_reducible refine' asLk ?z600hm ?_ ?z600hs); (case z600hm => repeat (first | with_reducible exact Has.here | with_reducible refine Has.there ?_)); (case z600hs => rfl)
          with_reducible refine Ev.bin ?_
          with_reducible refine Ev.bin ?_
          (with_reducible refine' Ev.loc ?z603h ?_); (case z603h => repeat (first | with_reducible exact List.mem_cons_self | with_reducible refine List.mem_cons_of_mem _ ?_))
          with_reducible refine Ev.flt ?_
          with_reducible refine Op2.mulF ?_
          (with_reducible refine' Ev.loc ?z606h ?_); (case z606h => repeat (first | with_reducible exact List.mem_cons_self | with_reducible refine List.mem_cons_of_mem _ ?_))
          with_reducible refine Op2.subFI (fit3 (by with_reducible assumption)) ?_
          with_reducible refine putS ?_
          with_reducible refine putS ?_
          with_reducible refine putS ?_
          with_reducible refine putS ?_
          with_reducible refine put0 ?_
          with_reducible refine Ss.cons ?_
          (with_reducible refine' asLk ?z614hm ?_ ?z614hs); (case z614hm => repeat (first | with_reducible exact Has.here | with_reducible refine Has.there ?_)); (case z614hs => rfl)
          with_reducible refine Ev.bin ?_
          (with_reducible refine' Ev.loc ?z616h ?_); (case z616h => repeat (first | with_reducible exact List.mem_cons_self | with_reducible refine List.mem_cons_of_mem _ ?_))
          with_reducible refine Ev.bin ?_
          with_reducible refine Ev.flt ?_
          (with_reducible refine' Ev.loc ?z619h ?_); (case z619h => repeat (first | with_reducible exact List.mem_cons_self | with_reducible refine List.mem_cons_of_mem _ ?_))
          with_reducible refine Op2.subF ?_
          with_reducible refine Op2.mulF ?_
          with_reducible refine putS ?_
          with_reducible refine putS ?_
          with_reducible refine putS ?_
          with_reducible refine putS ?_
          with_reducible refine putS ?_
          with_reducible refine put0 ?_
          with_reducible refine Ss.cons ?_
          (with_reducible refine' asLk ?z629hm ?_ ?z629hs); (case z629hm => repeat (first | with_reducible exact Has.here | with_reducible refine Has.there ?_)); (case z629hs => rfl)
          with_reducible refine Ev.bin ?_
          (with_reducible refine' Ev.loc ?z631h ?_); (case z631h => repeat (first | with_reducible exact List.mem_cons_self | with_reducible refine List.mem_cons_of_mem _ ?_))
          with_reducible refine Ev.bin ?_
          with_reducible refine Ev.flt ?_
          with_reducible refine Ev.bin ?_
          (with_reducible refine' Ev.loc ?z635h ?_); (case z635h => repeat (first | with_reducible exact List.mem_cons_self | with_reducible refine List.mem_cons_of_mem _ ?_))
          (with_reducible refine' Ev.loc ?z636h ?_); (case z636h => repeat (first | with_reducible exact List.mem_cons_self | with_reducible refine List.mem_cons_of_mem _ ?_))
          with_reducible refine Op2.mulF ?_
          with_reducible refine Op2.subF ?_
          with_reducible refine Op2.mulF ?_
          with_reducible refine putS ?_
          with_reducible refine putS ?_
          with_reducible refine putS ?_
          with_reducible refine putS ?_
          with_reducible refine putS ?_
          with_reducible refine putS ?_
          with_reducible refine put0 ?_
          with_reducible refine Ss.cons ?_
          (with_reducible refine' asLk ?z648hm ?_ ?z648hs); (case z648hm => repeat (first | with_reducible exact Has.here | with_reducible refine Has.there ?_)); (case z648hs => rfl)
          with_reducible refine Ev.bin ?_
          (with_reducible refine' Ev.loc ?z650h ?_); (case z650h => repeat (first | with_reducible exact List.mem_cons_self | with_reducible refine List.mem_cons_of_mem _ ?_))
          with_reducible refine Ev.bin ?_
          with_reducible refine Ev.flt ?_
          with_reducible refine Ev.bin ?_
          (with_reducible refine' Ev.loc ?z654h ?_); (case z654h => repeat (first | with_reducible exact List.mem_cons_self | with_reducible refine List.mem_cons_of_mem _ ?_))
          with_reducible refine Ev.bin ?_
          with_reducible refine Ev.flt ?_
          (with_reducible refine' Ev.loc ?z657h ?_); (case z657h => repeat (first | with_reducible exact List.mem_cons_self | with_reducible refine List.mem_cons_of_mem _ ?_))
          with_reducible refine Op2.subF ?_
          with_reducible refine Op2.mulF ?_
          with_reducible refine Op2.subF ?_
          with_reducible refine Op2.mulF ?_
          with_reducible refine putS ?_
          with_reducible refine putS ?_
          with_reducible refine putS ?_
          with_reducible refine putS ?_
          with_reducible refine putS ?_
          with_reducible refine putS ?_
          with_reducible refine putS ?_
          with_reducible refine put0 ?_
          with_reducible refine Ss.cons ?_
          (with_reducible refine' asLk ?z671hm ?_ ?z671hs); (case z671hm => repeat (first | with_reducible exact Has.here | with_reducible refine Has.there ?_)); (case z671hs => rfl)
          with_reducible refine Ev.bin ?_
          (with_reducible refine' Ev.loc ?z673h ?_); (case z673h => repeat (first | with_reducible exact List.mem_cons_self | with_reducible refine List.mem_cons_of_mem _ ?_))
          with_reducible refine Ev.int ?_
          (with_reducible refine' Op2.modI ?z675h ?_); (case z675h => decide)
          with_reducible refine putS ?_
          with_reducible refine putS ?_
          with_reducible refine putS ?_
          with_reducible refine put0 ?_
          with_reducible refine Ss.cons ?_
          with_reducible refine S1.ite ?_
          (with_reducible refine' Te.cmp ?_ ?z682hm); (case z682hm => rfl)
          (with_reducible refine' Ev.loc ?z683h ?_); (case z683h => repeat (first | with_reducible exact List.mem_cons_self | with_reducible refine List.mem_cons_of_mem _ ?_))
          with_reducible refine Ev.int ?_
          with_reducible refine Op2.eqI ?_
          with_reducible refine Tr.bool ?_
          with_reducible refine ite_f (by with_reducible assumption) ?_
          with_reducible refine Ss.nil ?_
          with_reducible refine Ss.cons ?_
          with_reducible refine S1.ite ?_
          (with_reducible refine' Te.cmp ?_ ?z691hm); (case z691hm => rfl)
          (with_reducible refine' Ev.loc ?z692h ?_); (case z692h => repeat (first | with_reducible exact List.mem_cons_self | with_reducible refine List.mem_cons_of_mem _ ?_))
          with_reducible refine Ev.int ?_
          with_reducible refine Op2.eqI ?_
          with_reducible refine Tr.bool ?_
          with_reducible refine ite_f (by with_reducible assumption) ?_
          with_reducible refine Ss.nil ?_
          with_reducible refine Ss.cons ?_
          with_reducible refine S1.ite ?_
          (with_reducible refine' Te.cmp ?_ ?z700hm); (case z700hm => rfl)
          (with_reducible refine' Ev.loc ?z701h ?_); (case z701h => repeat (first | with_reducible exact List.mem_cons_self | with_reducible refine List.mem_cons_of_mem _ ?_))
          with_reducible refine Ev.int ?_
          with_reducible refine Op2.eqI ?_
          with_reducible refine Tr.bool ?_
          with_reducible refine ite_f (by with_reducible assumption) ?_
          with_reducible refine Ss.nil ?_
          with_reducible refine Ss.cons ?_
          with_reducible refine S1.ite ?_
          (with_reducible refine' Te.cmp ?_ ?z709hm); (case z709hm => rfl)
          (with_reducible refine' Ev.loc ?z710h ?_); (case z710h => repeat (first | with_reducible exact List.mem_cons_self | with_reducible refine List.mem_cons_of_mem _ ?_))
          with_reducible refine Ev.int ?_
          with_reducible refine Op2.eqI ?_
          with_reducible refine Tr.bool ?_
          with_reducible refine ite_f (by with_reducible assumption) ?_
          with_reducible refine Ss.nil ?_
          with_reducible refine Ss.cons ?_
          with_reducible refine S1.ite ?_
          (with_reducible refine' Te.cmp ?_ ?z718hm); (case z718hm => rfl)
          (with_reducible refine' Ev.loc ?z719h ?_); (case z719h => repeat (first | with_reducible exact List.mem_cons_self | with_reducible refine List.mem_cons_of_mem _ ?_))
          with_reducible refine Ev.int ?_
          with_reducible refine Op2.eqI ?_
          with_reducible refine Tr.bool ?_
          with_reducible refine ite_t (by with_reducible assumption) ?_
          with_reducible refine Ss.cons ?_
          with_reducible refine S1.ret ?_
          with_reducible refine Ev.tup ?_
          (with_reducible refine' Evs.cons ?_ ?z727he); (case z727he => rfl)
          (with_reducible refine' Ev.loc ?z728h ?_); (case z728h => repeat (first | with_reducible exact List.mem_cons_self | with_reducible refine List.mem_cons_of_mem _ ?_))
          (with_reducible refine' Evs.cons ?_ ?z729he); (case z729he => rfl)
          (with_reducible refine' Ev.loc ?z730h ?_); (case z730h => repeat (first | with_reducible exact List.mem_cons_self | with_reducible refine List.mem_cons_of_mem _ ?_))
          (with_reducible refine' Evs.cons ?_ ?z731he); (case z731he => rfl)
          (with_reducible refine' Ev.loc ?z732h ?_); (case z732h => repeat (first | with_reducible exact List.mem_cons_self | with_reducible refine List.mem_cons_of_mem _ ?_))
          with_reducible refine Evs.nil ?_
          with_reducible refine And.intro (Nat.le_of_ble_eq_true rfl) ?_
          exact ⟨_, .ret, rfl, rfl⟩
        rw [if_neg j4] at e
        by_cases j5 : (i.fmod 6 == 5) = true
        · rw [if_pos j5] at e; cases e
          with_reducible refine Ss.cons ?_
          with_reducible refine S1.ite ?_
          (with_reducible refine' Te.cmp ?_ ?z737hm); (case z737hm => rfl)
          (with_reducible refine' Ev.loc ?z738h ?_); (case z738h => repeat (first | with_reducible exact List.mem_cons_self | with_reducible refine List.mem_cons_of_mem _ ?_))
          with_reducible refine Ev.flt ?_
          with_reducible refine Op2.eqF ?_
          with_reducible refine Tr.bool ?_
          with_reducible refine ite_f (by with_reducible assumption) ?_
          with_reducible refine Ss.nil ?_
          with_reducible refine Ss.cons ?_
          (with_reducible refine' asLk ?z745hm ?_ ?z745hs); (case z745hm => repeat (first | with_reducible exact Has.here | with_reducible refine Has.there ?_)); (case z745hs => rfl)
          (with_reducible refine' Ev.call ?_ ?z746hp); (case z746hp => intro _; rfl)
          (with_reducible refine' Ev.bui ?z747h ?_ ?z747hx); (case z747h => with_reducible exact b_int _ _ _ _); (case z747hx => kernel_rfl)
          (with_reducible refine' ⟨_, rfl, ?z748k, ?_⟩); (case z748k => with_reducible exact Kp.typ)
          (with_reducible refine' Evs.cons ?_ ?z749he); (case z749he => rfl)
          with_reducible refine Ev.bin ?_
          (with_reducible refine' Ev.loc ?z751h ?_); (case z751h => repeat (first | with_reducible exact List.mem_cons_self | with_reducible refine List.mem_cons_of_mem _ ?_))
          with_reducible refine Ev.flt ?_
          with_reducible refine Op2.mulF ?_
          with_reducible refine Evs.nil ?_
          with_reducible refine Ca.intF (by with_reducible assumption) ?_
          with_reducible refine putS ?_
          with_reducible refine putS ?_
          with_reducible refine putS ?_
          with_reducible refine put0 ?_
          with_reducible refine Ss.cons ?_
          (with_reducible refine' asLk ?z761hm ?_ ?z761hs); (case z761hm => repeat (first | with_reducible exact Has.here | with_reducible refine Has.there ?_)); (case z761hs => rfl)
          with_reducible refine Ev.bin ?_
          with_reducible refine Ev.bin ?_
          (with_reducible refine' Ev.loc ?z764h ?_); (case z764h => repeat (first | with_reducible exact List.mem_cons_self | with_reducible refine List.mem_cons_of_mem _ ?_))
          with_reducible refine Ev.flt ?_
          with_reducible refine Op2.mulF ?_
          (with_reducible refine' Ev.loc ?z767h ?_); (case z767h => repeat (first | with_reducible exact List.mem_cons_self | with_reducible refine List.mem_cons_of_mem _ ?_))
          with_reducible refine Op2.subFI (fit3 (by with_reducible assumption)) ?_
          with_reducible refine putS ?_
          with_reducible refine putS ?_
          with_reducible refine putS ?_
          with_reducible refine putS ?_
          with_reducible refine put0 ?_
          with_reducible refine Ss.cons ?_
          (with_reducible refine' asLk ?z775hm ?_ ?z775hs); (case z775hm => repeat (first | with_reducible exact Has.here | with_reducible refine Has.there ?_)); (case z775hs => rfl)
          with_reducible refine Ev.bin ?_
          (with_reducible refine' Ev.loc ?z777h ?_); (case z777h => repeat (first | with_reducible exact List.mem_cons_self | with_reducible refine List.mem_cons_of_mem _ ?_))
          with_reducible refine Ev.bin ?_
          with_reducible refine Ev.flt ?_
          (with_reducible refine' Ev.loc ?z780h ?_); (case z780h => repeat (first | with_reducible exact List.mem_cons_self | with_reducible refine List.mem_cons_of_mem _ ?_))
          with_reducible refine Op2.subF ?_
          with_reducible refine Op2.mulF ?_
          with_reducible refine putS ?_
          with_reducible refine putS ?_
          with_reducible refine putS ?_
          with_reducible refine putS ?_
          with_reducible refine putS ?_
          with_reducible refine put0 ?_
          with_reducible refine Ss.cons ?_
          (with_reducible refine' asLk ?z790hm ?_ ?z790hs); (case z790hm => repeat (first | with_reducible exact Has.here | with_reducible refine Has.there ?_)); (case z790hs => rfl)
          with_reducible refine Ev.bin ?_
          (with_reducible refine' Ev.loc ?z792h ?_); (case z792h => repeat (first | with_reducible exact List.mem_cons_self | with_reducible refine List.mem_cons_of_mem _ ?_))
          with_reducible refine Ev.bin ?_
          with_reducible refine Ev.flt ?_
          with_reducible refine Ev.bin ?_
          (with_reducible refine' Ev.loc ?z796h ?_); (case z796h => repeat (first | with_reducible exact List.mem_cons_self | with_reducible refine List.mem_cons_of_mem _ ?_))
          (with_reducible refine' Ev.loc ?z797h ?_); (case z797h => repeat (first | with_reducible exact List.mem_cons_self | with_reducible refine List.mem_cons_of_mem _ ?_))
          with_reducible refine Op2.mulF ?_
          with_reducible refine Op2.subF ?_
          with_reducible refine Op2.mulF ?_
          with_reducible refine putS ?_
          with_reducible refine putS ?_
          with_reducible refine putS ?_
          with_reducible refine putS ?_
          with_reducible refine putS ?_
          with_reducible refine putS ?_
          with_reducible refine put0 ?_
          with_reducible refine Ss.cons ?_
          (with_reducible refine' asLk ?z809hm ?_ ?z809hs); (case z809hm => repeat (first | with_reducible exact Has.here | with_reducible refine Has.there ?_)); (case z809hs => rfl)
          with_reducible refine Ev.bin ?_
          (with_reducible refine' Ev.loc ?z811h ?_); (case z811h => repeat (first | with_reducible exact List.mem_cons_self | with_reducible refine List.mem_cons_of_mem _ ?_))
          with_reducible refine Ev.bin ?_
          with_reducible refine Ev.flt ?_
          with_reducible refine Ev.bin ?_
          (with_reducible refine' Ev.loc ?z815h ?_); (case z815h => repeat (first | with_reducible exact List.mem_cons_self | with_reducible refine List.mem_cons_of_mem _ ?_))
          with_reducible refine Ev.bin ?_
          with_reducible refine Ev.flt ?_
          (with_reducible refine' Ev.loc ?z818h ?_); (case z818h => repeat (first | with_reducible exact List.mem_cons_self | with_reducible refine List.mem_cons_of_mem _ ?_))
          with_reducible refine Op2.subF ?_
          with_reducible refine Op2.mulF ?_
          with_reducible refine Op2.subF ?_
          with_reducible refine Op2.mulF ?_
          with_reducible refine putS ?_
          with_reducible refine putS ?_
          with_reducible refine putS ?_
          with_reducible refine putS ?_
          with_reducible refine putS ?_
          with_reducible refine putS ?_
          with_reducible refine putS ?_
          with_reducible refine put0 ?_
          with_reducible refine Ss.cons ?_
          (with_reducible refine' asLk ?z832hm ?_ ?z832hs); (case z832hm => repeat (first | with_reducible exact Has.here | with_reducible refine Has.there ?_)); (case z832hs => rfl)
          with_reducible refine Ev.bin ?_
          (with_reducible refine' Ev.loc ?z834h ?_); (case z834h => repeat (first | with_reducible exact List.mem_cons_self | with_reducible refine List.mem_cons_of_mem _ ?_))
          with_reducible refine Ev.int ?_
          (with_reducible refine' Op2.modI ?z836h ?_); (case z836h => decide)
          with_reducible refine putS ?_
          with_reducible refine putS ?_
          with_reducible refine putS ?_
          with_reducible refine put0 ?_
          with_reducible refine Ss.cons ?_
          with_reducible refine S1.ite ?_
          (with_reducible refine' Te.cmp ?_ ?z843hm); (case z843hm => rfl)
          (with_reducible refine' Ev.loc ?z844h ?_); (case z844h => repeat (first | with_reducible exact List.mem_cons_self | with_reducible refine List.mem_cons_of_mem _ ?_))
          with_reducible refine Ev.int ?_
          with_reducible refine Op2.eqI ?_
          with_reducible refine Tr.bool ?_
          with_reducible refine ite_f (by with_reducible assumption) ?_
          with_reducible refine Ss.nil ?_
          with_reducible refine Ss.cons ?_
          with_reducible refine S1.ite ?_
          (with_reducible refine' Te.cmp ?_ ?z852hm); (case z852hm => rfl)
          (with_reducible refine' Ev.loc ?z853h ?_); (case z853h => repeat (first | with_reducible exact List.mem_cons_self | with_reducible refine List.mem_cons_of_mem _ ?_))
          with_reducible refine Ev.int ?_
          with_reducible refine Op2.eqI ?_
          with_reducible refine Tr.bool ?_
          with_reducible refine ite_f (by with_reducible assumption) ?_
          with_reducible refine Ss.nil ?_
          with_reducible refine Ss.cons ?_
          with_reducible refine S1.ite ?_
          (with_reducible refine' Te.cmp ?_ ?z861hm); (case z861hm => rfl)
          (with_reducible refine' Ev.loc ?z862h ?_); (case z862h => repeat (first | with_reducible exact List.mem_cons_self | with_reducible refine List.mem_cons_of_mem _ ?_))
          with_reducible refine Ev.int ?_
          with_reducible refine Op2.eqI ?_
          with_reducible refine Tr.bool ?_
          with_reducible refine ite_f (by with_reducible assumption) ?_
          with_reducible refine Ss.nil ?_
          with_reducible refine Ss.cons ?_
          with_reducible refine S1.ite ?_
          (with_reducible refine' Te.cmp ?_ ?z870hm); (case z870hm => rfl)
          (with_reducible refine' Ev.loc ?z871h ?_); (case z871h => repeat (first | with_reducible exact List.mem_cons_self | with_reducible refine List.mem_cons_of_mem _ ?_))
          with_reducible refine Ev.int ?_
          with_reducible refine Op2.eqI ?_
          with_reducible refine Tr.bool ?_
          with_reducible refine ite_f (by with_reducible assumption) ?_
          with_reducible refine Ss.nil ?_
          with_reducible refine Ss.cons ?_
          with_reducible refine S1.ite ?_
          (with_reducible refine' Te.cmp ?_ ?z879hm); (case z879hm => rfl)
          (with_reducible refine' Ev.loc ?z880h ?_); (case z880h => repeat (first | with_reducible exact List.mem_cons_self | with_reducible refine List.mem_cons_of_mem _ ?_))
          with_reducible refine Ev.int ?_
          with_reducible refine Op2.eqI ?_
          with_reducible refine Tr.bool ?_
          with_reducible refine ite_f (by with_reducible assumption) ?_
          with_reducible refine Ss.nil ?_
          with_reducible refine Ss.cons ?_
          with_reducible refine S1.ite ?_
          (with_reducible refine' Te.cmp ?_ ?z888hm); (case z888hm => rfl)
          (with_reducible refine' Ev.loc ?z889h ?_); (case z889h => repeat (first | with_reducible exact List.mem_cons_self | with_reducible refine List.mem_cons_of_mem _ ?_))
          with_reducible refine Ev.int ?_
          with_reducible refine Op2.eqI ?_
          with_reducible refine Tr.bool ?_
          with_reducible refine ite_t (by with_reducible assumption) ?_
          with_reducible refine Ss.cons ?_
          with_reducible refine S1.ret ?_
          with_reducible refine Ev.tup ?_
          (with_reducible refine' Evs.cons ?_ ?z897he); (case z897he => rfl)
          (with_reducible refine' Ev.loc ?z898h ?_); (case z898h => repeat (first | with_reducible exact List.mem_cons_self | with_reducible refine List.mem_cons_of_mem _ ?_))
          (with_reducible refine' Evs.cons ?_ ?z899he); (case z899he => rfl)
          (with_reducible refine' Ev.loc ?z900h ?_); (case z900h => repeat (first | with_reducible exact List.mem_cons_self | with_reducible refine List.mem_cons_of_mem _ ?_))
          (with_reducible refine' Evs.cons ?_ ?z901he); (case z901he => rfl)
          (with_reducible refine' Ev.loc ?z902h ?_); (case z902h => repeat (first | with_reducible exact List.mem_cons_self | with_reducible refine List.mem_cons_of_mem _ ?_))
          with_reducible refine Evs.nil ?_
          with_reducible refine And.intro (Nat.le_of_ble_eq_true rfl) ?_
          exact ⟨_, .ret, rfl, rfl⟩
        rw [if_neg j5] at e; cases e
      · rw [if_neg hz] at e; cases e
end
section
variable (w : World) (mg mb : Str → Option Value) (os : OsState)
noncomputable def rgbHue (r g b mx mn : UInt64) : UInt64 :=
  if (Float64.cmp r mx == some .eq) = true then Float64.sub (Float64.div (Float64.sub mx b) (Float64.sub mx mn)) (Float64.div (Float64.sub mx g) (Float64.sub mx mn))
  else if (Float64.cmp g mx == some .eq) = true then Float64.sub (Float64.add fTwo (Float64.div (Float64.sub mx r) (Float64.sub mx mn))) (Float64.div (Float64.sub mx b) (Float64.sub mx mn))
  else Float64.sub (Float64.add fFour (Float64.div (Float64.sub mx g) (Float64.sub mx mn))) (Float64.div (Float64.sub mx r) (Float64.sub mx mn))
noncomputable def rgbSpec (r g b : UInt64) : Option (UInt64 × UInt64 × UInt64) :=
  if (Float64.cmp (fMin r g b) (fMax r g b) == some .eq) = true then some (0, 0, fMax r g b) else
  if Float64.isZero (fMax r g b) = false ∧ Float64.isZero (Float64.sub (fMax r g b) (fMin r g b)) = false then
    some ((Float64.divmod (Float64.div (rgbHue r g b (fMax r g b) (fMin r g b)) fSix) fOne).2, Float64.div (Float64.sub (fMax r g b) (fMin r g b)) (fMax r g b), fMax r g b)
  else none
theorem c_rgb (r g b x y z : UInt64) (e : rgbSpec r g b = some (x, y, z)) : Cal (Γ2 w mg mb os) 1 (.ref 111) [.flt r, .flt g, .flt b] [] [] fun d O' => O' = [] ∧ d = .tup [.flt x, .flt y, .flt z] := by
  refine Cal.intro (params := ["r", "g", "b"]) (bds := [.flt r, .flt g, .flt b]) [("r", some (.flt r)), ("g", some (.flt g)), ("b", some (.flt b)), ("maxc", none), ("minc", none), ("rangec", none), ("v", none), ("s", none), ("rc", none), ("gc", none), ("bc", none), ("h", none)] [] rfl (by kernel_rfl) rfl ⟨rfl, rfl, rfl, rfl, rfl, rfl⟩
    (fun g s vs ks ok iv ik => ?_) (by decide +kernel) (by decide +kernel) (by decide +kernel) (by decide +kernel) (by kernel_rfl) (by kernel_rfl) fun A L room => ?_
  · obtain ⟨x, y, z, rfl, i, j, k⟩ := iv.three
    exact ⟨[x, y, z], .of_eq (by kernel_rfl), iv⟩
  · have hh := room.h
    have z6 : Float64.isZero fSix = false := by decide +kernel
    have z1 : Float64.isZero fOne = false := by decide +kernel
    unfold rgbSpec at e
    by_cases h0 : (Float64.cmp (fMin r g b) (fMax r g b) == some .eq) = true
    · rw [if_pos h0] at e
      cases e
      with_reducible refine Ss.cons ?_
      (with_reducible refine' asLk ?z906hm ?_ ?z906hs); (case z906hm => repeat (first | with_reducible exact Has.here | with_reducible refine Has.there ?_)); (case z906hs => rfl)
      (with_reducible refine' Ev.call ?_ ?z907hp); (case z907hp => intro _; rfl)
      (with_reducible refine' Ev.bui ?z908h ?_ ?z908hx); (case z908h => with_reducible exact b_max _ _ _ _); (case z908hx => kernel_rfl)
      (with_reducible refine' ⟨_, rfl, ?z909k, ?_⟩); (case z909k => with_reducible exact Kp.bui)
      (with_reducible refine' Evs.cons ?_ ?z910he); (case z910he => rfl)
      (with_reducible refine' Ev.loc ?z911h ?_); (case z911h => repeat (first | with_reducible exact List.mem_cons_self | with_reducible refine List.mem_cons_of_mem _ ?_))
      (with_reducible refine' Evs.cons ?_ ?z912he); (case z912he => rfl)
      (with_reducible refine' Ev.loc ?z913h ?_); (case z913h => repeat (first | with_reducible exact List.mem_cons_self | with_reducible refine List.mem_cons_of_mem _ ?_))
      (with_reducible refine' Evs.cons ?_ ?z914he); (case z914he => rfl)
      (with_reducible refine' Ev.loc ?z915h ?_); (case z915h => repeat (first | with_reducible exact List.mem_cons_self | with_reducible refine List.mem_cons_of_mem _ ?_))
      with_reducible refine Evs.nil ?_
      with_reducible refine Ca.max3 (by with_reducible assumption) ?_
      with_reducible refine putS ?_
      with_reducible refine putS ?_
      with_reducible refine putS ?_
      with_reducible refine put0 ?_
      with_reducible refine Ss.cons ?_
      (with_reducible refine' asLk ?z923hm ?_ ?z923hs); (case z923hm => repeat (first | with_reducible exact Has.here | with_reducible refine Has.there ?_)); (case z923hs => rfl)
      (with_reducible refine' Ev.call ?_ ?z924hp); (case z924hp => intro _; rfl)
      (with_reducible refine' Ev.bui ?z925h ?_ ?z925hx); (case z925h => with_reducible exact b_min _ _ _ _); (case z925hx => kernel_rfl)
      (with_reducible refine' ⟨_, rfl, ?z926k, ?_⟩); (case z926k => with_reducible exact Kp.bui)
      (with_reducible refine' Evs.cons ?_ ?z927he); (case z927he => rfl)
      (with_reducible refine' Ev.loc ?z928h ?_); (case z928h => repeat (first | with_reducible exact List.mem_cons_self | with_reducible refine List.mem_cons_of_mem _ ?_))
      (with_reducible refine' Evs.cons ?_ ?z929he); (case z929he => rfl)
      (with_reducible refine' Ev.loc ?z930h ?_); (case z930h => repeat (first | with_reducible exact List.mem_cons_self | with_reducible refine List.mem_cons_of_mem _ ?_))
      (with_reducible refine' Evs.cons ?_ ?z931he); (case z931he => rfl)
      (with_reducible refine' Ev.loc ?z932h ?_); (case z932h => repeat (first | with_reducible exact List.mem_cons_self | with_reducible refine List.mem_cons_of_mem _ ?_))
      with_reducible refine Evs.nil ?_
      with_reducible refine Ca.min3 (by with_reducible assumption) ?_
      with_reducible refine putS ?_
      with_reducible refine putS ?_
      with_reducible refine putS ?_
      with_reducible refine putS ?_
      with_reducible refine put0 ?_
      with_reducible refine Ss.cons ?_
      (with_reducible refine' asLk ?z941hm ?_ ?z941hs); (case z941hm => repeat (first | with_reducible exact Has.here | with_reducible refine Has.there ?_)); (case z941hs => rfl)
      with_reducible refine Ev.bin ?_
      (with_reducible refine' Ev.loc ?z943h ?_); (case z943h => repeat (first | with_reducible exact List.mem_cons_self | with_reducible refine List.mem_cons_of_mem _ ?_))
      (with_reducible refine' Ev.loc ?z944h ?_); (case z944h => repeat (first | with_reducible exact List.mem_cons_self | with_reducible refine List.mem_cons_of_mem _ ?_))
      with_reducible refine Op2.subF ?_
      with_reducible refine putS ?_
      with_reducible refine putS ?_
      with_reducible refine putS ?_
      with_reducible refine putS ?_
      with_reducible refine putS ?_
      with_reducible refine put0 ?_
      with_reducible refine Ss.cons ?_
      (with_reducible refine' asLk ?z953hm ?_ ?z953hs); (case z953hm => repeat (first | with_reducible exact Has.here | with_reducible refine Has.there ?_)); (case z953hs => rfl)
      (with_reducible refine' Ev.loc ?z954h ?_); (case z954h => repeat (first | with_reducible exact List.mem_cons_self | with_reducible refine List.mem_cons_of_mem _ ?_))
      with_reducible refine putS ?_
      with_reducible refine putS ?_
      with_reducible refine putS ?_
      with_reducible refine putS ?_
      with_reducible refine putS ?_
      with_reducible refine putS ?_
      with_reducible refine put0 ?_
      with_reducible refine Ss.cons ?_
      with_reducible refine S1.ite ?_
      (with_reducible refine' Te.cmp ?_ ?z964hm); (case z964hm => rfl)
      (with_reducible refine' Ev.loc ?z965h ?_); (case z965h => repeat (first | with_reducible exact List.mem_cons_self | with_reducible refine List.mem_cons_of_mem _ ?_))
      (with_reducible refine' Ev.loc ?z966h ?_); (case z966h => repeat (first | with_reducible exact List.mem_cons_self | with_reducible refine List.mem_cons_of_mem _ ?_))
      with_reducible refine Op2.eqF ?_
      with_reducible refine Tr.bool ?_
      with_reducible refine ite_t (by with_reducible assumption) ?_
      with_reducible refine Ss.cons ?_
      with_reducible refine S1.ret ?_
      with_reducible refine Ev.tup ?_
      (with_reducible refine' Evs.cons ?_ ?z973he); (case z973he => rfl)
      with_reducible refine Ev.flt ?_
      (with_reducible refine' Evs.cons ?_ ?z975he); (case z975he => rfl)
      with_reducible refine Ev.flt ?_
      (with_reducible refine' Evs.cons ?_ ?z977he); (case z977he => rfl)
      (with_reducible refine' Ev.loc ?z978h ?_); (case z978h => repeat (first | with_reducible exact List.mem_cons_self | with_reducible refine List.mem_cons_of_mem _ ?_))
      with_reducible refine Evs.nil ?_
      with_reducible refine And.intro (Nat.le_of_ble_eq_true rfl) ?_
      exact ⟨_, .ret, rfl, rfl⟩
    · rw [if_neg h0] at e
      by_cases hz : Float64.isZero (fMax r g b) = false ∧ Float64.isZero (Float64.sub (fMax r g b) (fMin r g b)) = false
      · rw [if_pos hz] at e
        obtain ⟨hz1, hz2⟩ := hz
        unfold rgbHue at e
        by_cases j0 : (Float64.cmp r (fMax r g b) == some .eq) = true
        · rw [if_pos j0] at e; cases e
          with_reducible refine Ss.cons ?_
          (with_reducible refine' asLk ?z982hm ?_ ?z982hs); (case z982hm => repeat (first | with_reducible exact Has.here | with_reducible refine Has.there ?_)); (case z982hs => rfl)
          (with_reducible refine' Ev.call ?_ ?z983hp); (case z983hp => intro _; rfl)
          (with_reducible refine' Ev.bui ?z984h ?_ ?z984hx); (case z984h => with_reducible exact b_max _ _ _ _); (case z984hx => kernel_rfl)
          (with_reducible refine' ⟨_, rfl, ?z985k, ?_⟩); (case z985k => with_reducible exact Kp.bui)
          (with_reducible refine' Evs.cons ?_ ?z986he); (case z986he => rfl)
          (with_reducible refine' Ev.loc ?z987h ?_); (case z987h => repeat (first | with_reducible exact List.mem_cons_self | with_reducible refine List.mem_cons_of_mem _ ?_))
          (with_reducible refine' Evs.cons ?_ ?z988he); (case z988he => rfl)
          (with_reducible refine' Ev.loc ?z989h ?_); (case z989h => repeat (first | with_reducible exact List.mem_cons_self | with_reducible refine List.mem_cons_of_mem _ ?_))
          (with_reducible refine' Evs.cons ?_ ?z990he); (case z990he => rfl)
          (with_reducible refine' Ev.loc ?z991h ?_); (case z991h => repeat (first | with_reducible exact List.mem_cons_self | with_reducible refine List.mem_cons_of_mem _ ?_))
          with_reducible refine Evs.nil ?_
          with_reducible refine Ca.max3 (by with_reducible assumption) ?_
          with_reducible refine putS ?_
          with_reducible refine putS ?_
          with_reducible refine putS ?_
          with_reducible refine put0 ?_
          with_reducible refine Ss.cons ?_
          (with_reducible refine' asLk ?z999hm ?_ ?z999hs); (case z999hm => repeat (first | with_reducible exact Has.here | with_reducible refine Has.there ?_)); (case z999hs => rfl)
          (with_reducible refine' Ev.call ?_ ?z1000hp); (case z1000hp => intro _; rfl)
          (with_reducible refine' Ev.bui ?z1001h ?_ ?z1001hx); (case z1001h => with_reducible exact b_min _ _ _ _); (case z1001hx => kernel_rfl)
          (with_reducible refine' ⟨_, rfl, ?z1002k, ?_⟩); (case z1002k => with_reducible exact Kp.bui)
          (with_reducible refine' Evs.cons ?_ ?z1003he); (case z1003he => rfl)
          (with_reducible refine' Ev.loc ?z1004h ?_); (case z1004h => repeat (first | with_reducible exact List.mem_cons_self | with_reducible refine List.mem_cons_of_mem _ ?_))
          (with_reducible refine' Evs.cons ?_ ?z1005he); (case z1005he => rfl)
          (with_reducible refine' Ev.loc ?z1006h ?_); (case z1006h => repeat (first | with_reducible exact List.mem_cons_self | with_reducible refine List.mem_cons_of_mem _ ?_))
          (with_reducible refine' Evs.cons ?_ ?z1007he); (case z1007he => rfl)
          (with_reducible refine' Ev.loc ?z1008h ?_); (case z1008h => repeat (first | with_reducible exact List.mem_cons_self | with_reducible refine List.mem_cons_of_mem _ ?_))
          with_reducible refine Evs.nil ?_
          with_reducible refine Ca.min3 (by with_reducible assumption) ?_
          with_reducible refine putS ?_
          with_reducible refine putS ?_
          with_reducible refine putS ?_
          with_reducible refine putS ?_
          with_reducible refine put0 ?_
          with_reducible refine Ss.cons ?_
          (with_reducible refine' asLk ?z1017hm ?_ ?z1017hs); (case z1017hm => repeat (first | with_reducible exact Has.here | with_reducible refine Has.there ?_)); (case z1017hs => rfl)
          with_reducible refine Ev.bin ?_
          (with_reducible refine' Ev.loc ?z1019h ?_); (case z1019h => repeat (first | with_reducible exact List.mem_cons_self | with_reducible refine List.mem_cons_of_mem _ ?_))
          (with_reducible refine' Ev.loc ?z1020h ?_); (case z1020h => repeat (first | with_reducible exact List.mem_cons_self | with_reducible refine List.mem_cons_of_mem _ ?_))
          with_reducible refine Op2.subF ?_
          with_reducible refine putS ?_
          with_reducible refine putS ?_
          with_reducible refine putS ?_
          with_reducible refine putS ?_
          with_reducible refine putS ?_
          with_reducible refine put0 ?_
          with_reducible refine Ss.cons ?_
          (with_reducible refine' asLk ?z1029hm ?_ ?z1029hs); (case z1029hm => repeat (first | with_reducible exact Has.here | with_reducible refine Has.there ?_)); (case z1029hs => rfl)
          (with_reducible refine' Ev.loc ?z1030h ?_); (case z1030h => repeat (first | with_reducible exact List.mem_cons_self | with_reducible refine List.mem_cons_of_mem _ ?_))
          with_reducible refine putS ?_
          with_reducible refine putS ?_
          with_reducible refine putS ?_
          with_reducible refine putS ?_
          with_reducible refine putS ?_
          with_reducible refine putS ?_
          with_reducible refine put0 ?_
          with_reducible refine Ss.cons ?_
          with_reducible refine S1.ite ?_
          (with_reducible refine' Te.cmp ?_ ?z1040hm); (case z1040hm => rfl)
          (with_reducible refine' Ev.loc ?z1041h ?_); (case z1041h => repeat (first | with_reducible exact List.mem_cons_self | with_reducible refine List.mem_cons_of_mem _ ?_))
          (with_reducible refine' Ev.loc ?z1042h ?_); (case z1042h => repeat (first | with_reducible exact List.mem_cons_self | with_reducible refine List.mem_cons_of_mem _ ?_))
          with_reducible refine Op2.eqF ?_
          with_reducible refine Tr.bool ?_
          with_reducible refine ite_f (by with_reducible assumption) ?_
          with_reducible refine Ss.nil ?_
          with_reducible refine Ss.cons ?_
          (with_reducible refine' asLk ?z1048hm ?_ ?z1048hs); (case z1048hm => repeat (first | with_reducible exact Has.here | with_reducible refine Has.there ?_)); (case z1048hs => rfl)
          with_reducible refine Ev.bin ?_
          (with_reducible refine' Ev.loc ?z1050h ?_); (case z1050h => repeat (first | with_reducible exact List.mem_cons_self | with_reducible refine List.mem_cons_of_mem _ ?_))
          (with_reducible refine' Ev.loc ?z1051h ?_); (case z1051h => repeat (first | with_reducible exact List.mem_cons_self | with_reducible refine List.mem_cons_of_mem _ ?_))
          (with_reducible refine' Op2.divF ?z1052h ?_); (case z1052h => with_reducible assumption)
          with_reducible refine putS ?_
          with_reducible refine putS ?_
          with_reducible refine putS ?_
          with_reducible refine putS ?_
          with_reducible refine putS ?_
          with_reducible refine putS ?_
          with_reducible refine putS ?_
          with_reducible refine put0 ?_
          with_reducible refine Ss.cons ?_
          (with_reducible refine' asLk ?z1062hm ?_ ?z1062hs); (case z1062hm => repeat (first | with_reducible exact Has.here | with_reducible refine Has.there ?_)); (case z1062hs => rfl)
          with_reducible refine Ev.bin ?_
          with_reducible refine Ev.bin ?_
          (with_reducible refine' Ev.loc ?z1065h ?_); (case z1065h => repeat (first | with_reducible exact List.mem_cons_self | with_reducible refine List.mem_cons_of_mem _ ?_))
          (with_reducible refine' Ev.loc ?z1066h ?_); (case z1066h => repeat (first | with_reducible exact List.mem_cons_self | with_reducible refine List.mem_cons_of_mem _ ?_))
          with_reducible refine Op2.subF ?_
          (with_reducible refine' Ev.loc ?z1068h ?_); (case z1068h => repeat (first | with_reducible exact List.mem_cons_self | with_reducible refine List.mem_cons_of_mem _ ?_))
          (with_reducible refine' Op2.divF ?z1069h ?_); (case z1069h => with_reducible assumption)
          with_reducible refine putS ?_
          with_reducible refine putS ?_
          with_reducible refine putS ?_
          with_reducible refine putS ?_
          with_reducible refine putS ?_
          with_reducible refine putS ?_
          with_reducible refine putS ?_
          with_reducible refine putS ?_
          with_reducible refine put0 ?_
          with_reducible refine Ss.cons ?_
          (with_reducible refine' asLk ?z1080hm ?_ ?z1080hs); (case z1080hm => repeat (first | with_reducible exact Has.here | with_reducible refine Has.there ?_)); (case z1080hs => rfl)
          with_reducible refine Ev.bin ?_
          with_reducible refine Ev.bin ?_
          (with_reducible refine' Ev.loc ?z1083h ?_); (case z1083h => repeat (first | with_reducible exact List.mem_cons_self | with_reducible refine List.mem_cons_of_mem _ ?_))
          (with_reducible refine' Ev.loc ?z1084h ?_); (case z1084h => repeat (first | with_reducible exact List.mem_cons_self | with_reducible refine List.mem_cons_of_mem _ ?_))
          with_reducible refine Op2.subF ?_
          (with_reducible refine' Ev.loc ?z1086h ?_); (case z1086h => repeat (first | with_reducible exact List.mem_cons_self | with_reducible refine List.mem_cons_of_mem _ ?_))
          (with_reducible refine' Op2.divF ?z1087h ?_); (case z1087h => with_reducible assumption)
          with_reducible refine putS ?_
          with_reducible refine putS ?_
          with_reducible refine putS ?_
          with_reducible refine putS ?_
          with_reducible refine putS ?_
          with_reducible refine putS ?_
          with_reducible refine putS ?_
          with_reducible refine putS ?_
          with_reducible refine putS ?_
          with_reducible refine put0 ?_
          with_reducible refine Ss.cons ?_
          (with_reducible refine' asLk ?z1099hm ?_ ?z1099hs); (case z1099hm => repeat (first | with_reducible exact Has.here | with_reducible refine Has.there ?_)); (case z1099hs => rfl)
          with_reducible refine Ev.bin ?_
          with_reducible refine Ev.bin ?_
          (with_reducible refine' Ev.loc ?z1102h ?_); (case z1102h => repeat (first | with_reducible exact List.mem_cons_self | with_reducible refine List.mem_cons_of_mem _ ?_))
          (with_reducible refine' Ev.loc ?z1103h ?_); (case z1103h => repeat (first | with_reducible exact List.mem_cons_self | with_reducible refine List.mem_cons_of_mem _ ?_))
          with_reducible refine Op2.subF ?_
          (with_reducible refine' Ev.loc ?z1105h ?_); (case z1105h => repeat (first | with_reducible exact List.mem_cons_self | with_reducible refine List.mem_cons_of_mem _ ?_))
          (with_reducible refine' Op2.divF ?z1106h ?_); (case z1106h => with_reducible assumption)
          with_reducible refine putS ?_
          with_reducible refine putS ?_
          with_reducible refine putS ?_
          with_reducible refine putS ?_
          with_reducible refine putS ?_
          with_reducible refine putS ?_
          with_reducible refine putS ?_
          with_reducible refine putS ?_
          with_reducible refine putS ?_
          with_reducible refine putS ?_
          with_reducible refine put0 ?_
          with_reducible refine Ss.cons ?_
          with_reducible refine S1.ite ?_
          (with_reducible refine' Te.cmp ?_ ?z1120hm); (case z1120hm => rfl)
          (with_reducible refine' Ev.loc ?z1121h ?_); (case z1121h => repeat (first | with_reducible exact List.mem_cons_self | with_reducible refine List.mem_cons_of_mem _ ?_))
          (with_reducible refine' Ev.loc ?z1122h ?_); (case z1122h => repeat (first | with_reducible exact List.mem_cons_self | with_reducible refine List.mem_cons_of_mem _ ?_))
          with_reducible refine Op2.eqF ?_
          with_reducible refine Tr.bool ?_
          with_reducible refine ite_t (by with_reducible assumption) ?_
          with_reducible refine Ss.cons ?_
          (with_reducible refine' asLk ?z1127hm ?_ ?z1127hs); (case z1127hm => repeat (first | with_reducible exact Has.here | with_reducible refine Has.there ?_)); (case z1127hs => rfl)
          with_reducible refine Ev.bin ?_
          (with_reducible refine' Ev.loc ?z1129h ?_); (case z1129h => repeat (first | with_reducible exact List.mem_cons_self | with_reducible refine List.mem_cons_of_mem _ ?_))
          (with_reducible refine' Ev.loc ?z1130h ?_); (case z1130h => repeat (first | with_reducible exact List.mem_cons_self | with_reducible refine List.mem_cons_of_mem _ ?_))
          with_reducible refine Op2.subF ?_
          with_reducible refine putS ?_
          with_reducible refine putS ?_
          with_reducible refine putS ?_
          with_reducible refine putS ?_
          with_reducible refine putS ?_
          with_reducible refine putS ?_
          with_reducible refine putS ?_
          with_reducible refine putS ?_
          with_reducible refine putS ?_
          with_reducible refine putS ?_
          with_reducible refine putS ?_
          with_reducible refine put0 ?_
          with_reducible refine Ss.nil ?_
          with_reducible refine Ss.cons ?_
          (with_reducible refine' asLk ?z1146hm ?_ ?z1146hs); (case z1146hm => repeat (first | with_reducible exact Has.here | with_reducible refine Has.there ?_)); (case z1146hs => rfl)
          with_reducible refine Ev.bin ?_
          with_reducible refine Ev.bin ?_
          (with_reducible refine' Ev.loc ?z1149h ?_); (case z1149h => repeat (first | with_reducible exact List.mem_cons_self | with_reducible refine List.mem_cons_of_mem _ ?_))
          with_reducible refine Ev.flt ?_
          (with_reducible refine' Op2.divF ?z1151h ?_); (case z1151h => with_reducible assumption)
          with_reducible refine Ev.flt ?_
          (with_reducible refine' Op2.modF ?z1153h ?_); (case z1153h => with_reducible assumption)
          with_reducible refine putS ?_
          with_reducible refine putS ?_
          with_reducible refine putS ?_
          with_reducible refine putS ?_
          with_reducible refine putS ?_
          with_reducible refine putS ?_
          with_reducible refine putS ?_
          with_reducible refine putS ?_
          with_reducible refine putS ?_
          with_reducible refine putS ?_
          with_reducible refine putS ?_
          with_reducible refine put0 ?_
          with_reducible refine Ss.cons ?_
          with_reducible refine S1.ret ?_
          with_reducible refine Ev.tup ?_
          (with_reducible refine' Evs.cons ?_ ?z1169he); (case z1169he => rfl)
          (with_reducible refine' Ev.loc ?z1170h ?_); (case z1170h => repeat (first | with_reducible exact List.mem_cons_self | with_reducible refine List.mem_cons_of_mem _ ?_))
          (with_reducible refine' Evs.cons ?_ ?z1171he); (case z1171he => rfl)
          (with_reducible refine' Ev.loc ?z1172h ?_); (case z1172h => repeat (first | with_reducible exact List.mem_cons_self | with_reducible refine List.mem_cons_of_mem _ ?_))
          (with_reducible refine' Evs.cons ?_ ?z1173he); (case z1173he => rfl)
          (with_reducible refine' Ev.loc ?z1174h ?_); (case z1174h => repeat (first | with_reducible exact List.mem_cons_self | with_reducible refine List.mem_cons_of_mem _ ?_))
          with_reducible refine Evs.nil ?_
          with_reducible refine And.intro (Nat.le_of_ble_eq_true rfl) ?_
          exact ⟨_, .ret, rfl, rfl⟩
        rw [if_neg j0] at e
        by_cases j1 : (Float64.cmp g (fMax r g b) == some .eq) = true
        · rw [if_pos j1] at e; cases e
          with_reducible refine Ss.cons ?_
          (with_reducible refine' asLk ?z1178hm ?_ ?z1178hs); (case z1178hm => repeat (first | with_reducible exact Has.here | with_reducible refine Has.there ?_)); (case z1178hs => rfl)
          (with_reducible refine' Ev.call ?_ ?z1179hp); (case z1179hp => intro _; rfl)
          (with_reducible refine' Ev.bui ?z1180h ?_ ?z1180hx); (case z1180h => with_reducible exact b_max _ _ _ _); (case z1180hx => kernel_rfl)
          (with_reducible refine' ⟨_, rfl, ?z1181k, ?_⟩); (case z1181k => with_reducible exact Kp.bui)
          (with_reducible refine' Evs.cons ?_ ?z1182he); (case z1182he => rfl)
          (with_reducible refine' Ev.loc ?z1183h ?_); (case z1183h => repeat (first | with_reducible exact List.mem_cons_self | with_reducible refine List.mem_cons_of_mem _ ?_))
          (with_reducible refine' Evs.cons ?_ ?z1184he); (case z1184he => rfl)
          (with_reducible refine' Ev.loc ?z1185h ?_); (case z1185h => repeat (first | with_reducible exact List.mem_cons_self | with_reducible refine List.mem_cons_of_mem _ ?_))
          (with_reducible refine' Evs.cons ?_ ?z1186he); (case z1186he => rfl)
          (with_reducible refine' Ev.loc ?z1187h ?_); (case z1187h => repeat (first | with_reducible exact List.mem_cons_self | with_reducible refine List.mem_cons_of_mem _ ?_))
          with_reducible refine Evs.nil ?_
          with_reducible refine Ca.max3 (by with_reducible assumption) ?_
          with_reducible refine putS ?_
          with_reducible refine putS ?_
          with_reducible refine putS ?_
          with_reducible refine put0 ?_
          with_reducible refine Ss.cons ?_
          (with_reducible refine' asLk ?z1195hm ?_ ?z1195hs); (case z1195hm => repeat (first | with_reducible exact Has.here | with_reducible refine Has.there ?_)); (case z1195hs => rfl)
          (with_reducible refine' Ev.call ?_ ?z1196hp); (case z1196hp => intro _; rfl)
          (with_reducible refine' Ev.bui ?z1197h ?_ ?z1197hx); (case z1197h => with_reducible exact b_min _ _ _ _); (case z1197hx => kernel_rfl)
          (with_reducible refine' ⟨_, rfl, ?z1198k, ?_⟩); (case z1198k => with_reducible exact Kp.bui)
          (with_reducible refine' Evs.cons ?_ ?z1199he); (case z1199he => rfl)
          (with_reducible refine' Ev.loc ?z1200h ?_); (case z1200h => repeat (first | with_reducible exact List.mem_cons_self | with_reducible refine List.mem_cons_of_mem _ ?_))
          (with_reducible refine' Evs.cons ?_ ?z1201he); (case z1201he => rfl)
          (with_reducible refine' Ev.loc ?z1202h ?_); (case z1202h => repeat (first | with_reducible exact List.mem_cons_self | with_reducible refine List.mem_cons_of_mem _ ?_))
          (with_reducible refine' Evs.cons ?_ ?z1203he); (case z1203he => rfl)
          (with_reducible refine' Ev.loc ?z1204h ?_); (case z1204h => repeat (first | with_reducible exact List.mem_cons_self | with_reducible refine List.mem_cons_of_mem _ ?_))
          with_reducible refine Evs.nil ?_
          with_reducible refine Ca.min3 (by with_reducible assumption) ?_
          with_reducible refine putS ?_
          with_reducible refine putS ?_
          with_reducible refine putS ?_
          with_reducible refine putS ?_
          with_reducible refine put0 ?_
          with_reducible refine Ss.cons ?_
          (with_reducible refine' asLk ?z1213hm ?_ ?z1213hs); (case z1213hm => repeat (first | with_reducible exact Has.here | with_reducible refine Has.there ?_)); (case z1213hs => rfl)
          with_reducible refine Ev.bin ?_
          (with_reducible refine' Ev.loc ?z1215h ?_); (case z1215h => repeat (first | with_reducible exact List.mem_cons_self | with_reducible refine List.mem_cons_of_mem _ ?_))
          (with_reducible refine' Ev.loc ?z1216h ?_); (case z1216h => repeat (first | with_reducible exact List.mem_cons_self | with_reducible refine List.mem_cons_of_mem _ ?_))
          with_reducible refine Op2.subF ?_
          with_reducible refine putS ?_
          with_reducible refine putS ?_
          with_reducible refine putS ?_
          with_reducible refine putS ?_
          with_reducible refine putS ?_
          with_reducible refine put0 ?_
          with_reducible refine Ss.cons ?_
          (with_reducible refine' asLk ?z1225hm ?_ ?z1225hs); (case z1225hm => repeat (first | with_reducible exact Has.here | with_reducible refine Has.there ?_)); (case z1225hs => rfl)
          (with_reducible refine' Ev.loc ?z1226h ?_); (case z1226h => repeat (first | with_reducible exact List.mem_cons_self | with_reducible refine List.mem_cons_of_mem _ ?_))
          with_reducible refine putS ?_
          with_reducible refine putS ?_
          with_reducible refine putS ?_
          with_reducible refine putS ?_
          with_reducible refine putS ?_
          with_reducible refine putS ?_
          with_reducible refine put0 ?_
          with_reducible refine Ss.cons ?_
          with_reducible refine S1.ite ?_
          (with_reducible refine' Te.cmp ?_ ?z1236hm); (case z1236hm => rfl)
          (with_reducible refine' Ev.loc ?z1237h ?_); (case z1237h => repeat (first | with_reducible exact List.mem_cons_self | with_reducible refine List.mem_cons_of_mem _ ?_))
          (with_reducible refine' Ev.loc ?z1238h ?_); (case z1238h => repeat (first | with_reducible exact List.mem_cons_self | with_reducible refine List.mem_cons_of_mem _ ?_))
          with_reducible refine Op2.eqF ?_
          with_reducible refine Tr.bool ?_
          with_reducible refine ite_f (by with_reducible assumption) ?_
          with_reducible refine Ss.nil ?_
          with_reducible refine Ss.cons ?_
          (with_reducible refine' asLk ?z1244hm ?_ ?z1244hs); (case z1244hm => repeat (first | with_reducible exact Has.here | with_reducible refine Has.there ?_)); (case z1244hs => rfl)
          with_reducible refine Ev.bin ?_
          (with_reducible refine' Ev.loc ?z1246h ?_); (case z1246h => repeat (first | with_reducible exact List.mem_cons_self | with_reducible refine List.mem_cons_of_mem _ ?_))
          (with_reducible refine' Ev.loc ?z1247h ?_); (case z1247h => repeat (first | with_reducible exact List.mem_cons_self | with_reducible refine List.mem_cons_of_mem _ ?_))
          (with_reducible refine' Op2.divF ?z1248h ?_); (case z1248h => with_reducible assumption)
          with_reducible refine putS ?_
          with_reducible refine putS ?_
          with_reducible refine putS ?_
          with_reducible refine putS ?_
          with_reducible refine putS ?_
          with_reducible refine putS ?_
          with_reducible refine putS ?_
          with_reducible refine put0 ?_
          with_reducible refine Ss.cons ?_
          (with_reducible refine' asLk ?z1258hm ?_ ?z1258hs); (case z1258hm => repeat (first | with_reducible exact Has.here | with_reducible refine Has.there ?_)); (case z1258hs => rfl)
          with_reducible refine Ev.bin ?_
          with_reducible refine Ev.bin ?_
          (with_reducible refine' Ev.loc ?z1261h ?_); (case z1261h => repeat (first | with_reducible exact List.mem_cons_self | with_reducible refine List.mem_cons_of_mem _ ?_))
          (with_reducible refine' Ev.loc ?z1262h ?_); (case z1262h => repeat (first | with_reducible exact List.mem_cons_self | with_reducible refine List.mem_cons_of_mem _ ?_))
          with_reducible refine Op2.subF ?_
          (with_reducible refine' Ev.loc ?z1264h ?_); (case z1264h => repeat (first | with_reducible exact List.mem_cons_self | with_reducible refine List.mem_cons_of_mem _ ?_))
          (with_reducible refine' Op2.divF ?z1265h ?_); (case z1265h => with_reducible assumption)
          with_reducible refine putS ?_
          with_reducible refine putS ?_
          with_reducible refine putS ?_
          with_reducible refine putS ?_
          with_reducible refine putS ?_
          with_reducible refine putS ?_
          with_reducible refine putS ?_
          with_reducible refine putS ?_
          with_reducible refine put0 ?_
          with_reducible refine Ss.cons ?_
          (with_reducible refine' asLk ?z1276hm ?_ ?z1276hs); (case z1276hm => repeat (first | with_reducible exact Has.here | with_reducible refine Has.there ?_)); (case z1276hs => rfl)
          with_reducible refine Ev.bin ?_
          with_reducible refine Ev.bin ?_
          (with_reducible refine' Ev.loc ?z1279h ?_); (case z1279h => repeat (first | with_reducible exact List.mem_cons_self | with_reducible refine List.mem_cons_of_mem _ ?_))
          (with_reducible refine' Ev.loc ?z1280h ?_); (case z1280h => repeat (first | with_reducible exact List.mem_cons_self | with_reducible refine List.mem_cons_of_mem _ ?_))
          with_reducible refine Op2.subF ?_
          (with_reducible refine' Ev.loc ?z1282h ?_); (case z1282h => repeat (first | with_reducible exact List.mem_cons_self | with_reducible refine List.mem_cons_of_mem _ ?_))
          (with_reducible refine' Op2.divF ?z1283h ?_); (case z1283h => with_reducible assumption)
          with_reducible refine putS ?_
          with_reducible refine putS ?_
          with_reducible refine putS ?_
          with_reducible refine putS ?_
          with_reducible refine putS ?_
          with_reducible refine putS ?_
          with_reducible refine putS ?_
          with_reducible refine putS ?_
          with_reducible refine putS ?_
          with_reducible refine put0 ?_
          with_reducible refine Ss.cons ?_
          (with_reducible refine' asLk ?z1295hm ?_ ?z1295hs); (case z1295hm => repeat (first | with_reducible exact Has.here | with_reducible refine Has.there ?_)); (case z1295hs => rfl)
          with_reducible refine Ev.bin ?_
          with_reducible refine Ev.bin ?_
          (with_reducible refine' Ev.loc ?z1298h ?_); (case z1298h => repeat (first | with_reducible exact List.mem_cons_self | with_reducible refine List.mem_cons_of_mem _ ?_))
          (with_reducible refine' Ev.loc ?z1299h ?_); (case z1299h => repeat (first | with_reducible exact List.mem_cons_self | with_reducible refine List.mem_cons_of_mem _ ?_))
          with_reducible refine Op2.subF ?_
          (with_reducible refine' Ev.loc ?z1301h ?_); (case z1301h => repeat (first | with_reducible exact List.mem_cons_self | with_reducible refine List.mem_cons_of_mem _ ?_))
          (with_reducible refine' Op2.divF ?z1302h ?_); (case z1302h => with_reducible assumption)
          with_reducible refine putS ?_
          with_reducible refine putS ?_
          with_reducible refine putS ?_
          with_reducible refine putS ?_
          with_reducible refine putS ?_
          with_reducible refine putS ?_
          with_reducible refine putS ?_
          with_reducible refine putS ?_
          with_reducible refine putS ?_
          with_reducible refine putS ?_
          with_reducible refine put0 ?_
          with_reducible refine Ss.cons ?_
          with_reducible refine S1.ite ?_
          (with_reducible refine' Te.cmp ?_ ?z1316hm); (case z1316hm => rfl)
          (with_reducible refine' Ev.loc ?z1317h ?_); (case z1317h => repeat (first | with_reducible exact List.mem_cons_self | with_reducible refine List.mem_cons_of_mem _ ?_))
          (with_reducible refine' Ev.loc ?z1318h ?_); (case z1318h => repeat (first | with_reducible exact List.mem_cons_self | with_reducible refine List.mem_cons_of_mem _ ?_))
          with_reducible refine Op2.eqF ?_
          with_reducible refine Tr.bool ?_
          with_reducible refine ite_f (by with_reducible assumption) ?_
          with_reducible refine Ss.cons ?_
          with_reducible refine S1.ite ?_
          (with_reducible refine' Te.cmp ?_ ?z1324hm); (case z1324hm => rfl)
          (with_reducible refine' Ev.loc ?z1325h ?_); (case z1325h => repeat (first | with_reducible exact List.mem_cons_self | with_reducible refine List.mem_cons_of_mem _ ?_))
          (with_reducible refine' Ev.loc ?z1326h ?_); (case z1326h => repeat (first | with_reducible exact List.mem_cons_self | with_reducible refine List.mem_cons_of_mem _ ?_))
          with_reducible refine Op2.eqF ?_
          with_reducible refine Tr.bool ?_
          with_reducible refine ite_t (by with_reducible assumption) ?_
          with_reducible refine Ss.cons ?_
          (with_reducible refine' asLk ?z1331hm ?_ ?z1331hs); (case z1331hm => repeat (first | with_reducible exact Has.here | with_reducible refine Has.there ?_)); (case z1331hs => rfl)
          with_reducible refine Ev.bin ?_
          with_reducible refine Ev.bin ?_
          with_reducible refine Ev.flt ?_
          (with_reducible refine' Ev.loc ?z1335h ?_); (case z1335h => repeat (first | with_reducible exact List.mem_cons_self | with_reducible refine List.mem_cons_of_mem _ ?_))
          with_reducible refine Op2.addF ?_
          (with_reducible refine' Ev.loc ?z1337h ?_); (case z1337h => repeat (first | with_reducible exact List.mem_cons_self | with_reducible refine List.mem_cons_of_mem _ ?_))
          with_reducible refine Op2.subF ?_
          with_reducible refine putS ?_
          with_reducible refine putS ?_
          with_reducible refine putS ?_
          with_reducible refine putS ?_
          with_reducible refine putS ?_
          with_reducible refine putS ?_
          with_reducible refine putS ?_
          with_reducible refine putS ?_
          with_reducible refine putS ?_
          with_reducible refine putS ?_
          with_reducible refine putS ?_
          with_reducible refine put0 ?_
          with_reducible refine Ss.nil ?_
          with_reducible refine Ss.nil ?_
          with_reducible refine Ss.cons ?_
          (with_reducible refine' asLk ?z1354hm ?_ ?z1354hs); (case z1354hm => repeat (first | with_reducible exact Has.here | with_reducible refine Has.there ?_)); (case z1354hs => rfl)
          with_reducible refine Ev.bin ?_
          with_reducible refine Ev.bin ?_
          (with_reducible refine' Ev.loc ?z1357h ?_); (case z1357h => repeat (first | with_reducible exact List.mem_cons_self | with_reducible refine List.mem_cons_of_mem _ ?_))
          with_reducible refine Ev.flt ?_
          (with_reducible refine' Op2.divF ?z1359h ?_); (case z1359h => with_reducible assumption)
          with_reducible refine Ev.flt ?_
          (with_reducible refine' Op2.modF ?z1361h ?_); (case z1361h => with_reducible assumption)
          with_reducible refine putS ?_
          with_reducible refine putS ?_
          with_reducible refine putS ?_
          with_reducible refine putS ?_
          with_reducible refine putS ?_
          with_reducible refine putS ?_
          with_reducible refine putS ?_
          with_reducible refine putS ?_
          with_reducible refine putS ?_
          with_reducible refine putS ?_
          with_reducible refine putS ?_
          with_reducible refine put0 ?_
          with_reducible refine Ss.cons ?_
          with_reducible refine S1.ret ?_
          with_reducible refine Ev.tup ?_
          (with_reducible refine' Evs.cons ?_ ?z1377he); (case z1377he => rfl)
          (with_reducible refine' Ev.loc ?z1378h ?_); (case z1378h => repeat (first | with_reducible exact List.mem_cons_self | with_reducible refine List.mem_cons_of_mem _ ?_))
          (with_reducible refine' Evs.cons ?_ ?z1379he); (case z1379he => rfl)
          (with_reducible refine' Ev.loc ?z1380h ?_); (case z1380h => repeat (first | with_reducible exact List.mem_cons_self | with_reducible refine List.mem_cons_of_mem _ ?_))
          (with_reducible refine' Evs.cons ?_ ?z1381he); (case z1381he => rfl)
          (with_reducible refine' Ev.loc ?z1382h ?_); (case z1382h => repeat (first | with_reducible exact List.mem_cons_self | with_reducible refine List.mem_cons_of_mem _ ?_))
          with_reducible refine Evs.nil ?_
          with_reducible refine And.intro (Nat.le_of_ble_eq_true rfl) ?_
          exact ⟨_, .ret, rfl, rfl⟩
        rw [if_neg j1] at e
        cases e
        with_reducible refine Ss.cons ?_
        (with_reducible refine' asLk ?z1386hm ?_ ?z1386hs); (case z1386hm => repeat (first | with_reducible exact Has.here | with_reducible refine Has.there ?_)); (case z1386hs => rfl)
        (with_reducible refine' Ev.call ?_ ?z1387hp); (case z1387hp => intro _; rfl)
        (with_reducible refine' Ev.bui ?z1388h ?_ ?z1388hx); (case z1388h => with_reducible exact b_max _ _ _ _); (case z1388hx => kernel_rfl)
        (with_reducible refine' ⟨_, rfl, ?z1389k, ?_⟩); (case z1389k => with_reducible exact Kp.bui)
        (with_reducible refine' Evs.cons ?_ ?z1390he); (case z1390he => rfl)
        (with_reducible refine' Ev.loc ?z1391h ?_); (case z1391h => repeat (first | with_reducible exact List.mem_cons_self | with_reducible refine List.mem_cons_of_mem _ ?_))
        (with_reducible refine' Evs.cons ?_ ?z1392he); (case z1392he => rfl)
        (with_reducible refine' Ev.loc ?z1393h ?_); (case z1393h => repeat (first | with_reducible exact List.mem_cons_self | with_reducible refine List.mem_cons_of_mem _ ?_))
        (with_reducible refine' Evs.cons ?_ ?z1394he); (case z1394he => rfl)
        (with_reducible refine' Ev.loc ?z1395h ?_); (case z1395h => repeat (first | with_reducible exact List.mem_cons_self | with_reducible refine List.mem_cons_of_mem _ ?_))
        with_reducible refine Evs.nil ?_
        with_reducible refine Ca.max3 (by with_reducible assumption) ?_
        with_reducible refine putS ?_
        with_reducible refine putS ?_
        with_reducible refine putS ?_
        with_reducible refine put0 ?_
        with_reducible refine Ss.cons ?_
        (with_reducible refine' asLk ?z1403hm ?_ ?z1403hs); (case z1403hm => repeat (first | with_reducible exact Has.here | with_reducible refine Has.there ?_)); (case z1403hs => rfl)
        (with_reducible refine' Ev.call ?_ ?z1404hp); (case z1404hp => intro _; rfl)
        (with_reducible refine' Ev.bui ?z1405h ?_ ?z1405hx); (case z1405h => with_reducible exact b_min _ _ _ _); (case z1405hx => kernel_rfl)
        (with_reducible refine' ⟨_, rfl, ?z1406k, ?_⟩); (case z1406k => with_reducible exact Kp.bui)
        (with_reducible refine' Evs.cons ?_ ?z1407he); (case z1407he => rfl)
        (with_reducible refine' Ev.loc ?z1408h ?_); (case z1408h => repeat (first | with_reducible exact List.mem_cons_self | with_reducible refine List.mem_cons_of_mem _ ?_))
        (with_reducible refine' Evs.cons ?_ ?z1409he); (case z1409he => rfl)
        (with_reducible refine' Ev.loc ?z1410h ?_); (case z1410h => repeat (first | with_reducible exact List.mem_cons_self | with_reducible refine List.mem_cons_of_mem _ ?_))
        (with_reducible refine' Evs.cons ?_ ?z1411he); (case z1411he => rfl)
        (with_reducible refine' Ev.loc ?z1412h ?_); (case z1412h => repeat (first | with_reducible exact List.mem_cons_self | with_reducible refine List.mem_cons_of_mem _ ?_))
        with_reducible refine Evs.nil ?_
        with_reducible refine Ca.min3 (by with_reducible assumption) ?_
        with_reducible refine putS ?_
        with_reducible refine putS ?_
        with_reducible refine putS ?_
        with_reducible refine putS ?_
        with_reducible refine put0 ?_
        with_reducible refine Ss.cons ?_
        (with_reducible refine' asLk ?z1421hm ?_ ?z1421hs); (case z1421hm => repeat (first | with_reducible exact Has.here | with_reducible refine Has.there ?_)); (case z1421hs => rfl)
        with_reducible refine Ev.bin ?_
        (with_reducible refine' Ev.loc ?z1423h ?_); (case z1423h => repeat (first | with_reducible exact List.mem_cons_self | with_reducible refine List.mem_cons_of_mem _ ?_))
        (with_reducible refine' Ev.loc ?z1424h ?_); (case z1424h => repeat (first | with_reducible exact List.mem_cons_self | with_reducible refine List.mem_cons_of_mem _ ?_))
        with_reducible refine Op2.subF ?_
        with_reducible refine putS ?_
        with_reducible refine putS ?_
        with_reducible refine putS ?_
        with_reducible refine putS ?_
        with_reducible refine putS ?_
        with_reducible refine put0 ?_
        with_reducible refine Ss.cons ?_
        (with_reducible refine' asLk ?z1433hm ?_ ?z1433hs); (case z1433hm => repeat (first | with_reducible exact Has.here | with_reducible refine Has.there ?_)); (case z1433hs => rfl)
        (with_reducible refine' Ev.loc ?z1434h ?_); (case z1434h => repeat (first | with_reducible exact List.mem_cons_self | with_reducible refine List.mem_cons_of_mem _ ?_))
        with_reducible refine putS ?_
        with_reducible refine putS ?_
        with_reducible refine putS ?_
        with_reducible refine putS ?_
        with_reducible refine putS ?_
        with_reducible refine putS ?_
        with_reducible refine put0 ?_
        with_reducible refine Ss.cons ?_
        with_reducible refine S1.ite ?_
        (with_reducible refine' Te.cmp ?_ ?z1444hm); (case z1444hm => rfl)
        (with_reducible refine' Ev.loc ?z1445h ?_); (case z1445h => repeat (first | with_reducible exact List.mem_cons_self | with_reducible refine List.mem_cons_of_mem _ ?_))
        (with_reducible refine' Ev.loc ?z1446h ?_); (case z1446h => repeat (first | with_reducible exact List.mem_cons_self | with_reducible refine List.mem_cons_of_mem _ ?_))
        with_reducible refine Op2.eqF ?_
        with_reducible refine Tr.bool ?_
        with_reducible refine ite_f (by with_reducible assumption) ?_
        with_reducible refine Ss.nil ?_
        with_reducible refine Ss.cons ?_
        (with_reducible refine' asLk ?z1452hm ?_ ?z1452hs); (case z1452hm => repeat (first | with_reducible exact Has.here | with_reducible refine Has.there ?_)); (case z1452hs => rfl)
        with_reducible refine Ev.bin ?_
        (with_reducible refine' Ev.loc ?z1454h ?_); (case z1454h => repeat (first | with_reducible exact List.mem_cons_self | with_reducible refine List.mem_cons_of_mem _ ?_))
        (with_reducible refine' Ev.loc ?z1455h ?_); (case z1455h => repeat (first | with_reducible exact List.mem_cons_self | with_reducible refine List.mem_cons_of_mem _ ?_))
        (with_reducible refine' Op2.divF ?z1456h ?_); (case z1456h => with_reducible assumption)
        with_reducible refine putS ?_
        with_reducible refine putS ?_
        with_reducible refine putS ?_
        with_reducible refine putS ?_
        with_reducible refine putS ?_
        with_reducible refine putS ?_
        with_reducible refine putS ?_
        with_reducible refine put0 ?_
        with_reducible refine Ss.cons ?_
        (with_reducible refine' asLk ?z1466hm ?_ ?z1466hs); (case z1466hm => repeat (first | with_reducible exact Has.here | with_reducible refine Has.there ?_)); (case z1466hs => rfl)
        with_reducible refine Ev.bin ?_
        with_reducible refine Ev.bin ?_
        (with_reducible refine' Ev.loc ?z1469h ?_); (case z1469h => repeat (first | with_reducible exact List.mem_cons_self | with_reducible refine List.mem_cons_of_mem _ ?_))
        (with_reducible refine' Ev.loc ?z1470h ?_); (case z1470h => repeat (first | with_reducible exact List.mem_cons_self | with_reducible refine List.mem_cons_of_mem _ ?_))
        with_reducible refine Op2.subF ?_
        (with_reducible refine' Ev.loc ?z1472h ?_); (case z1472h => repeat (first | with_reducible exact List.mem_cons_self | with_reducible refine List.mem_cons_of_mem _ ?_))
        (with_reducible refine' Op2.divF ?z1473h ?_); (case z1473h => with_reducible assumption)
        with_reducible refine putS ?_
        with_reducible refine putS ?_
        with_reducible refine putS ?_
        with_reducible refine putS ?_
        with_reducible refine putS ?_
        with_reducible refine putS ?_
        with_reducible refine putS ?_
        with_reducible refine putS ?_
        with_reducible refine put0 ?_
        with_reducible refine Ss.cons ?_
        (with_reducible refine' asLk ?z1484hm ?_ ?z1484hs); (case z1484hm => repeat (first | with_reducible exact Has.here | with_reducible refine Has.there ?_)); (case z1484hs => rfl)
        with_reducible refine Ev.bin ?_
        with_reducible refine Ev.bin ?_
        (with_reducible refine' Ev.loc ?z1487h ?_); (case z1487h => repeat (first | with_reducible exact List.mem_cons_self | with_reducible refine List.mem_cons_of_mem _ ?_))
        (with_reducible refine' Ev.loc ?z1488h ?_); (case z1488h => repeat (first | with_reducible exact List.mem_cons_self | with_reducible refine List.mem_cons_of_mem _ ?_))
        with_reducible refine Op2.subF ?_
        (with_reducible refine' Ev.loc ?z1490h ?_); (case z1490h => repeat (first | with_reducible exact List.mem_cons_self | with_reducible refine List.mem_cons_of_mem _ ?_))
        (with_reducible refine' Op2.divF ?z1491h ?_); (case z1491h => with_reducible assumption)
        with_reducible refine putS ?_
        with_reducible refine putS ?_
        with_reducible refine putS ?_
        with_reducible refine putS ?_
        with_reducible refine putS ?_
        with_reducible refine putS ?_
        with_reducible refine putS ?_
        with_reducible refine putS ?_
        with_reducible refine putS ?_
        with_reducible refine put0 ?_
        with_reducible refine Ss.cons ?_
        (with_reducible refine' asLk ?z1503hm ?_ ?z1503hs); (case z1503hm => repeat (first | with_reducible exact Has.here | with_reducible refine Has.there ?_)); (case z1503hs => rfl)
        with_reducible refine Ev.bin ?_
        with_reducible refine Ev.bin ?_
        (with_reducible refine' Ev.loc ?z1506h ?_); (case z1506h => repeat (first | with_reducible exact List.mem_cons_self | with_reducible refine List.mem_cons_of_mem _ ?_))
        (with_reducible refine' Ev.loc ?z1507h ?_); (case z1507h => repeat (first | with_reducible exact List.mem_cons_self | with_reducible refine List.mem_cons_of_mem _ ?_))
        with_reducible refine Op2.subF ?_
        (with_reducible refine' Ev.loc ?z1509h ?_); (case z1509h => repeat (first | with_reducible exact List.mem_cons_self | with_reducible refine List.mem_cons_of_mem _ ?_))
        (with_reducible refine' Op2.divF ?z1510h ?_); (case z1510h => with_reducible assumption)
        with_reducible refine putS ?_
        with_reducible refine putS ?_
        with_reducible refine putS ?_
        with_reducible refine putS ?_
        with_reducible refine putS ?_
        with_reducible refine putS ?_
        with_reducible refine putS ?_
        with_reducible refine putS ?_
        with_reducible refine putS ?_
        with_reducible refine putS ?_
        with_reducible refine put0 ?_
        with_reducible refine Ss.cons ?_
        with_reducible refine S1.ite ?_
        (with_reducible refine' Te.cmp ?_ ?z1524hm); (case z1524hm => rfl)
        (with_reducible refine' Ev.loc ?z1525h ?_); (case z1525h => repeat (first | with_reducible exact List.mem_cons_self | with_reducible refine List.mem_cons_of_mem _ ?_))
        (with_reducible refine' Ev.loc ?z1526h ?_); (case z1526h => repeat (first | with_reducible exact List.mem_cons_self | with_reducible refine List.mem_cons_of_mem _ ?_))
        with_reducible refine Op2.eqF ?_
        with_reducible refine Tr.bool ?_
        with_reducible refine ite_f (by with_reducible assumption) ?_
        with_reducible refine Ss.cons ?_
        with_reducible refine S1.ite ?_
        (with_reducible refine' Te.cmp ?_ ?z1532hm); (case z1532hm => rfl)
        (with_reducible refine' Ev.loc ?z1533h ?_); (case z1533h => repeat (first | with_reducible exact List.mem_cons_self | with_reducible refine List.mem_cons_of_mem _ ?_))
        (with_reducible refine' Ev.loc ?z1534h ?_); (case z1534h => repeat (first | with_reducible exact List.mem_cons_self | with_reducible refine List.mem_cons_of_mem _ ?_))
        with_reducible refine Op2.eqF ?_
        with_reducible refine Tr.bool ?_
        with_reducible refine ite_f (by with_reducible assumption) ?_
        with_reducible refine Ss.cons ?_
        (with_reducible refine' asLk ?z1539hm ?_ ?z1539hs); (case z1539hm => repeat (first | with_reducible exact Has.here | with_reducible refine Has.there ?_)); (case z1539hs => rfl)
        with_reducible refine Ev.bin ?_
        with_reducible refine Ev.bin ?_
        with_reducible refine Ev.flt ?_
        (with_reducible refine' Ev.loc ?z1543h ?_); (case z1543h => repeat (first | with_reducible exact List.mem_cons_self | with_reducible refine List.mem_cons_of_mem _ ?_))
        with_reducible refine Op2.addF ?_
        (with_reducible refine' Ev.loc ?z1545h ?_); (case z1545h => repeat (first | with_reducible exact List.mem_cons_self | with_reducible refine List.mem_cons_of_mem _ ?_))
        with_reducible refine Op2.subF ?_
        with_reducible refine putS ?_
        with_reducible refine putS ?_
        with_reducible refine putS ?_
        with_reducible refine putS ?_
        with_reducible refine putS ?_
        with_reducible refine putS ?_
        with_reducible refine putS ?_
        with_reducible refine putS ?_
        with_reducible refine putS ?_
        with_reducible refine putS ?_
        with_reducible refine putS ?_
        with_reducible refine put0 ?_
        with_reducible refine Ss.nil ?_
        with_reducible refine Ss.nil ?_
        with_reducible refine Ss.cons ?_
        (with_reducible refine' asLk ?z1562hm ?_ ?z1562hs); (case z1562hm => repeat (first | with_reducible exact Has.here | with_reducible refine Has.there ?_)); (case z1562hs => rfl)
        with_reducible refine Ev.bin ?_
        with_reducible refine Ev.bin ?_
        (with_reducible refine' Ev.loc ?z1565h ?_); (case z1565h => repeat (first | with_reducible exact List.mem_cons_self | with_reducible refine List.mem_cons_of_mem _ ?_))
        with_reducible refine Ev.flt ?_
        (with_reducible refine' Op2.divF ?z1567h ?_); (case z1567h => with_reducible assumption)
        with_reducible refine Ev.flt ?_
        (with_reducible refine' Op2.modF ?z1569h ?_); (case z1569h => with_reducible assumption)
        with_reducible refine putS ?_
        with_reducible refine putS ?_
        with_reducible refine putS ?_
        with_reducible refine putS ?_
        with_reducible refine putS ?_
        with_reducible refine putS ?_
        with_reducible refine putS ?_
        with_reducible refine putS ?_
        with_reducible refine putS ?_
        with_reducible refine putS ?_
        with_reducible refine putS ?_
        with_reducible refine put0 ?_
        with_reducible refine Ss.cons ?_
        with_reducible refine S1.ret ?_
        with_reducible refine Ev.tup ?_
        (with_reducible refine' Evs.cons ?_ ?z1585he); (case z1585he => rfl)
        (with_reducible refine' Ev.loc ?z1586h ?_); (case z1586h => repeat (first | with_reducible exact List.mem_cons_self | with_reducible refine List.mem_cons_of_mem _ ?_))
        (with_reducible refine' Evs.cons ?_ ?z1587he); (case z1587he => rfl)
        (with_reducible refine' Ev.loc ?z1588h ?_); (case z1588h => repeat (first | with_reducible exact List.mem_cons_self | with_reducible refine List.mem_cons_of_mem _ ?_))
        (with_reducible refine' Evs.cons ?_ ?z1589he); (case z1589he => rfl)
        (with_reducible refine' Ev.loc ?z1590h ?_); (case z1590h => repeat (first | with_reducible exact List.mem_cons_self | with_reducible refine List.mem_cons_of_mem _ ?_))
        with_reducible refine Evs.nil ?_
        with_reducible refine And.intro (Nat.le_of_ble_eq_true rfl) ?_
        exact ⟨_, .ret, rfl, rfl⟩
      · rw [if_neg hz] at e; cases e
end
section
variable (w : World) (mg mb : Str → Option Value) (os : OsState)
noncomputable abbrev fs1 (raw : Str) : List (Str × D) := [] ++ [(("raw" : Str), D.str raw)]
noncomputable abbrev wsFs (raw : Str) (n nt : Int) (cs : List Int) (b : Int) (sm : Bool) : List (Str × D) := [("raw", .str raw), ("n", .int n), ("nt", .int nt), ("norm", .tup [.tup (cs.map .int), .int b]), ("is_simple", .bool sm)]
noncomputable def bump (b : Nat) (cnt : List Int) : List Int := cnt.set b (cnt.getD b 0 + 1)
noncomputable def grown (b : Int) (cnt : List Int) : List Int := if (cnt.length : Int) ≤ b then cnt ++ List.replicate (b - cnt.length + 1).toNat 0 else cnt
noncomputable def wsGo : List Nat → Int → Int → Int → List Int → Int × Int × Int × List Int
  | [], n, nt, b, cnt => (n, nt, b, cnt)
  | c :: r, n, nt, b, cnt => if (c == 32) = true then wsGo r (n + 1) nt (b + 1) cnt else if (c == 9) = true then wsGo r (n + 1) (nt + 1) 0 (bump b.toNat (grown b cnt)) else (n, nt, b, cnt)
theorem bump_map (b : Nat) (cnt : List Int) : (bump b cnt).map D.int = (cnt.map D.int).set b (.int (cnt.getD b 0 + 1)) := by unfold bump; rw [List.map_set]
theorem getD_map {cnt : List Int} {b : Nat} (h : b < cnt.length) : (cnt.map D.int)[b]? = some (.int (cnt.getD b 0)) := by
  rw [List.getElem?_map, List.getElem?_eq_getElem h, List.getD_eq_getElem?_getD, List.getElem?_eq_getElem h]; rfl
noncomputable def WsEnd (raw : Str) (x dx : Addr) (n nt b : Int) (cnt : List Int) (fl : Fl) (ρ' κ' : Rho) (O' : Own) : Prop := ∃ c', fl = .next ∧ κ' = [] ∧ Fgt ρ' [("self", some (.v (.ref x))), ("ws", some (.str raw)), ("S", some (.str " ")), ("T", some (.str "\t")), ("count", some (.v (.ref c'))), ("b", some (.int b)), ("n", some (.int n)), ("nt", some (.int nt)), ("ch", none)]
      ∧ OS [(c', .list (cnt.map .int)), (x, .obj 100 dx), (dx, .dict (fs1 raw))] O' ∧ 0 ≤ b ∧ b ≤ 100000 ∧ cnt.length ≤ 100001
theorem c_wsinit (raw : Str) (x dx : Addr) (n nt b : Int) (cnt : List Int) (hraw : raw.cps.toList.length ≤ 100000) (hres : wsGo raw.cps.toList 0 0 0 [] = (n, nt, b, cnt)) :
    Cal (Γ2 w mg mb os) 1 (.ref 55) [.v (.ref x), .str raw] [] [(x, .obj 100 dx), (dx, .dict [])] fun d O' => d = .none ∧ OS [(x, .obj 100 dx), (dx, .dict (wsFs raw n nt cnt b (decide ((cnt.length : Int) ≤ 1))))] O' := by
  refine Cal.intro (params := ["self", "ws"]) (bds := [.v (.ref x), .str raw]) [("self", some (.v (.ref x))), ("ws", some (.str raw)), ("S", none), ("T", none), ("count", none), ("b", none), ("n", none), ("nt", none), ("ch", none)] [] rfl (by kernel_rfl) rfl ⟨rfl, rfl, rfl, rfl, rfl, rfl⟩
    (fun g s vs ks ok iv ik => ?_) (by decide +kernel) (by decide +kernel) (by decide +kernel) (by decide +kernel) (by kernel_rfl) (by kernel_rfl) fun A L room => ?_
  · obtain ⟨x, y, rfl, i, j⟩ := iv.two
    exact ⟨[x, y], .of_eq (by kernel_rfl), iv⟩
  · have hh := room.h
    with_reducible refine Ss.cons ?_
    (with_reducible refine' S1.as1 ?_ ?z1688hs ?z1688hw ?z1688he); (case z1688hs => rfl); (case z1688hw => rfl); (case z1688he => rfl)
    (with_reducible refine' Ev.loc ?z1689h ?_); (case z1689h => repeat (first | with_reducible exact List.mem_cons_self | with_reducible refine List.mem_cons_of_mem _ ?_))
    with_reducible refine As.attr ?_
    (with_reducible refine' Ev.loc ?z1691h ?_); (case z1691h => repeat (first | with_reducible exact List.mem_cons_self | with_reducible refine List.mem_cons_of_mem _ ?_))
    (with_reducible refine' set100 ?z1692ht ?z1692m ?z1692u ?z1692hf ?z1692hz ?_); (case z1692ht => first | with_reducible exact t_norm _ _ _ _ | with_reducible exact t_nt _ _ _ _ | with_reducible exact t_raw _ _ _ _ | with_reducible exact t_n _ _ _ _ | with_reducible exact t_is_simple _ _ _ _); (case z1692m => repeat (first | with_reducible exact List.mem_cons_self | with_reducible refine List.mem_cons_of_mem _ ?_)); (case z1692u => repeat (first | with_reducible exact List.mem_cons_self | with_reducible refine List.mem_cons_of_mem _ ?_)); (case z1692hf => kernel_rfl); (case z1692hz => exact Nat.le_of_ble_eq_true rfl)
    with_reducible refine oupS ?_
    with_reducible refine oup0 ?_
    with_reducible refine Ss.cons ?_
    refine' S1.swap2 (x := "S") (y := "T") hh ?_ ?hs ?hw
    case hs => rfl
    case hw => first | rfl | kernel_rfl
    with_reducible refine Ev.tup ?_
    (with_reducible refine' Evs.cons ?_ ?z1697he); (case z1697he => rfl)
    (with_reducible refine' Ev.attr ?_ ?z1698he); (case z1698he => rfl)
    (with_reducible refine' Ev.glo ?z1699h ?_ ?z1699hx); (case z1699h => with_reducible exact n_Whitespace _ _ _ _); (case z1699hx => kernel_rfl)
    with_reducible refine getS100 ?_
    (with_reducible refine' Evs.cons ?_ ?z1701he); (case z1701he => rfl)
    (with_reducible refine' Ev.attr ?_ ?z1702he); (case z1702he => rfl)
    (with_reducible refine' Ev.glo ?z1703h ?_ ?z1703hx); (case z1703h => with_reducible exact n_Whitespace _ _ _ _); (case z1703hx => kernel_rfl)
    with_reducible refine getT100 ?_
    with_reducible refine Evs.nil ?_
    with_reducible refine And.intro (Nat.le_of_ble_eq_true rfl) ?_
    refine ⟨_, _, rfl, ?_⟩
    with_reducible refine Asl.cons ?_
    with_reducible refine As.bind ?_
    with_reducible refine putS ?_
    with_reducible refine putS ?_
    with_reducible refine putS ?_
    with_reducible refine put0 ?_
    with_reducible refine Asl.cons ?_
    with_reducible refine As.bind ?_
    with_reducible refine putS ?_
    with_reducible refine putS ?_
    with_reducible refine put0 ?_
    with_reducible refine Asl.nil ?_
    with_reducible refine Ss.cons ?_
    (with_reducible refine' asLk ?z1720hm ?_ ?z1720hs); (case z1720hm => repeat (first | with_reducible exact Has.here | with_reducible refine Has.there ?_)); (case z1720hs => rfl)
    refine Ev.lstO ?_
    with_reducible refine Evs.nil ?_
    with_reducible refine And.intro (Nat.le_of_ble_eq_true rfl) ?_
    intro cl
    with_reducible refine putS ?_
    with_reducible refine putS ?_
    with_reducible refine putS ?_
    with_reducible refine putS ?_
    with_reducible refine put0 ?_
    with_reducible refine Ss.cons ?_
    (with_reducible refine' S1.as3n ?_ ?z1729he ?z1729hw); (case z1729he => rfl); (case z1729hw => rfl)
    with_reducible refine Ev.int ?_
    (with_reducible refine' locLk ?z1731hm ?_); (case z1731hm => repeat (first | with_reducible exact Has.here | with_reducible refine Has.there ?_))
    with_reducible refine putS ?_
    with_reducible refine putS ?_
    with_reducible refine putS ?_
    with_reducible refine putS ?_
    with_reducible refine putS ?_
    with_reducible refine put0 ?_
    (with_reducible refine' locLk ?z1738hm ?_); (case z1738hm => repeat (first | with_reducible exact Has.here | with_reducible refine Has.there ?_))
    with_reducible refine putS ?_
    with_reducible refine putS ?_
    with_reducible refine putS ?_
    with_reducible refine putS ?_
    with_reducible refine putS ?_
    with_reducible refine putS ?_
    with_reducible refine put0 ?_
    (with_reducible refine' locLk ?z1746hm ?_); (case z1746hm => repeat (first | with_reducible exact Has.here | with_reducible refine Has.there ?_))
    with_reducible refine putS ?_
    with_reducible refine putS ?_
    with_reducible refine putS ?_
    with_reducible refine putS ?_
    with_reducible refine putS ?_
    with_reducible refine putS ?_
    with_reducible refine putS ?_
    with_reducible refine put0 ?_
    with_reducible refine Ss.cons ?_
    refine S1.mono (Q := WsEnd raw x dx n nt b cnt) ?_ ?_
    · refine' S1.forIn (σ := Int × Int × Int × List Int × Addr) (fun st => [("self", some (.v (.ref x))), ("ws", some (.str raw)), ("S", some (.str " ")), ("T", some (.str "\t")), ("count", some (.v (.ref st.2.2.2.2))), ("b", some (.int st.2.2.1)), ("n", some (.int st.1)), ("nt", some (.int st.2.1)), ("ch", none)]) (fun _ => [])
        (fun st => [(st.2.2.2.2, .list (st.2.2.2.1.map .int)), (x, .obj 100 dx), (dx, .dict (fs1 raw))])
        (fun st ds => ∃ rest : List Nat, ds = signs rest ∧ 0 ≤ st.2.2.1 ∧ st.2.2.1 + rest.length ≤ 100000 ∧ st.2.2.2.1.length ≤ 100001 ∧ wsGo rest st.1 st.2.1 st.2.2.1 st.2.2.2.1 = (n, nt, b, cnt)) hh ?_ ?_ ?_ ?hp ?hs
      case hp => rfl
      case hs => exact fun _ => rfl
      · (with_reducible refine' Ev.attr ?_ ?z1756he); (case z1756he => rfl)
        (with_reducible refine' Ev.loc ?z1757h ?_); (case z1757h => repeat (first | with_reducible exact List.mem_cons_self | with_reducible refine List.mem_cons_of_mem _ ?_))
        (with_reducible refine' attr100 ?z1758ha ?z1758o ?_); (case z1758ha => first | with_reducible exact a_norm _ _ _ _ | with_reducible exact a_nt _ _ _ _ | with_reducible exact a_raw _ _ _ _ | with_reducible exact a_n _ _ _ _); (case z1758o => (with_reducible refine' ObjOf.own ?z1758h1 ?z1758h2); (case z1758h1 => repeat (first | with_reducible exact List.mem_cons_self | with_reducible refine List.mem_cons_of_mem _ ?_)); (case z1758h2 => repeat (first | with_reducible exact List.mem_cons_self | with_reducible refine List.mem_cons_of_mem _ ?_)))
        (with_reducible refine' fatL ?z1759h ?_); (case z1759h => kernel_rfl)
        (with_reducible refine' hq ?z1760h ?_); (case z1760h => rfl)
        with_reducible refine GetI.str (fun _ => ?_)
        refine ⟨(0, 0, 0, [], cl), _, .refl, rfl, rfl, raw.cps.toList, rfl, Int.le_refl _, ?_, Nat.zero_le _, hres⟩
        dsimp only; omega
      · rintro I ⟨n', nt', b', cnt', cl'⟩ d ds ⟨rest, e1, hb0, hb1, hc1, hgo⟩
        dsimp only at hb0 hb1 hc1 hgo ⊢
        cases rest with
        | nil => cases e1
        | cons c r =>
          obtain ⟨e11, e12⟩ := List.cons.inj e1
          subst e11 e12
          rw [List.length_cons] at hb1
          unfold wsGo at hgo
          have h32 : ((⟨#[c]⟩ : Str) == (" " : Str)) = (c == 32) := by rw [spaceIs]; exact sgn c 32
          have h9 : ((⟨#[c]⟩ : Str) == ("\t" : Str)) = (c == 9) := by rw [tabIs]; exact sgn c 9
          by_cases k32 : (c == 32) = true
          · rw [if_pos k32] at hgo
            have k : ((⟨#[c]⟩ : Str) == (" " : Str)) = true := h32.trans k32
            (with_reducible refine' locLk ?z1762hm ?_); (case z1762hm => repeat (first | with_reducible exact Has.here | with_reducible refine Has.there ?_))
            with_reducible refine putS ?_
            with_reducible refine putS ?_
            with_reducible refine putS ?_
            with_reducible refine putS ?_
            with_reducible refine putS ?_
            with_reducible refine putS ?_
            with_reducible refine putS ?_
            with_reducible refine putS ?_
            with_reducible refine put0 ?_
            with_reducible refine Ss.cons ?_
            with_reducible refine S1.ite ?_
            (with_reducible refine' Te.cmp ?_ ?z1774hm); (case z1774hm => rfl)
            (with_reducible refine' Ev.loc ?z1775h ?_); (case z1775h => repeat (first | with_reducible exact List.mem_cons_self | with_reducible refine List.mem_cons_of_mem _ ?_))
            (with_reducible refine' Ev.loc ?z1776h ?_); (case z1776h => repeat (first | with_reducible exact List.mem_cons_self | with_reducible refine List.mem_cons_of_mem _ ?_))
            with_reducible refine Op2.eqS ?_
            with_reducible refine Tr.bool ?_
            with_reducible refine ite_t (by with_reducible assumption) ?_
            with_reducible refine Ss.cons ?_
            (with_reducible refine' asLk ?z1781hm ?_ ?z1781hs); (case z1781hm => repeat (first | with_reducible exact Has.here | with_reducible refine Has.there ?_)); (case z1781hs => rfl)
            with_reducible refine Ev.bin ?_
            (with_reducible refine' Ev.loc ?z1783h ?_); (case z1783h => repeat (first | with_reducible exact List.mem_cons_self | with_reducible refine List.mem_cons_of_mem _ ?_))
            with_reducible refine Ev.int ?_
            with_reducible refine Op2.addI ?_
            with_reducible refine putS ?_
            with_reducible refine putS ?_
            with_reducible refine putS ?_
            with_reducible refine putS ?_
            with_reducible refine putS ?_
            with_reducible refine putS ?_
            with_reducible refine put0 ?_
            with_reducible refine Ss.cons ?_
            (with_reducible refine' asLk ?z1794hm ?_ ?z1794hs); (case z1794hm => repeat (first | with_reducible exact Has.here | with_reducible refine Has.there ?_)); (case z1794hs => rfl)
            with_reducible refine Ev.bin ?_
            (with_reducible refine' Ev.loc ?z1796h ?_); (case z1796h => repeat (first | with_reducible exact List.mem_cons_self | with_reducible refine List.mem_cons_of_mem _ ?_))
            with_reducible refine Ev.int ?_
            with_reducible refine Op2.addI ?_
            with_reducible refine putS ?_
            with_reducible refine putS ?_
            with_reducible refine putS ?_
            with_reducible refine putS ?_
            with_reducible refine putS ?_
            with_reducible refine put0 ?_
            with_reducible refine Ss.nil ?_
            with_reducible refine Ss.nil ?_
            exact ⟨(n' + 1, nt', b' + 1, cnt', cl'), .keep (.keep (.keep (.keep (.keep (.keep (.keep (.keep (.drop .nil)))))))), rfl, .refl, r, rfl, by dsimp only; omega, by dsimp only; omega, hc1, hgo⟩
          · rw [if_neg k32] at hgo
            have k : ¬ ((⟨#[c]⟩ : Str) == (" " : Str)) = true := by rw [h32]; exact k32
            by_cases k9 : (c == 9) = true
            · rw [if_pos k9] at hgo
              have k' : ((⟨#[c]⟩ : Str) == ("\t" : Str)) = true := h9.trans k9
              have hlen : (cnt'.map D.int).length < 2 ^ 62 := by rw [List.length_map]; omega
              have hlm : (cnt'.map D.int).length = cnt'.length := List.length_map ..
              by_cases kg : (decide ((((cnt'.map D.int).length : Nat) : Int) ≤ b')) = true
              · have kg' : (cnt'.length : Int) ≤ b' := by have := of_decide_eq_true kg; rwa [List.length_map] at this
                have eg : grown b' cnt' = cnt' ++ List.replicate (b' - cnt'.length + 1).toNat 0 := if_pos kg'
                have hgl : ((grown b' cnt').length : Int) = b' + 1 := by rw [eg, List.length_append, List.length_replicate]; omega
                have kd := of_decide_eq_true kg
                (with_reducible refine' locLk ?z1807hm ?_); (case z1807hm => repeat (first | with_reducible exact Has.here | with_reducible refine Has.there ?_))
                with_reducible refine putS ?_
                with_reducible refine putS ?_
                with_reducible refine putS ?_
                with_reducible refine putS ?_
                with_reducible refine putS ?_
                with_reducible refine putS ?_
                with_reducible refine putS ?_
                with_reducible refine putS ?_
                with_reducible refine put0 ?_
                with_reducible refine Ss.cons ?_
                with_reducible refine S1.ite ?_
                (with_reducible refine' Te.cmp ?_ ?z1819hm); (case z1819hm => rfl)
                (with_reducible refine' Ev.loc ?z1820h ?_); (case z1820h => repeat (first | with_reducible exact List.mem_cons_self | with_reducible refine List.mem_cons_of_mem _ ?_))
                (with_reducible refine' Ev.loc ?z1821h ?_); (case z1821h => repeat (first | with_reducible exact List.mem_cons_self | with_reducible refine List.mem_cons_of_mem _ ?_))
                with_reducible refine Op2.eqS ?_
                with_reducible refine Tr.bool ?_
                with_reducible refine ite_f (by with_reducible assumption) ?_
                with_reducible refine Ss.cons ?_
                with_reducible refine S1.ite ?_
                (with_reducible refine' Te.cmp ?_ ?z1827hm); (case z1827hm => rfl)
                (with_reducible refine' Ev.loc ?z1828h ?_); (case z1828h => repeat (first | with_reducible exact List.mem_cons_self | with_reducible refine List.mem_cons_of_mem _ ?_))
                (with_reducible refine' Ev.loc ?z1829h ?_); (case z1829h => repeat (first | with_reducible exact List.mem_cons_self | with_reducible refine List.mem_cons_of_mem _ ?_))
                with_reducible refine Op2.eqS ?_
                with_reducible refine Tr.bool ?_
                with_reducible refine ite_t (by with_reducible assumption) ?_
                with_reducible refine Ss.cons ?_
                (with_reducible refine' asLk ?z1834hm ?_ ?z1834hs); (case z1834hm => repeat (first | with_reducible exact Has.here | with_reducible refine Has.there ?_)); (case z1834hs => rfl)
                with_reducible refine Ev.bin ?_
                (with_reducible refine' Ev.loc ?z1836h ?_); (case z1836h => repeat (first | with_reducible exact List.mem_cons_self | with_reducible refine List.mem_cons_of_mem _ ?_))
                with_reducible refine Ev.int ?_
                with_reducible refine Op2.addI ?_
                with_reducible refine putS ?_
                with_reducible refine putS ?_
                with_reducible refine putS ?_
                with_reducible refine putS ?_
                with_reducible refine putS ?_
                with_reducible refine putS ?_
                with_reducible refine put0 ?_
                with_reducible refine Ss.cons ?_
                (with_reducible refine' asLk ?z1847hm ?_ ?z1847hs); (case z1847hm => repeat (first | with_reducible exact Has.here | with_reducible refine Has.there ?_)); (case z1847hs => rfl)
                with_reducible refine Ev.bin ?_
                (with_reducible refine' Ev.loc ?z1849h ?_); (case z1849h => repeat (first | with_reducible exact List.mem_cons_self | with_reducible refine List.mem_cons_of_mem _ ?_))
                with_reducible refine Ev.int ?_
                with_reducible refine Op2.addI ?_
                with_reducible refine putS ?_
                with_reducible refine putS ?_
                with_reducible refine putS ?_
                with_reducible refine putS ?_
                with_reducible refine putS ?_
                with_reducible refine putS ?_
                with_reducible refine putS ?_
                with_reducible refine put0 ?_
                with_reducible refine Ss.cons ?_
                with_reducible refine S1.ite ?_
                (with_reducible refine' Te.cmp ?_ ?z1862hm); (case z1862hm => rfl)
                (with_reducible refine' Ev.loc ?z1863h ?_); (case z1863h => repeat (first | with_reducible exact List.mem_cons_self | with_reducible refine List.mem_cons_of_mem _ ?_))
                (with_reducible refine' Ev.call ?_ ?z1864hp); (case z1864hp => intro _; rfl)
                (with_reducible refine' Ev.bui ?z1865h ?_ ?z1865hx); (case z1865h => with_reducible exact b_len _ _ _ _); (case z1865hx => kernel_rfl)
                (with_reducible refine' ⟨_, rfl, ?z1866k, ?_⟩); (case z1866k => with_reducible exact Kp.bui)
                (with_reducible refine' Evs.cons ?_ ?z1867he); (case z1867he => rfl)
                (with_reducible refine' Ev.loc ?z1868h ?_); (case z1868h => repeat (first | with_reducible exact List.mem_cons_self | with_reducible refine List.mem_cons_of_mem _ ?_))
                with_reducible refine Evs.nil ?_
                (with_reducible refine' Ca.len ?z1870l ?z1870h ?_); (case z1870l => first | with_reducible exact LstOf.frz | ((with_reducible refine' LstOf.own ?z1870hm); (case z1870hm => repeat (first | with_reducible exact List.mem_cons_self | with_reducible refine List.mem_cons_of_mem _ ?_)))); (case z1870h => with_reducible assumption)
                with_reducible refine Op2.geI ?_
                with_reducible refine Tr.bool ?_
                with_reducible refine ite_t (by with_reducible assumption) ?_
                with_reducible refine Ss.cons ?_
                (with_reducible refine' asLk ?z1875hm ?_ ?z1875hs); (case z1875hm => repeat (first | with_reducible exact Has.here | with_reducible refine Has.there ?_)); (case z1875hs => rfl)
                with_reducible refine Ev.bin ?_
                (with_reducible refine' Ev.loc ?z1877h ?_); (case z1877h => repeat (first | with_reducible exact List.mem_cons_self | with_reducible refine List.mem_cons_of_mem _ ?_))
                with_reducible refine Ev.bin ?_
                refine Ev.lst ?_
                (with_reducible refine' Evs.cons ?_ ?z1879he); (case z1879he => rfl)
                with_reducible refine Ev.int ?_
                with_reducible refine Evs.nil ?_
                with_reducible refine And.intro (Nat.le_of_ble_eq_true rfl) ?_
                with_reducible refine Ev.bin ?_
                with_reducible refine Ev.bin ?_
                (with_reducible refine' Ev.loc ?z1885h ?_); (case z1885h => repeat (first | with_reducible exact List.mem_cons_self | with_reducible refine List.mem_cons_of_mem _ ?_))
                (with_reducible refine' Ev.call ?_ ?z1886hp); (case z1886hp => intro _; rfl)
                (with_reducible refine' Ev.bui ?z1887h ?_ ?z1887hx); (case z1887h => with_reducible exact b_len _ _ _ _); (case z1887hx => kernel_rfl)
                (with_reducible refine' ⟨_, rfl, ?z1888k, ?_⟩); (case z1888k => with_reducible exact Kp.bui)
                (with_reducible refine' Evs.cons ?_ ?z1889he); (case z1889he => rfl)
                (with_reducible refine' Ev.loc ?z1890h ?_); (case z1890h => repeat (first | with_reducible exact List.mem_cons_self | with_reducible refine List.mem_cons_of_mem _ ?_))
                with_reducible refine Evs.nil ?_
                (with_reducible refine' Ca.len ?z1892l ?z1892h ?_); (case z1892l => first | with_reducible exact LstOf.frz | ((with_reducible refine' LstOf.own ?z1892hm); (case z1892hm => repeat (first | with_reducible exact List.mem_cons_self | with_reducible refine List.mem_cons_of_mem _ ?_)))); (case z1892h => with_reducible assumption)
                with_reducible refine Op2.subI ?_
                with_reducible refine Ev.int ?_
                with_reducible refine Op2.addI ?_
                refine' Op2.mulL1 LstOf.frz ?a ?b ?_
                case a => omega
                case b => omega
                have hg : cnt'.map D.int ++ List.replicate (b' - ((cnt'.map D.int).length : Nat) + 1).toNat (.int 0) = (grown b' cnt').map D.int := by rw [eg, hlm]; simp
                refine' Op2.addLO (LstOf.own (.tail _ (.head _))) LstOf.frz ?c ?_
                case c => rw [List.length_replicate, hlm]; unfold sizeLine; omega
                rw [hg]
                intro c2
                have hit : ((grown b' cnt').map D.int)[b'.toNat]? = some (.int ((grown b' cnt').getD b'.toNat 0)) := getD_map (by omega)
                have hgm : ((grown b' cnt').map D.int).length = (grown b' cnt').length := List.length_map ..
                with_reducible refine putS ?_
                with_reducible refine putS ?_
                with_reducible refine putS ?_
                with_reducible refine putS ?_
                with_reducible refine put0 ?_
                with_reducible refine Ss.nil ?_
                with_reducible refine Ss.cons ?_
                (with_reducible refine' S1.as1 ?_ ?z1903hs ?z1903hw ?z1903he); (case z1903hs => rfl); (case z1903hw => rfl); (case z1903he => rfl)
                with_reducible refine Ev.bin ?_
                with_reducible refine Ev.sub ?_
                (with_reducible refine' Ev.loc ?z1906h ?_); (case z1906h => repeat (first | with_reducible exact List.mem_cons_self | with_reducible refine List.mem_cons_of_mem _ ?_))
                (with_reducible refine' Ev.loc ?z1907h ?_); (case z1907h => repeat (first | with_reducible exact List.mem_cons_self | with_reducible refine List.mem_cons_of_mem _ ?_))
                (with_reducible refine' Op2.itemL ?z1908l ?z1908a ?z1908b ?z1908d ?_ ?z1908hs); (case z1908l => first | with_reducible exact LstOf.frz | ((with_reducible refine' LstOf.own ?z1908hm); (case z1908hm => repeat (first | with_reducible exact List.mem_cons_self | with_reducible refine List.mem_cons_of_mem _ ?_)))); (case z1908a => with_reducible assumption); (case z1908b => omega); (case z1908d => first | with_reducible assumption | rfl); (case z1908hs => intros; rfl)
                with_reducible refine Ev.int ?_
                with_reducible refine Op2.addI ?_
                with_reducible refine As.sub ?_
                (with_reducible refine' Ev.loc ?z1912h ?_); (case z1912h => repeat (first | with_reducible exact List.mem_cons_self | with_reducible refine List.mem_cons_of_mem _ ?_))
                (with_reducible refine' Ev.loc ?z1913h ?_); (case z1913h => repeat (first | with_reducible exact List.mem_cons_self | with_reducible refine List.mem_cons_of_mem _ ?_))
                (with_reducible refine' setLk ?z1914a ?z1914b ?z1914c ?z1914m ?_); (case z1914m => repeat (first | with_reducible exact List.mem_cons_self | with_reducible refine List.mem_cons_of_mem _ ?_)); (case z1914a => with_reducible assumption); (case z1914b => omega); (case z1914c => omega)
                with_reducible refine oup0 ?_
                with_reducible refine Ss.cons ?_
                (with_reducible refine' asLk ?z1917hm ?_ ?z1917hs); (case z1917hm => repeat (first | with_reducible exact Has.here | with_reducible refine Has.there ?_)); (case z1917hs => rfl)
                with_reducible refine Ev.int ?_
                with_reducible refine putS ?_
                with_reducible refine putS ?_
                with_reducible refine putS ?_
                with_reducible refine putS ?_
                with_reducible refine putS ?_
                with_reducible refine put0 ?_
                with_reducible refine Ss.nil ?_
                with_reducible refine Ss.nil ?_
                with_reducible refine Ss.nil ?_
                refine ⟨(n' + 1, nt' + 1, 0, bump b'.toNat (grown b' cnt'), c2), .keep (.keep (.keep (.keep (.keep (.keep (.keep (.keep (.drop .nil)))))))), rfl, ?_, r, rfl, Int.le_refl _, by dsimp only; omega, ?_, hgo⟩
                · dsimp only
                  rw [bump_map]
                  exact OS.swap (.cons_cons _ (.cons_cons _ (.cons _ (List.Sublist.refl _))))
                · dsimp only; unfold bump; rw [List.length_set]; omega
              · have kg' : ¬ (cnt'.length : Int) ≤ b' := by have := of_decide_eq_false (Bool.not_eq_true _ ▸ kg); rwa [List.length_map] at this
                have eg : grown b' cnt' = cnt' := if_neg kg'
                rw [eg] at hgo
                have hit : (cnt'.map D.int)[b'.toNat]? = some (.int (cnt'.getD b'.toNat 0)) := getD_map (by omega)
                (with_reducible refine' locLk ?z1928hm ?_); (case z1928hm => repeat (first | with_reducible exact Has.here | with_reducible refine Has.there ?_))
                with_reducible refine putS ?_
                with_reducible refine putS ?_
                with_reducible refine putS ?_
                with_reducible refine putS ?_
                with_reducible refine putS ?_
                with_reducible refine putS ?_
                with_reducible refine putS ?_
                with_reducible refine putS ?_
                with_reducible refine put0 ?_
                with_reducible refine Ss.cons ?_
                with_reducible refine S1.ite ?_
                (with_reducible refine' Te.cmp ?_ ?z1940hm); (case z1940hm => rfl)
                (with_reducible refine' Ev.loc ?z1941h ?_); (case z1941h => repeat (first | with_reducible exact List.mem_cons_self | with_reducible refine List.mem_cons_of_mem _ ?_))
                (with_reducible refine' Ev.loc ?z1942h ?_); (case z1942h => repeat (first | with_reducible exact List.mem_cons_self | with_reducible refine List.mem_cons_of_mem _ ?_))
                with_reducible refine Op2.eqS ?_
                with_reducible refine Tr.bool ?_
                with_reducible refine ite_f (by with_reducible assumption) ?_
                with_reducible refine Ss.cons ?_
                with_reducible refine S1.ite ?_
                (with_reducible refine' Te.cmp ?_ ?z1948hm); (case z1948hm => rfl)
                (with_reducible refine' Ev.loc ?z1949h ?_); (case z1949h => repeat (first | with_reducible exact List.mem_cons_self | with_reducible refine List.mem_cons_of_mem _ ?_))
                (with_reducible refine' Ev.loc ?z1950h ?_); (case z1950h => repeat (first | with_reducible exact List.mem_cons_self | with_reducible refine List.mem_cons_of_mem _ ?_))
                with_reducible refine Op2.eqS ?_
                with_reducible refine Tr.bool ?_
                with_reducible refine ite_t (by with_reducible assumption) ?_
                with_reducible refine Ss.cons ?_
                (with_reducible refine' asLk ?z1955hm ?_ ?z1955hs); (case z1955hm => repeat (first | with_reducible exact Has.here | with_reducible refine Has.there ?_)); (case z1955hs => rfl)
                with_reducible refine Ev.bin ?_
                (with_reducible refine' Ev.loc ?z1957h ?_); (case z1957h => repeat (first | with_reducible exact List.mem_cons_self | with_reducible refine List.mem_cons_of_mem _ ?_))
                with_reducible refine Ev.int ?_
                with_reducible refine Op2.addI ?_
                with_reducible refine putS ?_
                with_reducible refine putS ?_
                with_reducible refine putS ?_
                with_reducible refine putS ?_
                with_reducible refine putS ?_
                with_reducible refine putS ?_
                with_reducible refine put0 ?_
                with_reducible refine Ss.cons ?_
                (with_reducible refine' asLk ?z1968hm ?_ ?z1968hs); (case z1968hm => repeat (first | with_reducible exact Has.here | with_reducible refine Has.there ?_)); (case z1968hs => rfl)
                with_reducible refine Ev.bin ?_
                (with_reducible refine' Ev.loc ?z1970h ?_); (case z1970h => repeat (first | with_reducible exact List.mem_cons_self | with_reducible refine List.mem_cons_of_mem _ ?_))
                with_reducible refine Ev.int ?_
                with_reducible refine Op2.addI ?_
                with_reducible refine putS ?_
                with_reducible refine putS ?_
                with_reducible refine putS ?_
                with_reducible refine putS ?_
                with_reducible refine putS ?_
                with_reducible refine putS ?_
                with_reducible refine putS ?_
                with_reducible refine put0 ?_
                with_reducible refine Ss.cons ?_
                with_reducible refine S1.ite ?_
                (with_reducible refine' Te.cmp ?_ ?z1983hm); (case z1983hm => rfl)
                (with_reducible refine' Ev.loc ?z1984h ?_); (case z1984h => repeat (first | with_reducible exact List.mem_cons_self | with_reducible refine List.mem_cons_of_mem _ ?_))
                (with_reducible refine' Ev.call ?_ ?z1985hp); (case z1985hp => intro _; rfl)
                (with_reducible refine' Ev.bui ?z1986h ?_ ?z1986hx); (case z1986h => with_reducible exact b_len _ _ _ _); (case z1986hx => kernel_rfl)
                (with_reducible refine' ⟨_, rfl, ?z1987k, ?_⟩); (case z1987k => with_reducible exact Kp.bui)
                (with_reducible refine' Evs.cons ?_ ?z1988he); (case z1988he => rfl)
                (with_reducible refine' Ev.loc ?z1989h ?_); (case z1989h => repeat (first | with_reducible exact List.mem_cons_self | with_reducible refine List.mem_cons_of_mem _ ?_))
                with_reducible refine Evs.nil ?_
                (with_reducible refine' Ca.len ?z1991l ?z1991h ?_); (case z1991l => first | with_reducible exact LstOf.frz | ((with_reducible refine' LstOf.own ?z1991hm); (case z1991hm => repeat (first | with_reducible exact List.mem_cons_self | with_reducible refine List.mem_cons_of_mem _ ?_)))); (case z1991h => with_reducible assumption)
                with_reducible refine Op2.geI ?_
                with_reducible refine Tr.bool ?_
                with_reducible refine ite_f (by with_reducible assumption) ?_
                with_reducible refine Ss.nil ?_
                with_reducible refine Ss.cons ?_
                (with_reducible refine' S1.as1 ?_ ?z1997hs ?z1997hw ?z1997he); (case z1997hs => rfl); (case z1997hw => rfl); (case z1997he => rfl)
                with_reducible refine Ev.bin ?_
                with_reducible refine Ev.sub ?_
                (with_reducible refine' Ev.loc ?z2000h ?_); (case z2000h => repeat (first | with_reducible exact List.mem_cons_self | with_reducible refine List.mem_cons_of_mem _ ?_))
                (with_reducible refine' Ev.loc ?z2001h ?_); (case z2001h => repeat (first | with_reducible exact List.mem_cons_self | with_reducible refine List.mem_cons_of_mem _ ?_))
                (with_reducible refine' Op2.itemL ?z2002l ?z2002a ?z2002b ?z2002d ?_ ?z2002hs); (case z2002l => first | with_reducible exact LstOf.frz | ((with_reducible refine' LstOf.own ?z2002hm); (case z2002hm => repeat (first | with_reducible exact List.mem_cons_self | with_reducible refine List.mem_cons_of_mem _ ?_)))); (case z2002a => with_reducible assumption); (case z2002b => omega); (case z2002d => first | with_reducible assumption | rfl); (case z2002hs => intros; rfl)
                with_reducible refine Ev.int ?_
                with_reducible refine Op2.addI ?_
                with_reducible refine As.sub ?_
                (with_reducible refine' Ev.loc ?z2006h ?_); (case z2006h => repeat (first | with_reducible exact List.mem_cons_self | with_reducible refine List.mem_cons_of_mem _ ?_))
                (with_reducible refine' Ev.loc ?z2007h ?_); (case z2007h => repeat (first | with_reducible exact List.mem_cons_self | with_reducible refine List.mem_cons_of_mem _ ?_))
                (with_reducible refine' setLk ?z2008a ?z2008b ?z2008c ?z2008m ?_); (case z2008m => repeat (first | with_reducible exact List.mem_cons_self | with_reducible refine List.mem_cons_of_mem _ ?_)); (case z2008a => with_reducible assumption); (case z2008b => omega); (case z2008c => omega)
                with_reducible refine oupS ?_
                with_reducible refine oup0 ?_
                with_reducible refine Ss.cons ?_
                (with_reducible refine' asLk ?z2012hm ?_ ?z2012hs); (case z2012hm => repeat (first | with_reducible exact Has.here | with_reducible refine Has.there ?_)); (case z2012hs => rfl)
                with_reducible refine Ev.int ?_
                with_reducible refine putS ?_
                with_reducible refine putS ?_
                with_reducible refine putS ?_
                with_reducible refine putS ?_
                with_reducible refine putS ?_
                with_reducible refine put0 ?_
                with_reducible refine Ss.nil ?_
                with_reducible refine Ss.nil ?_
                with_reducible refine Ss.nil ?_
                refine ⟨(n' + 1, nt' + 1, 0, bump b'.toNat cnt', cl'), .keep (.keep (.keep (.keep (.keep (.keep (.keep (.keep (.drop .nil)))))))), rfl, ?_, r, rfl, Int.le_refl _, by dsimp only; omega, ?_, hgo⟩
                · dsimp only
                  rw [bump_map]
                  exact .refl
                · dsimp only; unfold bump; rw [List.length_set]; exact hc1
            · rw [if_neg k9] at hgo
              have k' : ¬ ((⟨#[c]⟩ : Str) == ("\t" : Str)) = true := by rw [h9]; exact k9
              cases hgo
              (with_reducible refine' locLk ?z2023hm ?_); (case z2023hm => repeat (first | with_reducible exact Has.here | with_reducible refine Has.there ?_))
              with_reducible refine putS ?_
              with_reducible refine putS ?_
              with_reducible refine putS ?_
              with_reducible refine putS ?_
              with_reducible refine putS ?_
              with_reducible refine putS ?_
              with_reducible refine putS ?_
              with_reducible refine putS ?_
              with_reducible refine put0 ?_
              with_reducible refine Ss.cons ?_
              with_reducible refine S1.ite ?_
              (with_reducible refine' Te.cmp ?_ ?z2035hm); (case z2035hm => rfl)
              (with_reducible refine' Ev.loc ?z2036h ?_); (case z2036h => repeat (first | with_reducible exact List.mem_cons_self | with_reducible refine List.mem_cons_of_mem _ ?_))
              (with_reducible refine' Ev.loc ?z2037h ?_); (case z2037h => repeat (first | with_reducible exact List.mem_cons_self | with_reducible refine List.mem_cons_of_mem _ ?_))
              with_reducible refine Op2.eqS ?_
              with_reducible refine Tr.bool ?_
              with_reducible refine ite_f (by with_reducible assumption) ?_
              with_reducible refine Ss.cons ?_
              with_reducible refine S1.ite ?_
              (with_reducible refine' Te.cmp ?_ ?z2043hm); (case z2043hm => rfl)
              (with_reducible refine' Ev.loc ?z2044h ?_); (case z2044h => repeat (first | with_reducible exact List.mem_cons_self | with_reducible refine List.mem_cons_of_mem _ ?_))
              (with_reducible refine' Ev.loc ?z2045h ?_); (case z2045h => repeat (first | with_reducible exact List.mem_cons_self | with_reducible refine List.mem_cons_of_mem _ ?_))
              with_reducible refine Op2.eqS ?_
              with_reducible refine Tr.bool ?_
              with_reducible refine ite_f (by with_reducible assumption) ?_
              with_reducible refine Ss.cons ?_
              with_reducible refine S1.brk ?_
              exact ⟨cl', rfl, rfl, .keep (.keep (.keep (.keep (.keep (.keep (.keep (.keep (.drop .nil)))))))), .of (.cons _ (List.Sublist.refl _)), hb0, by omega, hc1⟩
      · rintro ⟨n', nt', b', cnt', cl'⟩ ⟨rest, e1, hb0, hb1, hc1, hgo⟩
        cases rest with
        | cons c r => cases e1
        | nil =>
          cases hgo
          exact ⟨cl', rfl, rfl, .refl, .refl, hb0, by dsimp only at hb1; simp at hb1; omega, hc1⟩
    · rintro fl ρ' κ' O' ⟨c', rfl, rfl, hf, ho, hb0, hb1, hc1⟩
      refine Exs.weak hf ho ?_
      have hlen : (cnt.map D.int).length < 2 ^ 62 := by rw [List.length_map]; omega
      have hlz : (cnt.map D.int).length ≤ sizeLine := by rw [List.length_map]; unfold sizeLine; omega
      have hlm : (cnt.map D.int).length = cnt.length := List.length_map ..
      with_reducible refine Ss.cons ?_
      (with_reducible refine' S1.as1 ?_ ?z2052hs ?z2052hw ?z2052he); (case z2052hs => rfl); (case z2052hw => rfl); (case z2052he => rfl)
      (with_reducible refine' Ev.loc ?z2053h ?_); (case z2053h => repeat (first | with_reducible exact List.mem_cons_self | with_reducible refine List.mem_cons_of_mem _ ?_))
      with_reducible refine As.attr ?_
      (with_reducible refine' Ev.loc ?z2055h ?_); (case z2055h => repeat (first | with_reducible exact List.mem_cons_self | with_reducible refine List.mem_cons_of_mem _ ?_))
      (with_reducible refine' set100 ?z2056ht ?z2056m ?z2056u ?z2056hf ?z2056hz ?_); (case z2056ht => first | with_reducible exact t_norm _ _ _ _ | with_reducible exact t_nt _ _ _ _ | with_reducible exact t_raw _ _ _ _ | with_reducible exact t_n _ _ _ _ | with_reducible exact t_is_simple _ _ _ _); (case z2056m => repeat (first | with_reducible exact List.mem_cons_self | with_reducible refine List.mem_cons_of_mem _ ?_)); (case z2056u => repeat (first | with_reducible exact List.mem_cons_self | with_reducible refine List.mem_cons_of_mem _ ?_)); (case z2056hf => kernel_rfl); (case z2056hz => exact Nat.le_of_ble_eq_true rfl)
      with_reducible refine oupS ?_
      with_reducible refine oupS ?_
      with_reducible refine oup0 ?_
      with_reducible refine Ss.cons ?_
      (with_reducible refine' S1.as1 ?_ ?z2061hs ?z2061hw ?z2061he); (case z2061hs => rfl); (case z2061hw => rfl); (case z2061he => rfl)
      (with_reducible refine' Ev.loc ?z2062h ?_); (case z2062h => repeat (first | with_reducible exact List.mem_cons_self | with_reducible refine List.mem_cons_of_mem _ ?_))
      with_reducible refine As.attr ?_
      (with_reducible refine' Ev.loc ?z2064h ?_); (case z2064h => repeat (first | with_reducible exact List.mem_cons_self | with_reducible refine List.mem_cons_of_mem _ ?_))
      (with_reducible refine' set100 ?z2065ht ?z2065m ?z2065u ?z2065hf ?z2065hz ?_); (case z2065ht => first | with_reducible exact t_norm _ _ _ _ | with_reducible exact t_nt _ _ _ _ | with_reducible exact t_raw _ _ _ _ | with_reducible exact t_n _ _ _ _ | with_reducible exact t_is_simple _ _ _ _); (case z2065m => repeat (first | with_reducible exact List.mem_cons_self | with_reducible refine List.mem_cons_of_mem _ ?_)); (case z2065u => repeat (first | with_reducible exact List.mem_cons_self | with_reducible refine List.mem_cons_of_mem _ ?_)); (case z2065hf => kernel_rfl); (case z2065hz => exact Nat.le_of_ble_eq_true rfl)
      with_reducible refine oupS ?_
      with_reducible refine oupS ?_
      with_reducible refine oup0 ?_
      with_reducible refine Ss.cons ?_
      (with_reducible refine' S1.as1 ?_ ?z2070hs ?z2070hw ?z2070he); (case z2070hs => rfl); (case z2070hw => rfl); (case z2070he => rfl)
      with_reducible refine Ev.tup ?_
      (with_reducible refine' Evs.cons ?_ ?z2072he); (case z2072he => rfl)
      (with_reducible refine' Ev.call ?_ ?z2073hp); (case z2073hp => intro _; rfl)
      (with_reducible refine' Ev.bui ?z2074h ?_ ?z2074hx); (case z2074h => with_reducible exact b_tuple _ _ _ _); (case z2074hx => kernel_rfl)
      (with_reducible refine' ⟨_, rfl, ?z2075k, ?_⟩); (case z2075k => with_reducible exact Kp.typ)
      (with_reducible refine' Evs.cons ?_ ?z2076he); (case z2076he => rfl)
      (with_reducible refine' Ev.loc ?z2077h ?_); (case z2077h => repeat (first | with_reducible exact List.mem_cons_self | with_reducible refine List.mem_cons_of_mem _ ?_))
      with_reducible refine Evs.nil ?_
      (with_reducible refine' Ca.tupL ?z2079l ?z2079h ?_); (case z2079l => first | with_reducible exact LstOf.frz | ((with_reducible refine' LstOf.own ?z2079hm); (case z2079hm => repeat (first | with_reducible exact List.mem_cons_self | with_reducible refine List.mem_cons_of_mem _ ?_)))); (case z2079h => with_reducible assumption)
      (with_reducible refine' Evs.cons ?_ ?z2080he); (case z2080he => rfl)
      (with_reducible refine' Ev.loc ?z2081h ?_); (case z2081h => repeat (first | with_reducible exact List.mem_cons_self | with_reducible refine List.mem_cons_of_mem _ ?_))
      with_reducible refine Evs.nil ?_
      with_reducible refine And.intro (Nat.le_of_ble_eq_true rfl) ?_
      with_reducible refine As.attr ?_
      (with_reducible refine' Ev.loc ?z2085h ?_); (case z2085h => repeat (first | with_reducible exact List.mem_cons_self | with_reducible refine List.mem_cons_of_mem _ ?_))
      (with_reducible refine' set100 ?z2086ht ?z2086m ?z2086u ?z2086hf ?z2086hz ?_); (case z2086ht => first | with_reducible exact t_norm _ _ _ _ | with_reducible exact t_nt _ _ _ _ | with_reducible exact t_raw _ _ _ _ | with_reducible exact t_n _ _ _ _ | with_reducible exact t_is_simple _ _ _ _); (case z2086m => repeat (first | with_reducible exact List.mem_cons_self | with_reducible refine List.mem_cons_of_mem _ ?_)); (case z2086u => repeat (first | with_reducible exact List.mem_cons_self | with_reducible refine List.mem_cons_of_mem _ ?_)); (case z2086hf => kernel_rfl); (case z2086hz => exact Nat.le_of_ble_eq_true rfl)
      with_reducible refine oupS ?_
      with_reducible refine oupS ?_
      with_reducible refine oup0 ?_
      with_reducible refine Ss.cons ?_
      (with_reducible refine' S1.as1 ?_ ?z2091hs ?z2091hw ?z2091he); (case z2091hs => rfl); (case z2091hw => rfl); (case z2091he => rfl)
      (with_reducible refine' Ev.cmp ?_ ?z2092hm); (case z2092hm => rfl)
      (with_reducible refine' Ev.call ?_ ?z2093hp); (case z2093hp => intro _; rfl)
      (with_reducible refine' Ev.bui ?z2094h ?_ ?z2094hx); (case z2094h => with_reducible exact b_len _ _ _ _); (case z2094hx => kernel_rfl)
      (with_reducible refine' ⟨_, rfl, ?z2095k, ?_⟩); (case z2095k => with_reducible exact Kp.bui)
      (with_reducible refine' Evs.cons ?_ ?z2096he); (case z2096he => rfl)
      (with_reducible refine' Ev.loc ?z2097h ?_); (case z2097h => repeat (first | with_reducible exact List.mem_cons_self | with_reducible refine List.mem_cons_of_mem _ ?_))
      with_reducible refine Evs.nil ?_
      (with_reducible refine' Ca.len ?z2099l ?z2099h ?_); (case z2099l => first | with_reducible exact LstOf.frz | ((with_reducible refine' LstOf.own ?z2099hm); (case z2099hm => repeat (first | with_reducible exact List.mem_cons_self | with_reducible refine List.mem_cons_of_mem _ ?_)))); (case z2099h => with_reducible assumption)
      with_reducible refine Ev.int ?_
      with_reducible refine Op2.leI ?_
      with_reducible refine As.attr ?_
      (with_reducible refine' Ev.loc ?z2103h ?_); (case z2103h => repeat (first | with_reducible exact List.mem_cons_self | with_reducible refine List.mem_cons_of_mem _ ?_))
      (with_reducible refine' set100 ?z2104ht ?z2104m ?z2104u ?z2104hf ?z2104hz ?_); (case z2104ht => first | with_reducible exact t_norm _ _ _ _ | with_reducible exact t_nt _ _ _ _ | with_reducible exact t_raw _ _ _ _ | with_reducible exact t_n _ _ _ _ | with_reducible exact t_is_simple _ _ _ _); (case z2104m => repeat (first | with_reducible exact List.mem_cons_self | with_reducible refine List.mem_cons_of_mem _ ?_)); (case z2104u => repeat (first | with_reducible exact List.mem_cons_self | with_reducible refine List.mem_cons_of_mem _ ?_)); (case z2104hf => kernel_rfl); (case z2104hz => exact Nat.le_of_ble_eq_true rfl)
      with_reducible refine oupS ?_
      with_reducible refine oupS ?_
      with_reducible refine oup0 ?_
      with_reducible refine Ss.nil ?_
      rw [hlm]
      exact ⟨_, .next, rfl, .of (.cons _ (List.Sublist.refl _))⟩
end
section
variable (w : World) (mg mb : Str → Option Value) (os : OsState)
noncomputable def ilGo (t : Int) : Int → Int → List Int → Int
  | _, acc, [] => acc
  | i, acc, c :: r => ilGo t (i + 1) (acc + i.fdiv t * c) r

theorem c_indent (raw : Str) (n nt : Int) (cs : List Int) (b : Int) (sm : Bool) (t : Int) (h1 : 0 < t) (h2 : t < 1000) (hl : cs.length < 100000) : Cal (Γ2 w mg mb os) 1 (.ref 69) [.inst 100 (wsFs raw n nt cs b sm), .int t] [] [] fun d O' => O' = [] ∧ d = .int (b + t * (ilGo t t 0 (cs.drop t.toNat) + nt)) := by
  refine Cal.intro (params := ["self", "tabsize"]) (bds := [.inst 100 (wsFs raw n nt cs b sm), .int t]) [("self", some (.inst 100 (wsFs raw n nt cs b sm))), ("tabsize", some (.int t)), ("count", none), ("trailing", none), ("il", none), ("i", none)] [] rfl (by kernel_rfl) rfl ⟨rfl, rfl, rfl, rfl, rfl, rfl⟩
    (fun g s vs ks ok iv ik => ?_) (by decide +kernel) (by decide +kernel) (by decide +kernel) (by decide +kernel) (by kernel_rfl) (by kernel_rfl) fun A L room => ?_
  · obtain ⟨x, y, rfl, i, j⟩ := iv.two
    exact ⟨[x, y], .of_eq (by kernel_rfl), iv⟩
  · have hh := room.h
    have hlm : (cs.map D.int).length < 2 ^ 62 := by rw [List.length_map]; omega
    with_reducible refine Ss.cons ?_
    (with_reducible refine' S1.as1 ?_ ?z1594hs ?z1594hw ?z1594he); (case z1594hs => rfl); (case z1594hw => rfl); (case z1594he => rfl)
    (with_reducible refine' Ev.attr ?_ ?z1595he); (case z1595he => rfl)
    (with_reducible refine' Ev.loc ?z1596h ?_); (case z1596h => repeat (first | with_reducible exact List.mem_cons_self | with_reducible refine List.mem_cons_of_mem _ ?_))
    (with_reducible refine' attr100 ?z1597ha ?z1597o ?_); (case z1597ha => first | with_reducible exact a_norm _ _ _ _ | with_reducible exact a_nt _ _ _ _ | with_reducible exact a_raw _ _ _ _ | with_reducible exact a_n _ _ _ _); (case z1597o => with_reducible exact ObjOf.frz)
    (with_reducible refine' fatS ?z1598h ?_); (case z1598h => kernel_rfl)
    (with_reducible refine' fatS ?z1599h ?_); (case z1599h => kernel_rfl)
    (with_reducible refine' fatS ?z1600h ?_); (case z1600h => kernel_rfl)
    with_reducible refine fat0 ?_
    (with_reducible refine' hq ?z1602h ?_); (case z1602h => rfl)
    (with_reducible refine' As.tup2 ?z1603hh ?_); (case z1603hh => with_reducible assumption)
    with_reducible refine Asl.cons ?_
    (with_reducible refine' locLk ?z1605hm ?_); (case z1605hm => repeat (first | with_reducible exact Has.here | with_reducible refine Has.there ?_))
    with_reducible refine putS ?_
    with_reducible refine putS ?_
    with_reducible refine put0 ?_
    with_reducible refine Asl.cons ?_
    (with_reducible refine' locLk ?z1610hm ?_); (case z1610hm => repeat (first | with_reducible exact Has.here | with_reducible refine Has.there ?_))
    with_reducible refine putS ?_
    with_reducible refine putS ?_
    with_reducible refine putS ?_
    with_reducible refine put0 ?_
    with_reducible refine Asl.nil ?_
    with_reducible refine Ss.cons ?_
    (with_reducible refine' asLk ?z1617hm ?_ ?z1617hs); (case z1617hm => repeat (first | with_reducible exact Has.here | with_reducible refine Has.there ?_)); (case z1617hs => rfl)
    with_reducible refine Ev.int ?_
    with_reducible refine putS ?_
    with_reducible refine putS ?_
    with_reducible refine putS ?_
    with_reducible refine putS ?_
    with_reducible refine put0 ?_
    with_reducible refine Ss.cons ?_
    refine S1.forIn (σ := Int × Int × List Int) (fun st => [("self", some (.inst 100 (wsFs raw n nt cs b sm))), ("tabsize", some (.int t)), ("count", some (.tup (cs.map .int))), ("trailing", some (.int b)), ("il", some (.int st.2.1)), ("i", none)]) (fun _ => []) (fun _ => [])
      (fun st ds => ds = rangeFrom st.1 1 st.2.2.length ∧ st.2.2 = cs.drop st.1.toNat ∧ t ≤ st.1 ∧ st.1 < 1000000 ∧ ilGo t st.1 st.2.1 st.2.2 = ilGo t t 0 (cs.drop t.toNat)) hh ?_ ?_ ?_ rfl (fun _ => rfl)
    · have hlz : (((cs.map D.int).length : Nat) : Int).natAbs < 4294967296 := by rw [List.length_map]; omega
      (with_reducible refine' Ev.call ?_ ?z1625hp); (case z1625hp => intro _; rfl)
      (with_reducible refine' Ev.bui ?z1626h ?_ ?z1626hx); (case z1626h => with_reducible exact b_range _ _ _ _); (case z1626hx => kernel_rfl)
      (with_reducible refine' ⟨_, rfl, ?z1627k, ?_⟩); (case z1627k => with_reducible exact Kp.typ)
      (with_reducible refine' Evs.cons ?_ ?z1628he); (case z1628he => rfl)
      (with_reducible refine' Ev.loc ?z1629h ?_); (case z1629h => repeat (first | with_reducible exact List.mem_cons_self | with_reducible refine List.mem_cons_of_mem _ ?_))
      (with_reducible refine' Evs.cons ?_ ?z1630he); (case z1630he => rfl)
      (with_reducible refine' Ev.call ?_ ?z1631hp); (case z1631hp => intro _; rfl)
      (with_reducible refine' Ev.bui ?z1632h ?_ ?z1632hx); (case z1632h => with_reducible exact b_len _ _ _ _); (case z1632hx => kernel_rfl)
      (with_reducible refine' ⟨_, rfl, ?z1633k, ?_⟩); (case z1633k => with_reducible exact Kp.bui)
      (with_reducible refine' Evs.cons ?_ ?z1634he); (case z1634he => rfl)
      (with_reducible refine' Ev.loc ?z1635h ?_); (case z1635h => repeat (first | with_reducible exact List.mem_cons_self | with_reducible refine List.mem_cons_of_mem _ ?_))
      with_reducible refine Evs.nil ?_
      (with_reducible refine' Ca.lenT ?z1637h ?_); (case z1637h => with_reducible assumption)
      with_reducible refine Evs.nil ?_
      with_reducible refine Ca.range2 ?_
      (with_reducible refine' getI_range ?z1640h ?z1640k (fun _ => ?_)); (case z1640h => omega); (case z1640k => with_reducible assumption)
      refine ⟨(t, 0, cs.drop t.toNat), _, Fgt.refl, rfl, rfl, ?_, rfl, Int.le_refl _, by omega, rfl⟩
      congr 1
      rw [List.length_drop, List.length_map]; omega
    · rintro I ⟨i, acc, rest⟩ d ds ⟨e1, e2, e3, e4, e5⟩
      cases rest with
      | nil => cases e1
      | cons c r =>
        dsimp only at e1 e2 e3 e4 e5
        have hi : i.toNat < cs.length := by
          rcases Nat.lt_or_ge i.toNat cs.length with z | z
          · exact z
          · rw [List.drop_eq_nil_of_le z] at e2; cases e2
        rw [List.drop_eq_getElem_cons hi] at e2
        obtain ⟨e21, e22⟩ := List.cons.inj e2
        obtain ⟨e11, e12⟩ := List.cons.inj e1
        subst e11
        have hm : IntMulOk (i.fdiv t) c := mulOkL (fdiv_small (by omega) (by omega) h1)
        have hit : ((cs.map D.int)[i.toNat]?) = some (.int c) := by rw [List.getElem?_map, List.getElem?_eq_getElem hi, e21]; rfl
        have hsq : seqIndex? i (cs.map D.int).length = some i.toNat := by
          rw [List.length_map]; unfold seqIndex?; simp; omega
        (with_reducible refine' locLk ?z1641hm ?_); (case z1641hm => repeat (first | with_reducible exact Has.here | with_reducible refine Has.there ?_))
        with_reducible refine putS ?_
        with_reducible refine putS ?_
        with_reducible refine putS ?_
        with_reducible refine putS ?_
        with_reducible refine putS ?_
        with_reducible refine put0 ?_
        with_reducible refine Ss.cons ?_
        (with_reducible refine' asLk ?z1649hm ?_ ?z1649hs); (case z1649hm => repeat (first | with_reducible exact Has.here | with_reducible refine Has.there ?_)); (case z1649hs => rfl)
        with_reducible refine Ev.bin ?_
        (with_reducible refine' Ev.loc ?z1651h ?_); (case z1651h => repeat (first | with_reducible exact List.mem_cons_self | with_reducible refine List.mem_cons_of_mem _ ?_))
        with_reducible refine Ev.bin ?_
        with_reducible refine Ev.bin ?_
        (with_reducible refine' Ev.loc ?z1654h ?_); (case z1654h => repeat (first | with_reducible exact List.mem_cons_self | with_reducible refine List.mem_cons_of_mem _ ?_))
        (with_reducible refine' Ev.loc ?z1655h ?_); (case z1655h => repeat (first | with_reducible exact List.mem_cons_self | with_reducible refine List.mem_cons_of_mem _ ?_))
        (with_reducible refine' Op2.fdivI ?z1656h ?z1656k ?_); (case z1656h => omega); (case z1656k => omega)
        with_reducible refine Ev.sub ?_
        (with_reducible refine' Ev.loc ?z1658h ?_); (case z1658h => repeat (first | with_reducible exact List.mem_cons_self | with_reducible refine List.mem_cons_of_mem _ ?_))
        (with_reducible refine' Ev.loc ?z1659h ?_); (case z1659h => repeat (first | with_reducible exact List.mem_cons_self | with_reducible refine List.mem_cons_of_mem _ ?_))
        (with_reducible refine' Op2.itemT ?z1660a ?z1660b ?z1660c ?z1660d ?_ ?z1660hs); (case z1660a => omega); (case z1660b => omega); (case z1660c => first | with_reducible assumption | rfl); (case z1660d => first | with_reducible assumption | rfl); (case z1660hs => intros; rfl)
        (with_reducible refine' Op2.mulI ?z1661h ?_); (case z1661h => with_reducible assumption)
        with_reducible refine Op2.addI ?_
        with_reducible refine putS ?_
        with_reducible refine putS ?_
        with_reducible refine putS ?_
        with_reducible refine putS ?_
        with_reducible refine put0 ?_
        with_reducible refine Ss.nil ?_
        exact ⟨(i + 1, _, r), .keep (.keep (.keep (.keep (.keep (.drop .nil))))), rfl, OS.refl, e12, by show r = List.drop (i + 1).toNat cs; rw [e22, show (i + 1).toNat = i.toNat + 1 by omega], by dsimp only; omega, by dsimp only; have := hl; omega, e5⟩
    · rintro ⟨i, acc, rest⟩ ⟨e1, e2, e3, e4, e5⟩
      cases rest with
      | cons c r => cases e1
      | nil =>
        have e5 : acc = ilGo t t 0 (cs.drop t.toNat) := e5
        rw [← e5]
        with_reducible refine Ss.cons ?_
        with_reducible refine S1.ret ?_
        with_reducible refine Ev.bin ?_
        (with_reducible refine' Ev.loc ?z1672h ?_); (case z1672h => repeat (first | with_reducible exact List.mem_cons_self | with_reducible refine List.mem_cons_of_mem _ ?_))
        with_reducible refine Ev.bin ?_
        (with_reducible refine' Ev.loc ?z1674h ?_); (case z1674h => repeat (first | with_reducible exact List.mem_cons_self | with_reducible refine List.mem_cons_of_mem _ ?_))
        with_reducible refine Ev.bin ?_
        (with_reducible refine' Ev.loc ?z1676h ?_); (case z1676h => repeat (first | with_reducible exact List.mem_cons_self | with_reducible refine List.mem_cons_of_mem _ ?_))
        (with_reducible refine' Ev.attr ?_ ?z1677he); (case z1677he => rfl)
        (with_reducible refine' Ev.loc ?z1678h ?_); (case z1678h => repeat (first | with_reducible exact List.mem_cons_self | with_reducible refine List.mem_cons_of_mem _ ?_))
        (with_reducible refine' attr100 ?z1679ha ?z1679o ?_); (case z1679ha => first | with_reducible exact a_norm _ _ _ _ | with_reducible exact a_nt _ _ _ _ | with_reducible exact a_raw _ _ _ _ | with_reducible exact a_n _ _ _ _); (case z1679o => with_reducible exact ObjOf.frz)
        (with_reducible refine' fatS ?z1680h ?_); (case z1680h => kernel_rfl)
        (with_reducible refine' fatS ?z1681h ?_); (case z1681h => kernel_rfl)
        with_reducible refine fat0 ?_
        (with_reducible refine' hq ?z1683h ?_); (case z1683h => rfl)
        with_reducible refine Op2.addI ?_
        (with_reducible refine' Op2.mulI ?z1685h ?_); (case z1685h => exact mulOkL (by omega))
        with_reducible refine Op2.addI ?_
        exact ⟨_, .ret, rfl, rfl⟩
end
section
variable (w : World) (mg mb : Str → Option Value) (os : OsState)
theorem c_conv (me : D) (v : Str) (b : Bool) (hn : noHit (if b then codeN else codeV) v = true) : Cal (Γ2 w mg mb os) 1 (.ref 150) [me, .str v] [("name", .bool b)] [] fun d O' => O' = [] ∧ d = .str v := by
  refine Cal.intro (params := ["self", "value", "name"]) (bds := [me, .str v, .bool b]) [("self", some me), ("value", some (.str v)), ("name", some (.bool b)), ("regex", none)] [] rfl (by kernel_rfl) rfl ⟨rfl, rfl, rfl, rfl, rfl, rfl⟩
    (fun g s vs ks ok iv ik => ?_) (by decide +kernel) (by decide +kernel) (by decide +kernel) (by decide +kernel) (by kernel_rfl) (by kernel_rfl) fun A L room => ?_
  · obtain ⟨x, y, rfl, i, j⟩ := iv.two
    obtain ⟨z, rfl, k⟩ := InL.one ik
    exact ⟨[x, y, z], .of_eq (by kernel_rfl), .cons i (.cons j (.cons k .nil))⟩
  · have hh := room.h
    cases b with
    | true =>
      rw [if_pos rfl] at hn
      with_reducible refine Ss.cons ?_
      with_reducible refine S1.ite ?_
      (with_reducible refine' Te.cmp ?_ ?z2111hm); (case z2111hm => rfl)
      (with_reducible refine' Ev.call ?_ ?z2112hp); (case z2112hp => intro _; rfl)
      (with_reducible refine' Ev.bui ?z2113h ?_ ?z2113hx); (case z2113h => with_reducible exact b_type _ _ _ _); (case z2113hx => kernel_rfl)
      (with_reducible refine' ⟨_, rfl, ?z2114k, ?_⟩); (case z2114k => with_reducible exact Kp.typ)
      (with_reducible refine' Evs.cons ?_ ?z2115he); (case z2115he => rfl)
      (with_reducible refine' Ev.loc ?z2116h ?_); (case z2116h => repeat (first | with_reducible exact List.mem_cons_self | with_reducible refine List.mem_cons_of_mem _ ?_))
      with_reducible refine Evs.nil ?_
      (with_reducible refine' Ca.type ?z2118h ?z2118hb ?_); (case z2118h => rfl); (case z2118hb => decide)
      (with_reducible refine' Ev.bui ?z2119h ?_ ?z2119hx); (case z2119h => with_reducible exact b_str _ _ _ _); (case z2119hx => kernel_rfl)
      (with_reducible refine' Op2.isV ?z2120h ?_); (case z2120h => rfl)
      with_reducible refine Tr.bool ?_
      with_reducible refine ite_t rfl ?_
      with_reducible refine Ss.cons ?_
      (with_reducible refine' asLk ?z2124hm ?_ ?z2124hs); (case z2124hm => repeat (first | with_reducible exact Has.here | with_reducible refine Has.there ?_)); (case z2124hs => rfl)
      with_reducible refine Ev.ife ?_
      (with_reducible refine' Te.val ?_ ?z2126he); (case z2126he => rfl)
      (with_reducible refine' Ev.loc ?z2127h ?_); (case z2127h => repeat (first | with_reducible exact List.mem_cons_self | with_reducible refine List.mem_cons_of_mem _ ?_))
      with_reducible refine Tr.bool ?_
      with_reducible refine ite_t rfl ?_
      (with_reducible refine' Ev.glo ?z2130h ?_ ?z2130hx); (case z2130h => with_reducible exact n__name_disallowed_re _ _ _ _); (case z2130hx => kernel_rfl)
      with_reducible refine putS ?_
      with_reducible refine putS ?_
      with_reducible refine putS ?_
      with_reducible refine put0 ?_
      with_reducible refine Ss.cons ?_
      with_reducible refine S1.ite ?_
      (with_reducible refine' Te.val ?_ ?z2137he); (case z2137he => rfl)
      (with_reducible refine' Ev.meth ?_ ?z2138hm ?z2138hp); (case z2138hm => exact ⟨_, rfl⟩); (case z2138hp => intro _; rfl)
      (with_reducible refine' Ev.loc ?z2139h ?_); (case z2139h => repeat (first | with_reducible exact List.mem_cons_self | with_reducible refine List.mem_cons_of_mem _ ?_))
      (with_reducible refine' GetM.pat ?z2140h ?_); (case z2140h => first | with_reducible exact pat123 _ _ _ _ | with_reducible exact pat128 _ _ _ _)
      (with_reducible refine' And.intro ?z2141k ?_); (case z2141k => with_reducible exact Kp.bui)
      (with_reducible refine' Evs.cons ?_ ?z2142he); (case z2142he => rfl)
      (with_reducible refine' Ev.loc ?z2143h ?_); (case z2143h => repeat (first | with_reducible exact List.mem_cons_self | with_reducible refine List.mem_cons_of_mem _ ?_))
      with_reducible refine Evs.nil ?_
      with_reducible refine Ca.app1 ?_
      (with_reducible refine' Ca.noHit ?z2146h ?z2146n ?_); (case z2146h => first | with_reducible exact pat123 _ _ _ _ | with_reducible exact pat128 _ _ _ _); (case z2146n => with_reducible assumption)
      with_reducible refine Tr.non ?_
      with_reducible refine ite_f Bool.false_ne_true ?_
      with_reducible refine Ss.nil ?_
      with_reducible refine Ss.cons ?_
      with_reducible refine S1.ret ?_
      (with_reducible refine' Ev.loc ?z2152h ?_); (case z2152h => repeat (first | with_reducible exact List.mem_cons_self | with_reducible refine List.mem_cons_of_mem _ ?_))
      exact ⟨_, .ret, rfl, rfl⟩
    | false =>
      rw [if_neg (by decide)] at hn
      with_reducible refine Ss.cons ?_
      with_reducible refine S1.ite ?_
      (with_reducible refine' Te.cmp ?_ ?z2155hm); (case z2155hm => rfl)
      (with_reducible refine' Ev.call ?_ ?z2156hp); (case z2156hp => intro _; rfl)
      (with_reducible refine' Ev.bui ?z2157h ?_ ?z2157hx); (case z2157h => with_reducible exact b_type _ _ _ _); (case z2157hx => kernel_rfl)
      (with_reducible refine' ⟨_, rfl, ?z2158k, ?_⟩); (case z2158k => with_reducible exact Kp.typ)
      (with_reducible refine' Evs.cons ?_ ?z2159he); (case z2159he => rfl)
      (with_reducible refine' Ev.loc ?z2160h ?_); (case z2160h => repeat (first | with_reducible exact List.mem_cons_self | with_reducible refine List.mem_cons_of_mem _ ?_))
      with_reducible refine Evs.nil ?_
      (with_reducible refine' Ca.type ?z2162h ?z2162hb ?_); (case z2162h => rfl); (case z2162hb => decide)
      (with_reducible refine' Ev.bui ?z2163h ?_ ?z2163hx); (case z2163h => with_reducible exact b_str _ _ _ _); (case z2163hx => kernel_rfl)
      (with_reducible refine' Op2.isV ?z2164h ?_); (case z2164h => rfl)
      with_reducible refine Tr.bool ?_
      with_reducible refine ite_t rfl ?_
      with_reducible refine Ss.cons ?_
      (with_reducible refine' asLk ?z2168hm ?_ ?z2168hs); (case z2168hm => repeat (first | with_reducible exact Has.here | with_reducible refine Has.there ?_)); (case z2168hs => rfl)
      with_reducible refine Ev.ife ?_
      (with_reducible refine' Te.val ?_ ?z2170he); (case z2170he => rfl)
      (with_reducible refine' Ev.loc ?z2171h ?_); (case z2171h => repeat (first | with_reducible exact List.mem_cons_self | with_reducible refine List.mem_cons_of_mem _ ?_))
      with_reducible refine Tr.bool ?_
      with_reducible refine ite_f Bool.false_ne_true ?_
      (with_reducible refine' Ev.glo ?z2174h ?_ ?z2174hx); (case z2174h => with_reducible exact n__value_disallowed_re _ _ _ _); (case z2174hx => kernel_rfl)
      with_reducible refine putS ?_
      with_reducible refine putS ?_
      with_reducible refine putS ?_
      with_reducible refine put0 ?_
      with_reducible refine Ss.cons ?_
      with_reducible refine S1.ite ?_
      (with_reducible refine' Te.val ?_ ?z2181he); (case z2181he => rfl)
      (with_reducible refine' Ev.meth ?_ ?z2182hm ?z2182hp); (case z2182hm => exact ⟨_, rfl⟩); (case z2182hp => intro _; rfl)
      (with_reducible refine' Ev.loc ?z2183h ?_); (case z2183h => repeat (first | with_reducible exact List.mem_cons_self | with_reducible refine List.mem_cons_of_mem _ ?_))
      (with_reducible refine' GetM.pat ?z2184h ?_); (case z2184h => first | with_reducible exact pat123 _ _ _ _ | with_reducible exact pat128 _ _ _ _)
      (with_reducible refine' And.intro ?z2185k ?_); (case z2185k => with_reducible exact Kp.bui)
      (with_reducible refine' Evs.cons ?_ ?z2186he); (case z2186he => rfl)
      (with_reducible refine' Ev.loc ?z2187h ?_); (case z2187h => repeat (first | with_reducible exact List.mem_cons_self | with_reducible refine List.mem_cons_of_mem _ ?_))
      with_reducible refine Evs.nil ?_
      with_reducible refine Ca.app1 ?_
      (with_reducible refine' Ca.noHit ?z2190h ?z2190n ?_); (case z2190h => first | with_reducible exact pat123 _ _ _ _ | with_reducible exact pat128 _ _ _ _); (case z2190n => with_reducible assumption)
      with_reducible refine Tr.non ?_
      with_reducible refine ite_f Bool.false_ne_true ?_
      with_reducible refine Ss.nil ?_
      with_reducible refine Ss.cons ?_
      with_reducible refine S1.ret ?_
      (with_reducible refine' Ev.loc ?z2196h ?_); (case z2196h => repeat (first | with_reducible exact List.mem_cons_self | with_reducible refine List.mem_cons_of_mem _ ?_))
      exact ⟨_, .ret, rfl, rfl⟩
end
section
variable (w : World) (mg mb : Str → Option Value) (os : OsState)
theorem conv_ca {A : Around} {O : Own} {me : D} {v : Str} {b : Bool} {Q : D → Own → Prop} (r : Room A 1) (hn : noHit (if b then codeN else codeV) v = true) (q : Q (.str v) O) : Ca (Γ2 w mg mb os) A O (.ref 150) [me, .str v] [("name", .bool b)] Q :=
  Cal.ca (Cal.pure (c_conv w mg mb os me v b hn) fun d O' h => ⟨h.1, by rw [h.2]; exact q⟩) r
noncomputable abbrev itemsD (l : List (Str × Str)) : List D := l.map fun p => .tup [.str p.1, .str p.2]
noncomputable abbrev fsH (la : Addr) : List (Str × D) := [] ++ [(("_headers" : Str), D.v (.ref la))]
noncomputable abbrev hdFs (la : Addr) : List (Str × D) := [("_headers", .v (.ref la))]
theorem c_hinit (x dx la : Addr) (l : List (Str × Str)) (hl : ∀ p ∈ l, noHit codeN p.1 = true ∧ noHit codeV p.2 = true) :
    Cal (Γ2 w mg mb os) 2 (.ref 143) [.v (.ref x), .v (.ref la)] [] [(x, .obj 251 dx), (dx, .dict []), (la, .list (itemsD l))] fun d O' => d = .none ∧ OS [(x, .obj 251 dx), (dx, .dict (hdFs la)), (la, .list (itemsD l))] O' := by
  refine Cal.intro (params := ["self", "headers"]) (bds := [.v (.ref x), .v (.ref la)]) [("self", some (.v (.ref x))), ("headers", some (.v (.ref la))), ("k", none), ("v", none)] [] rfl (by kernel_rfl) rfl ⟨rfl, rfl, rfl, rfl, rfl, rfl⟩
    (fun g s vs ks ok iv ik => ?_) (by decide +kernel) (by decide +kernel) (by decide +kernel) (by decide +kernel) (by kernel_rfl) (by kernel_rfl) fun A L room => ?_
  · obtain ⟨x, y, rfl, i, j⟩ := iv.two
    exact ⟨[x, y], binds_K (K := (Γ2 w mg mb os).K) ok.kin rfl rfl rfl rfl rfl, iv⟩
  · have hh := room.h
    with_reducible refine Ss.cons ?_
    (with_reducible refine' asLk ?z2198hm ?_ ?z2198hs); (case z2198hm => repeat (first | with_reducible exact Has.here | with_reducible refine Has.there ?_)); (case z2198hs => rfl)
    with_reducible refine Ev.ife ?_
    (with_reducible refine' Te.cmp ?_ ?z2200hm); (case z2200hm => rfl)
    (with_reducible refine' Ev.loc ?z2201h ?_); (case z2201h => repeat (first | with_reducible exact List.mem_cons_self | with_reducible refine List.mem_cons_of_mem _ ?_))
    with_reducible refine Ev.non ?_
    with_reducible refine Op2.isNotN ?_
    with_reducible refine Tr.bool ?_
    with_reducible refine ite_t rfl ?_
    (with_reducible refine' Ev.loc ?z2206h ?_); (case z2206h => repeat (first | with_reducible exact List.mem_cons_self | with_reducible refine List.mem_cons_of_mem _ ?_))
    with_reducible refine putS ?_
    with_reducible refine put0 ?_
    with_reducible refine Ss.cons ?_
    with_reducible refine S1.ite ?_
    (with_reducible refine' Te.cmp ?_ ?z2211hm); (case z2211hm => rfl)
    (with_reducible refine' Ev.call ?_ ?z2212hp); (case z2212hp => intro _; rfl)
    (with_reducible refine' Ev.bui ?z2213h ?_ ?z2213hx); (case z2213h => with_reducible exact b_type _ _ _ _); (case z2213hx => kernel_rfl)
    (with_reducible refine' ⟨_, rfl, ?z2214k, ?_⟩); (case z2214k => with_reducible exact Kp.typ)
    (with_reducible refine' Evs.cons ?_ ?z2215he); (case z2215he => rfl)
    (with_reducible refine' Ev.loc ?z2216h ?_); (case z2216h => repeat (first | with_reducible exact List.mem_cons_self | with_reducible refine List.mem_cons_of_mem _ ?_))
    with_reducible refine Evs.nil ?_
    (with_reducible refine' Ca.typeL ?z2218l ?_); (case z2218l => first | with_reducible exact LstOf.frz | ((with_reducible refine' LstOf.own ?z2218hm); (case z2218hm => repeat (first | with_reducible exact List.mem_cons_self | with_reducible refine List.mem_cons_of_mem _ ?_))))
    (with_reducible refine' Ev.bui ?z2219h ?_ ?z2219hx); (case z2219h => with_reducible exact b_list _ _ _ _); (case z2219hx => kernel_rfl)
    (with_reducible refine' Op2.isNotV ?z2220h ?_); (case z2220h => rfl)
    with_reducible refine Tr.bool ?_
    (with_reducible refine' ite_f ?z2222h ?_); (case z2222h => exact Bool.false_ne_true)
    with_reducible refine Ss.nil ?_
    with_reducible refine Ss.cons ?_
    (with_reducible refine' S1.as1 ?_ ?z2225hs ?z2225hw ?z2225he); (case z2225hs => rfl); (case z2225hw => rfl); (case z2225he => rfl)
    (with_reducible refine' Ev.loc ?z2226h ?_); (case z2226h => repeat (first | with_reducible exact List.mem_cons_self | with_reducible refine List.mem_cons_of_mem _ ?_))
    with_reducible refine As.attr ?_
    (with_reducible refine' Ev.loc ?z2228h ?_); (case z2228h => repeat (first | with_reducible exact List.mem_cons_self | with_reducible refine List.mem_cons_of_mem _ ?_))
    (with_reducible refine' set251 ?z2229ht ?z2229m ?z2229u ?z2229hf ?z2229hz ?_); (case z2229ht => with_reducible exact t__headers _ _ _ _); (case z2229m => repeat (first | with_reducible exact List.mem_cons_self | with_reducible refine List.mem_cons_of_mem _ ?_)); (case z2229u => repeat (first | with_reducible exact List.mem_cons_self | with_reducible refine List.mem_cons_of_mem _ ?_)); (case z2229hf => kernel_rfl); (case z2229hz => exact Nat.le_of_ble_eq_true rfl)
    with_reducible refine oupS ?_
    with_reducible refine oup0 ?_
    with_reducible refine Ss.cons ?_
    with_reducible refine S1.ite ?_
    (with_reducible refine' Te.val ?_ ?z2234he); (case z2234he => rfl)
    with_reducible refine Ev.bool ?_
    with_reducible refine Tr.bool ?_
    with_reducible refine ite_t rfl ?_
    with_reducible refine Ss.cons ?_
    refine' S1.forLit (σ := Unit) (fun _ => [("self", some (.v (.ref x))), ("headers", some (.v (.ref la))), ("k", none), ("v", none)]) (fun _ => []) (fun _ => [(x, .obj 251 dx), (dx, .dict (fsH la)), (la, .list (itemsD l))])
      (fun _ ds => ∃ r : List (Str × Str), ds = itemsD r ∧ ∀ p ∈ r, noHit codeN p.1 = true ∧ noHit codeV p.2 = true) la (itemsD l) (fun _ => .tail _ (.tail _ (.head _))) hh ?_ ?_ ?_ ?hp ?hs
    case hp => rfl
    case hs => exact fun _ => rfl
    · (with_reducible refine' Ev.loc ?z2239h ?_); (case z2239h => repeat (first | with_reducible exact List.mem_cons_self | with_reducible refine List.mem_cons_of_mem _ ?_))
      refine GetI.own (ds := itemsD l) (.tail _ (.tail _ (.head _))) fun I => ?_
      exact ⟨(), .refl, rfl, rfl, l, rfl, hl⟩
    · rintro I - i d ds ⟨r, e, hr⟩
      cases r with
      | nil => cases e
      | cons p r =>
        obtain ⟨k, v⟩ := p
        obtain ⟨e1, e2⟩ := List.cons.inj e
        subst e1 e2
        obtain ⟨h1, h2⟩ := hr _ (.head _)
        dsimp only at h1 h2 ⊢
        (with_reducible refine' As.tup2 ?z2240hh ?_); (case z2240hh => with_reducible assumption)
        with_reducible refine Asl.cons ?_
        (with_reducible refine' locLk ?z2242hm ?_); (case z2242hm => repeat (first | with_reducible exact Has.here | with_reducible refine Has.there ?_))
        with_reducible refine putS ?_
        with_reducible refine putS ?_
        with_reducible refine put0 ?_
        with_reducible refine Asl.cons ?_
        (with_reducible refine' locLk ?z2247hm ?_); (case z2247hm => repeat (first | with_reducible exact Has.here | with_reducible refine Has.there ?_))
        with_reducible refine putS ?_
        with_reducible refine putS ?_
        with_reducible refine putS ?_
        with_reducible refine put0 ?_
        with_reducible refine Asl.nil ?_
        with_reducible refine Ss.cons ?_
        (with_reducible refine' S1.exprAny ?_ ?z2254hi ?z2254hs); (case z2254hi => rfl); (case z2254hs => rfl)
        (with_reducible refine' Ev.methK (ks := ["name"]) ?_ ?z2255a ?z2255b ?z2255c ?z2255d ?z2255e ?z2255f); (case z2255a => exact ⟨_, rfl⟩); (case z2255b => intro _; rfl); (case z2255c => intro _; rfl); (case z2255d => intro _; rfl); (case z2255e => intro _; rfl); (case z2255f => exact fun _ => ⟨_, _, rfl⟩)
        (with_reducible refine' Ev.loc ?z2256h ?_); (case z2256h => repeat (first | with_reducible exact List.mem_cons_self | with_reducible refine List.mem_cons_of_mem _ ?_))
        (with_reducible refine' meth251 ?z2257hf ?z2257ht ?z2257o ?z2257hs ?_); (case z2257hf => first | with_reducible exact m_150 _ _ _ _ | with_reducible exact m_198 _ _ _ _ | with_reducible exact m_203 _ _ _ _); (case z2257ht => first | with_reducible exact ty_150 _ _ _ _ | with_reducible exact ty_198 _ _ _ _ | with_reducible exact ty_203 _ _ _ _); (case z2257o => (with_reducible refine' ObjOf.own ?z2257h1 ?z2257h2); (case z2257h1 => repeat (first | with_reducible exact List.mem_cons_self | with_reducible refine List.mem_cons_of_mem _ ?_)); (case z2257h2 => repeat (first | with_reducible exact List.mem_cons_self | with_reducible refine List.mem_cons_of_mem _ ?_))); (case z2257hs => kernel_rfl)
        (with_reducible refine' And.intro ?z2258k ?_); (case z2258k => with_reducible exact k_150 _ _ _ _)
        (with_reducible refine' Evs.cons ?_ ?z2259he); (case z2259he => rfl)
        (with_reducible refine' Ev.loc ?z2260h ?_); (case z2260h => repeat (first | with_reducible exact List.mem_cons_self | with_reducible refine List.mem_cons_of_mem _ ?_))
        with_reducible refine Evs.nil ?_
        with_reducible refine EvK.one ?_
        with_reducible refine Ev.bool ?_
        (with_reducible refine' And.intro ?z2264k ?_); (case z2264k => kwd_rel)
        with_reducible refine Ca.app1 ?_
        with_reducible refine Ca.zip1 ?_
        refine conv_ca w mg mb os room (b := true) (by rw [if_pos rfl]; exact h1) ?_
        with_reducible refine Ss.cons ?_
        (with_reducible refine' S1.exprAny ?_ ?z2268hi ?z2268hs); (case z2268hi => rfl); (case z2268hs => rfl)
        (with_reducible refine' Ev.methK (ks := ["name"]) ?_ ?z2269a ?z2269b ?z2269c ?z2269d ?z2269e ?z2269f); (case z2269a => exact ⟨_, rfl⟩); (case z2269b => intro _; rfl); (case z2269c => intro _; rfl); (case z2269d => intro _; rfl); (case z2269e => intro _; rfl); (case z2269f => exact fun _ => ⟨_, _, rfl⟩)
        (with_reducible refine' Ev.loc ?z2270h ?_); (case z2270h => repeat (first | with_reducible exact List.mem_cons_self | with_reducible refine List.mem_cons_of_mem _ ?_))
        (with_reducible refine' meth251 ?z2271hf ?z2271ht ?z2271o ?z2271hs ?_); (case z2271hf => first | with_reducible exact m_150 _ _ _ _ | with_reducible exact m_198 _ _ _ _ | with_reducible exact m_203 _ _ _ _); (case z2271ht => first | with_reducible exact ty_150 _ _ _ _ | with_reducible exact ty_198 _ _ _ _ | with_reducible exact ty_203 _ _ _ _); (case z2271o => (with_reducible refine' ObjOf.own ?z2271h1 ?z2271h2); (case z2271h1 => repeat (first | with_reducible exact List.mem_cons_self | with_reducible refine List.mem_cons_of_mem _ ?_)); (case z2271h2 => repeat (first | with_reducible exact List.mem_cons_self | with_reducible refine List.mem_cons_of_mem _ ?_))); (case z2271hs => kernel_rfl)
        (with_reducible refine' And.intro ?z2272k ?_); (case z2272k => with_reducible exact k_150 _ _ _ _)
        (with_reducible refine' Evs.cons ?_ ?z2273he); (case z2273he => rfl)
        (with_reducible refine' Ev.loc ?z2274h ?_); (case z2274h => repeat (first | with_reducible exact List.mem_cons_self | with_reducible refine List.mem_cons_of_mem _ ?_))
        with_reducible refine Evs.nil ?_
        with_reducible refine EvK.one ?_
        with_reducible refine Ev.bool ?_
        (with_reducible refine' And.intro ?z2278k ?_); (case z2278k => kwd_rel)
        with_reducible refine Ca.app1 ?_
        with_reducible refine Ca.zip1 ?_
        refine conv_ca w mg mb os room (b := false) (by rw [if_neg (by decide)]; exact h2) ?_
        with_reducible refine Ss.nil ?_
        exact ⟨(), .keep (.keep (.drop (.drop .nil))), rfl, .refl, r, rfl, fun p hp => hr p (.tail _ hp)⟩
    · rintro - ⟨r, e, hr⟩
      with_reducible refine Ss.nil ?_
      with_reducible refine Ss.nil ?_
      exact ⟨_, .next, rfl, .refl⟩
end
section
variable (w : World) (mg mb : Str → Option Value) (os : OsState)
noncomputable abbrev me (la : Addr) : D := .inst 251 (hdFs la)
noncomputable def fstD : D → Option D
  | .tup (a :: _) => some a
  | _ => none
theorem keysD : ∀ l : List (Str × Str), (itemsD l).filterMap fstD = l.map fun p => .str p.1
  | [] => rfl
  | p :: r => by show D.str p.1 :: (itemsD r).filterMap fstD = _; rw [keysD r]; rfl
theorem c_keys (la : Addr) (l : List (Str × Str)) (hz : l.length ≤ 1000000) : Cal (Γ2 w mg mb os) 1 (.ref 203) [me la] [] [(la, .list (itemsD l))] fun d O' => O' = [(la, .list (itemsD l))] ∧ d = .lst (l.map fun p => .str p.1) := by
  refine Cal.intro (params := ["self"]) (bds := [me la]) [("self", some (me la))] [] rfl (by kernel_rfl) rfl ⟨rfl, rfl, rfl, rfl, rfl, rfl⟩
    (fun g s vs ks ok iv ik => ?_) (by decide +kernel) (by decide +kernel) (by decide +kernel) (by decide +kernel) (by kernel_rfl) (by kernel_rfl) fun A L room => ?_
  · obtain ⟨x, rfl, i⟩ := iv.one
    exact ⟨[x], .of_eq (by kernel_rfl), iv⟩
  · have hh := room.h
    with_reducible refine Ss.cons ?_
    with_reducible refine S1.ret ?_
    refine' Ev.compLit [(".0", none), ("k", none), ("v", none)] [] fstD hh ?hp ?c1 ?c2 ?c3 ?c4 ?c5 ?c6 ?c7 ?_
    case hp => rfl
    case c1 => rfl
    case c2 => rfl
    case c3 => decide +kernel
    case c4 => decide +kernel
    case c5 => kernel_rfl
    case c6 => exact .nil
    case c7 => exact fun _ => rfl
    (with_reducible refine' Ev.attr ?_ ?z2286he); (case z2286he => rfl)
    (with_reducible refine' Ev.loc ?z2287h ?_); (case z2287h => repeat (first | with_reducible exact List.mem_cons_self | with_reducible refine List.mem_cons_of_mem _ ?_))
    (with_reducible refine' attr251 ?z2288ha ?z2288o ?_); (case z2288ha => with_reducible exact a__headers _ _ _ _); (case z2288o => with_reducible exact ObjOf.frz)
    with_reducible refine fat0 ?_
    (with_reducible refine' hq ?z2290h ?_); (case z2290h => rfl)
    refine GetI.own (ds := itemsD l) (.head _) fun I => ⟨la, itemsD l, _, rfl, .head _, fun L d hd => ?_, ?_, ?_⟩
    · obtain ⟨p, hp, rfl⟩ := List.mem_map.mp hd
      intro O
      (with_reducible refine' As.tup2 ?z2291hh ?_); (case z2291hh => with_reducible assumption)
      with_reducible refine Asl.cons ?_
      (with_reducible refine' locLk ?z2293hm ?_); (case z2293hm => repeat (first | with_reducible exact Has.here | with_reducible refine Has.there ?_))
      with_reducible refine putS ?_
      with_reducible refine put0 ?_
      with_reducible refine Asl.cons ?_
      (with_reducible refine' locLk ?z2297hm ?_); (case z2297hm => repeat (first | with_reducible exact Has.here | with_reducible refine Has.there ?_))
      with_reducible refine putS ?_
      with_reducible refine putS ?_
      with_reducible refine put0 ?_
      with_reducible refine Asl.nil ?_
      with_reducible refine Ifs.nil ?_
      with_reducible refine ite_t rfl ?_
      (with_reducible refine' Ev.loc ?z2304h ?_); (case z2304h => repeat (first | with_reducible exact List.mem_cons_self | with_reducible refine List.mem_cons_of_mem _ ?_))
      exact ⟨⟨rfl, rfl⟩, rfl, .keep (.drop (.drop .nil))⟩
    · rw [List.length_map]; unfold sizeLine; omega
    · exact ⟨_, .ret, rfl, by rw [keysD]⟩
noncomputable def okName (x : Str) : Bool := decide ((lowered x).length ≤ sizeLine) && noHit codeN (lowered x)
noncomputable def delKeep (nm : Str) (l : List (Str × Str)) : List (Str × Str) := l.filter fun p => lowered p.1 != lowered nm
noncomputable def keepD (nm : Str) : D → Option D
  | .tup [.str a, .str b] => if (lowered a != lowered nm) = true then some (.tup [.str a, .str b]) else none
  | _ => none
theorem delD (nm : Str) : ∀ l : List (Str × Str), (itemsD l).filterMap (keepD nm) = itemsD (delKeep nm l)
  | [] => rfl
  | p :: r => by
    have ih := delD nm r
    unfold itemsD delKeep at ih ⊢
    rw [List.map_cons, List.filterMap_cons, List.filter_cons]
    cases h : (lowered p.1 != lowered nm) <;> simp [keepD, h, ih]
theorem c_del (la : Addr) (l : List (Str × Str)) (nm : Str) (hz : l.length ≤ 100000) (h1 : okName nm = true) (h2 : ∀ p ∈ l, (lowered p.1).length ≤ sizeLine) : Cal (Γ2 w mg mb os) 2 (.ref 169) [me la, .str nm] [] [(la, .list (itemsD l))] fun d O' => OS [(la, .list (itemsD (delKeep nm l)))] O' ∧ d = .none := by
  refine Cal.intro (params := ["self", "name"]) (bds := [me la, .str nm]) [("self", some (me la))] [("name", some (.str nm))] rfl (by kernel_rfl) rfl ⟨rfl, rfl, rfl, rfl, rfl, rfl⟩
    (fun g s vs ks ok iv ik => ?_) (by decide +kernel) (by decide +kernel) (by decide +kernel) (by decide +kernel) (by kernel_rfl) (by kernel_rfl) fun A L room => ?_
  · obtain ⟨x, y, rfl, i, j⟩ := iv.two
    exact ⟨[x, y], .of_eq (by kernel_rfl), iv⟩
  · have hh := room.h
    unfold okName at h1
    rw [Bool.and_eq_true] at h1
    have h11 := of_decide_eq_true h1.1
    with_reducible refine Ss.cons ?_
    (with_reducible refine' S1.asC ?_ ?z2306hl ?z2306hf ?z2306hs); (case z2306hl => kernel_rfl); (case z2306hf => rfl); (case z2306hs => rfl)
    (with_reducible refine' Ev.methK (ks := ["name"]) ?_ ?z2307a ?z2307b ?z2307c ?z2307d ?z2307e ?z2307f); (case z2307a => exact ⟨_, rfl⟩); (case z2307b => intro _; rfl); (case z2307c => intro _; rfl); (case z2307d => intro _; rfl); (case z2307e => intro _; rfl); (case z2307f => exact fun _ => ⟨_, _, rfl⟩)
    (with_reducible refine' Ev.loc ?z2308h ?_); (case z2308h => repeat (first | with_reducible exact List.mem_cons_self | with_reducible refine List.mem_cons_of_mem _ ?_))
    (with_reducible refine' meth251 ?z2309hf ?z2309ht ?z2309o ?z2309hs ?_); (case z2309hf => first | with_reducible exact m_150 _ _ _ _ | with_reducible exact m_198 _ _ _ _ | with_reducible exact m_203 _ _ _ _); (case z2309ht => first | with_reducible exact ty_150 _ _ _ _ | with_reducible exact ty_198 _ _ _ _ | with_reducible exact ty_203 _ _ _ _); (case z2309o => with_reducible exact ObjOf.frz); (case z2309hs => kernel_rfl)
    (with_reducible refine' And.intro ?z2310k ?_); (case z2310k => with_reducible exact k_150 _ _ _ _)
    (with_reducible refine' Evs.cons ?_ ?z2311he); (case z2311he => rfl)
    (with_reducible refine' Ev.meth ?_ ?z2312hm ?z2312hp); (case z2312hm => exact ⟨_, rfl⟩); (case z2312hp => intro _; rfl)
    (with_reducible refine' Ev.cel ?z2313h ?_); (case z2313h => repeat (first | with_reducible exact List.mem_cons_self | with_reducible refine List.mem_cons_of_mem _ ?_))
    (with_reducible refine' GetM.str ?z2314sl ?z2314ty ?_); (case z2314sl => first | with_reducible exact F.slot_str_lower | with_reducible exact F.slot_str_upper); (case z2314ty => first | with_reducible exact F.type_str_lower | with_reducible exact F.type_str_upper)
    (with_reducible refine' And.intro ?z2315k ?_); (case z2315k => with_reducible exact Kp.bui)
    with_reducible refine Evs.nil ?_
    with_reducible refine Ca.app1 ?_
    (with_reducible refine' Ca.lower ?z2318h ?_); (case z2318h => with_reducible assumption)
    with_reducible refine Evs.nil ?_
    with_reducible refine EvK.one ?_
    with_reducible refine Ev.bool ?_
    (with_reducible refine' And.intro ?z2322k ?_); (case z2322k => kwd_rel)
    with_reducible refine Ca.app1 ?_
    with_reducible refine Ca.zip1 ?_
    refine conv_ca w mg mb os room (b := true) (by rw [if_pos rfl]; exact h1.2) ?_
    with_reducible refine put0 ?_
    with_reducible refine Ss.cons ?_
    (with_reducible refine' S1.as1 ?_ ?z2327hs ?z2327hw ?z2327he); (case z2327hs => rfl); (case z2327hw => rfl); (case z2327he => rfl)
    refine' Ev.compLit [(".0", none), ("kv", none)] [("name", some (.str (lowered nm)))] (keepD nm) hh ?hp ?c1 ?c2 ?c3 ?c4 ?c5 ?c6 ?c7 ?_
    case hp => rfl
    case c1 => rfl
    case c2 => rfl
    case c3 => decide +kernel
    case c4 => decide +kernel
    case c5 => kernel_rfl
    case c6 => exact .cons (.head _) (.inl (by kernel_rfl)) (by kernel_rfl) (fun q h => nomatch h) .nil
    case c7 => exact fun _ => rfl
    (with_reducible refine' Ev.attr ?_ ?z2328he); (case z2328he => rfl)
    (with_reducible refine' Ev.loc ?z2329h ?_); (case z2329h => repeat (first | with_reducible exact List.mem_cons_self | with_reducible refine List.mem_cons_of_mem _ ?_))
    (with_reducible refine' attr251 ?z2330ha ?z2330o ?_); (case z2330ha => with_reducible exact a__headers _ _ _ _); (case z2330o => with_reducible exact ObjOf.frz)
    with_reducible refine fat0 ?_
    (with_reducible refine' hq ?z2332h ?_); (case z2332h => rfl)
    refine GetI.own (ds := itemsD l) (.head _) fun I => ⟨la, itemsD l, _, rfl, .head _, fun L d hd => ?_, ?_, ?_⟩
    · obtain ⟨p, hp, rfl⟩ := List.mem_map.mp hd
      obtain ⟨a, b⟩ := p
      have h2' := h2 _ hp
      dsimp only at h2' ⊢
      intro O
      by_cases k : (lowered a != lowered nm) = true
      · have e : keepD nm (.tup [.str a, .str b]) = some (.tup [.str a, .str b]) := if_pos k
        rw [e]
        (with_reducible refine' locLk ?z2333hm ?_); (case z2333hm => repeat (first | with_reducible exact Has.here | with_reducible refine Has.there ?_))
        with_reducible refine putS ?_
        with_reducible refine put0 ?_
        with_reducible refine Ifs.one ?_
        (with_reducible refine' Te.cmp ?_ ?z2337hm); (case z2337hm => rfl)
        (with_reducible refine' Ev.meth ?_ ?z2338hm ?z2338hp); (case z2338hm => exact ⟨_, rfl⟩); (case z2338hp => intro _; rfl)
        with_reducible refine Ev.sub ?_
        (with_reducible refine' Ev.loc ?z2340h ?_); (case z2340h => repeat (first | with_reducible exact List.mem_cons_self | with_reducible refine List.mem_cons_of_mem _ ?_))
        with_reducible refine Ev.int ?_
        (with_reducible refine' Op2.itemT ?z2342a ?z2342b ?z2342c ?z2342d ?_ ?z2342hs); (case z2342a => decide); (case z2342b => decide); (case z2342c => first | with_reducible assumption | rfl); (case z2342d => first | with_reducible assumption | rfl); (case z2342hs => intros; rfl)
        (with_reducible refine' GetM.str ?z2343sl ?z2343ty ?_); (case z2343sl => first | with_reducible exact F.slot_str_lower | with_reducible exact F.slot_str_upper); (case z2343ty => first | with_reducible exact F.type_str_lower | with_reducible exact F.type_str_upper)
        (with_reducible refine' And.intro ?z2344k ?_); (case z2344k => with_reducible exact Kp.bui)
        with_reducible refine Evs.nil ?_
        with_reducible refine Ca.app1 ?_
        (with_reducible refine' Ca.lower ?z2347h ?_); (case z2347h => with_reducible assumption)
        (with_reducible refine' Ev.cel ?z2348h ?_); (case z2348h => repeat (first | with_reducible exact List.mem_cons_self | with_reducible refine List.mem_cons_of_mem _ ?_))
        with_reducible refine Op2.neS ?_
        with_reducible refine Tr.bool ?_
        with_reducible refine ite_t (by with_reducible assumption) ?_
        (with_reducible refine' Ev.loc ?z2352h ?_); (case z2352h => repeat (first | with_reducible exact List.mem_cons_self | with_reducible refine List.mem_cons_of_mem _ ?_))
        exact ⟨⟨rfl, rfl⟩, rfl, .keep (.drop .nil)⟩
      · have e : keepD nm (.tup [.str a, .str b]) = none := if_neg k
        rw [e]
        (with_reducible refine' locLk ?z2353hm ?_); (case z2353hm => repeat (first | with_reducible exact Has.here | with_reducible refine Has.there ?_))
        with_reducible refine putS ?_
        with_reducible refine put0 ?_
        with_reducible refine Ifs.one ?_
        (with_reducible refine' Te.cmp ?_ ?z2357hm); (case z2357hm => rfl)
        (with_reducible refine' Ev.meth ?_ ?z2358hm ?z2358hp); (case z2358hm => exact ⟨_, rfl⟩); (case z2358hp => intro _; rfl)
        with_reducible refine Ev.sub ?_
        (with_reducible refine' Ev.loc ?z2360h ?_); (case z2360h => repeat (first | with_reducible exact List.mem_cons_self | with_reducible refine List.mem_cons_of_mem _ ?_))
        with_reducible refine Ev.int ?_
        (with_reducible refine' Op2.itemT ?z2362a ?z2362b ?z2362c ?z2362d ?_ ?z2362hs); (case z2362a => decide); (case z2362b => decide); (case z2362c => first | with_reducible assumption | rfl); (case z2362d => first | with_reducible assumption | rfl); (case z2362hs => intros; rfl)
        (with_reducible refine' GetM.str ?z2363sl ?z2363ty ?_); (case z2363sl => first | with_reducible exact F.slot_str_lower | with_reducible exact F.slot_str_upper); (case z2363ty => first | with_reducible exact F.type_str_lower | with_reducible exact F.type_str_upper)
        (with_reducible refine' And.intro ?z2364k ?_); (case z2364k => with_reducible exact Kp.bui)
        with_reducible refine Evs.nil ?_
        with_reducible refine Ca.app1 ?_
        (with_reducible refine' Ca.lower ?z2367h ?_); (case z2367h => with_reducible assumption)
        (with_reducible refine' Ev.cel ?z2368h ?_); (case z2368h => repeat (first | with_reducible exact List.mem_cons_self | with_reducible refine List.mem_cons_of_mem _ ?_))
        with_reducible refine Op2.neS ?_
        with_reducible refine Tr.bool ?_
        with_reducible refine ite_f (by with_reducible assumption) ?_
        exact ⟨⟨rfl, rfl⟩, rfl, .keep (.drop .nil)⟩
    · rw [List.length_map]; unfold sizeLine; omega
    · rw [delD]
      with_reducible refine As.sub ?_
      (with_reducible refine' Ev.attr ?_ ?z2373he); (case z2373he => rfl)
      (with_reducible refine' Ev.loc ?z2374h ?_); (case z2374h => repeat (first | with_reducible exact List.mem_cons_self | with_reducible refine List.mem_cons_of_mem _ ?_))
      (with_reducible refine' attr251 ?z2375ha ?z2375o ?_); (case z2375ha => with_reducible exact a__headers _ _ _ _); (case z2375o => with_reducible exact ObjOf.frz)
      with_reducible refine fat0 ?_
      (with_reducible refine' hq ?z2377h ?_); (case z2377h => rfl)
      with_reducible refine Ev.slice ?_
      with_reducible refine EvP.none ?_
      with_reducible refine EvP.none ?_
      with_reducible refine EvP.none ?_
      refine Op3.setAll .here .frz (fun b h => by cases h) (by rw [List.length_map]; omega) ?_ ?_
      · rw [List.length_map]; unfold delKeep; exact Nat.le_trans (List.length_filter_le _ _) (by omega)
      · with_reducible refine Ss.nil ?_
        exact ⟨_, .next, .refl, rfl⟩
end
section
variable (w : World) (mg mb : Str → Option Value) (os : OsState)
theorem fn_169 : isFn (Γ2 w mg mb os).K (.ref 169) = true := by kernel_rfl
theorem fn_164 : isFn (Γ2 w mg mb os).K (.ref 164) = true := by kernel_rfl
theorem dl_169 : findIn (Γ2 w mg mb os).K (.ref 251) "__delitem__" = some (some (.ref 169)) := m_169 w mg mb os
noncomputable def setOf (nm v : Str) (l : List (Str × Str)) : List (Str × Str) := delKeep nm l ++ [(nm, v)]
theorem c_set (la : Addr) (l : List (Str × Str)) (nm v : Str) (hz : l.length ≤ 100000) (h1 : okName nm = true) (h3 : noHit codeN nm = true) (h4 : noHit codeV v = true) (h2 : ∀ p ∈ l, (lowered p.1).length ≤ sizeLine) :
    Cal (Γ2 w mg mb os) 3 (.ref 164) [me la, .str nm, .str v] [] [(la, .list (itemsD l))] fun d O' => OS [(la, .list (itemsD (setOf nm v l)))] O' ∧ d = .none := by
  refine Cal.intro (params := ["self", "name", "val"]) (bds := [me la, .str nm, .str v]) [("self", some (me la)), ("name", some (.str nm)), ("val", some (.str v))] [] rfl (by kernel_rfl) rfl ⟨rfl, rfl, rfl, rfl, rfl, rfl⟩
    (fun g s vs ks ok iv ik => ?_) (by decide +kernel) (by decide +kernel) (by decide +kernel) (by decide +kernel) (by kernel_rfl) (by kernel_rfl) fun A L room => ?_
  · obtain ⟨x, y, z, rfl, i, j, k⟩ := iv.three
    exact ⟨[x, y, z], .of_eq (by kernel_rfl), iv⟩
  · have hh := room.h
    have room1 : Room A 1 := room.less (by decide)
    with_reducible refine Ss.cons ?_
    refine S1.delI ?_
    (with_reducible refine' Ev.loc ?z2384h ?_); (case z2384h => repeat (first | with_reducible exact List.mem_cons_self | with_reducible refine List.mem_cons_of_mem _ ?_))
    (with_reducible refine' Ev.loc ?z2385h ?_); (case z2385h => repeat (first | with_reducible exact List.mem_cons_self | with_reducible refine List.mem_cons_of_mem _ ?_))
    refine ⟨251, 169, _, .frz, ns_251 w mg mb os, dl_169 w mg mb os, fn_169 w mg mb os, Cal.ca (Cal.mono (c_del w mg mb os la l nm hz h1 h2) fun d O' hd => ?_) room⟩
    refine Exs.weak .refl hd.1 ?_
    with_reducible refine Ss.cons ?_
    (with_reducible refine' S1.exprAny ?_ ?z2387hi ?z2387hs); (case z2387hi => rfl); (case z2387hs => rfl)
    (with_reducible refine' Ev.meth ?_ ?z2388hm ?z2388hp); (case z2388hm => exact ⟨_, rfl⟩); (case z2388hp => intro _; rfl)
    (with_reducible refine' Ev.attr ?_ ?z2389he); (case z2389he => rfl)
    (with_reducible refine' Ev.loc ?z2390h ?_); (case z2390h => repeat (first | with_reducible exact List.mem_cons_self | with_reducible refine List.mem_cons_of_mem _ ?_))
    (with_reducible refine' attr251 ?z2391ha ?z2391o ?_); (case z2391ha => with_reducible exact a__headers _ _ _ _); (case z2391o => with_reducible exact ObjOf.frz)
    with_reducible refine fat0 ?_
    (with_reducible refine' hq ?z2393h ?_); (case z2393h => rfl)
    refine GetM.list (ds := itemsD (delKeep nm l)) (.own (.head _)) slot_list_append (by first | exact type_list_append | exact F.type_list_append) ?_
    (with_reducible refine' And.intro ?z2394k ?_); (case z2394k => with_reducible exact Kp.bui)
    (with_reducible refine' Evs.cons ?_ ?z2395he); (case z2395he => rfl)
    with_reducible refine Ev.tup ?_
    (with_reducible refine' Evs.cons ?_ ?z2397he); (case z2397he => rfl)
    (with_reducible refine' Ev.methK (ks := ["name"]) ?_ ?z2398a ?z2398b ?z2398c ?z2398d ?z2398e ?z2398f); (case z2398a => exact ⟨_, rfl⟩); (case z2398b => intro _; rfl); (case z2398c => intro _; rfl); (case z2398d => intro _; rfl); (case z2398e => intro _; rfl); (case z2398f => exact fun _ => ⟨_, _, rfl⟩)
    (with_reducible refine' Ev.loc ?z2399h ?_); (case z2399h => repeat (first | with_reducible exact List.mem_cons_self | with_reducible refine List.mem_cons_of_mem _ ?_))
    (with_reducible refine' meth251 ?z2400hf ?z2400ht ?z2400o ?z2400hs ?_); (case z2400hf => first | with_reducible exact m_150 _ _ _ _ | with_reducible exact m_198 _ _ _ _ | with_reducible exact m_203 _ _ _ _); (case z2400ht => first | with_reducible exact ty_150 _ _ _ _ | with_reducible exact ty_198 _ _ _ _ | with_reducible exact ty_203 _ _ _ _); (case z2400o => with_reducible exact ObjOf.frz); (case z2400hs => kernel_rfl)
    (with_reducible refine' And.intro ?z2401k ?_); (case z2401k => with_reducible exact k_150 _ _ _ _)
    (with_reducible refine' Evs.cons ?_ ?z2402he); (case z2402he => rfl)
    (with_reducible refine' Ev.loc ?z2403h ?_); (case z2403h => repeat (first | with_reducible exact List.mem_cons_self | with_reducible refine List.mem_cons_of_mem _ ?_))
    with_reducible refine Evs.nil ?_
    with_reducible refine EvK.one ?_
    with_reducible refine Ev.bool ?_
    (with_reducible refine' And.intro ?z2407k ?_); (case z2407k => kwd_rel)
    with_reducible refine Ca.app1 ?_
    with_reducible refine Ca.zip1 ?_
    refine conv_ca w mg mb os room1 (b := true) (by rw [if_pos rfl]; exact h3) ?_
    (with_reducible refine' Evs.cons ?_ ?z2410he); (case z2410he => rfl)
    (with_reducible refine' Ev.methK (ks := ["name"]) ?_ ?z2411a ?z2411b ?z2411c ?z2411d ?z2411e ?z2411f); (case z2411a => exact ⟨_, rfl⟩); (case z2411b => intro _; rfl); (case z2411c => intro _; rfl); (case z2411d => intro _; rfl); (case z2411e => intro _; rfl); (case z2411f => exact fun _ => ⟨_, _, rfl⟩)
    (with_reducible refine' Ev.loc ?z2412h ?_); (case z2412h => repeat (first | with_reducible exact List.mem_cons_self | with_reducible refine List.mem_cons_of_mem _ ?_))
    (with_reducible refine' meth251 ?z2413hf ?z2413ht ?z2413o ?z2413hs ?_); (case z2413hf => first | with_reducible exact m_150 _ _ _ _ | with_reducible exact m_198 _ _ _ _ | with_reducible exact m_203 _ _ _ _); (case z2413ht => first | with_reducible exact ty_150 _ _ _ _ | with_reducible exact ty_198 _ _ _ _ | with_reducible exact ty_203 _ _ _ _); (case z2413o => with_reducible exact ObjOf.frz); (case z2413hs => kernel_rfl)
    (with_reducible refine' And.intro ?z2414k ?_); (case z2414k => with_reducible exact k_150 _ _ _ _)
    (with_reducible refine' Evs.cons ?_ ?z2415he); (case z2415he => rfl)
    (with_reducible refine' Ev.loc ?z2416h ?_); (case z2416h => repeat (first | with_reducible exact List.mem_cons_self | with_reducible refine List.mem_cons_of_mem _ ?_))
    with_reducible refine Evs.nil ?_
    with_reducible refine EvK.one ?_
    with_reducible refine Ev.bool ?_
    (with_reducible refine' And.intro ?z2420k ?_); (case z2420k => kwd_rel)
    with_reducible refine Ca.app1 ?_
    with_reducible refine Ca.zip1 ?_
    refine conv_ca w mg mb os room1 (b := false) (by rw [if_neg (by decide)]; exact h4) ?_
    with_reducible refine Evs.nil ?_
    with_reducible refine And.intro (Nat.le_of_ble_eq_true rfl) ?_
    with_reducible refine Evs.nil ?_
    with_reducible refine Ca.app1 ?_
    refine Ca.append (ds := itemsD (delKeep nm l)) .here ?_ ?_
    · rw [List.length_map]; unfold delKeep sizeLine; exact Nat.le_trans (List.length_filter_le _ _) (by omega)
    · with_reducible refine Ss.nil ?_
      refine ⟨_, .next, ?_, rfl⟩
      have e : itemsD (delKeep nm l) ++ [D.tup [.str nm, .str v]] = itemsD (setOf nm v l) := by unfold itemsD setOf; rw [List.map_append]; rfl
      rw [e]
      exact .refl
noncomputable def getGo (nm : Str) : List (Str × Str) → D
  | [] => .none
  | p :: r => if (lowered p.1 == lowered nm) = true then .str p.2 else getGo nm r
theorem c_get (la : Addr) (l : List (Str × Str)) (nm : Str) (h1 : okName nm = true) (h2 : ∀ p ∈ l, (lowered p.1).length ≤ sizeLine) :
    Cal (Γ2 w mg mb os) 2 (.ref 198) [me la, .str nm] [] [(la, .list (itemsD l))] fun d O' => OS [(la, .list (itemsD l))] O' ∧ d = getGo nm l := by
  refine Cal.intro (params := ["self", "name", "default"]) (bds := [me la, .str nm, .none]) [("self", some (me la)), ("name", some (.str nm)), ("default", some .none), ("k", none), ("v", none)] [] rfl (by kernel_rfl) rfl ⟨rfl, rfl, rfl, rfl, rfl, rfl⟩
    (fun g s vs ks ok iv ik => ?_) (by decide +kernel) (by decide +kernel) (by decide +kernel) (by decide +kernel) (by kernel_rfl) (by kernel_rfl) fun A L room => ?_
  · obtain ⟨x, y, rfl, i, j⟩ := iv.two
    exact ⟨[x, y, .none], binds_K (K := (Γ2 w mg mb os).K) ok.kin rfl rfl rfl rfl rfl, .cons i (.cons j (.cons .none .nil))⟩
  · have hh := room.h
    unfold okName at h1
    rw [Bool.and_eq_true] at h1
    have h11 := of_decide_eq_true h1.1
    with_reducible refine Ss.cons ?_
    (with_reducible refine' asLk ?z2429hm ?_ ?z2429hs); (case z2429hm => repeat (first | with_reducible exact Has.here | with_reducible refine Has.there ?_)); (case z2429hs => rfl)
    (with_reducible refine' Ev.methK (ks := ["name"]) ?_ ?z2430a ?z2430b ?z2430c ?z2430d ?z2430e ?z2430f); (case z2430a => exact ⟨_, rfl⟩); (case z2430b => intro _; rfl); (case z2430c => intro _; rfl); (case z2430d => intro _; rfl); (case z2430e => intro _; rfl); (case z2430f => exact fun _ => ⟨_, _, rfl⟩)
    (with_reducible refine' Ev.loc ?z2431h ?_); (case z2431h => repeat (first | with_reducible exact List.mem_cons_self | with_reducible refine List.mem_cons_of_mem _ ?_))
    (with_reducible refine' meth251 ?z2432hf ?z2432ht ?z2432o ?z2432hs ?_); (case z2432hf => first | with_reducible exact m_150 _ _ _ _ | with_reducible exact m_198 _ _ _ _ | with_reducible exact m_203 _ _ _ _); (case z2432ht => first | with_reducible exact ty_150 _ _ _ _ | with_reducible exact ty_198 _ _ _ _ | with_reducible exact ty_203 _ _ _ _); (case z2432o => with_reducible exact ObjOf.frz); (case z2432hs => kernel_rfl)
    (with_reducible refine' And.intro ?z2433k ?_); (case z2433k => with_reducible exact k_150 _ _ _ _)
    (with_reducible refine' Evs.cons ?_ ?z2434he); (case z2434he => rfl)
    (with_reducible refine' Ev.meth ?_ ?z2435hm ?z2435hp); (case z2435hm => exact ⟨_, rfl⟩); (case z2435hp => intro _; rfl)
    (with_reducible refine' Ev.loc ?z2436h ?_); (case z2436h => repeat (first | with_reducible exact List.mem_cons_self | with_reducible refine List.mem_cons_of_mem _ ?_))
    (with_reducible refine' GetM.str ?z2437sl ?z2437ty ?_); (case z2437sl => first | with_reducible exact F.slot_str_lower | with_reducible exact F.slot_str_upper); (case z2437ty => first | with_reducible exact F.type_str_lower | with_reducible exact F.type_str_upper)
    (with_reducible refine' And.intro ?z2438k ?_); (case z2438k => with_reducible exact Kp.bui)
    with_reducible refine Evs.nil ?_
    with_reducible refine Ca.app1 ?_
    (with_reducible refine' Ca.lower ?z2441h ?_); (case z2441h => with_reducible assumption)
    with_reducible refine Evs.nil ?_
    with_reducible refine EvK.one ?_
    with_reducible refine Ev.bool ?_
    (with_reducible refine' And.intro ?z2445k ?_); (case z2445k => kwd_rel)
    with_reducible refine Ca.app1 ?_
    with_reducible refine Ca.zip1 ?_
    refine conv_ca w mg mb os room (b := true) (by rw [if_pos rfl]; exact h1.2) ?_
    with_reducible refine putS ?_
    with_reducible refine put0 ?_
    with_reducible refine Ss.cons ?_
    refine' S1.forLit (σ := Unit) (fun _ => [("self", some (me la)), ("name", some (.str (lowered nm))), ("default", some .none), ("k", none), ("v", none)]) (fun _ => []) (fun _ => [(la, .list (itemsD l))])
      (fun _ ds => ∃ r : List (Str × Str), ds = itemsD r ∧ (∀ p ∈ r, (lowered p.1).length ≤ sizeLine) ∧ getGo nm r = getGo nm l) la (itemsD l) (fun _ => .head _) hh ?_ ?_ ?_ ?hp ?hs
    case hp => rfl
    case hs => exact fun _ => rfl
    · (with_reducible refine' Ev.attr ?_ ?z2451he); (case z2451he => rfl)
      (with_reducible refine' Ev.loc ?z2452h ?_); (case z2452h => repeat (first | with_reducible exact List.mem_cons_self | with_reducible refine List.mem_cons_of_mem _ ?_))
      (with_reducible refine' attr251 ?z2453ha ?z2453o ?_); (case z2453ha => with_reducible exact a__headers _ _ _ _); (case z2453o => with_reducible exact ObjOf.frz)
      with_reducible refine fat0 ?_
      (with_reducible refine' hq ?z2455h ?_); (case z2455h => rfl)
      refine GetI.own (ds := itemsD l) (.head _) fun I => ?_
      exact ⟨(), .refl, rfl, rfl, l, rfl, h2, rfl⟩
    · rintro I - i d ds ⟨r, e, hr, hg⟩
      cases r with
      | nil => cases e
      | cons p r =>
        obtain ⟨k, v⟩ := p
        obtain ⟨e1, e2⟩ := List.cons.inj e
        subst e1 e2
        have hk := hr _ (.head _)
        have hg : (if (lowered k == lowered nm) = true then D.str v else getGo nm r) = getGo nm l := hg
        dsimp only at hk ⊢
        by_cases c : (lowered k == lowered nm) = true
        · rw [if_pos c] at hg
          (with_reducible refine' As.tup2 ?z2456hh ?_); (case z2456hh => with_reducible assumption)
          with_reducible refine Asl.cons ?_
          (with_reducible refine' locLk ?z2458hm ?_); (case z2458hm => repeat (first | with_reducible exact Has.here | with_reducible refine Has.there ?_))
          with_reducible refine putS ?_
          with_reducible refine putS ?_
          with_reducible refine putS ?_
          with_reducible refine put0 ?_
          with_reducible refine Asl.cons ?_
          (with_reducible refine' locLk ?z2464hm ?_); (case z2464hm => repeat (first | with_reducible exact Has.here | with_reducible refine Has.there ?_))
          with_reducible refine putS ?_
          with_reducible refine putS ?_
          with_reducible refine putS ?_
          with_reducible refine putS ?_
          with_reducible refine put0 ?_
          with_reducible refine Asl.nil ?_
          with_reducible refine Ss.cons ?_
          with_reducible refine S1.ite ?_
          (with_reducible refine' Te.cmp ?_ ?z2473hm); (case z2473hm => rfl)
          (with_reducible refine' Ev.meth ?_ ?z2474hm ?z2474hp); (case z2474hm => exact ⟨_, rfl⟩); (case z2474hp => intro _; rfl)
          (with_reducible refine' Ev.loc ?z2475h ?_); (case z2475h => repeat (first | with_reducible exact List.mem_cons_self | with_reducible refine List.mem_cons_of_mem _ ?_))
          (with_reducible refine' GetM.str ?z2476sl ?z2476ty ?_); (case z2476sl => first | with_reducible exact F.slot_str_lower | with_reducible exact F.slot_str_upper); (case z2476ty => first | with_reducible exact F.type_str_lower | with_reducible exact F.type_str_upper)
          (with_reducible refine' And.intro ?z2477k ?_); (case z2477k => with_reducible exact Kp.bui)
          with_reducible refine Evs.nil ?_
          with_reducible refine Ca.app1 ?_
          (with_reducible refine' Ca.lower ?z2480h ?_); (case z2480h => with_reducible assumption)
          (with_reducible refine' Ev.loc ?z2481h ?_); (case z2481h => repeat (first | with_reducible exact List.mem_cons_self | with_reducible refine List.mem_cons_of_mem _ ?_))
          with_reducible refine Op2.eqS ?_
          with_reducible refine Tr.bool ?_
          with_reducible refine ite_t (by with_reducible assumption) ?_
          with_reducible refine Ss.cons ?_
          with_reducible refine S1.ret ?_
          (with_reducible refine' Ev.loc ?z2487h ?_); (case z2487h => repeat (first | with_reducible exact List.mem_cons_self | with_reducible refine List.mem_cons_of_mem _ ?_))
          exact ⟨_, .ret, .of (.cons _ (List.Sublist.refl _)), hg⟩
        · rw [if_neg c] at hg
          (with_reducible refine' As.tup2 ?z2488hh ?_); (case z2488hh => with_reducible assumption)
          with_reducible refine Asl.cons ?_
          (with_reducible refine' locLk ?z2490hm ?_); (case z2490hm => repeat (first | with_reducible exact Has.here | with_reducible refine Has.there ?_))
          with_reducible refine putS ?_
          with_reducible refine putS ?_
          with_reducible refine putS ?_
          with_reducible refine put0 ?_
          with_reducible refine Asl.cons ?_
          (with_reducible refine' locLk ?z2496hm ?_); (case z2496hm => repeat (first | with_reducible exact Has.here | with_reducible refine Has.there ?_))
          with_reducible refine putS ?_
          with_reducible refine putS ?_
          with_reducible refine putS ?_
          with_reducible refine putS ?_
          with_reducible refine put0 ?_
          with_reducible refine Asl.nil ?_
          with_reducible refine Ss.cons ?_
          with_reducible refine S1.ite ?_
          (with_reducible refine' Te.cmp ?_ ?z2505hm); (case z2505hm => rfl)
          (with_reducible refine' Ev.meth ?_ ?z2506hm ?z2506hp); (case z2506hm => exact ⟨_, rfl⟩); (case z2506hp => intro _; rfl)
          (with_reducible refine' Ev.loc ?z2507h ?_); (case z2507h => repeat (first | with_reducible exact List.mem_cons_self | with_reducible refine List.mem_cons_of_mem _ ?_))
          (with_reducible refine' GetM.str ?z2508sl ?z2508ty ?_); (case z2508sl => first | with_reducible exact F.slot_str_lower | with_reducible exact F.slot_str_upper); (case z2508ty => first | with_reducible exact F.type_str_lower | with_reducible exact F.type_str_upper)
          (with_reducible refine' And.intro ?z2509k ?_); (case z2509k => with_reducible exact Kp.bui)
          with_reducible refine Evs.nil ?_
          with_reducible refine Ca.app1 ?_
          (with_reducible refine' Ca.lower ?z2512h ?_); (case z2512h => with_reducible assumption)
          (with_reducible refine' Ev.loc ?z2513h ?_); (case z2513h => repeat (first | with_reducible exact List.mem_cons_self | with_reducible refine List.mem_cons_of_mem _ ?_))
          with_reducible refine Op2.eqS ?_
          with_reducible refine Tr.bool ?_
          with_reducible refine ite_f (by with_reducible assumption) ?_
          with_reducible refine Ss.nil ?_
          with_reducible refine Ss.nil ?_
          exact ⟨(), .keep (.keep (.keep (.drop (.drop .nil)))), rfl, .refl, r, rfl, fun p hp => hr p (.tail _ hp), hg⟩
    · rintro - ⟨r, e, hr, hg⟩
      cases r with
      | cons p r => cases e
      | nil =>
        with_reducible refine Ss.cons ?_
        with_reducible refine S1.ret ?_
        (with_reducible refine' Ev.loc ?z2521h ?_); (case z2521h => repeat (first | with_reducible exact List.mem_cons_self | with_reducible refine List.mem_cons_of_mem _ ?_))
        exact ⟨_, .ret, .refl, hg⟩
end
section
variable (w : World) (mg mb : Str → Option Value) (os : OsState)
noncomputable def hexStr : Str := "0123456789abcdef"
noncomputable def hexCp (k : Int) : Nat := hexStr.cps.getD k.toNat 0
noncomputable def nameGo : List UInt64 → Str → Option Str
  | [], acc => some acc
  | p :: r, acc => (ftrunc (Float64.add (Float64.mul p (Float64.ofInt 255)) fHalf)).bind fun o => if 0 ≤ o ∧ o < 256 then nameGo r (acc ++ ⟨#[hexCp (o.fdiv 16)]⟩ ++ ⟨#[hexCp (o.fmod 16)]⟩) else none
noncomputable def nameSpec (place size : Int) : Option Str :=
  if (size == 0) = false ∧ Float64.isInf (idiv place size) = false then (hsvSpec (idiv place size) fOne fOne).bind fun x => nameGo [x.1, x.2.1, x.2.2] "#" else none
theorem hexAt {k : Int} (h0 : 0 ≤ k) (h1 : k < 16) : (seqIndex? k hexStr.length).bind (hexStr.cps[·]?) = some (hexCp k) := by
  obtain ⟨i, rfl⟩ := Int.eq_ofNat_of_zero_le h0
  have h : ∀ i : Nat, i < 16 → (seqIndex? (i : Int) hexStr.length).bind (hexStr.cps[·]?) = some (hexCp i) := by decide +kernel
  exact h i (by omega)
theorem fdiv16 {o : Int} (h0 : 0 ≤ o) (h1 : o < 256) : 0 ≤ o.fdiv 16 ∧ o.fdiv 16 < 16 := by
  rw [Int.fdiv_eq_ediv_of_nonneg _ (by decide)]; omega
theorem fmod16 {o : Int} : 0 ≤ o.fmod 16 ∧ o.fmod 16 < 16 := by
  rw [Int.fmod_eq_emod_of_nonneg _ (by decide)]; omega
theorem c_name (place size : Int) (gd : D) (gb : Bool) (nm : Str) (hg : truthD gd = some gb) (hn : nameSpec place size = some nm) (hu : (uppered nm).length ≤ sizeLine) :
    Cal (Γ2 w mg mb os) 2 (.ref 262) [.int place, .int size, gd] [] [] fun d O' => O' = [] ∧ d = .str (if gb then uppered nm else nm) := by
  refine Cal.intro (params := ["place", "size", "great"]) (bds := [.int place, .int size, gd]) [("place", some (.int place)), ("size", some (.int size)), ("great", some gd), ("name", none), ("part", none), ("octet", none)] [] rfl (by kernel_rfl) rfl ⟨rfl, rfl, rfl, rfl, rfl, rfl⟩
    (fun g s vs ks ok iv ik => ?_) (by decide +kernel) (by decide +kernel) (by decide +kernel) (by decide +kernel) (by kernel_rfl) (by kernel_rfl) fun A L room => ?_
  · obtain ⟨x, y, z, rfl, i, j, k⟩ := iv.three
    exact ⟨[x, y, z], .of_eq (by kernel_rfl), iv⟩
  · have hh := room.h
    unfold nameSpec at hn
    by_cases hc : (size == 0) = false ∧ Float64.isInf (idiv place size) = false
    case neg => rw [if_neg hc] at hn; cases hn
    rw [if_pos hc] at hn
    obtain ⟨hc1, hc2⟩ := hc
    obtain ⟨⟨a, b, c⟩, hs, hn⟩ := Option.bind_eq_some_iff.mp hn
    dsimp only at hn
    with_reducible refine Ss.cons ?_
    (with_reducible refine' asLk ?z2523hm ?_ ?z2523hs); (case z2523hm => repeat (first | with_reducible exact Has.here | with_reducible refine Has.there ?_)); (case z2523hs => rfl)
    with_reducible refine Ev.str ?_
    with_reducible refine putS ?_
    with_reducible refine putS ?_
    with_reducible refine putS ?_
    with_reducible refine put0 ?_
    with_reducible refine Ss.cons ?_
    refine' S1.forIn (σ := List UInt64 × Str) (fun st => [("place", some (.int place)), ("size", some (.int size)), ("great", some gd), ("name", some (.str st.2)), ("part", none), ("octet", none)]) (fun _ => []) (fun _ => [])
      (fun st ds => ds = st.1.map D.flt ∧ nameGo st.1 st.2 = some nm ∧ st.2.length + 2 * st.1.length ≤ 100) hh ?_ ?_ ?_ ?hp ?hs
    case hp => rfl
    case hs => exact fun _ => rfl
    · (with_reducible refine' Ev.call ?_ ?z2530hp); (case z2530hp => intro _; rfl)
      (with_reducible refine' Ev.glo ?z2531h ?_ ?z2531hx); (case z2531h => with_reducible exact n_hsv_to_rgb _ _ _ _); (case z2531hx => kernel_rfl)
      (with_reducible refine' ⟨_, rfl, ?z2532k, ?_⟩); (case z2532k => with_reducible exact k_118 _ _ _ _)
      (with_reducible refine' Evs.cons ?_ ?z2533he); (case z2533he => rfl)
      with_reducible refine Ev.bin ?_
      (with_reducible refine' Ev.loc ?z2535h ?_); (case z2535h => repeat (first | with_reducible exact List.mem_cons_self | with_reducible refine List.mem_cons_of_mem _ ?_))
      (with_reducible refine' Ev.loc ?z2536h ?_); (case z2536h => repeat (first | with_reducible exact List.mem_cons_self | with_reducible refine List.mem_cons_of_mem _ ?_))
      (with_reducible refine' Op2.divI ?z2537a ?z2537b ?_); (case z2537a => with_reducible assumption); (case z2537b => with_reducible assumption)
      (with_reducible refine' Evs.cons ?_ ?z2538he); (case z2538he => rfl)
      with_reducible refine Ev.flt ?_
      (with_reducible refine' Evs.cons ?_ ?z2540he); (case z2540he => rfl)
      with_reducible refine Ev.flt ?_
      with_reducible refine Evs.nil ?_
      refine Cal.ca (Cal.pure (c_hsv w mg mb os _ _ _ a b c hs) fun d O' h => ⟨h.1, ?_⟩) room
      rw [h.2]
      with_reducible refine GetI.tup (fun _ => ?_)
      exact ⟨([a, b, c], "#"), _, .refl, rfl, rfl, rfl, hn, by show (1 : Nat) + 2 * 3 ≤ 100; decide⟩
    · rintro I ⟨ps, acc⟩ d ds ⟨e, hgo, hl⟩
      cases ps with
      | nil => cases e
      | cons p ps =>
        dsimp only at e hgo hl ⊢
        obtain ⟨e1, e2⟩ := List.cons.inj e
        subst e1 e2
        unfold nameGo at hgo
        obtain ⟨o, ho, hgo⟩ := Option.bind_eq_some_iff.mp hgo
        by_cases hr : 0 ≤ o ∧ o < 256
        case neg => rw [if_neg hr] at hgo; cases hgo
        rw [if_pos hr] at hgo
        rw [List.length_cons] at hl
        obtain ⟨f1, f2⟩ := fdiv16 hr.1 hr.2
        obtain ⟨m1, m2⟩ := fmod16 (o := o)
        have x1 := hexAt f1 f2
        have x2 := hexAt m1 m2
        have r1 : (decide (o.fdiv 16 < -(2 ^ 63 : Int)) || decide (o.fdiv 16 ≥ 2 ^ 63)) = false := by simp; omega
        have r2 : (decide (o.fmod 16 < -(2 ^ 63 : Int)) || decide (o.fmod 16 ≥ 2 ^ 63)) = false := by simp; omega
        have l1 : acc.length < 1000000 := by omega
        have l2 : (acc ++ ⟨#[hexCp (o.fdiv 16)]⟩ : Str).length < 1000000 := by rw [Str.len_app]; show acc.length + 1 < _; omega
        unfold hexStr at x1 x2
        (with_reducible refine' locLk ?z2544hm ?_); (case z2544hm => repeat (first | with_reducible exact Has.here | with_reducible refine Has.there ?_))
        with_reducible refine putS ?_
        with_reducible refine putS ?_
        with_reducible refine putS ?_
        with_reducible refine putS ?_
        with_reducible refine put0 ?_
        with_reducible refine Ss.cons ?_
        (with_reducible refine' asLk ?z2551hm ?_ ?z2551hs); (case z2551hm => repeat (first | with_reducible exact Has.here | with_reducible refine Has.there ?_)); (case z2551hs => rfl)
        (with_reducible refine' Ev.call ?_ ?z2552hp); (case z2552hp => intro _; rfl)
        (with_reducible refine' Ev.bui ?z2553h ?_ ?z2553hx); (case z2553h => with_reducible exact b_int _ _ _ _); (case z2553hx => kernel_rfl)
        (with_reducible refine' ⟨_, rfl, ?z2554k, ?_⟩); (case z2554k => with_reducible exact Kp.typ)
        (with_reducible refine' Evs.cons ?_ ?z2555he); (case z2555he => rfl)
        with_reducible refine Ev.bin ?_
        with_reducible refine Ev.bin ?_
        (with_reducible refine' Ev.loc ?z2558h ?_); (case z2558h => repeat (first | with_reducible exact List.mem_cons_self | with_reducible refine List.mem_cons_of_mem _ ?_))
        with_reducible refine Ev.int ?_
        with_reducible refine Op2.mulFI (fit3 (by decide)) ?_
        with_reducible refine Ev.flt ?_
        with_reducible refine Op2.addF ?_
        with_reducible refine Evs.nil ?_
        with_reducible refine Ca.intF (by with_reducible assumption) ?_
        with_reducible refine putS ?_
        with_reducible refine putS ?_
        with_reducible refine putS ?_
        with_reducible refine putS ?_
        with_reducible refine putS ?_
        with_reducible refine put0 ?_
        with_reducible refine Ss.cons ?_
        (with_reducible refine' asLk ?z2572hm ?_ ?z2572hs); (case z2572hm => repeat (first | with_reducible exact Has.here | with_reducible refine Has.there ?_)); (case z2572hs => rfl)
        with_reducible refine Ev.bin ?_
        with_reducible refine Ev.bin ?_
        (with_reducible refine' Ev.loc ?z2575h ?_); (case z2575h => repeat (first | with_reducible exact List.mem_cons_self | with_reducible refine List.mem_cons_of_mem _ ?_))
        with_reducible refine Ev.sub ?_
        with_reducible refine Ev.str ?_
        with_reducible refine Ev.bin ?_
        (with_reducible refine' Ev.loc ?z2579h ?_); (case z2579h => repeat (first | with_reducible exact List.mem_cons_self | with_reducible refine List.mem_cons_of_mem _ ?_))
        with_reducible refine Ev.int ?_
        (with_reducible refine' Op2.fdivI ?z2581h ?z2581k ?_); (case z2581h => decide); (case z2581k => decide)
        (with_reducible refine' Op2.itemS ?z2582a ?z2582b ?_ ?z2582hs); (case z2582a => with_reducible assumption); (case z2582b => with_reducible assumption); (case z2582hs => intros; rfl)
        (with_reducible refine' addS1 ?z2583h ?_); (case z2583h => with_reducible assumption)
        with_reducible refine Ev.sub ?_
        with_reducible refine Ev.str ?_
        with_reducible refine Ev.bin ?_
        (with_reducible refine' Ev.loc ?z2587h ?_); (case z2587h => repeat (first | with_reducible exact List.mem_cons_self | with_reducible refine List.mem_cons_of_mem _ ?_))
        with_reducible refine Ev.int ?_
        (with_reducible refine' Op2.modI ?z2589h ?_); (case z2589h => decide)
        (with_reducible refine' Op2.itemS ?z2590a ?z2590b ?_ ?z2590hs); (case z2590a => with_reducible assumption); (case z2590b => with_reducible assumption); (case z2590hs => intros; rfl)
        (with_reducible refine' addS1 ?z2591h ?_); (case z2591h => with_reducible assumption)
        with_reducible refine putS ?_
        with_reducible refine putS ?_
        with_reducible refine putS ?_
        with_reducible refine put0 ?_
        with_reducible refine Ss.nil ?_
        exact ⟨(ps, _), .keep (.keep (.keep (.keep (.drop (.drop .nil))))), rfl, .refl, rfl, hgo, by dsimp only; rw [Str.len_app, Str.len_app]; show acc.length + 1 + 1 + _ ≤ _; omega⟩
    · rintro ⟨ps, acc⟩ ⟨e, hgo, hl⟩
      cases ps with
      | cons p ps => cases e
      | nil =>
        have hgo : some acc = some nm := hgo
        cases hgo
        dsimp only
        cases gb with
        | true =>
          with_reducible refine Ss.cons ?_
          with_reducible refine S1.ret ?_
          with_reducible refine Ev.ife ?_
          (with_reducible refine' Te.val ?_ ?z2600he); (case z2600he => rfl)
          (with_reducible refine' Ev.loc ?z2601h ?_); (case z2601h => repeat (first | with_reducible exact List.mem_cons_self | with_reducible refine List.mem_cons_of_mem _ ?_))
          (with_reducible refine' Tr.of ?z2602h ?_); (case z2602h => with_reducible assumption)
          with_reducible refine ite_t rfl ?_
          (with_reducible refine' Ev.meth ?_ ?z2604hm ?z2604hp); (case z2604hm => exact ⟨_, rfl⟩); (case z2604hp => intro _; rfl)
          (with_reducible refine' Ev.loc ?z2605h ?_); (case z2605h => repeat (first | with_reducible exact List.mem_cons_self | with_reducible refine List.mem_cons_of_mem _ ?_))
          (with_reducible refine' GetM.str ?z2606sl ?z2606ty ?_); (case z2606sl => first | with_reducible exact F.slot_str_lower | with_reducible exact F.slot_str_upper); (case z2606ty => first | with_reducible exact F.type_str_lower | with_reducible exact F.type_str_upper)
          (with_reducible refine' And.intro ?z2607k ?_); (case z2607k => with_reducible exact Kp.bui)
          with_reducible refine Evs.nil ?_
          with_reducible refine Ca.app1 ?_
          (with_reducible refine' Ca.upper ?z2610h ?_); (case z2610h => with_reducible assumption)
          exact ⟨_, .ret, rfl, rfl⟩
        | false =>
          with_reducible refine Ss.cons ?_
          with_reducible refine S1.ret ?_
          with_reducible refine Ev.ife ?_
          (with_reducible refine' Te.val ?_ ?z2614he); (case z2614he => rfl)
          (with_reducible refine' Ev.loc ?z2615h ?_); (case z2615h => repeat (first | with_reducible exact List.mem_cons_self | with_reducible refine List.mem_cons_of_mem _ ?_))
          (with_reducible refine' Tr.of ?z2616h ?_); (case z2616h => with_reducible assumption)
          with_reducible refine ite_f Bool.false_ne_true ?_
          (with_reducible refine' Ev.loc ?z2618h ?_); (case z2618h => repeat (first | with_reducible exact List.mem_cons_self | with_reducible refine List.mem_cons_of_mem _ ?_))
          exact ⟨_, .ret, rfl, rfl⟩
end
section
variable (w : World) (mg mb : Str → Option Value) (os : OsState)
noncomputable def isFig (c : Nat) : Bool := decide ((⟨#[c]⟩ : Str).cps.toList < (":" : Str).cps.toList)
noncomputable def figOf (c : Nat) : Int := if isFig c = true then (c : Int) - 48 else (c : Int) - 87
noncomputable def figD : D → Option D
  | .str x => some (.int (figOf (x.cps.getD 0 0)))
  | _ => none
theorem figsD : ∀ l : List Nat, (signs l).filterMap figD = l.map fun c => D.int (figOf c)
  | [] => rfl
  | c :: r => by show D.int (figOf c) :: (signs r).filterMap figD = _; rw [figsD r]; rfl
noncomputable def tintD (x y z : UInt64) : D → Option D
  | .int 0 => some (.flt x)
  | .int 2 => some (.flt y)
  | .int 4 => some (.flt z)
  | _ => none
noncomputable abbrev tint (a b : Int) : UInt64 := Float64.div (Float64.ofInt (16 * a + b)) f255
noncomputable def tintOk (a b : Int) : Bool := !Float64.isInf (Float64.ofInt (16 * a + b))
theorem tintD0 (x y z : UInt64) : tintD x y z (.int 0) = some (.flt x) := rfl
theorem tintD2 (x y z : UInt64) : tintD x y z (.int 2) = some (.flt y) := rfl
theorem tintD4 (x y z : UInt64) : tintD x y z (.int 4) = some (.flt z) := rfl
theorem tintDs (x y z : UInt64) : ([D.int 0, D.int 2, D.int 4].filterMap (tintD x y z)) = [.flt x, .flt y, .flt z] := rfl
noncomputable def placeSpec (nm : Str) (size : Int) : Option Int :=
  match (lowered (Lw.sliceS nm (some 1) none none)).cps.toList.map figOf with
  | [a, b, c, d, e, f] => if tintOk a b = true ∧ tintOk c d = true ∧ tintOk e f = true ∧ size ≠ 0 ∧ size.natAbs < 1000 then
      (rgbSpec (tint a b) (tint c d) (tint e f)).bind fun x => (ftrunc (Float64.add (Float64.mul x.1 (Float64.ofInt size)) fHalf)).bind fun k => some (k.fmod size)
    else none
  | _ => none
theorem c_place (nm : Str) (size k : Int) (hs : placeSpec nm size = some k) (h1 : (Lw.sliceS nm (some 1) none none).length ≤ sizeLine) (h2 : (lowered (Lw.sliceS nm (some 1) none none)).length ≤ sizeLine) :
    Cal (Γ2 w mg mb os) 2 (.ref 267) [.str nm, .int size] [] [] fun d O' => O' = [] ∧ d = .int k := by
  refine Cal.intro (params := ["name", "size"]) (bds := [.str nm, .int size]) [("name", some (.str nm)), ("size", some (.int size)), ("red", none), ("green", none), ("blue", none)] [("figures", none)] rfl (by kernel_rfl) rfl ⟨rfl, rfl, rfl, rfl, rfl, rfl⟩
    (fun g s vs ks ok iv ik => ?_) (by decide +kernel) (by decide +kernel) (by decide +kernel) (by decide +kernel) (by kernel_rfl) (by kernel_rfl) fun A L room => ?_
  · obtain ⟨x, y, rfl, i, j⟩ := iv.two
    exact ⟨[x, y], .of_eq (by kernel_rfl), iv⟩
  · have hh := room.h
    unfold placeSpec at hs
    split at hs
    case h_2 => cases hs
    rename_i a b c d e f hfig
    by_cases hc : tintOk a b = true ∧ tintOk c d = true ∧ tintOk e f = true ∧ size ≠ 0 ∧ size.natAbs < 1000
    case neg => rw [if_neg hc] at hs; cases hs
    rw [if_pos hc] at hs
    obtain ⟨t1, t2, t3, hz0, hz1⟩ := hc
    unfold tintOk at t1 t2 t3
    have t1' : Float64.isInf (Float64.ofInt (16 * a + b)) = false := by simpa using t1
    have t2' : Float64.isInf (Float64.ofInt (16 * c + d)) = false := by simpa using t2
    have t3' : Float64.isInf (Float64.ofInt (16 * e + f)) = false := by simpa using t3
    have z255 : Float64.isZero f255 = false := by decide +kernel
    obtain ⟨⟨x1, x2, x3⟩, hrgb, hs⟩ := Option.bind_eq_some_iff.mp hs
    obtain ⟨k', hk', hs⟩ := Option.bind_eq_some_iff.mp hs
    cases hs
    dsimp only at hk'
    have hdat : (signs (lowered (Lw.sliceS nm (some 1) none none)).cps.toList).filterMap figD = [.int a, .int b, .int c, .int d, .int e, .int f] := by
      rw [figsD]
      have : ∀ l : List Nat, (l.map fun c => D.int (figOf c)) = (l.map figOf).map D.int := fun l => by rw [List.map_map]; rfl
      rw [this, hfig]; rfl
    with_reducible refine Ss.cons ?_
    (with_reducible refine' S1.asC ?_ ?z2620hl ?z2620hf ?z2620hs); (case z2620hl => kernel_rfl); (case z2620hf => rfl); (case z2620hs => rfl)
    refine' Ev.compM [(".0", none), ("sign", none)] [] figD hh ?hp ?c1 ?c2 ?c3 ?c4 ?c5 ?c6 ?c7 ?_
    case hp => rfl
    case c1 => rfl
    case c2 => rfl
    case c3 => decide +kernel
    case c4 => decide +kernel
    case c5 => kernel_rfl
    case c6 => exact .nil
    case c7 => exact fun _ => rfl
    (with_reducible refine' Ev.meth ?_ ?z2621hm ?z2621hp); (case z2621hm => exact ⟨_, rfl⟩); (case z2621hp => intro _; rfl)
    with_reducible refine Ev.sub ?_
    (with_reducible refine' Ev.loc ?z2623h ?_); (case z2623h => repeat (first | with_reducible exact List.mem_cons_self | with_reducible refine List.mem_cons_of_mem _ ?_))
    with_reducible refine Ev.slice ?_
    with_reducible refine EvP.some ?_
    with_reducible refine Ev.int ?_
    with_reducible refine ⟨_, rfl, ?_⟩
    with_reducible refine EvP.none ?_
    with_reducible refine EvP.none ?_
    (with_reducible refine' Op2.sliceS ?z2630a ?z2630b ?_ ?z2630hs); (case z2630a => rfl); (case z2630b => with_reducible assumption); (case z2630hs => exact fun _ _ => ⟨_, rfl⟩)
    (with_reducible refine' GetM.str ?z2631sl ?z2631ty ?_); (case z2631sl => first | with_reducible exact F.slot_str_lower | with_reducible exact F.slot_str_upper); (case z2631ty => first | with_reducible exact F.type_str_lower | with_reducible exact F.type_str_upper)
    (with_reducible refine' And.intro ?z2632k ?_); (case z2632k => with_reducible exact Kp.bui)
    with_reducible refine Evs.nil ?_
    with_reducible refine Ca.app1 ?_
    (with_reducible refine' Ca.lower ?z2635h ?_); (case z2635h => with_reducible assumption)
    with_reducible refine GetI.str (fun _ => ?_)
    refine ⟨_, _, rfl, fun L dd hd => ?_, ?_, ?_⟩
    · obtain ⟨cp, hcp, rfl⟩ := List.mem_map.mp hd
      intro O
      show As _ _ _ _ _ _ _ (D.str ⟨#[cp]⟩) _
      have e : figD (.str ⟨#[cp]⟩) = some (.int (figOf cp)) := rfl
      rw [e]
      unfold figOf
      by_cases kf : isFig cp = true
      · rw [if_pos kf]
        unfold isFig at kf
        (with_reducible refine' locLk ?z2637hm ?_); (case z2637hm => repeat (first | with_reducible exact Has.here | with_reducible refine Has.there ?_))
        with_reducible refine putS ?_
        with_reducible refine put0 ?_
        with_reducible refine Ifs.nil ?_
        with_reducible refine ite_t rfl ?_
        with_reducible refine Ev.ife ?_
        (with_reducible refine' Te.cmp ?_ ?z2643hm); (case z2643hm => rfl)
        (with_reducible refine' Ev.loc ?z2644h ?_); (case z2644h => repeat (first | with_reducible exact List.mem_cons_self | with_reducible refine List.mem_cons_of_mem _ ?_))
        with_reducible refine Ev.str ?_
        with_reducible refine Op2.ltS ?_
        with_reducible refine Tr.bool ?_
        with_reducible refine ite_t (by with_reducible assumption) ?_
        with_reducible refine Ev.bin ?_
        (with_reducible refine' Ev.call ?_ ?z2650hp); (case z2650hp => intro _; rfl)
        (with_reducible refine' Ev.bui ?z2651h ?_ ?z2651hx); (case z2651h => with_reducible exact b_ord _ _ _ _); (case z2651hx => kernel_rfl)
        (with_reducible refine' ⟨_, rfl, ?z2652k, ?_⟩); (case z2652k => with_reducible exact Kp.bui)
        (with_reducible refine' Evs.cons ?_ ?z2653he); (case z2653he => rfl)
        (with_reducible refine' Ev.loc ?z2654h ?_); (case z2654h => repeat (first | with_reducible exact List.mem_cons_self | with_reducible refine List.mem_cons_of_mem _ ?_))
        with_reducible refine Evs.nil ?_
        with_reducible refine Ca.ord ?_
        with_reducible refine Ev.int ?_
        with_reducible refine Op2.subI ?_
        exact ⟨⟨rfl, rfl⟩, rfl, .keep (.drop .nil)⟩
      · rw [if_neg kf]
        unfold isFig at kf
        (with_reducible refine' locLk ?z2659hm ?_); (case z2659hm => repeat (first | with_reducible exact Has.here | with_reducible refine Has.there ?_))
        with_reducible refine putS ?_
        with_reducible refine put0 ?_
        with_reducible refine Ifs.nil ?_
        with_reducible refine ite_t rfl ?_
        with_reducible refine Ev.ife ?_
        (with_reducible refine' Te.cmp ?_ ?z2665hm); (case z2665hm => rfl)
        (with_reducible refine' Ev.loc ?z2666h ?_); (case z2666h => repeat (first | with_reducible exact List.mem_cons_self | with_reducible refine List.mem_cons_of_mem _ ?_))
        with_reducible refine Ev.str ?_
        with_reducible refine Op2.ltS ?_
        with_reducible refine Tr.bool ?_
        with_reducible refine ite_f (by with_reducible assumption) ?_
        with_reducible refine Ev.bin ?_
        (with_reducible refine' Ev.call ?_ ?z2672hp); (case z2672hp => intro _; rfl)
        (with_reducible refine' Ev.bui ?z2673h ?_ ?z2673hx); (case z2673h => with_reducible exact b_ord _ _ _ _); (case z2673hx => kernel_rfl)
        (with_reducible refine' ⟨_, rfl, ?z2674k, ?_⟩); (case z2674k => with_reducible exact Kp.bui)
        (with_reducible refine' Evs.cons ?_ ?z2675he); (case z2675he => rfl)
        (with_reducible refine' Ev.loc ?z2676h ?_); (case z2676h => repeat (first | with_reducible exact List.mem_cons_self | with_reducible refine List.mem_cons_of_mem _ ?_))
        with_reducible refine Evs.nil ?_
        with_reducible refine Ca.ord ?_
        with_reducible refine Ev.int ?_
        with_reducible refine Op2.subI ?_
        exact ⟨⟨rfl, rfl⟩, rfl, .keep (.drop .nil)⟩
    · show (signs _).length ≤ _
      unfold signs; rw [List.length_map, Array.length_toList]; exact h2
    · rw [hdat]
      with_reducible refine put0 ?_
      with_reducible refine Ss.cons ?_
      (with_reducible refine' S1.as1 ?_ ?z2683hs ?z2683hw ?z2683he); (case z2683hs => rfl); (case z2683hw => rfl); (case z2683he => rfl)
      refine' Ev.compM [(".0", none), ("at", none)] [("figures", some (.lst [.int a, .int b, .int c, .int d, .int e, .int f]))] (tintD (tint a b) (tint c d) (tint e f)) hh ?hp ?c1 ?c2 ?c3 ?c4 ?c5 ?c6 ?c7 ?_
      case hp => rfl
      case c1 => rfl
      case c2 => rfl
      case c3 => decide +kernel
      case c4 => decide +kernel
      case c5 => kernel_rfl
      case c6 => exact .cons (.head _) (.inl (by kernel_rfl)) (by kernel_rfl) (fun q h => nomatch h) .nil
      case c7 => exact fun _ => rfl
      with_reducible refine Ev.tup ?_
      (with_reducible refine' Evs.cons ?_ ?z2685he); (case z2685he => rfl)
      with_reducible refine Ev.int ?_
      (with_reducible refine' Evs.cons ?_ ?z2687he); (case z2687he => rfl)
      with_reducible refine Ev.int ?_
      (with_reducible refine' Evs.cons ?_ ?z2689he); (case z2689he => rfl)
      with_reducible refine Ev.int ?_
      with_reducible refine Evs.nil ?_
      with_reducible refine And.intro (Nat.le_of_ble_eq_true rfl) ?_
      with_reducible refine GetI.tup (fun _ => ?_)
      refine ⟨_, _, rfl, fun L dd hd => ?_, by decide, ?_⟩
      · intro O
        simp only [List.mem_cons, List.not_mem_nil, or_false] at hd
        rcases hd with rfl | rfl | rfl
        · rw [tintD0]
          (with_reducible refine' locLk ?z2694hm ?_); (case z2694hm => repeat (first | with_reducible exact Has.here | with_reducible refine Has.there ?_))
          with_reducible refine putS ?_
          with_reducible refine put0 ?_
          with_reducible refine Ifs.nil ?_
          with_reducible refine ite_t rfl ?_
          with_reducible refine Ev.bin ?_
          with_reducible refine Ev.bin ?_
          with_reducible refine Ev.bin ?_
          with_reducible refine Ev.int ?_
          with_reducible refine Ev.sub ?_
          (with_reducible refine' Ev.cel ?z2704h ?_); (case z2704h => repeat (first | with_reducible exact List.mem_cons_self | with_reducible refine List.mem_cons_of_mem _ ?_))
          (with_reducible refine' Ev.loc ?z2705h ?_); (case z2705h => repeat (first | with_reducible exact List.mem_cons_self | with_reducible refine List.mem_cons_of_mem _ ?_))
          (with_reducible refine' Op2.itemL ?z2706l ?z2706a ?z2706b ?z2706d ?_ ?z2706hs); (case z2706l => first | with_reducible exact LstOf.frz | ((with_reducible refine' LstOf.own ?z2706hm); (case z2706hm => repeat (first | with_reducible exact List.mem_cons_self | with_reducible refine List.mem_cons_of_mem _ ?_)))); (case z2706a => decide); (case z2706b => decide); (case z2706d => first | with_reducible assumption | rfl); (case z2706hs => intros; rfl)
          (with_reducible refine' Op2.mulI ?z2707h ?_); (case z2707h => exact mulOkL (by decide))
          with_reducible refine Ev.sub ?_
          (with_reducible refine' Ev.cel ?z2709h ?_); (case z2709h => repeat (first | with_reducible exact List.mem_cons_self | with_reducible refine List.mem_cons_of_mem _ ?_))
          with_reducible refine Ev.bin ?_
          (with_reducible refine' Ev.loc ?z2711h ?_); (case z2711h => repeat (first | with_reducible exact List.mem_cons_self | with_reducible refine List.mem_cons_of_mem _ ?_))
          with_reducible refine Ev.int ?_
          with_reducible refine Op2.addI ?_
          (with_reducible refine' Op2.itemL ?z2714l ?z2714a ?z2714b ?z2714d ?_ ?z2714hs); (case z2714l => first | with_reducible exact LstOf.frz | ((with_reducible refine' LstOf.own ?z2714hm); (case z2714hm => repeat (first | with_reducible exact List.mem_cons_self | with_reducible refine List.mem_cons_of_mem _ ?_)))); (case z2714a => decide); (case z2714b => decide); (case z2714d => first | with_reducible assumption | rfl); (case z2714hs => intros; rfl)
          with_reducible refine Op2.addI ?_
          with_reducible refine Ev.flt ?_
          (with_reducible refine' Op2.divIF ?z2717a ?z2717b ?_); (case z2717a => with_reducible assumption); (case z2717b => with_reducible assumption)
          with_reducible exact ⟨⟨rfl, rfl⟩, rfl, .keep (.drop .nil)⟩
        · rw [tintD2]
          (with_reducible refine' locLk ?z2718hm ?_); (case z2718hm => repeat (first | with_reducible exact Has.here | with_reducible refine Has.there ?_))
          with_reducible refine putS ?_
          with_reducible refine put0 ?_
          with_reducible refine Ifs.nil ?_
          with_reducible refine ite_t rfl ?_
          with_reducible refine Ev.bin ?_
          with_reducible refine Ev.bin ?_
          with_reducible refine Ev.bin ?_
          with_reducible refine Ev.int ?_
          with_reducible refine Ev.sub ?_
          (with_reducible refine' Ev.cel ?z2728h ?_); (case z2728h => repeat (first | with_reducible exact List.mem_cons_self | with_reducible refine List.mem_cons_of_mem _ ?_))
          (with_reducible refine' Ev.loc ?z2729h ?_); (case z2729h => repeat (first | with_reducible exact List.mem_cons_self | with_reducible refine List.mem_cons_of_mem _ ?_))
          (with_reducible refine' Op2.itemL ?z2730l ?z2730a ?z2730b ?z2730d ?_ ?z2730hs); (case z2730l => first | with_reducible exact LstOf.frz | ((with_reducible refine' LstOf.own ?z2730hm); (case z2730hm => repeat (first | with_reducible exact List.mem_cons_self | with_reducible refine List.mem_cons_of_mem _ ?_)))); (case z2730a => decide); (case z2730b => decide); (case z2730d => first | with_reducible assumption | rfl); (case z2730hs => intros; rfl)
          (with_reducible refine' Op2.mulI ?z2731h ?_); (case z2731h => exact mulOkL (by decide))
          with_reducible refine Ev.sub ?_
          (with_reducible refine' Ev.cel ?z2733h ?_); (case z2733h => repeat (first | with_reducible exact List.mem_cons_self | with_reducible refine List.mem_cons_of_mem _ ?_))
          with_reducible refine Ev.bin ?_
          (with_reducible refine' Ev.loc ?z2735h ?_); (case z2735h => repeat (first | with_reducible exact List.mem_cons_self | with_reducible refine List.mem_cons_of_mem _ ?_))
          with_reducible refine Ev.int ?_
          with_reducible refine Op2.addI ?_
          (with_reducible refine' Op2.itemL ?z2738l ?z2738a ?z2738b ?z2738d ?_ ?z2738hs); (case z2738l => first | with_reducible exact LstOf.frz | ((with_reducible refine' LstOf.own ?z2738hm); (case z2738hm => repeat (first | with_reducible exact List.mem_cons_self | with_reducible refine List.mem_cons_of_mem _ ?_)))); (case z2738a => decide); (case z2738b => decide); (case z2738d => first | with_reducible assumption | rfl); (case z2738hs => intros; rfl)
          with_reducible refine Op2.addI ?_
          with_reducible refine Ev.flt ?_
          (with_reducible refine' Op2.divIF ?z2741a ?z2741b ?_); (case z2741a => with_reducible assumption); (case z2741b => with_reducible assumption)
          with_reducible exact ⟨⟨rfl, rfl⟩, rfl, .keep (.drop .nil)⟩
        · rw [tintD4]
          (with_reducible refine' locLk ?z2742hm ?_); (case z2742hm => repeat (first | with_reducible exact Has.here | with_reducible refine Has.there ?_))
          with_reducible refine putS ?_
          with_reducible refine put0 ?_
          with_reducible refine Ifs.nil ?_
          with_reducible refine ite_t rfl ?_
          with_reducible refine Ev.bin ?_
          with_reducible refine Ev.bin ?_
          with_reducible refine Ev.bin ?_
          with_reducible refine Ev.int ?_
          with_reducible refine Ev.sub ?_
          (with_reducible refine' Ev.cel ?z2752h ?_); (case z2752h => repeat (first | with_reducible exact List.mem_cons_self | with_reducible refine List.mem_cons_of_mem _ ?_))
          (with_reducible refine' Ev.loc ?z2753h ?_); (case z2753h => repeat (first | with_reducible exact List.mem_cons_self | with_reducible refine List.mem_cons_of_mem _ ?_))
          (with_reducible refine' Op2.itemL ?z2754l ?z2754a ?z2754b ?z2754d ?_ ?z2754hs); (case z2754l => first | with_reducible exact LstOf.frz | ((with_reducible refine' LstOf.own ?z2754hm); (case z2754hm => repeat (first | with_reducible exact List.mem_cons_self | with_reducible refine List.mem_cons_of_mem _ ?_)))); (case z2754a => decide); (case z2754b => decide); (case z2754d => first | with_reducible assumption | rfl); (case z2754hs => intros; rfl)
          (with_reducible refine' Op2.mulI ?z2755h ?_); (case z2755h => exact mulOkL (by decide))
          with_reducible refine Ev.sub ?_
          (with_reducible refine' Ev.cel ?z2757h ?_); (case z2757h => repeat (first | with_reducible exact List.mem_cons_self | with_reducible refine List.mem_cons_of_mem _ ?_))
          with_reducible refine Ev.bin ?_
          (with_reducible refine' Ev.loc ?z2759h ?_); (case z2759h => repeat (first | with_reducible exact List.mem_cons_self | with_reducible refine List.mem_cons_of_mem _ ?_))
          with_reducible refine Ev.int ?_
          with_reducible refine Op2.addI ?_
          (with_reducible refine' Op2.itemL ?z2762l ?z2762a ?z2762b ?z2762d ?_ ?z2762hs); (case z2762l => first | with_reducible exact LstOf.frz | ((with_reducible refine' LstOf.own ?z2762hm); (case z2762hm => repeat (first | with_reducible exact List.mem_cons_self | with_reducible refine List.mem_cons_of_mem _ ?_)))); (case z2762a => decide); (case z2762b => decide); (case z2762d => first | with_reducible assumption | rfl); (case z2762hs => intros; rfl)
          with_reducible refine Op2.addI ?_
          with_reducible refine Ev.flt ?_
          (with_reducible refine' Op2.divIF ?z2765a ?z2765b ?_); (case z2765a => with_reducible assumption); (case z2765b => with_reducible assumption)
          with_reducible exact ⟨⟨rfl, rfl⟩, rfl, .keep (.drop .nil)⟩
      · rw [tintDs]
        (with_reducible refine' As.lst3 ?z2766hh ?_); (case z2766hh => with_reducible assumption)
        with_reducible refine Asl.cons ?_
        (with_reducible refine' locLk ?z2768hm ?_); (case z2768hm => repeat (first | with_reducible exact Has.here | with_reducible refine Has.there ?_))
        with_reducible refine putS ?_
        with_reducible refine putS ?_
        with_reducible refine put0 ?_
        with_reducible refine Asl.cons ?_
        (with_reducible refine' locLk ?z2773hm ?_); (case z2773hm => repeat (first | with_reducible exact Has.here | with_reducible refine Has.there ?_))
        with_reducible refine putS ?_
        with_reducible refine putS ?_
        with_reducible refine putS ?_
        with_reducible refine put0 ?_
        with_reducible refine Asl.cons ?_
        (with_reducible refine' locLk ?z2779hm ?_); (case z2779hm => repeat (first | with_reducible exact Has.here | with_reducible refine Has.there ?_))
        with_reducible refine putS ?_
        with_reducible refine putS ?_
        with_reducible refine putS ?_
        with_reducible refine putS ?_
        with_reducible refine put0 ?_
        with_reducible refine Asl.nil ?_
        with_reducible refine Ss.cons ?_
        with_reducible refine S1.ret ?_
        with_reducible refine Ev.bin ?_
        (with_reducible refine' Ev.call ?_ ?z2789hp); (case z2789hp => intro _; rfl)
        (with_reducible refine' Ev.bui ?z2790h ?_ ?z2790hx); (case z2790h => with_reducible exact b_int _ _ _ _); (case z2790hx => kernel_rfl)
        (with_reducible refine' ⟨_, rfl, ?z2791k, ?_⟩); (case z2791k => with_reducible exact Kp.typ)
        (with_reducible refine' Evs.cons ?_ ?z2792he); (case z2792he => rfl)
        with_reducible refine Ev.bin ?_
        with_reducible refine Ev.bin ?_
        with_reducible refine Ev.sub ?_
        (with_reducible refine' Ev.call ?_ ?z2796hp); (case z2796hp => intro _; rfl)
        (with_reducible refine' Ev.glo ?z2797h ?_ ?z2797hx); (case z2797h => with_reducible exact n_rgb_to_hsv _ _ _ _); (case z2797hx => kernel_rfl)
        (with_reducible refine' ⟨_, rfl, ?z2798k, ?_⟩); (case z2798k => with_reducible exact k_111 _ _ _ _)
        (with_reducible refine' Evs.cons ?_ ?z2799he); (case z2799he => rfl)
        (with_reducible refine' Ev.loc ?z2800h ?_); (case z2800h => repeat (first | with_reducible exact List.mem_cons_self | with_reducible refine List.mem_cons_of_mem _ ?_))
        (with_reducible refine' Evs.cons ?_ ?z2801he); (case z2801he => rfl)
        (with_reducible refine' Ev.loc ?z2802h ?_); (case z2802h => repeat (first | with_reducible exact List.mem_cons_self | with_reducible refine List.mem_cons_of_mem _ ?_))
        (with_reducible refine' Evs.cons ?_ ?z2803he); (case z2803he => rfl)
        (with_reducible refine' Ev.loc ?z2804h ?_); (case z2804h => repeat (first | with_reducible exact List.mem_cons_self | with_reducible refine List.mem_cons_of_mem _ ?_))
        with_reducible refine Evs.nil ?_
        refine Cal.ca (Cal.pure (c_rgb w mg mb os _ _ _ x1 x2 x3 hrgb) fun d O' h => ⟨h.1, ?_⟩) room
        rw [h.2]
        with_reducible refine Ev.int ?_
        (with_reducible refine' Op2.itemT ?z2807a ?z2807b ?z2807c ?z2807d ?_ ?z2807hs); (case z2807a => decide); (case z2807b => decide); (case z2807c => first | with_reducible assumption | rfl); (case z2807d => first | with_reducible assumption | rfl); (case z2807hs => intros; rfl)
        (with_reducible refine' Ev.loc ?z2808h ?_); (case z2808h => repeat (first | with_reducible exact List.mem_cons_self | with_reducible refine List.mem_cons_of_mem _ ?_))
        with_reducible refine Op2.mulFI (fit3 (by with_reducible assumption)) ?_
        with_reducible refine Ev.flt ?_
        with_reducible refine Op2.addF ?_
        with_reducible refine Evs.nil ?_
        with_reducible refine Ca.intF (by with_reducible assumption) ?_
        (with_reducible refine' Ev.loc ?z2814h ?_); (case z2814h => repeat (first | with_reducible exact List.mem_cons_self | with_reducible refine List.mem_cons_of_mem _ ?_))
        (with_reducible refine' Op2.modI ?z2815h ?_); (case z2815h => with_reducible assumption)
        exact ⟨_, .ret, rfl, rfl⟩
end
section
variable (w : World) (mg mb : Str → Option Value) (os : OsState)
noncomputable def tabL (names : List Str) : List (Str × Str) := names.map fun x => (x, "-")
noncomputable def rowD (size : Int) : D → Option D
  | .int p => (nameSpec p size).map fun x => .tup [.str x, .str "-"]
  | _ => none
theorem c_table (size : Int) (names : List Str) (h0 : 0 < size) (h1 : size < 1000) (hlen : (names.length : Int) = size) (hn : ∀ i : Nat, ∀ x, names[i]? = some x → nameSpec i size = some x ∧ (uppered x).length ≤ sizeLine ∧ noHit codeN x = true) (hv : noHit codeV "-" = true)
    (hD : (rangeFrom 0 1 size.toNat).filterMap (rowD size) = itemsD (tabL names)) (hr : ∀ d ∈ rangeFrom 0 1 size.toNat, ∃ i : Nat, ∃ x, d = .int i ∧ names[i]? = some x) :
    Cal (Γ2 w mg mb os) 4 (.ref 272) [.int size] [] [] fun d O' => ∃ la, d = me la ∧ OS [(la, .list (itemsD (tabL names)))] O' := by
  refine Cal.intro (params := ["size"]) (bds := [.int size]) [] [("size", some (.int size))] rfl (by kernel_rfl) rfl ⟨rfl, rfl, rfl, rfl, rfl, rfl⟩
    (fun g s vs ks ok iv ik => ?_) (by decide +kernel) (by decide +kernel) (by decide +kernel) (by decide +kernel) (by kernel_rfl) (by kernel_rfl) fun A L room => ?_
  · obtain ⟨x, rfl, i⟩ := iv.one
    exact ⟨[x], .of_eq (by kernel_rfl), iv⟩
  · have hh := room.h
    with_reducible refine Ss.cons ?_
    with_reducible refine S1.ret ?_
    (with_reducible refine' Ev.call ?_ ?z2818hp); (case z2818hp => intro _; rfl)
    (with_reducible refine' Ev.glo ?z2819h ?_ ?z2819hx); (case z2819h => with_reducible exact n_Headers _ _ _ _); (case z2819hx => kernel_rfl)
    (with_reducible refine' ⟨_, rfl, ?z2820k, ?_⟩); (case z2820k => with_reducible exact k_251 _ _ _ _)
    (with_reducible refine' Evs.cons ?_ ?z2821he); (case z2821he => rfl)
    refine' Ev.compMO [(".0", none), ("place", none)] [("size", some (.int size))] (rowD size) hh ?hp ?c1 ?c2 ?c3 ?c4 ?c5 ?c6 ?c7 ?_
    case hp => rfl
    case c1 => rfl
    case c2 => rfl
    case c3 => decide +kernel
    case c4 => decide +kernel
    case c5 => kernel_rfl
    case c6 => exact .cons (.head _) (.inl (by kernel_rfl)) (by kernel_rfl) (fun q h => nomatch h) .nil
    case c7 => exact fun _ => rfl
    (with_reducible refine' Ev.call ?_ ?z2822hp); (case z2822hp => intro _; rfl)
    (with_reducible refine' Ev.bui ?z2823h ?_ ?z2823hx); (case z2823h => with_reducible exact b_range _ _ _ _); (case z2823hx => kernel_rfl)
    (with_reducible refine' ⟨_, rfl, ?z2824k, ?_⟩); (case z2824k => with_reducible exact Kp.typ)
    (with_reducible refine' Evs.cons ?_ ?z2825he); (case z2825he => rfl)
    (with_reducible refine' Ev.cel ?z2826h ?_); (case z2826h => repeat (first | with_reducible exact List.mem_cons_self | with_reducible refine List.mem_cons_of_mem _ ?_))
    with_reducible refine Evs.nil ?_
    with_reducible refine Ca.range1 ?_
    (with_reducible refine' getI_range ?z2829h ?z2829k (fun _ => ?_)); (case z2829h => decide); (case z2829k => omega)
    rw [show (size - 0).toNat = size.toNat by rw [Int.sub_zero]]
    refine ⟨_, _, rfl, fun L d hd => ?_, ?_, fun la => ?_⟩
    · obtain ⟨i, x, rfl, hx⟩ := hr d hd
      obtain ⟨n1, n2, n3⟩ := hn i x hx
      have e : rowD size (.int i) = some (.tup [.str x, .str "-"]) := by show (nameSpec i size).map (fun x => D.tup [.str x, .str "-"]) = _; rw [n1]; rfl
      rw [e]
      intro O
      (with_reducible refine' locLk ?z2830hm ?_); (case z2830hm => repeat (first | with_reducible exact Has.here | with_reducible refine Has.there ?_))
      with_reducible refine putS ?_
      with_reducible refine put0 ?_
      with_reducible refine Ifs.nil ?_
      with_reducible refine ite_t rfl ?_
      with_reducible refine Ev.tup ?_
      (with_reducible refine' Evs.cons ?_ ?z2836he); (case z2836he => rfl)
      (with_reducible refine' Ev.call ?_ ?z2837hp); (case z2837hp => intro _; rfl)
      (with_reducible refine' Ev.glo ?z2838h ?_ ?z2838hx); (case z2838h => with_reducible exact n__law_name _ _ _ _); (case z2838hx => kernel_rfl)
      (with_reducible refine' ⟨_, rfl, ?z2839k, ?_⟩); (case z2839k => with_reducible exact k_262 _ _ _ _)
      (with_reducible refine' Evs.cons ?_ ?z2840he); (case z2840he => rfl)
      (with_reducible refine' Ev.loc ?z2841h ?_); (case z2841h => repeat (first | with_reducible exact List.mem_cons_self | with_reducible refine List.mem_cons_of_mem _ ?_))
      (with_reducible refine' Evs.cons ?_ ?z2842he); (case z2842he => rfl)
      (with_reducible refine' Ev.cel ?z2843h ?_); (case z2843h => repeat (first | with_reducible exact List.mem_cons_self | with_reducible refine List.mem_cons_of_mem _ ?_))
      (with_reducible refine' Evs.cons ?_ ?z2844he); (case z2844he => rfl)
      with_reducible refine Ev.bool ?_
      with_reducible refine Evs.nil ?_
      refine Cal.ca (Cal.pure (c_name w mg mb os i size (.bool false) false x rfl n1 n2) fun d O' h => ⟨h.1, ?_⟩) (room.less (by decide))
      rw [h.2, if_neg (by decide)]
      (with_reducible refine' Evs.cons ?_ ?z2847he); (case z2847he => rfl)
      with_reducible refine Ev.str ?_
      with_reducible refine Evs.nil ?_
      with_reducible refine And.intro (Nat.le_of_ble_eq_true rfl) ?_
      exact ⟨⟨rfl, rfl⟩, rfl, .keep (.drop .nil)⟩
    · have : ∀ (n : Nat) (x : Int), (rangeFrom x 1 n).length = n := by
        intro n; induction n with
        | zero => intro x; rfl
        | succ n ih => intro x; show (rangeFrom (x + 1) 1 n).length + 1 = _; rw [ih]
      rw [this]; unfold sizeLine; omega
    · rw [hD]
      with_reducible refine Evs.nil ?_
      refine Ca.make (n := 2) room (mk_251 w mg mb os) (m_143 w mg mb os) (ty_143 w mg mb os) fun x dx => Cal.mono (c_hinit w mg mb os x dx la (tabL names) fun p hp => ?_) fun d O' hd => ⟨hd.1, hdFs la, _, hd.2, ?_⟩
      · obtain ⟨y, hy, rfl⟩ := List.mem_map.mp hp
        obtain ⟨i, hi⟩ := List.mem_iff_getElem?.mp hy
        exact ⟨(hn i y hi).2.2, hv⟩
      · exact ⟨_, .ret, la, rfl, .refl⟩
end
section
variable (w : World) (mg mb : Str → Option Value) (os : OsState)
theorem InL.four {g : Heap} {vs : List Value} {d e f h : D} (i : InL g vs [d, e, f, h]) : ∃ v w u x, vs = [v, w, u, x] ∧ True := by
  cases i with | cons a r => obtain ⟨w, u, x, rfl, -⟩ := r.three; exact ⟨_, w, u, x, rfl, trivial⟩
theorem OS.app {O' O P : Own} (h : OS O' O) : OS (O' ++ P) (O ++ P) := let ⟨Q, a, b⟩ := h; ⟨Q ++ P, a.append_right P, b.append (List.Sublist.refl P)⟩
theorem OS.prm {O'' O' O : Own} (p : List.Perm O'' O') (h : OS O' O) : OS O'' O := let ⟨Q, a, b⟩ := h; ⟨Q, p.trans a, b⟩
theorem OS.ca {Γ : Gam} {A : Around} {n : Nat} {f : Value} {ds : List D} {O P R : Own} {Q : D → Own → Prop} {B : D → Prop} (h : Cal Γ n f ds [] O fun d O' => OS R O' ∧ B d) (r : Room A n) (k : ∀ d O', OS (P ++ R) O' → B d → Q d O') : Ca Γ A (P ++ O) f ds [] Q :=
  Cal.ca (Cal.perm (List.perm_append_comm) (Cal.frame (P := P) h fun d O' q => k d _ (.prm List.perm_append_comm (q.1.app)) q.2)) r
noncomputable def bitI (bits : Int) (k : Nat) : Bool := Builtin.bitAnd (bits.fdiv (2 ^ ((k : Int)).toNat)) 1 != 0
noncomputable def spell (bits : Int) (k : Nat) (y : Str) : Str := if bitI bits k = true then uppered y else y
noncomputable def chrK (k : Nat) : Str := ⟨#[(97 + (k : Int)).toNat]⟩
structure TStep (size times bits : Int) (k : Nat) (x : Str) (p : Int) (y : Str) (l : List (Str × Str)) : Prop where
  hp : placeSpec x size = some p
  x1 : (Lw.sliceS x (some 1) none none).length ≤ sizeLine
  x2 : (lowered (Lw.sliceS x (some 1) none none)).length ≤ sizeLine
  hn : nameSpec (times * p) size = some y
  hu : (uppered y).length ≤ sizeLine
  z1 : okName (spell bits k y) = true
  z2 : noHit codeN (spell bits k y) = true
  z3 : noHit codeV (chrK k) = true
  hz : l.length ≤ 100000
  hl : ∀ q ∈ l, (lowered q.1).length ≤ sizeLine
  hk : k < 1000
inductive Taken (size times bits : Int) : Nat → List Str → List (Str × Str) → List (Str × Str) → Prop
  | nil {k : Nat} {l : List (Str × Str)} : Taken size times bits k [] l l
  | cons {k : Nat} {x y : Str} {p : Int} {r : List Str} {l l' : List (Str × Str)} : TStep size times bits k x p y l → Taken size times bits (k + 1) r (setOf (spell bits k y) (chrK k) l) l' → Taken size times bits k (x :: r) l l'
noncomputable def hasF (z : Str) : Bool := !(Builtin.Str.occurrences z "F" 0 z.length 1).isEmpty
noncomputable def seenD (size : Int) : D → Option D
  | .str z => (placeSpec z size).map fun q => .tup [.int q, .bool (hasF z)]
  | _ => none
theorem c_taken (la : Addr) (size times bits : Int) (l l' : List (Str × Str)) (ht : times.natAbs < 1000) (hz : l.length ≤ 100000) (hT : Taken size times bits 0 (l.map (·.1)) l l') (hz' : l'.length ≤ 100000)
    (hs : ∀ q ∈ l', ∃ p, placeSpec q.1 size = some p ∧ (Lw.sliceS q.1 (some 1) none none).length ≤ sizeLine ∧ (lowered (Lw.sliceS q.1 (some 1) none none)).length ≤ sizeLine) :
    Cal (Γ2 w mg mb os) 4 (.ref 277) [me la, .int size, .int times, .int bits] [] [(la, .list (itemsD l))] fun d O' => OS [(la, .list (itemsD l'))] O' ∧ d = .lst ((l'.map fun q => D.str q.1).filterMap (seenD size)) := by
  refine Cal.intro (params := ["table", "size", "times", "bits"]) (bds := [me la, .int size, .int times, .int bits]) [("table", some (me la)), ("times", some (.int times)), ("bits", some (.int bits)), ("step", none), ("name", none)] [("size", some (.int size))] rfl (by kernel_rfl) rfl ⟨rfl, rfl, rfl, rfl, rfl, rfl⟩
    (fun g s vs ks ok iv ik => ?_) (by decide +kernel) (by decide +kernel) (by decide +kernel) (by decide +kernel) (by kernel_rfl) (by kernel_rfl) fun A L room => ?_
  · obtain ⟨a, b, c, d, rfl, -⟩ := InL.four iv
    exact ⟨[a, b, c, d], .of_eq (by kernel_rfl), iv⟩
  · have hh := room.h
    have room2 := room.less (k := 2) (by decide)
    have room1 := room.less (k := 1) (by decide)
    with_reducible refine Ss.cons ?_
    (with_reducible refine' asLk ?z2853hm ?_ ?z2853hs); (case z2853hm => repeat (first | with_reducible exact Has.here | with_reducible refine Has.there ?_)); (case z2853hs => rfl)
    with_reducible refine Ev.int ?_
    with_reducible refine putS ?_
    with_reducible refine putS ?_
    with_reducible refine putS ?_
    with_reducible refine put0 ?_
    with_reducible refine Ss.cons ?_
    refine' S1.forIn (σ := Nat × List (Str × Str)) (fun st => [("table", some (me la)), ("times", some (.int times)), ("bits", some (.int bits)), ("step", some (.int (st.1 : Int))), ("name", none)]) (fun _ => [("size", some (.int size))]) (fun st => [(la, .list (itemsD st.2))])
      (fun st ds => ∃ r, ds = r.map D.str ∧ Taken size times bits st.1 r st.2 l') hh ?_ ?_ ?_ ?hp ?hs
    case hp => rfl
    case hs => exact fun _ => rfl
    · (with_reducible refine' Ev.meth ?_ ?z2860hm ?z2860hp); (case z2860hm => exact ⟨_, rfl⟩); (case z2860hp => intro _; rfl)
      (with_reducible refine' Ev.loc ?z2861h ?_); (case z2861h => repeat (first | with_reducible exact List.mem_cons_self | with_reducible refine List.mem_cons_of_mem _ ?_))
      (with_reducible refine' meth251 ?z2862hf ?z2862ht ?z2862o ?z2862hs ?_); (case z2862hf => first | with_reducible exact m_150 _ _ _ _ | with_reducible exact m_198 _ _ _ _ | with_reducible exact m_203 _ _ _ _); (case z2862ht => first | with_reducible exact ty_150 _ _ _ _ | with_reducible exact ty_198 _ _ _ _ | with_reducible exact ty_203 _ _ _ _); (case z2862o => with_reducible exact ObjOf.frz); (case z2862hs => kernel_rfl)
      (with_reducible refine' And.intro ?z2863k ?_); (case z2863k => with_reducible exact k_203 _ _ _ _)
      with_reducible refine Evs.nil ?_
      with_reducible refine Ca.app1 ?_
      refine Cal.ca (Cal.mono (c_keys w mg mb os la l (by omega)) fun d O' hd => ?_) room1
      obtain ⟨rfl, rfl⟩ := hd
      with_reducible refine GetI.lst (fun _ => ?_)
      refine ⟨(0, l), _, ?_, rfl, rfl, l.map (·.1), by rw [List.map_map]; rfl, hT⟩
      exact .keep (.keep (.keep (.keep (.keep .nil))))
    · rintro I ⟨k, m⟩ d ds ⟨r, e, hT⟩
      dsimp only at hT ⊢
      cases hT with
      | nil => cases e
      | cons hS hT =>
        rename_i x y p r
        obtain ⟨rfl, rfl⟩ := List.cons.inj e
        have hk := hS.hk
        have hx1 := hS.x1
        (with_reducible refine' locLk ?z2867hm ?_); (case z2867hm => repeat (first | with_reducible exact Has.here | with_reducible refine Has.there ?_))
        with_reducible refine putS ?_
        with_reducible refine putS ?_
        with_reducible refine putS ?_
        with_reducible refine putS ?_
        with_reducible refine put0 ?_
        with_reducible refine Ss.cons ?_
        (with_reducible refine' S1.as1 ?_ ?z2874hs ?z2874hw ?z2874he); (case z2874hs => rfl); (case z2874hw => rfl); (case z2874he => rfl)
        (with_reducible refine' Ev.call ?_ ?z2875hp); (case z2875hp => intro _; rfl)
        (with_reducible refine' Ev.bui ?z2876h ?_ ?z2876hx); (case z2876h => with_reducible exact b_chr _ _ _ _); (case z2876hx => kernel_rfl)
        (with_reducible refine' ⟨_, rfl, ?z2877k, ?_⟩); (case z2877k => with_reducible exact Kp.bui)
        (with_reducible refine' Evs.cons ?_ ?z2878he); (case z2878he => rfl)
        with_reducible refine Ev.bin ?_
        with_reducible refine Ev.int ?_
        (with_reducible refine' Ev.loc ?z2881h ?_); (case z2881h => repeat (first | with_reducible exact List.mem_cons_self | with_reducible refine List.mem_cons_of_mem _ ?_))
        with_reducible refine Op2.addI ?_
        with_reducible refine Evs.nil ?_
        refine Ca.chr (by rw [Bool.or_eq_false_iff]; exact ⟨decide_eq_false (by omega), decide_eq_false (by omega)⟩) ?_
        with_reducible refine As.sub ?_
        (with_reducible refine' Ev.loc ?z2885h ?_); (case z2885h => repeat (first | with_reducible exact List.mem_cons_self | with_reducible refine List.mem_cons_of_mem _ ?_))
        (with_reducible refine' Ev.call ?_ ?z2886hp); (case z2886hp => intro _; rfl)
        (with_reducible refine' Ev.glo ?z2887h ?_ ?z2887hx); (case z2887h => with_reducible exact n__law_name _ _ _ _); (case z2887hx => kernel_rfl)
        (with_reducible refine' ⟨_, rfl, ?z2888k, ?_⟩); (case z2888k => with_reducible exact k_262 _ _ _ _)
        (with_reducible refine' Evs.cons ?_ ?z2889he); (case z2889he => rfl)
        with_reducible refine Ev.bin ?_
        (with_reducible refine' Ev.loc ?z2891h ?_); (case z2891h => repeat (first | with_reducible exact List.mem_cons_self | with_reducible refine List.mem_cons_of_mem _ ?_))
        (with_reducible refine' Ev.call ?_ ?z2892hp); (case z2892hp => intro _; rfl)
        (with_reducible refine' Ev.glo ?z2893h ?_ ?z2893hx); (case z2893h => with_reducible exact n__law_place _ _ _ _); (case z2893hx => kernel_rfl)
        (with_reducible refine' ⟨_, rfl, ?z2894k, ?_⟩); (case z2894k => with_reducible exact k_267 _ _ _ _)
        (with_reducible refine' Evs.cons ?_ ?z2895he); (case z2895he => rfl)
        (with_reducible refine' Ev.loc ?z2896h ?_); (case z2896h => repeat (first | with_reducible exact List.mem_cons_self | with_reducible refine List.mem_cons_of_mem _ ?_))
        (with_reducible refine' Evs.cons ?_ ?z2897he); (case z2897he => rfl)
        (with_reducible refine' Ev.cel ?z2898h ?_); (case z2898h => repeat (first | with_reducible exact List.mem_cons_self | with_reducible refine List.mem_cons_of_mem _ ?_))
        with_reducible refine Evs.nil ?_
        refine Cal.ca (Cal.pure (c_place w mg mb os x size p hS.hp hS.x1 hS.x2) fun d O' h => ⟨h.1, ?_⟩) room2
        rw [h.2]
        (with_reducible refine' Op2.mulI ?z2900h ?_); (case z2900h => exact mulOkL (by omega))
        (with_reducible refine' Evs.cons ?_ ?z2901he); (case z2901he => rfl)
        (with_reducible refine' Ev.cel ?z2902h ?_); (case z2902h => repeat (first | with_reducible exact List.mem_cons_self | with_reducible refine List.mem_cons_of_mem _ ?_))
        (with_reducible refine' Evs.cons ?_ ?z2903he); (case z2903he => rfl)
        with_reducible refine Ev.bin ?_
        with_reducible refine Ev.bin ?_
        (with_reducible refine' Ev.loc ?z2906h ?_); (case z2906h => repeat (first | with_reducible exact List.mem_cons_self | with_reducible refine List.mem_cons_of_mem _ ?_))
        (with_reducible refine' Ev.loc ?z2907h ?_); (case z2907h => repeat (first | with_reducible exact List.mem_cons_self | with_reducible refine List.mem_cons_of_mem _ ?_))
        (with_reducible refine' Op2.shrI ?z2908h ?_); (case z2908h => omega)
        with_reducible refine Ev.int ?_
        with_reducible refine Op2.andI ?_
        with_reducible refine Evs.nil ?_
        refine Cal.ca (Cal.pure (c_name w mg mb os (times * p) size _ (bitI bits k) y rfl hS.hn hS.hu) fun d O' h => ⟨h.1, ?_⟩) room2
        rw [h.2]
        refine Op3.inst (.frz) (ns_251 w mg mb os) (m_164 w mg mb os) (fn_164 w mg mb os) ?_
        refine OS.ca (P := [(I, _)]) (c_set w mg mb os la m (spell bits k y) (chrK k) hS.hz hS.z1 hS.z2 hS.z3 hS.hl) room fun d O' hd _ => ?_
        refine Exs.weak .refl hd ?_
        with_reducible refine Ss.cons ?_
        (with_reducible refine' asLk ?z2913hm ?_ ?z2913hs); (case z2913hm => repeat (first | with_reducible exact Has.here | with_reducible refine Has.there ?_)); (case z2913hs => rfl)
        with_reducible refine Ev.bin ?_
        (with_reducible refine' Ev.loc ?z2915h ?_); (case z2915h => repeat (first | with_reducible exact List.mem_cons_self | with_reducible refine List.mem_cons_of_mem _ ?_))
        with_reducible refine Ev.int ?_
        with_reducible refine Op2.addI ?_
        with_reducible refine putS ?_
        with_reducible refine putS ?_
        with_reducible refine putS ?_
        with_reducible refine put0 ?_
        with_reducible refine Ss.nil ?_
        refine ⟨(k + 1, setOf (spell bits k y) (chrK k) m), ?_, rfl, .refl, r, rfl, hT⟩
        refine .keep (.keep (.keep (.keep (.drop .nil))))
    · rintro ⟨k, m⟩ ⟨r, e, hT⟩
      dsimp only at hT ⊢
      cases hT with
      | cons => cases e
      | nil =>
        with_reducible refine Ss.cons ?_
        with_reducible refine S1.ret ?_
        refine' Ev.compM [(".0", none), ("name", none)] [("size", some (.int size))] (seenD size) hh ?hp ?c1 ?c2 ?c3 ?c4 ?c5 ?c6 ?c7 ?_
        case hp => rfl
        case c1 => rfl
        case c2 => rfl
        case c3 => decide +kernel
        case c4 => decide +kernel
        case c5 => kernel_rfl
        case c6 => exact .cons (.head _) (.inl (by kernel_rfl)) (by kernel_rfl) (fun q h => nomatch h) .nil
        case c7 => exact fun _ => rfl
        (with_reducible refine' Ev.meth ?_ ?z2925hm ?z2925hp); (case z2925hm => exact ⟨_, rfl⟩); (case z2925hp => intro _; rfl)
        (with_reducible refine' Ev.loc ?z2926h ?_); (case z2926h => repeat (first | with_reducible exact List.mem_cons_self | with_reducible refine List.mem_cons_of_mem _ ?_))
        (with_reducible refine' meth251 ?z2927hf ?z2927ht ?z2927o ?z2927hs ?_); (case z2927hf => first | with_reducible exact m_150 _ _ _ _ | with_reducible exact m_198 _ _ _ _ | with_reducible exact m_203 _ _ _ _); (case z2927ht => first | with_reducible exact ty_150 _ _ _ _ | with_reducible exact ty_198 _ _ _ _ | with_reducible exact ty_203 _ _ _ _); (case z2927o => with_reducible exact ObjOf.frz); (case z2927hs => kernel_rfl)
        (with_reducible refine' And.intro ?z2928k ?_); (case z2928k => with_reducible exact k_203 _ _ _ _)
        with_reducible refine Evs.nil ?_
        with_reducible refine Ca.app1 ?_
        refine Cal.ca (Cal.mono (c_keys w mg mb os la l' (by omega)) fun d O' hd => ?_) room1
        obtain ⟨rfl, rfl⟩ := hd
        with_reducible refine GetI.lst (fun _ => ?_)
        refine ⟨_, _, rfl, fun L dd hd => ?_, ?_, ?_⟩
        · obtain ⟨q, hq, rfl⟩ := List.mem_map.mp hd
          obtain ⟨p, hp, h1, h2⟩ := hs q hq
          have e : seenD size (.str q.1) = some (.tup [.int p, .bool (hasF q.1)]) := by show (placeSpec q.1 size).map _ = _; rw [hp]; rfl
          rw [e]
          intro O
          (with_reducible refine' locLk ?z2932hm ?_); (case z2932hm => repeat (first | with_reducible exact Has.here | with_reducible refine Has.there ?_))
          with_reducible refine putS ?_
          with_reducible refine put0 ?_
          with_reducible refine Ifs.nil ?_
          with_reducible refine ite_t rfl ?_
          with_reducible refine Ev.tup ?_
          (with_reducible refine' Evs.cons ?_ ?z2938he); (case z2938he => rfl)
          (with_reducible refine' Ev.call ?_ ?z2939hp); (case z2939hp => intro _; rfl)
          (with_reducible refine' Ev.glo ?z2940h ?_ ?z2940hx); (case z2940h => with_reducible exact n__law_place _ _ _ _); (case z2940hx => kernel_rfl)
          (with_reducible refine' ⟨_, rfl, ?z2941k, ?_⟩); (case z2941k => with_reducible exact k_267 _ _ _ _)
          (with_reducible refine' Evs.cons ?_ ?z2942he); (case z2942he => rfl)
          (with_reducible refine' Ev.loc ?z2943h ?_); (case z2943h => repeat (first | with_reducible exact List.mem_cons_self | with_reducible refine List.mem_cons_of_mem _ ?_))
          (with_reducible refine' Evs.cons ?_ ?z2944he); (case z2944he => rfl)
          (with_reducible refine' Ev.cel ?z2945h ?_); (case z2945h => repeat (first | with_reducible exact List.mem_cons_self | with_reducible refine List.mem_cons_of_mem _ ?_))
          with_reducible refine Evs.nil ?_
          refine Cal.ca (Cal.pure (c_place w mg mb os q.1 size p hp h1 h2) fun d O' h => ⟨h.1, ?_⟩) (room2.less (by decide))
          rw [h.2]
          (with_reducible refine' Evs.cons ?_ ?z2947he); (case z2947he => rfl)
          (with_reducible refine' Ev.cmp ?_ ?z2948hm); (case z2948hm => rfl)
          with_reducible refine Ev.str ?_
          (with_reducible refine' Ev.loc ?z2950h ?_); (case z2950h => repeat (first | with_reducible exact List.mem_cons_self | with_reducible refine List.mem_cons_of_mem _ ?_))
          with_reducible refine Op2.inS ?_
          with_reducible refine Evs.nil ?_
          with_reducible refine And.intro (Nat.le_of_ble_eq_true rfl) ?_
          exact ⟨⟨rfl, rfl⟩, rfl, .keep (.drop .nil)⟩
        · rw [List.length_map]; unfold sizeLine; omega
        · skip
          exact ⟨_, .ret, .refl, rfl⟩
end
section
variable (w : World) (mg mb : Str → Option Value) (os : OsState)
noncomputable def crossEs : D → List D
  | .int k => rangeFrom 0 1 k.toNat
  | _ => []
noncomputable def crossF (ps : List (Int × D)) : D → D → Option D
  | .int k, .int j => match ps[j.toNat]?, ps[k.toNat]? with
    | some a, some b => if b.1 < a.1 then some (.int 1) else none
    | _, _ => none
  | _, _ => none
noncomputable def crossL (ps : List (Int × D)) : List D := (rangeFrom 0 1 ps.length).flatMap fun d => (crossEs d).filterMap (crossF ps d)
noncomputable def pairL (ps : List (Int × D)) : List D := ps.map fun p => D.tup [.int p.1, p.2]
theorem mem_rangeFrom {d : D} : ∀ {n : Nat} {a : Int}, d ∈ rangeFrom a 1 n → ∃ i : Nat, i < n ∧ d = .int (a + i)
  | 0, a, h => nomatch h
  | n + 1, a, h => by
    rcases List.mem_cons.mp h with rfl | h
    · exact ⟨0, Nat.succ_pos _, by simp⟩
    · obtain ⟨i, hi, rfl⟩ := mem_rangeFrom (n := n) h
      exact ⟨i + 1, by omega, by congr 1; omega⟩
theorem c_crossed (ps : List (Int × D)) (hz : ps.length ≤ 1000) (hd : ∀ (i j : Nat) (a b : Int × D), i < j → ps[i]? = some a → ps[j]? = some b → (a.1 == b.1) = false) (hl : (crossL ps).length ≤ 1000000) :
    Cal (Γ2 w mg mb os) 1 (.ref 282) [.lst (pairL ps)] [] [] fun d O' => O' = [] ∧ d = .int (crossL ps).length := by
  have hpl : (pairL ps).length = ps.length := List.length_map ..
  refine Cal.intro (params := ["order"]) (bds := [.lst (pairL ps)]) [] [("order", some (.lst (pairL ps)))] rfl (by kernel_rfl) rfl ⟨rfl, rfl, rfl, rfl, rfl, rfl⟩
    (fun g s vs ks ok iv ik => ?_) (by decide +kernel) (by decide +kernel) (by decide +kernel) (by decide +kernel) (by kernel_rfl) (by kernel_rfl) fun A L room => ?_
  · obtain ⟨x, rfl, i⟩ := iv.one
    exact ⟨[x], .of_eq (by kernel_rfl), iv⟩
  · have hh := room.h
    have hu := room.u
    with_reducible refine Ss.cons ?_
    with_reducible refine S1.ret ?_
    (with_reducible refine' Ev.call ?_ ?z2956hp); (case z2956hp => intro _; rfl)
    (with_reducible refine' Ev.bui ?z2957h ?_ ?z2957hx); (case z2957h => with_reducible exact b_len _ _ _ _); (case z2957hx => kernel_rfl)
    (with_reducible refine' ⟨_, rfl, ?z2958k, ?_⟩); (case z2958k => with_reducible exact Kp.bui)
    (with_reducible refine' Evs.cons ?_ ?z2959he); (case z2959he => rfl)
    refine' Ev.compM2 [(".0", none), ("late", none), ("early", none)] [("order", some (.lst (pairL ps)))] crossEs (crossF ps) hh ?hp ?hp2 ?c1 ?c2 ?c3 ?c4 ?c5 ?c6 ?c7 ?c8 ?_
    case hp => rfl
    case hp2 => rfl
    case c1 => rfl
    case c2 => rfl
    case c3 => decide +kernel
    case c4 => decide +kernel
    case c5 => kernel_rfl
    case c6 => exact .cons (.head _) (.inl (by kernel_rfl)) (by kernel_rfl) (fun q h => nomatch h) .nil
    case c7 => exact fun _ => rfl
    case c8 => exact fun _ _ => rfl
    have hb1 : (pairL ps).length < 2 ^ 62 := by omega
    have hb2 : (((pairL ps).length : Nat) : Int).natAbs < 4294967296 := by omega
    (with_reducible refine' Ev.call ?_ ?z2960hp); (case z2960hp => intro _; rfl)
    (with_reducible refine' Ev.bui ?z2961h ?_ ?z2961hx); (case z2961h => with_reducible exact b_range _ _ _ _); (case z2961hx => kernel_rfl)
    (with_reducible refine' ⟨_, rfl, ?z2962k, ?_⟩); (case z2962k => with_reducible exact Kp.typ)
    (with_reducible refine' Evs.cons ?_ ?z2963he); (case z2963he => rfl)
    (with_reducible refine' Ev.call ?_ ?z2964hp); (case z2964hp => intro _; rfl)
    (with_reducible refine' Ev.bui ?z2965h ?_ ?z2965hx); (case z2965h => with_reducible exact b_len _ _ _ _); (case z2965hx => kernel_rfl)
    (with_reducible refine' ⟨_, rfl, ?z2966k, ?_⟩); (case z2966k => with_reducible exact Kp.bui)
    (with_reducible refine' Evs.cons ?_ ?z2967he); (case z2967he => rfl)
    (with_reducible refine' Ev.cel ?z2968h ?_); (case z2968h => repeat (first | with_reducible exact List.mem_cons_self | with_reducible refine List.mem_cons_of_mem _ ?_))
    with_reducible refine Evs.nil ?_
    (with_reducible refine' Ca.len ?z2970l ?z2970h ?_); (case z2970l => first | with_reducible exact LstOf.frz | ((with_reducible refine' LstOf.own ?z2970hm); (case z2970hm => repeat (first | with_reducible exact List.mem_cons_self | with_reducible refine List.mem_cons_of_mem _ ?_)))); (case z2970h => with_reducible assumption)
    with_reducible refine Evs.nil ?_
    with_reducible refine Ca.range1 ?_
    (with_reducible refine' getI_range ?z2973h ?z2973k (fun _ => ?_)); (case z2973h => decide); (case z2973k => with_reducible assumption)
    have e0 : rangeFrom 0 1 (((pairL ps).length : Int) - 0).toNat = rangeFrom 0 1 ps.length := by rw [hpl, Int.sub_zero, Int.toNat_natCast]
    refine ⟨_, _, rfl, fun L dd hd' => ?_, ?_, ?_⟩
    · rw [e0] at hd'
      obtain ⟨k, hk, rfl⟩ := mem_rangeFrom hd'
      rw [Int.zero_add]
      intro O
      (with_reducible refine' locLk ?z2974hm ?_); (case z2974hm => repeat (first | with_reducible exact Has.here | with_reducible refine Has.there ?_))
      with_reducible refine putS ?_
      with_reducible refine put0 ?_
      (with_reducible refine' And.intro ?z2977k ?_); (case z2977k => kwd_rel)
      (with_reducible refine' And.intro ?z2978k ?_); (case z2978k => kwd_rel)
      refine ⟨.keep (.drop (.keep .nil)), ?_⟩
      (with_reducible refine' Ev.call ?_ ?z2979hp); (case z2979hp => intro _; rfl)
      (with_reducible refine' Ev.bui ?z2980h ?_ ?z2980hx); (case z2980h => with_reducible exact b_range _ _ _ _); (case z2980hx => kernel_rfl)
      (with_reducible refine' ⟨_, rfl, ?z2981k, ?_⟩); (case z2981k => with_reducible exact Kp.typ)
      (with_reducible refine' Evs.cons ?_ ?z2982he); (case z2982he => rfl)
      (with_reducible refine' Ev.loc ?z2983h ?_); (case z2983h => repeat (first | with_reducible exact List.mem_cons_self | with_reducible refine List.mem_cons_of_mem _ ?_))
      with_reducible refine Evs.nil ?_
      with_reducible refine Ca.range1 ?_
      (with_reducible refine' getI_range ?z2986h ?z2986k (fun _ => ?_)); (case z2986h => decide); (case z2986k => omega)
      (with_reducible refine' And.intro ?z2987k ?_); (case z2987k => kwd_rel)
      refine fun e he => ?_
      obtain ⟨j, hj, rfl⟩ := mem_rangeFrom he
      rw [Int.toNat_natCast] at hj
      rw [Int.zero_add]
      intro O
      have hk1 : (k : Int) < (pairL ps).length := by omega
      have hj1 : (j : Int) < (pairL ps).length := by omega
      obtain ⟨a, ha⟩ : ∃ a, ps[j]? = some a := ⟨_, List.getElem?_eq_getElem (by omega)⟩
      obtain ⟨b, hb⟩ : ∃ a, ps[k]? = some a := ⟨_, List.getElem?_eq_getElem hk⟩
      have ha' : (pairL ps)[(j : Int).toNat]? = some (.tup [.int a.1, a.2]) := by unfold pairL; rw [Int.toNat_natCast, List.getElem?_map, ha]; rfl
      have hb' : (pairL ps)[(k : Int).toNat]? = some (.tup [.int b.1, b.2]) := by unfold pairL; rw [Int.toNat_natCast, List.getElem?_map, hb]; rfl
      have hne := hd j k a b hj ha hb
      have ef : crossF ps (.int k) (.int j) = if b.1 < a.1 then some (.int 1) else none := by show (match ps[(j : Int).toNat]?, ps[(k : Int).toNat]? with | some a, some b => if b.1 < a.1 then some (D.int 1) else none | _, _ => none) = _; rw [Int.toNat_natCast, Int.toNat_natCast, ha, hb]
      rw [ef]
      (with_reducible refine' locLk ?z2988hm ?_); (case z2988hm => repeat (first | with_reducible exact Has.here | with_reducible refine Has.there ?_))
      with_reducible refine putS ?_
      with_reducible refine putS ?_
      with_reducible refine put0 ?_
      with_reducible refine Ifs.one ?_
      (with_reducible refine' Te.cmp ?_ ?z2993hm); (case z2993hm => rfl)
      with_reducible refine Ev.sub ?_
      (with_reducible refine' Ev.cel ?z2995h ?_); (case z2995h => repeat (first | with_reducible exact List.mem_cons_self | with_reducible refine List.mem_cons_of_mem _ ?_))
      (with_reducible refine' Ev.loc ?z2996h ?_); (case z2996h => repeat (first | with_reducible exact List.mem_cons_self | with_reducible refine List.mem_cons_of_mem _ ?_))
      (with_reducible refine' Op2.itemL ?z2997l ?z2997a ?z2997b ?z2997d ?_ ?z2997hs); (case z2997l => first | with_reducible exact LstOf.frz | ((with_reducible refine' LstOf.own ?z2997hm); (case z2997hm => repeat (first | with_reducible exact List.mem_cons_self | with_reducible refine List.mem_cons_of_mem _ ?_)))); (case z2997a => omega); (case z2997b => omega); (case z2997d => first | with_reducible assumption | rfl); (case z2997hs => intros; rfl)
      with_reducible refine Ev.sub ?_
      (with_reducible refine' Ev.cel ?z2999h ?_); (case z2999h => repeat (first | with_reducible exact List.mem_cons_self | with_reducible refine List.mem_cons_of_mem _ ?_))
      (with_reducible refine' Ev.loc ?z3000h ?_); (case z3000h => repeat (first | with_reducible exact List.mem_cons_self | with_reducible refine List.mem_cons_of_mem _ ?_))
      (with_reducible refine' Op2.itemL ?z3001l ?z3001a ?z3001b ?z3001d ?_ ?z3001hs); (case z3001l => first | with_reducible exact LstOf.frz | ((with_reducible refine' LstOf.own ?z3001hm); (case z3001hm => repeat (first | with_reducible exact List.mem_cons_self | with_reducible refine List.mem_cons_of_mem _ ?_)))); (case z3001a => omega); (case z3001b => omega); (case z3001d => first | with_reducible assumption | rfl); (case z3001hs => intros; rfl)
      refine Op2.gtT hne (by omega) ?_
      by_cases c : b.1 < a.1
      · rw [if_pos c]
        have c' : decide (b.1 < a.1) = true := decide_eq_true c
        with_reducible refine Tr.bool ?_
        with_reducible refine ite_t (by with_reducible assumption) ?_
        with_reducible refine Ev.int ?_
        exact ⟨⟨rfl, rfl⟩, rfl, .keep (.keep (.drop .nil))⟩
      · rw [if_neg c]
        have c' : ¬ decide (b.1 < a.1) = true := by simpa using c
        with_reducible refine Tr.bool ?_
        with_reducible refine ite_f (by with_reducible assumption) ?_
        exact ⟨⟨rfl, rfl⟩, rfl, .keep (.keep (.drop .nil))⟩
    · rw [e0]; exact Nat.le_trans hl (by decide)
    · rw [e0]
      have e1 : (rangeFrom 0 1 ps.length).flatMap (fun d => (crossEs d).filterMap (crossF ps d)) = crossL ps := rfl
      rw [e1]
      have hl2 : (crossL ps).length < 2 ^ 62 := by omega
      with_reducible refine Evs.nil ?_
      (with_reducible refine' Ca.len ?z3008l ?z3008h ?_); (case z3008l => first | with_reducible exact LstOf.frz | ((with_reducible refine' LstOf.own ?z3008hm); (case z3008hm => repeat (first | with_reducible exact List.mem_cons_self | with_reducible refine List.mem_cons_of_mem _ ?_)))); (case z3008h => with_reducible assumption)
      exact ⟨_, .ret, rfl, rfl⟩
end
section
variable (w : World) (mg mb : Str → Option Value) (os : OsState)
noncomputable def bitK (bits k : Int) : Bool := Builtin.bitAnd (bits.fdiv (2 ^ k.toNat)) 1 != 0
noncomputable def runS (t k : Int) : Str := Txt.mul (Txt.mul " " (t * k) ++ "\t") k
noncomputable def leadGo (t bits : Int) : Nat → Int → Str → Str
  | 0, _, l => l
  | m + 1, k, l => leadGo t bits m (k + 1) (if bitK bits k = true then l ++ runS t k else runS t k ++ l)
noncomputable def leadOf (n t bits : Int) : Str := leadGo t bits (n - 1).toNat 1 "" ++ Txt.mul " " (bits.fmod 4) ++ "x\t"
theorem mul_le {x : Str} {n : Int} {L N : Nat} (hx : x.length ≤ L) (hn : n ≤ (N : Int)) : (Txt.mul x n).length ≤ L * N := len_mul_leN hx hn
theorem c_lead (n t bits : Int) (hn0 : 0 < n) (hn : n ≤ 20) (ht0 : 0 ≤ t) (ht : t ≤ 20) : Cal (Γ2 w mg mb os) 1 (.ref 289) [.int n, .int t, .int bits] [] [] fun d O' => O' = [] ∧ d = .str (leadOf n t bits) := by
  refine Cal.intro (params := ["n", "t", "bits"]) (bds := [.int n, .int t, .int bits]) [("n", some (.int n)), ("t", some (.int t)), ("bits", some (.int bits)), ("lead", none), ("k", none), ("runs", none)] [] rfl (by kernel_rfl) rfl ⟨rfl, rfl, rfl, rfl, rfl, rfl⟩
    (fun g s vs ks ok iv ik => ?_) (by decide +kernel) (by decide +kernel) (by decide +kernel) (by decide +kernel) (by kernel_rfl) (by kernel_rfl) fun A L room => ?_
  · obtain ⟨x, y, z, rfl, -⟩ := iv.three
    exact ⟨[x, y, z], .of_eq (by kernel_rfl), iv⟩
  · have hh := room.h
    with_reducible refine Ss.cons ?_
    (with_reducible refine' asLk ?z3010hm ?_ ?z3010hs); (case z3010hm => repeat (first | with_reducible exact Has.here | with_reducible refine Has.there ?_)); (case z3010hs => rfl)
    with_reducible refine Ev.str ?_
    with_reducible refine putS ?_
    with_reducible refine putS ?_
    with_reducible refine putS ?_
    with_reducible refine put0 ?_
    with_reducible refine Ss.cons ?_
    refine' S1.forIn (σ := Int × Str) (fun st => [("n", some (.int n)), ("t", some (.int t)), ("bits", some (.int bits)), ("lead", some (.str st.2)), ("k", none), ("runs", none)]) (fun _ => []) (fun _ => [])
      (fun st ds => ds = rangeFrom st.1 1 (n - st.1).toNat ∧ 1 ≤ st.1 ∧ st.1 ≤ n ∧ (st.2.length : Int) ≤ 10000 * st.1 ∧ leadGo t bits (n - st.1).toNat st.1 st.2 = leadGo t bits (n - 1).toNat 1 "") hh ?_ ?_ ?_ ?hp ?hs
    case hp => rfl
    case hs => exact fun _ => rfl
    · (with_reducible refine' Ev.call ?_ ?z3017hp); (case z3017hp => intro _; rfl)
      (with_reducible refine' Ev.bui ?z3018h ?_ ?z3018hx); (case z3018h => with_reducible exact b_range _ _ _ _); (case z3018hx => kernel_rfl)
      (with_reducible refine' ⟨_, rfl, ?z3019k, ?_⟩); (case z3019k => with_reducible exact Kp.typ)
      (with_reducible refine' Evs.cons ?_ ?z3020he); (case z3020he => rfl)
      with_reducible refine Ev.int ?_
      (with_reducible refine' Evs.cons ?_ ?z3022he); (case z3022he => rfl)
      (with_reducible refine' Ev.loc ?z3023h ?_); (case z3023h => repeat (first | with_reducible exact List.mem_cons_self | with_reducible refine List.mem_cons_of_mem _ ?_))
      with_reducible refine Evs.nil ?_
      with_reducible refine Ca.range2 ?_
      (with_reducible refine' getI_range ?z3026h ?z3026k (fun _ => ?_)); (case z3026h => decide); (case z3026k => omega)
      exact ⟨(1, ""), _, .refl, rfl, rfl, rfl, Int.le_refl _, by omega, by show (0 : Int) ≤ _; omega, rfl⟩
    · rintro I ⟨k, l⟩ d ds ⟨e1, e2, e3, e4, e5⟩
      dsimp only at e1 e2 e3 e4 e5 ⊢
      have hk : (n - k).toNat = (n - (k + 1)).toNat + 1 := by
        rcases Nat.eq_zero_or_pos (n - k).toNat with z | z
        · rw [z] at e1; cases e1
        · omega
      rw [hk] at e1 e5
      obtain ⟨rfl, rfl⟩ := List.cons.inj e1
      have htk0 : 0 ≤ t * k := Int.mul_nonneg ht0 (by omega)
      have htk1 : t * k ≤ 400 := Int.le_trans (Int.mul_le_mul ht (by omega : k ≤ 20) (by omega) (by decide)) (by decide)
      have hl1 : (Txt.mul " " (t * k)).length ≤ 1 * 400 := len_mul_leN (by decide) htk1
      have hl2 : (Txt.mul " " (t * k) ++ "\t").length ≤ 401 := by rw [Str.len_app]; show _ + 1 ≤ 401; omega
      have hl3 : (runS t k).length ≤ 401 * 20 := len_mul_leN hl2 (by omega)
      have hsz : sizeLine = 16777216 := by decide
      (with_reducible refine' locLk ?z3027hm ?_); (case z3027hm => repeat (first | with_reducible exact Has.here | with_reducible refine Has.there ?_))
      with_reducible refine putS ?_
      with_reducible refine putS ?_
      with_reducible refine putS ?_
      with_reducible refine putS ?_
      with_reducible refine put0 ?_
      with_reducible refine Ss.cons ?_
      (with_reducible refine' asLk ?z3034hm ?_ ?z3034hs); (case z3034hm => repeat (first | with_reducible exact Has.here | with_reducible refine Has.there ?_)); (case z3034hs => rfl)
      with_reducible refine Ev.bin ?_
      with_reducible refine Ev.bin ?_
      with_reducible refine Ev.bin ?_
      with_reducible refine Ev.str ?_
      with_reducible refine Ev.bin ?_
      (with_reducible refine' Ev.loc ?z3040h ?_); (case z3040h => repeat (first | with_reducible exact List.mem_cons_self | with_reducible refine List.mem_cons_of_mem _ ?_))
      (with_reducible refine' Ev.loc ?z3041h ?_); (case z3041h => repeat (first | with_reducible exact List.mem_cons_self | with_reducible refine List.mem_cons_of_mem _ ?_))
      (with_reducible refine' Op2.mulI ?z3042h ?_); (case z3042h => exact mulOkL (by omega))
      refine Op2.mulS (mulOk_of 1 400 (by decide) htk1 (by omega) (by decide) (by decide)) ?_
      with_reducible refine Ev.str ?_
      refine Op2.addS (by rw [hsz]; show _ + 1 ≤ _; omega) ?_
      (with_reducible refine' Ev.loc ?z3044h ?_); (case z3044h => repeat (first | with_reducible exact List.mem_cons_self | with_reducible refine List.mem_cons_of_mem _ ?_))
      refine Op2.mulS (mulOk_of 401 20 hl2 (by omega) (by omega) (by decide) (by decide)) ?_
      with_reducible refine putS ?_
      with_reducible refine putS ?_
      with_reducible refine putS ?_
      with_reducible refine putS ?_
      with_reducible refine putS ?_
      with_reducible refine put0 ?_
      with_reducible refine Ss.cons ?_
      (with_reducible refine' asLk ?z3052hm ?_ ?z3052hs); (case z3052hm => repeat (first | with_reducible exact Has.here | with_reducible refine Has.there ?_)); (case z3052hs => rfl)
      with_reducible refine Ev.ife ?_
      (with_reducible refine' Te.val ?_ ?z3054he); (case z3054he => rfl)
      with_reducible refine Ev.bin ?_
      with_reducible refine Ev.bin ?_
      (with_reducible refine' Ev.loc ?z3057h ?_); (case z3057h => repeat (first | with_reducible exact List.mem_cons_self | with_reducible refine List.mem_cons_of_mem _ ?_))
      (with_reducible refine' Ev.loc ?z3058h ?_); (case z3058h => repeat (first | with_reducible exact List.mem_cons_self | with_reducible refine List.mem_cons_of_mem _ ?_))
      (with_reducible refine' Op2.shrI ?z3059h ?_); (case z3059h => omega)
      with_reducible refine Ev.int ?_
      with_reducible refine Op2.andI ?_
      with_reducible refine Tr.int ?_
      by_cases hb : bitK bits k = true
      · rw [leadGo, if_pos hb] at e5
        unfold bitK at hb
        with_reducible refine ite_t (by with_reducible assumption) ?_
        with_reducible refine Ev.bin ?_
        (with_reducible refine' Ev.loc ?z3065h ?_); (case z3065h => repeat (first | with_reducible exact List.mem_cons_self | with_reducible refine List.mem_cons_of_mem _ ?_))
        (with_reducible refine' Ev.loc ?z3066h ?_); (case z3066h => repeat (first | with_reducible exact List.mem_cons_self | with_reducible refine List.mem_cons_of_mem _ ?_))
        refine Op2.addS (by rw [hsz]; show l.length + (runS t k).length ≤ _; omega) ?_
        with_reducible refine putS ?_
        with_reducible refine putS ?_
        with_reducible refine putS ?_
        with_reducible refine put0 ?_
        with_reducible refine Ss.nil ?_
        refine ⟨(k + 1, l ++ runS t k), ?_, rfl, .refl, rfl, by show 1 ≤ k + 1; omega, by show k + 1 ≤ n; omega, by show (((l ++ runS t k).length : Nat) : Int) ≤ 10000 * (k + 1); rw [Str.len_app]; omega, e5⟩
        exact .keep (.keep (.keep (.keep (.drop (.drop .nil)))))
      · rw [leadGo, if_neg hb] at e5
        unfold bitK at hb
        with_reducible refine ite_f (by with_reducible assumption) ?_
        with_reducible refine Ev.bin ?_
        (with_reducible refine' Ev.loc ?z3074h ?_); (case z3074h => repeat (first | with_reducible exact List.mem_cons_self | with_reducible refine List.mem_cons_of_mem _ ?_))
        (with_reducible refine' Ev.loc ?z3075h ?_); (case z3075h => repeat (first | with_reducible exact List.mem_cons_self | with_reducible refine List.mem_cons_of_mem _ ?_))
        refine Op2.addS (by rw [hsz]; show (runS t k).length + l.length ≤ _; omega) ?_
        with_reducible refine putS ?_
        with_reducible refine putS ?_
        with_reducible refine putS ?_
        with_reducible refine put0 ?_
        with_reducible refine Ss.nil ?_
        refine ⟨(k + 1, runS t k ++ l), ?_, rfl, .refl, rfl, by show 1 ≤ k + 1; omega, by show k + 1 ≤ n; omega, by show (((runS t k ++ l).length : Nat) : Int) ≤ 10000 * (k + 1); rw [Str.len_app]; omega, e5⟩
        exact .keep (.keep (.keep (.keep (.drop (.drop .nil)))))
    · rintro ⟨k, l⟩ ⟨e1, e2, e3, e4, e5⟩
      dsimp only at e1 e2 e3 e4 e5 ⊢
      have hsz : sizeLine = 16777216 := by decide
      have hk : (n - k).toNat = 0 := by
        rcases Nat.eq_zero_or_pos (n - k).toNat with z | z
        · exact z
        · obtain ⟨m, hm⟩ : ∃ m, (n - k).toNat = m + 1 := ⟨(n - k).toNat - 1, by omega⟩
          rw [hm] at e1; cases e1
      rw [hk] at e5
      have e5 : l = leadGo t bits (n - 1).toNat 1 "" := e5
      have hm0 : 0 ≤ bits.fmod 4 ∧ bits.fmod 4 < 4 := by rw [Int.fmod_eq_emod_of_nonneg _ (by decide)]; omega
      have hl1 : (Txt.mul " " (bits.fmod 4)).length ≤ 1 * 3 := len_mul_leN (by decide) (by omega)
      with_reducible refine Ss.cons ?_
      with_reducible refine S1.ret ?_
      with_reducible refine Ev.bin ?_
      with_reducible refine Ev.bin ?_
      (with_reducible refine' Ev.loc ?z3085h ?_); (case z3085h => repeat (first | with_reducible exact List.mem_cons_self | with_reducible refine List.mem_cons_of_mem _ ?_))
      with_reducible refine Ev.bin ?_
      with_reducible refine Ev.str ?_
      with_reducible refine Ev.bin ?_
      (with_reducible refine' Ev.loc ?z3089h ?_); (case z3089h => repeat (first | with_reducible exact List.mem_cons_self | with_reducible refine List.mem_cons_of_mem _ ?_))
      with_reducible refine Ev.int ?_
      (with_reducible refine' Op2.modI ?z3091h ?_); (case z3091h => decide)
      refine Op2.mulS (mulOk_of 1 3 (by decide) (by omega) (by omega) (by decide) (by decide)) ?_
      refine Op2.addS (by rw [hsz]; omega) ?_
      with_reducible refine Ev.str ?_
      refine Op2.addS (by rw [hsz, Str.len_app]; show _ + 2 ≤ _; omega) ?_
      exact ⟨_, .ret, rfl, by rw [e5]; rfl⟩
end
section
variable (w : World) (mg mb : Str → Option Value) (os : OsState)
noncomputable abbrev Γ3 (l : Addr) (o : Obj) : Gam := (Γ2 w mg mb os).more [(l, o)]
theorem b3_sum (l : Addr) (o : Obj) : Bui (Γ3 w mg mb os l o) "sum" (.builtin "sum") := ⟨by kernel_rfl, Boot.«sum», by decide +kernel, by decide +kernel⟩
theorem b3_range (l : Addr) (o : Obj) : Bui (Γ3 w mg mb os l o) "range" (.type "range") := ⟨by kernel_rfl, Boot.«range», by decide +kernel, by decide +kernel⟩
noncomputable def pickN (ns : List Int) (p : Int) : List Int := (sliceRange (sliceBounds (some p) none (some 3) ns.length).1 (sliceBounds (some p) none (some 3) ns.length).2.1 (sliceBounds (some p) none (some 3) ns.length).2.2).filterMap (ns[·]?)
noncomputable def sumN (ns : List Int) (p : Int) : Int := (pickN ns p).sum
theorem pickN_eq (ns : List Int) (p : Int) : pickD (ns.map D.int) (some p) none (some 3) = (pickN ns p).map D.int := by
  unfold pickD pickN
  rw [List.length_map, List.map_filterMap]
  congr 1
  funext i
  rw [List.getElem?_map]
noncomputable def sumD (ns : List Int) : D → Option D
  | .int p => some (.int (sumN ns p))
  | _ => none
noncomputable def rangeI : Int → Nat → List Int
  | _, 0 => []
  | a, m + 1 => a :: rangeI (a + 1) m
theorem rangeI_eq : ∀ (m : Nat) (a : Int), rangeFrom a 1 m = (rangeI a m).map D.int
  | 0, _ => rfl
  | m + 1, a => by show D.int a :: rangeFrom (a + 1) 1 m = _; rw [rangeI_eq m]; rfl
theorem filterMap_ints (f : D → Option D) (c : Int → Bool) (h : ∀ d, f (.int d) = if c d = true then some (.int d) else none) : ∀ l : List Int, (l.map D.int).filterMap f = (l.filter c).map D.int
  | [] => rfl
  | a :: l => by
    rw [List.map_cons, List.filterMap_cons, List.filter_cons, h]
    cases c a <;> simp [filterMap_ints f c h l]
noncomputable def shareC (n q d : Int) : Bool := n.fmod d == 0 && q.fmod d == 0
noncomputable def shareD (n q : Int) : D → Option D
  | .int d => if shareC n q d = true then some (.int d) else none
  | _ => none
noncomputable def shareL (n q : Int) : List Int := (rangeI 2 (n + 1 - 2).toNat).filter (shareC n q)
theorem shareL_eq (n q : Int) : (rangeFrom 2 1 (n + 1 - 2).toNat).filterMap (shareD n q) = (shareL n q).map D.int := by
  rw [rangeI_eq]; exact filterMap_ints _ _ (fun _ => rfl) _
noncomputable def okPick (n q : Int) : Bool := (shareL n q).isEmpty && decide (q * (n - 1) * n * (2 * n - 1) ≤ 1680)
noncomputable def picksL (n : Int) : List Int := (rangeI 1 11).filter (okPick n)
theorem Go.ofOS {Γ : Gam} {g g' : Heap} {s s' : Shared} {O O₂ O' : Own} (l : OS O₂ O) (G : Go Γ g s O₂ g' s' O') : Go Γ g s O g' s' O' :=
  ⟨G.ok, G.to.weak fun b hb => .inl (l.dom b hb), fun b hb => (G.wi b hb).imp (l.dom b) id⟩
theorem Ca.weak {Γ : Gam} {A : Around} {O O₂ : Own} {f : Value} {ds : List D} {Q : D → Own → Prop} (l : OS O₂ O) (h : Ca Γ A O₂ f ds [] Q) : Ca Γ A O f ds [] Q := fun g s vs ks ok i j =>
  wpAny_mono (h g s vs ks (l.okb ok) i j) (fun v s' ⟨g', O', d, G, x⟩ => ⟨g', O', d, .ofOS l G, x⟩) fun _ _ e => e
structure TabOk (size : Int) (names : List Str) : Prop where
  h0 : 0 < size
  h1 : size < 1000
  hlen : (names.length : Int) = size
  hn : ∀ i : Nat, ∀ x, names[i]? = some x → nameSpec i size = some x ∧ (uppered x).length ≤ sizeLine ∧ noHit codeN x = true
  hv : noHit codeV "-" = true
  hD : (rangeFrom 0 1 size.toNat).filterMap (rowD size) = itemsD (tabL names)
  hr : ∀ d ∈ rangeFrom 0 1 size.toNat, ∃ i : Nat, ∃ x, d = .int i ∧ names[i]? = some x
structure SeenOk (size : Int) (l : List (Str × Str)) (o : List (Int × Bool)) : Prop where
  hs : ∀ q ∈ l, ∃ p, placeSpec q.1 size = some p ∧ (Lw.sliceS q.1 (some 1) none none).length ≤ sizeLine ∧ (lowered (Lw.sliceS q.1 (some 1) none none)).length ≤ sizeLine
  he : (l.map fun q => D.str q.1).filterMap (seenD size) = o.map prD
  hz : l.length ≤ 100000
noncomputable def orderL (n t bits : Int) : List (Int × Bool) := (rangeI 0 n.toNat).map fun k => ((t * k).fmod n, Builtin.bitAnd (bits.fdiv (2 ^ k.toNat)) 1 == 1)
noncomputable def endL (n : Int) : List (Int × Bool) := (rangeI 0 n.toNat).map fun k => (k, false)
noncomputable def apart (o : List (Int × Bool)) : Prop := ∀ (i j : Nat) (a b : Int × Bool), i < j → o[i]? = some a → o[j]? = some b → (a.1 == b.1) = false
noncomputable def asD (o : List (Int × Bool)) : List (Int × D) := o.map fun p => (p.1, .bool p.2)
noncomputable def crossN (o : List (Int × Bool)) : Int := (crossL (asD o)).length
noncomputable def ivl (wb wnt : Int) (wc : List Int) (t : Int) : Int := wb + t * (ilGo t t 0 (wc.drop t.toNat) + wnt)
structure LF (n t bits : Int) (Nn Nt : List Str) (l1 l2 l3 : List (Str × Str)) (o2 : List (Int × Bool)) (wn wnt wb : Int) (wc : List Int) (home : Int) (cp : Nat) (y : Str) : Prop where
  ht0 : 1 ≤ t
  ht1 : t ≤ 11
  tab1 : TabOk n Nn
  tk1 : Taken n t bits 0 ((tabL Nn).map (·.1)) (tabL Nn) l1
  sn1 : SeenOk n l1 (orderL n t bits)
  tab2 : TabOk t Nt
  tk2 : Taken t n bits 0 ((tabL Nt).map (·.1)) (tabL Nt) l2
  sn2 : SeenOk t l2 o2
  ap1 : apart (orderL n t bits)
  ap2 : apart o2
  z1 : (orderL n t bits).length ≤ 1000
  z2 : o2.length ≤ 1000
  z3 : (crossL (asD (orderL n t bits))).length ≤ 1000000
  z4 : (crossL (asD o2)).length ≤ 1000000
  ws : wsGo (leadOf n t bits).cps.toList 0 0 0 [] = (wn, wnt, wb, wc)
  wz : (leadOf n t bits).cps.toList.length ≤ 100000
  wz2 : wc.length < 100000
  a1 : (2 * crossN (orderL n t bits) != 6 * ((ivl wb wnt wc n - bits.fmod 4).fdiv n - (n * (n - 1)).fdiv 2) - (t - 1) * (n - 1) * (2 * n - 1)) = false
  a2 : (4 * (t * crossN (orderL n t bits) + n * crossN o2) != (t - 1) * (n - 1) * (t + n - 1)) = false
  a3 : (3 * (ivl wb wnt wc t - bits.fmod 4) != t * (n - 1) * n * (n + 1)) = false
  a4 : (ivl wb wnt wc 1 != ((leadOf n t bits).length : Int) - 2) = false
  hy : nameSpec 1 n = some y
  hy1 : (uppered y).length ≤ sizeLine
  hy2 : okName (uppered y) = true
  hl1 : ∀ p ∈ l1, (lowered p.1).length ≤ sizeLine
  hg : getGo (uppered y) l1 = .str ⟨#[cp]⟩
  hh : (cp : Int) - 97 = home
  hh1 : home.natAbs < 1000
  tk3 : Taken n home 0 0 (l1.map (·.1)) l1 l3
  sn3 : SeenOk n l3 (endL n)
theorem pairL_asD (o : List (Int × Bool)) : o.map prD = pairL (asD o) := by
  unfold pairL asD; rw [List.map_map]; rfl
theorem apart_asD {o : List (Int × Bool)} (h : apart o) : ∀ (i j : Nat) (a b : Int × D), i < j → (asD o)[i]? = some a → (asD o)[j]? = some b → (a.1 == b.1) = false := fun i j a b hij ha hb => by
  unfold asD at ha hb
  rw [List.getElem?_map, Option.map_eq_some_iff] at ha hb
  obtain ⟨x, hx, rfl⟩ := ha
  obtain ⟨y, hy, rfl⟩ := hb
  exact h i j x y hij hx hy
noncomputable def ordD (n t bits : Int) : D → Option D
  | .int k => some (.tup [.int ((t * k).fmod n), .bool (Builtin.bitAnd (bits.fdiv (2 ^ k.toNat)) 1 == 1)])
  | _ => none
theorem ordD_eq (n t bits : Int) : ∀ l : List Int, (l.map D.int).filterMap (ordD n t bits) = (l.map fun k => ((t * k).fmod n, Builtin.bitAnd (bits.fdiv (2 ^ k.toNat)) 1 == 1)).map prD
  | [] => rfl
  | a :: l => by
    rw [List.map_cons, List.filterMap_cons]
    show (D.tup _ :: _) = _
    rw [ordD_eq n t bits l]; rfl
noncomputable def endD : D → Option D
  | .int k => some (.tup [.int k, .bool false])
  | _ => none
theorem endD_eq : ∀ l : List Int, (l.map D.int).filterMap endD = (l.map fun k => (k, false)).map prD
  | [] => rfl
  | a :: l => by
    rw [List.map_cons, List.filterMap_cons]
    show (D.tup _ :: _) = _
    rw [endD_eq l]; rfl
theorem picks_len (n : Int) (h0 : 2 ≤ n) (h1 : n ≤ 7) : 0 < (picksL n).length ∧ (picksL n).length ≤ 11 := by
  have : n = 2 ∨ n = 3 ∨ n = 4 ∨ n = 5 ∨ n = 6 ∨ n = 7 := by omega
  rcases this with h | h | h | h | h | h <;> subst h <;> decide +kernel
theorem c_law (l : Addr) (o : Obj) (vs : Array Value) (k : Nat) (ns : List Int) (hk : (Γ3 w mg mb os l o).K.lookup l = some o) (hc : o.cls = .type "list") (hd : o.data = .seq vs k) (hi : IntsAre vs.toList ns) (hz : ns.length ≤ 63)
    (plain : ∀ n t bits : Int, 2 ≤ n → n ≤ 7 → t ∈ picksL n → 0 ≤ bits → bits < 1048576 → ∃ Nn Nt l1 l2 l3 o2 wn wnt wb wc home cp y, LF n t bits Nn Nt l1 l2 l3 o2 wn wnt wb wc home cp y) :
    Cal (Γ3 w mg mb os l o) 6 (.ref 294) [.v (.ref l)] [] [] fun d O' => d = .bool true := by
  refine Cal.intro (params := ["script"]) (bds := [.v (.ref l)]) [("sums", none), ("picks", none), ("shared", none), ("table", none), ("order", none), ("lead", none), ("guy", none), ("last", none), ("s", none), ("c", none), ("d", none), ("home", none)] [("script", some (.v (.ref l))), ("n", none), ("pick", none), ("t", none), ("bits", none)] rfl (by kernel_rfl) rfl ⟨rfl, rfl, rfl, rfl, rfl, rfl⟩
    (fun g s vs ks ok iv ik => ?_) (by decide +kernel) (by decide +kernel) (by decide +kernel) (by decide +kernel) (by kernel_rfl) (by kernel_rfl) fun A L room => ?_
  · obtain ⟨x, rfl, i⟩ := iv.one
    exact ⟨[x], .of_eq (by kernel_rfl), iv⟩
  · have hh := room.h
    refine Ss.cons ?_
    refine' S1.asCompM [(".0", none), ("place", none)] [("script", some (.v (.ref l)))] (sumD ns) hh ?hp ?hsw ?c1 ?c2 ?c3 ?c4 ?c5 ?c6 ?c7 ?_
    case hp => rfl
    case hsw => rfl
    case c1 => rfl
    case c2 => rfl
    case c3 => decide +kernel
    case c4 => decide +kernel
    case c5 => kernel_rfl
    case c6 => exact .cons (.head _) (.inl (by kernel_rfl)) (by kernel_rfl) (fun q h => nomatch h) .nil
    case c7 => exact fun _ => rfl
    refine' Ev.call ?_ ?hp2
    case hp2 => intro _; rfl
    refine' Ev.bui (b3_range w mg mb os l o) ?_ ?hx
    case hx => kernel_rfl
    refine ⟨_, rfl, Kp.typ, ?_⟩
    (with_reducible refine' Evs.cons ?_ ?z3093he); (case z3093he => rfl)
    with_reducible refine Ev.int ?_
    with_reducible refine Evs.nil ?_
    with_reducible refine Ca.range1 ?_
    (with_reducible refine' getI_range ?z3097h ?z3097k (fun _ => ?_)); (case z3097h => decide); (case z3097k => decide)
    refine ⟨_, _, rfl, fun L d hd' => ?_, by decide, ?_⟩
    · obtain ⟨p, hp, rfl⟩ := mem_rangeFrom hd'
      intro O
      show As _ _ _ _ _ _ _ (D.int (0 + (p : Int))) _
      have e : sumD ns (.int (0 + (p : Int))) = some (.int (sumN ns (0 + p))) := rfl
      rw [e]
      (with_reducible refine' locLk ?z3098hm ?_); (case z3098hm => repeat (first | with_reducible exact Has.here | with_reducible refine Has.there ?_))
      with_reducible refine putS ?_
      with_reducible refine put0 ?_
      with_reducible refine Ifs.nil ?_
      with_reducible refine ite_t rfl ?_
      refine' Ev.call ?_ ?hp3
      case hp3 => intro _; rfl
      refine' Ev.bui (b3_sum w mg mb os l o) ?_ ?hx
      case hx => kernel_rfl
      refine ⟨_, rfl, Kp.bui, ?_⟩
      (with_reducible refine' Evs.cons ?_ ?z3103he); (case z3103he => rfl)
      with_reducible refine Ev.sub ?_
      (with_reducible refine' Ev.cel ?z3105h ?_); (case z3105h => repeat (first | with_reducible exact List.mem_cons_self | with_reducible refine List.mem_cons_of_mem _ ?_))
      with_reducible refine Ev.slice ?_
      with_reducible refine EvP.some ?_
      (with_reducible refine' Ev.loc ?z3108h ?_); (case z3108h => repeat (first | with_reducible exact List.mem_cons_self | with_reducible refine List.mem_cons_of_mem _ ?_))
      with_reducible refine ⟨_, rfl, ?_⟩
      with_reducible refine EvP.none ?_
      with_reducible refine EvP.some ?_
      with_reducible refine Ev.int ?_
      with_reducible refine ⟨_, rfl, ?_⟩
      have hz2 : ns.length ≤ sizeLine := Nat.le_trans hz (by decide)
      refine Op2.sliceK hk hc hd hi (by decide) hz2 ?_ (fun _ _ => ⟨_, rfl⟩)
      rw [pickN_eq]
      with_reducible refine Evs.nil ?_
      refine Ca.sum hh .frz ?_
      exact ⟨⟨rfl, rfl⟩, rfl, .keep (.drop .nil)⟩
    · have e3 : (rangeFrom 0 1 (3 - 0 : Int).toNat).filterMap (sumD ns) = [.int (sumN ns 0), .int (sumN ns 1), .int (sumN ns 2)] := rfl
      rw [e3]
      generalize sumN ns 0 = sa
      generalize sumN ns 1 = sb
      generalize sumN ns 2 = sc
      with_reducible refine put0 ?_
      refine Exs.tr ?_
      have hu : A.units + 64 < cLine := by have := room.u; omega
      have hn' : 2 ≤ (sa + 3).fmod 6 + 2 ∧ (sa + 3).fmod 6 + 2 ≤ 7 := by rw [Int.fmod_eq_emod_of_nonneg _ (by decide)]; omega
      with_reducible refine Ss.cons ?_
      (with_reducible refine' S1.asC ?_ ?z3117hl ?z3117hf ?z3117hs); (case z3117hl => kernel_rfl); (case z3117hf => rfl); (case z3117hs => rfl)
      with_reducible refine Ev.bin ?_
      with_reducible refine Ev.bin ?_
      with_reducible refine Ev.bin ?_
      with_reducible refine Ev.sub ?_
      (with_reducible refine' Ev.loc ?z3122h ?_); (case z3122h => repeat (first | with_reducible exact List.mem_cons_self | with_reducible refine List.mem_cons_of_mem _ ?_))
      with_reducible refine Ev.int ?_
      (with_reducible refine' Op2.itemL ?z3124l ?z3124a ?z3124b ?z3124d ?_ ?z3124hs); (case z3124l => first | with_reducible exact LstOf.frz | ((with_reducible refine' LstOf.own ?z3124hm); (case z3124hm => repeat (first | with_reducible exact List.mem_cons_self | with_reducible refine List.mem_cons_of_mem _ ?_)))); (case z3124a => decide); (case z3124b => decide); (case z3124d => first | with_reducible assumption | rfl); (case z3124hs => intros; rfl)
      with_reducible refine Ev.int ?_
      with_reducible refine Op2.addI ?_
      with_reducible refine Ev.int ?_
      (with_reducible refine' Op2.modI ?z3128h ?_); (case z3128h => decide)
      with_reducible refine Ev.int ?_
      with_reducible refine Op2.addI ?_
      with_reducible refine putS ?_
      with_reducible refine put0 ?_
      with_reducible refine Ss.cons ?_
      (with_reducible refine' asLk ?z3134hm ?_ ?z3134hs); (case z3134hm => repeat (first | with_reducible exact Has.here | with_reducible refine Has.there ?_)); (case z3134hs => rfl)
      generalize (sa + 3).fmod 6 + 2 = n at hn' ⊢
      obtain ⟨hn0, hn1⟩ := hn'
      refine Ev.lstO ?_
      with_reducible refine Evs.nil ?_
      with_reducible refine And.intro (Nat.le_of_ble_eq_true rfl) ?_
      intro lp
      with_reducible refine putS ?_
      with_reducible refine put0 ?_
      with_reducible refine Ss.cons ?_
      refine' S1.forIn (σ := Option D × List Int) (fun st => [("sums", some (.lst [.int sa, .int sb, .int sc])), ("picks", some (.v (.ref lp))), ("shared", none), ("table", none), ("order", none), ("lead", none), ("guy", none), ("last", none), ("s", none), ("c", none), ("d", none), ("home", none)])
        (fun st => [("script", some (.v (.ref l))), ("n", some (.int n)), ("pick", st.1), ("t", none), ("bits", none)]) (fun st => [(lp, .list (st.2.map D.int))])
        (fun st ds => ∃ qs : List Int, ds = qs.map D.int ∧ st.2 ++ qs.filter (okPick n) = picksL n ∧ (∀ q ∈ qs, 1 ≤ q ∧ q ≤ 11) ∧ st.2.length + qs.length ≤ 11) hh ?_ ?_ ?_ ?hp ?hs
      case hp => rfl
      case hs => exact fun _ => rfl
      · (with_reducible refine' Ev.call ?_ ?z3140hp); (case z3140hp => intro _; rfl)
        (with_reducible refine' Ev.bui ?z3141h ?_ ?z3141hx); (case z3141h => with_reducible exact b_range _ _ _ _); (case z3141hx => kernel_rfl)
        (with_reducible refine' ⟨_, rfl, ?z3142k, ?_⟩); (case z3142k => with_reducible exact Kp.typ)
        (with_reducible refine' Evs.cons ?_ ?z3143he); (case z3143he => rfl)
        with_reducible refine Ev.int ?_
        (with_reducible refine' Evs.cons ?_ ?z3145he); (case z3145he => rfl)
        with_reducible refine Ev.int ?_
        with_reducible refine Evs.nil ?_
        with_reducible refine Ca.range2 ?_
        (with_reducible refine' getI_range ?z3149h ?z3149k (fun _ => ?_)); (case z3149h => decide); (case z3149k => decide)
        exact ⟨(none, []), _, .refl, rfl, rfl, rangeI 1 11, rangeI_eq _ _, rfl, by decide, by decide⟩
      · rintro I ⟨po, ps⟩ d ds ⟨qs, e1, e2, e3, e4⟩
        dsimp only at e2 e3 e4 ⊢
        cases qs with
        | nil => cases e1
        | cons q qs =>
          obtain ⟨rfl, rfl⟩ := List.cons.inj e1
          have hq := e3 q (.head _)
          (with_reducible refine' As.cel ?_ ?z3150hl ?z3150hf); (case z3150hl => kernel_rfl); (case z3150hf => rfl)
          with_reducible refine putS ?_
          with_reducible refine putS ?_
          with_reducible refine put0 ?_
          with_reducible refine Ss.cons ?_
          refine' S1.asCompM [(".0", none), ("part", none)] [("n", some (.int n)), ("pick", some (.int q))] (shareD n q) hh ?hp ?hsw ?c1 ?c2 ?c3 ?c4 ?c5 ?c6 ?c7 ?_
          case hp => rfl
          case hsw => rfl
          case c1 => rfl
          case c2 => rfl
          case c3 => decide +kernel
          case c4 => decide +kernel
          case c5 => kernel_rfl
          case c6 => exact .cons (.tail _ (.head _)) (.inl (by kernel_rfl)) (by kernel_rfl) (fun q h => by obtain rfl := List.mem_singleton.mp h; exact (by decide : ("pick" : Str) ≠ "n")) (.cons (.tail _ (.tail _ (.head _))) (.inl (by kernel_rfl)) (by kernel_rfl) (fun q h => nomatch h) .nil)
          case c7 => exact fun _ => rfl
          (with_reducible refine' Ev.call ?_ ?z3155hp); (case z3155hp => intro _; rfl)
          (with_reducible refine' Ev.bui ?z3156h ?_ ?z3156hx); (case z3156h => with_reducible exact b_range _ _ _ _); (case z3156hx => kernel_rfl)
          (with_reducible refine' ⟨_, rfl, ?z3157k, ?_⟩); (case z3157k => with_reducible exact Kp.typ)
          (with_reducible refine' Evs.cons ?_ ?z3158he); (case z3158he => rfl)
          with_reducible refine Ev.int ?_
          (with_reducible refine' Evs.cons ?_ ?z3160he); (case z3160he => rfl)
          with_reducible refine Ev.bin ?_
          (with_reducible refine' Ev.cel ?z3162h ?_); (case z3162h => repeat (first | with_reducible exact List.mem_cons_self | with_reducible refine List.mem_cons_of_mem _ ?_))
          with_reducible refine Ev.int ?_
          with_reducible refine Op2.addI ?_
          with_reducible refine Evs.nil ?_
          with_reducible refine Ca.range2 ?_
          (with_reducible refine' getI_range ?z3167h ?z3167k (fun _ => ?_)); (case z3167h => decide); (case z3167k => omega)
          refine ⟨_, _, rfl, fun L d hd' => ?_, ?_, ?_⟩
          · obtain ⟨i, hi, rfl⟩ := mem_rangeFrom hd'
            have hi0 : (2 + (i : Int)) ≠ 0 := by omega
            generalize 2 + (i : Int) = p at hi0 ⊢
            intro O
            have e : shareD n q (.int p) = if shareC n q p = true then some (.int p) else none := rfl
            rw [e]
            by_cases h1 : (n.fmod p == 0) = true
            · by_cases h2 : (q.fmod p == 0) = true
              · rw [if_pos (by unfold shareC; rw [h1, h2]; rfl)]
                (with_reducible refine' locLk ?z3168hm ?_); (case z3168hm => repeat (first | with_reducible exact Has.here | with_reducible refine Has.there ?_))
                with_reducible refine putS ?_
                with_reducible refine put0 ?_
                with_reducible refine Ifs.one ?_
                with_reducible refine Te.bool ?_
                with_reducible refine Tes.and ?_
                (with_reducible refine' Te.cmp ?_ ?z3174hm); (case z3174hm => rfl)
                with_reducible refine Ev.bin ?_
                (with_reducible refine' Ev.cel ?z3176h ?_); (case z3176h => repeat (first | with_reducible exact List.mem_cons_self | with_reducible refine List.mem_cons_of_mem _ ?_))
                (with_reducible refine' Ev.loc ?z3177h ?_); (case z3177h => repeat (first | with_reducible exact List.mem_cons_self | with_reducible refine List.mem_cons_of_mem _ ?_))
                (with_reducible refine' Op2.modI ?z3178h ?_); (case z3178h => with_reducible assumption)
                with_reducible refine Ev.int ?_
                with_reducible refine Op2.eqI ?_
                with_reducible refine Tr.bool ?_
                with_reducible refine ite_t (by with_reducible assumption) ?_
                with_reducible refine Tes.and ?_
                (with_reducible refine' Te.cmp ?_ ?z3184hm); (case z3184hm => rfl)
                with_reducible refine Ev.bin ?_
                (with_reducible refine' Ev.cel ?z3186h ?_); (case z3186h => repeat (first | with_reducible exact List.mem_cons_self | with_reducible refine List.mem_cons_of_mem _ ?_))
                (with_reducible refine' Ev.loc ?z3187h ?_); (case z3187h => repeat (first | with_reducible exact List.mem_cons_self | with_reducible refine List.mem_cons_of_mem _ ?_))
                (with_reducible refine' Op2.modI ?z3188h ?_); (case z3188h => with_reducible assumption)
                with_reducible refine Ev.int ?_
                with_reducible refine Op2.eqI ?_
                with_reducible refine Tr.bool ?_
                with_reducible refine ite_t (by with_reducible assumption) ?_
                with_reducible refine Tes.andNil ?_
                with_reducible refine ite_t rfl ?_
                (with_reducible refine' Ev.loc ?z3195h ?_); (case z3195h => repeat (first | with_reducible exact List.mem_cons_self | with_reducible refine List.mem_cons_of_mem _ ?_))
                exact ⟨⟨rfl, rfl⟩, rfl, .keep (.drop .nil)⟩
              · rw [if_neg (by unfold shareC; rw [h1, Bool.true_and]; exact h2)]
                (with_reducible refine' locLk ?z3196hm ?_); (case z3196hm => repeat (first | with_reducible exact Has.here | with_reducible refine Has.there ?_))
                with_reducible refine putS ?_
                with_reducible refine put0 ?_
                with_reducible refine Ifs.one ?_
                with_reducible refine Te.bool ?_
                with_reducible refine Tes.and ?_
                (with_reducible refine' Te.cmp ?_ ?z3202hm); (case z3202hm => rfl)
                with_reducible refine Ev.bin ?_
                (with_reducible refine' Ev.cel ?z3204h ?_); (case z3204h => repeat (first | with_reducible exact List.mem_cons_self | with_reducible refine List.mem_cons_of_mem _ ?_))
                (with_reducible refine' Ev.loc ?z3205h ?_); (case z3205h => repeat (first | with_reducible exact List.mem_cons_self | with_reducible refine List.mem_cons_of_mem _ ?_))
                (with_reducible refine' Op2.modI ?z3206h ?_); (case z3206h => with_reducible assumption)
                with_reducible refine Ev.int ?_
                with_reducible refine Op2.eqI ?_
                with_reducible refine Tr.bool ?_
                with_reducible refine ite_t (by with_reducible assumption) ?_
                with_reducible refine Tes.and ?_
                (with_reducible refine' Te.cmp ?_ ?z3212hm); (case z3212hm => rfl)
                with_reducible refine Ev.bin ?_
                (with_reducible refine' Ev.cel ?z3214h ?_); (case z3214h => repeat (first | with_reducible exact List.mem_cons_self | with_reducible refine List.mem_cons_of_mem _ ?_))
                (with_reducible refine' Ev.loc ?z3215h ?_); (case z3215h => repeat (first | with_reducible exact List.mem_cons_self | with_reducible refine List.mem_cons_of_mem _ ?_))
                (with_reducible refine' Op2.modI ?z3216h ?_); (case z3216h => with_reducible assumption)
                with_reducible refine Ev.int ?_
                with_reducible refine Op2.eqI ?_
                with_reducible refine Tr.bool ?_
                with_reducible refine ite_f (by with_reducible assumption) ?_
                with_reducible refine ite_f Bool.false_ne_true ?_
                exact ⟨⟨rfl, rfl⟩, rfl, .keep (.drop .nil)⟩
            · rw [if_neg (by unfold shareC; rw [Bool.and_eq_true]; exact fun h => h1 h.1)]
              (with_reducible refine' locLk ?z3222hm ?_); (case z3222hm => repeat (first | with_reducible exact Has.here | with_reducible refine Has.there ?_))
              with_reducible refine putS ?_
              with_reducible refine put0 ?_
              with_reducible refine Ifs.one ?_
              with_reducible refine Te.bool ?_
              with_reducible refine Tes.and ?_
              (with_reducible refine' Te.cmp ?_ ?z3228hm); (case z3228hm => rfl)
              with_reducible refine Ev.bin ?_
              (with_reducible refine' Ev.cel ?z3230h ?_); (case z3230h => repeat (first | with_reducible exact List.mem_cons_self | with_reducible refine List.mem_cons_of_mem _ ?_))
              (with_reducible refine' Ev.loc ?z3231h ?_); (case z3231h => repeat (first | with_reducible exact List.mem_cons_self | with_reducible refine List.mem_cons_of_mem _ ?_))
              (with_reducible refine' Op2.modI ?z3232h ?_); (case z3232h => with_reducible assumption)
              with_reducible refine Ev.int ?_
              with_reducible refine Op2.eqI ?_
              with_reducible refine Tr.bool ?_
              with_reducible refine ite_f (by with_reducible assumption) ?_
              with_reducible refine ite_f Bool.false_ne_true ?_
              exact ⟨⟨rfl, rfl⟩, rfl, .keep (.drop .nil)⟩
          · have : ∀ (m : Nat) (a : Int), (rangeFrom a 1 m).length = m := by
              intro m; induction m with
              | zero => intro a; rfl
              | succ m ih => intro a; show (rangeFrom (a + 1) 1 m).length + 1 = _; rw [ih]
            rw [this]; unfold sizeLine; omega
          · rw [shareL_eq]
            with_reducible refine putS ?_
            with_reducible refine putS ?_
            with_reducible refine put0 ?_
            with_reducible refine Ss.cons ?_
            with_reducible refine S1.ite ?_
            with_reducible refine Te.bool ?_
            with_reducible refine Tes.and ?_
            (with_reducible refine' Te.cmp ?_ ?z3245hm); (case z3245hm => rfl)
            (with_reducible refine' Ev.loc ?z3246h ?_); (case z3246h => repeat (first | with_reducible exact List.mem_cons_self | with_reducible refine List.mem_cons_of_mem _ ?_))
            refine Ev.lst ?_
            with_reducible refine Evs.nil ?_
            with_reducible refine And.intro (Nat.le_of_ble_eq_true rfl) ?_
            refine Op2.eqEmpty hu ?_
            have e5 : okPick n q = ((shareL n q).isEmpty && decide (q * (n - 1) * n * (2 * n - 1) ≤ 1680)) := rfl
            rw [List.filter_cons] at e2
            rw [List.length_cons] at e4
            have e3' : ∀ x ∈ qs, 1 ≤ x ∧ x ≤ 11 := fun x hx => e3 x (.tail _ hx)
            by_cases h1 : (shareL n q).isEmpty = true
            · by_cases h2 : decide (q * (n - 1) * n * (2 * n - 1) ≤ 1680) = true
              · rw [if_pos (by rw [e5, h1, h2]; rfl)] at e2
                with_reducible refine Tr.bool ?_
                with_reducible refine ite_t (by with_reducible assumption) ?_
                with_reducible refine Tes.and ?_
                (with_reducible refine' Te.cmp ?_ ?z3252hm); (case z3252hm => rfl)
                with_reducible refine Ev.bin ?_
                with_reducible refine Ev.bin ?_
                with_reducible refine Ev.bin ?_
                (with_reducible refine' Ev.cel ?z3256h ?_); (case z3256h => repeat (first | with_reducible exact List.mem_cons_self | with_reducible refine List.mem_cons_of_mem _ ?_))
                with_reducible refine Ev.bin ?_
                (with_reducible refine' Ev.cel ?z3258h ?_); (case z3258h => repeat (first | with_reducible exact List.mem_cons_self | with_reducible refine List.mem_cons_of_mem _ ?_))
                with_reducible refine Ev.int ?_
                with_reducible refine Op2.subI ?_
                (with_reducible refine' Op2.mulI ?z3261h ?_); (case z3261h => exact mulOkL (by omega))
                (with_reducible refine' Ev.cel ?z3262h ?_); (case z3262h => repeat (first | with_reducible exact List.mem_cons_self | with_reducible refine List.mem_cons_of_mem _ ?_))
                (with_reducible refine' Op2.mulI ?z3263h ?_); (case z3263h => exact mulOkR (by omega))
                with_reducible refine Ev.bin ?_
                with_reducible refine Ev.bin ?_
                with_reducible refine Ev.int ?_
                (with_reducible refine' Ev.cel ?z3267h ?_); (case z3267h => repeat (first | with_reducible exact List.mem_cons_self | with_reducible refine List.mem_cons_of_mem _ ?_))
                (with_reducible refine' Op2.mulI ?z3268h ?_); (case z3268h => exact mulOkL (by decide))
                with_reducible refine Ev.int ?_
                with_reducible refine Op2.subI ?_
                (with_reducible refine' Op2.mulI ?z3271h ?_); (case z3271h => exact mulOkR (by omega))
                with_reducible refine Ev.int ?_
                with_reducible refine Op2.leI ?_
                with_reducible refine Tr.bool ?_
                with_reducible refine ite_t (by with_reducible assumption) ?_
                with_reducible refine Tes.andNil ?_
                with_reducible refine ite_t rfl ?_
                with_reducible refine Ss.cons ?_
                (with_reducible refine' S1.exprAny ?_ ?z3279hi ?z3279hs); (case z3279hi => rfl); (case z3279hs => rfl)
                (with_reducible refine' Ev.meth ?_ ?z3280hm ?z3280hp); (case z3280hm => exact ⟨_, rfl⟩); (case z3280hp => intro _; rfl)
                (with_reducible refine' Ev.loc ?z3281h ?_); (case z3281h => repeat (first | with_reducible exact List.mem_cons_self | with_reducible refine List.mem_cons_of_mem _ ?_))
                refine GetM.list (ds := ps.map D.int) (.own (.tail _ (.head _))) slot_list_append (by first | exact type_list_append | exact F.type_list_append) ?_
                (with_reducible refine' And.intro ?z3282k ?_); (case z3282k => with_reducible exact Kp.bui)
                (with_reducible refine' Evs.cons ?_ ?z3283he); (case z3283he => rfl)
                (with_reducible refine' Ev.cel ?z3284h ?_); (case z3284h => repeat (first | with_reducible exact List.mem_cons_self | with_reducible refine List.mem_cons_of_mem _ ?_))
                with_reducible refine Evs.nil ?_
                with_reducible refine Ca.app1 ?_
                refine Ca.append (ds := ps.map D.int) (.there .here) (by rw [List.length_map]; unfold sizeLine; omega) ?_
                with_reducible refine Ss.nil ?_
                with_reducible refine Ss.nil ?_
                refine ⟨(some (.int q), ps ++ [q]), ?_, rfl, ?_, qs, rfl, by rw [List.append_assoc]; exact e2, e3', by dsimp only; rw [List.length_append]; simp only [List.length_cons, List.length_nil]; omega⟩
                · exact .keep (.keep (.drop (.keep (.keep (.keep (.keep (.keep (.keep (.keep (.keep (.keep .nil)))))))))))
                · dsimp only; rw [List.map_append]; exact .refl
              · rw [if_neg (by rw [e5, Bool.and_eq_true]; exact fun h => h2 h.2)] at e2
                with_reducible refine Tr.bool ?_
                with_reducible refine ite_t (by with_reducible assumption) ?_
                with_reducible refine Tes.and ?_
                (with_reducible refine' Te.cmp ?_ ?z3292hm); (case z3292hm => rfl)
                with_reducible refine Ev.bin ?_
                with_reducible refine Ev.bin ?_
                with_reducible refine Ev.bin ?_
                (with_reducible refine' Ev.cel ?z3296h ?_); (case z3296h => repeat (first | with_reducible exact List.mem_cons_self | with_reducible refine List.mem_cons_of_mem _ ?_))
                with_reducible refine Ev.bin ?_
                (with_reducible refine' Ev.cel ?z3298h ?_); (case z3298h => repeat (first | with_reducible exact List.mem_cons_self | with_reducible refine List.mem_cons_of_mem _ ?_))
                with_reducible refine Ev.int ?_
                with_reducible refine Op2.subI ?_
                (with_reducible refine' Op2.mulI ?z3301h ?_); (case z3301h => exact mulOkL (by omega))
                (with_reducible refine' Ev.cel ?z3302h ?_); (case z3302h => repeat (first | with_reducible exact List.mem_cons_self | with_reducible refine List.mem_cons_of_mem _ ?_))
                (with_reducible refine' Op2.mulI ?z3303h ?_); (case z3303h => exact mulOkR (by omega))
                with_reducible refine Ev.bin ?_
                with_reducible refine Ev.bin ?_
                with_reducible refine Ev.int ?_
                (with_reducible refine' Ev.cel ?z3307h ?_); (case z3307h => repeat (first | with_reducible exact List.mem_cons_self | with_reducible refine List.mem_cons_of_mem _ ?_))
                (with_reducible refine' Op2.mulI ?z3308h ?_); (case z3308h => exact mulOkL (by decide))
                with_reducible refine Ev.int ?_
                with_reducible refine Op2.subI ?_
                (with_reducible refine' Op2.mulI ?z3311h ?_); (case z3311h => exact mulOkR (by omega))
                with_reducible refine Ev.int ?_
                with_reducible refine Op2.leI ?_
                with_reducible refine Tr.bool ?_
                with_reducible refine ite_f (by with_reducible assumption) ?_
                with_reducible refine ite_f Bool.false_ne_true ?_
                with_reducible refine Ss.nil ?_
                with_reducible refine Ss.nil ?_
                refine ⟨(some (.int q), ps), ?_, rfl, .refl, qs, rfl, e2, e3', by dsimp only; omega⟩
                exact .keep (.keep (.drop (.keep (.keep (.keep (.keep (.keep (.keep (.keep (.keep (.keep .nil)))))))))))
            · rw [if_neg (by rw [e5, Bool.and_eq_true]; exact fun h => h1 h.1)] at e2
              with_reducible refine Tr.bool ?_
              with_reducible refine ite_f (by with_reducible assumption) ?_
              with_reducible refine ite_f Bool.false_ne_true ?_
              with_reducible refine Ss.nil ?_
              with_reducible refine Ss.nil ?_
              refine ⟨(some (.int q), ps), ?_, rfl, .refl, qs, rfl, e2, e3', by dsimp only; omega⟩
              exact .keep (.keep (.drop (.keep (.keep (.keep (.keep (.keep (.keep (.keep (.keep (.keep .nil)))))))))))
      · rintro ⟨po, ps⟩ ⟨qs, e1, e2, e3, e4⟩
        dsimp only at e2 e3 e4 ⊢
        cases qs with
        | cons q qs => cases e1
        | nil =>
          rw [List.filter_nil, List.append_nil] at e2
          subst e2
          obtain ⟨hm0, hm1⟩ := picks_len n hn0 hn1
          have hm2 : ((picksL n).map D.int).length < 2 ^ 62 := by rw [List.length_map]; omega
          with_reducible refine Ss.cons ?_
          (with_reducible refine' S1.asC ?_ ?z3325hl ?z3325hf ?z3325hs); (case z3325hl => kernel_rfl); (case z3325hf => rfl); (case z3325hs => rfl)
          with_reducible refine Ev.sub ?_
          (with_reducible refine' Ev.loc ?z3327h ?_); (case z3327h => repeat (first | with_reducible exact List.mem_cons_self | with_reducible refine List.mem_cons_of_mem _ ?_))
          with_reducible refine Ev.bin ?_
          with_reducible refine Ev.bin ?_
          with_reducible refine Ev.sub ?_
          (with_reducible refine' Ev.loc ?z3331h ?_); (case z3331h => repeat (first | with_reducible exact List.mem_cons_self | with_reducible refine List.mem_cons_of_mem _ ?_))
          with_reducible refine Ev.int ?_
          (with_reducible refine' Op2.itemL ?z3333l ?z3333a ?z3333b ?z3333d ?_ ?z3333hs); (case z3333l => first | with_reducible exact LstOf.frz | ((with_reducible refine' LstOf.own ?z3333hm); (case z3333hm => repeat (first | with_reducible exact List.mem_cons_self | with_reducible refine List.mem_cons_of_mem _ ?_)))); (case z3333a => decide); (case z3333b => decide); (case z3333d => first | with_reducible assumption | rfl); (case z3333hs => intros; rfl)
          with_reducible refine Ev.int ?_
          with_reducible refine Op2.addI ?_
          (with_reducible refine' Ev.call ?_ ?z3336hp); (case z3336hp => intro _; rfl)
          (with_reducible refine' Ev.bui ?z3337h ?_ ?z3337hx); (case z3337h => with_reducible exact b_len _ _ _ _); (case z3337hx => kernel_rfl)
          (with_reducible refine' ⟨_, rfl, ?z3338k, ?_⟩); (case z3338k => with_reducible exact Kp.bui)
          (with_reducible refine' Evs.cons ?_ ?z3339he); (case z3339he => rfl)
          (with_reducible refine' Ev.loc ?z3340h ?_); (case z3340h => repeat (first | with_reducible exact List.mem_cons_self | with_reducible refine List.mem_cons_of_mem _ ?_))
          with_reducible refine Evs.nil ?_
          (with_reducible refine' Ca.len ?z3342l ?z3342h ?_); (case z3342l => first | with_reducible exact LstOf.frz | ((with_reducible refine' LstOf.own ?z3342hm); (case z3342hm => repeat (first | with_reducible exact List.mem_cons_self | with_reducible refine List.mem_cons_of_mem _ ?_)))); (case z3342h => with_reducible assumption)
          rw [List.length_map]
          have hm3 : (((picksL n).length : Nat) : Int) ≠ 0 := by omega
          (with_reducible refine' Op2.modI ?z3343h ?_); (case z3343h => with_reducible assumption)
          have hj : 0 ≤ (sb + 2).fmod ((picksL n).length : Int) ∧ (sb + 2).fmod ((picksL n).length : Int) < (picksL n).length := by
            rw [Int.fmod_eq_emod_of_nonneg _ (by omega)]
            exact ⟨Int.emod_nonneg _ hm3, Int.emod_lt_of_pos _ (by omega)⟩
          generalize (sb + 2).fmod ((picksL n).length : Int) = j at hj ⊢
          have hj0 : 0 ≤ j := hj.1
          have hj1 : j < ((picksL n).map D.int).length := by rw [List.length_map]; exact hj.2
          obtain ⟨t, ht⟩ : ∃ t, (picksL n)[j.toNat]? = some t := ⟨_, List.getElem?_eq_getElem (by omega)⟩
          have htm : t ∈ picksL n := List.mem_of_getElem? ht
          have hjt : ((picksL n).map D.int)[j.toNat]? = some (.int t) := by rw [List.getElem?_map, ht]; rfl
          (with_reducible refine' Op2.itemL ?z3344l ?z3344a ?z3344b ?z3344d ?_ ?z3344hs); (case z3344l => first | with_reducible exact LstOf.frz | ((with_reducible refine' LstOf.own ?z3344hm); (case z3344hm => repeat (first | with_reducible exact List.mem_cons_self | with_reducible refine List.mem_cons_of_mem _ ?_)))); (case z3344a => with_reducible assumption); (case z3344b => omega); (case z3344d => first | with_reducible assumption | rfl); (case z3344hs => intros; rfl)
          with_reducible refine putS ?_
          with_reducible refine putS ?_
          with_reducible refine putS ?_
          with_reducible refine put0 ?_
          with_reducible refine Ss.cons ?_
          (with_reducible refine' S1.asC ?_ ?z3350hl ?z3350hf ?z3350hs); (case z3350hl => kernel_rfl); (case z3350hf => rfl); (case z3350hs => rfl)
          with_reducible refine Ev.bin ?_
          with_reducible refine Ev.bin ?_
          with_reducible refine Ev.sub ?_
          (with_reducible refine' Ev.loc ?z3354h ?_); (case z3354h => repeat (first | with_reducible exact List.mem_cons_self | with_reducible refine List.mem_cons_of_mem _ ?_))
          with_reducible refine Ev.int ?_
          (with_reducible refine' Op2.itemL ?z3356l ?z3356a ?z3356b ?z3356d ?_ ?z3356hs); (case z3356l => first | with_reducible exact LstOf.frz | ((with_reducible refine' LstOf.own ?z3356hm); (case z3356hm => repeat (first | with_reducible exact List.mem_cons_self | with_reducible refine List.mem_cons_of_mem _ ?_)))); (case z3356a => decide); (case z3356b => decide); (case z3356d => first | with_reducible assumption | rfl); (case z3356hs => intros; rfl)
          with_reducible refine Ev.int ?_
          with_reducible refine Op2.addI ?_
          with_reducible refine Ev.bin ?_
          with_reducible refine Ev.int ?_
          with_reducible refine Ev.int ?_
          refine Op2.powI (by decide) (by decide) ?_
          have hb : 0 ≤ (sc + 1205).fmod (2 ^ (20 : Int).toNat) ∧ (sc + 1205).fmod (2 ^ (20 : Int).toNat) < 1048576 := by
            rw [Int.fmod_eq_emod_of_nonneg _ (by decide)]
            exact ⟨Int.emod_nonneg _ (by decide), Int.emod_lt_of_pos _ (by decide)⟩
          have h20 : ((2 : Int) ^ (20 : Int).toNat) ≠ 0 := by decide
          (with_reducible refine' Op2.modI ?z3362h ?_); (case z3362h => with_reducible assumption)
          generalize (sc + 1205).fmod (2 ^ (20 : Int).toNat) = bits at hb ⊢
          obtain ⟨hb0, hb1⟩ := hb
          obtain ⟨Nn, Nt, l1, l2, l3, o2, wn, wnt, wb, wc, home, cp, y, F⟩ := plain n t bits hn0 hn1 htm hb0 hb1
          have ht0 := F.ht0
          have ht1 := F.ht1
          with_reducible refine putS ?_
          with_reducible refine putS ?_
          with_reducible refine putS ?_
          with_reducible refine putS ?_
          with_reducible refine put0 ?_
          refine Exs.weak (ρ' := [("sums", none), ("picks", none), ("shared", none), ("table", none), ("order", none), ("lead", none), ("guy", none), ("last", none), ("s", none), ("c", none), ("d", none), ("home", none)]) ?_ (.of (List.nil_sublist _)) ?_
          · exact .drop (.drop (.keep (.keep (.keep (.keep (.keep (.keep (.keep (.keep (.keep (.keep .nil)))))))))))
          have room4 := room.less (k := 4) (by decide)
          have room2 := room.less (k := 2) (by decide)
          have room1 := room.less (k := 1) (by decide)
          have hne : ∀ {x y : Str}, (decide (x ≠ y)) = true → x ≠ y := fun h => of_decide_eq_true h
          have hlenI : ∀ (m : Nat) (a : Int), (rangeFrom a 1 m).length = m := by
            intro m; induction m with
            | zero => intro a; rfl
            | succ m ih => intro a; show (rangeFrom (a + 1) 1 m).length + 1 = _; rw [ih]
          have hnz : (n : Int) ≠ 0 := by omega
          have hns : n.natAbs < 1073741824 := by omega
          with_reducible refine Ss.cons ?_
          (with_reducible refine' asLk ?z3369hm ?_ ?z3369hs); (case z3369hm => repeat (first | with_reducible exact Has.here | with_reducible refine Has.there ?_)); (case z3369hs => rfl)
          (with_reducible refine' Ev.call ?_ ?z3370hp); (case z3370hp => intro _; rfl)
          (with_reducible refine' Ev.glo ?z3371h ?_ ?z3371hx); (case z3371h => with_reducible exact n__law_table _ _ _ _); (case z3371hx => kernel_rfl)
          (with_reducible refine' ⟨_, rfl, ?z3372k, ?_⟩); (case z3372k => with_reducible exact k_272 _ _ _ _)
          (with_reducible refine' Evs.cons ?_ ?z3373he); (case z3373he => rfl)
          (with_reducible refine' Ev.cel ?z3374h ?_); (case z3374h => repeat (first | with_reducible exact List.mem_cons_self | with_reducible refine List.mem_cons_of_mem _ ?_))
          with_reducible refine Evs.nil ?_
          refine Cal.ca (Cal.mono (c_table w mg mb os n Nn F.tab1.h0 F.tab1.h1 F.tab1.hlen F.tab1.hn F.tab1.hv F.tab1.hD F.tab1.hr) fun d O' hd => ?_) room4
          obtain ⟨la, rfl, hos⟩ := hd
          with_reducible refine putS ?_
          with_reducible refine putS ?_
          with_reducible refine putS ?_
          with_reducible refine put0 ?_
          refine Exs.weak .refl hos ?_
          clear hos
          with_reducible refine Ss.cons ?_
          (with_reducible refine' asLk ?z3381hm ?_ ?z3381hs); (case z3381hm => repeat (first | with_reducible exact Has.here | with_reducible refine Has.there ?_)); (case z3381hs => rfl)
          (with_reducible refine' Ev.call ?_ ?z3382hp); (case z3382hp => intro _; rfl)
          (with_reducible refine' Ev.glo ?z3383h ?_ ?z3383hx); (case z3383h => with_reducible exact n__law_taken _ _ _ _); (case z3383hx => kernel_rfl)
          (with_reducible refine' ⟨_, rfl, ?z3384k, ?_⟩); (case z3384k => with_reducible exact k_277 _ _ _ _)
          (with_reducible refine' Evs.cons ?_ ?z3385he); (case z3385he => rfl)
          (with_reducible refine' Ev.loc ?z3386h ?_); (case z3386h => repeat (first | with_reducible exact List.mem_cons_self | with_reducible refine List.mem_cons_of_mem _ ?_))
          (with_reducible refine' Evs.cons ?_ ?z3387he); (case z3387he => rfl)
          (with_reducible refine' Ev.cel ?z3388h ?_); (case z3388h => repeat (first | with_reducible exact List.mem_cons_self | with_reducible refine List.mem_cons_of_mem _ ?_))
          (with_reducible refine' Evs.cons ?_ ?z3389he); (case z3389he => rfl)
          (with_reducible refine' Ev.cel ?z3390h ?_); (case z3390h => repeat (first | with_reducible exact List.mem_cons_self | with_reducible refine List.mem_cons_of_mem _ ?_))
          (with_reducible refine' Evs.cons ?_ ?z3391he); (case z3391he => rfl)
          (with_reducible refine' Ev.cel ?z3392h ?_); (case z3392h => repeat (first | with_reducible exact List.mem_cons_self | with_reducible refine List.mem_cons_of_mem _ ?_))
          with_reducible refine Evs.nil ?_
          have hzN : (tabL Nn).length ≤ 100000 := by unfold tabL; rw [List.length_map]; have := F.tab1.hlen; omega
          refine Cal.ca (Cal.mono (c_taken w mg mb os la n t bits (tabL Nn) l1 (by omega) hzN F.tk1 F.sn1.hz F.sn1.hs) fun d O' hd => ?_) room4
          obtain ⟨hos, rfl⟩ := hd
          rw [F.sn1.he]
          with_reducible refine putS ?_
          with_reducible refine putS ?_
          with_reducible refine putS ?_
          with_reducible refine putS ?_
          with_reducible refine put0 ?_
          refine Exs.weak .refl hos ?_
          clear hos
          with_reducible refine Ss.cons ?_
          with_reducible refine S1.ite ?_
          (with_reducible refine' Te.cmp ?_ ?z3401hm); (case z3401hm => rfl)
          (with_reducible refine' Ev.loc ?z3402h ?_); (case z3402h => repeat (first | with_reducible exact List.mem_cons_self | with_reducible refine List.mem_cons_of_mem _ ?_))
          refine' Ev.compM [(".0", none), ("k", none)] [("n", some (.int n)), ("t", some (.int t)), ("bits", some (.int bits))] (ordD n t bits) hh ?hp ?c1 ?c2 ?c3 ?c4 ?c5 ?c6 ?c7 ?_
          case hp => rfl
          case c1 => rfl
          case c2 => rfl
          case c3 => decide +kernel
          case c4 => decide +kernel
          case c5 => kernel_rfl
          case c6 =>
            refine .cons (.tail _ (.head _)) (.inl (by kernel_rfl)) (by kernel_rfl) (fun q h => ?_) (.cons (.tail _ (.tail _ (.tail _ (.head _)))) (.inl (by kernel_rfl)) (by kernel_rfl) (fun q h => ?_) (.cons (.tail _ (.tail _ (.tail _ (.tail _ (.head _))))) (.inl (by kernel_rfl)) (by kernel_rfl) (fun q h => nomatch h) .nil))
            · rcases List.mem_cons.mp h with rfl | h
              · exact hne rfl
              · obtain rfl := List.mem_singleton.mp h; exact hne rfl
            · obtain rfl := List.mem_singleton.mp h; exact hne rfl
          case c7 => exact fun _ => rfl
          (with_reducible refine' Ev.call ?_ ?z3403hp); (case z3403hp => intro _; rfl)
          (with_reducible refine' Ev.bui ?z3404h ?_ ?z3404hx); (case z3404h => with_reducible exact b_range _ _ _ _); (case z3404hx => kernel_rfl)
          (with_reducible refine' ⟨_, rfl, ?z3405k, ?_⟩); (case z3405k => with_reducible exact Kp.typ)
          (with_reducible refine' Evs.cons ?_ ?z3406he); (case z3406he => rfl)
          (with_reducible refine' Ev.cel ?z3407h ?_); (case z3407h => repeat (first | with_reducible exact List.mem_cons_self | with_reducible refine List.mem_cons_of_mem _ ?_))
          with_reducible refine Evs.nil ?_
          with_reducible refine Ca.range1 ?_
          (with_reducible refine' getI_range ?z3410h ?z3410k (fun _ => ?_)); (case z3410h => decide); (case z3410k => omega)
          refine ⟨_, _, rfl, fun L d hd' => ?_, ?_, ?_⟩
          · obtain ⟨i, hi, rfl⟩ := mem_rangeFrom hd'
            have hi0 : 0 ≤ (0 + (i : Int)) := by omega
            have hi1 : (0 + (i : Int)) < 1000 := by omega
            generalize 0 + (i : Int) = p at hi0 hi1 ⊢
            intro O
            have e : ordD n t bits (.int p) = some (.tup [.int ((t * p).fmod n), .bool (Builtin.bitAnd (bits.fdiv (2 ^ p.toNat)) 1 == 1)]) := rfl
            rw [e]
            (with_reducible refine' locLk ?z3411hm ?_); (case z3411hm => repeat (first | with_reducible exact Has.here | with_reducible refine Has.there ?_))
            with_reducible refine putS ?_
            with_reducible refine put0 ?_
            with_reducible refine Ifs.nil ?_
            with_reducible refine ite_t rfl ?_
            with_reducible refine Ev.tup ?_
            (with_reducible refine' Evs.cons ?_ ?z3417he); (case z3417he => rfl)
            with_reducible refine Ev.bin ?_
            with_reducible refine Ev.bin ?_
            (with_reducible refine' Ev.cel ?z3420h ?_); (case z3420h => repeat (first | with_reducible exact List.mem_cons_self | with_reducible refine List.mem_cons_of_mem _ ?_))
            (with_reducible refine' Ev.loc ?z3421h ?_); (case z3421h => repeat (first | with_reducible exact List.mem_cons_self | with_reducible refine List.mem_cons_of_mem _ ?_))
            (with_reducible refine' Op2.mulI ?z3422h ?_); (case z3422h => exact mulOkL (by omega))
            (with_reducible refine' Ev.cel ?z3423h ?_); (case z3423h => repeat (first | with_reducible exact List.mem_cons_self | with_reducible refine List.mem_cons_of_mem _ ?_))
            (with_reducible refine' Op2.modI ?z3424h ?_); (case z3424h => with_reducible assumption)
            (with_reducible refine' Evs.cons ?_ ?z3425he); (case z3425he => rfl)
            (with_reducible refine' Ev.cmp ?_ ?z3426hm); (case z3426hm => rfl)
            with_reducible refine Ev.bin ?_
            with_reducible refine Ev.bin ?_
            (with_reducible refine' Ev.cel ?z3429h ?_); (case z3429h => repeat (first | with_reducible exact List.mem_cons_self | with_reducible refine List.mem_cons_of_mem _ ?_))
            (with_reducible refine' Ev.loc ?z3430h ?_); (case z3430h => repeat (first | with_reducible exact List.mem_cons_self | with_reducible refine List.mem_cons_of_mem _ ?_))
            (with_reducible refine' Op2.shrI ?z3431h ?_); (case z3431h => with_reducible assumption)
            with_reducible refine Ev.int ?_
            with_reducible refine Op2.andI ?_
            with_reducible refine Ev.int ?_
            with_reducible refine Op2.eqI ?_
            with_reducible refine Evs.nil ?_
            with_reducible refine And.intro (Nat.le_of_ble_eq_true rfl) ?_
            exact ⟨⟨rfl, rfl⟩, rfl, .keep (.drop .nil)⟩
          · rw [hlenI]; unfold sizeLine; omega
          · have e : (rangeFrom 0 1 (n - 0).toNat).filterMap (ordD n t bits) = (orderL n t bits).map prD := by
              rw [rangeI_eq, ordD_eq, Int.sub_zero]; rfl
            rw [e]
            refine Op2.neSame rfl hu ?_
            with_reducible refine Tr.bool ?_
            with_reducible refine ite_f Bool.false_ne_true ?_
            with_reducible refine Ss.nil ?_
            with_reducible refine Ss.cons ?_
            (with_reducible refine' asLk ?z3442hm ?_ ?z3442hs); (case z3442hm => repeat (first | with_reducible exact Has.here | with_reducible refine Has.there ?_)); (case z3442hs => rfl)
            (with_reducible refine' Ev.call ?_ ?z3443hp); (case z3443hp => intro _; rfl)
            (with_reducible refine' Ev.glo ?z3444h ?_ ?z3444hx); (case z3444h => with_reducible exact n__law_lead _ _ _ _); (case z3444hx => kernel_rfl)
            (with_reducible refine' ⟨_, rfl, ?z3445k, ?_⟩); (case z3445k => with_reducible exact k_289 _ _ _ _)
            (with_reducible refine' Evs.cons ?_ ?z3446he); (case z3446he => rfl)
            (with_reducible refine' Ev.cel ?z3447h ?_); (case z3447h => repeat (first | with_reducible exact List.mem_cons_self | with_reducible refine List.mem_cons_of_mem _ ?_))
            (with_reducible refine' Evs.cons ?_ ?z3448he); (case z3448he => rfl)
            (with_reducible refine' Ev.cel ?z3449h ?_); (case z3449h => repeat (first | with_reducible exact List.mem_cons_self | with_reducible refine List.mem_cons_of_mem _ ?_))
            (with_reducible refine' Evs.cons ?_ ?z3450he); (case z3450he => rfl)
            (with_reducible refine' Ev.cel ?z3451h ?_); (case z3451h => repeat (first | with_reducible exact List.mem_cons_self | with_reducible refine List.mem_cons_of_mem _ ?_))
            with_reducible refine Evs.nil ?_
            refine Cal.ca (Cal.pure (c_lead w mg mb os n t bits (by omega) (by omega) (by omega) (by omega)) fun d O' h => ⟨h.1, ?_⟩) room1
            rw [h.2]
            with_reducible refine putS ?_
            with_reducible refine putS ?_
            with_reducible refine putS ?_
            with_reducible refine putS ?_
            with_reducible refine putS ?_
            with_reducible refine put0 ?_
            with_reducible refine Ss.cons ?_
            (with_reducible refine' asLk ?z3460hm ?_ ?z3460hs); (case z3460hm => repeat (first | with_reducible exact Has.here | with_reducible refine Has.there ?_)); (case z3460hs => rfl)
            (with_reducible refine' Ev.call ?_ ?z3461hp); (case z3461hp => intro _; rfl)
            (with_reducible refine' Ev.glo ?z3462h ?_ ?z3462hx); (case z3462h => with_reducible exact n_Whitespace _ _ _ _); (case z3462hx => kernel_rfl)
            (with_reducible refine' ⟨_, rfl, ?z3463k, ?_⟩); (case z3463k => with_reducible exact k_100 _ _ _ _)
            (with_reducible refine' Evs.cons ?_ ?z3464he); (case z3464he => rfl)
            (with_reducible refine' Ev.loc ?z3465h ?_); (case z3465h => repeat (first | with_reducible exact List.mem_cons_self | with_reducible refine List.mem_cons_of_mem _ ?_))
            with_reducible refine Evs.nil ?_
            refine Ca.make (n := 1) room2 (mk_100 w mg mb os) (m_55 w mg mb os) (ty_55 w mg mb os) fun x dx => ?_
            refine Cal.mono (Cal.frame (P := [(la, _)]) (c_wsinit w mg mb os (leadOf n t bits) x dx wn wnt wb wc F.wz F.ws) (Q' := fun d O' => d = .none ∧ OS ([(x, .obj 100 dx), (dx, .dict (wsFs (leadOf n t bits) wn wnt wc wb (decide ((wc.length : Int) ≤ 1))))] ++ [(la, .list (itemsD l1))]) O') fun d O' hd => ⟨hd.1, hd.2.app⟩) fun d O' hd => ⟨hd.1, _, _, hd.2, ?_⟩
            have hI : ∀ t, wb + t * (ilGo t t 0 (wc.drop t.toNat) + wnt) = ivl wb wnt wc t := fun _ => rfl
            have a1 := (Bool.not_eq_true _).mpr F.a1
            have a2 := (Bool.not_eq_true _).mpr F.a2
            have a3 := (Bool.not_eq_true _).mpr F.a3
            have a4 := (Bool.not_eq_true _).mpr F.a4
            with_reducible refine putS ?_
            with_reducible refine putS ?_
            with_reducible refine putS ?_
            with_reducible refine putS ?_
            with_reducible refine putS ?_
            with_reducible refine putS ?_
            with_reducible refine put0 ?_
            with_reducible refine Ss.cons ?_
            (with_reducible refine' asLk ?z3475hm ?_ ?z3475hs); (case z3475hm => repeat (first | with_reducible exact Has.here | with_reducible refine Has.there ?_)); (case z3475hs => rfl)
            with_reducible refine Ev.bin ?_
            (with_reducible refine' Ev.cel ?z3477h ?_); (case z3477h => repeat (first | with_reducible exact List.mem_cons_self | with_reducible refine List.mem_cons_of_mem _ ?_))
            with_reducible refine Ev.int ?_
            (with_reducible refine' Op2.modI ?z3479h ?_); (case z3479h => decide)
            with_reducible refine putS ?_
            with_reducible refine putS ?_
            with_reducible refine putS ?_
            with_reducible refine putS ?_
            with_reducible refine putS ?_
            with_reducible refine putS ?_
            with_reducible refine putS ?_
            with_reducible refine put0 ?_
            with_reducible refine Ss.cons ?_
            (with_reducible refine' asLk ?z3489hm ?_ ?z3489hs); (case z3489hm => repeat (first | with_reducible exact Has.here | with_reducible refine Has.there ?_)); (case z3489hs => rfl)
            with_reducible refine Ev.bin ?_
            with_reducible refine Ev.bin ?_
            with_reducible refine Ev.bin ?_
            (with_reducible refine' Ev.meth ?_ ?z3493hm ?z3493hp); (case z3493hm => exact ⟨_, rfl⟩); (case z3493hp => intro _; rfl)
            (with_reducible refine' Ev.loc ?z3494h ?_); (case z3494h => repeat (first | with_reducible exact List.mem_cons_self | with_reducible refine List.mem_cons_of_mem _ ?_))
            (with_reducible refine' meth100 ?z3495hf ?z3495ht ?z3495o ?z3495hs ?_); (case z3495hf => with_reducible exact m_69 _ _ _ _); (case z3495ht => with_reducible exact ty_69 _ _ _ _); (case z3495o => with_reducible exact ObjOf.frz); (case z3495hs => kernel_rfl)
            (with_reducible refine' And.intro ?z3496k ?_); (case z3496k => with_reducible exact k_69 _ _ _ _)
            (with_reducible refine' Evs.cons ?_ ?z3497he); (case z3497he => rfl)
            (with_reducible refine' Ev.cel ?z3498h ?_); (case z3498h => repeat (first | with_reducible exact List.mem_cons_self | with_reducible refine List.mem_cons_of_mem _ ?_))
            with_reducible refine Evs.nil ?_
            with_reducible refine Ca.app1 ?_
            refine Cal.ca (Cal.pure (c_indent w mg mb os _ wn wnt wc wb _ n (by omega) (by omega) F.wz2) fun d O' h => ⟨h.1, ?_⟩) room1
            rw [h.2, hI]
            (with_reducible refine' Ev.loc ?z3501h ?_); (case z3501h => repeat (first | with_reducible exact List.mem_cons_self | with_reducible refine List.mem_cons_of_mem _ ?_))
            with_reducible refine Op2.subI ?_
            (with_reducible refine' Ev.cel ?z3503h ?_); (case z3503h => repeat (first | with_reducible exact List.mem_cons_self | with_reducible refine List.mem_cons_of_mem _ ?_))
            (with_reducible refine' Op2.fdivI ?z3504h ?z3504k ?_); (case z3504h => with_reducible assumption); (case z3504k => with_reducible assumption)
            with_reducible refine Ev.bin ?_
            with_reducible refine Ev.bin ?_
            (with_reducible refine' Ev.cel ?z3507h ?_); (case z3507h => repeat (first | with_reducible exact List.mem_cons_self | with_reducible refine List.mem_cons_of_mem _ ?_))
            with_reducible refine Ev.bin ?_
            (with_reducible refine' Ev.cel ?z3509h ?_); (case z3509h => repeat (first | with_reducible exact List.mem_cons_self | with_reducible refine List.mem_cons_of_mem _ ?_))
            with_reducible refine Ev.int ?_
            with_reducible refine Op2.subI ?_
            (with_reducible refine' Op2.mulI ?z3512h ?_); (case z3512h => exact mulOkL (by omega))
            with_reducible refine Ev.int ?_
            (with_reducible refine' Op2.fdivI ?z3514h ?z3514k ?_); (case z3514h => decide); (case z3514k => decide)
            with_reducible refine Op2.subI ?_
            with_reducible refine putS ?_
            with_reducible refine putS ?_
            with_reducible refine putS ?_
            with_reducible refine putS ?_
            with_reducible refine putS ?_
            with_reducible refine putS ?_
            with_reducible refine putS ?_
            with_reducible refine putS ?_
            with_reducible refine put0 ?_
            with_reducible refine Ss.cons ?_
            (with_reducible refine' asLk ?z3526hm ?_ ?z3526hs); (case z3526hm => repeat (first | with_reducible exact Has.here | with_reducible refine Has.there ?_)); (case z3526hs => rfl)
            (with_reducible refine' Ev.call ?_ ?z3527hp); (case z3527hp => intro _; rfl)
            (with_reducible refine' Ev.glo ?z3528h ?_ ?z3528hx); (case z3528h => with_reducible exact n__law_crossed _ _ _ _); (case z3528hx => kernel_rfl)
            (with_reducible refine' ⟨_, rfl, ?z3529k, ?_⟩); (case z3529k => with_reducible exact k_282 _ _ _ _)
            (with_reducible refine' Evs.cons ?_ ?z3530he); (case z3530he => rfl)
            (with_reducible refine' Ev.loc ?z3531h ?_); (case z3531h => repeat (first | with_reducible exact List.mem_cons_self | with_reducible refine List.mem_cons_of_mem _ ?_))
            with_reducible refine Evs.nil ?_
            have hcr := c_crossed w mg mb os (asD (orderL n t bits)) (by unfold asD; rw [List.length_map]; exact F.z1) (apart_asD F.ap1) F.z3
            rw [← pairL_asD] at hcr
            refine Cal.ca (Cal.pure hcr fun d O' h => ⟨h.1, ?_⟩) room1
            rw [h.2, show (((crossL (asD (orderL n t bits))).length : Nat) : Int) = crossN (orderL n t bits) from rfl]
            with_reducible refine putS ?_
            with_reducible refine putS ?_
            with_reducible refine putS ?_
            with_reducible refine putS ?_
            with_reducible refine putS ?_
            with_reducible refine putS ?_
            with_reducible refine putS ?_
            with_reducible refine putS ?_
            with_reducible refine putS ?_
            with_reducible refine put0 ?_
            with_reducible refine Ss.cons ?_
            with_reducible refine S1.ite ?_
            (with_reducible refine' Te.cmp ?_ ?z3545hm); (case z3545hm => rfl)
            with_reducible refine Ev.bin ?_
            with_reducible refine Ev.int ?_
            (with_reducible refine' Ev.loc ?z3548h ?_); (case z3548h => repeat (first | with_reducible exact List.mem_cons_self | with_reducible refine List.mem_cons_of_mem _ ?_))
            (with_reducible refine' Op2.mulI ?z3549h ?_); (case z3549h => exact mulOkL (by decide))
            with_reducible refine Ev.bin ?_
            with_reducible refine Ev.bin ?_
            with_reducible refine Ev.int ?_
            (with_reducible refine' Ev.loc ?z3553h ?_); (case z3553h => repeat (first | with_reducible exact List.mem_cons_self | with_reducible refine List.mem_cons_of_mem _ ?_))
            (with_reducible refine' Op2.mulI ?z3554h ?_); (case z3554h => exact mulOkL (by decide))
            with_reducible refine Ev.bin ?_
            with_reducible refine Ev.bin ?_
            with_reducible refine Ev.bin ?_
            (with_reducible refine' Ev.cel ?z3558h ?_); (case z3558h => repeat (first | with_reducible exact List.mem_cons_self | with_reducible refine List.mem_cons_of_mem _ ?_))
            with_reducible refine Ev.int ?_
            with_reducible refine Op2.subI ?_
            with_reducible refine Ev.bin ?_
            (with_reducible refine' Ev.cel ?z3562h ?_); (case z3562h => repeat (first | with_reducible exact List.mem_cons_self | with_reducible refine List.mem_cons_of_mem _ ?_))
            with_reducible refine Ev.int ?_
            with_reducible refine Op2.subI ?_
            (with_reducible refine' Op2.mulI ?z3565h ?_); (case z3565h => exact mulOkL (by omega))
            with_reducible refine Ev.bin ?_
            with_reducible refine Ev.bin ?_
            with_reducible refine Ev.int ?_
            (with_reducible refine' Ev.cel ?z3569h ?_); (case z3569h => repeat (first | with_reducible exact List.mem_cons_self | with_reducible refine List.mem_cons_of_mem _ ?_))
            (with_reducible refine' Op2.mulI ?z3570h ?_); (case z3570h => exact mulOkL (by decide))
            with_reducible refine Ev.int ?_
            with_reducible refine Op2.subI ?_
            (with_reducible refine' Op2.mulI ?z3573h ?_); (case z3573h => exact mulOkR (by omega))
            with_reducible refine Op2.subI ?_
            with_reducible refine Op2.neI ?_
            with_reducible refine Tr.bool ?_
            with_reducible refine ite_f (by with_reducible assumption) ?_
            with_reducible refine Ss.nil ?_
            with_reducible refine Ss.cons ?_
            (with_reducible refine' asLk ?z3580hm ?_ ?z3580hs); (case z3580hm => repeat (first | with_reducible exact Has.here | with_reducible refine Has.there ?_)); (case z3580hs => rfl)
            (with_reducible refine' Ev.call ?_ ?z3581hp); (case z3581hp => intro _; rfl)
            (with_reducible refine' Ev.glo ?z3582h ?_ ?z3582hx); (case z3582h => with_reducible exact n__law_crossed _ _ _ _); (case z3582hx => kernel_rfl)
            (with_reducible refine' ⟨_, rfl, ?z3583k, ?_⟩); (case z3583k => with_reducible exact k_282 _ _ _ _)
            (with_reducible refine' Evs.cons ?_ ?z3584he); (case z3584he => rfl)
            (with_reducible refine' Ev.call ?_ ?z3585hp); (case z3585hp => intro _; rfl)
            (with_reducible refine' Ev.glo ?z3586h ?_ ?z3586hx); (case z3586h => with_reducible exact n__law_taken _ _ _ _); (case z3586hx => kernel_rfl)
            (with_reducible refine' ⟨_, rfl, ?z3587k, ?_⟩); (case z3587k => with_reducible exact k_277 _ _ _ _)
            (with_reducible refine' Evs.cons ?_ ?z3588he); (case z3588he => rfl)
            (with_reducible refine' Ev.call ?_ ?z3589hp); (case z3589hp => intro _; rfl)
            (with_reducible refine' Ev.glo ?z3590h ?_ ?z3590hx); (case z3590h => with_reducible exact n__law_table _ _ _ _); (case z3590hx => kernel_rfl)
            (with_reducible refine' ⟨_, rfl, ?z3591k, ?_⟩); (case z3591k => with_reducible exact k_272 _ _ _ _)
            (with_reducible refine' Evs.cons ?_ ?z3592he); (case z3592he => rfl)
            (with_reducible refine' Ev.cel ?z3593h ?_); (case z3593h => repeat (first | with_reducible exact List.mem_cons_self | with_reducible refine List.mem_cons_of_mem _ ?_))
            with_reducible refine Evs.nil ?_
            refine Cal.ca (Cal.frame (O := []) (P := [(la, _)]) (c_table w mg mb os t Nt F.tab2.h0 F.tab2.h1 F.tab2.hlen F.tab2.hn F.tab2.hv F.tab2.hD F.tab2.hr) fun d O' hd => ?_) room4
            obtain ⟨lb, rfl, hos⟩ := hd
            have hos := hos.app (P := [(la, Cont.list (itemsD l1))])
            (with_reducible refine' Evs.cons ?_ ?z3595he); (case z3595he => rfl)
            (with_reducible refine' Ev.cel ?z3596h ?_); (case z3596h => repeat (first | with_reducible exact List.mem_cons_self | with_reducible refine List.mem_cons_of_mem _ ?_))
            (with_reducible refine' Evs.cons ?_ ?z3597he); (case z3597he => rfl)
            (with_reducible refine' Ev.cel ?z3598h ?_); (case z3598h => repeat (first | with_reducible exact List.mem_cons_self | with_reducible refine List.mem_cons_of_mem _ ?_))
            (with_reducible refine' Evs.cons ?_ ?z3599he); (case z3599he => rfl)
            (with_reducible refine' Ev.cel ?z3600h ?_); (case z3600h => repeat (first | with_reducible exact List.mem_cons_self | with_reducible refine List.mem_cons_of_mem _ ?_))
            with_reducible refine Evs.nil ?_
            refine Ca.weak hos ?_
            clear hos
            have hzM : (tabL Nt).length ≤ 100000 := by unfold tabL; rw [List.length_map]; have := F.tab2.hlen; omega
            refine Cal.ca (Cal.frame (P := [(la, _)]) (c_taken w mg mb os lb t n bits (tabL Nt) l2 (by omega) hzM F.tk2 F.sn2.hz F.sn2.hs) fun d O' hd => ?_) room4
            obtain ⟨-, rfl⟩ := hd
            rw [F.sn2.he]
            with_reducible refine Evs.nil ?_
            have hcr2 := c_crossed w mg mb os (asD o2) (by unfold asD; rw [List.length_map]; exact F.z2) (apart_asD F.ap2) F.z4
            rw [← pairL_asD] at hcr2
            refine Cal.ca (Cal.pure hcr2 fun d O' h => ⟨h.1, ?_⟩) room1
            rw [h.2, show (((crossL (asD o2)).length : Nat) : Int) = crossN o2 from rfl]
            with_reducible refine putS ?_
            with_reducible refine putS ?_
            with_reducible refine putS ?_
            with_reducible refine putS ?_
            with_reducible refine putS ?_
            with_reducible refine putS ?_
            with_reducible refine putS ?_
            with_reducible refine putS ?_
            with_reducible refine putS ?_
            with_reducible refine putS ?_
            with_reducible refine put0 ?_
            refine Exs.weak .refl (.of (List.sublist_append_right _ _)) ?_
            with_reducible refine Ss.cons ?_
            with_reducible refine S1.ite ?_
            (with_reducible refine' Te.cmp ?_ ?z3616hm); (case z3616hm => rfl)
            with_reducible refine Ev.bin ?_
            with_reducible refine Ev.int ?_
            with_reducible refine Ev.bin ?_
            with_reducible refine Ev.bin ?_
            (with_reducible refine' Ev.cel ?z3621h ?_); (case z3621h => repeat (first | with_reducible exact List.mem_cons_self | with_reducible refine List.mem_cons_of_mem _ ?_))
            (with_reducible refine' Ev.loc ?z3622h ?_); (case z3622h => repeat (first | with_reducible exact List.mem_cons_self | with_reducible refine List.mem_cons_of_mem _ ?_))
            (with_reducible refine' Op2.mulI ?z3623h ?_); (case z3623h => exact mulOkL (by omega))
            with_reducible refine Ev.bin ?_
            (with_reducible refine' Ev.cel ?z3625h ?_); (case z3625h => repeat (first | with_reducible exact List.mem_cons_self | with_reducible refine List.mem_cons_of_mem _ ?_))
            (with_reducible refine' Ev.loc ?z3626h ?_); (case z3626h => repeat (first | with_reducible exact List.mem_cons_self | with_reducible refine List.mem_cons_of_mem _ ?_))
            (with_reducible refine' Op2.mulI ?z3627h ?_); (case z3627h => exact mulOkL (by omega))
            with_reducible refine Op2.addI ?_
            (with_reducible refine' Op2.mulI ?z3629h ?_); (case z3629h => exact mulOkL (by decide))
            with_reducible refine Ev.bin ?_
            with_reducible refine Ev.bin ?_
            with_reducible refine Ev.bin ?_
            (with_reducible refine' Ev.cel ?z3633h ?_); (case z3633h => repeat (first | with_reducible exact List.mem_cons_self | with_reducible refine List.mem_cons_of_mem _ ?_))
            with_reducible refine Ev.int ?_
            with_reducible refine Op2.subI ?_
            with_reducible refine Ev.bin ?_
            (with_reducible refine' Ev.cel ?z3637h ?_); (case z3637h => repeat (first | with_reducible exact List.mem_cons_self | with_reducible refine List.mem_cons_of_mem _ ?_))
            with_reducible refine Ev.int ?_
            with_reducible refine Op2.subI ?_
            (with_reducible refine' Op2.mulI ?z3640h ?_); (case z3640h => exact mulOkL (by omega))
            with_reducible refine Ev.bin ?_
            with_reducible refine Ev.bin ?_
            (with_reducible refine' Ev.cel ?z3643h ?_); (case z3643h => repeat (first | with_reducible exact List.mem_cons_self | with_reducible refine List.mem_cons_of_mem _ ?_))
            (with_reducible refine' Ev.cel ?z3644h ?_); (case z3644h => repeat (first | with_reducible exact List.mem_cons_self | with_reducible refine List.mem_cons_of_mem _ ?_))
            with_reducible refine Op2.addI ?_
            with_reducible refine Ev.int ?_
            with_reducible refine Op2.subI ?_
            (with_reducible refine' Op2.mulI ?z3648h ?_); (case z3648h => exact mulOkR (by omega))
            with_reducible refine Op2.neI ?_
            with_reducible refine Tr.bool ?_
            with_reducible refine ite_f (by with_reducible assumption) ?_
            with_reducible refine Ss.nil ?_
            with_reducible refine Ss.cons ?_
            with_reducible refine S1.ite ?_
            (with_reducible refine' Te.cmp ?_ ?z3655hm); (case z3655hm => rfl)
            with_reducible refine Ev.bin ?_
            with_reducible refine Ev.int ?_
            with_reducible refine Ev.bin ?_
            (with_reducible refine' Ev.meth ?_ ?z3659hm ?z3659hp); (case z3659hm => exact ⟨_, rfl⟩); (case z3659hp => intro _; rfl)
            (with_reducible refine' Ev.loc ?z3660h ?_); (case z3660h => repeat (first | with_reducible exact List.mem_cons_self | with_reducible refine List.mem_cons_of_mem _ ?_))
            (with_reducible refine' meth100 ?z3661hf ?z3661ht ?z3661o ?z3661hs ?_); (case z3661hf => with_reducible exact m_69 _ _ _ _); (case z3661ht => with_reducible exact ty_69 _ _ _ _); (case z3661o => with_reducible exact ObjOf.frz); (case z3661hs => kernel_rfl)
            (with_reducible refine' And.intro ?z3662k ?_); (case z3662k => with_reducible exact k_69 _ _ _ _)
            (with_reducible refine' Evs.cons ?_ ?z3663he); (case z3663he => rfl)
            (with_reducible refine' Ev.cel ?z3664h ?_); (case z3664h => repeat (first | with_reducible exact List.mem_cons_self | with_reducible refine List.mem_cons_of_mem _ ?_))
            with_reducible refine Evs.nil ?_
            with_reducible refine Ca.app1 ?_
            refine Cal.ca (Cal.pure (c_indent w mg mb os _ wn wnt wc wb _ t (by omega) (by omega) F.wz2) fun d O' h => ⟨h.1, ?_⟩) room1
            rw [h.2, hI]
            (with_reducible refine' Ev.loc ?z3667h ?_); (case z3667h => repeat (first | with_reducible exact List.mem_cons_self | with_reducible refine List.mem_cons_of_mem _ ?_))
            with_reducible refine Op2.subI ?_
            (with_reducible refine' Op2.mulI ?z3669h ?_); (case z3669h => exact mulOkL (by decide))
            with_reducible refine Ev.bin ?_
            with_reducible refine Ev.bin ?_
            with_reducible refine Ev.bin ?_
            (with_reducible refine' Ev.cel ?z3673h ?_); (case z3673h => repeat (first | with_reducible exact List.mem_cons_self | with_reducible refine List.mem_cons_of_mem _ ?_))
            with_reducible refine Ev.bin ?_
            (with_reducible refine' Ev.cel ?z3675h ?_); (case z3675h => repeat (first | with_reducible exact List.mem_cons_self | with_reducible refine List.mem_cons_of_mem _ ?_))
            with_reducible refine Ev.int ?_
            with_reducible refine Op2.subI ?_
            (with_reducible refine' Op2.mulI ?z3678h ?_); (case z3678h => exact mulOkL (by omega))
            (with_reducible refine' Ev.cel ?z3679h ?_); (case z3679h => repeat (first | with_reducible exact List.mem_cons_self | with_reducible refine List.mem_cons_of_mem _ ?_))
            (with_reducible refine' Op2.mulI ?z3680h ?_); (case z3680h => exact mulOkR (by omega))
            with_reducible refine Ev.bin ?_
            (with_reducible refine' Ev.cel ?z3682h ?_); (case z3682h => repeat (first | with_reducible exact List.mem_cons_self | with_reducible refine List.mem_cons_of_mem _ ?_))
            with_reducible refine Ev.int ?_
            with_reducible refine Op2.addI ?_
            (with_reducible refine' Op2.mulI ?z3685h ?_); (case z3685h => exact mulOkR (by omega))
            with_reducible refine Op2.neI ?_
            with_reducible refine Tr.bool ?_
            with_reducible refine ite_f (by with_reducible assumption) ?_
            with_reducible refine Ss.nil ?_
            with_reducible refine Ss.cons ?_
            with_reducible refine S1.ite ?_
            (with_reducible refine' Te.cmp ?_ ?z3692hm); (case z3692hm => rfl)
            (with_reducible refine' Ev.meth ?_ ?z3693hm ?z3693hp); (case z3693hm => exact ⟨_, rfl⟩); (case z3693hp => intro _; rfl)
            (with_reducible refine' Ev.loc ?z3694h ?_); (case z3694h => repeat (first | with_reducible exact List.mem_cons_self | with_reducible refine List.mem_cons_of_mem _ ?_))
            (with_reducible refine' meth100 ?z3695hf ?z3695ht ?z3695o ?z3695hs ?_); (case z3695hf => with_reducible exact m_69 _ _ _ _); (case z3695ht => with_reducible exact ty_69 _ _ _ _); (case z3695o => with_reducible exact ObjOf.frz); (case z3695hs => kernel_rfl)
            (with_reducible refine' And.intro ?z3696k ?_); (case z3696k => with_reducible exact k_69 _ _ _ _)
            (with_reducible refine' Evs.cons ?_ ?z3697he); (case z3697he => rfl)
            with_reducible refine Ev.int ?_
            with_reducible refine Evs.nil ?_
            with_reducible refine Ca.app1 ?_
            refine Cal.ca (Cal.pure (c_indent w mg mb os _ wn wnt wc wb _ 1 (by omega) (by omega) F.wz2) fun d O' h => ⟨h.1, ?_⟩) room1
            rw [h.2, hI]
            with_reducible refine Ev.bin ?_
            (with_reducible refine' Ev.call ?_ ?z3702hp); (case z3702hp => intro _; rfl)
            (with_reducible refine' Ev.bui ?z3703h ?_ ?z3703hx); (case z3703h => with_reducible exact b_len _ _ _ _); (case z3703hx => kernel_rfl)
            (with_reducible refine' ⟨_, rfl, ?z3704k, ?_⟩); (case z3704k => with_reducible exact Kp.bui)
            (with_reducible refine' Evs.cons ?_ ?z3705he); (case z3705he => rfl)
            (with_reducible refine' Ev.loc ?z3706h ?_); (case z3706h => repeat (first | with_reducible exact List.mem_cons_self | with_reducible refine List.mem_cons_of_mem _ ?_))
            with_reducible refine Evs.nil ?_
            refine Ca.lenS (by have := F.wz; rw [Array.length_toList] at this; show (leadOf n t bits).cps.size < _; omega) ?_
            with_reducible refine Ev.int ?_
            with_reducible refine Op2.subI ?_
            with_reducible refine Op2.neI ?_
            with_reducible refine Tr.bool ?_
            with_reducible refine ite_f (by with_reducible assumption) ?_
            with_reducible refine Ss.nil ?_
            with_reducible refine Ss.cons ?_
            (with_reducible refine' asLk ?z3715hm ?_ ?z3715hs); (case z3715hm => repeat (first | with_reducible exact Has.here | with_reducible refine Has.there ?_)); (case z3715hs => rfl)
            with_reducible refine Ev.bin ?_
            (with_reducible refine' Ev.call ?_ ?z3717hp); (case z3717hp => intro _; rfl)
            (with_reducible refine' Ev.bui ?z3718h ?_ ?z3718hx); (case z3718h => with_reducible exact b_ord _ _ _ _); (case z3718hx => kernel_rfl)
            (with_reducible refine' ⟨_, rfl, ?z3719k, ?_⟩); (case z3719k => with_reducible exact Kp.bui)
            (with_reducible refine' Evs.cons ?_ ?z3720he); (case z3720he => rfl)
            (with_reducible refine' Ev.meth ?_ ?z3721hm ?z3721hp); (case z3721hm => exact ⟨_, rfl⟩); (case z3721hp => intro _; rfl)
            (with_reducible refine' Ev.loc ?z3722h ?_); (case z3722h => repeat (first | with_reducible exact List.mem_cons_self | with_reducible refine List.mem_cons_of_mem _ ?_))
            (with_reducible refine' meth251 ?z3723hf ?z3723ht ?z3723o ?z3723hs ?_); (case z3723hf => first | with_reducible exact m_150 _ _ _ _ | with_reducible exact m_198 _ _ _ _ | with_reducible exact m_203 _ _ _ _); (case z3723ht => first | with_reducible exact ty_150 _ _ _ _ | with_reducible exact ty_198 _ _ _ _ | with_reducible exact ty_203 _ _ _ _); (case z3723o => with_reducible exact ObjOf.frz); (case z3723hs => kernel_rfl)
            (with_reducible refine' And.intro ?z3724k ?_); (case z3724k => with_reducible exact k_198 _ _ _ _)
            (with_reducible refine' Evs.cons ?_ ?z3725he); (case z3725he => rfl)
            (with_reducible refine' Ev.call ?_ ?z3726hp); (case z3726hp => intro _; rfl)
            (with_reducible refine' Ev.glo ?z3727h ?_ ?z3727hx); (case z3727h => with_reducible exact n__law_name _ _ _ _); (case z3727hx => kernel_rfl)
            (with_reducible refine' ⟨_, rfl, ?z3728k, ?_⟩); (case z3728k => with_reducible exact k_262 _ _ _ _)
            (with_reducible refine' Evs.cons ?_ ?z3729he); (case z3729he => rfl)
            with_reducible refine Ev.int ?_
            (with_reducible refine' Evs.cons ?_ ?z3731he); (case z3731he => rfl)
            (with_reducible refine' Ev.cel ?z3732h ?_); (case z3732h => repeat (first | with_reducible exact List.mem_cons_self | with_reducible refine List.mem_cons_of_mem _ ?_))
            (with_reducible refine' Evs.cons ?_ ?z3733he); (case z3733he => rfl)
            with_reducible refine Ev.bool ?_
            with_reducible refine Evs.nil ?_
            refine Cal.ca (Cal.pure (c_name w mg mb os 1 n _ true y rfl F.hy F.hy1) fun d O' h => ⟨h.1, ?_⟩) room2
            rw [h.2, if_pos rfl]
            with_reducible refine Evs.nil ?_
            with_reducible refine Ca.app1 ?_
            refine Cal.ca (Cal.mono (c_get w mg mb os la l1 (uppered y) F.hy2 F.hl1) fun d O' hd => ?_) room2
            obtain ⟨hos, rfl⟩ := hd
            rw [F.hg]
            with_reducible refine Evs.nil ?_
            with_reducible refine Ca.ord ?_
            with_reducible refine Ev.int ?_
            with_reducible refine Op2.subI ?_
            with_reducible refine putS ?_
            with_reducible refine putS ?_
            with_reducible refine putS ?_
            with_reducible refine putS ?_
            with_reducible refine putS ?_
            with_reducible refine putS ?_
            with_reducible refine putS ?_
            with_reducible refine putS ?_
            with_reducible refine putS ?_
            with_reducible refine putS ?_
            with_reducible refine putS ?_
            with_reducible refine put0 ?_
            refine Exs.weak .refl hos ?_
            rw [F.hh]
            have hh1 := F.hh1
            with_reducible refine Ss.cons ?_
            with_reducible refine S1.ret ?_
            (with_reducible refine' Ev.cmp ?_ ?z3756hm); (case z3756hm => rfl)
            (with_reducible refine' Ev.call ?_ ?z3757hp); (case z3757hp => intro _; rfl)
            (with_reducible refine' Ev.glo ?z3758h ?_ ?z3758hx); (case z3758h => with_reducible exact n__law_taken _ _ _ _); (case z3758hx => kernel_rfl)
            (with_reducible refine' ⟨_, rfl, ?z3759k, ?_⟩); (case z3759k => with_reducible exact k_277 _ _ _ _)
            (with_reducible refine' Evs.cons ?_ ?z3760he); (case z3760he => rfl)
            (with_reducible refine' Ev.loc ?z3761h ?_); (case z3761h => repeat (first | with_reducible exact List.mem_cons_self | with_reducible refine List.mem_cons_of_mem _ ?_))
            (with_reducible refine' Evs.cons ?_ ?z3762he); (case z3762he => rfl)
            (with_reducible refine' Ev.cel ?z3763h ?_); (case z3763h => repeat (first | with_reducible exact List.mem_cons_self | with_reducible refine List.mem_cons_of_mem _ ?_))
            (with_reducible refine' Evs.cons ?_ ?z3764he); (case z3764he => rfl)
            (with_reducible refine' Ev.loc ?z3765h ?_); (case z3765h => repeat (first | with_reducible exact List.mem_cons_self | with_reducible refine List.mem_cons_of_mem _ ?_))
            (with_reducible refine' Evs.cons ?_ ?z3766he); (case z3766he => rfl)
            with_reducible refine Ev.int ?_
            with_reducible refine Evs.nil ?_
            refine Cal.ca (Cal.mono (c_taken w mg mb os la n home 0 l1 l3 hh1 F.sn1.hz F.tk3 F.sn3.hz F.sn3.hs) fun d O' hd => ?_) room4
            obtain ⟨-, rfl⟩ := hd
            rw [F.sn3.he]
            refine' Ev.compM [(".0", none), ("place", none)] [] endD hh ?hp ?c1 ?c2 ?c3 ?c4 ?c5 ?c6 ?c7 ?_
            case hp => rfl
            case c1 => rfl
            case c2 => rfl
            case c3 => decide +kernel
            case c4 => decide +kernel
            case c5 => kernel_rfl
            case c6 => exact .nil
            case c7 => exact fun _ => rfl
            (with_reducible refine' Ev.call ?_ ?z3769hp); (case z3769hp => intro _; rfl)
            (with_reducible refine' Ev.bui ?z3770h ?_ ?z3770hx); (case z3770h => with_reducible exact b_range _ _ _ _); (case z3770hx => kernel_rfl)
            (with_reducible refine' ⟨_, rfl, ?z3771k, ?_⟩); (case z3771k => with_reducible exact Kp.typ)
            (with_reducible refine' Evs.cons ?_ ?z3772he); (case z3772he => rfl)
            (with_reducible refine' Ev.cel ?z3773h ?_); (case z3773h => repeat (first | with_reducible exact List.mem_cons_self | with_reducible refine List.mem_cons_of_mem _ ?_))
            with_reducible refine Evs.nil ?_
            with_reducible refine Ca.range1 ?_
            (with_reducible refine' getI_range ?z3776h ?z3776k (fun _ => ?_)); (case z3776h => decide); (case z3776k => omega)
            refine ⟨_, _, rfl, fun L d hd' => ?_, ?_, ?_⟩
            · obtain ⟨i, hi, rfl⟩ := mem_rangeFrom hd'
              generalize 0 + (i : Int) = p
              intro O
              have e : endD (.int p) = some (.tup [.int p, .bool false]) := rfl
              rw [e]
              (with_reducible refine' locLk ?z3777hm ?_); (case z3777hm => repeat (first | with_reducible exact Has.here | with_reducible refine Has.there ?_))
              with_reducible refine putS ?_
              with_reducible refine put0 ?_
              with_reducible refine Ifs.nil ?_
              with_reducible refine ite_t rfl ?_
              with_reducible refine Ev.tup ?_
              (with_reducible refine' Evs.cons ?_ ?z3783he); (case z3783he => rfl)
              (with_reducible refine' Ev.loc ?z3784h ?_); (case z3784h => repeat (first | with_reducible exact List.mem_cons_self | with_reducible refine List.mem_cons_of_mem _ ?_))
              (with_reducible refine' Evs.cons ?_ ?z3785he); (case z3785he => rfl)
              with_reducible refine Ev.bool ?_
              with_reducible refine Evs.nil ?_
              with_reducible refine And.intro (Nat.le_of_ble_eq_true rfl) ?_
              exact ⟨⟨rfl, rfl⟩, rfl, .keep (.drop .nil)⟩
            · rw [hlenI]; unfold sizeLine; omega
            · have e : (rangeFrom 0 1 (n - 0).toNat).filterMap endD = (endL n).map prD := by
                rw [rangeI_eq, endD_eq, Int.sub_zero]; rfl
              rw [e]
              refine Op2.eqSame rfl hu ?_
              exact ⟨_, .ret, rfl⟩
end
end Lw
end
section
set_option autoImplicit false
set_option linter.unusedVariables false
set_option Elab.async false
set_option maxRecDepth 100000
set_option maxHeartbeats 4000000
namespace Lw
open PySem PySem.Calls PyProof.Rows PySem.W
noncomputable def sp (b : Bool) (y : Str) : Str := if b = true then uppered y else y
noncomputable def namesT : List (List Str) := [[], ["#ff0000"], ["#ff0000", "#00ffff"], ["#ff0000", "#00ff00", "#0000ff"], ["#ff0000", "#80ff00", "#00ffff", "#8000ff"], ["#ff0000", "#ccff00", "#00ff66", "#0066ff", "#cc00ff"], ["#ff0000", "#ffff00", "#00ff00", "#00ffff", "#0000ff", "#ff00ff"], ["#ff0000", "#ffdb00", "#49ff00", "#00ff92", "#0092ff", "#4900ff", "#ff00db"], ["#ff0000", "#ffbf00", "#80ff00", "#00ff40", "#00ffff", "#0040ff", "#8000ff", "#ff00bf"], ["#ff0000", "#ffaa00", "#aaff00", "#00ff00", "#00ffaa", "#00aaff", "#0000ff", "#aa00ff", "#ff00aa"], ["#ff0000", "#ff9900", "#ccff00", "#33ff00", "#00ff66", "#00ffff", "#0066ff", "#3300ff", "#cc00ff", "#ff0099"], ["#ff0000", "#ff8b00", "#e8ff00", "#5dff00", "#00ff2e", "#00ffb9", "#00b9ff", "#002eff", "#5d00ff", "#e800ff", "#ff008b"]]
noncomputable def nmT (size p : Int) : Str := ((namesT.getD size.toNat []).getD p.toNat "")
noncomputable def wholeB (size k : Int) : Bool := nameSpec k size == some (nmT size (k.fmod size))
noncomputable def wholeL : List (List Int) := [[], [0], [0, 1, 3, 5, 7, 9, 11], [0, 1, 2, 4, 5, 7, 8, 10, 11, 14, 16, 20, 22], [0, 1, 2, 3, 5, 6, 7, 9, 10, 11, 14, 15, 18, 21, 22, 27, 33], [0, 1, 2, 3, 4, 6, 7, 8, 9, 12, 14, 16, 18, 21, 24, 27, 28, 32, 36], [0, 1, 2, 3, 4, 5, 10, 15, 20, 25], [0, 1, 2, 3, 4, 5, 6, 8, 9, 10, 12, 15, 16, 18, 20, 24, 25, 30], [0, 1, 2, 3, 4, 5, 6, 7, 9, 10, 12, 15, 18, 20, 21, 25, 30, 35], [0, 1, 2, 3, 4, 5, 6, 7, 8, 10, 12, 14, 15, 16, 20, 24, 25, 28, 30, 32, 35, 40], [0, 1, 2, 3, 4, 5, 6, 7, 8, 9, 12, 15, 18, 21, 24, 27], [0, 1, 2, 3, 4, 5, 6, 7, 8, 9, 10, 12, 14, 15, 16, 18, 20, 21, 24, 27, 28, 30, 32, 36, 40]]
theorem whole_1 : ((wholeL.getD 1 []).all fun k => wholeB 1 k) = true := by decide +kernel
theorem whole_2 : ((wholeL.getD 2 []).all fun k => wholeB 2 k) = true := by decide +kernel
theorem whole_3 : ((wholeL.getD 3 []).all fun k => wholeB 3 k) = true := by decide +kernel
theorem whole_4 : ((wholeL.getD 4 []).all fun k => wholeB 4 k) = true := by decide +kernel
theorem whole_5 : ((wholeL.getD 5 []).all fun k => wholeB 5 k) = true := by decide +kernel
theorem whole_6 : ((wholeL.getD 6 []).all fun k => wholeB 6 k) = true := by decide +kernel
theorem whole_7 : ((wholeL.getD 7 []).all fun k => wholeB 7 k) = true := by decide +kernel
theorem whole_8 : ((wholeL.getD 8 []).all fun k => wholeB 8 k) = true := by decide +kernel
theorem whole_9 : ((wholeL.getD 9 []).all fun k => wholeB 9 k) = true := by decide +kernel
theorem whole_10 : ((wholeL.getD 10 []).all fun k => wholeB 10 k) = true := by decide +kernel
theorem whole_11 : ((wholeL.getD 11 []).all fun k => wholeB 11 k) = true := by decide +kernel
theorem whole {size k : Int} (h0 : 0 < size) (h1 : size ≤ 11) (hk : (wholeL.getD size.toNat []).contains k = true) : nameSpec k size = some (nmT size (k.fmod size)) := by
  have e : wholeB size k = true := by
    have : size = 1 ∨ size = 2 ∨ size = 3 ∨ size = 4 ∨ size = 5 ∨ size = 6 ∨ size = 7 ∨ size = 8 ∨ size = 9 ∨ size = 10 ∨ size = 11 := by omega
    rw [List.contains_iff_mem] at hk
    rcases this with h | h | h | h | h | h | h | h | h | h | h <;> subst h
    · exact List.all_eq_true.mp whole_1 k hk
    · exact List.all_eq_true.mp whole_2 k hk
    · exact List.all_eq_true.mp whole_3 k hk
    · exact List.all_eq_true.mp whole_4 k hk
    · exact List.all_eq_true.mp whole_5 k hk
    · exact List.all_eq_true.mp whole_6 k hk
    · exact List.all_eq_true.mp whole_7 k hk
    · exact List.all_eq_true.mp whole_8 k hk
    · exact List.all_eq_true.mp whole_9 k hk
    · exact List.all_eq_true.mp whole_10 k hk
    · exact List.all_eq_true.mp whole_11 k hk
  exact eq_of_beq e
noncomputable def spB (size p : Int) (b : Bool) : Bool :=
  let z := sp b (nmT size p)
  (placeSpec z size == some p) && decide ((Lw.sliceS z (some 1) none none).length ≤ sizeLine) && decide ((lowered (Lw.sliceS z (some 1) none none)).length ≤ sizeLine) && okName z && noHit codeN z && (lowered z == nmT size p) && (hasF z == b)
noncomputable def nmB (size p : Int) : Bool := (wholeL.getD size.toNat []).contains p && (p.fmod size == p) && decide ((uppered (nmT size p)).length ≤ sizeLine) && decide ((nmT size p).length ≤ sizeLine) && spB size p false && spB size p true && (rangeI 0 size.toNat).all fun q => (p == q) || !(nmT size p == nmT size q)
noncomputable def sizeB (size : Int) : Bool := (rangeI 0 size.toNat).all fun p => nmB size p
theorem sizeB_1 : sizeB 1 = true := by decide +kernel
theorem sizeB_2 : sizeB 2 = true := by decide +kernel
theorem sizeB_3 : sizeB 3 = true := by decide +kernel
theorem sizeB_4 : sizeB 4 = true := by decide +kernel
theorem sizeB_5 : sizeB 5 = true := by decide +kernel
theorem sizeB_6 : sizeB 6 = true := by decide +kernel
theorem sizeB_7 : sizeB 7 = true := by decide +kernel
theorem sizeB_8 : sizeB 8 = true := by decide +kernel
theorem sizeB_9 : sizeB 9 = true := by decide +kernel
theorem sizeB_10 : sizeB 10 = true := by decide +kernel
theorem sizeB_11 : sizeB 11 = true := by decide +kernel
theorem sizeOk {size : Int} (h0 : 0 < size) (h1 : size ≤ 11) : sizeB size = true := by
  have : size = 1 ∨ size = 2 ∨ size = 3 ∨ size = 4 ∨ size = 5 ∨ size = 6 ∨ size = 7 ∨ size = 8 ∨ size = 9 ∨ size = 10 ∨ size = 11 := by omega
  rcases this with h | h | h | h | h | h | h | h | h | h | h <;> subst h
  · exact sizeB_1
  · exact sizeB_2
  · exact sizeB_3
  · exact sizeB_4
  · exact sizeB_5
  · exact sizeB_6
  · exact sizeB_7
  · exact sizeB_8
  · exact sizeB_9
  · exact sizeB_10
  · exact sizeB_11
end Lw
end
section
set_option autoImplicit false
set_option linter.unusedVariables false
set_option Elab.async false
set_option maxRecDepth 100000
set_option maxHeartbeats 1000000
namespace Lw
open PySem PySem.Calls PyProof.Rows PySem.W
noncomputable def wt (tab : Int) : Int → List Int → Int
  | _, [] => 0
  | i, c :: r => i.fdiv tab * c + wt tab (i + 1) r
theorem ilGo_wt (tab : Int) : ∀ (l : List Int) (i acc : Int), ilGo tab i acc l = acc + wt tab i l
  | [], i, acc => by simp [ilGo, wt]
  | c :: r, i, acc => by rw [ilGo, wt, ilGo_wt tab r]; omega
theorem wt_low (tab : Int) (h : 0 < tab) : ∀ (k : Nat) (i : Int) (l : List Int), 0 ≤ i → i + k = tab → wt tab i l = wt tab tab (l.drop k)
  | 0, i, l, h0, e => by rw [show i = tab by omega, List.drop_zero]
  | k + 1, i, [], h0, e => by simp [wt]
  | k + 1, i, c :: r, h0, e => by
    rw [wt, List.drop_succ_cons, wt_low tab h k (i + 1) r (by omega) (by omega)]
    have : i.fdiv tab = 0 := by rw [Int.fdiv_eq_ediv_of_nonneg _ (by omega)]; exact Int.ediv_eq_zero_of_lt h0 (by omega)
    rw [this]; omega
theorem wt_zeros (tab : Int) : ∀ (m : Nat) (i : Int), wt tab i (List.replicate m 0) = 0
  | 0, i => rfl
  | m + 1, i => by rw [List.replicate_succ, wt, wt_zeros tab m]; simp
theorem wt_app (tab : Int) (m : Nat) : ∀ (l : List Int) (i : Int), wt tab i (l ++ List.replicate m 0) = wt tab i l
  | [], i => by rw [List.nil_append, wt_zeros]; rfl
  | c :: r, i => by rw [List.cons_append, wt, wt, wt_app tab m r]
theorem wt_set (tab : Int) : ∀ (l : List Int) (b : Nat) (i : Int), b < l.length → wt tab i (l.set b (l.getD b 0 + 1)) = wt tab i l + (i + b).fdiv tab
  | [], b, i, h => absurd h (Nat.not_lt_zero _)
  | c :: r, 0, i, h => by
    rw [List.set_cons_zero, List.getD_cons_zero, wt, wt, Int.mul_add]
    simp only [Int.mul_one, Int.natCast_zero, Int.add_zero]; omega
  | c :: r, b + 1, i, h => by
    rw [List.set_cons_succ, List.getD_cons_succ, wt, wt, wt_set tab r b (i + 1) (by simpa using h)]
    rw [show i + 1 + (b : Int) = i + ((b + 1 : Nat) : Int) by omega]; omega
theorem grown_len (b : Nat) (c : List Int) : b < (grown b c).length ∧ (grown b c).length ≤ max c.length (b + 1) := by
  unfold grown
  split
  · rw [List.length_append, List.length_replicate]; omega
  · omega
theorem wt_bump (tab : Int) (b : Nat) (c : List Int) : wt tab 0 (bump b (grown b c)) = wt tab 0 c + (b : Int).fdiv tab := by
  unfold bump
  rw [wt_set tab _ b 0 (grown_len b c).1, Int.zero_add]
  congr 1
  unfold grown
  split
  · exact wt_app _ _ _ _
  · rfl
theorem bump_len (b : Nat) (c : List Int) : (bump b (grown b c)).length ≤ max c.length (b + 1) := by
  unfold bump; rw [List.length_set]; exact (grown_len b c).2
noncomputable def runL (b : Nat) : List Nat := List.replicate b 32 ++ [9]
theorem wsGo_blank (rest : List Nat) : ∀ (m : Nat) (n nt b : Int) (cnt : List Int), wsGo (List.replicate m 32 ++ rest) n nt b cnt = wsGo rest (n + m) nt (b + m) cnt
  | 0, n, nt, b, cnt => by simp
  | m + 1, n, nt, b, cnt => by
    rw [List.replicate_succ, List.cons_append, wsGo, if_pos (by decide : ((32 : Nat) == 32) = true), wsGo_blank rest m]
    congr 1 <;> omega
theorem wsGo_run (b : Nat) (rest : List Nat) (n nt : Int) (cnt : List Int) : wsGo (runL b ++ rest) n nt 0 cnt = wsGo rest (n + b + 1) (nt + 1) 0 (bump b (grown b cnt)) := by
  unfold runL
  rw [List.append_assoc, wsGo_blank, List.cons_append, List.nil_append, wsGo, if_neg (by decide), if_pos (by decide : ((9 : Nat) == 9) = true), Int.zero_add, Int.toNat_natCast]
theorem wsGo_runs (rest : List Nat) : ∀ (bs : List Nat) (n nt : Int) (cnt : List Int), (∀ b ∈ bs, b ≤ 1000) → cnt.length ≤ 2000 →
    ∃ n' cnt', wsGo (bs.flatMap runL ++ rest) n nt 0 cnt = wsGo rest n' (nt + bs.length) 0 cnt' ∧ cnt'.length ≤ 2000 ∧ ∀ tab, wt tab 0 cnt' = wt tab 0 cnt + (bs.map fun b => ((b : Nat) : Int).fdiv tab).sum
  | [], n, nt, cnt, h, hc => ⟨n, cnt, by simp, hc, fun tab => by simp⟩
  | b :: bs, n, nt, cnt, h, hc => by
    have hb := h b (.head _)
    have hl := bump_len b cnt
    obtain ⟨n', cnt', e, hl', hw⟩ := wsGo_runs rest bs (n + b + 1) (nt + 1) (bump b (grown b cnt)) (fun x hx => h x (.tail _ hx)) (by omega)
    refine ⟨n', cnt', ?_, hl', fun tab => ?_⟩
    · rw [List.flatMap_cons, List.append_assoc, wsGo_run, e, List.length_cons]
      congr 1; omega
    · rw [hw, wt_bump, List.map_cons, List.sum_cons]; omega
theorem foldl_app (a : Array Nat) : ∀ (m : Nat) (acc : Array Nat), ((List.replicate m a).foldl (· ++ ·) acc).toList = acc.toList ++ (List.replicate m a.toList).flatten
  | 0, acc => by simp
  | m + 1, acc => by rw [List.replicate_succ, List.foldl_cons, foldl_app a m, Array.toList_append, List.replicate_succ, List.flatten_cons, List.append_assoc]
theorem mul_list (x : Str) (n : Int) : (Txt.mul x n).cps.toList = (List.replicate n.toNat x.cps.toList).flatten := by
  unfold Txt.mul
  split
  · rename_i h
    rw [show n.toNat = 0 by omega]; rfl
  · split
    · rename_i h1 h2
      rw [Bool.or_eq_true] at h2
      rcases h2 with h2 | h2
      · rw [eq_of_beq h2]; simp
      · have : x.cps.toList = [] := by
          have := eq_of_beq h2
          have h3 : x.cps.size = 0 := this
          rw [← List.length_eq_zero_iff, Array.length_toList]; exact h3
        rw [this]
        have : ∀ m : Nat, (List.replicate m ([] : List Nat)).flatten = [] := by
          intro m; induction m with
          | zero => rfl
          | succ m ih => rw [List.replicate_succ, List.flatten_cons, ih]; rfl
        rw [this]
    · exact (foldl_app _ _ _).trans (by simp)
theorem app_list (x y : Str) : (x ++ y).cps.toList = x.cps.toList ++ y.cps.toList := Array.toList_append
theorem runS_list (t k : Int) : (runS t k).cps.toList = (List.replicate k.toNat (t * k).toNat).flatMap runL := by
  unfold runS
  rw [mul_list, app_list, mul_list]
  have e : (List.replicate (t * k).toNat (" " : Str).cps.toList).flatten ++ ("\t" : Str).cps.toList = runL (t * k).toNat := by
    unfold runL
    have e1 : (" " : Str).cps.toList = [32] := by decide
    have e2 : ("\t" : Str).cps.toList = [9] := by decide
    rw [e1, e2]
    congr 1
    generalize (t * k).toNat = m
    induction m with
    | zero => rfl
    | succ m ih => rw [List.replicate_succ, List.flatten_cons, ih]; rfl
  rw [e]
  generalize k.toNat = m
  induction m with
  | zero => rfl
  | succ m ih => rw [List.replicate_succ, List.flatten_cons, ih, List.replicate_succ, List.flatMap_cons]
noncomputable def seqGo (t bits : Int) : Nat → Int → List Nat → List Nat
  | 0, _, l => l
  | m + 1, k, l => seqGo t bits m (k + 1) (if bitK bits k = true then l ++ List.replicate k.toNat (t * k).toNat else List.replicate k.toNat (t * k).toNat ++ l)
theorem lead_list (t bits : Int) : ∀ (m : Nat) (k : Int) (l : Str) (bs : List Nat), l.cps.toList = bs.flatMap runL → (leadGo t bits m k l).cps.toList = (seqGo t bits m k bs).flatMap runL
  | 0, k, l, bs, h => h
  | m + 1, k, l, bs, h => by
    rw [leadGo, seqGo]
    refine lead_list t bits m (k + 1) _ _ ?_
    split
    · rw [app_list, runS_list, h, List.flatMap_append]
    · rw [app_list, runS_list, h, List.flatMap_append]
noncomputable def totG (t : Int) (f : Nat → Int) : Nat → Int → Int
  | 0, _ => 0
  | m + 1, k => (k.toNat : Int) * f (t * k).toNat + totG t f m (k + 1)
theorem sum_rep (f : Nat → Int) (b : Nat) : ∀ m : Nat, ((List.replicate m b).map f).sum = (m : Int) * f b
  | 0 => by simp
  | m + 1 => by rw [List.replicate_succ, List.map_cons, List.sum_cons, sum_rep f b m, Int.natCast_add, Int.add_mul]; simp; omega
theorem sum_seq (t bits : Int) (f : Nat → Int) : ∀ (m : Nat) (k : Int) (l : List Nat), ((seqGo t bits m k l).map f).sum = (l.map f).sum + totG t f m k
  | 0, k, l => by simp [seqGo, totG]
  | m + 1, k, l => by
    rw [seqGo, totG, sum_seq t bits f m (k + 1)]
    split
    · rw [List.map_append, List.sum_append, sum_rep]; omega
    · rw [List.map_append, List.sum_append, sum_rep]; omega
theorem all_seq (t bits : Int) (ht0 : 0 ≤ t) (ht : t ≤ 20) : ∀ (m : Nat) (k : Int) (l : List Nat), 0 ≤ k → k + m ≤ 20 → (∀ b ∈ l, b ≤ 1000) → ∀ b ∈ seqGo t bits m k l, b ≤ 1000
  | 0, k, l, h0, hk, h => h
  | m + 1, k, l, h0, hk, h => by
    rw [seqGo]
    refine all_seq t bits ht0 ht m (k + 1) _ (by omega) (by omega) ?_
    have hb : (t * k).toNat ≤ 1000 := by
      have : t * k ≤ 20 * 20 := Int.mul_le_mul ht (by omega) h0 (by decide)
      omega
    intro b hb'
    have : b ∈ l ∨ b ∈ List.replicate k.toNat (t * k).toNat := by
      split at hb'
      · exact List.mem_append.mp hb'
      · exact (List.mem_append.mp hb').symm
    rcases this with q | q
    · exact h b q
    · rw [(List.mem_replicate.mp q).2]; exact hb
theorem sum_add (f g : Nat → Int) : ∀ l : List Nat, (l.map fun b => f b + g b).sum = (l.map f).sum + (l.map g).sum
  | [] => rfl
  | a :: l => by rw [List.map_cons, List.sum_cons, sum_add f g l, List.map_cons, List.map_cons, List.sum_cons, List.sum_cons]; omega
theorem sum_one : ∀ l : List Nat, (l.map fun _ => (1 : Int)).sum = l.length
  | [] => rfl
  | a :: l => by rw [List.map_cons, List.sum_cons, sum_one l, List.length_cons]; omega
theorem len_runs : ∀ l : List Nat, ((l.flatMap runL).length : Int) = (l.map fun b : Nat => ((b : Nat) : Int) + 1).sum
  | [] => rfl
  | a :: l => by
    rw [List.flatMap_cons, List.length_append, List.map_cons, List.sum_cons, ← len_runs l]
    unfold runL; simp
noncomputable def WW (n t tab : Int) : Int := totG t (fun b => (b : Int).fdiv tab + 1) (n - 1).toNat 1
noncomputable def WL (n t : Int) : Int := totG t (fun b => (b : Int) + 1) (n - 1).toNat 1
theorem ws_lead (n t bits : Int) (hn0 : 2 ≤ n) (hn1 : n ≤ 7) (ht0 : 1 ≤ t) (ht1 : t ≤ 11) : ∃ wn wnt wc, wsGo (leadOf n t bits).cps.toList 0 0 0 [] = (wn, wnt, bits.fmod 4, wc) ∧ wc.length < 100000 ∧
    (∀ tab, 0 < tab → ivl (bits.fmod 4) wnt wc tab = bits.fmod 4 + tab * WW n t tab) ∧ ((leadOf n t bits).length : Int) = WL n t + bits.fmod 4 + 2 ∧ ((leadOf n t bits).cps.toList.length : Int) = WL n t + bits.fmod 4 + 2 := by
  have hm0 : 0 ≤ bits.fmod 4 := by rw [Int.fmod_eq_emod_of_nonneg _ (by decide)]; omega
  have hL : (leadOf n t bits).cps.toList = (seqGo t bits (n - 1).toNat 1 []).flatMap runL ++ (List.replicate (bits.fmod 4).toNat 32 ++ [120, 9]) := by
    unfold leadOf
    have es : (" " : Str) = ⟨#[32]⟩ := by decide +kernel
    rw [app_list, app_list, lead_list t bits _ 1 "" [] rfl, es, mul_one_list 32, List.append_assoc]
    rfl
  have hall := all_seq t bits (by omega) (by omega) (n - 1).toNat 1 [] (by omega) (by omega) (fun b h => nomatch h)
  obtain ⟨n', cnt', e, hl, hw⟩ := wsGo_runs (List.replicate (bits.fmod 4).toNat 32 ++ [120, 9]) (seqGo t bits (n - 1).toNat 1 []) 0 0 [] hall (by decide)
  have hlen : ((leadOf n t bits).cps.toList.length : Int) = WL n t + bits.fmod 4 + 2 := by
    rw [hL, List.length_append, Int.natCast_add, len_runs, sum_seq]
    rw [List.length_append, List.length_replicate]
    show _ + _ + _ = _
    unfold WL
    simp only [List.map_nil, List.sum_nil, List.length_cons, List.length_nil]
    omega
  refine ⟨n' + (bits.fmod 4).toNat, 0 + (seqGo t bits (n - 1).toNat 1 []).length, cnt', ?_, by omega, fun tab htab => ?_, ?_, hlen⟩
  · rw [hL, e, wsGo_blank, wsGo, if_neg (by decide), if_neg (by decide), Int.toNat_of_nonneg hm0, Int.zero_add, Int.zero_add]
  · unfold ivl
    rw [ilGo_wt, ← wt_low tab htab tab.toNat 0 cnt' (by omega) (by omega), hw]
    congr 2
    unfold WW
    have h1 := sum_seq t bits (fun b => (b : Int).fdiv tab + 1) (n - 1).toNat 1 []
    have h2 := sum_add (fun b => (b : Int).fdiv tab) (fun _ => 1) (seqGo t bits (n - 1).toNat 1 [])
    rw [sum_one] at h2
    simp only [List.map_nil, List.sum_nil, wt] at h1 ⊢
    omega
  · rw [← hlen, Array.length_toList]; rfl
end Lw
end
section
set_option autoImplicit false
set_option linter.unusedVariables false
set_option Elab.async false
set_option maxRecDepth 100000
set_option maxHeartbeats 1000000
namespace Lw
open PySem PySem.Calls PyProof.Rows PySem.W
theorem mem_rangeI {x : Int} : ∀ {m : Nat} {a : Int}, x ∈ rangeI a m ↔ a ≤ x ∧ x < a + m
  | 0, a => by simp only [rangeI, List.not_mem_nil, false_iff]; omega
  | m + 1, a => by
    rw [rangeI, List.mem_cons, mem_rangeI (m := m)]; omega
theorem len_rangeI : ∀ (m : Nat) (a : Int), (rangeI a m).length = m
  | 0, _ => rfl
  | m + 1, a => by rw [rangeI, List.length_cons, len_rangeI m]
theorem get_rangeI : ∀ (m : Nat) (a : Int) (i : Nat), i < m → (rangeI a m)[i]? = some (a + i)
  | 0, _, i, h => absurd h (Nat.not_lt_zero _)
  | m + 1, a, 0, h => by rw [rangeI, List.getElem?_cons_zero]; simp
  | m + 1, a, i + 1, h => by rw [rangeI, List.getElem?_cons_succ, get_rangeI m (a + 1) i (by omega)]; congr 1; omega
structure Wheel (size : Int) : Prop where
  z0 : 0 < size
  z1 : size ≤ 11
  nm : ∀ p, 0 ≤ p → p < size → nameSpec p size = some (nmT size p)
  up : ∀ p, 0 ≤ p → p < size → (uppered (nmT size p)).length ≤ sizeLine
  lo : ∀ p, 0 ≤ p → p < size → (nmT size p).length ≤ sizeLine
  pl : ∀ p b, 0 ≤ p → p < size → placeSpec (sp b (nmT size p)) size = some p
  x1 : ∀ p b, 0 ≤ p → p < size → (Lw.sliceS (sp b (nmT size p)) (some 1) none none).length ≤ sizeLine
  x2 : ∀ p b, 0 ≤ p → p < size → (lowered (Lw.sliceS (sp b (nmT size p)) (some 1) none none)).length ≤ sizeLine
  ok : ∀ p b, 0 ≤ p → p < size → okName (sp b (nmT size p)) = true
  nh : ∀ p b, 0 ≤ p → p < size → noHit codeN (sp b (nmT size p)) = true
  lw : ∀ p b, 0 ≤ p → p < size → lowered (sp b (nmT size p)) = nmT size p
  hF : ∀ p b, 0 ≤ p → p < size → hasF (sp b (nmT size p)) = b
  ne : ∀ p q, 0 ≤ p → p < size → 0 ≤ q → q < size → p ≠ q → (nmT size p == nmT size q) = false
theorem wheel {size : Int} (h0 : 0 < size) (h1 : size ≤ 11) : Wheel size := by
  have hS := List.all_eq_true.mp (sizeOk h0 h1)
  have hp : ∀ p, 0 ≤ p → p < size → nmB size p = true := fun p a b => hS p (mem_rangeI.mpr ⟨a, by omega⟩)
  have hb : ∀ p b, 0 ≤ p → p < size → spB size p b = true := fun p b x y => by
    have := hp p x y
    unfold nmB at this
    simp only [Bool.and_eq_true] at this
    cases b
    · exact this.1.1.2
    · exact this.1.2
  refine ⟨h0, h1, fun p x y => ?_, fun p x y => ?_, fun p x y => ?_, fun p b x y => ?_, fun p b x y => ?_, fun p b x y => ?_, fun p b x y => ?_, fun p b x y => ?_, fun p b x y => ?_, fun p b x y => ?_, fun p q x y x' y' hne => ?_⟩
  · have := hp p x y
    unfold nmB at this
    simp only [Bool.and_eq_true] at this
    have e := whole h0 h1 this.1.1.1.1.1.1
    rw [eq_of_beq this.1.1.1.1.1.2] at e
    exact e
  · have := hp p x y
    unfold nmB at this
    simp only [Bool.and_eq_true] at this
    exact of_decide_eq_true this.1.1.1.1.2
  · have := hp p x y
    unfold nmB at this
    simp only [Bool.and_eq_true] at this
    exact of_decide_eq_true this.1.1.1.2
  · have := hb p b x y
    unfold spB at this
    simp only [Bool.and_eq_true] at this
    exact eq_of_beq this.1.1.1.1.1.1
  · have := hb p b x y
    unfold spB at this
    simp only [Bool.and_eq_true] at this
    exact of_decide_eq_true this.1.1.1.1.1.2
  · have := hb p b x y
    unfold spB at this
    simp only [Bool.and_eq_true] at this
    exact of_decide_eq_true this.1.1.1.1.2
  · have := hb p b x y
    unfold spB at this
    simp only [Bool.and_eq_true] at this
    exact this.1.1.1.2
  · have := hb p b x y
    unfold spB at this
    simp only [Bool.and_eq_true] at this
    exact this.1.1.2
  · have := hb p b x y
    unfold spB at this
    simp only [Bool.and_eq_true] at this
    exact eq_of_beq this.1.2
  · have := hb p b x y
    unfold spB at this
    simp only [Bool.and_eq_true] at this
    exact eq_of_beq this.2
  · have := hp p x y
    unfold nmB at this
    simp only [Bool.and_eq_true] at this
    have := List.all_eq_true.mp this.2 q (mem_rangeI.mpr ⟨x', by omega⟩)
    rw [Bool.or_eq_true] at this
    rcases this with h | h
    · exact absurd (eq_of_beq h) hne
    · simpa using h
noncomputable def TimesOk (size times : Int) : Prop := ∀ p, 0 ≤ p → p < size → nameSpec (times * p) size = some (nmT size ((times * p).fmod size))
noncomputable def timesB (size times : Int) : Bool := (rangeI 0 size.toNat).all fun p => (wholeL.getD size.toNat []).contains (times * p)
theorem timesOk {size times : Int} (h0 : 0 < size) (h1 : size ≤ 11) (h : timesB size times = true) : TimesOk size times := fun p a b =>
  whole h0 h1 (List.all_eq_true.mp h p (mem_rangeI.mpr ⟨a, by omega⟩))
noncomputable abbrev Ent := Int × Bool × Str
noncomputable def keyT (size : Int) (x : Int × Bool) : Str := sp x.2 (nmT size x.1)
noncomputable def entT (size : Int) (x : Ent) : Str × Str := (sp x.2.1 (nmT size x.1), x.2.2)
noncomputable def InR (size : Int) (R : List Ent) : Prop := ∀ r ∈ R, 0 ≤ r.1 ∧ r.1 < size
theorem setOf_ent {size : Int} (W : Wheel size) {p : Int} (b : Bool) (v : Str) (p0 : 0 ≤ p) (p1 : p < size) {R : List Ent} (hR : InR size R) :
    setOf (sp b (nmT size p)) v (R.map (entT size)) = (R.filter (fun r => r.1 != p) ++ [(p, b, v)]).map (entT size) := by
  unfold setOf delKeep
  rw [List.map_append]
  congr 1
  rw [List.filter_map]
  congr 1
  refine List.filter_congr fun r hr => ?_
  obtain ⟨r0, r1⟩ := hR r hr
  show (lowered (sp r.2.1 (nmT size r.1)) != lowered (sp b (nmT size p))) = (r.1 != p)
  rw [W.lw _ _ r0 r1, W.lw _ _ p0 p1]
  by_cases e : r.1 = p
  · rw [e, bne_self_eq_false, bne_self_eq_false]
  · have h1 := W.ne _ _ r0 r1 p0 p1 e
    unfold bne
    rw [h1]
    have : (r.1 == p) = false := by simpa using e
    rw [this]
theorem chrK_ok : ((rangeI 0 12).all fun k => noHit codeV (chrK k.toNat)) = true := by decide +kernel
noncomputable def enumT (size times bits : Int) : Nat → List Int → List Ent
  | _, [] => []
  | k, p :: r => ((times * p).fmod size, bitI bits k, chrK k) :: enumT size times bits (k + 1) r
theorem fmod_in {size x : Int} (h : 0 < size) : 0 ≤ x.fmod size ∧ x.fmod size < size := by
  rw [Int.fmod_eq_emod_of_nonneg _ (by omega)]
  exact ⟨Int.emod_nonneg _ (by omega), Int.emod_lt_of_pos _ h⟩
theorem enum_in {size times bits : Int} (h : 0 < size) : ∀ (ps : List Int) (k : Nat), InR size (enumT size times bits k ps)
  | [], k => fun _ h => nomatch h
  | p :: r, k => fun x hx => by
    rcases List.mem_cons.mp hx with rfl | hx
    · exact fmod_in h
    · exact enum_in h r (k + 1) x hx
theorem enum_len {size times bits : Int} : ∀ (ps : List Int) (k : Nat), (enumT size times bits k ps).length = ps.length
  | [], _ => rfl
  | p :: r, k => by rw [enumT, List.length_cons, enum_len r, List.length_cons]
/-- the table taken along its keys -/
theorem taken_of {size times bits : Int} (W : Wheel size) (hT : TimesOk size times) : ∀ (ks : List (Int × Bool)) (k : Nat) (R B : List Ent), (∀ x ∈ ks, 0 ≤ x.1 ∧ x.1 < size) → InR size R → InR size B → R.length + B.length + ks.length ≤ 1000 → k + ks.length ≤ 12 →
    ((ks.map fun x => (times * x.1).fmod size).Nodup) → (∀ r ∈ B, r.1 ∉ ks.map fun x => (times * x.1).fmod size) →
    Taken size times bits k (ks.map (keyT size)) ((R ++ B).map (entT size)) ((R.filter (fun r => !(ks.map fun x => (times * x.1).fmod size).contains r.1) ++ (B ++ enumT size times bits k (ks.map (·.1)))).map (entT size))
  | [], k, R, B, hk, hR, hB, hl, hk2, hn, hd => by
    have : R.filter (fun r => !(List.map (fun x : Int × Bool => (times * x.1).fmod size) []).contains r.1) = R := List.filter_eq_self.mpr fun r _ => rfl
    rw [this]
    show Taken size times bits k [] _ _
    rw [show B ++ enumT size times bits k (List.map (·.1) ([] : List (Int × Bool))) = B from List.append_nil _]
    exact .nil
  | x :: ks, k, R, B, hk, hR, hB, hl, hk2, hn, hd => by
    obtain ⟨p0, p1⟩ := hk x (.head _)
    obtain ⟨q0, q1⟩ := fmod_in (x := times * x.1) W.z0
    rw [List.length_cons] at hl hk2
    rw [List.map_cons] at hn hd
    obtain ⟨hn1, hn2⟩ := List.nodup_cons.mp hn
    have hin : InR size (R ++ B) := fun r hr => (List.mem_append.mp hr).elim (hR r) (hB r)
    rw [List.map_cons]
    refine .cons (p := x.1) (y := nmT size ((times * x.1).fmod size)) ⟨W.pl _ _ p0 p1, W.x1 _ _ p0 p1, W.x2 _ _ p0 p1, hT _ p0 p1, W.up _ q0 q1, W.ok _ _ q0 q1, W.nh _ _ q0 q1, ?_, ?_, ?_, by omega⟩ ?_
    · have := List.all_eq_true.mp chrK_ok (k : Int) (mem_rangeI.mpr ⟨by omega, by omega⟩)
      simpa using this
    · rw [List.length_map, List.length_append]; omega
    · intro q hq
      obtain ⟨r, hr, rfl⟩ := List.mem_map.mp hq
      obtain ⟨r0, r1⟩ := hin r hr
      show (lowered (sp r.2.1 (nmT size r.1))).length ≤ _
      rw [W.lw _ _ r0 r1]
      exact W.lo _ r0 r1
    · have hs := setOf_ent W (bitI bits k) (chrK k) q0 q1 hin
      have hB' : B.filter (fun r => r.1 != (times * x.1).fmod size) = B := List.filter_eq_self.mpr fun r hr => by
        have := hd r hr
        rw [List.mem_cons, not_or] at this
        simpa using this.1
      rw [List.filter_append, hB', List.append_assoc] at hs
      show Taken size times bits (k + 1) (ks.map (keyT size)) (setOf (sp (bitI bits k) (nmT size ((times * x.1).fmod size))) (chrK k) ((R ++ B).map (entT size))) _
      rw [hs]
      have ih := taken_of (bits := bits) W hT ks (k + 1) (R.filter (fun r => r.1 != (times * x.1).fmod size)) (B ++ [((times * x.1).fmod size, bitI bits k, chrK k)]) (fun y hy => hk y (.tail _ hy)) (fun r hr => hR r ((List.mem_filter.mp hr).1))
        (fun r hr => by
          rcases List.mem_append.mp hr with h | h
          · exact hB r h
          · obtain rfl := List.mem_singleton.mp h; exact ⟨q0, q1⟩)
        (by have := List.length_filter_le (fun r : Ent => r.1 != (times * x.1).fmod size) R; rw [List.length_append]; simp only [List.length_cons, List.length_nil]; omega) (by omega) hn2
        (fun r hr => by
          rcases List.mem_append.mp hr with h | h
          · have := hd r h
            rw [List.mem_cons, not_or] at this
            exact this.2
          · obtain rfl := List.mem_singleton.mp h; exact hn1)
      have e1 : (R.filter (fun r => r.1 != (times * x.1).fmod size)).filter (fun r => !(ks.map fun x => (times * x.1).fmod size).contains r.1) = R.filter (fun r => !((x :: ks).map fun x => (times * x.1).fmod size).contains r.1) := by
        rw [List.filter_filter]
        refine List.filter_congr fun r _ => ?_
        rw [List.map_cons, List.contains_cons, Bool.not_or, Bool.and_comm]
        rfl
      rw [e1] at ih
      have e2 : (B ++ [((times * x.1).fmod size, bitI bits k, chrK k)]) ++ enumT size times bits (k + 1) (ks.map (·.1)) = B ++ enumT size times bits k ((x :: ks).map (·.1)) := by
        rw [List.append_assoc]; rfl
      rw [e2] at ih
      exact ih
/-- what is seen along the keys -/
theorem seen_of {size : Int} (W : Wheel size) {R : List Ent} (hR : InR size R) (hl : R.length ≤ 1000) : SeenOk size (R.map (entT size)) (R.map fun r => (r.1, r.2.1)) := by
  refine ⟨fun q hq => ?_, ?_, by rw [List.length_map]; omega⟩
  · obtain ⟨r, hr, rfl⟩ := List.mem_map.mp hq
    obtain ⟨r0, r1⟩ := hR r hr
    exact ⟨r.1, W.pl _ _ r0 r1, W.x1 _ _ r0 r1, W.x2 _ _ r0 r1⟩
  · clear hl
    induction R with
    | nil => rfl
    | cons r R ih =>
      obtain ⟨r0, r1⟩ := hR r (.head _)
      rw [List.map_cons, List.map_cons, List.filterMap_cons]
      have e : seenD size (.str (entT size r).1) = some (prD (r.1, r.2.1)) := by
        show (placeSpec (sp r.2.1 (nmT size r.1)) size).map (fun q => D.tup [.int q, .bool (hasF (sp r.2.1 (nmT size r.1)))]) = _
        rw [W.pl _ _ r0 r1, W.hF _ _ r0 r1]; rfl
      rw [e, List.map_cons, List.map_cons]
      show prD (r.1, r.2.1) :: _ = _
      rw [ih fun x hx => hR x (.tail _ hx)]
end Lw
end
section
set_option autoImplicit false
set_option linter.unusedVariables false
set_option Elab.async false
set_option maxRecDepth 100000
set_option maxHeartbeats 1000000
namespace Lw
open PySem PySem.Calls PyProof.Rows PySem.W
noncomputable def R0 (size : Int) : List Ent := (rangeI 0 size.toNat).map fun p => (p, false, "-")
noncomputable def namesOf (size : Int) : List Str := (rangeI 0 size.toNat).map (nmT size)
theorem rows_of {size : Int} (W : Wheel size) : ∀ l : List Int, (∀ p ∈ l, 0 ≤ p ∧ p < size) → (l.map D.int).filterMap (rowD size) = itemsD (tabL (l.map (nmT size)))
  | [], h => rfl
  | p :: l, h => by
    obtain ⟨p0, p1⟩ := h p (.head _)
    rw [List.map_cons, List.filterMap_cons]
    have e : rowD size (.int p) = some (.tup [.str (nmT size p), .str "-"]) := by
      show (nameSpec p size).map (fun x => D.tup [.str x, .str "-"]) = _
      rw [W.nm p p0 p1]; rfl
    rw [e, rows_of W l fun q hq => h q (.tail _ hq)]
    rfl
theorem tabOk {size : Int} (W : Wheel size) : TabOk size (namesOf size) := by
  have z0 := W.z0
  have z1 := W.z1
  refine ⟨W.z0, by omega, ?_, fun i x hx => ?_, by decide +kernel, ?_, fun d hd => ?_⟩
  · unfold namesOf; rw [List.length_map, len_rangeI]; omega
  · unfold namesOf at hx
    rw [List.getElem?_map, Option.map_eq_some_iff] at hx
    obtain ⟨p, hp, rfl⟩ := hx
    have hi : i < size.toNat := by
      obtain ⟨h, -⟩ := List.getElem?_eq_some_iff.mp hp
      rw [len_rangeI] at h; exact h
    rw [get_rangeI _ _ _ hi, Int.zero_add] at hp
    cases hp
    exact ⟨W.nm _ (by omega) (by omega), W.up _ (by omega) (by omega), W.nh i false (by omega) (by omega)⟩
  · rw [rangeI_eq]
    exact rows_of W _ fun p hp => by have := mem_rangeI.mp hp; omega
  · obtain ⟨i, hi, rfl⟩ := mem_rangeFrom hd
    refine ⟨i, nmT size i, by rw [Int.zero_add], ?_⟩
    unfold namesOf
    rw [List.getElem?_map, get_rangeI _ _ _ hi, Int.zero_add]; rfl
noncomputable def stepL (size times : Int) : List Int := (rangeI 0 size.toNat).map fun x => (times * x).fmod size
noncomputable def takB (size times : Int) : Bool := decide (stepL size times).Nodup && (rangeI 0 size.toNat).all fun p => (stepL size times).contains p
theorem taken0 {size times bits : Int} (W : Wheel size) (hT : TimesOk size times) (h : takB size times = true) :
    Taken size times bits 0 ((tabL (namesOf size)).map (·.1)) (tabL (namesOf size)) ((enumT size times bits 0 (rangeI 0 size.toNat)).map (entT size)) := by
  have z0 := W.z0
  have z1 := W.z1
  unfold takB at h
  rw [Bool.and_eq_true] at h
  have hn := of_decide_eq_true h.1
  have hc := List.all_eq_true.mp h.2
  have hr : ∀ p ∈ rangeI 0 size.toNat, 0 ≤ p ∧ p < size := fun p hp => by have := mem_rangeI.mp hp; omega
  have e1 : (((rangeI 0 size.toNat).map fun p => (p, false)).map fun x : Int × Bool => (times * x.1).fmod size) = stepL size times := by rw [List.map_map]; rfl
  have := taken_of (bits := bits) W hT ((rangeI 0 size.toNat).map fun p => (p, false)) 0 (R0 size) [] (fun x hx => by obtain ⟨p, hp, rfl⟩ := List.mem_map.mp hx; exact hr p hp)
    (fun x hx => by obtain ⟨p, hp, rfl⟩ := List.mem_map.mp hx; exact hr p hp) (fun _ h => nomatch h) (by unfold R0; rw [List.length_map, List.length_map, len_rangeI]; simp only [List.length_nil]; omega) (by rw [List.length_map, len_rangeI]; omega)
    (by rw [e1]; exact hn) (fun _ h => nomatch h)
  rw [e1, List.append_nil, List.nil_append] at this
  have e2 : (R0 size).filter (fun r => !(stepL size times).contains r.1) = [] := by
    rw [List.filter_eq_nil_iff]
    intro r hr'
    obtain ⟨p, hp, rfl⟩ := List.mem_map.mp hr'
    have := hc p hp
    show ¬ (!(stepL size times).contains p) = true
    rw [this]; decide
  rw [e2, List.nil_append] at this
  have e3 : (R0 size).map (entT size) = tabL (namesOf size) := by unfold R0 tabL namesOf; rw [List.map_map, List.map_map]; rfl
  have e4 : ((rangeI 0 size.toNat).map fun p => (p, false)).map (keyT size) = (tabL (namesOf size)).map (·.1) := by unfold tabL namesOf; rw [List.map_map, List.map_map, List.map_map]; rfl
  have e5 : ((rangeI 0 size.toNat).map fun p => (p, false)).map (·.1) = rangeI 0 size.toNat := by rw [List.map_map]; exact List.map_id'' (fun _ => rfl) _
  rw [e3, e4, e5] at this
  exact this
theorem bit_eq {bits : Int} (h : 0 ≤ bits) (k : Nat) : bitI bits k = (Builtin.bitAnd (bits.fdiv (2 ^ ((k : Int)).toNat)) 1 == 1) := by
  unfold bitI
  have hx : 0 ≤ bits.fdiv (2 ^ ((k : Int)).toNat) := Int.fdiv_nonneg h (by have : (0 : Int) < 2 ^ ((k : Int)).toNat := Int.pow_pos (by decide); omega)
  generalize bits.fdiv (2 ^ ((k : Int)).toNat) = x at hx
  have : Builtin.bitAnd x 1 = ((x.toNat &&& 1 : Nat) : Int) := by
    unfold Builtin.bitAnd
    rw [decide_eq_true hx]; rfl
  rw [this, Nat.and_one_is_mod]
  rcases Nat.mod_two_eq_zero_or_one x.toNat with e | e <;> rw [e] <;> rfl
theorem enum_order {size times bits : Int} (h : 0 ≤ bits) : ∀ (m k : Nat), (enumT size times bits k (rangeI k m)).map (fun r => (r.1, r.2.1)) = (rangeI k m).map fun j => ((times * j).fmod size, Builtin.bitAnd (bits.fdiv (2 ^ j.toNat)) 1 == 1)
  | 0, k => rfl
  | m + 1, k => by
    rw [rangeI, enumT, List.map_cons, List.map_cons]
    have := enum_order (size := size) (times := times) h m (k + 1)
    rw [show (((k + 1 : Nat)) : Int) = (k : Int) + 1 by omega] at this
    rw [this, ← bit_eq h]
theorem enum_order0 {size times bits : Int} (h : 0 ≤ bits) : (enumT size times bits 0 (rangeI 0 size.toNat)).map (fun r => (r.1, r.2.1)) = orderL size times bits := enum_order h size.toNat 0
theorem enum_places {size times : Int} : ∀ (ps : List Int) (k : Nat), (enumT size times 0 k ps).map (fun r => (r.1, r.2.1)) = ps.map fun p => ((times * p).fmod size, false)
  | [], k => rfl
  | p :: r, k => by
    rw [enumT, List.map_cons, List.map_cons, enum_places r]
    have : bitI 0 k = false := by
      unfold bitI
      rw [show (0 : Int).fdiv (2 ^ ((k : Int)).toNat) = 0 from Int.zero_fdiv _]; rfl
    rw [this]
theorem order_fst (n t bits : Int) : (orderL n t bits).map (·.1) = stepL n t := by unfold orderL stepL; rw [List.map_map]; rfl
theorem apart_of {o : List (Int × Bool)} (h : (o.map (·.1)).Nodup) : apart o := fun i j a b hij ha hb => by
  obtain ⟨hi, ea⟩ := List.getElem?_eq_some_iff.mp ha
  obtain ⟨hj, eb⟩ := List.getElem?_eq_some_iff.mp hb
  have := (List.pairwise_iff_getElem.mp h) i j (by rw [List.length_map]; exact hi) (by rw [List.length_map]; exact hj) hij
  rw [List.getElem_map, List.getElem_map, ea, eb] at this
  simpa using this
theorem crossL_fst (ps : List (Int × D)) : crossL ps = crossL ((ps.map (·.1)).map fun a => (a, D.none)) := by
  have e : crossF ps = crossF ((ps.map (·.1)).map fun a => (a, D.none)) := by
    funext x y
    cases x <;> cases y <;> try rfl
    rename_i k j
    unfold crossF
    dsimp only
    rw [List.map_map, List.getElem?_map, List.getElem?_map]
    cases ps[j.toNat]? <;> cases ps[k.toNat]? <;> rfl
  unfold crossL
  rw [e, List.length_map, List.length_map]
noncomputable def cN (n t : Int) : Int := (crossL ((stepL n t).map fun a => (a, D.none))).length
theorem cross_eq (n t bits : Int) : ((crossL (asD (orderL n t bits))).length : Int) = cN n t := by
  have e : (asD (orderL n t bits)).map (·.1) = stepL n t := by rw [← order_fst n t bits]; unfold asD; rw [List.map_map]; rfl
  rw [crossL_fst, e]; rfl
noncomputable def findIx (size times q : Int) : Nat → List Int → Option Nat
  | _, [] => none
  | k, p :: r => if (times * p).fmod size == q then some k else findIx size times q (k + 1) r
theorem get_enum {size times bits q : Int} (W : Wheel size) (q0 : 0 ≤ q) (q1 : q < size) : ∀ (ps : List Int) (k h : Nat), findIx size times q k ps = some h → getGo (sp true (nmT size q)) ((enumT size times bits k ps).map (entT size)) = .str (chrK h)
  | [], k, h, e => by cases e
  | p :: r, k, h, e => by
    obtain ⟨f0, f1⟩ := fmod_in (x := times * p) W.z0
    rw [enumT, List.map_cons]
    show (if (lowered (sp (bitI bits k) (nmT size ((times * p).fmod size))) == lowered (sp true (nmT size q))) = true then D.str (chrK k) else getGo (sp true (nmT size q)) ((enumT size times bits (k + 1) r).map (entT size))) = _
    rw [W.lw _ _ f0 f1, W.lw _ _ q0 q1]
    unfold findIx at e
    by_cases c : (times * p).fmod size = q
    · rw [if_pos (by rw [c]; exact beq_self_eq_true _)] at e
      cases e
      rw [c, if_pos (beq_self_eq_true _)]
    · rw [if_neg (by simpa using c)] at e
      rw [W.ne _ _ f0 f1 q0 q1 c, if_neg (by decide)]
      exact get_enum W q0 q1 r (k + 1) h e
noncomputable def hN (n t : Int) : Nat := (findIx n t 1 0 (rangeI 0 n.toNat)).getD 0
noncomputable def pairB (n t : Int) : Bool :=
  takB n t && takB t n && timesB n t && timesB t n && timesB n (hN n t) && (findIx n t 1 0 (rangeI 0 n.toNat) == some (hN n t)) && decide (hN n t < 100) && ((stepL n t).map (fun p => ((hN n t : Int) * p).fmod n) == rangeI 0 n.toNat)
  && (2 * cN n t == 6 * ((n * WW n t n).fdiv n - (n * (n - 1)).fdiv 2) - (t - 1) * (n - 1) * (2 * n - 1)) && (4 * (t * cN n t + n * cN t n) == (t - 1) * (n - 1) * (t + n - 1)) && (3 * (t * WW n t t) == t * (n - 1) * n * (n + 1)) && (WW n t 1 == WL n t)
  && decide (cN n t ≤ 1000000) && decide (cN t n ≤ 1000000) && decide (WL n t ≤ 10000)
theorem pairB_all : (([2, 3, 4, 5, 6, 7] : List Int).all fun n => (picksL n).all fun t => pairB n t) = true := by decide +kernel
theorem plain02 (n t bits : Int) (hn0 : 2 ≤ n) (hn1 : n ≤ 7) (htm : t ∈ picksL n) (hb0 : 0 ≤ bits) (hb1 : bits < 1048576) : ∃ Nn Nt l1 l2 l3 o2 wn wnt wb wc home cp y, LF n t bits Nn Nt l1 l2 l3 o2 wn wnt wb wc home cp y := by
  have hP : pairB n t = true := by
    have hn : n ∈ ([2, 3, 4, 5, 6, 7] : List Int) := by
      have : n = 2 ∨ n = 3 ∨ n = 4 ∨ n = 5 ∨ n = 6 ∨ n = 7 := by omega
      rcases this with h | h | h | h | h | h <;> subst h <;> simp
    exact List.all_eq_true.mp (List.all_eq_true.mp pairB_all n hn) t htm
  have ht : 1 ≤ t ∧ t < 1 + (11 : Nat) := mem_rangeI.mp (List.mem_filter.mp htm).1
  have ht0 : 1 ≤ t := ht.1
  have ht1 : t ≤ 11 := by have := ht.2; omega
  unfold pairB at hP
  simp only [Bool.and_eq_true, beq_iff_eq, decide_eq_true_eq] at hP
  obtain ⟨⟨⟨⟨⟨⟨⟨⟨⟨⟨⟨⟨⟨⟨p1, p2⟩, p3⟩, p4⟩, p5⟩, p6⟩, p7⟩, p8⟩, p9⟩, p10⟩, p11⟩, p12⟩, p13⟩, p14⟩, p15⟩ := hP
  have Wn := wheel (size := n) (by omega) (by omega)
  have Wt := wheel (size := t) (by omega) ht1
  obtain ⟨wn, wnt, wc, w1, w2, w3, w4, w5⟩ := ws_lead n t bits hn0 hn1 ht0 ht1
  have hin1 := enum_in (times := t) (bits := bits) Wn.z0 (rangeI 0 n.toNat) 0
  have hin2 := enum_in (times := n) (bits := bits) Wt.z0 (rangeI 0 t.toNat) 0
  have hln1 : (enumT n t bits 0 (rangeI 0 n.toNat)).length = n.toNat := by rw [enum_len, len_rangeI]
  have hln2 : (enumT t n bits 0 (rangeI 0 t.toNat)).length = t.toNat := by rw [enum_len, len_rangeI]
  have s1 := seen_of Wn hin1 (by omega)
  rw [enum_order0 hb0] at s1
  have s2 := seen_of Wt hin2 (by omega)
  rw [enum_order0 hb0] at s2
  have nd1 : (stepL n t).Nodup := of_decide_eq_true (Bool.and_eq_true_iff.mp p1).1
  have nd2 : (stepL t n).Nodup := of_decide_eq_true (Bool.and_eq_true_iff.mp p2).1
  have ol1 : (orderL n t bits).length = n.toNat := by unfold orderL; rw [List.length_map, len_rangeI]
  have ol2 : (orderL t n bits).length = t.toNat := by unfold orderL; rw [List.length_map, len_rangeI]
  have c1 := cross_eq n t bits
  have c2 := cross_eq t n bits
  have rnd : (rangeI 0 n.toNat).Nodup := by
    have : ∀ (m : Nat) (a : Int), (rangeI a m).Nodup := by
      intro m; induction m with
      | zero => intro a; exact List.nodup_nil
      | succ m ih => intro a; exact List.nodup_cons.mpr ⟨fun h => by have := mem_rangeI.mp h; omega, ih _⟩
    exact this _ _
  -- the third walk along the table
  have e1 : ((orderL n t bits).map fun x => ((hN n t : Int) * x.1).fmod n) = rangeI 0 n.toNat := by
    rw [← p8, ← order_fst n t bits, List.map_map]; rfl
  have k1 : ((enumT n t bits 0 (rangeI 0 n.toNat)).map (entT n)).map (·.1) = (orderL n t bits).map (keyT n) := by
    rw [← enum_order0 hb0, List.map_map, List.map_map]; rfl
  have t3 := taken_of (bits := 0) Wn (timesOk (by omega) (by omega) p5) (orderL n t bits) 0 (enumT n t bits 0 (rangeI 0 n.toNat)) [] (fun x hx => by
      have : x.1 ∈ stepL n t := order_fst n t bits ▸ List.mem_map_of_mem hx
      obtain ⟨p, hp, e⟩ := List.mem_map.mp this
      rw [← e]; exact fmod_in Wn.z0) hin1 (fun _ h => nomatch h) (by simp only [List.length_nil]; omega) (by omega) (by rw [e1]; exact rnd) (fun _ h => nomatch h)
  rw [e1, List.append_nil, List.nil_append, ← k1] at t3
  have e2 : (enumT n t bits 0 (rangeI 0 n.toNat)).filter (fun r => !(rangeI 0 n.toNat).contains r.1) = [] := by
    rw [List.filter_eq_nil_iff]
    intro r hr
    have hr' := hin1 r hr
    have : (rangeI 0 n.toNat).contains r.1 = true := List.contains_iff_mem.mpr (mem_rangeI.mpr ⟨hr'.1, by omega⟩)
    rw [this]; decide
  rw [e2, List.nil_append, order_fst] at t3
  have hin3 := enum_in (times := (hN n t : Int)) (bits := 0) Wn.z0 (stepL n t) 0
  have s3 := seen_of Wn hin3 (by rw [enum_len]; unfold stepL; rw [List.length_map, len_rangeI]; omega)
  have e3 : (enumT n (hN n t) 0 0 (stepL n t)).map (fun r => (r.1, r.2.1)) = endL n := by
    rw [enum_places]
    unfold endL
    conv => rhs; rw [← p8]
    rw [List.map_map]; rfl
  rw [e3] at s3
  have i3 : ∀ tab, 0 < tab → ivl (bits.fmod 4) wnt wc tab - bits.fmod 4 = tab * WW n t tab := fun tab h => by rw [w3 tab h]; omega
  refine ⟨namesOf n, namesOf t, (enumT n t bits 0 (rangeI 0 n.toNat)).map (entT n), (enumT t n bits 0 (rangeI 0 t.toNat)).map (entT t), (enumT n (hN n t) 0 0 (stepL n t)).map (entT n), orderL t n bits, wn, wnt, bits.fmod 4, wc, (hN n t : Int), (97 + (hN n t : Int)).toNat, nmT n 1, ?_⟩
  exact {
    ht0 := ht0
    ht1 := ht1
    tab1 := tabOk Wn
    tk1 := taken0 Wn (timesOk (by omega) (by omega) p3) p1
    sn1 := s1
    tab2 := tabOk Wt
    tk2 := taken0 Wt (timesOk (by omega) ht1 p4) p2
    sn2 := s2
    ap1 := apart_of (by rw [order_fst]; exact nd1)
    ap2 := apart_of (by rw [order_fst]; exact nd2)
    z1 := by omega
    z2 := by omega
    z3 := by omega
    z4 := by omega
    ws := w1
    wz := by
      have : bits.fmod 4 < 4 := by rw [Int.fmod_eq_emod_of_nonneg _ (by decide)]; omega
      omega
    wz2 := w2
    a1 := by
      rw [i3 n (by omega)]
      show (2 * ((crossL (asD (orderL n t bits))).length : Int) != _) = false
      rw [c1, p9]; exact bne_self_eq_false _
    a2 := by
      show (4 * (t * ((crossL (asD (orderL n t bits))).length : Int) + n * ((crossL (asD (orderL t n bits))).length : Int)) != _) = false
      rw [c1, c2, p10]; exact bne_self_eq_false _
    a3 := by rw [i3 t (by omega), p11]; exact bne_self_eq_false _
    a4 := by
      rw [w3 1 (by decide), w4, p12]
      have : bits.fmod 4 + 1 * WL n t = WL n t + bits.fmod 4 + 2 - 2 := by omega
      rw [this]; exact bne_self_eq_false _
    hy := Wn.nm 1 (by decide) (by omega)
    hy1 := Wn.up 1 (by decide) (by omega)
    hy2 := Wn.ok 1 true (by decide) (by omega)
    hl1 := fun q hq => by
      obtain ⟨r, hr, rfl⟩ := List.mem_map.mp hq
      obtain ⟨r0, r1⟩ := hin1 r hr
      show (lowered (sp r.2.1 (nmT n r.1))).length ≤ _
      rw [Wn.lw _ _ r0 r1]
      exact Wn.lo _ r0 r1
    hg := get_enum Wn (by decide) (by omega) (rangeI 0 n.toNat) 0 (hN n t) p6
    hh := by omega
    hh1 := by omega
    tk3 := t3
    sn3 := s3 }
end Lw
end
section
open PySem PySem.W PySem.W.X PyProof.Rows
set_option Elab.async false
set_option maxRecDepth 100000
set_option maxHeartbeats 8000000
set_option autoImplicit false
namespace Lw
theorem kin_more {K : Frag} {l : Addr} {o : Obj} {h : Heap} (k : K.In h) (e : h.get? l = some o) : (K ++ [(l, o)]).In h ∧ (K ++ [(l, o)]).lookup l = some o := by
  have a : (K ++ [(l, o)]).In h := fun a x e' => by
    rw [List.lookup_append] at e'
    cases hx : K.lookup a with
    | some y => rw [hx] at e'; cases e'; exact k a _ hx
    | none =>
      rw [hx] at e'
      have e'' : List.lookup a [(l, o)] = some x := e'
      by_cases q : a = l
      · subst q; rw [List.lookup_cons_self] at e''; cases e''; exact e
      · have : (a == l) = false := by simpa using q
        rw [List.lookup_cons, this] at e''; cases e''
  refine ⟨a, ?_⟩
  rw [List.lookup_append]
  cases hx : K.lookup l with
  | some y => have := k _ _ hx; rw [e] at this; cases this; rfl
  | none => show List.lookup l [(l, o)] = some o; rw [List.lookup_cons_self]
theorem room_caller : Room callerA 6 := ⟨rfl, by decide +kernel, by decide +kernel⟩
theorem enter (plain : ∀ n t bits : Int, 2 ≤ n → n ≤ 7 → t ∈ picksL n → 0 ≤ bits → bits < 1048576 → ∃ Nn Nt l1 l2 l3 o2 wn wnt wb wc home cp y, LF n t bits Nn Nt l1 l2 l3 o2 wn wnt wb wc home cp y) :
    PySem.Challenge.rw_pm0077_02.Holds := hd_02 ⟨partF, partT, by
  k_fill
  intro w s₀ s₁ mg mb G Y fa o pm cd doc dV kV ho hd hcd hD hmg hg args vals as hpre hlay hrd hwl hlo
  have KX := kIn_of Y
  refine Ground.open G ?_
  intro T B D TE TW
  wrow_args hpre hlay hrd hwl hlo
  x_fa T KX hmg
  clear hd hcd hD hmg
  rename_i ns hs hlay0 hLay hr1 hl2 as1 as2 l vs as3 hL ra w1 r0 hI hr hcond hcond2
  obtain ⟨o', ho', hcls, k, hdat⟩ := hL
  obtain ⟨kin, hk⟩ := kin_more KX ho'
  have ok : Okb (Γ3 w mg mb s₁.os l o') s₁.heap s₁ [] := ⟨fun _ _ e => e, ⟨kin, T.g, T.b, T.nolimit, T.builtins⟩, (fun _ h => nomatch h), List.nodup_nil, hg, rfl⟩
  refine wpAny_mono ((c_law w mg mb s₁.os l o' vs.toArray k ns hk hcls hdat (by simpa using hI) (by omega) plain).ca room_caller s₁.heap s₁ [.ref l] [] ok (.cons (.v _) .nil) .nil) (fun v s' ⟨g', O', d, G', i, q⟩ => ?_) (fun _ _ e => e.elim)
  subst q
  cases i
  refine ⟨.inl ⟨_, .bool true, [], rfl, fun _ => rfl, ReadsW.bool true, ?_, fun _ => ⟨List.nodup_nil, fun _ hm => nomatch hm⟩⟩, .of_keep fun b o e => G'.to.pres b o e (fun h => nomatch h), G'.ok.os, .of_eq G'.ok.gens⟩
  wrow_post⟩
end Lw
end
theorem PySem.Challenge.cw_pm0077_02_holds : PySem.Challenge.rw_pm0077_02.Holds := by
  exact Lw.enter Lw.plain02
