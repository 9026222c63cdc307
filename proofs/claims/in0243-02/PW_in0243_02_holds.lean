import PyProof.Rows.All
import Wide.All
import OpenK.AllK
import Wide.FinOn
import KE.KSortTup
import PySem.Challenge.RW_in0243_02
set_option Elab.async false
noncomputable section
set_option Elab.async false
set_option maxRecDepth 100000
set_option autoImplicit false
set_option linter.unusedVariables false
namespace Mine
open PySem PySem.W PySem.Calls PyProof.Rows
/-! the table that translate asks: int keys, none a letter's -/
def chkTM (es : Array DictEntry) : Bool := es.all fun e => match e.key with
  | .int k t => e.hash == hashInt k && !(decide (65 ≤ k) && decide (k ≤ 80))
  | _ => false
def chkK (K : Frag) : Bool := match nsIn K mainGlobals (Str.ofString "_special_chars_map") with
  | some (some (.ref a)) => !(a == sysModules) && (match K.lookup a with
    | some ⟨.type t, none, .dict es _, sl⟩ => t == "dict" && sl.isEmpty && chkTM es
    | _ => false)
  | _ => false
def tabK (h : Heap) : Frag := match h.get? mainGlobals with
  | some o => (match nsIn [(mainGlobals, o)] mainGlobals (Str.ofString "_special_chars_map") with
    | some (some (.ref a)) => (match h.get? a with
      | some o2 => [(mainGlobals, o), (a, o2)]
      | none => [])
    | _ => [])
  | none => []
theorem tabK_in (h : Heap) : (tabK h).In h := fun b o' e => by
  unfold tabK at e
  split at e
  · rename_i o ho
    split at e
    · rename_i a ha
      split at e
      · rename_i o2 ho2
        rw [List.lookup_cons] at e
        split at e
        · rename_i hb
          have hb : b = mainGlobals := by simpa using hb
          cases e; rw [hb]; exact ho
        · rw [List.lookup_cons] at e
          split at e
          · rename_i hb
            have hb : b = a := by simpa using hb
            cases e; rw [hb]; exact ho2
          · cases e
      · cases e
    · cases e
  · cases e
def tmHook : Hook where
  α := Bool
  obs := fun s => chkK (tabK s.heap)
  val := fun _ => true
  says := fun _ h => ∃ K : Frag, K.In h ∧ chkK K = true
  of := fun w s x => ⟨_, tabK_in s.heap, x⟩
  keeps := fun w h h' ⟨K, x, e⟩ k => ⟨K, x.keeps k, e⟩
end Mine

set_option Elab.async false
set_option maxRecDepth 100000
set_option autoImplicit false
set_option linter.unusedVariables false
namespace Mine
open PySem PySem.W PySem.Calls PyProof.Rows
theorem quick_ends {α : Type} (p : Program) (w : World) (N : Nat) (q : Program) (lo ms : List Str) (Xt : Shared → Bool) (g0 : Bool) (Yf : Shared → α) :
    (openEnds treeTable p w N).map (fun s => (openSeen q lo ms Xt g0 s, Yf s)) =
    (((Fast.tw10274390034422433532 Fast.tw14364793385576792824 (opening p) w N (Fast.tw1435165496053646825 (opening p)).1 (Fast.tw1435165496053646825 (opening p)).2).bind (Fast.tw14289696077712309145 p)).bind fun s₀ =>
      match s₀.heap.isNs mainGlobals && s₀.gens.size == 0 with
      | true => (Fast.tw14082659384304107361 Fast.tw14364793385576792824 p w s₀.heap.objs.size (s₀.heap.nsMap mainGlobals "__annotations__") N s₀ (topStub p)).bind fun s₁ =>
          match staticsOk (importedModules p.main.body) s₀.heap s₁.heap && namesBound p s₁.heap && gensDone s₁ && laidKept s₀.heap s₁.heap with
          | true => some s₁
          | false => none
      | false => none).map (fun s => (Fast.tw4187177175401517315 q lo ms Xt g0 s, Yf s)) := by
  rw [← Fast.te10274390034422433532, ← Fast.te14364793385576792824, ← Fast.te1435165496053646825, ← Fast.te14289696077712309145, ← Fast.te14082659384304107361, ← Fast.te4187177175401517315]
  rfl
end Mine

set_option Elab.async false
set_option maxRecDepth 100000
set_option autoImplicit false
namespace Mine
open PySem PySem.W PySem.Calls PyProof.Rows
abbrev vw : Program := PySem.W.view PySem.Challenge.pw_in0243_02 [0, 2, 4, 5, 7, 8, 10, 11, 13, 14, 16, 17, 18, 19, 20, 21, 22, 23, 24, 25, 26, 27, 28, 29]
abbrev loose : List Str := [Str.ofString "_twin_re_1", Str.ofString "_special_chars_map"]
abbrev XtL (r : RowW) (s : Shared) : Bool := xlAt vw [] s && recOk (RowW.records r) s
abbrev LeftP (w : World) : Prop := (openEnds treeTable PySem.Challenge.pw_in0243_02 w 4164).map (fun s => (openSeen vw loose (importedModules PySem.Challenge.pw_in0243_02.main.body) (XtL PySem.Challenge.rw_in0243_02.row.toRowW) true s, tmHook.obs s)) = some (openGood vw loose, tmHook.val w)
theorem leftFF (w : World) : LeftP ((w.withFollow "special-get-raises" false).withFollow "comprehension-iter-twice" false) := (quick_ends _ _ _ _ _ _ _ _ _).trans (by kernel_rfl)
theorem leftTF (w : World) : LeftP ((w.withFollow "special-get-raises" true).withFollow "comprehension-iter-twice" false) := (quick_ends _ _ _ _ _ _ _ _ _).trans (by kernel_rfl)
theorem leftFT (w : World) : LeftP ((w.withFollow "special-get-raises" false).withFollow "comprehension-iter-twice" true) := (quick_ends _ _ _ _ _ _ _ _ _).trans (by kernel_rfl)
theorem leftTT (w : World) : LeftP ((w.withFollow "special-get-raises" true).withFollow "comprehension-iter-twice" true) := (quick_ends _ _ _ _ _ _ _ _ _).trans (by kernel_rfl)
theorem left1 : LeftO PySem.Challenge.pw_in0243_02 vw loose (XtL PySem.Challenge.rw_in0243_02.row.toRowW) tmHook.obs tmHook.val 4164 :=
  byRow2 "comprehension-iter-twice" (P := LeftP) (byRow2 "special-get-raises" (P := fun w => LeftP (w.withFollow "comprehension-iter-twice" false)) leftFF leftTF) (byRow2 "special-get-raises" (P := fun w => LeftP (w.withFollow "comprehension-iter-twice" true)) leftFT leftTT)
theorem said : PySem.Challenge.rw_in0243_02.wellSaid = true := by
  unfold OpenLaw.wellSaid
  repeat' (with_reducible refine look_both ?_ ?_)
  all_goals (try unfold OpenRow.wellSaid)
  all_goals (repeat' (with_reducible refine look_both ?_ ?_))
  all_goals (try unfold OpenRow.partSaid)
  all_goals (repeat' (with_reducible refine look_both ?_ ?_))
  all_goals (try unfold looksOpen)
  all_goals (repeat' (with_reducible refine look_both ?_ ?_))
  all_goals decide +kernel
end Mine

set_option maxRecDepth 100000
set_option autoImplicit false
set_option linter.unusedVariables false
namespace Mine
open PySem PySem.W PySem.Calls PyProof.Rows

/-! data, frozen fragments -/
abbrev Fz := Addr → Option Obj

inductive D where
  | none
  | bool (b : Bool)
  | int (i : Int)
  | str (s : Str)
  | bytes (b : List UInt8)
  | list (xs : List D)
  | tup (xs : List D)
  | obj (a : Addr)

abbrev lstO (vs : List Value) (n : Nat) : Obj := { cls := .type "list", data := .seq vs.toArray n }
abbrev tupO (vs : List Value) (n : Nat) : Obj := { cls := .type "tuple", data := .seq vs.toArray n }
theorem isList_of {h : Heap} {a : Addr} {vs : List Value} {n : Nat} (e : h.get? a = some (lstO vs n)) : h.IsList a vs.toArray := ⟨_, e, rfl, n, rfl⟩

mutual
inductive Rep (g : Fz) : D → Value → Prop
  | none : Rep g .none .none
  | bool (b : Bool) : Rep g (.bool b) (.bool b)
  | int (i : Int) (t : Tok) : Rep g (.int i) (.int i t)
  | str (s : Str) (t : Tok) : Rep g (.str s) (.str s t)
  | bytes (b : List UInt8) (t : Tok) : Rep g (.bytes b) (.bytes b.toArray t)
  | list (xs : List D) (a : Addr) (vs : List Value) (n : Nat) (ho : g a = some (lstO vs n)) (hr : Reps g xs vs) : Rep g (.list xs) (.ref a)
  | tup (xs : List D) (a : Addr) (vs : List Value) (n : Nat) (ho : g a = some (tupO vs n)) (hr : Reps g xs vs) : Rep g (.tup xs) (.ref a)
  | obj (a : Addr) (o : Obj) (ho : g a = some o) (hc : o.cls = .type "object") (hd : o.data = .plain) : Rep g (.obj a) (.ref a)
inductive Reps (g : Fz) : List D → List Value → Prop
  | nil : Reps g [] []
  | cons {x : D} {v : Value} {xs : List D} {vs : List Value} (h : Rep g x v) (t : Reps g xs vs) : Reps g (x :: xs) (v :: vs)
end

mutual
theorem Rep.mono {g g' : Fz} (k : ∀ b o, g b = some o → g' b = some o) : ∀ {d : D} {v : Value}, Rep g d v → Rep g' d v
  | _, _, .none => .none
  | _, _, .bool b => .bool b
  | _, _, .int i t => .int i t
  | _, _, .str s t => .str s t
  | _, _, .bytes b t => .bytes b t
  | _, _, .list xs a vs n ho hr => .list xs a vs n (k a _ ho) (Reps.mono k hr)
  | _, _, .tup xs a vs n ho hr => .tup xs a vs n (k a _ ho) (Reps.mono k hr)
  | _, _, .obj a o ho hc hd => .obj a o (k a o ho) hc hd
theorem Reps.mono {g g' : Fz} (k : ∀ b o, g b = some o → g' b = some o) : ∀ {d : List D} {v : List Value}, Reps g d v → Reps g' d v
  | _, _, .nil => .nil
  | _, _, .cons h t => .cons (Rep.mono k h) (Reps.mono k t)
end

theorem Reps.length {g : Fz} : ∀ {d : List D} {v : List Value}, Reps g d v → v.length = d.length
  | _, _, .nil => rfl
  | _, _, .cons _ t => by rw [List.length_cons, List.length_cons, Reps.length t]
theorem Reps.append {g : Fz} : ∀ {d : List D} {v : List Value} {d' : List D} {v' : List Value}, Reps g d v → Reps g d' v' → Reps g (d ++ d') (v ++ v')
  | _, _, _, _, .nil, h => h
  | _, _, _, _, .cons a t, h => .cons a (Reps.append t h)
theorem Reps.get {g : Fz} : ∀ {d : List D} {v : List Value} (_ : Reps g d v) (i : Nat) (x : D) (_ : d[i]? = some x), ∃ y, v[i]? = some y ∧ Rep g x y
  | _, _, .cons a t, 0, x, h => by simp only [List.getElem?_cons_zero, Option.some.injEq] at h; subst h; exact ⟨_, rfl, a⟩
  | _, _, .cons a t, i + 1, x, h => by simp only [List.getElem?_cons_succ] at h ⊢; exact Reps.get t i x h
theorem Reps.getv {g : Fz} : ∀ {d : List D} {v : List Value} (_ : Reps g d v) (i : Nat) (y : Value) (_ : v[i]? = some y), ∃ x, d[i]? = some x ∧ Rep g x y
  | _, _, .cons a t, 0, x, h => by simp only [List.getElem?_cons_zero, Option.some.injEq] at h; subst h; exact ⟨_, rfl, a⟩
  | _, _, .cons a t, i + 1, x, h => by simp only [List.getElem?_cons_succ] at h ⊢; exact Reps.getv t i x h

/-- growth by fresh objects alone -/
structure Gr (h : Heap) (g : Fz) (h' : Heap) (g' : Fz) : Prop where
  hk : ∀ b o, h.get? b = some o → h'.get? b = some o
  gk : ∀ b o, g b = some o → g' b = some o
  sub : ∀ b o, g' b = some o → h'.get? b = some o
  own : ∀ b o, g' b = some o → g b = some o ∨ h.get? b = none

theorem Gr.refl {h : Heap} {g : Fz} (s : ∀ b o, g b = some o → h.get? b = some o) : Gr h g h g := ⟨fun _ _ e => e, fun _ _ e => e, s, fun _ _ e => .inl e⟩
theorem Gr.trans {h h' h'' : Heap} {g g' g'' : Fz} (x : Gr h g h' g') (y : Gr h' g' h'' g'') : Gr h g h'' g'' where
  hk := fun b o e => y.hk b o (x.hk b o e)
  gk := fun b o e => y.gk b o (x.gk b o e)
  sub := y.sub
  own := fun b o e => by
    rcases y.own b o e with e' | e'
    · exact x.own b o e'
    · refine .inr ?_
      cases q : h.get? b with
      | none => rfl
      | some o' => rw [x.hk b o' q] at e'; cases e'
/-- the heap grows, the fragment stays -/
theorem Gr.heap {h h' : Heap} {g : Fz} (s : ∀ b o, g b = some o → h.get? b = some o) (k : ∀ b o, h.get? b = some o → h'.get? b = some o) : Gr h g h' g :=
  ⟨k, fun _ _ e => e, fun b o e => k b o (s b o e), fun _ _ e => .inl e⟩
/-- one more object, frozen -/
def Fz.add (g : Fz) (a : Addr) (o : Obj) : Fz := fun b => if b = a then some o else g b
theorem Fz.add_self (g : Fz) (a : Addr) (o : Obj) : g.add a o a = some o := by simp [Fz.add]
theorem Fz.add_keep {g : Fz} {a : Addr} {o : Obj} (hg : g a = none) : ∀ b p, g b = some p → g.add a o b = some p := fun b p e => by
  unfold Fz.add
  by_cases hb : b = a
  · subst hb; rw [hg] at e; cases e
  · rw [if_neg hb]; exact e
theorem Gr.add {h h' : Heap} {g : Fz} {a : Addr} {o : Obj} (s : ∀ b o, g b = some o → h.get? b = some o) (k : ∀ b o, h.get? b = some o → h'.get? b = some o) (hn : h.get? a = none) (ha : h'.get? a = some o) : Gr h g h' (g.add a o) where
  hk := k
  gk := Fz.add_keep (by cases q : g a with
    | none => rfl
    | some o' => rw [s a o' q] at hn; cases hn)
  sub := fun b p e => by
    unfold Fz.add at e
    by_cases hb : b = a
    · subst hb; rw [if_pos rfl] at e; cases e; exact ha
    · rw [if_neg hb] at e; exact k b p (s b p e)
  own := fun b p e => by
    unfold Fz.add at e
    by_cases hb : b = a
    · subst hb; exact .inr hn
    · rw [if_neg hb] at e; exact .inl e

/-! the world -/
structure GCtx where
  prog : Program
  w : World
  mg : Str → Option Value
  mb : Str → Option Value
  defs : List DefRec
  bl : List Str
  tm : Heap → Prop
  tmk : ∀ h h' : Heap, (∀ b o, h.get? b = some o → h'.get? b = some o) → tm h → tm h'

structure Glo (X : GCtx) (h : Heap) : Prop where
  g : h.Ns mainGlobals X.mg
  b : h.Ns builtinsNs X.mb
  nolimit : h.NoLimit
  fn : ∀ d ∈ X.defs, ∃ a o pm code doc, X.mg d.name = some (.ref a) ∧ h.get? a = some o ∧ o.data = .func (docDef d.name d.params d.body d.scope pm code doc) ∧ h.CodeRec code d.name
  bl : ∀ x ∈ X.bl, X.mg x = none ∧ X.mb x = bootBuiltins x
  tm : X.tm h

/-! frames -/
structure Frm where
  A : Around
  env : Env
  h₀ : Heap
  g₀ : Fz
  oc : List Addr
  hc : Heap

structure Cfg where
  X : GCtx
  n : Nat
  sc : Scope
  own : List Str
  hd : Bool
  fl : Bool

structure Okf (c : Cfg) (fr : Frm) : Prop where
  hand : c.hd = true → fr.A.handled = none
  frs : c.fl = true → fr.A.frames = some [fr.env] ∧ fr.env.frame = some fr.env.locals
  depth : fr.A.depth + c.n < recursionLimit
  units : fr.A.units + 8 * c.n + 200 < cLine
  sc : fr.env.scope = c.sc
  kind : c.sc.kind = .function
  glob : fr.env.globals = mainGlobals
  blt : fr.env.builtins = builtinsNs
  glo : Glo c.X fr.h₀
  hck : ∀ b o, fr.hc.get? b = some o → fr.h₀.get? b = some o
  ocn : ∀ x ∈ c.own, c.sc.names.lookup x = some .cell ∧ ∃ a, fr.env.cells.lookup x = some a ∧ a ∈ fr.oc
  cls : ∀ x, c.sc.names.lookup x = some .cell ∨ c.sc.names.lookup x = some .free → ∃ a, fr.env.cells.lookup x = some a ∧ (a ∈ fr.oc ∨ ∃ o, fr.hc.get? a = some o)
  ocu : ∀ x y a, fr.env.cells.lookup x = some a → fr.env.cells.lookup y = some a → a ∈ fr.oc → x = y

/-- what a name may hold -/
inductive V where
  | d (d : D)
  | mu (i : Nat)
  | meth (i : Nat)
  | arg (ns : List Int)

def methOf (a : Addr) : Obj := { cls := .type "builtin_function_or_method", data := .fields #[.builtin "list.append", .ref a] }

inductive EV (g : Fz) (am : List Addr) : V → Value → Prop
  | d (d : D) (v : Value) (h : Rep g d v) : EV g am (.d d) v
  | mu (i : Nat) (a : Addr) (h : am[i]? = some a) : EV g am (.mu i) (.ref a)
  | meth (i : Nat) (a q : Addr) (o : Obj) (h : am[i]? = some a) (hq : g q = some o) (ho : o = methOf a) : EV g am (.meth i) (.ref q)
  | arg (ns : List Int) (a : Addr) (o : Obj) (vs : List Value) (n : Nat) (ho : g a = some o) (hc : o.cls = .type "list") (hd : o.data = .seq vs.toArray n) (hI : IntsAre vs ns) : EV g am (.arg ns) (.ref a)

theorem EV.mono {g g' : Fz} {am ext : List Addr} {e : V} {v : Value} (k : ∀ b o, g b = some o → g' b = some o) (x : EV g am e v) : EV g' (am ++ ext) e v := by
  cases x with
  | d d v h => exact .d d v (h.mono k)
  | mu i a h => exact .mu i a (by rw [List.getElem?_append_left]; exact h; exact (List.getElem?_eq_some_iff.mp h).1)
  | meth i a q o h hq ho => exact .meth i a q o (by rw [List.getElem?_append_left]; exact h; exact (List.getElem?_eq_some_iff.mp h).1) (k _ _ hq) ho
  | arg ns a o vs n ho hc hd hI => exact .arg ns a o vs n (k _ _ ho) hc hd hI
theorem EV.mono0 {g g' : Fz} {am : List Addr} {e : V} {v : Value} (k : ∀ b o, g b = some o → g' b = some o) (x : EV g am e v) : EV g' am e v := by
  have := EV.mono (ext := []) k x
  rwa [List.append_nil] at this

/-- where a name's value stands -/
inductive At (fr : Frm) (h : Heap) (m : Str → Option Value) (x : Str) (v : Value) : Prop
  | loc (hk : fr.env.scope.names.lookup x = some .local) (hm : m x = some v)
  | ocell (a : Addr) (hk : fr.env.scope.names.lookup x = some .cell) (hc : fr.env.cells.lookup x = some a) (ho : a ∈ fr.oc) (hi : h.IsCell a (some v))
  | cell (a : Addr) (hk : fr.env.scope.names.lookup x = some .cell ∨ fr.env.scope.names.lookup x = some .free) (hc : fr.env.cells.lookup x = some a) (hi : fr.hc.IsCell a (some v))

abbrev Gam := List (Str × V)
abbrev Del := List (List D)

structure Mt (fr : Frm) (h : Heap) (g : Fz) (a : Addr) (ds : List D) : Prop where
  lst : ∃ vs n, h.get? a = some (lstO vs n) ∧ Reps g ds vs
  ne : a ≠ fr.env.locals
  new : fr.h₀.get? a = none
  free : g a = none

structure St (fr : Frm) (Γ : Gam) (Δ : Del) (h : Heap) (g : Fz) (am : List Addr) : Prop where
  keep : ∀ b o, fr.h₀.get? b = some o → h.get? b = some o
  sub : ∀ b o, g b = some o → h.get? b = some o
  gsub : ∀ b o, fr.g₀ b = some o → g b = some o
  own : ∀ b o, g b = some o → fr.g₀ b = some o ∨ fr.h₀.get? b = none
  gL : g fr.env.locals = none
  hL : fr.h₀.get? fr.env.locals = none
  loc : ∃ m, h.Ns fr.env.locals m ∧ ∀ p ∈ Γ, ∃ v, EV g am p.2 v ∧ At fr h m p.1 v
  ocs : ∀ c ∈ fr.oc, (∃ v, h.IsCell c v) ∧ g c = none ∧ fr.h₀.get? c = none ∧ c ≠ fr.env.locals ∧ c ∉ am
  len : am.length = Δ.length
  nd : am.Nodup
  muts : ∀ (i : Nat) (a : Addr) (ds : List D), am[i]? = some a → Δ[i]? = some ds → Mt fr h g a ds

theorem Heap.Ns.get {h : Heap} {a : Addr} {m : Str → Option Value} (x : h.Ns a m) : ∃ o, h.get? a = some o := let ⟨o, _, _, ho, _⟩ := x; ⟨o, ho⟩

theorem Gr.none {h h' : Heap} {g g' : Fz} {a : Addr} {o : Obj} (x : Gr h g h' g') (hg : g a = none) (ha : h.get? a = some o) : g' a = none := by
  cases q : g' a with
  | none => rfl
  | some o' => rcases x.own a o' q with e | e
               · rw [hg] at e; cases e
               · rw [ha] at e; cases e

theorem St.gr {fr : Frm} {Γ : Gam} {Δ : Del} {h h' : Heap} {g g' : Fz} {am : List Addr} (S : St fr Γ Δ h g am) (x : Gr h g h' g') : St fr Γ Δ h' g' am where
  keep := fun b o e => x.hk b o (S.keep b o e)
  sub := x.sub
  gsub := fun b o e => x.gk b o (S.gsub b o e)
  own := fun b o e => by
    rcases x.own b o e with e' | e'
    · exact S.own b o e'
    · refine .inr ?_
      cases q : fr.h₀.get? b with
      | none => rfl
      | some o' => rw [S.keep b o' q] at e'; cases e'
  gL := let ⟨_, hn, _⟩ := S.loc; let ⟨_, ho⟩ := Heap.Ns.get hn; x.none S.gL ho
  hL := S.hL
  loc := by
    obtain ⟨m, hn, hp⟩ := S.loc
    refine ⟨m, hn.keeps x.hk, fun p hm => ?_⟩
    obtain ⟨v, h1, h2⟩ := hp p hm
    refine ⟨v, h1.mono0 x.gk, ?_⟩
    cases h2 with
    | loc hk hm => exact .loc hk hm
    | ocell a hk hc ho hi => exact .ocell a hk hc ho (hi.keeps x.hk)
    | cell a hk hc hi => exact .cell a hk hc hi
  ocs := fun c hc => by
    obtain ⟨⟨v, hv⟩, h1, h2, h3, h4⟩ := S.ocs c hc
    obtain ⟨o, ho, _⟩ := id hv
    exact ⟨⟨v, hv.keeps x.hk⟩, x.none h1 ho, h2, h3, h4⟩
  len := S.len
  nd := S.nd
  muts := fun i a ds h1 h2 => by
    obtain ⟨⟨vs, n, ho, hr⟩, h3, h4, h5⟩ := S.muts i a ds h1 h2
    exact ⟨⟨vs, n, x.hk _ _ ho, hr.mono x.gk⟩, h3, h4, x.none h5 ho⟩

/-- a value at hand: frozen, or a list that may still turn -/
inductive RepS (h : Heap) (g : Fz) : D → Value → Prop
  | fz {d : D} {v : Value} (r : Rep g d v) : RepS h g d v
  | ls (a : Addr) (vs : List Value) (n : Nat) (ds : List D) (ho : h.get? a = some (lstO vs n)) (hr : Reps g ds vs) : RepS h g (.list ds) (.ref a)

theorem RepS.gr {h h' : Heap} {g g' : Fz} {d : D} {v : Value} (x : RepS h g d v) (k : Gr h g h' g') : RepS h' g' d v := by
  cases x with
  | fz r => exact .fz (r.mono k.gk)
  | ls a vs n ds ho hr => exact .ls a vs n ds (k.hk _ _ ho) (hr.mono k.gk)
theorem RepS.list {h : Heap} {g : Fz} {ds : List D} {v : Value} (s : ∀ b o, g b = some o → h.get? b = some o) (x : RepS h g (.list ds) v) :
    ∃ a vs n, v = .ref a ∧ h.get? a = some (lstO vs n) ∧ Reps g ds vs := by
  cases x with
  | fz r => cases r with
    | list xs a vs n ho hr => exact ⟨a, vs, n, rfl, s _ _ ho, hr⟩
  | ls a vs n ds ho hr => exact ⟨a, vs, n, rfl, ho, hr⟩
theorem RepS.tup {h : Heap} {g : Fz} {ds : List D} {v : Value} (s : ∀ b o, g b = some o → h.get? b = some o) (x : RepS h g (.tup ds) v) :
    ∃ a vs n, v = .ref a ∧ h.get? a = some (tupO vs n) ∧ Reps g ds vs := by
  cases x with
  | fz r => cases r with
    | tup xs a vs n ho hr => exact ⟨a, vs, n, rfl, s _ _ ho, hr⟩

def W (c : Cfg) (fr : Frm) {α : Type} (t : Sem α) (Q : α → Shared → Prop) (s : Shared) : Prop := wpAny (model c.X.prog c.X.w) fr.A t Q (fun _ _ => False) s

/-- an expression's value; strong: frozen -/
def EvF (c : Cfg) (Γ : Gam) (Δ : Del) (e : Expr) (d : D) : Prop :=
  ∀ fr s g am, Okf c fr → St fr Γ Δ s.heap g am → ∀ Q : Value → Shared → Prop,
    (∀ v h' g' tk, Gr s.heap g h' g' → Rep g' d v → Q v { s with heap := h', toks := tk }) → W c fr (eval e fr.env) Q s
def Ev (c : Cfg) (Γ : Gam) (Δ : Del) (e : Expr) (d : D) : Prop :=
  ∀ fr s g am, Okf c fr → St fr Γ Δ s.heap g am → ∀ Q : Value → Shared → Prop,
    (∀ v h' g' tk, Gr s.heap g h' g' → RepS h' g' d v → Q v { s with heap := h', toks := tk }) → W c fr (eval e fr.env) Q s
theorem EvF.ev {c : Cfg} {Γ : Gam} {Δ : Del} {e : Expr} {d : D} (x : EvF c Γ Δ e d) : Ev c Γ Δ e d :=
  fun fr s g am O S Q hQ => x fr s g am O S Q fun v h' g' tk k r => hQ v h' g' tk k (.fz r)
/-- a test -/
def EvT (c : Cfg) (Γ : Gam) (Δ : Del) (e : Expr) (b : Bool) : Prop :=
  ∀ fr s g am, Okf c fr → St fr Γ Δ s.heap g am → ∀ Q : Bool → Shared → Prop,
    (∀ h' g' tk, Gr s.heap g h' g' → Q b { s with heap := h', toks := tk }) → W c fr (isTrue e fr.env (eval e fr.env)) Q s

/-- how a block ends -/
inductive Out where
  | next | brk | cont
  | ret (d : D)
inductive Fl (g : Fz) : Out → Flow → Prop
  | next : Fl g .next .next
  | brk : Fl g .brk .brk
  | cont : Fl g .cont .cont
  | ret (d : D) (v : Value) (h : Rep g d v) : Fl g (.ret d) (.ret v)

abbrev Post := Out → Gam → Del → Prop
def Ends (fr : Frm) (P : Post) (Q : Flow → Shared → Prop) (s : Shared) : Prop :=
  ∀ o f Γ' Δ' h' g' am' tk, P o Γ' Δ' → Fl g' o f → St fr Γ' Δ' h' g' am' → Q f { s with heap := h', toks := tk }
def Exs (c : Cfg) (Γ : Gam) (Δ : Del) (b : List Stmt) (P : Post) : Prop :=
  ∀ fr s g am, Okf c fr → St fr Γ Δ s.heap g am → ∀ Q : Flow → Shared → Prop, Ends fr P Q s → W c fr (execs b fr.env) Q s
def Ex1 (c : Cfg) (Γ : Gam) (Δ : Del) (b : Stmt) (P : Post) : Prop :=
  ∀ fr s g am, Okf c fr → St fr Γ Δ s.heap g am → ∀ Q : Flow → Shared → Prop, Ends fr P Q s → W c fr (exec b fr.env) Q s
end Mine

set_option maxRecDepth 100000
set_option autoImplicit false
set_option linter.unusedVariables false
namespace Mine
open PySem PySem.W PySem.Calls PyProof.Rows
variable {c : Cfg} {Γ : Gam} {Δ : Del}

/-! constants -/
theorem ev_int {i : Int} {k : Nat} {pos : Pos} : EvF c Γ Δ (.Constant (.int i) k pos) (.int i) := fun _ s g _ _ S _ hQ =>
  wpAny_Constant_int (hQ _ s.heap g _ (.refl S.sub) (.int i _))
theorem ev_str {x : Str} {k : Nat} {pos : Pos} : EvF c Γ Δ (.Constant (.str x) k pos) (.str x) := fun _ s g _ _ S _ hQ =>
  wpAny_Constant_str (hQ _ s.heap g _ (.refl S.sub) (.str x _))
theorem ev_bool {b : Bool} {k : Nat} {pos : Pos} : EvF c Γ Δ (.Constant (.bool b) k pos) (.bool b) := fun _ s g _ _ S _ hQ =>
  wpAny_Constant_bool (hQ _ s.heap g s.toks (.refl S.sub) (.bool b))
theorem ev_bytes {b : List UInt8} {k : Nat} {pos : Pos} : EvF c Γ Δ (.Constant (.bytes b) k pos) (.bytes b) := fun _ s g _ _ S _ hQ => by
  intro G p _
  exact hQ _ s.heap g (s.toks + 1) (.refl S.sub) (.bytes b _)

/-! names -/
theorem load_At {fr : Frm} {m : Str → Option Value} {x : Str} {v : Value} {Γ' : Gam} {s : Shared} {g : Fz} {am : List Addr} {Q : Value → Shared → Prop} (O : Okf c fr) (S : St fr Γ' Δ s.heap g am)
    (hn : s.heap.Ns fr.env.locals m) (a : At fr s.heap m x v) (hc : (x == ("__classdict__" : Str)) = false) (hQ : Q v s) : W c fr (loadName fr.env x) Q s := by
  have hk : fr.env.scope.kind = .function := O.sc ▸ O.kind
  cases a with
  | loc h1 h2 => exact wpAny_loadName_local hk h1 hn h2 hQ
  | ocell a h1 h2 h3 h4 => exact wpAny_loadName_cell hk h1 h2 h4 hQ
  | cell a h1 h2 h4 =>
    rcases h1 with h1 | h1
    · exact wpAny_loadName_cell hk h1 h2 (h4.keeps fun b o e => S.keep b o (O.hck b o e)) hQ
    · exact wpAny_loadName_free hk h1 h2 (h4.keeps fun b o e => S.keep b o (O.hck b o e)) hQ hc

theorem ev_name {x : Str} {d : D} {pos : Pos} (hm : (x, V.d d) ∈ Γ) (hd : (x == ("__debug__" : Str)) = false := by decide) (hc : (x == ("__classdict__" : Str)) = false := by decide) : EvF c Γ Δ (.Name x pos) d := fun fr s g am O S Q hQ => by
  obtain ⟨m, hn, hp⟩ := S.loc
  obtain ⟨v, h1, h2⟩ := hp _ hm
  cases h1 with
  | d d v h => exact wpAny_Name (load_At O S hn h2 hc (hQ v s.heap g s.toks (.refl S.sub) h)) hd

theorem ev_mu {x : Str} {i : Nat} {ds : List D} {pos : Pos} (hm : (x, V.mu i) ∈ Γ) (hi : Δ[i]? = some ds) (hd : (x == ("__debug__" : Str)) = false := by decide) (hc : (x == ("__classdict__" : Str)) = false := by decide) : Ev c Γ Δ (.Name x pos) (.list ds) := fun fr s g am O S Q hQ => by
  obtain ⟨m, hn, hp⟩ := S.loc
  obtain ⟨v, h1, h2⟩ := hp _ hm
  cases h1 with
  | mu i a h =>
    obtain ⟨⟨vs, n, ho, hr⟩, _⟩ := S.muts i a ds h hi
    exact wpAny_Name (load_At O S hn h2 hc (hQ _ s.heap g s.toks (.refl S.sub) (.ls a vs n ds ho hr))) hd

/-! two operands -/
def OpF (c : Cfg) (op : Operator) (a b d : D) : Prop := ∀ fr (s : Shared) g va vb, Okf c fr → (∀ b o, g b = some o → s.heap.get? b = some o) → (∀ b o, fr.h₀.get? b = some o → s.heap.get? b = some o) → RepS s.heap g a va → RepS s.heap g b vb →
  ∀ Q : Value → Shared → Prop, (∀ v h' g' tk, Gr s.heap g h' g' → Rep g' d v → Q v { s with heap := h', toks := tk }) → W c fr (binaryOp op va vb) Q s

theorem ev_bin {l r : Expr} {op : Operator} {pos : Pos} {a b d : D} (hl : Ev c Γ Δ l a) (hr : Ev c Γ Δ r b) (ho : OpF c op a b d) : EvF c Γ Δ (.BinOp l op r pos) d := fun fr s g am O S Q hQ =>
  wpAny_BinOp (hl fr s g am O S _ fun va h1 g1 t1 k1 r1 => hr fr _ g1 am O (S.gr k1) _ fun vb h2 g2 t2 k2 r2 =>
    ho fr _ g2 va vb O k2.sub ((S.gr k1).gr k2).keep (r1.gr k2) r2 Q fun v h3 g3 t3 k3 r3 => hQ v h3 g3 t3 ((k1.trans k2).trans k3) r3)

theorem rint {h : Heap} {g : Fz} {i : Int} {v : Value} (r : RepS h g (.int i) v) : ∃ t, v = .int i t := by
  cases r with
  | fz r => cases r with
    | int i t => exact ⟨t, rfl⟩
theorem rstr {h : Heap} {g : Fz} {i : Str} {v : Value} (r : RepS h g (.str i) v) : ∃ t, v = .str i t := by
  cases r with
  | fz r => cases r with
    | str i t => exact ⟨t, rfl⟩
theorem rbool {h : Heap} {g : Fz} {i : Bool} {v : Value} (r : RepS h g (.bool i) v) : v = .bool i := by
  cases r with
  | fz r => cases r with
    | bool i => rfl
theorem rbytes {h : Heap} {g : Fz} {i : List UInt8} {v : Value} (r : RepS h g (.bytes i) v) : ∃ t, v = .bytes i.toArray t := by
  cases r with
  | fz r => cases r with
    | bytes i t => exact ⟨t, rfl⟩

theorem op_add {a b : Int} : OpF c .Add (.int a) (.int b) (.int (a + b)) := fun fr s g va vb O hs _ ra rb Q hQ => by
  obtain ⟨t, rfl⟩ := rint ra; obtain ⟨u, rfl⟩ := rint rb
  exact add_int (hQ _ s.heap g _ (.refl hs) (.int _ _))
theorem op_sub {a b : Int} : OpF c .Sub (.int a) (.int b) (.int (a - b)) := fun fr s g va vb O hs _ ra rb Q hQ => by
  obtain ⟨t, rfl⟩ := rint ra; obtain ⟨u, rfl⟩ := rint rb
  exact sub_int (hQ _ s.heap g _ (.refl hs) (.int _ _))
theorem op_mul {a b : Int} (hm : IntMulOk a b) : OpF c .Mult (.int a) (.int b) (.int (a * b)) := fun fr s g va vb O hs _ ra rb Q hQ => by
  obtain ⟨t, rfl⟩ := rint ra; obtain ⟨u, rfl⟩ := rint rb
  exact mul_int (hQ _ s.heap g _ (.refl hs) (.int _ _)) hm
theorem op_mod {a b : Int} (hb : b ≠ 0) : OpF c .Mod (.int a) (.int b) (.int (a.fmod b)) := fun fr s g va vb O hs _ ra rb Q hQ => by
  obtain ⟨t, rfl⟩ := rint ra; obtain ⟨u, rfl⟩ := rint rb
  exact mod_int' hb (hQ _ s.heap g _ (.refl hs) (.int _ _))
theorem op_fdiv {a b : Int} (hb : b ≠ 0) (hp : Builtin.divisionGoesByPylong a b = false) (hh : c.hd = true := by rfl) : OpF c .FloorDiv (.int a) (.int b) (.int (a.fdiv b)) := fun fr s g va vb O hs _ ra rb Q hQ => by
  obtain ⟨t, rfl⟩ := rint ra; obtain ⟨u, rfl⟩ := rint rb
  exact floordiv_int_or (O.hand hh) (fun e => absurd e hb) (fun _ => hQ _ s.heap g _ (.refl hs) (.int _ _)) (fun _ => .inl hp)
theorem op_pow {a b : Int} (hn : 0 ≤ b) (hsz : (Builtin.Int.intBits a : Int) * b ≤ 2 ^ 27) : OpF c .Pow (.int a) (.int b) (.int (a ^ b.toNat)) := fun fr s g va vb O hs _ ra rb Q hQ => by
  obtain ⟨t, rfl⟩ := rint ra; obtain ⟨u, rfl⟩ := rint rb
  exact pow_int hn hsz (hQ _ s.heap g _ (.refl hs) (.int _ _))
theorem op_adds {a b : Str} (hsz : a.length + b.length ≤ sizeLine) : OpF c .Add (.str a) (.str b) (.str (a ++ b)) := fun fr s g va vb O hs _ ra rb Q hQ => by
  obtain ⟨t, rfl⟩ := rstr ra; obtain ⟨u, rfl⟩ := rstr rb
  exact add_str (fun t' tk => hQ _ s.heap g tk (.refl hs) (.str _ t')) hsz

/-! comparisons -/
def CmpF (c : Cfg) (op : CmpOp) (a b : D) (r : Bool) : Prop := ∀ fr (s : Shared) g va vb, Okf c fr → (∀ b o, g b = some o → s.heap.get? b = some o) → (∀ b o, fr.h₀.get? b = some o → s.heap.get? b = some o) → RepS s.heap g a va → RepS s.heap g b vb →
  ∀ Q : Value → Shared → Prop, (∀ h' tk, (∀ b o, s.heap.get? b = some o → h'.get? b = some o) → Q (.bool r) { s with heap := h', toks := tk }) → W c fr (compareOp op va vb) Q s

theorem ev_cmp {l r : Expr} {op : CmpOp} {pos : Pos} {a b : D} {x : Bool} (hl : Ev c Γ Δ l a) (hr : Ev c Γ Δ r b) (ho : CmpF c op a b x) (hm : behindInMarks op r = false := by with_unfolding_all rfl) : EvF c Γ Δ (.Compare l [op] [r] pos) (.bool x) := fun fr s g am O S Q hQ =>
  wpAny_Compare1 (hl fr s g am O S _ fun va h1 g1 t1 k1 r1 => hr fr _ g1 am O (S.gr k1) _ fun vb h2 g2 t2 k2 r2 =>
    ho fr _ g2 va vb O k2.sub ((S.gr k1).gr k2).keep (r1.gr k2) r2 Q fun h3 t3 k3 => hQ _ h3 g2 t3 ((k1.trans k2).trans (.heap k2.sub k3)) (.bool x)) hm
theorem et_cmp {l r : Expr} {op : CmpOp} {pos : Pos} {a b : D} {x : Bool} (hl : Ev c Γ Δ l a) (hr : Ev c Γ Δ r b) (ho : CmpF c op a b x) (hm : behindInMarks op r = false := by with_unfolding_all rfl) : EvT c Γ Δ (.Compare l [op] [r] pos) x := fun fr s g am O S Q hQ =>
  wpAny_isTrue_Compare1 (hl fr s g am O S _ fun va h1 g1 t1 k1 r1 => hr fr _ g1 am O (S.gr k1) _ fun vb h2 g2 t2 k2 r2 =>
    ho fr _ g2 va vb O k2.sub ((S.gr k1).gr k2).keep (r1.gr k2) r2 _ fun h3 t3 k3 => wpAny_truthy_bool (hQ h3 g2 t3 ((k1.trans k2).trans (.heap k2.sub k3)))) hm

section
variable {a b : Int}
theorem cmp_eq : CmpF c .Eq (.int a) (.int b) (a == b) := fun fr s g va vb O hs _ ra rb Q hQ => by
  obtain ⟨t, rfl⟩ := rint ra; obtain ⟨u, rfl⟩ := rint rb
  exact eq_int (hQ s.heap s.toks fun _ _ e => e)
theorem cmp_ne : CmpF c .NotEq (.int a) (.int b) (a != b) := fun fr s g va vb O hs _ ra rb Q hQ => by
  obtain ⟨t, rfl⟩ := rint ra; obtain ⟨u, rfl⟩ := rint rb
  exact ne_int (hQ s.heap s.toks fun _ _ e => e)
theorem cmp_lt : CmpF c .Lt (.int a) (.int b) (decide (a < b)) := fun fr s g va vb O hs _ ra rb Q hQ => by
  obtain ⟨t, rfl⟩ := rint ra; obtain ⟨u, rfl⟩ := rint rb
  exact lt_int (hQ s.heap s.toks fun _ _ e => e)
theorem cmp_gt : CmpF c .Gt (.int a) (.int b) (decide (b < a)) := fun fr s g va vb O hs _ ra rb Q hQ => by
  obtain ⟨t, rfl⟩ := rint ra; obtain ⟨u, rfl⟩ := rint rb
  exact gt_int (hQ s.heap s.toks fun _ _ e => e)
end
section
variable {a b : Str}
theorem cmp_eqs : CmpF c .Eq (.str a) (.str b) (a == b) := fun fr s g va vb O hs _ ra rb Q hQ => by
  obtain ⟨t, rfl⟩ := rstr ra; obtain ⟨u, rfl⟩ := rstr rb
  exact eq_str (hQ s.heap s.toks fun _ _ e => e)
theorem cmp_nes : CmpF c .NotEq (.str a) (.str b) (a != b) := fun fr s g va vb O hs _ ra rb Q hQ => by
  obtain ⟨t, rfl⟩ := rstr ra; obtain ⟨u, rfl⟩ := rstr rb
  exact ne_str (hQ s.heap s.toks fun _ _ e => e)
theorem cmp_lts : CmpF c .Lt (.str a) (.str b) (decide (a.cps.toList < b.cps.toList)) := fun fr s g va vb O hs _ ra rb Q hQ => by
  obtain ⟨t, rfl⟩ := rstr ra; obtain ⟨u, rfl⟩ := rstr rb
  exact lt_str (hQ s.heap s.toks fun _ _ e => e)
theorem cmp_gts : CmpF c .Gt (.str a) (.str b) (decide (b.cps.toList < a.cps.toList)) := fun fr s g va vb O hs _ ra rb Q hQ => by
  obtain ⟨t, rfl⟩ := rstr ra; obtain ⟨u, rfl⟩ := rstr rb
  exact P.gt_str (hQ s.heap s.toks fun _ _ e => e)
end

/-! signs, tests -/
theorem ev_neg {x : Expr} {pos : Pos} {a : Int} (h : Ev c Γ Δ x (.int a)) : EvF c Γ Δ (.UnaryOp .USub x pos) (.int (-a)) := fun fr s g am O S Q hQ =>
  wpAny_UnaryOp (h fr s g am O S _ fun va h1 g1 t1 k1 r1 => by
    obtain ⟨t, rfl⟩ := rint r1
    exact neg_int (hQ _ h1 g1 _ k1 (.int _ _)))
theorem et_not {x : Expr} {pos : Pos} {b : Bool} (h : EvT c Γ Δ x b) : EvT c Γ Δ (.UnaryOp .Not x pos) (!b) := fun fr s g am O S Q hQ =>
  isTrue_not (h fr s g am O S _ fun h1 g1 t1 k1 => hQ h1 g1 t1 k1)
def Tru (d : D) (b : Bool) : Prop := match d with
  | .bool x => b = x
  | .int i => b = (i != 0)
  | .str x => b = ((x.length : Int) != 0) ∧ x.length < 2 ^ 62
  | .list xs => b = !(xs.isEmpty) ∧ xs.length < 2 ^ 62
  | _ => False
theorem truthy_of {fr : Frm} {s : Shared} {g : Fz} {d : D} {v : Value} {b : Bool} (hs : ∀ b o, g b = some o → s.heap.get? b = some o) (r : RepS s.heap g d v) (t : Tru d b) {Q : Bool → Shared → Prop} (hQ : ∀ tk, Q b { s with toks := tk }) : W c fr (truthy v) Q s := by
  cases d with
  | bool x => rw [rbool r]; cases t; exact wpAny_truthy_bool (hQ s.toks)
  | int x => obtain ⟨u, rfl⟩ := rint r; cases t; exact truthy_int (hQ s.toks)
  | str x =>
    obtain ⟨u, rfl⟩ := rstr r
    obtain ⟨rfl, hl⟩ := t
    exact P.truthy_str (by omega) (hQ _)
  | list xs =>
    obtain ⟨a, vs, n', rfl, hl, hr⟩ := r.list hs
    obtain ⟨rfl, hn⟩ := t
    have e := hr.length
    refine wpAny_truthy_list (isList_of hl) (by simp only [List.size_toArray]; omega) ?_
    have : (!(List.toArray vs).isEmpty) = !xs.isEmpty := by
      cases xs <;> cases vs <;> simp at e ⊢
    rw [this]; exact hQ _
  | _ => exact t.elim
theorem et_of {e : Expr} {d : D} {b : Bool} (h : Ev c Γ Δ e d) (t : Tru d b) (he : ∀ env whole, isTrue e env whole = (do let v ← whole; standAt e.pos; holding [v] (truthy v)) := by intro _ _; rfl) : EvT c Γ Δ e b := fun fr s g am O S Q hQ =>
  isTrue_plain (h fr s g am O S _ fun va h1 g1 t1 k1 r1 => truthy_of k1.sub r1 t fun tk => hQ h1 g1 tk k1) (he _ _)
theorem et_and {x y : Expr} {pos : Pos} {a b : Bool} (h : EvT c Γ Δ x a) (h' : a = true → EvT c Γ Δ y b) : EvT c Γ Δ (.BoolOp .And [x, y] pos) (a && b) := fun fr s g am O S Q hQ =>
  wpAny_isTrue_BoolOp (wpAny_allTrue_And_cons (h fr s g am O S _ fun h1 g1 t1 k1 => by
    cases a with
    | false => exact hQ h1 g1 t1 k1
    | true => exact wpAny_allTrue_And_cons (h' rfl fr _ g1 am O (S.gr k1) _ fun h2 g2 t2 k2 => by
        cases b with
        | false => exact hQ h2 g2 t2 (k1.trans k2)
        | true => exact wpAny_allTrue_And_nil (hQ h2 g2 t2 (k1.trans k2)))))
theorem et_or {x y : Expr} {pos : Pos} {a b : Bool} (h : EvT c Γ Δ x a) (h' : a = false → EvT c Γ Δ y b) : EvT c Γ Δ (.BoolOp .Or [x, y] pos) (a || b) := fun fr s g am O S Q hQ =>
  wpAny_isTrue_BoolOp (wpAny_allTrue_Or_cons (h fr s g am O S _ fun h1 g1 t1 k1 => by
    cases a with
    | true => exact hQ h1 g1 t1 k1
    | false => exact wpAny_allTrue_Or_cons (h' rfl fr _ g1 am O (S.gr k1) _ fun h2 g2 t2 k2 => by
        cases b with
        | true => exact hQ h2 g2 t2 (k1.trans k2)
        | false => exact wpAny_pure (hQ h2 g2 t2 (k1.trans k2)))))
/-- «a and b» as a value, bools -/
theorem ev_and {x y : Expr} {pos : Pos} {a b : Bool} (h : EvF c Γ Δ x (.bool a)) (h' : a = true → EvF c Γ Δ y (.bool b)) : EvF c Γ Δ (.BoolOp .And [x, y] pos) (.bool (a && b)) := fun fr s g am O S Q hQ =>
  wpAny_And2 (h fr s g am O S _ fun va h1 g1 t1 k1 r1 => by
    rw [rbool (.fz r1 : RepS h1 g1 _ _)]
    refine wpAny_truthy_bool ?_
    cases a with
    | false => exact hQ _ h1 g1 t1 k1 (.bool _)
    | true => exact h' rfl fr _ g1 am O (S.gr k1) _ fun v h2 g2 t2 k2 r2 => hQ v h2 g2 t2 (k1.trans k2) r2)
end Mine

set_option maxRecDepth 100000
set_option autoImplicit false
set_option linter.unusedVariables false
namespace Mine
open PySem PySem.W PySem.Calls PyProof.Rows
variable {c : Cfg} {Γ : Gam} {Δ : Del} {P : Post}

def upd (Γ : Gam) (x : Str) (e : V) : Gam := (x, e) :: Γ.filter fun p => p.1 != x
theorem upd_cases {Γ : Gam} {x : Str} {e : V} {p : Str × V} (h : p ∈ upd Γ x e) : p = (x, e) ∨ (p ∈ Γ ∧ p.1 ≠ x) := by
  rcases List.mem_cons.mp h with h | h
  · exact .inl h
  · obtain ⟨h1, h2⟩ := List.mem_filter.mp h
    exact .inr ⟨h1, by simpa using h2⟩

theorem St.weak {fr : Frm} {Γ Γ₀ : Gam} {Δ : Del} {h : Heap} {g : Fz} {am : List Addr} (S : St fr Γ Δ h g am) (k : ∀ p ∈ Γ₀, p ∈ Γ) : St fr Γ₀ Δ h g am :=
  { S with loc := let ⟨m, hn, hp⟩ := S.loc; ⟨m, hn, fun p hm => hp p (k p hm)⟩ }

def Sto (c : Cfg) (x : Str) : Prop := c.sc.names.lookup x = some .local ∨ x ∈ c.own

theorem Okf.notcls {fr : Frm} (O : Okf c fr) : (fr.env.scope.kind == .class || (fr.env.scope.kind == .module && fr.env.locals != fr.env.globals)) = false := by
  rw [O.sc, O.kind]; rfl

theorem w_store {fr : Frm} {s : Shared} {g : Fz} {am : List Addr} {x : Str} {e : V} {v : Value} {Q : Unit → Shared → Prop} (O : Okf c fr) (S : St fr Γ Δ s.heap g am) (hx : Sto c x) (hv : EV g am e v)
    (hQ : ∀ h' tk, St fr (upd Γ x e) Δ h' g am → (∀ b o, b ≠ fr.env.locals → b ∉ fr.oc → s.heap.get? b = some o → h'.get? b = some o) → Q () { s with heap := h', toks := tk }) : W c fr (storeName fr.env x v) Q s := by
  obtain ⟨m, hn, hp⟩ := S.loc
  have hk : fr.env.scope.kind = .function := O.sc ▸ O.kind
  rcases hx with hx | hx
  · have hl : fr.env.kindOf x = some .local := by unfold Env.kindOf; rw [O.sc]; exact hx
    refine wpAny_storeName_local hl hn (fun h' hn' hs => hQ h' _ ?_ fun b o h1 _ h3 => (hs.2 b h1).trans h3) O.notcls
    have up : ∀ b o, b ≠ fr.env.locals → s.heap.get? b = some o → h'.get? b = some o := fun b o hb e => (hs.2 b hb).trans e
    have neL : ∀ {b o}, fr.h₀.get? b = some o → b ≠ fr.env.locals := fun e q => by rw [q, S.hL] at e; cases e
    refine { S with keep := fun b o e => up b o (neL e) (S.keep b o e), sub := fun b o e => up b o (fun q => by rw [q, S.gL] at e; cases e) (S.sub b o e), loc := ⟨_, hn', fun p hm => ?_⟩, ocs := fun a ha => ?_, muts := fun i a ds h1 h2 => ?_ }
    · rcases upd_cases hm with rfl | ⟨hm, hne⟩
      · exact ⟨v, hv, .loc hl (by simp)⟩
      · obtain ⟨u, h1, h2⟩ := hp p hm
        refine ⟨u, h1, ?_⟩
        cases h2 with
        | loc h3 h4 => exact .loc h3 (by rw [if_neg hne]; exact h4)
        | ocell a h3 h4 h5 h6 => exact .ocell a h3 h4 h5 (h6.sameBut hs (S.ocs a h5).2.2.2.1)
        | cell a h3 h4 h6 => exact .cell a h3 h4 h6
    · obtain ⟨⟨w, hw⟩, r⟩ := S.ocs a ha
      exact ⟨⟨w, hw.sameBut hs r.2.2.1⟩, r⟩
    · obtain ⟨⟨vs, n, ho, r⟩, h3, h4, h5⟩ := S.muts i a ds h1 h2
      exact ⟨⟨vs, n, up _ _ h3 ho, r⟩, h3, h4, h5⟩
  · obtain ⟨hkx, a, hc, ha⟩ := O.ocn x hx
    obtain ⟨⟨w, hw⟩, hga, h0a, hLa, hma⟩ := S.ocs a ha
    have hl : fr.env.kindOf x = some .cell := by unfold Env.kindOf; rw [O.sc]; exact hkx
    refine wpAny_storeName_cell hk hl hc hw (fun h' hc' hs => hQ h' s.toks ?_ fun b o _ h2 h3 => (hs.2 b fun q => h2 (q ▸ ha)).trans h3)
    have up : ∀ b o, b ≠ a → s.heap.get? b = some o → h'.get? b = some o := fun b o hb e => (hs.2 b hb).trans e
    refine { S with keep := fun b o e => up b o (fun q => by rw [q, h0a] at e; cases e) (S.keep b o e), sub := fun b o e => up b o (fun q => by rw [q, hga] at e; cases e) (S.sub b o e), loc := ⟨m, hn.sameBut hs (Ne.symm hLa), fun p hm => ?_⟩, ocs := fun a' ha' => ?_, muts := fun i a' ds h1 h2 => ?_ }
    · rcases upd_cases hm with rfl | ⟨hm, hne⟩
      · exact ⟨v, hv, .ocell a hl hc ha hc'⟩
      · obtain ⟨u, h1, h2⟩ := hp p hm
        refine ⟨u, h1, ?_⟩
        cases h2 with
        | loc h3 h4 => exact .loc h3 h4
        | ocell a' h3 h4 h5 h6 => exact .ocell a' h3 h4 h5 (h6.sameBut hs fun q => hne (O.ocu _ _ a (q ▸ h4) hc ha))
        | cell a' h3 h4 h6 => exact .cell a' h3 h4 h6
    · obtain ⟨⟨w', hw'⟩, r⟩ := S.ocs a' ha'
      by_cases q : a' = a
      · subst q; exact ⟨⟨_, hc'⟩, r⟩
      · exact ⟨⟨w', hw'.sameBut hs q⟩, r⟩
    · obtain ⟨⟨vs, n, ho, r⟩, h3, h4, h5⟩ := S.muts i a' ds h1 h2
      exact ⟨⟨vs, n, up _ _ (fun q => hma (q ▸ List.mem_of_getElem? h1)) ho, r⟩, h3, h4, h5⟩

/-! blocks -/
theorem exs_nil (h : P .next Γ Δ) : Exs c Γ Δ [] P := fun fr s g am O S Q hQ => wpAny_execs_nil (hQ .next .next Γ Δ s.heap g am s.toks h .next S)
theorem exs_weak {Γ₀ : Gam} {b : List Stmt} (k : ∀ p ∈ Γ₀, p ∈ Γ) (h : Exs c Γ₀ Δ b P) : Exs c Γ Δ b P := fun fr s g am O S Q hQ => h fr s g am O (S.weak k) Q hQ
theorem exs_mono {b : List Stmt} {P' : Post} (h : Exs c Γ Δ b P') (k : ∀ o Γ' Δ', P' o Γ' Δ' → P o Γ' Δ') : Exs c Γ Δ b P := fun fr s g am O S Q hQ =>
  h fr s g am O S Q fun o f Γ' Δ' h' g' am' tk hp => hQ o f Γ' Δ' h' g' am' tk (k _ _ _ hp)
/-- behind a statement -/
def Then (c : Cfg) (rest : List Stmt) (P : Post) : Post := fun o Γ' Δ' => match o with
  | .next => Exs c Γ' Δ' rest P
  | o => P o Γ' Δ'
theorem exs_cons {st : Stmt} {rest : List Stmt} (h : Ex1 c Γ Δ st (Then c rest P)) : Exs c Γ Δ (st :: rest) P := fun fr s g am O S Q hQ => by
  refine wpAny_execs_cons (h fr s g am O S _ fun o f Γ' Δ' h' g' am' tk hp hf S' => ?_)
  cases hf with
  | next => exact hp fr _ g' am' O S' Q fun o f Γ'' Δ'' h'' g'' am'' tk'' hp hf S'' => hQ o f Γ'' Δ'' h'' g'' am'' tk'' hp hf S''
  | brk => exact hQ _ _ _ _ _ _ _ _ hp .brk S'
  | cont => exact hQ _ _ _ _ _ _ _ _ hp .cont S'
  | ret d v r => exact hQ _ _ _ _ _ _ _ _ hp (.ret d v r) S'

/-! statements -/
theorem ex_assign {x : Str} {p : Pos} {value : Expr} {pos : Pos} {d : D} (hv : EvF c Γ Δ value d) (hx : Sto c x) (h : P .next (upd Γ x (.d d)) Δ)
    (hs : ∀ env, swapsWith value (some (.Name x p)) pos.line env = pure false := by intro _; rfl) : Ex1 c Γ Δ (.Assign [.Name x p] value pos) P := fun fr s g am O S Q hQ =>
  wpAny_Assign_Name (hv fr s g am O S _ fun v h1 g1 t1 k1 r1 => w_store O (S.gr k1) hx (.d d v r1) fun h2 t2 S2 _ => hQ .next .next _ _ h2 g1 am t2 h .next S2) (hs _)

theorem ex_if {t : Expr} {a b : List Stmt} {pos : Pos} {x : Bool} (ht : EvT c Γ Δ t x) (h1 : x = true → Exs c Γ Δ a P) (h2 : x = false → Exs c Γ Δ b P) : Ex1 c Γ Δ (.If t a b pos) P := fun fr s g am O S Q hQ =>
  wpAny_If (ht fr s g am O S _ fun h' g1 t1 k1 => by
    cases x with
    | true => exact h1 rfl fr _ g1 am O (S.gr k1) Q fun o f Γ'' Δ'' h'' g'' am'' tk'' hp hf S'' => hQ o f Γ'' Δ'' h'' g'' am'' tk'' hp hf S''
    | false => exact h2 rfl fr _ g1 am O (S.gr k1) Q fun o f Γ'' Δ'' h'' g'' am'' tk'' hp hf S'' => hQ o f Γ'' Δ'' h'' g'' am'' tk'' hp hf S'')

theorem ex_ret {e : Expr} {pos : Pos} {d : D} (hv : EvF c Γ Δ e d) (h : P (.ret d) Γ Δ) : Ex1 c Γ Δ (.Return (some e) pos) P := fun fr s g am O S Q hQ =>
  wpAny_Return_some (hv fr s g am O S _ fun v h1 g1 t1 k1 r1 => hQ (.ret d) _ Γ Δ h1 g1 am t1 h (.ret d v r1) (S.gr k1))
theorem ex_brk {pos : Pos} (h : P .brk Γ Δ) : Ex1 c Γ Δ (.Break pos) P := fun fr s g am O S Q hQ => wpAny_Break (hQ .brk .brk Γ Δ s.heap g am s.toks h .brk S)
theorem ex_assert {e : Expr} {m : Option Expr} {pos : Pos} (hv : EvT c Γ Δ e true) (h : P .next Γ Δ) : Ex1 c Γ Δ (.Assert e m pos) P := fun fr s g am O S Q hQ =>
  wpAny_Assert_holds (hv fr s g am O S _ fun h1 g1 t1 k1 => ⟨rfl, hQ .next .next Γ Δ h1 g1 am t1 h .next (S.gr k1)⟩)

/-- x += e, ints -/
theorem ex_aug {x : Str} {p : Pos} {e : Expr} {pos : Pos} {a b : Int} (hm : (x, V.d (.int a)) ∈ Γ) (hv : Ev c Γ Δ e (.int b)) (hx : Sto c x) (h : P .next (upd Γ x (.d (.int (a + b)))) Δ)
    (hc : (x == ("__classdict__" : Str)) = false := by decide) : Ex1 c Γ Δ (.AugAssign (.Name x p) .Add e pos) P := fun fr s g am O S Q hQ => by
  obtain ⟨m, hn, hp⟩ := S.loc
  obtain ⟨u, h1, h2⟩ := hp _ hm
  cases h1 with
  | d d u r =>
    cases r with
    | int i t => exact wpAny_AugAssign_Name (load_At O S hn h2 hc (hv fr s g am O S _ fun v h1 g1 t1 k1 r1 => by
        obtain ⟨t', rfl⟩ := rint r1
        exact iadd_int (w_store O (S.gr k1) hx (.d _ _ (.int _ _)) fun h2 t2 S2 _ => hQ .next .next _ _ h2 g1 am t2 h .next S2)))

/-! while -/
theorem ex_while {t : Expr} {b : List Stmt} {pos : Pos} (I : Nat → Gam → Del → Prop)
    (turn : ∀ n Γ₁ Δ₁, I n Γ₁ Δ₁ → ∃ x, EvT c Γ₁ Δ₁ t x ∧ (x = false → P .next Γ₁ Δ₁) ∧ (x = true → Exs c Γ₁ Δ₁ b fun o Γ₂ Δ₂ => match o with
      | .next | .cont => ∃ n', n' < n ∧ ∃ Γ₃, (∀ p ∈ Γ₃, p ∈ Γ₂) ∧ I n' Γ₃ Δ₂
      | .brk => P .next Γ₂ Δ₂
      | .ret d => P (.ret d) Γ₂ Δ₂)) (n : Nat) (h : I n Γ Δ) : Ex1 c Γ Δ (.While t b [] pos) P := fun fr s g am O S Q hQ => by
  refine wpAny_While (codeAny_whileLoop (fun n s' => ∃ Γ₁ Δ₁ h₁ g₁ am₁ tk₁, s' = { s with heap := h₁, toks := tk₁ } ∧ St fr Γ₁ Δ₁ h₁ g₁ am₁ ∧ I n Γ₁ Δ₁) ?_ n ⟨Γ, Δ, s.heap, g, am, s.toks, rfl, S, h⟩)
  rintro n s' ⟨Γ₁, Δ₁, h₁, g₁, am₁, tk₁, rfl, S₁, hI⟩
  obtain ⟨x, ht, hf, hb⟩ := turn n Γ₁ Δ₁ hI
  refine wpAny_passesOwn .never (ht fr _ g₁ am₁ O S₁ _ fun h2 g2 t2 k2 => ?_)
  cases x with
  | false =>
    simp only [Bool.false_eq_true, if_false]
    exact wpAny_execs_nil (hQ .next .next _ _ h2 g2 am₁ t2 (hf rfl) .next (S₁.gr k2))
  | true =>
    simp only [if_true]
    refine wpAny_passesOwn .never (hb rfl fr _ g2 am₁ O (S₁.gr k2) _ fun o f Γ₂ Δ₂ h3 g3 am3 t3 hp hf S3 => ?_)
    cases hf with
    | next => obtain ⟨n', hn, Γ₃, hw, hi⟩ := hp; exact ⟨n', hn, Γ₃, Δ₂, h3, g3, am3, t3, rfl, S3.weak hw, hi⟩
    | cont => obtain ⟨n', hn, Γ₃, hw, hi⟩ := hp; exact ⟨n', hn, Γ₃, Δ₂, h3, g3, am3, t3, rfl, S3.weak hw, hi⟩
    | brk => exact hQ .next .next _ _ h3 g3 am3 t3 hp .next S3
    | ret d v r => exact hQ (.ret d) _ _ _ h3 g3 am3 t3 hp (.ret d v r) S3
end Mine

set_option maxRecDepth 100000
set_option autoImplicit false
set_option linter.unusedVariables false
namespace Mine
open PySem PySem.W PySem.Calls PyProof.Rows
variable {c : Cfg} {Γ : Gam} {Δ : Del} {P : Post}

/-! arguments -/
inductive EvFs (c : Cfg) (Γ : Gam) (Δ : Del) : List Expr → List D → Prop
  | nil : EvFs c Γ Δ [] []
  | cons {e : Expr} {d : D} {es : List Expr} {ds : List D} (h : EvF c Γ Δ e d) (t : EvFs c Γ Δ es ds) (he : ∀ env, starEach (e :: es) env = (false, eval e env) :: starEach es env := by intro _; rfl) : EvFs c Γ Δ (e :: es) (d :: ds)
inductive EvSs (c : Cfg) (Γ : Gam) (Δ : Del) : List Expr → List D → Prop
  | nil : EvSs c Γ Δ [] []
  | cons {e : Expr} {d : D} {es : List Expr} {ds : List D} (h : Ev c Γ Δ e d) (t : EvSs c Γ Δ es ds) (he : ∀ env, starEach (e :: es) env = (false, eval e env) :: starEach es env := by intro _; rfl) : EvSs c Γ Δ (e :: es) (d :: ds)
inductive RepSs (h : Heap) (g : Fz) : List D → List Value → Prop
  | nil : RepSs h g [] []
  | cons {x : D} {v : Value} {xs : List D} {vs : List Value} (r : RepS h g x v) (t : RepSs h g xs vs) : RepSs h g (x :: xs) (v :: vs)

theorem w_args {fr : Frm} {am : List Addr} {pos : Pos} : ∀ {es : List Expr} {ds : List D} (_ : EvFs c Γ Δ es ds) {s : Shared} {g : Fz} (_ : Okf c fr) (_ : St fr Γ Δ s.heap g am) {Q : List Value → Shared → Prop}
    (_ : ∀ vs h' g' tk, Gr s.heap g h' g' → Reps g' ds vs → Q vs { s with heap := h', toks := tk }), W c fr (spliced (backTo pos (starEach es fr.env))) Q s
  | _, _, .nil, s, g, O, S, Q, hQ => args_nil (hQ [] s.heap g s.toks (.refl S.sub) .nil)
  | _, _, .cons h t he, s, g, O, S, Q, hQ => args_cons (h fr s g am O S _ fun v h1 g1 t1 k1 r1 => w_args t O (S.gr k1) fun vs h2 g2 t2 k2 r2 => hQ _ h2 g2 t2 (k1.trans k2) (.cons (r1.mono k2.gk) r2)) (he _)
/-! calls of the text's own defs -/
structure Spec (X : GCtx) (f : Str) (n : Nat) (ds : List D) (d : D) : Prop where
  df : ∃ dr ∈ X.defs, dr.name = f
  run : ∀ (A : Around) (s : Shared) (g : Fz) (fa : Addr) (vs : List Value), A.handled = none → A.depth + n < recursionLimit → A.units + 8 * n + 200 < cLine → Glo X s.heap → (∀ b o, g b = some o → s.heap.get? b = some o) →
    X.mg f = some (.ref fa) → Reps g ds vs → ∀ Q : Value → Shared → Prop, (∀ v h' g' tk, Gr s.heap g h' g' → Rep g' d v → Q v { s with heap := h', toks := tk }) →
    wpAny (model X.prog X.w) A (call (.ref fa) vs) Q (fun _ _ => False) s

theorem Glo.keeps {X : GCtx} {h h' : Heap} (G : Glo X h) (k : ∀ b o, h.get? b = some o → h'.get? b = some o) : Glo X h' :=
  ⟨G.g.keeps k, G.b.keeps k, G.nolimit.keeps k, fun d hd => let ⟨a, o, pm, code, doc, h1, h2, h3, h4⟩ := G.fn d hd; ⟨a, o, pm, code, doc, h1, k _ _ h2, h3, h4.keeps k⟩, G.bl, X.tmk _ _ k G.tm⟩

theorem ev_call {f : Str} {p pos : Pos} {m : Nat} {e : Expr} {es : List Expr} {ds : List D} {d : D} (ha : EvFs c Γ Δ (e :: es) ds) (hs : Spec c.X f m ds d) (hm : m ≤ c.n) (hk : c.sc.names.lookup f = some .globalImplicit)
    (hd : (f == ("__debug__" : Str)) = false := by decide) (hh : c.hd = true := by rfl) (he : ∀ env, starEach (e :: es) env = (false, eval e env) :: starEach es env := by intro _; rfl) : EvF c Γ Δ (.Call (.Name f p) (e :: es) [] pos) d := fun fr s g am O S Q hQ => by
  obtain ⟨dr, hdr, hf⟩ := hs.df
  obtain ⟨a, o, pm, code, doc, h1, h2, h3, h4⟩ := O.glo.fn dr hdr
  rw [hf] at h1
  refine Call_ (Name_function_global (O.sc ▸ O.kind) (by unfold Env.kindOf; rw [O.sc]; exact hk) (loadGlobal_global (O.glob ▸ (O.glo.g.keeps S.keep)) h1 (callWith_def h3 (w_args ha O S fun vs h' g' tk k r => ⟨?_, ?_⟩) (he _))) hd)
  · exact k.hk _ _ (S.keep _ _ h2)
  · have S' := S.gr k
    have hu := O.units
    have hdp := O.depth
    exact hs.run fr.A _ g' a vs (O.hand hh) (by omega) (by omega) (O.glo.keeps S'.keep) k.sub h1 r Q fun v h2 g2 t2 k2 r2 => hQ v h2 g2 t2 (k.trans k2) r2

theorem bindL_off {kindOf : Str → Option NameKind} {x : Str} : ∀ (bs : List (Str × Value)) (m : Str → Option Value), x ∉ bs.map (·.1) → bindL kindOf bs m x = m x
  | [], m, _ => rfl
  | (n, v) :: r, m, h => by
    simp only [List.map_cons, List.mem_cons, not_or] at h
    unfold bindL
    rw [bindL_off r _ h.2]
    split
    · exact if_neg h.1
    · rfl
theorem bindC_off {kindOf : Str → Option NameKind} {x : Str} : ∀ (bs : List (Str × Value)) (m : Str → Option Value), x ∉ bs.map (·.1) → bindC kindOf bs m x = m x
  | [], m, _ => rfl
  | (n, v) :: r, m, h => by
    simp only [List.map_cons, List.mem_cons, not_or] at h
    unfold bindC
    rw [bindC_off r _ h.2]
    split
    · rfl
    · exact if_neg h.1
theorem bindL_at {kindOf : Str → Option NameKind} {x : Str} {v : Value} (hk : kindOf x = some .local) : ∀ (bs : List (Str × Value)) (m : Str → Option Value), (bs.map (·.1)).Nodup → (x, v) ∈ bs → bindL kindOf bs m x = some v
  | (n, u) :: r, m, hn, h => by
    simp only [List.map_cons, List.nodup_cons] at hn
    unfold bindL
    rcases List.mem_cons.mp h with e | h
    · cases e
      rw [bindL_off r _ hn.1, if_pos hk]
      exact if_pos rfl
    · exact bindL_at hk r _ hn.2 h
theorem bindC_at {kindOf : Str → Option NameKind} {x : Str} {v : Value} (hk : kindOf x = some .cell) : ∀ (bs : List (Str × Value)) (m : Str → Option Value), (bs.map (·.1)).Nodup → (x, v) ∈ bs → bindC kindOf bs m x = some v
  | (n, u) :: r, m, hn, h => by
    simp only [List.map_cons, List.nodup_cons] at hn
    unfold bindC
    rcases List.mem_cons.mp h with e | h
    · cases e
      rw [bindC_off r _ hn.1, if_neg (by rw [hk]; decide)]
      exact if_pos rfl
    · exact bindC_at hk r _ hn.2 h
theorem zip_fst : ∀ (xs : List Str) (vs : List Value), vs.length = xs.length → (xs.zip vs).map (·.1) = xs
  | [], _, _ => by simp
  | x :: xs, [], h => by simp at h
  | x :: xs, v :: vs, h => by simp only [List.zip_cons_cons, List.map_cons]; rw [zip_fst xs vs (by simpa using h)]
theorem zip_rep {g : Fz} : ∀ (xs : List Str) {ds : List D} {vs : List Value}, Reps g ds vs → ∀ p ∈ xs.zip (ds.map V.d), ∃ v, (p.1, v) ∈ xs.zip vs ∧ ∀ am, EV g am p.2 v
  | [], _, _, _, p, h => by simp at h
  | x :: xs, _, _, .nil, p, h => by simp at h
  | x :: xs, _, _, .cons r t, p, h => by
    simp only [List.map_cons, List.zip_cons_cons, List.mem_cons] at h
    rcases h with rfl | h
    · exact ⟨_, by simp, fun am => .d _ _ r⟩
    · obtain ⟨v, h1, h2⟩ := zip_rep xs t p h
      exact ⟨v, by simp [h1], h2⟩

theorem pairwise_uniq {x y : Str} {a : Addr} : ∀ {cs : List (Str × Addr)}, (cs.Pairwise fun x y => x.2 ≠ y.2) → cs.lookup x = some a → cs.lookup y = some a → x = y := fun hp h1 h2 => name_of_addr hp (mem_of_lookup h1) (mem_of_lookup h2)

def ownCells (sc : Scope) : List Str := (sc.names.filter fun p => p.2 == .cell).map (·.1)
theorem mem_cellsFrom {x : Str} : ∀ (names : List (Str × NameKind)) (n : Nat) (acc : List (Str × Addr)), (x, NameKind.cell) ∈ names ∨ (acc.lookup x).isSome = true → ((cellsFrom n names acc).lookup x).isSome = true
  | [], _, _, h => h.elim (fun e => nomatch e) id
  | (y, k) :: r, n, acc, h => by
    unfold cellsFrom
    by_cases hk : (k == .cell) = true
    · rw [if_pos hk]
      refine mem_cellsFrom r (n + 1) ((y, n) :: acc) ?_
      by_cases hy : (x == y) = true
      · exact .inr (by rw [List.lookup_cons, hy]; rfl)
      · refine h.imp (fun e => ?_) fun e => ?_
        · rcases List.mem_cons.mp e with e | e
          · cases e; simp at hy
          · exact e
        · rw [List.lookup_cons]; simpa only [hy] using e
    · rw [if_neg hk]
      refine mem_cellsFrom r n acc (h.imp (fun e => ?_) id)
      rcases List.mem_cons.mp e with e | e
      · cases e; simp at hk
      · exact e

/-- a def by its body -/
theorem spec_def {X : GCtx} {dr : DefRec} {n : Nat} {ps : List Str} {ds : List D} {d : D} (hdr : dr ∈ X.defs) (hlen : ds.length = ps.length)
    (hbind : ∀ pm code doc vs, vs.length = ps.length → bindArgs (docDef dr.name dr.params dr.body dr.scope pm code doc) ⟨vs, []⟩ = pure (ps.zip vs)) (hps : ps.Nodup)
    (hloc : ∀ x ∈ ps, dr.scope.names.lookup x = some .local ∨ dr.scope.names.lookup x = some .cell) (hnc : ∀ x ∈ ownCells dr.scope, dr.scope.names.lookup x = some .cell) (hnd : ((cellsFrom 0 dr.scope.names []).map (·.1)).Nodup)
    (hnf : ∀ p ∈ dr.scope.names, p.2 ≠ .free) (hk : dr.scope.kind = .function) (hco : dr.scope.isCoroutine = false) (hgen : dr.scope.isGenerator = false)
    (h : Exs ⟨X, n, dr.scope, ownCells dr.scope, true, false⟩ (ps.zip (ds.map V.d)) [] dr.body fun o _ _ => match o with | .ret d' => d' = d | _ => False) : Spec X dr.name (n + 1) ds d := by
  refine ⟨⟨dr, hdr, rfl⟩, fun A s g fa vs hA hdp hu G hs hmg hr Q hQ => ?_⟩
  obtain ⟨a, o, pm, code, doc, h1, h2, h3, h4⟩ := G.fn dr hdr
  rw [hmg] at h1
  cases h1
  have hvl : vs.length = ps.length := hr.length.trans hlen
  have hfst := zip_fst ps vs hvl
  refine wpAny_call (codeAny_call_cells (fd := docDef dr.name dr.params dr.body dr.scope pm code doc) (body := dr.body) (binds := ps.zip vs) (by omega) h2 h3 G.nolimit h4 rfl (hbind pm code doc vs hvl) rfl (fun x hx => ?_) (fun s₁ ic => ?_) hco hgen hk)
  · have hx' : x.1 ∈ ps := hfst ▸ List.mem_map_of_mem hx
    rcases hloc _ hx' with e | e
    · exact .inl e
    · exact .inr ⟨e, mem_cellsFrom _ _ _ (.inl (mem_of_lookup e))⟩
  · obtain ⟨h₁, tk, rfl, hkeep⟩ := ic.done
    let env : Env := callEnvC (docDef dr.name dr.params dr.body dr.scope pm code doc) s.heap.objs.size fa
    let fr : Frm := ⟨A.deeper env, env, s.heap, g, env.cells.map (·.2), s.heap⟩
    have hL : s.heap.get? s.heap.objs.size = none := by
      cases q : s.heap.get? s.heap.objs.size with
      | none => rfl
      | some o => exact absurd (Heap.lt_size q) (Nat.lt_irrefl _)
    have fresh : ∀ b, s.heap.objs.size ≤ b → s.heap.get? b = none := fun b hb => by
      cases q : s.heap.get? b with
      | none => rfl
      | some o => exact absurd (Heap.lt_size q) (Nat.not_lt.mpr hb)
    have gfresh : ∀ b, s.heap.get? b = none → g b = none := fun b hb => by
      cases q : g b with
      | none => rfl
      | some o => rw [hs b o q] at hb; cases hb
    have O : Okf ⟨X, n, dr.scope, ownCells dr.scope, true, false⟩ fr := by
      refine ⟨fun _ => hA, (fun h => nomatch h), ?_, ?_, rfl, hk, rfl, rfl, G, fun _ _ e => e, fun x hx => ⟨hnc x hx, ?_⟩, fun x hx => ?_, fun x y a e1 e2 _ => pairwise_uniq ic.apart e1 e2⟩
      · have e : fr.A.depth = A.depth + 1 := rfl
        have e2 : (⟨X, n, dr.scope, ownCells dr.scope, true, false⟩ : Cfg).n = n := rfl
        rw [e, e2]; omega
      · have e : fr.A.units = A.units + 3 := rfl
        have e2 : (⟨X, n, dr.scope, ownCells dr.scope, true, false⟩ : Cfg).n = n := rfl
        rw [e, e2]; omega
      · obtain ⟨p, hp, rfl⟩ := List.mem_map.mp hx
        obtain ⟨hp1, hp2⟩ := List.mem_filter.mp hp
        have e : p.2 = .cell := by simpa using hp2
        have this : (p.1, NameKind.cell) ∈ dr.scope.names := by rw [← e]; exact hp1
        obtain ⟨a, ha⟩ := Option.isSome_iff_exists.mp (mem_cellsFrom (x := p.1) dr.scope.names (s.heap.objs.size + 1) [] (.inl this))
        exact ⟨a, ha, List.mem_map.mpr ⟨_, mem_of_lookup ha, rfl⟩⟩
      · rcases hx with e | e
        · obtain ⟨a, ha⟩ := Option.isSome_iff_exists.mp (mem_cellsFrom (x := x) dr.scope.names (s.heap.objs.size + 1) [] (.inl (mem_of_lookup e)))
          exact ⟨a, ha, .inl (List.mem_map.mpr ⟨_, mem_of_lookup ha, rfl⟩)⟩
        · exact absurd rfl (hnf _ (mem_of_lookup e))
    have S : St fr (ps.zip (ds.map V.d)) [] h₁ g [] := by
      refine ⟨hkeep, fun b o e => hkeep b o (hs b o e), fun _ _ e => e, fun _ _ e => .inl e, gfresh _ hL, hL, ⟨_, ic.toInCall.ns, fun p hp => ?_⟩, fun a ha => ?_, rfl, List.nodup_nil, fun i a ds h1 _ => by simp at h1⟩
      · obtain ⟨v, hv, he⟩ := zip_rep ps hr p hp
        have hx : p.1 ∈ ps := hfst ▸ List.mem_map_of_mem hv
        refine ⟨v, he _, ?_⟩
        rcases hloc _ hx with e | e
        · exact .loc e (bindL_at (kindOf := env.kindOf) e _ _ (by rw [hfst]; exact hps) hv)
        · obtain ⟨a, ha⟩ := Option.isSome_iff_exists.mp (mem_cellsFrom (x := p.1) dr.scope.names (s.heap.objs.size + 1) [] (.inl (mem_of_lookup e)))
          have hc := ic.cell _ _ ha
          rw [bindC_at (kindOf := env.kindOf) e _ _ (by rw [hfst]; exact hps) hv] at hc
          exact .ocell a e ha (List.mem_map.mpr ⟨_, mem_of_lookup ha, rfl⟩) hc
      · obtain ⟨q, hq, rfl⟩ := List.mem_map.mp ha
        have hlk : env.cells.lookup q.1 = some q.2 := lookup_of_mem_nodup (cellsFrom_names dr.scope.names 0 (s.heap.objs.size + 1) [] [] rfl ▸ hnd) hq
        have hab := ic.above _ _ hq
        have hn := fresh q.2 (Nat.le_of_lt hab)
        exact ⟨⟨_, ic.cell _ _ hlk⟩, gfresh _ hn, hn, Nat.ne_of_gt hab, by simp⟩
    refine wpAny_mono (h fr _ g [] O S (fun f s' => ∃ v, f = .ret v ∧ Q v s') fun o f Γ' Δ' h' g' am' tk' hp hf S' => ?_) (fun f s' hq => ?_) fun _ _ x => x.elim
    · cases hf with
      | ret d' v r => cases hp; exact ⟨v, rfl, hQ v h' g' tk' ⟨S'.keep, S'.gsub, S'.sub, S'.own⟩ r⟩
      | _ => exact hp.elim
    · obtain ⟨v, rfl, hq⟩ := hq; exact hq
end Mine

set_option maxRecDepth 100000
set_option autoImplicit false
set_option linter.unusedVariables false
namespace Mine
open PySem PySem.W PySem.Calls PyProof.Rows
variable {c : Cfg} {Γ : Gam} {Δ : Del} {P : Post}

theorem sizeLine_lit : sizeLine = 16777216 := by decide

theorem St.addMut {fr : Frm} {h h' : Heap} {g : Fz} {am : List Addr} {a : Addr} {vs : List Value} {n : Nat} {ds : List D} (S : St fr Γ Δ h g am) (k : ∀ b o, h.get? b = some o → h'.get? b = some o) (hn : h.get? a = none)
    (ha : h'.get? a = some (lstO vs n)) (hr : Reps g ds vs) : St fr Γ (Δ ++ [ds]) h' g (am ++ [a]) := by
  have S' := S.gr (Gr.heap S.sub k)
  have h0 : fr.h₀.get? a = none := by
    cases q : fr.h₀.get? a with
    | none => rfl
    | some o => rw [S.keep a o q] at hn; cases hn
  have hg : g a = none := by
    cases q : g a with
    | none => rfl
    | some o => rw [S.sub a o q] at hn; cases hn
  have hL : a ≠ fr.env.locals := fun e => by
    obtain ⟨m, hns, _⟩ := S.loc
    obtain ⟨o, ho⟩ := Heap.Ns.get hns
    rw [e, ho] at hn; cases hn
  have ham : a ∉ am := fun hm => by
    obtain ⟨i, hi, e⟩ := List.mem_iff_getElem.mp hm
    have e1 : am[i]? = some a := by rw [List.getElem?_eq_getElem hi, e]
    have e2 : Δ[i]? = some (Δ[i]'(S.len ▸ hi)) := List.getElem?_eq_getElem (S.len ▸ hi)
    obtain ⟨⟨vs, n, ho, _⟩, _⟩ := S.muts i a _ e1 e2
    rw [ho] at hn; cases hn
  refine { S' with loc := ?_, ocs := fun b hb => ?_, len := by simp [S.len], nd := ?_, muts := fun i b ds' h1 h2 => ?_ }
  · obtain ⟨m, hns, hp⟩ := S'.loc
    exact ⟨m, hns, fun p hm => let ⟨v, e1, e2⟩ := hp p hm; ⟨v, e1.mono fun _ _ e => e, e2⟩⟩
  · obtain ⟨⟨v, hv⟩, r1, r2, r3, r4⟩ := S.ocs b hb
    refine ⟨⟨v, hv.keeps k⟩, r1, r2, r3, fun hm => ?_⟩
    rcases List.mem_append.mp hm with hm | hm
    · exact r4 hm
    · obtain ⟨o, ho, _⟩ := hv
      rw [List.mem_singleton.mp hm, hn] at ho; cases ho
  · exact List.nodup_append.mpr ⟨S.nd, by simp, fun x hx y hy e => ham (by rw [List.mem_singleton.mp hy] at e; exact e ▸ hx)⟩
  · by_cases hlt : i < am.length
    · rw [List.getElem?_append_left hlt] at h1
      rw [List.getElem?_append_left (S.len ▸ hlt)] at h2
      exact S'.muts i b ds' h1 h2
    · have hi : i = am.length := by
        have := (List.getElem?_eq_some_iff.mp h1).1
        simp at this; omega
      subst hi
      rw [List.getElem?_append_right (Nat.le_refl _)] at h1
      rw [S.len, List.getElem?_append_right (Nat.le_refl _)] at h2
      simp at h1 h2
      subst h1 h2
      exact ⟨⟨vs, n, ha, hr⟩, hL, h0, hg⟩

theorem St.setMut {fr : Frm} {h h' : Heap} {g : Fz} {am : List Addr} {a : Addr} {i : Nat} {vs : List Value} {n : Nat} {ds : List D} (S : St fr Γ Δ h g am) (hi : am[i]? = some a) (hs : Heap.SameBut a h h')
    (ha : h'.get? a = some (lstO vs n)) (hr : Reps g ds vs) : St fr Γ (Δ.set i ds) h' g am := by
  have hlt := (List.getElem?_eq_some_iff.mp hi).1
  have M := S.muts i a _ hi (List.getElem?_eq_getElem (S.len ▸ hlt))
  have up : ∀ b o, b ≠ a → h.get? b = some o → h'.get? b = some o := fun b o hb e => (hs.2 b hb).trans e
  obtain ⟨m, hns, hp⟩ := S.loc
  refine { S with keep := fun b o e => up b o (fun q => by rw [q, M.new] at e; cases e) (S.keep b o e), sub := fun b o e => up b o (fun q => by rw [q, M.free] at e; cases e) (S.sub b o e), loc := ⟨m, hns.sameBut hs (Ne.symm M.ne), fun p hm => ?_⟩, ocs := fun b hb => ?_, len := by simp [S.len], muts := fun j b ds' h1 h2 => ?_ }
  · obtain ⟨v, e1, e2⟩ := hp p hm
    refine ⟨v, e1, ?_⟩
    cases e2 with
    | loc h3 h4 => exact .loc h3 h4
    | ocell b h3 h4 h5 h6 => exact .ocell b h3 h4 h5 (h6.sameBut hs fun q => (S.ocs b h5).2.2.2.2 (q ▸ List.mem_of_getElem? hi))
    | cell b h3 h4 h6 => exact .cell b h3 h4 h6
  · obtain ⟨⟨v, hv⟩, r⟩ := S.ocs b hb
    exact ⟨⟨v, hv.sameBut hs fun q => r.2.2.2 (q ▸ List.mem_of_getElem? hi)⟩, r⟩
  · by_cases hij : i = j
    · subst hij
      rw [hi] at h1
      cases h1
      rw [List.getElem?_set_self (S.len ▸ hlt)] at h2
      cases h2
      exact ⟨⟨vs, n, ha, hr⟩, M.ne, M.new, M.free⟩
    · rw [List.getElem?_set_ne hij] at h2
      obtain ⟨⟨vs', n', ho', hr'⟩, r1, r2, r3⟩ := S.muts j b ds' h1 h2
      refine ⟨⟨vs', n', up _ _ (fun q => ?_) ho', hr'⟩, r1, r2, r3⟩
      subst q
      have hlt' := (List.getElem?_eq_some_iff.mp h1).1
      have e1 : am[i] = am[j] := by
        have a1 := (List.getElem?_eq_some_iff.mp hi).2
        have a2 := (List.getElem?_eq_some_iff.mp h1).2
        rw [a1, a2]
      exact hij ((List.getElem_inj S.nd).mp e1)

/-! displays -/
theorem ev_list {es : List Expr} {ds : List D} {pos : Pos} (h : EvFs c Γ Δ es ds) (hz : ds.length ≤ sizeLine := by rw [sizeLine_lit]; simp) : EvF c Γ Δ (.List es pos) (.list ds) := fun fr s g am O S Q hQ =>
  List_ (w_args h O S fun vs h1 g1 t1 k1 r1 => wpAny_newList (hQ _ _ (g1.add _ _) _ (k1.trans (.add k1.sub (fun b o e => Heap.get?_push_of_some _ e) (by
    cases q : h1.get? h1.objs.size with
    | none => rfl
    | some o => exact absurd (Heap.lt_size q) (Nat.lt_irrefl _)) (Heap.get?_push_size _ rfl))) (.list ds _ vs 0 (Fz.add_self _ _ _) (r1.mono (Fz.add_keep (by
    cases q : g1 h1.objs.size with
    | none => rfl
    | some o => exact absurd (Heap.lt_size (k1.sub _ _ q)) (Nat.lt_irrefl _)))))) (by rw [r1.length]; exact hz))
theorem ev_tup {es : List Expr} {ds : List D} {k : Nat} {pos : Pos} (h : EvFs c Γ Δ es ds) (hz : ds.length ≤ sizeLine := by rw [sizeLine_lit]; simp) : EvF c Γ Δ (.Tuple es k pos) (.tup ds) := fun fr s g am O S Q hQ =>
  Tuple_ (w_args h O S fun vs h1 g1 t1 k1 r1 => wpAny_newTuple (hQ _ _ (g1.add _ _) _ (k1.trans (.add k1.sub (fun b o e => Heap.get?_push_of_some _ e) (by
    cases q : h1.get? h1.objs.size with
    | none => rfl
    | some o => exact absurd (Heap.lt_size q) (Nat.lt_irrefl _)) (Heap.get?_push_size _ rfl))) (.tup ds _ vs 0 (Fz.add_self _ _ _) (r1.mono (Fz.add_keep (by
    cases q : g1 h1.objs.size with
    | none => rfl
    | some o => exact absurd (Heap.lt_size (k1.sub _ _ q)) (Nat.lt_irrefl _)))))) (by rw [r1.length]; exact hz))
/-- a list that will turn -/
theorem ex_assign_list {x : Str} {p : Pos} {es : List Expr} {ds : List D} {lp pos : Pos} (hv : EvFs c Γ Δ es ds) (hx : Sto c x) (h : P .next (upd Γ x (.mu Δ.length)) (Δ ++ [ds])) (hz : ds.length ≤ sizeLine := by rw [sizeLine_lit]; simp) :
    Ex1 c Γ Δ (.Assign [.Name x p] (.List es lp) pos) P := fun fr s g am O S Q hQ =>
  wpAny_Assign_Name (List_ (w_args hv O S fun vs h1 g1 t1 k1 r1 => wpAny_newList (by
    have S1 := (S.gr k1).addMut (h' := h1.push (lstO vs 0)) (a := h1.objs.size) (fun b o e => Heap.get?_push_of_some _ e) (by
      cases q : h1.get? h1.objs.size with
      | none => rfl
      | some o => exact absurd (Heap.lt_size q) (Nat.lt_irrefl _)) (Heap.get?_push_size _ rfl) r1
    exact w_store O S1 hx (.mu Δ.length h1.objs.size (by rw [← S.len, List.getElem?_append_right (Nat.le_refl _)]; simp)) fun h2 t2 S2 _ => hQ .next .next _ _ h2 g1 _ t2 h .next S2) (by rw [r1.length]; exact hz))) rfl
def Below1 (k : Nat) : V → Prop
  | .d _ => True
  | .mu i => i < k
  | .meth i => i < k
  | .arg _ => True
theorem St.freeze {fr : Frm} {h : Heap} {g : Fz} {am : List Addr} {a : Addr} {Γ' : Gam} {ds : List D} {vs : List Value} {n : Nat} (S : St fr Γ (Δ ++ [ds]) h g (am ++ [a])) (hl : am.length = Δ.length) (ho : h.get? a = some (lstO vs n)) (hr : Reps g ds vs)
    (hΓ : ∀ p ∈ Γ', (p ∈ Γ ∧ Below1 Δ.length p.2) ∨ (p.2 = .d (.list ds) ∧ (p.1, V.mu Δ.length) ∈ Γ)) : St fr Γ' Δ h (g.add a (lstO vs n)) am := by
  have M := S.muts am.length a ds (by simp) (by rw [hl]; simp)
  have ext : ∀ b o, g b = some o → (g.add a (lstO vs n)) b = some o := Fz.add_keep M.free
  obtain ⟨m, hns, hp⟩ := S.loc
  refine { S with sub := fun b o e => ?_, gsub := fun b o e => ext b o (S.gsub b o e), own := fun b o e => ?_, gL := ?_, loc := ⟨m, hns, fun p hm => ?_⟩, ocs := fun b hb => ?_, len := hl, nd := (List.nodup_append.mp S.nd).1, muts := fun i b ds' h1 h2 => ?_ }
  · unfold Fz.add at e
    by_cases hb : b = a
    · rw [if_pos hb] at e; cases e; exact hb ▸ ho
    · rw [if_neg hb] at e; exact S.sub b o e
  · unfold Fz.add at e
    by_cases hb : b = a
    · exact .inr (hb ▸ M.new)
    · rw [if_neg hb] at e; exact S.own b o e
  · unfold Fz.add; rw [if_neg (Ne.symm M.ne)]; exact S.gL
  · rcases hΓ p hm with ⟨hq, hb⟩ | ⟨he, hq⟩
    · obtain ⟨v, e1, e2⟩ := hp p hq
      refine ⟨v, ?_, e2⟩
      obtain ⟨x, e⟩ := p
      simp only at e1 hb ⊢
      cases e1 with
      | d d v r => exact .d _ _ (r.mono ext)
      | mu i b hi =>
        have hb' : i < Δ.length := hb
        rw [List.getElem?_append_left (hl ▸ hb')] at hi
        exact .mu i b hi
      | meth i b q o hi hq' ho' =>
        have hb' : i < Δ.length := hb
        rw [List.getElem?_append_left (hl ▸ hb')] at hi
        exact .meth i b q o hi (ext _ _ hq') ho'
      | arg ns b o us k ho' hc' hd' hI' => exact .arg ns b o us k (ext _ _ ho') hc' hd' hI'
    · obtain ⟨v, e1, e2⟩ := hp _ hq
      refine ⟨v, ?_, e2⟩
      rw [he]
      cases e1 with
      | mu i b hi =>
        rw [← hl, List.getElem?_append_right (Nat.le_refl _)] at hi
        simp at hi
        subst hi
        exact .d _ _ (.list ds a vs n (Fz.add_self _ _ _) (hr.mono ext))
  · obtain ⟨r1, r2, r3, r4, r5⟩ := S.ocs b hb
    refine ⟨r1, ?_, r3, r4, fun hm => r5 (List.mem_append_left _ hm)⟩
    unfold Fz.add
    have hne : b ≠ a := fun q => r5 (q ▸ List.mem_append_right _ (List.mem_singleton.mpr rfl))
    rw [if_neg hne]; exact r2
  · have hlt := (List.getElem?_eq_some_iff.mp h1).1
    obtain ⟨⟨vs', n', ho', hr'⟩, r1, r2, r3⟩ := S.muts i b ds' (by rw [List.getElem?_append_left hlt]; exact h1) (by rw [List.getElem?_append_left (hl ▸ hlt)]; exact h2)
    refine ⟨⟨vs', n', ho', hr'.mono ext⟩, r1, r2, ?_⟩
    unfold Fz.add
    have hne : b ≠ a := fun q => (List.nodup_append.mp S.nd).2.2 b (List.mem_of_getElem? h1) a (List.mem_singleton.mpr rfl) q
    rw [if_neg hne]
    exact r3

/-- the newest list turns no more -/
theorem exs_freeze {b : List Stmt} {Γ' : Gam} {ds : List D} (hΓ : ∀ p ∈ Γ', (p ∈ Γ ∧ Below1 Δ.length p.2) ∨ (p.2 = .d (.list ds) ∧ (p.1, V.mu Δ.length) ∈ Γ)) (h : Exs c Γ' Δ b P) : Exs c Γ (Δ ++ [ds]) b P := fun fr s g am O S Q hQ => by
  obtain ⟨am', a, rfl⟩ : ∃ am' a, am = am' ++ [a] := by
    have := S.len
    rcases List.eq_nil_or_concat am with e | ⟨l, x, e⟩
    · subst e; simp at this
    · exact ⟨l, x, by simp [e]⟩
  have hl : am'.length = Δ.length := by have := S.len; simpa using this
  obtain ⟨⟨vs, n, ho, hr⟩, _⟩ := S.muts am'.length a ds (by simp) (by rw [hl]; simp)
  exact h fr s _ am' O (S.freeze hl ho hr hΓ) Q hQ

/-- return a list that turned -/
theorem ex_ret_mu {x : Str} {p pos : Pos} {i : Nat} {ds : List D} (hm : (x, V.mu i) ∈ Γ) (hi : Δ[i]? = some ds) (h : P (.ret (.list ds)) [] []) (hd : (x == ("__debug__" : Str)) = false := by decide) (hc : (x == ("__classdict__" : Str)) = false := by decide) :
    Ex1 c Γ Δ (.Return (some (.Name x p)) pos) P := fun fr s g am O S Q hQ => by
  obtain ⟨m, hn, hp⟩ := S.loc
  obtain ⟨v, h1, h2⟩ := hp _ hm
  cases h1 with
  | mu i a ha =>
    obtain ⟨⟨vs, n, ho, hr⟩, hne, h0, hg⟩ := S.muts i a ds ha hi
    refine wpAny_Return_some (wpAny_Name (load_At O S hn h2 hc (hQ (.ret (.list ds)) _ [] [] s.heap (g.add a (lstO vs n)) [] s.toks h (.ret _ _ (.list ds a vs n (Fz.add_self _ _ _) (hr.mono (Fz.add_keep hg)))) ?_)) hd)
    refine ⟨S.keep, fun b o e => ?_, fun b o e => Fz.add_keep hg _ _ (S.gsub b o e), fun b o e => ?_, ?_, S.hL, ⟨m, hn, fun p hp => nomatch hp⟩, fun b hb => ?_, rfl, List.nodup_nil, fun i a ds h1 => by simp at h1⟩
    · unfold Fz.add at e
      by_cases hb : b = a
      · rw [if_pos hb] at e; cases e; exact hb ▸ ho
      · rw [if_neg hb] at e; exact S.sub b o e
    · unfold Fz.add at e
      by_cases hb : b = a
      · exact .inr (hb ▸ h0)
      · rw [if_neg hb] at e; exact S.own b o e
    · unfold Fz.add; rw [if_neg (Ne.symm hne)]; exact S.gL
    · obtain ⟨r1, r2, r3, r4, r5⟩ := S.ocs b hb
      refine ⟨r1, ?_, r3, r4, by simp⟩
      unfold Fz.add
      have hne' : b ≠ a := fun q => r5 (q ▸ List.mem_of_getElem? ha)
      rw [if_neg hne']; exact r2

theorem Reps.split {g : Fz} : ∀ {d : List D} {v : List Value} {d' : List D} {v' : List Value}, Reps g (d ++ d') (v ++ v') → d.length = v.length → Reps g d v ∧ Reps g d' v'
  | [], [], _, _, h, _ => ⟨.nil, h⟩
  | [], _ :: _, _, _, _, e => by simp at e
  | _ :: _, [], _, _, _, e => by simp at e
  | x :: d, y :: v, _, _, .cons a t, e => let ⟨h1, h2⟩ := Reps.split t (by simpa using e); ⟨.cons a h1, h2⟩

/-! methods of a list that turns -/
theorem w_list_meth {fr : Frm} {s : Shared} {g : Fz} {am : List Addr} {x name : Str} {id : String} {p ap pos pos' : Pos} {i : Nat} {args : List Expr} {Q : Flow → Shared → Prop} (O : Okf c fr) (S : St fr Γ Δ s.heap g am) (hm : (x, V.mu i) ∈ Γ)
    (slot : Slot "list" name id) (hty : typeOf (.builtin id) = pure (.type "method_descriptor")) (hl : (ap.endLine == pos.line) = true) (hd : (x == ("__debug__" : Str)) = false) (hc : (x == ("__classdict__" : Str)) = false)
    (hb : attributeBase (.Name x p) name fr.env (eval (.Name x p) fr.env) = eval (.Name x p) fr.env)
    (hf : ((backTo pos (starEach args fr.env)).all (fun x => !x.1) && (backToKw pos (keywordEach [] fr.env)).all (fun x => x.1.isSome) && decide (args.length + ([] : List Keyword).length + (if ([] : List Keyword).isEmpty then 0 else 1) < 30)) = true)
    (h : ∀ a, am[i]? = some a → W c fr (callWith pos (.builtin id) [.ref a] (backTo pos (starEach args fr.env)) []) (fun _ => Q .next) s) : W c fr (exec (.Expr (.Call (.Attribute (.Name x p) name ap) args [] pos) pos') fr.env) Q s := by
  obtain ⟨m, hn, hp⟩ := S.loc
  obtain ⟨v, h1, h2⟩ := hp _ hm
  cases h1 with
  | mu i a ha =>
    have hlt := (List.getElem?_eq_some_iff.mp ha).1
    obtain ⟨⟨vs, n, ho, hr⟩, _⟩ := S.muts i a _ ha (List.getElem?_eq_getElem (S.len ▸ hlt))
    exact wpAny_Expr_any (wpAny_Call_method hb hf hl F.plainAttrs_list slot hty (wpAny_Name (load_At O S hn h2 hc ⟨⟨_, ho, rfl⟩, fun a e => by cases e; exact ⟨_, ho, rfl⟩, h a ha⟩) hd)) (by unfold interactive; rw [O.sc, O.kind]; rfl) rfl

theorem upd_list {h : Heap} {a : Addr} {vs ws : List Value} {n : Nat} (ho : h.get? a = some (lstO vs n)) (f : Array Value → Array Value) (hf : f vs.toArray = ws.toArray) : ∃ n', (h.update a (Obj.mapSeq f)).get? a = some (lstO ws n') ∧ Heap.SameBut a h (h.update a (Obj.mapSeq f)) := by
  have := IsL.update (n := n) ho f
  rw [hf] at this
  exact ⟨_, this, Heap.SameBut.update ..⟩

/-- x.append(e) -/
theorem ex_append {x : Str} {p ap pos pos' : Pos} {i : Nat} {ds : List D} {e : Expr} {d : D} (hm : (x, V.mu i) ∈ Γ) (hi : Δ[i]? = some ds) (he : EvF c Γ Δ e d) (h : P .next Γ (Δ.set i (ds ++ [d]))) (hz : ds.length < sizeLine)
    (hl : (ap.endLine == pos.line) = true := by rfl) (hd : (x == ("__debug__" : Str)) = false := by decide) (hc : (x == ("__classdict__" : Str)) = false := by decide)
    (hb : ∀ env, attributeBase (.Name x p) "append" env (eval (.Name x p) env) = eval (.Name x p) env := by intro _; rfl)
    (ht : ∀ env, backTo pos (starEach [e] env) = [(false, eval e env)] := by intro _; rfl) : Ex1 c Γ Δ (.Expr (.Call (.Attribute (.Name x p) "append" ap) [e] [] pos) pos') P := fun fr s g am O S Q hQ => by
  refine w_list_meth O S hm F.slot_list_append F.type_list_append hl hd hc (hb _) (by rw [ht]; rfl) fun a ha => ?_
  rw [ht]
  refine PySem.P.append_list (he fr s g am O S _ fun v h1 g1 t1 k1 r1 => ?_)
  have S1 := S.gr k1
  obtain ⟨⟨vs, n, ho, hr⟩, _⟩ := S1.muts i a ds ha hi
  have e1 := hr.length
  refine ⟨vs.toArray, n, by rw [List.size_toArray, e1]; exact Nat.le_of_lt hz, ho, ?_⟩
  obtain ⟨n', ho', hs'⟩ := upd_list (ws := vs ++ [v]) ho (fun xs => xs.push v) (by simp)
  exact hQ .next .next Γ _ _ g1 am t1 h .next (S1.setMut ha hs' ho' (hr.append (.cons r1 .nil)))

/-- x.pop() -/
theorem ex_pop {x : Str} {p ap pos pos' : Pos} {i : Nat} {ds : List D} {d : D} (hm : (x, V.mu i) ∈ Γ) (hi : Δ[i]? = some (ds ++ [d])) (h : P .next Γ (Δ.set i ds)) (hz : ds.length < sizeLine)
    (hl : (ap.endLine == pos.line) = true := by rfl) (hd : (x == ("__debug__" : Str)) = false := by decide) (hc : (x == ("__classdict__" : Str)) = false := by decide)
    (hb : ∀ env, attributeBase (.Name x p) "pop" env (eval (.Name x p) env) = eval (.Name x p) env := by intro _; rfl) : Ex1 c Γ Δ (.Expr (.Call (.Attribute (.Name x p) "pop" ap) [] [] pos) pos') P := fun fr s g am O S Q hQ => by
  refine w_list_meth O S hm F.slot_list_pop F.type_list_pop hl hd hc (hb _) rfl fun a ha => ?_
  obtain ⟨⟨vs, n, ho, hr⟩, _⟩ := S.muts i a _ ha hi
  have e1 := hr.length
  rw [List.length_append, List.length_singleton] at e1
  obtain ⟨vs', v, rfl⟩ : ∃ vs' v, vs = vs' ++ [v] := by
    rcases List.eq_nil_or_concat vs with e | ⟨l, x, e⟩
    · subst e; simp at e1
    · exact ⟨l, x, by simp [e]⟩
  have e2 : vs'.length = ds.length := by simpa using e1
  refine PySem.P.pop_list (y := v) ho (by simp) ?_ (by rw [List.size_toArray, List.length_append, List.length_singleton, e2]; exact hz)
  obtain ⟨n', ho', hs'⟩ := upd_list (ws := vs') ho (fun xs => xs.eraseIdxIfInBounds ((vs' ++ [v]).toArray.size - 1)) (by simp [Array.eraseIdxIfInBounds, List.eraseIdx_append_of_length_le])
  refine hQ .next .next Γ _ _ g am s.toks h .next (S.setMut ha hs' ho' (Reps.split hr e2.symm).1)

/-- x.insert(k, e) -/
theorem ex_insert {x : Str} {p ap pos pos' : Pos} {i : Nat} {ds : List D} {k e : Expr} {d : D} {z : Int} (hm : (x, V.mu i) ∈ Γ) (hi : Δ[i]? = some ds) (hk : EvF c Γ Δ k (.int z)) (he : EvF c Γ Δ e d) (h : P .next Γ (Δ.set i (ds.take z.toNat ++ d :: ds.drop z.toNat))) (hz : ds.length < sizeLine) (hz0 : 0 ≤ z) (hn : z.toNat ≤ ds.length)
    (hl : (ap.endLine == pos.line) = true := by rfl) (hd : (x == ("__debug__" : Str)) = false := by decide) (hc : (x == ("__classdict__" : Str)) = false := by decide)
    (hb : ∀ env, attributeBase (.Name x p) "insert" env (eval (.Name x p) env) = eval (.Name x p) env := by intro _; rfl)
    (ht : ∀ env, backTo pos (starEach [k, e] env) = [(false, eval k env), (false, eval e env)] := by intro _; rfl) : Ex1 c Γ Δ (.Expr (.Call (.Attribute (.Name x p) "insert" ap) [k, e] [] pos) pos') P := fun fr s g am O S Q hQ => by
  refine w_list_meth O S hm F.slot_list_insert F.type_list_insert hl hd hc (hb _) (by rw [ht]; rfl) fun a ha => ?_
  rw [ht]
  refine method_meets F.slot_list_insert F.entry_list_insert rfl (Calls.evalArgs_plain (Calls.spliced_cons (hk fr s g am O S _ fun vk h1 g1 t1 k1 r1 => Calls.spliced_cons (he fr _ g1 am O (S.gr k1) _ fun v h2 g2 t2 k2 r2 => Calls.spliced_nil ?_))))
  cases r1 with
  | int _ tk =>
    have S1 := (S.gr k1).gr k2
    obtain ⟨⟨vs, n', ho, hr⟩, _⟩ := S1.muts i a ds ha hi
    have e1 := hr.length
    have hz9 : ds.length < 16777216 := sizeLine_lit ▸ hz
    have hf : ¬(!Builtin.List.listFitsIndex z) = true := by
      have : Builtin.List.listFitsIndex z = true := by unfold Builtin.List.listFitsIndex; simp only [Bool.and_eq_true, decide_eq_true_eq]; omega
      simp [this]
    have hz8 : vs.toArray.size ≤ sizeLine := by rw [List.size_toArray, e1]; exact Nat.le_of_lt hz
    refine ⟨rfl, ⟨_, ho, rfl⟩, F.args_list_insert_3 _ _ _, _, AutoSeq1.list_insert_list_int_val_1 a vs.toArray n' z tk v hf hz8, ho, ?_⟩
    obtain ⟨n2, ho', hs'⟩ := upd_list (ws := vs.take z.toNat ++ v :: vs.drop z.toNat) ho (fun xs => have k := if z < 0 then (z + (xs.size : Int)).toNat else min z.toNat xs.size; (xs.extract 0 k).push v ++ xs.extract k) (by
      have : ¬ z < 0 := by omega
      simp only [this, if_false, List.size_toArray]
      rw [Nat.min_eq_left (by omega)]
      apply Array.toList_inj.mp
      simp
      exact List.take_of_length_le (by simp))
    refine hQ .next .next Γ _ _ g2 am _ h .next (S1.setMut ha hs' ho' ?_)
    have hsp := Reps.split (d := ds.take z.toNat) (v := vs.take z.toNat) (d' := ds.drop z.toNat) (v' := vs.drop z.toNat) (by rw [List.take_append_drop, List.take_append_drop]; exact hr) (by simp; omega)
    exact hsp.1.append (.cons r2 hsp.2)
end Mine

set_option maxRecDepth 100000
set_option autoImplicit false
set_option linter.unusedVariables false
namespace Mine
open PySem PySem.W PySem.Calls PyProof.Rows
variable {c : Cfg} {Γ : Gam} {Δ : Del} {P : Post}

theorem fresh_size {h : Heap} : h.get? h.objs.size = none := by
  cases q : h.get? h.objs.size with
  | none => rfl
  | some o => exact absurd (Heap.lt_size q) (Nat.lt_irrefl _)
theorem none_of_sub {g : Fz} {h : Heap} {a : Addr} (s : ∀ b o, g b = some o → h.get? b = some o) (e : h.get? a = none) : g a = none := by
  cases q : g a with
  | none => rfl
  | some o => rw [s a o q] at e; cases e
theorem none_of_keep {h h' : Heap} {a : Addr} (s : ∀ b o, h.get? b = some o → h'.get? b = some o) (e : h'.get? a = none) : h.get? a = none := by
  cases q : h.get? a with
  | none => rfl
  | some o => rw [s a o q] at e; cases e

/-- an iterator over xs, as it stands behind iter(e) -/
structure ItAt (c : Cfg) (fr : Frm) (str : Bool) (xs : List D) (h : Heap) (g : Fz) (h' : Heap) (g' : Fz) (I : Addr) (fp wr : List Addr) (Pw : Nat → Value → Prop) (Sw : Nat → Heap → Prop) : Prop where
  gr : Gr h g h' g'
  wk : Walks c.X.prog c.X.w fr.A I fp wr xs.length Pw Sw
  st : Sw 0 h'
  new : ∀ b ∈ wr, h.get? b = none
  free : ∀ b ∈ wr, g' b = none
  fp : ∀ b ∈ fp, b ∈ wr ∨ (if str = true then g' b ≠ none else h'.get? b ≠ none)
  wl : ∀ i k, Sw i k → ∀ b ∈ wr, k.get? b ≠ none
  item : ∀ i v, Pw i v → ∃ x, xs[i]? = some x ∧ Rep g' x v

def EvI (str : Bool) (c : Cfg) (Γ : Gam) (Δ : Del) (e : Expr) (xs : List D) : Prop := ∀ fr s g am, Okf c fr → St fr Γ Δ s.heap g am → ∀ Q : Value → Shared → Prop,
  (∀ I fp wr Pw Sw h' g' tk, ItAt c fr str xs s.heap g h' g' I fp wr Pw Sw → Q (.ref I) { s with heap := h', toks := tk }) → W c fr (eval e fr.env) (fun xv s₁ => W c fr (pyIter xv) Q s₁) s

theorem EvI.weak {e : Expr} {xs : List D} (x : EvI true c Γ Δ e xs) : EvI false c Γ Δ e xs := fun fr s g am O S Q hQ => x fr s g am O S Q fun I fp wr Pw Sw h' g' tk it => hQ I fp wr Pw Sw h' g' tk
  { it with fp := fun b hb => (it.fp b hb).imp id fun q => by
              rw [if_pos rfl] at q
              rw [if_neg (by decide)]
              intro e; exact q (none_of_sub it.gr.sub e) }

theorem it_mk {fr : Frm} {str : Bool} {xs : List D} {h h1 H : Heap} {g g1 : Fz} {I : Addr} {fp : List Addr} {Pw : Nat → Value → Prop} {Sw : Nat → Heap → Prop} (k1 : Gr h g h1 g1) (kp : ∀ b o, h1.get? b = some o → H.get? b = some o)
    (W : Walks c.X.prog c.X.w fr.A I fp [I] xs.length Pw Sw) (st : Sw 0 H) (hf : h1.get? I = none) (hI : ∀ i k, Sw i k → k.get? I ≠ none) (hfp : ∀ b ∈ fp, b = I ∨ (if str = true then g1 b ≠ none else H.get? b ≠ none))
    (item : ∀ i v, Pw i v → ∃ x, xs[i]? = some x ∧ Rep g1 x v) : ItAt c fr str xs h g H g1 I fp [I] Pw Sw where
  gr := k1.trans (.heap k1.sub kp)
  wk := W
  st := st
  new := fun b hb => by rw [List.mem_singleton.mp hb]; exact none_of_keep k1.hk hf
  free := fun b hb => by rw [List.mem_singleton.mp hb]; exact none_of_sub k1.sub hf
  fp := fun b hb => (hfp b hb).imp (fun e => by rw [e]; exact List.mem_singleton.mpr rfl) id
  wl := fun i k hk b hb => by rw [List.mem_singleton.mp hb]; exact hI i k hk
  item := item

theorem evi_list {e : Expr} {xs : List D} (h : EvF c Γ Δ e (.list xs)) (hh : c.hd = true := by rfl) : EvI true c Γ Δ e xs := fun fr s g am O S Q hQ =>
  h fr s g am O S _ fun v h1 g1 t1 k1 r1 => by
    cases r1 with
    | list _ a vs n ho hr =>
      have hoh := k1.sub _ _ ho
      refine wpAny_pyIter_list (isList_of hoh) ?_
      have hne : a ≠ h1.objs.size := fun e => by rw [e, fresh_size] at hoh; cases hoh
      have kp : ∀ b o, h1.get? b = some o → (h1.push { cls := .type "list_iterator", data := .fields #[.ref a, .int 0 0] }).get? b = some o := fun b o e => Heap.get?_push_of_some _ e
      have W := Walks.list (prog := c.X.prog) (w := c.X.w) (A := fr.A) (O.hand hh) h1.objs.size a hne vs.toArray
      have eW : vs.toArray.size = xs.length := by simp [hr.length]
      rw [eW] at W
      refine hQ _ _ _ _ _ _ g1 t1 (it_mk k1 kp W ⟨⟨_, Heap.get?_push_size _ rfl, rfl, rfl⟩, (isList_of hoh).at fun o e => kp _ _ e⟩ fresh_size (fun i k hk => let ⟨⟨o, ho, _⟩, _⟩ := hk; by rw [ho]; simp) (fun b hb => ?_) fun i v hv => hr.getv i v (by simpa using hv))
      rcases List.mem_cons.mp hb with e | hb
      · exact .inl e
      · rw [List.mem_singleton.mp hb, if_pos rfl, ho]; exact .inr (by simp)
theorem evi_listW {e : Expr} {xs : List D} (h : Ev c Γ Δ e (.list xs)) (hh : c.hd = true := by rfl) : EvI false c Γ Δ e xs := fun fr s g am O S Q hQ =>
  h fr s g am O S _ fun v h1 g1 t1 k1 r1 => by
    obtain ⟨a, vs, n, rfl, hoh, hr⟩ := r1.list k1.sub
    refine wpAny_pyIter_list (isList_of hoh) ?_
    have hne : a ≠ h1.objs.size := fun e => by rw [e, fresh_size] at hoh; cases hoh
    have kp : ∀ b o, h1.get? b = some o → (h1.push { cls := .type "list_iterator", data := .fields #[.ref a, .int 0 0] }).get? b = some o := fun b o e => Heap.get?_push_of_some _ e
    have W := Walks.list (prog := c.X.prog) (w := c.X.w) (A := fr.A) (O.hand hh) h1.objs.size a hne vs.toArray
    have eW : vs.toArray.size = xs.length := by simp [hr.length]
    rw [eW] at W
    refine hQ _ _ _ _ _ _ g1 t1 (it_mk k1 kp W ⟨⟨_, Heap.get?_push_size _ rfl, rfl, rfl⟩, (isList_of hoh).at fun o e => kp _ _ e⟩ fresh_size (fun i k hk => let ⟨⟨o, ho, _⟩, _⟩ := hk; by rw [ho]; simp) (fun b hb => ?_) fun i v hv => hr.getv i v (by simpa using hv))
    rcases List.mem_cons.mp hb with e | hb
    · exact .inl e
    · rw [List.mem_singleton.mp hb, if_neg (by decide), kp _ _ hoh]; exact .inr (by simp)
theorem evi_tupW {e : Expr} {xs : List D} (h : Ev c Γ Δ e (.tup xs)) (hh : c.hd = true := by rfl) : EvI false c Γ Δ e xs := fun fr s g am O S Q hQ =>
  h fr s g am O S _ fun v h1 g1 t1 k1 r1 => by
    obtain ⟨a, vs, n, rfl, hoh, hr⟩ := r1.tup k1.sub
    have hT : h1.IsTuple a vs.toArray := ⟨_, hoh, rfl, n, rfl⟩
    refine wpAny_pyIter_tuple hT ?_
    have hne : a ≠ h1.objs.size := fun e => by rw [e, fresh_size] at hoh; cases hoh
    have kp : ∀ b o, h1.get? b = some o → (h1.push { cls := .type "tuple_iterator", data := .fields #[.ref a, .int 0 0] }).get? b = some o := fun b o e => Heap.get?_push_of_some _ e
    have W := Walks.tuple (prog := c.X.prog) (w := c.X.w) (A := fr.A) (O.hand hh) h1.objs.size a hne vs.toArray
    have eW : vs.toArray.size = xs.length := by simp [hr.length]
    rw [eW] at W
    refine hQ _ _ _ _ _ _ g1 t1 (it_mk k1 kp W ⟨⟨_, Heap.get?_push_size _ rfl, rfl, rfl⟩, ⟨_, kp _ _ hoh, rfl, n, rfl⟩⟩ fresh_size (fun i k hk => let ⟨⟨o, ho, _⟩, _⟩ := hk; by rw [ho]; simp) (fun b hb => ?_) fun i v hv => hr.getv i v (by simpa using hv))
    rcases List.mem_cons.mp hb with e | hb
    · exact .inl e
    · rw [List.mem_singleton.mp hb, if_neg (by decide), kp _ _ hoh]; exact .inr (by simp)
def signs (x : Str) : List D := x.cps.toList.map fun n => .str ⟨#[n]⟩
theorem evi_str {e : Expr} {x : Str} (h : Ev c Γ Δ e (.str x)) (ha : x.cps.all (· < 128) = true) (hh : c.hd = true := by rfl) : EvI true c Γ Δ e (signs x) := fun fr s g am O S Q hQ =>
  h fr s g am O S _ fun v h1 g1 t1 k1 r1 => by
    obtain ⟨t, rfl⟩ := rstr r1
    refine wpAny_pyIter_ascii ha ?_
    have kp : ∀ b o, h1.get? b = some o → (h1.push { cls := .type "str_ascii_iterator", data := .fields #[.str x t, .int 0 0] }).get? b = some o := fun b o e => Heap.get?_push_of_some _ e
    have W := Walks.strAscii (prog := c.X.prog) (w := c.X.w) (A := fr.A) (O.hand hh) h1.objs.size x t
    have e : x.cps.size = (signs x).length := by simp [signs]
    rw [e] at W
    refine hQ _ _ _ _ _ _ g1 t1 (it_mk k1 kp W ⟨_, Heap.get?_push_size _ rfl, rfl, rfl⟩ fresh_size (fun i k hk => let ⟨o, ho, _⟩ := hk; by rw [ho]; simp) (fun b hb => .inl (List.mem_singleton.mp hb)) ?_)
    · rintro i v ⟨n, u, hn, rfl⟩
      exact ⟨.str ⟨#[n]⟩, by simp [signs, hn], .str _ _⟩

/-- the ints from a on -/
def zs (a : Int) (n : Nat) : List D := (List.range n).map fun (k : Nat) => D.int (a + k)
theorem w_range {fr : Frm} {h : Heap} {g g1 : Fz} {s : Shared} {n : Nat} {a b : Int} {t u v : Tok} {r : Addr} {Q : Value → Shared → Prop} (O : Okf c fr) (hh : c.hd = true) (k1 : Gr h g s.heap g1) (hr : IsRange s.heap r a b 1 t u v) (ha : -(2 ^ 62) ≤ a) (ha' : a < 2 ^ 62) (hb : -(2 ^ 62) ≤ b) (hb' : b < 2 ^ 62)
    (hn : n = (b - a).toNat) (hQ : ∀ I fp wr Pw Sw h' g' tk, ItAt c fr true (zs a n) h g h' g' I fp wr Pw Sw → Q (.ref I) { s with heap := h', toks := tk }) : W c fr (pyIter (.ref r)) Q s := by
  refine wpAny_pyIter_range hr (small_one ha ha' hb hb') ?_
  have kp : ∀ x p, s.heap.get? x = some p → (s.heap.push { cls := .type "range_iterator", data := .fields #[rawInt a, rawInt (Builtin.Range.rangeSize a b 1), rawInt 1] }).get? x = some p := fun x p e => Heap.get?_push_of_some _ e
  have W := PySem.Walks.bound (Walks.range (prog := c.X.prog) (w := c.X.w) (A := fr.A) (O.hand hh) s.heap.objs.size a 1 n)
  have e : (zs a n).length = n := by simp [zs]
  refine hQ s.heap.objs.size [s.heap.objs.size] [s.heap.objs.size] (fun i v => i < n ∧ ∃ t, v = .int (a + i * 1) t) (fun i h => IsRangeIter h s.heap.objs.size (a + (i : Nat) * 1) ((n : Int) - (i : Nat)) 1) _ g1 s.toks (it_mk k1 kp (by rw [e]; exact W) ?_ fresh_size (fun i k hk => by rw [show k.get? _ = _ from hk]; simp) (fun x hx => .inl (List.mem_singleton.mp hx)) ?_)
  · have e2 : Builtin.Range.rangeSize a b 1 = (n : Int) := by rw [rangeSize_one, hn]; split <;> omega
    have e3 : a + ((0 : Nat) : Int) * 1 = a := by omega
    have e4 : (n : Int) - ((0 : Nat) : Int) = n := by omega
    rw [e2, e3, e4]
    exact Heap.get?_push_size _ rfl
  · rintro i v ⟨hi, tk, rfl⟩
    refine ⟨.int (a + i * 1), ?_, .int _ _⟩
    simp [zs, hi]
theorem w_global {fr : Frm} {s : Shared} {g : Fz} {am : List Addr} {x : Str} {p : Pos} {v : Value} {Q : Value → Shared → Prop} (O : Okf c fr) (S : St fr Γ Δ s.heap g am) (hk : c.sc.names.lookup x = some .globalImplicit) (hb : x ∈ c.X.bl) (hv : bootBuiltins x = some v)
    (hd : (x == ("__debug__" : Str)) = false) (hQ : Q v s) : W c fr (eval (.Name x p) fr.env) Q s := by
  obtain ⟨hg, hbb⟩ := O.glo.bl _ hb
  have G := O.glo.keeps S.keep
  exact Name_function_global (O.sc ▸ O.kind) (by unfold Env.kindOf; rw [O.sc]; exact hk) (loadGlobal_builtin (mb := c.X.mb) (v := v) (O.glob ▸ G.g) hg (O.blt ▸ G.b) (by rw [hbb]; exact hv) hQ) hd
theorem evi_range1 {p pos : Pos} {e : Expr} {n : Int} (h : Ev c Γ Δ e (.int n)) (hn : n < 2 ^ 62) (hn' : -(2 ^ 62) ≤ n) (hk : c.sc.names.lookup (Str.ofString "range") = some .globalImplicit) (hb : Str.ofString "range" ∈ c.X.bl) (hh : c.hd = true := by rfl)
    (he : ∀ env, starEach [e] env = [(false, eval e env)] := by intro _; rfl) : EvI true c Γ Δ (.Call (.Name (Str.ofString "range") p) [e] [] pos) (zs 0 n.toNat) := fun fr s g am O S Q hQ => by
  refine Call_ (w_global O S hk hb PyProof.Rows.boot_range (by decide) ?_)
  refine PyProof.Rows.callWith_type1 (args_cons (h fr s g am O S _ fun v h1 g1 t1 k1 r1 => args_nil ?_) (he _)) (he _)
  obtain ⟨t, rfl⟩ := rint r1
  have kp1 : ∀ b p, h1.get? b = some p → (h1.push { cls := .type "range", data := .fields #[.int 0 t1, .int n t, .int 1 (t1 + 1)] }).get? b = some p := fun b p e => Heap.get?_push_of_some _ e
  exact call_range_1 (w_range O hh (k1.trans (.heap k1.sub kp1)) (IsRange.new ..) (by decide) (by decide) hn' hn (by omega) hQ)
theorem evi_range2 {p pos : Pos} {e f : Expr} {a b : Int} (h : Ev c Γ Δ e (.int a)) (h' : Ev c Γ Δ f (.int b)) (ha : -(2 ^ 62) ≤ a) (ha' : a < 2 ^ 62) (hb0 : -(2 ^ 62) ≤ b) (hb' : b < 2 ^ 62) (hk : c.sc.names.lookup (Str.ofString "range") = some .globalImplicit) (hb : Str.ofString "range" ∈ c.X.bl) (hh : c.hd = true := by rfl)
    (he : ∀ env, starEach [e, f] env = (false, eval e env) :: starEach [f] env := by intro _; rfl) (he' : ∀ env, starEach [f] env = [(false, eval f env)] := by intro _; rfl) : EvI true c Γ Δ (.Call (.Name (Str.ofString "range") p) [e, f] [] pos) (zs a (b - a).toNat) := fun fr s g am O S Q hQ => by
  refine Call_ (w_global O S hk hb PyProof.Rows.boot_range (by decide) ?_)
  refine PyProof.Rows.callWith_type1 (args_cons (h fr s g am O S _ fun v h1 g1 t1 k1 r1 => args_cons (h' fr _ g1 am O (S.gr k1) _ fun v2 h2 g2 t2 k2 r2 => args_nil ?_) (he' _)) (he _)) (he _) (by rw [he']; rfl)
  obtain ⟨t, rfl⟩ := rint r1
  obtain ⟨u, rfl⟩ := rint r2
  have kp1 : ∀ x p, h2.get? x = some p → (h2.push { cls := .type "range", data := .fields #[.int a t, .int b u, .int 1 t2] }).get? x = some p := fun x p e => Heap.get?_push_of_some _ e
  exact call_range_2 (w_range O hh ((k1.trans k2).trans (.heap k2.sub kp1)) (IsRange.new ..) ha ha' hb0 hb' rfl hQ)

/-! a frame anew: what stands is kept -/
def reb (fr : Frm) (h : Heap) (g : Fz) (am : List Addr) : Frm := { fr with h₀ := hideAll h (fr.env.locals :: (fr.oc ++ am)), g₀ := g }

theorem St.inReb {fr : Frm} {h : Heap} {g : Fz} {am : List Addr} (S : St fr Γ Δ h g am) {b : Addr} {o : Obj} (e : fr.h₀.get? b = some o) : (reb fr h g am).h₀.get? b = some o := by
  refine hideAll_get _ (S.keep b o e) fun hm => ?_
  rcases List.mem_cons.mp hm with q | hm
  · rw [q, S.hL] at e; cases e
  · rcases List.mem_append.mp hm with hm | hm
    · rw [(S.ocs b hm).2.2.1] at e; cases e
    · obtain ⟨i, hi, q⟩ := List.mem_iff_getElem.mp hm
      have M := S.muts i b _ (by rw [List.getElem?_eq_getElem hi, q]) (List.getElem?_eq_getElem (S.len ▸ hi))
      rw [M.new] at e; cases e
theorem Okf.reb {fr : Frm} {h : Heap} {g : Fz} {am : List Addr} (O : Okf c fr) (S : St fr Γ Δ h g am) : Okf c (reb fr h g am) :=
  { O with glo := O.glo.keeps fun b o e => S.inReb e, hck := fun b o e => S.inReb (O.hck b o e) }
theorem At.reb {fr : Frm} {h h₁ : Heap} {g : Fz} {am : List Addr} {m : Str → Option Value} {x : Str} {v : Value} (a : At fr h m x v) : At (reb fr h₁ g am) h m x v := by
  cases a with
  | loc h1 h2 => exact .loc h1 h2
  | ocell a h1 h2 h3 h4 => exact .ocell a h1 h2 h3 h4
  | cell a h1 h2 h3 => exact .cell a h1 h2 h3
theorem At.unreb {fr : Frm} {h h₁ : Heap} {g : Fz} {am : List Addr} {m : Str → Option Value} {x : Str} {v : Value} (a : At (Mine.reb fr h₁ g am) h m x v) : At fr h m x v := by
  cases a with
  | loc h1 h2 => exact .loc h1 h2
  | ocell a h1 h2 h3 h4 => exact .ocell a h1 h2 h3 h4
  | cell a h1 h2 h3 => exact .cell a h1 h2 h3
theorem St.reb {fr : Frm} {h : Heap} {g : Fz} {am : List Addr} (S : St fr Γ Δ h g am) : St (Mine.reb fr h g am) Γ Δ h g am where
  keep := fun b o e => of_hideAll _ e
  sub := S.sub
  gsub := fun _ _ e => e
  own := fun _ _ e => .inl e
  gL := S.gL
  hL := hideAll_none _ (.head _)
  loc := let ⟨m, hn, hp⟩ := S.loc; ⟨m, hn, fun p hm => let ⟨v, h1, h2⟩ := hp p hm; ⟨v, h1, h2.reb⟩⟩
  ocs := fun b hb => let ⟨r1, r2, r3, r4, r5⟩ := S.ocs b hb; ⟨r1, r2, hideAll_none _ (.tail _ (List.mem_append_left _ hb)), r4, r5⟩
  len := S.len
  nd := S.nd
  muts := fun i a ds h1 h2 => let M := S.muts i a ds h1 h2; ⟨M.lst, M.ne, hideAll_none _ (.tail _ (List.mem_append_right _ (List.mem_of_getElem? h1))), M.free⟩
theorem St.unreb {fr : Frm} {h h' : Heap} {g g' : Fz} {am am' : List Addr} {Γ' : Gam} {Δ' : Del} (S : St fr Γ Δ h g am) (S' : St (Mine.reb fr h g am) Γ' Δ' h' g' am') : St fr Γ' Δ' h' g' am' where
  keep := fun b o e => S'.keep b o (S.inReb e)
  sub := S'.sub
  gsub := fun b o e => S'.gsub b o (S.gsub b o e)
  own := fun b o e => by
    rcases S'.own b o e with q | q
    · exact S.own b o q
    · exact .inr (none_of_keep (fun b o e => S.inReb e) q)
  gL := S'.gL
  hL := S.hL
  loc := let ⟨m, hn, hp⟩ := S'.loc; ⟨m, hn, fun p hm => let ⟨v, h1, h2⟩ := hp p hm; ⟨v, h1, h2.unreb⟩⟩
  ocs := fun b hb => let ⟨r1, r2, r3, r4, r5⟩ := S'.ocs b hb; ⟨r1, r2, (S.ocs b hb).2.2.1, r4, r5⟩
  len := S'.len
  nd := S'.nd
  muts := fun i a ds h1 h2 => let M := S'.muts i a ds h1 h2; ⟨M.lst, M.ne, none_of_keep (fun b o e => S.inReb e) M.new, M.free⟩

/-- objects of no one's turn -/
structure Off (fr : Frm) (g : Fz) (am : List Addr) (wr : List Addr) : Prop where
  off : ∀ b ∈ wr, b ≠ fr.env.locals ∧ b ∉ fr.oc ∧ b ∉ am ∧ g b = none ∧ fr.h₀.get? b = none
theorem St.off {fr : Frm} {h h' : Heap} {g : Fz} {am wr : List Addr} (S : St fr Γ Δ h g am) (F : Off fr g am wr) (k : ∀ b o, b ∉ wr → h.get? b = some o → h'.get? b = some o) : St fr Γ Δ h' g am where
  keep := fun b o e => k b o (fun hm => by rw [(F.off b hm).2.2.2.2] at e; cases e) (S.keep b o e)
  sub := fun b o e => k b o (fun hm => by rw [(F.off b hm).2.2.2.1] at e; cases e) (S.sub b o e)
  gsub := S.gsub
  own := S.own
  gL := S.gL
  hL := S.hL
  loc := by
    obtain ⟨m, hn, hp⟩ := S.loc
    refine ⟨m, hn.at' fun o e => k _ o (fun hm => (F.off _ hm).1 rfl) e, fun p hm => ?_⟩
    obtain ⟨v, h1, h2⟩ := hp p hm
    refine ⟨v, h1, ?_⟩
    cases h2 with
    | loc h3 h4 => exact .loc h3 h4
    | ocell a h3 h4 h5 h6 =>
      obtain ⟨o, ho, hd⟩ := h6
      exact .ocell a h3 h4 h5 ⟨o, k a o (fun hm => (F.off _ hm).2.1 h5) ho, hd⟩
    | cell a h3 h4 h6 => exact .cell a h3 h4 h6
  ocs := fun b hb => by
    obtain ⟨⟨v, o, ho, hd⟩, r⟩ := S.ocs b hb
    exact ⟨⟨v, o, k b o (fun hm => (F.off _ hm).2.1 hb) ho, hd⟩, r⟩
  len := S.len
  nd := S.nd
  muts := fun i a ds h1 h2 => by
    obtain ⟨⟨vs, n, ho, hr⟩, r1, r2, r3⟩ := S.muts i a ds h1 h2
    exact ⟨⟨vs, n, k a _ (fun hm => (F.off _ hm).2.2.1 (List.mem_of_getElem? h1)) ho, hr⟩, r1, r2, r3⟩

theorem ItAt.offs {fr : Frm} {xs : List D} {h h' : Heap} {g g' : Fz} {I : Addr} {str : Bool} {fp wr : List Addr} {Pw : Nat → Value → Prop} {Sw : Nat → Heap → Prop} {am : List Addr} (it : ItAt c fr str xs h g h' g' I fp wr Pw Sw) (S : St fr Γ Δ h g am) : Off fr g' am wr :=
  ⟨fun b hb => by
    have hn := it.new b hb
    refine ⟨fun e => ?_, fun hm => ?_, fun hm => ?_, it.free b hb, none_of_keep S.keep hn⟩
    · obtain ⟨m, hns, _⟩ := S.loc
      obtain ⟨o, ho⟩ := Heap.Ns.get hns
      rw [← e, hn] at ho; cases ho
    · obtain ⟨⟨v, o, ho, _⟩, _⟩ := S.ocs b hm
      rw [hn] at ho; cases ho
    · obtain ⟨i, hi, q⟩ := List.mem_iff_getElem.mp hm
      obtain ⟨⟨vs, n, ho, _⟩, _⟩ := S.muts i b _ (by rw [List.getElem?_eq_getElem hi, q]) (List.getElem?_eq_getElem (S.len ▸ hi))
      rw [hn] at ho; cases ho⟩

/-! for -/
theorem ex_for {x : Str} {px pos : Pos} {iter : Expr} {body : List Stmt} {xs : List D} (hi : EvI true c Γ Δ iter xs) (hx : Sto c x) (I : Nat → Gam → Del → Prop) (h0 : I 0 Γ Δ)
    (turn : ∀ i d Γ₁ Δ₁, xs[i]? = some d → I i Γ₁ Δ₁ → Exs c (upd Γ₁ x (.d d)) Δ₁ body fun o Γ₂ Δ₂ => match o with
      | .next | .cont => ∃ Γ₃, (∀ p ∈ Γ₃, p ∈ Γ₂) ∧ I (i + 1) Γ₃ Δ₂
      | .brk => P .next Γ₂ Δ₂
      | .ret d => P (.ret d) Γ₂ Δ₂)
    (done : ∀ Γ₁ Δ₁, I xs.length Γ₁ Δ₁ → P .next Γ₁ Δ₁) (hs : ∀ env x, foldedSetIterable iter env x = pure x := by intro _ _; rfl) : Ex1 c Γ Δ (.For (.Name x px) iter body [] pos) P := fun fr s g am O S Q hQ => by
  refine wpAny_For (hi fr s g am O S _ fun It fp wr Pw Sw h1 g1 t1 it => ?_) (hs _)
  have S1 := S.gr it.gr
  refine codeAny_forLoop (fun k s' => ∃ i Γ₁ Δ₁ h₂ g₂ am₂ tk₂, s' = { s with heap := h₂, toks := tk₂ } ∧ St fr Γ₁ Δ₁ h₂ g₂ am₂ ∧ Off fr g₂ am₂ wr ∧ (∀ b o, g1 b = some o → g₂ b = some o) ∧ Sw i h₂ ∧ I i Γ₁ Δ₁ ∧ i ≤ xs.length ∧ k = xs.length + 1 - i) ?_ (xs.length + 1)
    ⟨0, Γ, Δ, h1, g1, am, t1, rfl, S1, it.offs S, fun _ _ e => e, it.st, h0, Nat.zero_le _, rfl⟩
  rintro k s' ⟨i, Γ₁, Δ₁, h₂, g₂, am₂, tk₂, rfl, S2, F2, hg, hst, hI, hil, rfl⟩
  refine wpAny_passesOwn .never ?_
  by_cases hlt : i < xs.length
  · refine it.wk.item i _ _ _ hlt hst fun v h3 t3 hv hst3 k3 => ?_
    obtain ⟨d, hd, hr⟩ := it.item i v hv
    have S3 := S2.off F2 k3
    refine wpAny_passesOwn .never (wpAny_assign_Name (w_store O S3 hx (.d d v (hr.mono hg)) fun h4 t4 S4 k4 => ?_))
    have fpo : ∀ b ∈ fp, b ≠ fr.env.locals ∧ b ∉ fr.oc ∧ b ∉ am₂ := fun b hb => by
      rcases it.fp b hb with hb | hb
      · obtain ⟨r1, r2, r3, _⟩ := F2.off b hb; exact ⟨r1, r2, r3⟩
      · rw [if_pos rfl] at hb
        obtain ⟨o, ho⟩ := Option.ne_none_iff_exists'.mp hb
        have ho2 := hg b o ho
        refine ⟨fun e => ?_, fun hm => ?_, fun hm => ?_⟩
        · rw [e, S3.gL] at ho2; cases ho2
        · rw [(S3.ocs b hm).2.1] at ho2; cases ho2
        · obtain ⟨j, hj, q⟩ := List.mem_iff_getElem.mp hm
          have M := S3.muts j b _ (by rw [List.getElem?_eq_getElem hj, q]) (List.getElem?_eq_getElem (S3.len ▸ hj))
          rw [M.free] at ho2; cases ho2
    have hst4 : Sw (i + 1) h4 := it.wk.frame _ _ _ hst3 fun b hb o e => k4 b o (fpo b hb).1 (fpo b hb).2.1 e
    have inR : ∀ b o, b ∈ fp → h4.get? b = some o → (reb fr h4 g₂ am₂).h₀.get? b = some o := fun b o hb e => by
      refine hideAll_get _ e fun hm => ?_
      obtain ⟨r1, r2, r3⟩ := fpo b hb
      rcases List.mem_cons.mp hm with q | hm
      · exact r1 q
      · rcases List.mem_append.mp hm with hm | hm
        · exact r2 hm
        · exact r3 hm
    refine wpAny_passesOwn .never (turn i d Γ₁ Δ₁ hd hI (reb fr h4 g₂ am₂) _ g₂ am₂ (O.reb S4) S4.reb _ fun o f Γ₅ Δ₅ h5 g5 am5 t5 hp hf S5 => ?_)
    have S5' := S4.unreb S5
    have kept : ∀ b o, b ∈ fp → h4.get? b = some o → h5.get? b = some o := fun b o hb e => S5.keep b o (inR b o hb e)
    have F5 : Off fr g5 am5 wr := ⟨fun b hb => by
      obtain ⟨r1, r2, r3, r4, r5⟩ := F2.off b hb
      obtain ⟨o, ho⟩ := Option.ne_none_iff_exists'.mp (it.wl _ _ hst4 b hb)
      have hin := inR b o (it.wk.sub b hb) ho
      refine ⟨r1, r2, fun hm => ?_, ?_, r5⟩
      · obtain ⟨j, hj, q⟩ := List.mem_iff_getElem.mp hm
        have M := S5.muts j b _ (by rw [List.getElem?_eq_getElem hj, q]) (List.getElem?_eq_getElem (S5.len ▸ hj))
        rw [M.new] at hin; cases hin
      · cases q : g5 b with
        | none => rfl
        | some o' =>
          rcases S5.own b o' q with e | e
          · have e' : g₂ b = some o' := e
            rw [r4] at e'; cases e'
          · rw [hin] at e; cases e⟩
    have hg5 : ∀ b o, g1 b = some o → g5 b = some o := fun b o e => S5.gsub b o (hg b o e)
    have hst5 : Sw (i + 1) h5 := it.wk.frame _ _ _ hst4 fun b hb o e => kept b o hb e
    cases hf with
    | next => obtain ⟨Γ₃, hwk, hi3⟩ := hp; exact ⟨_, by omega, i + 1, Γ₃, Δ₅, h5, g5, am5, t5, rfl, S5'.weak hwk, F5, hg5, hst5, hi3, hlt, rfl⟩
    | cont => obtain ⟨Γ₃, hwk, hi3⟩ := hp; exact ⟨_, by omega, i + 1, Γ₃, Δ₅, h5, g5, am5, t5, rfl, S5'.weak hwk, F5, hg5, hst5, hi3, hlt, rfl⟩
    | brk => exact hQ .next .next _ _ h5 g5 am5 t5 hp .next S5'
    | ret d v r => exact hQ (.ret d) _ _ _ h5 g5 am5 t5 hp (.ret d v r) S5'
  · have hin : i = xs.length := by omega
    subst hin
    refine it.wk.done _ _ _ hst fun h3 t3 k3 => wpAny_execs_nil ?_
    exact hQ .next .next _ _ h3 g₂ am₂ t3 (done _ _ hI) .next (S2.off F2 k3)
end Mine

set_option maxRecDepth 100000
set_option autoImplicit false
set_option linter.unusedVariables false
namespace Mine
open PySem PySem.W PySem.Calls PyProof.Rows
variable {c : Cfg} {Γ : Gam} {Δ : Del} {P : Post}

/-! a comprehension's own block -/
def relab (sc csc : Scope) : Scope := { sc with names := sc.names.map fun (n, k) => if (k == .free && csc.kind == .function && csc.names.lookup n == some .cell) then (n, .cell) else (n, k) }
theorem relab_eq {fr : Frm} (O : Okf c fr) (sc : Scope) : relabel sc fr.env = relab sc c.sc := by unfold relabel relab Env.kindOf; rw [O.sc]

theorem cellsFrom_app : ∀ (names : List (Str × NameKind)) (n : Nat) (acc : List (Str × Addr)), cellsFrom n names acc = cellsFrom n names [] ++ acc
  | [], _, _ => rfl
  | (x, k) :: r, n, acc => by
    unfold cellsFrom
    split
    · rw [cellsFrom_app r (n + 1) ((x, n) :: acc), cellsFrom_app r (n + 1) [(x, n)], List.append_assoc]; rfl
    · exact cellsFrom_app r n acc

theorem w_newEnv {fr : Frm} {s : Shared} {scope : Scope} {globals : Addr} {cl : List (Str × Addr)} {qual : Str} {env : Env} {Q : Env → Shared → Prop} (hk : scope.kind = .function)
    (hQ : ∀ h', (∀ b o, s.heap.get? b = some o → h'.get? b = some o) → h'.Ns s.heap.objs.size (fun _ => none) → (∀ n a, (n, a) ∈ cellsFrom (s.heap.objs.size + 1) scope.names [] → h'.IsCell a none ∧ s.heap.objs.size < a) → (cellsFrom (s.heap.objs.size + 1) scope.names []).Pairwise (fun x y => x.2 ≠ y.2) →
      Q (newEnv scope s.heap.objs.size globals (cellsFrom (s.heap.objs.size + 1) scope.names [] ++ cl) qual none .none (some env) builtinsNs) { s with heap := h' }) :
    W c fr (newFunctionEnv scope globals cl [] qual none .none (some env)) Q s := by
  unfold W newFunctionEnv
  simp only [Option.isSome_some, if_true]
  refine wpAny_bind (wpAny_alloc ?_)
  refine wpAny_bind (wpAny_layCells _ (fun name kind cells => by cases hkc : kind == NameKind.cell <;> simp [hkc]) _ _ _ _ ?_)
  have ok := cellsFrom_ok scope.names (s.heap.push { cls := .type "dict", data := .dict #[] }) (s.heap.objs.size + 1) [] ⟨fun _ _ hm => (nomatch hm), List.Pairwise.nil⟩ (by rw [Heap.size_push]; exact Nat.le_refl _)
  rw [Heap.size_push] at ok
  rw [show ({ s with heap := s.heap.push { cls := .type "dict", data := .dict #[] } } : Shared).heap.objs.size = s.heap.objs.size + 1 from Heap.size_push ..]
  rw [cellsFrom_app]
  refine wpAny_bind ?_
  rw [List.forIn_nil]
  refine wpAny_pure (wpAny_pure ?_)
  exact hQ _ (fun b o e => pushCells_keeps _ _ b o (Heap.get?_push_of_some _ e)) ((Heap.Ns.new s.heap (.type "dict")).keeps (pushCells_keeps _ _)) (fun n a hm => ok.empty n a hm) ok.apart

noncomputable def clos (env : Env) : List (Str × NameKind) → List (Str × Addr) → List (Str × Addr)
  | [], acc => acc
  | (n, k) :: r, acc => if k == .free then clos env r ((n, (env.cells.lookup n).getD 0) :: acc) else clos env r acc
theorem closureFor_clos {scope : Scope} {env : Env} (h : ∀ p ∈ scope.names, p.2 = .free → ∃ a, env.cells.lookup p.1 = some a) : closureFor scope env = pure (clos env scope.names []) := by
  unfold closureFor
  have key : ∀ (names : List (Str × NameKind)) (acc : List (Str × Addr)), (∀ p ∈ names, p.2 = .free → ∃ a, env.cells.lookup p.1 = some a) →
      (forIn names acc (fun (x : Str × NameKind) (cs : List (Str × Addr)) => match x with
        | (name, kind) => if kind == .free then (do let a ← cellOf env name; pure (ForInStep.yield ((name, a) :: cs))) else pure (ForInStep.yield cs)) : Sem (List (Str × Addr))) = pure (clos env names acc) := by
    intro names
    induction names with
    | nil => intro acc _; rfl
    | cons p r ih =>
      intro acc hp
      obtain ⟨n, k⟩ := p
      rw [List.forIn_cons]
      have hr := fun q hq => hp q (List.mem_cons_of_mem _ hq)
      unfold clos
      by_cases hk : (k == .free) = true
      · obtain ⟨a, ha⟩ := hp (n, k) List.mem_cons_self (by simpa using hk)
        simp only [hk, if_true]
        unfold cellOf
        simp only at ha
        rw [ha]
        exact ih _ hr
      · simp only [hk]
        exact ih _ hr
  have := key scope.names [] h
  refine Eq.trans (congrArg (fun t => t >>= fun cs => pure cs) (Eq.trans ?_ this)) rfl
  rfl

theorem clos_ok {env : Env} : ∀ (names : List (Str × NameKind)) (acc : List (Str × Addr)), (∀ p ∈ names, p.2 = .free → ∃ a, env.cells.lookup p.1 = some a) → (∀ p ∈ acc, env.cells.lookup p.1 = some p.2) →
    (∀ p ∈ clos env names acc, env.cells.lookup p.1 = some p.2) ∧ (∀ p ∈ acc, p ∈ clos env names acc) ∧ (∀ x, (x, NameKind.free) ∈ names → ∃ a, (x, a) ∈ clos env names acc) ∧ (∀ p ∈ clos env names acc, p ∈ acc ∨ (p.1, NameKind.free) ∈ names)
  | [], acc, _, h => ⟨h, fun _ e => e, fun x e => (by cases e), fun _ e => Or.inl e⟩
  | (n, k) :: r, acc, hp, h => by
    unfold clos
    have hr := fun q hq => hp q (List.mem_cons_of_mem _ hq)
    by_cases hk : (k == .free) = true
    · rw [if_pos hk]
      obtain ⟨a, ha⟩ := hp (n, k) List.mem_cons_self (by simpa using hk)
      simp only at ha
      rw [ha]
      obtain ⟨h1, h2, h3, h4⟩ := clos_ok r ((n, a) :: acc) hr (fun p hm => by
        rcases List.mem_cons.mp hm with rfl | hm
        · exact ha
        · exact h p hm)
      refine ⟨h1, fun p hm => h2 p (List.mem_cons_of_mem _ hm), fun x hx => ?_, fun p hm => ?_⟩
      · rcases List.mem_cons.mp hx with e | hx
        · cases e; exact ⟨a, h2 _ List.mem_cons_self⟩
        · exact h3 x hx
      · rcases h4 p hm with e | e
        · rcases List.mem_cons.mp e with e | e
          · subst e
            have : k = .free := by simpa using hk
            subst this; exact .inr List.mem_cons_self
          · exact .inl e
        · exact .inr (List.mem_cons_of_mem _ e)
    · rw [if_neg hk]
      obtain ⟨h1, h2, h3, h4⟩ := clos_ok r acc hr h
      refine ⟨h1, h2, fun x hx => ?_, fun p hm => (h4 p hm).imp id fun e => List.mem_cons_of_mem _ e⟩
      rcases List.mem_cons.mp hx with e | hx
      · cases e; simp at hk
      · exact h3 x hx

theorem lookup_nd {α : Type} : ∀ {cs : List (Str × α)} {n : Str} {a : α}, (cs.map (·.1)).Nodup → (n, a) ∈ cs → cs.lookup n = some a
  | (n', c') :: cs, n, c, hnd, hm => by
    rw [List.map_cons, List.nodup_cons] at hnd
    rcases List.mem_cons.mp hm with e | hm
    · cases e; simp
    · have hne : n ≠ n' := fun e => hnd.1 (e ▸ List.mem_map.mpr ⟨(n, c), hm, rfl⟩)
      rw [List.lookup_cons, beq_eq_false_iff_ne.mpr hne]
      exact lookup_nd hnd.2 hm
theorem mem_lookup {α : Type} : ∀ {l : List (Str × α)} {n : Str} {a : α}, l.lookup n = some a → (n, a) ∈ l
  | (k, v) :: r, n, c, h => by
    rw [List.lookup_cons] at h
    cases hb : n == k with
    | true => rw [hb] at h; cases h; rw [beq_iff_eq.mp hb]; exact List.mem_cons_self
    | false => rw [hb] at h; exact List.mem_cons_of_mem _ (mem_lookup h)
theorem lookup_some_of_mem {α : Type} : ∀ {l : List (Str × α)} {n : Str} {a : α}, (n, a) ∈ l → ∃ b, l.lookup n = some b
  | (k, v) :: r, n, c, h => by
    rw [List.lookup_cons]
    cases hb : n == k with
    | true => exact ⟨v, rfl⟩
    | false =>
      rcases List.mem_cons.mp h with e | h
      · cases e; simp at hb
      · exact lookup_some_of_mem h
theorem lookup_app {α : Type} {x : Str} : ∀ {l r : List (Str × α)}, (∀ a, (x, a) ∉ l) → (l ++ r).lookup x = r.lookup x
  | [], _, _ => rfl
  | (k, v) :: l, r, h => by
    rw [List.cons_append, List.lookup_cons]
    cases hb : x == k with
    | true => exact absurd (by rw [beq_iff_eq.mp hb]; exact List.mem_cons_self) (h v)
    | false => exact lookup_app fun a hm => h a (List.mem_cons_of_mem _ hm)
theorem lookup_appl {α : Type} {x : Str} {a : α} : ∀ {l r : List (Str × α)}, l.lookup x = some a → (l ++ r).lookup x = some a
  | (k, v) :: l, r, h => by
    rw [List.cons_append, List.lookup_cons]
    rw [List.lookup_cons] at h
    cases hb : x == k with
    | true => rw [hb] at h; exact h
    | false => rw [hb] at h; exact lookup_appl h

theorem relab_map {csc : Scope} {names : List (Str × NameKind)} {x : Str} {k : NameKind} (h : names.lookup x = some k) :
    (names.map fun (n, k) => if (k == NameKind.free && csc.kind == .function && csc.names.lookup n == some .cell) then (n, NameKind.cell) else (n, k)).lookup x = some (if (k == NameKind.free && csc.kind == .function && csc.names.lookup x == some .cell) then .cell else k) := by
  induction names with
  | nil => simp at h
  | cons p r ih =>
    obtain ⟨n, k'⟩ := p
    rw [List.lookup_cons] at h
    rw [List.map_cons]
    cases hb : x == n with
    | true =>
      rw [hb] at h
      cases h
      have : x = n := beq_iff_eq.mp hb
      subst this
      by_cases hc : (k == NameKind.free && csc.kind == .function && csc.names.lookup x == some .cell) = true
      · simp only [hc, if_true, List.lookup_cons, beq_self_eq_true]
      · simp only [hc, Bool.false_eq_true, if_false, List.lookup_cons, beq_self_eq_true]
    | false =>
      rw [hb] at h
      have ih' := ih h
      by_cases hc : (k' == NameKind.free && csc.kind == .function && csc.names.lookup n == some .cell) = true
      · simp only [hc, if_true, List.lookup_cons, hb]; exact ih'
      · simp only [hc, Bool.false_eq_true, if_false, List.lookup_cons, hb]; exact ih'
theorem relab_inv {csc : Scope} {names : List (Str × NameKind)} {x : Str} {k : NameKind} (h : (names.map fun (n, k) => if (k == NameKind.free && csc.kind == .function && csc.names.lookup n == some .cell) then (n, NameKind.cell) else (n, k)).lookup x = some k) :
    ∃ k', names.lookup x = some k' ∧ k = if (k' == NameKind.free && csc.kind == .function && csc.names.lookup x == some .cell) then .cell else k' := by
  have : ∃ b, names.lookup x = some b := by
    obtain ⟨p, hp, e⟩ := List.mem_map.mp (mem_lookup h)
    obtain ⟨n, k'⟩ := p
    have : n = x := by
      simp only at e
      split at e <;> exact (Prod.mk.inj e).1
    subst this
    exact lookup_some_of_mem hp
  obtain ⟨k', hk'⟩ := this
  rw [relab_map hk'] at h
  exact ⟨k', hk', (Option.some.inj h).symm⟩

def cOf (c : Cfg) (sc : Scope) : Cfg := ⟨c.X, c.n, relab sc c.sc, ownCells sc, c.hd, false⟩

structure CScope (c : Cfg) (sc : Scope) : Prop where
  kind : sc.kind = .function
  nd : (sc.names.map (·.1)).Nodup
  free : ∀ p ∈ sc.names, p.2 = .free → c.sc.names.lookup p.1 = some .cell ∨ c.sc.names.lookup p.1 = some .free

def frC (fr : Frm) (h : Heap) (g : Fz) (wr : List Addr) (sc : Scope) (L' : Addr) : Frm :=
  { A := fr.A, env := { newEnv sc L' fr.env.globals (cellsFrom (L' + 1) sc.names [] ++ clos fr.env sc.names []) fr.env.qual none .none (some fr.env) builtinsNs with scope := relabel sc fr.env }, h₀ := hideAll h wr, g₀ := g, oc := (cellsFrom (L' + 1) sc.names []).map (·.2), hc := hideAll h wr }

theorem own_name {sc : Scope} {n : Nat} {x : Str} {a : Addr} : (x, a) ∈ cellsFrom n sc.names [] → (x, NameKind.cell) ∈ sc.names := by
  suffices ∀ (names : List (Str × NameKind)) (n : Nat) (acc : List (Str × Addr)), (x, a) ∈ cellsFrom n names acc → (x, NameKind.cell) ∈ names ∨ (x, a) ∈ acc from fun h => (this _ _ _ h).elim id fun e => nomatch e
  intro names
  induction names with
  | nil => intro n acc h; exact .inr h
  | cons p r ih =>
    obtain ⟨y, k⟩ := p
    intro n acc h
    unfold cellsFrom at h
    split at h
    · rename_i hk
      rcases ih _ _ h with e | e
      · exact .inl (List.mem_cons_of_mem _ e)
      · rcases List.mem_cons.mp e with e | e
        · cases e
          have : k = .cell := by simpa using hk
          subst this; exact .inl List.mem_cons_self
        · exact .inr e
    · rcases ih _ _ h with e | e
      · exact .inl (List.mem_cons_of_mem _ e)
      · exact .inr e

theorem Okf.closed {fr : Frm} (O : Okf c fr) {sc : Scope} (C : CScope c sc) : ∀ p ∈ sc.names, p.2 = .free → ∃ a, fr.env.cells.lookup p.1 = some a := fun p hp he => let ⟨a, h, _⟩ := O.cls _ (C.free p hp he); ⟨a, h⟩

/-- the block of a comprehension stands -/
theorem comp_frame {fr : Frm} {h h₄ : Heap} {g : Fz} {am wr : List Addr} {sc : Scope} {L' : Addr} {Γ' : Gam} (O : Okf c fr) (S : St fr Γ Δ h g am) (F : Off fr g am wr) (C : CScope c sc) (hL : h.objs.size < L')
    (hΓ : ∀ p ∈ Γ', p ∈ Γ ∧ (p.1, NameKind.free) ∈ sc.names ∧ ∃ d, p.2 = .d d)
    (k : ∀ b o, h.get? b = some o → h₄.get? b = some o) (hn : h₄.Ns L' fun _ => none) (hcl : ∀ n a, (n, a) ∈ cellsFrom (L' + 1) sc.names [] → h₄.IsCell a none ∧ L' < a) (hap : (cellsFrom (L' + 1) sc.names []).Pairwise fun x y => x.2 ≠ y.2) :
    Okf (cOf c sc) (frC fr h g wr sc L') ∧ St (frC fr h g wr sc L') Γ' [] h₄ g [] := by
  have clo := clos_ok sc.names [] (O.closed C) (fun _ e => nomatch e)
  have fresh : ∀ a, h.objs.size ≤ a → h.get? a = none := fun b hb => by
    cases q : h.get? b with
    | none => rfl
    | some o => exact absurd (Heap.lt_size q) (Nat.not_lt.mpr hb)
  have inH : ∀ b o, fr.h₀.get? b = some o → (hideAll h wr).get? b = some o := fun b o e => hideAll_get _ (S.keep b o e) fun hm => by
    rw [(F.off b hm).2.2.2.2] at e; cases e
  have hid : ∀ {b}, h.get? b = none → (hideAll h wr).get? b = none := fun {b} e => none_of_keep (fun b o e => of_hideAll _ e) e
  have hfreeC : ∀ x, (x, NameKind.free) ∈ sc.names → ∀ a, (x, a) ∉ cellsFrom (L' + 1) sc.names [] := fun x hx a hm => by
    have e1 := lookup_nd C.nd hx
    have e2 := lookup_nd C.nd (own_name hm)
    rw [e1] at e2; cases e2
  have look : ∀ x, (x, NameKind.free) ∈ sc.names → ∃ a, (cellsFrom (L' + 1) sc.names [] ++ clos fr.env sc.names []).lookup x = some a ∧ fr.env.cells.lookup x = some a := fun x hx => by
    obtain ⟨a, ha⟩ := clo.2.2.1 x hx
    obtain ⟨b, hb⟩ := lookup_some_of_mem ha
    exact ⟨b, by rw [lookup_app (hfreeC x hx)]; exact hb, clo.1 _ (mem_lookup hb)⟩
  have lookO : ∀ x, (x, NameKind.cell) ∈ sc.names → ∃ a, (x, a) ∈ cellsFrom (L' + 1) sc.names [] ∧ (cellsFrom (L' + 1) sc.names [] ++ clos fr.env sc.names []).lookup x = some a := fun x hx => by
    obtain ⟨a, ha⟩ := Option.isSome_iff_exists.mp (mem_cellsFrom (x := x) sc.names (L' + 1) [] (.inl hx))
    exact ⟨a, mem_lookup ha, lookup_appl ha⟩
  have esc : relabel sc fr.env = relab sc c.sc := relab_eq O sc
  refine ⟨⟨O.hand, (fun h => nomatch h), O.depth, O.units, esc, C.kind, O.glob, ?_, O.glo.keeps inH, fun _ _ e => e, fun x hx => ?_, fun x hx => ?_, fun x y a e1 e2 ha => ?_⟩, ?_⟩
  · exact O.blt
  · obtain ⟨p, hp, rfl⟩ := List.mem_map.mp hx
    obtain ⟨hp1, hp2⟩ := List.mem_filter.mp hp
    have e : p.2 = .cell := by simpa using hp2
    have hm : (p.1, NameKind.cell) ∈ sc.names := by rw [← e]; exact hp1
    obtain ⟨a, h1, h2⟩ := lookO _ hm
    refine ⟨?_, a, h2, List.mem_map.mpr ⟨_, h1, rfl⟩⟩
    have := relab_map (csc := c.sc) (lookup_nd C.nd hm)
    exact this
  · have : ∃ k, sc.names.lookup x = some k ∧ (k = .cell ∨ k = .free) := by
      rcases hx with e | e <;> obtain ⟨k', h1, h2⟩ := relab_inv e <;> refine ⟨k', h1, ?_⟩
      · by_cases hc : (k' == NameKind.free && c.sc.kind == .function && c.sc.names.lookup x == some .cell) = true
        · simp only [Bool.and_eq_true, beq_iff_eq] at hc
          exact .inr hc.1.1
        · rw [if_neg hc] at h2; exact .inl h2.symm
      · by_cases hc : (k' == NameKind.free && c.sc.kind == .function && c.sc.names.lookup x == some .cell) = true
        · rw [if_pos hc] at h2; cases h2
        · rw [if_neg hc] at h2; exact .inr h2.symm
    obtain ⟨k, h1, h2 | h2⟩ := this
    · subst h2
      obtain ⟨a, h4, h3⟩ := lookO x (mem_lookup h1)
      exact ⟨a, h3, .inl (List.mem_map.mpr ⟨_, h4, rfl⟩)⟩
    · subst h2
      obtain ⟨a, h3, h4⟩ := look x (mem_lookup h1)
      refine ⟨a, h3, .inr ?_⟩
      obtain ⟨b, hb1, hb2⟩ := O.cls x (C.free _ (mem_lookup h1) rfl)
      rw [h4] at hb1
      cases hb1
      rcases hb2 with e | ⟨o, e⟩
      · obtain ⟨⟨v, o, ho, _⟩, _⟩ := S.ocs _ e
        exact ⟨o, hideAll_get _ ho fun hm => (F.off _ hm).2.1 e⟩
      · exact ⟨o, inH _ _ (O.hck _ _ e)⟩
  · obtain ⟨q, hq, rfl⟩ := List.mem_map.mp ha
    have own : ∀ z, (cellsFrom (L' + 1) sc.names [] ++ clos fr.env sc.names []).lookup z = some q.2 → (z, q.2) ∈ cellsFrom (L' + 1) sc.names [] := fun z hz => by
      rcases List.mem_append.mp (mem_lookup hz) with hm | hm
      · exact hm
      · exfalso
        have hfz := (clo.2.2.2 _ hm).elim (fun e => nomatch e) id
        obtain ⟨a, ha1, ha2⟩ := O.cls z (C.free _ hfz rfl)
        have e9 := clo.1 _ hm
        simp only at e9
        rw [ha1] at e9
        cases e9
        have hex : ∃ o, h.get? q.2 = some o := by
          rcases ha2 with e | ⟨o, e⟩
          · obtain ⟨⟨v, o, ho, _⟩, _⟩ := S.ocs _ e
            exact ⟨o, ho⟩
          · exact ⟨o, S.keep _ _ (O.hck _ _ e)⟩
        obtain ⟨o, ho⟩ := hex
        have e1 : q.2 < h.objs.size := Heap.lt_size ho
        have e2 : L' < q.2 := (hcl _ _ hq).2
        exact Nat.lt_irrefl _ (Nat.lt_trans (Nat.lt_trans hL e2) e1)
    exact name_of_addr hap (own x e1) (own y e2)
  · have hL0 : h.get? L' = none := fresh L' (Nat.le_of_lt hL)
    refine ⟨fun b o e => k b o (of_hideAll _ e), fun b o e => k b o (S.sub b o e), fun _ _ e => e, fun _ _ e => .inl e, none_of_sub S.sub hL0, hid hL0, ⟨_, hn, fun p hp => ?_⟩, fun a ha => ?_, rfl, List.nodup_nil, fun i a ds h1 => by simp at h1⟩
    · obtain ⟨hp1, hp2, d, hd⟩ := hΓ p hp
      obtain ⟨m, hns, hpp⟩ := S.loc
      obtain ⟨v, h1, h2⟩ := hpp p hp1
      refine ⟨v, ?_, ?_⟩
      · rw [hd] at h1 ⊢
        cases h1 with
        | d _ _ r => exact .d _ _ r
      · obtain ⟨a, ha1, ha2⟩ := look p.1 hp2
        have hknd : (relab sc c.sc).names.lookup p.1 = some .cell ∨ (relab sc c.sc).names.lookup p.1 = some .free := by
          have := relab_map (csc := c.sc) (lookup_nd C.nd hp2)
          by_cases hc : (NameKind.free == NameKind.free && c.sc.kind == .function && c.sc.names.lookup p.1 == some .cell) = true
          · rw [if_pos hc] at this; exact .inl this
          · rw [if_neg hc] at this; exact .inr this
        refine .cell a (by rw [← esc] at hknd; exact hknd) ha1 ?_
        show (hideAll h wr).IsCell a (some v)
        cases h2 with
        | loc h3 h4 => 
          rcases C.free _ hp2 rfl with e | e <;> rw [O.sc] at h3 <;> simp only at e <;> rw [e] at h3 <;> cases h3
        | ocell b h3 h4 h5 h6 =>
          rw [ha2] at h4; cases h4
          obtain ⟨o, ho, hd'⟩ := h6
          exact ⟨o, hideAll_get _ ho fun hm => (F.off _ hm).2.1 h5, hd'⟩
        | cell b h3 h4 h6 =>
          rw [ha2] at h4; cases h4
          obtain ⟨o, ho, hd'⟩ := h6
          exact ⟨o, inH _ _ (O.hck _ _ ho), hd'⟩
    · obtain ⟨q, hq, rfl⟩ := List.mem_map.mp ha
      obtain ⟨h1, h2⟩ := hcl q.1 q.2 hq
      have hf := fresh q.2 (Nat.le_of_lt (Nat.lt_trans hL h2))
      exact ⟨⟨_, h1⟩, none_of_sub S.sub hf, hid hf, Nat.ne_of_gt h2, by simp⟩
end Mine

set_option maxRecDepth 100000
set_option autoImplicit false
set_option linter.unusedVariables false
namespace Mine
open PySem PySem.W PySem.Calls PyProof.Rows
variable {c : Cfg} {Γ : Gam} {Δ : Del} {P : Post}

def EvIfs (c : Cfg) (Γ : Gam) (Δ : Del) (ifs : List Expr) (b : Bool) : Prop := ∀ fr s g am, Okf c fr → St fr Γ Δ s.heap g am → ∀ Q : Bool → Shared → Prop,
  (∀ h' g' tk, Gr s.heap g h' g' → Q b { s with heap := h', toks := tk }) →
  W c fr (forIn ifs true fun c r => if r = true then do let ok ← isTrue c fr.env (eval c fr.env); pure (ForInStep.yield ok) else pure (ForInStep.yield r)) Q s
theorem evifs_nil : EvIfs c Γ Δ [] true := fun fr s g am O S Q hQ => by
  rw [List.forIn_nil]
  exact wpAny_pure (hQ s.heap g s.toks (.refl S.sub))
theorem evifs_one {t : Expr} {b : Bool} (h : EvT c Γ Δ t b) : EvIfs c Γ Δ [t] b := fun fr s g am O S Q hQ => by
  rw [List.forIn_cons]
  simp only [if_true]
  refine wpAny_bind (wpAny_bind (h fr s g am O S _ fun h1 g1 t1 k1 => wpAny_pure ?_))
  exact wpAny_pure (hQ h1 g1 t1 k1)

theorem sto_not_free {sc : Scope} {x y : Str} (C : CScope c sc) (hx : Sto (cOf c sc) x) (hy : (y, NameKind.free) ∈ sc.names) : y ≠ x := by
  rintro rfl
  rcases hx with e | e
  · have := relab_map (csc := c.sc) (lookup_nd C.nd hy)
    have e' : (relab sc c.sc).names.lookup y = some .local := e
    unfold relab at e'
    rw [e'] at this
    split at this <;> cases this
  · obtain ⟨p, hp, rfl⟩ := List.mem_map.mp e
    obtain ⟨hp1, hp2⟩ := List.mem_filter.mp hp
    have e : p.2 = .cell := by simpa using hp2
    have hm : (p.1, NameKind.cell) ∈ sc.names := by rw [← e]; exact hp1
    have e1 := lookup_nd C.nd hm
    rw [lookup_nd C.nd hy] at e1
    cases e1

theorem snoc_filter {α : Type} (p : α → Bool) (xs : List α) (i : Nat) (d : α) (h : xs[i]? = some d) : (xs.take (i + 1)).filter p = (xs.take i).filter p ++ (if p d then [d] else []) := by
  rw [List.take_add_one, h]
  simp only [Option.toList_some, List.filter_append]
  congr 1
  by_cases hp : p d = true <;> simp [hp]

/-- one generator -/
theorem w_comp {fr : Frm} {s₀ s : Shared} {g₀ g : Fz} {am : List Addr} {elt iter : Expr} {x : Str} {px pos : Pos} {ifs : List Expr} {sc : Scope} {xs : List D} {Γ' : Gam} {p : D → Bool} {f : D → D} {It : Addr} {fp wr : List Addr} {Pw : Nat → Value → Prop} {Sw : Nat → Heap → Prop}
    {RR : Value → Addr → Result → Shared → Prop} (O : Okf c fr) (S0 : St fr Γ Δ s₀.heap g₀ am) (it : ItAt c fr false xs s₀.heap g₀ s.heap g It fp wr Pw Sw) (C : CScope c sc) (hx : Sto (cOf c sc) x) (hsz : xs.length ≤ 100000)
    (hΓ : ∀ p ∈ Γ', p ∈ Γ ∧ (p.1, NameKind.free) ∈ sc.names ∧ ∃ d, p.2 = .d d)
    (hif : ∀ d ∈ xs, EvIfs (cOf c sc) (upd Γ' x (.d d)) [] ifs (p d)) (he : ∀ d ∈ xs, p d = true → EvF (cOf c sc) (upd Γ' x (.d d)) [] elt (f d))
    (hRR : ∀ D C h' g' tk m, s₀.heap.get? C = none → g' C = none → h'.Ns C m → Gr s₀.heap g₀ h' g' → Rep g' (.list ((xs.filter p).map f)) (.ref D) → D ≠ C → RR (.ref D) C (.ok .next) { s with heap := h', toks := tk }) :
    W c fr (newList []) (fun acc s₃ => W c fr (newFunctionEnv sc fr.env.globals (clos fr.env sc.names []) [] fr.env.qual none .none (some fr.env)) (fun cenv s₄ =>
      codeAny (model c.X.prog c.X.w) fr.A (.compStart (.ListComp elt [⟨.Name x px, iter, ifs, 0⟩] sc pos) 0 (.ref It) acc { cenv with scope := relabel sc fr.env }) (RR acc cenv.locals) s₄) s₃) s := by
  have S := S0.gr it.gr
  have F := it.offs S0
  refine wpAny_newList ?_
  refine w_newEnv C.kind fun h₄ k4 hn hcl hap => ?_
  dsimp only at k4 hn hcl ⊢
  generalize hH1 : s.heap.push (lstO [] 0) = H1 at k4 hn hcl hap ⊢
  have hsize : H1.objs.size = s.heap.objs.size + 1 := by rw [← hH1, Heap.size_push]
  have kpush : ∀ b o, s.heap.get? b = some o → H1.get? b = some o := fun b o e => by rw [← hH1]; exact Heap.get?_push_of_some _ e
  have hD1 : H1.get? s.heap.objs.size = some (lstO [] 0) := by rw [← hH1]; exact Heap.get?_push_size _ rfl
  obtain ⟨O', S'⟩ := comp_frame (h₄ := h₄) (L' := H1.objs.size) O S F C (by rw [hsize]; exact Nat.lt_succ_self _) hΓ (fun b o e => k4 b o (kpush b o e)) hn hcl hap
  let fr' := frC fr s.heap g wr sc H1.objs.size
  have hDfresh : s.heap.get? s.heap.objs.size = none := fresh_size
  have hLfresh : s.heap.get? H1.objs.size = none := by
    cases q : s.heap.get? H1.objs.size with
    | none => rfl
    | some o => have : H1.objs.size < s.heap.objs.size := Heap.lt_size q
                rw [hsize] at this; exact absurd this (by omega)
  have hDL : s.heap.objs.size ≠ H1.objs.size := by rw [hsize]; exact Nat.ne_of_lt (Nat.lt_succ_self _)
  have hocD : ∀ a ∈ fr'.oc, s.heap.get? a = none ∧ s.heap.objs.size ≠ a := fun a ha => by
    obtain ⟨q, hq, rfl⟩ := List.mem_map.mp ha
    have h2 := (hcl q.1 q.2 hq).2
    refine ⟨?_, ?_⟩
    · cases q' : s.heap.get? q.2 with
      | none => rfl
      | some o => have : q.2 < s.heap.objs.size := Heap.lt_size q'
                  rw [hsize] at h2
                  exact absurd (Nat.lt_trans h2 this) (by omega)
    · rw [hsize] at h2; intro e; rw [← e] at h2; exact absurd h2 (by omega)
  have wrE : ∀ b ∈ wr, s.heap.get? b ≠ none := it.wl 0 _ it.st
  have fpE : ∀ b ∈ fp, s.heap.get? b ≠ none := fun b hb => (it.fp b hb).elim (wrE b) fun e => by simpa using e
  have hDwr : s.heap.objs.size ∉ wr := fun hm => wrE _ hm hDfresh
  have hDfp : s.heap.objs.size ∉ fp := fun hm => fpE _ hm hDfresh
  have offW : Off fr' g [] wr := ⟨fun b hb => ⟨fun e => wrE b hb (by rw [show b = H1.objs.size from e]; exact hLfresh), fun hm => wrE b hb (hocD b hm).1, by simp, it.free b hb, hideAll_none _ hb⟩⟩
  have hDh : (hideAll s.heap wr).get? s.heap.objs.size = none := none_of_keep (fun b o e => of_hideAll _ e) hDfresh
  have offD : ∀ {g₁ : Fz}, g₁ s.heap.objs.size = none → Off fr' g₁ [] [s.heap.objs.size] := fun hg => ⟨fun b hb => by
    rw [List.mem_singleton.mp hb]
    exact ⟨hDL, fun hm => (hocD _ hm).2 rfl, by simp, hg, hDh⟩⟩
  have loop : codeAny (model c.X.prog c.X.w) fr.A (.compLoop (.ListComp elt [⟨.Name x px, iter, ifs, 0⟩] sc pos) 0 (.ref It) (.ref s.heap.objs.size) fr'.env) (RR (.ref s.heap.objs.size) H1.objs.size) { s with heap := h₄ } := by
    refine codeAny_compLoop_tests (fun k s' => ∃ i h₁ g₁ tk ys n, s' = { s with heap := h₁, toks := tk } ∧ St fr' Γ' [] h₁ g₁ [] ∧ (∀ b ∈ wr, g₁ b = none) ∧ g₁ s.heap.objs.size = none ∧ Sw i h₁ ∧ h₁.get? s.heap.objs.size = some (lstO ys n) ∧ Reps g₁ (((xs.take i).filter p).map f) ys ∧ i ≤ xs.length ∧ k = xs.length + 1 - i) ?_ (xs.length + 1)
      ⟨0, h₄, g, s.toks, [], 0, rfl, S', it.free, none_of_sub S.sub hDfresh, it.wk.frame _ _ _ it.st fun b hb o e => k4 _ _ (kpush _ _ e), k4 _ _ hD1, by simp; exact .nil, Nat.zero_le _, rfl⟩
    rintro k s' ⟨i, h₁, g₁, tk, ys, n, rfl, S1, hfw, hfD, hst, hD, hR, hil, rfl⟩
    by_cases hlt : i < xs.length
    · refine it.wk.item i _ _ _ hlt hst fun v h3 t3 hv hst3 k3 => ?_
      obtain ⟨d, hd, hr⟩ := it.item i v hv
      have hdm : d ∈ xs := List.mem_of_getElem? hd
      have offW1 : Off fr' g₁ [] wr := ⟨fun b hb => ⟨(offW.off b hb).1, (offW.off b hb).2.1, (offW.off b hb).2.2.1, hfw b hb, (offW.off b hb).2.2.2.2⟩⟩
      have S3 := S1.off offW1 k3
      have hD3 := k3 _ _ hDwr hD
      refine wpAny_mono (E := fun _ _ => False) (wpAny_assign_Name (w_store O' S3 hx (.d d v (hr.mono S1.gsub)) fun h4 t4 S4 k4' => ?_)) (fun _ _ q => q) fun _ _ q => q.elim
      have hD4 := k4' _ _ hDL (fun hm => (hocD _ hm).2 rfl) hD3
      have hst4 : Sw (i + 1) h4 := it.wk.frame _ _ _ hst3 fun b hb o e => k4' b o (fun q => fpE b hb (by rw [show b = H1.objs.size from q]; exact hLfresh)) (fun hm => fpE b hb (hocD b hm).1) e
      refine wpAny_mono (E := fun _ _ => False) (hif d hdm fr' _ g₁ [] O' S4 _ fun h5 g5 t5 k5 => ?_) (fun _ _ q => q) fun _ _ q => q.elim
      have S5 := S4.gr k5
      have back : ∀ {h : Heap} {g : Fz}, St fr' (upd Γ' x (.d d)) [] h g [] → St fr' Γ' [] h g [] := fun S => S.weak fun q hq => by
        obtain ⟨q1, q2, q3⟩ := hΓ q hq
        exact List.Mem.tail _ (List.mem_filter.mpr ⟨hq, by simpa using sto_not_free C hx q2⟩)
      have nD5 := k5.none hfD hD4
      have nW : ∀ {h h' : Heap} {g₁ g' : Fz} {b : Addr} {i : Nat}, Gr h g₁ h' g' → Sw i h → b ∈ wr → g₁ b = none → g' b = none := fun {h h' g₁ g' b i} k hs hb hg => by
        obtain ⟨o, ho⟩ := Option.ne_none_iff_exists'.mp (it.wl i h hs b hb)
        exact k.none hg ho
      have hst5 : Sw (i + 1) h5 := it.wk.frame _ _ _ hst4 fun b hb o e => k5.hk b o e
      cases hp : p d with
      | false =>
        simp only [Bool.false_eq_true, if_false]
        refine ⟨_, by omega, i + 1, h5, g5, t5, ys, n, rfl, back S5, fun b hb => nW k5 hst4 hb (hfw b hb), nD5, hst5, k5.hk _ _ hD4, ?_, hlt, rfl⟩
        rw [snoc_filter p xs i d hd, hp]
        simp only [Bool.false_eq_true, if_false, List.append_nil]
        exact hR.mono k5.gk
      | true =>
        simp only [if_true]
        refine wpAny_mono (E := fun _ _ => False) (he d hdm hp fr' _ g5 [] O' S5 _ fun y h6 g6 t6 k6 r6 => ?_) (fun _ _ q => q) fun _ _ q => q.elim
        have S6 := S5.gr k6
        have hD6 := k6.hk _ _ (k5.hk _ _ hD4)
        have nD6 := k6.none nD5 (k5.hk _ _ hD4)
        have hys : ys.length = (((xs.take i).filter p).map f).length := hR.length
        have hys2 : ys.length ≤ sizeLine := by
          rw [hys, List.length_map]
          have e1 := List.length_filter_le p (xs.take i)
          rw [List.length_take] at e1
          rw [sizeLine_lit]; omega
        refine wpAny_list_append_plain (items := ys.toArray) ⟨n, hD6⟩ (fun h7 hl7 hs7 => ?_) (by rw [List.size_toArray]; exact hys2)
        obtain ⟨n7, ho7⟩ := hl7
        have ho7' : h7.get? s.heap.objs.size = some (lstO (ys ++ [y]) n7) := by rw [ho7]; simp
        have S7 := S6.off (offD nD6) fun b o hb e => (hs7.2 b fun q => hb (List.mem_singleton.mpr q)).trans e
        have hst6 : Sw (i + 1) h6 := it.wk.frame _ _ _ hst5 fun b hb o e => k6.hk b o e
        refine ⟨_, by omega, i + 1, h7, g6, t6, ys ++ [y], n7, rfl, back S7, fun b hb => nW k6 hst5 hb (nW k5 hst4 hb (hfw b hb)), nD6, it.wk.frame _ _ _ hst6 (fun b hb o e => (hs7.2 b fun q => hDfp (by rw [← show b = s.heap.objs.size from q]; exact hb)).trans e), ho7', ?_, hlt, rfl⟩
        rw [snoc_filter p xs i d hd, hp]
        simp only [if_true, List.map_append, List.map_cons, List.map_nil]
        exact ((hR.mono k5.gk).mono k6.gk).append (.cons r6 .nil)
    · have hin : i = xs.length := by omega
      subst hin
      refine it.wk.done _ _ _ hst fun h3 t3 k3 => ?_
      have offW1 : Off fr' g₁ [] wr := ⟨fun b hb => ⟨(offW.off b hb).1, (offW.off b hb).2.1, (offW.off b hb).2.2.1, hfw b hb, (offW.off b hb).2.2.2.2⟩⟩
      have S3 := S1.off offW1 k3
      have hD3 := k3 _ _ hDwr hD
      rw [List.take_length] at hR
      have up0 : ∀ b o, s₀.heap.get? b = some o → (hideAll s.heap wr).get? b = some o := fun b o e => hideAll_get _ (it.gr.hk b o e) fun hm => by rw [it.new b hm] at e; cases e
      obtain ⟨m3, hn3, _⟩ := S3.loc
      refine hRR _ _ h3 (g₁.add s.heap.objs.size (lstO ys n)) t3 m3 (none_of_keep it.gr.hk hLfresh) ?_ hn3 ⟨fun b o e => S3.keep b o (up0 b o e), fun b o e => Fz.add_keep hfD _ _ (S3.gsub b o (it.gr.gk b o e)), fun b o e => ?_, fun b o e => ?_⟩ (.list _ _ ys n (Fz.add_self _ _ _) (hR.mono (Fz.add_keep hfD))) hDL
      · unfold Fz.add; rw [if_neg (Ne.symm hDL)]; exact S3.gL
      · unfold Fz.add at e
        by_cases hb : b = s.heap.objs.size
        · rw [if_pos hb] at e; cases e; rw [hb]; exact hD3
        · rw [if_neg hb] at e; exact S3.sub b o e
      · unfold Fz.add at e
        by_cases hb : b = s.heap.objs.size
        · rw [hb]; exact .inr (none_of_keep it.gr.hk hDfresh)
        · rw [if_neg hb] at e
          rcases S3.own b o e with q | q
          · exact it.gr.own b o q
          · exact .inr (none_of_keep up0 q)
  refine codeAny_compStart_list loop (it.wk.self 0 _ _ _ ?_ loop)
  exact it.wk.frame _ _ _ it.st fun b hb o e => k4 _ _ (kpush _ _ e)
end Mine

set_option maxRecDepth 100000
set_option autoImplicit false
set_option linter.unusedVariables false
namespace Mine
open PySem PySem.W PySem.Calls PyProof.Rows
variable {c : Cfg} {Γ : Gam} {Δ : Del} {P : Post}

theorem CScope.hnames {sc : Scope} (C : CScope c sc) : ∀ x ∈ sc.names, x.2 = .local → sc.names.lookup x.1 = some .local := fun x hx e => lookup_nd C.nd (by rw [← e]; exact hx)

/-- the store behind a comprehension: nothing else has turned -/
theorem gr_other {h h' h'' : Heap} {g g' : Fz} {C : Addr} (k : Gr h g h' g') (hs : Heap.SameBut C h' h'') (hC : h.get? C = none) (hgC : g' C = none) : Gr h g h'' g' where
  hk := fun b o e => (hs.2 b fun q => by rw [q, hC] at e; cases e).trans (k.hk b o e)
  gk := k.gk
  sub := fun b o e => (hs.2 b fun q => by rw [q, hgC] at e; cases e).trans (k.sub b o e)
  own := k.own

theorem ev_comp {elt iter : Expr} {x : Str} {px pos : Pos} {ifs : List Expr} {sc : Scope} {xs : List D} {Γ' : Gam} {p : D → Bool} {f : D → D} (hi : EvI false c Γ Δ iter xs) (C : CScope c sc) (hx : Sto (cOf c sc) x) (hsz : xs.length ≤ 100000)
    (hΓ : ∀ p ∈ Γ', p ∈ Γ ∧ (p.1, NameKind.free) ∈ sc.names ∧ ∃ d, p.2 = .d d)
    (hif : ∀ d ∈ xs, EvIfs (cOf c sc) (upd Γ' x (.d d)) [] ifs (p d)) (he : ∀ d ∈ xs, p d = true → EvF (cOf c sc) (upd Γ' x (.d d)) [] elt (f d))
    (hs : ∀ env x, foldedSetIterable iter env x = pure x := by intro _ _; rfl) : EvF c Γ Δ (.ListComp elt [⟨.Name x px, iter, ifs, 0⟩] sc pos) (.list ((xs.filter p).map f)) := fun fr s g am O S Q hQ => by
  rw [eval_ListComp]
  refine wpAny_comprehension_free (use := none) rfl (hs _) (closureFor_clos (O.closed C)) C.kind C.hnames (hi fr s g am O S _ fun It fp wr Pw Sw h1 g1 t1 it => ?_)
  refine w_comp O S it C hx hsz hΓ hif he (RR := fun acc C => compPost _ _ _ none Q acc C) fun D C h' g' tk m hC hgC hn k r hDC => ?_
  exact ⟨m, hn, fun h'' hs => hQ _ h'' g' tk (gr_other k hs hC hgC) r⟩

/-- x = [..] where x is captured -/
theorem ex_assign_compC {y : Str} {py spos : Pos} {elt : Expr} {gens : List Comprehension} {sc : Scope} {pos : Pos} {d : D} (hv : EvF c Γ Δ (.ListComp elt gens sc pos) d) (hy : y ∈ c.own) (hk : c.sc.names.lookup y = some .cell) (h : P .next (upd Γ y (.d d)) Δ) :
    Ex1 c Γ Δ (.Assign [.Name y py] (.ListComp elt gens sc pos) spos) P := fun fr s g am O S Q hQ => by
  have hsw : swapsWith (.ListComp elt gens sc pos) (some (.Name y py)) spos.line fr.env = pure false := by
    show (pure (fr.env.blockKind == .function && fr.env.kindOf y == some .local && py.line == pos.line && !(sc.names.any fun (n, k) => n == y && (k == .local || k == .cell))) : Sem Bool) = _
    have h2 : fr.env.kindOf y = some .cell := by unfold Env.kindOf; rw [O.sc]; exact hk
    rw [h2]
    have : (some NameKind.cell == some NameKind.local) = false := by decide
    rw [this, Bool.and_false, Bool.false_and, Bool.false_and]
  exact wpAny_Assign_Name (hv fr s g am O S _ fun v h1 g1 t1 k1 r1 => w_store O (S.gr k1) (.inr hy) (.d d v r1) fun h2 t2 S2 _ => hQ .next .next _ _ h2 g1 am t2 h .next S2) hsw
end Mine

set_option maxRecDepth 100000
set_option autoImplicit false
set_option linter.unusedVariables false
namespace Mine
open PySem PySem.W PySem.Calls PyProof.Rows PySem.Builtin.Str
variable {c : Cfg} {Γ : Gam} {Δ : Del} {P : Post}

/-- a text by its signs' numbers -/
abbrev S (l : List Nat) : Str := ⟨l.toArray⟩
def cut {α : Type} (l : List α) (lo hi : Option Int) : List α := (l.drop (lo.elim 0 (clipAt l.length))).take (hi.elim l.length (clipAt l.length) - lo.elim 0 (clipAt l.length))

theorem strSlice_eq (lo hi : Option Int) (n : Nat) : strSliceIndices lo hi 1 n = sliceRange ((lo.elim 0 (clipAt n) : Nat) : Int) ((hi.elim n (clipAt n) : Nat) : Int) 1 := by
  unfold strSliceIndices
  cases lo <;> cases hi <;> simp [clipAt_cast]
theorem txt_slice (l : List Nat) (lo hi : Option Int) : Txt.slice (S l) lo hi = S (cut l lo hi) := by
  have hlen : (S l).length = l.length := by simp [Str.length]
  have e : (strSliceIndices lo hi 1 (S l).length).filterMap ((S l).cps[·]?) = cut l lo hi := by
    rw [strSlice_eq, sliceRange_one, hlen]
    have := pick_run (S l).cps (lo.elim 0 (clipAt l.length)) (hi.elim l.length (clipAt l.length) - lo.elim 0 (clipAt l.length))
    rw [this]
    unfold cut
    simp
  unfold Txt.slice
  split
  · rename_i h
    simp only [beq_self_eq_true, Bool.true_and, beq_iff_eq] at h
    rw [strSlice_eq, sliceRange_one, List.length_map, List.length_range, hlen] at h
    have hc : ∀ i, clipAt l.length i ≤ l.length := fun i => by
      have := clipAt_cast l.length i; omega
    have h1 : hi.elim l.length (clipAt l.length) ≤ l.length := by cases hi <;> simp [hc]
    by_cases h0 : l.length = 0
    · have : l = [] := List.length_eq_zero_iff.mp h0
      subst this; simp [cut]
    · have e1 : lo.elim 0 (clipAt l.length) = 0 := by omega
      have e2 : hi.elim l.length (clipAt l.length) = l.length := by omega
      unfold cut
      rw [e1, e2]; simp
  · rw [e]

/-- a slice's part -/
inductive EvP (c : Cfg) (Γ : Gam) (Δ : Del) : Option Expr → Option Int → Prop
  | none : EvP c Γ Δ none none
  | some {e : Expr} {i : Int} (h : Ev c Γ Δ e (.int i)) : EvP c Γ Δ (some e) (some i)

theorem w_part {fr : Frm} {am : List Addr} {e : Option Expr} {i : Option Int} (h : EvP c Γ Δ e i) {s : Shared} {g : Fz} (O : Okf c fr) (S' : St fr Γ Δ s.heap g am) {Q : Value → Shared → Prop}
    (hQ : ∀ (q : Option (Int × Tok)) h' g' tk, Gr s.heap g h' g' → q.map (·.1) = i → Q (partValue q) { s with heap := h', toks := tk }) : W c fr (evalPart e fr.env) Q s := by
  cases h with
  | none => exact wpAny_pure (hQ none s.heap g s.toks (.refl S'.sub) rfl)
  | some h =>
    refine h fr s g am O S' _ fun v h1 g1 t1 k1 r1 => ?_
    obtain ⟨t, rfl⟩ := rint r1
    exact hQ (some (_, t)) h1 g1 t1 k1 rfl

theorem ev_sl_str {v : Expr} {lo hi : Option Expr} {i j : Option Int} {l : List Nat} {p pos : Pos} (hv : Ev c Γ Δ v (.str (S l))) (h1 : EvP c Γ Δ lo i) (h2 : EvP c Γ Δ hi j) (hz : l.length ≤ 100000)
    (ht : ∀ o r, letTemporaryGo v o r = pure () := by intro _ _; rfl) : EvF c Γ Δ (.Subscript v (.Slice lo hi none p) pos) (.str (S (cut l i j))) := fun fr s g am O S' Q hQ =>
  wpAny_Subscript_str_slice (hv fr s g am O S' _ fun va k1 g1 t1 kk1 r1 => w_part h1 O (S'.gr kk1) fun q1 k2 g2 t2 kk2 e1 => w_part h2 O ((S'.gr kk1).gr kk2) fun q2 k3 g3 t3 kk3 e2 => by
    obtain ⟨t, rfl⟩ := rstr r1
    refine ⟨_, t, q1, q2, rfl, rfl, rfl, ?_⟩
    have kp : ∀ b o, k3.get? b = some o → (k3.push { cls := .type "slice", data := .fields #[partValue q1, partValue q2, .none] }).get? b = some o := fun b o e => Heap.get?_push_of_some _ e
    refine post_val_or_str (?_ : _ ∧ _)
    have hb : (Txt.slice (S l) (q1.map (·.1)) (q2.map (·.1))).length ≤ sizeLine := Nat.le_trans (Txt.slice_le _ _ _) (by rw [sizeLine_lit]; simp [Str.length]; omega)
    refine ⟨hb, fun t' k => ?_⟩
    have e : Txt.slice (S l) (q1.map (·.1)) (q2.map (·.1)) = S (cut l i j) := by rw [e1, e2, txt_slice]
    exact hQ _ _ g3 _ (((kk1.trans kk2).trans kk3).trans (.heap kk3.sub kp)) (by
      show Rep g3 _ (.str (Txt.slice (S l) (q1.map (·.1)) (q2.map (·.1))) t')
      rw [e]; exact .str _ _)) ht

theorem Reps.sub {g : Fz} : ∀ {ds : List D} {vs : List Value} (_ : Reps g ds vs) (a k : Nat), Reps g ((ds.drop a).take k) ((vs.drop a).take k)
  | _, _, .nil, a, k => by simp; exact .nil
  | _, _, .cons h t, 0, 0 => .nil
  | _, _, .cons h t, 0, k + 1 => by simp only [List.drop_zero, List.take_succ_cons]; exact .cons h (by simpa using Reps.sub t 0 k)
  | _, _, .cons h t, a + 1, k => by simp only [List.drop_succ_cons]; exact Reps.sub t a k
theorem isPart_of {q : Option (Int × Tok)} {i : Option Int} (e : q.map (·.1) = i) : IsPart (partValue q) i := by
  cases q with
  | none => cases e; exact .none
  | some q => cases e; exact .int _ _

theorem ev_sl_list {v : Expr} {lo hi : Option Expr} {i j : Option Int} {ds : List D} {p pos : Pos} (hv : Ev c Γ Δ v (.list ds)) (h1 : EvP c Γ Δ lo i) (h2 : EvP c Γ Δ hi j) (hz : ds.length ≤ 100000)
    (ht : ∀ o r, letTemporaryGo v o r = pure () := by intro _ _; rfl) : EvF c Γ Δ (.Subscript v (.Slice lo hi none p) pos) (.list (cut ds i j)) := fun fr s g am O S' Q hQ =>
  wpAny_Subscript_list_slice (hv fr s g am O S' _ fun va k1 g1 t1 kk1 r1 => w_part h1 O (S'.gr kk1) fun q1 k2 g2 t2 kk2 e1 => w_part h2 O ((S'.gr kk1).gr kk2) fun q2 k3 g3 t3 kk3 e2 => by
    obtain ⟨a, vs, n, rfl, ho, hr⟩ := (r1.gr (kk2.trans kk3)).list kk3.sub
    have hl := hr.length
    refine ⟨a, vs.toArray, i, j, rfl, isList_of ho, by rw [List.size_toArray, hl, sizeLine_lit]; omega, isPart_of e1, isPart_of e2, ?_⟩
    rw [slicePick_plain]
    generalize hH : k3.push { cls := .type "slice", data := .fields #[partValue q1, partValue q2, .none] } = H
    have kp : ∀ b o, k3.get? b = some o → H.get? b = some o := fun b o e => by rw [← hH]; exact Heap.get?_push_of_some _ e
    have hsz : H.objs.size = k3.objs.size + 1 := by rw [← hH, Heap.size_push]
    have e3 : H.get? H.objs.size = none := fresh_size
    show Q (.ref (k3.objs.size + 1)) _
    rw [← hsz]
    have kk4 : Gr k3 g3 (H.push (lstO (cut vs i j) 0)) (g3.add H.objs.size (lstO (cut vs i j) 0)) := .add kk3.sub (fun b o e => Heap.get?_push_of_some _ (kp b o e)) (none_of_keep kp e3) (Heap.get?_push_size _ rfl)
    have hcut : (({ cls := .type "list", data := .seq ((vs.toArray.toList.drop (i.elim 0 (clipAt vs.toArray.size))).take (j.elim vs.toArray.size (clipAt vs.toArray.size) - i.elim 0 (clipAt vs.toArray.size))).toArray } : Obj)) = lstO (cut vs i j) 0 := by simp [cut]
    rw [hcut]
    refine hQ _ _ _ t3 (((kk1.trans kk2).trans kk3).trans kk4) (.list _ _ (cut vs i j) 0 (Fz.add_self _ _ _) ?_)
    have := Reps.sub hr (i.elim 0 (clipAt ds.length)) (j.elim ds.length (clipAt ds.length) - i.elim 0 (clipAt ds.length))
    have e5 : cut vs i j = (vs.drop (i.elim 0 (clipAt ds.length))).take (j.elim ds.length (clipAt ds.length) - i.elim 0 (clipAt ds.length)) := by unfold cut; rw [hl]
    rw [e5]
    exact this.mono (Fz.add_keep (none_of_sub kk3.sub (none_of_keep kp e3)))) ht

/-! items -/
theorem ev_item {v k : Expr} {ds : List D} {z : Int} {d : D} {pos : Pos} (hv : Ev c Γ Δ v (.list ds)) (hk : Ev c Γ Δ k (.int z)) (h0 : 0 ≤ z) (hz : z < 100000) (hd : ds[z.toNat]? = some d)
    (hs : ∀ o i t, subscripted k false o (.int i t) = operate [o, .int i t] (getItem o (.int i t)) := by intro _ _ _; rfl) : EvF c Γ Δ (.Subscript v k pos) d := fun fr s g am O S' Q hQ =>
  Subscript_ (hv fr s g am O S' _ fun va k1 g1 t1 kk1 r1 => hk fr _ g1 am O (S'.gr kk1) _ fun vk k2 g2 t2 kk2 r2 => by
    obtain ⟨t, rfl⟩ := rint r2
    obtain ⟨a, vs, n, rfl, ho, hr⟩ := (r1.gr kk2).list kk2.sub
    obtain ⟨y, hy, ry⟩ := hr.get z.toNat d hd
    exact tail_any (isList_of ho).typeIs slot_list_getitem.lookup (wpAny_getItem_list (isList_of ho) h0 (by omega) (by simpa using hy) (hQ y k2 g2 t2 (kk1.trans kk2) ry)) (hs _ _ _))
theorem ev_last {v k : Expr} {ds : List D} {d : D} {pos : Pos} (hv : Ev c Γ Δ v (.list (ds ++ [d]))) (hk : Ev c Γ Δ k (.int (-1))) (hz : ds.length < 100000)
    (hs : ∀ o i t, subscripted k false o (.int i t) = operate [o, .int i t] (getItem o (.int i t)) := by intro _ _ _; rfl) : EvF c Γ Δ (.Subscript v k pos) d := fun fr s g am O S' Q hQ =>
  Subscript_ (hv fr s g am O S' _ fun va k1 g1 t1 kk1 r1 => hk fr _ g1 am O (S'.gr kk1) _ fun vk k2 g2 t2 kk2 r2 => by
    obtain ⟨t, rfl⟩ := rint r2
    obtain ⟨a, vs, n, rfl, ho, hr⟩ := (r1.gr kk2).list kk2.sub
    have hl := hr.length
    rw [List.length_append, List.length_singleton] at hl
    obtain ⟨y, hy, ry⟩ := hr.get ds.length d (by simp)
    refine tail_any (isList_of ho).typeIs slot_list_getitem.lookup (wpAny_getItem_list_neg (isList_of ho) (by decide) (by rw [List.size_toArray, hl]; omega) (by decide) (x := y) ?_ (hQ y k2 g2 t2 (kk1.trans kk2) ry)) (hs _ _ _)
    rw [List.size_toArray, hl]
    have : ((-1 : Int) + ((ds.length + 1 : Nat) : Int)).toNat = ds.length := by omega
    rw [this]; simpa using hy)
theorem ev_titem {v k : Expr} {ds : List D} {z : Int} {d : D} {pos : Pos} (hv : Ev c Γ Δ v (.tup ds)) (hk : Ev c Γ Δ k (.int z)) (h0 : 0 ≤ z) (hz : z < 100000) (hd : ds[z.toNat]? = some d)
    (hs : ∀ o i t, subscripted k false o (.int i t) = operate [o, .int i t] (getItem o (.int i t)) := by intro _ _ _; rfl) : EvF c Γ Δ (.Subscript v k pos) d := fun fr s g am O S' Q hQ =>
  Subscript_ (hv fr s g am O S' _ fun va k1 g1 t1 kk1 r1 => hk fr _ g1 am O (S'.gr kk1) _ fun vk k2 g2 t2 kk2 r2 => by
    obtain ⟨t, rfl⟩ := rint r2
    obtain ⟨a, vs, n, rfl, ho, hr⟩ := (r1.gr kk2).tup kk2.sub
    obtain ⟨y, hy, ry⟩ := hr.get z.toNat d hd
    have hlt := (List.getElem?_eq_some_iff.mp hy).1
    exact tail_any ⟨_, ho, rfl⟩ F.slot_tuple_getitem.lookup (PySem.P.getItem_tuple (n := n) (k := z.toNat) ho (by omega) (by omega) (by
      unfold seqIndex?; simp only [List.size_toArray]; rw [if_neg (by omega : ¬ z < 0), if_pos (by simp; omega)]) (by simpa using hy) (hQ y k2 g2 t2 (kk1.trans kk2) ry)) (hs _ _ _))
theorem ev_sitem {v k : Expr} {l : List Nat} {z : Int} {n : Nat} {pos : Pos} (hv : Ev c Γ Δ v (.str (S l))) (hk : Ev c Γ Δ k (.int z)) (h0 : 0 ≤ z) (hz : z < 100000) (hd : l[z.toNat]? = some n)
    (hs : ∀ o i t, subscripted k false o (.int i t) = operate [o, .int i t] (getItem o (.int i t)) := by intro _ _ _; rfl) : EvF c Γ Δ (.Subscript v k pos) (.str (S [n])) := fun fr s g am O S' Q hQ =>
  Subscript_ (hv fr s g am O S' _ fun va k1 g1 t1 kk1 r1 => hk fr _ g1 am O (S'.gr kk1) _ fun vk k2 g2 t2 kk2 r2 => by
    obtain ⟨t, rfl⟩ := rint r2
    obtain ⟨u, rfl⟩ := rstr r1
    have hlt := (List.getElem?_eq_some_iff.mp hd).1
    refine tail_any (typeIs_str _ _ _) F.slot_str_getitem.lookup (PySem.P.getItem_str (c := n) ?_ ?_ (hQ _ k2 g2 _ (kk1.trans kk2) (.str _ _))) (hs _ _ _)
    · simp only [Bool.or_eq_false_iff, decide_eq_false_iff_not]; omega
    · unfold seqIndex?
      rw [if_neg (by omega : ¬ z < 0), if_pos (by simp [Str.length]; omega)]
      simpa using hd)
end Mine

set_option maxRecDepth 100000
set_option autoImplicit false
set_option linter.unusedVariables false
namespace Mine
open PySem PySem.W PySem.Calls PyProof.Rows
variable {c : Cfg} {Γ : Gam} {Δ : Del} {P : Post}

mutual
noncomputable def py : D → PyData
  | .none => .none
  | .bool b => .bool b
  | .int i => .int i
  | .str s => .str s
  | .bytes _ => .none
  | .list xs => .list (pys xs)
  | .tup xs => .tuple (pys xs)
  | .obj _ => .none
noncomputable def pys : List D → List PyData
  | [] => []
  | x :: xs => py x :: pys xs
end
mutual
noncomputable def pyOk : D → Bool
  | .none => true
  | .bool _ => true
  | .int _ => true
  | .str _ => true
  | .bytes _ => false
  | .list xs => pysOk xs
  | .tup xs => pysOk xs
  | .obj _ => false
noncomputable def pysOk : List D → Bool
  | [] => true
  | x :: xs => pyOk x && pysOk xs
end
mutual
theorem rep_reads {g : Fz} {h : Heap} (s : ∀ b o, g b = some o → h.get? b = some o) : ∀ {d : D} {v : Value}, Rep g d v → pyOk d = true → ∃ as, Reads h v (py d) as
  | _, _, .none, _ => ⟨_, .none⟩
  | _, _, .bool b, _ => ⟨_, .bool b⟩
  | _, _, .int i t, _ => ⟨_, .int i t⟩
  | _, _, .str x t, _ => ⟨_, .str x t⟩
  | _, _, .bytes b t, h => by simp [pyOk] at h
  | _, _, .list xs a vs n ho hr, h => by
    obtain ⟨as, r⟩ := reps_reads s hr (by simpa [pyOk] using h)
    exact ⟨_, .list (s _ _ ho) rfl rfl r⟩
  | _, _, .tup xs a vs n ho hr, h => by
    obtain ⟨as, r⟩ := reps_reads s hr (by simpa [pyOk] using h)
    exact ⟨_, .tuple (s _ _ ho) rfl rfl r⟩
  | _, _, .obj a o ho hc hd, h => by simp [pyOk] at h
theorem reps_reads {g : Fz} {h : Heap} (s : ∀ b o, g b = some o → h.get? b = some o) : ∀ {d : List D} {v : List Value}, Reps g d v → pysOk d = true → ∃ as, ReadsAll h v (pys d) as
  | _, _, .nil, _ => ⟨_, .nil⟩
  | _, _, .cons a t, h => by
    simp only [pysOk, Bool.and_eq_true] at h
    obtain ⟨as, r⟩ := rep_reads s a h.1
    obtain ⟨bs, r'⟩ := reps_reads s t h.2
    exact ⟨_, .cons r r'⟩
end
theorem RepS.reads {g : Fz} {h : Heap} {d : D} {v : Value} (s : ∀ b o, g b = some o → h.get? b = some o) (r : RepS h g d v) (hp : pyOk d = true) : ∃ as, Reads h v (py d) as := by
  cases r with
  | fz r => exact rep_reads s r hp
  | ls a vs n ds ho hr =>
    obtain ⟨as, r⟩ := reps_reads s hr (by simpa [pyOk] using hp)
    exact ⟨_, .list ho rfl rfl r⟩

theorem cmp_eqD {a b : D} (ha : pyOk a = true) (hb : pyOk b = true) (sa : PySem.SeqAt.shaped (py a) = true) (sb : PySem.SeqAt.shaped (py b) = true) : CmpF c .Eq a b (PyData.eqv (py a) (py b)) := fun fr s g va vb O hs _ ra rb Q hQ => by
  obtain ⟨as, r⟩ := ra.reads hs ha
  obtain ⟨bs, r'⟩ := rb.reads hs hb
  exact eq_dataH r r' sa sb (by have := O.units; omega) (hQ s.heap s.toks fun _ _ e => e)
theorem cmp_neD {a b : D} (ha : pyOk a = true) (hb : pyOk b = true) (sa : PySem.SeqAt.shaped (py a) = true) (sb : PySem.SeqAt.shaped (py b) = true) : CmpF c .NotEq a b (!PyData.eqv (py a) (py b)) := fun fr s g va vb O hs _ ra rb Q hQ => by
  obtain ⟨as, r⟩ := ra.reads hs ha
  obtain ⟨bs, r'⟩ := rb.reads hs hb
  exact ne_dataH r r' sa sb (by have := O.units; omega) (hQ s.heap s.toks fun _ _ e => e)
theorem cmp_inD {a : D} {xs : List D} (ha : pyOk a = true) (hb : pysOk xs = true) (sa : (py a).canLay0 = true) (sb : PyData.canLayAll0 (pys xs) = true) (hd : (py a).depth ≤ 64) : CmpF c .In a (.list xs) ((pys xs).any fun y => PyData.eqv y (py a)) := fun fr s g va vb O hs _ ra rb Q hQ => by
  obtain ⟨as, r⟩ := ra.reads hs ha
  obtain ⟨bs, r'⟩ := rb.reads hs (by simpa [pyOk] using hb)
  have := O.units
  exact PySem.SeqAt.in_list_reads (by simpa [py] using r') r sb sa (by omega) (hQ s.heap s.toks fun _ _ e => e)
theorem cmp_ninD {a : D} {xs : List D} (ha : pyOk a = true) (hb : pysOk xs = true) (sa : (py a).canLay0 = true) (sb : PyData.canLayAll0 (pys xs) = true) (hd : (py a).depth ≤ 64) : CmpF c .NotIn a (.list xs) (!(pys xs).any fun y => PyData.eqv y (py a)) := fun fr s g va vb O hs _ ra rb Q hQ => by
  obtain ⟨as, r⟩ := ra.reads hs ha
  obtain ⟨bs, r'⟩ := rb.reads hs (by simpa [pyOk] using hb)
  have := O.units
  exact PySem.SeqAt.notIn_list_reads (by simpa [py] using r') r sb sa (by omega) (hQ s.heap s.toks fun _ _ e => e)
theorem cmp_ninT {a : D} {xs : List D} (ha : pyOk a = true) (hb : pysOk xs = true) (sa : (py a).canLay0 = true) (sb : PyData.canLayAll0 (pys xs) = true) (hd : (py a).depth ≤ 64) : CmpF c .NotIn a (.tup xs) (!(pys xs).any fun y => PyData.eqv y (py a)) := fun fr s g va vb O hs _ ra rb Q hQ => by
  obtain ⟨as, r⟩ := ra.reads hs ha
  obtain ⟨bs, r'⟩ := rb.reads hs (by simpa [pyOk] using hb)
  have := O.units
  exact PySem.SeqAt.notIn_tuple_reads (by simpa [py] using r') r sb sa (by omega) (hQ s.heap s.toks fun _ _ e => e)

/-! lists of ints -/
abbrev IL (ns : List Int) : List D := ns.map D.int
abbrev ILL (xs : List (List Int)) : List D := xs.map fun ns => .list (IL ns)
theorem il_ok : ∀ ns : List Int, pysOk (IL ns) = true
  | [] => rfl
  | n :: r => by simp only [IL, List.map_cons, pysOk, pyOk, Bool.true_and]; exact il_ok r
theorem il_lay : ∀ ns : List Int, PyData.canLayAll0 (pys (IL ns)) = true
  | [] => rfl
  | n :: r => by simp only [IL, List.map_cons, pys, py, PyData.canLayAll0, PyData.canLay0, Bool.true_and]; exact il_lay r
theorem il_depth : ∀ ns : List Int, PyData.depthAll (pys (IL ns)) = 0
  | [] => rfl
  | n :: r => by simp only [IL, List.map_cons, pys, py, PyData.depthAll, PyData.depth]; rw [show PyData.depthAll (pys (List.map D.int r)) = 0 from il_depth r]; rfl
theorem il_eqv : ∀ ns ms : List Int, PyData.eqvAll (pys (IL ns)) (pys (IL ms)) = decide (ns = ms)
  | [], [] => by simp [IL, pys, PyData.eqvAll]
  | [], _ :: _ => by simp [IL, pys, PyData.eqvAll]
  | _ :: _, [] => by simp [IL, pys, PyData.eqvAll]
  | a :: r, b :: t => by
    simp only [IL, List.map_cons, pys, py, PyData.eqvAll, PyData.eqv]
    rw [show PyData.eqvAll (pys (List.map D.int r)) (pys (List.map D.int t)) = decide (r = t) from il_eqv r t]
    by_cases h : a = b <;> by_cases h' : r = t <;> simp [h, h']
theorem il_any (z : Int) : ∀ ns : List Int, ((pys (IL ns)).any fun y => PyData.eqv y (.int z)) = ns.contains z
  | [] => rfl
  | n :: r => by
    simp only [IL, List.map_cons, pys, py, List.any_cons, PyData.eqv, List.contains_cons]
    rw [show ((pys (List.map D.int r)).any fun y => PyData.eqv y (.int z)) = r.contains z from il_any z r, Bool.beq_comm]
theorem il_shaped (ns : List Int) : PySem.SeqAt.shaped (py (.list (IL ns))) = true := by
  unfold PySem.SeqAt.shaped
  simp only [py, PyData.canLay0, PyData.depth, il_lay, il_depth]; rfl
theorem cmp_eqI {ns ms : List Int} : CmpF c .Eq (.list (IL ns)) (.list (IL ms)) (decide (ns = ms)) := by
  have := cmp_eqD (c := c) (a := .list (IL ns)) (b := .list (IL ms)) (by simp [pyOk, il_ok]) (by simp [pyOk, il_ok]) (il_shaped ns) (il_shaped ms)
  simpa only [py, PyData.eqv, il_eqv] using this
theorem cmp_neI {ns ms : List Int} : CmpF c .NotEq (.list (IL ns)) (.list (IL ms)) (!decide (ns = ms)) := by
  have := cmp_neD (c := c) (a := .list (IL ns)) (b := .list (IL ms)) (by simp [pyOk, il_ok]) (by simp [pyOk, il_ok]) (il_shaped ns) (il_shaped ms)
  simpa only [py, PyData.eqv, il_eqv] using this
theorem cmp_inI {z : Int} {ns : List Int} : CmpF c .In (.int z) (.list (IL ns)) (ns.contains z) := by
  have := cmp_inD (c := c) (a := .int z) (xs := IL ns) rfl (il_ok ns) rfl (il_lay ns) (by simp [py, PyData.depth])
  simpa only [py, il_any] using this
theorem cmp_ninI {z : Int} {ns : List Int} : CmpF c .NotIn (.int z) (.list (IL ns)) (!ns.contains z) := by
  have := cmp_ninD (c := c) (a := .int z) (xs := IL ns) rfl (il_ok ns) rfl (il_lay ns) (by simp [py, PyData.depth])
  simpa only [py, il_any] using this
theorem ill_ok : ∀ ns : List (List Int), pysOk (ILL ns) = true
  | [] => rfl
  | n :: r => by simp only [ILL, List.map_cons, pysOk, pyOk, il_ok, Bool.true_and]; exact ill_ok r
theorem ill_lay : ∀ ns : List (List Int), PyData.canLayAll0 (pys (ILL ns)) = true
  | [] => rfl
  | n :: r => by simp only [ILL, List.map_cons, pys, py, PyData.canLayAll0, PyData.canLay0, il_lay, Bool.true_and]; exact ill_lay r
theorem ill_depth : ∀ ns : List (List Int), PyData.depthAll (pys (ILL ns)) ≤ 1
  | [] => Nat.zero_le _
  | n :: r => by
    simp only [ILL, List.map_cons, pys, py, PyData.depthAll, PyData.depth, il_depth]
    have := ill_depth r
    simp only [ILL] at this
    omega
theorem ill_eqv : ∀ ns ms : List (List Int), PyData.eqvAll (pys (ILL ns)) (pys (ILL ms)) = decide (ns = ms)
  | [], [] => by simp [ILL, pys, PyData.eqvAll]
  | [], _ :: _ => by simp [ILL, pys, PyData.eqvAll]
  | _ :: _, [] => by simp [ILL, pys, PyData.eqvAll]
  | a :: r, b :: t => by
    simp only [ILL, List.map_cons, pys, py, PyData.eqvAll, PyData.eqv, il_eqv]
    have := ill_eqv r t
    simp only [ILL] at this
    rw [this]
    by_cases h : a = b <;> by_cases h' : r = t <;> simp [h, h']
theorem ill_shaped (ns : List (List Int)) : PySem.SeqAt.shaped (py (.list (ILL ns))) = true := by
  unfold PySem.SeqAt.shaped
  have := ill_depth ns
  simp only [py, PyData.canLay0, PyData.depth, ill_lay, Bool.true_and, decide_eq_true_eq]; omega
theorem cmp_eqII {ns ms : List (List Int)} : CmpF c .Eq (.list (ILL ns)) (.list (ILL ms)) (decide (ns = ms)) := by
  have := cmp_eqD (c := c) (a := .list (ILL ns)) (b := .list (ILL ms)) (by simp [pyOk, ill_ok]) (by simp [pyOk, ill_ok]) (ill_shaped ns) (ill_shaped ms)
  simpa only [py, PyData.eqv, ill_eqv] using this
theorem cmp_neII {ns ms : List (List Int)} : CmpF c .NotEq (.list (ILL ns)) (.list (ILL ms)) (!decide (ns = ms)) := by
  have := cmp_neD (c := c) (a := .list (ILL ns)) (b := .list (ILL ms)) (by simp [pyOk, ill_ok]) (by simp [pyOk, ill_ok]) (ill_shaped ns) (ill_shaped ms)
  simpa only [py, PyData.eqv, ill_eqv] using this
/-- a pair of ints -/
abbrev PR (p : Int × Int) : D := .tup [.int p.1, .int p.2]
abbrev PL (ps : List (Int × Int)) : List D := ps.map PR
theorem pl_ok : ∀ ns : List (Int × Int), pysOk (PL ns) = true
  | [] => rfl
  | n :: r => by simp only [PL, List.map_cons, pysOk, pyOk, Bool.true_and]; exact pl_ok r
theorem pl_lay : ∀ ns : List (Int × Int), PyData.canLayAll0 (pys (PL ns)) = true
  | [] => rfl
  | n :: r => by simp only [PL, List.map_cons, pys, py, PyData.canLayAll0, PyData.canLay0, Bool.true_and]; exact pl_lay r
theorem pl_one (z n : Int × Int) : PyData.eqv (.tuple [.int n.1, .int n.2]) (.tuple [.int z.1, .int z.2]) = (z == n) := by
  obtain ⟨a, b⟩ := z
  obtain ⟨u, v⟩ := n
  simp only [PyData.eqv, PyData.eqvAll, Bool.and_true]
  rw [Bool.eq_iff_iff]
  simp only [Bool.and_eq_true, beq_iff_eq, Prod.mk.injEq]
  exact ⟨fun h => ⟨h.1.symm, h.2.symm⟩, fun h => ⟨h.1.symm, h.2.symm⟩⟩
theorem pl_any (z : Int × Int) : ∀ ns : List (Int × Int), ((pys (PL ns)).any fun y => PyData.eqv y (py (PR z))) = ns.contains z
  | [] => rfl
  | n :: r => by
    have ih := pl_any z r
    show (PyData.eqv (.tuple [.int n.1, .int n.2]) (.tuple [.int z.1, .int z.2]) || ((pys (PL r)).any fun y => PyData.eqv y (py (PR z)))) = (n :: r).contains z
    rw [ih, pl_one, List.contains_cons]
theorem cmp_ninP {z : Int × Int} {ns : List (Int × Int)} : CmpF c .NotIn (PR z) (.list (PL ns)) (!ns.contains z) := by
  have := cmp_ninD (c := c) (a := PR z) (xs := PL ns) rfl (pl_ok ns) rfl (pl_lay ns) (by simp [py, pys, PyData.depth, PyData.depthAll])
  simpa only [pl_any] using this
/-- a text in a pair of texts -/
def okS (x : Str) : Bool := x.cps.all (· < 0x110000)
theorem cmp_ninS {x y z : Str} (hx : okS x = true) (hy : okS y = true) (hz : okS z = true) : CmpF c .NotIn (.str z) (.tup [.str x, .str y]) (!(x == z || y == z)) := by
  have := cmp_ninT (c := c) (a := .str z) (xs := [.str x, .str y]) rfl rfl hz (by simp only [pys, py, PyData.canLayAll0, PyData.canLay0, Bool.and_true, Bool.and_eq_true]; exact ⟨hx, hy⟩) (by simp [py, PyData.depth])
  simpa only [pys, py, List.any_cons, List.any_nil, PyData.eqv, Bool.or_false] using this

/-! one object or another -/
theorem cmp_isnot_self {a : Addr} : CmpF c .IsNot (.obj a) (.obj a) false := fun fr s g va vb O hs _ ra rb Q hQ => by
  cases ra with
  | fz ra => cases ra with
    | obj _ o ho hc hd => cases rb with
      | fz rb => cases rb with
        | obj _ o' ho' hc' hd' => exact wpAny_isNot_ref_self (hQ s.heap s.toks fun _ _ e => e)
theorem cmp_is_self {a : Addr} : CmpF c .Is (.obj a) (.obj a) true := fun fr s g va vb O hs _ ra rb Q hQ => by
  cases ra with
  | fz ra => cases ra with
    | obj _ o ho hc hd => cases rb with
      | fz rb => cases rb with
        | obj _ o' ho' hc' hd' => exact wpAny_is_ref_self (hQ s.heap s.toks fun _ _ e => e)
theorem cmp_isnot_str {a : Addr} {x : Str} : CmpF c .IsNot (.str x) (.obj a) true := fun fr s g va vb O hs _ ra rb Q hQ => by
  obtain ⟨t, rfl⟩ := rstr ra
  cases rb with
  | fz rb => cases rb with
    | obj _ o' ho' hc' hd' => exact wpAny_isNot_other rfl (by simp) (hQ s.heap s.toks fun _ _ e => e)
end Mine

set_option maxRecDepth 100000
set_option autoImplicit false
set_option linter.unusedVariables false
namespace Mine
open PySem PySem.W PySem.Calls PyProof.Rows PySem.Builtin.Str
variable {c : Cfg} {Γ : Gam} {Δ : Del} {P : Post}

/-- a built-in of one argument -/
def B1 (c : Cfg) (id : String) (d r : D) : Prop := ∀ fr (s : Shared) g v, Okf c fr → (∀ b o, g b = some o → s.heap.get? b = some o) → (∀ b o, fr.h₀.get? b = some o → s.heap.get? b = some o) → RepS s.heap g d v →
  ∀ Q : Value → Shared → Prop, (∀ v h' g' tk, Gr s.heap g h' g' → Rep g' r v → Q v { s with heap := h', toks := tk }) → W c fr (call (.builtin id) [v]) Q s
theorem ev_b1 {f : Str} {id : String} {p pos : Pos} {e : Expr} {d r : D} (he : Ev c Γ Δ e d) (hb : B1 c id d r) (hk : c.sc.names.lookup f = some .globalImplicit) (hl : f ∈ c.X.bl) (hv : bootBuiltins f = some (.builtin id))
    (hd : (f == ("__debug__" : Str)) = false := by decide) (hs : ∀ env, starEach [e] env = [(false, eval e env)] := by intro _; rfl) : EvF c Γ Δ (.Call (.Name f p) [e] [] pos) r := fun fr s g am O S' Q hQ =>
  Call_ (w_global O S' hk hl hv hd (PyProof.Rows.callWith_builtin1 (args_cons (he fr s g am O S' _ fun v h1 g1 t1 k1 r1 => args_nil
    (hb fr _ g1 v O k1.sub (S'.gr k1).keep r1 Q fun v h2 g2 t2 k2 r2 => hQ v h2 g2 t2 (k1.trans k2) r2)) (hs _)) (hs _)))

theorem b_len_list {ds : List D} (hz : ds.length ≤ 1000000) : B1 c "len" (.list ds) (.int ds.length) := fun fr s g v O hs _ r Q hQ => by
  obtain ⟨a, vs, n, rfl, ho, hr⟩ := r.list hs
  refine PyProof.Rows.len_list (isList_of ho) (by rw [List.size_toArray, hr.length]; omega) ?_
  rw [List.size_toArray, hr.length]
  exact hQ _ s.heap g _ (.refl hs) (.int _ _)
theorem b_len_str {x : Str} (hz : x.length ≤ 1000000) : B1 c "len" (.str x) (.int x.length) := fun fr s g v O hs _ r Q hQ => by
  obtain ⟨t, rfl⟩ := rstr r
  exact PySem.P.len_str (by omega) (hQ _ s.heap g _ (.refl hs) (.int _ _))
theorem b_chr {i : Int} (h0 : 0 ≤ i) (h1 : i ≤ 1114111) : B1 c "chr" (.int i) (.str (S [i.toNat])) := fun fr s g v O hs _ r Q hQ => by
  obtain ⟨t, rfl⟩ := rint r
  exact chr_of_range h0 h1 (hQ _ s.heap g _ (.refl hs) (.str _ _))
theorem b_ord {n : Nat} : B1 c "ord" (.str (S [n])) (.int n) := fun fr s g v O hs _ r Q hQ => by
  obtain ⟨t, rfl⟩ := rstr r
  exact PySem.P.ord_of_char (hQ _ s.heap g _ (.refl hs) (.int _ _))
theorem b_abs {i : Int} : B1 c "abs" (.int i) (.int (if i < 0 then -i else i)) := fun fr s g v O hs _ r Q hQ => by
  obtain ⟨t, rfl⟩ := rint r
  exact call_abs_int fun u tk => hQ _ s.heap g tk (.refl hs) (.int _ _)

/-- int(e) of an int -/
theorem ev_int_of {p pos : Pos} {e : Expr} {i : Int} (he : Ev c Γ Δ e (.int i)) (hk : c.sc.names.lookup (Str.ofString "int") = some .globalImplicit) (hl : Str.ofString "int" ∈ c.X.bl)
    (hs : ∀ env, starEach [e] env = [(false, eval e env)] := by intro _; rfl) : EvF c Γ Δ (.Call (.Name (Str.ofString "int") p) [e] [] pos) (.int i) := fun fr s g am O S' Q hQ =>
  Call_ (w_global O S' hk hl PyProof.Rows.boot_int (by decide) (PyProof.Rows.callWith_type1 (args_cons (he fr s g am O S' _ fun v h1 g1 t1 k1 r1 => args_nil (by
    obtain ⟨t, rfl⟩ := rint r1
    exact call_int_int (hQ _ h1 g1 t1 k1 (.int _ _)))) (hs _)) (hs _)))

/-- divmod(a, b) -/
theorem ev_divmod {p pos : Pos} {e1 e2 : Expr} {a b : Int} (h1 : Ev c Γ Δ e1 (.int a)) (h2 : Ev c Γ Δ e2 (.int b)) (hb : b ≠ 0) (hp : Builtin.divisionGoesByPylong a b = false)
    (hk : c.sc.names.lookup (Str.ofString "divmod") = some .globalImplicit) (hl : Str.ofString "divmod" ∈ c.X.bl)
    (hs : ∀ env, starEach [e1, e2] env = (false, eval e1 env) :: starEach [e2] env := by intro _; rfl) (hs' : ∀ env, starEach [e2] env = [(false, eval e2 env)] := by intro _; rfl) :
    EvF c Γ Δ (.Call (.Name (Str.ofString "divmod") p) [e1, e2] [] pos) (.tup [.int (a.fdiv b), .int (a.fmod b)]) := fun fr s g am O S' Q hQ =>
  Call_ (w_global O S' hk hl PyProof.Rows.boot_divmod (by decide) (PyProof.Rows.callWith_builtin1 (args_cons (h1 fr s g am O S' _ fun v g1h g1 t1 k1 r1 => args_cons (h2 fr _ g1 am O (S'.gr k1) _ fun v2 h2 g2 t2 k2 r2 => args_nil (by
    obtain ⟨t, rfl⟩ := rint r1
    obtain ⟨u, rfl⟩ := rint r2
    refine divmod_int hb ?_ (.inl hp)
    exact hQ _ _ (g2.add h2.objs.size (tupO [.int (a.fdiv b) t2, .int (a.fmod b) (t2 + 1)] 0)) _ ((k1.trans k2).trans (.add k2.sub (fun b o e => Heap.get?_push_of_some _ e) fresh_size (Heap.get?_push_size _ rfl)))
      (.tup _ _ _ 0 (Fz.add_self _ _ _) (.cons (.int _ _) (.cons (.int _ _) .nil))))) (hs' _)) (hs _)) (hs _) (by rw [hs']; rfl)))

/-- x, y = a pair -/
theorem ex_pair {x y : Str} {px py tp pos : Pos} {k : Nat} {value : Expr} {d e : D} (hv : Ev c Γ Δ value (.tup [d, e])) (hx : Sto c x) (hy : Sto c y) (h : P .next (upd (upd Γ x (.d d)) y (.d e)) Δ) (hh : c.hd = true := by rfl)
    (hs : ∀ env, swapsWithSole [.Tuple [.Name x px, .Name y py] k tp] value pos.line env = pure false := by intro _; rfl) (hw : ∀ env, swappedStores [.Tuple [.Name x px, .Name y py] k tp] value env = pure none := by intro _; rfl) :
    Ex1 c Γ Δ (.Assign [.Tuple [.Name x px, .Name y py] k tp] value pos) P := fun fr s g am O S' Q hQ => by
  refine Assign_Tuple (hv fr s g am O S' _ fun v h1 g1 t1 k1 r1 => ?_) (hs _) (hw _)
  obtain ⟨a, vs, n, rfl, ho, hr⟩ := r1.tup k1.sub
  cases hr with
  | @cons _ v1 _ _ hr1 hr => cases hr with
    | @cons _ v2 _ _ hr2 hr => cases hr with
      | nil =>
        refine wpAny_assign_Tuple (items := #[v1, v2]) (O.hand hh) ⟨_, ho, rfl, n, rfl⟩ rfl rfl fun h2 e2 => ?_
        have kp : ∀ b o, h1.get? b = some o → h2.get? b = some o := fun b o e => e2 b o (fun q => by
          have e3 : h1.get? h1.objs.size = some o := by rw [← show b = h1.objs.size from q]; exact e
          rw [fresh_size] at e3; cases e3) e
        have k2 := k1.trans (.heap k1.sub kp)
        show wpAny _ _ (assignInOrder [assign (.Name x px) fr.env, assign (.Name y py) fr.env] _) _ _ _
        refine wpAny_assignInOrder_more (PyProof.Rows.assign_Name (w_store O (S'.gr k2) hx (.d _ _ hr1) fun h3 t3 S3 _ => wpAny_assignInOrder_more (PyProof.Rows.assign_Name (w_store O S3 hy (.d _ _ hr2) fun h4 t4 S4 _ => wpAny_pure (hQ .next .next _ _ h4 g1 am t4 h .next S4)))))
theorem ex_pairS {x y : Str} {px py tp pos : Pos} {k : Nat} {value : Expr} {d e : D} (hv : Ev c Γ Δ value (.tup [d, e])) (hx : Sto c x) (hy : Sto c y) (h : P .next (upd (upd Γ y (.d e)) x (.d d)) Δ)
    (hw : ∀ env, env.scope = c.sc → swappedStores [.Tuple [.Name x px, .Name y py] k tp] value env = pure (some [x, y]))
    (hs : ∀ env, swapsWithSole [.Tuple [.Name x px, .Name y py] k tp] value pos.line env = pure false := by intro _; rfl) (hh : c.hd = true := by rfl) :
    Ex1 c Γ Δ (.Assign [.Tuple [.Name x px, .Name y py] k tp] value pos) P := fun fr s g am O S' Q hQ => by
  refine Assign_Tuple_swapped (hv fr s g am O S' _ fun v h1 g1 t1 k1 r1 => ?_) (hs _) (hw _ O.sc)
  obtain ⟨a, vs, n, rfl, ho, hr⟩ := r1.tup k1.sub
  cases hr with
  | @cons _ v1 _ _ hr1 hr => cases hr with
    | @cons _ v2 _ _ hr2 hr => cases hr with
      | nil =>
        refine wpAny_unpackItems_tuple (items := #[v1, v2]) (O.hand hh) ⟨_, ho, rfl, n, rfl⟩ fun h2 e2 => ?_
        have kp : ∀ b o, h1.get? b = some o → h2.get? b = some o := fun b o e => e2 b o (fun q => by
          have e3 : h1.get? h1.objs.size = some o := by rw [← show b = h1.objs.size from q]; exact e
          rw [fresh_size] at e3; cases e3) e
        have k2 := k1.trans (.heap k1.sub kp)
        show wpAny _ _ (assignInOrder [bindName fr.env y, bindName fr.env x] [_, _]) _ _ _
        refine wpAny_assignInOrder_more (PyProof.Rows.bindName_ (w_store O (S'.gr k2) hy (.d _ _ hr2) fun h3 t3 S3 _ => wpAny_assignInOrder_more (PyProof.Rows.bindName_ (w_store O S3 hx (.d _ _ hr1) fun h4 t4 S4 _ => wpAny_pure (hQ .next .next _ _ h4 g1 am t4 h .next S4)))))
/-- x = y = e -/
theorem ex_two {x y : Str} {px py pos : Pos} {value : Expr} {d : D} (hv : EvF c Γ Δ value d) (hx : Sto c x) (hy : Sto c y) (h : P .next (upd (upd Γ x (.d d)) y (.d d)) Δ)
    (hw : ∀ env, swappedStores [.Name x px, .Name y py] value env = pure none := by intro _; rfl) : Ex1 c Γ Δ (.Assign [.Name x px, .Name y py] value pos) P := fun fr s g am O S' Q hQ =>
  wpAny_Assign_two (hv fr s g am O S' _ fun v h1 g1 t1 k1 r1 => PyProof.Rows.assign_Name (w_store O (S'.gr k1) hx (.d d v r1) fun h2 t2 S2 _ => PyProof.Rows.assign_Name (w_store O S2 hy (.d d v r1) fun h3 t3 S3 _ => hQ .next .next _ _ h3 g1 am t3 h .next S3))) rfl (hw _)
end Mine

set_option maxRecDepth 100000
set_option autoImplicit false
set_option linter.unusedVariables false
namespace Mine
open PySem PySem.W PySem.Calls PyProof.Rows PySem.Builtin.Str
variable {c : Cfg} {Γ : Gam} {Δ : Del} {P : Post}

/-! a method of a text -/
theorem w_str_meth {fr : Frm} {s : Shared} {g : Fz} {am : List Addr} {o : Expr} {name : Str} {id : String} {ap pos : Pos} {x : Str} {args : List Expr} {Q : Value → Shared → Prop} (O : Okf c fr) (S' : St fr Γ Δ s.heap g am) (ho : Ev c Γ Δ o (.str x))
    (slot : Slot "str" name id) (hty : typeOf (.builtin id) = pure (.type "method_descriptor")) (hl : (ap.endLine == pos.line) = true)
    (hb : attributeBase o name fr.env (eval o fr.env) = eval o fr.env)
    (hf : ((backTo pos (starEach args fr.env)).all (fun x => !x.1) && (backToKw pos (keywordEach [] fr.env)).all (fun x => x.1.isSome) && decide (args.length + ([] : List Keyword).length + (if ([] : List Keyword).isEmpty then 0 else 1) < 30)) = true)
    (h : ∀ t h1 g1 t1, Gr s.heap g h1 g1 → W c fr (callWith pos (.builtin id) [.str x t] (backTo pos (starEach args fr.env)) []) Q { s with heap := h1, toks := t1 }) : W c fr (eval (.Call (.Attribute o name ap) args [] pos) fr.env) Q s :=
  wpAny_Call_method hb hf hl F.plainAttrs_str slot hty (ho fr s g am O S' _ fun v h1 g1 t1 k1 r1 => by
    obtain ⟨t, rfl⟩ := rstr r1
    exact ⟨typeIs_str _ _ _, fun a e => (by cases e), h t h1 g1 t1 k1⟩)

theorem strs_of {g : Fz} : ∀ {xs : List (List Nat)} {vs : List Value}, Reps g (xs.map fun l => .str (S l)) vs → ∃ l : List (Str × Tok), vs = strValues l ∧ l.map (·.1) = xs.map S
  | [], _, .nil => ⟨[], rfl, rfl⟩
  | x :: xs, _, .cons h t => by
    obtain ⟨l, e1, e2⟩ := strs_of t
    cases h with
    | str _ u => exact ⟨(S x, u) :: l, by rw [e1]; rfl, by simp [e2]⟩

theorem append_S (a b : List Nat) : S a ++ S b = S (a ++ b) := by
  show Str.append _ _ = _
  unfold Str.append
  simp
theorem join_S : ∀ xs : List (List Nat), Str.join ⟨#[]⟩ (xs.map S) = S xs.flatten
  | [] => rfl
  | [x] => by simp [Str.join]
  | x :: y :: r => by
    have ih := join_S (y :: r)
    show S x ++ ⟨#[]⟩ ++ Str.join ⟨#[]⟩ ((y :: r).map S) = _
    rw [ih, show (⟨#[]⟩ : Str) = S [] from rfl, append_S, append_S]
    simp
theorem joinOk_S (xs : List (List Nat)) (hz : xs.flatten.length ≤ 1000000) : JoinOk ⟨#[]⟩ (xs.map S) = true := by
  unfold JoinOk
  have key : ∀ (l : List (List Nat)) (acc : Nat), ((l.map S).foldl (fun a (x : Str) => a + x.length + (⟨#[]⟩ : Str).length) acc) = acc + l.flatten.length := by
    intro l
    induction l with
    | nil => intro acc; simp
    | cons x r ih =>
      intro acc
      rw [List.map_cons, List.foldl_cons, ih]
      simp [Str.length]; omega
  have e : ((xs.map S).toArray.foldl (fun a (x : Str) => a + x.length + (⟨#[]⟩ : Str).length) 0) = xs.flatten.length := by
    rw [List.foldl_toArray, key, Nat.zero_add]
  show (!tooLong ((xs.map S).toArray.foldl (fun a (x : Str) => a + x.length + (⟨#[]⟩ : Str).length) 0)) = true
  rw [e]
  unfold tooLong
  rw [sizeLine_lit]
  have : ¬ xs.flatten.length > 16777216 := by omega
  simp only [this, decide_false, Bool.not_false]

/-- ''.join(e) -/
theorem ev_join {o e : Expr} {ap pos : Pos} {xs : List (List Nat)} (ho : Ev c Γ Δ o (.str ⟨#[]⟩)) (he : Ev c Γ Δ e (.list (xs.map fun l => .str (S l)))) (hz : xs.flatten.length ≤ 1000000) (hl : (ap.endLine == pos.line) = true := by rfl)
    (hb : ∀ env, attributeBase o (Str.ofString "join") env (eval o env) = eval o env := by intro _; rfl) (hs : ∀ env, starEach [e] env = [(false, eval e env)] := by intro _; rfl) :
    EvF c Γ Δ (.Call (.Attribute o (Str.ofString "join") ap) [e] [] pos) (.str (S xs.flatten)) := fun fr s g am O S' Q hQ =>
  w_str_meth O S' ho F.slot_str_join F.type_str_join hl (hb _) (by rw [hs]; rfl) fun t h1 g1 t1 k1 =>
    PyProof.Rows.callWith_method1 (args_cons (he fr _ g1 am O (S'.gr k1) _ fun v h2 g2 t2 k2 r2 => args_nil (by
      obtain ⟨a, vs, n, rfl, hoh, hr⟩ := r2.list k2.sub
      obtain ⟨l, e1, e2⟩ := strs_of hr
      subst e1
      refine SC.join (texts := xs.map S) (isList_of hoh) e2 (joinOk_S xs hz) fun t' k => ?_
      have ej : Txt.join ⟨#[]⟩ (xs.map S) = S xs.flatten := by
        rw [show Txt.join ⟨#[]⟩ (xs.map S) = Str.join ⟨#[]⟩ (xs.map S) from beq_iff_eq.mp (PyProof.Rows.join_plain_closes _ _), join_S]
      rw [ej]
      exact hQ _ h2 g2 k (k1.trans k2) (.str _ _))) (hs _)) (hs _)

/-- f'..{e}..' -/
inductive EvJ (c : Cfg) (Γ : Gam) (Δ : Del) : List Expr → List Nat → Prop
  | nil : EvJ c Γ Δ [] []
  | lit {x : List Nat} {k : Nat} {pos : Pos} {es : List Expr} {r : List Nat} (t : EvJ c Γ Δ es r) : EvJ c Γ Δ (.Constant (.str (S x)) k pos :: es) (x ++ r)
  | lit' {y : Str} {x : List Nat} {k : Nat} {pos : Pos} {es : List Expr} {r : List Nat} (hy : y = S x) (t : EvJ c Γ Δ es r) : EvJ c Γ Δ (.Constant (.str y) k pos :: es) (x ++ r)
  | val {e : Expr} {pos : Pos} {x : List Nat} {es : List Expr} {r : List Nat} (h : Ev c Γ Δ e (.str (S x))) (t : EvJ c Γ Δ es r) : EvJ c Γ Δ (.FormattedValue e (-1) none pos :: es) (x ++ r)
theorem w_joins {fr : Frm} {am : List Addr} : ∀ {es : List Expr} {r : List Nat} (_ : EvJ c Γ Δ es r) {s : Shared} {g : Fz} (acc : List Nat) (_ : Okf c fr) (_ : St fr Γ Δ s.heap g am) (_ : acc.length + r.length ≤ 1000000) {Q : Str → Shared → Prop}
    (_ : ∀ h' g' tk, Gr s.heap g h' g' → Q (S (acc ++ r)) { s with heap := h', toks := tk }), Joins (model c.X.prog c.X.w) fr.A (fun _ _ => False) (evalEach es fr.env) (S acc) Q s
  | _, _, .nil, s, g, acc, O, S', hz, Q, hQ => by
    show Q (S acc) s
    have := hQ s.heap g s.toks (.refl S'.sub)
    rwa [List.append_nil] at this
  | _, _, .lit (x := x) (r := r) t, s, g, acc, O, S', hz, Q, hQ => by
    simp only [List.length_append] at hz
    refine ev_str fr s g am O S' _ fun v h1 g1 t1 k1 r1 => ?_
    obtain ⟨u, rfl⟩ := rstr (.fz r1 : RepS h1 g1 _ _)
    refine ⟨_, _, rfl, ?_, ?_⟩
    · rw [append_S, sizeLine_lit]; simp [Str.length]; omega
    · rw [append_S]
      exact w_joins t (acc ++ x) O (S'.gr k1) (by rw [List.length_append]; omega) fun h2 g2 t2 k2 => by rw [List.append_assoc]; exact hQ h2 g2 t2 (k1.trans k2)
  | _, _, .lit' (x := x) (r := r) rfl t, s, g, acc, O, S', hz, Q, hQ => by
    simp only [List.length_append] at hz
    refine ev_str fr s g am O S' _ fun v h1 g1 t1 k1 r1 => ?_
    obtain ⟨u, rfl⟩ := rstr (.fz r1 : RepS h1 g1 _ _)
    refine ⟨_, _, rfl, ?_, ?_⟩
    · rw [append_S, sizeLine_lit]; simp [Str.length]; omega
    · rw [append_S]
      exact w_joins t (acc ++ x) O (S'.gr k1) (by rw [List.length_append]; omega) fun h2 g2 t2 k2 => by rw [List.append_assoc]; exact hQ h2 g2 t2 (k1.trans k2)
  | _, _, .val (x := x) (r := r) h t, s, g, acc, O, S', hz, Q, hQ => by
    simp only [List.length_append] at hz
    have hx : (S x).length ≤ sizeLine := by rw [sizeLine_lit]; simp [Str.length]; omega
    refine wpAny_FormattedValue_plain (h fr s g am O S' _ fun v h1 g1 t1 k1 r1 => ?_)
    obtain ⟨u, rfl⟩ := rstr r1
    have fin : ∀ u tk, ∃ y t, Value.str (S x) u = .str y t ∧ (S acc ++ y).length ≤ sizeLine ∧ Joins (model c.X.prog c.X.w) fr.A (fun _ _ => False) (evalEach _ fr.env) (S acc ++ y) Q { s with heap := h1, toks := tk } := fun u tk => by
      refine ⟨_, _, rfl, ?_, ?_⟩
      · rw [append_S, sizeLine_lit]; simp [Str.length]; omega
      · rw [append_S]
        exact w_joins t (acc ++ x) O (S'.gr k1) (by rw [List.length_append]; omega) fun h2 g2 t2 k2 => by rw [List.append_assoc]; exact hQ h2 g2 t2 (k1.trans k2)
    exact wpAny_formatField_str (fin _ _) (fin _ _) hx
theorem ev_fstr {e1 e2 : Expr} {es : List Expr} {pos : Pos} {r : List Nat} (h : EvJ c Γ Δ (e1 :: e2 :: es) r) (hz : r.length ≤ 1000000) : EvF c Γ Δ (.JoinedStr (e1 :: e2 :: es) pos) (.str (S r)) := fun fr s g am O S' Q hQ =>
  wpAny_JoinedStr (w_joins h [] O S' (by simpa using hz) fun h' g' tk k => by
    refine ⟨by rw [sizeLine_lit]; simp [Str.length]; omega, ?_⟩
    exact hQ _ h' g' _ k (.str _ _))
end Mine

set_option maxRecDepth 100000
set_option autoImplicit false
set_option linter.unusedVariables false
namespace Mine
open PySem PySem.W PySem.Calls PyProof.Rows PySem.Builtin.Str
variable {c : Cfg} {Γ : Gam} {Δ : Del} {P : Post}

/-! object() -/
theorem ob_mro : mroOf (.type "object") = pure [.type "object"] := by rw [mroOf_type]; kernel_rfl
theorem ob_new : typeLookup (.type "object") "__new__" = pure (some (.builtin "object.__new__")) := by rw [typeLookup_type, builtinLookup_eq_fast]; kernel_rfl
theorem ob_called : TypeCalled "object" "object.__new__" "object.__init__" :=
  ⟨by decide +kernel, by decide +kernel, ⟨_, _, ob_mro⟩, madeBy_type ob_mro ob_new (by decide +kernel), by decide +kernel, by rw [isSubtype_type]; kernel_rfl, F.slot_object_init⟩
theorem ob_tree : Builtin.«object.__new__» ⟨[.type "object"], []⟩ = (newObj (.type "object") .plain none >>= fun v => ret v) := by kernel_rfl
theorem ob_meets : Meets (Builtin.«object.__new__» ⟨[.type "object"], []⟩) (fun _ R s => R (.ok (.ret (.ref s.heap.objs.size))) { s with heap := s.heap.push { cls := .type "object", data := .plain } }) :=
  .of_wp fun prog w A R s h => by
    rw [ob_tree]
    exact wpAny_bind (wpAny_newObj_type (wpAny_pure ⟨_, rfl, h⟩))
theorem ob_init (v : Value) : Meets (Builtin.«object.__init__» ⟨[v], []⟩) (fun _ R s => R (.ok (.ret .none)) s) := .of_wp fun prog w A R s h => wpAny_pure ⟨_, rfl, h⟩
theorem call_object {prog : Program} {w : World} {A : Around} {E : Value → Shared → Prop} {s : Shared} {Q : Value → Shared → Prop} (h : Q (.ref s.heap.objs.size) { s with heap := s.heap.push { cls := .type "object", data := .plain } }) :
    wpAny (model prog w) A (call (.type "object") []) Q E s :=
  callType_meets (Q₁ := fun obj s₁ => s₁.TypeIs obj "object" ∧ Q obj s₁) ob_called (by kernel_rfl) (by kernel_rfl) F.entry_object_new (entryFor_of_tree (by kernel_rfl)) ob_meets ⟨⟨_, Heap.get?_push_size _ rfl, rfl⟩, h⟩
    fun obj s₁ hq => ⟨hq.1, by unfold argsOk; rw [signature?_of (id := "object.__init__") (n := ['_', '_', 't', 'i', 'n', 'i', '_', '_']) (o := ['t', 'c', 'e', 'j', 'b', 'o']) (by kernel_rfl) F.owner_object]; kernel_rfl, _, ob_init obj, rfl, hq.2⟩

theorem ex_assign_object {x : Str} {p q pos pos' : Pos} (hx : Sto c x) (hk : c.sc.names.lookup (Str.ofString "object") = some .globalImplicit) (hl : Str.ofString "object" ∈ c.X.bl) (h : ∀ a, P .next (upd Γ x (.d (.obj a))) Δ) :
    Ex1 c Γ Δ (.Assign [.Name x p] (.Call (.Name (Str.ofString "object") q) [] [] pos) pos') P := fun fr s g am O S' Q hQ =>
  wpAny_Assign_Name (Call_ (w_global O S' hk hl PyProof.Rows.boot_object (by decide) (PyProof.Rows.callWith_type0 (call_object (by
    have k := Gr.add (o := { cls := .type "object", data := .plain }) S'.sub (fun b o e => Heap.get?_push_of_some _ e) fresh_size (Heap.get?_push_size _ rfl)
    exact w_store O (S'.gr k) hx (.d _ _ (.obj _ _ (Fz.add_self _ _ _) rfl rfl)) fun h2 t2 S2 _ => hQ .next .next _ _ h2 _ am t2 (h _) .next S2))))) rfl

/-! find, index -/
theorem ev_find {o e : Expr} {ap pos : Pos} {x y : Str} (ho : Ev c Γ Δ o (.str x)) (he : Ev c Γ Δ e (.str y)) (hl : (ap.endLine == pos.line) = true := by rfl)
    (hb : ∀ env, attributeBase o (Str.ofString "find") env (eval o env) = eval o env := by intro _; rfl) (hs : ∀ env, starEach [e] env = [(false, eval e env)] := by intro _; rfl) :
    EvF c Γ Δ (.Call (.Attribute o (Str.ofString "find") ap) [e] [] pos) (.int (Txt.find x y)) := fun fr s g am O S' Q hQ =>
  w_str_meth O S' ho F.slot_str_find F.type_str_find hl (hb _) (by rw [hs]; rfl) fun t h1 g1 t1 k1 =>
    PyProof.Rows.callWith_method1 (args_cons (he fr _ g1 am O (S'.gr k1) _ fun v h2 g2 t2 k2 r2 => args_nil (by
      obtain ⟨u, rfl⟩ := rstr r2
      exact SC.find (hQ _ h2 g2 _ (k1.trans k2) (.int _ _)))) (hs _)) (hs _)

/-! backwards -/
theorem rev_pick (l : List Nat) : (strSliceIndices none none (-1) (S l).length).filterMap ((S l).cps[·]?) = l.reverse := by
  have hlen : (S l).length = l.length := by simp [Str.length]
  have e : strSliceIndices none none (-1) (S l).length = sliceRange ((l.length : Int) - 1) (-1) (-1) := by
    unfold strSliceIndices
    rw [hlen]
    rfl
  rw [e, krv_sliceRange, krv_range, List.filterMap_reverse]
  have := krv_all (S l).cps
  rw [show (S l).cps.size = l.length by simp] at this
  rw [this]
theorem ev_rev_str {v st : Expr} {l : List Nat} {p pos : Pos} (hv : Ev c Γ Δ v (.str (S l))) (hst : Ev c Γ Δ st (.int (-1))) (hz : l.length ≤ 100000)
    (ht : ∀ o r, letTemporaryGo v o r = pure () := by intro _ _; rfl) : EvF c Γ Δ (.Subscript v (.Slice none none (some st) p) pos) (.str (S l.reverse)) := fun fr s g am O S' Q hQ =>
  wpAny_Subscript_Slice_step F.slot_str_getitem.lookup (hv fr s g am O S' _ fun va k1 g1 t1 kk1 r1 => wpAny_Slice (wpAny_pure (wpAny_pure (hst fr _ g1 am O (S'.gr kk1) _ fun vs k2 g2 t2 kk2 r2 => by
    obtain ⟨t, rfl⟩ := rint r2
    obtain ⟨u, rfl⟩ := rstr r1
    dsimp only
    refine ⟨typeIs_str _ _ _, wpAny_getItem_str_slice (l := none) (u := none) (st := some (-1, t)) ⟨_, Heap.get?_push_size _ rfl, rfl, rfl⟩ rfl ?_⟩
    have kp : ∀ b o, k2.get? b = some o → (k2.push { cls := .type "slice", data := .fields #[.none, .none, .int (-1) t] }).get? b = some o := fun b o e => Heap.get?_push_of_some _ e
    unfold sliceMade
    have e1 : (((some ((-1 : Int), t)).map (·.1)).getD 1 == 1 && (slicePicked (S l) none none (some (-1, t))).length == (S l).length) = false := rfl
    rw [e1]
    simp only [Bool.false_eq_true, if_false]
    have e2 : (slicePicked (S l) none none (some (-1, t))).filterMap ((S l).cps[·]?) = l.reverse := rev_pick l
    rw [e2]
    refine ⟨by rw [sizeLine_lit]; simp [Str.length]; omega, ?_⟩
    exact hQ _ _ g2 _ ((kk1.trans kk2).trans (.heap kk2.sub kp)) (.str _ _)))) ) ht
end Mine

set_option maxRecDepth 100000
set_option autoImplicit false
set_option linter.unusedVariables false
namespace Mine
open PySem PySem.W PySem.Calls PyProof.Rows
section
variable {c : Cfg} {Γ : Gam} {Δ : Del} {P : Post}

/-! bytes -/
theorem op_addb {a b : List UInt8} (hsz : a.length + b.length ≤ 16777216) : OpF c .Add (.bytes a) (.bytes b) (.bytes (a ++ b)) := fun fr s g va vb O hs _ ra rb Q hQ => by
  obtain ⟨t, rfl⟩ := rbytes ra; obtain ⟨u, rfl⟩ := rbytes rb
  refine KBy.add_bytes (by simpa using hsz) fun t' tk => ?_
  have e : a.toArray ++ b.toArray = (a ++ b).toArray := by simp
  rw [e]
  exact hQ _ s.heap g tk (.refl hs) (.bytes _ t')

theorem ev_sl_bytes {v : Expr} {lo hi : Option Expr} {i j : Option Int} {l : List UInt8} {p pos : Pos} (hv : Ev c Γ Δ v (.bytes l)) (h1 : EvP c Γ Δ lo i) (h2 : EvP c Γ Δ hi j) (hz : l.length ≤ 100000)
    (ht : ∀ o r, letTemporaryGo v o r = pure () := by intro _ _; rfl) : EvF c Γ Δ (.Subscript v (.Slice lo hi none p) pos) (.bytes (cut l i j)) := fun fr s g am O S' Q hQ =>
  wpAny_Subscript_Slice FB.slot_bytes_getitem.lookup (hv fr s g am O S' _ fun va k1 g1 t1 kk1 r1 => wpAny_Slice (w_part h1 O (S'.gr kk1) fun q1 k2 g2 t2 kk2 e1 => w_part h2 O ((S'.gr kk1).gr kk2) fun q2 k3 g3 t3 kk3 e2 => by
    obtain ⟨t, rfl⟩ := rbytes r1
    rw [evalPart_none]
    refine wpAny_pure ?_
    dsimp only
    have kp : ∀ b o, k3.get? b = some o → (k3.push { cls := .type "slice", data := .fields #[partValue q1, partValue q2, .none] }).get? b = some o := fun b o e => Heap.get?_push_of_some _ e
    refine ⟨typeIs_bytes _ _ _, getItem_meets (typeIs_bytes _ _ _) (by decide) FB.slot_bytes_getitem FB.entry_bytes_getitem (FB.args_bytes_getitem_2 _ _) (KBc.meets_slice2 l.toArray t _ (isPart_of e1) (isPart_of e2)) ⟨Heap.IsSliceOf.new .., ?_, fun t' tk => ?_⟩⟩
    · have := KBc.size_picked_le l.toArray i j
      rw [sizeLine_lit]; simp only [List.size_toArray] at this; omega
    · have e : KBy.picked l.toArray i j = (cut l i j).toArray := by rw [KBc.picked_eq]; simp [cut]
      rw [e]
      exact hQ _ _ g3 tk ((kk1.trans (kk2.trans kk3)).trans (.heap kk3.sub kp)) (.bytes _ t'))) ht

def bsigns (b : List UInt8) : List D := b.map fun x => .int (x.toNat : Int)
theorem evi_bytes {e : Expr} {b : List UInt8} (h : Ev c Γ Δ e (.bytes b)) (hh : c.hd = true := by rfl) : EvI true c Γ Δ e (bsigns b) := fun fr s g am O S Q hQ =>
  h fr s g am O S _ fun v h1 g1 t1 k1 r1 => by
    obtain ⟨t, rfl⟩ := rbytes r1
    refine KBw.pyIter_bytes ?_
    have kp : ∀ a o, h1.get? a = some o → (h1.push { cls := .type "bytes_iterator", data := .fields #[.bytes b.toArray t, .int 0 0] }).get? a = some o := fun b o e => Heap.get?_push_of_some _ e
    have W := KBw.walks (prog := c.X.prog) (w := c.X.w) (A := fr.A) (O.hand hh) h1.objs.size b.toArray t
    have e : b.toArray.size = (bsigns b).length := by simp [bsigns]
    rw [e] at W
    refine hQ _ _ _ _ _ _ g1 t1 (it_mk k1 kp W ⟨_, Heap.get?_push_size _ rfl, rfl, rfl⟩ fresh_size (fun i k hk => let ⟨o, ho, _⟩ := hk; by rw [ho]; simp) (fun b hb => .inl (List.mem_singleton.mp hb)) ?_)
    rintro i v ⟨n, u, hn, rfl⟩
    refine ⟨.int (n.toNat : Int), ?_, .int _ _⟩
    have : b[i]? = some n := by simpa using hn
    simp [bsigns, this]
end
end Mine

set_option maxRecDepth 100000
set_option autoImplicit false
set_option linter.unusedVariables false
namespace Mine
open PySem PySem.W PySem.Calls PyProof.Rows
section
variable {c : Cfg} {Γ : Gam} {Δ : Del} {P : Post}

/-! a truth value less another -/
theorem op_subb {a b : Bool} : OpF c .Sub (.bool a) (.bool b) (.int ((if a = true then 1 else 0) - (if b = true then 1 else 0))) := fun fr s g va vb O hs _ ra rb Q hQ => by
  rw [rbool ra, rbool rb]
  exact PyProof.Rows.sub_bool (hQ _ s.heap g _ (.refl hs) (.int _ _))

/-! pairs of an int and a text, by order -/
section
variable {prog : Program} {w : World} {A : Around} {E : Value → Shared → Prop} {s : Shared}
end
end
end Mine

set_option maxRecDepth 100000
set_option autoImplicit false
set_option linter.unusedVariables false
namespace Mine
open PySem PySem.W PySem.Calls PyProof.Rows
section
variable {c : Cfg} {Γ : Gam} {Δ : Del} {P : Post}

/-! tuple + tuple -/
theorem op_addt {xs ys : List D} (hx : xs ≠ []) (hy : ys ≠ []) (hz : xs.length + ys.length ≤ 100000) : OpF c .Add (.tup xs) (.tup ys) (.tup (xs ++ ys)) := fun fr s g va vb O hs _ ra rb Q hQ => by
  obtain ⟨a, vs, n, rfl, ha, hr⟩ := ra.tup hs
  obtain ⟨b, us, m, rfl, hb, hr'⟩ := rb.tup hs
  have hl := hr.length
  have hl' := hr'.length
  refine PySem.P.add_tuple (items := vs.toArray) (items2 := us.toArray) ha hb ?_ ?_ ?_ ?_
  · cases vs with
    | nil => cases xs <;> simp_all
    | cons => simp
  · cases us with
    | nil => cases ys <;> simp_all
    | cons => simp
  · have k := Gr.add (o := tupO (vs ++ us) 0) hs (fun b o e => Heap.get?_push_of_some _ e) fresh_size (Heap.get?_push_size s.heap (o := tupO (vs ++ us) 0) rfl)
    refine hQ _ _ _ s.toks ?_ (.tup _ _ (vs ++ us) 0 (Fz.add_self _ _ _) ((hr.append hr').mono k.gk))
    have e : ({ cls := .type "tuple", data := .seq (vs.toArray ++ us.toArray) } : Obj) = tupO (vs ++ us) 0 := by simp [tupO]
    rw [e]; exact k
  · rw [sizeLine_lit]; simp only [List.size_toArray]; omega

/-! sorted, ints -/
def sortZ (ns : List Int) : List Int := ns.mergeSort (fun a b => decide (a ≤ b))
theorem sortZ_perm (ns : List Int) : (sortZ ns).Perm ns := List.mergeSort_perm _ _
theorem sortZ_le (ns : List Int) : (sortZ ns).Pairwise (· ≤ ·) := by
  have := List.pairwise_mergeSort (le := fun a b : Int => decide (a ≤ b)) (fun a b c h1 h2 => by simp only [decide_eq_true_eq] at *; omega) (fun a b => by simp only [Bool.or_eq_true, decide_eq_true_eq]; omega) ns
  exact this.imp fun h => by simpa using h
theorem sortZ_uniq {ns ms : List Int} (hp : ms.Perm ns) (hs : ms.Pairwise (· ≤ ·)) : ms = sortZ ns :=
  (hp.trans (sortZ_perm ns).symm).eq_of_pairwise (le := (· ≤ ·)) (fun a b _ _ h1 h2 => by omega) hs (sortZ_le ns)
theorem IL.ints {g : Fz} : ∀ {ns : List Int} {vs : List Value}, Reps g (IL ns) vs → IntsAre vs ns
  | [], _, .nil => .nil
  | n :: r, _, .cons h t => by
    cases h
    exact .cons _ _ (IL.ints t)
theorem ints_IL {g : Fz} : ∀ {vs : List Value} {ns : List Int}, IntsAre vs ns → Reps g (IL ns) vs
  | _, _, .nil => .nil
  | _, _, .cons n t r => .cons (.int n t) (ints_IL r)
theorem b_sorted {ns : List Int} (hz : ns.length < 64) : B1 c "sorted" (.list (IL ns)) (.list (IL (sortZ ns))) := fun fr s g v O hs _ r Q hQ => by
  obtain ⟨a, vs, n, rfl, ho, hr⟩ := r.list hs
  have hl : vs.length = ns.length := by rw [hr.length]; simp [IL]
  refine sorted_ints (isList_of ho) (IL.ints hr) (by omega) fun out ns' hI hp hsr => ?_
  obtain rfl := sortZ_uniq hp hsr
  obtain ⟨e, he⟩ := sortedAll_at s.heap vs out
  have he' : (sortedAll s.heap vs out).get? (s.heap.objs.size + 1) = some (lstO out.toList e) := by simpa [lstO, seqObj] using he
  have hn : s.heap.get? (s.heap.objs.size + 1) = none := Heap.get?_none_of_le (Nat.le_succ _)
  exact hQ _ _ _ s.toks (Gr.add hs (fun b o e => sortedAll_old e) hn he') (.list _ _ _ e (Fz.add_self _ _ _) (ints_IL hI))
end
end Mine

set_option maxRecDepth 100000
set_option autoImplicit false
set_option linter.unusedVariables false
namespace Mine
open PySem PySem.W PySem.Calls PyProof.Rows
open Sem (wp)
section
variable {prog : Program} {w : World} {A : Around} {E : Value → Shared → Prop} {s : Shared}
theorem tl_append : typeLookup (.type "list") (Str.ofString "append") = pure (some (.builtin "list.append")) := F.slot_list_append.lookup
theorem md_get : typeLookup (.type "method_descriptor") (Str.ofString "__get__") = pure (some (.builtin "method_descriptor.__get__")) := by rw [typeLookup_type, builtinLookup_eq_fast]; kernel_rfl
theorem md_set : typeLookup (.type "method_descriptor") (Str.ofString "__set__") = pure none := by rw [typeLookup_type, builtinLookup_eq_fast]; kernel_rfl
theorem md_del : typeLookup (.type "method_descriptor") (Str.ofString "__delete__") = pure none := by rw [typeLookup_type, builtinLookup_eq_fast]; kernel_rfl
theorem md_slot : Slot "method_descriptor" "__get__" "method_descriptor.__get__" :=
  .of (owner := "method_descriptor") (n := "__get__") (by rw [typeLookup_type, builtinLookup_eq_fast]; kernel_rfl) (by decide +kernel) (by decide +kernel) (by decide +kernel)
    (by first | exact .inl (by decide +kernel) | exact .inr (by decide +kernel)) (by rw [isSubtype_type]; kernel_rfl)
theorem md_entry : entryFor table "method_descriptor.__get__" = some Builtin.«method_descriptor.__get__» := entryFor_of_tree (by kernel_rfl)
theorem md_args (a b c : Value) : argsOk "method_descriptor.__get__" ⟨[a, b, c], []⟩ := by unfold argsOk; kernel_rfl
theorem md_meets (a : Addr) (xs : Array Value) (k : Nat) : Meets (Builtin.«method_descriptor.__get__» ⟨[.builtin "list.append", .ref a, .type "list"], []⟩) (fun A R s => s.heap.get? a = some { cls := .type "list", data := .seq xs k } ∧ R (.ok (.ret (.ref s.heap.objs.size))) { s with heap := s.heap.push (methOf a) }) :=
  Meets.of_wp fun prog w A R s hs => by
    obtain ⟨hp, g, d, tk, os⟩ := s
    obtain ⟨hx, hs⟩ := hs
    have hT : (⟨hp, g, d, tk, os⟩ : Shared).TypeIs (.ref a) "list" := ⟨_, hx, rfl⟩
    have f1 : isSubtype (.type "list") (.type (".".intercalate ("list.append".cutAt '.').dropLast)) = pure true := by
      have e : ".".intercalate ("list.append".cutAt '.').dropLast = "list" := by decide +kernel
      rw [e, isSubtype_type]; kernel_rfl
    unfold Builtin.«method_descriptor.__get__»
    repeat (any_goals (first | assumption | wp_step))
    exact ⟨_, rfl, hs⟩
theorem md_code {A : Around} {a : Addr} {xs : Array Value} {k : Nat} {R : Result → Shared → Prop} {s : Shared} (hx : s.heap.get? a = some { cls := .type "list", data := .seq xs k }) (h : R (.ok (.ret (.ref s.heap.objs.size))) { s with heap := s.heap.push (methOf a) }) :
    codeAny (model prog w) A (.call (.builtin "method_descriptor.__get__") ⟨[.builtin "list.append", .ref a, .type "list"], []⟩) R s := by
  refine codeAny_call_builtin md_slot.plain md_entry (md_slot.check _ _ _ _ _ _ _ _ (show s.TypeIs (.builtin "list.append") "method_descriptor" from F.type_list_append) (md_args _ _ _) ?_)
  exact md_meets a xs k prog w A R s ⟨hx, h⟩
theorem meets_ga (a : Addr) (xs : Array Value) (k : Nat) (u : Tok) :
    Meets (Builtin.«object.__getattribute__» ⟨[.ref a, .str (Str.ofString "append") u], []⟩) (fun A R s => s.heap.get? a = some { cls := .type "list", data := .seq xs k } ∧ R (.ok (.ret (.ref s.heap.objs.size))) { s with heap := s.heap.push (methOf a) }) :=
  Meets.of_wp fun prog w A R s hs => by
    obtain ⟨hp, g, d, tk, os⟩ := s
    obtain ⟨hx, hs⟩ := hs
    have hT : (⟨hp, g, d, tk, os⟩ : Shared).TypeIs (.ref a) "list" := ⟨_, hx, rfl⟩
    have f1 := tl_append
    have f2 : typeOf (.builtin "list.append") = pure (.type "method_descriptor") := F.type_list_append
    have f3 := md_get
    have f4 := md_set
    have f5 := md_del
    unfold Builtin.«object.__getattribute__»
    repeat (any_goals (first | assumption | wp_step))
    refine md_code hx ?_
    exact wpAny_pure ⟨_, rfl, hs⟩
theorem getAttr_append {A : Around} {E : Value → Shared → Prop} {s : Shared} {a : Addr} {xs : Array Value} {k : Nat} {Q : Value → Shared → Prop} (hx : s.heap.get? a = some { cls := .type "list", data := .seq xs k })
    (h : ∀ tk, Q (.ref s.heap.objs.size) { s with heap := s.heap.push (methOf a), toks := tk }) : wpAny (model prog w) A (getAttr (.ref a) (Str.ofString "append") true) Q E s := by
  obtain ⟨hp, g, d, tk, os⟩ := s
  have hT : ∀ tk', (⟨hp, g, d, tk', os⟩ : Shared).TypeIs (.ref a) "list" := fun _ => ⟨_, hx, rfl⟩
  have f3 := F.slot_list_getattribute.lookup
  have f4 := F.slot_list_getattribute.bind (.ref a)
  unfold getAttr getAttrBy
  repeat (any_goals (first | assumption | exact hT _ | ((with_reducible show wpAny _ _ (call (Value.builtin "list.__getattribute__") _ _) _ _ _); refine call_meets F.slot_list_getattribute (hT _) am_entry_list_getattribute (F.args_list_getattribute_2 _ _) (meets_ga a xs k _) ⟨hx, ?_⟩) | wp_step))
  show wpAny _ _ (handedOut (.ref _)) Q E _
  exact wpAny_pure (h _)

theorem m_check {A : Around} {E : Value → Shared → Prop} {s : Shared} {a : Addr} {x : Value} {xs : Array Value} {k : Nat} {Q : Unit → Shared → Prop} (hx : s.heap.get? a = some { cls := .type "list", data := .seq xs k }) (h : Q () s) : wpAny (model prog w) A (checkBoundCall "list.append" ⟨[.ref a, x], []⟩) Q E s := by
  have f1 : isSubtype (.type "list") (.type "module") = pure false := by rw [isSubtype_type]; kernel_rfl
  have f3 : Manifest.signature? "list.append" = some ⟨.oneArg, "list.append", "append", .self, [⟨"object", .posOnly, true⟩]⟩ := by
    rw [signature?_of (id := "list.append") (n := ['d', 'n', 'e', 'p', 'p', 'a']) (o := ['t', 's', 'i', 'l']) (by kernel_rfl) F.owner_list]; kernel_rfl
  have f4 : builtinKind "list.append" = some .method := by decide +kernel
  obtain ⟨hp, g, d, tk, os⟩ := s
  have hT : (⟨hp, g, d, tk, os⟩ : Shared).TypeIs (.ref a) "list" := ⟨_, hx, rfl⟩
  unfold checkBoundCall
  rw [f3, f4]
  dsimp only
  repeat (any_goals (first | assumption | wp_step))
theorem call_meth {A : Around} {E : Value → Shared → Prop} {s : Shared} {q a : Addr} {x : Value} {xs : Array Value} {k : Nat} {Q : Value → Shared → Prop} (hq : s.heap.get? q = some (methOf a)) (hx : s.heap.get? a = some { cls := .type "list", data := .seq xs k }) (hz : xs.size + 1 ≤ sizeLine)
    (h : Q .none { s with heap := s.heap.update a (Obj.mapSeq fun ys => ys.push x) }) : wpAny (model prog w) A (call (.ref q) [x]) Q E s := by
  refine wpAny_call (codeAny_of_tree ?_)
  show wpAny _ A.in1 (callAny (.ref q) ⟨[x], []⟩) _ _ s
  simp only [callAny]
  refine wpAny_bind (wpAny_load hq ?_)
  simp only [methOf, show (Value.type "builtin_function_or_method" == Value.type "method" || Value.type "builtin_function_or_method" == Value.type "builtin_function_or_method" || Value.type "builtin_function_or_method" == Value.type "method-wrapper") = true by decide, if_true]
  refine KFB.if_so (by decide) ?_
  refine wpAny_bind (m_check hx ?_)
  refine wpAny_bind (wpAny_pure (wpAny_pure ?_))
  refine ⟨Code.quiet_builtin _ (by decide +kernel), codeAny_builtin F.entry_list_append ?_⟩
  rw [Around.under_plainId (by decide +kernel)]
  exact list_append a xs k x (by omega) prog w A (fun r s' => match r with | .ok (.ret v) => Q v s' | .ok _ => False | .error e => E e s') s ⟨hx, h⟩
theorem callWith_meth {A : Around} {E : Value → Shared → Prop} {s : Shared} {pos : Pos} {q a : Addr} {env : Env} {e : Expr} {Q : Value → Shared → Prop} (he : starEach [e] env = [(false, eval e env)])
    (h : wpAny (model prog w) A (eval e env) (fun v s₁ => s₁.heap.get? q = some (methOf a) ∧ wpAny (model prog w) A (call (.ref q) [v]) Q E s₁) E s) : wpAny (model prog w) A (callWith pos (.ref q) [] (backTo pos (starEach [e] env)) []) Q E s := by
  have hb : backTo pos (starEach [e] env) = [(false, eval e env)] := by rw [he]; rfl
  unfold callWith
  refine wpAny_bind (wpAny_holding ?_)
  refine wpAny_mono (Q := fun (x : Args) s₁ => x.kw = [] ∧ s₁.heap.get? q = some (methOf a) ∧ wpAny (model prog w) A (call (.ref q) x.pos) Q E s₁) ?_ (fun x s₁ h₁ => wpAny_bind (wpAny_standAt ?_)) fun _ _ x => x
  · rw [hb]
    refine evalArgs_plain ?_
    rw [← hb]
    refine (args_cons (wpAny_mono h (fun v s₁ h₁ => args_nil ?_) fun _ _ x => x) he)
    exact ⟨rfl, h₁⟩
  obtain ⟨hkw, ho, hcall⟩ := h₁
  simp only [hb, List.any_cons, List.any_nil, Bool.or_false]
  refine wpAny_bind (m := keeperOf (.ref q)) ?_
  unfold keeperOf
  refine wpAny_bind (wpAny_load ho ?_)
  simp only [methOf, show (Value.type "builtin_function_or_method" != Value.type "method") = true by decide, show (Value.type "builtin_function_or_method" == Value.type "builtin_function_or_method" || Value.type "builtin_function_or_method" == Value.type "method-wrapper") = true by decide, if_true]
  refine wpAny_pure ?_
  rw [hkw]
  exact wpAny_bind (wpAny_mono hcall (fun r s₂ hr => wpAny_bind (wpAny_holding (wpAny_point (wpAny_pure hr)))) fun _ _ x => x)
end
section
variable {c : Cfg} {Γ : Gam} {Δ : Del} {P : Post}
/-- add = res.append -/
theorem ex_assign_meth {x y : Str} {p q ap pos : Pos} {i : Nat} {ds : List D} (hm : (y, V.mu i) ∈ Γ) (hi : Δ[i]? = some ds) (hx : Sto c x) (h : P .next (upd Γ x (.meth i)) Δ) (hd : (y == ("__debug__" : Str)) = false := by decide) (hc : (y == ("__classdict__" : Str)) = false := by decide)
    (hb : ∀ env, attributeBase (.Name y q) (Str.ofString "append") env (eval (.Name y q) env) = eval (.Name y q) env := by intro _; rfl)
    (hs : ∀ env, swapsWith (.Attribute (.Name y q) (Str.ofString "append") ap) (some (.Name x p)) pos.line env = pure false := by intro _; rfl) :
    Ex1 c Γ Δ (.Assign [.Name x p] (.Attribute (.Name y q) (Str.ofString "append") ap) pos) P := fun fr s g am O S' Q hQ => by
  obtain ⟨m, hn, hp⟩ := S'.loc
  obtain ⟨v, h1, h2⟩ := hp _ hm
  cases h1 with
  | mu _ a ha =>
    obtain ⟨⟨vs, n, ho, hr⟩, _⟩ := S'.muts i a ds ha hi
    refine wpAny_Assign_Name (Q := _) (?_ : wpAny _ _ (eval (.Attribute (.Name y q) (Str.ofString "append") ap) fr.env) _ _ s) (hs _)
    rw [arm_eval_Attribute, hb]
    refine wpAny_bind (wpAny_Name (load_At O S' hn h2 hc ?_) hd)
    refine wpAny_bind (wpAny_standAt ?_)
    refine wpAny_bind (wpAny_holding (getAttr_append ho fun tk => ?_))
    refine wpAny_bind (wpAny_letTemporaryGo (wpAny_pure ?_))
    have k := Gr.add (o := methOf a) S'.sub (fun b o e => Heap.get?_push_of_some _ e) fresh_size (Heap.get?_push_size s.heap (o := methOf a) rfl)
    exact w_store O (S'.gr k) hx (.meth i a _ _ ha (Fz.add_self _ _ _) rfl) fun h2 t2 S2 _ => hQ .next .next _ _ h2 _ am t2 h .next S2

/-- add(e) -/
theorem ex_call_meth {x : Str} {p pos pos' : Pos} {i : Nat} {ds : List D} {e : Expr} {d : D} (hm : (x, V.meth i) ∈ Γ) (hi : Δ[i]? = some ds) (he : EvF c Γ Δ e d) (h : P .next Γ (Δ.set i (ds ++ [d]))) (hz : ds.length < sizeLine)
    (hd : (x == ("__debug__" : Str)) = false := by decide) (hc : (x == ("__classdict__" : Str)) = false := by decide)
    (hs : ∀ env, starEach [e] env = [(false, eval e env)] := by intro _; rfl) :
    Ex1 c Γ Δ (.Expr (.Call (.Name x p) [e] [] pos) pos') P := fun fr s g am O S' Q hQ => by
  obtain ⟨m, hn, hp⟩ := S'.loc
  obtain ⟨v, h1, h2⟩ := hp _ hm
  cases h1 with
  | meth _ a q o ha hq ho =>
    subst ho
    refine wpAny_Expr_any (Call_ (wpAny_Name (load_At O S' hn h2 hc ?_) hd)) (by unfold interactive; rw [O.sc, O.kind]; rfl) rfl
    refine callWith_meth (a := a) (hs _) (he fr s g am O S' _ fun v h1 g1 t1 k1 r1 => ?_)
    have S1 := S'.gr k1
    obtain ⟨⟨vs, n, ho, hr⟩, _⟩ := S1.muts i a ds ha hi
    have e1 := hr.length
    refine ⟨k1.sub _ _ (k1.gk _ _ hq), call_meth (k1.sub _ _ (k1.gk _ _ hq)) ho (by rw [List.size_toArray, e1]; exact hz) ?_⟩
    obtain ⟨n', ho', hs'⟩ := upd_list (ws := vs ++ [v]) ho (fun xs => xs.push v) (by simp)
    exact hQ .next .next Γ _ _ g1 am t1 h .next (S1.setMut ha hs' ho' (hr.append (.cons r1 .nil)))
end
end Mine

set_option maxRecDepth 100000
set_option autoImplicit false
set_option linter.unusedVariables false
namespace Mine
open PySem PySem.W PySem.Calls PyProof.Rows
section
variable {c : Cfg} {Γ : Gam} {Δ : Del} {P : Post}

theorem lk {Γ : Gam} {x : Str} {v : V} (h : Γ.lookup x = some v) : (x, v) ∈ Γ := mem_of_lookup h
theorem ev_nm {x : Str} {d : D} {pos : Pos} (h : Γ.lookup x = some (.d d)) (hd : (x == ("__debug__" : Str)) = false := by decide) (hc : (x == ("__classdict__" : Str)) = false := by decide) : EvF c Γ Δ (.Name x pos) d := ev_name (lk h) hd hc
theorem sub_nil {Γ : Gam} : ∀ p ∈ ([] : Gam), p ∈ Γ := fun _ h => nomatch h
theorem sub_cons {Γ r : Gam} {x : Str} {v : V} (h : Γ.lookup x = some v) (t : ∀ p ∈ r, p ∈ Γ) : ∀ p ∈ (x, v) :: r, p ∈ Γ := fun p hp => by
  rcases List.mem_cons.mp hp with rfl | hp
  · exact lk h
  · exact t p hp
theorem sub_all {Γ : Gam} : ∀ p ∈ Γ, p ∈ Γ := fun _ h => h

/-- while, by states -/
theorem ex_whileS {t : Expr} {b : List Stmt} {pos : Pos} {σ : Type} (Γf : σ → Gam) (Δf : σ → Del) (μ : σ → Nat) (inv : σ → Prop) (z : σ) (h0 : inv z) (hw : ∀ p ∈ Γf z, p ∈ Γ) (hΔ : Δ = Δf z)
    (turn : ∀ z, inv z → ∃ x, EvT c (Γf z) (Δf z) t x ∧ (x = false → P .next (Γf z) (Δf z)) ∧ (x = true → Exs c (Γf z) (Δf z) b fun o Γ₂ Δ₂ => match o with
      | .next | .cont => ∃ z', μ z' < μ z ∧ (∀ p ∈ Γf z', p ∈ Γ₂) ∧ Δ₂ = Δf z' ∧ inv z'
      | .brk => P .next Γ₂ Δ₂
      | .ret d => P (.ret d) Γ₂ Δ₂)) : Ex1 c Γ Δ (.While t b [] pos) P := by
  subst hΔ
  refine fun fr s g am O S Q hQ => ex_while (Γ := Γf z) (Δ := Δf z) (fun n Γ₁ Δ₁ => ∃ z, n = μ z ∧ Γ₁ = Γf z ∧ Δ₁ = Δf z ∧ inv z) ?_ (μ z) ⟨z, rfl, rfl, rfl, h0⟩ fr s g am O (S.weak hw) Q hQ
  rintro n Γ₁ Δ₁ ⟨z, rfl, rfl, rfl, hi⟩
  obtain ⟨x, h1, h2, h3⟩ := turn z hi
  refine ⟨x, h1, h2, fun e => exs_mono (h3 e) fun o Γ₂ Δ₂ hp => ?_⟩
  cases o with
  | next => obtain ⟨z', a1, a2, a3, a4⟩ := hp; exact ⟨_, a1, _, a2, z', rfl, rfl, a3, a4⟩
  | cont => obtain ⟨z', a1, a2, a3, a4⟩ := hp; exact ⟨_, a1, _, a2, z', rfl, rfl, a3, a4⟩
  | brk => exact hp
  | ret d => exact hp
/-- for, by states -/
theorem ex_forS {x : Str} {px pos : Pos} {iter : Expr} {body : List Stmt} {xs : List D} {σ : Type} (Γf : σ → Gam) (Δf : σ → Del) (inv : Nat → σ → Prop) (z : σ) (h0 : inv 0 z) (hw : ∀ p ∈ Γf z, p ∈ Γ) (hΔ : Δ = Δf z) (hi : EvI true c (Γf z) (Δf z) iter xs) (hx : Sto c x)
    (turn : ∀ i d z, xs[i]? = some d → inv i z → Exs c (upd (Γf z) x (.d d)) (Δf z) body fun o Γ₂ Δ₂ => match o with
      | .next | .cont => ∃ z', (∀ p ∈ Γf z', p ∈ Γ₂) ∧ Δ₂ = Δf z' ∧ inv (i + 1) z'
      | .brk => P .next Γ₂ Δ₂
      | .ret d => P (.ret d) Γ₂ Δ₂)
    (done : ∀ z, inv xs.length z → P .next (Γf z) (Δf z)) (hs : ∀ env x, foldedSetIterable iter env x = pure x := by intro _ _; rfl) : Ex1 c Γ Δ (.For (.Name x px) iter body [] pos) P := by
  subst hΔ
  refine fun fr s g am O S Q hQ => ex_for hi hx (fun i Γ₁ Δ₁ => ∃ z, Γ₁ = Γf z ∧ Δ₁ = Δf z ∧ inv i z) ⟨z, rfl, rfl, h0⟩ ?_ ?_ hs fr s g am O (S.weak hw) Q hQ
  · rintro i d Γ₁ Δ₁ hd ⟨z, rfl, rfl, hi⟩
    refine exs_mono (turn i d z hd hi) fun o Γ₂ Δ₂ hp => ?_
    cases o with
    | next => obtain ⟨z', a2, a3, a4⟩ := hp; exact ⟨_, a2, z', rfl, a3, a4⟩
    | cont => obtain ⟨z', a2, a3, a4⟩ := hp; exact ⟨_, a2, z', rfl, a3, a4⟩
    | brk => exact hp
    | ret d => exact hp
  · rintro Γ₁ Δ₁ ⟨z, rfl, rfl, hi⟩
    exact done z hi

/-! isinstance -/
theorem isi_of {f : Str} {T : String} {pf pt pos : Pos} {e : Expr} {d : D} {b : Bool} (he : EvF c Γ Δ e d)
    (hq : ∀ fr (s : Shared) g v, Okf c fr → Rep g d v → ∀ Q : Value → Shared → Prop, (∀ tk, Q (.bool b) { s with toks := tk }) → W c fr (call (.builtin "isinstance") [v, .type T]) Q s)
    (hk : c.sc.names.lookup (Str.ofString "isinstance") = some .globalImplicit) (hl : Str.ofString "isinstance" ∈ c.X.bl) (hk2 : c.sc.names.lookup f = some .globalImplicit) (hl2 : f ∈ c.X.bl) (hv2 : bootBuiltins f = some (.type T)) (hd2 : (f == ("__debug__" : Str)) = false := by decide)
    (hs : ∀ env, starEach [e, .Name f pt] env = (false, eval e env) :: starEach [.Name f pt] env := by intro _; rfl) (hs' : ∀ env, starEach [.Name f pt] env = [(false, eval (.Name f pt) env)] := by intro _; rfl) : EvF c Γ Δ (.Call (.Name (Str.ofString "isinstance") pf) [e, .Name f pt] [] pos) (.bool b) := fun fr s g am O S' Q hQ =>
  Call_ (w_global O S' hk hl PyProof.Rows.boot_isinstance (by decide) (PyProof.Rows.callWith_builtin1 (args_cons (he fr s g am O S' _ fun v h1 g1 t1 k1 r1 => args_cons (w_global O (S'.gr k1) hk2 hl2 hv2 hd2 (args_nil
    (hq fr _ g1 v O r1 _ fun tk => hQ _ h1 g1 tk k1 (.bool b)))) (hs' _)) (hs _)) (hs _) (by rw [hs']; rfl)))
theorem ty_str : typeOf (.type "str") = pure (.type "type") := by first | rfl | kernel_rfl
theorem ev_isi_str {pf pt pos : Pos} {e : Expr} {x : Str} (he : EvF c Γ Δ e (.str x)) (hk : c.sc.names.lookup (Str.ofString "isinstance") = some .globalImplicit) (hl : Str.ofString "isinstance" ∈ c.X.bl) (hk2 : c.sc.names.lookup (Str.ofString "str") = some .globalImplicit) (hl2 : Str.ofString "str" ∈ c.X.bl)
    (hs : ∀ env, starEach [e, .Name (Str.ofString "str") pt] env = (false, eval e env) :: starEach [.Name (Str.ofString "str") pt] env := by intro _; rfl) : EvF c Γ Δ (.Call (.Name (Str.ofString "isinstance") pf) [e, .Name (Str.ofString "str") pt] [] pos) (.bool true) :=
  isi_of he (fun fr s g v O r Q hQ => by
    cases r
    exact call_isinstance (isinstance_true (Tx := "str") ty_str (by rw [isSubtype_type]; kernel_rfl)) ⟨rfl, hQ s.toks⟩) hk hl hk2 hl2 (by decide +kernel) (by decide) hs
end
end Mine

set_option maxRecDepth 100000
set_option autoImplicit false
set_option linter.unusedVariables false
namespace Mine
open PySem PySem.W PySem.Calls PyProof.Rows
section
variable {c : Cfg} {Γ : Gam} {Δ : Del} {P : Post}

theorem evf_eq {e : Expr} {d d' : D} (h : EvF c Γ Δ e d) (q : d = d') : EvF c Γ Δ e d' := q ▸ h
theorem ev_eq {e : Expr} {d d' : D} (h : Ev c Γ Δ e d) (q : d = d') : Ev c Γ Δ e d' := q ▸ h
theorem evt_eq {e : Expr} {d d' : Bool} (h : EvT c Γ Δ e d) (q : d = d') : EvT c Γ Δ e d' := q ▸ h
theorem evi_eq {b : Bool} {e : Expr} {d d' : List D} (h : EvI b c Γ Δ e d) (q : d = d') : EvI b c Γ Δ e d' := q ▸ h

def Inj {α β : Type} (f : α → β) : Prop := ∀ a b, f a = f b → a = b

theorem comp_fn {α β : Type} (enc : α → D) (encb : β → D) (hinj : Inj enc) (p : α → Bool) (F : α → β) : ∃ (p' : D → Bool) (f' : D → D), ∀ a, p' (enc a) = p a ∧ f' (enc a) = encb (F a) := by
  classical
  refine ⟨fun d => if h : ∃ a, enc a = d then p h.choose else false, fun d => if h : ∃ a, enc a = d then encb (F h.choose) else d, fun a => ?_⟩
  have h : ∃ b, enc b = enc a := ⟨a, rfl⟩
  have e : h.choose = a := hinj _ _ h.choose_spec
  simp only [dif_pos h]
  rw [e]; exact ⟨rfl, rfl⟩
theorem comp_eq {α β : Type} {enc : α → D} {encb : β → D} {p : α → Bool} {F : α → β} {p' : D → Bool} {f' : D → D} (h : ∀ a, p' (enc a) = p a ∧ f' (enc a) = encb (F a)) : ∀ l : List α, ((l.map enc).filter p').map f' = ((l.filter p).map F).map encb
  | [] => rfl
  | a :: r => by
    rw [List.map_cons, List.filter_cons, List.filter_cons, (h a).1]
    cases p a with
    | true => simp only [if_true, List.map_cons]; rw [(h a).2, comp_eq h r]
    | false => simp only [Bool.false_eq_true, if_false]; exact comp_eq h r

theorem ev_compL {α β : Type} (enc : α → D) (encb : β → D) (hinj : Inj enc) (l : List α) (p : α → Bool) (F : α → β) {elt iter : Expr} {x : Str} {px pos : Pos} {ifs : List Expr} {sc : Scope} (Γ' : Gam) (hi : EvI false c Γ Δ iter (l.map enc)) (C : CScope c sc) (hx : Sto (cOf c sc) x) (hsz : l.length ≤ 100000)
    (hΓ : ∀ p ∈ Γ', p ∈ Γ ∧ (p.1, NameKind.free) ∈ sc.names ∧ ∃ d, p.2 = .d d)
    (hif : ∀ a ∈ l, EvIfs (cOf c sc) (upd Γ' x (.d (enc a))) [] ifs (p a)) (he : ∀ a ∈ l, p a = true → EvF (cOf c sc) (upd Γ' x (.d (enc a))) [] elt (encb (F a)))
    (hs : ∀ env x, foldedSetIterable iter env x = pure x := by intro _ _; rfl) : EvF c Γ Δ (.ListComp elt [⟨.Name x px, iter, ifs, 0⟩] sc pos) (.list (((l.filter p).map F).map encb)) := by
  obtain ⟨p', f', h⟩ := comp_fn enc encb hinj p F
  rw [← comp_eq h l]
  refine ev_comp hi C hx (by simpa using hsz) hΓ (fun d hd => ?_) (fun d hd hp => ?_) hs
  · obtain ⟨a, ha, rfl⟩ := List.mem_map.mp hd
    rw [(h a).1]; exact hif a ha
  · obtain ⟨a, ha, rfl⟩ := List.mem_map.mp hd
    rw [(h a).1] at hp
    rw [(h a).2]; exact he a ha hp
theorem ev_compN {α β : Type} (enc : α → D) (encb : β → D) (hinj : Inj enc) (l : List α) (F : α → β) {elt iter : Expr} {x : Str} {px pos : Pos} {sc : Scope} (Γ' : Gam) (hi : EvI false c Γ Δ iter (l.map enc)) (C : CScope c sc) (hx : Sto (cOf c sc) x) (hsz : l.length ≤ 100000)
    (hΓ : ∀ p ∈ Γ', p ∈ Γ ∧ (p.1, NameKind.free) ∈ sc.names ∧ ∃ d, p.2 = .d d)
    (he : ∀ a ∈ l, EvF (cOf c sc) (upd Γ' x (.d (enc a))) [] elt (encb (F a)))
    (hs : ∀ env x, foldedSetIterable iter env x = pure x := by intro _ _; rfl) : EvF c Γ Δ (.ListComp elt [⟨.Name x px, iter, [], 0⟩] sc pos) (.list ((l.map F).map encb)) := by
  have := ev_compL (ifs := []) enc encb hinj l (fun _ => true) F (pos := pos) (px := px) Γ' hi C hx hsz hΓ (fun a _ => evifs_nil) (fun a ha _ => he a ha) hs
  rwa [show l.filter (fun _ => true) = l by simp] at this

def chkF (sc p : Scope) : Bool := sc.names.all fun x => match x.2 with
  | .free => (match p.names.lookup x.1 with | some .cell => true | some .free => true | _ => false)
  | _ => true
theorem csc {sc : Scope} (hk : sc.kind = .function) (hn : (sc.names.map (·.1)).Nodup) (hf : chkF sc c.sc = true) : CScope c sc := ⟨hk, hn, fun p hp e => by
  have h := List.all_eq_true.mp hf p hp
  rw [e] at h
  dsimp only at h
  split at h
  · exact .inl ‹_›
  · exact .inr ‹_›
  · cases h⟩
theorem nle {m n : Nat} (h : Nat.ble m n = true) : m ≤ n := Nat.le_of_ble_eq_true h
theorem inj_S : Inj fun l : List Nat => D.str (S l) := fun a b h => by
  have h1 : S a = S b := by injection h
  have h2 : a.toArray = b.toArray := by injection h1
  simpa using h2
theorem cs_nil {Γ : Gam} {sc : Scope} : ∀ p ∈ ([] : Gam), p ∈ Γ ∧ (p.1, NameKind.free) ∈ sc.names ∧ ∃ d, p.2 = .d d := fun _ h => nomatch h
theorem cs_cons {Γ r : Gam} {sc : Scope} {x : Str} {d : D} (h : Γ.lookup x = some (.d d)) (hf : sc.names.lookup x = some .free) (t : ∀ p ∈ r, p ∈ Γ ∧ (p.1, NameKind.free) ∈ sc.names ∧ ∃ d, p.2 = .d d) :
    ∀ p ∈ (x, V.d d) :: r, p ∈ Γ ∧ (p.1, NameKind.free) ∈ sc.names ∧ ∃ d, p.2 = .d d := fun p hp => by
  rcases List.mem_cons.mp hp with rfl | hp
  · exact ⟨lk h, mem_of_lookup hf, d, rfl⟩
  · exact t p hp
end
end Mine

set_option maxRecDepth 100000
set_option autoImplicit false
set_option linter.unusedVariables false
namespace Mine
open PySem PySem.W PySem.Calls PyProof.Rows
section
variable {prog : Program} {w : World} {A : Around} {E : Value → Shared → Prop} {s : Shared}
theorem tr_look {a : Addr} {n : Nat} {f : Int → Option Value} {Q : Builtin.Str.Mapped → Shared → Prop} (hh : A.handled = none) (hm : s.heap.MapOf (intKind prog w) a f) (hd : (a == sysModules) = false) (hv : f n = none)
    (h : ∀ h' tk, (∀ b o, s.heap.get? b = some o → h'.get? b = some o) → Q .keep { s with heap := h', toks := tk }) : wpAny (model prog w) A (Builtin.Str.tableLookup (.ref a) n) Q E s := by
  unfold Builtin.Str.tableLookup
  refine wpAny_bind (wpAny_attempt ?_)
  refine wpAny_bind (wpAny_mkInt ?_)
  refine wpAny_getItem_missing_of (knd := intKind prog w) (k := (n : Int)) (by simp [intKind, Value.isInt]) hd hh hm hv fun h' e hx => ?_
  obtain ⟨ob, t, h1, h2, h3⟩ := hx.there
  refine wpAny_bind (wpAny_isInstance (T := "KeyError") (b := true) ⟨_, h1, h2⟩ (by rw [isSubtype_type]; kernel_rfl) ?_)
  exact wpAny_bind (wpAny_rule (wpAny_pure (h h' _ hx.keeps)))
theorem tr_tree {a : Addr} {n : Nat} {t : Tok} {f : Int → Option Value} {P : PySem.Fin → Shared → Prop} (hn : n < 128) (hh : A.handled = none) (hm : s.heap.MapOf (intKind prog w) a f) (hd : (a == sysModules) = false) (hv : f n = none)
    (h : ∀ h' t' tk, (∀ b o, s.heap.get? b = some o → h'.get? b = some o) → P (.done (.ret (.str (S [n]) t'))) { s with heap := h', toks := tk }) : wpAny (model prog w) A (Builtin.«str.translate» ⟨[.str (S [n]) t, .ref a], []⟩) P E s := by
  unfold Builtin.«str.translate»
  generalize hT : Builtin.Str.tableLookup = TL
  have hl : ∀ {Q : Builtin.Str.Mapped → Shared → Prop}, (∀ h' tk, (∀ b o, s.heap.get? b = some o → h'.get? b = some o) → Q .keep { s with heap := h', toks := tk }) → wpAny (model prog w) A (TL (.ref a) n) Q E s := by
    intro Q hQ; rw [← hT]; exact tr_look hh hm hd hv hQ
  clear hT
  refine wpAny_bind ?_
  repeat (any_goals (first | assumption | wp_step))
  refine hl fun h' tk kk => ?_
  simp only [List.size_toArray, List.length_cons, List.length_nil, Nat.zero_add, Nat.sub_self, Nat.sub_zero, List.getElem_toArray, List.getElem_cons_zero]
  clear hl
  repeat (any_goals (first | assumption | wp_step))
  have := h h' tk (tk + 1) kk
  simpa [S] using this
end
section
variable {c : Cfg} {Γ : Gam} {Δ : Del} {P : Post}
/-- the table of translate -/
def TM (X : GCtx) (h : Heap) : Prop := ∃ a, X.mg (Str.ofString "_special_chars_map") = some (.ref a) ∧ (a == sysModules) = false ∧ ∃ f, h.MapOf (intKind X.prog X.w) a f ∧ ∀ k : Nat, 65 ≤ k → k ≤ 80 → f k = none
theorem w_gname {fr : Frm} {s : Shared} {g : Fz} {am : List Addr} {x : Str} {p : Pos} {v : Value} {Q : Value → Shared → Prop} (O : Okf c fr) (S' : St fr Γ Δ s.heap g am) (hk : c.sc.names.lookup x = some .globalImplicit) (hv : c.X.mg x = some v)
    (hd : (x == ("__debug__" : Str)) = false) (hQ : Q v s) : W c fr (eval (.Name x p) fr.env) Q s := by
  have G := O.glo.keeps S'.keep
  exact Name_function_global (O.sc ▸ O.kind) (by unfold Env.kindOf; rw [O.sc]; exact hk) (loadGlobal_global (O.glob ▸ G.g) hv hQ) hd
theorem ev_translate {o : Expr} {ap pm pos : Pos} {n : Nat} (ht : ∀ h, c.X.tm h → TM c.X h) (ho : Ev c Γ Δ o (.str (S [n]))) (h1 : 65 ≤ n) (h2 : n ≤ 80) (hk : c.sc.names.lookup (Str.ofString "_special_chars_map") = some .globalImplicit) (hh : c.hd = true := by rfl) (hl : (ap.endLine == pos.line) = true := by rfl)
    (hb : ∀ env, attributeBase o (Str.ofString "translate") env (eval o env) = eval o env := by intro _; rfl) (hs : ∀ env, starEach [.Name (Str.ofString "_special_chars_map") pm] env = [(false, eval (.Name (Str.ofString "_special_chars_map") pm) env)] := by intro _; rfl) :
    EvF c Γ Δ (.Call (.Attribute o (Str.ofString "translate") ap) [.Name (Str.ofString "_special_chars_map") pm] [] pos) (.str (S [n])) := fun fr s g am O S' Q hQ =>
  w_str_meth O S' ho F.slot_str_translate F.type_str_translate hl (hb _) (by rw [hs]; rfl) fun t h1' g1 t1 k1 => by
    have G := O.glo.keeps (S'.gr k1).keep
    obtain ⟨a, hmg, hsm, f, hmap, hf⟩ := ht _ G.tm
    refine PyProof.Rows.callWith_method1 (args_cons (w_gname O (S'.gr k1) hk hmg (by decide) (args_nil ?_)) (hs _)) (hs _)
    refine wpAny_call_entry F.slot_str_translate (typeIs_str _ _ _) F.entry_str_translate (tr_tree (by omega) (by exact O.hand hh) hmap hsm (hf n h1 h2) fun h' t' tk kk => ⟨_, rfl, ?_⟩) (F.args_str_translate_2 _ _)
    exact hQ _ h' g1 tk (k1.trans (.heap k1.sub kk)) (.str _ t')
end
end Mine

set_option maxRecDepth 100000
set_option autoImplicit false
set_option linter.unusedVariables false
namespace Mine
open PySem PySem.W PySem.Calls PyProof.Rows
section
variable {c : Cfg} {Γ : Gam} {Δ : Del} {P : Post}
theorem S_inj {a b : List Nat} : S a = S b ↔ a = b := ⟨fun h => by
  have h2 : a.toArray = b.toArray := by injection h
  simpa using h2, fun h => by rw [h]⟩
theorem S_beq (a b : List Nat) : (S a == S b) = decide (a = b) := by
  rw [Bool.eq_iff_iff]; simp [S_inj]
theorem S_bne (a b : List Nat) : (S a != S b) = !decide (a = b) := by
  show (!(S a == S b)) = _
  rw [S_beq]
theorem ev_lit {x : Str} {k : Nat} {pos : Pos} (l : List Nat) (h : x = S l) : EvF c Γ Δ (.Constant (.str x) k pos) (.str (S l)) := h ▸ ev_str
theorem cmp_eqS {a b : List Nat} : CmpF c .Eq (.str (S a)) (.str (S b)) (decide (a = b)) := by rw [← S_beq]; exact cmp_eqs
theorem cmp_neS {a b : List Nat} : CmpF c .NotEq (.str (S a)) (.str (S b)) (!decide (a = b)) := by rw [← S_bne]; exact cmp_nes
def belowB (k : Nat) (Γ : Gam) : Bool := Γ.all fun p => match p.2 with
  | .d _ => true
  | .mu i => Nat.blt i k
  | .meth i => Nat.blt i k
  | .arg _ => true
theorem fz_of {Γ' : Gam} {ds : List D} {k : Nat} (hs : ∀ p ∈ Γ', p ∈ Γ) (hb : belowB k Γ' = true) : ∀ p ∈ Γ', (p ∈ Γ ∧ Below1 k p.2) ∨ (p.2 = .d (.list ds) ∧ (p.1, V.mu k) ∈ Γ) := fun p hp => .inl ⟨hs p hp, by
  have h := List.all_eq_true.mp hb p hp
  obtain ⟨x, v⟩ := p
  cases v with
  | d d => exact trivial
  | mu i => exact Nat.blt_eq.mp h
  | meth i => exact Nat.blt_eq.mp h
  | arg ns => exact trivial⟩
/-- the last list that turned is no more needed -/
theorem exs_drop {b : List Stmt} {Γ' : Gam} {ds : List D} (hs : ∀ p ∈ Γ', p ∈ Γ) (hb : belowB Δ.length Γ' = true) (h : Exs c Γ' Δ b P) : Exs c Γ (Δ ++ [ds]) b P := exs_freeze (fz_of hs hb) h
theorem slen (l : List Nat) : (S l).length = l.length := by simp [Str.length]
theorem b_len_S {l : List Nat} (hz : l.length ≤ 1000000) : B1 c "len" (.str (S l)) (.int l.length) := by
  have := b_len_str (c := c) (x := S l) (by rw [slen]; exact hz)
  rwa [slen] at this
end
end Mine

set_option maxRecDepth 100000
set_option autoImplicit false
set_option linter.unusedVariables false
namespace Mine
open PySem PySem.W PySem.Calls PyProof.Rows
section
variable {c : Cfg} {Γ : Gam} {Δ : Del} {P : Post}
theorem St.addMut' {fr : Frm} {h : Heap} {g : Fz} {am : List Addr} {a : Addr} {vs : List Value} {n : Nat} {ds : List D} (S : St fr Γ Δ h g am) (hf : fr.h₀.get? a = none ∧ a ≠ fr.env.locals ∧ a ∉ fr.oc ∧ a ∉ am) (hg : g a = none)
    (ha : h.get? a = some (lstO vs n)) (hr : Reps g ds vs) : St fr Γ (Δ ++ [ds]) h g (am ++ [a]) := by
  obtain ⟨h0, hL, hoc, ham⟩ := hf
  refine { S with loc := ?_, ocs := fun b hb => ?_, len := by simp [S.len], nd := ?_, muts := fun i b ds' h1 h2 => ?_ }
  · obtain ⟨m, hns, hp⟩ := S.loc
    exact ⟨m, hns, fun p hm => let ⟨v, e1, e2⟩ := hp p hm; ⟨v, e1.mono fun _ _ e => e, e2⟩⟩
  · obtain ⟨r0, r1, r2, r3, r4⟩ := S.ocs b hb
    refine ⟨r0, r1, r2, r3, fun hm => ?_⟩
    rcases List.mem_append.mp hm with hm | hm
    · exact r4 hm
    · rw [List.mem_singleton.mp hm] at hb; exact hoc hb
  · exact List.nodup_append.mpr ⟨S.nd, by simp, fun x hx y hy e => ham (by rw [List.mem_singleton.mp hy] at e; exact e ▸ hx)⟩
  · by_cases hlt : i < am.length
    · rw [List.getElem?_append_left hlt] at h1
      rw [List.getElem?_append_left (S.len ▸ hlt)] at h2
      exact S.muts i b ds' h1 h2
    · have hi : i = am.length := by
        have := (List.getElem?_eq_some_iff.mp h1).1
        simp at this; omega
      subst hi
      rw [List.getElem?_append_right (Nat.le_refl _)] at h1
      rw [S.len, List.getElem?_append_right (Nat.le_refl _)] at h2
      simp at h1 h2
      subst h1 h2
      exact ⟨⟨vs, n, ha, hr⟩, hL, h0, hg⟩

end
end Mine

set_option maxRecDepth 100000
set_option autoImplicit false
set_option linter.unusedVariables false
namespace Mine
open PySem PySem.W PySem.Calls PyProof.Rows PySem.Builtin.Str

theorem fold_keep {α β : Type} (f : β → α → β) (b : β) : ∀ l : List α, (∀ x ∈ l, f b x = b) → l.foldl f b = b
  | [], _ => rfl
  | a :: r, h => by rw [List.foldl_cons, h a (by simp)]; exact fold_keep f b r fun x hx => h x (by simp [hx])
theorem occ_first (s sub : Str) (lo hi i : Nat) (h1 : lo ≤ i) (h2 : i + sub.length ≤ hi) (h3 : subAt s sub i = true) (h4 : ∀ j, lo ≤ j → j < i → subAt s sub j = false) : occurrences s sub lo hi 1 = [i] := by
  unfold occurrences
  simp only [Std.Legacy.Range.forIn_eq_forIn_range', Std.Legacy.Range.size]
  have hr : List.range' lo (hi + 1 - lo + 1 - 1) 1 = List.range' lo (i - lo) ++ i :: List.range' (i + 1) (hi - i) := by
    have e : hi + 1 - lo + 1 - 1 = (i - lo) + ((hi - i) + 1) := by omega
    rw [e, ← List.range'_append_1, List.range'_succ]
    rw [show lo + (i - lo) = i by omega]
  simp only [Nat.div_one]
  rw [hr]
  have key : ∀ (l : List Nat) (b : Array Nat × Nat), (forIn (m := Id) l b fun i (r : Array Nat × Nat) => if (decide (r.fst.size < 1) && decide (r.snd ≤ i) && decide (i + sub.length ≤ hi) && subAt s sub i) = true then pure (ForInStep.yield (r.fst.push i, i + sub.length)) else pure (ForInStep.yield (r.fst, r.snd)))
      = l.foldl (fun r i => if (decide (r.fst.size < 1) && decide (r.snd ≤ i) && decide (i + sub.length ≤ hi) && subAt s sub i) = true then (r.fst.push i, i + sub.length) else r) b := by
    intro l
    induction l with
    | nil => intro b; rfl
    | cons a t ih =>
      intro b
      rw [List.forIn_cons, List.foldl_cons]
      split
      · exact ih _
      · exact ih _
  show (forIn (m := Id) (List.range' lo (i - lo) ++ i :: List.range' (i + 1) (hi - i)) ((#[] : Array Nat), lo) _).fst.toList = [i]
  rw [key, List.foldl_append, List.foldl_cons]
  rw [fold_keep _ _ (List.range' lo (i - lo)) (fun x hx => by
    have := List.mem_range'_1.mp hx
    rw [h4 x this.1 (by omega)]; simp)]
  have c : (decide (((#[] : Array Nat), lo).fst.size < 1) && decide (((#[] : Array Nat), lo).snd ≤ i) && decide (i + sub.length ≤ hi) && subAt s sub i) = true := by
    rw [h3]; simp [h1, h2]
  rw [if_pos c]
  rw [fold_keep _ _ (List.range' (i + 1) (hi - i)) (fun x hx => by simp)]
  simp

end Mine

set_option maxRecDepth 100000
set_option autoImplicit false
set_option linter.unusedVariables false
namespace Mine
open PySem PySem.W PySem.Calls PyProof.Rows
section
variable {c : Cfg} {Γ : Gam} {Δ : Del} {P : Post}

theorem compTurn_in (g0 : Comprehension) (elt target iter : Expr) (scope : Scope) (pos : Pos) (it acc : Value) (env : Env) :
    compTurn (.ListComp elt [g0, ⟨target, iter, [], 0⟩] scope pos) 1 it acc env = (do
      standAt iter.pos
      match ← pyNext it with
      | none => pure (.done .next)
      | some v =>
        letOwnedTupleGo target it v
        assign target env v
        (do let _ ← call (.builtin "list.append") [acc, ← eval elt env])
        again (.compLoop (.ListComp elt [g0, ⟨target, iter, [], 0⟩] scope pos) 1 it acc env)) := by rfl
theorem compTurn_out (elt target iter target' iter' : Expr) (scope : Scope) (pos : Pos) (it acc : Value) (env : Env) :
    compTurn (.ListComp elt [⟨target, iter, [], 0⟩, ⟨target', iter', [], 0⟩] scope pos) 0 it acc env = (do
      standAt iter.pos
      match ← pyNext it with
      | none => pure (.done .next)
      | some v =>
        letOwnedTupleGo target it v
        assign target env v
        let x ← eval iter' env
        standAt iter'.pos
        let x ← foldedSetIterable iter' env x
        let _ ← runOwn (.compStart (.ListComp elt [⟨target, iter, [], 0⟩, ⟨target', iter', [], 0⟩] scope pos) 1 (← holding [x] (pyIter x)) acc env) env
        again (.compLoop (.ListComp elt [⟨target, iter, [], 0⟩, ⟨target', iter', [], 0⟩] scope pos) 0 it acc env)) := by rfl
theorem start_in {prog : Program} {w : World} {A : Around} {R : Result → Shared → Prop} {s : Shared} {g0 : Comprehension} {elt target iter : Expr} {scope : Scope} {pos : Pos} {it acc : Value} {env : Env}
    (h0 : codeAny (model prog w) A (.compLoop (.ListComp elt [g0, ⟨target, iter, [], 0⟩] scope pos) 1 it acc env) R s)
    (h : wpAny (model prog w) A (pyIter it) (fun it' s' => codeAny (model prog w) A (.compLoop (.ListComp elt [g0, ⟨target, iter, [], 0⟩] scope pos) 1 it' acc env) R s')
      (notedBy (model prog w) A env fun x s' => R (.error x) s') s) :
    codeAny (model prog w) A (.compStart (.ListComp elt [g0, ⟨target, iter, [], 0⟩] scope pos) 1 it acc env) R s := by
  refine codeAny_of_tree ?_
  show wpAny _ _ ((compStart (.ListComp elt [g0, ⟨target, iter, [], 0⟩] scope pos) 1 it acc env).onRaise (fun x => do noteFrame x env; standAt theWindowsPlace)) _ _ s
  refine wpAny_notedAt ?_
  unfold compStart
  show wpAny _ _ (ask >>= _) _ _ s
  refine wpAny_bind (wpAny_askSetting (wpAny_ite ?_))
  split
  · first
      | exact wpAny_bind (wpAny_pure (wpAny_pure (And.intro rfl h0)))
      | exact wpAny_pure (And.intro rfl h0)
  · refine wpAny_bind (wpAny_rule ?_)
    show wpAny _ _ (standAt iter.pos >>= _) _ _ s
    exact wpAny_bind (wpAny_standAt (wpAny_bind (wpAny_mono h (fun it' s' h' => wpAny_pure (And.intro rfl h')) fun _ _ x => x)))

/-- the inner generator's walk -/
theorem w_inner {β : Type} {K : Sem β} {fr : Frm} {s : Shared} {g : Fz} {D₀ : Addr} {acc : List D} {g0 : Comprehension} {elt iter : Expr} {y : Str} {py pos : Pos} {sc : Scope} {ys : List D} {F : D → D} {Γ₁ : Gam} (O : Okf c fr) (S0 : St fr Γ₁ [acc] s.heap g [D₀])
    (hi : EvI true c Γ₁ [acc] iter ys) (hy : Sto c y) (hn : ∀ p ∈ Γ₁, p.1 ≠ y) (hsz : acc.length + ys.length ≤ 100000) (he : ∀ d ∈ ys, ∀ acc', EvF c (upd Γ₁ y (.d d)) [acc'] elt (F d)) {Q : β → Shared → Prop}
    (hQ : ∀ h' g' tk, St fr Γ₁ [acc ++ ys.map F] h' g' [D₀] → W c fr K Q { s with heap := h', toks := tk }) (hs : ∀ env x, foldedSetIterable iter env x = pure x := by intro _ _; rfl) (ht : ∀ x v, letOwnedTupleGo (.Name y py) x v = pure () := by intro _ _; rfl) :
    W c fr (do
      let x ← eval iter fr.env
      standAt iter.pos
      let x ← foldedSetIterable iter fr.env x
      let _ ← runOwn (.compStart (.ListComp elt [g0, ⟨.Name y py, iter, [], 0⟩] sc pos) 1 (← holding [x] (pyIter x)) (.ref D₀) fr.env) fr.env
      K) Q s := by
  refine wpAny_bind (wpAny_mono (hi fr s g [D₀] O S0 (fun iv s₂ => wpAny (model c.X.prog c.X.w) fr.A (runOwn (.compStart (.ListComp elt [g0, ⟨.Name y py, iter, [], 0⟩] sc pos) 1 iv (.ref D₀) fr.env) fr.env) (fun _ s₃ => W c fr K Q s₃) (fun _ _ => False) s₂) ?_) (fun xv s₁ h₁ => ?_) fun _ _ e => e)
  rotate_left
  · refine wpAny_bind (wpAny_standAt (wpAny_bind (wpAny_of_eq (hs _ _) ?_)))
    refine wpAny_bind (wpAny_holding (wpAny_mono h₁ (fun iv s₂ h₂ => ?_) fun _ _ e => e))
    exact wpAny_bind (wpAny_mono h₂ (fun _ s₃ h₃ => h₃) fun _ _ e => e)
  intro I fp wr Pw Sw h1 g1 t1 it
  refine wpAny_runOwn ?_
  have S := S0.gr it.gr
  have F0 := it.offs S0
  have hfD : ∀ {h : Heap} {g₂ : Fz} {acc' : List D} {Γ₂ : Gam}, St fr Γ₂ [acc'] h g₂ [D₀] → (∀ b o, g1 b = some o → g₂ b = some o) → Off fr g₂ [D₀] wr → ∀ b ∈ fp, b ≠ fr.env.locals ∧ b ∉ fr.oc ∧ b ≠ D₀ := fun {h g₂ acc' Γ₂} S2 hg F2 b hb => by
    rcases it.fp b hb with hb | hb
    · obtain ⟨r1, r2, r3, _⟩ := F2.off b hb; exact ⟨r1, r2, by simpa using r3⟩
    · rw [if_pos rfl] at hb
      obtain ⟨o, ho⟩ := Option.ne_none_iff_exists'.mp hb
      have ho2 := hg b o ho
      refine ⟨fun e => ?_, fun hm => ?_, fun e => ?_⟩
      · rw [e, S2.gL] at ho2; cases ho2
      · rw [(S2.ocs b hm).2.1] at ho2; cases ho2
      · have M := S2.muts 0 D₀ _ rfl rfl
        rw [e, M.free] at ho2; cases ho2
  have loop : ∀ {R : Result → Shared → Prop}, (∀ h' g' tk, St fr Γ₁ [acc ++ ys.map F] h' g' [D₀] → R (.ok .next) { s with heap := h', toks := tk }) → codeAny (model c.X.prog c.X.w) (fr.A.mark none) (.compLoop (.ListComp elt [g0, ⟨.Name y py, iter, [], 0⟩] sc pos) 1 (.ref I) (.ref D₀) fr.env) R { s with heap := h1, toks := t1 } := by
    intro R hR
    refine codeAny_loop rfl (fun k s' => ∃ j h₂ g₂ tk, s' = { s with heap := h₂, toks := tk } ∧ St fr Γ₁ [acc ++ (ys.take j).map F] h₂ g₂ [D₀] ∧ Off fr g₂ [D₀] wr ∧ (∀ b o, g1 b = some o → g₂ b = some o) ∧ Sw j h₂ ∧ j ≤ ys.length ∧ k = ys.length + 1 - j) ?_ (ys.length + 1)
      ⟨0, h1, g1, t1, rfl, by simpa using S, F0, fun _ _ e => e, it.st, Nat.zero_le _, rfl⟩
    rintro k s' ⟨j, h₂, g₂, tk, rfl, S2, F2, hg, hst, hjl, rfl⟩
    show wpAny _ fr.A ((compTurn (.ListComp elt [g0, ⟨.Name y py, iter, [], 0⟩] sc pos) 1 (.ref I) (.ref D₀) fr.env).onRaise (fun x => do noteFrame x fr.env; theTreesLotGoes x)) _ _ _
    refine wpAny_noted ?_
    rw [compTurn_in]
    refine wpAny_bind (wpAny_standAt (wpAny_bind ?_))
    by_cases hlt : j < ys.length
    · refine it.wk.item j _ _ _ hlt hst fun v h3 t3 hv hst3 k3 => ?_
      obtain ⟨d, hd, hr⟩ := it.item j v hv
      have hdm : d ∈ ys := List.mem_of_getElem? hd
      have S3 := S2.off F2 k3
      have fpo := hfD S3 hg F2
      dsimp only
      refine wpAny_bind (wpAny_of_eq (ht _ _) (wpAny_bind ?_))
      refine wpAny_mono (E := fun _ _ => False) (wpAny_assign_Name (w_store O S3 hy (.d d v (hr.mono hg)) fun h4 t4 S4 k4 => ?_)) (fun _ _ q => q) fun _ _ q => q.elim
      have hst4 : Sw (j + 1) h4 := it.wk.frame _ _ _ hst3 fun b hb o e => k4 b o (fpo b hb).1 (fpo b hb).2.1 e
      refine wpAny_bind (wpAny_bind (wpAny_mono (E := fun _ _ => False) (he d hdm _ fr _ g₂ [D₀] O S4 _ fun r h5 g5 t5 k5 r5 => ?_) (fun _ _ q => q) fun _ _ q => q.elim))
      have S5 := S4.gr k5
      obtain ⟨⟨vs, n, ho, hvs⟩, _⟩ := S5.muts 0 D₀ _ rfl rfl
      have hvl := hvs.length
      refine wpAny_bind (wpAny_list_append_plain (items := vs.toArray) ⟨n, ho⟩ (fun h6 hl6 hs6 => ?_) (by
        rw [List.size_toArray, hvl, sizeLine_lit, List.length_append, List.length_map, List.length_take]; omega))
      obtain ⟨n6, ho6⟩ := hl6
      have ho6' : h6.get? D₀ = some (lstO (vs ++ [r]) n6) := by rw [ho6]; simp
      have S6 := S5.setMut (i := 0) rfl hs6 ho6' (hvs.append (.cons r5 .nil))
      refine wpAny_pure (wpAny_pure ⟨rfl, _, by omega, j + 1, h6, g5, t5, rfl, ?_, ?_, fun b o e => k5.gk _ _ (hg b o e), ?_, hlt, rfl⟩)
      · have e1 : (ys.take (j + 1)).map F = (ys.take j).map F ++ [F d] := by
          rw [List.take_add_one, hd]; simp
        rw [e1, ← List.append_assoc]
        exact S6.weak fun p hp => List.Mem.tail _ (List.mem_filter.mpr ⟨hp, by simpa using hn p hp⟩)
      · refine ⟨fun b hb => ?_⟩
        obtain ⟨r1, r2, r3, r4, r5⟩ := F2.off b hb
        obtain ⟨o, ho⟩ := Option.ne_none_iff_exists'.mp (it.wl _ _ hst4 b hb)
        exact ⟨r1, r2, r3, k5.none r4 ho, r5⟩
      · exact it.wk.frame _ _ _ hst4 fun b hb o e => (hs6.2 b (fpo b hb).2.2).trans (k5.hk _ _ e)
    · have hin : j = ys.length := by omega
      subst hin
      refine it.wk.done _ _ _ hst fun h3 t3 k3 => wpAny_pure ?_
      rw [List.take_length] at S2
      exact hR h3 g₂ t3 (S2.off F2 k3)
  have goal := loop (R := fun r s' => match r with | .ok _ => W c fr K Q s' | .error e => cameBackBy (model c.X.prog c.X.w) fr.A fr.env (fun _ _ => False) e s') fun h' g' tk S' => hQ h' g' tk S'
  exact start_in goal (it.wk.self 0 _ _ _ it.st goal)

/-- two generators -/
theorem w_comp2 {fr : Frm} {s₀ s : Shared} {g₀ g : Fz} {am : List Addr} {elt iter iter2 : Expr} {x y : Str} {px py pos : Pos} {sc : Scope} {xs : List D} {ys : D → List D} {F : D → D → D} {Γ' : Gam} {It : Addr} {fp wr : List Addr} {Pw : Nat → Value → Prop} {Sw : Nat → Heap → Prop}
    {RR : Value → Addr → Result → Shared → Prop} (O : Okf c fr) (S0 : St fr Γ Δ s₀.heap g₀ am) (it : ItAt c fr false xs s₀.heap g₀ s.heap g It fp wr Pw Sw) (C : CScope c sc) (hx : Sto (cOf c sc) x) (hy : Sto (cOf c sc) y) (hxy : x ≠ y) (hsz : ∀ i, ((xs.take i).flatMap ys).length ≤ 100000)
    (hΓ : ∀ p ∈ Γ', p ∈ Γ ∧ (p.1, NameKind.free) ∈ sc.names ∧ ∃ d, p.2 = .d d)
    (hi2 : ∀ d ∈ xs, ∀ Δ', EvI true (cOf c sc) (upd Γ' x (.d d)) Δ' iter2 (ys d)) (he : ∀ d ∈ xs, ∀ e ∈ ys d, ∀ Δ', EvF (cOf c sc) (upd (upd Γ' x (.d d)) y (.d e)) Δ' elt (F d e))
    (hs2 : ∀ env x, foldedSetIterable iter2 env x = pure x)
    (hRR : ∀ D C h' g' tk m, s₀.heap.get? C = none → g' C = none → h'.Ns C m → Gr s₀.heap g₀ h' g' → Rep g' (.list (xs.flatMap fun d => (ys d).map (F d))) (.ref D) → D ≠ C → RR (.ref D) C (.ok .next) { s with heap := h', toks := tk }) :
    W c fr (newList []) (fun acc s₃ => W c fr (newFunctionEnv sc fr.env.globals (clos fr.env sc.names []) [] fr.env.qual none .none (some fr.env)) (fun cenv s₄ =>
      codeAny (model c.X.prog c.X.w) fr.A (.compStart (.ListComp elt [⟨.Name x px, iter, [], 0⟩, ⟨.Name y py, iter2, [], 0⟩] sc pos) 0 (.ref It) acc { cenv with scope := relabel sc fr.env }) (RR acc cenv.locals) s₄) s₃) s := by
  have S := S0.gr it.gr
  have F0 := it.offs S0
  refine wpAny_newList ?_
  refine w_newEnv C.kind fun h₄ k4 hn hcl hap => ?_
  dsimp only at k4 hn hcl ⊢
  generalize hH1 : s.heap.push (lstO [] 0) = H1 at k4 hn hcl hap ⊢
  have hsize : H1.objs.size = s.heap.objs.size + 1 := by rw [← hH1, Heap.size_push]
  have kpush : ∀ b o, s.heap.get? b = some o → H1.get? b = some o := fun b o e => by rw [← hH1]; exact Heap.get?_push_of_some _ e
  have hD1 : H1.get? s.heap.objs.size = some (lstO [] 0) := by rw [← hH1]; exact Heap.get?_push_size _ rfl
  obtain ⟨O', S'⟩ := comp_frame (h₄ := h₄) (L' := H1.objs.size) O S F0 C (by rw [hsize]; exact Nat.lt_succ_self _) hΓ (fun b o e => k4 b o (kpush b o e)) hn hcl hap
  let fr' := frC fr s.heap g wr sc H1.objs.size
  have hDfresh : s.heap.get? s.heap.objs.size = none := fresh_size
  have hLfresh : s.heap.get? H1.objs.size = none := by
    cases q : s.heap.get? H1.objs.size with
    | none => rfl
    | some o => have : H1.objs.size < s.heap.objs.size := Heap.lt_size q
                rw [hsize] at this; exact absurd this (by omega)
  have hDL : s.heap.objs.size ≠ H1.objs.size := by rw [hsize]; exact Nat.ne_of_lt (Nat.lt_succ_self _)
  have hocD : ∀ a ∈ fr'.oc, s.heap.get? a = none ∧ s.heap.objs.size ≠ a := fun a ha => by
    obtain ⟨q, hq, rfl⟩ := List.mem_map.mp ha
    have h2 := (hcl q.1 q.2 hq).2
    refine ⟨?_, ?_⟩
    · cases q' : s.heap.get? q.2 with
      | none => rfl
      | some o => have : q.2 < s.heap.objs.size := Heap.lt_size q'
                  rw [hsize] at h2
                  exact absurd (Nat.lt_trans h2 this) (by omega)
    · rw [hsize] at h2; intro e; rw [← e] at h2; exact absurd h2 (by omega)
  have wrE : ∀ b ∈ wr, s.heap.get? b ≠ none := it.wl 0 _ it.st
  have fpE : ∀ b ∈ fp, s.heap.get? b ≠ none := fun b hb => (it.fp b hb).elim (wrE b) fun e => by simpa using e
  have hDwr : s.heap.objs.size ∉ wr := fun hm => wrE _ hm hDfresh
  have hDfp : s.heap.objs.size ∉ fp := fun hm => fpE _ hm hDfresh
  have hDh : (hideAll s.heap wr).get? s.heap.objs.size = none := none_of_keep (fun b o e => of_hideAll _ e) hDfresh
  have fpo : ∀ b ∈ fp, b ≠ fr'.env.locals ∧ b ∉ fr'.oc ∧ b ≠ s.heap.objs.size := fun b hb =>
    ⟨fun e => fpE b hb (by rw [show b = H1.objs.size from e]; exact hLfresh), fun hm => fpE b hb (hocD b hm).1, fun e => hDfp (e ▸ hb)⟩
  have S'' : St fr' Γ' [[]] h₄ g [s.heap.objs.size] := S'.addMut' ⟨hDh, hDL, fun hm => (hocD _ hm).2 rfl, by simp⟩ (none_of_sub S.sub hDfresh) (k4 _ _ hD1) .nil
  have offW : Off fr' g [s.heap.objs.size] wr := ⟨fun b hb => ⟨fun e => wrE b hb (by rw [show b = H1.objs.size from e]; exact hLfresh), fun hm => wrE b hb (hocD b hm).1, fun hm => hDwr ((List.mem_singleton.mp hm) ▸ hb), it.free b hb, hideAll_none _ hb⟩⟩
  have loop : codeAny (model c.X.prog c.X.w) fr.A (.compLoop (.ListComp elt [⟨.Name x px, iter, [], 0⟩, ⟨.Name y py, iter2, [], 0⟩] sc pos) 0 (.ref It) (.ref s.heap.objs.size) fr'.env) (RR (.ref s.heap.objs.size) H1.objs.size) { s with heap := h₄ } := by
    refine codeAny_loop rfl (fun k s' => ∃ i h₁ g₁ tk, s' = { s with heap := h₁, toks := tk } ∧ St fr' Γ' [(xs.take i).flatMap fun d => (ys d).map (F d)] h₁ g₁ [s.heap.objs.size] ∧ Off fr' g₁ [s.heap.objs.size] wr ∧ Sw i h₁ ∧ i ≤ xs.length ∧ k = xs.length + 1 - i) ?_ (xs.length + 1)
      ⟨0, h₄, g, s.toks, rfl, S'', offW, it.wk.frame _ _ _ it.st (fun b hb o e => k4 _ _ (kpush _ _ e)), Nat.zero_le _, rfl⟩
    rintro k s' ⟨i, h₁, g₁, tk, rfl, S1, F1, hst, hil, rfl⟩
    show wpAny _ fr.A ((compTurn (.ListComp elt [⟨.Name x px, iter, [], 0⟩, ⟨.Name y py, iter2, [], 0⟩] sc pos) 0 (.ref It) (.ref s.heap.objs.size) fr'.env).onRaise (fun x => do noteFrame x fr'.env; theTreesLotGoes x)) _ _ _
    refine wpAny_noted ?_
    rw [compTurn_out]
    refine wpAny_bind (wpAny_standAt (wpAny_bind ?_))
    by_cases hlt : i < xs.length
    · refine it.wk.item i _ _ _ hlt hst fun v h3 t3 hv hst3 k3 => ?_
      obtain ⟨d, hd, hr⟩ := it.item i v hv
      have hdm : d ∈ xs := List.mem_of_getElem? hd
      have S3 := S1.off F1 k3
      dsimp only
      refine wpAny_bind (wpAny_of_eq (a := ()) rfl (wpAny_bind ?_))
      refine wpAny_mono (E := fun _ _ => False) (wpAny_assign_Name (w_store O' S3 hx (.d d v (hr.mono S1.gsub)) fun h4 t4 S4 k4' => ?_)) (fun _ _ q => q) fun _ _ q => q.elim
      have hst4 : Sw (i + 1) h4 := it.wk.frame _ _ _ hst3 fun b hb o e => k4' b o (fpo b hb).1 (fpo b hb).2.1 e
      have e1 : ∀ (G : D → List D), (xs.take (i + 1)).flatMap G = (xs.take i).flatMap G ++ G d := fun G => by
        rw [List.take_add_one, hd]; simp
      have hlen : ((xs.take i).flatMap fun d => (ys d).map (F d)).length + (ys d).length ≤ 100000 := by
        have h0 := hsz (i + 1)
        rw [e1, List.length_append] at h0
        have : ((xs.take i).flatMap fun d => (ys d).map (F d)).length = ((xs.take i).flatMap ys).length := by simp [List.length_flatMap, Function.comp_def]
        omega
      have inR : ∀ b o, b ∈ fp → h4.get? b = some o → (reb fr' h4 g₁ [s.heap.objs.size]).h₀.get? b = some o := fun b o hb e => by
        refine hideAll_get _ e fun hm => ?_
        obtain ⟨r1, r2, r3⟩ := fpo b hb
        rcases List.mem_cons.mp hm with q | hm
        · exact r1 q
        · rcases List.mem_append.mp hm with hm | hm
          · exact r2 hm
          · exact r3 (List.mem_singleton.mp hm)
      refine wpAny_mono (E := fun _ _ => False) (w_inner (K := again (.compLoop (.ListComp elt [⟨.Name x px, iter, [], 0⟩, ⟨.Name y py, iter2, [], 0⟩] sc pos) 0 (.ref It) (.ref s.heap.objs.size) fr'.env)) (F := F d) (g0 := ⟨.Name x px, iter, [], 0⟩) (py := py) (pos := pos) (sc := sc) (s := { s with heap := h4, toks := t4 }) (O'.reb S4) S4.reb (hi2 d hdm _) hy (fun p hp => by
        rcases upd_cases hp with rfl | ⟨h1, _⟩
        · exact hxy
        · exact sto_not_free C hy (hΓ p h1).2.1) hlen (fun e hem acc' => he d hdm e hem _)
        (Q := fun fin s' => match fin with | .done f => RR (.ref s.heap.objs.size) H1.objs.size (.ok f) s' | .again c' => c' = .compLoop (.ListComp elt [⟨.Name x px, iter, [], 0⟩, ⟨.Name y py, iter2, [], 0⟩] sc pos) 0 (.ref It) (.ref s.heap.objs.size) fr'.env ∧ ∃ m, m < xs.length + 1 - i ∧ ∃ i h₁ g₁ tk, s' = { s with heap := h₁, toks := tk } ∧ St fr' Γ' [(xs.take i).flatMap fun d => (ys d).map (F d)] h₁ g₁ [s.heap.objs.size] ∧ Off fr' g₁ [s.heap.objs.size] wr ∧ Sw i h₁ ∧ i ≤ xs.length ∧ m = xs.length + 1 - i) (fun h5 g5 t5 S5 => by
          have S5' := S4.unreb S5
          have kept : ∀ b o, b ∈ fp → h4.get? b = some o → h5.get? b = some o := fun b o hb e => S5.keep b o (inR b o hb e)
          refine wpAny_pure ⟨rfl, _, by omega, i + 1, h5, g5, t5, rfl, ?_, ⟨fun b hb => ?_⟩, it.wk.frame _ _ _ hst4 fun b hb o e => kept b o hb e, hlt, rfl⟩
          · rw [e1]
            exact S5'.weak fun p hp => List.Mem.tail _ (List.mem_filter.mpr ⟨hp, by simpa using sto_not_free C hx (hΓ p hp).2.1⟩)
          · obtain ⟨r1, r2, r3, r4, r5⟩ := F1.off b hb
            obtain ⟨o, ho⟩ := Option.ne_none_iff_exists'.mp (it.wl _ _ hst4 b hb)
            have hin := inR b o (it.wk.sub b hb) ho
            refine ⟨r1, r2, r3, ?_, r5⟩
            cases q : g5 b with
            | none => rfl
            | some o' =>
              rcases S5.own b o' q with e | e
              · have e' : g₁ b = some o' := e
                rw [r4] at e'; cases e'
              · rw [hin] at e; cases e) hs2) (fun _ _ q => q) fun _ _ q => q.elim
    · have hin : i = xs.length := by omega
      subst hin
      refine it.wk.done _ _ _ hst fun h3 t3 k3 => wpAny_pure ?_
      have S3 := S1.off F1 k3
      rw [List.take_length] at S3
      have up0 : ∀ b o, s₀.heap.get? b = some o → (hideAll s.heap wr).get? b = some o := fun b o e => hideAll_get _ (it.gr.hk b o e) fun hm => by rw [it.new b hm] at e; cases e
      obtain ⟨⟨vs, n, hD3, hR⟩, _, _, hfD⟩ := S3.muts 0 s.heap.objs.size _ rfl rfl
      obtain ⟨m3, hn3, _⟩ := S3.loc
      refine hRR _ _ h3 (g₁.add s.heap.objs.size (lstO vs n)) t3 m3 (none_of_keep it.gr.hk hLfresh) ?_ hn3 ⟨fun b o e => S3.keep b o (up0 b o e), fun b o e => Fz.add_keep hfD _ _ (S3.gsub b o (it.gr.gk b o e)), fun b o e => ?_, fun b o e => ?_⟩ (.list _ _ vs n (Fz.add_self _ _ _) (hR.mono (Fz.add_keep hfD))) hDL
      · unfold Fz.add; rw [if_neg (Ne.symm hDL)]; exact S3.gL
      · unfold Fz.add at e
        by_cases hb : b = s.heap.objs.size
        · rw [if_pos hb] at e; cases e; rw [hb]; exact hD3
        · rw [if_neg hb] at e; exact S3.sub b o e
      · unfold Fz.add at e
        by_cases hb : b = s.heap.objs.size
        · rw [hb]; exact .inr (none_of_keep it.gr.hk hDfresh)
        · rw [if_neg hb] at e
          rcases S3.own b o e with q | q
          · exact it.gr.own b o q
          · exact .inr (none_of_keep up0 q)
  refine codeAny_compStart_list loop (it.wk.self 0 _ _ _ ?_ loop)
  exact it.wk.frame _ _ _ it.st fun b hb o e => k4 _ _ (kpush _ _ e)
theorem ev_comp2 {elt iter iter2 : Expr} {x y : Str} {px py pos : Pos} {sc : Scope} {xs : List D} {ys : D → List D} {F : D → D → D} {Γ' : Gam} (hi : EvI false c Γ Δ iter xs) (C : CScope c sc) (hx : Sto (cOf c sc) x) (hy : Sto (cOf c sc) y) (hxy : x ≠ y) (hsz : ∀ i, ((xs.take i).flatMap ys).length ≤ 100000)
    (hΓ : ∀ p ∈ Γ', p ∈ Γ ∧ (p.1, NameKind.free) ∈ sc.names ∧ ∃ d, p.2 = .d d)
    (hi2 : ∀ d ∈ xs, ∀ Δ', EvI true (cOf c sc) (upd Γ' x (.d d)) Δ' iter2 (ys d)) (he : ∀ d ∈ xs, ∀ e ∈ ys d, ∀ Δ', EvF (cOf c sc) (upd (upd Γ' x (.d d)) y (.d e)) Δ' elt (F d e))
    (hs : ∀ env x, foldedSetIterable iter env x = pure x := by intro _ _; rfl) (hs2 : ∀ env x, foldedSetIterable iter2 env x = pure x := by intro _ _; rfl) :
    EvF c Γ Δ (.ListComp elt [⟨.Name x px, iter, [], 0⟩, ⟨.Name y py, iter2, [], 0⟩] sc pos) (.list (xs.flatMap fun d => (ys d).map (F d))) := fun fr s g am O S Q hQ => by
  rw [eval_ListComp]
  refine wpAny_comprehension_free (use := none) rfl (hs _) (closureFor_clos (O.closed C)) C.kind C.hnames (hi fr s g am O S _ fun It fp wr Pw Sw h1 g1 t1 it => ?_)
  refine w_comp2 O S it C hx hy hxy hsz hΓ hi2 he hs2 (RR := fun acc C => compPost _ _ _ none Q acc C) fun D C h' g' tk m hC hgC hn k r hDC => ?_
  exact ⟨m, hn, fun h'' hs => hQ _ h'' g' tk (gr_other k hs hC hgC) r⟩

theorem comp_fn2 {α β γ : Type} (enc : α → D) (encb : β → D) (encc : γ → D) (ha : Inj enc) (hb : Inj encb) (m : α → List β) (F : α → β → γ) : ∃ (ys : D → List D) (F' : D → D → D), ∀ a, ys (enc a) = (m a).map encb ∧ ∀ b, F' (enc a) (encb b) = encc (F a b) := by
  classical
  refine ⟨fun d => if h : ∃ a, enc a = d then (m h.choose).map encb else [], fun d e => if h : ∃ a, enc a = d then (if h' : ∃ b, encb b = e then encc (F h.choose h'.choose) else d) else d, fun a => ?_⟩
  have h : ∃ b, enc b = enc a := ⟨a, rfl⟩
  have e : h.choose = a := ha _ _ h.choose_spec
  refine ⟨by simp only [dif_pos h]; rw [e], fun b => ?_⟩
  have h' : ∃ b', encb b' = encb b := ⟨b, rfl⟩
  have e' : h'.choose = b := hb _ _ h'.choose_spec
  simp only [dif_pos h, dif_pos h']
  rw [e, e']
theorem comp_eq2 {α β γ : Type} {enc : α → D} {encb : β → D} {encc : γ → D} {m : α → List β} {F : α → β → γ} {ys : D → List D} {F' : D → D → D} (h : ∀ a, ys (enc a) = (m a).map encb ∧ ∀ b, F' (enc a) (encb b) = encc (F a b)) :
    ∀ l : List α, ((l.map enc).flatMap fun d => (ys d).map (F' d)) = (l.flatMap fun a => (m a).map (F a)).map encc
  | [] => rfl
  | a :: r => by
    rw [List.map_cons, List.flatMap_cons, List.flatMap_cons, List.map_append, comp_eq2 h r, (h a).1, List.map_map, List.map_map]
    congr 1
    apply List.map_congr_left
    intro b _
    exact (h a).2 b
theorem ev_comp2L {α β γ : Type} (enc : α → D) (encb : β → D) (encc : γ → D) (ha : Inj enc) (hb : Inj encb) (l : List α) (m : α → List β) (F : α → β → γ) {elt iter iter2 : Expr} {x y : Str} {px py pos : Pos} {sc : Scope} (Γ' : Gam) (hi : EvI false c Γ Δ iter (l.map enc)) (C : CScope c sc) (hx : Sto (cOf c sc) x) (hy : Sto (cOf c sc) y) (hxy : x ≠ y) (hsz : (l.flatMap m).length ≤ 100000)
    (hΓ : ∀ p ∈ Γ', p ∈ Γ ∧ (p.1, NameKind.free) ∈ sc.names ∧ ∃ d, p.2 = .d d)
    (hi2 : ∀ a ∈ l, ∀ Δ', EvI true (cOf c sc) (upd Γ' x (.d (enc a))) Δ' iter2 ((m a).map encb)) (he : ∀ a ∈ l, ∀ b ∈ m a, ∀ Δ', EvF (cOf c sc) (upd (upd Γ' x (.d (enc a))) y (.d (encb b))) Δ' elt (encc (F a b)))
    (hs : ∀ env x, foldedSetIterable iter env x = pure x := by intro _ _; rfl) (hs2 : ∀ env x, foldedSetIterable iter2 env x = pure x := by intro _ _; rfl) :
    EvF c Γ Δ (.ListComp elt [⟨.Name x px, iter, [], 0⟩, ⟨.Name y py, iter2, [], 0⟩] sc pos) (.list ((l.flatMap fun a => (m a).map (F a)).map encc)) := by
  obtain ⟨ys, F', h⟩ := comp_fn2 enc encb encc ha hb m F
  rw [← comp_eq2 h l]
  refine ev_comp2 hi C hx hy hxy (fun i => ?_) hΓ (fun d hd Δ' => ?_) (fun d hd e he' Δ' => ?_) hs hs2
  · have e1 : ((l.map enc).take i).flatMap ys = ((l.take i).flatMap m).map encb := by
      rw [← List.map_take]
      generalize l.take i = l'
      induction l' with
      | nil => rfl
      | cons a r ih => rw [List.map_cons, List.flatMap_cons, List.flatMap_cons, List.map_append, ih, (h a).1]
    rw [e1, List.length_map]
    refine Nat.le_trans ?_ hsz
    have : l = l.take i ++ l.drop i := (List.take_append_drop i l).symm
    have e2 : (l.flatMap m).length = ((l.take i).flatMap m).length + ((l.drop i).flatMap m).length := by
      conv => lhs; rw [this, List.flatMap_append, List.length_append]
    omega
  · obtain ⟨a, ha', rfl⟩ := List.mem_map.mp hd
    rw [(h a).1]; exact hi2 a ha' Δ'
  · obtain ⟨a, ha', rfl⟩ := List.mem_map.mp hd
    rw [(h a).1] at he'
    obtain ⟨b, hb', rfl⟩ := List.mem_map.mp he'
    rw [(h a).2]; exact he a ha' b hb' Δ'
end
end Mine

set_option maxRecDepth 100000
set_option autoImplicit false
set_option linter.unusedVariables false
set_option maxHeartbeats 1000000
namespace Mine
open PySem PySem.W PySem.Calls PyProof.Rows
section
variable {prog : Program} {w : World} {A : Around} {E : Value → Shared → Prop} {s : Shared}

/-- a fresh IndexError -/
def RaisedAt (h h' : Heap) (e : Addr) (c : Value) : Prop := (∀ b o, h.get? b = some o → h'.get? b = some o) ∧ h.get? e = none ∧ ∃ ob vs, h'.get? e = some ob ∧ ob.cls = .type "IndexError" ∧ ob.data = .fields vs ∧ vs.size = 6 ∧ vs[1]? = some .none ∧ vs[2]? = some c
/-- what is being handled -/
def Hand (A : Around) (h : Heap) : Prop := A.handled = none ∨ ∃ e1 o1 vs1, A.handled = some (.ref e1) ∧ h.get? e1 = some o1 ∧ o1.data = .fields vs1 ∧ vs1[2]? = some .none

theorem Heap.NewExc.raised {h h' : Heap} {e : Addr} (x : Heap.NewExc h h' e "IndexError") : RaisedAt h h' e .none := by
  obtain ⟨ob, t, h1, h2, h3⟩ := x.there
  exact ⟨x.keeps, x.new, ob, _, h1, h2, h3, rfl, rfl, rfl⟩

theorem raise_in {α : Type} {msg : String} {Q : α → Shared → Prop} {e1 : Addr} {o1 : Obj} {vs1 : Array Value} (hh : A.handled = some (.ref e1)) (h1 : s.heap.get? e1 = some o1) (hd1 : o1.data = .fields vs1) (h2 : vs1[2]? = some .none)
    (h : ∀ h' tk e c, RaisedAt s.heap h' e c → E (.ref e) { s with heap := h', toks := tk }) : wpAny (model prog w) A (raiseErrorWords "IndexError" msg : Sem α) Q E s := by
  unfold raiseErrorWords
  refine wpAny_bind (wpAny_mkText (wpAny_bind ?_))
  unfold newExc newTuple
  refine wpAny_bind (wpAny_newObj_type ?_)
  refine wpAny_bind (m := firstArgMember _ _) (wpAny_of_eq (a := Value.none) (by simp only [firstArgMember, plainExc_IndexError.first]; rfl) ?_)
  rw [plainExc_IndexError.own]
  refine wpAny_newObj_type ?_
  unfold raiseNew
  refine wpAny_bind (wpAny_handled ?_)
  rw [hh]
  dsimp only
  generalize hH1 : s.heap.push { cls := .type "tuple", data := .seq #[Value.str (Str.ofString msg) s.toks] } = H1
  have k1 : ∀ b o, s.heap.get? b = some o → H1.get? b = some o := fun b o q => by rw [← hH1]; exact Heap.get?_push_of_some _ q
  have hlt : e1 < H1.objs.size := Heap.lt_size (k1 _ _ h1)
  have hne : (Value.ref e1 != Value.ref H1.objs.size) = true := by
    have : e1 ≠ H1.objs.size := Nat.ne_of_lt hlt
    simpa using this
  rw [if_pos hne]
  generalize ho : ({ cls := .type "IndexError", data := .fields (#[Value.ref s.heap.objs.size, .none, .none, .none, .bool false, .none] ++ #[]) } : Obj) = oe
  have k2 : ∀ b o, s.heap.get? b = some o → (H1.push oe).get? b = some o := fun b o q => Heap.get?_push_of_some _ (k1 b o q)
  have hoe : (H1.push oe).get? H1.objs.size = some oe := Heap.get?_push_size _ (by rw [← ho]; rfl)
  have hod : oe.data = .fields #[Value.ref s.heap.objs.size, .none, .none, .none, .bool false, .none] := by rw [← ho]; rfl
  refine wpAny_bind (wpAny_holding (wpAny_runValue (codeAny_builtin (b := Builtin.«proto.unchain») (entryFor_of_tree (by kernel_rfl)) ?_)))
  show wpAny _ _ (field (.ref e1) 2 >>= _) _ _ _
  refine wpAny_bind (wpAny_field (k2 _ _ h1) hd1 h2 ?_)
  rw [if_pos (by decide)]
  refine wpAny_bind (wpAny_pure (wpAny_pure ?_))
  refine wpAny_bind (?_ : wpAny _ _ (setField (.ref H1.objs.size) 2 (.ref e1)) _ _ _)
  refine wpAny_setField hoe hod (by simp) (wpAny_throw ?_)
  have hnew : s.heap.get? H1.objs.size = none := none_of_keep k1 fresh_size
  refine h _ _ _ (.ref e1) ⟨fun b o q => ?_, hnew, ?_⟩
  · rw [Heap.get?_update_other _ _ (fun q' => by rw [← q', hnew] at q; cases q)]; exact k2 b o q
  · have hd3 := Obj.data_mapFields hod (·.setIfInBounds 2 (Value.ref e1))
    refine ⟨_, _, Heap.get?_update_self _ hoe (Obj.isFreed_of_fields hd3), by rw [Obj.cls_mapFields, ← ho], hd3, by simp, by simp, by simp⟩

theorem gi_out {l : Addr} {items : Array Value} {k : Int} {t : Tok} {Q : Value → Shared → Prop} (hA : Hand A s.heap) (hl : s.heap.IsList l items) (hout : (items.size : Int) ≤ k) (hhi : k < 2 ^ 63)
    (hE : ∀ h' tk e c, RaisedAt s.heap h' e c → (A.handled = none → c = .none) → E (.ref e) { s with heap := h', toks := tk }) : wpAny (model prog w) A (getItem (.ref l) (.int k t)) Q E s := by
  rcases hA with hA | ⟨e1, o1, vs1, hA, h1, hd1, h2⟩
  · exact wpAny_getItem_list_out hA hl (.inr hout) (by omega) hhi fun h' tk e x => hE h' tk e _ (Heap.NewExc.raised x) fun _ => rfl
  obtain ⟨o, ho, hc, ne, hd⟩ := id hl
  unfold getItem
  refine wpAny_holding ?_
  refine wpAny_bind (wpAny_sequenceKey hl.typeIs (by decide) ?_)
  refine wpAny_bind (wpAny_callSpecial?_slot (name := Str.ofString "__getitem__") hl.typeIs slot_list_getitem
    (wpAny_call_entry slot_list_getitem hl.typeIs entry_list_getitem ?_ (args_list_getitem _ _)))
  show wpAny _ _ (Builtin.List.listSubscript? (.int k t) >>= _) _ _ s
  refine wpAny_bind (wpAny_listSubscript_int (fitsIndex_both (by omega) hhi) ?_)
  obtain ⟨j, rfl⟩ : ∃ j : Nat, k = (j : Int) := ⟨k.toNat, by omega⟩
  have hx : items[j]? = none := Array.getElem?_eq_none (by omega)
  show wpAny _ _ ((seqItemAt l j >>= fun r => pure (r.map (j, ·))) >>= _) _ _ s
  refine wpAny_bind (wpAny_bind (wpAny_seqItemAt ho hd (wpAny_pure ?_)))
  rw [hx]
  exact wpAny_bind (wpAny_rule (wpAny_bind (raise_in (A := A.in1) hA h1 hd1 h2 fun h' tk e c x => hE h' tk e c x fun q => by rw [q] at hA; cases hA)))
end
/-! the callee's frame and its caller's -/
/-- two frames on the stack -/
structure Two (fr : Frm) (LL : Addr) : Prop where
  st : ∃ envL, fr.A.frames = some [fr.env, envL] ∧ envL.frame = some LL ∧ envL.scope.kind ≠ .module
  f1 : fr.env.frame = some fr.env.locals
  k1 : fr.env.scope.kind ≠ .module
  ne : fr.env.locals ≠ LL
  oc : fr.oc = []
  h0 : fr.h₀.get? LL = none
/-- what is seen of the caller's names -/
structure Seen (LL : Addr) (dL : Data) (h : Heap) : Prop where
  at' : ∃ o, h.get? LL = some o ∧ o.data = dL
  nf : ∀ vs, dL ≠ .fields vs
/-- an exception on its way: noted, its flight fl -/
structure Flies (fr : Frm) (h : Heap) (g : Fz) (e : Addr) (c fl : Value) : Prop where
  ob : ∃ oe vs T oT ts, h.get? e = some oe ∧ oe.cls = .type "IndexError" ∧ oe.data = .fields vs ∧ vs[1]? = some (.ref T) ∧ vs[2]? = some c ∧ T ≠ e ∧ h.get? T = some oT ∧ oT.data = .fields ts ∧ ts[3]? = some fl ∧ g T = none ∧ fr.h₀.get? T = none
  ge : g e = none
  he : fr.h₀.get? e = none
variable {c : Cfg} {Γ : Gam} {Δ : Del}

theorem St.slots {fr : Frm} {h h' : Heap} {g : Fz} {am : List Addr} {LL : Addr} (S : St fr Γ Δ h g am) (F : Two fr LL) (hg : g LL = none) (ham : LL ∉ am) (k : ∀ b, b ∉ [fr.env.locals, LL] → h'.get? b = h.get? b) (ks : ∀ b o, h.get? b = some o → ∃ sl, h'.get? b = some { o with slots := sl }) : St fr Γ Δ h' g am where
  keep := fun b o e => (k b fun hm => by
    rcases List.mem_cons.mp hm with q | hm
    · rw [q, S.hL] at e; cases e
    · rw [List.mem_singleton.mp hm, F.h0] at e; cases e).trans (S.keep b o e)
  sub := fun b o e => (k b fun hm => by
    rcases List.mem_cons.mp hm with q | hm
    · rw [q, S.gL] at e; cases e
    · rw [List.mem_singleton.mp hm, hg] at e; cases e).trans (S.sub b o e)
  gsub := S.gsub
  own := S.own
  gL := S.gL
  hL := S.hL
  loc := by
    obtain ⟨m, hn, hp⟩ := S.loc
    have hn' : h'.Ns fr.env.locals m := by
      obtain ⟨o, es, ep, ho, hd, r⟩ := hn
      obtain ⟨sl, hs⟩ := ks _ o ho
      exact ⟨_, es, ep, hs, hd, r⟩
    refine ⟨m, hn', fun p hm => ?_⟩
    obtain ⟨v, h1, h2⟩ := hp p hm
    refine ⟨v, h1, ?_⟩
    cases h2 with
    | loc h3 h4 => exact .loc h3 h4
    | ocell a h3 h4 h5 h6 => rw [F.oc] at h5; cases h5
    | cell a h3 h4 h6 => exact .cell a h3 h4 h6
  ocs := fun b hb => by rw [F.oc] at hb; cases hb
  len := S.len
  nd := S.nd
  muts := fun i a ds h1 h2 => by
    obtain ⟨⟨vs, n, ho, hr⟩, r1, r2, r3⟩ := S.muts i a ds h1 h2
    refine ⟨⟨vs, n, (k a fun hm => ?_).trans ho, hr⟩, r1, r2, r3⟩
    rcases List.mem_cons.mp hm with q | hm
    · exact r1 q
    · exact ham (List.mem_singleton.mp hm ▸ List.mem_of_getElem? h1)

theorem note_first {prog : Program} {w : World} {E : Value → Shared → Prop} {s : Shared} {fr : Frm} {LL e : Addr} {dL : Data} {g : Fz} {am : List Addr} {oe : Obj} {vs : Array Value} {c2 : Value} {Q : Unit → Shared → Prop} (F : Two fr LL) (S : St fr Γ Δ s.heap g am) (L : Seen LL dL s.heap) (hg : g LL = none) (ham : LL ∉ am)
    (he : s.heap.get? e = some oe) (hcl : oe.cls = .type "IndexError") (hd : oe.data = .fields vs) (hz : vs.size = 6) (h1 : vs[1]? = some .none) (h2 : vs[2]? = some c2) (hge : g e = none) (hhe : fr.h₀.get? e = none)
    (h : ∀ h', St fr Γ Δ h' g am → Seen LL dL h' → Flies fr h' g e c2 (rawInt fr.env.locals) → Q () { s with heap := h' }) : wpAny (model prog w) fr.A (noteFrame (.ref e) fr.env) Q E s := by
  obtain ⟨envL, hfr, f2, k2⟩ := F.st
  obtain ⟨⟨oL, hoL, hdL⟩, hnf⟩ := L
  obtain ⟨m, ⟨oN, es, ep, hoN, hdN, hr⟩, _⟩ := id S.loc
  have hfm : [fr.env, envL].filterMap (·.frame) = [fr.env.locals, LL] := by simp [F.f1, f2]
  have hl : s.heap.FunFrames (hideAll s.heap [fr.env.locals, LL]) [fr.env, envL] :=
    ⟨F.k1, ⟨_, _, F.f1, hideAll_none _ (.head _), hoN, fun vs q => by rw [hdN] at q; cases q⟩, k2, ⟨_, _, f2, hideAll_none _ (.tail _ (.head _)), hoL, fun vs q => hnf vs (hdL ▸ q)⟩, trivial⟩
  have heL : e ≠ fr.env.locals := fun q => by rw [← q, he] at hoN; cases hoN; rw [hd] at hdN; cases hdN
  have heLL : e ≠ LL := fun q => by rw [← q, he] at hoL; cases hoL; exact hnf vs (hdL ▸ hd)
  have heam : e ∉ am := fun hm => by
    obtain ⟨i, hi, q⟩ := List.mem_iff_getElem.mp hm
    obtain ⟨⟨us, n, ho, _⟩, _⟩ := S.muts i e _ (by rw [List.getElem?_eq_getElem hi, q]) (List.getElem?_eq_getElem (S.len ▸ hi))
    rw [he] at ho; cases ho; cases hd
  unfold noteFrame
  simp only [F.f1]
  refine wpAny_bind (wpAny_field he hd h1 ?_)
  rw [if_neg (by decide)]
  refine wpAny_bind (wpAny_frameOf_fun hfr hl F.f1 fun h₁ hs₁ => ?_)
  rw [hfm] at hs₁
  refine wpAny_bind (wpAny_entryPlaceOf fun pl hpl => ?_)
  unfold EntryCells.newEntry newFields
  refine wpAny_bind (wpAny_newObj_type ?_ (hpl.sizeOk5 _ _ _ _ _))
  have S1 : St fr Γ Δ h₁ g am := S.slots F hg ham (fun b hb => hs₁.2.1 b hb) hs₁.2.2
  have he₁ : h₁.get? e = some oe := (hs₁.2.1 e (by simp [heL, heLL])).trans he
  generalize hotb : ({ cls := .type "traceback", dict := none, data := .fields ([Value.none, .ref fr.env.locals, .none, rawInt fr.env.locals, .none] ++ (if pl.isEmpty then List.replicate 6 Value.none else pl)).toArray } : Obj) = otb
  have hotd : otb.data = .fields ([Value.none, .ref fr.env.locals, .none, rawInt fr.env.locals, .none] ++ (if pl.isEmpty then List.replicate 6 Value.none else pl)).toArray := by rw [← hotb]
  have hoN1 : ∃ o, h₁.get? LL = some o ∧ o.data = dL := by
    obtain ⟨sl, hs⟩ := hs₁.2.2 _ _ hoL
    exact ⟨_, hs, hdL⟩
  have kp : ∀ b o, h₁.get? b = some o → (h₁.push otb).get? b = some o := fun b o q => Heap.get?_push_of_some _ q
  have hT : (h₁.push otb).get? h₁.objs.size = some otb := Heap.get?_push_size _ (by rw [← hotb]; rfl)
  have he₂ := kp _ _ he₁
  have hTe : h₁.objs.size ≠ e := Nat.ne_of_gt (Heap.lt_size he₁)
  have S2 := S1.gr (Gr.heap S1.sub kp)
  refine wpAny_setField he₂ hd (by omega) (h _ ?_ ?_ ⟨?_, hge, hhe⟩)
  · exact S2.off (wr := [e]) ⟨fun b hb => by rw [List.mem_singleton.mp hb]; exact ⟨heL, by rw [F.oc]; simp, heam, hge, hhe⟩⟩ fun b o hb q => by
      rw [Heap.get?_update_other _ _ (fun q' => hb (List.mem_singleton.mpr q'.symm))]; exact q
  · obtain ⟨o, ho, hdo⟩ := hoN1
    exact ⟨⟨o, by rw [Heap.get?_update_other _ _ heLL]; exact kp _ _ ho, hdo⟩, hnf⟩
  · have hd3 := Obj.data_mapFields hd (·.setIfInBounds 1 (Value.ref h₁.objs.size))
    refine ⟨_, _, h₁.objs.size, otb, _, Heap.get?_update_self _ he₂ (Obj.isFreed_of_fields hd3), by rw [Obj.cls_mapFields]; exact hcl, hd3, ?_, ?_, hTe, ?_, hotd, ?_, ?_, ?_⟩
    · rw [Array.getElem?_setIfInBounds_self]; rw [if_pos (by omega)]
    · rw [Array.getElem?_setIfInBounds_ne (by decide)]; exact h2
    · rw [Heap.get?_update_other _ _ (Ne.symm hTe)]; exact hT
    · simp
    · exact none_of_sub S1.sub fresh_size
    · exact none_of_keep S1.keep fresh_size

theorem note_again {prog : Program} {w : World} {E : Value → Shared → Prop} {s : Shared} {fr : Frm} {LL e : Addr} {g : Fz} {c2 : Value} {Q : Unit → Shared → Prop} (F : Two fr LL) (X : Flies fr s.heap g e c2 (rawInt fr.env.locals)) (h : Q () s) : wpAny (model prog w) fr.A (noteFrame (.ref e) fr.env) Q E s := by
  obtain ⟨oe, vs, T, oT, ts, he, hcl, hd, h1, h2, hTe, hT, hdT, h3, _⟩ := X.ob
  unfold noteFrame
  simp only [F.f1]
  refine wpAny_bind (wpAny_field he hd h1 ?_)
  rw [if_pos (show (Value.ref T != Value.none) = true from by simp)]
  refine wpAny_bind (wpAny_field hT hdT h3 ?_)
  rw [if_pos (show (rawInt fr.env.locals == rawInt fr.env.locals) = true from by simp)]
  exact wpAny_pure h

theorem set_flight {prog : Program} {w : World} {A : Around} {E : Value → Shared → Prop} {s : Shared} {fr : Frm} {LL e : Addr} {dL : Data} {g : Fz} {am : List Addr} {c2 fl : Value} {x : Option Addr} {Q : Unit → Shared → Prop} (F : Two fr LL) (S : St fr Γ Δ s.heap g am) (L : Seen LL dL s.heap) (X : Flies fr s.heap g e c2 fl)
    (h : ∀ h', St fr Γ Δ h' g am → Seen LL dL h' → Flies fr h' g e c2 (x.elim .none fun f => rawInt f) → Q () { s with heap := h' }) : wpAny (model prog w) A (setFlight (.ref e) x) Q E s := by
  obtain ⟨oe, vs, T, oT, ts, he, hcl, hd, h1, h2, hTe, hT, hdT, h3, hgT, hhT⟩ := X.ob
  obtain ⟨⟨oL, hoL, hdL⟩, hnf⟩ := L
  obtain ⟨m, ⟨oN, es, ep, hoN, hdN, hr⟩, _⟩ := id S.loc
  have hTL : T ≠ fr.env.locals := fun q => by rw [← q, hT] at hoN; cases hoN; rw [hdT] at hdN; cases hdN
  have hTLL : T ≠ LL := fun q => by rw [← q, hT] at hoL; cases hoL; exact hnf ts (hdL ▸ hdT)
  have hTam : T ∉ am := fun hm => by
    obtain ⟨i, hi, q⟩ := List.mem_iff_getElem.mp hm
    obtain ⟨⟨us, n, ho, _⟩, _⟩ := S.muts i T _ (by rw [List.getElem?_eq_getElem hi, q]) (List.getElem?_eq_getElem (S.len ▸ hi))
    rw [hT] at ho; cases ho; cases hdT
  have hlt : 3 < ts.size := (Array.getElem?_eq_some_iff.mp h3).1
  have hd3 := Obj.data_mapFields hdT (·.setIfInBounds 3 (x.elim .none fun f => rawInt f))
  unfold setFlight
  refine wpAny_bind (wpAny_field he hd h1 ?_)
  rw [if_pos (show (Value.ref T != Value.none) = true from by simp)]
  refine wpAny_setField hT hdT hlt (h _ ?_ ?_ ⟨⟨oe, vs, T, _, _, ?_, hcl, hd, h1, h2, hTe, Heap.get?_update_self _ hT (Obj.isFreed_of_fields hd3), hd3, ?_, hgT, hhT⟩, X.ge, X.he⟩)
  · exact S.off (wr := [T]) ⟨fun b hb => by rw [List.mem_singleton.mp hb]; exact ⟨hTL, by rw [F.oc]; simp, hTam, hgT, hhT⟩⟩ fun b o hb q => by
      rw [Heap.get?_update_other _ _ (fun q' => hb (List.mem_singleton.mpr q'.symm))]; exact q
  · exact ⟨⟨oL, by rw [Heap.get?_update_other _ _ hTLL]; exact hoL, hdL⟩, hnf⟩
  · rw [Heap.get?_update_other _ _ hTe]; exact he
  · rw [Array.getElem?_setIfInBounds_self]; rw [if_pos hlt]
end Mine

set_option maxRecDepth 100000
set_option autoImplicit false
set_option linter.unusedVariables false
set_option maxHeartbeats 1000000
namespace Mine
open PySem PySem.W PySem.Calls PyProof.Rows
variable {c : Cfg} {Γ Γ' : Gam} {Δ Δ' : Del}

structure SS (fr : Frm) (LL : Addr) (dL : Data) (Γ : Gam) (Δ : Del) (h : Heap) (g : Fz) (am : List Addr) : Prop where
  S : St fr Γ Δ h g am
  L : Seen LL dL h
  hg : g LL = none
  ham : LL ∉ am

theorem SS.gr {fr : Frm} {LL : Addr} {dL : Data} {h h' : Heap} {g g' : Fz} {am : List Addr} (Z : SS fr LL dL Γ Δ h g am) (k : Gr h g h' g') : SS fr LL dL Γ Δ h' g' am := by
  obtain ⟨⟨o, ho, hd⟩, hnf⟩ := Z.L
  exact ⟨Z.S.gr k, ⟨⟨o, k.hk _ _ ho, hd⟩, hnf⟩, k.none Z.hg ho, Z.ham⟩
theorem SS.weak {fr : Frm} {LL : Addr} {dL : Data} {h : Heap} {g : Fz} {am : List Addr} (Z : SS fr LL dL Γ Δ h g am) (k : ∀ p ∈ Γ', p ∈ Γ) : SS fr LL dL Γ' Δ h g am := ⟨Z.S.weak k, Z.L, Z.hg, Z.ham⟩
/-- with more heap told -/
theorem SS.un {fr : Frm} {LL : Addr} {dL : Data} {h h' : Heap} {g g' : Fz} {am am' : List Addr} (F : Two fr LL) (Z : SS fr LL dL Γ Δ h g am) (S' : St (reb fr h g am) Γ' Δ' h' g' am') : SS fr LL dL Γ' Δ' h' g' am' := by
  obtain ⟨⟨o, ho, hd⟩, hnf⟩ := Z.L
  have hin : (reb fr h g am).h₀.get? LL = some o := hideAll_get _ ho fun hm => by
    rcases List.mem_cons.mp hm with q | hm
    · exact F.ne q.symm
    · rw [F.oc, List.nil_append] at hm; exact Z.ham hm
  refine ⟨Z.S.unreb S', ⟨⟨o, S'.keep _ _ hin, hd⟩, hnf⟩, ?_, fun hm => ?_⟩
  · cases q : g' LL with
    | none => rfl
    | some o' =>
      rcases S'.own _ _ q with e | e
      · have e' : g LL = some o' := e
        rw [Z.hg] at e'; cases e'
      · rw [hin] at e; cases e
  · obtain ⟨j, hj, q⟩ := List.mem_iff_getElem.mp hm
    have M := S'.muts j LL _ (by rw [List.getElem?_eq_getElem hj, q]) (List.getElem?_eq_getElem (S'.len ▸ hj))
    rw [M.new] at hin; cases hin
/-- records stay -/
def Recs (h : Heap) (g : Fz) (h' : Heap) (g' : Fz) : Prop := ∀ b o vs, h.get? b = some o → o.data = .fields vs → h'.get? b = some o ∧ (g b = none → g' b = none)
theorem SS.recs {fr : Frm} {LL : Addr} {dL : Data} {h h' : Heap} {g g' : Fz} {am am' : List Addr} (F : Two fr LL) (Z : SS fr LL dL Γ Δ h g am) (S' : St (reb fr h g am) Γ' Δ' h' g' am') : Recs h g h' g' := fun b o vs ho hd => by
  have hin : (reb fr h g am).h₀.get? b = some o := hideAll_get _ ho fun hm => by
    rcases List.mem_cons.mp hm with q | hm
    · obtain ⟨m, ⟨oN, es, ep, hoN, hdN, _⟩, _⟩ := Z.S.loc
      rw [← q, ho] at hoN; cases hoN; rw [hd] at hdN; cases hdN
    · rw [F.oc, List.nil_append] at hm
      obtain ⟨j, hj, q⟩ := List.mem_iff_getElem.mp hm
      obtain ⟨⟨us, n, ho', _⟩, _⟩ := Z.S.muts j b _ (by rw [List.getElem?_eq_getElem hj, q]) (List.getElem?_eq_getElem (Z.S.len ▸ hj))
      rw [ho] at ho'; cases ho'; cases hd
  refine ⟨S'.keep _ _ hin, fun hg => ?_⟩
  cases q : g' b with
  | none => rfl
  | some o' =>
    rcases S'.own _ _ q with e | e
    · have e' : g b = some o' := e
      rw [hg] at e'; cases e'
    · rw [hin] at e; cases e
/-- a plain statement, a plain block -/
theorem SS.ex1 {fr : Frm} {LL : Addr} {dL : Data} {s : Shared} {g : Fz} {am : List Addr} {st : Stmt} {P : Post} {Q : Flow → Shared → Prop} {E : Value → Shared → Prop} (O : Okf c fr) (F : Two fr LL) (Z : SS fr LL dL Γ Δ s.heap g am) (R : Ex1 c Γ Δ st P)
    (hQ : ∀ o f Γ' Δ' h' g' am' tk, P o Γ' Δ' → Fl g' o f → SS fr LL dL Γ' Δ' h' g' am' → Recs s.heap g h' g' → Q f { s with heap := h', toks := tk }) : wpAny (model c.X.prog c.X.w) fr.A (exec st fr.env) Q E s :=
  wpAny_mono (R (reb fr s.heap g am) s g am (O.reb Z.S) Z.S.reb Q fun o f Γ' Δ' h' g' am' tk hp hf S' => hQ o f Γ' Δ' h' g' am' tk hp hf (Z.un F S') (Z.recs F S')) (fun _ _ q => q) fun _ _ q => q.elim
theorem SS.exs {fr : Frm} {LL : Addr} {dL : Data} {s : Shared} {g : Fz} {am : List Addr} {b : List Stmt} {P : Post} {Q : Flow → Shared → Prop} {E : Value → Shared → Prop} (O : Okf c fr) (F : Two fr LL) (Z : SS fr LL dL Γ Δ s.heap g am) (R : Exs c Γ Δ b P)
    (hQ : ∀ o f Γ' Δ' h' g' am' tk, P o Γ' Δ' → Fl g' o f → SS fr LL dL Γ' Δ' h' g' am' → Recs s.heap g h' g' → Q f { s with heap := h', toks := tk }) : wpAny (model c.X.prog c.X.w) fr.A (execs b fr.env) Q E s :=
  wpAny_mono (R (reb fr s.heap g am) s g am (O.reb Z.S) Z.S.reb Q fun o f Γ' Δ' h' g' am' tk hp hf S' => hQ o f Γ' Δ' h' g' am' tk hp hf (Z.un F S') (Z.recs F S')) (fun _ _ q => q) fun _ _ q => q.elim

theorem Hand.keep {A : Around} {h h' : Heap} (H : Hand A h) (k : ∀ b o, h.get? b = some o → h'.get? b = some o) : Hand A h' := by
  rcases H with H | ⟨e1, o1, vs1, H, h1, r⟩
  · exact .inl H
  · exact .inr ⟨e1, o1, vs1, H, k _ _ h1, r⟩
theorem RaisedAt.back {h h₁ h' : Heap} {e : Addr} {c : Value} (x : RaisedAt h₁ h' e c) (k : ∀ b o, h.get? b = some o → h₁.get? b = some o) : RaisedAt h h' e c := ⟨fun b o q => x.1 b o (k b o q), none_of_keep k x.2.1, x.2.2⟩

/-- xs[i], within or behind the list -/
theorem x_item {fr : Frm} {LL : Addr} {dL : Data} {s : Shared} {g : Fz} {am : List Addr} {xs i : Str} {p q pos : Pos} {ds : List D} {k : Nat} {Q : Value → Shared → Prop} {E : Value → Shared → Prop} (O : Okf c fr) (Z : SS fr LL dL Γ Δ s.heap g am) (hA : Hand fr.A s.heap)
    (hx : Γ.lookup xs = some (.d (.list ds))) (hi : Γ.lookup i = some (.d (.int k))) (hz : k < 100000)
    (hok : ∀ d v h' g' tk, ds[k]? = some d → Gr s.heap g h' g' → Rep g' d v → Q v { s with heap := h', toks := tk }) (hout : ds.length ≤ k → ∀ h' tk e c₂, RaisedAt s.heap h' e c₂ → (fr.A.handled = none → c₂ = .none) → E (.ref e) { s with heap := h', toks := tk })
    (hd1 : (xs == ("__debug__" : Str)) = false := by decide) (hc1 : (xs == ("__classdict__" : Str)) = false := by decide) (hd2 : (i == ("__debug__" : Str)) = false := by decide) (hc2 : (i == ("__classdict__" : Str)) = false := by decide) :
    wpAny (model c.X.prog c.X.w) fr.A (eval (.Subscript (.Name xs p) (.Name i q) pos) fr.env) Q E s := by
  by_cases hk : k < ds.length
  · have R : EvF c Γ Δ (.Subscript (.Name xs p) (.Name i q) pos) ds[k] := ev_item (d := ds[k]) (ev_nm hx hd1 hc1).ev (ev_nm hi hd2 hc2).ev (by omega) (by omega) (by simp [hk])
    exact wpAny_mono (E := fun _ _ => False) (R fr s g am O Z.S Q fun v h' g' tk kk r => hok _ v h' g' tk (by simp [hk]) kk r) (fun _ _ q => q) fun _ _ q => q.elim
  · refine Subscript_ (wpAny_mono (E := fun _ _ => False) ((ev_nm hx hd1 hc1 : EvF c Γ Δ (.Name xs p) (.list ds)) fr s g am O Z.S _ fun v h1 g1 t1 k1 r1 => wpAny_mono (E := fun _ _ => False) ((ev_nm hi hd2 hc2 : EvF c Γ Δ (.Name i q) (.int k)) fr _ g1 am O (Z.S.gr k1) _ fun v2 h2 g2 t2 k2 r2 => ?_) (fun _ _ q => q) fun _ _ q => q.elim) (fun _ _ q => q) fun _ _ q => q.elim)
    obtain ⟨a, vs, n, rfl, ho, hr⟩ := (RepS.fz r1 : RepS h1 g1 _ _).list k1.sub
    obtain ⟨t, rfl⟩ := rint (.fz r2 : RepS h2 g2 _ _)
    have ho2 := k2.hk _ _ ho
    refine tail_any (isList_of ho2).typeIs slot_list_getitem.lookup (gi_out (Hand.keep hA fun b o e => k2.hk _ _ (k1.hk _ _ e)) (isList_of ho2) (by rw [List.size_toArray, hr.length]; omega) (by omega) fun h' tk e c₂ x hc => hout (by omega) h' tk e c₂ (x.back fun b o e => k2.hk _ _ (k1.hk _ _ e)) hc) (by rfl)

theorem came_back {prog : Program} {w : World} {A : Around} {E : Value → Shared → Prop} {s : Shared} {fr : Frm} {LL e : Addr} {dL : Data} {g : Fz} {am : List Addr} {c2 fl : Value} (F : Two fr LL) (Z : SS fr LL dL Γ Δ s.heap g am) (X : Flies fr s.heap g e c2 fl)
    (h : ∀ h', SS fr LL dL Γ Δ h' g am → Flies fr h' g e c2 (rawInt fr.env.locals) → E (.ref e) { s with heap := h' }) : cameBackBy (model prog w) A fr.env E (.ref e) s := by
  obtain ⟨oe, vs, T, oT, ts, he, hcl, hd, h1, h2, hTe, hT, hdT, h3, hgT, hhT⟩ := id X.ob
  unfold cameBackBy
  refine wpAny_bind (wpAny_field he hd h1 ?_)
  rw [if_neg (show ¬ ((Value.ref T == Value.none) = true) from by simp)]
  rw [F.f1]
  exact set_flight F Z.S Z.L X fun h' S' L' X' => h h' ⟨S', L', Z.hg, Z.ham⟩ X'

/-- a raised exception is noted -/
theorem noted_raise {prog : Program} {w : World} {E : Value → Shared → Prop} {s : Shared} {h₁ : Heap} {fr : Frm} {LL e : Addr} {dL : Data} {g : Fz} {am : List Addr} {Q : Unit → Shared → Prop} (F : Two fr LL) (Z : SS fr LL dL Γ Δ h₁ g am) {c2 : Value} (x : RaisedAt h₁ s.heap e c2)
    (h : ∀ h', SS fr LL dL Γ Δ h' g am → Flies fr h' g e c2 (rawInt fr.env.locals) → Q () { s with heap := h' }) : wpAny (model prog w) fr.A (noteFrame (.ref e) fr.env) Q E s := by
  obtain ⟨k, hn, ob, vs, h1, h2, h3, h4, h5, h6⟩ := x
  have Z' := Z.gr (Gr.heap Z.S.sub k)
  exact note_first F Z'.S Z'.L Z'.hg Z'.ham h1 h2 h3 h4 h5 h6 (none_of_sub Z.S.sub hn) (none_of_keep Z.S.keep hn) fun h' S' L' X' => h h' ⟨S', L', Z.hg, Z.ham⟩ X'

/-- while xs[i] == v: .. -/
theorem x_while {fr : Frm} {LL : Addr} {dL : Data} {s : Shared} {g : Fz} {am : List Addr} {xs i v : Str} {p q r pos pos' pos'' : Pos} {ds : List D} {e0 : D} {k : Nat} {body : List Stmt} {Q : Flow → Shared → Prop} {E : Value → Shared → Prop} (O : Okf c fr) (F : Two fr LL) (Z : SS fr LL dL Γ Δ s.heap g am) (hA : Hand fr.A s.heap)
    (hx : Γ.lookup xs = some (.d (.list ds))) (hi : Γ.lookup i = some (.d (.int k))) (hv : Γ.lookup v = some (.d e0)) (hz : k < 100000) (heq : ∀ d, ds[k]? = some d → CmpF c .Eq d e0 false)
    (hnext : k < ds.length → ∀ h' g' tk, Gr s.heap g h' g' → SS fr LL dL Γ Δ h' g' am → Q .next { s with heap := h', toks := tk })
    (hraise : ds.length ≤ k → ∀ h' tk e c2, SS fr LL dL Γ Δ h' g am → Flies fr h' g e c2 (rawInt fr.env.locals) → (fr.A.handled = none → c2 = .none) → E (.ref e) { s with heap := h', toks := tk })
    (hd1 : (xs == ("__debug__" : Str)) = false := by decide) (hc1 : (xs == ("__classdict__" : Str)) = false := by decide) (hd2 : (i == ("__debug__" : Str)) = false := by decide) (hc2 : (i == ("__classdict__" : Str)) = false := by decide) (hd3 : (v == ("__debug__" : Str)) = false := by decide) (hc3 : (v == ("__classdict__" : Str)) = false := by decide) :
    wpAny (model c.X.prog c.X.w) fr.A (exec (.While (.Compare (.Subscript (.Name xs p) (.Name i q) pos) [.Eq] [.Name v r] pos') body [] pos'') fr.env) Q E s := by
  refine wpAny_While (codeAny_whileLoop (fun _ s' => s' = s) ?_ 0 rfl)
  rintro n s' rfl
  refine wpAny_isTrue_Compare1 (x_item O Z hA hx hi hz (fun d va h1 g1 t1 hd k1 r1 => ?_) (fun hl h' tk e c2 x hc => ?_) hd1 hc1 hd2 hc2) (by with_unfolding_all rfl)
  · refine wpAny_mono (E := fun _ _ => False) ((ev_nm hv hd3 hc3 : EvF c Γ Δ (.Name v r) e0) fr _ g1 am O (Z.S.gr k1) _ fun vb h2 g2 t2 k2 r2 => ?_) (fun _ _ q => q) fun _ _ q => q.elim
    refine wpAny_mono (E := fun _ _ => False) (heq d hd fr _ g2 va vb O k2.sub ((Z.S.gr k1).gr k2).keep (.fz (r1.mono k2.gk)) (.fz r2) _ fun h3 t3 k3 => ?_) (fun _ _ q => q) fun _ _ q => q.elim
    refine wpAny_truthy_bool ?_
    simp only [Bool.false_eq_true, if_false]
    refine wpAny_execs_nil (hnext (List.getElem?_eq_some_iff.mp hd).1 h3 g2 t3 ((k1.trans k2).trans (Gr.heap k2.sub k3)) (((Z.gr k1).gr k2).gr (Gr.heap k2.sub k3)))
  · refine noted_raise F Z x fun h2 Z2 X2 => ?_
    exact came_back F Z2 X2 fun h3 Z3 X3 => hraise hl h3 tk e c2 Z3 X3 hc
end Mine

set_option maxRecDepth 100000
set_option autoImplicit false
set_option linter.unusedVariables false
set_option maxHeartbeats 1000000
namespace Mine
open PySem PySem.W PySem.Calls PyProof.Rows
variable {c : Cfg} {Γ Γ' : Gam} {Δ Δ' : Del}

/-- the frame, something being handled -/
def mkd (fr : Frm) (A : Around) : Frm := { fr with A := A }
theorem At.mkd {fr : Frm} {A : Around} {h : Heap} {m : Str → Option Value} {x : Str} {v : Value} (a : At fr h m x v) : At (mkd fr A) h m x v := by
  cases a with
  | loc h1 h2 => exact .loc h1 h2
  | ocell a h1 h2 h3 h4 => exact .ocell a h1 h2 h3 h4
  | cell a h1 h2 h3 => exact .cell a h1 h2 h3
theorem At.unmkd {fr : Frm} {A : Around} {h : Heap} {m : Str → Option Value} {x : Str} {v : Value} (a : At (Mine.mkd fr A) h m x v) : At fr h m x v := by
  cases a with
  | loc h1 h2 => exact .loc h1 h2
  | ocell a h1 h2 h3 h4 => exact .ocell a h1 h2 h3 h4
  | cell a h1 h2 h3 => exact .cell a h1 h2 h3
theorem St.mkd {fr : Frm} {A : Around} {h : Heap} {g : Fz} {am : List Addr} (S : St fr Γ Δ h g am) : St (Mine.mkd fr A) Γ Δ h g am where
  keep := S.keep
  sub := S.sub
  gsub := S.gsub
  own := S.own
  gL := S.gL
  hL := S.hL
  loc := let ⟨m, hn, hp⟩ := S.loc; ⟨m, hn, fun p hm => let ⟨v, h1, h2⟩ := hp p hm; ⟨v, h1, h2.mkd⟩⟩
  ocs := S.ocs
  len := S.len
  nd := S.nd
  muts := fun i a ds h1 h2 => let M := S.muts i a ds h1 h2; ⟨M.lst, M.ne, M.new, M.free⟩
theorem St.unmkd {fr : Frm} {A : Around} {h : Heap} {g : Fz} {am : List Addr} (S : St (Mine.mkd fr A) Γ Δ h g am) : St fr Γ Δ h g am where
  keep := S.keep
  sub := S.sub
  gsub := S.gsub
  own := S.own
  gL := S.gL
  hL := S.hL
  loc := let ⟨m, hn, hp⟩ := S.loc; ⟨m, hn, fun p hm => let ⟨v, h1, h2⟩ := hp p hm; ⟨v, h1, h2.unmkd⟩⟩
  ocs := S.ocs
  len := S.len
  nd := S.nd
  muts := fun i a ds h1 h2 => let M := S.muts i a ds h1 h2; ⟨M.lst, M.ne, M.new, M.free⟩
theorem SS.mkd {fr : Frm} {A : Around} {LL : Addr} {dL : Data} {h : Heap} {g : Fz} {am : List Addr} (Z : SS fr LL dL Γ Δ h g am) : SS (Mine.mkd fr A) LL dL Γ Δ h g am := ⟨Z.S.mkd, Z.L, Z.hg, Z.ham⟩
theorem SS.unmkd {fr : Frm} {A : Around} {LL : Addr} {dL : Data} {h : Heap} {g : Fz} {am : List Addr} (Z : SS (Mine.mkd fr A) LL dL Γ Δ h g am) : SS fr LL dL Γ Δ h g am := ⟨Z.S.unmkd, Z.L, Z.hg, Z.ham⟩
theorem Two.mkd {fr : Frm} {LL : Addr} {v : Value} (F : Two fr LL) : Two (Mine.mkd fr (fr.A.mark (some v))) LL := ⟨F.st, F.f1, F.k1, F.ne, F.oc, F.h0⟩
theorem Flies.unmkd {fr : Frm} {A : Around} {h : Heap} {g : Fz} {e : Addr} {c2 fl : Value} (X : Flies (Mine.mkd fr A) h g e c2 fl) : Flies fr h g e c2 fl := ⟨X.ob, X.ge, X.he⟩
def noh (c : Cfg) : Cfg := { c with hd := false, fl := false }
theorem Okf.mkd {fr : Frm} {v : Value} (O : Okf c fr) : Okf (noh c) (Mine.mkd fr (fr.A.mark (some v))) :=
  ⟨(fun h => nomatch h), (fun h => nomatch h), O.depth, O.units, O.sc, O.kind, O.glob, O.blt, O.glo, O.hck, O.ocn, O.cls, O.ocu⟩
theorem Flies.recs {fr : Frm} {h h' : Heap} {g g' : Fz} {e : Addr} {c2 fl : Value} (X : Flies fr h g e c2 fl) (k : Recs h g h' g') : Flies fr h' g' e c2 fl := by
  obtain ⟨oe, vs, T, oT, ts, he, hcl, hd, h1, h2, hTe, hT, hdT, h3, hgT, hhT⟩ := X.ob
  exact ⟨⟨oe, vs, T, oT, ts, (k _ _ _ he hd).1, hcl, hd, h1, h2, hTe, (k _ _ _ hT hdT).1, hdT, h3, (k _ _ _ hT hdT).2 hgT, hhT⟩, (k _ _ _ he hd).2 X.ge, X.he⟩
theorem Recs.gr {h h' : Heap} {g g' : Fz} (k : Gr h g h' g') : Recs h g h' g' := fun b o vs ho _ => ⟨k.hk _ _ ho, fun hg => k.none hg ho⟩

/-! sorted_list_difference's names -/
def sG (A1 A2 : List D) (i j : Nat) : Gam := [("i", .d (.int i)), ("j", .d (.int j)), ("expected", .d (.list A1)), ("actual", .d (.list A2)), ("missing", .mu 0), ("unexpected", .mu 1)]
def sE (A1 A2 : List D) (i j : Nat) (e a : D) : Gam := ("e", .d e) :: ("a", .d a) :: sG A1 A2 i j

/-- the inner try: while expected[i] == e .. finally j += 1, while actual[j] == a -/
theorem x_finally {fr : Frm} {LL : Addr} {dL : Data} {s : Shared} {g : Fz} {am : List Addr} {A1 A2 : List D} {i j : Nat} {e a : D} {Q : Flow → Shared → Prop} {E : Value → Shared → Prop} {p1 p2 p3 p4 p5 p6 p7 p8 p9 q1 q2 q3 q4 q5 q6 q7 : Pos} {k1 : Nat} {b1 b2 : List Stmt} (O : Okf c fr) (F : Two fr LL) (hh : c.hd = true)
    (Z : SS fr LL dL (sE A1 A2 i j e a) Δ s.heap g am) (hi : i < 50000) (hj : j < 50000) (hsj : c.sc.names.lookup (Str.ofString "j") = some .local)
    (h1 : ∀ d, A1[i]? = some d → ∀ c, CmpF c .Eq d e false) (h2 : ∀ d, A2[j + 1]? = some d → ∀ c, CmpF c .Eq d a false)
    (hnext : i < A1.length → j + 1 < A2.length → ∀ h' g' am' tk, SS fr LL dL (sE A1 A2 i (j + 1) e a) Δ h' g' am' → Q .next { s with heap := h', toks := tk })
    (hraise : A1.length ≤ i ∨ A2.length ≤ j + 1 → ∀ h' g' am' tk x c2, SS fr LL dL (sE A1 A2 i (j + 1) e a) Δ h' g' am' → Flies fr h' g' x c2 (rawInt fr.env.locals) → E (.ref x) { s with heap := h', toks := tk }) :
    wpAny (model c.X.prog c.X.w) fr.A (exec (.Try [.While (.Compare (.Subscript (.Name "expected" p1) (.Name "i" p2) p3) [.Eq] [.Name "e" p4] p5) b1 [] p6] [] []
      [.AugAssign (.Name "j" q1) .Add (.Constant (.int 1) k1 q2) q3, .While (.Compare (.Subscript (.Name "actual" q4) (.Name "j" q5) q6) [.Eq] [.Name "a" q7] p7) b2 [] p8] p9) fr.env) Q E s := by
  have hA : fr.A.handled = none := O.hand hh
  -- the final block, plain
  have plain : i < A1.length → ∀ (s₁ : Shared) g₁, SS fr LL dL (sE A1 A2 i j e a) Δ s₁.heap g₁ am → (∃ h' tk, s₁ = { s with heap := h', toks := tk }) →
      wpAny (model c.X.prog c.X.w) fr.A (execs [.AugAssign (.Name "j" q1) .Add (.Constant (.int 1) k1 q2) q3, .While (.Compare (.Subscript (.Name "actual" q4) (.Name "j" q5) q6) [.Eq] [.Name "a" q7] p7) b2 [] p8] fr.env)
        (fun g s' => match g with | .next => Q .next s' | g => Q g s') (notedBy (model c.X.prog c.X.w) fr.A fr.env (cameBackBy (model c.X.prog c.X.w) fr.A fr.env E)) s₁ := by
    rintro hl s₁ g₁ Z₁ ⟨h₁, t₁, rfl⟩
    refine wpAny_execs_cons (SS.ex1 (P := fun o Γ' Δ' => o = .next ∧ Γ' = upd (sE A1 A2 i j e a) "j" (.d (.int ((j : Int) + 1))) ∧ Δ' = Δ) O F Z₁ (ex_aug (lk rfl) ev_int.ev (.inl hsj) ⟨rfl, rfl, rfl⟩) fun o f Γ' Δ' h' g' am' tk hp hf Z₂ k₂ => ?_)
    obtain ⟨rfl, rfl, rfl⟩ := hp
    cases hf
    have Z₃ : SS fr LL dL (sE A1 A2 i (j + 1) e a) Δ' h' g' am' := Z₂.weak (sub_cons rfl (sub_cons rfl (sub_cons rfl (sub_cons rfl (sub_cons rfl (sub_cons rfl (sub_cons rfl (sub_cons rfl sub_nil))))))))
    refine wpAny_execs_cons (x_while (s := { s with heap := h', toks := tk }) O F Z₃ (.inl hA) rfl rfl rfl (by omega) (fun d hd => h2 d hd c) (fun hl2 h3 g3 t3 _ Z4 => ?_) (fun hl2 h3 t3 x c2 Z4 X4 _ => ?_))
    · exact wpAny_execs_nil (hnext hl hl2 h3 g3 am' t3 Z4)
    · exact note_again F X4 (came_back F Z4 X4 fun h5 Z5 X5 => hraise (.inr hl2) h5 g' am' t3 x c2 Z5 X5)
  refine wpAny_Try_finally (wpAny_execs_cons (x_while O F Z (.inl hA) rfl rfl rfl (by omega) (fun d hd => h1 d hd c) (fun hl h3 g3 t3 _ Z3 => ?_) (fun hl h3 t3 x c2 Z3 X3 hc2 => ?_)))
  · exact wpAny_execs_nil (wpAny_execs_nil (plain hl _ g3 Z3 ⟨h3, t3, rfl⟩))
  · obtain rfl := hc2 hA
    refine note_again F X3 ⟨ref_ne_byPass _, note_again F X3 (set_flight F Z3.S Z3.L X3 fun h4 S4 L4 X4 => ?_)⟩
    -- the final block, x in flight
    have Z4 : SS (mkd fr (fr.A.mark (some (.ref x)))) LL dL (sE A1 A2 i j e a) Δ h4 g am := (SS.mk S4 L4 Z3.hg Z3.ham).mkd
    have O4 := O.mkd (v := .ref x)
    have F4 := F.mkd (v := .ref x)
    refine wpAny_execs_cons (SS.ex1 (s := { s with heap := h4, toks := t3 }) (P := fun o Γ' Δ' => o = .next ∧ Γ' = upd (sE A1 A2 i j e a) "j" (.d (.int ((j : Int) + 1))) ∧ Δ' = Δ) O4 F4 Z4 (ex_aug (lk rfl) ev_int.ev (.inl hsj) ⟨rfl, rfl, rfl⟩) fun o f Γ' Δ' h' g' am' tk hp hf Z₂ k₂ => ?_)
    obtain ⟨rfl, rfl, rfl⟩ := hp
    cases hf
    have Z₃ : SS (mkd fr (fr.A.mark (some (.ref x)))) LL dL (sE A1 A2 i (j + 1) e a) Δ' h' g' am' := Z₂.weak (sub_cons rfl (sub_cons rfl (sub_cons rfl (sub_cons rfl (sub_cons rfl (sub_cons rfl (sub_cons rfl (sub_cons rfl sub_nil))))))))
    have X₃ : Flies fr h' g' x .none _ := X4.recs k₂
    obtain ⟨oe, vs, T, oT, ts, he, hcl, hd, q1, q2, _⟩ := id X₃.ob
    refine wpAny_execs_cons (x_while (c := noh c) (s := { s with heap := h', toks := tk }) O4 F4 Z₃ (.inr ⟨x, oe, vs, rfl, he, hd, q2⟩) rfl rfl rfl (by omega) (fun d hd => h2 d hd _) (fun hl2 h5 g5 t5 k5 Z5 => ?_) (fun hl2 h5 t5 y c5 Z5 X5 _ => ?_))
    · refine wpAny_execs_nil ?_
      have X5 := (X₃.recs (Recs.gr k5)).unmkd
      obtain ⟨oe, vs, T, oT, ts, he, hcl, hd, q1, q2, _⟩ := id X5.ob
      show wpAny _ fr.A (PySem.passOn "try.finally" (.ref x) fr.env) Q E _
      unfold PySem.passOn
      refine wpAny_bind (wpAny_field he hd q1 ?_)
      rw [if_neg (show ¬ ((Value.ref T == Value.none) = true) from by simp)]
      rw [F.f1]
      refine wpAny_bind (set_flight F Z5.unmkd.S Z5.L X5 fun h6 S6 L6 X6 => wpAny_throw ?_)
      exact hraise (.inl hl) h6 g5 am' t5 x .none ⟨S6, L6, Z5.hg, Z5.ham⟩ X6
    · exact note_again F4 X5 (came_back F Z5.unmkd X5.unmkd fun h6 Z6 X6 => hraise (.inr hl2) h6 g' am' t5 y c5 Z6 X6)
end Mine

set_option maxRecDepth 100000
set_option autoImplicit false
set_option linter.unusedVariables false
set_option maxHeartbeats 1000000
namespace Mine
open PySem PySem.W PySem.Calls PyProof.Rows
section
variable {c : Cfg} {Γ : Gam} {Δ : Del} {P : Post}
/-- x.extend(e) -/
theorem ex_extend {x : Str} {p ap pos pos' : Pos} {i : Nat} {ds ds2 : List D} {e : Expr} (hm : (x, V.mu i) ∈ Γ) (hi : Δ[i]? = some ds) (he : EvF c Γ Δ e (.list ds2)) (h : P .next Γ (Δ.set i (ds ++ ds2))) (hz : ds.length + ds2.length ≤ 100000)
    (hl : (ap.endLine == pos.line) = true := by rfl) (hd : (x == ("__debug__" : Str)) = false := by decide) (hc : (x == ("__classdict__" : Str)) = false := by decide)
    (hb : ∀ env, attributeBase (.Name x p) "extend" env (eval (.Name x p) env) = eval (.Name x p) env := by intro _; rfl)
    (ht : ∀ env, backTo pos (starEach [e] env) = [(false, eval e env)] := by intro _; rfl) : Ex1 c Γ Δ (.Expr (.Call (.Attribute (.Name x p) "extend" ap) [e] [] pos) pos') P := fun fr s g am O S Q hQ => by
  refine w_list_meth O S hm F.slot_list_extend F.type_list_extend hl hd hc (hb _) (by rw [ht]; rfl) fun a ha => ?_
  rw [ht]
  refine PySem.P.extend_list (he fr s g am O S _ fun v h1 g1 t1 k1 r1 => ?_)
  have S1 := S.gr k1
  obtain ⟨⟨vs, n, ho, hr⟩, _⟩ := S1.muts i a ds ha hi
  have e1 := hr.length
  obtain ⟨b, us, m, rfl, hb', hr'⟩ := (RepS.fz r1 : RepS h1 g1 _ _).list k1.sub
  have e2 := hr'.length
  refine ⟨b, vs.toArray, us.toArray, n, m, by rw [List.size_toArray, sizeLine_lit]; omega, by rw [List.size_toArray, List.size_toArray, sizeLine_lit]; omega, ?_, rfl, ho, hb', ?_⟩
  · simp only [List.size_toArray, Builtin.List.listTooLong, Bool.and_eq_true, decide_eq_true_eq, sizeLine_lit]
    omega
  · obtain ⟨n', ho', hs'⟩ := upd_list (ws := vs ++ us) ho (fun xs => xs ++ us.toArray) (by simp)
    exact hQ .next .next Γ _ _ g1 am t1 h .next (S1.setMut ha hs' ho' (hr.append hr'))
end

variable {c : Cfg}
structure Ord {α : Type} (enc : α → D) (lt : α → α → Bool) : Prop where
  clt : ∀ c a b, CmpF c .Lt (enc a) (enc b) (lt a b)
  cgt : ∀ c a b, CmpF c .Gt (enc a) (enc b) (lt b a)
  ceq : ∀ c a b, a ≠ b → CmpF c .Eq (enc a) (enc b) false
  irr : ∀ a, lt a a = false
  tr : ∀ a b c, lt a b = true → lt b c = true → lt a c = true
  tot : ∀ a b, lt a b = false → lt b a = false → a = b

section
variable {α : Type} [DecidableEq α] {enc : α → D} {lt : α → α → Bool}
def dif (x y : List α) : List α := x.filter fun a => !y.contains a
theorem dif_nil (x : List α) : dif x [] = x := by simp [dif]
theorem nil_dif (x : List α) : dif ([] : List α) x = [] := rfl
theorem not_mem_lt (R : Ord enc lt) {a b : α} {y : List α} (h : lt a b = true) (hs : (b :: y).Pairwise fun p q => lt p q = true) : a ∉ b :: y := fun hm => by
  rcases List.mem_cons.mp hm with rfl | hm
  · rw [R.irr] at h; cases h
  · have := R.tr a b a h ((List.pairwise_cons.mp hs).1 a hm)
    rw [R.irr] at this; cases this
theorem dif_lt (R : Ord enc lt) {a b : α} {x y : List α} (h : lt a b = true) (hs : (b :: y).Pairwise fun p q => lt p q = true) : dif (a :: x) (b :: y) = a :: dif x (b :: y) ∧ dif (b :: y) (a :: x) = dif (b :: y) x := by
  have hn := not_mem_lt R h hs
  refine ⟨by unfold dif; rw [List.filter_cons]; rw [if_pos (by simpa using hn)], ?_⟩
  unfold dif
  apply List.filter_congr
  intro q hq
  have : q ≠ a := fun e => hn (e ▸ hq)
  simp [this]
theorem dif_eq (R : Ord enc lt) {a : α} {x y : List α} (hx : (a :: x).Pairwise fun p q => lt p q = true) (hy : (a :: y).Pairwise fun p q => lt p q = true) : dif (a :: x) (a :: y) = dif x y := by
  unfold dif
  rw [List.filter_cons, if_neg (by simp)]
  apply List.filter_congr
  intro q hq
  have : q ≠ a := fun e => by have := (List.pairwise_cons.mp hx).1 q hq; rw [e, R.irr] at this; cases this
  simp [this]

/-- the state -/
structure Go (l1 l2 M U p1 r1 p2 r2 mi un : List α) : Prop where
  e1 : l1 = p1 ++ r1
  e2 : l2 = p2 ++ r2
  m : mi ++ dif r1 r2 = M
  u : un ++ dif r2 r1 = U
theorem go_get {l p r : List α} {a : α} (h : l = p ++ a :: r) : (l.map enc)[p.length]? = some (enc a) := by subst h; simp
theorem go_len {l p r : List α} (h : l = p ++ r) : (l.map enc).length = p.length + r.length := by subst h; simp
theorem go_out {l p r : List α} {d : D} (h : l = p ++ r) (hd : (l.map enc)[p.length]? = some d) : ∃ a r', r = a :: r' ∧ d = enc a := by
  cases r with
  | nil => subst h; simp at hd
  | cons a r' => rw [go_get h] at hd; injection hd with hd; exact ⟨a, r', rfl, hd.symm⟩

/-- an IndexError leaves the body -/
def RZ (fr : Frm) (LL : Addr) (dL : Data) (enc : α → D) (l1 l2 M U : List α) (s : Shared) (v : Value) (s' : Shared) : Prop :=
  ∃ x c2 p1 r1 p2 r2 mi un g am h h' tk, v = .ref x ∧ s' = { s with heap := h', toks := tk } ∧ (r1 = [] ∨ r2 = []) ∧ Go l1 l2 M U p1 r1 p2 r2 mi un ∧
    SS fr LL dL (sG (l1.map enc) (l2.map enc) p1.length p2.length) [mi.map enc, un.map enc] h g am ∧ ((h = h' ∧ Flies fr h g x c2 (rawInt fr.env.locals)) ∨ RaisedAt h h' x c2)

theorem SS.store {fr : Frm} {LL : Addr} {dL : Data} {Γ : Gam} {Δ : Del} {s : Shared} {g : Fz} {am : List Addr} {x : Str} {e : V} {v : Value} {Q : Unit → Shared → Prop} {E : Value → Shared → Prop} (O : Okf c fr) (F : Two fr LL) (Z : SS fr LL dL Γ Δ s.heap g am) (hx : Sto c x) (hv : EV g am e v)
    (hQ : ∀ h' tk, SS fr LL dL (upd Γ x e) Δ h' g am → Q () { s with heap := h', toks := tk }) : wpAny (model c.X.prog c.X.w) fr.A (storeName fr.env x v) Q E s :=
  wpAny_mono (E := fun _ _ => False) (w_store O Z.S hx hv fun h2 t2 S2 k2 => by
    obtain ⟨⟨o, ho, hd⟩, hnf⟩ := Z.L
    exact hQ h2 t2 ⟨S2, ⟨⟨o, k2 LL o (Ne.symm F.ne) (by rw [F.oc]; simp) ho, hd⟩, hnf⟩, Z.hg, Z.ham⟩) (fun _ _ q => q) fun _ _ q => q.elim
theorem x_body {fr : Frm} {LL : Addr} {dL : Data} {s : Shared} {g : Fz} {am : List Addr} {l1 l2 M U p1 r1 p2 r2 mi un : List α} (R : Ord enc lt) (O : Okf c fr) (F : Two fr LL) (hh : c.hd = true)
    {q1 q2 q3 q4 q5 q6 q7 q8 q9 q10 : Pos} {tail : List Stmt} {Q : Flow → Shared → Prop} (Z : SS fr LL dL (sG (l1.map enc) (l2.map enc) p1.length p2.length) [mi.map enc, un.map enc] s.heap g am) (G : Go l1 l2 M U p1 r1 p2 r2 mi un)
    (hz1 : l1.length ≤ 1000) (hz2 : l2.length ≤ 1000) (hse : c.sc.names.lookup (Str.ofString "e") = some .local) (hsa : c.sc.names.lookup (Str.ofString "a") = some .local)
    (htail : ∀ a b r1' r2' h' g' tk, r1 = a :: r1' → r2 = b :: r2' → SS fr LL dL (sE (l1.map enc) (l2.map enc) p1.length p2.length (enc a) (enc b)) [mi.map enc, un.map enc] h' g' am →
      wpAny (model c.X.prog c.X.w) fr.A (execs tail fr.env) Q (RZ fr LL dL enc l1 l2 M U s) { s with heap := h', toks := tk }) :
    wpAny (model c.X.prog c.X.w) fr.A (execs (.Assign [.Name "e" q1] (.Subscript (.Name "expected" q2) (.Name "i" q3) q4) q5 :: .Assign [.Name "a" q6] (.Subscript (.Name "actual" q7) (.Name "j" q8) q9) q10 :: tail) fr.env) Q (RZ fr LL dL enc l1 l2 M U s) s := by
  have hA : fr.A.handled = none := O.hand hh
  have b1 : p1.length ≤ 1000 := by have := congrArg List.length G.e1; rw [List.length_append] at this; omega
  have b2 : p2.length ≤ 1000 := by have := congrArg List.length G.e2; rw [List.length_append] at this; omega
  refine wpAny_execs_cons (wpAny_Assign_Name (x_item O Z (.inl hA) rfl rfl (by omega) (fun d v h1 g1 t1 hd k1 r1 => ?_) fun hl h' tk x c2 xr _ => ?_) rfl)
  · obtain ⟨a, r1', rfl, rfl⟩ := go_out G.e1 hd
    refine SS.store (s := { s with heap := h1, toks := t1 }) O F (Z.gr k1) (.inl hse) (.d _ v r1) fun h2 t2 Z2 => ?_
    refine wpAny_execs_cons (wpAny_Assign_Name (x_item (s := { s with heap := h2, toks := t2 }) O Z2 (.inl hA) rfl rfl (by omega) (fun d v h3 g3 t3 hd k3 r3 => ?_) fun hl h' tk x c2 xr _ => ?_) rfl)
    · obtain ⟨b, r2', rfl, rfl⟩ := go_out G.e2 hd
      refine SS.store (s := { s with heap := h3, toks := t3 }) O F (Z2.gr k3) (.inl hsa) (.d _ v r3) fun h4 t4 Z4 => ?_
      exact htail a b r1' r2' h4 g3 t4 rfl rfl (Z4.weak (sub_cons rfl (sub_cons rfl (sub_cons rfl (sub_cons rfl (sub_cons rfl (sub_cons rfl (sub_cons rfl (sub_cons rfl sub_nil)))))))))
    · rw [go_len G.e2] at hl
      have h0 : r2 = [] := List.length_eq_zero_iff.mp (by omega)
      exact ⟨x, c2, p1, _, p2, r2, mi, un, g1, am, h2, h', tk, rfl, rfl, .inr h0, G, Z2.weak (sub_cons rfl (sub_cons rfl (sub_cons rfl (sub_cons rfl (sub_cons rfl (sub_cons rfl sub_nil)))))), .inr xr⟩
  · rw [go_len G.e1] at hl
    have h0 : r1 = [] := List.length_eq_zero_iff.mp (by omega)
    exact ⟨x, c2, p1, r1, p2, r2, mi, un, g, am, s.heap, h', tk, rfl, rfl, .inl h0, G, Z, .inr xr⟩
end
end Mine

set_option maxRecDepth 100000
set_option autoImplicit false
set_option linter.unusedVariables false
set_option linter.unusedSectionVars false
set_option maxHeartbeats 1000000
namespace Mine
open PySem PySem.W PySem.Calls PyProof.Rows
variable {c : Cfg}
section
variable {α : Type} [DecidableEq α] {enc : α → D} {lt : α → α → Bool}
theorem SS.test {fr : Frm} {LL : Addr} {dL : Data} {Γ : Gam} {Δ : Del} {s : Shared} {g : Fz} {am : List Addr} {t : Expr} {x : Bool} {Q : Bool → Shared → Prop} {E : Value → Shared → Prop} (O : Okf c fr) (Z : SS fr LL dL Γ Δ s.heap g am) (h : EvT c Γ Δ t x)
    (hQ : ∀ h' g' tk, SS fr LL dL Γ Δ h' g' am → Q x { s with heap := h', toks := tk }) : wpAny (model c.X.prog c.X.w) fr.A (isTrue t fr.env (eval t fr.env)) Q E s :=
  wpAny_mono (E := fun _ _ => False) (h fr s g am O Z.S Q fun h' g' tk k => hQ h' g' tk (Z.gr k)) (fun _ _ q => q) fun _ _ q => q.elim
theorem pw_suf (l p r : List α) (h : l = p ++ r) (hs : l.Pairwise fun a b => lt a b = true) : r.Pairwise fun a b => lt a b = true := by subst h; exact (List.pairwise_append.mp hs).2.1
theorem pw_ne (R : Ord enc lt) {a a' : α} {r : List α} (h : (a :: a' :: r).Pairwise fun a b => lt a b = true) : a' ≠ a := fun e => by
  have := (List.pairwise_cons.mp h).1 a' (by simp)
  rw [e, R.irr] at this; cases this
theorem go_out1 {l p r : List α} {a : α} {d : D} (h : l = p ++ a :: r) (hd : (l.map enc)[p.length + 1]? = some d) : ∃ a' r', r = a' :: r' ∧ d = enc a' := by
  have h' : l = (p ++ [a]) ++ r := by rw [h]; simp
  have e : (p ++ [a]).length = p.length + 1 := by simp
  exact go_out h' (by rw [e]; exact hd)

/-- Python's body behind the two reads -/
theorem x_less {fr : Frm} {LL : Addr} {dL : Data} {s s0 : Shared} {g : Fz} {am : List Addr} {l1 l2 M U p1 r1 p2 r2 mi un : List α} {a b : α} (R : Ord enc lt) (O : Okf c fr) (F : Two fr LL) (hh : c.hd = true)
    {q1 q2 q3 q4 q5 q6 q7 q8 q9 q10 q11 q12 q13 q14 : Pos} {k1 : Nat} {b1 : List Stmt} {Q : Flow → Shared → Prop} (Z : SS fr LL dL (sE (l1.map enc) (l2.map enc) p1.length p2.length (enc a) (enc b)) [mi.map enc, un.map enc] s.heap g am) (hs : ∃ h tk, s = { s0 with heap := h, toks := tk }) (G : Go l1 l2 M U p1 (a :: r1) p2 (b :: r2) mi un)
    (hab : lt a b = true) (hz1 : l1.length ≤ 1000) (hz2 : l2.length ≤ 1000) (hM : M.length ≤ 1000) (hw1 : l1.Pairwise fun a b => lt a b = true) (hw2 : l2.Pairwise fun a b => lt a b = true) (hsi : c.sc.names.lookup (Str.ofString "i") = some .local)
    (hap : (q1.endLine == q3.line) = true)
    (hQ : ∀ p1' r1' mi' h' g' am' tk, r1'.length < (a :: r1).length → Go l1 l2 M U p1' r1' p2 (b :: r2) mi' un → SS fr LL dL (sG (l1.map enc) (l2.map enc) p1'.length p2.length) [mi'.map enc, un.map enc] h' g' am' → Q .next { s with heap := h', toks := tk }) :
    wpAny (model c.X.prog c.X.w) fr.A (execs [.Expr (.Call (.Attribute (.Name "missing" q2) "append" q1) [.Name "e" q4] [] q3) q5, .AugAssign (.Name "i" q6) .Add (.Constant (.int 1) k1 q7) q8,
      .While (.Compare (.Subscript (.Name "expected" q9) (.Name "i" q10) q11) [.Eq] [.Name "e" q12] q13) b1 [] q14] fr.env) Q (RZ fr LL dL enc l1 l2 M U s0) s := by
  obtain ⟨h0, t0, rfl⟩ := hs
  have hA : fr.A.handled = none := O.hand hh
  have b1 : p1.length ≤ 1000 := by have := congrArg List.length G.e1; rw [List.length_append] at this; omega
  have hml : mi.length ≤ 1000 := by have := congrArg List.length G.m; rw [List.length_append] at this; omega
  refine wpAny_execs_cons (SS.ex1 (P := fun o Γ' Δ' => o = .next ∧ Γ' = sE (l1.map enc) (l2.map enc) p1.length p2.length (enc a) (enc b) ∧ Δ' = [mi.map enc ++ [enc a], un.map enc]) O F Z (ex_append (i := 0) (ds := mi.map enc) (lk rfl) rfl (ev_nm rfl) ⟨rfl, rfl, rfl⟩ (by rw [sizeLine_lit, List.length_map]; omega) hap) fun o f Γ' Δ' h' g' am' tk hp hf Z1 _ => ?_)
  obtain ⟨rfl, rfl, rfl⟩ := hp
  cases hf
  refine wpAny_execs_cons (SS.ex1 (s := { s0 with heap := h', toks := tk }) (P := fun o Γ' Δ' => o = .next ∧ Γ' = upd (sE (l1.map enc) (l2.map enc) p1.length p2.length (enc a) (enc b)) "i" (.d (.int ((p1.length : Int) + 1))) ∧ Δ' = [mi.map enc ++ [enc a], un.map enc]) O F Z1 (ex_aug (lk rfl) ev_int.ev (.inl hsi) ⟨rfl, rfl, rfl⟩) fun o f Γ' Δ' h2 g2 am2 t2 hp hf Z2 _ => ?_)
  obtain ⟨rfl, rfl, rfl⟩ := hp
  cases hf
  have hmi : [mi.map enc ++ [enc a], un.map enc] = [(mi ++ [a]).map enc, un.map enc] := by simp
  rw [hmi] at Z2
  have Z3 : SS fr LL dL (sE (l1.map enc) (l2.map enc) (p1.length + 1) p2.length (enc a) (enc b)) [(mi ++ [a]).map enc, un.map enc] h2 g2 am2 := Z2.weak (sub_cons rfl (sub_cons rfl (sub_cons rfl (sub_cons rfl (sub_cons rfl (sub_cons rfl (sub_cons rfl (sub_cons rfl sub_nil))))))))
  have hpl : (p1 ++ [a]).length = p1.length + 1 := by simp
  have hd := dif_lt (x := r1) R hab (pw_suf _ _ _ G.e2 hw2)
  have G' : Go l1 l2 M U (p1 ++ [a]) r1 p2 (b :: r2) (mi ++ [a]) un := ⟨by rw [G.e1]; simp, G.e2, by rw [← G.m, hd.1]; simp, by rw [← G.u, hd.2]⟩
  have toG : ∀ {h g am}, SS fr LL dL (sE (l1.map enc) (l2.map enc) (p1.length + 1) p2.length (enc a) (enc b)) [(mi ++ [a]).map enc, un.map enc] h g am → SS fr LL dL (sG (l1.map enc) (l2.map enc) (p1 ++ [a]).length p2.length) [(mi ++ [a]).map enc, un.map enc] h g am := fun Z => by
    rw [hpl]; exact Z.weak (sub_cons rfl (sub_cons rfl (sub_cons rfl (sub_cons rfl (sub_cons rfl (sub_cons rfl sub_nil))))))
  refine wpAny_execs_cons (x_while (s := { s0 with heap := h2, toks := t2 }) O F Z3 (.inl hA) rfl rfl rfl (by omega) (fun d hd => ?_) (fun hl h3 g3 t3 _ Z4 => ?_) (fun hl h3 t3 x c2 Z4 X4 _ => ?_))
  · obtain ⟨a', r', rfl, rfl⟩ := go_out1 G.e1 hd
    exact R.ceq c a' a (pw_ne R (pw_suf _ _ _ G.e1 hw1))
  · exact wpAny_execs_nil (hQ _ r1 _ h3 g3 am2 t3 (by simp) G' (toG Z4))
  · have hr : r1 = [] := by
      have := go_len (enc := enc) G.e1
      rw [this] at hl
      simp only [List.length_cons] at hl
      exact List.length_eq_zero_iff.mp (by omega)
    exact ⟨x, c2, _, r1, p2, _, _, un, g2, am2, h3, h3, t3, rfl, rfl, .inl hr, G', toG Z4, .inl ⟨rfl, X4⟩⟩
theorem x_more {fr : Frm} {LL : Addr} {dL : Data} {s s0 : Shared} {g : Fz} {am : List Addr} {l1 l2 M U p1 r1 p2 r2 mi un : List α} {a b : α} (R : Ord enc lt) (O : Okf c fr) (F : Two fr LL) (hh : c.hd = true)
    {q1 q2 q3 q4 q5 q6 q7 q8 q9 q10 q11 q12 q13 q14 : Pos} {k1 : Nat} {b1 : List Stmt} {Q : Flow → Shared → Prop} (Z : SS fr LL dL (sE (l1.map enc) (l2.map enc) p1.length p2.length (enc a) (enc b)) [mi.map enc, un.map enc] s.heap g am) (hs : ∃ h tk, s = { s0 with heap := h, toks := tk }) (G : Go l1 l2 M U p1 (a :: r1) p2 (b :: r2) mi un)
    (hab : lt b a = true) (hz1 : l1.length ≤ 1000) (hz2 : l2.length ≤ 1000) (hU : U.length ≤ 1000) (hw1 : l1.Pairwise fun a b => lt a b = true) (hw2 : l2.Pairwise fun a b => lt a b = true) (hsi : c.sc.names.lookup (Str.ofString "j") = some .local)
    (hap : (q1.endLine == q3.line) = true)
    (hQ : ∀ p2' r2' un' h' g' am' tk, r2'.length < (b :: r2).length → Go l1 l2 M U p1 (a :: r1) p2' r2' mi un' → SS fr LL dL (sG (l1.map enc) (l2.map enc) p1.length p2'.length) [mi.map enc, un'.map enc] h' g' am' → Q .next { s with heap := h', toks := tk }) :
    wpAny (model c.X.prog c.X.w) fr.A (execs [.Expr (.Call (.Attribute (.Name "unexpected" q2) "append" q1) [.Name "a" q4] [] q3) q5, .AugAssign (.Name "j" q6) .Add (.Constant (.int 1) k1 q7) q8,
      .While (.Compare (.Subscript (.Name "actual" q9) (.Name "j" q10) q11) [.Eq] [.Name "a" q12] q13) b1 [] q14] fr.env) Q (RZ fr LL dL enc l1 l2 M U s0) s := by
  obtain ⟨h0, t0, rfl⟩ := hs
  have hA : fr.A.handled = none := O.hand hh
  have b2 : p2.length ≤ 1000 := by have := congrArg List.length G.e2; rw [List.length_append] at this; omega
  have hml : un.length ≤ 1000 := by have := congrArg List.length G.u; rw [List.length_append] at this; omega
  refine wpAny_execs_cons (SS.ex1 (P := fun o Γ' Δ' => o = .next ∧ Γ' = sE (l1.map enc) (l2.map enc) p1.length p2.length (enc a) (enc b) ∧ Δ' = [mi.map enc, un.map enc ++ [enc b]]) O F Z (ex_append (i := 1) (ds := un.map enc) (lk rfl) rfl (ev_nm rfl) ⟨rfl, rfl, rfl⟩ (by rw [sizeLine_lit, List.length_map]; omega) hap) fun o f Γ' Δ' h' g' am' tk hp hf Z1 _ => ?_)
  obtain ⟨rfl, rfl, rfl⟩ := hp
  cases hf
  refine wpAny_execs_cons (SS.ex1 (s := { s0 with heap := h', toks := tk }) (P := fun o Γ' Δ' => o = .next ∧ Γ' = upd (sE (l1.map enc) (l2.map enc) p1.length p2.length (enc a) (enc b)) "j" (.d (.int ((p2.length : Int) + 1))) ∧ Δ' = [mi.map enc, un.map enc ++ [enc b]]) O F Z1 (ex_aug (lk rfl) ev_int.ev (.inl hsi) ⟨rfl, rfl, rfl⟩) fun o f Γ' Δ' h2 g2 am2 t2 hp hf Z2 _ => ?_)
  obtain ⟨rfl, rfl, rfl⟩ := hp
  cases hf
  have hmi : [mi.map enc, un.map enc ++ [enc b]] = [mi.map enc, (un ++ [b]).map enc] := by simp
  rw [hmi] at Z2
  have Z3 : SS fr LL dL (sE (l1.map enc) (l2.map enc) p1.length (p2.length + 1) (enc a) (enc b)) [mi.map enc, (un ++ [b]).map enc] h2 g2 am2 := Z2.weak (sub_cons rfl (sub_cons rfl (sub_cons rfl (sub_cons rfl (sub_cons rfl (sub_cons rfl (sub_cons rfl (sub_cons rfl sub_nil))))))))
  have hpl : (p2 ++ [b]).length = p2.length + 1 := by simp
  have hd := dif_lt (x := r2) R hab (pw_suf _ _ _ G.e1 hw1)
  have G' : Go l1 l2 M U p1 (a :: r1) (p2 ++ [b]) r2 mi (un ++ [b]) := ⟨G.e1, by rw [G.e2]; simp, by rw [← G.m, hd.2], by rw [← G.u, hd.1]; simp⟩
  have toG : ∀ {h g am}, SS fr LL dL (sE (l1.map enc) (l2.map enc) p1.length (p2.length + 1) (enc a) (enc b)) [mi.map enc, (un ++ [b]).map enc] h g am → SS fr LL dL (sG (l1.map enc) (l2.map enc) p1.length (p2 ++ [b]).length) [mi.map enc, (un ++ [b]).map enc] h g am := fun Z => by
    rw [hpl]; exact Z.weak (sub_cons rfl (sub_cons rfl (sub_cons rfl (sub_cons rfl (sub_cons rfl (sub_cons rfl sub_nil))))))
  refine wpAny_execs_cons (x_while (s := { s0 with heap := h2, toks := t2 }) O F Z3 (.inl hA) rfl rfl rfl (by omega) (fun d hd => ?_) (fun hl h3 g3 t3 _ Z4 => ?_) (fun hl h3 t3 x c2 Z4 X4 _ => ?_))
  · obtain ⟨a', r', rfl, rfl⟩ := go_out1 G.e2 hd
    exact R.ceq c a' b (pw_ne R (pw_suf _ _ _ G.e2 hw2))
  · exact wpAny_execs_nil (hQ _ r2 _ h3 g3 am2 t3 (by simp) G' (toG Z4))
  · have hr : r2 = [] := by
      have := go_len (enc := enc) G.e2
      rw [this] at hl
      simp only [List.length_cons] at hl
      exact List.length_eq_zero_iff.mp (by omega)
    exact ⟨x, c2, p1, _, _, r2, _, _, g2, am2, h3, h3, t3, rfl, rfl, .inr hr, G', toG Z4, .inl ⟨rfl, X4⟩⟩

theorem x_same {fr : Frm} {LL : Addr} {dL : Data} {s s0 : Shared} {g : Fz} {am : List Addr} {l1 l2 M U p1 r1 p2 r2 mi un : List α} {a : α} (R : Ord enc lt) (O : Okf c fr) (F : Two fr LL) (hh : c.hd = true)
    {p3 p4 p5 p6 p7 p8 p9 p10 p11 q1 q2 q3 q4 q5 q6 q7 q8 q9 q10 : Pos} {k1 k2 : Nat} {b1 b2 : List Stmt} {Q : Flow → Shared → Prop} (Z : SS fr LL dL (sE (l1.map enc) (l2.map enc) p1.length p2.length (enc a) (enc a)) [mi.map enc, un.map enc] s.heap g am) (hs : ∃ h tk, s = { s0 with heap := h, toks := tk }) (G : Go l1 l2 M U p1 (a :: r1) p2 (a :: r2) mi un)
    (hz1 : l1.length ≤ 1000) (hz2 : l2.length ≤ 1000) (hw1 : l1.Pairwise fun a b => lt a b = true) (hw2 : l2.Pairwise fun a b => lt a b = true) (hsi : c.sc.names.lookup (Str.ofString "i") = some .local) (hsj : c.sc.names.lookup (Str.ofString "j") = some .local)
    (hQ : ∀ p1' r1' p2' r2' h' g' am' tk, r1'.length < (a :: r1).length → r2'.length < (a :: r2).length → Go l1 l2 M U p1' r1' p2' r2' mi un → SS fr LL dL (sG (l1.map enc) (l2.map enc) p1'.length p2'.length) [mi.map enc, un.map enc] h' g' am' → Q .next { s with heap := h', toks := tk }) :
    wpAny (model c.X.prog c.X.w) fr.A (execs [.AugAssign (.Name "i" q8) .Add (.Constant (.int 1) k2 q9) q10, .Try [.While (.Compare (.Subscript (.Name "expected" p3) (.Name "i" p4) p5) [.Eq] [.Name "e" p6] p7) b1 [] p8] [] []
      [.AugAssign (.Name "j" q1) .Add (.Constant (.int 1) k1 q2) q3, .While (.Compare (.Subscript (.Name "actual" q4) (.Name "j" q5) q6) [.Eq] [.Name "a" q7] p9) b2 [] p10] p11] fr.env) Q (RZ fr LL dL enc l1 l2 M U s0) s := by
  obtain ⟨h0, t0, rfl⟩ := hs
  have b1' : p1.length ≤ 1000 := by have := congrArg List.length G.e1; rw [List.length_append] at this; omega
  have b2' : p2.length ≤ 1000 := by have := congrArg List.length G.e2; rw [List.length_append] at this; omega
  refine wpAny_execs_cons (SS.ex1 (P := fun o Γ' Δ' => o = .next ∧ Γ' = upd (sE (l1.map enc) (l2.map enc) p1.length p2.length (enc a) (enc a)) "i" (.d (.int ((p1.length : Int) + 1))) ∧ Δ' = [mi.map enc, un.map enc]) O F Z (ex_aug (lk rfl) ev_int.ev (.inl hsi) ⟨rfl, rfl, rfl⟩) fun o f Γ' Δ' h2 g2 am2 t2 hp hf Z2 _ => ?_)
  obtain ⟨rfl, rfl, rfl⟩ := hp
  cases hf
  have Z3 : SS fr LL dL (sE (l1.map enc) (l2.map enc) (p1.length + 1) p2.length (enc a) (enc a)) [mi.map enc, un.map enc] h2 g2 am2 := Z2.weak (sub_cons rfl (sub_cons rfl (sub_cons rfl (sub_cons rfl (sub_cons rfl (sub_cons rfl (sub_cons rfl (sub_cons rfl sub_nil))))))))
  have hpl1 : (p1 ++ [a]).length = p1.length + 1 := by simp
  have hpl2 : (p2 ++ [a]).length = p2.length + 1 := by simp
  have G' : Go l1 l2 M U (p1 ++ [a]) r1 (p2 ++ [a]) r2 mi un := ⟨by rw [G.e1]; simp, by rw [G.e2]; simp, by rw [← G.m, dif_eq R (pw_suf _ _ _ G.e1 hw1) (pw_suf _ _ _ G.e2 hw2)], by rw [← G.u, dif_eq R (pw_suf _ _ _ G.e2 hw2) (pw_suf _ _ _ G.e1 hw1)]⟩
  have toG : ∀ {h g am}, SS fr LL dL (sE (l1.map enc) (l2.map enc) (p1.length + 1) (p2.length + 1) (enc a) (enc a)) [mi.map enc, un.map enc] h g am → SS fr LL dL (sG (l1.map enc) (l2.map enc) (p1 ++ [a]).length (p2 ++ [a]).length) [mi.map enc, un.map enc] h g am := fun Z => by
    rw [hpl1, hpl2]; exact Z.weak (sub_cons rfl (sub_cons rfl (sub_cons rfl (sub_cons rfl (sub_cons rfl (sub_cons rfl sub_nil))))))
  have l1e := go_len (enc := enc) G.e1
  have l2e := go_len (enc := enc) G.e2
  simp only [List.length_cons] at l1e l2e
  refine wpAny_execs_cons (x_finally (s := { s0 with heap := h2, toks := t2 }) O F hh Z3 (by omega) (by omega) hsj (fun d hd c => ?_) (fun d hd c => ?_) (fun hl1 hl2 h3 g3 am3 t3 Z4 => ?_) (fun hl h3 g3 am3 t3 x c2 Z4 X4 => ?_))
  · obtain ⟨a', r', rfl, rfl⟩ := go_out1 G.e1 hd
    exact R.ceq c a' a (pw_ne R (pw_suf _ _ _ G.e1 hw1))
  · obtain ⟨a', r', rfl, rfl⟩ := go_out1 G.e2 hd
    exact R.ceq c a' a (pw_ne R (pw_suf _ _ _ G.e2 hw2))
  · exact wpAny_execs_nil (hQ _ r1 _ r2 h3 g3 am3 t3 (by simp) (by simp) G' (toG Z4))
  · refine ⟨x, c2, _, r1, _, r2, mi, un, g3, am3, h3, h3, t3, rfl, rfl, ?_, G', toG Z4, .inl ⟨rfl, X4⟩⟩
    rcases hl with hl | hl
    · exact .inl (List.length_eq_zero_iff.mp (by omega))
    · exact .inr (List.length_eq_zero_iff.mp (by omega))
end
end Mine

set_option maxRecDepth 100000
set_option autoImplicit false
set_option linter.unusedVariables false
set_option linter.unusedSectionVars false
set_option maxHeartbeats 1000000
namespace Mine
open PySem PySem.W PySem.Calls PyProof.Rows
variable {c : Cfg}
section
variable {α : Type} [DecidableEq α] {enc : α → D} {lt : α → α → Bool}

theorem cut_rest {β : Type} {l p r : List β} (h : l = p ++ r) : cut l (some (p.length : Int)) none = r := by
  subst h
  unfold cut
  simp only [Option.elim_some, Option.elim_none, clipAt_nat, List.length_append]
  rw [Nat.min_eq_left (by omega)]
  simp
/-- the handler -/
theorem x_handle {fr : Frm} {LL : Addr} {dL : Data} {s s' : Shared} {l1 l2 M U : List α} {v : Value} (O : Okf c fr) (F : Two fr LL) (z : RZ fr LL dL enc l1 l2 M U s v s') (hz1 : l1.length ≤ 1000) (hz2 : l2.length ≤ 1000) (hM : M.length ≤ 1000) (hU : U.length ≤ 1000)
    (hk : c.sc.names.lookup (Str.ofString "IndexError") = some .globalImplicit) (hb : Str.ofString "IndexError" ∈ c.X.bl) {np pos q1 q2 q3 q4 q5 q6 q7 q8 q9 q10 q11 q12 q13 q14 q15 q16 q17 : Pos} {rest : List ExceptHandler} {Q : Flow → Shared → Prop} {E : Value → Shared → Prop}
    (ha1 : (q1.endLine == q3.line) = true) (ha2 : (q9.endLine == q11.line) = true)
    (hQ : ∀ h' g' am' tk, SS fr LL dL [("missing", .mu 0), ("unexpected", .mu 1)] [M.map enc, U.map enc] h' g' am' → Q .brk { s with heap := h', toks := tk }) :
    wpAny (model c.X.prog c.X.w) fr.A (noteFrame v fr.env) (fun _ s₂ => wpAny (model c.X.prog c.X.w) fr.A (setFlight v none) (fun _ s₃ => wpAny (model c.X.prog c.X.w) fr.A (handleBy v fr.env (.ExceptHandler (some (.Name "IndexError" np)) none
      [.Expr (.Call (.Attribute (.Name "missing" q2) "extend" q1) [.Subscript (.Name "expected" q4) (.Slice (some (.Name "i" q5)) none none q6) q7] [] q3) q8,
       .Expr (.Call (.Attribute (.Name "unexpected" q10) "extend" q9) [.Subscript (.Name "actual" q12) (.Slice (some (.Name "j" q13)) none none q14) q15] [] q11) q17, .Break q16] pos :: rest)) Q E s₃) E s₂) E s' := by
  obtain ⟨x, c2, p1, r1, p2, r2, mi, un, g, am, h, h', tk, rfl, rfl, hr, G, Z, hX⟩ := z
  -- noted
  suffices key : ∀ h₁, SS fr LL dL (sG (l1.map enc) (l2.map enc) p1.length p2.length) [mi.map enc, un.map enc] h₁ g am → Flies fr h₁ g x c2 (rawInt fr.env.locals) →
      wpAny (model c.X.prog c.X.w) fr.A (setFlight (.ref x) none) (fun _ s₃ => wpAny (model c.X.prog c.X.w) fr.A (handleBy (.ref x) fr.env (.ExceptHandler (some (.Name "IndexError" np)) none
      [.Expr (.Call (.Attribute (.Name "missing" q2) "extend" q1) [.Subscript (.Name "expected" q4) (.Slice (some (.Name "i" q5)) none none q6) q7] [] q3) q8,
       .Expr (.Call (.Attribute (.Name "unexpected" q10) "extend" q9) [.Subscript (.Name "actual" q12) (.Slice (some (.Name "j" q13)) none none q14) q15] [] q11) q17, .Break q16] pos :: rest)) Q E s₃) E { s with heap := h₁, toks := tk } by
    rcases hX with ⟨rfl, X⟩ | X
    · exact note_again F X (key h Z X)
    · exact noted_raise (s := { s with heap := h', toks := tk }) F Z X fun h1 Z1 X1 => key h1 Z1 X1
  intro h₁ Z1 X1
  refine set_flight (s := { s with heap := h₁, toks := tk }) F Z1.S Z1.L X1 fun h2 S2 L2 X2 => ?_
  have Z2 : SS fr LL dL (sG (l1.map enc) (l2.map enc) p1.length p2.length) [mi.map enc, un.map enc] h2 g am := ⟨S2, L2, Z1.hg, Z1.ham⟩
  have O4 := O.mkd (v := .ref x)
  have F4 := F.mkd (v := .ref x)
  have Z4 := Z2.mkd (A := fr.A.mark (some (.ref x)))
  obtain ⟨oe, vs, T, oT, ts, he, hcl, _⟩ := id X2.ob
  refine wpAny_handleBy_builtin (X := "IndexError") (T := "IndexError") (b := true) (by rw [isSubtype_type]; kernel_rfl) (by first | (rw [isSubtype_type]; kernel_rfl) | kernel_rfl) (by rw [isSubtype_type]; kernel_rfl) ?_
  refine wpAny_mono (E := fun _ _ => False) (w_global (c := noh c) (fr := mkd fr (fr.A.mark (some (.ref x)))) (s := { s with heap := h2, toks := tk }) O4 Z4.S hk hb (by decide +kernel) (by decide) ⟨rfl, ⟨_, he, hcl⟩, ?_⟩) (fun _ _ q => q) fun _ _ q => q.elim
  simp only [if_true]
  refine set_flight (s := { s with heap := h2, toks := tk }) F S2 L2 X2 fun h3 S3 L3 X3 => ?_
  have Z5 : SS (mkd fr (fr.A.mark (some (.ref x)))) LL dL (sG (l1.map enc) (l2.map enc) p1.length p2.length) [mi.map enc, un.map enc] h3 g am := (SS.mk S3 L3 Z1.hg Z1.ham).mkd
  have b1 : p1.length ≤ 1000 := by have := congrArg List.length G.e1; rw [List.length_append] at this; omega
  have b2 : p2.length ≤ 1000 := by have := congrArg List.length G.e2; rw [List.length_append] at this; omega
  have hmi : mi ++ r1 = M := by
    rw [← G.m]; rcases hr with rfl | rfl
    · rw [nil_dif]
    · rw [dif_nil]
  have hun : un ++ r2 = U := by
    rw [← G.u]; rcases hr with rfl | rfl
    · rw [dif_nil]
    · rw [nil_dif]
  have c1 : cut (l1.map enc) (some (p1.length : Int)) none = r1.map enc := by
    have := cut_rest (l := l1.map enc) (p := p1.map enc) (r := r1.map enc) (by rw [G.e1]; simp)
    rwa [List.length_map] at this
  have c2 : cut (l2.map enc) (some (p2.length : Int)) none = r2.map enc := by
    have := cut_rest (l := l2.map enc) (p := p2.map enc) (r := r2.map enc) (by rw [G.e2]; simp)
    rwa [List.length_map] at this
  have z1 : (mi.map enc).length + (r1.map enc).length ≤ 100000 := by
    have := congrArg List.length hmi; rw [List.length_append] at this; rw [List.length_map, List.length_map]; omega
  have z2 : (un.map enc).length + (r2.map enc).length ≤ 100000 := by
    have := congrArg List.length hun; rw [List.length_append] at this; rw [List.length_map, List.length_map]; omega
  refine SS.exs (c := noh c) (fr := mkd fr (fr.A.mark (some (.ref x)))) (s := { s with heap := h3, toks := tk }) (P := fun o Γ' Δ' => o = .brk ∧ Γ' = sG (l1.map enc) (l2.map enc) p1.length p2.length ∧ Δ' = [M.map enc, U.map enc]) O4 F4 Z5
    (exs_cons (ex_extend (i := 0) (ds := mi.map enc) (lk rfl) rfl (evf_eq (ev_sl_list (ev_nm rfl).ev (.some (ev_nm rfl).ev) .none (by rw [List.length_map]; omega)) (by rw [c1])) (exs_cons (ex_extend (i := 1) (ds := un.map enc) (lk rfl) rfl (evf_eq (ev_sl_list (ev_nm rfl).ev (.some (ev_nm rfl).ev) .none (by rw [List.length_map]; omega)) (by rw [c2])) (exs_cons (ex_brk ⟨rfl, rfl, ?_⟩)) z2 ha2)) z1 ha1)) fun o f Γ' Δ' h5 g5 am5 t5 hp hf Z6 _ => ?_
  · rw [← hmi, ← hun]; simp
  · obtain ⟨rfl, rfl, rfl⟩ := hp
    cases hf
    exact hQ h5 g5 am5 t5 (Z6.unmkd.weak (sub_cons rfl (sub_cons rfl sub_nil)))
end
end Mine

set_option maxRecDepth 100000
set_option autoImplicit false
set_option linter.unusedVariables false
set_option linter.unusedSectionVars false
set_option maxHeartbeats 1000000
namespace Mine
open PySem PySem.W PySem.Calls PyProof.Rows
theorem enter_def {X : GCtx} {dr : DefRec} {n : Nat} {ps : List Str} {ds : List D} (hdr : dr ∈ X.defs) (hlen : ds.length = ps.length)
    (hbind : ∀ pm code doc vs, vs.length = ps.length → bindArgs (docDef dr.name dr.params dr.body dr.scope pm code doc) ⟨vs, []⟩ = pure (ps.zip vs)) (hps : ps.Nodup)
    (hloc : ∀ x ∈ ps, dr.scope.names.lookup x = some .local ∨ dr.scope.names.lookup x = some .cell) (hnc : ∀ x ∈ ownCells dr.scope, dr.scope.names.lookup x = some .cell) (hnd : ((cellsFrom 0 dr.scope.names []).map (·.1)).Nodup)
    (hnf : ∀ p ∈ dr.scope.names, p.2 ≠ .free) (hk : dr.scope.kind = .function) (hco : dr.scope.isCoroutine = false) (hgen : dr.scope.isGenerator = false)
    {A : Around} {s : Shared} {g : Fz} {fa : Addr} {vs : List Value} (hA : A.handled = none) (hdp : A.depth + (n + 1) < recursionLimit) (hu : A.units + 8 * (n + 1) + 200 < cLine) (G : Glo X s.heap) (hs : ∀ b o, g b = some o → s.heap.get? b = some o)
    (hmg : X.mg dr.name = some (.ref fa)) (hr : Reps g ds vs) {Q : Value → Shared → Prop} {E : Value → Shared → Prop}
    (h : ∀ fr h₁ tk, fr.A = A.deeper fr.env → fr.h₀ = s.heap → fr.g₀ = g → fr.hc = s.heap → fr.env.frame = some fr.env.locals → fr.oc = (cellsFrom (s.heap.objs.size + 1) dr.scope.names []).map (·.2) → s.heap.get? fr.env.locals = none → (∀ b o, s.heap.get? b = some o → h₁.get? b = some o) →
      Okf ⟨X, n, dr.scope, ownCells dr.scope, true, false⟩ fr → St fr (ps.zip (ds.map V.d)) [] h₁ g [] → wpAny (model X.prog X.w) fr.A (execs dr.body fr.env) (fun f s' => ∃ v, f = .ret v ∧ Q v s') (fun _ _ => False) { s with heap := h₁, toks := tk }) :
    wpAny (model X.prog X.w) A (call (.ref fa) vs) Q E s := by
  obtain ⟨a, o, pm, code, doc, h1, h2, h3, h4⟩ := G.fn dr hdr
  rw [hmg] at h1
  cases h1
  have hvl : vs.length = ps.length := hr.length.trans hlen
  have hfst := zip_fst ps vs hvl
  refine wpAny_call (codeAny_call_cells (fd := docDef dr.name dr.params dr.body dr.scope pm code doc) (body := dr.body) (binds := ps.zip vs) (by omega) h2 h3 G.nolimit h4 rfl (hbind pm code doc vs hvl) rfl (fun x hx => ?_) (fun s₁ ic => ?_) hco hgen hk)
  · have hx' : x.1 ∈ ps := hfst ▸ List.mem_map_of_mem hx
    rcases hloc _ hx' with e | e
    · exact .inl e
    · exact .inr ⟨e, mem_cellsFrom _ _ _ (.inl (mem_of_lookup e))⟩
  · obtain ⟨h₁, tk, rfl, hkeep⟩ := ic.done
    let env : Env := callEnvC (docDef dr.name dr.params dr.body dr.scope pm code doc) s.heap.objs.size fa
    let fr : Frm := ⟨A.deeper env, env, s.heap, g, env.cells.map (·.2), s.heap⟩
    have hL : s.heap.get? s.heap.objs.size = none := by
      cases q : s.heap.get? s.heap.objs.size with
      | none => rfl
      | some o => exact absurd (Heap.lt_size q) (Nat.lt_irrefl _)
    have fresh : ∀ b, s.heap.objs.size ≤ b → s.heap.get? b = none := fun b hb => by
      cases q : s.heap.get? b with
      | none => rfl
      | some o => exact absurd (Heap.lt_size q) (Nat.not_lt.mpr hb)
    have gfresh : ∀ b, s.heap.get? b = none → g b = none := fun b hb => by
      cases q : g b with
      | none => rfl
      | some o => rw [hs b o q] at hb; cases hb
    have O : Okf ⟨X, n, dr.scope, ownCells dr.scope, true, false⟩ fr := by
      refine ⟨fun _ => hA, (fun h => nomatch h), ?_, ?_, rfl, hk, rfl, rfl, G, fun _ _ e => e, fun x hx => ⟨hnc x hx, ?_⟩, fun x hx => ?_, fun x y a e1 e2 _ => pairwise_uniq ic.apart e1 e2⟩
      · have e : fr.A.depth = A.depth + 1 := rfl
        have e2 : (⟨X, n, dr.scope, ownCells dr.scope, true, false⟩ : Cfg).n = n := rfl
        rw [e, e2]; omega
      · have e : fr.A.units = A.units + 3 := rfl
        have e2 : (⟨X, n, dr.scope, ownCells dr.scope, true, false⟩ : Cfg).n = n := rfl
        rw [e, e2]; omega
      · obtain ⟨p, hp, rfl⟩ := List.mem_map.mp hx
        obtain ⟨hp1, hp2⟩ := List.mem_filter.mp hp
        have e : p.2 = .cell := by simpa using hp2
        have this : (p.1, NameKind.cell) ∈ dr.scope.names := by rw [← e]; exact hp1
        obtain ⟨a, ha⟩ := Option.isSome_iff_exists.mp (mem_cellsFrom (x := p.1) dr.scope.names (s.heap.objs.size + 1) [] (.inl this))
        exact ⟨a, ha, List.mem_map.mpr ⟨_, mem_of_lookup ha, rfl⟩⟩
      · rcases hx with e | e
        · obtain ⟨a, ha⟩ := Option.isSome_iff_exists.mp (mem_cellsFrom (x := x) dr.scope.names (s.heap.objs.size + 1) [] (.inl (mem_of_lookup e)))
          exact ⟨a, ha, .inl (List.mem_map.mpr ⟨_, mem_of_lookup ha, rfl⟩)⟩
        · exact absurd rfl (hnf _ (mem_of_lookup e))
    have S : St fr (ps.zip (ds.map V.d)) [] h₁ g [] := by
      refine ⟨hkeep, fun b o e => hkeep b o (hs b o e), fun _ _ e => e, fun _ _ e => .inl e, gfresh _ hL, hL, ⟨_, ic.toInCall.ns, fun p hp => ?_⟩, fun a ha => ?_, rfl, List.nodup_nil, fun i a ds h1 _ => by simp at h1⟩
      · obtain ⟨v, hv, he⟩ := zip_rep ps hr p hp
        have hx : p.1 ∈ ps := hfst ▸ List.mem_map_of_mem hv
        refine ⟨v, he _, ?_⟩
        rcases hloc _ hx with e | e
        · exact .loc e (bindL_at (kindOf := env.kindOf) e _ _ (by rw [hfst]; exact hps) hv)
        · obtain ⟨a, ha⟩ := Option.isSome_iff_exists.mp (mem_cellsFrom (x := p.1) dr.scope.names (s.heap.objs.size + 1) [] (.inl (mem_of_lookup e)))
          have hc := ic.cell _ _ ha
          rw [bindC_at (kindOf := env.kindOf) e _ _ (by rw [hfst]; exact hps) hv] at hc
          exact .ocell a e ha (List.mem_map.mpr ⟨_, mem_of_lookup ha, rfl⟩) hc
      · obtain ⟨q, hq, rfl⟩ := List.mem_map.mp ha
        have hlk : env.cells.lookup q.1 = some q.2 := lookup_of_mem_nodup (cellsFrom_names dr.scope.names 0 (s.heap.objs.size + 1) [] [] rfl ▸ hnd) hq
        have hab := ic.above _ _ hq
        have hn := fresh q.2 (Nat.le_of_lt hab)
        exact ⟨⟨_, ic.cell _ _ hlk⟩, gfresh _ hn, hn, Nat.ne_of_gt hab, by simp⟩
    refine wpAny_mono (h fr h₁ _ rfl rfl rfl rfl rfl rfl hL hkeep O S) (fun f s' hq => ?_) fun _ _ x => x.elim
    obtain ⟨v, rfl, hq⟩ := hq; exact hq
end Mine

set_option maxRecDepth 100000
set_option autoImplicit false
set_option linter.unusedVariables false
set_option linter.unusedSectionVars false
set_option maxHeartbeats 1000000
namespace Mine
open PySem PySem.W PySem.Calls PyProof.Rows
variable {c : Cfg} {Γ : Gam} {Δ : Del}

/-- back in the caller's frame: of its names' object the data stand -/
theorem St.back {fr : Frm} {h' hF : Heap} {g' gF : Fz} {am : List Addr} (S : St fr Γ Δ h' g' am) (k : ∀ b o, b ≠ fr.env.locals → h'.get? b = some o → hF.get? b = some o) (hd : ∀ o, h'.get? fr.env.locals = some o → ∃ o', hF.get? fr.env.locals = some o' ∧ o'.data = o.data)
    (gk : ∀ b o, g' b = some o → gF b = some o) (sub : ∀ b o, gF b = some o → hF.get? b = some o) (own : ∀ b o, gF b = some o → g' b = some o ∨ (hideAll h' [fr.env.locals]).get? b = none) (gL : gF fr.env.locals = none) : St fr Γ Δ hF gF am where
  keep := fun b o e => k b o (fun q => by rw [q, S.hL] at e; cases e) (S.keep b o e)
  sub := sub
  gsub := fun b o e => gk b o (S.gsub b o e)
  own := fun b o e => by
    rcases own b o e with q | q
    · exact S.own b o q
    · by_cases hb : b = fr.env.locals
      · rw [hb, gL] at e; cases e
      · refine .inr (none_of_keep S.keep ?_)
        cases q' : h'.get? b with
        | none => rfl
        | some o' => rw [hideAll_get _ q' (by simpa using hb)] at q; cases q
  gL := gL
  hL := S.hL
  loc := by
    obtain ⟨m, ⟨o, es, ep, ho, hdd, r⟩, hp⟩ := S.loc
    obtain ⟨o', ho', hd'⟩ := hd o ho
    refine ⟨m, ⟨o', es, ep, ho', hd'.trans hdd, r⟩, fun p hm => ?_⟩
    obtain ⟨v, h1, h2⟩ := hp p hm
    refine ⟨v, h1.mono0 gk, ?_⟩
    cases h2 with
    | loc h3 h4 => exact .loc h3 h4
    | ocell a h3 h4 h5 h6 =>
      obtain ⟨o, ho, hdo⟩ := h6
      exact .ocell a h3 h4 h5 ⟨o, k a o (S.ocs a h5).2.2.2.1 ho, hdo⟩
    | cell a h3 h4 h6 => exact .cell a h3 h4 h6
  ocs := fun b hb => by
    obtain ⟨⟨v, o, ho, hdo⟩, r1, r2, r3, r4⟩ := S.ocs b hb
    refine ⟨⟨v, o, k b o r3 ho, hdo⟩, ?_, r2, r3, r4⟩
    cases q : gF b with
    | none => rfl
    | some o' =>
      rcases own b o' q with e | e
      · rw [r1] at e; cases e
      · rw [hideAll_get _ ho (by simpa using r3)] at e; cases e
  len := S.len
  nd := S.nd
  muts := fun i a ds h1 h2 => by
    obtain ⟨⟨vs, n, ho, hr⟩, r1, r2, r3⟩ := S.muts i a ds h1 h2
    refine ⟨⟨vs, n, k a _ r1 ho, hr.mono gk⟩, r1, r2, ?_⟩
    cases q : gF a with
    | none => rfl
    | some o' =>
      rcases own a o' q with e | e
      · rw [r3] at e; cases e
      · rw [hideAll_get _ ho (by simpa using r1)] at e; cases e

/-- the callee's frame, told less of the heap -/
def less (fr : Frm) (LL : Addr) : Frm := { fr with h₀ := hideAll fr.h₀ [LL], hc := hideAll fr.h₀ [LL] }
theorem Okf.less {fr : Frm} {LL : Addr} (O : Okf c fr) (hG : Glo c.X (hideAll fr.h₀ [LL])) (hn : ∀ p ∈ c.sc.names, p.2 ≠ .cell ∧ p.2 ≠ .free) (ho : c.own = []) : Okf c (less fr LL) :=
  ⟨O.hand, O.frs, O.depth, O.units, O.sc, O.kind, O.glob, O.blt, hG, fun _ _ e => e, fun x hx => (by rw [ho] at hx; cases hx), fun x hx => (by
    rcases hx with e | e
    · exact absurd rfl (hn _ (mem_of_lookup e)).1
    · exact absurd rfl (hn _ (mem_of_lookup e)).2), O.ocu⟩
theorem St.less {fr : Frm} {LL : Addr} {h : Heap} {g : Fz} (O : Okf c fr) (S : St fr Γ [] h g []) (hn : ∀ p ∈ c.sc.names, p.2 ≠ .cell ∧ p.2 ≠ .free) (hoc : fr.oc = []) : St (Mine.less fr LL) Γ [] h g [] where
  keep := fun b o e => S.keep b o (of_hideAll _ e)
  sub := S.sub
  gsub := S.gsub
  own := fun b o e => (S.own b o e).imp id fun q => none_of_keep (fun b o e => of_hideAll _ e) q
  gL := S.gL
  hL := none_of_keep (fun b o e => of_hideAll _ e) S.hL
  loc := by
    obtain ⟨m, hns, hp⟩ := S.loc
    refine ⟨m, hns, fun p hm => ?_⟩
    obtain ⟨v, h1, h2⟩ := hp p hm
    refine ⟨v, h1, ?_⟩
    cases h2 with
    | loc h3 h4 => exact .loc h3 h4
    | ocell a h3 h4 h5 h6 => rw [hoc] at h5; cases h5
    | cell a h3 h4 h6 =>
      rw [O.sc] at h3
      rcases h3 with e | e
      · exact absurd rfl (hn _ (mem_of_lookup e)).1
      · exact absurd rfl (hn _ (mem_of_lookup e)).2
  ocs := fun b hb => by have hb' : b ∈ fr.oc := hb; rw [hoc] at hb'; cases hb'
  len := S.len
  nd := S.nd
  muts := fun i a ds h1 h2 => by simp at h1
end Mine

set_option maxRecDepth 100000
set_option autoImplicit false
set_option linter.unusedVariables false
set_option maxHeartbeats 1000000
namespace Mine
open PySem PySem.W PySem.Calls PyProof.Rows
section
variable {c : Cfg} {Γ : Gam} {Δ : Del} {P : Post}
theorem IntsAre.length {vs : List Value} {ns : List Int} (h : IntsAre vs ns) : vs.length = ns.length := by
  induction h with
  | nil => rfl
  | cons n t _ ih => simp [ih]
/-- script[:k] -/
theorem ev_arg_slice {x : Str} {q p pos : Pos} {e : Expr} {ns : List Int} {z : Int} (hm : (x, V.arg ns) ∈ Γ) (hk : Ev c Γ Δ e (.int z)) (hz : ns.length ≤ 100000) (hd : (x == ("__debug__" : Str)) = false := by decide) (hc : (x == ("__classdict__" : Str)) = false := by decide) :
    EvF c Γ Δ (.Subscript (.Name x q) (.Slice none (some e) none p) pos) (.list (IL (cut ns none (some z)))) := fun fr s g am O S' Q hQ => by
  obtain ⟨m, hn, hp⟩ := S'.loc
  obtain ⟨v, h1, h2⟩ := hp _ hm
  cases h1 with
  | arg _ a o vs n ho hcl hdat hI =>
    have hl := IntsAre.length hI
    refine wpAny_Subscript_list_slice (wpAny_Name (load_At O S' hn h2 hc ?_) hd)
    refine w_part (i := none) .none O S' fun q1 k2 g2 t2 kk2 e1 => w_part (.some hk) O (S'.gr kk2) fun q2 k3 g3 t3 kk3 e2 => ?_
    have ho3 := kk3.hk _ _ (kk2.hk _ _ (S'.sub _ _ ho))
    have hr : Reps g3 (IL ns) vs := ints_IL hI
    refine ⟨a, vs.toArray, none, some z, rfl, ⟨o, ho3, hcl, n, hdat⟩, by rw [List.size_toArray, hl, sizeLine_lit]; omega, isPart_of e1, isPart_of e2, ?_⟩
    rw [slicePick_plain]
    generalize hH : k3.push { cls := .type "slice", data := .fields #[partValue q1, partValue q2, .none] } = H
    have kp : ∀ b o, k3.get? b = some o → H.get? b = some o := fun b o e => by rw [← hH]; exact Heap.get?_push_of_some _ e
    have hsz : H.objs.size = k3.objs.size + 1 := by rw [← hH, Heap.size_push]
    have e3 : H.get? H.objs.size = none := fresh_size
    show Q (.ref (k3.objs.size + 1)) _
    rw [← hsz]
    have kk4 : Gr k3 g3 (H.push (lstO (cut vs none (some z)) 0)) (g3.add H.objs.size (lstO (cut vs none (some z)) 0)) := .add kk3.sub (fun b o e => Heap.get?_push_of_some _ (kp b o e)) (none_of_keep kp e3) (Heap.get?_push_size _ rfl)
    have hcut : (({ cls := .type "list", data := .seq ((vs.toArray.toList.drop ((none : Option Int).elim 0 (clipAt vs.toArray.size))).take ((some z).elim vs.toArray.size (clipAt vs.toArray.size) - (none : Option Int).elim 0 (clipAt vs.toArray.size))).toArray } : Obj)) = lstO (cut vs none (some z)) 0 := by simp [cut]
    rw [hcut]
    refine hQ _ _ _ t3 ((kk2.trans kk3).trans kk4) (.list _ _ (cut vs none (some z)) 0 (Fz.add_self _ _ _) ?_)
    have := Reps.sub hr 0 (clipAt ns.length z)
    have e5 : cut vs none (some z) = (vs.drop 0).take (clipAt ns.length z) := by unfold cut; simp [hl]
    have e6 : IL (cut ns none (some z)) = ((IL ns).drop 0).take (clipAt ns.length z) := by unfold cut; simp [IL]
    rw [e5, e6]
    exact this.mono (Fz.add_keep (none_of_sub kk3.sub (none_of_keep kp e3)))
end
end Mine

set_option maxRecDepth 100000
set_option autoImplicit false
set_option linter.unusedVariables false
set_option maxHeartbeats 1000000
namespace Mine
open PySem PySem.W PySem.Calls PyProof.Rows
section
variable {c : Cfg} {Γ : Gam} {Δ : Del} {P : Post}
end
end Mine

set_option maxRecDepth 100000
set_option autoImplicit false
set_option linter.unusedVariables false
set_option maxHeartbeats 1000000
namespace Mine
open PySem PySem.W PySem.Calls PyProof.Rows
section
variable {c : Cfg} {Γ : Gam} {Δ : Del} {P : Post}
/-- one generator -/
theorem w_compI {fr : Frm} {s₀ s : Shared} {g₀ g : Fz} {am : List Addr} {elt iter : Expr} {x : Str} {px pos : Pos} {ifs : List Expr} {sc : Scope} {xs : List D} {Γ' : Gam} {out : List (Option D)} {It : Addr} {fp wr : List Addr} {Pw : Nat → Value → Prop} {Sw : Nat → Heap → Prop}
    {RR : Value → Addr → Result → Shared → Prop} (O : Okf c fr) (S0 : St fr Γ Δ s₀.heap g₀ am) (it : ItAt c fr false xs s₀.heap g₀ s.heap g It fp wr Pw Sw) (C : CScope c sc) (hx : Sto (cOf c sc) x) (hsz : xs.length ≤ 100000)
    (hΓ : ∀ p ∈ Γ', p ∈ Γ ∧ (p.1, NameKind.free) ∈ sc.names ∧ ∃ d, p.2 = .d d)
    (hol : out.length = xs.length) (hif : ∀ (i : Nat) (d : D) (o : Option D), xs[i]? = some d → out[i]? = some o → EvIfs (cOf c sc) (upd Γ' x (.d d)) [] ifs o.isSome) (he : ∀ (i : Nat) (d v : D), xs[i]? = some d → out[i]? = some (some v) → EvF (cOf c sc) (upd Γ' x (.d d)) [] elt v)
    (hRR : ∀ D C h' g' tk m, s₀.heap.get? C = none → g' C = none → h'.Ns C m → Gr s₀.heap g₀ h' g' → Rep g' (.list (out.filterMap id)) (.ref D) → D ≠ C → RR (.ref D) C (.ok .next) { s with heap := h', toks := tk }) :
    W c fr (newList []) (fun acc s₃ => W c fr (newFunctionEnv sc fr.env.globals (clos fr.env sc.names []) [] fr.env.qual none .none (some fr.env)) (fun cenv s₄ =>
      codeAny (model c.X.prog c.X.w) fr.A (.compStart (.ListComp elt [⟨.Name x px, iter, ifs, 0⟩] sc pos) 0 (.ref It) acc { cenv with scope := relabel sc fr.env }) (RR acc cenv.locals) s₄) s₃) s := by
  have S := S0.gr it.gr
  have F := it.offs S0
  refine wpAny_newList ?_
  refine w_newEnv C.kind fun h₄ k4 hn hcl hap => ?_
  dsimp only at k4 hn hcl ⊢
  generalize hH1 : s.heap.push (lstO [] 0) = H1 at k4 hn hcl hap ⊢
  have hsize : H1.objs.size = s.heap.objs.size + 1 := by rw [← hH1, Heap.size_push]
  have kpush : ∀ b o, s.heap.get? b = some o → H1.get? b = some o := fun b o e => by rw [← hH1]; exact Heap.get?_push_of_some _ e
  have hD1 : H1.get? s.heap.objs.size = some (lstO [] 0) := by rw [← hH1]; exact Heap.get?_push_size _ rfl
  obtain ⟨O', S'⟩ := comp_frame (h₄ := h₄) (L' := H1.objs.size) O S F C (by rw [hsize]; exact Nat.lt_succ_self _) hΓ (fun b o e => k4 b o (kpush b o e)) hn hcl hap
  let fr' := frC fr s.heap g wr sc H1.objs.size
  have hDfresh : s.heap.get? s.heap.objs.size = none := fresh_size
  have hLfresh : s.heap.get? H1.objs.size = none := by
    cases q : s.heap.get? H1.objs.size with
    | none => rfl
    | some o => have : H1.objs.size < s.heap.objs.size := Heap.lt_size q
                rw [hsize] at this; exact absurd this (by omega)
  have hDL : s.heap.objs.size ≠ H1.objs.size := by rw [hsize]; exact Nat.ne_of_lt (Nat.lt_succ_self _)
  have hocD : ∀ a ∈ fr'.oc, s.heap.get? a = none ∧ s.heap.objs.size ≠ a := fun a ha => by
    obtain ⟨q, hq, rfl⟩ := List.mem_map.mp ha
    have h2 := (hcl q.1 q.2 hq).2
    refine ⟨?_, ?_⟩
    · cases q' : s.heap.get? q.2 with
      | none => rfl
      | some o => have : q.2 < s.heap.objs.size := Heap.lt_size q'
                  rw [hsize] at h2
                  exact absurd (Nat.lt_trans h2 this) (by omega)
    · rw [hsize] at h2; intro e; rw [← e] at h2; exact absurd h2 (by omega)
  have wrE : ∀ b ∈ wr, s.heap.get? b ≠ none := it.wl 0 _ it.st
  have fpE : ∀ b ∈ fp, s.heap.get? b ≠ none := fun b hb => (it.fp b hb).elim (wrE b) fun e => by simpa using e
  have hDwr : s.heap.objs.size ∉ wr := fun hm => wrE _ hm hDfresh
  have hDfp : s.heap.objs.size ∉ fp := fun hm => fpE _ hm hDfresh
  have offW : Off fr' g [] wr := ⟨fun b hb => ⟨fun e => wrE b hb (by rw [show b = H1.objs.size from e]; exact hLfresh), fun hm => wrE b hb (hocD b hm).1, by simp, it.free b hb, hideAll_none _ hb⟩⟩
  have hDh : (hideAll s.heap wr).get? s.heap.objs.size = none := none_of_keep (fun b o e => of_hideAll _ e) hDfresh
  have offD : ∀ {g₁ : Fz}, g₁ s.heap.objs.size = none → Off fr' g₁ [] [s.heap.objs.size] := fun hg => ⟨fun b hb => by
    rw [List.mem_singleton.mp hb]
    exact ⟨hDL, fun hm => (hocD _ hm).2 rfl, by simp, hg, hDh⟩⟩
  have loop : codeAny (model c.X.prog c.X.w) fr.A (.compLoop (.ListComp elt [⟨.Name x px, iter, ifs, 0⟩] sc pos) 0 (.ref It) (.ref s.heap.objs.size) fr'.env) (RR (.ref s.heap.objs.size) H1.objs.size) { s with heap := h₄ } := by
    refine codeAny_compLoop_tests (fun k s' => ∃ i h₁ g₁ tk ys n, s' = { s with heap := h₁, toks := tk } ∧ St fr' Γ' [] h₁ g₁ [] ∧ (∀ b ∈ wr, g₁ b = none) ∧ g₁ s.heap.objs.size = none ∧ Sw i h₁ ∧ h₁.get? s.heap.objs.size = some (lstO ys n) ∧ Reps g₁ ((out.take i).filterMap id) ys ∧ i ≤ xs.length ∧ k = xs.length + 1 - i) ?_ (xs.length + 1)
      ⟨0, h₄, g, s.toks, [], 0, rfl, S', it.free, none_of_sub S.sub hDfresh, it.wk.frame _ _ _ it.st fun b hb o e => k4 _ _ (kpush _ _ e), k4 _ _ hD1, by simp; exact .nil, Nat.zero_le _, rfl⟩
    rintro k s' ⟨i, h₁, g₁, tk, ys, n, rfl, S1, hfw, hfD, hst, hD, hR, hil, rfl⟩
    by_cases hlt : i < xs.length
    · refine it.wk.item i _ _ _ hlt hst fun v h3 t3 hv hst3 k3 => ?_
      obtain ⟨d, hd, hr⟩ := it.item i v hv
      obtain ⟨o, ho⟩ : ∃ o, out[i]? = some o := ⟨out[i]'(by rw [hol]; exact hlt), List.getElem?_eq_getElem _⟩
      have offW1 : Off fr' g₁ [] wr := ⟨fun b hb => ⟨(offW.off b hb).1, (offW.off b hb).2.1, (offW.off b hb).2.2.1, hfw b hb, (offW.off b hb).2.2.2.2⟩⟩
      have S3 := S1.off offW1 k3
      have hD3 := k3 _ _ hDwr hD
      refine wpAny_mono (E := fun _ _ => False) (wpAny_assign_Name (w_store O' S3 hx (.d d v (hr.mono S1.gsub)) fun h4 t4 S4 k4' => ?_)) (fun _ _ q => q) fun _ _ q => q.elim
      have hD4 := k4' _ _ hDL (fun hm => (hocD _ hm).2 rfl) hD3
      have hst4 : Sw (i + 1) h4 := it.wk.frame _ _ _ hst3 fun b hb o e => k4' b o (fun q => fpE b hb (by rw [show b = H1.objs.size from q]; exact hLfresh)) (fun hm => fpE b hb (hocD b hm).1) e
      refine wpAny_mono (E := fun _ _ => False) (hif i d o hd ho fr' _ g₁ [] O' S4 _ fun h5 g5 t5 k5 => ?_) (fun _ _ q => q) fun _ _ q => q.elim
      have S5 := S4.gr k5
      have back : ∀ {h : Heap} {g : Fz}, St fr' (upd Γ' x (.d d)) [] h g [] → St fr' Γ' [] h g [] := fun S => S.weak fun q hq => by
        obtain ⟨q1, q2, q3⟩ := hΓ q hq
        exact List.Mem.tail _ (List.mem_filter.mpr ⟨hq, by simpa using sto_not_free C hx q2⟩)
      have nD5 := k5.none hfD hD4
      have nW : ∀ {h h' : Heap} {g₁ g' : Fz} {b : Addr} {i : Nat}, Gr h g₁ h' g' → Sw i h → b ∈ wr → g₁ b = none → g' b = none := fun {h h' g₁ g' b i} k hs hb hg => by
        obtain ⟨o, ho⟩ := Option.ne_none_iff_exists'.mp (it.wl i h hs b hb)
        exact k.none hg ho
      have hst5 : Sw (i + 1) h5 := it.wk.frame _ _ _ hst4 fun b hb o e => k5.hk b o e
      cases hp : o with
      | none =>
        subst hp
        simp only [Bool.false_eq_true, if_false]
        refine ⟨_, by omega, i + 1, h5, g5, t5, ys, n, rfl, back S5, fun b hb => nW k5 hst4 hb (hfw b hb), nD5, hst5, k5.hk _ _ hD4, ?_, hlt, rfl⟩
        have e9 : (out.take (i + 1)).filterMap id = (out.take i).filterMap id := by rw [List.take_add_one, ho, List.filterMap_append]; simp
        rw [e9]
        exact hR.mono k5.gk
      | some ov =>
        subst hp
        simp only [if_true]
        refine wpAny_mono (E := fun _ _ => False) (he i d ov hd ho fr' _ g5 [] O' S5 _ fun y h6 g6 t6 k6 r6 => ?_) (fun _ _ q => q) fun _ _ q => q.elim
        have S6 := S5.gr k6
        have hD6 := k6.hk _ _ (k5.hk _ _ hD4)
        have nD6 := k6.none nD5 (k5.hk _ _ hD4)
        have hys : ys.length = ((out.take i).filterMap id).length := hR.length
        have hys2 : ys.length ≤ sizeLine := by
          rw [hys]
          have e1 := List.length_filterMap_le id (out.take i)
          rw [List.length_take] at e1
          rw [sizeLine_lit]; omega
        refine wpAny_list_append_plain (items := ys.toArray) ⟨n, hD6⟩ (fun h7 hl7 hs7 => ?_) (by rw [List.size_toArray]; exact hys2)
        obtain ⟨n7, ho7⟩ := hl7
        have ho7' : h7.get? s.heap.objs.size = some (lstO (ys ++ [y]) n7) := by rw [ho7]; simp
        have S7 := S6.off (offD nD6) fun b o hb e => (hs7.2 b fun q => hb (List.mem_singleton.mpr q)).trans e
        have hst6 : Sw (i + 1) h6 := it.wk.frame _ _ _ hst5 fun b hb o e => k6.hk b o e
        refine ⟨_, by omega, i + 1, h7, g6, t6, ys ++ [y], n7, rfl, back S7, fun b hb => nW k6 hst5 hb (nW k5 hst4 hb (hfw b hb)), nD6, it.wk.frame _ _ _ hst6 (fun b hb o e => (hs7.2 b fun q => hDfp (by rw [← show b = s.heap.objs.size from q]; exact hb)).trans e), ho7', ?_, hlt, rfl⟩
        have e9 : (out.take (i + 1)).filterMap id = (out.take i).filterMap id ++ [ov] := by rw [List.take_add_one, ho, List.filterMap_append]; simp
        rw [e9]
        exact ((hR.mono k5.gk).mono k6.gk).append (.cons r6 .nil)
    · have hin : i = xs.length := by omega
      subst hin
      refine it.wk.done _ _ _ hst fun h3 t3 k3 => ?_
      have offW1 : Off fr' g₁ [] wr := ⟨fun b hb => ⟨(offW.off b hb).1, (offW.off b hb).2.1, (offW.off b hb).2.2.1, hfw b hb, (offW.off b hb).2.2.2.2⟩⟩
      have S3 := S1.off offW1 k3
      have hD3 := k3 _ _ hDwr hD
      rw [← hol, List.take_length] at hR
      have up0 : ∀ b o, s₀.heap.get? b = some o → (hideAll s.heap wr).get? b = some o := fun b o e => hideAll_get _ (it.gr.hk b o e) fun hm => by rw [it.new b hm] at e; cases e
      obtain ⟨m3, hn3, _⟩ := S3.loc
      refine hRR _ _ h3 (g₁.add s.heap.objs.size (lstO ys n)) t3 m3 (none_of_keep it.gr.hk hLfresh) ?_ hn3 ⟨fun b o e => S3.keep b o (up0 b o e), fun b o e => Fz.add_keep hfD _ _ (S3.gsub b o (it.gr.gk b o e)), fun b o e => ?_, fun b o e => ?_⟩ (.list _ _ ys n (Fz.add_self _ _ _) (hR.mono (Fz.add_keep hfD))) hDL
      · unfold Fz.add; rw [if_neg (Ne.symm hDL)]; exact S3.gL
      · unfold Fz.add at e
        by_cases hb : b = s.heap.objs.size
        · rw [if_pos hb] at e; cases e; rw [hb]; exact hD3
        · rw [if_neg hb] at e; exact S3.sub b o e
      · unfold Fz.add at e
        by_cases hb : b = s.heap.objs.size
        · rw [hb]; exact .inr (none_of_keep it.gr.hk hDfresh)
        · rw [if_neg hb] at e
          rcases S3.own b o e with q | q
          · exact it.gr.own b o q
          · exact .inr (none_of_keep up0 q)
  refine codeAny_compStart_list loop (it.wk.self 0 _ _ _ ?_ loop)
  exact it.wk.frame _ _ _ it.st fun b hb o e => k4 _ _ (kpush _ _ e)
theorem ev_compI {elt iter : Expr} {x : Str} {px pos : Pos} {ifs : List Expr} {sc : Scope} {xs : List D} {Γ' : Gam} {out : List (Option D)} (hi : EvI false c Γ Δ iter xs) (C : CScope c sc) (hx : Sto (cOf c sc) x) (hsz : xs.length ≤ 100000)
    (hΓ : ∀ p ∈ Γ', p ∈ Γ ∧ (p.1, NameKind.free) ∈ sc.names ∧ ∃ d, p.2 = .d d)
    (hol : out.length = xs.length) (hif : ∀ (i : Nat) (d : D) (o : Option D), xs[i]? = some d → out[i]? = some o → EvIfs (cOf c sc) (upd Γ' x (.d d)) [] ifs o.isSome) (he : ∀ (i : Nat) (d v : D), xs[i]? = some d → out[i]? = some (some v) → EvF (cOf c sc) (upd Γ' x (.d d)) [] elt v)
    (hs : ∀ env x, foldedSetIterable iter env x = pure x := by intro _ _; rfl) : EvF c Γ Δ (.ListComp elt [⟨.Name x px, iter, ifs, 0⟩] sc pos) (.list (out.filterMap id)) := fun fr s g am O S Q hQ => by
  rw [eval_ListComp]
  refine wpAny_comprehension_free (use := none) rfl (hs _) (closureFor_clos (O.closed C)) C.kind C.hnames (hi fr s g am O S _ fun It fp wr Pw Sw h1 g1 t1 it => ?_)
  refine w_compI O S it C hx hsz hΓ hol hif he (RR := fun acc C => compPost _ _ _ none Q acc C) fun D C h' g' tk m hC hgC hn k r hDC => ?_
  exact ⟨m, hn, fun h'' hs => hQ _ h'' g' tk (gr_other k hs hC hgC) r⟩

theorem ex_assign_compI {y : Str} {py spos : Pos} {elt iter : Expr} {x : Str} {px pos : Pos} {ifs : List Expr} {sc : Scope} {xs : List D} {Γ' : Gam} {out : List (Option D)} (hi : EvI false c Γ Δ iter xs) (C : CScope c sc) (hx : Sto (cOf c sc) x) (hsz : xs.length ≤ 100000)
    (hΓ : ∀ p ∈ Γ', p ∈ Γ ∧ (p.1, NameKind.free) ∈ sc.names ∧ ∃ d, p.2 = .d d)
    (hol : out.length = xs.length) (hif : ∀ (i : Nat) (d : D) (o : Option D), xs[i]? = some d → out[i]? = some o → EvIfs (cOf c sc) (upd Γ' x (.d d)) [] ifs o.isSome) (he : ∀ (i : Nat) (d v : D), xs[i]? = some d → out[i]? = some (some v) → EvF (cOf c sc) (upd Γ' x (.d d)) [] elt v)
    (hy : c.sc.names.lookup y = some .local) (h : P .next (upd Γ y (.d (.list (out.filterMap id)))) Δ)
    (hl : (py.line == pos.line) = true := by rfl) (hno : (sc.names.any fun (n, k) => n == y && (k == .local || k == .cell)) = false := by decide +kernel)
    (hs : ∀ env x, foldedSetIterable iter env x = pure x := by intro _ _; rfl) : Ex1 c Γ Δ (.Assign [.Name y py] (.ListComp elt [⟨.Name x px, iter, ifs, 0⟩] sc pos) spos) P := fun fr s g am O S Q hQ => by
  have hsw : swapsWith (.ListComp elt [⟨.Name x px, iter, ifs, 0⟩] sc pos) (some (.Name y py)) spos.line fr.env = pure true := by
    show (pure (fr.env.blockKind == .function && fr.env.kindOf y == some .local && py.line == pos.line && !(sc.names.any fun (n, k) => n == y && (k == .local || k == .cell))) : Sem Bool) = _
    have h1 : fr.env.blockKind = .function := by unfold Env.blockKind; rw [O.sc, O.kind]; rfl
    have h2 : fr.env.kindOf y = some .local := by unfold Env.kindOf; rw [O.sc]; exact hy
    rw [h1, h2, hl, hno]; rfl
  unfold W
  rw [exec_Assign_Name_used _ _ _ _ hsw]
  refine wpAny_bind (wpAny_standAt (wpAny_bind ?_))
  show wpAny _ fr.A (do let _ ← comprehension (.ListComp elt [⟨.Name x px, iter, ifs, 0⟩] sc pos) sc fr.env _ (newList []) false (eval iter fr.env) (some (assign (.Name y py) fr.env))) _ _ s
  refine wpAny_bind (wpAny_mono (wpAny_comprehension_free (use := some (assign (.Name y py) fr.env)) (Q := fun _ s' => Q .next s') rfl (hs _) (closureFor_clos (O.closed C)) C.kind C.hnames
    (hi fr s g am O S _ fun It fp wr Pw Sw h1 g1 t1 it => ?_)) (fun _ s' hq => wpAny_pure (wpAny_pure hq)) fun _ _ e => e)
  refine w_compI O S it C hx hsz hΓ hol hif he (RR := fun acc C => compPost _ _ _ (some (assign (.Name y py) fr.env)) (fun _ s' => Q .next s') acc C) fun D C h' g' tk m hC hgC hn k r hDC => ?_
  have S1 := S.gr k
  have hCL : C ≠ fr.env.locals := fun e => by
    obtain ⟨m', hns, _⟩ := S.loc
    obtain ⟨o, ho⟩ := Heap.Ns.get hns
    rw [← e, hC] at ho; cases ho
  have hCo : C ∉ fr.oc := fun hm => by
    obtain ⟨⟨v, o, ho, _⟩, _⟩ := S.ocs C hm
    rw [hC] at ho; cases ho
  have hCm : C ∉ am := fun hm => by
    obtain ⟨i, hi, q⟩ := List.mem_iff_getElem.mp hm
    obtain ⟨⟨vs, n, ho, _⟩, _⟩ := S.muts i C _ (by rw [List.getElem?_eq_getElem hi, q]) (List.getElem?_eq_getElem (S.len ▸ hi))
    rw [hC] at ho; cases ho
  show wpAny _ fr.A (assign (.Name y py) fr.env (.ref D)) _ _ _
  refine wpAny_assign_Name (w_store O S1 (.inl hy) (.d _ _ r) fun h2 t2 S2 k2 => ?_)
  refine ⟨m, hn.at' fun o e => k2 _ o hCL hCo e, fun h3 hs3 => ?_⟩
  have S3 := S2.off (wr := [C]) ⟨fun b hb => by rw [List.mem_singleton.mp hb]; exact ⟨hCL, hCo, hCm, hgC, none_of_keep S.keep hC⟩⟩ fun b o hb e => (hs3.2 b fun q => hb (List.mem_singleton.mpr q)).trans e
  exact hQ .next .next _ _ h3 g' am t2 h .next S3

end
end Mine

set_option maxRecDepth 100000
set_option autoImplicit false
set_option linter.unusedVariables false
set_option maxHeartbeats 1000000
namespace Mine
open PySem PySem.W PySem.Calls PyProof.Rows
section
variable {c : Cfg} {Γ : Gam} {Δ : Del} {P : Post}
theorem filterX {α : Type} (p : α → Bool) (G : α → D) (l : List α) : (l.map fun a => if p a then some (G a) else none).filterMap id = (l.filter p).map G := by
  induction l with
  | nil => rfl
  | cons a r ih =>
    simp only [List.map_cons, List.filterMap_cons, List.filter_cons]
    cases p a <;> simp [ih]
theorem outX {α : Type} {enc : α → D} {p : α → Bool} {G : α → D} {l : List α} {i : Nat} {d : D} {o : Option D} (h1 : (l.map enc)[i]? = some d) (h2 : (l.map fun a => if p a then some (G a) else none)[i]? = some o) :
    ∃ a ∈ l, d = enc a ∧ o = if p a then some (G a) else none := by
  rw [List.getElem?_map] at h1 h2
  cases q : l[i]? with
  | none => rw [q] at h1; cases h1
  | some a =>
    rw [q] at h1 h2
    injection h1 with h1; injection h2 with h2
    exact ⟨a, List.mem_of_getElem? q, h1.symm, h2.symm⟩
/-- comprehensions over a list of anything, no injection asked -/
theorem ev_compX {α : Type} (enc G : α → D) (l : List α) (p : α → Bool) {elt iter : Expr} {x : Str} {px pos : Pos} {ifs : List Expr} {sc : Scope} (Γ' : Gam) (hi : EvI false c Γ Δ iter (l.map enc)) (C : CScope c sc) (hx : Sto (cOf c sc) x) (hsz : l.length ≤ 100000)
    (hΓ : ∀ p ∈ Γ', p ∈ Γ ∧ (p.1, NameKind.free) ∈ sc.names ∧ ∃ d, p.2 = .d d)
    (hif : ∀ a ∈ l, EvIfs (cOf c sc) (upd Γ' x (.d (enc a))) [] ifs (p a)) (he : ∀ a ∈ l, p a = true → EvF (cOf c sc) (upd Γ' x (.d (enc a))) [] elt (G a))
    (hs : ∀ env x, foldedSetIterable iter env x = pure x := by intro _ _; rfl) : EvF c Γ Δ (.ListComp elt [⟨.Name x px, iter, ifs, 0⟩] sc pos) (.list ((l.filter p).map G)) := by
  rw [← filterX p G l]
  refine ev_compI hi C hx (by simpa using hsz) hΓ (by simp) (fun i d o h1 h2 => ?_) (fun i d v h1 h2 => ?_) hs
  · obtain ⟨a, ha, rfl, rfl⟩ := outX h1 h2
    have := hif a ha
    cases q : p a <;> rw [q] at this <;> simpa using this
  · obtain ⟨a, ha, rfl, h3⟩ := outX h1 h2
    cases q : p a <;> rw [q] at h3
    · cases h3
    · simp at h3; subst h3; exact he a ha q
theorem ev_compY {α : Type} (enc G : α → D) (l : List α) {elt iter : Expr} {x : Str} {px pos : Pos} {sc : Scope} (Γ' : Gam) (hi : EvI false c Γ Δ iter (l.map enc)) (C : CScope c sc) (hx : Sto (cOf c sc) x) (hsz : l.length ≤ 100000)
    (hΓ : ∀ p ∈ Γ', p ∈ Γ ∧ (p.1, NameKind.free) ∈ sc.names ∧ ∃ d, p.2 = .d d)
    (he : ∀ a ∈ l, EvF (cOf c sc) (upd Γ' x (.d (enc a))) [] elt (G a))
    (hs : ∀ env x, foldedSetIterable iter env x = pure x := by intro _ _; rfl) : EvF c Γ Δ (.ListComp elt [⟨.Name x px, iter, [], 0⟩] sc pos) (.list (l.map G)) := by
  have := ev_compX (ifs := []) enc G l (fun _ => true) (pos := pos) (px := px) Γ' hi C hx hsz hΓ (fun a _ => evifs_nil) (fun a ha _ => he a ha) hs
  rwa [show l.filter (fun _ => true) = l by simp] at this
theorem ex_assign_compX {α : Type} (enc G : α → D) (l : List α) (p : α → Bool) {y : Str} {py spos : Pos} {elt iter : Expr} {x : Str} {px pos : Pos} {ifs : List Expr} {sc : Scope} (Γ' : Gam) (hi : EvI false c Γ Δ iter (l.map enc)) (C : CScope c sc) (hx : Sto (cOf c sc) x) (hsz : l.length ≤ 100000)
    (hΓ : ∀ p ∈ Γ', p ∈ Γ ∧ (p.1, NameKind.free) ∈ sc.names ∧ ∃ d, p.2 = .d d)
    (hif : ∀ a ∈ l, EvIfs (cOf c sc) (upd Γ' x (.d (enc a))) [] ifs (p a)) (he : ∀ a ∈ l, p a = true → EvF (cOf c sc) (upd Γ' x (.d (enc a))) [] elt (G a))
    (hy : c.sc.names.lookup y = some .local) (h : P .next (upd Γ y (.d (.list ((l.filter p).map G)))) Δ)
    (hl : (py.line == pos.line) = true := by rfl) (hno : (sc.names.any fun (n, k) => n == y && (k == .local || k == .cell)) = false := by decide +kernel)
    (hs : ∀ env x, foldedSetIterable iter env x = pure x := by intro _ _; rfl) : Ex1 c Γ Δ (.Assign [.Name y py] (.ListComp elt [⟨.Name x px, iter, ifs, 0⟩] sc pos) spos) P := by
  rw [← filterX p G l] at h
  refine ex_assign_compI hi C hx (by simpa using hsz) hΓ (by simp) (fun i d o h1 h2 => ?_) (fun i d v h1 h2 => ?_) hy h hl hno hs
  · obtain ⟨a, ha, rfl, rfl⟩ := outX h1 h2
    have := hif a ha
    cases q : p a <;> rw [q] at this <;> simpa using this
  · obtain ⟨a, ha, rfl, h3⟩ := outX h1 h2
    cases q : p a <;> rw [q] at h3
    · cases h3
    · simp at h3; subst h3; exact he a ha q
theorem ex_assign_compY {α : Type} (enc G : α → D) (l : List α) {y : Str} {py spos : Pos} {elt iter : Expr} {x : Str} {px pos : Pos} {sc : Scope} (Γ' : Gam) (hi : EvI false c Γ Δ iter (l.map enc)) (C : CScope c sc) (hx : Sto (cOf c sc) x) (hsz : l.length ≤ 100000)
    (hΓ : ∀ p ∈ Γ', p ∈ Γ ∧ (p.1, NameKind.free) ∈ sc.names ∧ ∃ d, p.2 = .d d)
    (he : ∀ a ∈ l, EvF (cOf c sc) (upd Γ' x (.d (enc a))) [] elt (G a))
    (hy : c.sc.names.lookup y = some .local) (h : P .next (upd Γ y (.d (.list (l.map G)))) Δ)
    (hl : (py.line == pos.line) = true := by rfl) (hno : (sc.names.any fun (n, k) => n == y && (k == .local || k == .cell)) = false := by decide +kernel)
    (hs : ∀ env x, foldedSetIterable iter env x = pure x := by intro _ _; rfl) : Ex1 c Γ Δ (.Assign [.Name y py] (.ListComp elt [⟨.Name x px, iter, [], 0⟩] sc pos) spos) P :=
  ex_assign_compX (ifs := []) enc G l (fun _ => true) Γ' hi C hx hsz hΓ (fun a _ => evifs_nil) (fun a ha _ => he a ha) hy (by rwa [show l.filter (fun _ => true) = l by simp]) hl hno hs
end
end Mine

set_option maxRecDepth 100000
set_option autoImplicit false
set_option linter.unusedVariables false
set_option maxHeartbeats 1000000
namespace Mine
open PySem PySem.W PySem.Calls PyProof.Rows
/-- the law is entered with its list of ints -/
theorem law_enter {X : GCtx} {dr : DefRec} {n : Nat} {x : Str} {A : Around} {s : Shared} {a fa : Addr} {o : Obj} {pm code doc : Value} {vs : List Value} {ns : List Int} {Q : Value → Shared → Prop} {E : Value → Shared → Prop}
    (h2 : s.heap.get? fa = some o) (h3 : o.data = .func (docDef dr.name dr.params dr.body dr.scope pm code doc)) (h4 : s.heap.CodeRec code dr.name) (G : Glo X s.heap) (hA : A.handled = none) (hfr : A.frames = some []) (hdp : A.depth + (n + 1) < recursionLimit) (hu : A.units + 8 * (n + 1) + 200 < cLine)
    (hl : s.heap.IsList a vs.toArray) (hI : IntsAre vs ns)
    (hbind : ∀ pm code doc v, bindArgs (docDef dr.name dr.params dr.body dr.scope pm code doc) ⟨[v], []⟩ = pure [(x, v)]) (hloc : dr.scope.names.lookup x = some .local) (hnc : ∀ x ∈ ownCells dr.scope, dr.scope.names.lookup x = some .cell) (hnd : ((cellsFrom 0 dr.scope.names []).map (·.1)).Nodup)
    (hnf : ∀ p ∈ dr.scope.names, p.2 ≠ .free) (hk : dr.scope.kind = .function) (hco : dr.scope.isCoroutine = false) (hgen : dr.scope.isGenerator = false)
    (h : Exs ⟨X, n, dr.scope, ownCells dr.scope, true, true⟩ [(x, .arg ns)] [] dr.body fun o _ _ => o = .ret (.bool true))
    (hQ : ∀ h' tk, (∀ b o, s.heap.get? b = some o → h'.get? b = some o) → Q (.bool true) { s with heap := h', toks := tk }) : wpAny (model X.prog X.w) A (call (.ref fa) [.ref a]) Q E s := by
  obtain ⟨ol, hol, hlc, nl, hld⟩ := hl
  let g : Fz := fun b => if b = a then some ol else none
  have hs : ∀ b o, g b = some o → s.heap.get? b = some o := fun b o e => by
    show s.heap.get? b = some o
    have e : (if b = a then some ol else none) = some o := e
    split at e
    · rename_i q; rw [q, hol]; exact e
    · cases e
  have ga : g a = some ol := if_pos rfl
  refine wpAny_mono (E := fun _ _ => False) (Q := Q) ?_ (fun _ _ q => q) fun _ _ q => q.elim
  refine wpAny_call (codeAny_call_cells (fd := docDef dr.name dr.params dr.body dr.scope pm code doc) (body := dr.body) (binds := [(x, .ref a)]) (by omega) h2 h3 G.nolimit h4 rfl (hbind pm code doc _) rfl (fun y hy => ?_) (fun s₁ ic => ?_) hco hgen hk)
  · rw [List.mem_singleton.mp hy]; exact .inl hloc
  · obtain ⟨h₁, tk, rfl, hkeep⟩ := ic.done
    let env : Env := callEnvC (docDef dr.name dr.params dr.body dr.scope pm code doc) s.heap.objs.size fa
    let fr : Frm := ⟨A.deeper env, env, s.heap, g, env.cells.map (·.2), s.heap⟩
    have hL : s.heap.get? s.heap.objs.size = none := fresh_size
    have fresh : ∀ b, s.heap.objs.size ≤ b → s.heap.get? b = none := fun b hb => by
      cases q : s.heap.get? b with
      | none => rfl
      | some o => exact absurd (Heap.lt_size q) (Nat.not_lt.mpr hb)
    have gfresh : ∀ b, s.heap.get? b = none → g b = none := fun b hb => by
      cases q : g b with
      | none => rfl
      | some o => rw [hs b o q] at hb; cases hb
    have O : Okf ⟨X, n, dr.scope, ownCells dr.scope, true, true⟩ fr := by
      refine ⟨fun _ => hA, fun _ => ⟨?_, rfl⟩, ?_, ?_, rfl, hk, rfl, rfl, G, fun _ _ e => e, fun x hx => ⟨hnc x hx, ?_⟩, fun x hx => ?_, fun x y a e1 e2 _ => pairwise_uniq ic.apart e1 e2⟩
      · show A.frames.map (env :: ·) = some [env]
        rw [hfr]; rfl
      · have e : fr.A.depth = A.depth + 1 := rfl
        have e2 : (⟨X, n, dr.scope, ownCells dr.scope, true, true⟩ : Cfg).n = n := rfl
        rw [e, e2]; omega
      · have e : fr.A.units = A.units + 3 := rfl
        have e2 : (⟨X, n, dr.scope, ownCells dr.scope, true, true⟩ : Cfg).n = n := rfl
        rw [e, e2]; omega
      · obtain ⟨p, hp, rfl⟩ := List.mem_map.mp hx
        obtain ⟨hp1, hp2⟩ := List.mem_filter.mp hp
        have e : p.2 = .cell := by simpa using hp2
        have this : (p.1, NameKind.cell) ∈ dr.scope.names := by rw [← e]; exact hp1
        obtain ⟨a, ha⟩ := Option.isSome_iff_exists.mp (mem_cellsFrom (x := p.1) dr.scope.names (s.heap.objs.size + 1) [] (.inl this))
        exact ⟨a, ha, List.mem_map.mpr ⟨_, mem_of_lookup ha, rfl⟩⟩
      · rcases hx with e | e
        · obtain ⟨a, ha⟩ := Option.isSome_iff_exists.mp (mem_cellsFrom (x := x) dr.scope.names (s.heap.objs.size + 1) [] (.inl (mem_of_lookup e)))
          exact ⟨a, ha, .inl (List.mem_map.mpr ⟨_, mem_of_lookup ha, rfl⟩)⟩
        · exact absurd rfl (hnf _ (mem_of_lookup e))
    have S : St fr [(x, .arg ns)] [] h₁ g [] := by
      refine ⟨hkeep, fun b o e => hkeep b o (hs b o e), fun _ _ e => e, fun _ _ e => .inl e, gfresh _ hL, hL, ⟨_, ic.toInCall.ns, fun p hp => ?_⟩, fun a ha => ?_, rfl, List.nodup_nil, fun i a ds h1 _ => by simp at h1⟩
      · rw [List.mem_singleton.mp hp]
        exact ⟨.ref a, .arg ns a ol vs nl ga hlc hld hI, .loc hloc (bindL_at (kindOf := env.kindOf) hloc _ _ (by simp) (by simp))⟩
      · obtain ⟨q, hq, rfl⟩ := List.mem_map.mp ha
        have hlk : env.cells.lookup q.1 = some q.2 := lookup_of_mem_nodup (cellsFrom_names dr.scope.names 0 (s.heap.objs.size + 1) [] [] rfl ▸ hnd) hq
        have hab := ic.above _ _ hq
        have hn := fresh q.2 (Nat.le_of_lt hab)
        exact ⟨⟨_, ic.cell _ _ hlk⟩, gfresh _ hn, hn, Nat.ne_of_gt hab, by simp⟩
    refine wpAny_mono (h fr _ g [] O S (fun f s' => ∃ v, f = .ret v ∧ Q v s') fun o f Γ' Δ' h' g' am' tk' hp hf S' => ?_) (fun f s' hq => ?_) fun _ _ x => x.elim
    · cases hf with
      | ret d' v r =>
        cases hp
        cases r
        exact ⟨_, rfl, hQ h' tk' S'.keep⟩
      | _ => cases hp
    · obtain ⟨v, rfl, hq⟩ := hq; exact hq

/-! the world of the top -/
theorem tm_of {X : GCtx} {K : Frag} {h : Heap} {a : Addr} {es : Array DictEntry} {ep : Nat} (XI : K.In h) (G : h.Ns mainGlobals X.mg) (e1 : nsIn K mainGlobals (Str.ofString "_special_chars_map") = some (some (.ref a))) (hsm : (a == sysModules) = false)
    (e2 : K.lookup a = some { cls := .type "dict", data := .dict es ep }) (hc : chkTM es = true) : TM X h := by
  refine ⟨a, mg_of XI G e1, hsm, fun k => findBy (intKind X.prog X.w).is es k, ⟨_, es, ep, XI _ _ e2, ⟨rfl, rfl, rfl⟩, rfl, fun e he => ?_, fun k => rfl⟩, fun k h1 h2 => ?_⟩
  · have := Array.all_eq_true'.mp hc e he
    split at this
    · rename_i k t hk
      simp only [Bool.and_eq_true, beq_iff_eq] at this
      exact ⟨k, by rw [hk]; simp [intKind, Value.isInt], this.1⟩
    · cases this
  · unfold findBy
    have : es.find? (fun e => (intKind X.prog X.w).is (k : Int) e.key) = none := by
      rw [Array.find?_eq_none]
      intro e he hi
      have := Array.all_eq_true'.mp hc e he
      split at this
      · rename_i k' t hk
        rw [hk] at hi
        simp [intKind, Value.isInt] at hi
        simp only [Bool.and_eq_true, Bool.not_eq_true', Bool.and_eq_false_iff, decide_eq_false_iff_not] at this
        omega
      · cases this
    simp [this]
theorem tm_chk {X : GCtx} {K : Frag} {h : Heap} (XI : K.In h) (G : h.Ns mainGlobals X.mg) (e : chkK K = true) : TM X h := by
  unfold chkK at e
  split at e
  · rename_i a e1
    simp only [Bool.and_eq_true, Bool.not_eq_true'] at e
    obtain ⟨e0, e⟩ := e
    split at e
    · rename_i t es n sl e2
      simp only [Bool.and_eq_true, beq_iff_eq, Array.isEmpty_iff] at e
      obtain ⟨⟨rfl, rfl⟩, e4⟩ := e
      exact tm_of XI G e1 e0 e2 e4
    · cases e
  · cases e
theorem glo_of {p : Program} {loose : List Str} {mean : ExcName → Option Value} {h : Heap} {X : GCtx} (T : Top p loose mean X.mg X.mb h) (hd : ∀ d ∈ X.defs, d ∈ recsOf p) (hb : ∀ x ∈ X.bl, x ≠ Str.ofString "__name__" ∧ x ∉ startupNames ∧ x ∉ loose ∧ x ∉ (recsOf p).map (·.name) ∧ x ∉ (litsOf p).map (·.1) ∧ x ∉ (clssOf p loose).map (·.name)) (htm : X.tm h) : Glo X h where
  g := T.g
  b := T.b
  nolimit := T.nolimit
  fn := fun d hm => T.fn d (hd d hm)
  bl := fun x hx => let ⟨h0, h1, h2, h3, h4, h5⟩ := hb x hx; ⟨T.free x h1 h2 h3 h4 h5, T.builtins x h0⟩
  tm := htm
end Mine

set_option maxRecDepth 100000
set_option autoImplicit false
set_option linter.unusedVariables false
set_option maxHeartbeats 1000000
namespace Mine
open PySem PySem.W PySem.Calls PyProof.Rows
section
variable {c : Cfg} {Γ : Gam} {Δ : Del} {P : Post}
/-- a def of one argument, the law's list of ints -/
structure SpecA (X : GCtx) (f : Str) (n : Nat) (ns : List Int) (d : D) : Prop where
  df : ∃ dr ∈ X.defs, dr.name = f
  run : ∀ (A : Around) (s : Shared) (g : Fz) (fa : Addr) (v : Value), A.handled = none → A.depth + n < recursionLimit → A.units + 8 * n + 200 < cLine → Glo X s.heap → (∀ b o, g b = some o → s.heap.get? b = some o) →
    X.mg f = some (.ref fa) → EV g [] (.arg ns) v → ∀ Q : Value → Shared → Prop, (∀ v h' g' tk, Gr s.heap g h' g' → Rep g' d v → Q v { s with heap := h', toks := tk }) →
    wpAny (model X.prog X.w) A (call (.ref fa) [v]) Q (fun _ _ => False) s
theorem ev_call_arg {f x : Str} {p px pos : Pos} {m : Nat} {ns : List Int} {d : D} (hm : (x, V.arg ns) ∈ Γ) (hs : SpecA c.X f m ns d) (hle : m ≤ c.n) (hk : c.sc.names.lookup f = some .globalImplicit)
    (hd : (f == ("__debug__" : Str)) = false := by decide) (hh : c.hd = true := by rfl) (hdx : (x == ("__debug__" : Str)) = false := by decide) (hcx : (x == ("__classdict__" : Str)) = false := by decide) : EvF c Γ Δ (.Call (.Name f p) [.Name x px] [] pos) d := fun fr s g am O S Q hQ => by
  obtain ⟨dr, hdr, hf⟩ := hs.df
  obtain ⟨a, o, pm, code, doc, h1, h2, h3, h4⟩ := O.glo.fn dr hdr
  rw [hf] at h1
  obtain ⟨m', hn, hp⟩ := S.loc
  obtain ⟨v, e1, e2⟩ := hp _ hm
  refine Call_ (Name_function_global (O.sc ▸ O.kind) (by unfold Env.kindOf; rw [O.sc]; exact hk) (loadGlobal_global (O.glob ▸ (O.glo.g.keeps S.keep)) h1 (callWith_def h3 (args_cons (wpAny_Name (load_At O S hn e2 hcx (args_nil ⟨?_, ?_⟩)) hdx) rfl) rfl)) hd)
  · exact S.keep _ _ h2
  · have hu := O.units
    have hdp := O.depth
    refine hs.run fr.A _ g a v (O.hand hh) (by omega) (by omega) (O.glo.keeps S.keep) S.sub h1 ?_ Q fun v h2 g2 t2 k2 r2 => hQ v h2 g2 t2 k2 r2
    cases e1 with
    | arg ns a o vs n ho hc hd hI => exact .arg ns a o vs n ho hc hd hI
theorem specA_def {X : GCtx} {dr : DefRec} {n : Nat} {x : Str} {ns : List Int} {d : D} (hdr : dr ∈ X.defs)
    (hbind : ∀ pm code doc v, bindArgs (docDef dr.name dr.params dr.body dr.scope pm code doc) ⟨[v], []⟩ = pure [(x, v)]) (hloc : dr.scope.names.lookup x = some .local) (hnc : ∀ x ∈ ownCells dr.scope, dr.scope.names.lookup x = some .cell) (hnd : ((cellsFrom 0 dr.scope.names []).map (·.1)).Nodup)
    (hnf : ∀ p ∈ dr.scope.names, p.2 ≠ .free) (hk : dr.scope.kind = .function) (hco : dr.scope.isCoroutine = false) (hgen : dr.scope.isGenerator = false)
    (h : Exs ⟨X, n, dr.scope, ownCells dr.scope, true, false⟩ [(x, .arg ns)] [] dr.body fun o _ _ => match o with | .ret d' => d' = d | _ => False) : SpecA X dr.name (n + 1) ns d := by
  refine ⟨⟨dr, hdr, rfl⟩, fun A s g fa v hA hdp hu G hs hmg hv Q hQ => ?_⟩
  obtain ⟨a, o, pm, code, doc, h1, h2, h3, h4⟩ := G.fn dr hdr
  rw [hmg] at h1
  cases h1
  refine wpAny_call (codeAny_call_cells (fd := docDef dr.name dr.params dr.body dr.scope pm code doc) (body := dr.body) (binds := [(x, v)]) (by omega) h2 h3 G.nolimit h4 rfl (hbind pm code doc _) rfl (fun y hy => ?_) (fun s₁ ic => ?_) hco hgen hk)
  · rw [List.mem_singleton.mp hy]; exact .inl hloc
  · obtain ⟨h₁, tk, rfl, hkeep⟩ := ic.done
    let env : Env := callEnvC (docDef dr.name dr.params dr.body dr.scope pm code doc) s.heap.objs.size fa
    let fr : Frm := ⟨A.deeper env, env, s.heap, g, env.cells.map (·.2), s.heap⟩
    have hL : s.heap.get? s.heap.objs.size = none := fresh_size
    have fresh : ∀ b, s.heap.objs.size ≤ b → s.heap.get? b = none := fun b hb => by
      cases q : s.heap.get? b with
      | none => rfl
      | some o => exact absurd (Heap.lt_size q) (Nat.not_lt.mpr hb)
    have gfresh : ∀ b, s.heap.get? b = none → g b = none := fun b hb => by
      cases q : g b with
      | none => rfl
      | some o => rw [hs b o q] at hb; cases hb
    have O : Okf ⟨X, n, dr.scope, ownCells dr.scope, true, false⟩ fr := by
      refine ⟨fun _ => hA, (fun h => nomatch h), ?_, ?_, rfl, hk, rfl, rfl, G, fun _ _ e => e, fun x hx => ⟨hnc x hx, ?_⟩, fun x hx => ?_, fun x y a e1 e2 _ => pairwise_uniq ic.apart e1 e2⟩
      · have e : fr.A.depth = A.depth + 1 := rfl
        have e2 : (⟨X, n, dr.scope, ownCells dr.scope, true, false⟩ : Cfg).n = n := rfl
        rw [e, e2]; omega
      · have e : fr.A.units = A.units + 3 := rfl
        have e2 : (⟨X, n, dr.scope, ownCells dr.scope, true, false⟩ : Cfg).n = n := rfl
        rw [e, e2]; omega
      · obtain ⟨p, hp, rfl⟩ := List.mem_map.mp hx
        obtain ⟨hp1, hp2⟩ := List.mem_filter.mp hp
        have e : p.2 = .cell := by simpa using hp2
        have this : (p.1, NameKind.cell) ∈ dr.scope.names := by rw [← e]; exact hp1
        obtain ⟨a, ha⟩ := Option.isSome_iff_exists.mp (mem_cellsFrom (x := p.1) dr.scope.names (s.heap.objs.size + 1) [] (.inl this))
        exact ⟨a, ha, List.mem_map.mpr ⟨_, mem_of_lookup ha, rfl⟩⟩
      · rcases hx with e | e
        · obtain ⟨a, ha⟩ := Option.isSome_iff_exists.mp (mem_cellsFrom (x := x) dr.scope.names (s.heap.objs.size + 1) [] (.inl (mem_of_lookup e)))
          exact ⟨a, ha, .inl (List.mem_map.mpr ⟨_, mem_of_lookup ha, rfl⟩)⟩
        · exact absurd rfl (hnf _ (mem_of_lookup e))
    have S : St fr [(x, .arg ns)] [] h₁ g [] := by
      refine ⟨hkeep, fun b o e => hkeep b o (hs b o e), fun _ _ e => e, fun _ _ e => .inl e, gfresh _ hL, hL, ⟨_, ic.toInCall.ns, fun p hp => ?_⟩, fun a ha => ?_, rfl, List.nodup_nil, fun i a ds h1 _ => by simp at h1⟩
      · rw [List.mem_singleton.mp hp]
        exact ⟨v, hv, .loc hloc (bindL_at (kindOf := env.kindOf) hloc _ _ (by simp) (by simp))⟩
      · obtain ⟨q, hq, rfl⟩ := List.mem_map.mp ha
        have hlk : env.cells.lookup q.1 = some q.2 := lookup_of_mem_nodup (cellsFrom_names dr.scope.names 0 (s.heap.objs.size + 1) [] [] rfl ▸ hnd) hq
        have hab := ic.above _ _ hq
        have hn := fresh q.2 (Nat.le_of_lt hab)
        exact ⟨⟨_, ic.cell _ _ hlk⟩, gfresh _ hn, hn, Nat.ne_of_gt hab, by simp⟩
    refine wpAny_mono (h fr _ g [] O S (fun f s' => ∃ v, f = .ret v ∧ Q v s') fun o f Γ' Δ' h' g' am' tk' hp hf S' => ?_) (fun f s' hq => ?_) fun _ _ x => x.elim
    · cases hf with
      | ret d' v r => cases hp; exact ⟨v, rfl, hQ v h' g' tk' ⟨S'.keep, S'.gsub, S'.sub, S'.own⟩ r⟩
      | _ => exact hp.elim
    · obtain ⟨v, rfl, hq⟩ := hq; exact hq
end
end Mine

set_option maxRecDepth 100000
set_option autoImplicit false
set_option linter.unusedVariables false
set_option maxHeartbeats 1000000
namespace Mine
open PySem PySem.W PySem.Calls PyProof.Rows

/-! the sort's questions, answered by a plain order -/
noncomputable def Kw (n : Nat) (f : Nat → Nat → Bool) {α : Type} : KasT α → (α → Prop) → Prop
  | .ret a, Q => Q a
  | .ask i j k, Q => i < n ∧ j < n ∧ Kw n f (k (f i j)) Q
theorem Kw.bind {n : Nat} {f : Nat → Nat → Bool} {α β : Type} {g : α → KasT β} {Q : β → Prop} : ∀ {t : KasT α}, Kw n f t (fun a => Kw n f (g a) Q) → Kw n f (t.bind g) Q
  | .ret _, h => h
  | .ask i j k, h => ⟨h.1, h.2.1, Kw.bind (t := k (f i j)) h.2.2⟩
theorem Kw.wp {n : Nat} {f : Nat → Nat → Bool} {α : Type} {cmp : Nat → Nat → (Bool → Shared → Prop) → Shared → Prop} {I : Shared → Prop} {Q : α → Prop} {R : α → Shared → Prop} (hc : ∀ i j C s, i < n → j < n → I s → (∀ s', I s' → C (f i j) s') → cmp i j C s)
    (hR : ∀ a s', Q a → I s' → R a s') : ∀ {t : KasT α} {s : Shared}, Kw n f t Q → I s → t.kasWp cmp R s
  | .ret _, s, h, i => hR _ s h i
  | .ask i j k, s, h, hi => hc i j _ s h.1 h.2.1 hi fun s' hi' => Kw.wp hc hR (t := k (f i j)) h.2.2 hi'
structure Arr (n : Nat) (p : Array Nat) : Prop where
  perm : p.toList.Perm (List.range n)
theorem Arr.size {n : Nat} {p : Array Nat} (h : Arr n p) : p.size = n := by have := h.perm.length_eq; simpa using this
theorem Arr.getD {n : Nat} {p : Array Nat} (h : Arr n p) {i : Nat} (hi : i < n) : ∃ q : i < p.size, p.getD i 0 = p[i] := by
  have q : i < p.size := by rw [h.size]; exact hi
  exact ⟨q, by simp [Array.getD, q]⟩
theorem Arr.lt {n : Nat} {p : Array Nat} (h : Arr n p) {i : Nat} (hi : i < n) : p.getD i 0 < n := by
  obtain ⟨q, e⟩ := h.getD hi
  rw [e]
  have : p[i] ∈ List.range n := h.perm.mem_iff.mp (by simp)
  exact List.mem_range.mp this
theorem Arr.inj {n : Nat} {p : Array Nat} (h : Arr n p) {i j : Nat} (hi : i < n) (hj : j < n) (hij : i ≠ j) : p.getD i 0 ≠ p.getD j 0 := by
  obtain ⟨q, e⟩ := h.getD hi
  obtain ⟨q', e'⟩ := h.getD hj
  rw [e, e']
  have hn : p.toList.Nodup := h.perm.nodup_iff.mpr List.nodup_range
  intro he
  have := (List.getElem_inj (i := i) (j := j) (h₀ := by simpa using q) (h₁ := by simpa using q') hn).mp (by simpa using he)
  exact hij this
theorem Arr.of_perm {n : Nat} {p p' : Array Nat} (h : Arr n p) (k : p'.Perm p) : Arr n p' := ⟨k.toList.trans h.perm⟩
def Up (f : Nat → Nat → Bool) (p : Array Nat) (k : Nat) : Prop := ∀ i j, i < j → j < k → f (p.getD i 0) (p.getD j 0) = true
def Dn (f : Nat → Nat → Bool) (p : Array Nat) (k : Nat) : Prop := ∀ i j, i < j → j < k → f (p.getD j 0) (p.getD i 0) = true
structure Lin (n : Nat) (f : Nat → Nat → Bool) : Prop where
  tr : ∀ a b c, f a b = true → f b c = true → f a c = true
  asym : ∀ a b, f a b = true → f b a = false
  tot : ∀ a b, a < n → b < n → a ≠ b → f a b = false → f b a = true
section
variable {n : Nat} {f : Nat → Nat → Bool} {p : Array Nat}
theorem Up.one : Up f p 1 := fun i j h1 h2 => by omega
theorem Dn.one : Dn f p 1 := fun i j h1 h2 => by omega
theorem Up.snoc (L : Lin n f) {k : Nat} (hk : 1 ≤ k) (h : Up f p k) (hn : f (p.getD (k - 1) 0) (p.getD k 0) = true) : Up f p (k + 1) := fun i j h1 h2 => by
  by_cases q : j < k
  · exact h i j h1 q
  · have e : j = k := by omega
    subst e
    by_cases q2 : i = j - 1
    · rw [q2]; exact hn
    · exact L.tr _ _ _ (h i (j - 1) (by omega) (by omega)) hn
theorem Dn.snoc (L : Lin n f) {k : Nat} (hk : 1 ≤ k) (h : Dn f p k) (hn : f (p.getD k 0) (p.getD (k - 1) 0) = true) : Dn f p (k + 1) := fun i j h1 h2 => by
  by_cases q : j < k
  · exact h i j h1 q
  · have e : j = k := by omega
    subst e
    by_cases q2 : i = j - 1
    · rw [q2]; exact hn
    · exact L.tr _ _ _ hn (h i (j - 1) (by omega) (by omega))
theorem kw_asc (L : Lin n f) (A : Arr n p) {Q : Nat → Prop} : ∀ (fuel k : Nat), 1 ≤ k → k + fuel ≤ n → Up f p k → (∀ m, k ≤ m → m ≤ k + fuel → Up f p m → (m < k + fuel → f (p.getD m 0) (p.getD (m - 1) 0) = true) → Q m) → Kw n f (kas_asc p fuel k) Q
  | 0, k, h1, h2, hu, hq => hq k (Nat.le_refl _) (Nat.le_refl _) hu fun h => by omega
  | fuel + 1, k, h1, h2, hu, hq => by
    refine ⟨A.lt (by omega), A.lt (by omega), ?_⟩
    cases e : f (p.getD k 0) (p.getD (k - 1) 0) with
    | true =>
      dsimp only
      rw [if_pos rfl]
      exact hq k (Nat.le_refl _) (by omega) hu fun _ => e
    | false =>
      dsimp only
      rw [if_neg (by simp)]
      refine kw_asc L A fuel (k + 1) (by omega) (by omega) (hu.snoc L h1 (L.tot _ _ (A.lt (by omega)) (A.lt (by omega)) (A.inj (by omega) (by omega) (by omega)) e)) fun m h3 h4 h5 h6 => hq m (by omega) (by omega) h5 fun h => h6 (by omega)
theorem kw_desc (L : Lin n f) (A : Arr n p) {Q : Array Nat × Nat × Nat → Prop} : ∀ (fuel k : Nat), 1 ≤ k → k + fuel ≤ n → Dn f p k → (∀ m, k ≤ m → m ≤ k + fuel → Dn f p m → Q (p, m, 0)) → Kw n f (kas_desc fuel p k 0) Q
  | 0, k, h1, h2, hu, hq => hq k (Nat.le_refl _) (Nat.le_refl _) hu
  | fuel + 1, k, h1, h2, hu, hq => by
    refine ⟨A.lt (by omega), A.lt (by omega), ?_⟩
    cases e : f (p.getD k 0) (p.getD (k - 1) 0) with
    | true =>
      dsimp only
      rw [if_pos rfl, if_neg (by omega)]
      exact kw_desc L A fuel (k + 1) (by omega) (by omega) (hu.snoc L h1 e) fun m h3 h4 h5 => hq m (by omega) (by omega) h5
    | false =>
      dsimp only
      rw [if_neg (by simp)]
      refine ⟨A.lt (by omega), A.lt (by omega), ?_⟩
      rw [L.tot _ _ (A.lt (by omega)) (A.lt (by omega)) (A.inj (by omega) (by omega) (by omega)) e]
      dsimp only
      rw [if_pos rfl]
      exact hq k (Nat.le_refl _) (by omega) hu
theorem Arr.rev (A : Arr n p) (i j : Nat) : Arr n (kas_rev p i j) := A.of_perm (mirror_perm _ _ _ _)
theorem rev_getD {k : Nat} (A : Arr n p) (hk : k ≤ n) {i : Nat} (hi : i < k) : (kas_rev p 0 k).getD i 0 = p.getD (k - 1 - i) 0 := by
  have h := getElem?_mirror_all (xs := p) (i := 0) (j := k) (by rw [A.size]; exact hk) i
  rw [if_pos ⟨Nat.zero_le _, hi⟩, Nat.zero_add] at h
  rw [Array.getD_eq_getD_getElem?, Array.getD_eq_getD_getElem?]
  exact congrArg (fun o => o.getD 0) h
theorem Dn.up {k : Nat} (A : Arr n p) (hk : k ≤ n) (h : Dn f p k) : Up f (kas_rev p 0 k) k := fun i j h1 h2 => by
  rw [rev_getD A hk (by omega), rev_getD A hk h2]
  exact h _ _ (by omega) (by omega)
theorem kw_count (L : Lin n f) (hn : 2 ≤ n) (A : Arr n p) {Q : Nat × Array Nat → Prop} (hq : ∀ m p', 1 ≤ m → m ≤ n → Arr n p' → Up f p' m → Q (m, p')) : Kw n f (kas_count n p) Q := by
  unfold kas_count
  refine Kw.bind (kw_asc L A (n - 1) 1 (Nat.le_refl _) (by omega) Up.one fun m h1 h2 h3 h4 => ?_)
  by_cases e : m = n
  · rw [if_pos (by simp [e])]
    exact hq m p h1 (by omega) A h3
  · rw [if_neg (by simp [e])]
    by_cases h : m > 1
    · rw [if_pos h]
      refine ⟨A.lt (by omega), A.lt (by omega), ?_⟩
      rw [h3 0 (m - 1) (by omega) (by omega)]
      dsimp only
      rw [if_pos rfl]
      exact hq m p h1 (by omega) A h3
    · rw [if_neg h]
      have e1 : m = 1 := by omega
      subst e1
      have hd : Dn f p 2 := Dn.one.snoc L (Nat.le_refl _) (h4 (by omega))
      unfold kas_descPart
      refine Kw.bind (kw_desc L A (n - 2) 2 (by omega) (by omega) hd fun k h5 h6 h7 => ?_)
      rw [if_neg (by simp)]
      show Kw n f (kas_tail3 k n p) Q
      unfold kas_tail3
      exact Kw.bind (kw_asc L (A.rev 0 k) (n - k) k (by omega) (by omega) (h7.up A (by omega)) fun j h8 h9 h10 _ => hq j _ (by omega) (by omega) (A.rev 0 k) h10)
theorem kw_place (L : Lin n f) (A : Arr n p) {k : Nat} (hk : k < n) (hu : Up f p k) {Q : Nat → Prop} : ∀ (fuel l r : Nat), l ≤ r → r ≤ k → r - l ≤ fuel → (∀ i, i < l → f (p.getD i 0) (p.getD k 0) = true) → (∀ i, r ≤ i → i < k → f (p.getD k 0) (p.getD i 0) = true) →
    (∀ l', l' ≤ k → (∀ i, i < l' → f (p.getD i 0) (p.getD k 0) = true) → (∀ i, l' ≤ i → i < k → f (p.getD k 0) (p.getD i 0) = true) → Q l') → Kw n f (kas_place p k fuel l r) Q
  | 0, l, r, h1, h2, h3, h4, h5, hq => hq l (by omega) h4 fun i h6 h7 => h5 i (by omega) h7
  | fuel + 1, l, r, h1, h2, h3, h4, h5, hq => by
    unfold kas_place
    by_cases e : l ≥ r
    · rw [if_pos e]
      exact hq l (by omega) h4 fun i h6 h7 => h5 i (by omega) h7
    · rw [if_neg e]
      refine ⟨A.lt (by omega), A.lt (by omega), ?_⟩
      have hm : (l + r) / 2 < k := by omega
      cases c : f (p.getD k 0) (p.getD ((l + r) / 2) 0) with
      | true =>
        dsimp only
        rw [if_pos rfl]
        refine kw_place L A hk hu fuel l ((l + r) / 2) (by omega) (by omega) (by omega) h4 (fun i h6 h7 => ?_) hq
        by_cases q : i = (l + r) / 2
        · rw [q]; exact c
        · exact L.tr _ _ _ c (hu _ _ (by omega) h7)
      | false =>
        dsimp only
        rw [if_neg (by simp)]
        have c' := L.tot _ _ (A.lt (by omega)) (A.lt (by omega)) (A.inj (by omega) (by omega) (by omega)) c
        refine kw_place L A hk hu fuel ((l + r) / 2 + 1) r (by omega) h2 (by omega) (fun i h6 => ?_) h5 hq
        by_cases q : i = (l + r) / 2
        · rw [q]; exact c'
        · exact L.tr _ _ _ (hu i ((l + r) / 2) (by omega) (by omega)) c'
theorem bubble_getD {k l : Nat} (A : Arr n p) (hk : k < n) (hl : l ≤ k) (i : Nat) : (bubble p k (k - l)).getD i 0 = if i = l then p.getD k 0 else if l < i ∧ i ≤ k then p.getD (i - 1) 0 else p.getD i 0 := by
  have h := getElem?_bubble (xs := p) (src := k) (by rw [A.size]; exact hk) (k - l) (by omega) i
  rw [show k - (k - l) = l by omega] at h
  simp only [Array.getD_eq_getD_getElem?]
  rw [h]
  split
  · rfl
  · split <;> rfl
theorem Up.bubble (L : Lin n f) {k l : Nat} (A : Arr n p) (hk : k < n) (hl : l ≤ k) (hu : Up f p k) (h4 : ∀ i, i < l → f (p.getD i 0) (p.getD k 0) = true) (h5 : ∀ i, l ≤ i → i < k → f (p.getD k 0) (p.getD i 0) = true) : Up f (bubble p k (k - l)) (k + 1) := fun i j h1 h2 => by
  rw [bubble_getD A hk hl, bubble_getD A hk hl]
  by_cases ei : i = l
  · rw [if_pos ei, if_neg (by omega), if_pos (by omega)]
    exact h5 _ (by omega) (by omega)
  · rw [if_neg ei]
    by_cases ej : j = l
    · rw [if_pos ej, if_neg (by omega)]
      exact h4 _ (by omega)
    · rw [if_neg ej]
      by_cases q : l < i
      · rw [if_pos (by omega), if_pos (by omega)]
        exact hu _ _ (by omega) (by omega)
      · rw [if_neg (by omega)]
        by_cases q2 : l < j
        · rw [if_pos (by omega)]
          exact hu _ _ (by omega) (by omega)
        · rw [if_neg (by omega)]
          exact hu _ _ h1 (by omega)
theorem kw_bin (L : Lin n f) {Q : Array Nat → Prop} : ∀ (fuel : Nat) (p : Array Nat) (k : Nat), Arr n p → Up f p k → k + fuel ≤ n → (∀ p', Arr n p' → Up f p' (k + fuel) → Q p') → Kw n f (kas_bin fuel p k) Q
  | 0, p, k, A, hu, hk, hq => hq p A hu
  | fuel + 1, p, k, A, hu, hk, hq => by
    unfold kas_bin
    refine Kw.bind (kw_place L A (by omega) hu k 0 k (Nat.zero_le _) (Nat.le_refl _) (by omega) (fun i h => by omega) (fun i h1 h2 => by omega) fun l h1 h2 h3 => ?_)
    refine kw_bin L fuel (bubble p k (k - l)) (k + 1) (A.of_perm (bubble_perm _ _ _)) (hu.bubble L A (by omega) h1 h2 h3) (by omega) fun p' a b => hq p' a ?_
    rwa [show k + (fuel + 1) = k + 1 + fuel by omega]
theorem kw_sort (L : Lin n f) (hn : 2 ≤ n) : Kw n f (kas_sort n) fun p => Arr n p ∧ Up f p n := by
  unfold kas_sort
  have A : Arr n (List.toArray (List.range n)) := ⟨by simp⟩
  refine Kw.bind (kw_count L hn A fun m p' h1 h2 h3 h4 => ?_)
  dsimp only
  by_cases e : m < n
  · rw [if_pos e]
    have em : max m 1 = m := by omega
    rw [em]
    refine kw_bin L (n - m) p' m h3 h4 (by omega) fun p'' a b => ⟨a, ?_⟩
    rwa [show m + (n - m) = n by omega] at b
  · rw [if_neg e]
    have em : m = n := by omega
    subst em
    exact ⟨h3, h4⟩
end
end Mine

set_option maxRecDepth 100000
set_option autoImplicit false
set_option linter.unusedVariables false
set_option maxHeartbeats 1000000
namespace Mine
open PySem PySem.W PySem.Calls PyProof.Rows

/-! pairs of ints, in order -/
def plt (a b : Int × Int) : Bool := decide (a.1 < b.1) || (decide (a.1 = b.1) && decide (a.2 < b.2))
theorem plt_tr (a b c : Int × Int) (h1 : plt a b = true) (h2 : plt b c = true) : plt a c = true := by
  unfold plt at *; simp at *; omega
theorem plt_asym (a b : Int × Int) (h : plt a b = true) : plt b a = false := by
  unfold plt at *; simp at *; omega
theorem plt_tot (a b : Int × Int) (hn : a ≠ b) (h : plt a b = false) : plt b a = true := by
  obtain ⟨a1, a2⟩ := a
  obtain ⟨b1, b2⟩ := b
  unfold plt at *
  simp at *; omega
def pf (ps : List (Int × Int)) (i j : Nat) : Bool := plt (ps.getD i (0, 0)) (ps.getD j (0, 0))
theorem lin_pf {ps : List (Int × Int)} (hn : ps.Nodup) : Lin ps.length (pf ps) where
  tr := fun a b c => plt_tr _ _ _
  asym := fun a b => plt_asym _ _
  tot := fun a b ha hb hab => plt_tot _ _ (by
    simp only [List.getD_eq_getElem?_getD, List.getElem?_eq_getElem ha, List.getElem?_eq_getElem hb, Option.getD_some]
    intro e
    exact hab ((List.getElem_inj hn).mp e))
inductive PAt (h : Heap) : List Value → List (Int × Int) → Prop
  | nil : PAt h [] []
  | cons {a : Addr} {p : Int × Int} {t u : Tok} {n : Nat} {vs : List Value} {ps : List (Int × Int)} (ho : h.get? a = some (tupO [.int p.1 t, .int p.2 u] n)) (r : PAt h vs ps) : PAt h (.ref a :: vs) (p :: ps)
theorem PAt.of {g : Fz} {h : Heap} (s : ∀ b o, g b = some o → h.get? b = some o) : ∀ {ps : List (Int × Int)} {vs : List Value}, Reps g (PL ps) vs → PAt h vs ps
  | [], _, .nil => .nil
  | p :: ps, _, .cons r t => by
    cases r with
    | tup xs a vs n ho hr =>
      cases hr with
      | cons r1 t1 => cases t1 with
        | cons r2 t2 =>
          cases t2
          cases r1
          cases r2
          exact .cons (s _ _ ho) (PAt.of s t)
theorem PAt.keeps {h h' : Heap} (k : ∀ b o, h.get? b = some o → h'.get? b = some o) : ∀ {ps : List (Int × Int)} {vs : List Value}, PAt h vs ps → PAt h' vs ps
  | _, _, .nil => .nil
  | _, _, .cons ho r => .cons (k _ _ ho) (PAt.keeps k r)
theorem PAt.length {h : Heap} : ∀ {ps : List (Int × Int)} {vs : List Value}, PAt h vs ps → vs.length = ps.length
  | _, _, .nil => rfl
  | _, _, .cons ho r => by simp [PAt.length r]
theorem PAt.get {h : Heap} : ∀ {ps : List (Int × Int)} {vs : List Value}, PAt h vs ps → ∀ i, i < vs.length → ∃ a t u n, vs.getD i Value.none = .ref a ∧ h.get? a = some (tupO [.int (ps.getD i (0, 0)).1 t, .int (ps.getD i (0, 0)).2 u] n)
  | _, _, .nil, i, hi => by simp at hi
  | _, _, .cons ho r, 0, hi => ⟨_, _, _, _, rfl, ho⟩
  | _, _, .cons ho r, i + 1, hi => PAt.get r i (by simpa using hi)
theorem PAt.tups {h : Heap} : ∀ {ps : List (Int × Int)} {vs : List Value}, PAt h vs ps → ∃ fs, KatTups h vs fs ∧ fs.length = vs.length ∧ ∀ f ∈ fs, ∃ i t, f = Value.int i t
  | _, _, .nil => ⟨[], .nil, rfl, by simp⟩
  | _, _, .cons ho r => by
    obtain ⟨fs, h1, h2, h3⟩ := PAt.tups r
    refine ⟨_ :: fs, .cons ho rfl rfl rfl h1, by simp [h2], fun f hf => ?_⟩
    rcases List.mem_cons.mp hf with rfl | hf
    · exact ⟨_, _, rfl⟩
    · exact h3 f hf
section
variable {prog : Program} {w : World} {A : Around} {E : Value → Shared → Prop} {s : Shared}
theorem pair_ask {vs : List Value} {ps : List (Int × Int)} (hp : PAt s.heap vs ps) {i j : Nat} (hi : i < vs.length) (hj : j < vs.length) {C : Bool → Shared → Prop} (h : C (pf ps i j) s) : kas_ask prog w A (tuples' true) vs i j C s := by
  obtain ⟨a, t, u, n, e1, ho⟩ := hp.get i hi
  obtain ⟨b, t', u', n', e2, ho'⟩ := hp.get j hj
  unfold kas_ask
  rw [e1, e2]
  unfold pf at h
  generalize ps.getD i (0, 0) = p at ho h
  generalize ps.getD j (0, 0) = q at ho' h
  refine kat_lt ho rfl ho' rfl ?_
  refine kat_cons (p := .int p.1 t) (q := .int q.1 t') (wpAny_eqBool_int (kat_go (fun e => kat_yes (kat_cons (p := .int p.2 u) (q := .int q.2 u') (wpAny_eqBool_int (kat_go (fun e' => kat_yes (kat_nil ?_)) (fun e' => kat_no (kat_one _ _ (lt_int ?_))))))) (fun e => kat_no (oneLt_int ?_))))
  · have e := beq_iff_eq.mp e
    have e' := beq_iff_eq.mp e'
    have : plt p q = false := by unfold plt; simp; omega
    rw [this] at h
    exact h
  · have e := beq_iff_eq.mp e
    have e' : p.2 ≠ q.2 := by simpa using e'
    have : plt p q = decide (p.2 < q.2) := by unfold plt; simp [e]
    rw [this] at h
    exact h
  · have e : p.1 ≠ q.1 := by simpa using e
    have : plt p q = decide (p.1 < q.1) := by unfold plt; simp [e]
    rw [this] at h
    exact h
theorem tup_sort {a : Addr} {vs : List Value} {ps : List (Int × Int)} {n : Nat} {P : PySem.Fin → Shared → Prop} (ho : s.heap.get? a = some (seqObj "list" vs.toArray n)) (hp : PAt (hideAll s.heap [a]) vs ps) (h2 : 2 ≤ vs.length) (h64 : vs.length < 64) (hnd : ps.Nodup)
    (h : ∀ p : Array Nat, Arr vs.length p → Up (pf ps) p vs.length → P (.done (.ret .none)) { s with heap := sortedHeap s.heap a vs (List.toArray (p.toList.map fun i => vs.getD i Value.none)) }) :
    wpAny (model prog w) A (Builtin.«list.sort» ⟨[.ref a], []⟩) P E s := by
  have ha : a < s.heap.objs.size := Heap.lt_size ho
  have hlen := hp.length
  rw [list_sort_plain]
  refine wpAny_bind (listItems_at ho rfl ?_)
  refine wpAny_bind (listUpdate_at ho rfl ?_ (by rw [List.size_toArray, sizeLine_eq]; omega) (Nat.zero_le _))
  obtain ⟨e1, ho1⟩ : ∃ e1, (s.heap.update a (Obj.mapSeq fun _ => (#[] : Array Value))).get? a = some (seqObj "list" #[] e1) := ⟨_, get?_update_seq ho fun _ => #[]⟩
  refine wpAny_bind (seqEpoch_at ho1 rfl ?_)
  refine wpAny_bind (wpAny_newTuple ?_ (by show vs.length ≤ _; rw [sizeLine_eq]; omega))
  refine wpAny_bind (wpAny_newList ?_ (Nat.zero_le _))
  refine wpAny_holding ?_
  have kH : ∀ b o, (hideAll s.heap [a]).get? b = some o → (((s.heap.update a (Obj.mapSeq fun _ => (#[] : Array Value))).push (seqObj "tuple" vs.toArray 0)).push (seqObj "list" #[] 0)).get? b = some o := fun b o e => by
    have e0 := of_hideAll _ e
    have hb : b ≠ a := fun q => by
      rw [q, hideAll_none _ (List.mem_singleton.mpr rfl)] at e; cases e
    refine Heap.get?_push_of_some _ (Heap.get?_push_of_some _ ?_)
    rw [Heap.get?_update_ne _ _ _ _ hb]; exact e0
  have ho6 : (((s.heap.update a (Obj.mapSeq fun _ => (#[] : Array Value))).push (seqObj "tuple" vs.toArray 0)).push (seqObj "list" #[] 0)).get? a = some (seqObj "list" #[] e1) := Heap.get?_push_of_some _ (Heap.get?_push_of_some _ ho1)
  have hp6 := hp.keeps kH
  have hfin : ∀ p : Array Nat, Arr vs.length p → Up (pf ps) p vs.length → P (.done (.ret .none)) { s with heap := (((s.heap.update a (Obj.mapSeq fun _ => (#[] : Array Value))).push (seqObj "tuple" vs.toArray 0)).push (seqObj "list" #[] 0)).update a (Obj.mapSeq fun _ => List.toArray (p.toList.map fun i => vs.getD i Value.none)) } := h
  show wpAny (model prog w) A _ P E { s with heap := ((s.heap.update a (Obj.mapSeq fun _ => (#[] : Array Value))).push (seqObj "tuple" vs.toArray 0)).push (seqObj "list" #[] 0) }
  generalize ((s.heap.update a (Obj.mapSeq fun _ => (#[] : Array Value))).push (seqObj "tuple" vs.toArray 0)).push (seqObj "list" #[] 0) = H6 at ho6 hp6 hfin ⊢
  dsimp only
  have hn2 : ¬ vs.toArray.size < 2 := by rw [List.size_toArray]; omega
  rw [if_neg hn2, if_neg hn2]
  obtain ⟨fs, t1, t2, t3⟩ := hp6.tups
  refine wpAny_bind (kat_kind (T := .type "int") t1 (by omega) (fun v hv => by obtain ⟨i, t, rfl⟩ := t3 v hv; exact Looks.of_pure rfl) rfl ?_)
  have hL := lin_pf hnd
  rw [← hlen] at hL
  have ask : (kas_sort vs.length).kasWp (kas_ask prog w A (tuples' true) vs) (fun p s' => s' = { s with heap := H6 } ∧ Arr vs.length p ∧ Up (pf ps) p vs.length) { s with heap := H6 } :=
    Kw.wp (I := fun s' => s' = { s with heap := H6 }) (fun i j C s' hi hj e hC => by subst e; exact pair_ask hp6 hi hj (hC _ rfl)) (fun p s' hq e => ⟨e, hq⟩) (kw_sort hL h2) rfl
  refine wpAny_bind (wpAny_mono (kat_run (Q := fun st' s' => ∃ p : Array Nat, arrOf st' = p.map (kas_item (vs.toArray.zip vs.toArray)) ∧ failedOf st' = none ∧ s' = { s with heap := H6 } ∧ Arr vs.length p ∧ Up (pf ps) p vs.length)
    rfl h2 h64 (fun p' st' s' a1 a2 a3 a4 => ⟨p', a2, a3, a4⟩) ask) ?_ fun _ _ e => e)
  rintro ⟨⟨⟩, st'⟩ s' ⟨p, har, hf, rfl, hA, hU⟩
  dsimp only at har hf ⊢
  have hout := kat_snds rfl har
  rw [hout]
  refine wpAny_bind (seqEpoch_at ho6 rfl ?_)
  refine wpAny_bind (listUpdate_at ho6 rfl ?_ (Nat.zero_le _) (by rw [List.size_toArray, List.length_map, Array.length_toList, hA.size, sizeLine_eq]; omega))
  rw [hf]
  simp only [bne_self_eq_false, Bool.false_eq_true, if_false]
  exact wpAny_pure (hfin p hA hU)
theorem sorted_tups {l : Addr} {vs : List Value} {ps : List (Int × Int)} {Q : Value → Shared → Prop} (hl : s.heap.IsList l vs.toArray) (hp : PAt s.heap vs ps) (h2 : 2 ≤ vs.length) (h64 : vs.length < 64) (hnd : ps.Nodup)
    (h : ∀ p : Array Nat, Arr vs.length p → Up (pf ps) p vs.length → Q (.ref (s.heap.objs.size + 1)) { s with heap := sortedAll s.heap vs (List.toArray (p.toList.map fun i => vs.getD i Value.none)) }) :
    wpAny (model prog w) A (call (.builtin "sorted") [.ref l]) Q E s := by
  refine Calls.call_function_entry kind_sorted plain_sorted entry_sorted (args_sorted1 _) ?_
  unfold Builtin.«sorted»
  refine wpAny_bind (m := checkCount "sorted" 1 1 _) (wpAny_pure ?_)
  refine wpAny_bind (collect_list hl ?_ (by rw [sizeLine_eq]; omega))
  refine wpAny_bind (wpAny_newList ?_ (by rw [sizeLine_eq]; omega))
  have hsz : ((s.heap.push (seqObj "list" #[] 0)).update s.heap.objs.size (Obj.mapSeq (· ++ vs.toArray))).objs.size = s.heap.objs.size + 1 := by
    rw [Heap.size_update, size_push']
  have hoL : (((s.heap.push (seqObj "list" #[] 0)).update s.heap.objs.size (Obj.mapSeq (· ++ vs.toArray))).push (seqObj "list" vs.toArray 0)).get? (s.heap.objs.size + 1) = some (seqObj "list" vs.toArray 0) := by
    rw [← hsz]; exact Heap.get?_push_size _ rfl
  have keep : ∀ b o, s.heap.get? b = some o → (hideAll (((s.heap.push (seqObj "list" #[] 0)).update s.heap.objs.size (Obj.mapSeq (· ++ vs.toArray))).push (seqObj "list" vs.toArray 0)) [s.heap.objs.size + 1]).get? b = some o := fun b o q => by
    have hlt : b < s.heap.objs.size := Heap.lt_size q
    refine hideAll_get _ ?_ (fun q => absurd (List.mem_singleton.mp q) (Nat.ne_of_lt (Nat.lt_succ_of_lt hlt)))
    rw [Heap.get?_push_ne _ _ _ (by rw [hsz]; exact Nat.ne_of_lt (Nat.lt_succ_of_lt hlt)), Heap.get?_update_ne _ _ _ _ (Nat.ne_of_lt hlt), Heap.get?_push_ne _ _ _ (Nat.ne_of_lt hlt)]
    exact q
  show wpAny _ _ _ _ _ { s with heap := ((s.heap.push (seqObj "list" #[] 0)).update s.heap.objs.size (Obj.mapSeq (· ++ vs.toArray))).push (seqObj "list" vs.toArray 0) }
  rw [hsz]
  refine wpAny_bind (wpAny_holding (wpAny_call_entry slot_list_sort ⟨_, hoL, rfl⟩ entry_list_sort (tup_sort (s := { s with heap := ((s.heap.push (seqObj "list" #[] 0)).update s.heap.objs.size (Obj.mapSeq (· ++ vs.toArray))).push (seqObj "list" vs.toArray 0) }) hoL (hp.keeps keep) h2 h64 hnd fun p a1 a2 => ⟨_, rfl, ?_⟩) (args_list_sort _)))
  exact wpAny_pure ⟨_, rfl, h p a1 a2⟩
end
def sortP (ps : List (Int × Int)) : List (Int × Int) := ps.mergeSort fun a b => !plt b a
theorem sortP_perm (ps : List (Int × Int)) : (sortP ps).Perm ps := List.mergeSort_perm _ _
theorem nplt {a b : Int × Int} (h1 : (!plt b a) = true) (h2 : (!plt a b) = true) : a = b := by
  refine Classical.byContradiction fun hn => ?_
  have := plt_tot a b hn (by simpa using h2)
  rw [this] at h1; cases h1
theorem sortP_le (ps : List (Int × Int)) : (sortP ps).Pairwise fun a b => (!plt b a) = true :=
  List.pairwise_mergeSort (le := fun a b => !plt b a) (fun a b c h1 h2 => by unfold plt at *; simp at *; omega) (fun a b => by unfold plt; simp; omega) ps
theorem getD_range {α : Type} (l : List α) (d : α) : (List.range l.length).map (fun i => l.getD i d) = l := by
  apply List.ext_getElem
  · simp
  · intro i h1 h2; simp [h2]
theorem reps_getD {g : Fz} {ps : List (Int × Int)} {vs : List Value} (hr : Reps g (PL ps) vs) : ∀ {is : List Nat}, (∀ i ∈ is, i < ps.length) → Reps g (PL (is.map fun i => ps.getD i (0, 0))) (is.map fun i => vs.getD i Value.none)
  | [], _ => .nil
  | i :: is, h => by
    have hi := h i (by simp)
    have hl : vs.length = ps.length := by have := hr.length; simpa using this
    refine .cons ?_ (reps_getD hr fun j hj => h j (by simp [hj]))
    obtain ⟨y, hy, ry⟩ := hr.get i (PR ps[i]) (by simp [hi])
    have e1 : vs.getD i Value.none = y := by simp [List.getD_eq_getElem?_getD, hy]
    have e2 : ps.getD i (0, 0) = ps[i] := by simp [hi]
    show Rep g (PR (ps.getD i (0, 0))) (vs.getD i Value.none)
    rw [e1, e2]; exact ry
theorem b_sortedP {c : Cfg} {ps : List (Int × Int)} (h2 : 2 ≤ ps.length) (h64 : ps.length < 64) (hnd : ps.Nodup) : B1 c "sorted" (.list (PL ps)) (.list (PL (sortP ps))) := fun fr s g v O hs _ r Q hQ => by
  obtain ⟨a, vs, n, rfl, ho, hr⟩ := r.list hs
  have hl : vs.length = ps.length := by rw [hr.length]; simp [PL]
  refine sorted_tups (isList_of ho) (PAt.of hs hr) (by omega) (by omega) hnd fun p hA hU => ?_
  rw [hl] at hA hU
  have hq : (p.toList.map fun i => ps.getD i (0, 0)) = sortP ps := by
    have h1 : (p.toList.map fun i => ps.getD i (0, 0)).Perm ps := by
      have := hA.perm.map fun i => ps.getD i (0, 0)
      rwa [getD_range] at this
    refine (h1.trans (sortP_perm ps).symm).eq_of_pairwise (le := fun a b => (!plt b a) = true) (fun a b _ _ q1 q2 => nplt q1 q2) ?_ (sortP_le ps)
    rw [List.pairwise_map, List.pairwise_iff_getElem]
    intro i j hi hj hij
    have hi' : i < p.size := by simpa using hi
    have hj' : j < p.size := by simpa using hj
    have := hU i j hij (by rw [← hA.size]; exact hj')
    have e1 : p.getD i 0 = p.toList[i] := by simp [Array.getD, hi']
    have e2 : p.getD j 0 = p.toList[j] := by simp [Array.getD, hj']
    rw [e1, e2] at this
    have := plt_asym _ _ this
    rw [this]; rfl
  obtain ⟨e, he⟩ := sortedAll_at s.heap vs (List.toArray (p.toList.map fun i => vs.getD i Value.none))
  have he' : (sortedAll s.heap vs (List.toArray (p.toList.map fun i => vs.getD i Value.none))).get? (s.heap.objs.size + 1) = some (lstO (p.toList.map fun i => vs.getD i Value.none) e) := by simpa [lstO, seqObj] using he
  have hn : s.heap.get? (s.heap.objs.size + 1) = none := Heap.get?_none_of_le (Nat.le_succ _)
  have kk := Gr.add hs (fun b o e => sortedAll_old e) hn he'
  refine hQ _ _ _ s.toks kk (.list _ _ _ e (Fz.add_self _ _ _) ?_)
  rw [← hq]
  exact (reps_getD hr fun i hi => List.mem_range.mp (hA.perm.mem_iff.mp hi)).mono kk.gk
end Mine

set_option maxRecDepth 100000
set_option autoImplicit false
set_option linter.unusedVariables false
namespace Mine
open PySem PySem.W PySem.Calls PyProof.Rows

/-- a def of the program by its place -/
def dfn (p : Program) (k : Nat) : DefRec := match p.main.body[k]? with
  | some (.FunctionDef name args body _ _ _ scope _ _ pos) => ⟨name, args, body, scope, pos⟩
  | _ => ⟨"", { posonlyargs := [], args := [], vararg := none, kwonlyargs := [], kw_defaults := [], kwarg := none, defaults := [] }, [], { kind := .function, names := [], isGenerator := false, isCoroutine := false }, ⟨0, 0, 0, 0⟩⟩

/-- the figures to the base 16, the highest in front -/
noncomputable def hx (n : Nat) : List Nat := if h : n = 0 then [] else hx (n / 16) ++ [n % 16]
termination_by n
decreasing_by omega
theorem hx_zero : hx 0 = [] := by rw [hx]; simp
theorem hx_pos {n : Nat} (h : n ≠ 0) : hx n = hx (n / 16) ++ [n % 16] := by rw [hx]; simp [h]
def apB (n : Nat) : List UInt8 := (hx n).map fun d => UInt8.ofNat (65 + d)

abbrev pgm : Program := PySem.Challenge.pw_in0243_02
def defsX : List DefRec := [dfn pgm 2, dfn pgm 5, dfn pgm 8, dfn pgm 10, dfn pgm 11, dfn pgm 13, dfn pgm 14, dfn pgm 16, dfn pgm 17, dfn pgm 18, dfn pgm 19, dfn pgm 20, dfn pgm 21, dfn pgm 22, dfn pgm 23, dfn pgm 24, dfn pgm 25, dfn pgm 26, dfn pgm 27, dfn pgm 28]
def blX : List Str := ["int", "abs", "divmod", "len", "chr", "ord", "range", "sorted", "isinstance", "object", "str", "bool", "IndexError"].map Str.ofString
structure IsX (X : GCtx) : Prop where
  d : X.defs = defsX
  b : X.bl = blX
theorem IsX.mem {X : GCtx} (I : IsX X) {k : Nat} {r : DefRec} (h : defsX[k]? = some r) : r ∈ X.defs := by rw [I.d]; exact List.mem_of_getElem? h
theorem IsX.bm {X : GCtx} (I : IsX X) {k : Nat} {r : Str} (h : blX[k]? = some r) : r ∈ X.bl := by rw [I.b]; exact List.mem_of_getElem? h

theorem cut_ap (m : Nat) (h : m < 16) : cut [65, 66, 67, 68, 69, 70, 71, 72, 73, 74, 75, 76, 77, 78, 79, 80] (some (m : Int)) (some ((m : Int) + 1)) = [UInt8.ofNat (65 + m)] := by
  have : m = 0 ∨ m = 1 ∨ m = 2 ∨ m = 3 ∨ m = 4 ∨ m = 5 ∨ m = 6 ∨ m = 7 ∨ m = 8 ∨ m = 9 ∨ m = 10 ∨ m = 11 ∨ m = 12 ∨ m = 13 ∨ m = 14 ∨ m = 15 := by omega
  rcases this with h | h | h | h | h | h | h | h | h | h | h | h | h | h | h | h <;> subst h <;> rfl

theorem apB_step (n : Nat) (h : n ≠ 0) (acc : List UInt8) : apB n ++ acc = apB (n / 16) ++ ([UInt8.ofNat (65 + n % 16)] ++ acc) := by
  unfold apB
  rw [hx_pos h]; simp

theorem noPy {a b : Int} (h : b.natAbs < 2 ^ 30) : Builtin.divisionGoesByPylong a b = false := by
  unfold Builtin.divisionGoesByPylong
  have : b.natAbs.log2 / 30 = 0 := by
    by_cases hz : b.natAbs = 0
    · rw [hz]; decide
    · have := (Nat.log2_lt hz).mpr h; omega
  simp only [this]
  by_cases hz : (b == 0) = true
  · simp [hz]
  · simp [hz]
theorem sp_Int2AP {X : GCtx} (I : IsX X) (N : Nat) (hN : N < 2 ^ 20) : Spec X "Int2AP" 1 [.int N] (.bytes (apB N)) := by
  refine spec_def (dr := dfn pgm 2) (ps := ["num"]) (I.mem (k := 0) rfl) rfl (fun pm code doc vs h => ?_) (by decide) (by decide +kernel) (by decide +kernel) (by decide +kernel) (by decide +kernel) rfl rfl rfl ?_
  · match vs, h with
    | [v], _ => rfl
  refine exs_cons (ex_assign ev_bytes (.inl rfl) ?_)
  refine exs_cons (ex_assign ev_bytes (.inl rfl) ?_)
  refine exs_cons (ex_assign (ev_int_of (ev_b1 (ev_nm rfl).ev b_abs rfl (I.bm (k := 1) rfl) (by decide +kernel)).ev rfl (I.bm (k := 0) rfl)) (.inl rfl) ?_)
  refine exs_cons (ex_whileS (σ := Nat × List UInt8) (fun z => [("num", .d (.int z.1)), ("val", .d (.bytes z.2)), ("AP", .d (.bytes [65, 66, 67, 68, 69, 70, 71, 72, 73, 74, 75, 76, 77, 78, 79, 80]))]) (fun _ => []) (fun z => z.1)
    (fun z => z.1 ≤ N ∧ apB z.1 ++ z.2 = apB N ∧ z.2.length + z.1 ≤ N) (N, []) ⟨Nat.le_refl _, by simp, by simp⟩ ?_ rfl ?_)
  · rw [if_neg (by omega)]
    exact sub_cons rfl (sub_cons rfl (sub_cons rfl sub_nil))
  rintro ⟨m, acc⟩ ⟨h1, h2, h3⟩
  refine ⟨(m : Int) != 0, et_of (ev_nm rfl).ev (by exact rfl), fun e => ?_, fun e => ?_⟩
  · have hm : m = 0 := by simpa using e
    subst hm
    refine exs_cons (ex_ret (ev_nm rfl) ?_)
    show _ = _
    rw [← h2]; simp [apB, hx_zero]
  · have hm : m ≠ 0 := by simpa using e
    refine exs_cons (ex_pair (ev_divmod (ev_nm rfl).ev ev_int.ev (by decide) (noPy (by decide)) rfl (I.bm (k := 2) rfl)).ev (.inl rfl) (.inl rfl) ?_)
    have e1 : ((m : Int).fdiv 16) = ((m / 16 : Nat) : Int) := by rw [Int.fdiv_eq_ediv_of_nonneg _ (by decide)]; rfl
    have e2 : ((m : Int).fmod 16) = ((m % 16 : Nat) : Int) := by rw [Int.fmod_eq_emod_of_nonneg _ (by decide)]; rfl
    dsimp only
    rw [e1, e2]
    refine exs_cons (ex_assign (ev_bin (ev_sl_bytes (ev_nm rfl).ev (.some (ev_nm rfl).ev) (.some (ev_bin (ev_nm rfl).ev ev_int.ev op_add).ev) (by decide)).ev (ev_nm rfl).ev (op_addb ?_)) (.inl rfl) ?_)
    · rw [cut_ap _ (by omega)]; simp only [List.length_cons, List.length_nil]; have : acc.length + m ≤ N := h3; omega
    refine exs_nil ⟨(m / 16, [UInt8.ofNat (65 + m % 16)] ++ acc), ?_, ?_, rfl, ?_, ?_, ?_⟩
    · show m / 16 < m; omega
    · rw [cut_ap _ (by omega)]
      exact sub_cons rfl (sub_cons rfl (sub_cons rfl sub_nil))
    · show m / 16 ≤ N; omega
    · show apB (m / 16) ++ ([UInt8.ofNat (65 + m % 16)] ++ acc) = _
      rw [← apB_step m hm, h2]
    · show ([UInt8.ofNat (65 + m % 16)] ++ acc).length + m / 16 ≤ N; have : acc.length + m ≤ N := h3; simp only [List.length_append, List.length_cons, List.length_nil]; omega
end Mine

set_option maxRecDepth 100000
set_option autoImplicit false
set_option linter.unusedVariables false
namespace Mine
open PySem PySem.W PySem.Calls PyProof.Rows

/-- the word of a number -/
def wd (n : Nat) : List Nat := (hx n).map fun d => 65 + d
theorem hx_lt : ∀ n, ∀ d ∈ hx n, d < 16 := fun n => by
  induction n using Nat.strongRecOn with
  | _ n ih =>
    intro d hd
    by_cases h : n = 0
    · subst h; rw [hx_zero] at hd; cases hd
    · rw [hx_pos h] at hd
      rcases List.mem_append.mp hd with hd | hd
      · exact ih (n / 16) (by omega) d hd
      · rw [List.mem_singleton.mp hd]; omega
theorem hx_len : ∀ k n, n < 16 ^ k → (hx n).length ≤ k := fun k => by
  induction k with
  | zero => intro n h; have : n = 0 := by omega
            subst this; rw [hx_zero]; exact Nat.le_refl _
  | succ k ih =>
    intro n h
    by_cases h0 : n = 0
    · subst h0; rw [hx_zero]; exact Nat.zero_le _
    · rw [hx_pos h0, List.length_append]
      have := ih (n / 16) (by rw [Nat.pow_succ] at h; omega)
      simp only [List.length_cons, List.length_nil]; omega
theorem apB_len {n : Nat} (h : n < 2 ^ 20) : (apB n).length ≤ 5 := by
  unfold apB; rw [List.length_map]; exact hx_len 5 n (by omega)

theorem sp_word {X : GCtx} (I : IsX X) (N : Nat) (hN : N < 2 ^ 20) : Spec X "_law_word" 2 [.int N] (.str (S (wd N))) := by
  refine spec_def (dr := dfn pgm 16) (ps := ["number"]) (I.mem (k := 7) rfl) rfl (fun pm code doc vs h => ?_) (by decide) (by decide +kernel) (by decide +kernel) (by decide +kernel) (by decide +kernel) rfl rfl rfl ?_
  · match vs, h with
    | [v], _ => rfl
  refine exs_cons (ex_ret (ev_join (xs := (apB N).map fun b => [b.toNat]) ev_str.ev (evf_eq (ev_compN (fun b : UInt8 => D.int b.toNat) (fun n => D.str (S [n])) ?_ (apB N) (fun b => b.toNat) []
    (evi_eq (evi_bytes (ev_call (.cons (ev_nm rfl) .nil) (sp_Int2AP I N hN) (nle rfl) rfl).ev).weak rfl) (csc rfl (by decide +kernel) rfl) (.inl rfl) ?_ cs_nil ?_) ?_).ev ?_) ?_)
  · intro a b h; injection h with h; exact UInt8.toNat_inj.mp (Int.ofNat.inj h)
  · have := apB_len hN; omega
  · intro b _; exact ev_b1 (ev_nm rfl).ev (b_chr (by omega) (by have := b.toNat_lt; omega)) rfl (I.bm (k := 4) rfl) (by decide +kernel)
  · simp [Function.comp_def]
  · have h1 := apB_len hN
    have : ((apB N).map fun b => [b.toNat]).flatten.length = (apB N).length := by simp [List.length_flatten]; generalize apB N = l; induction l <;> simp_all <;> omega
    omega
  · show _ = _
    congr 2
    unfold apB wd
    rw [List.map_map]
    have : ∀ l : List Nat, (∀ d ∈ l, d < 16) → (l.map ((fun b : UInt8 => [b.toNat]) ∘ fun d => UInt8.ofNat (65 + d))).flatten = l.map fun d => 65 + d := by
      intro l
      induction l with
      | nil => intro _; rfl
      | cons a r ih =>
        intro h
        have ha := h a (by simp)
        simp only [List.map_cons, List.flatten_cons, Function.comp]
        rw [← ih fun d hd => h d (by simp [hd])]
        have : (UInt8.ofNat (65 + a)).toNat = 65 + a := by simp [UInt8.toNat_ofNat]; omega
        rw [this]; rfl
    exact this _ (hx_lt N)

/-- three_way_cmp of texts, by the order of their signs -/
def twc (a b : List Nat) : Int := (if b < a then 1 else 0) - (if a < b then 1 else 0)
theorem sp_twc_str {X : GCtx} (I : IsX X) (a b : List Nat) : Spec X "three_way_cmp" 1 [.str (S a), .str (S b)] (.int (twc a b)) := by
  refine spec_def (dr := dfn pgm 14) (ps := ["x", "y"]) (I.mem (k := 6) rfl) rfl (fun pm code doc vs h => ?_) (by decide) (by decide +kernel) (by decide +kernel) (by decide +kernel) (by decide +kernel) rfl rfl rfl ?_
  · match vs, h with
    | [v, u], _ => rfl
  refine exs_cons (ex_ret (ev_bin (ev_cmp (ev_nm rfl).ev (ev_nm rfl).ev cmp_gts).ev (ev_cmp (ev_nm rfl).ev (ev_nm rfl).ev cmp_lts).ev op_subb) ?_)
  show D.int _ = _
  unfold twc
  simp
/-- read a word -/
def rd1 (a : Int) (d : Nat) : Int := a * 16 + (d : Int) - 65
def rd (w : List Nat) : Int := w.foldl rd1 0
theorem rd_hx (l : List Nat) : ∀ n, (l.map fun d => 65 + d).foldl rd1 n = l.foldl (fun (a : Int) (d : Nat) => a * 16 + (d : Int)) n := by
  induction l with
  | nil => intro n; rfl
  | cons a r ih => intro n; simp only [List.map_cons, List.foldl_cons]; rw [ih]; congr 1; unfold rd1; omega
theorem fold_hx (n : Nat) : (hx n).foldl (fun (a : Int) (d : Nat) => a * 16 + (d : Int)) 0 = n := by
  induction n using Nat.strongRecOn with
  | _ n ih =>
    by_cases h : n = 0
    · subst h; rw [hx_zero]; rfl
    · rw [hx_pos h, List.foldl_append, ih (n / 16) (by omega)]
      show ((n / 16 : Nat) : Int) * 16 + ((n % 16 : Nat) : Int) = n
      omega
theorem rd_wd (n : Nat) : rd (wd n) = n := by
  unfold rd wd; rw [rd_hx, fold_hx]
theorem wd_let (n : Nat) : ∀ d ∈ wd n, 65 ≤ d ∧ d ≤ 80 := fun d hd => by
  obtain ⟨a, ha, rfl⟩ := List.mem_map.mp hd
  have := hx_lt n a ha
  omega
theorem wd_len {n : Nat} (h : n < 2 ^ 20) : (wd n).length ≤ 5 := by unfold wd; rw [List.length_map]; exact hx_len 5 n (by omega)
theorem mulOk16 {a : Int} : IntMulOk a 16 := .of_right (by decide +kernel)
theorem sp_read {X : GCtx} (I : IsX X) (N : Nat) (hN : N < 2 ^ 20) : Spec X "_law_read" 1 [.str (S (wd N))] (.int N) := by
  rw [← rd_wd N]
  have hl5 := wd_len hN
  have hlet := wd_let N
  generalize wd N = w at hl5 hlet
  refine spec_def (dr := dfn pgm 17) (ps := ["word"]) (I.mem (k := 8) rfl) rfl (fun pm code doc vs h => ?_) (by decide) (by decide +kernel) (by decide +kernel) (by decide +kernel) (by decide +kernel) rfl rfl rfl ?_
  · match vs, h with
    | [v], _ => rfl
  refine exs_cons (ex_assign ev_int (.inl rfl) ?_)
  refine exs_cons (ex_forS (σ := Int) (fun z => [("number", .d (.int z)), ("word", .d (.str (S w)))]) (fun _ => []) (fun i z => z = (w.take i).foldl rd1 0) 0 rfl (sub_cons rfl (sub_cons rfl sub_nil)) rfl
    (evi_str (ev_nm rfl).ev (by simp only [List.all_toArray, List.all_eq_true, decide_eq_true_eq]; intro d hd; have := hlet d hd; omega)) (.inl rfl) ?_ ?_)
  · rintro i d z hd rfl
    have hl : (signs (S w)).length = w.length := by simp [signs]
    have hi : i < w.length := by rw [← hl]; exact (List.getElem?_eq_some_iff.mp hd).1
    have hd' : d = .str (S [w[i]]) := by
      have : (signs (S w))[i]? = some (D.str (S [w[i]])) := by simp [signs, hi]
      rw [this] at hd; injection hd with hd; exact hd.symm
    subst hd'
    refine exs_cons (ex_assign (ev_bin (ev_bin (ev_bin (ev_nm rfl).ev ev_int.ev (op_mul mulOk16)).ev (ev_b1 (ev_nm rfl).ev b_ord rfl (I.bm (k := 5) rfl) (by decide +kernel)).ev op_add).ev ev_int.ev op_sub) (.inl rfl) ?_)
    refine exs_nil ⟨_, sub_cons rfl (sub_cons rfl sub_nil), rfl, ?_⟩
    rw [List.take_add_one, List.foldl_append, List.getElem?_eq_getElem hi]; rfl
  · rintro z rfl
    refine exs_cons (ex_ret (ev_nm rfl) ?_)
    show D.int _ = D.int _
    have hl : (signs (S w)).length = w.length := by simp [signs]
    rw [hl, List.take_length]; rfl

/-- digits to the base 3, the lowest in front, read to the base 16 -/
noncomputable def sprd (rest : Nat) : Nat → Nat → Nat
  | 0, acc => acc
  | k + 1, acc => sprd (rest / 3) k (acc * 16 + rest % 3)
theorem sprd_lt : ∀ (k rest acc : Nat) (j : Nat), acc < 16 ^ j → sprd rest k acc < 16 ^ (j + k)
  | 0, _, acc, j, h => h
  | k + 1, rest, acc, j, h => by
    have := sprd_lt k (rest / 3) (acc * 16 + rest % 3) (j + 1) (by rw [Nat.pow_succ]; omega)
    rwa [Nat.add_right_comm] at this
/-- how many figures -/
theorem sp_size {X : GCtx} (I : IsX X) (N : Nat) : Spec X "_law_size" 1 [.int N] (.int (hx N).length) := by
  refine spec_def (dr := dfn pgm 18) (ps := ["number"]) (I.mem (k := 9) rfl) rfl (fun pm code doc vs h => ?_) (by decide) (by decide +kernel) (by decide +kernel) (by decide +kernel) (by decide +kernel) rfl rfl rfl ?_
  · match vs, h with
    | [v], _ => rfl
  refine exs_cons (ex_assign ev_int (.inl rfl) ?_)
  refine exs_cons (ex_whileS (σ := Nat × Nat) (fun z => [("number", .d (.int z.1)), ("size", .d (.int z.2))]) (fun _ => []) (fun z => z.1) (fun z => (hx z.1).length + z.2 = (hx N).length) (N, 0) rfl (sub_cons rfl (sub_cons rfl sub_nil)) rfl ?_)
  rintro ⟨n, s⟩ hz
  refine ⟨decide ((0 : Int) < n), et_cmp (ev_nm rfl).ev ev_int.ev cmp_gt, fun e => ?_, fun e => ?_⟩
  · have h0 : n = 0 := by have := of_decide_eq_false e; omega
    subst h0
    refine exs_cons (ex_ret (ev_nm rfl) ?_)
    show D.int _ = D.int _
    rw [← hz]; simp [hx_zero]
  · have h0 : n ≠ 0 := by have := of_decide_eq_true e; omega
    refine exs_cons (ex_assign (ev_bin (ev_nm rfl).ev ev_int.ev (op_fdiv (by decide) (noPy (by decide)))) (.inl rfl) ?_)
    refine exs_cons (ex_assign (ev_bin (ev_nm rfl).ev ev_int.ev op_add) (.inl rfl) ?_)
    dsimp only
    have e1 : ((n : Int).fdiv 16) = ((n / 16 : Nat) : Int) := by rw [Int.fdiv_eq_ediv_of_nonneg _ (by decide)]; rfl
    have e2 : (s : Int) + 1 = ((s + 1 : Nat) : Int) := by omega
    rw [e1, e2]
    refine exs_nil ⟨(n / 16, s + 1), by show n / 16 < n; omega, sub_cons rfl (sub_cons rfl sub_nil), rfl, ?_⟩
    show (hx (n / 16)).length + (s + 1) = _
    rw [← hz, hx_pos h0, List.length_append]
    simp only [List.length_cons, List.length_nil]; omega
end Mine

set_option maxRecDepth 100000
set_option autoImplicit false
set_option linter.unusedVariables false
namespace Mine
open PySem PySem.W PySem.Calls PyProof.Rows

theorem sp_escape {X : GCtx} (I : IsX X) (ht : ∀ h, X.tm h → TM X h) (n : Nat) (h1 : 65 ≤ n) (h2 : n ≤ 80) : Spec X "escape" 1 [.str (S [n])] (.str (S [n])) := by
  refine spec_def (dr := dfn pgm 8) (ps := ["pattern"]) (I.mem (k := 2) rfl) rfl (fun pm code doc vs h => ?_) (by decide) (by decide +kernel) (by decide +kernel) (by decide +kernel) (by decide +kernel) rfl rfl rfl ?_
  · match vs, h with
    | [v], _ => rfl
  refine exs_cons (ex_if (x := true) (et_of (ev_isi_str (ev_nm rfl) rfl (I.bm (k := 8) rfl) rfl (I.bm (k := 10) rfl)).ev (by exact rfl)) (fun _ => ?_) (fun e => nomatch e))
  exact exs_cons (ex_ret (ev_translate ht (ev_nm rfl).ev h1 h2 rfl) rfl)

/-- the parts of a pattern: a star's object, or a sign -/
inductive Pt where
  | star
  | sign (n : Nat)
def Pt.d (a : Addr) : Pt → D
  | .star => .obj a
  | .sign n => .str (S [n])
/-- what _translate makes of a pattern -/
def prStep (r : List Pt) (n : Nat) : List Pt := if n = 42 then (match r.getLast? with | some .star => r | _ => r ++ [.star]) else if n = 63 then r ++ [.sign 46] else r ++ [.sign n]
def prt (l : List Nat) : List Pt := l.foldl prStep []
def okPat (l : List Nat) : Prop := ∀ n ∈ l, n = 42 ∨ n = 63 ∨ (65 ≤ n ∧ n ≤ 80)
theorem prStep_len (r : List Pt) (n : Nat) : (prStep r n).length ≤ r.length + 1 := by
  unfold prStep
  split
  · split <;> simp
  · split <;> simp
theorem prt_len (l : List Nat) : ∀ r : List Pt, (l.foldl prStep r).length ≤ r.length + l.length := by
  induction l with
  | nil => intro r; simp
  | cons a t ih => intro r; have h1 := ih (prStep r a); have h2 := prStep_len r a; simp only [List.foldl_cons, List.length_cons]; omega
def trG (l : List Nat) (a : Addr) (i : Nat) : Gam := [("res", .mu 0), ("add", .meth 0), ("i", .d (.int i)), ("n", .d (.int l.length)), ("pat", .d (.str (S l))), ("STAR", .d (.obj a)), ("QUESTION_MARK", .d (.str (S [46])))]
theorem sp__translate {X : GCtx} (I : IsX X) (ht : ∀ h, X.tm h → TM X h) (l : List Nat) (a : Addr) (hl : okPat l) (hz : l.length ≤ 10000) : Spec X "_translate" 2 [.str (S l), .obj a, .str (S [46])] (.list ((prt l).map (Pt.d a))) := by
  refine spec_def (dr := dfn pgm 10) (ps := ["pat", "STAR", "QUESTION_MARK"]) (I.mem (k := 3) rfl) rfl (fun pm code doc vs h => ?_) (by decide) (by decide +kernel) (by decide +kernel) (by decide +kernel) (by decide +kernel) rfl rfl rfl ?_
  · match vs, h with
    | [v, u, t], _ => rfl
  refine exs_cons (ex_assign_list .nil (.inl rfl) ?_)
  refine exs_cons (ex_assign_meth (i := 0) (ds := []) (lk rfl) rfl (.inl rfl) ?_)
  refine exs_cons (ex_pairS (ev_tup (.cons ev_int (.cons (ev_b1 (ev_nm rfl).ev (b_len_S (by omega)) rfl (I.bm (k := 3) rfl) (by decide +kernel)) .nil))).ev (.inl rfl) (.inl rfl) ?_ ?_)
  rotate_left
  · intro env he
    cases env
    cases he
    rfl
  refine exs_cons (ex_whileS (σ := Nat) (trG l a)
    (fun i => [((l.take i).foldl prStep []).map (Pt.d a)]) (fun i => l.length - i) (fun i => i ≤ l.length) 0 (Nat.zero_le _) ?_ rfl ?_)
  · exact sub_cons rfl (sub_cons rfl (sub_cons rfl (sub_cons rfl (sub_cons rfl (sub_cons rfl (sub_cons rfl sub_nil))))))
  intro i hi
  refine ⟨_, et_cmp (ev_nm rfl).ev (ev_nm rfl).ev cmp_lt, fun e => ?_, fun e => ?_⟩
  · have hi2 : i = l.length := by have := of_decide_eq_false e; omega
    subst hi2
    refine exs_cons (ex_assert (evt_eq (et_cmp (ev_nm rfl).ev (ev_nm rfl).ev cmp_eq) (by simp)) ?_)
    refine exs_cons (ex_ret_mu (lk rfl) (i := 0) rfl ?_)
    show D.list _ = D.list _
    rw [List.take_length]; rfl
  have hi2 : i < l.length := by have := of_decide_eq_true e; omega
  have hn := hl l[i] (List.getElem_mem hi2)
  have htk : (l.take (i + 1)).foldl prStep [] = prStep ((l.take i).foldl prStep []) l[i] := by
    rw [List.take_add_one, List.foldl_append, List.getElem?_eq_getElem hi2]; rfl
  have hrl : ((l.take i).foldl prStep []).length ≤ 10000 := by have := prt_len (l.take i) []; simp only [List.length_take, List.length_nil] at this; omega
  have hge := List.getElem?_eq_getElem hi2
  generalize l[i] = n at hn htk hge
  generalize (l.take i).foldl prStep [] = r at htk hrl ⊢
  refine exs_cons (ex_assign (ev_sitem (n := n) (ev_nm rfl).ev (ev_nm rfl).ev (by omega) (by omega) (by simp only [Int.toNat_natCast]; exact hge)) (.inl rfl) ?_)
  refine exs_cons (ex_assign (ev_bin (ev_nm rfl).ev ev_int.ev op_add) (.inl rfl) ?_)
  have cnv : ((i : Int) + 1) = ((i + 1 : Nat) : Int) := by omega
  rw [cnv]
  have fin : ∀ ds : List D, ds = (prStep r n).map (Pt.d a) → ∀ Γ₂ : Gam, (∀ p ∈ trG l a (i + 1), p ∈ Γ₂) →
      ∃ z', l.length - z' < l.length - i ∧ (∀ p ∈ trG l a z', p ∈ Γ₂) ∧ [ds] = [((l.take z').foldl prStep []).map (Pt.d a)] ∧ z' ≤ l.length := fun ds e Γ₂ h =>
    ⟨i + 1, by omega, h, by rw [htk, e], by omega⟩
  refine exs_cons (ex_if (et_cmp (ev_nm rfl).ev (ev_lit [42] rfl).ev cmp_eqS) (fun h => ?_) (fun h => ?_))
  · have h42 : n = 42 := by simpa using h
    rcases List.eq_nil_or_concat r with hr | ⟨r', p, hr⟩
    · subst hr
      refine exs_cons (ex_if (x := true) (evt_eq (et_or (a := true) (b := true) (et_not (et_of (b := false) (ev_mu (lk rfl) rfl) ⟨rfl, by simp⟩)) (fun h => nomatch h)) rfl) (fun _ => ?_) (fun h => nomatch h))
      refine exs_cons (ex_call_meth (i := 0) (lk rfl) rfl (ev_nm rfl) ?_ (by rw [sizeLine_lit]; simp))
      refine exs_nil (exs_nil (exs_nil (fin _ ?_ _ ?_)))
      · subst h42; rfl
      · exact sub_cons rfl (sub_cons rfl (sub_cons rfl (sub_cons rfl (sub_cons rfl (sub_cons rfl (sub_cons rfl sub_nil))))))
    · rw [List.concat_eq_append] at hr
      subst hr
      have hmap : (r' ++ [p]).map (Pt.d a) = r'.map (Pt.d a) ++ [Pt.d a p] := by simp
      rw [hmap]
      have hne : (r'.map (Pt.d a) ++ [Pt.d a p]).isEmpty = false := by simp
      cases p with
      | star =>
        refine exs_cons (ex_if (x := false) (evt_eq (et_or (a := false) (b := false) (et_not (et_of (b := true) (ev_mu (lk rfl) rfl) ⟨by rw [hne]; rfl, by simp at hrl ⊢; omega⟩)) (fun h => et_cmp (ev_last (ds := r'.map (Pt.d a)) (d := .obj a) (ev_mu (lk rfl) rfl) (ev_neg ev_int.ev).ev (by simp at hrl ⊢; omega)).ev (ev_nm rfl).ev cmp_isnot_self)) rfl) (fun h => nomatch h) (fun _ => ?_))
        refine exs_nil (exs_nil (exs_nil (fin _ ?_ _ ?_)))
        · rw [← hmap]; subst h42; simp [prStep]
        · exact sub_cons rfl (sub_cons rfl (sub_cons rfl (sub_cons rfl (sub_cons rfl (sub_cons rfl (sub_cons rfl sub_nil))))))
      | sign k =>
        refine exs_cons (ex_if (x := true) (evt_eq (et_or (a := false) (b := true) (et_not (et_of (b := true) (ev_mu (lk rfl) rfl) ⟨by rw [hne]; rfl, by simp at hrl ⊢; omega⟩)) (fun h => et_cmp (ev_last (ds := r'.map (Pt.d a)) (d := .str (S [k])) (ev_mu (lk rfl) rfl) (ev_neg ev_int.ev).ev (by simp at hrl ⊢; omega)).ev (ev_nm rfl).ev cmp_isnot_str)) rfl) (fun _ => ?_) (fun h => nomatch h))
        refine exs_cons (ex_call_meth (i := 0) (lk rfl) rfl (ev_nm rfl) ?_ (by rw [sizeLine_lit]; simp at hrl ⊢; omega))
        refine exs_nil (exs_nil (exs_nil (fin _ ?_ _ ?_)))
        · subst h42; simp [prStep, Pt.d]
        · exact sub_cons rfl (sub_cons rfl (sub_cons rfl (sub_cons rfl (sub_cons rfl (sub_cons rfl (sub_cons rfl sub_nil))))))
  have h42 : n ≠ 42 := by simpa using h
  refine exs_cons (ex_if (et_cmp (ev_nm rfl).ev (ev_lit [63] rfl).ev cmp_eqS) (fun h => ?_) (fun h => ?_))
  · have h63 : n = 63 := by simpa using h
    refine exs_cons (ex_call_meth (i := 0) (lk rfl) rfl (ev_nm rfl) ?_ (by rw [sizeLine_lit]; simp at hrl ⊢; omega))
    refine exs_nil (exs_nil (exs_nil (fin _ ?_ _ ?_)))
    · subst h63; simp [prStep, Pt.d]
    · exact sub_cons rfl (sub_cons rfl (sub_cons rfl (sub_cons rfl (sub_cons rfl (sub_cons rfl (sub_cons rfl sub_nil))))))
  have h63 : n ≠ 63 := by simpa using h
  have hn' : 65 ≤ n ∧ n ≤ 80 := by rcases hn with h | h | h
                                   · exact absurd h h42
                                   · exact absurd h h63
                                   · exact h
  refine exs_cons (ex_if (x := false) (evt_eq (et_cmp (ev_nm rfl).ev (ev_lit [91] rfl).ev cmp_eqS) (by simp; omega)) (fun h => nomatch h) (fun h => ?_))
  refine exs_cons (ex_call_meth (i := 0) (lk rfl) rfl (ev_call (.cons (ev_nm rfl) .nil) (sp_escape I ht n hn'.1 hn'.2) (nle rfl) rfl) ?_ (by rw [sizeLine_lit]; simp at hrl ⊢; omega))
  refine exs_nil (exs_nil (exs_nil (exs_nil (fin _ ?_ _ ?_))))
  · simp [prStep, Pt.d, h42, h63]
  · exact sub_cons rfl (sub_cons rfl (sub_cons rfl (sub_cons rfl (sub_cons rfl (sub_cons rfl (sub_cons rfl sub_nil))))))
end Mine

set_option maxRecDepth 100000
set_option autoImplicit false
set_option linter.unusedVariables false
set_option maxHeartbeats 2000000
namespace Mine
open PySem PySem.W PySem.Calls PyProof.Rows

/-- the signs in front, and what is behind them -/
noncomputable def sgs : List Pt → List Nat
  | .sign n :: r => n :: sgs r
  | _ => []
noncomputable def rst : List Pt → List Pt
  | .sign n :: r => rst r
  | r => r
theorem rst_len : ∀ r : List Pt, (rst r).length ≤ r.length
  | [] => Nat.le_refl _
  | .star :: r => Nat.le_refl _
  | .sign n :: r => Nat.le_trans (rst_len r) (Nat.le_succ _)
theorem sgs_len : ∀ r : List Pt, (sgs r).length ≤ r.length
  | [] => Nat.le_refl _
  | .star :: r => Nat.zero_le _
  | .sign n :: r => Nat.succ_le_succ (sgs_len r)
theorem sgs_rst : ∀ r : List Pt, r = (sgs r).map Pt.sign ++ rst r
  | [] => rfl
  | .star :: r => rfl
  | .sign n :: r => by simp only [sgs, rst, List.map_cons, List.cons_append]; rw [← sgs_rst r]
theorem rst_star : ∀ r : List Pt, rst r = [] ∨ ∃ t, rst r = .star :: t
  | [] => .inl rfl
  | .star :: r => .inr ⟨r, rfl⟩
  | .sign n :: r => rst_star r
/-- the pieces from a star on -/
noncomputable def jres : Nat → List Pt → List (List Nat)
  | k + 1, .star :: t => if t.isEmpty then [[46, 42]] else if (rst t).isEmpty then [[46, 42], sgs t] else ([40, 63, 62, 46, 42, 63] ++ sgs t ++ [41]) :: jres k (rst t)
  | _, _ => []
theorem jres_more : ∀ (k : Nat) (r : List Pt), r.length ≤ k → jres (k + 1) r = jres k r
  | 0, [], _ => rfl
  | k + 1, [], _ => rfl
  | 0, _ :: _, h => by simp at h
  | k + 1, .sign n :: r, _ => rfl
  | k + 1, .star :: t, h => by
    have h1 := rst_len t
    have ih := jres_more k (rst t) (by simp only [List.length_cons] at h; omega)
    simp only [jres]
    rw [ih]
theorem jres_eq {k m : Nat} {r : List Pt} (h : r.length ≤ k) (h' : k ≤ m) : jres m r = jres k r := by
  induction m with
  | zero => have : k = 0 := by omega
            subst this; rfl
  | succ m ih =>
    by_cases e : k = m + 1
    · rw [e]
    · rw [jres_more m r (by omega)]; exact ih (by omega)
/-- no star behind a star -/
noncomputable def NA : List Pt → Prop
  | .star :: .star :: _ => False
  | _ :: r => NA r
  | [] => True
theorem NA.tail : ∀ {p : Pt} {r : List Pt}, NA (p :: r) → NA r
  | .sign _, _, h => h
  | .star, [], _ => trivial
  | .star, .sign _ :: _, h => h
  | .star, .star :: _, h => h.elim
theorem NA.rst : ∀ {r : List Pt}, NA r → NA (rst r)
  | [], h => h
  | .star :: r, h => h
  | .sign n :: r, h => NA.rst (r := r) h
/-- the inner text -/
def inner (ps : List Pt) : List Nat := sgs ps ++ (jres ps.length (rst ps)).flatten
def text (ps : List Pt) : List Nat := [40, 63, 115, 58] ++ inner ps ++ [41, 92, 90]

section
variable {c : Cfg} {Γ : Gam} {Δ : Del} {P : Post}
def Pt.isS : Pt → Bool
  | .star => false
  | .sign _ => true
theorem et_isnot {p : Pt} {a : Addr} {e f : Expr} {pos : Pos} (he : Ev c Γ Δ e (p.d a)) (hf : Ev c Γ Δ f (.obj a)) (hm : behindInMarks .IsNot f = false := by with_unfolding_all rfl) : EvT c Γ Δ (.Compare e [.IsNot] [f] pos) p.isS := by
  cases p with
  | star => exact et_cmp he hf cmp_isnot_self hm
  | sign n => exact et_cmp he hf cmp_isnot_str hm
end
def stl (l : List (List Nat)) : List D := l.map fun x => .str (S x)
def jG (ps : List Pt) (a : Addr) (r : List Pt) : Gam := [("res", .mu 0), ("add", .meth 0), ("i", .d (.int (ps.length - r.length : Nat))), ("n", .d (.int ps.length)), ("inp", .d (.list (ps.map (Pt.d a)))), ("STAR", .d (.obj a))]
theorem suf_item {ps r : List Pt} {p : Pt} {a : Addr} (h : ∃ pre, ps = pre ++ p :: r) : (ps.map (Pt.d a))[((ps.length - (p :: r).length : Nat) : Int).toNat]? = some (p.d a) := by
  obtain ⟨pre, rfl⟩ := h
  have : (pre ++ p :: r).length - (p :: r).length = pre.length := by simp
  rw [this]; simp
theorem suf_next {ps r : List Pt} {p : Pt} (h : ∃ pre, ps = pre ++ p :: r) : ((ps.length - (p :: r).length : Nat) : Int) + 1 = ((ps.length - r.length : Nat) : Int) := by
  obtain ⟨pre, rfl⟩ := h
  simp only [List.length_append, List.length_cons]; omega
theorem suf_tail {ps r : List Pt} {p : Pt} (h : ∃ pre, ps = pre ++ p :: r) : ∃ pre, ps = pre ++ r := by
  obtain ⟨pre, rfl⟩ := h
  exact ⟨pre ++ [p], by simp⟩
theorem suf_le {ps r : List Pt} (h : ∃ pre, ps = pre ++ r) : r.length ≤ ps.length := by
  obtain ⟨pre, rfl⟩ := h
  simp

theorem jres_flat : ∀ (k : Nat) (r : List Pt), (jres k r).flatten.length ≤ 9 * r.length ∧ (jres k r).length ≤ 2 * r.length
  | 0, r => by simp [jres]
  | k + 1, [] => by simp [jres]
  | k + 1, .sign n :: r => by simp [jres]
  | k + 1, .star :: t => by
    have h1 := rst_len t
    have h2 := sgs_len t
    have ih := jres_flat k (rst t)
    have h3 : (sgs t).length + (rst t).length = t.length := by
      have := congrArg List.length (sgs_rst t); simp at this; omega
    simp only [jres]
    split
    · simp; omega
    · split
      · rename_i ht _
        have : 0 < t.length := by cases t with
          | nil => exact absurd rfl ht
          | cons => simp
        simp; omega
      · simp only [List.flatten_cons, List.length_append, List.length_cons, List.length_nil]; omega
theorem flat_single (l : List Nat) : (l.map fun n => [n]).flatten = l := by induction l <;> simp_all
theorem sp_join {X : GCtx} (I : IsX X) (ps : List Pt) (a : Addr) (hna : NA ps) (hz : ps.length ≤ 10000) : Spec X "_join_translated_parts" 1 [.list (ps.map (Pt.d a)), .obj a] (.str (S (text ps))) := by
  refine spec_def (dr := dfn pgm 11) (ps := ["inp", "STAR"]) (I.mem (k := 4) rfl) rfl (fun pm code doc vs h => ?_) (by decide) (by decide +kernel) (by decide +kernel) (by decide +kernel) (by decide +kernel) rfl rfl rfl ?_
  · match vs, h with
    | [v, u], _ => rfl
  refine exs_cons (ex_assign_list .nil (.inl rfl) ?_)
  refine exs_cons (ex_assign_meth (i := 0) (ds := []) (lk rfl) rfl (.inl rfl) ?_)
  refine exs_cons (ex_pairS (ev_tup (.cons ev_int (.cons (ev_b1 (ev_nm rfl).ev (b_len_list (by simp; omega)) rfl (I.bm (k := 3) rfl) (by decide +kernel)) .nil))).ev (.inl rfl) (.inl rfl) ?_ ?_)
  rotate_left
  · intro env he
    cases env
    cases he
    rfl
  have hc0 : ((ps.map (Pt.d a)).length : Int) = (ps.length : Int) := by simp
  rw [hc0]
  -- the end
  have hlen : ∀ z : List (List Nat), z = (sgs ps).map (fun n => [n]) ++ jres ps.length (rst ps) → z.flatten.length ≤ 100000 := fun z e => by
    subst e
    have h1 := jres_flat ps.length (rst ps)
    have h2 := sgs_len ps
    have h3 := rst_len ps
    rw [List.flatten_append, flat_single, List.length_append]; omega
  have hlen2 : ∀ z : List (List Nat), z = (sgs ps).map (fun n => [n]) ++ jres ps.length (rst ps) → z.length ≤ 100000 := fun z e => by
    subst e
    have h1 := jres_flat ps.length (rst ps)
    have h2 := sgs_len ps
    have h3 := rst_len ps
    rw [List.length_append, List.length_map]; omega
  -- the signs ahead
  refine exs_cons (ex_whileS (σ := List Pt × List (List Nat)) (fun z => jG ps a z.1) (fun z => [stl z.2]) (fun z => z.1.length) (fun z => (∃ pre, ps = pre ++ z.1) ∧ z.2 ++ (sgs z.1).map (fun n => [n]) = (sgs ps).map (fun n => [n]) ∧ rst z.1 = rst ps) (ps, []) ⟨⟨[], rfl⟩, rfl, rfl⟩ ?_ rfl ?_)
  · have : (ps.length - ps.length : Nat) = 0 := Nat.sub_self _
    unfold jG; dsimp only; rw [this]
    exact sub_cons rfl (sub_cons rfl (sub_cons rfl (sub_cons rfl (sub_cons rfl (sub_cons rfl sub_nil)))))
  rintro ⟨r, acc⟩ ⟨h1, h2, h3⟩
  dsimp only at h1 h2 h3 ⊢
  refine ⟨(match r with | [] => false | p :: _ => p.isS), ?_, fun e => ?_, fun e => ?_⟩
  · cases r with
    | nil => exact evt_eq (et_and (a := false) (b := false) (evt_eq (et_cmp (ev_nm rfl).ev (ev_nm rfl).ev cmp_lt) (by simp)) (fun h => nomatch h)) rfl
    | cons p r =>
      have := suf_le h1
      exact evt_eq (et_and (a := true) (evt_eq (et_cmp (ev_nm rfl).ev (ev_nm rfl).ev cmp_lt) (by simp at this ⊢; omega)) (fun _ => et_isnot (p := p) (a := a) (ev_item (ev_nm rfl).ev (ev_nm rfl).ev (by omega) (by omega) (suf_item h1)).ev (ev_nm rfl).ev)) (by simp)
  · -- behind the signs
    have hr : r = rst ps ∧ acc = (sgs ps).map (fun n => [n]) := by
      cases r with
      | nil => exact ⟨h3, by simpa [sgs] using h2⟩
      | cons p r => cases p with
        | star => exact ⟨h3, by simpa [sgs] using h2⟩
        | sign n => cases e
    obtain ⟨rfl, rfl⟩ := hr
    have hsuf : ∃ pre, ps = pre ++ rst ps := ⟨_, sgs_rst ps⟩
    refine exs_cons (ex_whileS (σ := List Pt × List (List Nat)) (fun z => jG ps a z.1) (fun z => [stl z.2]) (fun z => z.1.length)
      (fun z => (∃ pre, ps = pre ++ z.1) ∧ NA z.1 ∧ (z.1 = [] ∨ ∃ t, z.1 = .star :: t) ∧ z.2 ++ jres z.1.length z.1 = (sgs ps).map (fun n => [n]) ++ jres ps.length (rst ps)) (rst ps, _) ⟨hsuf, hna.rst, rst_star ps, by rw [jres_eq (Nat.le_refl _) (suf_le hsuf)]⟩ sub_all rfl ?_)
    clear h1 h2 h3 e hsuf
    rintro ⟨r, acc⟩ ⟨h1, h2, h3, h4⟩
    dsimp only at h1 h2 h3 h4 ⊢
    refine ⟨!r.isEmpty, ?_, fun e => ?_, fun e => ?_⟩
    · have := suf_le h1
      refine evt_eq (et_cmp (ev_nm rfl).ev (ev_nm rfl).ev cmp_lt) ?_
      cases r with
      | nil => simp
      | cons p r => simp at this ⊢; omega
    · have hr : r = [] := by cases r with
        | nil => rfl
        | cons p r => cases e
      subst hr
      have hacc := (by simpa [jres] using h4 : acc = _)
      refine exs_cons (ex_assert (evt_eq (et_cmp (ev_nm rfl).ev (ev_nm rfl).ev cmp_eq) (by simp)) ?_)
      refine exs_cons (ex_assign (ev_join (xs := acc) ev_str.ev (ev_mu (lk rfl) (i := 0) rfl) (by have := hlen acc hacc; omega)) (.inl rfl) ?_)
      refine exs_cons (ex_ret (ev_fstr (.lit' (x := [40, 63, 115, 58]) rfl (.val (ev_nm rfl).ev (.lit' (x := [41, 92, 90]) rfl .nil))) (by have := hlen acc hacc; simp only [List.length_append, List.length_cons, List.length_nil]; omega)) ?_)
      show D.str _ = D.str _
      rw [hacc, List.flatten_append, flat_single]
      simp [text, inner]
    · rcases h3 with rfl | ⟨t, rfl⟩
      · cases e
      have hz4 : acc.length ≤ 100000 := by have := congrArg List.length h4; have h5 := hlen2 _ rfl; simp only [List.length_append] at this h5; omega
      refine exs_cons (ex_assert (et_cmp (ev_item (d := .obj a) (ev_nm rfl).ev (ev_nm rfl).ev (by omega) (by have := suf_le h1; omega) (suf_item (p := .star) h1)).ev (ev_nm rfl).ev cmp_is_self) ?_)
      refine exs_cons (ex_aug (lk rfl) ev_int.ev (.inl rfl) ?_)
      rw [suf_next h1]
      refine exs_weak (Γ₀ := jG ps a t) (sub_cons rfl (sub_cons rfl (sub_cons rfl (sub_cons rfl (sub_cons rfl (sub_cons rfl sub_nil)))))) ?_
      have h1' := suf_tail h1
      cases t with
      | nil =>
        refine exs_cons (ex_if (x := true) (evt_eq (et_cmp (ev_nm rfl).ev (ev_nm rfl).ev cmp_eq) (by simp)) (fun _ => ?_) (fun h => nomatch h))
        refine exs_cons (ex_call_meth (i := 0) (ds := stl acc) (lk rfl) rfl (ev_lit [46, 42] rfl) ?_ (by rw [sizeLine_lit]; simp [stl]; omega))
        refine exs_cons (ex_brk ?_)
        have hst : ([stl acc].set 0 (stl acc ++ [D.str (S [46, 42])])) = [stl (acc ++ [[46, 42]])] := by simp [stl]
        rw [hst]
        have h4' : acc ++ [[46, 42]] = (sgs ps).map (fun n => [n]) ++ jres ps.length (rst ps) := by rw [← h4]; simp [jres]
        generalize acc ++ [[46, 42]] = acc at h4' ⊢
        have hacc := h4'
        refine exs_cons (ex_assert (evt_eq (et_cmp (ev_nm rfl).ev (ev_nm rfl).ev cmp_eq) (by simp)) ?_)
        refine exs_cons (ex_assign (ev_join (xs := acc) ev_str.ev (ev_mu (lk rfl) (i := 0) rfl) (by have := hlen acc hacc; omega)) (.inl rfl) ?_)
        refine exs_cons (ex_ret (ev_fstr (.lit' (x := [40, 63, 115, 58]) rfl (.val (ev_nm rfl).ev (.lit' (x := [41, 92, 90]) rfl .nil))) (by have := hlen acc hacc; simp only [List.length_append, List.length_cons, List.length_nil]; omega)) ?_)
        show D.str _ = D.str _
        rw [hacc, List.flatten_append, flat_single]
        simp [text, inner]
      | cons p t =>
        have hle := suf_le h1'
        cases p with
        | star => exact h2.elim
        | sign n =>
        refine exs_cons (ex_if (x := false) (evt_eq (et_cmp (ev_nm rfl).ev (ev_nm rfl).ev cmp_eq) (by simp at hle ⊢; omega)) (fun h => nomatch h) (fun _ => exs_nil ?_))
        refine exs_cons (ex_assert (et_isnot (p := .sign n) (a := a) (ev_item (ev_nm rfl).ev (ev_nm rfl).ev (by omega) (by omega) (suf_item h1')).ev (ev_nm rfl).ev) ?_)
        refine exs_cons (ex_assign_list .nil (.inl rfl) ?_)
        refine exs_cons (ex_whileS (σ := List Pt × List (List Nat)) (fun z => ("fixed", .mu 1) :: jG ps a z.1) (fun z => [stl acc, stl z.2]) (fun z => z.1.length)
          (fun z => (∃ pre, ps = pre ++ z.1) ∧ z.2 ++ (sgs z.1).map (fun n => [n]) = (sgs (.sign n :: t)).map (fun n => [n]) ∧ rst z.1 = rst (.sign n :: t)) (.sign n :: t, []) ⟨h1', rfl, rfl⟩ (sub_cons rfl (sub_cons rfl (sub_cons rfl (sub_cons rfl (sub_cons rfl (sub_cons rfl (sub_cons rfl sub_nil))))))) rfl ?_)
        rintro ⟨r, fx⟩ ⟨g1, g2, g3⟩
        dsimp only at g1 g2 g3 ⊢
        refine ⟨(match r with | [] => false | p :: _ => p.isS), ?_, fun e => ?_, fun e => ?_⟩
        · cases r with
          | nil => exact evt_eq (et_and (a := false) (b := false) (evt_eq (et_cmp (ev_nm rfl).ev (ev_nm rfl).ev cmp_lt) (by simp)) (fun h => nomatch h)) rfl
          | cons p r =>
            have := suf_le g1
            exact evt_eq (et_and (a := true) (evt_eq (et_cmp (ev_nm rfl).ev (ev_nm rfl).ev cmp_lt) (by simp at this ⊢; omega)) (fun _ => et_isnot (p := p) (a := a) (ev_item (ev_nm rfl).ev (ev_nm rfl).ev (by omega) (by omega) (suf_item g1)).ev (ev_nm rfl).ev)) (by simp)
        · have hr : r = rst (.sign n :: t) ∧ fx = (sgs (.sign n :: t)).map (fun n => [n]) := by
            cases r with
            | nil => exact ⟨g3, by simpa [sgs] using g2⟩
            | cons p r => cases p with
              | star => exact ⟨g3, by simpa [sgs] using g2⟩
              | sign n => cases e
          obtain ⟨rfl, rfl⟩ := hr
          have hsl := sgs_len (.sign n :: t)
          have hrl := rst_len (.sign n :: t)
          have hjs : jres (.star :: .sign n :: t).length (.star :: .sign n :: t) = if (rst (.sign n :: t)).isEmpty then [[46, 42], sgs (.sign n :: t)] else ([40, 63, 62, 46, 42, 63] ++ sgs (.sign n :: t) ++ [41]) :: jres (.sign n :: t).length (rst (.sign n :: t)) := by
            simp only [List.length_cons, jres]; rw [if_neg (by simp)]
          rw [hjs] at h4
          have hje : jres (.sign n :: t).length (rst (.sign n :: t)) = jres (rst (.sign n :: t)).length (rst (.sign n :: t)) := jres_eq (Nat.le_refl _) hrl
          rw [hje] at h4
          have hna2 : NA (rst (.sign n :: t)) := NA.rst (NA.tail h2)
          have hst2 := rst_star (.sign n :: t)
          clear e g2 g3 hjs hje
          generalize rst (.sign n :: t) = r at g1 h4 hna2 hst2 hrl ⊢
          generalize sgs (.sign n :: t) = f at h4 hsl ⊢
          refine exs_cons (ex_assign (ev_join (xs := f.map fun n => [n]) ev_str.ev (ev_mu (lk rfl) (i := 1) rfl) (by rw [flat_single]; omega)) (.inl rfl) ?_)
          rw [flat_single]
          refine exs_drop (Γ' := ("fixed", .d (.str (S f))) :: jG ps a r) (Δ := [stl acc]) (sub_cons rfl (sub_cons rfl (sub_cons rfl (sub_cons rfl (sub_cons rfl (sub_cons rfl (sub_cons rfl sub_nil))))))) rfl ?_
          cases r with
          | nil =>
            refine exs_cons (ex_if (x := true) (evt_eq (et_cmp (ev_nm rfl).ev (ev_nm rfl).ev cmp_eq) (by simp)) (fun _ => ?_) (fun h => nomatch h))
            refine exs_cons (ex_call_meth (i := 0) (ds := stl acc) (lk rfl) rfl (ev_lit [46, 42] rfl) ?_ (by rw [sizeLine_lit]; simp [stl]; omega))
            refine exs_cons (ex_call_meth (i := 0) (ds := stl acc ++ [D.str (S [46, 42])]) (lk rfl) rfl (ev_nm rfl) ?_ (by rw [sizeLine_lit]; simp [stl]; omega))
            refine exs_nil (exs_nil ⟨([], acc ++ [[46, 42], f]), by simp, sub_cons rfl (sub_cons rfl (sub_cons rfl (sub_cons rfl (sub_cons rfl (sub_cons rfl sub_nil))))), by simp [stl], ⟨ps, by simp⟩, trivial, .inl rfl, ?_⟩)
            rw [← h4]; simp [jres]
          | cons p r =>
            have hle2 := suf_le g1
            refine exs_cons (ex_if (x := false) (evt_eq (et_cmp (ev_nm rfl).ev (ev_nm rfl).ev cmp_eq) (by simp at hle2 ⊢; omega)) (fun h => nomatch h) (fun _ => ?_))
            refine exs_cons (ex_call_meth (i := 0) (ds := stl acc) (lk rfl) rfl (ev_fstr (.lit' (x := [40, 63, 62, 46, 42, 63]) rfl (.val (ev_nm rfl).ev (.lit' (x := [41]) rfl .nil))) (by simp at hsl hle ⊢; omega)) ?_ (by rw [sizeLine_lit]; simp [stl]; omega))
            refine exs_nil (exs_nil ⟨(p :: r, acc ++ [[40, 63, 62, 46, 42, 63] ++ f ++ [41]]), by simp at hrl ⊢; omega, sub_cons rfl (sub_cons rfl (sub_cons rfl (sub_cons rfl (sub_cons rfl (sub_cons rfl sub_nil))))), by simp [stl], g1, hna2, hst2, ?_⟩)
            rw [← h4, if_neg (by simp)]; simp
        · cases r with
          | nil => cases e
          | cons p r => cases p with
            | star => cases e
            | sign m =>
              refine exs_cons (ex_append (i := 1) (ds := stl fx) (lk rfl) rfl (ev_item (ev_nm rfl).ev (ev_nm rfl).ev (by omega) (by omega) (suf_item g1)) ?_ ?_)
              refine exs_cons (ex_aug (lk rfl) ev_int.ev (.inl rfl) ?_)
              · rw [suf_next g1]
                refine exs_nil ⟨(r, fx ++ [[m]]), by simp, ?_, by simp [stl, Pt.d], suf_tail g1, ?_, g3⟩
                · exact sub_cons rfl (sub_cons rfl (sub_cons rfl (sub_cons rfl (sub_cons rfl (sub_cons rfl (sub_cons rfl sub_nil))))))
                · simpa [sgs] using g2
              · have := congrArg List.length g2
                have h9 := sgs_len (.sign n :: t)
                simp at this h9 hle
                rw [sizeLine_lit]; simp [stl]; omega
  · cases r with
    | nil => cases e
    | cons p r => cases p with
      | star => cases e
      | sign n =>
        refine exs_cons (ex_call_meth (i := 0) (ds := stl acc) (lk rfl) rfl (ev_item (ev_nm rfl).ev (ev_nm rfl).ev (by omega) (by omega) (suf_item h1)) ?_ ?_)
        refine exs_cons (ex_aug (lk rfl) ev_int.ev (.inl rfl) ?_)
        · rw [suf_next h1]
          refine exs_nil ⟨(r, acc ++ [[n]]), by simp, ?_, by simp [stl, Pt.d], suf_tail h1, ?_, h3⟩
          · exact sub_cons rfl (sub_cons rfl (sub_cons rfl (sub_cons rfl (sub_cons rfl (sub_cons rfl sub_nil)))))
          · simpa [sgs] using h2
        · have : acc.length + (sgs (.sign n :: r)).length = (sgs ps).length := by have := congrArg List.length h2; simpa using this
          have h4 := sgs_len ps
          rw [sizeLine_lit]; simp [stl]; omega
end Mine

set_option maxRecDepth 100000
set_option autoImplicit false
set_option linter.unusedVariables false
set_option maxHeartbeats 2000000
namespace Mine
open PySem PySem.W PySem.Calls PyProof.Rows

theorem NA_snoc : ∀ (r : List Pt) (n : Nat), NA r → NA (r ++ [.sign n])
  | [], _, _ => trivial
  | [.star], _, _ => trivial
  | [.sign _], _, _ => trivial
  | .star :: .star :: _, _, h => h.elim
  | .star :: .sign m :: r, n, h => NA_snoc (.sign m :: r) n h
  | .sign _ :: p :: r, n, h => NA_snoc (p :: r) n h
theorem NA_star : ∀ (r : List Pt), NA r → r.getLast? ≠ some .star → NA (r ++ [.star])
  | [], _, _ => trivial
  | [.star], _, h => absurd rfl h
  | [.sign _], _, _ => trivial
  | .star :: .star :: _, h, _ => h.elim
  | .star :: .sign m :: r, h, h' => NA_star (.sign m :: r) h (by simpa using h')
  | .sign _ :: p :: r, h, h' => NA_star (p :: r) h (by simpa using h')
theorem NA_step (r : List Pt) (n : Nat) (h : NA r) : NA (prStep r n) := by
  unfold prStep
  split
  · split
    · exact h
    · rename_i hh; exact NA_star r h hh
  · split <;> exact NA_snoc r _ h
theorem NA_prt (l : List Nat) : NA (prt l) := by
  have : ∀ (l : List Nat) (r : List Pt), NA r → NA (l.foldl prStep r) := by
    intro l
    induction l with
    | nil => intro r h; exact h
    | cons a t ih => intro r h; exact ih _ (NA_step r a h)
  exact this l [] trivial

theorem sp_translate {X : GCtx} (I : IsX X) (ht : ∀ h, X.tm h → TM X h) (l : List Nat) (hl : okPat l) (hz : l.length ≤ 10000) : Spec X "translate" 3 [.str (S l)] (.str (S (text (prt l)))) := by
  refine spec_def (dr := dfn pgm 5) (ps := ["pat"]) (I.mem (k := 1) rfl) rfl (fun pm code doc vs h => ?_) (by decide) (by decide +kernel) (by decide +kernel) (by decide +kernel) (by decide +kernel) rfl rfl rfl ?_
  · match vs, h with
    | [v], _ => rfl
  refine exs_cons (ex_assign_object (.inl rfl) rfl (I.bm (k := 9) rfl) fun a => ?_)
  refine exs_cons (ex_assign (ev_call (.cons (ev_nm rfl) (.cons (ev_nm rfl) (.cons (ev_lit [46] rfl) .nil))) (sp__translate I ht l a hl hz) (nle rfl) rfl) (.inl rfl) ?_)
  exact exs_cons (ex_ret (ev_call (.cons (ev_nm rfl) (.cons (ev_nm rfl) .nil)) (sp_join I (prt l) a (NA_prt l) (by have := prt_len l []; simp only [List.length_nil] at this; unfold prt; omega)) (nle rfl) rfl) rfl)
end Mine

set_option maxRecDepth 100000
set_option autoImplicit false
set_option linter.unusedVariables false
set_option linter.unusedSectionVars false
set_option maxHeartbeats 400000
namespace Mine
open PySem PySem.W PySem.Calls PyProof.Rows
section
variable {α : Type} [DecidableEq α] {enc : α → D} {lt : α → α → Bool}

def sl0 (A1 A2 : List D) : Gam := [("expected", .d (.list A1)), ("actual", .d (.list A2))]
def sl1 (A1 A2 : List D) : Gam := [("i", .d (.int 0)), ("j", .d (.int 0)), ("expected", .d (.list A1)), ("actual", .d (.list A2))]
def sl2 (A1 A2 : List D) : Gam := [("i", .d (.int 0)), ("j", .d (.int 0)), ("expected", .d (.list A1)), ("actual", .d (.list A2)), ("missing", .mu 0)]
theorem sld_run {X : GCtx} (I : IsX X) (R : Ord enc lt) (l1 l2 : List α) (hw1 : l1.Pairwise fun a b => lt a b = true) (hw2 : l2.Pairwise fun a b => lt a b = true) (hz1 : l1.length ≤ 1000) (hz2 : l2.length ≤ 1000)
    {A : Around} {s : Shared} {g : Fz} {fa LL : Addr} {vs : List Value} {envL : Env} {oL : Obj} (hA : A.handled = none) (hdp : A.depth + (0 + 1) < recursionLimit) (hu : A.units + 8 * (0 + 1) + 200 < cLine) (G : Glo X s.heap) (hs : ∀ b o, g b = some o → s.heap.get? b = some o)
    (hmg : X.mg (Str.ofString "sorted_list_difference") = some (.ref fa)) (hr : Reps g [.list (l1.map enc), .list (l2.map enc)] vs)
    (hfr : A.frames = some [envL]) (hf : envL.frame = some LL) (hk : envL.scope.kind ≠ .module) (hoL : s.heap.get? LL = some oL) (hnf : ∀ vs, oL.data ≠ .fields vs) (hgL : g LL = none) (hG : Glo X (hideAll s.heap [LL]))
    {Q : Value → Shared → Prop} {E : Value → Shared → Prop}
    (hQ : ∀ v hF gF tk, (∀ b o, (hideAll s.heap [LL]).get? b = some o → hF.get? b = some o) → (∃ o', hF.get? LL = some o' ∧ o'.data = oL.data) → (∀ b o, g b = some o → gF b = some o) → (∀ b o, gF b = some o → hF.get? b = some o) → (∀ b o, gF b = some o → g b = some o ∨ (hideAll s.heap [LL]).get? b = none) → gF LL = none →
      Rep gF (.tup [.list ((dif l1 l2).map enc), .list ((dif l2 l1).map enc)]) v → Q v { s with heap := hF, toks := tk }) :
    wpAny (model X.prog X.w) A (call (.ref fa) vs) Q E s := by
  refine enter_def (dr := dfn pgm 13) (ps := ["expected", "actual"]) (n := 0) (I.mem (k := 5) rfl) rfl (fun pm code doc vs h => ?_) (by decide) (by decide +kernel) (by decide +kernel) (by decide +kernel) (by decide +kernel) rfl rfl rfl hA hdp hu G hs hmg hr ?_
  · match vs, h with
    | [v, u], _ => rfl
  intro fr h₁ tk e1 e2 e3 e4 e5 e6 e7 kp O S
  have hoc : fr.oc = [] := by rw [e6]; rfl
  have hn : ∀ p ∈ (dfn pgm 13).scope.names, p.2 ≠ .cell ∧ p.2 ≠ .free := by decide +kernel
  have hG' : Glo X (hideAll fr.h₀ [LL]) := by rw [e2]; exact hG
  have O3 := O.less (LL := LL) hG' hn rfl
  have S3 := S.less (LL := LL) O hn hoc
  have hne : fr.env.locals ≠ LL := fun q => by rw [q, hoL] at e7; cases e7
  have F : Two (less fr LL) LL := ⟨⟨envL, by show fr.A.frames = _; rw [e1]; exact Around.frames_deeper hfr, hf, hk⟩, e5, (by show fr.env.scope.kind ≠ _; rw [O.sc, O.kind]; decide), hne, hoc, hideAll_none _ (.head _)⟩
  have Z : SS (less fr LL) LL oL.data (sl0 (l1.map enc) (l2.map enc)) [] h₁ g [] := ⟨S3, ⟨⟨oL, kp _ _ hoL, rfl⟩, hnf⟩, hgL, by simp⟩
  generalize hfr3 : less fr LL = fr3 at O3 S3 F Z
  have eA : fr.A = fr3.A := by rw [← hfr3]; rfl
  have eE : fr.env = fr3.env := by rw [← hfr3]; rfl
  have eh : fr3.h₀ = hideAll s.heap [LL] := by rw [← hfr3, ← e2]; rfl
  have eg : fr3.g₀ = g := by rw [← hfr3]; exact e3
  rw [eA, eE]
  clear S O S3
  refine wpAny_execs_cons (SS.ex1 (s := { s with heap := h₁, toks := tk }) (P := fun o Γ' Δ' => o = .next ∧ (∀ p ∈ sl1 (l1.map enc) (l2.map enc), p ∈ Γ') ∧ Δ' = []) O3 F Z (ex_two ev_int (.inl rfl) (.inl rfl) ⟨rfl, sub_cons rfl (sub_cons rfl (sub_cons rfl (sub_cons rfl sub_nil))), rfl⟩) fun o f Γ' Δ' h2 g2 am2 t2 hp hf Z2 k2 => ?_)
  obtain ⟨rfl, hsub, rfl⟩ := hp
  cases hf
  have Z2 := Z2.weak hsub
  refine wpAny_execs_cons (SS.ex1 (s := { s with heap := h2, toks := t2 }) (P := fun o Γ' Δ' => o = .next ∧ (∀ p ∈ sl2 (l1.map enc) (l2.map enc), p ∈ Γ') ∧ Δ' = [[]]) O3 F Z2 (ex_assign_list .nil (.inl rfl) ⟨rfl, sub_cons rfl (sub_cons rfl (sub_cons rfl (sub_cons rfl (sub_cons rfl sub_nil)))), rfl⟩) fun o f Γ' Δ' h3 g3 am3 t3 hp hf Z3 k3 => ?_)
  obtain ⟨rfl, hsub, rfl⟩ := hp
  cases hf
  have Z3 := Z3.weak hsub
  refine wpAny_execs_cons (SS.ex1 (s := { s with heap := h3, toks := t3 }) (P := fun o Γ' Δ' => o = .next ∧ (∀ p ∈ sG (l1.map enc) (l2.map enc) 0 0, p ∈ Γ') ∧ Δ' = [[], []]) O3 F Z3 (ex_assign_list .nil (.inl rfl) ⟨rfl, sub_cons rfl (sub_cons rfl (sub_cons rfl (sub_cons rfl (sub_cons rfl (sub_cons rfl sub_nil))))), rfl⟩) fun o f Γ' Δ' h4 g4 am4 t4 hp hf Z4 k4 => ?_)
  obtain ⟨rfl, hsub, rfl⟩ := hp
  cases hf
  have Z4 := Z4.weak hsub
  clear Z Z2 Z3
  have hM : (dif l1 l2).length ≤ 1000 := Nat.le_trans (List.length_filter_le _ _) hz1
  have hU : (dif l2 l1).length ≤ 1000 := Nat.le_trans (List.length_filter_le _ _) hz2
  refine wpAny_execs_cons (wpAny_While (codeAny_whileLoop (fun n s' => ∃ p1 r1 p2 r2 mi un g am h tk, s' = { s with heap := h, toks := tk } ∧ Go l1 l2 (dif l1 l2) (dif l2 l1) p1 r1 p2 r2 mi un ∧ SS fr3 LL oL.data (sG (l1.map enc) (l2.map enc) p1.length p2.length) [mi.map enc, un.map enc] h g am ∧ n = r1.length + r2.length) ?_ (l1.length + l2.length)
    ⟨[], l1, [], l2, [], [], g4, am4, h4, t4, rfl, ⟨rfl, rfl, rfl, rfl⟩, Z4, rfl⟩))
  clear Z4
  rintro n s' ⟨p1, r1, p2, r2, mi, un, g5, am5, h5, t5, rfl, G5, Z5, rfl⟩
  refine SS.test (s := { s with heap := h5, toks := t5 }) (x := true) O3 Z5 (et_of ev_bool.ev (by exact rfl)) fun h6 g6 t6 Z6 => ?_
  simp only [if_true]
  refine wpAny_execs_cons (wpAny_Try_except ?_)
  refine wpAny_mono (?_ : wpAny _ _ _ _ (RZ fr3 LL oL.data enc l1 l2 (dif l1 l2) (dif l2 l1) { s with heap := h6, toks := t6 }) _) (fun _ _ q => q) ?_
  · refine x_body (s := { s with heap := h6, toks := t6 }) R O3 F rfl Z6 G5 hz1 hz2 rfl rfl ?_
    intro a b r1' r2' h7 g7 t7 er1 er2 Z7
    subst er1 er2
    refine wpAny_execs_cons (wpAny_If (SS.test (s := { s with heap := h7, toks := t7 }) (x := lt a b) O3 Z7 (et_cmp (ev_nm rfl).ev (ev_nm rfl).ev (R.clt _ a b)) fun h8 g8 t8 Z8 => ?_))
    by_cases hab : lt a b = true
    · rw [if_pos hab]
      refine x_less (s := { s with heap := h8, toks := t8 }) (s0 := { s with heap := h6, toks := t6 }) R O3 F rfl Z8 ⟨_, _, rfl⟩ G5 hab hz1 hz2 hM hw1 hw2 rfl ?_ ?_
      · rfl
      · intro p1' r1'' mi' h9 g9 am9 t9 hlt G9 Z9
        exact wpAny_execs_nil (wpAny_execs_nil (wpAny_execs_nil ⟨_, by simp only [List.length_cons] at hlt ⊢; omega, p1', r1'', _, _, mi', _, g9, am9, h9, t9, rfl, G9, Z9, rfl⟩))
    · rw [if_neg hab]
      refine wpAny_execs_cons (wpAny_If (SS.test (s := { s with heap := h8, toks := t8 }) (x := lt b a) O3 Z8 (et_cmp (ev_nm rfl).ev (ev_nm rfl).ev (R.cgt _ a b)) fun h9 g9 t9 Z9 => ?_))
      by_cases hba : lt b a = true
      · rw [if_pos hba]
        refine x_more (s := { s with heap := h9, toks := t9 }) (s0 := { s with heap := h6, toks := t6 }) R O3 F rfl Z9 ⟨_, _, rfl⟩ G5 hba hz1 hz2 hU hw1 hw2 rfl ?_ ?_
        · rfl
        · intro p2' r2'' un' h9 g9 am9 t9 hlt G9 Z9
          exact wpAny_execs_nil (wpAny_execs_nil (wpAny_execs_nil (wpAny_execs_nil ⟨_, by simp only [List.length_cons] at hlt ⊢; omega, _, _, p2', r2'', _, un', g9, am9, h9, t9, rfl, G9, Z9, rfl⟩)))
      · rw [if_neg hba]
        obtain rfl := R.tot a b (by simpa using hab) (by simpa using hba)
        refine x_same (s := { s with heap := h9, toks := t9 }) (s0 := { s with heap := h6, toks := t6 }) R O3 F rfl Z9 ⟨_, _, rfl⟩ G5 hz1 hz2 hw1 hw2 rfl rfl ?_
        intro p1' r1'' p2' r2'' h9 g9 am9 t9 hlt hlt2 G9 Z9
        exact wpAny_execs_nil (wpAny_execs_nil (wpAny_execs_nil (wpAny_execs_nil ⟨_, by simp only [List.length_cons] at hlt hlt2 ⊢; omega, p1', r1'', p2', r2'', _, _, g9, am9, h9, t9, rfl, G9, Z9, rfl⟩)))
  · intro v s' z
    refine x_handle O3 F z hz1 hz2 hM hU rfl (I.bm (k := 12) rfl) ?_ ?_ ?_
    · rfl
    · rfl
    · intro h8 g8 am8 t8 Z8
      -- behind the loop: the return
      refine SS.exs (s := { s with heap := h8, toks := t8 }) (P := fun o Γ' Δ' => o = .ret (.tup [.list ((dif l1 l2).map enc), .list ((dif l2 l1).map enc)])) O3 F Z8 ?_ fun o f Γ' Δ' h9 g9 am9 t9 hp hf Z9 _ => ?_
      · refine exs_freeze (Δ := [(dif l1 l2).map enc]) (Γ' := [("missing", .mu 0), ("unexpected", .d (.list ((dif l2 l1).map enc)))]) (fun p hp => ?_) ?_
        · rcases List.mem_cons.mp hp with rfl | hp
          · exact .inl ⟨lk rfl, by show 0 < 1; omega⟩
          · rw [List.mem_singleton.mp hp]; exact .inr ⟨rfl, lk rfl⟩
        refine exs_freeze (Δ := []) (Γ' := [("missing", .d (.list ((dif l1 l2).map enc))), ("unexpected", .d (.list ((dif l2 l1).map enc)))]) (fun p hp => ?_) ?_
        · rcases List.mem_cons.mp hp with rfl | hp
          · exact .inr ⟨rfl, lk rfl⟩
          · rw [List.mem_singleton.mp hp]; exact .inl ⟨lk rfl, trivial⟩
        exact exs_cons (ex_ret (ev_tup (.cons (ev_nm rfl) (.cons (ev_nm rfl) .nil))) rfl)
      · cases hp
        cases hf with
        | ret d v r =>
          refine ⟨v, rfl, hQ v h9 g9 t9 (fun b o e => Z9.S.keep b o (eh ▸ e)) Z9.L.at' (fun b o e => Z9.S.gsub b o (eg ▸ e)) Z9.S.sub (fun b o e => ?_) Z9.hg r⟩
          rcases Z9.S.own b o e with q | q
          · exact .inl (eg ▸ q)
          · exact .inr (eh ▸ q)

/-- x = sorted_list_difference(e1, e2), in the law's own frame -/
theorem ex_assign_sld {c : Cfg} {Γ : Gam} {Δ : Del} {P : Post} (I : IsX c.X) (hfl : c.fl = true) (hn1 : 1 ≤ c.n) (R : Ord enc lt) {l1 l2 : List α} {x : Str} {p pf pos pos' : Pos} {a1 a2 : Expr} (h1 : EvF c Γ Δ a1 (.list (l1.map enc))) (h2 : EvF c Γ Δ a2 (.list (l2.map enc)))
    (hw1 : l1.Pairwise fun a b => lt a b = true) (hw2 : l2.Pairwise fun a b => lt a b = true) (hz1 : l1.length ≤ 1000) (hz2 : l2.length ≤ 1000) (hx : Sto c x) (hk : c.sc.names.lookup (Str.ofString "sorted_list_difference") = some .globalImplicit)
    (h : P .next (upd Γ x (.d (.tup [.list ((dif l1 l2).map enc), .list ((dif l2 l1).map enc)]))) Δ) (hh : c.hd = true := by rfl)
    (he : ∀ env, starEach [a1, a2] env = (false, eval a1 env) :: starEach [a2] env := by intro _; rfl) (he' : ∀ env, starEach [a2] env = [(false, eval a2 env)] := by intro _; rfl)
    (hs : ∀ env, swapsWith (.Call (.Name (Str.ofString "sorted_list_difference") pf) [a1, a2] [] pos) (some (.Name x p)) pos'.line env = pure false := by intro _; rfl) :
    Ex1 c Γ Δ (.Assign [.Name x p] (.Call (.Name (Str.ofString "sorted_list_difference") pf) [a1, a2] [] pos) pos') P := fun fr s g am O S Q hQ => by
  obtain ⟨a, o, pm, code, doc, m1, m2, m3, m4⟩ := O.glo.fn (dfn pgm 13) (I.mem (k := 5) rfl)
  refine wpAny_Assign_Name (Call_ (Name_function_global (O.sc ▸ O.kind) (by unfold Env.kindOf; rw [O.sc]; exact hk) (loadGlobal_global (O.glob ▸ (O.glo.g.keeps S.keep)) m1 (callWith_def m3 (w_args (.cons h1 (.cons h2 .nil he') he) O S fun vs h' g' tk k r => ⟨?_, ?_⟩) (he _))) (by decide))) (hs _)
  · exact k.hk _ _ (S.keep _ _ m2)
  have S' := S.gr k
  obtain ⟨fr1, fr2⟩ := O.frs hfl
  obtain ⟨m, ⟨oL, es, ep, hoL, hdL, _⟩, _⟩ := id S'.loc
  have hu := O.units
  have hdp := O.depth
  refine sld_run I R l1 l2 hw1 hw2 hz1 hz2 (s := { s with heap := h', toks := tk }) (LL := fr.env.locals) (O.hand hh) (by omega) (by omega) (O.glo.keeps S'.keep) k.sub m1 r fr1 fr2 (by rw [O.sc, O.kind]; decide) hoL (fun vs q => by rw [hdL] at q; cases q) S'.gL
    (O.glo.keeps fun b o e => hideAll_get _ (S'.keep b o e) fun hm => by rw [List.mem_singleton.mp hm, S.hL] at e; cases e) fun v hF gF tk' q1 q2 q3 q4 q5 q6 q7 => ?_
  have SF : St fr Γ Δ hF gF am := S'.back (fun b o hb e => q1 b o (hideAll_get _ e (by simpa using hb))) (fun o e => by rw [hoL] at e; cases e; exact q2) q3 q4 q5 q6
  exact w_store (s := { s with heap := hF, toks := tk' }) O SF hx (.d _ v q7) fun h2 t2 S2 _ => hQ .next .next _ _ h2 gF am t2 h .next S2
end
end Mine

set_option maxRecDepth 100000
set_option autoImplicit false
set_option linter.unusedVariables false
set_option maxHeartbeats 2000000
namespace Mine
open PySem PySem.W PySem.Calls PyProof.Rows
abbrev NL (ns : List Nat) : List D := ns.map fun n : Nat => D.int (n : Int)
theorem NL_IL (ns : List Nat) : NL ns = IL (ns.map fun n : Nat => (n : Int)) := by simp [NL, IL]
def sortN (ns : List Nat) : List Nat := ns.mergeSort (fun a b => decide (a ≤ b))
theorem sortN_perm (ns : List Nat) : (sortN ns).Perm ns := List.mergeSort_perm _ _
theorem sortN_le (ns : List Nat) : (sortN ns).Pairwise (· ≤ ·) := by
  have := List.pairwise_mergeSort (le := fun a b : Nat => decide (a ≤ b)) (fun a b c h1 h2 => by simp only [decide_eq_true_eq] at *; omega) (fun a b => by simp only [Bool.or_eq_true, decide_eq_true_eq]; omega) ns
  exact this.imp fun h => by simpa using h
theorem sortZN (ns : List Nat) : sortZ (ns.map fun n : Nat => (n : Int)) = (sortN ns).map fun n : Nat => (n : Int) :=
  (sortZ_uniq ((sortN_perm ns).map _) (List.pairwise_map.mpr ((sortN_le ns).imp fun h => by omega))).symm
theorem contains_cast (ns : List Nat) (n : Nat) : (ns.map fun n : Nat => (n : Int)).contains (n : Int) = ns.contains n := by
  rw [Bool.eq_iff_iff]; simp only [List.contains_iff_mem, List.mem_map]
  exact ⟨fun ⟨a, h, e⟩ => by have : a = n := by omega
                             exact this ▸ h, fun h => ⟨n, h, rfl⟩⟩
theorem fdivN (a b : Nat) (h : 0 < b) : ((a : Int).fdiv b) = ((a / b : Nat) : Int) := by rw [Int.fdiv_eq_ediv_of_nonneg _ (by omega)]; rfl
theorem fmodN (a b : Nat) (h : 0 < b) : ((a : Int).fmod b) = ((a % b : Nat) : Int) := by rw [Int.fmod_eq_emod_of_nonneg _ (by omega)]; rfl
theorem nl_get {ns : List Nat} {i : Nat} {d : D} (h : (NL ns)[i]? = some d) : ∃ hi : i < ns.length, d = .int (ns[i] : Nat) := by
  have hi : i < ns.length := by have := (List.getElem?_eq_some_iff.mp h).1; simpa using this
  refine ⟨hi, ?_⟩
  have : (NL ns)[i]? = some (D.int (ns[i] : Nat)) := by simp [NL, hi]
  rw [this] at h; injection h with h; exact h.symm
theorem take_snoc {α : Type} (l : List α) (i : Nat) (h : i < l.length) : l.take (i + 1) = l.take i ++ [l[i]] := by
  rw [List.take_add_one, List.getElem?_eq_getElem h]; rfl
theorem cut_nn {α : Type} (l : List α) (a b : Nat) : cut l (some (a : Int)) (some (b : Int)) = (l.take b).drop a := by
  unfold cut
  simp only [Option.elim_some, clipAt_nat]
  by_cases h : a ≤ l.length
  · rw [Nat.min_eq_left h, List.drop_take]
    apply List.take_eq_take_iff.mpr
    simp only [List.length_drop]; omega
  · rw [Nat.min_eq_right (show l.length ≤ a by omega)]
    have h1 : l.drop l.length = [] := by simp
    rw [h1, List.take_nil]
    symm
    apply List.drop_eq_nil_of_le
    simp only [List.length_take]; omega
theorem cut_n {α : Type} (l : List α) (a : Nat) : cut l (some (a : Int)) none = l.drop a := by
  unfold cut
  simp only [Option.elim_some, Option.elim_none, clipAt_nat]
  by_cases h : a ≤ l.length
  · rw [Nat.min_eq_left h, List.take_of_length_le (by simp)]
  · rw [Nat.min_eq_right (by omega)]; simp; omega
theorem cut_to {α : Type} (l : List α) (b : Nat) : cut l none (some (b : Int)) = l.take b := by
  unfold cut
  simp only [Option.elim_some, Option.elim_none, clipAt_nat, List.drop_zero, Nat.sub_zero]
  by_cases h : b ≤ l.length
  · rw [Nat.min_eq_left h]
  · rw [Nat.min_eq_right (by omega), List.take_of_length_le (Nat.le_refl _), List.take_of_length_le (by omega)]
theorem cut_tail {α : Type} (l : List α) (k : Nat) (hk : 1 ≤ k) : cut l (some (-(k : Int))) none = l.drop (l.length - k) := by
  unfold cut
  simp only [Option.elim_some, Option.elim_none, clipAt_neg _ _ hk]
  rw [List.take_of_length_le (by simp)]
theorem cut_mid {α : Type} (l : List α) (a k : Nat) (hk : 1 ≤ k) : cut l (some (a : Int)) (some (-(k : Int))) = (l.take (l.length - k)).drop a := by
  have h := cut_nn l a (l.length - k)
  unfold cut at h ⊢
  simp only [Option.elim_some, clipAt_nat, clipAt_neg _ _ hk] at h ⊢
  rw [Nat.min_eq_left (Nat.sub_le _ _)] at h
  exact h
theorem zs_get {n : Nat} {a : Int} {i : Nat} {d : D} (h : (zs a n)[i]? = some d) : i < n ∧ d = .int (a + i) := by
  have hi : i < n := by have := (List.getElem?_eq_some_iff.mp h).1; simpa [zs] using this
  refine ⟨hi, ?_⟩
  have : (zs a n)[i]? = some (D.int (a + i)) := by simp [zs, hi]
  rw [this] at h; injection h with h; exact h.symm
def encz (k : Nat) : D := .int (0 + (k : Int))
def okL (l : List Nat) : Prop := ∀ n ∈ l, n < 0x110000
theorem okS_one (n : Nat) (h : n < 0x110000) : okS (S [n]) = true := by simp [okS, h]
theorem bits16 : Builtin.Int.intBits 16 = 5 := by decide +kernel
theorem pow16 (k : Nat) : (16 : Int) ^ k = ((16 ^ k : Nat) : Int) := by norm_cast
theorem pow16_lt (k : Nat) (h : k ≤ 5) : 16 ^ k ≤ 1048576 := Nat.pow_le_pow_right (n := 16) (by decide) h
theorem il_get {ns : List Int} {i : Nat} {d : D} (h : (IL ns)[i]? = some d) : ∃ hi : i < ns.length, d = .int ns[i] := by
  have hi : i < ns.length := by have := (List.getElem?_eq_some_iff.mp h).1; simpa using this
  refine ⟨hi, ?_⟩
  have : (IL ns)[i]? = some (D.int ns[i]) := by simp [IL, hi]
  rw [this] at h; injection h with h; exact h.symm
def eW (n : Nat) : D := .str (S (wd n))
theorem wd_inj {a b : Nat} (h : wd a = wd b) : a = b := by
  have h1 := rd_wd a
  rw [h, rd_wd b] at h1
  omega
theorem inj_eW : Inj eW := fun a b h => wd_inj (inj_S _ _ h)
theorem hx_mono : ∀ (k n : Nat), (hx n).length = k + 1 → 16 ^ k ≤ n := fun k => by
  induction k with
  | zero => intro n h; by_cases q : n = 0
            · rw [q, hx_zero] at h; simp at h
            · simp; omega
  | succ k ih =>
    intro n h
    have pn : n ≠ 0 := fun q => by rw [q, hx_zero] at h; simp at h
    have := ih (n / 16) (by rw [hx_pos pn] at h; simpa using h)
    rw [Nat.pow_succ]; omega
theorem hx_up : ∀ (k n : Nat), (hx n).length = k → n < 16 ^ k := fun k => by
  induction k with
  | zero => intro n h; by_cases q : n = 0
            · rw [q]; decide
            · rw [hx_pos q] at h; simp at h
  | succ k ih =>
    intro n h
    have pn : n ≠ 0 := fun q => by rw [q, hx_zero] at h; simp at h
    have := ih (n / 16) (by rw [hx_pos pn] at h; simpa using h)
    rw [Nat.pow_succ]; omega
theorem hx_len_lt {a b : Nat} (h : (hx a).length < (hx b).length) : a < b := by
  have h1 := hx_up _ a rfl
  obtain ⟨k, hk⟩ : ∃ k, (hx b).length = k + 1 := ⟨(hx b).length - 1, by omega⟩
  have h2 := hx_mono k b hk
  have h3 : 16 ^ (hx a).length ≤ 16 ^ k := Nat.pow_le_pow_right (by decide) (by omega)
  omega
theorem wd_zero : wd 0 = [] := by simp [wd, hx_zero]
theorem wd_pos {n : Nat} (h : n ≠ 0) : wd n = wd (n / 16) ++ [65 + n % 16] := by unfold wd; rw [hx_pos h]; simp
theorem wd_hx (n : Nat) : (wd n).length = (hx n).length := by simp [wd]
theorem wd_split : ∀ (k y : Nat), ∃ u, wd y = wd (y / 16 ^ k) ++ u
  | 0, y => ⟨[], by simp⟩
  | k + 1, y => by
    obtain ⟨u, hu⟩ := wd_split k (y / 16)
    by_cases h : y = 0
    · exact ⟨[], by rw [h]; simp⟩
    · refine ⟨u ++ [65 + y % 16], ?_⟩
      rw [wd_pos h, hu, List.append_assoc]
      rw [Nat.div_div_eq_div_mul, Nat.pow_succ, Nat.mul_comm 16]
theorem wd_pre (u : List Nat) : ∀ (y x : Nat), wd y = wd x ++ u → x = y / 16 ^ u.length := by
  induction hn : u.length generalizing u with
  | zero =>
    intro y x h
    rw [List.length_eq_zero_iff.mp hn, List.append_nil] at h
    rw [wd_inj h]; simp
  | succ k ih =>
    intro y x h
    have hy : y ≠ 0 := fun q => by
      rw [q, wd_zero] at h
      have := congrArg List.length h; simp at this; omega
    obtain ⟨u', c, rfl⟩ : ∃ u' c, u = u' ++ [c] := ⟨u.dropLast, u.getLast (by intro q; rw [q] at hn; simp at hn), by rw [List.dropLast_concat_getLast]⟩
    rw [wd_pos hy, ← List.append_assoc] at h
    have h2 := (List.append_inj' h rfl).1
    have := ih u' (by simpa using hn) (y / 16) x h2
    rw [this, Nat.div_div_eq_div_mul, Nat.pow_succ, Nat.mul_comm 16]
theorem wd_ahead (y : Nat) (a b : List Nat) (h : wd y = a ++ b) : a = wd (y / 16 ^ b.length) := by
  induction hn : b.length generalizing b y with
  | zero =>
    rw [List.length_eq_zero_iff.mp hn, List.append_nil] at h
    rw [← h]; simp
  | succ k ih =>
    have hy : y ≠ 0 := fun q => by
      rw [q, wd_zero] at h
      have := congrArg List.length h; simp at this; omega
    obtain ⟨u', c, rfl⟩ : ∃ u' c, b = u' ++ [c] := ⟨b.dropLast, b.getLast (by intro q; rw [q] at hn; simp at hn), by rw [List.dropLast_concat_getLast]⟩
    rw [wd_pos hy, ← List.append_assoc] at h
    have h2 := (List.append_inj' h rfl).1
    have := ih (y / 16) u' h2 (by simpa using hn)
    rw [this, Nat.div_div_eq_div_mul, Nat.pow_succ, Nat.mul_comm 16]
theorem wd_cat (x m : Nat) : wd (x * 16 ^ (hx m).length + m) = wd x ++ wd m := by
  induction m using Nat.strongRecOn with
  | _ m ih =>
    by_cases h : m = 0
    · subst h; simp [hx_zero, wd_zero]
    · have hl : (hx m).length = (hx (m / 16)).length + 1 := by rw [hx_pos h]; simp
      have hp : 16 ^ (hx m).length = 16 * 16 ^ (hx (m / 16)).length := by rw [hl, Nat.pow_succ, Nat.mul_comm]
      have e : x * 16 ^ (hx m).length = 16 * (x * 16 ^ (hx (m / 16)).length) := by rw [hp, Nat.mul_left_comm]
      have h1 : x * 16 ^ (hx m).length + m ≠ 0 := by omega
      rw [wd_pos h1, wd_pos h, ← List.append_assoc, ← ih (m / 16) (by omega)]
      have e1 : (x * 16 ^ (hx m).length + m) / 16 = x * 16 ^ (hx (m / 16)).length + m / 16 := by rw [e]; omega
      have e2 : (x * 16 ^ (hx m).length + m) % 16 = m % 16 := by rw [e]; omega
      rw [e1, e2]
section
variable {c : Cfg} {Γ : Gam} {Δ : Del} {P : Post}
theorem op_pow16 {k : Nat} (h : k ≤ 5) : OpF c .Pow (.int 16) (.int k) (.int (16 ^ k : Nat)) := by
  have := op_pow (c := c) (a := 16) (b := k) (by omega) (by rw [bits16]; omega)
  rwa [Int.toNat_natCast, pow16] at this
theorem op_div16 {a k : Nat} (h : k ≤ 5) (hh : c.hd = true := by rfl) : OpF c .FloorDiv (.int a) (.int (16 ^ k : Nat)) (.int (a / 16 ^ k : Nat)) := by
  have h1 := pow16_lt k h
  have h0 : 0 < 16 ^ k := Nat.pow_pos (by decide)
  have := op_fdiv (c := c) (a := a) (b := (16 ^ k : Nat)) (by omega) (noPy (by omega)) hh
  rwa [fdivN _ _ h0] at this
theorem op_mod16 {a k : Nat} : OpF c .Mod (.int a) (.int (16 ^ k : Nat)) (.int (a % 16 ^ k : Nat)) := by
  have h0 : 0 < 16 ^ k := Nat.pow_pos (by decide)
  have := op_mod (c := c) (a := a) (b := (16 ^ k : Nat)) (by omega)
  rwa [fmodN _ _ h0] at this
end
end Mine

set_option maxRecDepth 100000
set_option autoImplicit false
set_option linter.unusedVariables false
set_option maxHeartbeats 2000000
namespace Mine
open PySem PySem.W PySem.Calls PyProof.Rows

theorem sp_spread4 {X : GCtx} (I : IsX X) (rest : Nat) : Spec X "_law_spread" 1 [.int rest] (.int (sprd rest 4 0 : Nat)) := by
  refine spec_def (dr := dfn pgm 19) (ps := ["rest"]) (I.mem (k := 10) rfl) rfl (fun pm code doc vs h => ?_) (by decide) (by decide +kernel) (by decide +kernel) (by decide +kernel) (by decide +kernel) rfl rfl rfl ?_
  · match vs, h with
    | [v], _ => rfl
  refine exs_cons (ex_assign ev_int (.inl rfl) ?_)
  refine exs_cons (ex_forS (σ := Nat × Nat) (fun z => [("number", .d (.int z.1)), ("rest", .d (.int z.2))]) (fun _ => []) (fun i z => i ≤ 4 ∧ sprd z.2 (4 - i) z.1 = sprd rest 4 0) (0, rest) ⟨Nat.zero_le _, rfl⟩ (sub_cons rfl (sub_cons rfl sub_nil)) rfl
    (evi_range1 ev_int.ev (by omega) (by omega) rfl (I.bm (k := 6) rfl)) (.inl rfl) ?_ ?_)
  · rintro i d ⟨n, r⟩ hd ⟨hi, hz⟩
    have hl : i < 4 := by
      have := (List.getElem?_eq_some_iff.mp hd).1
      simpa [zs] using this
    refine exs_cons (ex_assign (ev_bin (ev_bin (ev_nm rfl).ev ev_int.ev (op_mul mulOk16)).ev (ev_bin (ev_nm rfl).ev ev_int.ev (op_mod (by decide))).ev op_add) (.inl rfl) ?_)
    refine exs_cons (ex_assign (ev_bin (ev_nm rfl).ev ev_int.ev (op_fdiv (by decide) (noPy (by decide)))) (.inl rfl) ?_)
    dsimp only
    have e1 : ((r : Int).fdiv 3) = ((r / 3 : Nat) : Int) := by rw [Int.fdiv_eq_ediv_of_nonneg _ (by decide)]; rfl
    have e2 : (n : Int) * 16 + ((r : Int).fmod 3) = ((n * 16 + r % 3 : Nat) : Int) := by rw [Int.fmod_eq_emod_of_nonneg _ (by decide)]; omega
    rw [e1, e2]
    refine exs_nil ⟨(n * 16 + r % 3, r / 3), sub_cons rfl (sub_cons rfl sub_nil), rfl, by omega, ?_⟩
    rw [← hz, show 4 - i = (4 - (i + 1)) + 1 by omega]; rfl
  · rintro ⟨n, r⟩ ⟨hi, hz⟩
    refine exs_cons (ex_ret (ev_nm rfl) ?_)
    show D.int _ = D.int _
    have hl : (zs 0 (4 : Int).toNat).length = 4 := by simp [zs]
    rw [hl] at hz
    rw [← hz]; rfl

/-! the rows -/
def rest81 (x : Int) : Nat := ((x.fdiv 4).fmod 81).toNat
theorem rest81_int (x : Int) : (x.fdiv 4).fmod 81 = (rest81 x : Int) := by
  have : 0 ≤ (x.fdiv 4).fmod 81 := Int.fmod_nonneg_of_pos _ (by decide)
  unfold rest81; rw [Int.toNat_of_nonneg this]
def rowN (last : Nat) (x : Int) : Nat := if x.fmod 4 = 0 then last * 16 + rest81 x % 3 else if x.fmod 4 = 1 then rest81 x % 3 * 16 ^ (hx last).length + last else sprd (rest81 x) 4 0
def rowS (l : List Nat × Nat) (x : Int) : List Nat × Nat := (l.1 ++ [l.2], rowN (l.2 % 4096) x)
def rowsOf (ns : List Int) : List Nat := let z := (ns.take 9).foldl rowS ([18], 1); z.1 ++ [z.2]
theorem hx_len3 {n : Nat} (h : n < 4096) : (hx n).length ≤ 3 := hx_len 3 n (by omega)
theorem rowN_lt (last : Nat) (x : Int) (h : last < 4096) : rowN last x < 16 ^ 4 := by
  unfold rowN
  split
  · omega
  · split
    · have h1 := hx_len3 h
      have h2 : 16 ^ (hx last).length ≤ 16 ^ 3 := Nat.pow_le_pow_right (by decide) h1
      have h3 : rest81 x % 3 * 16 ^ (hx last).length ≤ 2 * 16 ^ 3 := Nat.mul_le_mul (by omega) h2
      omega
    · have := sprd_lt 4 (rest81 x) 0 0 (by decide)
      simpa using this
theorem rows_fold (P : Nat → Prop) (hP : ∀ last x, last < 4096 → P (rowN last x)) : ∀ (xs : List Int) (z : List Nat × Nat), (∀ n ∈ z.1 ++ [z.2], P n) → ∀ n ∈ (xs.foldl rowS z).1 ++ [(xs.foldl rowS z).2], P n
  | [], z, h => h
  | x :: r, z, h => rows_fold P hP r (rowS z x) fun n hn => by
    rcases List.mem_append.mp hn with hn | hn
    · exact h n hn
    · rw [List.mem_singleton.mp hn]; exact hP _ _ (Nat.mod_lt _ (by decide))
theorem rowsOf_lt (ns : List Int) : ∀ n ∈ rowsOf ns, n < 16 ^ 4 := rows_fold (fun n => n < 16 ^ 4) rowN_lt (ns.take 9) ([18], 1) (by decide)
theorem rows_len : ∀ (xs : List Int) (z : List Nat × Nat), (xs.foldl rowS z).1.length = z.1.length + xs.length
  | [], z => rfl
  | x :: r, z => by rw [List.foldl_cons, rows_len r]; simp [rowS]; omega
theorem rowsOf_len (ns : List Int) : (rowsOf ns).length ≤ 11 := by
  unfold rowsOf
  simp only [List.length_append, rows_len, List.length_take, List.length_cons, List.length_nil]; omega
theorem rows_pre : ∀ (xs : List Int) (z : List Nat × Nat), ∃ r, (xs.foldl rowS z).1 ++ [(xs.foldl rowS z).2] = z.1 ++ [z.2] ++ r
  | [], z => ⟨[], by simp⟩
  | x :: r, z => by
    obtain ⟨t, ht⟩ := rows_pre r (rowS z x)
    exact ⟨rowN (z.2 % 4096) x :: t, by rw [List.foldl_cons, ht]; simp [rowS]⟩
theorem rowsOf_pre (ns : List Int) : ∃ r, rowsOf ns = 18 :: 1 :: r := rows_pre (ns.take 9) ([18], 1)

theorem sp_rows {X : GCtx} (I : IsX X) (ns : List Int) (hz : ns.length ≤ 63) : SpecA X "_law_rows" 2 ns (.list (NL (rowsOf ns))) := by
  refine specA_def (dr := dfn pgm 20) (x := "script") (I.mem (k := 11) rfl) (fun pm code doc v => rfl) rfl (by decide +kernel) (by decide +kernel) (by decide +kernel) rfl rfl rfl ?_
  refine exs_cons (ex_assign_list (.cons ev_int (.cons ev_int .nil)) (.inl rfl) ?_)
  have hcut : cut ns none (some 9) = ns.take 9 := by rw [show (9 : Int) = ((9 : Nat) : Int) from rfl, cut_to]
  refine exs_cons (ex_forS (σ := List Nat × Nat) (fun z => [("rows", .mu 0), ("script", .arg ns)]) (fun z => [NL (z.1 ++ [z.2])]) (fun i z => z = ((ns.take 9).take i).foldl rowS ([18], 1)) ([18], 1) rfl (sub_cons rfl (sub_cons rfl sub_nil)) rfl
    (evi_list (evf_eq (ev_arg_slice (lk rfl) ev_int.ev (by omega)) (by rw [hcut]))) (.inl rfl) ?_ ?_)
  · rintro i d z hd hzz
    obtain ⟨hi, rfl⟩ := il_get hd
    have htk := take_snoc (ns.take 9) i hi
    have hst : ((ns.take 9).take (i + 1)).foldl rowS ([18], 1) = rowS z ((ns.take 9)[i]) := by
      rw [htk, List.foldl_append, ← hzz]; rfl
    have hll : z.1.length ≤ 20 := by
      rw [hzz, rows_len, List.length_take, List.length_take]; simp; omega
    clear hzz
    generalize (ns.take 9)[i] = x at hst ⊢
    obtain ⟨l, b⟩ := z
    dsimp only at hll
    have hb : b % 4096 < 4096 := Nat.mod_lt _ (by decide)
    have e0 : NL (l ++ [b]) = NL l ++ [D.int b] := by simp [NL]
    refine exs_cons (ex_assign (ev_bin (ev_last (ds := NL l) (d := .int b) (ev_eq (ev_mu (lk rfl) rfl) (by rw [e0])) (ev_neg ev_int.ev).ev (by simp; omega)).ev ev_int.ev (op_mod (by decide))) (.inl rfl) ?_)
    have e1 : (b : Int).fmod 4096 = ((b % 4096 : Nat) : Int) := fmodN b 4096 (by decide)
    rw [e1]
    refine exs_cons (ex_assign (ev_bin (ev_bin (ev_nm rfl).ev ev_int.ev (op_fdiv (by decide) (noPy (by decide)))).ev ev_int.ev (op_mod (by decide))) (.inl rfl) ?_)
    rw [rest81_int]
    have fin : ∀ n : Nat, n = rowN (b % 4096) x → ∀ Γ₂ : Gam, (∀ p ∈ [(Str.ofString "rows", V.mu 0), (Str.ofString "script", V.arg ns)], p ∈ Γ₂) →
        ∃ z' : List Nat × Nat, (∀ p ∈ [(Str.ofString "rows", V.mu 0), (Str.ofString "script", V.arg ns)], p ∈ Γ₂) ∧ [NL (l ++ [b]) ++ [D.int n]] = [NL (z'.1 ++ [z'.2])] ∧ z' = ((ns.take 9).take (i + 1)).foldl rowS ([18], 1) :=
      fun n hn Γ₂ h => ⟨rowS (l, b) x, h, by simp [rowS, NL, hn], hst.symm⟩
    have e3 : ((rest81 x : Nat) : Int).fmod 3 = ((rest81 x % 3 : Nat) : Int) := fmodN _ 3 (by decide)
    refine exs_cons (ex_if (x := decide (x.fmod 4 = 0)) (evt_eq (et_cmp (ev_bin (ev_nm rfl).ev ev_int.ev (op_mod (by decide))).ev ev_int.ev cmp_eq) (by rw [Bool.eq_iff_iff]; simp)) (fun h => ?_) (fun h => ?_))
    · have h0 := of_decide_eq_true h
      refine exs_cons (ex_append (i := 0) (ds := NL (l ++ [b])) (d := .int ((b % 4096 * 16 + rest81 x % 3 : Nat))) (lk rfl) rfl (evf_eq (ev_bin (ev_bin (ev_nm rfl).ev ev_int.ev (op_mul mulOk16)).ev (ev_bin (ev_nm rfl).ev ev_int.ev (op_mod (by decide))).ev op_add) (by rw [e3]; congr 1)) ?_ (by rw [sizeLine_lit]; simp; omega))
      refine exs_nil (exs_nil ?_)
      exact fin _ (by unfold rowN; rw [if_pos h0]) _ (sub_cons rfl (sub_cons rfl sub_nil))
    · have h0 := of_decide_eq_false h
      refine exs_cons (ex_if (x := decide (x.fmod 4 = 1)) (evt_eq (et_cmp (ev_bin (ev_nm rfl).ev ev_int.ev (op_mod (by decide))).ev ev_int.ev cmp_eq) (by rw [Bool.eq_iff_iff]; simp)) (fun h => ?_) (fun h => ?_))
      · have h1 := of_decide_eq_true h
        have hl3 := hx_len3 hb
        refine exs_cons (ex_append (i := 0) (ds := NL (l ++ [b])) (d := .int ((rest81 x % 3 * 16 ^ (hx (b % 4096)).length + b % 4096 : Nat))) (lk rfl) rfl (evf_eq (ev_bin (ev_bin (ev_bin (ev_nm rfl).ev ev_int.ev (op_mod (by decide))).ev (ev_bin ev_int.ev (ev_call (.cons (ev_nm rfl) .nil) (sp_size I (b % 4096)) (nle rfl) rfl).ev (op_pow16 (by omega))).ev (op_mul (.of_left (intBits_le_64 (by rw [e3]; omega) (by rw [e3]; omega))))).ev (ev_nm rfl).ev op_add) (by rw [e3]; congr 1)) ?_ (by rw [sizeLine_lit]; simp; omega))
        refine exs_nil (exs_nil (exs_nil ?_))
        exact fin _ (by unfold rowN; rw [if_neg h0, if_pos h1]) _ (sub_cons rfl (sub_cons rfl sub_nil))
      · have h1 := of_decide_eq_false h
        refine exs_cons (ex_append (i := 0) (ds := NL (l ++ [b])) (d := .int ((sprd (rest81 x) 4 0 : Nat))) (lk rfl) rfl (ev_call (.cons (ev_nm rfl) .nil) (sp_spread4 I (rest81 x)) (nle rfl) rfl) ?_ (by rw [sizeLine_lit]; simp; omega))
        refine exs_nil (exs_nil (exs_nil ?_))
        exact fin _ (by unfold rowN; rw [if_neg h0, if_neg h1]) _ (sub_cons rfl (sub_cons rfl sub_nil))
  · rintro z rfl
    have hl : (IL (ns.take 9)).length = (ns.take 9).length := by simp
    refine exs_cons (ex_ret_mu (lk rfl) rfl ?_)
    show D.list _ = D.list _
    rw [hl, List.take_length]; rfl
end Mine

set_option maxRecDepth 100000
set_option autoImplicit false
set_option linter.unusedVariables false
set_option maxHeartbeats 2000000
namespace Mine
open PySem PySem.W PySem.Calls PyProof.Rows

/-! the order of words -/
theorem ll_irr : ∀ l : List Nat, ¬ l < l
  | [], h => by simp at h
  | a :: r, h => by
    rw [List.cons_lt_cons_iff] at h
    rcases h with h | ⟨_, h⟩
    · omega
    · exact ll_irr r h
theorem ll_tr : ∀ {a b c : List Nat}, a < b → b < c → a < c
  | [], _, [], _, h => by simp at h
  | [], _, _ :: _, _, _ => by simp
  | _ :: _, [], _, h, _ => by simp at h
  | _ :: _, _ :: _, [], _, h => by simp at h
  | a :: r, b :: s, c :: t, h1, h2 => by
    rw [List.cons_lt_cons_iff] at h1 h2 ⊢
    rcases h1 with h1 | ⟨rfl, h1⟩
    · rcases h2 with h2 | ⟨rfl, h2⟩
      · exact .inl (by omega)
      · exact .inl h1
    · rcases h2 with h2 | ⟨rfl, h2⟩
      · exact .inl h2
      · exact .inr ⟨rfl, ll_tr h1 h2⟩
theorem ll_tri : ∀ (a b : List Nat), a < b ∨ a = b ∨ b < a
  | [], [] => .inr (.inl rfl)
  | [], _ :: _ => .inl (by simp)
  | _ :: _, [] => .inr (.inr (by simp))
  | a :: r, b :: s => by
    rw [List.cons_lt_cons_iff, List.cons_lt_cons_iff]
    by_cases h : a = b
    · subst h
      rcases ll_tri r s with h | h | h
      · exact .inl (.inr ⟨rfl, h⟩)
      · exact .inr (.inl (by rw [h]))
      · exact .inr (.inr (.inr ⟨rfl, h⟩))
    · by_cases q : a < b
      · exact .inl (.inl q)
      · exact .inr (.inr (.inl (by omega)))
theorem twc_neg (a b : List Nat) : decide (twc a b < 0) = decide (a < b) := by
  unfold twc
  rcases ll_tri a b with h | h | h
  · have h2 : ¬ b < a := fun q => ll_irr a (ll_tr h q)
    simp [h, h2]
  · subst h; have := ll_irr a; simp [this]
  · have h2 : ¬ a < b := fun q => ll_irr a (ll_tr q h)
    simp [h, h2]
theorem twc_ne (a b : List Nat) : (twc a b != 0) = !decide (a = b) := by
  unfold twc
  rcases ll_tri a b with h | h | h
  · have h2 : ¬ b < a := fun q => ll_irr a (ll_tr h q)
    have h3 : a ≠ b := fun q => by rw [q] at h; exact ll_irr b h
    simp [h, h2, h3]
  · subst h; have := ll_irr a; simp [this]
  · have h2 : ¬ a < b := fun q => ll_irr a (ll_tr q h)
    have h3 : a ≠ b := fun q => by rw [q] at h; exact ll_irr b h
    simp [h, h2, h3]

/-! in order -/
noncomputable def insU (w : List Nat) : List (List Nat) → List (List Nat)
  | [] => [w]
  | v :: r => if v < w then v :: insU w r else if v = w then v :: r else w :: v :: r
def inOrd (ws : List (List Nat)) : List (List Nat) := ws.foldl (fun r w => insU w r) []
abbrev SL (ws : List (List Nat)) : List D := ws.map fun w => D.str (S w)
theorem insU_len (w : List Nat) : ∀ r, (insU w r).length ≤ r.length + 1
  | [] => by simp [insU]
  | v :: r => by
    unfold insU
    split
    · have := insU_len w r; simp; omega
    · split <;> simp
theorem ord_len : ∀ (ws r : List (List Nat)), (ws.foldl (fun r w => insU w r) r).length ≤ r.length + ws.length
  | [], r => by simp
  | w :: t, r => by
    have h1 := ord_len t (insU w r)
    have h2 := insU_len w r
    simp only [List.foldl_cons, List.length_cons]; omega
theorem sl_get {ws : List (List Nat)} {i : Nat} {d : D} (h : (SL ws)[i]? = some d) : ∃ hi : i < ws.length, d = .str (S ws[i]) := by
  have hi : i < ws.length := by have := (List.getElem?_eq_some_iff.mp h).1; simpa using this
  refine ⟨hi, ?_⟩
  have : (SL ws)[i]? = some (D.str (S ws[i])) := by simp [hi]
  rw [this] at h; injection h with h; exact h.symm
theorem sp_in_order {X : GCtx} (I : IsX X) (ws : List (List Nat)) (hz : ws.length ≤ 1000) : Spec X "_law_in_order" 2 [.list (SL ws)] (.list (SL (inOrd ws))) := by
  refine spec_def (dr := dfn pgm 21) (ps := ["words"]) (I.mem (k := 12) rfl) rfl (fun pm code doc vs h => ?_) (by decide) (by decide +kernel) (by decide +kernel) (by decide +kernel) (by decide +kernel) rfl rfl rfl ?_
  · match vs, h with
    | [v], _ => rfl
  refine exs_cons (ex_assign_list .nil (.inl rfl) ?_)
  refine exs_cons (ex_forS (σ := List (List Nat)) (fun r => [("row", .mu 0), ("words", .d (.list (SL ws)))]) (fun r => [SL r]) (fun i r => r = (ws.take i).foldl (fun r w => insU w r) []) [] rfl (sub_cons rfl (sub_cons rfl sub_nil)) rfl (evi_list (ev_nm rfl)) (.inl rfl) ?_ ?_)
  · rintro i d r hd hr
    obtain ⟨hi, rfl⟩ := sl_get hd
    have hst : (ws.take (i + 1)).foldl (fun r w => insU w r) [] = insU ws[i] r := by
      rw [take_snoc ws i hi, List.foldl_append, ← hr]; rfl
    have hrl : r.length ≤ 1000 := by
      rw [hr]
      have := ord_len (ws.take i) []
      simp only [List.length_take, List.length_nil] at this; omega
    clear hr
    generalize ws[i] = w at hst ⊢
    refine exs_cons (ex_assign ev_int (.inl rfl) ?_)
    refine exs_cons (ex_whileS (σ := Nat) (fun k => [("k", .d (.int k)), ("word", .d (.str (S w))), ("row", .mu 0), ("words", .d (.list (SL ws)))]) (fun _ => [SL r]) (fun k => r.length - k) (fun k => k ≤ r.length ∧ r.take k ++ insU w (r.drop k) = insU w r) 0 ⟨Nat.zero_le _, by simp⟩ (sub_cons rfl (sub_cons rfl (sub_cons rfl (sub_cons rfl sub_nil)))) rfl ?_)
    rintro k ⟨hk, hinv⟩
    have hget : ∀ q : k < r.length, (SL r)[((k : Nat) : Int).toNat]? = some (D.str (S r[k])) := fun q => by rw [Int.toNat_natCast]; simp [q]
    have hdrop : ∀ q : k < r.length, r.drop k = r[k] :: r.drop (k + 1) := fun q => List.drop_eq_getElem_cons q
    refine ⟨decide (k < r.length) && (if q : k < r.length then decide (r[k] < w) else false), et_and (evt_eq (et_cmp (ev_nm rfl).ev (ev_b1 (ev_mu (lk rfl) rfl) (b_len_list (by simp; omega)) rfl (I.bm (k := 3) rfl) (by decide +kernel)).ev cmp_lt) (by rw [Bool.eq_iff_iff]; simp)) (fun q => ?_), fun e => ?_, fun e => ?_⟩
    · have q := of_decide_eq_true q
      rw [dif_pos q]
      exact evt_eq (et_cmp (ev_call (.cons (ev_item (d := .str (S r[k])) (ev_mu (lk rfl) rfl) (ev_nm rfl).ev (by omega) (by omega) (hget q)) (.cons (ev_nm rfl) .nil)) (sp_twc_str I r[k] w) (nle rfl) rfl).ev ev_int.ev cmp_lt) (twc_neg _ _)
    · have hne : (if q : k < r.length then !decide (r[k] = w) else true) = true → insU w r = r.take k ++ w :: r.drop k := fun h => by
        by_cases q : k < r.length
        · rw [dif_pos q] at h
          have h1 : ¬ r[k] = w := by simpa using h
          have h2 : ¬ r[k] < w := by simpa [q] using e
          rw [← hinv, hdrop q]
          unfold insU; rw [if_neg h2, if_neg h1]
        · have : r.drop k = [] := List.drop_eq_nil_of_le (by omega)
          rw [← hinv, this]; rfl
      have heq : (if q : k < r.length then !decide (r[k] = w) else true) = false → insU w r = r := fun h => by
        by_cases q : k < r.length
        · rw [dif_pos q] at h
          have h1 : r[k] = w := by simpa using h
          have h2 : ¬ r[k] < w := by simpa [q] using e
          rw [← hinv, hdrop q]
          unfold insU; rw [if_neg h2, if_pos h1, ← hdrop q, List.take_append_drop]
        · rw [dif_neg q] at h; cases h
      refine exs_cons (ex_if (x := if q : k < r.length then !decide (r[k] = w) else true) (evt_eq (et_or (a := !decide (k < r.length)) (b := if q : k < r.length then !decide (r[k] = w) else true) (evt_eq (et_cmp (ev_nm rfl).ev (ev_b1 (ev_mu (lk rfl) rfl) (b_len_list (by simp; omega)) rfl (I.bm (k := 3) rfl) (by decide +kernel)).ev cmp_eq) (by rw [Bool.eq_iff_iff]; simp; omega)) (fun q => ?_)) (by by_cases q : k < r.length <;> simp [q])) (fun h => ?_) (fun h => exs_nil ?_))
      · have q : k < r.length := by simpa using q
        rw [dif_pos q]
        exact evt_eq (et_cmp (ev_call (.cons (ev_item (d := .str (S r[k])) (ev_mu (lk rfl) rfl) (ev_nm rfl).ev (by omega) (by omega) (hget q)) (.cons (ev_nm rfl) .nil)) (sp_twc_str I r[k] w) (nle rfl) rfl).ev ev_int.ev cmp_ne) (twc_ne _ _)
      · refine exs_cons (ex_insert (i := 0) (ds := SL r) (z := k) (d := .str (S w)) (lk rfl) rfl (ev_nm rfl) (ev_nm rfl) ?_ (by rw [sizeLine_lit]; simp; omega) (by omega) (by simp; omega))
        refine exs_nil (exs_nil ⟨insU w r, sub_cons rfl (sub_cons rfl sub_nil), ?_, hst.symm⟩)
        rw [hne h, Int.toNat_natCast]
        simp [List.map_take, List.map_drop]
      · exact exs_nil ⟨r, sub_cons rfl (sub_cons rfl sub_nil), rfl, by rw [hst, heq h]⟩
    · rw [Bool.and_eq_true, decide_eq_true_eq] at e
      obtain ⟨q, e⟩ := e
      rw [dif_pos q] at e
      have e := of_decide_eq_true e
      refine exs_cons (ex_assign (ev_bin (ev_nm rfl).ev ev_int.ev op_add) (.inl rfl) ?_)
      have e2 : (k : Int) + 1 = ((k + 1 : Nat) : Int) := by omega
      rw [e2]
      refine exs_nil ⟨k + 1, by show r.length - (k + 1) < r.length - k; omega, sub_cons rfl (sub_cons rfl (sub_cons rfl (sub_cons rfl sub_nil))), rfl, q, ?_⟩
      rw [← hinv, hdrop q]
      conv => rhs; unfold insU
      rw [if_pos e, take_snoc r k q, List.append_assoc]; rfl
  · rintro r rfl
    have hl : (SL ws).length = ws.length := by simp
    refine exs_cons (ex_ret_mu (lk rfl) rfl ?_)
    show D.list _ = D.list _
    rw [hl, List.take_length]; rfl
end Mine

set_option maxRecDepth 100000
set_option autoImplicit false
set_option linter.unusedVariables false
set_option maxHeartbeats 2000000
namespace Mine
open PySem PySem.W PySem.Calls PyProof.Rows PySem.Builtin.Str
section
variable {c : Cfg} {Γ : Gam} {Δ : Del} {P : Post}
theorem et_or3 {x y z : Expr} {pos : Pos} {a b d : Bool} (h : EvT c Γ Δ x a) (h' : a = false → EvT c Γ Δ y b) (h'' : a = false → b = false → EvT c Γ Δ z d) : EvT c Γ Δ (.BoolOp .Or [x, y, z] pos) (a || (b || d)) := fun fr s g am O S Q hQ =>
  wpAny_isTrue_BoolOp (wpAny_allTrue_Or_cons (h fr s g am O S _ fun h1 g1 t1 k1 => by
    cases a with
    | true => exact hQ h1 g1 t1 k1
    | false => exact wpAny_allTrue_Or_cons (h' rfl fr _ g1 am O (S.gr k1) _ fun h2 g2 t2 k2 => by
        cases b with
        | true => exact hQ h2 g2 t2 (k1.trans k2)
        | false => exact wpAny_allTrue_Or_cons (h'' rfl rfl fr _ g2 am O ((S.gr k1).gr k2) _ fun h3 g3 t3 k3 => by
            cases d with
            | true => exact hQ h3 g3 t3 ((k1.trans k2).trans k3)
            | false => exact wpAny_pure (hQ h3 g3 t3 ((k1.trans k2).trans k3))))))
end
theorem subAt_two (l : List Nat) (a b i : Nat) : subAt (S l) (S [a, b]) i = ((l.drop i).take 2 == [a, b]) := by
  unfold subAt
  have e : (S l).cps.extract i (i + (S [a, b]).length) = ((l.drop i).take 2).toArray := by
    show l.toArray.extract i (i + 2) = _
    apply Array.toList_inj.mp
    simp
  rw [e]
  show (((l.drop i).take 2).toArray == [a, b].toArray) = _
  rw [List.beq_toArray]
theorem find_dots (p r : List Nat) (hp : 42 ∉ p) : Txt.find (S (p ++ 46 :: 42 :: r)) (S [46, 42]) = p.length := by
  unfold Txt.find
  rw [occ_first (S (p ++ 46 :: 42 :: r)) (S [46, 42]) 0 (S (p ++ 46 :: 42 :: r)).length p.length (Nat.zero_le _)]
  · show p.length + 2 ≤ (p ++ 46 :: 42 :: r).length
    simp
  · rw [subAt_two, List.drop_left]; rfl
  · intro j _ hj
    rw [subAt_two]
    have h1 : (p ++ 46 :: 42 :: r).drop j = p[j] :: (p.drop (j + 1) ++ 46 :: 42 :: r) := by
      rw [List.drop_append_of_le_length (by omega), List.drop_eq_getElem_cons hj, List.cons_append]
    rw [h1]
    cases hd : p.drop (j + 1) with
    | nil => simp
    | cons c t =>
      have : c ∈ p := List.mem_of_mem_drop (hd ▸ List.mem_cons_self)
      have hc : c ≠ 42 := fun q => hp (q ▸ this)
      simp [hc]

/-! fits, takes -/
def fixB (f w : List Nat) : Bool := (List.range f.length).all fun k => f.getD k 0 == 46 || f.getD k 0 == w.getD k 0
theorem sp_fits2 {X : GCtx} (I : IsX X) (f w : List Nat) (hf : f.length ≤ 1000) (hw : w.length ≤ 1000) (hfw : f.length ≤ w.length) (hof : okL f) (how : okL w) : Spec X "_law_fits" 1 [.str (S f), .str (S w)] (.bool (fixB f w)) := by
  refine spec_def (dr := dfn pgm 22) (ps := ["piece", "word"]) (I.mem (k := 13) rfl) rfl (fun pm code doc vs h => ?_) (by decide) (by decide +kernel) (by decide +kernel) (by decide +kernel) (by decide +kernel) rfl rfl rfl ?_
  · match vs, h with
    | [v, u], _ => rfl
  refine exs_cons (ex_ret (ev_cmp (ev_eq (ev_compX encz encz (List.range f.length) (fun k => !(46 == f.getD k 0 || w.getD k 0 == f.getD k 0)) [("piece", .d (.str (S f))), ("word", .d (.str (S w)))]
      (evi_eq (evi_range1 (ev_b1 (ev_nm rfl).ev (b_len_S (by omega)) rfl (I.bm (k := 3) rfl) (by decide +kernel)).ev (by omega) (by omega) rfl (I.bm (k := 6) rfl)).weak (by rw [Int.toNat_natCast]; rfl)) (csc rfl (by decide +kernel) rfl) (.inl rfl) (by simp; omega)
      (cs_cons rfl rfl (cs_cons rfl rfl cs_nil)) ?_ ?_).ev (d' := .list (IL (((List.range f.length).filter fun k => !(46 == f.getD k 0 || w.getD k 0 == f.getD k 0)).map fun k : Nat => (0 + (k : Int))))) (by simp only [IL, List.map_map]; rfl)) (ev_eq (ev_list .nil).ev (d' := .list (IL [])) rfl) cmp_eqI) ?_)
  · intro k hk
    have hk' : k < f.length := List.mem_range.mp hk
    have e1 : f.getD k 0 = f[k] := by simp [hk']
    have hk2 : k < w.length := by omega
    have e2 : w.getD k 0 = w[k] := by simp [hk2]
    rw [e1, e2]
    refine evifs_one (evt_eq (et_cmp (ev_sitem (n := f[k]) (ev_nm rfl).ev (ev_nm rfl).ev (by omega) (by omega) (by simp [hk'])).ev (ev_tup (.cons (ev_lit [46] rfl) (.cons (ev_sitem (n := w[k]) (ev_nm rfl).ev (ev_nm rfl).ev (by omega) (by omega) (by simp [hk2])) .nil))).ev (cmp_ninS (okS_one 46 (by decide)) (okS_one _ (how _ (List.getElem_mem hk2))) (okS_one _ (hof _ (List.getElem_mem hk'))))) ?_)
    rw [S_beq, S_beq]
    rw [Bool.eq_iff_iff]; simp
  · intro k hk hp
    exact ev_nm rfl
  · show D.bool _ = D.bool _
    congr 1
    unfold fixB
    rw [Bool.eq_iff_iff]
    simp only [decide_eq_true_eq, List.map_eq_nil_iff, List.filter_eq_nil_iff, List.all_eq_true, List.mem_range, Bool.not_eq_true', Bool.not_eq_false, Bool.or_eq_true, beq_iff_eq]
    exact ⟨fun h k hk => (h k hk).imp Eq.symm Eq.symm, fun h k hk => (h k hk).imp Eq.symm Eq.symm⟩
def okPt (l : List Nat) : Prop := ∀ n ∈ l, n = 46 ∨ (65 ≤ n ∧ n ≤ 80)
theorem okPt.okL {l : List Nat} (h : okPt l) : Mine.okL l := fun n hn => by have := h n hn; omega
def txt2 (a b : List Nat) : List Nat := [40, 63, 115, 58] ++ a ++ (46 :: 42 :: (b ++ [41, 92, 90]))
def takes2 (a b w : List Nat) : Bool := decide (a.length + b.length ≤ w.length) && (fixB a w && fixB b (w.drop (w.length - b.length)))
theorem sp_takes2 {X : GCtx} (I : IsX X) (a b w : List Nat) (ha : a.length ≤ 100) (hb : b.length ≤ 100) (hw : w.length ≤ 100) (hoa : okPt a) (hob : okPt b) (how : okPt w) : Spec X "_law_takes" 2 [.str (S (txt2 a b)), .str (S w)] (.bool (takes2 a b w)) := by
  refine spec_def (dr := dfn pgm 23) (ps := ["text", "word"]) (I.mem (k := 14) rfl) rfl (fun pm code doc vs h => ?_) (by decide) (by decide +kernel) (by decide +kernel) (by decide +kernel) (by decide +kernel) rfl rfl rfl ?_
  · match vs, h with
    | [v, u], _ => rfl
  have hT : (txt2 a b).length = a.length + b.length + 9 := by unfold txt2; simp; omega
  have hfind : Txt.find (S (txt2 a b)) (S [46, 42]) = ((a.length + 4 : Nat) : Int) := by
    unfold txt2
    rw [find_dots _ _ (by
      intro h
      rcases List.mem_append.mp h with h | h
      · revert h; decide
      · have := hoa 42 h; omega)]
    congr 1
  have htk4 : (txt2 a b).take 4 = [40, 63, 115, 58] := by unfold txt2; simp
  have hdr3 : (txt2 a b).drop ((txt2 a b).length - 3) = [41, 92, 90] := by
    rw [hT]
    have e : txt2 a b = ([40, 63, 115, 58] ++ a ++ 46 :: 42 :: b) ++ [41, 92, 90] := by unfold txt2; simp
    rw [e]
    have e2 : a.length + b.length + 9 - 3 = ([40, 63, 115, 58] ++ a ++ 46 :: 42 :: b).length := by simp; omega
    rw [e2, List.drop_left]
  have hah : cut (txt2 a b) (some 4) (some ((a.length + 4 : Nat) : Int)) = a := by
    rw [show (4 : Int) = ((4 : Nat) : Int) from rfl, cut_nn]
    unfold txt2
    have e2 : a.length + 4 = ([40, 63, 115, 58] ++ a).length := by simp
    rw [e2, List.take_left]; rfl
  have hbe : cut (txt2 a b) (some ((a.length + 4 : Nat) + 2 : Int)) (some (-3)) = b := by
    rw [show ((a.length + 4 : Nat) + 2 : Int) = ((a.length + 6 : Nat) : Int) by omega, show (-3 : Int) = -((3 : Nat) : Int) from rfl, cut_mid _ _ 3 (by decide)]
    have e : txt2 a b = ([40, 63, 115, 58] ++ a ++ [46, 42]) ++ b ++ [41, 92, 90] := by unfold txt2; simp
    rw [hT, e]
    have e2 : a.length + b.length + 9 - 3 = (([40, 63, 115, 58] ++ a ++ [46, 42]) ++ b).length := by simp; omega
    have e3 : a.length + 6 = ([40, 63, 115, 58] ++ a ++ [46, 42]).length := by simp
    rw [e2, List.take_left, e3, List.drop_left]
  generalize htx : txt2 a b = T at *
  refine exs_cons (ex_assign (evf_eq (ev_find (ev_nm rfl).ev (ev_lit [46, 42] rfl).ev) (congrArg D.int hfind)) (.inl rfl) ?_)
  refine exs_cons (ex_if (x := false) (evt_eq (et_or3 (a := false) (b := false) (d := false) (evt_eq (et_cmp (ev_sl_str (ev_nm rfl).ev .none (.some ev_int.ev) (by omega)).ev (ev_lit [40, 63, 115, 58] rfl).ev cmp_neS) ?_) (fun _ => evt_eq (et_cmp (ev_sl_str (ev_nm rfl).ev (.some (ev_neg ev_int.ev).ev) .none (by omega)).ev (ev_lit [41, 92, 90] rfl).ev cmp_neS) ?_) (fun _ _ => evt_eq (et_cmp (ev_nm rfl).ev ev_int.ev cmp_lt) ?_)) rfl) (fun h => nomatch h) (fun _ => exs_nil ?_))
  · rw [show (4 : Int) = ((4 : Nat) : Int) from rfl, cut_to, htk4]; rfl
  · rw [show (-3 : Int) = -((3 : Nat) : Int) from rfl, cut_tail _ 3 (by decide), hdr3]; rfl
  · rw [decide_eq_false]; omega
  refine exs_cons (ex_assign (evf_eq (ev_sl_str (ev_nm rfl).ev (.some ev_int.ev) (.some (ev_nm rfl).ev) (by omega)) (by rw [hah])) (.inl rfl) ?_)
  refine exs_cons (ex_assign (evf_eq (ev_sl_str (ev_nm rfl).ev (.some (ev_bin (ev_nm rfl).ev ev_int.ev op_add).ev) (.some (ev_neg ev_int.ev).ev) (by omega)) (by rw [hbe])) (.inl rfl) ?_)
  refine exs_cons (ex_if (x := !decide (a.length + b.length ≤ w.length)) (evt_eq (et_cmp (ev_b1 (ev_nm rfl).ev (b_len_S (by omega)) rfl (I.bm (k := 3) rfl) (by decide +kernel)).ev (ev_bin (ev_b1 (ev_nm rfl).ev (b_len_S (by omega)) rfl (I.bm (k := 3) rfl) (by decide +kernel)).ev (ev_b1 (ev_nm rfl).ev (b_len_S (by omega)) rfl (I.bm (k := 3) rfl) (by decide +kernel)).ev op_add).ev cmp_lt) (by rw [Bool.eq_iff_iff]; simp; omega)) (fun h => ?_) (fun h => exs_nil ?_))
  · refine exs_cons (ex_ret ev_bool ?_)
    show D.bool _ = D.bool _
    have : decide (a.length + b.length ≤ w.length) = false := by simpa using h
    unfold takes2; rw [this]; rfl
  · have hle : a.length + b.length ≤ w.length := by simpa using h
    refine exs_cons (ex_ret (ev_and (ev_call (.cons (ev_nm rfl) (.cons (ev_nm rfl) .nil)) (sp_fits2 I a w (by omega) (by omega) (by omega) hoa.okL how.okL) (nle rfl) rfl) (fun _ => ev_call (.cons (ev_nm rfl) (.cons (evf_eq (ev_sl_str (ev_nm rfl).ev (.some (ev_bin (ev_b1 (ev_nm rfl).ev (b_len_S (by omega)) rfl (I.bm (k := 3) rfl) (by decide +kernel)).ev (ev_b1 (ev_nm rfl).ev (b_len_S (by omega)) rfl (I.bm (k := 3) rfl) (by decide +kernel)).ev op_sub).ev) .none (by omega)) (by
      rw [show (w.length : Int) - (b.length : Int) = ((w.length - b.length : Nat) : Int) by omega, cut_n])) .nil)) (sp_fits2 I b (w.drop (w.length - b.length)) (by omega) (by rw [List.length_drop]; omega) (by rw [List.length_drop]; omega) hob.okL (fun n hn => how.okL n (List.mem_of_mem_drop hn))) (nle rfl) rfl)) ?_)
    show D.bool _ = D.bool _
    unfold takes2; rw [decide_eq_true hle, Bool.true_and]
end Mine

set_option maxRecDepth 100000
set_option autoImplicit false
set_option linter.unusedVariables false
set_option maxHeartbeats 2000000
namespace Mine
open PySem PySem.W PySem.Calls PyProof.Rows

def climbS (tk : Nat → Nat → Bool) (z : List Nat × List (List Nat)) (k : Nat) : List Nat × List (List Nat) := (k :: z.1.dropWhile fun i => !tk i k, z.2 ++ [(z.1.dropWhile fun i => !tk i k).reverse])
def climb (tk : Nat → Nat → Bool) (n : Nat) : List (List Nat) := ((List.range n).foldl (climbS tk) ([], [])).2
def tkOf (ws : List (List Nat)) (ts : List (List Nat × List Nat)) (i k : Nat) : Bool := takes2 (ts.getD i ([], [])).1 (ts.getD i ([], [])).2 (ws.getD k [])
abbrev TL (ts : List (List Nat × List Nat)) : List D := ts.map fun t => D.str (S (txt2 t.1 t.2))
abbrev WL (ws : List (List Nat)) (ls : List (List Nat)) : List D := ls.map fun l => D.list (SL (l.map fun i => ws.getD i []))
theorem climb_lt (tk : Nat → Nat → Bool) : ∀ (n : Nat), (∀ i ∈ ((List.range n).foldl (climbS tk) ([], [])).1, i < n) ∧ ((List.range n).foldl (climbS tk) ([], [])).2.length = n ∧ ((List.range n).foldl (climbS tk) ([], [])).1.length ≤ n
  | 0 => ⟨by simp, rfl, Nat.le_refl _⟩
  | n + 1 => by
    obtain ⟨h1, h2, h3⟩ := climb_lt tk n
    rw [List.range_succ, List.foldl_append]
    generalize (List.range n).foldl (climbS tk) ([], []) = z at h1 h2 h3
    refine ⟨fun i hi => ?_, ?_, ?_⟩
    · rcases List.mem_cons.mp hi with rfl | hi
      · omega
      · have := h1 i ((List.dropWhile_sublist _).subset hi); omega
    · simp [climbS, h2]
    · have := (List.dropWhile_sublist (fun i => !tk i n) (l := z.1)).length_le
      simp [climbS]; omega
theorem sp_climb {X : GCtx} (I : IsX X) (ws : List (List Nat)) (ts : List (List Nat × List Nat)) (hlen : ts.length = ws.length) (hz : ws.length ≤ 1000) (hw : ∀ w ∈ ws, w.length ≤ 100 ∧ okPt w) (ht : ∀ t ∈ ts, t.1.length ≤ 100 ∧ okPt t.1 ∧ t.2.length ≤ 100 ∧ okPt t.2) :
    Spec X "_law_climb" 3 [.list (SL ws), .list (TL ts)] (.list (WL ws (climb (tkOf ws ts) ws.length))) := by
  refine spec_def (dr := dfn pgm 24) (ps := ["words", "texts"]) (I.mem (k := 15) rfl) rfl (fun pm code doc vs h => ?_) (by decide) (by decide +kernel) (by decide +kernel) (by decide +kernel) (by decide +kernel) rfl rfl rfl ?_
  · match vs, h with
    | [v, u], _ => rfl
  refine exs_cons (ex_assign_list .nil (.inl rfl) ?_)
  refine exs_cons (ex_assign_list .nil (.inl rfl) ?_)
  refine exs_cons (ex_forS (σ := List Nat × List (List Nat)) (fun z => [("told", .mu 1), ("pile", .mu 0), ("words", .d (.list (SL ws))), ("texts", .d (.list (TL ts)))]) (fun z => [NL z.1.reverse, WL ws z.2]) (fun i z => z = (List.range i).foldl (climbS (tkOf ws ts)) ([], [])) ([], []) rfl (sub_cons rfl (sub_cons rfl (sub_cons rfl (sub_cons rfl sub_nil)))) rfl
    (evi_range1 (ev_b1 (ev_nm rfl).ev (b_len_list (by simp; omega)) rfl (I.bm (k := 3) rfl) (by decide +kernel)).ev (by simp; omega) (by omega) rfl (I.bm (k := 6) rfl)) (.inl rfl) ?_ ?_)
  · rintro k d z hd hzz
    obtain ⟨hk, rfl⟩ := zs_get hd
    have hk : k < ws.length := by simpa using hk
    have hb := climb_lt (tkOf ws ts) k
    rw [← hzz] at hb
    obtain ⟨hb1, hb2, hb3⟩ := hb
    have hst : (List.range (k + 1)).foldl (climbS (tkOf ws ts)) ([], []) = climbS (tkOf ws ts) z k := by
      rw [List.range_succ, List.foldl_append, ← hzz]; rfl
    clear hzz
    obtain ⟨p, told⟩ := z
    dsimp only at hb1 hb2 hb3 ⊢
    have e0 : (0 : Int) + (k : Int) = (k : Nat) := by omega
    rw [e0]
    have hwk := hw ws[k] (List.getElem_mem hk)
    refine exs_cons (ex_whileS (σ := List Nat) (fun q => [("k", .d (.int k)), ("told", .mu 1), ("pile", .mu 0), ("words", .d (.list (SL ws))), ("texts", .d (.list (TL ts)))]) (fun q => [NL q.reverse, WL ws told]) (fun q => q.length)
      (fun q => q.dropWhile (fun i => !tkOf ws ts i k) = p.dropWhile (fun i => !tkOf ws ts i k) ∧ (∀ i ∈ q, i < k) ∧ q.length ≤ k) p ⟨rfl, hb1, hb3⟩ (sub_cons rfl (sub_cons rfl (sub_cons rfl (sub_cons rfl (sub_cons rfl sub_nil))))) rfl ?_)
    rintro q ⟨hq1, hq2, hq3⟩
    refine ⟨!q.isEmpty && (match q with | [] => true | t :: _ => !tkOf ws ts t k), et_and (evt_eq (et_cmp (ev_eq (ev_mu (lk rfl) rfl) (by rw [NL_IL])) (ev_eq (ev_list .nil).ev (d' := .list (IL [])) rfl) cmp_neI) (by cases q <;> simp)) (fun hq => ?_), fun e => ?_, fun e => ?_⟩
    · cases q with
      | nil => simp at hq
      | cons t r =>
        have htk : t < k := hq2 t (by simp)
        have htl : t < ts.length := by omega
        have htt := ht ts[t] (List.getElem_mem htl)
        have e1 : NL (t :: r).reverse = NL r.reverse ++ [D.int t] := by simp [NL]
        refine evt_eq (et_not (et_of (ev_call (.cons (ev_item (d := .str (S (txt2 ts[t].1 ts[t].2))) (ev_nm rfl).ev (ev_last (ds := NL r.reverse) (d := .int t) (ev_eq (ev_mu (lk rfl) rfl) (by rw [e1])) (ev_neg ev_int.ev).ev (by simp at hq3 ⊢; omega)).ev (by omega) (by omega) (by rw [Int.toNat_natCast]; simp [htl]))
          (.cons (ev_item (d := .str (S ws[k])) (ev_nm rfl).ev (ev_nm rfl).ev (by omega) (by omega) (by rw [Int.toNat_natCast]; simp [hk])) .nil)) (sp_takes2 I ts[t].1 ts[t].2 ws[k] htt.1 htt.2.2.1 hwk.1 htt.2.1 htt.2.2.2 hwk.2) (nle rfl) rfl).ev (by exact rfl))) ?_
        unfold tkOf
        simp [htl, hk]
    · have hdw : q.dropWhile (fun i => !tkOf ws ts i k) = q := by
        cases q with
        | nil => rfl
        | cons t r =>
          have : (!tkOf ws ts t k) = false := by simpa using e
          rw [List.dropWhile_cons, this]; rfl
      rw [hdw] at hq1
      refine exs_cons (ex_append (i := 1) (ds := WL ws told) (d := .list (SL (q.reverse.map fun i => ws.getD i []))) (lk rfl) rfl (evf_eq (ev_compY (fun n : Nat => D.int n) (fun i => D.str (S (ws.getD i []))) q.reverse [("words", .d (.list (SL ws)))] (evi_listW (ev_mu (lk rfl) rfl)) (csc rfl (by decide +kernel) rfl) (.inl rfl) (by simp; omega) (cs_cons rfl rfl cs_nil) (fun i hi => ?_)) (by simp)) ?_ (by rw [sizeLine_lit]; simp; omega))
      · have hi2 : i < ws.length := by have := hq2 i (List.mem_reverse.mp hi); omega
        exact ev_item (ev_nm rfl).ev (ev_nm rfl).ev (by omega) (by omega) (by rw [Int.toNat_natCast]; simp [hi2])
      refine exs_cons (ex_append (i := 0) (ds := NL q.reverse) (d := .int k) (lk rfl) rfl (ev_nm rfl) ?_ (by rw [sizeLine_lit]; simp; omega))
      refine exs_nil ⟨climbS (tkOf ws ts) (p, told) k, sub_cons rfl (sub_cons rfl (sub_cons rfl (sub_cons rfl sub_nil))), ?_, hst.symm⟩
      unfold climbS
      rw [← hq1]
      simp [NL, WL]
    · cases q with
      | nil => simp at e
      | cons t r =>
        have hnt : (!tkOf ws ts t k) = true := by simpa using e
        have e1 : NL (t :: r).reverse = NL r.reverse ++ [D.int t] := by simp [NL]
        refine exs_cons (ex_pop (i := 0) (ds := NL r.reverse) (d := .int t) (lk rfl) (by rw [e1]; rfl) ?_ (by rw [sizeLine_lit]; simp at hq3 ⊢; omega))
        refine exs_nil ⟨r, by simp, sub_cons rfl (sub_cons rfl (sub_cons rfl (sub_cons rfl (sub_cons rfl sub_nil)))), rfl, ?_, fun i hi => hq2 i (by simp [hi]), by simp at hq3; omega⟩
        rw [← hq1, List.dropWhile_cons, hnt]; rfl
  · rintro z rfl
    have hl : (zs 0 ((SL ws).length : Int).toNat).length = ws.length := by simp [zs]
    refine exs_cons (ex_ret_mu (lk rfl) rfl ?_)
    show D.list _ = D.list _
    rw [hl]; rfl
end Mine

set_option maxRecDepth 100000
set_option autoImplicit false
set_option linter.unusedVariables false
set_option maxHeartbeats 2000000
namespace Mine
open PySem PySem.W PySem.Calls PyProof.Rows

def cutsOf (n : Nat) : List Nat := (List.range 4).map fun k => n / 16 ^ (k + 1)
def headsL (n : Nat) (ns : List Nat) : List Nat := (sortN ns).filter fun one => one != n && (cutsOf n).contains one
def tailsL (n : Nat) (ns : List Nat) : List Nat := (sortN ns).filter fun one => one != n && n % 16 ^ (hx one).length == one
def bareL (ns : List Nat) (ls : List (List Nat)) : List Nat := ns.filter fun n => (ls.filter fun l : List Nat => l.contains n).isEmpty
theorem int_ne (a b : Nat) : ((a : Int) != (b : Int)) = (a != b) := by rw [Bool.eq_iff_iff, bne_iff_ne, bne_iff_ne]; omega
theorem int_eq (a b : Nat) : ((a : Int) == (b : Int)) = (a == b) := by rw [Bool.eq_iff_iff, beq_iff_eq, beq_iff_eq]; omega
theorem sp_heads {X : GCtx} (I : IsX X) (n : Nat) (ns : List Nat) (hz : ns.length < 64) : Spec X "_law_heads" 1 [.int n, .list (NL ns)] (.list (NL (headsL n ns))) := by
  refine spec_def (dr := dfn pgm 26) (ps := ["number", "numbers"]) (I.mem (k := 17) rfl) rfl (fun pm code doc vs h => ?_) (by decide) (by decide +kernel) (by decide +kernel) (by decide +kernel) (by decide +kernel) rfl rfl rfl ?_
  · match vs, h with
    | [v, u], _ => rfl
  refine exs_cons (ex_assign_compC (evf_eq (ev_compY (fun k : Nat => D.int (1 + (k : Int))) (fun k => D.int (n / 16 ^ (k + 1) : Nat)) (List.range 4) [("number", .d (.int n))] (evi_range2 ev_int.ev ev_int.ev (by decide) (by decide) (by decide) (by decide) rfl (I.bm (k := 6) rfl)).weak (csc rfl (by decide +kernel) rfl) (.inl rfl) (by simp) (cs_cons rfl rfl cs_nil) (fun k hk => ?_))
    (show _ = D.list (NL (cutsOf n)) by simp [NL, cutsOf])) (show Str.ofString "cuts" ∈ ownCells (dfn pgm 26).scope by decide +kernel) rfl ?_)
  · have hk' : k < 4 := List.mem_range.mp hk
    have e : (1 : Int) + (k : Int) = ((k + 1 : Nat) : Int) := by omega
    rw [e]
    exact ev_bin (ev_nm rfl).ev (ev_bin ev_int.ev (ev_nm rfl).ev (op_pow16 (by omega))).ev (op_div16 (by omega))
  · refine exs_cons (ex_ret (evf_eq (ev_compX (fun n : Nat => D.int n) (fun n : Nat => D.int n) (sortN ns) (fun one => one != n && (cutsOf n).contains one) [("number", .d (.int n)), ("cuts", .d (.list (NL (cutsOf n))))]
      (evi_list (evf_eq (ev_b1 (ev_eq (ev_nm rfl).ev (by rw [NL_IL])) (b_sorted (by rw [List.length_map]; exact hz)) rfl (I.bm (k := 7) rfl) (by decide +kernel)) (show _ = D.list ((sortN ns).map fun n : Nat => D.int n) by rw [sortZN]; simp))).weak (csc rfl (by decide +kernel) rfl) (.inl rfl) (by rw [(sortN_perm ns).length_eq]; omega) (cs_cons rfl rfl (cs_cons rfl rfl cs_nil)) (fun one ho => ?_) (fun one _ _ => ev_nm rfl)) rfl) rfl)
    exact evifs_one (et_and (evt_eq (et_cmp (ev_nm rfl).ev (ev_nm rfl).ev cmp_ne) (int_ne _ _)) (fun _ => evt_eq (et_cmp (ev_nm rfl).ev (ev_eq (ev_nm rfl).ev (by rw [NL_IL])) cmp_inI) (contains_cast _ _)))
theorem sp_tails {X : GCtx} (I : IsX X) (n : Nat) (ns : List Nat) (hz : ns.length < 64) (hb : ∀ m ∈ ns, m < 2 ^ 20) : Spec X "_law_tails" 2 [.int n, .list (NL ns)] (.list (NL (tailsL n ns))) := by
  refine spec_def (dr := dfn pgm 27) (ps := ["number", "numbers"]) (I.mem (k := 18) rfl) rfl (fun pm code doc vs h => ?_) (by decide) (by decide +kernel) (by decide +kernel) (by decide +kernel) (by decide +kernel) rfl rfl rfl ?_
  · match vs, h with
    | [v, u], _ => rfl
  refine exs_cons (ex_ret (evf_eq (ev_compX (fun n : Nat => D.int n) (fun n : Nat => D.int n) (sortN ns) (fun one => one != n && n % 16 ^ (hx one).length == one) [("number", .d (.int n))]
      (evi_list (evf_eq (ev_b1 (ev_eq (ev_nm rfl).ev (by rw [NL_IL])) (b_sorted (by rw [List.length_map]; exact hz)) rfl (I.bm (k := 7) rfl) (by decide +kernel)) (show _ = D.list ((sortN ns).map fun n : Nat => D.int n) by rw [sortZN]; simp))).weak (csc rfl (by decide +kernel) rfl) (.inl rfl) (by rw [(sortN_perm ns).length_eq]; omega) (cs_cons rfl rfl cs_nil) (fun one ho => ?_) (fun one _ _ => ev_nm rfl)) rfl) rfl)
  have h5 : (hx one).length ≤ 5 := by have := wd_len (hb one ((sortN_perm ns).mem_iff.mp ho)); rwa [wd_hx] at this
  exact evifs_one (et_and (evt_eq (et_cmp (ev_nm rfl).ev (ev_nm rfl).ev cmp_ne) (int_ne _ _)) (fun _ => evt_eq (et_cmp (ev_bin (ev_nm rfl).ev (ev_bin ev_int.ev (ev_call (.cons (ev_nm rfl) .nil) (sp_size I one) (nle rfl) rfl).ev (op_pow16 h5)).ev op_mod16).ev (ev_nm rfl).ev cmp_eq) (int_eq _ _)))
theorem sp_bare {X : GCtx} (I : IsX X) (ns : List Nat) (ls : List (List Nat)) (hz : ns.length ≤ 1000) (hl : ls.length ≤ 1000) : Spec X "_law_bare" 1 [.list (NL ns), .list (ls.map fun l => .list (NL l))] (.list (NL (bareL ns ls))) := by
  refine spec_def (dr := dfn pgm 28) (ps := ["numbers", "lines"]) (I.mem (k := 19) rfl) rfl (fun pm code doc vs h => ?_) (by decide) (by decide +kernel) (by decide +kernel) (by decide +kernel) (by decide +kernel) rfl rfl rfl ?_
  · match vs, h with
    | [v, u], _ => rfl
  refine exs_cons (ex_ret (evf_eq (ev_compX (fun n : Nat => D.int n) (fun n : Nat => D.int n) ns (fun n => (ls.filter fun l : List Nat => l.contains n).isEmpty) [("lines", .d (.list (ls.map fun l => D.list (NL l))))] (evi_list (ev_nm rfl)).weak (csc rfl (by decide +kernel) rfl) (.inr (show _ ∈ ownCells _ by decide +kernel)) (by omega) (cs_cons rfl rfl cs_nil) (fun n hn => ?_) (fun n _ _ => ev_nm rfl)) rfl) rfl)
  refine evifs_one (evt_eq (et_cmp (ev_eq (ev_compX (fun l : List Nat => D.list (NL l)) (fun l : List Nat => D.list (NL l)) ls (fun l : List Nat => l.contains n) [("number", .d (.int n))] (evi_list (ev_nm rfl)).weak (csc rfl (by decide +kernel) rfl) (.inl rfl) (by omega) (cs_cons rfl rfl cs_nil) (fun l hl => ?_) (fun l _ _ => ev_nm rfl)).ev
    (d' := .list (ILL ((ls.filter fun l : List Nat => l.contains n).map fun l => l.map fun n : Nat => (n : Int)))) (by simp [ILL, NL_IL])) (ev_eq (ev_list .nil).ev (d' := .list (ILL [])) rfl) cmp_eqII) (by rw [Bool.eq_iff_iff]; simp))
  exact evifs_one (evt_eq (et_cmp (ev_nm rfl).ev (ev_eq (ev_nm rfl).ev (by rw [NL_IL])) cmp_inI) (contains_cast _ _))
end Mine

set_option maxRecDepth 100000
set_option autoImplicit false
set_option linter.unusedVariables false
set_option maxHeartbeats 2000000
namespace Mine
open PySem PySem.W PySem.Calls PyProof.Rows

def pairOf (n : Nat) : Int × Int := ((n * 16 ^ (4 - (hx n).length) : Nat), (n : Nat))
def addP (l : List (Int × Int)) (z : Int × Int) : List (Int × Int) := if l.contains z then l else l ++ [z]
def pairsL (rows : List Nat) : List (Int × Int) := rows.foldl (fun l n => addP l (pairOf n)) []
def numsL (rows : List Nat) : List Nat := (sortP (pairsL rows)).map fun p => p.2.toNat
theorem addP_len (l : List (Int × Int)) (z : Int × Int) : (addP l z).length ≤ l.length + 1 := by unfold addP; split <;> simp
theorem pairs_len : ∀ (rows : List Nat) (l : List (Int × Int)), (rows.foldl (fun l n => addP l (pairOf n)) l).length ≤ l.length + rows.length
  | [], l => by simp
  | n :: r, l => by
    have h1 := pairs_len r (addP l (pairOf n))
    have h2 := addP_len l (pairOf n)
    simp only [List.foldl_cons, List.length_cons]; omega
theorem mem_addP (l : List (Int × Int)) (z x : Int × Int) : x ∈ addP l z ↔ x ∈ l ∨ x = z := by
  unfold addP
  split
  · rename_i h
    have h : z ∈ l := by simpa using h
    constructor
    · exact .inl
    · rintro (h' | rfl)
      · exact h'
      · exact h
  · simp
theorem mem_pairs (x : Int × Int) : ∀ (rows : List Nat) (l : List (Int × Int)), x ∈ rows.foldl (fun l n => addP l (pairOf n)) l ↔ x ∈ l ∨ ∃ n ∈ rows, x = pairOf n
  | [], l => by simp
  | n :: r, l => by
    rw [List.foldl_cons, mem_pairs x r, mem_addP]
    simp only [List.mem_cons, exists_eq_or_imp]
    rw [or_assoc]
theorem addP_nodup {l : List (Int × Int)} {z : Int × Int} (h : l.Nodup) : (addP l z).Nodup := by
  unfold addP
  split
  · exact h
  · rename_i hc
    refine List.nodup_append.mpr ⟨h, by simp, fun x hx y hy e => hc ?_⟩
    rw [List.mem_singleton.mp hy] at e
    simpa using e ▸ hx
theorem pairs_nodup : ∀ (rows : List Nat) (l : List (Int × Int)), l.Nodup → (rows.foldl (fun l n => addP l (pairOf n)) l).Nodup
  | [], l, h => h
  | n :: r, l, h => pairs_nodup r _ (addP_nodup h)
theorem mem_pairsL (rows : List Nat) (x : Int × Int) : x ∈ pairsL rows ↔ ∃ n ∈ rows, x = pairOf n := by
  unfold pairsL; rw [mem_pairs]; simp
theorem sp_numbers {X : GCtx} (I : IsX X) (rows : List Nat) (hz : rows.length ≤ 60) (hlt : ∀ n ∈ rows, n < 16 ^ 4) (h2 : 2 ≤ (pairsL rows).length) : Spec X "_law_numbers" 2 [.list (NL rows)] (.list (NL (numsL rows))) := by
  refine spec_def (dr := dfn pgm 25) (ps := ["rows"]) (I.mem (k := 16) rfl) rfl (fun pm code doc vs h => ?_) (by decide) (by decide +kernel) (by decide +kernel) (by decide +kernel) (by decide +kernel) rfl rfl rfl ?_
  · match vs, h with
    | [v], _ => rfl
  refine exs_cons (ex_assign_list .nil (.inl rfl) ?_)
  refine exs_cons (ex_forS (σ := List (Int × Int)) (fun l => [("pairs", .mu 0), ("rows", .d (.list (NL rows)))]) (fun l => [PL l]) (fun i l => l = (rows.take i).foldl (fun l n => addP l (pairOf n)) []) [] rfl (sub_cons rfl (sub_cons rfl sub_nil)) rfl (evi_list (ev_nm rfl)) (.inl rfl) ?_ ?_)
  · rintro i d l hd hll
    obtain ⟨hi, rfl⟩ := nl_get hd
    have hst : (rows.take (i + 1)).foldl (fun l n => addP l (pairOf n)) [] = addP l (pairOf rows[i]) := by
      rw [take_snoc rows i hi, List.foldl_append, ← hll]; rfl
    have hl60 : l.length ≤ 60 := by
      rw [hll]
      have := pairs_len (rows.take i) []
      simp only [List.length_take, List.length_nil] at this; omega
    have hn := hlt rows[i] (List.getElem_mem hi)
    clear hll
    generalize rows[i] = n at hst hn ⊢
    have h4 : (hx n).length ≤ 4 := hx_len 4 n hn
    have hp5 := pow16_lt (4 - (hx n).length) (by omega)
    have e1 : (4 : Int) - ((hx n).length : Int) = ((4 - (hx n).length : Nat) : Int) := by omega
    refine exs_cons (ex_assign (d := PR (pairOf n)) (ev_tup (.cons (evf_eq (ev_bin (ev_nm rfl).ev (ev_bin ev_int.ev (evf_eq (ev_bin ev_int.ev (ev_call (.cons (ev_nm rfl) .nil) (sp_size I n) (nle rfl) rfl).ev op_sub) (congrArg D.int e1)).ev (op_pow16 (by omega))).ev (op_mul (.of_left (intBits_le_64 (by omega) (by omega))))) (by rw [show ((n : Int) * ((16 ^ (4 - (hx n).length) : Nat) : Int)) = ((n * 16 ^ (4 - (hx n).length) : Nat) : Int) by norm_cast]; rfl)) (.cons (ev_nm rfl) .nil))) (.inl rfl) ?_)
    refine exs_cons (ex_if (x := !l.contains (pairOf n)) (et_cmp (ev_nm rfl).ev (ev_mu (lk rfl) rfl) cmp_ninP) (fun h => ?_) (fun h => ?_))
    · refine exs_cons (ex_append (i := 0) (ds := PL l) (d := PR (pairOf n)) (lk rfl) rfl (ev_nm rfl) ?_ (by rw [sizeLine_lit]; simp; omega))
      refine exs_nil (exs_nil ⟨_, sub_cons rfl (sub_cons rfl sub_nil), ?_, hst.symm⟩)
      have : l.contains (pairOf n) = false := by simpa using h
      unfold addP; rw [this]; simp [PL]
    · refine exs_nil (exs_nil ⟨_, sub_cons rfl (sub_cons rfl sub_nil), ?_, hst.symm⟩)
      have : l.contains (pairOf n) = true := by simpa using h
      unfold addP; rw [this]; simp
  · rintro l rfl
    have hl : (NL rows).length = rows.length := by simp
    rw [hl, List.take_length]
    have hpl := pairs_len rows []
    simp only [List.length_nil] at hpl
    have hnd := pairs_nodup rows [] (by simp)
    refine exs_cons (ex_ret (evf_eq (ev_compY PR (fun p => D.int p.2) (sortP (pairsL rows)) [] (evi_list (ev_b1 (ev_mu (lk rfl) rfl) (b_sortedP h2 (by show (pairsL rows).length < 64; unfold pairsL; omega) hnd) rfl (I.bm (k := 7) rfl) (by decide +kernel))).weak (csc rfl (by decide +kernel) rfl) (.inl rfl) (by rw [(sortP_perm _).length_eq]; unfold pairsL; omega) cs_nil (fun p hp => ev_titem (d := .int p.2) (ev_nm rfl).ev ev_int.ev (by decide) (by decide) rfl)) ?_) rfl)
    unfold numsL
    rw [NL, List.map_map]
    congr 1
    apply List.map_congr_left
    intro p hp
    obtain ⟨n, _, rfl⟩ := (mem_pairsL rows p).mp ((sortP_perm _).mem_iff.mp hp)
    simp [pairOf]
end Mine

set_option maxRecDepth 100000
set_option autoImplicit false
set_option linter.unusedVariables false
namespace Mine
open PySem PySem.W PySem.Calls PyProof.Rows

/-! in order: strictly rising, the same words -/
theorem mem_insU (w x : List Nat) : ∀ r : List (List Nat), x ∈ insU w r ↔ x = w ∨ x ∈ r
  | [] => by simp [insU]
  | v :: r => by
    unfold insU
    split
    · rw [List.mem_cons, mem_insU w x r, List.mem_cons]
      exact ⟨fun h => h.elim (fun q => .inr (.inl q)) fun q => q.elim .inl fun q => .inr (.inr q), fun h => h.elim (fun q => .inr (.inl q)) fun q => q.elim .inl fun q => .inr (.inr q)⟩
    · split
      · rename_i h
        subst h
        simp
      · simp
theorem mem_ord_fold (x : List Nat) : ∀ (ws r : List (List Nat)), x ∈ ws.foldl (fun r w => insU w r) r ↔ x ∈ r ∨ x ∈ ws
  | [], r => by simp
  | w :: t, r => by
    rw [List.foldl_cons, mem_ord_fold x t, mem_insU, List.mem_cons]
    exact ⟨fun h => h.elim (fun q => q.elim (fun q => .inr (.inl q)) .inl) fun q => .inr (.inr q), fun h => h.elim (fun q => .inl (.inr q)) fun q => q.elim (fun q => .inl (.inl q)) .inr⟩
theorem mem_inOrd (x : List Nat) (ws : List (List Nat)) : x ∈ inOrd ws ↔ x ∈ ws := by unfold inOrd; rw [mem_ord_fold]; simp
abbrev Ris (l : List (List Nat)) : Prop := l.Pairwise (· < ·)
theorem insU_ris (w : List Nat) : ∀ r : List (List Nat), Ris r → Ris (insU w r)
  | [], _ => by simp [insU, Ris]
  | v :: r, h => by
    have h1 := (List.pairwise_cons.mp h).1
    have h2 := (List.pairwise_cons.mp h).2
    unfold insU
    split
    · rename_i hv
      refine List.pairwise_cons.mpr ⟨fun x hx => ?_, insU_ris w r h2⟩
      rcases (mem_insU w x r).mp hx with rfl | hx
      · exact hv
      · exact h1 x hx
    · split
      · exact h
      · rename_i hv hne
        have hw : w < v := by
          rcases ll_tri v w with q | q | q
          · exact absurd q hv
          · exact absurd q hne
          · exact q
        refine List.pairwise_cons.mpr ⟨fun x hx => ?_, h⟩
        rcases List.mem_cons.mp hx with rfl | hx
        · exact hw
        · exact ll_tr hw (h1 x hx)
theorem ord_fold_ris : ∀ (ws r : List (List Nat)), Ris r → Ris (ws.foldl (fun r w => insU w r) r)
  | [], r, h => h
  | w :: t, r, h => ord_fold_ris t _ (insU_ris w r h)
theorem inOrd_ris (ws : List (List Nat)) : Ris (inOrd ws) := ord_fold_ris ws [] .nil
theorem ris_nodup {l : List (List Nat)} (h : Ris l) : l.Nodup := h.imp fun {a b} q e => by subst e; exact ll_irr a q
/-- two rising rows of the same words are one -/
theorem ris_ext {l m : List (List Nat)} (hl : Ris l) (hm : Ris m) (h : ∀ x, x ∈ l ↔ x ∈ m) : l = m :=
  ((List.perm_ext_iff_of_nodup (ris_nodup hl) (ris_nodup hm)).mpr h).eq_of_pairwise (le := (· < ·)) (fun a b _ _ h1 h2 => absurd (ll_tr h1 h2) (ll_irr a)) hl hm

/-! words and pairs -/
noncomputable def V16 : Nat → List Nat → Nat
  | 0, _ => 0
  | _ + 1, [] => 0
  | k + 1, x :: r => x * 16 ^ k + V16 k r
theorem V16_lt : ∀ (k : Nat) (d : List Nat), (∀ x ∈ d, x < 16) → V16 k d < 16 ^ k
  | 0, _, _ => by simp [V16]
  | k + 1, [], _ => Nat.pow_pos (by decide)
  | k + 1, x :: r, h => by
    have h1 := V16_lt k r fun y hy => h y (by simp [hy])
    have h2 := h x (by simp)
    have h3 : x * 16 ^ k ≤ 15 * 16 ^ k := Nat.mul_le_mul_right _ (by omega)
    simp only [V16, Nat.pow_succ]; omega
theorem lexV : ∀ (k : Nat) (d e : List Nat), d.length ≤ k → e.length ≤ k → (∀ x ∈ d, x < 16) → (∀ x ∈ e, x < 16) → d < e → V16 k d < V16 k e ∨ (V16 k d = V16 k e ∧ d.length < e.length)
  | 0, d, e, hd, he, _, _, h => by
    rw [List.length_eq_zero_iff.mp (by omega : d.length = 0), List.length_eq_zero_iff.mp (by omega : e.length = 0)] at h
    exact absurd h (ll_irr [])
  | k + 1, [], [], _, _, _, _, h => absurd h (ll_irr [])
  | k + 1, _ :: _, [], _, _, _, _, h => by simp at h
  | k + 1, [], y :: s, _, _, _, _, _ => by
    by_cases q : V16 (k + 1) (y :: s) = 0
    · exact .inr ⟨by rw [q]; rfl, by simp⟩
    · exact .inl (by show 0 < _; omega)
  | k + 1, x :: r, y :: s, hd, he, h1, h2, h => by
    rw [List.cons_lt_cons_iff] at h
    rcases h with h | ⟨rfl, h⟩
    · left
      have h3 := V16_lt k r fun z hz => h1 z (by simp [hz])
      have h4 : (x + 1) * 16 ^ k ≤ y * 16 ^ k := Nat.mul_le_mul_right _ h
      rw [Nat.add_mul, Nat.one_mul] at h4
      simp only [V16]; omega
    · rcases lexV k r s (by simpa using hd) (by simpa using he) (fun z hz => h1 z (by simp [hz])) (fun z hz => h2 z (by simp [hz])) h with q | q
      · left; simp only [V16]; omega
      · right; simp only [V16, List.length_cons]; omega
theorem V16_fold : ∀ (d : List Nat) (k acc : Nat), d.length ≤ k → acc * 16 ^ k + V16 k d = (d.foldl (fun a x => a * 16 + x) acc) * 16 ^ (k - d.length)
  | [], 0, acc, _ => by simp [V16]
  | [], k + 1, acc, _ => by simp [V16]
  | x :: r, 0, acc, h => by simp at h
  | x :: r, k + 1, acc, h => by
    have ih := V16_fold r k (acc * 16 + x) (by simpa using h)
    rw [List.foldl_cons, List.length_cons, show k + 1 - (r.length + 1) = k - r.length by omega, ← ih]
    simp only [V16, Nat.pow_succ, Nat.add_mul]
    rw [Nat.mul_assoc acc 16, Nat.mul_comm 16 (16 ^ k)]; omega
theorem hx_fold (n : Nat) : (hx n).foldl (fun a x => a * 16 + x) 0 = n := by
  induction n using Nat.strongRecOn with
  | _ n ih =>
    by_cases h : n = 0
    · subst h; rw [hx_zero]; rfl
    · rw [hx_pos h, List.foldl_append, ih (n / 16) (by omega)]
      show n / 16 * 16 + n % 16 = n
      omega
theorem hx_V (n k : Nat) (h : (hx n).length ≤ k) : V16 k (hx n) = n * 16 ^ (k - (hx n).length) := by
  have := V16_fold (hx n) k 0 h
  rw [hx_fold] at this
  simpa using this
theorem map_lt_iff : ∀ (d e : List Nat), (d.map fun x => 65 + x) < (e.map fun x => 65 + x) ↔ d < e
  | [], [] => by simp
  | [], _ :: _ => by simp
  | _ :: _, [] => by simp
  | x :: r, y :: s => by
    rw [List.map_cons, List.map_cons, List.cons_lt_cons_iff, List.cons_lt_cons_iff, map_lt_iff r s]
    constructor
    · rintro (h | ⟨h1, h2⟩)
      · exact .inl (by omega)
      · exact .inr ⟨by omega, h2⟩
    · rintro (h | ⟨h1, h2⟩)
      · exact .inl (by omega)
      · exact .inr ⟨by omega, h2⟩
theorem wd_plt {a b : Nat} (ha : a < 16 ^ 4) (hb : b < 16 ^ 4) (h : wd a < wd b) : plt (pairOf a) (pairOf b) = true := by
  have h4a : (hx a).length ≤ 4 := hx_len 4 a ha
  have h4b : (hx b).length ≤ 4 := hx_len 4 b hb
  have h1 : hx a < hx b := (map_lt_iff _ _).mp h
  have h2 := lexV 4 (hx a) (hx b) h4a h4b (hx_lt a) (hx_lt b) h1
  rw [hx_V a 4 h4a, hx_V b 4 h4b] at h2
  unfold plt pairOf
  simp only [Bool.or_eq_true, Bool.and_eq_true, decide_eq_true_eq]
  rcases h2 with h2 | ⟨h2, h3⟩
  · exact .inl (by exact_mod_cast h2)
  · exact .inr ⟨by exact_mod_cast h2, by have := hx_len_lt h3; omega⟩
theorem plt_wd {a b : Nat} (ha : a < 16 ^ 4) (hb : b < 16 ^ 4) (h : plt (pairOf a) (pairOf b) = true) : wd a < wd b := by
  rcases ll_tri (wd a) (wd b) with q | q | q
  · exact q
  · rw [wd_inj q] at h
    have := plt_asym _ _ h
    rw [h] at this; cases this
  · have := plt_asym _ _ (wd_plt hb ha q)
    rw [h] at this; cases this

/-! the numbers in order are the words in order -/
theorem mem_nums (rows : List Nat) (n : Nat) : n ∈ numsL rows ↔ n ∈ rows := by
  unfold numsL
  rw [List.mem_map]
  constructor
  · rintro ⟨p, hp, rfl⟩
    obtain ⟨m, hm, rfl⟩ := (mem_pairsL rows p).mp ((sortP_perm _).mem_iff.mp hp)
    simpa [pairOf] using hm
  · intro hn
    exact ⟨pairOf n, (sortP_perm _).mem_iff.mpr ((mem_pairsL rows _).mpr ⟨n, hn, rfl⟩), by simp [pairOf]⟩
theorem nums_ris (rows : List Nat) (hlt : ∀ n ∈ rows, n < 16 ^ 4) : Ris ((numsL rows).map wd) := by
  have hnd : (sortP (pairsL rows)).Nodup := (sortP_perm _).nodup_iff.mpr (pairs_nodup rows [] (by simp))
  have hle := sortP_le (pairsL rows)
  unfold numsL
  rw [Ris, List.map_map, List.pairwise_map]
  refine (hle.and hnd).imp_of_mem fun {p q} hp hq ⟨h1, h2⟩ => ?_
  obtain ⟨a, ha, rfl⟩ := (mem_pairsL rows p).mp ((sortP_perm _).mem_iff.mp hp)
  obtain ⟨b, hb, rfl⟩ := (mem_pairsL rows q).mp ((sortP_perm _).mem_iff.mp hq)
  have h3 : plt (pairOf a) (pairOf b) = true := plt_tot _ _ (fun e => h2 e.symm) (by simpa using h1)
  have := plt_wd (hlt a ha) (hlt b hb) h3
  simpa [pairOf] using this
theorem ord_nums (rows : List Nat) (hlt : ∀ n ∈ rows, n < 16 ^ 4) : inOrd (rows.map wd) = (numsL rows).map wd :=
  ris_ext (inOrd_ris _) (nums_ris rows hlt) fun x => by
    rw [mem_inOrd, List.mem_map, List.mem_map]
    exact exists_congr fun n => by rw [mem_nums]
theorem nums_nodup (rows : List Nat) (hlt : ∀ n ∈ rows, n < 16 ^ 4) : (numsL rows).Nodup := List.Pairwise.of_map wd (fun a b h e => h (by rw [e])) (ris_nodup (nums_ris rows hlt))
end Mine

set_option maxRecDepth 100000
set_option autoImplicit false
set_option linter.unusedVariables false
namespace Mine
open PySem PySem.W PySem.Calls PyProof.Rows

/-! words ahead of words -/
theorem pre_le : ∀ {a b : List Nat}, a <+: b → a ≠ b → a < b
  | [], [], _, h => absurd rfl h
  | [], _ :: _, _, _ => by simp
  | _ :: _, [], h, _ => by simp at h
  | x :: r, y :: s, h, hn => by
    rw [List.cons_prefix_cons] at h
    obtain ⟨rfl, h⟩ := h
    rw [List.cons_lt_cons_iff]
    exact .inr ⟨rfl, pre_le h fun e => hn (by rw [e])⟩
/-- what stands between a beginning and its word bears the beginning -/
theorem pre_mid : ∀ {a v b : List Nat}, a <+: b → (a < v ∨ a = v) → v < b → a <+: v
  | [], _, _, _, _, _ => List.nil_prefix
  | x :: r, [], _, _, h, _ => by
    rcases h with h | h
    · simp at h
    · cases h
  | x :: r, y :: s, [], h, _, _ => by simp at h
  | x :: r, y :: s, z :: t, h, h1, h2 => by
    rw [List.cons_prefix_cons] at h ⊢
    obtain ⟨rfl, h⟩ := h
    rw [List.cons_lt_cons_iff] at h2
    have hy : x = y ∧ (r < s ∨ r = s) := by
      rcases h1 with h1 | h1
      · rw [List.cons_lt_cons_iff] at h1
        rcases h1 with h1 | ⟨q, h1⟩
        · rcases h2 with h2 | ⟨q, _⟩
          · omega
          · omega
        · exact ⟨q, .inl h1⟩
      · cases h1; exact ⟨rfl, .inr rfl⟩
    obtain ⟨rfl, h3⟩ := hy
    rcases h2 with h2 | ⟨_, h2⟩
    · omega
    · exact ⟨rfl, pre_mid h h3 h2⟩

/-! the climb -/
theorem drop_filter {α : Type} (a b : α → Bool) : ∀ (p : List α), (∀ i ∈ p, b i = true → a i = true) → p.Pairwise (fun j i => a j = true → a i = true → b j = true → b i = true) → (p.filter a).dropWhile (fun i => !b i) = p.filter b
  | [], _, _ => rfl
  | x :: r, h1, h2 => by
    have hp := List.pairwise_cons.mp h2
    have ih := drop_filter a b r (fun i hi => h1 i (by simp [hi])) hp.2
    cases hb : b x with
    | true =>
      have ha := h1 x (by simp) hb
      rw [List.filter_cons_of_pos ha, List.filter_cons_of_pos hb, List.dropWhile_cons, hb]
      simp only [Bool.not_true, Bool.false_eq_true, if_false]
      congr 1
      apply List.filter_congr
      intro i hi
      rw [Bool.eq_iff_iff]
      exact ⟨fun q => hp.1 i hi ha q hb, h1 i (by simp [hi])⟩
    | false =>
      rw [List.filter_cons_of_neg (by simp [hb]) (p := b)]
      cases ha : a x with
      | true =>
        rw [List.filter_cons_of_pos ha, List.dropWhile_cons, hb]
        simpa using ih
      | false =>
        rw [List.filter_cons_of_neg (by simp [ha])]
        exact ih
def preB (a b : List Nat) : Bool := decide (a <+: b)
def piles (ws : List (List Nat)) (k : Nat) : List Nat := (List.range k).reverse.filter fun i => preB (ws.getD i []) (ws.getD k [])
theorem ris_get {ws : List (List Nat)} (h : Ris ws) {i j : Nat} (hij : i < j) (hj : j < ws.length) : ws.getD i [] < ws.getD j [] := by
  have := List.pairwise_iff_getElem.mp h i j (by omega) hj hij
  have hi : i < ws.length := by omega
  simpa [hi, hj] using this
theorem climb_step (ws : List (List Nat)) (h : Ris ws) (k : Nat) (hk : k + 1 < ws.length) : (k :: piles ws k).dropWhile (fun i => !preB (ws.getD i []) (ws.getD (k + 1) [])) = piles ws (k + 1) := by
  have e : k :: piles ws k = ((List.range (k + 1)).reverse.filter fun i => preB (ws.getD i []) (ws.getD k [])) := by
    unfold piles
    rw [List.range_succ, List.reverse_append, List.reverse_singleton, List.singleton_append, List.filter_cons_of_pos]
    unfold preB; simp
  rw [e]
  unfold piles
  refine drop_filter _ _ _ (fun i hi hb => ?_) ?_
  · have hi : i < k + 1 := by simpa using hi
    unfold preB at *
    simp only [decide_eq_true_eq] at *
    refine pre_mid hb ?_ (ris_get h (Nat.lt_succ_self k) hk)
    by_cases q : i = k
    · right; rw [q]
    · left; exact ris_get h (by omega) (by omega)
  · rw [List.pairwise_reverse]
    have := List.pairwise_lt_range (n := k + 1)
    refine this.imp_of_mem fun {i j} hi hj hij h1 h2 h3 => ?_
    have hj' : j < k + 1 := List.mem_range.mp hj
    unfold preB at *
    simp only [decide_eq_true_eq] at *
    have hlt : ws.getD i [] < ws.getD j [] := ris_get h hij (by omega)
    refine List.IsPrefix.trans ?_ h3
    rcases List.prefix_or_prefix_of_prefix h2 h1 with q | q
    · exact q
    · by_cases e : ws.getD j [] = ws.getD i []
      · rw [e]; exact List.prefix_refl _
      · exact absurd (ll_tr hlt (pre_le q e)) (ll_irr _)
theorem climb_eq (ws : List (List Nat)) (h : Ris ws) (tk : Nat → Nat → Bool) (htk : ∀ i k, i < k → k < ws.length → tk i k = preB (ws.getD i []) (ws.getD k [])) :
    ∀ n, n ≤ ws.length → ((List.range n).foldl (climbS tk) ([], [])).2 = (List.range n).map (fun k => (piles ws k).reverse) ∧ (∀ m, n = m + 1 → ((List.range n).foldl (climbS tk) ([], [])).1 = m :: piles ws m) ∧ (n = 0 → ((List.range n).foldl (climbS tk) ([], [])).1 = [])
  | 0, _ => ⟨rfl, fun m e => by omega, fun _ => rfl⟩
  | n + 1, hn => by
    obtain ⟨h1, h2, h3⟩ := climb_eq ws h tk htk n (by omega)
    have hb := climb_lt tk n
    rw [List.range_succ, List.foldl_append, List.map_append]
    generalize (List.range n).foldl (climbS tk) ([], []) = z at h1 h2 h3 hb
    have hd : (z.1.dropWhile fun i => !tk i n) = piles ws n := by
      have e : (z.1.dropWhile fun i => !tk i n) = z.1.dropWhile fun i => !preB (ws.getD i []) (ws.getD n []) := by
        have : ∀ l : List Nat, (∀ i ∈ l, i < n) → (l.dropWhile fun i => !tk i n) = l.dropWhile fun i => !preB (ws.getD i []) (ws.getD n []) := by
          intro l
          induction l with
          | nil => intro _; rfl
          | cons a r ih =>
            intro hl
            rw [List.dropWhile_cons, List.dropWhile_cons, htk a n (hl a (by simp)) (by omega), ih fun i hi => hl i (by simp [hi])]
        exact this z.1 hb.1
      rw [e]
      cases n with
      | zero => rw [h3 rfl]; rfl
      | succ m => rw [h2 m rfl]; exact climb_step ws h m (by omega)
    refine ⟨?_, fun m e => ?_, fun e => by omega⟩
    · simp only [List.foldl_cons, List.foldl_nil, climbS, hd, h1, List.map_cons, List.map_nil]
    · have : m = n := by omega
      subst this
      simp only [List.foldl_cons, List.foldl_nil, climbS, hd]
/-- what lies on the pile: just the words ahead -/
def aheadOf (ws : List (List Nat)) (w : List Nat) : List (List Nat) := ws.filter fun v => preB v w && !decide (v = w)
theorem pile_words (ws : List (List Nat)) (h : Ris ws) (k : Nat) (hk : k < ws.length) : ((piles ws k).reverse.map fun i => ws.getD i []) = aheadOf ws (ws.getD k []) := by
  unfold piles aheadOf
  rw [List.filter_reverse, List.reverse_reverse]
  have e1 : ws = (List.range ws.length).map fun i => ws.getD i [] := (getD_range ws []).symm
  have e2 : ws.filter (fun v => preB v (ws.getD k []) && !decide (v = ws.getD k [])) = ((List.range ws.length).map fun i => ws.getD i []).filter (fun v => preB v (ws.getD k []) && !decide (v = ws.getD k [])) := by rw [← e1]
  rw [e2, List.filter_map]
  congr 1
  have e3 : ws.length = k + (ws.length - k) := by omega
  rw [e3, List.range_add, List.filter_append]
  have e4 : (List.map (fun x => k + x) (List.range (ws.length - k))).filter ((fun v => preB v (ws.getD k []) && !decide (v = ws.getD k [])) ∘ fun i => ws.getD i []) = [] := by
    rw [List.filter_eq_nil_iff]
    intro i hi
    obtain ⟨x, hx, rfl⟩ := List.mem_map.mp hi
    have hx := List.mem_range.mp hx
    simp only [Function.comp, preB, Bool.and_eq_true, decide_eq_true_eq, Bool.not_eq_true', decide_eq_false_iff_not]
    rintro ⟨h1, h2⟩
    by_cases q : x = 0
    · subst q; exact h2 (by rw [Nat.add_zero])
    · have := ris_get h (show k < k + x by omega) (by omega)
      exact absurd (ll_tr this (pre_le h1 h2)) (ll_irr _)
  rw [e4, List.append_nil]
  apply List.filter_congr
  intro i hi
  have hi := List.mem_range.mp hi
  have : ws.getD i [] ≠ ws.getD k [] := fun e => by
    have := ris_get h hi hk
    rw [e] at this; exact ll_irr _ this
  simp only [Function.comp, decide_eq_false this, Bool.not_false, Bool.and_true]
theorem climb_words (ws : List (List Nat)) (h : Ris ws) (tk : Nat → Nat → Bool) (htk : ∀ i k, i < k → k < ws.length → tk i k = preB (ws.getD i []) (ws.getD k [])) (f : List Nat → List Nat) :
    (climb tk ws.length).map (fun l => l.map fun i => f (ws.getD i [])) = ws.map fun w => (aheadOf ws w).map f := by
  unfold climb
  rw [(climb_eq ws h tk htk ws.length (Nat.le_refl _)).1, List.map_map]
  have e1 : (ws.map fun w => (aheadOf ws w).map f) = ((List.range ws.length).map fun i => ws.getD i []).map fun w => (aheadOf ws w).map f := by rw [getD_range]
  rw [e1, List.map_map]
  apply List.map_congr_left
  intro k hk
  have := pile_words ws h k (List.mem_range.mp hk)
  simp only [Function.comp]
  rw [← this, List.map_map]
  rfl
theorem ahead_ris {ws : List (List Nat)} (h : Ris ws) (w : List Nat) : Ris (aheadOf ws w) := h.sublist List.filter_sublist
theorem mem_ahead (ws : List (List Nat)) (w v : List Nat) : v ∈ aheadOf ws w ↔ v ∈ ws ∧ v <+: w ∧ v ≠ w := by
  unfold aheadOf preB
  rw [List.mem_filter]
  simp
end Mine

set_option maxRecDepth 100000
set_option autoImplicit false
set_option linter.unusedVariables false
namespace Mine
open PySem PySem.W PySem.Calls PyProof.Rows

theorem sortN_lt {l : List Nat} (h : l.Nodup) : (sortN l).Pairwise (· < ·) := by
  have h1 := sortN_le l
  have h2 : (sortN l).Nodup := (sortN_perm l).nodup_iff.mpr h
  exact (h1.and h2).imp fun ⟨a, b⟩ => by omega
/-! heads -/
theorem len4 {n : Nat} (h : n < 16 ^ 4) : (wd n).length ≤ 4 := by rw [wd_hx]; exact hx_len 4 n h
theorem cut_pre {a n : Nat} (hn : n < 16 ^ 4) (hne : a ≠ n) : a ∈ cutsOf n ↔ wd a <+: wd n := by
  unfold cutsOf
  rw [List.mem_map]
  constructor
  · rintro ⟨k, _, rfl⟩
    obtain ⟨u, hu⟩ := wd_split (k + 1) n
    exact ⟨u, hu.symm⟩
  · rintro ⟨u, hu⟩
    have h1 := wd_pre u n a hu.symm
    have h2 := len4 hn
    rw [← hu, List.length_append] at h2
    refine ⟨u.length - 1, List.mem_range.mpr (by omega), ?_⟩
    have : u.length ≠ 0 := fun q => hne (by rw [h1, q]; simp)
    rw [show u.length - 1 + 1 = u.length by omega, h1]
theorem chain_ris {l : List Nat} {w : List Nat} (h : l.Pairwise (· < ·)) (hp : ∀ a ∈ l, wd a <+: w) : Ris (l.map wd) := by
  rw [Ris, List.pairwise_map]
  refine h.imp_of_mem fun {a b} ha hb hab => ?_
  rcases List.prefix_or_prefix_of_prefix (hp a ha) (hp b hb) with q | q
  · exact pre_le q fun e => by have := wd_inj e; omega
  · obtain ⟨u, hu⟩ := q
    have h1 := wd_pre u a b hu.symm
    have := Nat.div_le_self a (16 ^ u.length)
    omega
theorem heads_words {N : List Nat} (hN : ∀ n ∈ N, n < 16 ^ 4) (hr : Ris (N.map wd)) {n : Nat} (hn : n ∈ N) : (headsL n N).map wd = aheadOf (N.map wd) (wd n) := by
  have hnd : N.Nodup := List.Pairwise.of_map wd (fun a b h e => h (by rw [e])) (ris_nodup hr)
  have hmem : ∀ a, a ∈ headsL n N ↔ a ∈ N ∧ a ≠ n ∧ wd a <+: wd n := fun a => by
    unfold headsL
    rw [List.mem_filter, (sortN_perm N).mem_iff, Bool.and_eq_true, bne_iff_ne, List.contains_iff_mem]
    refine and_congr_right fun _ => and_congr_right fun hne => cut_pre (hN n hn) hne
  refine ris_ext (chain_ris (w := wd n) ((sortN_lt hnd).sublist List.filter_sublist) fun a ha => ((hmem a).mp ha).2.2) (ahead_ris hr _) fun x => ?_
  rw [mem_ahead, List.mem_map, List.mem_map]
  constructor
  · rintro ⟨a, ha, rfl⟩
    obtain ⟨h1, h2, h3⟩ := (hmem a).mp ha
    exact ⟨⟨a, h1, rfl⟩, h3, fun e => h2 (wd_inj e)⟩
  · rintro ⟨⟨a, h1, rfl⟩, h3, h2⟩
    exact ⟨a, (hmem a).mpr ⟨h1, fun e => h2 (by rw [e]), h3⟩, rfl⟩
/-! tails -/
theorem mod_suf (m n : Nat) : n % 16 ^ (hx m).length = m ↔ wd m <:+ wd n := by
  have hm := hx_up _ m rfl
  constructor
  · intro h
    refine ⟨wd (n / 16 ^ (hx m).length), ?_⟩
    rw [← wd_cat]
    congr 1
    have := Nat.div_add_mod n (16 ^ (hx m).length)
    rw [h, Nat.mul_comm] at this; exact this
  · rintro ⟨u, hu⟩
    have h1 := wd_ahead n u (wd m) hu.symm
    rw [h1, ← wd_cat] at hu
    have := wd_inj hu
    rw [← this, Nat.add_comm, Nat.add_mul_mod_self_right, Nat.mod_eq_of_lt hm]
abbrev rwd (n : Nat) : List Nat := (wd n).reverse
theorem rwd_inj {a b : Nat} (h : rwd a = rwd b) : a = b := wd_inj (List.reverse_inj.mp h)
theorem chain_risR {l : List Nat} {w : List Nat} (h : l.Pairwise (· < ·)) (hp : ∀ a ∈ l, rwd a <+: w) : Ris (l.map rwd) := by
  rw [Ris, List.pairwise_map]
  refine h.imp_of_mem fun {a b} ha hb hab => ?_
  rcases List.prefix_or_prefix_of_prefix (hp a ha) (hp b hb) with q | q
  · exact pre_le q fun e => by have := rwd_inj e; omega
  · have q := List.reverse_prefix.mp q
    have := (mod_suf b a).mpr q
    have := Nat.mod_le a (16 ^ (hx b).length)
    omega
theorem tails_words {N : List Nat} {R : List (List Nat)} (hnd : N.Nodup) (hr : Ris R) (hR : ∀ x, x ∈ R ↔ x ∈ N.map rwd) {n : Nat} (hn : n ∈ N) : (tailsL n N).map rwd = aheadOf R (rwd n) := by
  have hmem : ∀ a, a ∈ tailsL n N ↔ a ∈ N ∧ a ≠ n ∧ rwd a <+: rwd n := fun a => by
    unfold tailsL
    rw [List.mem_filter, (sortN_perm N).mem_iff, Bool.and_eq_true, bne_iff_ne, beq_iff_eq, mod_suf, List.reverse_prefix]
  refine ris_ext (chain_risR (w := rwd n) ((sortN_lt hnd).sublist List.filter_sublist) fun a ha => ((hmem a).mp ha).2.2) (ahead_ris hr _) fun x => ?_
  rw [mem_ahead, hR, List.mem_map, List.mem_map]
  constructor
  · rintro ⟨a, ha, rfl⟩
    obtain ⟨h1, h2, h3⟩ := (hmem a).mp ha
    exact ⟨⟨a, h1, rfl⟩, h3, fun e => h2 (rwd_inj e)⟩
  · rintro ⟨⟨a, h1, rfl⟩, h3, h2⟩
    exact ⟨a, (hmem a).mpr ⟨h1, fun e => h2 (by rw [e]), h3⟩, rfl⟩
/-! the texts -/
theorem prt_let : ∀ (w : List Nat) (r : List Pt), (∀ n ∈ w, n ≠ 42 ∧ n ≠ 63) → w.foldl prStep r = r ++ w.map Pt.sign
  | [], r, _ => by simp
  | a :: t, r, h => by
    have ha := h a (by simp)
    rw [List.foldl_cons, prt_let t _ fun n hn => h n (by simp [hn])]
    unfold prStep
    rw [if_neg ha.1, if_neg ha.2]; simp
theorem sgs_let : ∀ (w : List Nat) (r : List Pt), sgs (w.map Pt.sign ++ r) = w ++ sgs r
  | [], r => rfl
  | a :: t, r => by
    show a :: sgs (t.map Pt.sign ++ r) = _
    rw [sgs_let t r]; rfl
theorem rst_let : ∀ (w : List Nat) (r : List Pt), rst (w.map Pt.sign ++ r) = rst r
  | [], r => rfl
  | a :: t, r => rst_let t r
theorem text_head (w : List Nat) (h : ∀ n ∈ w, n ≠ 42 ∧ n ≠ 63) : text (prt (w ++ [63, 42])) = txt2 (w ++ [46]) [] := by
  have e : prt (w ++ [63, 42]) = w.map Pt.sign ++ [.sign 46, .star] := by
    unfold prt
    rw [List.foldl_append, prt_let w [] h]
    simp [prStep]
  unfold text inner txt2
  rw [e, sgs_let, rst_let]
  have e2 : (w.map Pt.sign ++ [Pt.sign 46, .star]).length = w.length + 2 := by simp
  rw [e2]
  simp [sgs, rst, jres]
theorem text_tail (w : List Nat) (h : ∀ n ∈ w, n ≠ 42 ∧ n ≠ 63) : text (prt (42 :: 63 :: w)) = txt2 [] (46 :: w) := by
  have e : prt (42 :: 63 :: w) = .star :: .sign 46 :: w.map Pt.sign := by
    unfold prt
    show w.foldl prStep [.star, .sign 46] = _
    rw [prt_let w _ h]; rfl
  have h1 : rst (w.map Pt.sign) = [] := by have := rst_let w []; simpa [rst] using this
  have h2 : sgs (w.map Pt.sign) = w := by have := sgs_let w []; simpa [sgs] using this
  unfold text inner txt2
  rw [e]
  simp only [List.length_cons]
  simp [sgs, rst, jres, h1, h2]
/-! what the texts take -/
theorem fixB_iff (f w : List Nat) (h : f.length ≤ w.length) : fixB f w = true ↔ ∀ k, k < f.length → f.getD k 0 = 46 ∨ f.getD k 0 = w.getD k 0 := by
  unfold fixB
  simp
theorem pre_iff (a v : List Nat) : a <+: v ↔ a.length ≤ v.length ∧ ∀ k, k < a.length → a.getD k 0 = v.getD k 0 := by
  rw [List.prefix_iff_getElem]
  constructor
  · rintro ⟨h, hk⟩
    refine ⟨h, fun k q => ?_⟩
    have := hk k q
    have q2 : k < v.length := by omega
    simpa [q, q2] using this
  · rintro ⟨h, hk⟩
    refine ⟨h, fun k q => ?_⟩
    have := hk k q
    have q2 : k < v.length := by omega
    simpa [q, q2] using this
theorem takes_head (a v : List Nat) (ha : ∀ n ∈ a, n ≠ 46) : takes2 (a ++ [46]) [] v = (decide (a.length < v.length) && preB a v) := by
  unfold takes2 preB
  by_cases h : a.length < v.length
  · have e1 : decide ((a ++ [46]).length + ([] : List Nat).length ≤ v.length) = true := by simp; omega
    have e3 : fixB [] (v.drop (v.length - ([] : List Nat).length)) = true := by simp [fixB]
    rw [e1, e3, decide_eq_true h, Bool.true_and, Bool.true_and, Bool.and_true, Bool.eq_iff_iff, fixB_iff _ _ (by simp; omega), decide_eq_true_eq, pre_iff]
    constructor
    · intro hk
      refine ⟨by omega, fun k q => ?_⟩
      have := hk k (by simp; omega)
      have e : (a ++ [46]).getD k 0 = a.getD k 0 := by
        simp [List.getD_eq_getElem?_getD, List.getElem?_append_left q]
      rw [e] at this
      rcases this with q2 | q2
      · have : a.getD k 0 ∈ a := by simp [q]
        exact absurd q2 (ha _ this)
      · exact q2
    · rintro ⟨_, hk⟩ k q
      by_cases q2 : k < a.length
      · right
        have e : (a ++ [46]).getD k 0 = a.getD k 0 := by
          simp [List.getD_eq_getElem?_getD, List.getElem?_append_left q2]
        rw [e]; exact hk k q2
      · left
        have : k = a.length := by simp at q; omega
        subst this
        simp
  · have e1 : decide ((a ++ [46]).length + ([] : List Nat).length ≤ v.length) = false := by simp; omega
    rw [e1, decide_eq_false h]; rfl
theorem takes_tail (a v : List Nat) (ha : ∀ n ∈ a, n ≠ 46) : takes2 [] (46 :: a) v = (decide (a.length < v.length) && preB a.reverse v.reverse) := by
  unfold takes2 preB
  by_cases h : a.length < v.length
  · have e1 : decide (([] : List Nat).length + (46 :: a).length ≤ v.length) = true := by simp; omega
    have e3 : fixB [] v = true := by simp [fixB]
    have hl : (v.drop (v.length - (46 :: a).length)).length = a.length + 1 := by rw [List.length_drop, List.length_cons]; omega
    rw [e1, e3, decide_eq_true h, Bool.true_and, Bool.true_and, Bool.true_and, Bool.eq_iff_iff, fixB_iff _ _ (by rw [hl, List.length_cons]; omega), decide_eq_true_eq, List.reverse_prefix]
    have hdr : v.drop (v.length - (46 :: a).length) = v.getD (v.length - (a.length + 1)) 0 :: v.drop (v.length - a.length) := by
      have q : v.length - (a.length + 1) < v.length := by omega
      rw [List.length_cons, List.drop_eq_getElem_cons q]
      have e : v.length - (a.length + 1) + 1 = v.length - a.length := by omega
      rw [e]
      simp [q]
    rw [hdr]
    have hs : a <:+ v ↔ a = v.drop (v.length - a.length) := by
      constructor
      · rintro ⟨u, rfl⟩
        simp
      · intro e
        rw [e]; exact List.drop_suffix _ _
    rw [hs]
    constructor
    · intro hk
      apply List.ext_getElem
      · rw [List.length_drop]; omega
      · intro k q1 q2
        have := hk (k + 1) (by simp; omega)
        rw [List.getD_cons_succ, List.getD_cons_succ] at this
        have e1 : a.getD k 0 = a[k] := by simp [q1]
        have e2 : (v.drop (v.length - a.length)).getD k 0 = (v.drop (v.length - a.length))[k] := by simp only [List.getD_eq_getElem?_getD, List.getElem?_eq_getElem q2, Option.getD_some]
        rw [e1, e2] at this
        rcases this with q3 | q3
        · exact absurd q3 (ha _ (List.getElem_mem q1))
        · exact q3
    · intro e k q
      cases k with
      | zero => left; rfl
      | succ k =>
        right
        rw [List.getD_cons_succ, List.getD_cons_succ, ← e]
  · have e1 : decide (([] : List Nat).length + (46 :: a).length ≤ v.length) = false := by simp; omega
    rw [e1, decide_eq_false h]; rfl
end Mine

set_option maxRecDepth 100000
set_option autoImplicit false
set_option linter.unusedVariables false
namespace Mine
open PySem PySem.W PySem.Calls PyProof.Rows

/-- law 2's numbers, the mirrored words in order, their numbers -/
def NN (ns : List Int) : List Nat := numsL (rowsOf ns)
def RR (ns : List Int) : List (List Nat) := inOrd ((NN ns).map rwd)
def BN (ns : List Int) : List Nat := (RR ns).map fun r => (rd r.reverse).toNat
theorem NN_lt (ns : List Int) : ∀ n ∈ NN ns, n < 16 ^ 4 := fun n hn => rowsOf_lt ns n ((mem_nums _ _).mp hn)
theorem NN_ris (ns : List Int) : Ris ((NN ns).map wd) := nums_ris _ (rowsOf_lt ns)
theorem NN_nodup (ns : List Int) : (NN ns).Nodup := nums_nodup _ (rowsOf_lt ns)
theorem RR_ris (ns : List Int) : Ris (RR ns) := inOrd_ris _
theorem mem_RR (ns : List Int) (x : List Nat) : x ∈ RR ns ↔ x ∈ (NN ns).map rwd := mem_inOrd _ _
theorem num_rwd (n : Nat) : (rd (rwd n).reverse).toNat = n := by
  rw [List.reverse_reverse, rd_wd]; rfl
theorem RR_BN (ns : List Int) : RR ns = (BN ns).map rwd := by
  unfold BN
  rw [List.map_map]
  have : ∀ l : List (List Nat), (∀ x ∈ l, x ∈ (NN ns).map rwd) → l = l.map (rwd ∘ fun r => (rd r.reverse).toNat) := by
    intro l
    induction l with
    | nil => intro _; rfl
    | cons a t ih =>
      intro h
      obtain ⟨n, _, hn⟩ := List.mem_map.mp (h a (by simp))
      rw [List.map_cons, ← ih fun x hx => h x (by simp [hx])]
      simp only [Function.comp]
      rw [← hn, num_rwd]
  exact this (RR ns) fun x hx => (mem_RR ns x).mp hx
theorem mem_BN (ns : List Int) (n : Nat) : n ∈ BN ns ↔ n ∈ NN ns := by
  constructor
  · intro h
    have : rwd n ∈ RR ns := by rw [RR_BN]; exact List.mem_map_of_mem h
    obtain ⟨m, hm, e⟩ := List.mem_map.mp ((mem_RR ns _).mp this)
    rw [← rwd_inj e]; exact hm
  · intro h
    have : rwd n ∈ RR ns := (mem_RR ns _).mpr (List.mem_map_of_mem h)
    rw [RR_BN] at this
    obtain ⟨m, hm, e⟩ := List.mem_map.mp this
    rw [← rwd_inj e]; exact hm
theorem NN_len (ns : List Int) : (NN ns).length ≤ 11 := by
  unfold NN numsL
  rw [List.length_map, (sortP_perm _).length_eq]
  have h1 := pairs_len (rowsOf ns) []
  have h2 := rowsOf_len ns
  simp only [List.length_nil] at h1
  unfold pairsL; omega
theorem BN_len (ns : List Int) : (BN ns).length ≤ 11 := by
  have h1 : (BN ns).length = (RR ns).length := by unfold BN; simp
  have h2 := ord_len ((NN ns).map rwd) []
  have h3 := NN_len ns
  simp only [List.length_nil, List.length_map] at h2
  rw [h1]; unfold RR inOrd; omega
theorem pairs2 (ns : List Int) : 2 ≤ (pairsL (rowsOf ns)).length := by
  obtain ⟨r, hr⟩ := rowsOf_pre ns
  have h1 : pairOf 18 ∈ pairsL (rowsOf ns) := (mem_pairsL _ _).mpr ⟨18, by rw [hr]; simp, rfl⟩
  have h2 : pairOf 1 ∈ pairsL (rowsOf ns) := (mem_pairsL _ _).mpr ⟨1, by rw [hr]; simp, rfl⟩
  have hne : pairOf 18 ≠ pairOf 1 := fun e => by
    have := congrArg Prod.snd e
    simp [pairOf] at this
  match h : pairsL (rowsOf ns) with
  | [] => rw [h] at h1; cases h1
  | [x] =>
    rw [h, List.mem_singleton] at h1 h2
    exact absurd (h1.trans h2.symm) hne
  | _ :: _ :: _ => simp
def linesL (ns : List Int) : List (List Nat) := (NN ns).map fun n => headsL n (NN ns)
def ropesL (ns : List Int) : List (List Nat) := (BN ns).map fun n => tailsL n (NN ns)
theorem heads_sub (n : Nat) (N : List Nat) : ∀ a ∈ headsL n N, a ∈ N := fun a h => (sortN_perm N).mem_iff.mp (List.mem_filter.mp h).1
theorem tails_sub (n : Nat) (N : List Nat) : ∀ a ∈ tailsL n N, a ∈ N := fun a h => (sortN_perm N).mem_iff.mp (List.mem_filter.mp h).1
def tsH (ns : List Int) : List (List Nat × List Nat) := (NN ns).map fun n => (wd n ++ [46], [])
def tsT (ns : List Int) : List (List Nat × List Nat) := (BN ns).map fun n => ([], 46 :: wd n)
theorem wd46 (m : Nat) : ∀ n ∈ wd m, n ≠ 46 := fun n hn => by have := wd_let m n hn; omega
theorem getD_map {α β : Type} (f : α → β) (l : List α) (d : α) (e : β) (i : Nat) (hi : i < l.length) : (l.map f).getD i e = f (l.getD i d) := by simp [hi]
theorem tk_heads (ns : List Int) (i k : Nat) (hi : i < k) (hk : k < ((NN ns).map wd).length) : tkOf ((NN ns).map wd) (tsH ns) i k = preB (((NN ns).map wd).getD i []) (((NN ns).map wd).getD k []) := by
  have hlt := ris_get (NN_ris ns) hi hk
  rw [List.length_map] at hk
  have hi' : i < (NN ns).length := by omega
  unfold tkOf tsH
  rw [getD_map _ _ 0 _ i hi', getD_map _ _ 0 _ i hi', getD_map _ _ 0 _ k hk] at *
  rw [takes_head _ _ (wd46 _)]
  rw [Bool.eq_iff_iff, Bool.and_eq_true, decide_eq_true_eq]
  refine ⟨fun h => h.2, fun h => ⟨?_, h⟩⟩
  unfold preB at h
  have h := of_decide_eq_true h
  have h2 := h.length_le
  by_cases q : (wd ((NN ns).getD i 0)).length = (wd ((NN ns).getD k 0)).length
  · rw [h.eq_of_length q] at hlt
    exact absurd hlt (ll_irr _)
  · omega
theorem tk_tails (ns : List Int) (i k : Nat) (hi : i < k) (hk : k < (RR ns).length) : tkOf ((BN ns).map wd) (tsT ns) i k = preB ((RR ns).getD i []) ((RR ns).getD k []) := by
  have hlt := ris_get (RR_ris ns) hi hk
  have hlen : (RR ns).length = (BN ns).length := by unfold BN; simp
  rw [hlen] at hk
  have hi' : i < (BN ns).length := by omega
  rw [RR_BN] at *
  unfold tkOf tsT
  rw [getD_map _ _ 0 _ i hi', getD_map _ _ 0 _ k hk, getD_map _ _ 0 _ i hi', getD_map _ _ 0 _ k hk] at *
  rw [takes_tail _ _ (wd46 _)]
  rw [Bool.eq_iff_iff, Bool.and_eq_true, decide_eq_true_eq]
  refine ⟨fun h => h.2, fun h => ⟨?_, h⟩⟩
  unfold preB at h
  have h := of_decide_eq_true h
  have h2 := h.length_le
  rw [List.length_reverse, List.length_reverse] at h2
  by_cases q : (wd ((BN ns).getD i 0)).length = (wd ((BN ns).getD k 0)).length
  · rw [h.eq_of_length (by simpa using q)] at hlt
    exact absurd hlt (ll_irr _)
  · omega
/-- the first climb's piles -/
theorem above_eq (ns : List Int) : (climb (tkOf ((NN ns).map wd) (tsH ns)) ((NN ns).map wd).length).map (fun l => l.map fun i => ((NN ns).map wd).getD i []) = (linesL ns).map fun l => l.map wd := by
  have h := climb_words _ (NN_ris ns) (tkOf ((NN ns).map wd) (tsH ns)) (tk_heads ns) id
  simp only [id] at h
  rw [h]
  unfold linesL
  rw [List.map_map, List.map_map]
  apply List.map_congr_left
  intro n hn
  simp only [Function.comp]
  rw [List.map_id]
  exact (heads_words (NN_lt ns) (NN_ris ns) hn).symm
/-- the second climb's piles -/
theorem below_eq (ns : List Int) : (climb (tkOf ((BN ns).map wd) (tsT ns)) ((BN ns).map wd).length).map (fun l => l.map fun i => ((BN ns).map wd).getD i []) = (ropesL ns).map fun l => l.map wd := by
  have hlen : (RR ns).length = (BN ns).length := by unfold BN; simp
  have h := climb_words (RR ns) (RR_ris ns) (tkOf ((BN ns).map wd) (tsT ns)) (tk_tails ns) List.reverse
  have e1 : ∀ i, ((BN ns).map wd).getD i [] = ((RR ns).getD i []).reverse := fun i => by
    rw [RR_BN]
    by_cases hi : i < (BN ns).length
    · rw [getD_map _ _ 0 _ i hi, getD_map _ _ 0 _ i hi, List.reverse_reverse]
    · simp [List.getD_eq_getElem?_getD, Nat.le_of_not_lt hi]
  rw [List.length_map, ← hlen]
  simp only [e1]
  rw [h]
  unfold ropesL
  conv => lhs; rw [RR_BN]
  rw [List.map_map, List.map_map]
  apply List.map_congr_left
  intro n hn
  simp only [Function.comp]
  rw [← RR_BN, ← tails_words (NN_nodup ns) (RR_ris ns) (mem_RR ns) ((mem_BN ns n).mp hn), List.map_map]
  apply List.map_congr_left
  intro m _
  simp
/-- what the differences tell -/
theorem dif_mem {α : Type} [DecidableEq α] (x y : List α) : dif x y = x.filter fun a => !decide (a ∈ y) := by
  unfold dif
  apply List.filter_congr
  intro a _
  rw [Bool.eq_iff_iff]
  simp
theorem dif_bare {N : List Nat} {ls : List (List Nat)} (hs : ∀ l ∈ ls, ∀ a ∈ l, a ∈ N) : dif (N.map wd) (inOrd ((ls.flatMap id).map wd)) = (bareL N ls).map wd ∧ dif (inOrd ((ls.flatMap id).map wd)) (N.map wd) = [] := by
  have hm : ∀ n, wd n ∈ inOrd ((ls.flatMap id).map wd) ↔ ∃ l ∈ ls, n ∈ l := fun n => by
    rw [mem_inOrd, List.mem_map]
    constructor
    · rintro ⟨m, hm, e⟩
      rw [← wd_inj e]
      obtain ⟨l, h1, h2⟩ := List.mem_flatMap.mp hm
      exact ⟨l, h1, h2⟩
    · rintro ⟨l, h1, h2⟩
      exact ⟨n, List.mem_flatMap.mpr ⟨l, h1, h2⟩, rfl⟩
  rw [dif_mem, dif_mem]
  constructor
  · unfold bareL
    rw [List.filter_map]
    congr 1
    apply List.filter_congr
    intro n _
    rw [Bool.eq_iff_iff]
    simp only [Function.comp, Bool.not_eq_true', List.isEmpty_iff, List.filter_eq_nil_iff, List.contains_iff_mem, decide_eq_false_iff_not]
    rw [hm]
    exact ⟨fun h l hl hn => h ⟨l, hl, hn⟩, fun h ⟨l, hl, hn⟩ => h l hl hn⟩
  · rw [List.filter_eq_nil_iff]
    intro x hx
    rw [mem_inOrd] at hx
    obtain ⟨m, hm, rfl⟩ := List.mem_map.mp hx
    obtain ⟨l, h1, h2⟩ := List.mem_flatMap.mp hm
    have : wd m ∈ N.map wd := List.mem_map_of_mem (hs l h1 m h2)
    simp [this]
theorem dif_map (a b : List Nat) : dif (a.map wd) (b.map wd) = (dif a b).map wd := by
  rw [dif_mem, dif_mem, List.filter_map]
  congr 1
  apply List.filter_congr
  intro n _
  rw [Bool.eq_iff_iff]
  simp only [Function.comp, Bool.not_eq_true', decide_eq_false_iff_not, List.mem_map]
  constructor
  · intro h q; exact h ⟨n, q, rfl⟩
  · rintro h ⟨m, hm, e⟩; exact h (wd_inj e ▸ hm)
theorem bare_ris {N : List Nat} (h : Ris (N.map wd)) (ls : List (List Nat)) : Ris ((bareL N ls).map wd) := h.sublist (List.filter_sublist.map wd)
end Mine

set_option maxRecDepth 100000
set_option autoImplicit false
set_option linter.unusedVariables false
set_option linter.unusedSectionVars false
set_option maxHeartbeats 2000000
namespace Mine
open PySem PySem.W PySem.Calls PyProof.Rows

theorem S_app (a b : List Nat) : S a ++ S b = S (a ++ b) := by
  show (⟨a.toArray ++ b.toArray⟩ : Str) = ⟨(a ++ b).toArray⟩
  congr 1; simp
theorem op_addS {c : Cfg} {a b : List Nat} (hsz : a.length + b.length ≤ 100000) : OpF c .Add (.str (S a)) (.str (S b)) (.str (S (a ++ b))) := by
  rw [← S_app]
  exact op_adds (by rw [sizeLine_lit]; show a.length + b.length ≤ _; omega)
def lawC (X : GCtx) : Cfg := ⟨X, 20, (dfn pgm 29).scope, ownCells (dfn pgm 29).scope, true, true⟩
abbrev WD (l : List Nat) : List D := l.map eW
theorem SL_WD (l : List Nat) : SL (l.map wd) = WD l := by simp [eW]
theorem lt20 {n : Nat} (h : n < 16 ^ 4) : n < 2 ^ 20 := by omega
def lawG1 (ns : List Int) : Gam := [("numbers", .d (.list (NL (NN ns)))), ("row", .d (.list (WD (NN ns)))), ("back", .d (.list (WD (BN ns)))), ("heads", .d (.list (TL (tsH ns)))), ("tails", .d (.list (TL (tsT ns))))]
theorem pat_head (n : Nat) : okPat (wd n ++ [63, 42]) := fun m hm => by
  rcases List.mem_append.mp hm with hm | hm
  · exact .inr (.inr (wd_let n m hm))
  · simp at hm; omega
theorem pat_tail (n : Nat) : okPat (42 :: 63 :: wd n) := fun m hm => by
  rcases List.mem_cons.mp hm with rfl | hm
  · exact .inl rfl
  · rcases List.mem_cons.mp hm with rfl | hm
    · exact .inr (.inl rfl)
    · exact .inr (.inr (wd_let n m hm))
theorem wd_ok (n : Nat) : ∀ m ∈ wd n, m ≠ 42 ∧ m ≠ 63 := fun m hm => by have := wd_let n m hm; omega
theorem BN_lt (ns : List Int) : ∀ n ∈ BN ns, n < 16 ^ 4 := fun n hn => NN_lt ns n ((mem_BN ns n).mp hn)
theorem law_a {X : GCtx} (I : IsX X) (ht : ∀ h, X.tm h → TM X h) (ns : List Int) (hz : ns.length ≤ 63) {P : Post} (h : Exs (lawC X) (lawG1 ns) [] ((dfn pgm 29).body.drop 5) P) : Exs (lawC X) [("script", .arg ns)] [] (dfn pgm 29).body P := by
  have hrl := rowsOf_len ns
  have hnl := NN_len ns
  have hbl := BN_len ns
  refine exs_cons (ex_assign (ev_call (.cons (ev_call_arg (lk rfl) (sp_rows I ns hz) (nle rfl) rfl) .nil) (sp_numbers I (rowsOf ns) (by omega) (rowsOf_lt ns) (pairs2 ns)) (nle rfl) rfl) (.inr (show _ ∈ ownCells (dfn pgm 29).scope by decide +kernel)) ?_)
  refine exs_cons (ex_assign (evf_eq (ev_call (.cons (evf_eq (ev_compY (fun n : Nat => D.int n) (fun n => D.str (S (wd n))) (rowsOf ns) [] (evi_list (ev_call_arg (lk rfl) (sp_rows I ns hz) (nle rfl) rfl)).weak (csc rfl (by decide +kernel) rfl) (.inl rfl) (by omega) cs_nil (fun n hn => ev_call (.cons (ev_nm rfl) .nil) (sp_word I n (lt20 (rowsOf_lt ns n hn))) (nle rfl) rfl)) (show _ = D.list (SL ((rowsOf ns).map wd)) by simp)) .nil) (sp_in_order I ((rowsOf ns).map wd) (by simp; omega)) (nle rfl) rfl)
    (show _ = D.list (WD (NN ns)) by rw [ord_nums _ (rowsOf_lt ns), SL_WD]; rfl)) (.inr (show _ ∈ ownCells (dfn pgm 29).scope by decide +kernel)) ?_)
  have hRl : (RR ns).length ≤ 11 := by have : (BN ns).length = (RR ns).length := by unfold BN; simp
                                       omega
  have hw4 : ∀ n ∈ NN ns, (wd n).length ≤ 4 := fun n hn => len4 (NN_lt ns n hn)
  refine exs_cons (ex_assign_compC (evf_eq (ev_compY (fun n : Nat => D.str (S (rwd n))) (fun n => D.str (S (rwd n).reverse)) (BN ns) [] (evi_list (evf_eq (ev_call (.cons (evf_eq (ev_compY eW (fun n => D.str (S (rwd n))) (NN ns) [] (evi_list (ev_nm rfl)).weak (csc rfl (by decide +kernel) rfl) (.inl rfl) (by omega) cs_nil (fun n hn => ev_rev_str (ev_nm rfl).ev (ev_neg ev_int.ev).ev (by have := hw4 n hn; omega))) (show _ = D.list (SL ((NN ns).map rwd)) by simp)) .nil) (sp_in_order I ((NN ns).map rwd) (by simp; omega)) (nle rfl) rfl)
    (show D.list (SL (RR ns)) = D.list ((BN ns).map fun n : Nat => D.str (S (rwd n))) by rw [RR_BN]; simp))).weak (csc rfl (by decide +kernel) rfl) (.inl rfl) (by omega) cs_nil (fun n hn => ev_rev_str (ev_nm rfl).ev (ev_neg ev_int.ev).ev (by have := hw4 n ((mem_BN ns n).mp hn); rw [List.length_reverse]; omega)))
    (show _ = D.list (WD (BN ns)) by simp [eW])) (show Str.ofString "back" ∈ ownCells (dfn pgm 29).scope by decide +kernel) rfl ?_)
  refine exs_cons (ex_assign_compC (evf_eq (ev_compY eW (fun n => D.str (S (text (prt (wd n ++ [63, 42]))))) (NN ns) [] (evi_list (ev_nm rfl)).weak (csc rfl (by decide +kernel) rfl) (.inl rfl) (by omega) cs_nil (fun n hn => ev_call (.cons (ev_bin (ev_nm rfl).ev (ev_lit [63, 42] rfl).ev (op_addS (by have := hw4 n hn; simp; omega))) .nil) (sp_translate I ht (wd n ++ [63, 42]) (pat_head n) (by have := hw4 n hn; simp; omega)) (nle rfl) rfl))
    (show _ = D.list (TL (tsH ns)) by unfold tsH; rw [TL, List.map_map]; congr 1; exact List.map_congr_left fun n _ => by rw [text_head _ (wd_ok n)]; rfl)) (show Str.ofString "heads" ∈ ownCells (dfn pgm 29).scope by decide +kernel) rfl ?_)
  refine exs_cons (ex_assign_compC (evf_eq (ev_compY eW (fun n => D.str (S (text (prt (42 :: 63 :: wd n))))) (BN ns) [] (evi_list (ev_nm rfl)).weak (csc rfl (by decide +kernel) rfl) (.inl rfl) (by omega) cs_nil (fun n hn => ev_call (.cons (evf_eq (ev_bin (ev_lit [42, 63] rfl).ev (ev_nm rfl).ev (op_addS (b := wd n) (by have := hw4 n ((mem_BN ns n).mp hn); simp; omega))) (show _ = D.str (S (42 :: 63 :: wd n)) from rfl)) .nil) (sp_translate I ht (42 :: 63 :: wd n) (pat_tail n) (by have := hw4 n ((mem_BN ns n).mp hn); simp; omega)) (nle rfl) rfl))
    (show _ = D.list (TL (tsT ns)) by unfold tsT; rw [TL, List.map_map]; congr 1; exact List.map_congr_left fun n _ => by rw [text_tail _ (wd_ok n)]; rfl)) (show Str.ofString "tails" ∈ ownCells (dfn pgm 29).scope by decide +kernel) rfl ?_)
  exact exs_weak (Γ₀ := lawG1 ns) (sub_cons rfl (sub_cons rfl (sub_cons rfl (sub_cons rfl (sub_cons rfl sub_nil))))) h
end Mine

set_option maxRecDepth 100000
set_option autoImplicit false
set_option linter.unusedVariables false
set_option linter.unusedSectionVars false
set_option maxHeartbeats 2000000
namespace Mine
open PySem PySem.W PySem.Calls PyProof.Rows

theorem BN_same (ns : List Int) : (BN ns).length = (NN ns).length := by
  have h1 : (BN ns).Nodup := by
    have := ris_nodup (RR_ris ns)
    rw [RR_BN] at this
    exact List.Pairwise.of_map rwd (fun a b h e => h (by rw [e])) this
  exact ((List.perm_ext_iff_of_nodup h1 (NN_nodup ns)).mpr (mem_BN ns)).length_eq
theorem tsH_ok (ns : List Int) : ∀ t ∈ tsH ns, t.1.length ≤ 100 ∧ okPt t.1 ∧ t.2.length ≤ 100 ∧ okPt t.2 := fun t ht => by
  obtain ⟨n, hn, rfl⟩ := List.mem_map.mp ht
  have h4 := len4 (NN_lt ns n hn)
  refine ⟨by simp; omega, fun m hm => ?_, by simp, fun m hm => by cases hm⟩
  rcases List.mem_append.mp hm with hm | hm
  · exact .inr (wd_let n m hm)
  · exact .inl (List.mem_singleton.mp hm)
theorem tsT_ok (ns : List Int) : ∀ t ∈ tsT ns, t.1.length ≤ 100 ∧ okPt t.1 ∧ t.2.length ≤ 100 ∧ okPt t.2 := fun t ht => by
  obtain ⟨n, hn, rfl⟩ := List.mem_map.mp ht
  have h4 := len4 (BN_lt ns n hn)
  refine ⟨by simp, (fun m hm => by cases hm), by simp; omega, fun m hm => ?_⟩
  rcases List.mem_cons.mp hm with hm | hm
  · exact .inl hm
  · exact .inr (wd_let n m hm)
theorem W_ok {l : List Nat} (h : ∀ n ∈ l, n < 16 ^ 4) : ∀ w ∈ l.map wd, w.length ≤ 100 ∧ okPt w := fun w hw => by
  obtain ⟨n, hn, rfl⟩ := List.mem_map.mp hw
  have h4 := len4 (h n hn)
  exact ⟨by omega, fun m hm => .inr (wd_let n m hm)⟩
theorem WL_WD {ws : List (List Nat)} {c : List (List Nat)} {ls : List (List Nat)} (h : c.map (fun l => l.map fun i => ws.getD i []) = ls.map fun l => l.map wd) : WL ws c = ls.map fun l => D.list (WD l) := by
  have e : WL ws c = (c.map (fun l => l.map fun i => ws.getD i [])).map fun l => D.list (SL l) := by simp
  rw [e, h, List.map_map]
  exact List.map_congr_left fun l _ => by simp only [Function.comp]; rw [SL_WD]
def lawG2 (ns : List Int) : Gam := [("numbers", .d (.list (NL (NN ns)))), ("row", .d (.list (WD (NN ns)))), ("back", .d (.list (WD (BN ns)))),
  ("above", .d (.list ((linesL ns).map fun l => D.list (WD l)))), ("below", .d (.list ((ropesL ns).map fun l => D.list (WD l)))), ("lines", .d (.list ((linesL ns).map fun l => D.list (NL l)))), ("ropes", .d (.list ((ropesL ns).map fun l => D.list (NL l))))]
theorem LL_ILL (ls : List (List Nat)) : (ls.map fun l => D.list (NL l)) = ILL (ls.map fun l => l.map fun n : Nat => (n : Int)) := by simp [ILL, NL_IL]
theorem lines_ok (ns : List Int) : ∀ l ∈ linesL ns, l.length ≤ 11 ∧ ∀ n ∈ l, n ∈ NN ns := fun l hl => by
  obtain ⟨m, hm, rfl⟩ := List.mem_map.mp hl
  refine ⟨?_, heads_sub m _⟩
  have := List.length_filter_le (fun one => one != m && (cutsOf m).contains one) (sortN (NN ns))
  rw [(sortN_perm _).length_eq] at this
  have := NN_len ns
  unfold headsL; omega
theorem ropes_ok (ns : List Int) : ∀ l ∈ ropesL ns, l.length ≤ 11 ∧ ∀ n ∈ l, n ∈ NN ns := fun l hl => by
  obtain ⟨m, hm, rfl⟩ := List.mem_map.mp hl
  refine ⟨?_, tails_sub m _⟩
  have := List.length_filter_le (fun one => one != m && m % 16 ^ (hx one).length == one) (sortN (NN ns))
  rw [(sortN_perm _).length_eq] at this
  have := NN_len ns
  unfold tailsL; omega
theorem law_b {X : GCtx} (I : IsX X) (ns : List Int) {P : Post} (h : Exs (lawC X) (lawG2 ns) [] ((dfn pgm 29).body.drop 13) P) : Exs (lawC X) (lawG1 ns) [] ((dfn pgm 29).body.drop 5) P := by
  have hnl := NN_len ns
  have hbl := BN_len ns
  have hsame := BN_same ns
  have hlt := NN_lt ns
  have hltB := BN_lt ns
  have hWl : ((NN ns).map wd).length = (NN ns).length := by simp
  have hBl : ((BN ns).map wd).length = (BN ns).length := by simp
  have hHl : (tsH ns).length = (NN ns).length := by simp [tsH]
  have hTl : (tsT ns).length = (BN ns).length := by simp [tsT]
  refine exs_cons (ex_if (x := false) (evt_eq (et_cmp (ev_eq (ev_compX encz encz (List.range (NN ns).length) (fun _ => false) [("heads", .d (.list (TL (tsH ns)))), ("row", .d (.list (WD (NN ns)))), ("tails", .d (.list (TL (tsT ns)))), ("back", .d (.list (WD (BN ns))))]
      (evi_eq (evi_range1 (ev_b1 (ev_nm rfl).ev (b_len_list (by simp; omega)) rfl (I.bm (k := 3) rfl) (by decide +kernel)).ev (by simp; omega) (by omega) rfl (I.bm (k := 6) rfl)).weak (by rw [Int.toNat_natCast, List.length_map]; rfl)) (csc rfl (by decide +kernel) rfl) (.inl rfl) (by simp; omega)
      (cs_cons rfl rfl (cs_cons rfl rfl (cs_cons rfl rfl (cs_cons rfl rfl cs_nil)))) (fun k hk => ?_) (fun k _ q => by cases q)).ev (d' := .list (IL [])) (by simp)) (ev_eq (ev_list .nil).ev (d' := .list (IL [])) rfl) cmp_neI) rfl) (fun h => nomatch h) (fun _ => exs_nil ?_))
  · have hk : k < (NN ns).length := List.mem_range.mp hk
    have hkB : k < (BN ns).length := by omega
    have h4 := len4 (hlt (NN ns)[k] (List.getElem_mem hk))
    have h4B := len4 (hltB (BN ns)[k] (List.getElem_mem hkB))
    have e0 : (0 + (k : Int)).toNat = k := by omega
    refine evifs_one (evt_eq (et_or (a := false) (b := false) (evt_eq (et_of (ev_call (.cons (ev_item (d := .str (S (txt2 (wd (NN ns)[k] ++ [46]) []))) (ev_nm rfl).ev (ev_nm rfl).ev (by omega) (by omega) (by rw [e0]; simp [tsH, hk])) (.cons (ev_item (d := eW (NN ns)[k]) (ev_nm rfl).ev (ev_nm rfl).ev (by omega) (by omega) (by rw [e0]; simp [hk])) .nil)) (sp_takes2 I (wd (NN ns)[k] ++ [46]) [] (wd (NN ns)[k]) (by simp; omega) (by simp) (by omega) ((tsH_ok ns _ (List.mem_map_of_mem (List.getElem_mem hk))).2.1) (fun m hm => by cases hm) (fun m hm => .inr (wd_let _ m hm))) (nle rfl) rfl).ev (by exact rfl)) ?_)
      (fun _ => evt_eq (et_of (ev_call (.cons (ev_item (d := .str (S (txt2 [] (46 :: wd (BN ns)[k])))) (ev_nm rfl).ev (ev_nm rfl).ev (by omega) (by omega) (by rw [e0]; simp [tsT, hkB])) (.cons (ev_item (d := eW (BN ns)[k]) (ev_nm rfl).ev (ev_nm rfl).ev (by omega) (by omega) (by rw [e0]; simp [hkB])) .nil)) (sp_takes2 I [] (46 :: wd (BN ns)[k]) (wd (BN ns)[k]) (by simp) (by simp; omega) (by omega) (fun m hm => by cases hm) ((tsT_ok ns _ (List.mem_map_of_mem (List.getElem_mem hkB))).2.2.2) (fun m hm => .inr (wd_let _ m hm))) (nle rfl) rfl).ev (by exact rfl)) ?_)) rfl)
    · rw [takes_head _ _ (wd46 _)]; simp
    · rw [takes_tail _ _ (wd46 _)]; simp
  refine exs_cons (ex_if (x := false) (evt_eq (et_cmp (ev_eq (ev_compY (c := lawC X) eW (fun n : Nat => D.int n) (NN ns) [] (evi_list (ev_nm rfl)).weak (csc rfl (by decide +kernel) rfl) (.inl rfl) (by omega) cs_nil (fun n hn => ev_call (.cons (ev_nm rfl) .nil) (sp_read I n (lt20 (hlt n hn))) (nle rfl) rfl)).ev (d' := .list (IL ((NN ns).map fun n : Nat => (n : Int)))) (by simp [IL])) (ev_eq (ev_nm rfl).ev (d' := .list (IL ((NN ns).map fun n : Nat => (n : Int)))) (by rw [NL_IL])) cmp_neI) (by simp)) (fun h => nomatch h) (fun _ => exs_nil ?_))
  refine exs_cons (ex_assign (evf_eq (ev_call (.cons (evf_eq (ev_nm rfl) (show _ = D.list (SL ((NN ns).map wd)) by rw [SL_WD])) (.cons (ev_nm rfl) .nil)) (sp_climb I ((NN ns).map wd) (tsH ns) (by omega) (by omega) (W_ok hlt) (tsH_ok ns)) (nle rfl) rfl) (congrArg D.list (WL_WD (above_eq ns)))) (.inl rfl) ?_)
  refine exs_cons (ex_assign (evf_eq (ev_call (.cons (evf_eq (ev_nm rfl) (show _ = D.list (SL ((BN ns).map wd)) by rw [SL_WD])) (.cons (ev_nm rfl) .nil)) (sp_climb I ((BN ns).map wd) (tsT ns) (by omega) (by omega) (W_ok hltB) (tsT_ok ns)) (nle rfl) rfl) (congrArg D.list (WL_WD (below_eq ns)))) (.inl rfl) ?_)
  refine exs_cons (ex_assign_compY (fun n : Nat => D.int n) (fun n => D.list (NL (headsL n (NN ns)))) (NN ns) [("numbers", .d (.list (NL (NN ns))))] (evi_list (ev_nm rfl)).weak (csc rfl (by decide +kernel) rfl) (.inl rfl) (by omega) (cs_cons rfl rfl cs_nil) (fun n hn => ev_call (.cons (ev_nm rfl) (.cons (ev_nm rfl) .nil)) (sp_heads I n (NN ns) (by omega)) (nle rfl) rfl) rfl ?_)
  refine exs_cons (ex_assign_compY eW (fun n => D.list (NL (tailsL n (NN ns)))) (BN ns) [("numbers", .d (.list (NL (NN ns))))] (evi_list (ev_nm rfl)).weak (csc rfl (by decide +kernel) rfl) (.inl rfl) (by omega) (cs_cons rfl rfl cs_nil) (fun n hn => ev_call (.cons (ev_call (.cons (ev_nm rfl) .nil) (sp_read I n (lt20 (hltB n hn))) (nle rfl) rfl) (.cons (ev_nm rfl) .nil)) (sp_tails I n (NN ns) (by omega) (fun m hm => lt20 (hlt m hm))) (nle rfl) rfl) rfl ?_)
  have eLi : ((NN ns).map fun n => D.list (NL (headsL n (NN ns)))) = (linesL ns).map fun l => D.list (NL l) := by simp [linesL]
  have eRo : ((BN ns).map fun n => D.list (NL (tailsL n (NN ns)))) = (ropesL ns).map fun l => D.list (NL l) := by simp [ropesL]
  have hll : (linesL ns).length ≤ 11 := by simp [linesL]; omega
  have hrl : (ropesL ns).length ≤ 11 := by simp [ropesL]; omega
  rw [eLi, eRo]
  refine exs_cons (ex_if (x := false) (evt_eq (et_cmp (ev_eq (ev_compY (c := lawC X) (fun l : List Nat => D.list (WD l)) (fun l : List Nat => D.list (NL l)) (linesL ns) [] (evi_list (ev_nm rfl)).weak (csc rfl (by decide +kernel) rfl) (.inl rfl) (by omega) cs_nil (fun l hl => ev_compY eW (fun n : Nat => D.int n) l [] (evi_list (ev_nm rfl)).weak (csc rfl (by decide +kernel) rfl) (.inl rfl) (by have := (lines_ok ns l hl).1; omega) cs_nil (fun n hn => ev_call (.cons (ev_nm rfl) .nil) (sp_read I n (lt20 (hlt n ((lines_ok ns l hl).2 n hn)))) (nle rfl) rfl))).ev
    (congrArg D.list (LL_ILL _))) (ev_eq (ev_nm rfl).ev (congrArg D.list (LL_ILL _))) cmp_neII) (by simp)) (fun h => nomatch h) (fun _ => exs_nil ?_))
  refine exs_cons (ex_if (x := false) (evt_eq (et_cmp (ev_eq (ev_compY (c := lawC X) (fun l : List Nat => D.list (WD l)) (fun l : List Nat => D.list (NL l)) (ropesL ns) [] (evi_list (ev_nm rfl)).weak (csc rfl (by decide +kernel) rfl) (.inl rfl) (by omega) cs_nil (fun l hl => ev_compY eW (fun n : Nat => D.int n) l [] (evi_list (ev_nm rfl)).weak (csc rfl (by decide +kernel) rfl) (.inl rfl) (by have := (ropes_ok ns l hl).1; omega) cs_nil (fun n hn => ev_call (.cons (ev_nm rfl) .nil) (sp_read I n (lt20 (hlt n ((ropes_ok ns l hl).2 n hn)))) (nle rfl) rfl))).ev
    (congrArg D.list (LL_ILL _))) (ev_eq (ev_nm rfl).ev (congrArg D.list (LL_ILL _))) cmp_neII) (by simp)) (fun h => nomatch h) (fun _ => exs_nil ?_))
  exact exs_weak (Γ₀ := lawG2 ns) (sub_cons rfl (sub_cons rfl (sub_cons rfl (sub_cons rfl (sub_cons rfl (sub_cons rfl (sub_cons rfl sub_nil))))))) h
end Mine

set_option maxRecDepth 100000
set_option autoImplicit false
set_option linter.unusedVariables false
set_option linter.unusedSectionVars false
set_option maxHeartbeats 2000000
namespace Mine
open PySem PySem.W PySem.Calls PyProof.Rows

abbrev eS (w : List Nat) : D := .str (S w)
theorem ord_W : Ord eS (fun a b : List Nat => decide (a < b)) where
  clt := fun c a b => cmp_lts
  cgt := fun c a b => cmp_gts
  ceq := fun c a b hne => by have := cmp_eqS (c := c) (a := a) (b := b); rwa [decide_eq_false hne] at this
  irr := fun a => by simpa using ll_irr a
  tr := fun a b c h1 h2 => by simp only [decide_eq_true_eq] at *; exact ll_tr h1 h2
  tot := fun a b h1 h2 => by
    simp only [decide_eq_false_iff_not] at *
    rcases ll_tri a b with h | h | h
    · exact absurd h h1
    · exact h
    · exact absurd h h2
theorem ris_pw {l : List (List Nat)} (h : Ris l) : l.Pairwise fun a b => decide (a < b) = true := h.imp fun h => by simpa using h
theorem inj_WDl : Inj fun l : List Nat => D.list (WD l) := fun a b h => by
  have h1 : WD a = WD b := by injection h
  clear h
  induction a generalizing b with
  | nil => cases b with
    | nil => rfl
    | cons => simp [WD] at h1
  | cons x r ih => cases b with
    | nil => simp [WD] at h1
    | cons y t =>
      simp only [WD, List.map_cons, List.cons.injEq] at h1
      rw [inj_eW _ _ h1.1, ih t h1.2]
def bareN (ns : List Int) : List Nat := bareL (NN ns) (linesL ns)
def freeN (ns : List Int) : List Nat := bareL (NN ns) (ropesL ns)
theorem bareN_le (ns : List Int) : (bareN ns).length ≤ 11 ∧ ∀ n ∈ bareN ns, n < 16 ^ 4 := ⟨Nat.le_trans (List.length_filter_le _ _) (NN_len ns), fun n hn => NN_lt ns n (List.mem_filter.mp hn).1⟩
theorem freeN_le (ns : List Int) : (freeN ns).length ≤ 11 ∧ ∀ n ∈ freeN ns, n < 16 ^ 4 := ⟨Nat.le_trans (List.length_filter_le _ _) (NN_len ns), fun n hn => NN_lt ns n (List.mem_filter.mp hn).1⟩
def lawG3 (ns : List Int) : Gam := [("numbers", .d (.list (NL (NN ns)))), ("lines", .d (.list ((linesL ns).map fun l => D.list (NL l)))), ("ropes", .d (.list ((ropesL ns).map fun l => D.list (NL l)))),
  ("tops", .d (.tup [.list (WD (bareN ns)), .list (WD [])])), ("ends", .d (.tup [.list (WD (freeN ns)), .list (WD [])])), ("both", .d (.tup [.list (WD (dif (bareN ns) (freeN ns))), .list (WD (dif (freeN ns) (bareN ns)))]))]
theorem eS_wd (l : List Nat) : (l.map wd).map eS = WD l := by simp [eW]
theorem flat_le {ls : List (List Nat)} (h1 : ls.length ≤ 11) (h2 : ∀ l ∈ ls, l.length ≤ 11) : (ls.flatMap id).length ≤ 121 := by
  have : ∀ ls : List (List Nat), (∀ l ∈ ls, l.length ≤ 11) → (ls.flatMap id).length ≤ 11 * ls.length := by
    intro ls
    induction ls with
    | nil => intro _; simp
    | cons a t ih =>
      intro h
      have h1 := ih fun l hl => h l (by simp [hl])
      have h2 := h a (by simp)
      rw [List.flatMap_cons, List.length_append, List.length_cons]
      simp only [id]; omega
  have := this ls h2
  omega
theorem law_c {X : GCtx} (I : IsX X) (ns : List Int) {P : Post} (h : Exs (lawC X) (lawG3 ns) [] ((dfn pgm 29).body.drop 16) P) : Exs (lawC X) (lawG2 ns) [] ((dfn pgm 29).body.drop 13) P := by
  have hnl := NN_len ns
  have hbl := BN_len ns
  have hll : (linesL ns).length ≤ 11 := by simp [linesL]; omega
  have hrl : (ropesL ns).length ≤ 11 := by simp [ropesL]; omega
  have hfl := flat_le hll fun l hl => (lines_ok ns l hl).1
  have hfr := flat_le hrl fun l hl => (ropes_ok ns l hl).1
  have hol := ord_len (((linesL ns).flatMap id).map wd) []
  have hor := ord_len (((ropesL ns).flatMap id).map wd) []
  rw [List.length_map, List.length_nil] at hol hor
  have dl := dif_bare (N := NN ns) fun l hl => (lines_ok ns l hl).2
  have dr := dif_bare (N := NN ns) fun l hl => (ropes_ok ns l hl).2
  refine exs_cons (ex_assign_sld I rfl (nle rfl) ord_W (l1 := (NN ns).map wd) (l2 := inOrd (((linesL ns).flatMap id).map wd)) (evf_eq (ev_nm rfl) (show _ = D.list (((NN ns).map wd).map eS) by rw [eS_wd]))
    (ev_call (.cons (evf_eq (ev_comp2L (fun l : List Nat => D.list (WD l)) eW eW inj_WDl inj_eW (linesL ns) (fun l => l) (fun _ n => n) [] (evi_list (ev_nm rfl)).weak (csc rfl (by decide +kernel) rfl) (.inl rfl) (.inl rfl) (by decide) (by show ((linesL ns).flatMap id).length ≤ _; omega) cs_nil (fun l _ _ => evi_list (ev_nm rfl)) (fun l _ n _ _ => ev_nm rfl))
      (show _ = D.list (SL (((linesL ns).flatMap id).map wd)) by rw [SL_WD]; simp only [List.map_id']; rfl)) .nil) (sp_in_order I (((linesL ns).flatMap id).map wd) (by rw [List.length_map]; omega)) (nle rfl) rfl)
    (ris_pw (NN_ris ns)) (ris_pw (inOrd_ris _)) (by rw [List.length_map]; omega) (by unfold inOrd; omega) (.inl rfl) rfl ?_)
  rw [dl.1, dl.2, eS_wd]
  refine exs_cons (ex_assign_sld I rfl (nle rfl) ord_W (l1 := (NN ns).map wd) (l2 := inOrd (((ropesL ns).flatMap id).map wd)) (evf_eq (ev_nm rfl) (show _ = D.list (((NN ns).map wd).map eS) by rw [eS_wd]))
    (ev_call (.cons (evf_eq (ev_comp2L (fun l : List Nat => D.list (WD l)) eW eW inj_WDl inj_eW (ropesL ns) (fun l => l) (fun _ n => n) [] (evi_list (ev_nm rfl)).weak (csc rfl (by decide +kernel) rfl) (.inl rfl) (.inl rfl) (by decide) (by show ((ropesL ns).flatMap id).length ≤ _; omega) cs_nil (fun l _ _ => evi_list (ev_nm rfl)) (fun l _ n _ _ => ev_nm rfl))
      (show _ = D.list (SL (((ropesL ns).flatMap id).map wd)) by rw [SL_WD]; simp only [List.map_id']; rfl)) .nil) (sp_in_order I (((ropesL ns).flatMap id).map wd) (by rw [List.length_map]; omega)) (nle rfl) rfl)
    (ris_pw (NN_ris ns)) (ris_pw (inOrd_ris _)) (by rw [List.length_map]; omega) (by unfold inOrd; omega) (.inl rfl) rfl ?_)
  rw [dr.1, dr.2, eS_wd]
  have hb := (bareN_le ns).1
  have hf := (freeN_le ns).1
  refine exs_cons (ex_assign_sld I rfl (nle rfl) ord_W (l1 := (bareN ns).map wd) (l2 := (freeN ns).map wd) (evf_eq (ev_titem (d := .list (WD (bareN ns))) (ev_nm rfl).ev ev_int.ev (by decide) (by decide) rfl) (show _ = D.list (((bareN ns).map wd).map eS) by rw [eS_wd])) (evf_eq (ev_titem (d := .list (WD (freeN ns))) (ev_nm rfl).ev ev_int.ev (by decide) (by decide) rfl) (show _ = D.list (((freeN ns).map wd).map eS) by rw [eS_wd]))
    (ris_pw (bare_ris (NN_ris ns) _)) (ris_pw (bare_ris (NN_ris ns) _)) (by rw [List.length_map]; omega) (by rw [List.length_map]; omega) (.inl rfl) rfl ?_)
  rw [dif_map, dif_map, eS_wd, eS_wd]
  exact exs_weak (Γ₀ := lawG3 ns) (sub_cons rfl (sub_cons rfl (sub_cons rfl (sub_cons rfl (sub_cons rfl (sub_cons rfl sub_nil)))))) h
theorem filt_dif (a b : List Nat) : a.filter (fun n => !b.contains n) = dif a b := by
  rw [dif_mem]
  exact List.filter_congr fun n _ => by rw [Bool.eq_iff_iff]; simp
def partsL (ns : List Int) : List (List Nat) := [bareN ns, [], freeN ns, [], dif (bareN ns) (freeN ns), dif (freeN ns) (bareN ns)]
theorem parts_ok (ns : List Int) : ∀ l ∈ partsL ns, l.length ≤ 11 ∧ ∀ n ∈ l, n < 16 ^ 4 := fun l hl => by
  have hb := bareN_le ns
  have hf := freeN_le ns
  have h1 : (dif (bareN ns) (freeN ns)).length ≤ 11 ∧ ∀ n ∈ dif (bareN ns) (freeN ns), n < 16 ^ 4 := by
    rw [dif_mem]
    exact ⟨Nat.le_trans (List.length_filter_le _ _) hb.1, fun n hn => hb.2 n (List.mem_filter.mp hn).1⟩
  have h2 : (dif (freeN ns) (bareN ns)).length ≤ 11 ∧ ∀ n ∈ dif (freeN ns) (bareN ns), n < 16 ^ 4 := by
    rw [dif_mem]
    exact ⟨Nat.le_trans (List.length_filter_le _ _) hf.1, fun n hn => hf.2 n (List.mem_filter.mp hn).1⟩
  simp only [partsL, List.mem_cons, List.not_mem_nil, or_false] at hl
  rcases hl with rfl | rfl | rfl | rfl | rfl | rfl
  · exact hb
  · simp
  · exact hf
  · simp
  · exact h1
  · exact h2
theorem law_d {X : GCtx} (I : IsX X) (ns : List Int) : Exs (lawC X) (lawG3 ns) [] ((dfn pgm 29).body.drop 16) (fun o _ _ => o = .ret (.bool true)) := by
  have hnl := NN_len ns
  have hbl := BN_len ns
  have hll : (linesL ns).length ≤ 11 := by simp [linesL]; omega
  have hrl : (ropesL ns).length ≤ 11 := by simp [ropesL]; omega
  have hb := (bareN_le ns).1
  have hf := (freeN_le ns).1
  refine exs_cons (ex_assign (d := .list (NL (bareN ns))) (ev_call (.cons (ev_nm rfl) (.cons (ev_nm rfl) .nil)) (sp_bare I (NN ns) (linesL ns) (by omega) (by omega)) (nle rfl) rfl) (.inr (show _ ∈ ownCells (dfn pgm 29).scope by decide +kernel)) ?_)
  refine exs_cons (ex_assign (d := .list (NL (freeN ns))) (ev_call (.cons (ev_nm rfl) (.cons (ev_nm rfl) .nil)) (sp_bare I (NN ns) (ropesL ns) (by omega) (by omega)) (nle rfl) rfl) (.inr (show _ ∈ ownCells (dfn pgm 29).scope by decide +kernel)) ?_)
  refine exs_cons (ex_assign (ev_list (.cons (ev_nm rfl) (.cons (ev_list .nil) (.cons (ev_nm rfl) (.cons (ev_list .nil)
    (.cons (evf_eq (ev_compX (fun n : Nat => D.int n) (fun n : Nat => D.int n) (bareN ns) (fun n => !(freeN ns).contains n) [("free", .d (.list (NL (freeN ns))))] (evi_list (ev_nm rfl)).weak (csc rfl (by decide +kernel) rfl) (.inl rfl) (by omega) (cs_cons rfl rfl cs_nil) (fun n hn => evifs_one (evt_eq (et_cmp (ev_nm rfl).ev (ev_eq (ev_nm rfl).ev (by rw [NL_IL])) cmp_ninI) (by rw [contains_cast]))) (fun n hn _ => ev_nm rfl)) (show _ = D.list (NL (dif (bareN ns) (freeN ns))) by rw [filt_dif]))
    (.cons (evf_eq (ev_compX (fun n : Nat => D.int n) (fun n : Nat => D.int n) (freeN ns) (fun n => !(bareN ns).contains n) [("bare", .d (.list (NL (bareN ns))))] (evi_list (ev_nm rfl)).weak (csc rfl (by decide +kernel) rfl) (.inl rfl) (by omega) (cs_cons rfl rfl cs_nil) (fun n hn => evifs_one (evt_eq (et_cmp (ev_nm rfl).ev (ev_eq (ev_nm rfl).ev (by rw [NL_IL])) cmp_ninI) (by rw [contains_cast]))) (fun n hn _ => ev_nm rfl)) (show _ = D.list (NL (dif (freeN ns) (bareN ns))) by rw [filt_dif])) .nil))))))) (.inl rfl) ?_)
  refine exs_cons (ex_ret (ev_cmp (ev_eq (ev_compY (c := lawC X) (fun l : List Nat => D.list (WD l)) (fun l : List Nat => D.list (NL l)) (partsL ns) [] ?_ (csc rfl (by decide +kernel) rfl) (.inl rfl) (by simp [partsL]) cs_nil (fun l hl => ?_)).ev
    (congrArg D.list (LL_ILL _))) (ev_eq (ev_nm rfl).ev (show _ = D.list (ILL ((partsL ns).map fun l => l.map fun n : Nat => (n : Int))) by rw [← LL_ILL]; rfl)) cmp_eqII) ?_)
  · have h1 : OpF (lawC X) .Add (.tup [.list (WD (bareN ns)), .list (WD [])]) (.tup [.list (WD (freeN ns)), .list (WD [])]) (.tup [.list (WD (bareN ns)), .list (WD []), .list (WD (freeN ns)), .list (WD [])]) := op_addt (by simp) (by simp) (by simp)
    have h2 : OpF (lawC X) .Add (.tup [.list (WD (bareN ns)), .list (WD []), .list (WD (freeN ns)), .list (WD [])]) (.tup [.list (WD (dif (bareN ns) (freeN ns))), .list (WD (dif (freeN ns) (bareN ns)))]) (.tup ((partsL ns).map fun l : List Nat => D.list (WD l))) := op_addt (by simp) (by simp) (by simp)
    exact evi_tupW (ev_bin (ev_bin (ev_nm rfl).ev (ev_nm rfl).ev h1).ev (ev_nm rfl).ev h2).ev
  · have hl := parts_ok ns l hl
    exact ev_compY eW (fun n : Nat => D.int n) l [] (evi_list (ev_nm rfl)).weak (csc rfl (by decide +kernel) rfl) (.inl rfl) (by omega) cs_nil (fun n hn => ev_call (.cons (ev_nm rfl) .nil) (sp_read I n (lt20 (hl.2 n hn))) (nle rfl) rfl)
  · show Out.ret _ = Out.ret _
    rw [decide_eq_true rfl]
theorem law_all {X : GCtx} (I : IsX X) (ht : ∀ h, X.tm h → TM X h) (ns : List Int) (hz : ns.length ≤ 63) : Exs (lawC X) [("script", .arg ns)] [] (dfn pgm 29).body (fun o _ _ => o = .ret (.bool true)) :=
  law_a I ht ns hz (law_b I ns (law_c I ns (law_d I ns)))
end Mine

set_option maxRecDepth 100000
set_option autoImplicit false
set_option linter.unusedVariables false
namespace Mine
open PySem PySem.W PySem.Calls PyProof.Rows
def GX (w : World) (mg mb : Str → Option Value) : GCtx where
  prog := pgm
  w := w
  mg := mg
  mb := mb
  defs := defsX
  bl := blX
  tm := TM ⟨pgm, w, mg, mb, [], [], fun _ => True, fun _ _ _ x => x⟩
  tmk := fun h h' k ⟨a, h1, h2, f, ⟨o, es, ep, ho, r⟩, h3⟩ => ⟨a, h1, h2, f, ⟨o, es, ep, k _ _ ho, r⟩, h3⟩
theorem law_end {p : Program} {loose : List Str} {mean : ExcName → Option Value} {w : World} {s : Shared} {mg mb : Str → Option Value} {K : Frag} {fa a : Addr} {vs : List Value} {ns : List Int} {Q E : Value → Shared → Prop}
    (T : Top p loose mean mg mb s.heap) (KX : K.In s.heap) (hmg : mg (dfn pgm 29).name = some (.ref fa)) (hL : s.heap.IsList a vs.toArray) (hI : IntsAre vs ns) (hz : ns.length ≤ 63)
    (eR : recsOf p = [2, 5, 8, 10, 11, 13, 14, 16, 17, 18, 19, 20, 21, 22, 23, 24, 25, 26, 27, 28, 29].map (dfn pgm)) (hb : ∀ x ∈ blX, x ≠ Str.ofString "__name__" ∧ x ∉ startupNames ∧ x ∉ loose ∧ x ∉ (recsOf p).map (·.name) ∧ x ∉ (litsOf p).map (·.1) ∧ x ∉ (clssOf p loose).map (·.name))
    (hK : chkK K = true) (hQ : ∀ h' tk, (∀ b o, s.heap.get? b = some o → h'.get? b = some o) → Q (.bool true) { s with heap := h', toks := tk }) : wpAny (model pgm w) callerA (call (.ref fa) [.ref a]) Q E s := by
  obtain ⟨fa', o, pm, code, doc, hm', ho, hd, hc⟩ := T.fn (dfn pgm 29) (by rw [eR]; exact List.mem_map_of_mem (by decide))
  have ef : some (Value.ref fa') = some (.ref fa) := hm'.symm.trans hmg
  cases ef
  exact law_enter (X := GX w mg mb) (dr := dfn pgm 29) (n := 20) (x := "script") ho hd hc (glo_of T (fun d hd => by
    obtain ⟨k, hk, rfl⟩ := List.mem_map.mp (show d ∈ [2, 5, 8, 10, 11, 13, 14, 16, 17, 18, 19, 20, 21, 22, 23, 24, 25, 26, 27, 28].map (dfn pgm) from hd)
    rw [eR]; exact List.mem_map_of_mem (by clear hd; revert k; decide)) hb (tm_chk KX T.g hK)) rfl rfl (by decide) (by decide) hL hI (fun pm code doc v => rfl) rfl (by decide +kernel) (by decide +kernel) (by decide +kernel) rfl rfl rfl (law_all ⟨rfl, rfl⟩ (fun h x => x) ns hz) hQ
end Mine
end

set_option Elab.async false
set_option maxRecDepth 100000
set_option autoImplicit false
set_option linter.unusedVariables false
open PySem PySem.W PyProof.Rows
set_option maxHeartbeats 8000000 in
theorem PySem.Challenge.cw_in0243_02_holds : PySem.Challenge.rw_in0243_02.Holds := by
  w_on
  refine holds_law Mine.said fun said => ?_
  refine holds_open (q := Mine.vw) (loose := Mine.loose) (Xt := Mine.XtL PySem.Challenge.rw_in0243_02.row.toRowW) (XP := XL Mine.vw []) (Yf := Mine.tmHook.obs) (Ya := Mine.tmHook.val) (YP := Mine.tmHook.says) (N := 4164) Mine.left1 Mine.tmHook.of Mine.tmHook.keeps (fun s e => xl_of s (Bool.and_eq_true_iff.mp e).1) XL.keeps (by rfl) (by rfl) (by rfl) (fun s e => recFacts_of (Bool.and_eq_true_iff.mp e).2) (by rfl) said (by decide +kernel) ⟨rfl, rfl, rfl, rfl, rfl, by decide +kernel⟩ ?hw ?_
  (case hw => w_witness2)
  intro w s₀ s₁ mg mb G Y fa o pm cd doc dV kV ho hd hcd hD hmg hg args vals as hpre hlay hrd hwl hlo
  obtain ⟨K, KX, hK⟩ := Y
  refine Ground.open G ?_
  intro T B D TE TW
  clear ho hd hcd hD B D TE TW
  wrow_args hpre hlay hrd hwl hlo
  rename Heap.IsList _ _ _ => hL1
  rename IntsAre _ _ => hI1
  rename ¬ _ < _ => hz1
  refine Mine.law_end T KX hmg hL1 hI1 (by omega) (by kernel_rfl) (by decide +kernel) hK ?_
  intro h' tk hk
  exact GoodW.toG ⟨.inl ⟨_, .bool true, [], rfl, raisesW_false (by wrow_none_raised), .bool true, by wrow_post, fun _ => ⟨by simp, by simp⟩⟩, hk, rfl, hg⟩
