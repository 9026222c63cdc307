import PyProof.Rows.All
import Wide.All
import OpenK.AllK
import Wide.FinOn
import PySem.Challenge.RW_in0243_01
set_option Elab.async false
noncomputable section
set_option Elab.async false
set_option maxRecDepth 100000
set_option autoImplicit false
set_option linter.unusedVariables false
namespace Mine
open PySem PySem.W PySem.Calls PyProof.Rows
/-! the table that translate asks: int keys, none a letter's -/
def chkTM (es : Array DictEntry) : Bool := es.all fun e => match e.key with
  | .int k t => e.hash == hashInt k && !(decide (65 ≤ k) && decide (k ≤ 80))
  | _ => false
def chkK (K : Frag) : Bool := match nsIn K mainGlobals (Str.ofString "_special_chars_map") with
  | some (some (.ref a)) => !(a == sysModules) && (match K.lookup a with
    | some ⟨.type t, none, .dict es _, sl⟩ => t == "dict" && sl.isEmpty && chkTM es
    | _ => false)
  | _ => false
def tabK (h : Heap) : Frag := match h.get? mainGlobals with
  | some o => (match nsIn [(mainGlobals, o)] mainGlobals (Str.ofString "_special_chars_map") with
    | some (some (.ref a)) => (match h.get? a with
      | some o2 => [(mainGlobals, o), (a, o2)]
      | none => [])
    | _ => [])
  | none => []
theorem tabK_in (h : Heap) : (tabK h).In h := fun b o' e => by
  unfold tabK at e
  split at e
  · rename_i o ho
    split at e
    · rename_i a ha
      split at e
      · rename_i o2 ho2
        rw [List.lookup_cons] at e
        split at e
        · rename_i hb
          have hb : b = mainGlobals := by simpa using hb
          cases e; rw [hb]; exact ho
        · rw [List.lookup_cons] at e
          split at e
          · rename_i hb
            have hb : b = a := by simpa using hb
            cases e; rw [hb]; exact ho2
          · cases e
      · cases e
    · cases e
  · cases e
def tmHook : Hook where
  α := Bool
  obs := fun s => chkK (tabK s.heap)
  val := fun _ => true
  says := fun _ h => ∃ K : Frag, K.In h ∧ chkK K = true
  of := fun w s x => ⟨_, tabK_in s.heap, x⟩
  keeps := fun w h h' ⟨K, x, e⟩ k => ⟨K, x.keeps k, e⟩
end Mine

set_option Elab.async false
set_option maxRecDepth 100000
set_option autoImplicit false
set_option linter.unusedVariables false
namespace Mine
open PySem PySem.W PySem.Calls PyProof.Rows
theorem quick_ends {α : Type} (p : Program) (w : World) (N : Nat) (q : Program) (lo ms : List Str) (Xt : Shared → Bool) (g0 : Bool) (Yf : Shared → α) :
    (openEnds treeTable p w N).map (fun s => (openSeen q lo ms Xt g0 s, Yf s)) =
    (((Fast.tw10274390034422433532 Fast.tw14364793385576792824 (opening p) w N (Fast.tw1435165496053646825 (opening p)).1 (Fast.tw1435165496053646825 (opening p)).2).bind (Fast.tw14289696077712309145 p)).bind fun s₀ =>
      match s₀.heap.isNs mainGlobals && s₀.gens.size == 0 with
      | true => (Fast.tw14082659384304107361 Fast.tw14364793385576792824 p w s₀.heap.objs.size (s₀.heap.nsMap mainGlobals "__annotations__") N s₀ (topStub p)).bind fun s₁ =>
          match staticsOk (importedModules p.main.body) s₀.heap s₁.heap && namesBound p s₁.heap && gensDone s₁ && laidKept s₀.heap s₁.heap with
          | true => some s₁
          | false => none
      | false => none).map (fun s => (Fast.tw4187177175401517315 q lo ms Xt g0 s, Yf s)) := by
  rw [← Fast.te10274390034422433532, ← Fast.te14364793385576792824, ← Fast.te1435165496053646825, ← Fast.te14289696077712309145, ← Fast.te14082659384304107361, ← Fast.te4187177175401517315]
  rfl
end Mine

set_option Elab.async false
set_option maxRecDepth 100000
set_option autoImplicit false
namespace Mine
open PySem PySem.W PySem.Calls PyProof.Rows
abbrev vw : Program := PySem.W.view PySem.Challenge.pw_in0243_01 [0, 2, 4, 5, 7, 8, 10, 11, 13, 14, 16, 17, 18, 19, 20, 21, 22, 23, 24, 25, 26]
abbrev loose : List Str := [Str.ofString "_twin_re_1", Str.ofString "_special_chars_map"]
abbrev XtL (r : RowW) (s : Shared) : Bool := xlAt vw [] s && recOk (RowW.records r) s
abbrev LeftP (w : World) : Prop := (openEnds treeTable PySem.Challenge.pw_in0243_01 w 4010).map (fun s => (openSeen vw loose (importedModules PySem.Challenge.pw_in0243_01.main.body) (XtL PySem.Challenge.rw_in0243_01.row.toRowW) true s, tmHook.obs s)) = some (openGood vw loose, tmHook.val w)
theorem leftFF (w : World) : LeftP ((w.withFollow "special-get-raises" false).withFollow "comprehension-iter-twice" false) := (quick_ends _ _ _ _ _ _ _ _ _).trans (by kernel_rfl)
theorem leftTF (w : World) : LeftP ((w.withFollow "special-get-raises" true).withFollow "comprehension-iter-twice" false) := (quick_ends _ _ _ _ _ _ _ _ _).trans (by kernel_rfl)
theorem leftFT (w : World) : LeftP ((w.withFollow "special-get-raises" false).withFollow "comprehension-iter-twice" true) := (quick_ends _ _ _ _ _ _ _ _ _).trans (by kernel_rfl)
theorem leftTT (w : World) : LeftP ((w.withFollow "special-get-raises" true).withFollow "comprehension-iter-twice" true) := (quick_ends _ _ _ _ _ _ _ _ _).trans (by kernel_rfl)
theorem left1 : LeftO PySem.Challenge.pw_in0243_01 vw loose (XtL PySem.Challenge.rw_in0243_01.row.toRowW) tmHook.obs tmHook.val 4010 :=
  byRow2 "comprehension-iter-twice" (P := LeftP) (byRow2 "special-get-raises" (P := fun w => LeftP (w.withFollow "comprehension-iter-twice" false)) leftFF leftTF) (byRow2 "special-get-raises" (P := fun w => LeftP (w.withFollow "comprehension-iter-twice" true)) leftFT leftTT)
theorem said : PySem.Challenge.rw_in0243_01.wellSaid = true := by
  unfold OpenLaw.wellSaid
  repeat' (with_reducible refine look_both ?_ ?_)
  all_goals (try unfold OpenRow.wellSaid)
  all_goals (repeat' (with_reducible refine look_both ?_ ?_))
  all_goals (try unfold OpenRow.partSaid)
  all_goals (repeat' (with_reducible refine look_both ?_ ?_))
  all_goals (try unfold looksOpen)
  all_goals (repeat' (with_reducible refine look_both ?_ ?_))
  all_goals decide +kernel
end Mine

set_option maxRecDepth 100000
set_option autoImplicit false
set_option linter.unusedVariables false
namespace Mine
open PySem PySem.W PySem.Calls PyProof.Rows

/-! data, frozen fragments -/
abbrev Fz := Addr → Option Obj

inductive D where
  | none
  | bool (b : Bool)
  | int (i : Int)
  | str (s : Str)
  | bytes (b : List UInt8)
  | list (xs : List D)
  | tup (xs : List D)
  | obj (a : Addr)

abbrev lstO (vs : List Value) (n : Nat) : Obj := { cls := .type "list", data := .seq vs.toArray n }
abbrev tupO (vs : List Value) (n : Nat) : Obj := { cls := .type "tuple", data := .seq vs.toArray n }
theorem isList_of {h : Heap} {a : Addr} {vs : List Value} {n : Nat} (e : h.get? a = some (lstO vs n)) : h.IsList a vs.toArray := ⟨_, e, rfl, n, rfl⟩

mutual
inductive Rep (g : Fz) : D → Value → Prop
  | none : Rep g .none .none
  | bool (b : Bool) : Rep g (.bool b) (.bool b)
  | int (i : Int) (t : Tok) : Rep g (.int i) (.int i t)
  | str (s : Str) (t : Tok) : Rep g (.str s) (.str s t)
  | bytes (b : List UInt8) (t : Tok) : Rep g (.bytes b) (.bytes b.toArray t)
  | list (xs : List D) (a : Addr) (vs : List Value) (n : Nat) (ho : g a = some (lstO vs n)) (hr : Reps g xs vs) : Rep g (.list xs) (.ref a)
  | tup (xs : List D) (a : Addr) (vs : List Value) (n : Nat) (ho : g a = some (tupO vs n)) (hr : Reps g xs vs) : Rep g (.tup xs) (.ref a)
  | obj (a : Addr) (o : Obj) (ho : g a = some o) (hc : o.cls = .type "object") (hd : o.data = .plain) : Rep g (.obj a) (.ref a)
inductive Reps (g : Fz) : List D → List Value → Prop
  | nil : Reps g [] []
  | cons {x : D} {v : Value} {xs : List D} {vs : List Value} (h : Rep g x v) (t : Reps g xs vs) : Reps g (x :: xs) (v :: vs)
end

mutual
theorem Rep.mono {g g' : Fz} (k : ∀ b o, g b = some o → g' b = some o) : ∀ {d : D} {v : Value}, Rep g d v → Rep g' d v
  | _, _, .none => .none
  | _, _, .bool b => .bool b
  | _, _, .int i t => .int i t
  | _, _, .str s t => .str s t
  | _, _, .bytes b t => .bytes b t
  | _, _, .list xs a vs n ho hr => .list xs a vs n (k a _ ho) (Reps.mono k hr)
  | _, _, .tup xs a vs n ho hr => .tup xs a vs n (k a _ ho) (Reps.mono k hr)
  | _, _, .obj a o ho hc hd => .obj a o (k a o ho) hc hd
theorem Reps.mono {g g' : Fz} (k : ∀ b o, g b = some o → g' b = some o) : ∀ {d : List D} {v : List Value}, Reps g d v → Reps g' d v
  | _, _, .nil => .nil
  | _, _, .cons h t => .cons (Rep.mono k h) (Reps.mono k t)
end

theorem Reps.length {g : Fz} : ∀ {d : List D} {v : List Value}, Reps g d v → v.length = d.length
  | _, _, .nil => rfl
  | _, _, .cons _ t => by rw [List.length_cons, List.length_cons, Reps.length t]
theorem Reps.append {g : Fz} : ∀ {d : List D} {v : List Value} {d' : List D} {v' : List Value}, Reps g d v → Reps g d' v' → Reps g (d ++ d') (v ++ v')
  | _, _, _, _, .nil, h => h
  | _, _, _, _, .cons a t, h => .cons a (Reps.append t h)
theorem Reps.get {g : Fz} : ∀ {d : List D} {v : List Value} (_ : Reps g d v) (i : Nat) (x : D) (_ : d[i]? = some x), ∃ y, v[i]? = some y ∧ Rep g x y
  | _, _, .cons a t, 0, x, h => by simp only [List.getElem?_cons_zero, Option.some.injEq] at h; subst h; exact ⟨_, rfl, a⟩
  | _, _, .cons a t, i + 1, x, h => by simp only [List.getElem?_cons_succ] at h ⊢; exact Reps.get t i x h
theorem Reps.getv {g : Fz} : ∀ {d : List D} {v : List Value} (_ : Reps g d v) (i : Nat) (y : Value) (_ : v[i]? = some y), ∃ x, d[i]? = some x ∧ Rep g x y
  | _, _, .cons a t, 0, x, h => by simp only [List.getElem?_cons_zero, Option.some.injEq] at h; subst h; exact ⟨_, rfl, a⟩
  | _, _, .cons a t, i + 1, x, h => by simp only [List.getElem?_cons_succ] at h ⊢; exact Reps.getv t i x h

/-- growth by fresh objects alone -/
structure Gr (h : Heap) (g : Fz) (h' : Heap) (g' : Fz) : Prop where
  hk : ∀ b o, h.get? b = some o → h'.get? b = some o
  gk : ∀ b o, g b = some o → g' b = some o
  sub : ∀ b o, g' b = some o → h'.get? b = some o
  own : ∀ b o, g' b = some o → g b = some o ∨ h.get? b = none

theorem Gr.refl {h : Heap} {g : Fz} (s : ∀ b o, g b = some o → h.get? b = some o) : Gr h g h g := ⟨fun _ _ e => e, fun _ _ e => e, s, fun _ _ e => .inl e⟩
theorem Gr.trans {h h' h'' : Heap} {g g' g'' : Fz} (x : Gr h g h' g') (y : Gr h' g' h'' g'') : Gr h g h'' g'' where
  hk := fun b o e => y.hk b o (x.hk b o e)
  gk := fun b o e => y.gk b o (x.gk b o e)
  sub := y.sub
  own := fun b o e => by
    rcases y.own b o e with e' | e'
    · exact x.own b o e'
    · refine .inr ?_
      cases q : h.get? b with
      | none => rfl
      | some o' => rw [x.hk b o' q] at e'; cases e'
/-- the heap grows, the fragment stays -/
theorem Gr.heap {h h' : Heap} {g : Fz} (s : ∀ b o, g b = some o → h.get? b = some o) (k : ∀ b o, h.get? b = some o → h'.get? b = some o) : Gr h g h' g :=
  ⟨k, fun _ _ e => e, fun b o e => k b o (s b o e), fun _ _ e => .inl e⟩
/-- one more object, frozen -/
def Fz.add (g : Fz) (a : Addr) (o : Obj) : Fz := fun b => if b = a then some o else g b
theorem Fz.add_self (g : Fz) (a : Addr) (o : Obj) : g.add a o a = some o := by simp [Fz.add]
theorem Fz.add_keep {g : Fz} {a : Addr} {o : Obj} (hg : g a = none) : ∀ b p, g b = some p → g.add a o b = some p := fun b p e => by
  unfold Fz.add
  by_cases hb : b = a
  · subst hb; rw [hg] at e; cases e
  · rw [if_neg hb]; exact e
theorem Gr.add {h h' : Heap} {g : Fz} {a : Addr} {o : Obj} (s : ∀ b o, g b = some o → h.get? b = some o) (k : ∀ b o, h.get? b = some o → h'.get? b = some o) (hn : h.get? a = none) (ha : h'.get? a = some o) : Gr h g h' (g.add a o) where
  hk := k
  gk := Fz.add_keep (by cases q : g a with
    | none => rfl
    | some o' => rw [s a o' q] at hn; cases hn)
  sub := fun b p e => by
    unfold Fz.add at e
    by_cases hb : b = a
    · subst hb; rw [if_pos rfl] at e; cases e; exact ha
    · rw [if_neg hb] at e; exact k b p (s b p e)
  own := fun b p e => by
    unfold Fz.add at e
    by_cases hb : b = a
    · subst hb; exact .inr hn
    · rw [if_neg hb] at e; exact .inl e

/-! the world -/
structure GCtx where
  prog : Program
  w : World
  mg : Str → Option Value
  mb : Str → Option Value
  defs : List DefRec
  bl : List Str
  tm : Heap → Prop
  tmk : ∀ h h' : Heap, (∀ b o, h.get? b = some o → h'.get? b = some o) → tm h → tm h'

structure Glo (X : GCtx) (h : Heap) : Prop where
  g : h.Ns mainGlobals X.mg
  b : h.Ns builtinsNs X.mb
  nolimit : h.NoLimit
  fn : ∀ d ∈ X.defs, ∃ a o pm code doc, X.mg d.name = some (.ref a) ∧ h.get? a = some o ∧ o.data = .func (docDef d.name d.params d.body d.scope pm code doc) ∧ h.CodeRec code d.name
  bl : ∀ x ∈ X.bl, X.mg x = none ∧ X.mb x = bootBuiltins x
  tm : X.tm h

/-! frames -/
structure Frm where
  A : Around
  env : Env
  h₀ : Heap
  g₀ : Fz
  oc : List Addr
  hc : Heap

structure Cfg where
  X : GCtx
  n : Nat
  sc : Scope
  own : List Str
  hd : Bool
  fl : Bool

structure Okf (c : Cfg) (fr : Frm) : Prop where
  hand : c.hd = true → fr.A.handled = none
  frs : c.fl = true → fr.A.frames = some [fr.env] ∧ fr.env.frame = some fr.env.locals
  depth : fr.A.depth + c.n < recursionLimit
  units : fr.A.units + 8 * c.n + 200 < cLine
  sc : fr.env.scope = c.sc
  kind : c.sc.kind = .function
  glob : fr.env.globals = mainGlobals
  blt : fr.env.builtins = builtinsNs
  glo : Glo c.X fr.h₀
  hck : ∀ b o, fr.hc.get? b = some o → fr.h₀.get? b = some o
  ocn : ∀ x ∈ c.own, c.sc.names.lookup x = some .cell ∧ ∃ a, fr.env.cells.lookup x = some a ∧ a ∈ fr.oc
  cls : ∀ x, c.sc.names.lookup x = some .cell ∨ c.sc.names.lookup x = some .free → ∃ a, fr.env.cells.lookup x = some a ∧ (a ∈ fr.oc ∨ ∃ o, fr.hc.get? a = some o)
  ocu : ∀ x y a, fr.env.cells.lookup x = some a → fr.env.cells.lookup y = some a → a ∈ fr.oc → x = y

/-- what a name may hold -/
inductive V where
  | d (d : D)
  | mu (i : Nat)
  | meth (i : Nat)
  | arg (ns : List Int)

def methOf (a : Addr) : Obj := { cls := .type "builtin_function_or_method", data := .fields #[.builtin "list.append", .ref a] }

inductive EV (g : Fz) (am : List Addr) : V → Value → Prop
  | d (d : D) (v : Value) (h : Rep g d v) : EV g am (.d d) v
  | mu (i : Nat) (a : Addr) (h : am[i]? = some a) : EV g am (.mu i) (.ref a)
  | meth (i : Nat) (a q : Addr) (o : Obj) (h : am[i]? = some a) (hq : g q = some o) (ho : o = methOf a) : EV g am (.meth i) (.ref q)
  | arg (ns : List Int) (a : Addr) (o : Obj) (vs : List Value) (n : Nat) (ho : g a = some o) (hc : o.cls = .type "list") (hd : o.data = .seq vs.toArray n) (hI : IntsAre vs ns) : EV g am (.arg ns) (.ref a)

theorem EV.mono {g g' : Fz} {am ext : List Addr} {e : V} {v : Value} (k : ∀ b o, g b = some o → g' b = some o) (x : EV g am e v) : EV g' (am ++ ext) e v := by
  cases x with
  | d d v h => exact .d d v (h.mono k)
  | mu i a h => exact .mu i a (by rw [List.getElem?_append_left]; exact h; exact (List.getElem?_eq_some_iff.mp h).1)
  | meth i a q o h hq ho => exact .meth i a q o (by rw [List.getElem?_append_left]; exact h; exact (List.getElem?_eq_some_iff.mp h).1) (k _ _ hq) ho
  | arg ns a o vs n ho hc hd hI => exact .arg ns a o vs n (k _ _ ho) hc hd hI
theorem EV.mono0 {g g' : Fz} {am : List Addr} {e : V} {v : Value} (k : ∀ b o, g b = some o → g' b = some o) (x : EV g am e v) : EV g' am e v := by
  have := EV.mono (ext := []) k x
  rwa [List.append_nil] at this

/-- where a name's value stands -/
inductive At (fr : Frm) (h : Heap) (m : Str → Option Value) (x : Str) (v : Value) : Prop
  | loc (hk : fr.env.scope.names.lookup x = some .local) (hm : m x = some v)
  | ocell (a : Addr) (hk : fr.env.scope.names.lookup x = some .cell) (hc : fr.env.cells.lookup x = some a) (ho : a ∈ fr.oc) (hi : h.IsCell a (some v))
  | cell (a : Addr) (hk : fr.env.scope.names.lookup x = some .cell ∨ fr.env.scope.names.lookup x = some .free) (hc : fr.env.cells.lookup x = some a) (hi : fr.hc.IsCell a (some v))

abbrev Gam := List (Str × V)
abbrev Del := List (List D)

structure Mt (fr : Frm) (h : Heap) (g : Fz) (a : Addr) (ds : List D) : Prop where
  lst : ∃ vs n, h.get? a = some (lstO vs n) ∧ Reps g ds vs
  ne : a ≠ fr.env.locals
  new : fr.h₀.get? a = none
  free : g a = none

structure St (fr : Frm) (Γ : Gam) (Δ : Del) (h : Heap) (g : Fz) (am : List Addr) : Prop where
  keep : ∀ b o, fr.h₀.get? b = some o → h.get? b = some o
  sub : ∀ b o, g b = some o → h.get? b = some o
  gsub : ∀ b o, fr.g₀ b = some o → g b = some o
  own : ∀ b o, g b = some o → fr.g₀ b = some o ∨ fr.h₀.get? b = none
  gL : g fr.env.locals = none
  hL : fr.h₀.get? fr.env.locals = none
  loc : ∃ m, h.Ns fr.env.locals m ∧ ∀ p ∈ Γ, ∃ v, EV g am p.2 v ∧ At fr h m p.1 v
  ocs : ∀ c ∈ fr.oc, (∃ v, h.IsCell c v) ∧ g c = none ∧ fr.h₀.get? c = none ∧ c ≠ fr.env.locals ∧ c ∉ am
  len : am.length = Δ.length
  nd : am.Nodup
  muts : ∀ (i : Nat) (a : Addr) (ds : List D), am[i]? = some a → Δ[i]? = some ds → Mt fr h g a ds

theorem Heap.Ns.get {h : Heap} {a : Addr} {m : Str → Option Value} (x : h.Ns a m) : ∃ o, h.get? a = some o := let ⟨o, _, _, ho, _⟩ := x; ⟨o, ho⟩

theorem Gr.none {h h' : Heap} {g g' : Fz} {a : Addr} {o : Obj} (x : Gr h g h' g') (hg : g a = none) (ha : h.get? a = some o) : g' a = none := by
  cases q : g' a with
  | none => rfl
  | some o' => rcases x.own a o' q with e | e
               · rw [hg] at e; cases e
               · rw [ha] at e; cases e

theorem St.gr {fr : Frm} {Γ : Gam} {Δ : Del} {h h' : Heap} {g g' : Fz} {am : List Addr} (S : St fr Γ Δ h g am) (x : Gr h g h' g') : St fr Γ Δ h' g' am where
  keep := fun b o e => x.hk b o (S.keep b o e)
  sub := x.sub
  gsub := fun b o e => x.gk b o (S.gsub b o e)
  own := fun b o e => by
    rcases x.own b o e with e' | e'
    · exact S.own b o e'
    · refine .inr ?_
      cases q : fr.h₀.get? b with
      | none => rfl
      | some o' => rw [S.keep b o' q] at e'; cases e'
  gL := let ⟨_, hn, _⟩ := S.loc; let ⟨_, ho⟩ := Heap.Ns.get hn; x.none S.gL ho
  hL := S.hL
  loc := by
    obtain ⟨m, hn, hp⟩ := S.loc
    refine ⟨m, hn.keeps x.hk, fun p hm => ?_⟩
    obtain ⟨v, h1, h2⟩ := hp p hm
    refine ⟨v, h1.mono0 x.gk, ?_⟩
    cases h2 with
    | loc hk hm => exact .loc hk hm
    | ocell a hk hc ho hi => exact .ocell a hk hc ho (hi.keeps x.hk)
    | cell a hk hc hi => exact .cell a hk hc hi
  ocs := fun c hc => by
    obtain ⟨⟨v, hv⟩, h1, h2, h3, h4⟩ := S.ocs c hc
    obtain ⟨o, ho, _⟩ := id hv
    exact ⟨⟨v, hv.keeps x.hk⟩, x.none h1 ho, h2, h3, h4⟩
  len := S.len
  nd := S.nd
  muts := fun i a ds h1 h2 => by
    obtain ⟨⟨vs, n, ho, hr⟩, h3, h4, h5⟩ := S.muts i a ds h1 h2
    exact ⟨⟨vs, n, x.hk _ _ ho, hr.mono x.gk⟩, h3, h4, x.none h5 ho⟩

/-- a value at hand: frozen, or a list that may still turn -/
inductive RepS (h : Heap) (g : Fz) : D → Value → Prop
  | fz {d : D} {v : Value} (r : Rep g d v) : RepS h g d v
  | ls (a : Addr) (vs : List Value) (n : Nat) (ds : List D) (ho : h.get? a = some (lstO vs n)) (hr : Reps g ds vs) : RepS h g (.list ds) (.ref a)

theorem RepS.gr {h h' : Heap} {g g' : Fz} {d : D} {v : Value} (x : RepS h g d v) (k : Gr h g h' g') : RepS h' g' d v := by
  cases x with
  | fz r => exact .fz (r.mono k.gk)
  | ls a vs n ds ho hr => exact .ls a vs n ds (k.hk _ _ ho) (hr.mono k.gk)
theorem RepS.list {h : Heap} {g : Fz} {ds : List D} {v : Value} (s : ∀ b o, g b = some o → h.get? b = some o) (x : RepS h g (.list ds) v) :
    ∃ a vs n, v = .ref a ∧ h.get? a = some (lstO vs n) ∧ Reps g ds vs := by
  cases x with
  | fz r => cases r with
    | list xs a vs n ho hr => exact ⟨a, vs, n, rfl, s _ _ ho, hr⟩
  | ls a vs n ds ho hr => exact ⟨a, vs, n, rfl, ho, hr⟩
theorem RepS.tup {h : Heap} {g : Fz} {ds : List D} {v : Value} (s : ∀ b o, g b = some o → h.get? b = some o) (x : RepS h g (.tup ds) v) :
    ∃ a vs n, v = .ref a ∧ h.get? a = some (tupO vs n) ∧ Reps g ds vs := by
  cases x with
  | fz r => cases r with
    | tup xs a vs n ho hr => exact ⟨a, vs, n, rfl, s _ _ ho, hr⟩

def W (c : Cfg) (fr : Frm) {α : Type} (t : Sem α) (Q : α → Shared → Prop) (s : Shared) : Prop := wpAny (model c.X.prog c.X.w) fr.A t Q (fun _ _ => False) s

/-- an expression's value; strong: frozen -/
def EvF (c : Cfg) (Γ : Gam) (Δ : Del) (e : Expr) (d : D) : Prop :=
  ∀ fr s g am, Okf c fr → St fr Γ Δ s.heap g am → ∀ Q : Value → Shared → Prop,
    (∀ v h' g' tk, Gr s.heap g h' g' → Rep g' d v → Q v { s with heap := h', toks := tk }) → W c fr (eval e fr.env) Q s
def Ev (c : Cfg) (Γ : Gam) (Δ : Del) (e : Expr) (d : D) : Prop :=
  ∀ fr s g am, Okf c fr → St fr Γ Δ s.heap g am → ∀ Q : Value → Shared → Prop,
    (∀ v h' g' tk, Gr s.heap g h' g' → RepS h' g' d v → Q v { s with heap := h', toks := tk }) → W c fr (eval e fr.env) Q s
theorem EvF.ev {c : Cfg} {Γ : Gam} {Δ : Del} {e : Expr} {d : D} (x : EvF c Γ Δ e d) : Ev c Γ Δ e d :=
  fun fr s g am O S Q hQ => x fr s g am O S Q fun v h' g' tk k r => hQ v h' g' tk k (.fz r)
/-- a test -/
def EvT (c : Cfg) (Γ : Gam) (Δ : Del) (e : Expr) (b : Bool) : Prop :=
  ∀ fr s g am, Okf c fr → St fr Γ Δ s.heap g am → ∀ Q : Bool → Shared → Prop,
    (∀ h' g' tk, Gr s.heap g h' g' → Q b { s with heap := h', toks := tk }) → W c fr (isTrue e fr.env (eval e fr.env)) Q s

/-- how a block ends -/
inductive Out where
  | next | brk | cont
  | ret (d : D)
inductive Fl (g : Fz) : Out → Flow → Prop
  | next : Fl g .next .next
  | brk : Fl g .brk .brk
  | cont : Fl g .cont .cont
  | ret (d : D) (v : Value) (h : Rep g d v) : Fl g (.ret d) (.ret v)

abbrev Post := Out → Gam → Del → Prop
def Ends (fr : Frm) (P : Post) (Q : Flow → Shared → Prop) (s : Shared) : Prop :=
  ∀ o f Γ' Δ' h' g' am' tk, P o Γ' Δ' → Fl g' o f → St fr Γ' Δ' h' g' am' → Q f { s with heap := h', toks := tk }
def Exs (c : Cfg) (Γ : Gam) (Δ : Del) (b : List Stmt) (P : Post) : Prop :=
  ∀ fr s g am, Okf c fr → St fr Γ Δ s.heap g am → ∀ Q : Flow → Shared → Prop, Ends fr P Q s → W c fr (execs b fr.env) Q s
def Ex1 (c : Cfg) (Γ : Gam) (Δ : Del) (b : Stmt) (P : Post) : Prop :=
  ∀ fr s g am, Okf c fr → St fr Γ Δ s.heap g am → ∀ Q : Flow → Shared → Prop, Ends fr P Q s → W c fr (exec b fr.env) Q s
end Mine

set_option maxRecDepth 100000
set_option autoImplicit false
set_option linter.unusedVariables false
namespace Mine
open PySem PySem.W PySem.Calls PyProof.Rows
variable {c : Cfg} {Γ : Gam} {Δ : Del}

/-! constants -/
theorem ev_int {i : Int} {k : Nat} {pos : Pos} : EvF c Γ Δ (.Constant (.int i) k pos) (.int i) := fun _ s g _ _ S _ hQ =>
  wpAny_Constant_int (hQ _ s.heap g _ (.refl S.sub) (.int i _))
theorem ev_str {x : Str} {k : Nat} {pos : Pos} : EvF c Γ Δ (.Constant (.str x) k pos) (.str x) := fun _ s g _ _ S _ hQ =>
  wpAny_Constant_str (hQ _ s.heap g _ (.refl S.sub) (.str x _))
theorem ev_bool {b : Bool} {k : Nat} {pos : Pos} : EvF c Γ Δ (.Constant (.bool b) k pos) (.bool b) := fun _ s g _ _ S _ hQ =>
  wpAny_Constant_bool (hQ _ s.heap g s.toks (.refl S.sub) (.bool b))
theorem ev_bytes {b : List UInt8} {k : Nat} {pos : Pos} : EvF c Γ Δ (.Constant (.bytes b) k pos) (.bytes b) := fun _ s g _ _ S _ hQ => by
  intro G p _
  exact hQ _ s.heap g (s.toks + 1) (.refl S.sub) (.bytes b _)

/-! names -/
theorem load_At {fr : Frm} {m : Str → Option Value} {x : Str} {v : Value} {Γ' : Gam} {s : Shared} {g : Fz} {am : List Addr} {Q : Value → Shared → Prop} (O : Okf c fr) (S : St fr Γ' Δ s.heap g am)
    (hn : s.heap.Ns fr.env.locals m) (a : At fr s.heap m x v) (hc : (x == ("__classdict__" : Str)) = false) (hQ : Q v s) : W c fr (loadName fr.env x) Q s := by
  have hk : fr.env.scope.kind = .function := O.sc ▸ O.kind
  cases a with
  | loc h1 h2 => exact wpAny_loadName_local hk h1 hn h2 hQ
  | ocell a h1 h2 h3 h4 => exact wpAny_loadName_cell hk h1 h2 h4 hQ
  | cell a h1 h2 h4 =>
    rcases h1 with h1 | h1
    · exact wpAny_loadName_cell hk h1 h2 (h4.keeps fun b o e => S.keep b o (O.hck b o e)) hQ
    · exact wpAny_loadName_free hk h1 h2 (h4.keeps fun b o e => S.keep b o (O.hck b o e)) hQ hc

theorem ev_name {x : Str} {d : D} {pos : Pos} (hm : (x, V.d d) ∈ Γ) (hd : (x == ("__debug__" : Str)) = false := by decide) (hc : (x == ("__classdict__" : Str)) = false := by decide) : EvF c Γ Δ (.Name x pos) d := fun fr s g am O S Q hQ => by
  obtain ⟨m, hn, hp⟩ := S.loc
  obtain ⟨v, h1, h2⟩ := hp _ hm
  cases h1 with
  | d d v h => exact wpAny_Name (load_At O S hn h2 hc (hQ v s.heap g s.toks (.refl S.sub) h)) hd

theorem ev_mu {x : Str} {i : Nat} {ds : List D} {pos : Pos} (hm : (x, V.mu i) ∈ Γ) (hi : Δ[i]? = some ds) (hd : (x == ("__debug__" : Str)) = false := by decide) (hc : (x == ("__classdict__" : Str)) = false := by decide) : Ev c Γ Δ (.Name x pos) (.list ds) := fun fr s g am O S Q hQ => by
  obtain ⟨m, hn, hp⟩ := S.loc
  obtain ⟨v, h1, h2⟩ := hp _ hm
  cases h1 with
  | mu i a h =>
    obtain ⟨⟨vs, n, ho, hr⟩, _⟩ := S.muts i a ds h hi
    exact wpAny_Name (load_At O S hn h2 hc (hQ _ s.heap g s.toks (.refl S.sub) (.ls a vs n ds ho hr))) hd

/-! two operands -/
def OpF (c : Cfg) (op : Operator) (a b d : D) : Prop := ∀ fr (s : Shared) g va vb, Okf c fr → (∀ b o, g b = some o → s.heap.get? b = some o) → (∀ b o, fr.h₀.get? b = some o → s.heap.get? b = some o) → RepS s.heap g a va → RepS s.heap g b vb →
  ∀ Q : Value → Shared → Prop, (∀ v h' g' tk, Gr s.heap g h' g' → Rep g' d v → Q v { s with heap := h', toks := tk }) → W c fr (binaryOp op va vb) Q s

theorem ev_bin {l r : Expr} {op : Operator} {pos : Pos} {a b d : D} (hl : Ev c Γ Δ l a) (hr : Ev c Γ Δ r b) (ho : OpF c op a b d) : EvF c Γ Δ (.BinOp l op r pos) d := fun fr s g am O S Q hQ =>
  wpAny_BinOp (hl fr s g am O S _ fun va h1 g1 t1 k1 r1 => hr fr _ g1 am O (S.gr k1) _ fun vb h2 g2 t2 k2 r2 =>
    ho fr _ g2 va vb O k2.sub ((S.gr k1).gr k2).keep (r1.gr k2) r2 Q fun v h3 g3 t3 k3 r3 => hQ v h3 g3 t3 ((k1.trans k2).trans k3) r3)

theorem rint {h : Heap} {g : Fz} {i : Int} {v : Value} (r : RepS h g (.int i) v) : ∃ t, v = .int i t := by
  cases r with
  | fz r => cases r with
    | int i t => exact ⟨t, rfl⟩
theorem rstr {h : Heap} {g : Fz} {i : Str} {v : Value} (r : RepS h g (.str i) v) : ∃ t, v = .str i t := by
  cases r with
  | fz r => cases r with
    | str i t => exact ⟨t, rfl⟩
theorem rbool {h : Heap} {g : Fz} {i : Bool} {v : Value} (r : RepS h g (.bool i) v) : v = .bool i := by
  cases r with
  | fz r => cases r with
    | bool i => rfl
theorem rbytes {h : Heap} {g : Fz} {i : List UInt8} {v : Value} (r : RepS h g (.bytes i) v) : ∃ t, v = .bytes i.toArray t := by
  cases r with
  | fz r => cases r with
    | bytes i t => exact ⟨t, rfl⟩

theorem op_add {a b : Int} : OpF c .Add (.int a) (.int b) (.int (a + b)) := fun fr s g va vb O hs _ ra rb Q hQ => by
  obtain ⟨t, rfl⟩ := rint ra; obtain ⟨u, rfl⟩ := rint rb
  exact add_int (hQ _ s.heap g _ (.refl hs) (.int _ _))
theorem op_sub {a b : Int} : OpF c .Sub (.int a) (.int b) (.int (a - b)) := fun fr s g va vb O hs _ ra rb Q hQ => by
  obtain ⟨t, rfl⟩ := rint ra; obtain ⟨u, rfl⟩ := rint rb
  exact sub_int (hQ _ s.heap g _ (.refl hs) (.int _ _))
theorem op_mul {a b : Int} (hm : IntMulOk a b) : OpF c .Mult (.int a) (.int b) (.int (a * b)) := fun fr s g va vb O hs _ ra rb Q hQ => by
  obtain ⟨t, rfl⟩ := rint ra; obtain ⟨u, rfl⟩ := rint rb
  exact mul_int (hQ _ s.heap g _ (.refl hs) (.int _ _)) hm
theorem op_mod {a b : Int} (hb : b ≠ 0) : OpF c .Mod (.int a) (.int b) (.int (a.fmod b)) := fun fr s g va vb O hs _ ra rb Q hQ => by
  obtain ⟨t, rfl⟩ := rint ra; obtain ⟨u, rfl⟩ := rint rb
  exact mod_int' hb (hQ _ s.heap g _ (.refl hs) (.int _ _))
theorem op_fdiv {a b : Int} (hb : b ≠ 0) (hp : Builtin.divisionGoesByPylong a b = false) (hh : c.hd = true := by rfl) : OpF c .FloorDiv (.int a) (.int b) (.int (a.fdiv b)) := fun fr s g va vb O hs _ ra rb Q hQ => by
  obtain ⟨t, rfl⟩ := rint ra; obtain ⟨u, rfl⟩ := rint rb
  exact floordiv_int_or (O.hand hh) (fun e => absurd e hb) (fun _ => hQ _ s.heap g _ (.refl hs) (.int _ _)) (fun _ => .inl hp)
theorem op_pow {a b : Int} (hn : 0 ≤ b) (hsz : (Builtin.Int.intBits a : Int) * b ≤ 2 ^ 27) : OpF c .Pow (.int a) (.int b) (.int (a ^ b.toNat)) := fun fr s g va vb O hs _ ra rb Q hQ => by
  obtain ⟨t, rfl⟩ := rint ra; obtain ⟨u, rfl⟩ := rint rb
  exact pow_int hn hsz (hQ _ s.heap g _ (.refl hs) (.int _ _))
/-! comparisons -/
def CmpF (c : Cfg) (op : CmpOp) (a b : D) (r : Bool) : Prop := ∀ fr (s : Shared) g va vb, Okf c fr → (∀ b o, g b = some o → s.heap.get? b = some o) → (∀ b o, fr.h₀.get? b = some o → s.heap.get? b = some o) → RepS s.heap g a va → RepS s.heap g b vb →
  ∀ Q : Value → Shared → Prop, (∀ h' tk, (∀ b o, s.heap.get? b = some o → h'.get? b = some o) → Q (.bool r) { s with heap := h', toks := tk }) → W c fr (compareOp op va vb) Q s

theorem ev_cmp {l r : Expr} {op : CmpOp} {pos : Pos} {a b : D} {x : Bool} (hl : Ev c Γ Δ l a) (hr : Ev c Γ Δ r b) (ho : CmpF c op a b x) (hm : behindInMarks op r = false := by with_unfolding_all rfl) : EvF c Γ Δ (.Compare l [op] [r] pos) (.bool x) := fun fr s g am O S Q hQ =>
  wpAny_Compare1 (hl fr s g am O S _ fun va h1 g1 t1 k1 r1 => hr fr _ g1 am O (S.gr k1) _ fun vb h2 g2 t2 k2 r2 =>
    ho fr _ g2 va vb O k2.sub ((S.gr k1).gr k2).keep (r1.gr k2) r2 Q fun h3 t3 k3 => hQ _ h3 g2 t3 ((k1.trans k2).trans (.heap k2.sub k3)) (.bool x)) hm
theorem et_cmp {l r : Expr} {op : CmpOp} {pos : Pos} {a b : D} {x : Bool} (hl : Ev c Γ Δ l a) (hr : Ev c Γ Δ r b) (ho : CmpF c op a b x) (hm : behindInMarks op r = false := by with_unfolding_all rfl) : EvT c Γ Δ (.Compare l [op] [r] pos) x := fun fr s g am O S Q hQ =>
  wpAny_isTrue_Compare1 (hl fr s g am O S _ fun va h1 g1 t1 k1 r1 => hr fr _ g1 am O (S.gr k1) _ fun vb h2 g2 t2 k2 r2 =>
    ho fr _ g2 va vb O k2.sub ((S.gr k1).gr k2).keep (r1.gr k2) r2 _ fun h3 t3 k3 => wpAny_truthy_bool (hQ h3 g2 t3 ((k1.trans k2).trans (.heap k2.sub k3)))) hm

section
variable {a b : Int}
theorem cmp_eq : CmpF c .Eq (.int a) (.int b) (a == b) := fun fr s g va vb O hs _ ra rb Q hQ => by
  obtain ⟨t, rfl⟩ := rint ra; obtain ⟨u, rfl⟩ := rint rb
  exact eq_int (hQ s.heap s.toks fun _ _ e => e)
theorem cmp_ne : CmpF c .NotEq (.int a) (.int b) (a != b) := fun fr s g va vb O hs _ ra rb Q hQ => by
  obtain ⟨t, rfl⟩ := rint ra; obtain ⟨u, rfl⟩ := rint rb
  exact ne_int (hQ s.heap s.toks fun _ _ e => e)
theorem cmp_lt : CmpF c .Lt (.int a) (.int b) (decide (a < b)) := fun fr s g va vb O hs _ ra rb Q hQ => by
  obtain ⟨t, rfl⟩ := rint ra; obtain ⟨u, rfl⟩ := rint rb
  exact lt_int (hQ s.heap s.toks fun _ _ e => e)
theorem cmp_gt : CmpF c .Gt (.int a) (.int b) (decide (b < a)) := fun fr s g va vb O hs _ ra rb Q hQ => by
  obtain ⟨t, rfl⟩ := rint ra; obtain ⟨u, rfl⟩ := rint rb
  exact gt_int (hQ s.heap s.toks fun _ _ e => e)
theorem cmp_le : CmpF c .LtE (.int a) (.int b) (decide (a ≤ b)) := fun fr s g va vb O hs _ ra rb Q hQ => by
  obtain ⟨t, rfl⟩ := rint ra; obtain ⟨u, rfl⟩ := rint rb
  exact le_int (hQ s.heap s.toks fun _ _ e => e)
theorem cmp_ge : CmpF c .GtE (.int a) (.int b) (decide (b ≤ a)) := fun fr s g va vb O hs _ ra rb Q hQ => by
  obtain ⟨t, rfl⟩ := rint ra; obtain ⟨u, rfl⟩ := rint rb
  exact ge_int (hQ s.heap s.toks fun _ _ e => e)
end
section
variable {a b : Str}
theorem cmp_eqs : CmpF c .Eq (.str a) (.str b) (a == b) := fun fr s g va vb O hs _ ra rb Q hQ => by
  obtain ⟨t, rfl⟩ := rstr ra; obtain ⟨u, rfl⟩ := rstr rb
  exact eq_str (hQ s.heap s.toks fun _ _ e => e)
theorem cmp_nes : CmpF c .NotEq (.str a) (.str b) (a != b) := fun fr s g va vb O hs _ ra rb Q hQ => by
  obtain ⟨t, rfl⟩ := rstr ra; obtain ⟨u, rfl⟩ := rstr rb
  exact ne_str (hQ s.heap s.toks fun _ _ e => e)
theorem cmp_lts : CmpF c .Lt (.str a) (.str b) (decide (a.cps.toList < b.cps.toList)) := fun fr s g va vb O hs _ ra rb Q hQ => by
  obtain ⟨t, rfl⟩ := rstr ra; obtain ⟨u, rfl⟩ := rstr rb
  exact lt_str (hQ s.heap s.toks fun _ _ e => e)
theorem cmp_gts : CmpF c .Gt (.str a) (.str b) (decide (b.cps.toList < a.cps.toList)) := fun fr s g va vb O hs _ ra rb Q hQ => by
  obtain ⟨t, rfl⟩ := rstr ra; obtain ⟨u, rfl⟩ := rstr rb
  exact P.gt_str (hQ s.heap s.toks fun _ _ e => e)
end

/-! signs, tests -/
theorem ev_neg {x : Expr} {pos : Pos} {a : Int} (h : Ev c Γ Δ x (.int a)) : EvF c Γ Δ (.UnaryOp .USub x pos) (.int (-a)) := fun fr s g am O S Q hQ =>
  wpAny_UnaryOp (h fr s g am O S _ fun va h1 g1 t1 k1 r1 => by
    obtain ⟨t, rfl⟩ := rint r1
    exact neg_int (hQ _ h1 g1 _ k1 (.int _ _)))
theorem et_not {x : Expr} {pos : Pos} {b : Bool} (h : EvT c Γ Δ x b) : EvT c Γ Δ (.UnaryOp .Not x pos) (!b) := fun fr s g am O S Q hQ =>
  isTrue_not (h fr s g am O S _ fun h1 g1 t1 k1 => hQ h1 g1 t1 k1)
def Tru (d : D) (b : Bool) : Prop := match d with
  | .bool x => b = x
  | .int i => b = (i != 0)
  | .str x => b = ((x.length : Int) != 0) ∧ x.length < 2 ^ 62
  | .list xs => b = !(xs.isEmpty) ∧ xs.length < 2 ^ 62
  | _ => False
theorem truthy_of {fr : Frm} {s : Shared} {g : Fz} {d : D} {v : Value} {b : Bool} (hs : ∀ b o, g b = some o → s.heap.get? b = some o) (r : RepS s.heap g d v) (t : Tru d b) {Q : Bool → Shared → Prop} (hQ : ∀ tk, Q b { s with toks := tk }) : W c fr (truthy v) Q s := by
  cases d with
  | bool x => rw [rbool r]; cases t; exact wpAny_truthy_bool (hQ s.toks)
  | int x => obtain ⟨u, rfl⟩ := rint r; cases t; exact truthy_int (hQ s.toks)
  | str x =>
    obtain ⟨u, rfl⟩ := rstr r
    obtain ⟨rfl, hl⟩ := t
    exact P.truthy_str (by omega) (hQ _)
  | list xs =>
    obtain ⟨a, vs, n', rfl, hl, hr⟩ := r.list hs
    obtain ⟨rfl, hn⟩ := t
    have e := hr.length
    refine wpAny_truthy_list (isList_of hl) (by simp only [List.size_toArray]; omega) ?_
    have : (!(List.toArray vs).isEmpty) = !xs.isEmpty := by
      cases xs <;> cases vs <;> simp at e ⊢
    rw [this]; exact hQ _
  | _ => exact t.elim
theorem et_of {e : Expr} {d : D} {b : Bool} (h : Ev c Γ Δ e d) (t : Tru d b) (he : ∀ env whole, isTrue e env whole = (do let v ← whole; standAt e.pos; holding [v] (truthy v)) := by intro _ _; rfl) : EvT c Γ Δ e b := fun fr s g am O S Q hQ =>
  isTrue_plain (h fr s g am O S _ fun va h1 g1 t1 k1 r1 => truthy_of k1.sub r1 t fun tk => hQ h1 g1 tk k1) (he _ _)
theorem et_and {x y : Expr} {pos : Pos} {a b : Bool} (h : EvT c Γ Δ x a) (h' : a = true → EvT c Γ Δ y b) : EvT c Γ Δ (.BoolOp .And [x, y] pos) (a && b) := fun fr s g am O S Q hQ =>
  wpAny_isTrue_BoolOp (wpAny_allTrue_And_cons (h fr s g am O S _ fun h1 g1 t1 k1 => by
    cases a with
    | false => exact hQ h1 g1 t1 k1
    | true => exact wpAny_allTrue_And_cons (h' rfl fr _ g1 am O (S.gr k1) _ fun h2 g2 t2 k2 => by
        cases b with
        | false => exact hQ h2 g2 t2 (k1.trans k2)
        | true => exact wpAny_allTrue_And_nil (hQ h2 g2 t2 (k1.trans k2)))))
theorem et_or {x y : Expr} {pos : Pos} {a b : Bool} (h : EvT c Γ Δ x a) (h' : a = false → EvT c Γ Δ y b) : EvT c Γ Δ (.BoolOp .Or [x, y] pos) (a || b) := fun fr s g am O S Q hQ =>
  wpAny_isTrue_BoolOp (wpAny_allTrue_Or_cons (h fr s g am O S _ fun h1 g1 t1 k1 => by
    cases a with
    | true => exact hQ h1 g1 t1 k1
    | false => exact wpAny_allTrue_Or_cons (h' rfl fr _ g1 am O (S.gr k1) _ fun h2 g2 t2 k2 => by
        cases b with
        | true => exact hQ h2 g2 t2 (k1.trans k2)
        | false => exact wpAny_pure (hQ h2 g2 t2 (k1.trans k2)))))
theorem ev_if {t x y : Expr} {pos : Pos} {b : Bool} {d e : D} (h : EvT c Γ Δ t b) (h1 : b = true → EvF c Γ Δ x d) (h2 : b = false → EvF c Γ Δ y e) : EvF c Γ Δ (.IfExp t x y pos) (if b then d else e) := fun fr s g am O S Q hQ =>
  wpAny_IfExp (h fr s g am O S _ fun h3 g1 t1 k1 => by
    cases b with
    | true => exact h1 rfl fr _ g1 am O (S.gr k1) _ fun v h2 g2 t2 k2 r => hQ v h2 g2 t2 (k1.trans k2) r
    | false => exact h2 rfl fr _ g1 am O (S.gr k1) _ fun v h2 g2 t2 k2 r => hQ v h2 g2 t2 (k1.trans k2) r)
/-- «a and b» as a value, bools -/
theorem ev_and {x y : Expr} {pos : Pos} {a b : Bool} (h : EvF c Γ Δ x (.bool a)) (h' : a = true → EvF c Γ Δ y (.bool b)) : EvF c Γ Δ (.BoolOp .And [x, y] pos) (.bool (a && b)) := fun fr s g am O S Q hQ =>
  wpAny_And2 (h fr s g am O S _ fun va h1 g1 t1 k1 r1 => by
    rw [rbool (.fz r1 : RepS h1 g1 _ _)]
    refine wpAny_truthy_bool ?_
    cases a with
    | false => exact hQ _ h1 g1 t1 k1 (.bool _)
    | true => exact h' rfl fr _ g1 am O (S.gr k1) _ fun v h2 g2 t2 k2 r2 => hQ v h2 g2 t2 (k1.trans k2) r2)
end Mine

set_option maxRecDepth 100000
set_option autoImplicit false
set_option linter.unusedVariables false
namespace Mine
open PySem PySem.W PySem.Calls PyProof.Rows
variable {c : Cfg} {Γ : Gam} {Δ : Del} {P : Post}

def upd (Γ : Gam) (x : Str) (e : V) : Gam := (x, e) :: Γ.filter fun p => p.1 != x
theorem upd_cases {Γ : Gam} {x : Str} {e : V} {p : Str × V} (h : p ∈ upd Γ x e) : p = (x, e) ∨ (p ∈ Γ ∧ p.1 ≠ x) := by
  rcases List.mem_cons.mp h with h | h
  · exact .inl h
  · obtain ⟨h1, h2⟩ := List.mem_filter.mp h
    exact .inr ⟨h1, by simpa using h2⟩

theorem St.weak {fr : Frm} {Γ Γ₀ : Gam} {Δ : Del} {h : Heap} {g : Fz} {am : List Addr} (S : St fr Γ Δ h g am) (k : ∀ p ∈ Γ₀, p ∈ Γ) : St fr Γ₀ Δ h g am :=
  { S with loc := let ⟨m, hn, hp⟩ := S.loc; ⟨m, hn, fun p hm => hp p (k p hm)⟩ }

def Sto (c : Cfg) (x : Str) : Prop := c.sc.names.lookup x = some .local ∨ x ∈ c.own

theorem Okf.notcls {fr : Frm} (O : Okf c fr) : (fr.env.scope.kind == .class || (fr.env.scope.kind == .module && fr.env.locals != fr.env.globals)) = false := by
  rw [O.sc, O.kind]; rfl

theorem w_store {fr : Frm} {s : Shared} {g : Fz} {am : List Addr} {x : Str} {e : V} {v : Value} {Q : Unit → Shared → Prop} (O : Okf c fr) (S : St fr Γ Δ s.heap g am) (hx : Sto c x) (hv : EV g am e v)
    (hQ : ∀ h' tk, St fr (upd Γ x e) Δ h' g am → (∀ b o, b ≠ fr.env.locals → b ∉ fr.oc → s.heap.get? b = some o → h'.get? b = some o) → Q () { s with heap := h', toks := tk }) : W c fr (storeName fr.env x v) Q s := by
  obtain ⟨m, hn, hp⟩ := S.loc
  have hk : fr.env.scope.kind = .function := O.sc ▸ O.kind
  rcases hx with hx | hx
  · have hl : fr.env.kindOf x = some .local := by unfold Env.kindOf; rw [O.sc]; exact hx
    refine wpAny_storeName_local hl hn (fun h' hn' hs => hQ h' _ ?_ fun b o h1 _ h3 => (hs.2 b h1).trans h3) O.notcls
    have up : ∀ b o, b ≠ fr.env.locals → s.heap.get? b = some o → h'.get? b = some o := fun b o hb e => (hs.2 b hb).trans e
    have neL : ∀ {b o}, fr.h₀.get? b = some o → b ≠ fr.env.locals := fun e q => by rw [q, S.hL] at e; cases e
    refine { S with keep := fun b o e => up b o (neL e) (S.keep b o e), sub := fun b o e => up b o (fun q => by rw [q, S.gL] at e; cases e) (S.sub b o e), loc := ⟨_, hn', fun p hm => ?_⟩, ocs := fun a ha => ?_, muts := fun i a ds h1 h2 => ?_ }
    · rcases upd_cases hm with rfl | ⟨hm, hne⟩
      · exact ⟨v, hv, .loc hl (by simp)⟩
      · obtain ⟨u, h1, h2⟩ := hp p hm
        refine ⟨u, h1, ?_⟩
        cases h2 with
        | loc h3 h4 => exact .loc h3 (by rw [if_neg hne]; exact h4)
        | ocell a h3 h4 h5 h6 => exact .ocell a h3 h4 h5 (h6.sameBut hs (S.ocs a h5).2.2.2.1)
        | cell a h3 h4 h6 => exact .cell a h3 h4 h6
    · obtain ⟨⟨w, hw⟩, r⟩ := S.ocs a ha
      exact ⟨⟨w, hw.sameBut hs r.2.2.1⟩, r⟩
    · obtain ⟨⟨vs, n, ho, r⟩, h3, h4, h5⟩ := S.muts i a ds h1 h2
      exact ⟨⟨vs, n, up _ _ h3 ho, r⟩, h3, h4, h5⟩
  · obtain ⟨hkx, a, hc, ha⟩ := O.ocn x hx
    obtain ⟨⟨w, hw⟩, hga, h0a, hLa, hma⟩ := S.ocs a ha
    have hl : fr.env.kindOf x = some .cell := by unfold Env.kindOf; rw [O.sc]; exact hkx
    refine wpAny_storeName_cell hk hl hc hw (fun h' hc' hs => hQ h' s.toks ?_ fun b o _ h2 h3 => (hs.2 b fun q => h2 (q ▸ ha)).trans h3)
    have up : ∀ b o, b ≠ a → s.heap.get? b = some o → h'.get? b = some o := fun b o hb e => (hs.2 b hb).trans e
    refine { S with keep := fun b o e => up b o (fun q => by rw [q, h0a] at e; cases e) (S.keep b o e), sub := fun b o e => up b o (fun q => by rw [q, hga] at e; cases e) (S.sub b o e), loc := ⟨m, hn.sameBut hs (Ne.symm hLa), fun p hm => ?_⟩, ocs := fun a' ha' => ?_, muts := fun i a' ds h1 h2 => ?_ }
    · rcases upd_cases hm with rfl | ⟨hm, hne⟩
      · exact ⟨v, hv, .ocell a hl hc ha hc'⟩
      · obtain ⟨u, h1, h2⟩ := hp p hm
        refine ⟨u, h1, ?_⟩
        cases h2 with
        | loc h3 h4 => exact .loc h3 h4
        | ocell a' h3 h4 h5 h6 => exact .ocell a' h3 h4 h5 (h6.sameBut hs fun q => hne (O.ocu _ _ a (q ▸ h4) hc ha))
        | cell a' h3 h4 h6 => exact .cell a' h3 h4 h6
    · obtain ⟨⟨w', hw'⟩, r⟩ := S.ocs a' ha'
      by_cases q : a' = a
      · subst q; exact ⟨⟨_, hc'⟩, r⟩
      · exact ⟨⟨w', hw'.sameBut hs q⟩, r⟩
    · obtain ⟨⟨vs, n, ho, r⟩, h3, h4, h5⟩ := S.muts i a' ds h1 h2
      exact ⟨⟨vs, n, up _ _ (fun q => hma (q ▸ List.mem_of_getElem? h1)) ho, r⟩, h3, h4, h5⟩

/-! blocks -/
theorem exs_nil (h : P .next Γ Δ) : Exs c Γ Δ [] P := fun fr s g am O S Q hQ => wpAny_execs_nil (hQ .next .next Γ Δ s.heap g am s.toks h .next S)
theorem exs_weak {Γ₀ : Gam} {b : List Stmt} (k : ∀ p ∈ Γ₀, p ∈ Γ) (h : Exs c Γ₀ Δ b P) : Exs c Γ Δ b P := fun fr s g am O S Q hQ => h fr s g am O (S.weak k) Q hQ
theorem exs_mono {b : List Stmt} {P' : Post} (h : Exs c Γ Δ b P') (k : ∀ o Γ' Δ', P' o Γ' Δ' → P o Γ' Δ') : Exs c Γ Δ b P := fun fr s g am O S Q hQ =>
  h fr s g am O S Q fun o f Γ' Δ' h' g' am' tk hp => hQ o f Γ' Δ' h' g' am' tk (k _ _ _ hp)
/-- behind a statement -/
def Then (c : Cfg) (rest : List Stmt) (P : Post) : Post := fun o Γ' Δ' => match o with
  | .next => Exs c Γ' Δ' rest P
  | o => P o Γ' Δ'
theorem exs_cons {st : Stmt} {rest : List Stmt} (h : Ex1 c Γ Δ st (Then c rest P)) : Exs c Γ Δ (st :: rest) P := fun fr s g am O S Q hQ => by
  refine wpAny_execs_cons (h fr s g am O S _ fun o f Γ' Δ' h' g' am' tk hp hf S' => ?_)
  cases hf with
  | next => exact hp fr _ g' am' O S' Q fun o f Γ'' Δ'' h'' g'' am'' tk'' hp hf S'' => hQ o f Γ'' Δ'' h'' g'' am'' tk'' hp hf S''
  | brk => exact hQ _ _ _ _ _ _ _ _ hp .brk S'
  | cont => exact hQ _ _ _ _ _ _ _ _ hp .cont S'
  | ret d v r => exact hQ _ _ _ _ _ _ _ _ hp (.ret d v r) S'

/-! statements -/
theorem ex_assign {x : Str} {p : Pos} {value : Expr} {pos : Pos} {d : D} (hv : EvF c Γ Δ value d) (hx : Sto c x) (h : P .next (upd Γ x (.d d)) Δ)
    (hs : ∀ env, swapsWith value (some (.Name x p)) pos.line env = pure false := by intro _; rfl) : Ex1 c Γ Δ (.Assign [.Name x p] value pos) P := fun fr s g am O S Q hQ =>
  wpAny_Assign_Name (hv fr s g am O S _ fun v h1 g1 t1 k1 r1 => w_store O (S.gr k1) hx (.d d v r1) fun h2 t2 S2 _ => hQ .next .next _ _ h2 g1 am t2 h .next S2) (hs _)

theorem ex_if {t : Expr} {a b : List Stmt} {pos : Pos} {x : Bool} (ht : EvT c Γ Δ t x) (h1 : x = true → Exs c Γ Δ a P) (h2 : x = false → Exs c Γ Δ b P) : Ex1 c Γ Δ (.If t a b pos) P := fun fr s g am O S Q hQ =>
  wpAny_If (ht fr s g am O S _ fun h' g1 t1 k1 => by
    cases x with
    | true => exact h1 rfl fr _ g1 am O (S.gr k1) Q fun o f Γ'' Δ'' h'' g'' am'' tk'' hp hf S'' => hQ o f Γ'' Δ'' h'' g'' am'' tk'' hp hf S''
    | false => exact h2 rfl fr _ g1 am O (S.gr k1) Q fun o f Γ'' Δ'' h'' g'' am'' tk'' hp hf S'' => hQ o f Γ'' Δ'' h'' g'' am'' tk'' hp hf S'')

theorem ex_ret {e : Expr} {pos : Pos} {d : D} (hv : EvF c Γ Δ e d) (h : P (.ret d) Γ Δ) : Ex1 c Γ Δ (.Return (some e) pos) P := fun fr s g am O S Q hQ =>
  wpAny_Return_some (hv fr s g am O S _ fun v h1 g1 t1 k1 r1 => hQ (.ret d) _ Γ Δ h1 g1 am t1 h (.ret d v r1) (S.gr k1))
theorem ex_brk {pos : Pos} (h : P .brk Γ Δ) : Ex1 c Γ Δ (.Break pos) P := fun fr s g am O S Q hQ => wpAny_Break (hQ .brk .brk Γ Δ s.heap g am s.toks h .brk S)
theorem ex_assert {e : Expr} {m : Option Expr} {pos : Pos} (hv : EvT c Γ Δ e true) (h : P .next Γ Δ) : Ex1 c Γ Δ (.Assert e m pos) P := fun fr s g am O S Q hQ =>
  wpAny_Assert_holds (hv fr s g am O S _ fun h1 g1 t1 k1 => ⟨rfl, hQ .next .next Γ Δ h1 g1 am t1 h .next (S.gr k1)⟩)

/-- x += e, ints -/
theorem ex_aug {x : Str} {p : Pos} {e : Expr} {pos : Pos} {a b : Int} (hm : (x, V.d (.int a)) ∈ Γ) (hv : Ev c Γ Δ e (.int b)) (hx : Sto c x) (h : P .next (upd Γ x (.d (.int (a + b)))) Δ)
    (hc : (x == ("__classdict__" : Str)) = false := by decide) : Ex1 c Γ Δ (.AugAssign (.Name x p) .Add e pos) P := fun fr s g am O S Q hQ => by
  obtain ⟨m, hn, hp⟩ := S.loc
  obtain ⟨u, h1, h2⟩ := hp _ hm
  cases h1 with
  | d d u r =>
    cases r with
    | int i t => exact wpAny_AugAssign_Name (load_At O S hn h2 hc (hv fr s g am O S _ fun v h1 g1 t1 k1 r1 => by
        obtain ⟨t', rfl⟩ := rint r1
        exact iadd_int (w_store O (S.gr k1) hx (.d _ _ (.int _ _)) fun h2 t2 S2 _ => hQ .next .next _ _ h2 g1 am t2 h .next S2)))

/-! while -/
theorem ex_while {t : Expr} {b : List Stmt} {pos : Pos} (I : Nat → Gam → Del → Prop)
    (turn : ∀ n Γ₁ Δ₁, I n Γ₁ Δ₁ → ∃ x, EvT c Γ₁ Δ₁ t x ∧ (x = false → P .next Γ₁ Δ₁) ∧ (x = true → Exs c Γ₁ Δ₁ b fun o Γ₂ Δ₂ => match o with
      | .next | .cont => ∃ n', n' < n ∧ ∃ Γ₃, (∀ p ∈ Γ₃, p ∈ Γ₂) ∧ I n' Γ₃ Δ₂
      | .brk => P .next Γ₂ Δ₂
      | .ret d => P (.ret d) Γ₂ Δ₂)) (n : Nat) (h : I n Γ Δ) : Ex1 c Γ Δ (.While t b [] pos) P := fun fr s g am O S Q hQ => by
  refine wpAny_While (codeAny_whileLoop (fun n s' => ∃ Γ₁ Δ₁ h₁ g₁ am₁ tk₁, s' = { s with heap := h₁, toks := tk₁ } ∧ St fr Γ₁ Δ₁ h₁ g₁ am₁ ∧ I n Γ₁ Δ₁) ?_ n ⟨Γ, Δ, s.heap, g, am, s.toks, rfl, S, h⟩)
  rintro n s' ⟨Γ₁, Δ₁, h₁, g₁, am₁, tk₁, rfl, S₁, hI⟩
  obtain ⟨x, ht, hf, hb⟩ := turn n Γ₁ Δ₁ hI
  refine wpAny_passesOwn .never (ht fr _ g₁ am₁ O S₁ _ fun h2 g2 t2 k2 => ?_)
  cases x with
  | false =>
    simp only [Bool.false_eq_true, if_false]
    exact wpAny_execs_nil (hQ .next .next _ _ h2 g2 am₁ t2 (hf rfl) .next (S₁.gr k2))
  | true =>
    simp only [if_true]
    refine wpAny_passesOwn .never (hb rfl fr _ g2 am₁ O (S₁.gr k2) _ fun o f Γ₂ Δ₂ h3 g3 am3 t3 hp hf S3 => ?_)
    cases hf with
    | next => obtain ⟨n', hn, Γ₃, hw, hi⟩ := hp; exact ⟨n', hn, Γ₃, Δ₂, h3, g3, am3, t3, rfl, S3.weak hw, hi⟩
    | cont => obtain ⟨n', hn, Γ₃, hw, hi⟩ := hp; exact ⟨n', hn, Γ₃, Δ₂, h3, g3, am3, t3, rfl, S3.weak hw, hi⟩
    | brk => exact hQ .next .next _ _ h3 g3 am3 t3 hp .next S3
    | ret d v r => exact hQ (.ret d) _ _ _ h3 g3 am3 t3 hp (.ret d v r) S3
end Mine

set_option maxRecDepth 100000
set_option autoImplicit false
set_option linter.unusedVariables false
namespace Mine
open PySem PySem.W PySem.Calls PyProof.Rows
variable {c : Cfg} {Γ : Gam} {Δ : Del} {P : Post}

/-! arguments -/
inductive EvFs (c : Cfg) (Γ : Gam) (Δ : Del) : List Expr → List D → Prop
  | nil : EvFs c Γ Δ [] []
  | cons {e : Expr} {d : D} {es : List Expr} {ds : List D} (h : EvF c Γ Δ e d) (t : EvFs c Γ Δ es ds) (he : ∀ env, starEach (e :: es) env = (false, eval e env) :: starEach es env := by intro _; rfl) : EvFs c Γ Δ (e :: es) (d :: ds)
inductive EvSs (c : Cfg) (Γ : Gam) (Δ : Del) : List Expr → List D → Prop
  | nil : EvSs c Γ Δ [] []
  | cons {e : Expr} {d : D} {es : List Expr} {ds : List D} (h : Ev c Γ Δ e d) (t : EvSs c Γ Δ es ds) (he : ∀ env, starEach (e :: es) env = (false, eval e env) :: starEach es env := by intro _; rfl) : EvSs c Γ Δ (e :: es) (d :: ds)
inductive RepSs (h : Heap) (g : Fz) : List D → List Value → Prop
  | nil : RepSs h g [] []
  | cons {x : D} {v : Value} {xs : List D} {vs : List Value} (r : RepS h g x v) (t : RepSs h g xs vs) : RepSs h g (x :: xs) (v :: vs)

theorem w_args {fr : Frm} {am : List Addr} {pos : Pos} : ∀ {es : List Expr} {ds : List D} (_ : EvFs c Γ Δ es ds) {s : Shared} {g : Fz} (_ : Okf c fr) (_ : St fr Γ Δ s.heap g am) {Q : List Value → Shared → Prop}
    (_ : ∀ vs h' g' tk, Gr s.heap g h' g' → Reps g' ds vs → Q vs { s with heap := h', toks := tk }), W c fr (spliced (backTo pos (starEach es fr.env))) Q s
  | _, _, .nil, s, g, O, S, Q, hQ => args_nil (hQ [] s.heap g s.toks (.refl S.sub) .nil)
  | _, _, .cons h t he, s, g, O, S, Q, hQ => args_cons (h fr s g am O S _ fun v h1 g1 t1 k1 r1 => w_args t O (S.gr k1) fun vs h2 g2 t2 k2 r2 => hQ _ h2 g2 t2 (k1.trans k2) (.cons (r1.mono k2.gk) r2)) (he _)
/-! calls of the text's own defs -/
structure Spec (X : GCtx) (f : Str) (n : Nat) (ds : List D) (d : D) : Prop where
  df : ∃ dr ∈ X.defs, dr.name = f
  run : ∀ (A : Around) (s : Shared) (g : Fz) (fa : Addr) (vs : List Value), A.handled = none → A.depth + n < recursionLimit → A.units + 8 * n + 200 < cLine → Glo X s.heap → (∀ b o, g b = some o → s.heap.get? b = some o) →
    X.mg f = some (.ref fa) → Reps g ds vs → ∀ Q : Value → Shared → Prop, (∀ v h' g' tk, Gr s.heap g h' g' → Rep g' d v → Q v { s with heap := h', toks := tk }) →
    wpAny (model X.prog X.w) A (call (.ref fa) vs) Q (fun _ _ => False) s

theorem Glo.keeps {X : GCtx} {h h' : Heap} (G : Glo X h) (k : ∀ b o, h.get? b = some o → h'.get? b = some o) : Glo X h' :=
  ⟨G.g.keeps k, G.b.keeps k, G.nolimit.keeps k, fun d hd => let ⟨a, o, pm, code, doc, h1, h2, h3, h4⟩ := G.fn d hd; ⟨a, o, pm, code, doc, h1, k _ _ h2, h3, h4.keeps k⟩, G.bl, X.tmk _ _ k G.tm⟩

theorem ev_call {f : Str} {p pos : Pos} {m : Nat} {e : Expr} {es : List Expr} {ds : List D} {d : D} (ha : EvFs c Γ Δ (e :: es) ds) (hs : Spec c.X f m ds d) (hm : m ≤ c.n) (hk : c.sc.names.lookup f = some .globalImplicit)
    (hd : (f == ("__debug__" : Str)) = false := by decide) (hh : c.hd = true := by rfl) (he : ∀ env, starEach (e :: es) env = (false, eval e env) :: starEach es env := by intro _; rfl) : EvF c Γ Δ (.Call (.Name f p) (e :: es) [] pos) d := fun fr s g am O S Q hQ => by
  obtain ⟨dr, hdr, hf⟩ := hs.df
  obtain ⟨a, o, pm, code, doc, h1, h2, h3, h4⟩ := O.glo.fn dr hdr
  rw [hf] at h1
  refine Call_ (Name_function_global (O.sc ▸ O.kind) (by unfold Env.kindOf; rw [O.sc]; exact hk) (loadGlobal_global (O.glob ▸ (O.glo.g.keeps S.keep)) h1 (callWith_def h3 (w_args ha O S fun vs h' g' tk k r => ⟨?_, ?_⟩) (he _))) hd)
  · exact k.hk _ _ (S.keep _ _ h2)
  · have S' := S.gr k
    have hu := O.units
    have hdp := O.depth
    exact hs.run fr.A _ g' a vs (O.hand hh) (by omega) (by omega) (O.glo.keeps S'.keep) k.sub h1 r Q fun v h2 g2 t2 k2 r2 => hQ v h2 g2 t2 (k.trans k2) r2

theorem bindL_off {kindOf : Str → Option NameKind} {x : Str} : ∀ (bs : List (Str × Value)) (m : Str → Option Value), x ∉ bs.map (·.1) → bindL kindOf bs m x = m x
  | [], m, _ => rfl
  | (n, v) :: r, m, h => by
    simp only [List.map_cons, List.mem_cons, not_or] at h
    unfold bindL
    rw [bindL_off r _ h.2]
    split
    · exact if_neg h.1
    · rfl
theorem bindC_off {kindOf : Str → Option NameKind} {x : Str} : ∀ (bs : List (Str × Value)) (m : Str → Option Value), x ∉ bs.map (·.1) → bindC kindOf bs m x = m x
  | [], m, _ => rfl
  | (n, v) :: r, m, h => by
    simp only [List.map_cons, List.mem_cons, not_or] at h
    unfold bindC
    rw [bindC_off r _ h.2]
    split
    · rfl
    · exact if_neg h.1
theorem bindL_at {kindOf : Str → Option NameKind} {x : Str} {v : Value} (hk : kindOf x = some .local) : ∀ (bs : List (Str × Value)) (m : Str → Option Value), (bs.map (·.1)).Nodup → (x, v) ∈ bs → bindL kindOf bs m x = some v
  | (n, u) :: r, m, hn, h => by
    simp only [List.map_cons, List.nodup_cons] at hn
    unfold bindL
    rcases List.mem_cons.mp h with e | h
    · cases e
      rw [bindL_off r _ hn.1, if_pos hk]
      exact if_pos rfl
    · exact bindL_at hk r _ hn.2 h
theorem bindC_at {kindOf : Str → Option NameKind} {x : Str} {v : Value} (hk : kindOf x = some .cell) : ∀ (bs : List (Str × Value)) (m : Str → Option Value), (bs.map (·.1)).Nodup → (x, v) ∈ bs → bindC kindOf bs m x = some v
  | (n, u) :: r, m, hn, h => by
    simp only [List.map_cons, List.nodup_cons] at hn
    unfold bindC
    rcases List.mem_cons.mp h with e | h
    · cases e
      rw [bindC_off r _ hn.1, if_neg (by rw [hk]; decide)]
      exact if_pos rfl
    · exact bindC_at hk r _ hn.2 h
theorem zip_fst : ∀ (xs : List Str) (vs : List Value), vs.length = xs.length → (xs.zip vs).map (·.1) = xs
  | [], _, _ => by simp
  | x :: xs, [], h => by simp at h
  | x :: xs, v :: vs, h => by simp only [List.zip_cons_cons, List.map_cons]; rw [zip_fst xs vs (by simpa using h)]
theorem zip_rep {g : Fz} : ∀ (xs : List Str) {ds : List D} {vs : List Value}, Reps g ds vs → ∀ p ∈ xs.zip (ds.map V.d), ∃ v, (p.1, v) ∈ xs.zip vs ∧ ∀ am, EV g am p.2 v
  | [], _, _, _, p, h => by simp at h
  | x :: xs, _, _, .nil, p, h => by simp at h
  | x :: xs, _, _, .cons r t, p, h => by
    simp only [List.map_cons, List.zip_cons_cons, List.mem_cons] at h
    rcases h with rfl | h
    · exact ⟨_, by simp, fun am => .d _ _ r⟩
    · obtain ⟨v, h1, h2⟩ := zip_rep xs t p h
      exact ⟨v, by simp [h1], h2⟩

theorem pairwise_uniq {x y : Str} {a : Addr} : ∀ {cs : List (Str × Addr)}, (cs.Pairwise fun x y => x.2 ≠ y.2) → cs.lookup x = some a → cs.lookup y = some a → x = y := fun hp h1 h2 => name_of_addr hp (mem_of_lookup h1) (mem_of_lookup h2)

def ownCells (sc : Scope) : List Str := (sc.names.filter fun p => p.2 == .cell).map (·.1)
theorem mem_cellsFrom {x : Str} : ∀ (names : List (Str × NameKind)) (n : Nat) (acc : List (Str × Addr)), (x, NameKind.cell) ∈ names ∨ (acc.lookup x).isSome = true → ((cellsFrom n names acc).lookup x).isSome = true
  | [], _, _, h => h.elim (fun e => nomatch e) id
  | (y, k) :: r, n, acc, h => by
    unfold cellsFrom
    by_cases hk : (k == .cell) = true
    · rw [if_pos hk]
      refine mem_cellsFrom r (n + 1) ((y, n) :: acc) ?_
      by_cases hy : (x == y) = true
      · exact .inr (by rw [List.lookup_cons, hy]; rfl)
      · refine h.imp (fun e => ?_) fun e => ?_
        · rcases List.mem_cons.mp e with e | e
          · cases e; simp at hy
          · exact e
        · rw [List.lookup_cons]; simpa only [hy] using e
    · rw [if_neg hk]
      refine mem_cellsFrom r n acc (h.imp (fun e => ?_) id)
      rcases List.mem_cons.mp e with e | e
      · cases e; simp at hk
      · exact e

/-- a def by its body -/
theorem spec_def {X : GCtx} {dr : DefRec} {n : Nat} {ps : List Str} {ds : List D} {d : D} (hdr : dr ∈ X.defs) (hlen : ds.length = ps.length)
    (hbind : ∀ pm code doc vs, vs.length = ps.length → bindArgs (docDef dr.name dr.params dr.body dr.scope pm code doc) ⟨vs, []⟩ = pure (ps.zip vs)) (hps : ps.Nodup)
    (hloc : ∀ x ∈ ps, dr.scope.names.lookup x = some .local ∨ dr.scope.names.lookup x = some .cell) (hnc : ∀ x ∈ ownCells dr.scope, dr.scope.names.lookup x = some .cell) (hnd : ((cellsFrom 0 dr.scope.names []).map (·.1)).Nodup)
    (hnf : ∀ p ∈ dr.scope.names, p.2 ≠ .free) (hk : dr.scope.kind = .function) (hco : dr.scope.isCoroutine = false) (hgen : dr.scope.isGenerator = false)
    (h : Exs ⟨X, n, dr.scope, ownCells dr.scope, true, false⟩ (ps.zip (ds.map V.d)) [] dr.body fun o _ _ => match o with | .ret d' => d' = d | _ => False) : Spec X dr.name (n + 1) ds d := by
  refine ⟨⟨dr, hdr, rfl⟩, fun A s g fa vs hA hdp hu G hs hmg hr Q hQ => ?_⟩
  obtain ⟨a, o, pm, code, doc, h1, h2, h3, h4⟩ := G.fn dr hdr
  rw [hmg] at h1
  cases h1
  have hvl : vs.length = ps.length := hr.length.trans hlen
  have hfst := zip_fst ps vs hvl
  refine wpAny_call (codeAny_call_cells (fd := docDef dr.name dr.params dr.body dr.scope pm code doc) (body := dr.body) (binds := ps.zip vs) (by omega) h2 h3 G.nolimit h4 rfl (hbind pm code doc vs hvl) rfl (fun x hx => ?_) (fun s₁ ic => ?_) hco hgen hk)
  · have hx' : x.1 ∈ ps := hfst ▸ List.mem_map_of_mem hx
    rcases hloc _ hx' with e | e
    · exact .inl e
    · exact .inr ⟨e, mem_cellsFrom _ _ _ (.inl (mem_of_lookup e))⟩
  · obtain ⟨h₁, tk, rfl, hkeep⟩ := ic.done
    let env : Env := callEnvC (docDef dr.name dr.params dr.body dr.scope pm code doc) s.heap.objs.size fa
    let fr : Frm := ⟨A.deeper env, env, s.heap, g, env.cells.map (·.2), s.heap⟩
    have hL : s.heap.get? s.heap.objs.size = none := by
      cases q : s.heap.get? s.heap.objs.size with
      | none => rfl
      | some o => exact absurd (Heap.lt_size q) (Nat.lt_irrefl _)
    have fresh : ∀ b, s.heap.objs.size ≤ b → s.heap.get? b = none := fun b hb => by
      cases q : s.heap.get? b with
      | none => rfl
      | some o => exact absurd (Heap.lt_size q) (Nat.not_lt.mpr hb)
    have gfresh : ∀ b, s.heap.get? b = none → g b = none := fun b hb => by
      cases q : g b with
      | none => rfl
      | some o => rw [hs b o q] at hb; cases hb
    have O : Okf ⟨X, n, dr.scope, ownCells dr.scope, true, false⟩ fr := by
      refine ⟨fun _ => hA, (fun h => nomatch h), ?_, ?_, rfl, hk, rfl, rfl, G, fun _ _ e => e, fun x hx => ⟨hnc x hx, ?_⟩, fun x hx => ?_, fun x y a e1 e2 _ => pairwise_uniq ic.apart e1 e2⟩
      · have e : fr.A.depth = A.depth + 1 := rfl
        have e2 : (⟨X, n, dr.scope, ownCells dr.scope, true, false⟩ : Cfg).n = n := rfl
        rw [e, e2]; omega
      · have e : fr.A.units = A.units + 3 := rfl
        have e2 : (⟨X, n, dr.scope, ownCells dr.scope, true, false⟩ : Cfg).n = n := rfl
        rw [e, e2]; omega
      · obtain ⟨p, hp, rfl⟩ := List.mem_map.mp hx
        obtain ⟨hp1, hp2⟩ := List.mem_filter.mp hp
        have e : p.2 = .cell := by simpa using hp2
        have this : (p.1, NameKind.cell) ∈ dr.scope.names := by rw [← e]; exact hp1
        obtain ⟨a, ha⟩ := Option.isSome_iff_exists.mp (mem_cellsFrom (x := p.1) dr.scope.names (s.heap.objs.size + 1) [] (.inl this))
        exact ⟨a, ha, List.mem_map.mpr ⟨_, mem_of_lookup ha, rfl⟩⟩
      · rcases hx with e | e
        · obtain ⟨a, ha⟩ := Option.isSome_iff_exists.mp (mem_cellsFrom (x := x) dr.scope.names (s.heap.objs.size + 1) [] (.inl (mem_of_lookup e)))
          exact ⟨a, ha, .inl (List.mem_map.mpr ⟨_, mem_of_lookup ha, rfl⟩)⟩
        · exact absurd rfl (hnf _ (mem_of_lookup e))
    have S : St fr (ps.zip (ds.map V.d)) [] h₁ g [] := by
      refine ⟨hkeep, fun b o e => hkeep b o (hs b o e), fun _ _ e => e, fun _ _ e => .inl e, gfresh _ hL, hL, ⟨_, ic.toInCall.ns, fun p hp => ?_⟩, fun a ha => ?_, rfl, List.nodup_nil, fun i a ds h1 _ => by simp at h1⟩
      · obtain ⟨v, hv, he⟩ := zip_rep ps hr p hp
        have hx : p.1 ∈ ps := hfst ▸ List.mem_map_of_mem hv
        refine ⟨v, he _, ?_⟩
        rcases hloc _ hx with e | e
        · exact .loc e (bindL_at (kindOf := env.kindOf) e _ _ (by rw [hfst]; exact hps) hv)
        · obtain ⟨a, ha⟩ := Option.isSome_iff_exists.mp (mem_cellsFrom (x := p.1) dr.scope.names (s.heap.objs.size + 1) [] (.inl (mem_of_lookup e)))
          have hc := ic.cell _ _ ha
          rw [bindC_at (kindOf := env.kindOf) e _ _ (by rw [hfst]; exact hps) hv] at hc
          exact .ocell a e ha (List.mem_map.mpr ⟨_, mem_of_lookup ha, rfl⟩) hc
      · obtain ⟨q, hq, rfl⟩ := List.mem_map.mp ha
        have hlk : env.cells.lookup q.1 = some q.2 := lookup_of_mem_nodup (cellsFrom_names dr.scope.names 0 (s.heap.objs.size + 1) [] [] rfl ▸ hnd) hq
        have hab := ic.above _ _ hq
        have hn := fresh q.2 (Nat.le_of_lt hab)
        exact ⟨⟨_, ic.cell _ _ hlk⟩, gfresh _ hn, hn, Nat.ne_of_gt hab, by simp⟩
    refine wpAny_mono (h fr _ g [] O S (fun f s' => ∃ v, f = .ret v ∧ Q v s') fun o f Γ' Δ' h' g' am' tk' hp hf S' => ?_) (fun f s' hq => ?_) fun _ _ x => x.elim
    · cases hf with
      | ret d' v r => cases hp; exact ⟨v, rfl, hQ v h' g' tk' ⟨S'.keep, S'.gsub, S'.sub, S'.own⟩ r⟩
      | _ => exact hp.elim
    · obtain ⟨v, rfl, hq⟩ := hq; exact hq
end Mine

set_option maxRecDepth 100000
set_option autoImplicit false
set_option linter.unusedVariables false
namespace Mine
open PySem PySem.W PySem.Calls PyProof.Rows
variable {c : Cfg} {Γ : Gam} {Δ : Del} {P : Post}

theorem sizeLine_lit : sizeLine = 16777216 := by decide

theorem St.addMut {fr : Frm} {h h' : Heap} {g : Fz} {am : List Addr} {a : Addr} {vs : List Value} {n : Nat} {ds : List D} (S : St fr Γ Δ h g am) (k : ∀ b o, h.get? b = some o → h'.get? b = some o) (hn : h.get? a = none)
    (ha : h'.get? a = some (lstO vs n)) (hr : Reps g ds vs) : St fr Γ (Δ ++ [ds]) h' g (am ++ [a]) := by
  have S' := S.gr (Gr.heap S.sub k)
  have h0 : fr.h₀.get? a = none := by
    cases q : fr.h₀.get? a with
    | none => rfl
    | some o => rw [S.keep a o q] at hn; cases hn
  have hg : g a = none := by
    cases q : g a with
    | none => rfl
    | some o => rw [S.sub a o q] at hn; cases hn
  have hL : a ≠ fr.env.locals := fun e => by
    obtain ⟨m, hns, _⟩ := S.loc
    obtain ⟨o, ho⟩ := Heap.Ns.get hns
    rw [e, ho] at hn; cases hn
  have ham : a ∉ am := fun hm => by
    obtain ⟨i, hi, e⟩ := List.mem_iff_getElem.mp hm
    have e1 : am[i]? = some a := by rw [List.getElem?_eq_getElem hi, e]
    have e2 : Δ[i]? = some (Δ[i]'(S.len ▸ hi)) := List.getElem?_eq_getElem (S.len ▸ hi)
    obtain ⟨⟨vs, n, ho, _⟩, _⟩ := S.muts i a _ e1 e2
    rw [ho] at hn; cases hn
  refine { S' with loc := ?_, ocs := fun b hb => ?_, len := by simp [S.len], nd := ?_, muts := fun i b ds' h1 h2 => ?_ }
  · obtain ⟨m, hns, hp⟩ := S'.loc
    exact ⟨m, hns, fun p hm => let ⟨v, e1, e2⟩ := hp p hm; ⟨v, e1.mono fun _ _ e => e, e2⟩⟩
  · obtain ⟨⟨v, hv⟩, r1, r2, r3, r4⟩ := S.ocs b hb
    refine ⟨⟨v, hv.keeps k⟩, r1, r2, r3, fun hm => ?_⟩
    rcases List.mem_append.mp hm with hm | hm
    · exact r4 hm
    · obtain ⟨o, ho, _⟩ := hv
      rw [List.mem_singleton.mp hm, hn] at ho; cases ho
  · exact List.nodup_append.mpr ⟨S.nd, by simp, fun x hx y hy e => ham (by rw [List.mem_singleton.mp hy] at e; exact e ▸ hx)⟩
  · by_cases hlt : i < am.length
    · rw [List.getElem?_append_left hlt] at h1
      rw [List.getElem?_append_left (S.len ▸ hlt)] at h2
      exact S'.muts i b ds' h1 h2
    · have hi : i = am.length := by
        have := (List.getElem?_eq_some_iff.mp h1).1
        simp at this; omega
      subst hi
      rw [List.getElem?_append_right (Nat.le_refl _)] at h1
      rw [S.len, List.getElem?_append_right (Nat.le_refl _)] at h2
      simp at h1 h2
      subst h1 h2
      exact ⟨⟨vs, n, ha, hr⟩, hL, h0, hg⟩

theorem St.setMut {fr : Frm} {h h' : Heap} {g : Fz} {am : List Addr} {a : Addr} {i : Nat} {vs : List Value} {n : Nat} {ds : List D} (S : St fr Γ Δ h g am) (hi : am[i]? = some a) (hs : Heap.SameBut a h h')
    (ha : h'.get? a = some (lstO vs n)) (hr : Reps g ds vs) : St fr Γ (Δ.set i ds) h' g am := by
  have hlt := (List.getElem?_eq_some_iff.mp hi).1
  have M := S.muts i a _ hi (List.getElem?_eq_getElem (S.len ▸ hlt))
  have up : ∀ b o, b ≠ a → h.get? b = some o → h'.get? b = some o := fun b o hb e => (hs.2 b hb).trans e
  obtain ⟨m, hns, hp⟩ := S.loc
  refine { S with keep := fun b o e => up b o (fun q => by rw [q, M.new] at e; cases e) (S.keep b o e), sub := fun b o e => up b o (fun q => by rw [q, M.free] at e; cases e) (S.sub b o e), loc := ⟨m, hns.sameBut hs (Ne.symm M.ne), fun p hm => ?_⟩, ocs := fun b hb => ?_, len := by simp [S.len], muts := fun j b ds' h1 h2 => ?_ }
  · obtain ⟨v, e1, e2⟩ := hp p hm
    refine ⟨v, e1, ?_⟩
    cases e2 with
    | loc h3 h4 => exact .loc h3 h4
    | ocell b h3 h4 h5 h6 => exact .ocell b h3 h4 h5 (h6.sameBut hs fun q => (S.ocs b h5).2.2.2.2 (q ▸ List.mem_of_getElem? hi))
    | cell b h3 h4 h6 => exact .cell b h3 h4 h6
  · obtain ⟨⟨v, hv⟩, r⟩ := S.ocs b hb
    exact ⟨⟨v, hv.sameBut hs fun q => r.2.2.2 (q ▸ List.mem_of_getElem? hi)⟩, r⟩
  · by_cases hij : i = j
    · subst hij
      rw [hi] at h1
      cases h1
      rw [List.getElem?_set_self (S.len ▸ hlt)] at h2
      cases h2
      exact ⟨⟨vs, n, ha, hr⟩, M.ne, M.new, M.free⟩
    · rw [List.getElem?_set_ne hij] at h2
      obtain ⟨⟨vs', n', ho', hr'⟩, r1, r2, r3⟩ := S.muts j b ds' h1 h2
      refine ⟨⟨vs', n', up _ _ (fun q => ?_) ho', hr'⟩, r1, r2, r3⟩
      subst q
      have hlt' := (List.getElem?_eq_some_iff.mp h1).1
      have e1 : am[i] = am[j] := by
        have a1 := (List.getElem?_eq_some_iff.mp hi).2
        have a2 := (List.getElem?_eq_some_iff.mp h1).2
        rw [a1, a2]
      exact hij ((List.getElem_inj S.nd).mp e1)

/-! displays -/
theorem ev_list {es : List Expr} {ds : List D} {pos : Pos} (h : EvFs c Γ Δ es ds) (hz : ds.length ≤ sizeLine := by rw [sizeLine_lit]; simp) : EvF c Γ Δ (.List es pos) (.list ds) := fun fr s g am O S Q hQ =>
  List_ (w_args h O S fun vs h1 g1 t1 k1 r1 => wpAny_newList (hQ _ _ (g1.add _ _) _ (k1.trans (.add k1.sub (fun b o e => Heap.get?_push_of_some _ e) (by
    cases q : h1.get? h1.objs.size with
    | none => rfl
    | some o => exact absurd (Heap.lt_size q) (Nat.lt_irrefl _)) (Heap.get?_push_size _ rfl))) (.list ds _ vs 0 (Fz.add_self _ _ _) (r1.mono (Fz.add_keep (by
    cases q : g1 h1.objs.size with
    | none => rfl
    | some o => exact absurd (Heap.lt_size (k1.sub _ _ q)) (Nat.lt_irrefl _)))))) (by rw [r1.length]; exact hz))
theorem ev_tup {es : List Expr} {ds : List D} {k : Nat} {pos : Pos} (h : EvFs c Γ Δ es ds) (hz : ds.length ≤ sizeLine := by rw [sizeLine_lit]; simp) : EvF c Γ Δ (.Tuple es k pos) (.tup ds) := fun fr s g am O S Q hQ =>
  Tuple_ (w_args h O S fun vs h1 g1 t1 k1 r1 => wpAny_newTuple (hQ _ _ (g1.add _ _) _ (k1.trans (.add k1.sub (fun b o e => Heap.get?_push_of_some _ e) (by
    cases q : h1.get? h1.objs.size with
    | none => rfl
    | some o => exact absurd (Heap.lt_size q) (Nat.lt_irrefl _)) (Heap.get?_push_size _ rfl))) (.tup ds _ vs 0 (Fz.add_self _ _ _) (r1.mono (Fz.add_keep (by
    cases q : g1 h1.objs.size with
    | none => rfl
    | some o => exact absurd (Heap.lt_size (k1.sub _ _ q)) (Nat.lt_irrefl _)))))) (by rw [r1.length]; exact hz))
/-- a list that will turn -/
theorem ex_assign_list {x : Str} {p : Pos} {es : List Expr} {ds : List D} {lp pos : Pos} (hv : EvFs c Γ Δ es ds) (hx : Sto c x) (h : P .next (upd Γ x (.mu Δ.length)) (Δ ++ [ds])) (hz : ds.length ≤ sizeLine := by rw [sizeLine_lit]; simp) :
    Ex1 c Γ Δ (.Assign [.Name x p] (.List es lp) pos) P := fun fr s g am O S Q hQ =>
  wpAny_Assign_Name (List_ (w_args hv O S fun vs h1 g1 t1 k1 r1 => wpAny_newList (by
    have S1 := (S.gr k1).addMut (h' := h1.push (lstO vs 0)) (a := h1.objs.size) (fun b o e => Heap.get?_push_of_some _ e) (by
      cases q : h1.get? h1.objs.size with
      | none => rfl
      | some o => exact absurd (Heap.lt_size q) (Nat.lt_irrefl _)) (Heap.get?_push_size _ rfl) r1
    exact w_store O S1 hx (.mu Δ.length h1.objs.size (by rw [← S.len, List.getElem?_append_right (Nat.le_refl _)]; simp)) fun h2 t2 S2 _ => hQ .next .next _ _ h2 g1 _ t2 h .next S2) (by rw [r1.length]; exact hz))) rfl
/-- x = y, y a list that turns -/
theorem ex_alias {x y : Str} {p q pos : Pos} {i : Nat} (hm : (y, V.mu i) ∈ Γ) (hx : Sto c x) (h : P .next (upd Γ x (.mu i)) Δ) (hd : (y == ("__debug__" : Str)) = false := by decide) (hc : (y == ("__classdict__" : Str)) = false := by decide) :
    Ex1 c Γ Δ (.Assign [.Name x p] (.Name y q) pos) P := fun fr s g am O S Q hQ => by
  obtain ⟨m, hn, hp⟩ := S.loc
  obtain ⟨v, h1, h2⟩ := hp _ hm
  exact wpAny_Assign_Name (wpAny_Name (load_At O S hn h2 hc (w_store O S hx h1 fun h2 t2 S2 _ => hQ .next .next _ _ h2 g _ t2 h .next S2)) hd) rfl

def Below1 (k : Nat) : V → Prop
  | .d _ => True
  | .mu i => i < k
  | .meth i => i < k
  | .arg _ => True
theorem St.freeze {fr : Frm} {h : Heap} {g : Fz} {am : List Addr} {a : Addr} {Γ' : Gam} {ds : List D} {vs : List Value} {n : Nat} (S : St fr Γ (Δ ++ [ds]) h g (am ++ [a])) (hl : am.length = Δ.length) (ho : h.get? a = some (lstO vs n)) (hr : Reps g ds vs)
    (hΓ : ∀ p ∈ Γ', (p ∈ Γ ∧ Below1 Δ.length p.2) ∨ (p.2 = .d (.list ds) ∧ (p.1, V.mu Δ.length) ∈ Γ)) : St fr Γ' Δ h (g.add a (lstO vs n)) am := by
  have M := S.muts am.length a ds (by simp) (by rw [hl]; simp)
  have ext : ∀ b o, g b = some o → (g.add a (lstO vs n)) b = some o := Fz.add_keep M.free
  obtain ⟨m, hns, hp⟩ := S.loc
  refine { S with sub := fun b o e => ?_, gsub := fun b o e => ext b o (S.gsub b o e), own := fun b o e => ?_, gL := ?_, loc := ⟨m, hns, fun p hm => ?_⟩, ocs := fun b hb => ?_, len := hl, nd := (List.nodup_append.mp S.nd).1, muts := fun i b ds' h1 h2 => ?_ }
  · unfold Fz.add at e
    by_cases hb : b = a
    · rw [if_pos hb] at e; cases e; exact hb ▸ ho
    · rw [if_neg hb] at e; exact S.sub b o e
  · unfold Fz.add at e
    by_cases hb : b = a
    · exact .inr (hb ▸ M.new)
    · rw [if_neg hb] at e; exact S.own b o e
  · unfold Fz.add; rw [if_neg (Ne.symm M.ne)]; exact S.gL
  · rcases hΓ p hm with ⟨hq, hb⟩ | ⟨he, hq⟩
    · obtain ⟨v, e1, e2⟩ := hp p hq
      refine ⟨v, ?_, e2⟩
      obtain ⟨x, e⟩ := p
      simp only at e1 hb ⊢
      cases e1 with
      | d d v r => exact .d _ _ (r.mono ext)
      | mu i b hi =>
        have hb' : i < Δ.length := hb
        rw [List.getElem?_append_left (hl ▸ hb')] at hi
        exact .mu i b hi
      | meth i b q o hi hq' ho' =>
        have hb' : i < Δ.length := hb
        rw [List.getElem?_append_left (hl ▸ hb')] at hi
        exact .meth i b q o hi (ext _ _ hq') ho'
      | arg ns b o us k ho' hc' hd' hI' => exact .arg ns b o us k (ext _ _ ho') hc' hd' hI'
    · obtain ⟨v, e1, e2⟩ := hp _ hq
      refine ⟨v, ?_, e2⟩
      rw [he]
      cases e1 with
      | mu i b hi =>
        rw [← hl, List.getElem?_append_right (Nat.le_refl _)] at hi
        simp at hi
        subst hi
        exact .d _ _ (.list ds a vs n (Fz.add_self _ _ _) (hr.mono ext))
  · obtain ⟨r1, r2, r3, r4, r5⟩ := S.ocs b hb
    refine ⟨r1, ?_, r3, r4, fun hm => r5 (List.mem_append_left _ hm)⟩
    unfold Fz.add
    have hne : b ≠ a := fun q => r5 (q ▸ List.mem_append_right _ (List.mem_singleton.mpr rfl))
    rw [if_neg hne]; exact r2
  · have hlt := (List.getElem?_eq_some_iff.mp h1).1
    obtain ⟨⟨vs', n', ho', hr'⟩, r1, r2, r3⟩ := S.muts i b ds' (by rw [List.getElem?_append_left hlt]; exact h1) (by rw [List.getElem?_append_left (hl ▸ hlt)]; exact h2)
    refine ⟨⟨vs', n', ho', hr'.mono ext⟩, r1, r2, ?_⟩
    unfold Fz.add
    have hne : b ≠ a := fun q => (List.nodup_append.mp S.nd).2.2 b (List.mem_of_getElem? h1) a (List.mem_singleton.mpr rfl) q
    rw [if_neg hne]
    exact r3

/-- the newest list turns no more -/
theorem exs_freeze {b : List Stmt} {Γ' : Gam} {ds : List D} (hΓ : ∀ p ∈ Γ', (p ∈ Γ ∧ Below1 Δ.length p.2) ∨ (p.2 = .d (.list ds) ∧ (p.1, V.mu Δ.length) ∈ Γ)) (h : Exs c Γ' Δ b P) : Exs c Γ (Δ ++ [ds]) b P := fun fr s g am O S Q hQ => by
  obtain ⟨am', a, rfl⟩ : ∃ am' a, am = am' ++ [a] := by
    have := S.len
    rcases List.eq_nil_or_concat am with e | ⟨l, x, e⟩
    · subst e; simp at this
    · exact ⟨l, x, by simp [e]⟩
  have hl : am'.length = Δ.length := by have := S.len; simpa using this
  obtain ⟨⟨vs, n, ho, hr⟩, _⟩ := S.muts am'.length a ds (by simp) (by rw [hl]; simp)
  exact h fr s _ am' O (S.freeze hl ho hr hΓ) Q hQ

/-- return a list that turned -/
theorem ex_ret_mu {x : Str} {p pos : Pos} {i : Nat} {ds : List D} (hm : (x, V.mu i) ∈ Γ) (hi : Δ[i]? = some ds) (h : P (.ret (.list ds)) [] []) (hd : (x == ("__debug__" : Str)) = false := by decide) (hc : (x == ("__classdict__" : Str)) = false := by decide) :
    Ex1 c Γ Δ (.Return (some (.Name x p)) pos) P := fun fr s g am O S Q hQ => by
  obtain ⟨m, hn, hp⟩ := S.loc
  obtain ⟨v, h1, h2⟩ := hp _ hm
  cases h1 with
  | mu i a ha =>
    obtain ⟨⟨vs, n, ho, hr⟩, hne, h0, hg⟩ := S.muts i a ds ha hi
    refine wpAny_Return_some (wpAny_Name (load_At O S hn h2 hc (hQ (.ret (.list ds)) _ [] [] s.heap (g.add a (lstO vs n)) [] s.toks h (.ret _ _ (.list ds a vs n (Fz.add_self _ _ _) (hr.mono (Fz.add_keep hg)))) ?_)) hd)
    refine ⟨S.keep, fun b o e => ?_, fun b o e => Fz.add_keep hg _ _ (S.gsub b o e), fun b o e => ?_, ?_, S.hL, ⟨m, hn, fun p hp => nomatch hp⟩, fun b hb => ?_, rfl, List.nodup_nil, fun i a ds h1 => by simp at h1⟩
    · unfold Fz.add at e
      by_cases hb : b = a
      · rw [if_pos hb] at e; cases e; exact hb ▸ ho
      · rw [if_neg hb] at e; exact S.sub b o e
    · unfold Fz.add at e
      by_cases hb : b = a
      · exact .inr (hb ▸ h0)
      · rw [if_neg hb] at e; exact S.own b o e
    · unfold Fz.add; rw [if_neg (Ne.symm hne)]; exact S.gL
    · obtain ⟨r1, r2, r3, r4, r5⟩ := S.ocs b hb
      refine ⟨r1, ?_, r3, r4, by simp⟩
      unfold Fz.add
      have hne' : b ≠ a := fun q => r5 (q ▸ List.mem_of_getElem? ha)
      rw [if_neg hne']; exact r2

/-! methods of a list that turns -/
theorem w_list_meth {fr : Frm} {s : Shared} {g : Fz} {am : List Addr} {x name : Str} {id : String} {p ap pos pos' : Pos} {i : Nat} {args : List Expr} {Q : Flow → Shared → Prop} (O : Okf c fr) (S : St fr Γ Δ s.heap g am) (hm : (x, V.mu i) ∈ Γ)
    (slot : Slot "list" name id) (hty : typeOf (.builtin id) = pure (.type "method_descriptor")) (hl : (ap.endLine == pos.line) = true) (hd : (x == ("__debug__" : Str)) = false) (hc : (x == ("__classdict__" : Str)) = false)
    (hb : attributeBase (.Name x p) name fr.env (eval (.Name x p) fr.env) = eval (.Name x p) fr.env)
    (hf : ((backTo pos (starEach args fr.env)).all (fun x => !x.1) && (backToKw pos (keywordEach [] fr.env)).all (fun x => x.1.isSome) && decide (args.length + ([] : List Keyword).length + (if ([] : List Keyword).isEmpty then 0 else 1) < 30)) = true)
    (h : ∀ a, am[i]? = some a → W c fr (callWith pos (.builtin id) [.ref a] (backTo pos (starEach args fr.env)) []) (fun _ => Q .next) s) : W c fr (exec (.Expr (.Call (.Attribute (.Name x p) name ap) args [] pos) pos') fr.env) Q s := by
  obtain ⟨m, hn, hp⟩ := S.loc
  obtain ⟨v, h1, h2⟩ := hp _ hm
  cases h1 with
  | mu i a ha =>
    have hlt := (List.getElem?_eq_some_iff.mp ha).1
    obtain ⟨⟨vs, n, ho, hr⟩, _⟩ := S.muts i a _ ha (List.getElem?_eq_getElem (S.len ▸ hlt))
    exact wpAny_Expr_any (wpAny_Call_method hb hf hl F.plainAttrs_list slot hty (wpAny_Name (load_At O S hn h2 hc ⟨⟨_, ho, rfl⟩, fun a e => by cases e; exact ⟨_, ho, rfl⟩, h a ha⟩) hd)) (by unfold interactive; rw [O.sc, O.kind]; rfl) rfl

theorem upd_list {h : Heap} {a : Addr} {vs ws : List Value} {n : Nat} (ho : h.get? a = some (lstO vs n)) (f : Array Value → Array Value) (hf : f vs.toArray = ws.toArray) : ∃ n', (h.update a (Obj.mapSeq f)).get? a = some (lstO ws n') ∧ Heap.SameBut a h (h.update a (Obj.mapSeq f)) := by
  have := IsL.update (n := n) ho f
  rw [hf] at this
  exact ⟨_, this, Heap.SameBut.update ..⟩

/-- x.append(e) -/
theorem ex_append {x : Str} {p ap pos pos' : Pos} {i : Nat} {ds : List D} {e : Expr} {d : D} (hm : (x, V.mu i) ∈ Γ) (hi : Δ[i]? = some ds) (he : EvF c Γ Δ e d) (h : P .next Γ (Δ.set i (ds ++ [d]))) (hz : ds.length < sizeLine)
    (hl : (ap.endLine == pos.line) = true := by rfl) (hd : (x == ("__debug__" : Str)) = false := by decide) (hc : (x == ("__classdict__" : Str)) = false := by decide)
    (hb : ∀ env, attributeBase (.Name x p) "append" env (eval (.Name x p) env) = eval (.Name x p) env := by intro _; rfl)
    (ht : ∀ env, backTo pos (starEach [e] env) = [(false, eval e env)] := by intro _; rfl) : Ex1 c Γ Δ (.Expr (.Call (.Attribute (.Name x p) "append" ap) [e] [] pos) pos') P := fun fr s g am O S Q hQ => by
  refine w_list_meth O S hm F.slot_list_append F.type_list_append hl hd hc (hb _) (by rw [ht]; rfl) fun a ha => ?_
  rw [ht]
  refine PySem.P.append_list (he fr s g am O S _ fun v h1 g1 t1 k1 r1 => ?_)
  have S1 := S.gr k1
  obtain ⟨⟨vs, n, ho, hr⟩, _⟩ := S1.muts i a ds ha hi
  have e1 := hr.length
  refine ⟨vs.toArray, n, by rw [List.size_toArray, e1]; exact Nat.le_of_lt hz, ho, ?_⟩
  obtain ⟨n', ho', hs'⟩ := upd_list (ws := vs ++ [v]) ho (fun xs => xs.push v) (by simp)
  exact hQ .next .next Γ _ _ g1 am t1 h .next (S1.setMut ha hs' ho' (hr.append (.cons r1 .nil)))

end Mine

set_option maxRecDepth 100000
set_option autoImplicit false
set_option linter.unusedVariables false
namespace Mine
open PySem PySem.W PySem.Calls PyProof.Rows
variable {c : Cfg} {Γ : Gam} {Δ : Del} {P : Post}

theorem fresh_size {h : Heap} : h.get? h.objs.size = none := by
  cases q : h.get? h.objs.size with
  | none => rfl
  | some o => exact absurd (Heap.lt_size q) (Nat.lt_irrefl _)
theorem none_of_sub {g : Fz} {h : Heap} {a : Addr} (s : ∀ b o, g b = some o → h.get? b = some o) (e : h.get? a = none) : g a = none := by
  cases q : g a with
  | none => rfl
  | some o => rw [s a o q] at e; cases e
theorem none_of_keep {h h' : Heap} {a : Addr} (s : ∀ b o, h.get? b = some o → h'.get? b = some o) (e : h'.get? a = none) : h.get? a = none := by
  cases q : h.get? a with
  | none => rfl
  | some o => rw [s a o q] at e; cases e

/-- an iterator over xs, as it stands behind iter(e) -/
structure ItAt (c : Cfg) (fr : Frm) (str : Bool) (xs : List D) (h : Heap) (g : Fz) (h' : Heap) (g' : Fz) (I : Addr) (fp wr : List Addr) (Pw : Nat → Value → Prop) (Sw : Nat → Heap → Prop) : Prop where
  gr : Gr h g h' g'
  wk : Walks c.X.prog c.X.w fr.A I fp wr xs.length Pw Sw
  st : Sw 0 h'
  new : ∀ b ∈ wr, h.get? b = none
  free : ∀ b ∈ wr, g' b = none
  fp : ∀ b ∈ fp, b ∈ wr ∨ (if str = true then g' b ≠ none else h'.get? b ≠ none)
  wl : ∀ i k, Sw i k → ∀ b ∈ wr, k.get? b ≠ none
  item : ∀ i v, Pw i v → ∃ x, xs[i]? = some x ∧ Rep g' x v

def EvI (str : Bool) (c : Cfg) (Γ : Gam) (Δ : Del) (e : Expr) (xs : List D) : Prop := ∀ fr s g am, Okf c fr → St fr Γ Δ s.heap g am → ∀ Q : Value → Shared → Prop,
  (∀ I fp wr Pw Sw h' g' tk, ItAt c fr str xs s.heap g h' g' I fp wr Pw Sw → Q (.ref I) { s with heap := h', toks := tk }) → W c fr (eval e fr.env) (fun xv s₁ => W c fr (pyIter xv) Q s₁) s

theorem EvI.weak {e : Expr} {xs : List D} (x : EvI true c Γ Δ e xs) : EvI false c Γ Δ e xs := fun fr s g am O S Q hQ => x fr s g am O S Q fun I fp wr Pw Sw h' g' tk it => hQ I fp wr Pw Sw h' g' tk
  { it with fp := fun b hb => (it.fp b hb).imp id fun q => by
              rw [if_pos rfl] at q
              rw [if_neg (by decide)]
              intro e; exact q (none_of_sub it.gr.sub e) }

theorem it_mk {fr : Frm} {str : Bool} {xs : List D} {h h1 H : Heap} {g g1 : Fz} {I : Addr} {fp : List Addr} {Pw : Nat → Value → Prop} {Sw : Nat → Heap → Prop} (k1 : Gr h g h1 g1) (kp : ∀ b o, h1.get? b = some o → H.get? b = some o)
    (W : Walks c.X.prog c.X.w fr.A I fp [I] xs.length Pw Sw) (st : Sw 0 H) (hf : h1.get? I = none) (hI : ∀ i k, Sw i k → k.get? I ≠ none) (hfp : ∀ b ∈ fp, b = I ∨ (if str = true then g1 b ≠ none else H.get? b ≠ none))
    (item : ∀ i v, Pw i v → ∃ x, xs[i]? = some x ∧ Rep g1 x v) : ItAt c fr str xs h g H g1 I fp [I] Pw Sw where
  gr := k1.trans (.heap k1.sub kp)
  wk := W
  st := st
  new := fun b hb => by rw [List.mem_singleton.mp hb]; exact none_of_keep k1.hk hf
  free := fun b hb => by rw [List.mem_singleton.mp hb]; exact none_of_sub k1.sub hf
  fp := fun b hb => (hfp b hb).imp (fun e => by rw [e]; exact List.mem_singleton.mpr rfl) id
  wl := fun i k hk b hb => by rw [List.mem_singleton.mp hb]; exact hI i k hk
  item := item

theorem evi_list {e : Expr} {xs : List D} (h : EvF c Γ Δ e (.list xs)) (hh : c.hd = true := by rfl) : EvI true c Γ Δ e xs := fun fr s g am O S Q hQ =>
  h fr s g am O S _ fun v h1 g1 t1 k1 r1 => by
    cases r1 with
    | list _ a vs n ho hr =>
      have hoh := k1.sub _ _ ho
      refine wpAny_pyIter_list (isList_of hoh) ?_
      have hne : a ≠ h1.objs.size := fun e => by rw [e, fresh_size] at hoh; cases hoh
      have kp : ∀ b o, h1.get? b = some o → (h1.push { cls := .type "list_iterator", data := .fields #[.ref a, .int 0 0] }).get? b = some o := fun b o e => Heap.get?_push_of_some _ e
      have W := Walks.list (prog := c.X.prog) (w := c.X.w) (A := fr.A) (O.hand hh) h1.objs.size a hne vs.toArray
      have eW : vs.toArray.size = xs.length := by simp [hr.length]
      rw [eW] at W
      refine hQ _ _ _ _ _ _ g1 t1 (it_mk k1 kp W ⟨⟨_, Heap.get?_push_size _ rfl, rfl, rfl⟩, (isList_of hoh).at fun o e => kp _ _ e⟩ fresh_size (fun i k hk => let ⟨⟨o, ho, _⟩, _⟩ := hk; by rw [ho]; simp) (fun b hb => ?_) fun i v hv => hr.getv i v (by simpa using hv))
      rcases List.mem_cons.mp hb with e | hb
      · exact .inl e
      · rw [List.mem_singleton.mp hb, if_pos rfl, ho]; exact .inr (by simp)
theorem evi_tupW {e : Expr} {xs : List D} (h : Ev c Γ Δ e (.tup xs)) (hh : c.hd = true := by rfl) : EvI false c Γ Δ e xs := fun fr s g am O S Q hQ =>
  h fr s g am O S _ fun v h1 g1 t1 k1 r1 => by
    obtain ⟨a, vs, n, rfl, hoh, hr⟩ := r1.tup k1.sub
    have hT : h1.IsTuple a vs.toArray := ⟨_, hoh, rfl, n, rfl⟩
    refine wpAny_pyIter_tuple hT ?_
    have hne : a ≠ h1.objs.size := fun e => by rw [e, fresh_size] at hoh; cases hoh
    have kp : ∀ b o, h1.get? b = some o → (h1.push { cls := .type "tuple_iterator", data := .fields #[.ref a, .int 0 0] }).get? b = some o := fun b o e => Heap.get?_push_of_some _ e
    have W := Walks.tuple (prog := c.X.prog) (w := c.X.w) (A := fr.A) (O.hand hh) h1.objs.size a hne vs.toArray
    have eW : vs.toArray.size = xs.length := by simp [hr.length]
    rw [eW] at W
    refine hQ _ _ _ _ _ _ g1 t1 (it_mk k1 kp W ⟨⟨_, Heap.get?_push_size _ rfl, rfl, rfl⟩, ⟨_, kp _ _ hoh, rfl, n, rfl⟩⟩ fresh_size (fun i k hk => let ⟨⟨o, ho, _⟩, _⟩ := hk; by rw [ho]; simp) (fun b hb => ?_) fun i v hv => hr.getv i v (by simpa using hv))
    rcases List.mem_cons.mp hb with e | hb
    · exact .inl e
    · rw [List.mem_singleton.mp hb, if_neg (by decide), kp _ _ hoh]; exact .inr (by simp)
def signs (x : Str) : List D := x.cps.toList.map fun n => .str ⟨#[n]⟩
theorem evi_str {e : Expr} {x : Str} (h : Ev c Γ Δ e (.str x)) (ha : x.cps.all (· < 128) = true) (hh : c.hd = true := by rfl) : EvI true c Γ Δ e (signs x) := fun fr s g am O S Q hQ =>
  h fr s g am O S _ fun v h1 g1 t1 k1 r1 => by
    obtain ⟨t, rfl⟩ := rstr r1
    refine wpAny_pyIter_ascii ha ?_
    have kp : ∀ b o, h1.get? b = some o → (h1.push { cls := .type "str_ascii_iterator", data := .fields #[.str x t, .int 0 0] }).get? b = some o := fun b o e => Heap.get?_push_of_some _ e
    have W := Walks.strAscii (prog := c.X.prog) (w := c.X.w) (A := fr.A) (O.hand hh) h1.objs.size x t
    have e : x.cps.size = (signs x).length := by simp [signs]
    rw [e] at W
    refine hQ _ _ _ _ _ _ g1 t1 (it_mk k1 kp W ⟨_, Heap.get?_push_size _ rfl, rfl, rfl⟩ fresh_size (fun i k hk => let ⟨o, ho, _⟩ := hk; by rw [ho]; simp) (fun b hb => .inl (List.mem_singleton.mp hb)) ?_)
    · rintro i v ⟨n, u, hn, rfl⟩
      exact ⟨.str ⟨#[n]⟩, by simp [signs, hn], .str _ _⟩

/-- the ints from a on -/
def zs (a : Int) (n : Nat) : List D := (List.range n).map fun (k : Nat) => D.int (a + k)
theorem w_range {fr : Frm} {h : Heap} {g g1 : Fz} {s : Shared} {n : Nat} {a b : Int} {t u v : Tok} {r : Addr} {Q : Value → Shared → Prop} (O : Okf c fr) (hh : c.hd = true) (k1 : Gr h g s.heap g1) (hr : IsRange s.heap r a b 1 t u v) (ha : -(2 ^ 62) ≤ a) (ha' : a < 2 ^ 62) (hb : -(2 ^ 62) ≤ b) (hb' : b < 2 ^ 62)
    (hn : n = (b - a).toNat) (hQ : ∀ I fp wr Pw Sw h' g' tk, ItAt c fr true (zs a n) h g h' g' I fp wr Pw Sw → Q (.ref I) { s with heap := h', toks := tk }) : W c fr (pyIter (.ref r)) Q s := by
  refine wpAny_pyIter_range hr (small_one ha ha' hb hb') ?_
  have kp : ∀ x p, s.heap.get? x = some p → (s.heap.push { cls := .type "range_iterator", data := .fields #[rawInt a, rawInt (Builtin.Range.rangeSize a b 1), rawInt 1] }).get? x = some p := fun x p e => Heap.get?_push_of_some _ e
  have W := PySem.Walks.bound (Walks.range (prog := c.X.prog) (w := c.X.w) (A := fr.A) (O.hand hh) s.heap.objs.size a 1 n)
  have e : (zs a n).length = n := by simp [zs]
  refine hQ s.heap.objs.size [s.heap.objs.size] [s.heap.objs.size] (fun i v => i < n ∧ ∃ t, v = .int (a + i * 1) t) (fun i h => IsRangeIter h s.heap.objs.size (a + (i : Nat) * 1) ((n : Int) - (i : Nat)) 1) _ g1 s.toks (it_mk k1 kp (by rw [e]; exact W) ?_ fresh_size (fun i k hk => by rw [show k.get? _ = _ from hk]; simp) (fun x hx => .inl (List.mem_singleton.mp hx)) ?_)
  · have e2 : Builtin.Range.rangeSize a b 1 = (n : Int) := by rw [rangeSize_one, hn]; split <;> omega
    have e3 : a + ((0 : Nat) : Int) * 1 = a := by omega
    have e4 : (n : Int) - ((0 : Nat) : Int) = n := by omega
    rw [e2, e3, e4]
    exact Heap.get?_push_size _ rfl
  · rintro i v ⟨hi, tk, rfl⟩
    refine ⟨.int (a + i * 1), ?_, .int _ _⟩
    simp [zs, hi]
theorem w_global {fr : Frm} {s : Shared} {g : Fz} {am : List Addr} {x : Str} {p : Pos} {v : Value} {Q : Value → Shared → Prop} (O : Okf c fr) (S : St fr Γ Δ s.heap g am) (hk : c.sc.names.lookup x = some .globalImplicit) (hb : x ∈ c.X.bl) (hv : bootBuiltins x = some v)
    (hd : (x == ("__debug__" : Str)) = false) (hQ : Q v s) : W c fr (eval (.Name x p) fr.env) Q s := by
  obtain ⟨hg, hbb⟩ := O.glo.bl _ hb
  have G := O.glo.keeps S.keep
  exact Name_function_global (O.sc ▸ O.kind) (by unfold Env.kindOf; rw [O.sc]; exact hk) (loadGlobal_builtin (mb := c.X.mb) (v := v) (O.glob ▸ G.g) hg (O.blt ▸ G.b) (by rw [hbb]; exact hv) hQ) hd
theorem evi_range1 {p pos : Pos} {e : Expr} {n : Int} (h : Ev c Γ Δ e (.int n)) (hn : n < 2 ^ 62) (hn' : -(2 ^ 62) ≤ n) (hk : c.sc.names.lookup (Str.ofString "range") = some .globalImplicit) (hb : Str.ofString "range" ∈ c.X.bl) (hh : c.hd = true := by rfl)
    (he : ∀ env, starEach [e] env = [(false, eval e env)] := by intro _; rfl) : EvI true c Γ Δ (.Call (.Name (Str.ofString "range") p) [e] [] pos) (zs 0 n.toNat) := fun fr s g am O S Q hQ => by
  refine Call_ (w_global O S hk hb PyProof.Rows.boot_range (by decide) ?_)
  refine PyProof.Rows.callWith_type1 (args_cons (h fr s g am O S _ fun v h1 g1 t1 k1 r1 => args_nil ?_) (he _)) (he _)
  obtain ⟨t, rfl⟩ := rint r1
  have kp1 : ∀ b p, h1.get? b = some p → (h1.push { cls := .type "range", data := .fields #[.int 0 t1, .int n t, .int 1 (t1 + 1)] }).get? b = some p := fun b p e => Heap.get?_push_of_some _ e
  exact call_range_1 (w_range O hh (k1.trans (.heap k1.sub kp1)) (IsRange.new ..) (by decide) (by decide) hn' hn (by omega) hQ)
/-! a frame anew: what stands is kept -/
def reb (fr : Frm) (h : Heap) (g : Fz) (am : List Addr) : Frm := { fr with h₀ := hideAll h (fr.env.locals :: (fr.oc ++ am)), g₀ := g }

theorem St.inReb {fr : Frm} {h : Heap} {g : Fz} {am : List Addr} (S : St fr Γ Δ h g am) {b : Addr} {o : Obj} (e : fr.h₀.get? b = some o) : (reb fr h g am).h₀.get? b = some o := by
  refine hideAll_get _ (S.keep b o e) fun hm => ?_
  rcases List.mem_cons.mp hm with q | hm
  · rw [q, S.hL] at e; cases e
  · rcases List.mem_append.mp hm with hm | hm
    · rw [(S.ocs b hm).2.2.1] at e; cases e
    · obtain ⟨i, hi, q⟩ := List.mem_iff_getElem.mp hm
      have M := S.muts i b _ (by rw [List.getElem?_eq_getElem hi, q]) (List.getElem?_eq_getElem (S.len ▸ hi))
      rw [M.new] at e; cases e
theorem Okf.reb {fr : Frm} {h : Heap} {g : Fz} {am : List Addr} (O : Okf c fr) (S : St fr Γ Δ h g am) : Okf c (reb fr h g am) :=
  { O with glo := O.glo.keeps fun b o e => S.inReb e, hck := fun b o e => S.inReb (O.hck b o e) }
theorem At.reb {fr : Frm} {h h₁ : Heap} {g : Fz} {am : List Addr} {m : Str → Option Value} {x : Str} {v : Value} (a : At fr h m x v) : At (reb fr h₁ g am) h m x v := by
  cases a with
  | loc h1 h2 => exact .loc h1 h2
  | ocell a h1 h2 h3 h4 => exact .ocell a h1 h2 h3 h4
  | cell a h1 h2 h3 => exact .cell a h1 h2 h3
theorem At.unreb {fr : Frm} {h h₁ : Heap} {g : Fz} {am : List Addr} {m : Str → Option Value} {x : Str} {v : Value} (a : At (Mine.reb fr h₁ g am) h m x v) : At fr h m x v := by
  cases a with
  | loc h1 h2 => exact .loc h1 h2
  | ocell a h1 h2 h3 h4 => exact .ocell a h1 h2 h3 h4
  | cell a h1 h2 h3 => exact .cell a h1 h2 h3
theorem St.reb {fr : Frm} {h : Heap} {g : Fz} {am : List Addr} (S : St fr Γ Δ h g am) : St (Mine.reb fr h g am) Γ Δ h g am where
  keep := fun b o e => of_hideAll _ e
  sub := S.sub
  gsub := fun _ _ e => e
  own := fun _ _ e => .inl e
  gL := S.gL
  hL := hideAll_none _ (.head _)
  loc := let ⟨m, hn, hp⟩ := S.loc; ⟨m, hn, fun p hm => let ⟨v, h1, h2⟩ := hp p hm; ⟨v, h1, h2.reb⟩⟩
  ocs := fun b hb => let ⟨r1, r2, r3, r4, r5⟩ := S.ocs b hb; ⟨r1, r2, hideAll_none _ (.tail _ (List.mem_append_left _ hb)), r4, r5⟩
  len := S.len
  nd := S.nd
  muts := fun i a ds h1 h2 => let M := S.muts i a ds h1 h2; ⟨M.lst, M.ne, hideAll_none _ (.tail _ (List.mem_append_right _ (List.mem_of_getElem? h1))), M.free⟩
theorem St.unreb {fr : Frm} {h h' : Heap} {g g' : Fz} {am am' : List Addr} {Γ' : Gam} {Δ' : Del} (S : St fr Γ Δ h g am) (S' : St (Mine.reb fr h g am) Γ' Δ' h' g' am') : St fr Γ' Δ' h' g' am' where
  keep := fun b o e => S'.keep b o (S.inReb e)
  sub := S'.sub
  gsub := fun b o e => S'.gsub b o (S.gsub b o e)
  own := fun b o e => by
    rcases S'.own b o e with q | q
    · exact S.own b o q
    · exact .inr (none_of_keep (fun b o e => S.inReb e) q)
  gL := S'.gL
  hL := S.hL
  loc := let ⟨m, hn, hp⟩ := S'.loc; ⟨m, hn, fun p hm => let ⟨v, h1, h2⟩ := hp p hm; ⟨v, h1, h2.unreb⟩⟩
  ocs := fun b hb => let ⟨r1, r2, r3, r4, r5⟩ := S'.ocs b hb; ⟨r1, r2, (S.ocs b hb).2.2.1, r4, r5⟩
  len := S'.len
  nd := S'.nd
  muts := fun i a ds h1 h2 => let M := S'.muts i a ds h1 h2; ⟨M.lst, M.ne, none_of_keep (fun b o e => S.inReb e) M.new, M.free⟩

/-- objects of no one's turn -/
structure Off (fr : Frm) (g : Fz) (am : List Addr) (wr : List Addr) : Prop where
  off : ∀ b ∈ wr, b ≠ fr.env.locals ∧ b ∉ fr.oc ∧ b ∉ am ∧ g b = none ∧ fr.h₀.get? b = none
theorem St.off {fr : Frm} {h h' : Heap} {g : Fz} {am wr : List Addr} (S : St fr Γ Δ h g am) (F : Off fr g am wr) (k : ∀ b o, b ∉ wr → h.get? b = some o → h'.get? b = some o) : St fr Γ Δ h' g am where
  keep := fun b o e => k b o (fun hm => by rw [(F.off b hm).2.2.2.2] at e; cases e) (S.keep b o e)
  sub := fun b o e => k b o (fun hm => by rw [(F.off b hm).2.2.2.1] at e; cases e) (S.sub b o e)
  gsub := S.gsub
  own := S.own
  gL := S.gL
  hL := S.hL
  loc := by
    obtain ⟨m, hn, hp⟩ := S.loc
    refine ⟨m, hn.at' fun o e => k _ o (fun hm => (F.off _ hm).1 rfl) e, fun p hm => ?_⟩
    obtain ⟨v, h1, h2⟩ := hp p hm
    refine ⟨v, h1, ?_⟩
    cases h2 with
    | loc h3 h4 => exact .loc h3 h4
    | ocell a h3 h4 h5 h6 =>
      obtain ⟨o, ho, hd⟩ := h6
      exact .ocell a h3 h4 h5 ⟨o, k a o (fun hm => (F.off _ hm).2.1 h5) ho, hd⟩
    | cell a h3 h4 h6 => exact .cell a h3 h4 h6
  ocs := fun b hb => by
    obtain ⟨⟨v, o, ho, hd⟩, r⟩ := S.ocs b hb
    exact ⟨⟨v, o, k b o (fun hm => (F.off _ hm).2.1 hb) ho, hd⟩, r⟩
  len := S.len
  nd := S.nd
  muts := fun i a ds h1 h2 => by
    obtain ⟨⟨vs, n, ho, hr⟩, r1, r2, r3⟩ := S.muts i a ds h1 h2
    exact ⟨⟨vs, n, k a _ (fun hm => (F.off _ hm).2.2.1 (List.mem_of_getElem? h1)) ho, hr⟩, r1, r2, r3⟩

theorem ItAt.offs {fr : Frm} {xs : List D} {h h' : Heap} {g g' : Fz} {I : Addr} {str : Bool} {fp wr : List Addr} {Pw : Nat → Value → Prop} {Sw : Nat → Heap → Prop} {am : List Addr} (it : ItAt c fr str xs h g h' g' I fp wr Pw Sw) (S : St fr Γ Δ h g am) : Off fr g' am wr :=
  ⟨fun b hb => by
    have hn := it.new b hb
    refine ⟨fun e => ?_, fun hm => ?_, fun hm => ?_, it.free b hb, none_of_keep S.keep hn⟩
    · obtain ⟨m, hns, _⟩ := S.loc
      obtain ⟨o, ho⟩ := Heap.Ns.get hns
      rw [← e, hn] at ho; cases ho
    · obtain ⟨⟨v, o, ho, _⟩, _⟩ := S.ocs b hm
      rw [hn] at ho; cases ho
    · obtain ⟨i, hi, q⟩ := List.mem_iff_getElem.mp hm
      obtain ⟨⟨vs, n, ho, _⟩, _⟩ := S.muts i b _ (by rw [List.getElem?_eq_getElem hi, q]) (List.getElem?_eq_getElem (S.len ▸ hi))
      rw [hn] at ho; cases ho⟩

/-! for -/
theorem ex_for {x : Str} {px pos : Pos} {iter : Expr} {body : List Stmt} {xs : List D} (hi : EvI true c Γ Δ iter xs) (hx : Sto c x) (I : Nat → Gam → Del → Prop) (h0 : I 0 Γ Δ)
    (turn : ∀ i d Γ₁ Δ₁, xs[i]? = some d → I i Γ₁ Δ₁ → Exs c (upd Γ₁ x (.d d)) Δ₁ body fun o Γ₂ Δ₂ => match o with
      | .next | .cont => ∃ Γ₃, (∀ p ∈ Γ₃, p ∈ Γ₂) ∧ I (i + 1) Γ₃ Δ₂
      | .brk => P .next Γ₂ Δ₂
      | .ret d => P (.ret d) Γ₂ Δ₂)
    (done : ∀ Γ₁ Δ₁, I xs.length Γ₁ Δ₁ → P .next Γ₁ Δ₁) (hs : ∀ env x, foldedSetIterable iter env x = pure x := by intro _ _; rfl) : Ex1 c Γ Δ (.For (.Name x px) iter body [] pos) P := fun fr s g am O S Q hQ => by
  refine wpAny_For (hi fr s g am O S _ fun It fp wr Pw Sw h1 g1 t1 it => ?_) (hs _)
  have S1 := S.gr it.gr
  refine codeAny_forLoop (fun k s' => ∃ i Γ₁ Δ₁ h₂ g₂ am₂ tk₂, s' = { s with heap := h₂, toks := tk₂ } ∧ St fr Γ₁ Δ₁ h₂ g₂ am₂ ∧ Off fr g₂ am₂ wr ∧ (∀ b o, g1 b = some o → g₂ b = some o) ∧ Sw i h₂ ∧ I i Γ₁ Δ₁ ∧ i ≤ xs.length ∧ k = xs.length + 1 - i) ?_ (xs.length + 1)
    ⟨0, Γ, Δ, h1, g1, am, t1, rfl, S1, it.offs S, fun _ _ e => e, it.st, h0, Nat.zero_le _, rfl⟩
  rintro k s' ⟨i, Γ₁, Δ₁, h₂, g₂, am₂, tk₂, rfl, S2, F2, hg, hst, hI, hil, rfl⟩
  refine wpAny_passesOwn .never ?_
  by_cases hlt : i < xs.length
  · refine it.wk.item i _ _ _ hlt hst fun v h3 t3 hv hst3 k3 => ?_
    obtain ⟨d, hd, hr⟩ := it.item i v hv
    have S3 := S2.off F2 k3
    refine wpAny_passesOwn .never (wpAny_assign_Name (w_store O S3 hx (.d d v (hr.mono hg)) fun h4 t4 S4 k4 => ?_))
    have fpo : ∀ b ∈ fp, b ≠ fr.env.locals ∧ b ∉ fr.oc ∧ b ∉ am₂ := fun b hb => by
      rcases it.fp b hb with hb | hb
      · obtain ⟨r1, r2, r3, _⟩ := F2.off b hb; exact ⟨r1, r2, r3⟩
      · rw [if_pos rfl] at hb
        obtain ⟨o, ho⟩ := Option.ne_none_iff_exists'.mp hb
        have ho2 := hg b o ho
        refine ⟨fun e => ?_, fun hm => ?_, fun hm => ?_⟩
        · rw [e, S3.gL] at ho2; cases ho2
        · rw [(S3.ocs b hm).2.1] at ho2; cases ho2
        · obtain ⟨j, hj, q⟩ := List.mem_iff_getElem.mp hm
          have M := S3.muts j b _ (by rw [List.getElem?_eq_getElem hj, q]) (List.getElem?_eq_getElem (S3.len ▸ hj))
          rw [M.free] at ho2; cases ho2
    have hst4 : Sw (i + 1) h4 := it.wk.frame _ _ _ hst3 fun b hb o e => k4 b o (fpo b hb).1 (fpo b hb).2.1 e
    have inR : ∀ b o, b ∈ fp → h4.get? b = some o → (reb fr h4 g₂ am₂).h₀.get? b = some o := fun b o hb e => by
      refine hideAll_get _ e fun hm => ?_
      obtain ⟨r1, r2, r3⟩ := fpo b hb
      rcases List.mem_cons.mp hm with q | hm
      · exact r1 q
      · rcases List.mem_append.mp hm with hm | hm
        · exact r2 hm
        · exact r3 hm
    refine wpAny_passesOwn .never (turn i d Γ₁ Δ₁ hd hI (reb fr h4 g₂ am₂) _ g₂ am₂ (O.reb S4) S4.reb _ fun o f Γ₅ Δ₅ h5 g5 am5 t5 hp hf S5 => ?_)
    have S5' := S4.unreb S5
    have kept : ∀ b o, b ∈ fp → h4.get? b = some o → h5.get? b = some o := fun b o hb e => S5.keep b o (inR b o hb e)
    have F5 : Off fr g5 am5 wr := ⟨fun b hb => by
      obtain ⟨r1, r2, r3, r4, r5⟩ := F2.off b hb
      obtain ⟨o, ho⟩ := Option.ne_none_iff_exists'.mp (it.wl _ _ hst4 b hb)
      have hin := inR b o (it.wk.sub b hb) ho
      refine ⟨r1, r2, fun hm => ?_, ?_, r5⟩
      · obtain ⟨j, hj, q⟩ := List.mem_iff_getElem.mp hm
        have M := S5.muts j b _ (by rw [List.getElem?_eq_getElem hj, q]) (List.getElem?_eq_getElem (S5.len ▸ hj))
        rw [M.new] at hin; cases hin
      · cases q : g5 b with
        | none => rfl
        | some o' =>
          rcases S5.own b o' q with e | e
          · have e' : g₂ b = some o' := e
            rw [r4] at e'; cases e'
          · rw [hin] at e; cases e⟩
    have hg5 : ∀ b o, g1 b = some o → g5 b = some o := fun b o e => S5.gsub b o (hg b o e)
    have hst5 : Sw (i + 1) h5 := it.wk.frame _ _ _ hst4 fun b hb o e => kept b o hb e
    cases hf with
    | next => obtain ⟨Γ₃, hwk, hi3⟩ := hp; exact ⟨_, by omega, i + 1, Γ₃, Δ₅, h5, g5, am5, t5, rfl, S5'.weak hwk, F5, hg5, hst5, hi3, hlt, rfl⟩
    | cont => obtain ⟨Γ₃, hwk, hi3⟩ := hp; exact ⟨_, by omega, i + 1, Γ₃, Δ₅, h5, g5, am5, t5, rfl, S5'.weak hwk, F5, hg5, hst5, hi3, hlt, rfl⟩
    | brk => exact hQ .next .next _ _ h5 g5 am5 t5 hp .next S5'
    | ret d v r => exact hQ (.ret d) _ _ _ h5 g5 am5 t5 hp (.ret d v r) S5'
  · have hin : i = xs.length := by omega
    subst hin
    refine it.wk.done _ _ _ hst fun h3 t3 k3 => wpAny_execs_nil ?_
    exact hQ .next .next _ _ h3 g₂ am₂ t3 (done _ _ hI) .next (S2.off F2 k3)
end Mine

set_option maxRecDepth 100000
set_option autoImplicit false
set_option linter.unusedVariables false
namespace Mine
open PySem PySem.W PySem.Calls PyProof.Rows
variable {c : Cfg} {Γ : Gam} {Δ : Del} {P : Post}

/-! a comprehension's own block -/
def relab (sc csc : Scope) : Scope := { sc with names := sc.names.map fun (n, k) => if (k == .free && csc.kind == .function && csc.names.lookup n == some .cell) then (n, .cell) else (n, k) }
theorem relab_eq {fr : Frm} (O : Okf c fr) (sc : Scope) : relabel sc fr.env = relab sc c.sc := by unfold relabel relab Env.kindOf; rw [O.sc]

theorem cellsFrom_app : ∀ (names : List (Str × NameKind)) (n : Nat) (acc : List (Str × Addr)), cellsFrom n names acc = cellsFrom n names [] ++ acc
  | [], _, _ => rfl
  | (x, k) :: r, n, acc => by
    unfold cellsFrom
    split
    · rw [cellsFrom_app r (n + 1) ((x, n) :: acc), cellsFrom_app r (n + 1) [(x, n)], List.append_assoc]; rfl
    · exact cellsFrom_app r n acc

theorem w_newEnv {fr : Frm} {s : Shared} {scope : Scope} {globals : Addr} {cl : List (Str × Addr)} {qual : Str} {env : Env} {Q : Env → Shared → Prop} (hk : scope.kind = .function)
    (hQ : ∀ h', (∀ b o, s.heap.get? b = some o → h'.get? b = some o) → h'.Ns s.heap.objs.size (fun _ => none) → (∀ n a, (n, a) ∈ cellsFrom (s.heap.objs.size + 1) scope.names [] → h'.IsCell a none ∧ s.heap.objs.size < a) → (cellsFrom (s.heap.objs.size + 1) scope.names []).Pairwise (fun x y => x.2 ≠ y.2) →
      Q (newEnv scope s.heap.objs.size globals (cellsFrom (s.heap.objs.size + 1) scope.names [] ++ cl) qual none .none (some env) builtinsNs) { s with heap := h' }) :
    W c fr (newFunctionEnv scope globals cl [] qual none .none (some env)) Q s := by
  unfold W newFunctionEnv
  simp only [Option.isSome_some, if_true]
  refine wpAny_bind (wpAny_alloc ?_)
  refine wpAny_bind (wpAny_layCells _ (fun name kind cells => by cases hkc : kind == NameKind.cell <;> simp [hkc]) _ _ _ _ ?_)
  have ok := cellsFrom_ok scope.names (s.heap.push { cls := .type "dict", data := .dict #[] }) (s.heap.objs.size + 1) [] ⟨fun _ _ hm => (nomatch hm), List.Pairwise.nil⟩ (by rw [Heap.size_push]; exact Nat.le_refl _)
  rw [Heap.size_push] at ok
  rw [show ({ s with heap := s.heap.push { cls := .type "dict", data := .dict #[] } } : Shared).heap.objs.size = s.heap.objs.size + 1 from Heap.size_push ..]
  rw [cellsFrom_app]
  refine wpAny_bind ?_
  rw [List.forIn_nil]
  refine wpAny_pure (wpAny_pure ?_)
  exact hQ _ (fun b o e => pushCells_keeps _ _ b o (Heap.get?_push_of_some _ e)) ((Heap.Ns.new s.heap (.type "dict")).keeps (pushCells_keeps _ _)) (fun n a hm => ok.empty n a hm) ok.apart

noncomputable def clos (env : Env) : List (Str × NameKind) → List (Str × Addr) → List (Str × Addr)
  | [], acc => acc
  | (n, k) :: r, acc => if k == .free then clos env r ((n, (env.cells.lookup n).getD 0) :: acc) else clos env r acc
theorem closureFor_clos {scope : Scope} {env : Env} (h : ∀ p ∈ scope.names, p.2 = .free → ∃ a, env.cells.lookup p.1 = some a) : closureFor scope env = pure (clos env scope.names []) := by
  unfold closureFor
  have key : ∀ (names : List (Str × NameKind)) (acc : List (Str × Addr)), (∀ p ∈ names, p.2 = .free → ∃ a, env.cells.lookup p.1 = some a) →
      (forIn names acc (fun (x : Str × NameKind) (cs : List (Str × Addr)) => match x with
        | (name, kind) => if kind == .free then (do let a ← cellOf env name; pure (ForInStep.yield ((name, a) :: cs))) else pure (ForInStep.yield cs)) : Sem (List (Str × Addr))) = pure (clos env names acc) := by
    intro names
    induction names with
    | nil => intro acc _; rfl
    | cons p r ih =>
      intro acc hp
      obtain ⟨n, k⟩ := p
      rw [List.forIn_cons]
      have hr := fun q hq => hp q (List.mem_cons_of_mem _ hq)
      unfold clos
      by_cases hk : (k == .free) = true
      · obtain ⟨a, ha⟩ := hp (n, k) List.mem_cons_self (by simpa using hk)
        simp only [hk, if_true]
        unfold cellOf
        simp only at ha
        rw [ha]
        exact ih _ hr
      · simp only [hk]
        exact ih _ hr
  have := key scope.names [] h
  refine Eq.trans (congrArg (fun t => t >>= fun cs => pure cs) (Eq.trans ?_ this)) rfl
  rfl

theorem clos_ok {env : Env} : ∀ (names : List (Str × NameKind)) (acc : List (Str × Addr)), (∀ p ∈ names, p.2 = .free → ∃ a, env.cells.lookup p.1 = some a) → (∀ p ∈ acc, env.cells.lookup p.1 = some p.2) →
    (∀ p ∈ clos env names acc, env.cells.lookup p.1 = some p.2) ∧ (∀ p ∈ acc, p ∈ clos env names acc) ∧ (∀ x, (x, NameKind.free) ∈ names → ∃ a, (x, a) ∈ clos env names acc) ∧ (∀ p ∈ clos env names acc, p ∈ acc ∨ (p.1, NameKind.free) ∈ names)
  | [], acc, _, h => ⟨h, fun _ e => e, fun x e => (by cases e), fun _ e => Or.inl e⟩
  | (n, k) :: r, acc, hp, h => by
    unfold clos
    have hr := fun q hq => hp q (List.mem_cons_of_mem _ hq)
    by_cases hk : (k == .free) = true
    · rw [if_pos hk]
      obtain ⟨a, ha⟩ := hp (n, k) List.mem_cons_self (by simpa using hk)
      simp only at ha
      rw [ha]
      obtain ⟨h1, h2, h3, h4⟩ := clos_ok r ((n, a) :: acc) hr (fun p hm => by
        rcases List.mem_cons.mp hm with rfl | hm
        · exact ha
        · exact h p hm)
      refine ⟨h1, fun p hm => h2 p (List.mem_cons_of_mem _ hm), fun x hx => ?_, fun p hm => ?_⟩
      · rcases List.mem_cons.mp hx with e | hx
        · cases e; exact ⟨a, h2 _ List.mem_cons_self⟩
        · exact h3 x hx
      · rcases h4 p hm with e | e
        · rcases List.mem_cons.mp e with e | e
          · subst e
            have : k = .free := by simpa using hk
            subst this; exact .inr List.mem_cons_self
          · exact .inl e
        · exact .inr (List.mem_cons_of_mem _ e)
    · rw [if_neg hk]
      obtain ⟨h1, h2, h3, h4⟩ := clos_ok r acc hr h
      refine ⟨h1, h2, fun x hx => ?_, fun p hm => (h4 p hm).imp id fun e => List.mem_cons_of_mem _ e⟩
      rcases List.mem_cons.mp hx with e | hx
      · cases e; simp at hk
      · exact h3 x hx

theorem lookup_nd {α : Type} : ∀ {cs : List (Str × α)} {n : Str} {a : α}, (cs.map (·.1)).Nodup → (n, a) ∈ cs → cs.lookup n = some a
  | (n', c') :: cs, n, c, hnd, hm => by
    rw [List.map_cons, List.nodup_cons] at hnd
    rcases List.mem_cons.mp hm with e | hm
    · cases e; simp
    · have hne : n ≠ n' := fun e => hnd.1 (e ▸ List.mem_map.mpr ⟨(n, c), hm, rfl⟩)
      rw [List.lookup_cons, beq_eq_false_iff_ne.mpr hne]
      exact lookup_nd hnd.2 hm
theorem mem_lookup {α : Type} : ∀ {l : List (Str × α)} {n : Str} {a : α}, l.lookup n = some a → (n, a) ∈ l
  | (k, v) :: r, n, c, h => by
    rw [List.lookup_cons] at h
    cases hb : n == k with
    | true => rw [hb] at h; cases h; rw [beq_iff_eq.mp hb]; exact List.mem_cons_self
    | false => rw [hb] at h; exact List.mem_cons_of_mem _ (mem_lookup h)
theorem lookup_some_of_mem {α : Type} : ∀ {l : List (Str × α)} {n : Str} {a : α}, (n, a) ∈ l → ∃ b, l.lookup n = some b
  | (k, v) :: r, n, c, h => by
    rw [List.lookup_cons]
    cases hb : n == k with
    | true => exact ⟨v, rfl⟩
    | false =>
      rcases List.mem_cons.mp h with e | h
      · cases e; simp at hb
      · exact lookup_some_of_mem h
theorem lookup_app {α : Type} {x : Str} : ∀ {l r : List (Str × α)}, (∀ a, (x, a) ∉ l) → (l ++ r).lookup x = r.lookup x
  | [], _, _ => rfl
  | (k, v) :: l, r, h => by
    rw [List.cons_append, List.lookup_cons]
    cases hb : x == k with
    | true => exact absurd (by rw [beq_iff_eq.mp hb]; exact List.mem_cons_self) (h v)
    | false => exact lookup_app fun a hm => h a (List.mem_cons_of_mem _ hm)
theorem lookup_appl {α : Type} {x : Str} {a : α} : ∀ {l r : List (Str × α)}, l.lookup x = some a → (l ++ r).lookup x = some a
  | (k, v) :: l, r, h => by
    rw [List.cons_append, List.lookup_cons]
    rw [List.lookup_cons] at h
    cases hb : x == k with
    | true => rw [hb] at h; exact h
    | false => rw [hb] at h; exact lookup_appl h

theorem relab_map {csc : Scope} {names : List (Str × NameKind)} {x : Str} {k : NameKind} (h : names.lookup x = some k) :
    (names.map fun (n, k) => if (k == NameKind.free && csc.kind == .function && csc.names.lookup n == some .cell) then (n, NameKind.cell) else (n, k)).lookup x = some (if (k == NameKind.free && csc.kind == .function && csc.names.lookup x == some .cell) then .cell else k) := by
  induction names with
  | nil => simp at h
  | cons p r ih =>
    obtain ⟨n, k'⟩ := p
    rw [List.lookup_cons] at h
    rw [List.map_cons]
    cases hb : x == n with
    | true =>
      rw [hb] at h
      cases h
      have : x = n := beq_iff_eq.mp hb
      subst this
      by_cases hc : (k == NameKind.free && csc.kind == .function && csc.names.lookup x == some .cell) = true
      · simp only [hc, if_true, List.lookup_cons, beq_self_eq_true]
      · simp only [hc, Bool.false_eq_true, if_false, List.lookup_cons, beq_self_eq_true]
    | false =>
      rw [hb] at h
      have ih' := ih h
      by_cases hc : (k' == NameKind.free && csc.kind == .function && csc.names.lookup n == some .cell) = true
      · simp only [hc, if_true, List.lookup_cons, hb]; exact ih'
      · simp only [hc, Bool.false_eq_true, if_false, List.lookup_cons, hb]; exact ih'
theorem relab_inv {csc : Scope} {names : List (Str × NameKind)} {x : Str} {k : NameKind} (h : (names.map fun (n, k) => if (k == NameKind.free && csc.kind == .function && csc.names.lookup n == some .cell) then (n, NameKind.cell) else (n, k)).lookup x = some k) :
    ∃ k', names.lookup x = some k' ∧ k = if (k' == NameKind.free && csc.kind == .function && csc.names.lookup x == some .cell) then .cell else k' := by
  have : ∃ b, names.lookup x = some b := by
    obtain ⟨p, hp, e⟩ := List.mem_map.mp (mem_lookup h)
    obtain ⟨n, k'⟩ := p
    have : n = x := by
      simp only at e
      split at e <;> exact (Prod.mk.inj e).1
    subst this
    exact lookup_some_of_mem hp
  obtain ⟨k', hk'⟩ := this
  rw [relab_map hk'] at h
  exact ⟨k', hk', (Option.some.inj h).symm⟩

def cOf (c : Cfg) (sc : Scope) : Cfg := ⟨c.X, c.n, relab sc c.sc, ownCells sc, c.hd, false⟩

structure CScope (c : Cfg) (sc : Scope) : Prop where
  kind : sc.kind = .function
  nd : (sc.names.map (·.1)).Nodup
  free : ∀ p ∈ sc.names, p.2 = .free → c.sc.names.lookup p.1 = some .cell ∨ c.sc.names.lookup p.1 = some .free

def frC (fr : Frm) (h : Heap) (g : Fz) (wr : List Addr) (sc : Scope) (L' : Addr) : Frm :=
  { A := fr.A, env := { newEnv sc L' fr.env.globals (cellsFrom (L' + 1) sc.names [] ++ clos fr.env sc.names []) fr.env.qual none .none (some fr.env) builtinsNs with scope := relabel sc fr.env }, h₀ := hideAll h wr, g₀ := g, oc := (cellsFrom (L' + 1) sc.names []).map (·.2), hc := hideAll h wr }

theorem own_name {sc : Scope} {n : Nat} {x : Str} {a : Addr} : (x, a) ∈ cellsFrom n sc.names [] → (x, NameKind.cell) ∈ sc.names := by
  suffices ∀ (names : List (Str × NameKind)) (n : Nat) (acc : List (Str × Addr)), (x, a) ∈ cellsFrom n names acc → (x, NameKind.cell) ∈ names ∨ (x, a) ∈ acc from fun h => (this _ _ _ h).elim id fun e => nomatch e
  intro names
  induction names with
  | nil => intro n acc h; exact .inr h
  | cons p r ih =>
    obtain ⟨y, k⟩ := p
    intro n acc h
    unfold cellsFrom at h
    split at h
    · rename_i hk
      rcases ih _ _ h with e | e
      · exact .inl (List.mem_cons_of_mem _ e)
      · rcases List.mem_cons.mp e with e | e
        · cases e
          have : k = .cell := by simpa using hk
          subst this; exact .inl List.mem_cons_self
        · exact .inr e
    · rcases ih _ _ h with e | e
      · exact .inl (List.mem_cons_of_mem _ e)
      · exact .inr e

theorem Okf.closed {fr : Frm} (O : Okf c fr) {sc : Scope} (C : CScope c sc) : ∀ p ∈ sc.names, p.2 = .free → ∃ a, fr.env.cells.lookup p.1 = some a := fun p hp he => let ⟨a, h, _⟩ := O.cls _ (C.free p hp he); ⟨a, h⟩

/-- the block of a comprehension stands -/
theorem comp_frame {fr : Frm} {h h₄ : Heap} {g : Fz} {am wr : List Addr} {sc : Scope} {L' : Addr} {Γ' : Gam} (O : Okf c fr) (S : St fr Γ Δ h g am) (F : Off fr g am wr) (C : CScope c sc) (hL : h.objs.size < L')
    (hΓ : ∀ p ∈ Γ', p ∈ Γ ∧ (p.1, NameKind.free) ∈ sc.names ∧ ∃ d, p.2 = .d d)
    (k : ∀ b o, h.get? b = some o → h₄.get? b = some o) (hn : h₄.Ns L' fun _ => none) (hcl : ∀ n a, (n, a) ∈ cellsFrom (L' + 1) sc.names [] → h₄.IsCell a none ∧ L' < a) (hap : (cellsFrom (L' + 1) sc.names []).Pairwise fun x y => x.2 ≠ y.2) :
    Okf (cOf c sc) (frC fr h g wr sc L') ∧ St (frC fr h g wr sc L') Γ' [] h₄ g [] := by
  have clo := clos_ok sc.names [] (O.closed C) (fun _ e => nomatch e)
  have fresh : ∀ a, h.objs.size ≤ a → h.get? a = none := fun b hb => by
    cases q : h.get? b with
    | none => rfl
    | some o => exact absurd (Heap.lt_size q) (Nat.not_lt.mpr hb)
  have inH : ∀ b o, fr.h₀.get? b = some o → (hideAll h wr).get? b = some o := fun b o e => hideAll_get _ (S.keep b o e) fun hm => by
    rw [(F.off b hm).2.2.2.2] at e; cases e
  have hid : ∀ {b}, h.get? b = none → (hideAll h wr).get? b = none := fun {b} e => none_of_keep (fun b o e => of_hideAll _ e) e
  have hfreeC : ∀ x, (x, NameKind.free) ∈ sc.names → ∀ a, (x, a) ∉ cellsFrom (L' + 1) sc.names [] := fun x hx a hm => by
    have e1 := lookup_nd C.nd hx
    have e2 := lookup_nd C.nd (own_name hm)
    rw [e1] at e2; cases e2
  have look : ∀ x, (x, NameKind.free) ∈ sc.names → ∃ a, (cellsFrom (L' + 1) sc.names [] ++ clos fr.env sc.names []).lookup x = some a ∧ fr.env.cells.lookup x = some a := fun x hx => by
    obtain ⟨a, ha⟩ := clo.2.2.1 x hx
    obtain ⟨b, hb⟩ := lookup_some_of_mem ha
    exact ⟨b, by rw [lookup_app (hfreeC x hx)]; exact hb, clo.1 _ (mem_lookup hb)⟩
  have lookO : ∀ x, (x, NameKind.cell) ∈ sc.names → ∃ a, (x, a) ∈ cellsFrom (L' + 1) sc.names [] ∧ (cellsFrom (L' + 1) sc.names [] ++ clos fr.env sc.names []).lookup x = some a := fun x hx => by
    obtain ⟨a, ha⟩ := Option.isSome_iff_exists.mp (mem_cellsFrom (x := x) sc.names (L' + 1) [] (.inl hx))
    exact ⟨a, mem_lookup ha, lookup_appl ha⟩
  have esc : relabel sc fr.env = relab sc c.sc := relab_eq O sc
  refine ⟨⟨O.hand, (fun h => nomatch h), O.depth, O.units, esc, C.kind, O.glob, ?_, O.glo.keeps inH, fun _ _ e => e, fun x hx => ?_, fun x hx => ?_, fun x y a e1 e2 ha => ?_⟩, ?_⟩
  · exact O.blt
  · obtain ⟨p, hp, rfl⟩ := List.mem_map.mp hx
    obtain ⟨hp1, hp2⟩ := List.mem_filter.mp hp
    have e : p.2 = .cell := by simpa using hp2
    have hm : (p.1, NameKind.cell) ∈ sc.names := by rw [← e]; exact hp1
    obtain ⟨a, h1, h2⟩ := lookO _ hm
    refine ⟨?_, a, h2, List.mem_map.mpr ⟨_, h1, rfl⟩⟩
    have := relab_map (csc := c.sc) (lookup_nd C.nd hm)
    exact this
  · have : ∃ k, sc.names.lookup x = some k ∧ (k = .cell ∨ k = .free) := by
      rcases hx with e | e <;> obtain ⟨k', h1, h2⟩ := relab_inv e <;> refine ⟨k', h1, ?_⟩
      · by_cases hc : (k' == NameKind.free && c.sc.kind == .function && c.sc.names.lookup x == some .cell) = true
        · simp only [Bool.and_eq_true, beq_iff_eq] at hc
          exact .inr hc.1.1
        · rw [if_neg hc] at h2; exact .inl h2.symm
      · by_cases hc : (k' == NameKind.free && c.sc.kind == .function && c.sc.names.lookup x == some .cell) = true
        · rw [if_pos hc] at h2; cases h2
        · rw [if_neg hc] at h2; exact .inr h2.symm
    obtain ⟨k, h1, h2 | h2⟩ := this
    · subst h2
      obtain ⟨a, h4, h3⟩ := lookO x (mem_lookup h1)
      exact ⟨a, h3, .inl (List.mem_map.mpr ⟨_, h4, rfl⟩)⟩
    · subst h2
      obtain ⟨a, h3, h4⟩ := look x (mem_lookup h1)
      refine ⟨a, h3, .inr ?_⟩
      obtain ⟨b, hb1, hb2⟩ := O.cls x (C.free _ (mem_lookup h1) rfl)
      rw [h4] at hb1
      cases hb1
      rcases hb2 with e | ⟨o, e⟩
      · obtain ⟨⟨v, o, ho, _⟩, _⟩ := S.ocs _ e
        exact ⟨o, hideAll_get _ ho fun hm => (F.off _ hm).2.1 e⟩
      · exact ⟨o, inH _ _ (O.hck _ _ e)⟩
  · obtain ⟨q, hq, rfl⟩ := List.mem_map.mp ha
    have own : ∀ z, (cellsFrom (L' + 1) sc.names [] ++ clos fr.env sc.names []).lookup z = some q.2 → (z, q.2) ∈ cellsFrom (L' + 1) sc.names [] := fun z hz => by
      rcases List.mem_append.mp (mem_lookup hz) with hm | hm
      · exact hm
      · exfalso
        have hfz := (clo.2.2.2 _ hm).elim (fun e => nomatch e) id
        obtain ⟨a, ha1, ha2⟩ := O.cls z (C.free _ hfz rfl)
        have e9 := clo.1 _ hm
        simp only at e9
        rw [ha1] at e9
        cases e9
        have hex : ∃ o, h.get? q.2 = some o := by
          rcases ha2 with e | ⟨o, e⟩
          · obtain ⟨⟨v, o, ho, _⟩, _⟩ := S.ocs _ e
            exact ⟨o, ho⟩
          · exact ⟨o, S.keep _ _ (O.hck _ _ e)⟩
        obtain ⟨o, ho⟩ := hex
        have e1 : q.2 < h.objs.size := Heap.lt_size ho
        have e2 : L' < q.2 := (hcl _ _ hq).2
        exact Nat.lt_irrefl _ (Nat.lt_trans (Nat.lt_trans hL e2) e1)
    exact name_of_addr hap (own x e1) (own y e2)
  · have hL0 : h.get? L' = none := fresh L' (Nat.le_of_lt hL)
    refine ⟨fun b o e => k b o (of_hideAll _ e), fun b o e => k b o (S.sub b o e), fun _ _ e => e, fun _ _ e => .inl e, none_of_sub S.sub hL0, hid hL0, ⟨_, hn, fun p hp => ?_⟩, fun a ha => ?_, rfl, List.nodup_nil, fun i a ds h1 => by simp at h1⟩
    · obtain ⟨hp1, hp2, d, hd⟩ := hΓ p hp
      obtain ⟨m, hns, hpp⟩ := S.loc
      obtain ⟨v, h1, h2⟩ := hpp p hp1
      refine ⟨v, ?_, ?_⟩
      · rw [hd] at h1 ⊢
        cases h1 with
        | d _ _ r => exact .d _ _ r
      · obtain ⟨a, ha1, ha2⟩ := look p.1 hp2
        have hknd : (relab sc c.sc).names.lookup p.1 = some .cell ∨ (relab sc c.sc).names.lookup p.1 = some .free := by
          have := relab_map (csc := c.sc) (lookup_nd C.nd hp2)
          by_cases hc : (NameKind.free == NameKind.free && c.sc.kind == .function && c.sc.names.lookup p.1 == some .cell) = true
          · rw [if_pos hc] at this; exact .inl this
          · rw [if_neg hc] at this; exact .inr this
        refine .cell a (by rw [← esc] at hknd; exact hknd) ha1 ?_
        show (hideAll h wr).IsCell a (some v)
        cases h2 with
        | loc h3 h4 => 
          rcases C.free _ hp2 rfl with e | e <;> rw [O.sc] at h3 <;> simp only at e <;> rw [e] at h3 <;> cases h3
        | ocell b h3 h4 h5 h6 =>
          rw [ha2] at h4; cases h4
          obtain ⟨o, ho, hd'⟩ := h6
          exact ⟨o, hideAll_get _ ho fun hm => (F.off _ hm).2.1 h5, hd'⟩
        | cell b h3 h4 h6 =>
          rw [ha2] at h4; cases h4
          obtain ⟨o, ho, hd'⟩ := h6
          exact ⟨o, inH _ _ (O.hck _ _ ho), hd'⟩
    · obtain ⟨q, hq, rfl⟩ := List.mem_map.mp ha
      obtain ⟨h1, h2⟩ := hcl q.1 q.2 hq
      have hf := fresh q.2 (Nat.le_of_lt (Nat.lt_trans hL h2))
      exact ⟨⟨_, h1⟩, none_of_sub S.sub hf, hid hf, Nat.ne_of_gt h2, by simp⟩
end Mine

set_option maxRecDepth 100000
set_option autoImplicit false
set_option linter.unusedVariables false
namespace Mine
open PySem PySem.W PySem.Calls PyProof.Rows
variable {c : Cfg} {Γ : Gam} {Δ : Del} {P : Post}

def EvIfs (c : Cfg) (Γ : Gam) (Δ : Del) (ifs : List Expr) (b : Bool) : Prop := ∀ fr s g am, Okf c fr → St fr Γ Δ s.heap g am → ∀ Q : Bool → Shared → Prop,
  (∀ h' g' tk, Gr s.heap g h' g' → Q b { s with heap := h', toks := tk }) →
  W c fr (forIn ifs true fun c r => if r = true then do let ok ← isTrue c fr.env (eval c fr.env); pure (ForInStep.yield ok) else pure (ForInStep.yield r)) Q s
theorem evifs_nil : EvIfs c Γ Δ [] true := fun fr s g am O S Q hQ => by
  rw [List.forIn_nil]
  exact wpAny_pure (hQ s.heap g s.toks (.refl S.sub))
theorem evifs_one {t : Expr} {b : Bool} (h : EvT c Γ Δ t b) : EvIfs c Γ Δ [t] b := fun fr s g am O S Q hQ => by
  rw [List.forIn_cons]
  simp only [if_true]
  refine wpAny_bind (wpAny_bind (h fr s g am O S _ fun h1 g1 t1 k1 => wpAny_pure ?_))
  exact wpAny_pure (hQ h1 g1 t1 k1)

theorem sto_not_free {sc : Scope} {x y : Str} (C : CScope c sc) (hx : Sto (cOf c sc) x) (hy : (y, NameKind.free) ∈ sc.names) : y ≠ x := by
  rintro rfl
  rcases hx with e | e
  · have := relab_map (csc := c.sc) (lookup_nd C.nd hy)
    have e' : (relab sc c.sc).names.lookup y = some .local := e
    unfold relab at e'
    rw [e'] at this
    split at this <;> cases this
  · obtain ⟨p, hp, rfl⟩ := List.mem_map.mp e
    obtain ⟨hp1, hp2⟩ := List.mem_filter.mp hp
    have e : p.2 = .cell := by simpa using hp2
    have hm : (p.1, NameKind.cell) ∈ sc.names := by rw [← e]; exact hp1
    have e1 := lookup_nd C.nd hm
    rw [lookup_nd C.nd hy] at e1
    cases e1

theorem snoc_filter {α : Type} (p : α → Bool) (xs : List α) (i : Nat) (d : α) (h : xs[i]? = some d) : (xs.take (i + 1)).filter p = (xs.take i).filter p ++ (if p d then [d] else []) := by
  rw [List.take_add_one, h]
  simp only [Option.toList_some, List.filter_append]
  congr 1
  by_cases hp : p d = true <;> simp [hp]

/-- one generator -/
theorem w_comp {fr : Frm} {s₀ s : Shared} {g₀ g : Fz} {am : List Addr} {elt iter : Expr} {x : Str} {px pos : Pos} {ifs : List Expr} {sc : Scope} {xs : List D} {Γ' : Gam} {p : D → Bool} {f : D → D} {It : Addr} {fp wr : List Addr} {Pw : Nat → Value → Prop} {Sw : Nat → Heap → Prop}
    {RR : Value → Addr → Result → Shared → Prop} (O : Okf c fr) (S0 : St fr Γ Δ s₀.heap g₀ am) (it : ItAt c fr false xs s₀.heap g₀ s.heap g It fp wr Pw Sw) (C : CScope c sc) (hx : Sto (cOf c sc) x) (hsz : xs.length ≤ 100000)
    (hΓ : ∀ p ∈ Γ', p ∈ Γ ∧ (p.1, NameKind.free) ∈ sc.names ∧ ∃ d, p.2 = .d d)
    (hif : ∀ d ∈ xs, EvIfs (cOf c sc) (upd Γ' x (.d d)) [] ifs (p d)) (he : ∀ d ∈ xs, p d = true → EvF (cOf c sc) (upd Γ' x (.d d)) [] elt (f d))
    (hRR : ∀ D C h' g' tk m, s₀.heap.get? C = none → g' C = none → h'.Ns C m → Gr s₀.heap g₀ h' g' → Rep g' (.list ((xs.filter p).map f)) (.ref D) → D ≠ C → RR (.ref D) C (.ok .next) { s with heap := h', toks := tk }) :
    W c fr (newList []) (fun acc s₃ => W c fr (newFunctionEnv sc fr.env.globals (clos fr.env sc.names []) [] fr.env.qual none .none (some fr.env)) (fun cenv s₄ =>
      codeAny (model c.X.prog c.X.w) fr.A (.compStart (.ListComp elt [⟨.Name x px, iter, ifs, 0⟩] sc pos) 0 (.ref It) acc { cenv with scope := relabel sc fr.env }) (RR acc cenv.locals) s₄) s₃) s := by
  have S := S0.gr it.gr
  have F := it.offs S0
  refine wpAny_newList ?_
  refine w_newEnv C.kind fun h₄ k4 hn hcl hap => ?_
  dsimp only at k4 hn hcl ⊢
  generalize hH1 : s.heap.push (lstO [] 0) = H1 at k4 hn hcl hap ⊢
  have hsize : H1.objs.size = s.heap.objs.size + 1 := by rw [← hH1, Heap.size_push]
  have kpush : ∀ b o, s.heap.get? b = some o → H1.get? b = some o := fun b o e => by rw [← hH1]; exact Heap.get?_push_of_some _ e
  have hD1 : H1.get? s.heap.objs.size = some (lstO [] 0) := by rw [← hH1]; exact Heap.get?_push_size _ rfl
  obtain ⟨O', S'⟩ := comp_frame (h₄ := h₄) (L' := H1.objs.size) O S F C (by rw [hsize]; exact Nat.lt_succ_self _) hΓ (fun b o e => k4 b o (kpush b o e)) hn hcl hap
  let fr' := frC fr s.heap g wr sc H1.objs.size
  have hDfresh : s.heap.get? s.heap.objs.size = none := fresh_size
  have hLfresh : s.heap.get? H1.objs.size = none := by
    cases q : s.heap.get? H1.objs.size with
    | none => rfl
    | some o => have : H1.objs.size < s.heap.objs.size := Heap.lt_size q
                rw [hsize] at this; exact absurd this (by omega)
  have hDL : s.heap.objs.size ≠ H1.objs.size := by rw [hsize]; exact Nat.ne_of_lt (Nat.lt_succ_self _)
  have hocD : ∀ a ∈ fr'.oc, s.heap.get? a = none ∧ s.heap.objs.size ≠ a := fun a ha => by
    obtain ⟨q, hq, rfl⟩ := List.mem_map.mp ha
    have h2 := (hcl q.1 q.2 hq).2
    refine ⟨?_, ?_⟩
    · cases q' : s.heap.get? q.2 with
      | none => rfl
      | some o => have : q.2 < s.heap.objs.size := Heap.lt_size q'
                  rw [hsize] at h2
                  exact absurd (Nat.lt_trans h2 this) (by omega)
    · rw [hsize] at h2; intro e; rw [← e] at h2; exact absurd h2 (by omega)
  have wrE : ∀ b ∈ wr, s.heap.get? b ≠ none := it.wl 0 _ it.st
  have fpE : ∀ b ∈ fp, s.heap.get? b ≠ none := fun b hb => (it.fp b hb).elim (wrE b) fun e => by simpa using e
  have hDwr : s.heap.objs.size ∉ wr := fun hm => wrE _ hm hDfresh
  have hDfp : s.heap.objs.size ∉ fp := fun hm => fpE _ hm hDfresh
  have offW : Off fr' g [] wr := ⟨fun b hb => ⟨fun e => wrE b hb (by rw [show b = H1.objs.size from e]; exact hLfresh), fun hm => wrE b hb (hocD b hm).1, by simp, it.free b hb, hideAll_none _ hb⟩⟩
  have hDh : (hideAll s.heap wr).get? s.heap.objs.size = none := none_of_keep (fun b o e => of_hideAll _ e) hDfresh
  have offD : ∀ {g₁ : Fz}, g₁ s.heap.objs.size = none → Off fr' g₁ [] [s.heap.objs.size] := fun hg => ⟨fun b hb => by
    rw [List.mem_singleton.mp hb]
    exact ⟨hDL, fun hm => (hocD _ hm).2 rfl, by simp, hg, hDh⟩⟩
  have loop : codeAny (model c.X.prog c.X.w) fr.A (.compLoop (.ListComp elt [⟨.Name x px, iter, ifs, 0⟩] sc pos) 0 (.ref It) (.ref s.heap.objs.size) fr'.env) (RR (.ref s.heap.objs.size) H1.objs.size) { s with heap := h₄ } := by
    refine codeAny_compLoop_tests (fun k s' => ∃ i h₁ g₁ tk ys n, s' = { s with heap := h₁, toks := tk } ∧ St fr' Γ' [] h₁ g₁ [] ∧ (∀ b ∈ wr, g₁ b = none) ∧ g₁ s.heap.objs.size = none ∧ Sw i h₁ ∧ h₁.get? s.heap.objs.size = some (lstO ys n) ∧ Reps g₁ (((xs.take i).filter p).map f) ys ∧ i ≤ xs.length ∧ k = xs.length + 1 - i) ?_ (xs.length + 1)
      ⟨0, h₄, g, s.toks, [], 0, rfl, S', it.free, none_of_sub S.sub hDfresh, it.wk.frame _ _ _ it.st fun b hb o e => k4 _ _ (kpush _ _ e), k4 _ _ hD1, by simp; exact .nil, Nat.zero_le _, rfl⟩
    rintro k s' ⟨i, h₁, g₁, tk, ys, n, rfl, S1, hfw, hfD, hst, hD, hR, hil, rfl⟩
    by_cases hlt : i < xs.length
    · refine it.wk.item i _ _ _ hlt hst fun v h3 t3 hv hst3 k3 => ?_
      obtain ⟨d, hd, hr⟩ := it.item i v hv
      have hdm : d ∈ xs := List.mem_of_getElem? hd
      have offW1 : Off fr' g₁ [] wr := ⟨fun b hb => ⟨(offW.off b hb).1, (offW.off b hb).2.1, (offW.off b hb).2.2.1, hfw b hb, (offW.off b hb).2.2.2.2⟩⟩
      have S3 := S1.off offW1 k3
      have hD3 := k3 _ _ hDwr hD
      refine wpAny_mono (E := fun _ _ => False) (wpAny_assign_Name (w_store O' S3 hx (.d d v (hr.mono S1.gsub)) fun h4 t4 S4 k4' => ?_)) (fun _ _ q => q) fun _ _ q => q.elim
      have hD4 := k4' _ _ hDL (fun hm => (hocD _ hm).2 rfl) hD3
      have hst4 : Sw (i + 1) h4 := it.wk.frame _ _ _ hst3 fun b hb o e => k4' b o (fun q => fpE b hb (by rw [show b = H1.objs.size from q]; exact hLfresh)) (fun hm => fpE b hb (hocD b hm).1) e
      refine wpAny_mono (E := fun _ _ => False) (hif d hdm fr' _ g₁ [] O' S4 _ fun h5 g5 t5 k5 => ?_) (fun _ _ q => q) fun _ _ q => q.elim
      have S5 := S4.gr k5
      have back : ∀ {h : Heap} {g : Fz}, St fr' (upd Γ' x (.d d)) [] h g [] → St fr' Γ' [] h g [] := fun S => S.weak fun q hq => by
        obtain ⟨q1, q2, q3⟩ := hΓ q hq
        exact List.Mem.tail _ (List.mem_filter.mpr ⟨hq, by simpa using sto_not_free C hx q2⟩)
      have nD5 := k5.none hfD hD4
      have nW : ∀ {h h' : Heap} {g₁ g' : Fz} {b : Addr} {i : Nat}, Gr h g₁ h' g' → Sw i h → b ∈ wr → g₁ b = none → g' b = none := fun {h h' g₁ g' b i} k hs hb hg => by
        obtain ⟨o, ho⟩ := Option.ne_none_iff_exists'.mp (it.wl i h hs b hb)
        exact k.none hg ho
      have hst5 : Sw (i + 1) h5 := it.wk.frame _ _ _ hst4 fun b hb o e => k5.hk b o e
      cases hp : p d with
      | false =>
        simp only [Bool.false_eq_true, if_false]
        refine ⟨_, by omega, i + 1, h5, g5, t5, ys, n, rfl, back S5, fun b hb => nW k5 hst4 hb (hfw b hb), nD5, hst5, k5.hk _ _ hD4, ?_, hlt, rfl⟩
        rw [snoc_filter p xs i d hd, hp]
        simp only [Bool.false_eq_true, if_false, List.append_nil]
        exact hR.mono k5.gk
      | true =>
        simp only [if_true]
        refine wpAny_mono (E := fun _ _ => False) (he d hdm hp fr' _ g5 [] O' S5 _ fun y h6 g6 t6 k6 r6 => ?_) (fun _ _ q => q) fun _ _ q => q.elim
        have S6 := S5.gr k6
        have hD6 := k6.hk _ _ (k5.hk _ _ hD4)
        have nD6 := k6.none nD5 (k5.hk _ _ hD4)
        have hys : ys.length = (((xs.take i).filter p).map f).length := hR.length
        have hys2 : ys.length ≤ sizeLine := by
          rw [hys, List.length_map]
          have e1 := List.length_filter_le p (xs.take i)
          rw [List.length_take] at e1
          rw [sizeLine_lit]; omega
        refine wpAny_list_append_plain (items := ys.toArray) ⟨n, hD6⟩ (fun h7 hl7 hs7 => ?_) (by rw [List.size_toArray]; exact hys2)
        obtain ⟨n7, ho7⟩ := hl7
        have ho7' : h7.get? s.heap.objs.size = some (lstO (ys ++ [y]) n7) := by rw [ho7]; simp
        have S7 := S6.off (offD nD6) fun b o hb e => (hs7.2 b fun q => hb (List.mem_singleton.mpr q)).trans e
        have hst6 : Sw (i + 1) h6 := it.wk.frame _ _ _ hst5 fun b hb o e => k6.hk b o e
        refine ⟨_, by omega, i + 1, h7, g6, t6, ys ++ [y], n7, rfl, back S7, fun b hb => nW k6 hst5 hb (nW k5 hst4 hb (hfw b hb)), nD6, it.wk.frame _ _ _ hst6 (fun b hb o e => (hs7.2 b fun q => hDfp (by rw [← show b = s.heap.objs.size from q]; exact hb)).trans e), ho7', ?_, hlt, rfl⟩
        rw [snoc_filter p xs i d hd, hp]
        simp only [if_true, List.map_append, List.map_cons, List.map_nil]
        exact ((hR.mono k5.gk).mono k6.gk).append (.cons r6 .nil)
    · have hin : i = xs.length := by omega
      subst hin
      refine it.wk.done _ _ _ hst fun h3 t3 k3 => ?_
      have offW1 : Off fr' g₁ [] wr := ⟨fun b hb => ⟨(offW.off b hb).1, (offW.off b hb).2.1, (offW.off b hb).2.2.1, hfw b hb, (offW.off b hb).2.2.2.2⟩⟩
      have S3 := S1.off offW1 k3
      have hD3 := k3 _ _ hDwr hD
      rw [List.take_length] at hR
      have up0 : ∀ b o, s₀.heap.get? b = some o → (hideAll s.heap wr).get? b = some o := fun b o e => hideAll_get _ (it.gr.hk b o e) fun hm => by rw [it.new b hm] at e; cases e
      obtain ⟨m3, hn3, _⟩ := S3.loc
      refine hRR _ _ h3 (g₁.add s.heap.objs.size (lstO ys n)) t3 m3 (none_of_keep it.gr.hk hLfresh) ?_ hn3 ⟨fun b o e => S3.keep b o (up0 b o e), fun b o e => Fz.add_keep hfD _ _ (S3.gsub b o (it.gr.gk b o e)), fun b o e => ?_, fun b o e => ?_⟩ (.list _ _ ys n (Fz.add_self _ _ _) (hR.mono (Fz.add_keep hfD))) hDL
      · unfold Fz.add; rw [if_neg (Ne.symm hDL)]; exact S3.gL
      · unfold Fz.add at e
        by_cases hb : b = s.heap.objs.size
        · rw [if_pos hb] at e; cases e; rw [hb]; exact hD3
        · rw [if_neg hb] at e; exact S3.sub b o e
      · unfold Fz.add at e
        by_cases hb : b = s.heap.objs.size
        · rw [hb]; exact .inr (none_of_keep it.gr.hk hDfresh)
        · rw [if_neg hb] at e
          rcases S3.own b o e with q | q
          · exact it.gr.own b o q
          · exact .inr (none_of_keep up0 q)
  refine codeAny_compStart_list loop (it.wk.self 0 _ _ _ ?_ loop)
  exact it.wk.frame _ _ _ it.st fun b hb o e => k4 _ _ (kpush _ _ e)
end Mine

set_option maxRecDepth 100000
set_option autoImplicit false
set_option linter.unusedVariables false
namespace Mine
open PySem PySem.W PySem.Calls PyProof.Rows
variable {c : Cfg} {Γ : Gam} {Δ : Del} {P : Post}

theorem CScope.hnames {sc : Scope} (C : CScope c sc) : ∀ x ∈ sc.names, x.2 = .local → sc.names.lookup x.1 = some .local := fun x hx e => lookup_nd C.nd (by rw [← e]; exact hx)

/-- the store behind a comprehension: nothing else has turned -/
theorem gr_other {h h' h'' : Heap} {g g' : Fz} {C : Addr} (k : Gr h g h' g') (hs : Heap.SameBut C h' h'') (hC : h.get? C = none) (hgC : g' C = none) : Gr h g h'' g' where
  hk := fun b o e => (hs.2 b fun q => by rw [q, hC] at e; cases e).trans (k.hk b o e)
  gk := k.gk
  sub := fun b o e => (hs.2 b fun q => by rw [q, hgC] at e; cases e).trans (k.sub b o e)
  own := k.own

theorem ev_comp {elt iter : Expr} {x : Str} {px pos : Pos} {ifs : List Expr} {sc : Scope} {xs : List D} {Γ' : Gam} {p : D → Bool} {f : D → D} (hi : EvI false c Γ Δ iter xs) (C : CScope c sc) (hx : Sto (cOf c sc) x) (hsz : xs.length ≤ 100000)
    (hΓ : ∀ p ∈ Γ', p ∈ Γ ∧ (p.1, NameKind.free) ∈ sc.names ∧ ∃ d, p.2 = .d d)
    (hif : ∀ d ∈ xs, EvIfs (cOf c sc) (upd Γ' x (.d d)) [] ifs (p d)) (he : ∀ d ∈ xs, p d = true → EvF (cOf c sc) (upd Γ' x (.d d)) [] elt (f d))
    (hs : ∀ env x, foldedSetIterable iter env x = pure x := by intro _ _; rfl) : EvF c Γ Δ (.ListComp elt [⟨.Name x px, iter, ifs, 0⟩] sc pos) (.list ((xs.filter p).map f)) := fun fr s g am O S Q hQ => by
  rw [eval_ListComp]
  refine wpAny_comprehension_free (use := none) rfl (hs _) (closureFor_clos (O.closed C)) C.kind C.hnames (hi fr s g am O S _ fun It fp wr Pw Sw h1 g1 t1 it => ?_)
  refine w_comp O S it C hx hsz hΓ hif he (RR := fun acc C => compPost _ _ _ none Q acc C) fun D C h' g' tk m hC hgC hn k r hDC => ?_
  exact ⟨m, hn, fun h'' hs => hQ _ h'' g' tk (gr_other k hs hC hgC) r⟩

theorem ex_assign_comp {y : Str} {py spos : Pos} {elt iter : Expr} {x : Str} {px pos : Pos} {ifs : List Expr} {sc : Scope} {xs : List D} {Γ' : Gam} {p : D → Bool} {f : D → D} (hi : EvI false c Γ Δ iter xs) (C : CScope c sc) (hx : Sto (cOf c sc) x) (hsz : xs.length ≤ 100000)
    (hΓ : ∀ p ∈ Γ', p ∈ Γ ∧ (p.1, NameKind.free) ∈ sc.names ∧ ∃ d, p.2 = .d d)
    (hif : ∀ d ∈ xs, EvIfs (cOf c sc) (upd Γ' x (.d d)) [] ifs (p d)) (he : ∀ d ∈ xs, p d = true → EvF (cOf c sc) (upd Γ' x (.d d)) [] elt (f d))
    (hy : c.sc.names.lookup y = some .local) (h : P .next (upd Γ y (.d (.list ((xs.filter p).map f)))) Δ)
    (hl : (py.line == pos.line) = true := by rfl) (hno : (sc.names.any fun (n, k) => n == y && (k == .local || k == .cell)) = false := by decide +kernel)
    (hs : ∀ env x, foldedSetIterable iter env x = pure x := by intro _ _; rfl) : Ex1 c Γ Δ (.Assign [.Name y py] (.ListComp elt [⟨.Name x px, iter, ifs, 0⟩] sc pos) spos) P := fun fr s g am O S Q hQ => by
  have hsw : swapsWith (.ListComp elt [⟨.Name x px, iter, ifs, 0⟩] sc pos) (some (.Name y py)) spos.line fr.env = pure true := by
    show (pure (fr.env.blockKind == .function && fr.env.kindOf y == some .local && py.line == pos.line && !(sc.names.any fun (n, k) => n == y && (k == .local || k == .cell))) : Sem Bool) = _
    have h1 : fr.env.blockKind = .function := by unfold Env.blockKind; rw [O.sc, O.kind]; rfl
    have h2 : fr.env.kindOf y = some .local := by unfold Env.kindOf; rw [O.sc]; exact hy
    rw [h1, h2, hl, hno]; rfl
  unfold W
  rw [exec_Assign_Name_used _ _ _ _ hsw]
  refine wpAny_bind (wpAny_standAt (wpAny_bind ?_))
  show wpAny _ fr.A (do let _ ← comprehension (.ListComp elt [⟨.Name x px, iter, ifs, 0⟩] sc pos) sc fr.env _ (newList []) false (eval iter fr.env) (some (assign (.Name y py) fr.env))) _ _ s
  refine wpAny_bind (wpAny_mono (wpAny_comprehension_free (use := some (assign (.Name y py) fr.env)) (Q := fun _ s' => Q .next s') rfl (hs _) (closureFor_clos (O.closed C)) C.kind C.hnames
    (hi fr s g am O S _ fun It fp wr Pw Sw h1 g1 t1 it => ?_)) (fun _ s' hq => wpAny_pure (wpAny_pure hq)) fun _ _ e => e)
  refine w_comp O S it C hx hsz hΓ hif he (RR := fun acc C => compPost _ _ _ (some (assign (.Name y py) fr.env)) (fun _ s' => Q .next s') acc C) fun D C h' g' tk m hC hgC hn k r hDC => ?_
  have S1 := S.gr k
  have hCL : C ≠ fr.env.locals := fun e => by
    obtain ⟨m', hns, _⟩ := S.loc
    obtain ⟨o, ho⟩ := Heap.Ns.get hns
    rw [← e, hC] at ho; cases ho
  have hCo : C ∉ fr.oc := fun hm => by
    obtain ⟨⟨v, o, ho, _⟩, _⟩ := S.ocs C hm
    rw [hC] at ho; cases ho
  have hCm : C ∉ am := fun hm => by
    obtain ⟨i, hi, q⟩ := List.mem_iff_getElem.mp hm
    obtain ⟨⟨vs, n, ho, _⟩, _⟩ := S.muts i C _ (by rw [List.getElem?_eq_getElem hi, q]) (List.getElem?_eq_getElem (S.len ▸ hi))
    rw [hC] at ho; cases ho
  show wpAny _ fr.A (assign (.Name y py) fr.env (.ref D)) _ _ _
  refine wpAny_assign_Name (w_store O S1 (.inl hy) (.d _ _ r) fun h2 t2 S2 k2 => ?_)
  refine ⟨m, hn.at' fun o e => k2 _ o hCL hCo e, fun h3 hs3 => ?_⟩
  have S3 := S2.off (wr := [C]) ⟨fun b hb => by rw [List.mem_singleton.mp hb]; exact ⟨hCL, hCo, hCm, hgC, none_of_keep S.keep hC⟩⟩ fun b o hb e => (hs3.2 b fun q => hb (List.mem_singleton.mpr q)).trans e
  exact hQ .next .next _ _ h3 g' am t2 h .next S3

/-- x = [..] where x is captured -/
theorem ex_assign_compC {y : Str} {py spos : Pos} {elt : Expr} {gens : List Comprehension} {sc : Scope} {pos : Pos} {d : D} (hv : EvF c Γ Δ (.ListComp elt gens sc pos) d) (hy : y ∈ c.own) (hk : c.sc.names.lookup y = some .cell) (h : P .next (upd Γ y (.d d)) Δ) :
    Ex1 c Γ Δ (.Assign [.Name y py] (.ListComp elt gens sc pos) spos) P := fun fr s g am O S Q hQ => by
  have hsw : swapsWith (.ListComp elt gens sc pos) (some (.Name y py)) spos.line fr.env = pure false := by
    show (pure (fr.env.blockKind == .function && fr.env.kindOf y == some .local && py.line == pos.line && !(sc.names.any fun (n, k) => n == y && (k == .local || k == .cell))) : Sem Bool) = _
    have h2 : fr.env.kindOf y = some .cell := by unfold Env.kindOf; rw [O.sc]; exact hk
    rw [h2]
    have : (some NameKind.cell == some NameKind.local) = false := by decide
    rw [this, Bool.and_false, Bool.false_and, Bool.false_and]
  exact wpAny_Assign_Name (hv fr s g am O S _ fun v h1 g1 t1 k1 r1 => w_store O (S.gr k1) (.inr hy) (.d d v r1) fun h2 t2 S2 _ => hQ .next .next _ _ h2 g1 am t2 h .next S2) hsw
end Mine

set_option maxRecDepth 100000
set_option autoImplicit false
set_option linter.unusedVariables false
namespace Mine
open PySem PySem.W PySem.Calls PyProof.Rows PySem.Builtin.Str
variable {c : Cfg} {Γ : Gam} {Δ : Del} {P : Post}

/-- a text by its signs' numbers -/
abbrev S (l : List Nat) : Str := ⟨l.toArray⟩
def cut {α : Type} (l : List α) (lo hi : Option Int) : List α := (l.drop (lo.elim 0 (clipAt l.length))).take (hi.elim l.length (clipAt l.length) - lo.elim 0 (clipAt l.length))

theorem strSlice_eq (lo hi : Option Int) (n : Nat) : strSliceIndices lo hi 1 n = sliceRange ((lo.elim 0 (clipAt n) : Nat) : Int) ((hi.elim n (clipAt n) : Nat) : Int) 1 := by
  unfold strSliceIndices
  cases lo <;> cases hi <;> simp [clipAt_cast]
theorem txt_slice (l : List Nat) (lo hi : Option Int) : Txt.slice (S l) lo hi = S (cut l lo hi) := by
  have hlen : (S l).length = l.length := by simp [Str.length]
  have e : (strSliceIndices lo hi 1 (S l).length).filterMap ((S l).cps[·]?) = cut l lo hi := by
    rw [strSlice_eq, sliceRange_one, hlen]
    have := pick_run (S l).cps (lo.elim 0 (clipAt l.length)) (hi.elim l.length (clipAt l.length) - lo.elim 0 (clipAt l.length))
    rw [this]
    unfold cut
    simp
  unfold Txt.slice
  split
  · rename_i h
    simp only [beq_self_eq_true, Bool.true_and, beq_iff_eq] at h
    rw [strSlice_eq, sliceRange_one, List.length_map, List.length_range, hlen] at h
    have hc : ∀ i, clipAt l.length i ≤ l.length := fun i => by
      have := clipAt_cast l.length i; omega
    have h1 : hi.elim l.length (clipAt l.length) ≤ l.length := by cases hi <;> simp [hc]
    by_cases h0 : l.length = 0
    · have : l = [] := List.length_eq_zero_iff.mp h0
      subst this; simp [cut]
    · have e1 : lo.elim 0 (clipAt l.length) = 0 := by omega
      have e2 : hi.elim l.length (clipAt l.length) = l.length := by omega
      unfold cut
      rw [e1, e2]; simp
  · rw [e]

/-- a slice's part -/
inductive EvP (c : Cfg) (Γ : Gam) (Δ : Del) : Option Expr → Option Int → Prop
  | none : EvP c Γ Δ none none
  | some {e : Expr} {i : Int} (h : Ev c Γ Δ e (.int i)) : EvP c Γ Δ (some e) (some i)

theorem w_part {fr : Frm} {am : List Addr} {e : Option Expr} {i : Option Int} (h : EvP c Γ Δ e i) {s : Shared} {g : Fz} (O : Okf c fr) (S' : St fr Γ Δ s.heap g am) {Q : Value → Shared → Prop}
    (hQ : ∀ (q : Option (Int × Tok)) h' g' tk, Gr s.heap g h' g' → q.map (·.1) = i → Q (partValue q) { s with heap := h', toks := tk }) : W c fr (evalPart e fr.env) Q s := by
  cases h with
  | none => exact wpAny_pure (hQ none s.heap g s.toks (.refl S'.sub) rfl)
  | some h =>
    refine h fr s g am O S' _ fun v h1 g1 t1 k1 r1 => ?_
    obtain ⟨t, rfl⟩ := rint r1
    exact hQ (some (_, t)) h1 g1 t1 k1 rfl

theorem ev_sl_str {v : Expr} {lo hi : Option Expr} {i j : Option Int} {l : List Nat} {p pos : Pos} (hv : Ev c Γ Δ v (.str (S l))) (h1 : EvP c Γ Δ lo i) (h2 : EvP c Γ Δ hi j) (hz : l.length ≤ 100000)
    (ht : ∀ o r, letTemporaryGo v o r = pure () := by intro _ _; rfl) : EvF c Γ Δ (.Subscript v (.Slice lo hi none p) pos) (.str (S (cut l i j))) := fun fr s g am O S' Q hQ =>
  wpAny_Subscript_str_slice (hv fr s g am O S' _ fun va k1 g1 t1 kk1 r1 => w_part h1 O (S'.gr kk1) fun q1 k2 g2 t2 kk2 e1 => w_part h2 O ((S'.gr kk1).gr kk2) fun q2 k3 g3 t3 kk3 e2 => by
    obtain ⟨t, rfl⟩ := rstr r1
    refine ⟨_, t, q1, q2, rfl, rfl, rfl, ?_⟩
    have kp : ∀ b o, k3.get? b = some o → (k3.push { cls := .type "slice", data := .fields #[partValue q1, partValue q2, .none] }).get? b = some o := fun b o e => Heap.get?_push_of_some _ e
    refine post_val_or_str (?_ : _ ∧ _)
    have hb : (Txt.slice (S l) (q1.map (·.1)) (q2.map (·.1))).length ≤ sizeLine := Nat.le_trans (Txt.slice_le _ _ _) (by rw [sizeLine_lit]; simp [Str.length]; omega)
    refine ⟨hb, fun t' k => ?_⟩
    have e : Txt.slice (S l) (q1.map (·.1)) (q2.map (·.1)) = S (cut l i j) := by rw [e1, e2, txt_slice]
    exact hQ _ _ g3 _ (((kk1.trans kk2).trans kk3).trans (.heap kk3.sub kp)) (by
      show Rep g3 _ (.str (Txt.slice (S l) (q1.map (·.1)) (q2.map (·.1))) t')
      rw [e]; exact .str _ _)) ht

theorem Reps.sub {g : Fz} : ∀ {ds : List D} {vs : List Value} (_ : Reps g ds vs) (a k : Nat), Reps g ((ds.drop a).take k) ((vs.drop a).take k)
  | _, _, .nil, a, k => by simp; exact .nil
  | _, _, .cons h t, 0, 0 => .nil
  | _, _, .cons h t, 0, k + 1 => by simp only [List.drop_zero, List.take_succ_cons]; exact .cons h (by simpa using Reps.sub t 0 k)
  | _, _, .cons h t, a + 1, k => by simp only [List.drop_succ_cons]; exact Reps.sub t a k
theorem Reps.rev {g : Fz} : ∀ {ds : List D} {vs : List Value} (_ : Reps g ds vs), Reps g ds.reverse vs.reverse
  | _, _, .nil => .nil
  | _, _, .cons h t => by rw [List.reverse_cons, List.reverse_cons]; exact (Reps.rev t).append (.cons h .nil)

theorem isPart_of {q : Option (Int × Tok)} {i : Option Int} (e : q.map (·.1) = i) : IsPart (partValue q) i := by
  cases q with
  | none => cases e; exact .none
  | some q => cases e; exact .int _ _

theorem ev_sl_list {v : Expr} {lo hi : Option Expr} {i j : Option Int} {ds : List D} {p pos : Pos} (hv : Ev c Γ Δ v (.list ds)) (h1 : EvP c Γ Δ lo i) (h2 : EvP c Γ Δ hi j) (hz : ds.length ≤ 100000)
    (ht : ∀ o r, letTemporaryGo v o r = pure () := by intro _ _; rfl) : EvF c Γ Δ (.Subscript v (.Slice lo hi none p) pos) (.list (cut ds i j)) := fun fr s g am O S' Q hQ =>
  wpAny_Subscript_list_slice (hv fr s g am O S' _ fun va k1 g1 t1 kk1 r1 => w_part h1 O (S'.gr kk1) fun q1 k2 g2 t2 kk2 e1 => w_part h2 O ((S'.gr kk1).gr kk2) fun q2 k3 g3 t3 kk3 e2 => by
    obtain ⟨a, vs, n, rfl, ho, hr⟩ := (r1.gr (kk2.trans kk3)).list kk3.sub
    have hl := hr.length
    refine ⟨a, vs.toArray, i, j, rfl, isList_of ho, by rw [List.size_toArray, hl, sizeLine_lit]; omega, isPart_of e1, isPart_of e2, ?_⟩
    rw [slicePick_plain]
    generalize hH : k3.push { cls := .type "slice", data := .fields #[partValue q1, partValue q2, .none] } = H
    have kp : ∀ b o, k3.get? b = some o → H.get? b = some o := fun b o e => by rw [← hH]; exact Heap.get?_push_of_some _ e
    have hsz : H.objs.size = k3.objs.size + 1 := by rw [← hH, Heap.size_push]
    have e3 : H.get? H.objs.size = none := fresh_size
    show Q (.ref (k3.objs.size + 1)) _
    rw [← hsz]
    have kk4 : Gr k3 g3 (H.push (lstO (cut vs i j) 0)) (g3.add H.objs.size (lstO (cut vs i j) 0)) := .add kk3.sub (fun b o e => Heap.get?_push_of_some _ (kp b o e)) (none_of_keep kp e3) (Heap.get?_push_size _ rfl)
    have hcut : (({ cls := .type "list", data := .seq ((vs.toArray.toList.drop (i.elim 0 (clipAt vs.toArray.size))).take (j.elim vs.toArray.size (clipAt vs.toArray.size) - i.elim 0 (clipAt vs.toArray.size))).toArray } : Obj)) = lstO (cut vs i j) 0 := by simp [cut]
    rw [hcut]
    refine hQ _ _ _ t3 (((kk1.trans kk2).trans kk3).trans kk4) (.list _ _ (cut vs i j) 0 (Fz.add_self _ _ _) ?_)
    have := Reps.sub hr (i.elim 0 (clipAt ds.length)) (j.elim ds.length (clipAt ds.length) - i.elim 0 (clipAt ds.length))
    have e5 : cut vs i j = (vs.drop (i.elim 0 (clipAt ds.length))).take (j.elim ds.length (clipAt ds.length) - i.elim 0 (clipAt ds.length)) := by unfold cut; rw [hl]
    rw [e5]
    exact this.mono (Fz.add_keep (none_of_sub kk3.sub (none_of_keep kp e3)))) ht

/-! items -/
theorem ev_item {v k : Expr} {ds : List D} {z : Int} {d : D} {pos : Pos} (hv : Ev c Γ Δ v (.list ds)) (hk : Ev c Γ Δ k (.int z)) (h0 : 0 ≤ z) (hz : z < 100000) (hd : ds[z.toNat]? = some d)
    (hs : ∀ o i t, subscripted k false o (.int i t) = operate [o, .int i t] (getItem o (.int i t)) := by intro _ _ _; rfl) : EvF c Γ Δ (.Subscript v k pos) d := fun fr s g am O S' Q hQ =>
  Subscript_ (hv fr s g am O S' _ fun va k1 g1 t1 kk1 r1 => hk fr _ g1 am O (S'.gr kk1) _ fun vk k2 g2 t2 kk2 r2 => by
    obtain ⟨t, rfl⟩ := rint r2
    obtain ⟨a, vs, n, rfl, ho, hr⟩ := (r1.gr kk2).list kk2.sub
    obtain ⟨y, hy, ry⟩ := hr.get z.toNat d hd
    exact tail_any (isList_of ho).typeIs slot_list_getitem.lookup (wpAny_getItem_list (isList_of ho) h0 (by omega) (by simpa using hy) (hQ y k2 g2 t2 (kk1.trans kk2) ry)) (hs _ _ _))
theorem ev_last {v k : Expr} {ds : List D} {d : D} {pos : Pos} (hv : Ev c Γ Δ v (.list (ds ++ [d]))) (hk : Ev c Γ Δ k (.int (-1))) (hz : ds.length < 100000)
    (hs : ∀ o i t, subscripted k false o (.int i t) = operate [o, .int i t] (getItem o (.int i t)) := by intro _ _ _; rfl) : EvF c Γ Δ (.Subscript v k pos) d := fun fr s g am O S' Q hQ =>
  Subscript_ (hv fr s g am O S' _ fun va k1 g1 t1 kk1 r1 => hk fr _ g1 am O (S'.gr kk1) _ fun vk k2 g2 t2 kk2 r2 => by
    obtain ⟨t, rfl⟩ := rint r2
    obtain ⟨a, vs, n, rfl, ho, hr⟩ := (r1.gr kk2).list kk2.sub
    have hl := hr.length
    rw [List.length_append, List.length_singleton] at hl
    obtain ⟨y, hy, ry⟩ := hr.get ds.length d (by simp)
    refine tail_any (isList_of ho).typeIs slot_list_getitem.lookup (wpAny_getItem_list_neg (isList_of ho) (by decide) (by rw [List.size_toArray, hl]; omega) (by decide) (x := y) ?_ (hQ y k2 g2 t2 (kk1.trans kk2) ry)) (hs _ _ _)
    rw [List.size_toArray, hl]
    have : ((-1 : Int) + ((ds.length + 1 : Nat) : Int)).toNat = ds.length := by omega
    rw [this]; simpa using hy)
theorem ev_titem {v k : Expr} {ds : List D} {z : Int} {d : D} {pos : Pos} (hv : Ev c Γ Δ v (.tup ds)) (hk : Ev c Γ Δ k (.int z)) (h0 : 0 ≤ z) (hz : z < 100000) (hd : ds[z.toNat]? = some d)
    (hs : ∀ o i t, subscripted k false o (.int i t) = operate [o, .int i t] (getItem o (.int i t)) := by intro _ _ _; rfl) : EvF c Γ Δ (.Subscript v k pos) d := fun fr s g am O S' Q hQ =>
  Subscript_ (hv fr s g am O S' _ fun va k1 g1 t1 kk1 r1 => hk fr _ g1 am O (S'.gr kk1) _ fun vk k2 g2 t2 kk2 r2 => by
    obtain ⟨t, rfl⟩ := rint r2
    obtain ⟨a, vs, n, rfl, ho, hr⟩ := (r1.gr kk2).tup kk2.sub
    obtain ⟨y, hy, ry⟩ := hr.get z.toNat d hd
    have hlt := (List.getElem?_eq_some_iff.mp hy).1
    exact tail_any ⟨_, ho, rfl⟩ F.slot_tuple_getitem.lookup (PySem.P.getItem_tuple (n := n) (k := z.toNat) ho (by omega) (by omega) (by
      unfold seqIndex?; simp only [List.size_toArray]; rw [if_neg (by omega : ¬ z < 0), if_pos (by simp; omega)]) (by simpa using hy) (hQ y k2 g2 t2 (kk1.trans kk2) ry)) (hs _ _ _))
theorem ev_sitem {v k : Expr} {l : List Nat} {z : Int} {n : Nat} {pos : Pos} (hv : Ev c Γ Δ v (.str (S l))) (hk : Ev c Γ Δ k (.int z)) (h0 : 0 ≤ z) (hz : z < 100000) (hd : l[z.toNat]? = some n)
    (hs : ∀ o i t, subscripted k false o (.int i t) = operate [o, .int i t] (getItem o (.int i t)) := by intro _ _ _; rfl) : EvF c Γ Δ (.Subscript v k pos) (.str (S [n])) := fun fr s g am O S' Q hQ =>
  Subscript_ (hv fr s g am O S' _ fun va k1 g1 t1 kk1 r1 => hk fr _ g1 am O (S'.gr kk1) _ fun vk k2 g2 t2 kk2 r2 => by
    obtain ⟨t, rfl⟩ := rint r2
    obtain ⟨u, rfl⟩ := rstr r1
    have hlt := (List.getElem?_eq_some_iff.mp hd).1
    refine tail_any (typeIs_str _ _ _) F.slot_str_getitem.lookup (PySem.P.getItem_str (c := n) ?_ ?_ (hQ _ k2 g2 _ (kk1.trans kk2) (.str _ _))) (hs _ _ _)
    · simp only [Bool.or_eq_false_iff, decide_eq_false_iff_not]; omega
    · unfold seqIndex?
      rw [if_neg (by omega : ¬ z < 0), if_pos (by simp [Str.length]; omega)]
      simpa using hd)
end Mine

set_option maxRecDepth 100000
set_option autoImplicit false
set_option linter.unusedVariables false
namespace Mine
open PySem PySem.W PySem.Calls PyProof.Rows
variable {c : Cfg} {Γ : Gam} {Δ : Del} {P : Post}

mutual
noncomputable def py : D → PyData
  | .none => .none
  | .bool b => .bool b
  | .int i => .int i
  | .str s => .str s
  | .bytes _ => .none
  | .list xs => .list (pys xs)
  | .tup xs => .tuple (pys xs)
  | .obj _ => .none
noncomputable def pys : List D → List PyData
  | [] => []
  | x :: xs => py x :: pys xs
end
mutual
noncomputable def pyOk : D → Bool
  | .none => true
  | .bool _ => true
  | .int _ => true
  | .str _ => true
  | .bytes _ => false
  | .list xs => pysOk xs
  | .tup xs => pysOk xs
  | .obj _ => false
noncomputable def pysOk : List D → Bool
  | [] => true
  | x :: xs => pyOk x && pysOk xs
end
mutual
theorem rep_reads {g : Fz} {h : Heap} (s : ∀ b o, g b = some o → h.get? b = some o) : ∀ {d : D} {v : Value}, Rep g d v → pyOk d = true → ∃ as, Reads h v (py d) as
  | _, _, .none, _ => ⟨_, .none⟩
  | _, _, .bool b, _ => ⟨_, .bool b⟩
  | _, _, .int i t, _ => ⟨_, .int i t⟩
  | _, _, .str x t, _ => ⟨_, .str x t⟩
  | _, _, .bytes b t, h => by simp [pyOk] at h
  | _, _, .list xs a vs n ho hr, h => by
    obtain ⟨as, r⟩ := reps_reads s hr (by simpa [pyOk] using h)
    exact ⟨_, .list (s _ _ ho) rfl rfl r⟩
  | _, _, .tup xs a vs n ho hr, h => by
    obtain ⟨as, r⟩ := reps_reads s hr (by simpa [pyOk] using h)
    exact ⟨_, .tuple (s _ _ ho) rfl rfl r⟩
  | _, _, .obj a o ho hc hd, h => by simp [pyOk] at h
theorem reps_reads {g : Fz} {h : Heap} (s : ∀ b o, g b = some o → h.get? b = some o) : ∀ {d : List D} {v : List Value}, Reps g d v → pysOk d = true → ∃ as, ReadsAll h v (pys d) as
  | _, _, .nil, _ => ⟨_, .nil⟩
  | _, _, .cons a t, h => by
    simp only [pysOk, Bool.and_eq_true] at h
    obtain ⟨as, r⟩ := rep_reads s a h.1
    obtain ⟨bs, r'⟩ := reps_reads s t h.2
    exact ⟨_, .cons r r'⟩
end
theorem RepS.reads {g : Fz} {h : Heap} {d : D} {v : Value} (s : ∀ b o, g b = some o → h.get? b = some o) (r : RepS h g d v) (hp : pyOk d = true) : ∃ as, Reads h v (py d) as := by
  cases r with
  | fz r => exact rep_reads s r hp
  | ls a vs n ds ho hr =>
    obtain ⟨as, r⟩ := reps_reads s hr (by simpa [pyOk] using hp)
    exact ⟨_, .list ho rfl rfl r⟩

theorem cmp_eqD {a b : D} (ha : pyOk a = true) (hb : pyOk b = true) (sa : PySem.SeqAt.shaped (py a) = true) (sb : PySem.SeqAt.shaped (py b) = true) : CmpF c .Eq a b (PyData.eqv (py a) (py b)) := fun fr s g va vb O hs _ ra rb Q hQ => by
  obtain ⟨as, r⟩ := ra.reads hs ha
  obtain ⟨bs, r'⟩ := rb.reads hs hb
  exact eq_dataH r r' sa sb (by have := O.units; omega) (hQ s.heap s.toks fun _ _ e => e)
theorem cmp_neD {a b : D} (ha : pyOk a = true) (hb : pyOk b = true) (sa : PySem.SeqAt.shaped (py a) = true) (sb : PySem.SeqAt.shaped (py b) = true) : CmpF c .NotEq a b (!PyData.eqv (py a) (py b)) := fun fr s g va vb O hs _ ra rb Q hQ => by
  obtain ⟨as, r⟩ := ra.reads hs ha
  obtain ⟨bs, r'⟩ := rb.reads hs hb
  exact ne_dataH r r' sa sb (by have := O.units; omega) (hQ s.heap s.toks fun _ _ e => e)
theorem cmp_inD {a : D} {xs : List D} (ha : pyOk a = true) (hb : pysOk xs = true) (sa : (py a).canLay0 = true) (sb : PyData.canLayAll0 (pys xs) = true) (hd : (py a).depth ≤ 64) : CmpF c .In a (.list xs) ((pys xs).any fun y => PyData.eqv y (py a)) := fun fr s g va vb O hs _ ra rb Q hQ => by
  obtain ⟨as, r⟩ := ra.reads hs ha
  obtain ⟨bs, r'⟩ := rb.reads hs (by simpa [pyOk] using hb)
  have := O.units
  exact PySem.SeqAt.in_list_reads (by simpa [py] using r') r sb sa (by omega) (hQ s.heap s.toks fun _ _ e => e)
theorem cmp_ninD {a : D} {xs : List D} (ha : pyOk a = true) (hb : pysOk xs = true) (sa : (py a).canLay0 = true) (sb : PyData.canLayAll0 (pys xs) = true) (hd : (py a).depth ≤ 64) : CmpF c .NotIn a (.list xs) (!(pys xs).any fun y => PyData.eqv y (py a)) := fun fr s g va vb O hs _ ra rb Q hQ => by
  obtain ⟨as, r⟩ := ra.reads hs ha
  obtain ⟨bs, r'⟩ := rb.reads hs (by simpa [pyOk] using hb)
  have := O.units
  exact PySem.SeqAt.notIn_list_reads (by simpa [py] using r') r sb sa (by omega) (hQ s.heap s.toks fun _ _ e => e)
theorem cmp_ninT {a : D} {xs : List D} (ha : pyOk a = true) (hb : pysOk xs = true) (sa : (py a).canLay0 = true) (sb : PyData.canLayAll0 (pys xs) = true) (hd : (py a).depth ≤ 64) : CmpF c .NotIn a (.tup xs) (!(pys xs).any fun y => PyData.eqv y (py a)) := fun fr s g va vb O hs _ ra rb Q hQ => by
  obtain ⟨as, r⟩ := ra.reads hs ha
  obtain ⟨bs, r'⟩ := rb.reads hs (by simpa [pyOk] using hb)
  have := O.units
  exact PySem.SeqAt.notIn_tuple_reads (by simpa [py] using r') r sb sa (by omega) (hQ s.heap s.toks fun _ _ e => e)

/-! lists of ints -/
abbrev IL (ns : List Int) : List D := ns.map D.int
abbrev ILL (xs : List (List Int)) : List D := xs.map fun ns => .list (IL ns)
theorem il_ok : ∀ ns : List Int, pysOk (IL ns) = true
  | [] => rfl
  | n :: r => by simp only [IL, List.map_cons, pysOk, pyOk, Bool.true_and]; exact il_ok r
theorem il_lay : ∀ ns : List Int, PyData.canLayAll0 (pys (IL ns)) = true
  | [] => rfl
  | n :: r => by simp only [IL, List.map_cons, pys, py, PyData.canLayAll0, PyData.canLay0, Bool.true_and]; exact il_lay r
theorem il_depth : ∀ ns : List Int, PyData.depthAll (pys (IL ns)) = 0
  | [] => rfl
  | n :: r => by simp only [IL, List.map_cons, pys, py, PyData.depthAll, PyData.depth]; rw [show PyData.depthAll (pys (List.map D.int r)) = 0 from il_depth r]; rfl
theorem il_eqv : ∀ ns ms : List Int, PyData.eqvAll (pys (IL ns)) (pys (IL ms)) = decide (ns = ms)
  | [], [] => by simp [IL, pys, PyData.eqvAll]
  | [], _ :: _ => by simp [IL, pys, PyData.eqvAll]
  | _ :: _, [] => by simp [IL, pys, PyData.eqvAll]
  | a :: r, b :: t => by
    simp only [IL, List.map_cons, pys, py, PyData.eqvAll, PyData.eqv]
    rw [show PyData.eqvAll (pys (List.map D.int r)) (pys (List.map D.int t)) = decide (r = t) from il_eqv r t]
    by_cases h : a = b <;> by_cases h' : r = t <;> simp [h, h']
theorem il_any (z : Int) : ∀ ns : List Int, ((pys (IL ns)).any fun y => PyData.eqv y (.int z)) = ns.contains z
  | [] => rfl
  | n :: r => by
    simp only [IL, List.map_cons, pys, py, List.any_cons, PyData.eqv, List.contains_cons]
    rw [show ((pys (List.map D.int r)).any fun y => PyData.eqv y (.int z)) = r.contains z from il_any z r, Bool.beq_comm]
theorem il_shaped (ns : List Int) : PySem.SeqAt.shaped (py (.list (IL ns))) = true := by
  unfold PySem.SeqAt.shaped
  simp only [py, PyData.canLay0, PyData.depth, il_lay, il_depth]; rfl
theorem cmp_eqI {ns ms : List Int} : CmpF c .Eq (.list (IL ns)) (.list (IL ms)) (decide (ns = ms)) := by
  have := cmp_eqD (c := c) (a := .list (IL ns)) (b := .list (IL ms)) (by simp [pyOk, il_ok]) (by simp [pyOk, il_ok]) (il_shaped ns) (il_shaped ms)
  simpa only [py, PyData.eqv, il_eqv] using this
theorem cmp_neI {ns ms : List Int} : CmpF c .NotEq (.list (IL ns)) (.list (IL ms)) (!decide (ns = ms)) := by
  have := cmp_neD (c := c) (a := .list (IL ns)) (b := .list (IL ms)) (by simp [pyOk, il_ok]) (by simp [pyOk, il_ok]) (il_shaped ns) (il_shaped ms)
  simpa only [py, PyData.eqv, il_eqv] using this
theorem cmp_inI {z : Int} {ns : List Int} : CmpF c .In (.int z) (.list (IL ns)) (ns.contains z) := by
  have := cmp_inD (c := c) (a := .int z) (xs := IL ns) rfl (il_ok ns) rfl (il_lay ns) (by simp [py, PyData.depth])
  simpa only [py, il_any] using this
theorem cmp_ninI {z : Int} {ns : List Int} : CmpF c .NotIn (.int z) (.list (IL ns)) (!ns.contains z) := by
  have := cmp_ninD (c := c) (a := .int z) (xs := IL ns) rfl (il_ok ns) rfl (il_lay ns) (by simp [py, PyData.depth])
  simpa only [py, il_any] using this
theorem ill_ok : ∀ ns : List (List Int), pysOk (ILL ns) = true
  | [] => rfl
  | n :: r => by simp only [ILL, List.map_cons, pysOk, pyOk, il_ok, Bool.true_and]; exact ill_ok r
theorem ill_lay : ∀ ns : List (List Int), PyData.canLayAll0 (pys (ILL ns)) = true
  | [] => rfl
  | n :: r => by simp only [ILL, List.map_cons, pys, py, PyData.canLayAll0, PyData.canLay0, il_lay, Bool.true_and]; exact ill_lay r
theorem ill_depth : ∀ ns : List (List Int), PyData.depthAll (pys (ILL ns)) ≤ 1
  | [] => Nat.zero_le _
  | n :: r => by
    simp only [ILL, List.map_cons, pys, py, PyData.depthAll, PyData.depth, il_depth]
    have := ill_depth r
    simp only [ILL] at this
    omega
theorem ill_eqv : ∀ ns ms : List (List Int), PyData.eqvAll (pys (ILL ns)) (pys (ILL ms)) = decide (ns = ms)
  | [], [] => by simp [ILL, pys, PyData.eqvAll]
  | [], _ :: _ => by simp [ILL, pys, PyData.eqvAll]
  | _ :: _, [] => by simp [ILL, pys, PyData.eqvAll]
  | a :: r, b :: t => by
    simp only [ILL, List.map_cons, pys, py, PyData.eqvAll, PyData.eqv, il_eqv]
    have := ill_eqv r t
    simp only [ILL] at this
    rw [this]
    by_cases h : a = b <;> by_cases h' : r = t <;> simp [h, h']
theorem ill_shaped (ns : List (List Int)) : PySem.SeqAt.shaped (py (.list (ILL ns))) = true := by
  unfold PySem.SeqAt.shaped
  have := ill_depth ns
  simp only [py, PyData.canLay0, PyData.depth, ill_lay, Bool.true_and, decide_eq_true_eq]; omega
theorem cmp_eqII {ns ms : List (List Int)} : CmpF c .Eq (.list (ILL ns)) (.list (ILL ms)) (decide (ns = ms)) := by
  have := cmp_eqD (c := c) (a := .list (ILL ns)) (b := .list (ILL ms)) (by simp [pyOk, ill_ok]) (by simp [pyOk, ill_ok]) (ill_shaped ns) (ill_shaped ms)
  simpa only [py, PyData.eqv, ill_eqv] using this
/-- a text in a pair of texts -/
def okS (x : Str) : Bool := x.cps.all (· < 0x110000)
theorem cmp_ninS {x y z : Str} (hx : okS x = true) (hy : okS y = true) (hz : okS z = true) : CmpF c .NotIn (.str z) (.tup [.str x, .str y]) (!(x == z || y == z)) := by
  have := cmp_ninT (c := c) (a := .str z) (xs := [.str x, .str y]) rfl rfl hz (by simp only [pys, py, PyData.canLayAll0, PyData.canLay0, Bool.and_true, Bool.and_eq_true]; exact ⟨hx, hy⟩) (by simp [py, PyData.depth])
  simpa only [pys, py, List.any_cons, List.any_nil, PyData.eqv, Bool.or_false] using this

/-! one object or another -/
theorem cmp_isnot_self {a : Addr} : CmpF c .IsNot (.obj a) (.obj a) false := fun fr s g va vb O hs _ ra rb Q hQ => by
  cases ra with
  | fz ra => cases ra with
    | obj _ o ho hc hd => cases rb with
      | fz rb => cases rb with
        | obj _ o' ho' hc' hd' => exact wpAny_isNot_ref_self (hQ s.heap s.toks fun _ _ e => e)
theorem cmp_is_self {a : Addr} : CmpF c .Is (.obj a) (.obj a) true := fun fr s g va vb O hs _ ra rb Q hQ => by
  cases ra with
  | fz ra => cases ra with
    | obj _ o ho hc hd => cases rb with
      | fz rb => cases rb with
        | obj _ o' ho' hc' hd' => exact wpAny_is_ref_self (hQ s.heap s.toks fun _ _ e => e)
theorem cmp_isnot_str {a : Addr} {x : Str} : CmpF c .IsNot (.str x) (.obj a) true := fun fr s g va vb O hs _ ra rb Q hQ => by
  obtain ⟨t, rfl⟩ := rstr ra
  cases rb with
  | fz rb => cases rb with
    | obj _ o' ho' hc' hd' => exact wpAny_isNot_other rfl (by simp) (hQ s.heap s.toks fun _ _ e => e)
end Mine

set_option maxRecDepth 100000
set_option autoImplicit false
set_option linter.unusedVariables false
namespace Mine
open PySem PySem.W PySem.Calls PyProof.Rows PySem.Builtin.Str
variable {c : Cfg} {Γ : Gam} {Δ : Del} {P : Post}

/-- a built-in of one argument -/
def B1 (c : Cfg) (id : String) (d r : D) : Prop := ∀ fr (s : Shared) g v, Okf c fr → (∀ b o, g b = some o → s.heap.get? b = some o) → (∀ b o, fr.h₀.get? b = some o → s.heap.get? b = some o) → RepS s.heap g d v →
  ∀ Q : Value → Shared → Prop, (∀ v h' g' tk, Gr s.heap g h' g' → Rep g' r v → Q v { s with heap := h', toks := tk }) → W c fr (call (.builtin id) [v]) Q s
theorem ev_b1 {f : Str} {id : String} {p pos : Pos} {e : Expr} {d r : D} (he : Ev c Γ Δ e d) (hb : B1 c id d r) (hk : c.sc.names.lookup f = some .globalImplicit) (hl : f ∈ c.X.bl) (hv : bootBuiltins f = some (.builtin id))
    (hd : (f == ("__debug__" : Str)) = false := by decide) (hs : ∀ env, starEach [e] env = [(false, eval e env)] := by intro _; rfl) : EvF c Γ Δ (.Call (.Name f p) [e] [] pos) r := fun fr s g am O S' Q hQ =>
  Call_ (w_global O S' hk hl hv hd (PyProof.Rows.callWith_builtin1 (args_cons (he fr s g am O S' _ fun v h1 g1 t1 k1 r1 => args_nil
    (hb fr _ g1 v O k1.sub (S'.gr k1).keep r1 Q fun v h2 g2 t2 k2 r2 => hQ v h2 g2 t2 (k1.trans k2) r2)) (hs _)) (hs _)))

theorem b_len_list {ds : List D} (hz : ds.length ≤ 1000000) : B1 c "len" (.list ds) (.int ds.length) := fun fr s g v O hs _ r Q hQ => by
  obtain ⟨a, vs, n, rfl, ho, hr⟩ := r.list hs
  refine PyProof.Rows.len_list (isList_of ho) (by rw [List.size_toArray, hr.length]; omega) ?_
  rw [List.size_toArray, hr.length]
  exact hQ _ s.heap g _ (.refl hs) (.int _ _)
theorem b_len_str {x : Str} (hz : x.length ≤ 1000000) : B1 c "len" (.str x) (.int x.length) := fun fr s g v O hs _ r Q hQ => by
  obtain ⟨t, rfl⟩ := rstr r
  exact PySem.P.len_str (by omega) (hQ _ s.heap g _ (.refl hs) (.int _ _))
theorem b_chr {i : Int} (h0 : 0 ≤ i) (h1 : i ≤ 1114111) : B1 c "chr" (.int i) (.str (S [i.toNat])) := fun fr s g v O hs _ r Q hQ => by
  obtain ⟨t, rfl⟩ := rint r
  exact chr_of_range h0 h1 (hQ _ s.heap g _ (.refl hs) (.str _ _))
theorem b_ord {n : Nat} : B1 c "ord" (.str (S [n])) (.int n) := fun fr s g v O hs _ r Q hQ => by
  obtain ⟨t, rfl⟩ := rstr r
  exact PySem.P.ord_of_char (hQ _ s.heap g _ (.refl hs) (.int _ _))
theorem b_abs {i : Int} : B1 c "abs" (.int i) (.int (if i < 0 then -i else i)) := fun fr s g v O hs _ r Q hQ => by
  obtain ⟨t, rfl⟩ := rint r
  exact call_abs_int fun u tk => hQ _ s.heap g tk (.refl hs) (.int _ _)

/-- int(e) of an int -/
theorem ev_int_of {p pos : Pos} {e : Expr} {i : Int} (he : Ev c Γ Δ e (.int i)) (hk : c.sc.names.lookup (Str.ofString "int") = some .globalImplicit) (hl : Str.ofString "int" ∈ c.X.bl)
    (hs : ∀ env, starEach [e] env = [(false, eval e env)] := by intro _; rfl) : EvF c Γ Δ (.Call (.Name (Str.ofString "int") p) [e] [] pos) (.int i) := fun fr s g am O S' Q hQ =>
  Call_ (w_global O S' hk hl PyProof.Rows.boot_int (by decide) (PyProof.Rows.callWith_type1 (args_cons (he fr s g am O S' _ fun v h1 g1 t1 k1 r1 => args_nil (by
    obtain ⟨t, rfl⟩ := rint r1
    exact call_int_int (hQ _ h1 g1 t1 k1 (.int _ _)))) (hs _)) (hs _)))

/-- divmod(a, b) -/
theorem ev_divmod {p pos : Pos} {e1 e2 : Expr} {a b : Int} (h1 : Ev c Γ Δ e1 (.int a)) (h2 : Ev c Γ Δ e2 (.int b)) (hb : b ≠ 0) (hp : Builtin.divisionGoesByPylong a b = false)
    (hk : c.sc.names.lookup (Str.ofString "divmod") = some .globalImplicit) (hl : Str.ofString "divmod" ∈ c.X.bl)
    (hs : ∀ env, starEach [e1, e2] env = (false, eval e1 env) :: starEach [e2] env := by intro _; rfl) (hs' : ∀ env, starEach [e2] env = [(false, eval e2 env)] := by intro _; rfl) :
    EvF c Γ Δ (.Call (.Name (Str.ofString "divmod") p) [e1, e2] [] pos) (.tup [.int (a.fdiv b), .int (a.fmod b)]) := fun fr s g am O S' Q hQ =>
  Call_ (w_global O S' hk hl PyProof.Rows.boot_divmod (by decide) (PyProof.Rows.callWith_builtin1 (args_cons (h1 fr s g am O S' _ fun v g1h g1 t1 k1 r1 => args_cons (h2 fr _ g1 am O (S'.gr k1) _ fun v2 h2 g2 t2 k2 r2 => args_nil (by
    obtain ⟨t, rfl⟩ := rint r1
    obtain ⟨u, rfl⟩ := rint r2
    refine divmod_int hb ?_ (.inl hp)
    exact hQ _ _ (g2.add h2.objs.size (tupO [.int (a.fdiv b) t2, .int (a.fmod b) (t2 + 1)] 0)) _ ((k1.trans k2).trans (.add k2.sub (fun b o e => Heap.get?_push_of_some _ e) fresh_size (Heap.get?_push_size _ rfl)))
      (.tup _ _ _ 0 (Fz.add_self _ _ _) (.cons (.int _ _) (.cons (.int _ _) .nil))))) (hs' _)) (hs _)) (hs _) (by rw [hs']; rfl)))

/-- x, y = a pair -/
theorem ex_pair {x y : Str} {px py tp pos : Pos} {k : Nat} {value : Expr} {d e : D} (hv : Ev c Γ Δ value (.tup [d, e])) (hx : Sto c x) (hy : Sto c y) (h : P .next (upd (upd Γ x (.d d)) y (.d e)) Δ) (hh : c.hd = true := by rfl)
    (hs : ∀ env, swapsWithSole [.Tuple [.Name x px, .Name y py] k tp] value pos.line env = pure false := by intro _; rfl) (hw : ∀ env, swappedStores [.Tuple [.Name x px, .Name y py] k tp] value env = pure none := by intro _; rfl) :
    Ex1 c Γ Δ (.Assign [.Tuple [.Name x px, .Name y py] k tp] value pos) P := fun fr s g am O S' Q hQ => by
  refine Assign_Tuple (hv fr s g am O S' _ fun v h1 g1 t1 k1 r1 => ?_) (hs _) (hw _)
  obtain ⟨a, vs, n, rfl, ho, hr⟩ := r1.tup k1.sub
  cases hr with
  | @cons _ v1 _ _ hr1 hr => cases hr with
    | @cons _ v2 _ _ hr2 hr => cases hr with
      | nil =>
        refine wpAny_assign_Tuple (items := #[v1, v2]) (O.hand hh) ⟨_, ho, rfl, n, rfl⟩ rfl rfl fun h2 e2 => ?_
        have kp : ∀ b o, h1.get? b = some o → h2.get? b = some o := fun b o e => e2 b o (fun q => by
          have e3 : h1.get? h1.objs.size = some o := by rw [← show b = h1.objs.size from q]; exact e
          rw [fresh_size] at e3; cases e3) e
        have k2 := k1.trans (.heap k1.sub kp)
        show wpAny _ _ (assignInOrder [assign (.Name x px) fr.env, assign (.Name y py) fr.env] _) _ _ _
        refine wpAny_assignInOrder_more (PyProof.Rows.assign_Name (w_store O (S'.gr k2) hx (.d _ _ hr1) fun h3 t3 S3 _ => wpAny_assignInOrder_more (PyProof.Rows.assign_Name (w_store O S3 hy (.d _ _ hr2) fun h4 t4 S4 _ => wpAny_pure (hQ .next .next _ _ h4 g1 am t4 h .next S4)))))
theorem ex_pairS {x y : Str} {px py tp pos : Pos} {k : Nat} {value : Expr} {d e : D} (hv : Ev c Γ Δ value (.tup [d, e])) (hx : Sto c x) (hy : Sto c y) (h : P .next (upd (upd Γ y (.d e)) x (.d d)) Δ)
    (hw : ∀ env, env.scope = c.sc → swappedStores [.Tuple [.Name x px, .Name y py] k tp] value env = pure (some [x, y]))
    (hs : ∀ env, swapsWithSole [.Tuple [.Name x px, .Name y py] k tp] value pos.line env = pure false := by intro _; rfl) (hh : c.hd = true := by rfl) :
    Ex1 c Γ Δ (.Assign [.Tuple [.Name x px, .Name y py] k tp] value pos) P := fun fr s g am O S' Q hQ => by
  refine Assign_Tuple_swapped (hv fr s g am O S' _ fun v h1 g1 t1 k1 r1 => ?_) (hs _) (hw _ O.sc)
  obtain ⟨a, vs, n, rfl, ho, hr⟩ := r1.tup k1.sub
  cases hr with
  | @cons _ v1 _ _ hr1 hr => cases hr with
    | @cons _ v2 _ _ hr2 hr => cases hr with
      | nil =>
        refine wpAny_unpackItems_tuple (items := #[v1, v2]) (O.hand hh) ⟨_, ho, rfl, n, rfl⟩ fun h2 e2 => ?_
        have kp : ∀ b o, h1.get? b = some o → h2.get? b = some o := fun b o e => e2 b o (fun q => by
          have e3 : h1.get? h1.objs.size = some o := by rw [← show b = h1.objs.size from q]; exact e
          rw [fresh_size] at e3; cases e3) e
        have k2 := k1.trans (.heap k1.sub kp)
        show wpAny _ _ (assignInOrder [bindName fr.env y, bindName fr.env x] [_, _]) _ _ _
        refine wpAny_assignInOrder_more (PyProof.Rows.bindName_ (w_store O (S'.gr k2) hy (.d _ _ hr2) fun h3 t3 S3 _ => wpAny_assignInOrder_more (PyProof.Rows.bindName_ (w_store O S3 hx (.d _ _ hr1) fun h4 t4 S4 _ => wpAny_pure (hQ .next .next _ _ h4 g1 am t4 h .next S4)))))
/-- x = y = e -/
theorem ex_two {x y : Str} {px py pos : Pos} {value : Expr} {d : D} (hv : EvF c Γ Δ value d) (hx : Sto c x) (hy : Sto c y) (h : P .next (upd (upd Γ x (.d d)) y (.d d)) Δ)
    (hw : ∀ env, swappedStores [.Name x px, .Name y py] value env = pure none := by intro _; rfl) : Ex1 c Γ Δ (.Assign [.Name x px, .Name y py] value pos) P := fun fr s g am O S' Q hQ =>
  wpAny_Assign_two (hv fr s g am O S' _ fun v h1 g1 t1 k1 r1 => PyProof.Rows.assign_Name (w_store O (S'.gr k1) hx (.d d v r1) fun h2 t2 S2 _ => PyProof.Rows.assign_Name (w_store O S2 hy (.d d v r1) fun h3 t3 S3 _ => hQ .next .next _ _ h3 g1 am t3 h .next S3))) rfl (hw _)
end Mine

set_option maxRecDepth 100000
set_option autoImplicit false
set_option linter.unusedVariables false
namespace Mine
open PySem PySem.W PySem.Calls PyProof.Rows PySem.Builtin.Str
variable {c : Cfg} {Γ : Gam} {Δ : Del} {P : Post}

/-! a method of a text -/
theorem w_str_meth {fr : Frm} {s : Shared} {g : Fz} {am : List Addr} {o : Expr} {name : Str} {id : String} {ap pos : Pos} {x : Str} {args : List Expr} {Q : Value → Shared → Prop} (O : Okf c fr) (S' : St fr Γ Δ s.heap g am) (ho : Ev c Γ Δ o (.str x))
    (slot : Slot "str" name id) (hty : typeOf (.builtin id) = pure (.type "method_descriptor")) (hl : (ap.endLine == pos.line) = true)
    (hb : attributeBase o name fr.env (eval o fr.env) = eval o fr.env)
    (hf : ((backTo pos (starEach args fr.env)).all (fun x => !x.1) && (backToKw pos (keywordEach [] fr.env)).all (fun x => x.1.isSome) && decide (args.length + ([] : List Keyword).length + (if ([] : List Keyword).isEmpty then 0 else 1) < 30)) = true)
    (h : ∀ t h1 g1 t1, Gr s.heap g h1 g1 → W c fr (callWith pos (.builtin id) [.str x t] (backTo pos (starEach args fr.env)) []) Q { s with heap := h1, toks := t1 }) : W c fr (eval (.Call (.Attribute o name ap) args [] pos) fr.env) Q s :=
  wpAny_Call_method hb hf hl F.plainAttrs_str slot hty (ho fr s g am O S' _ fun v h1 g1 t1 k1 r1 => by
    obtain ⟨t, rfl⟩ := rstr r1
    exact ⟨typeIs_str _ _ _, fun a e => (by cases e), h t h1 g1 t1 k1⟩)

theorem strs_of {g : Fz} : ∀ {xs : List (List Nat)} {vs : List Value}, Reps g (xs.map fun l => .str (S l)) vs → ∃ l : List (Str × Tok), vs = strValues l ∧ l.map (·.1) = xs.map S
  | [], _, .nil => ⟨[], rfl, rfl⟩
  | x :: xs, _, .cons h t => by
    obtain ⟨l, e1, e2⟩ := strs_of t
    cases h with
    | str _ u => exact ⟨(S x, u) :: l, by rw [e1]; rfl, by simp [e2]⟩

theorem append_S (a b : List Nat) : S a ++ S b = S (a ++ b) := by
  show Str.append _ _ = _
  unfold Str.append
  simp
theorem join_S : ∀ xs : List (List Nat), Str.join ⟨#[]⟩ (xs.map S) = S xs.flatten
  | [] => rfl
  | [x] => by simp [Str.join]
  | x :: y :: r => by
    have ih := join_S (y :: r)
    show S x ++ ⟨#[]⟩ ++ Str.join ⟨#[]⟩ ((y :: r).map S) = _
    rw [ih, show (⟨#[]⟩ : Str) = S [] from rfl, append_S, append_S]
    simp
theorem joinOk_S (xs : List (List Nat)) (hz : xs.flatten.length ≤ 1000000) : JoinOk ⟨#[]⟩ (xs.map S) = true := by
  unfold JoinOk
  have key : ∀ (l : List (List Nat)) (acc : Nat), ((l.map S).foldl (fun a (x : Str) => a + x.length + (⟨#[]⟩ : Str).length) acc) = acc + l.flatten.length := by
    intro l
    induction l with
    | nil => intro acc; simp
    | cons x r ih =>
      intro acc
      rw [List.map_cons, List.foldl_cons, ih]
      simp [Str.length]; omega
  have e : ((xs.map S).toArray.foldl (fun a (x : Str) => a + x.length + (⟨#[]⟩ : Str).length) 0) = xs.flatten.length := by
    rw [List.foldl_toArray, key, Nat.zero_add]
  show (!tooLong ((xs.map S).toArray.foldl (fun a (x : Str) => a + x.length + (⟨#[]⟩ : Str).length) 0)) = true
  rw [e]
  unfold tooLong
  rw [sizeLine_lit]
  have : ¬ xs.flatten.length > 16777216 := by omega
  simp only [this, decide_false, Bool.not_false]

/-- ''.join(e) -/
theorem ev_join {o e : Expr} {ap pos : Pos} {xs : List (List Nat)} (ho : Ev c Γ Δ o (.str ⟨#[]⟩)) (he : Ev c Γ Δ e (.list (xs.map fun l => .str (S l)))) (hz : xs.flatten.length ≤ 1000000) (hl : (ap.endLine == pos.line) = true := by rfl)
    (hb : ∀ env, attributeBase o (Str.ofString "join") env (eval o env) = eval o env := by intro _; rfl) (hs : ∀ env, starEach [e] env = [(false, eval e env)] := by intro _; rfl) :
    EvF c Γ Δ (.Call (.Attribute o (Str.ofString "join") ap) [e] [] pos) (.str (S xs.flatten)) := fun fr s g am O S' Q hQ =>
  w_str_meth O S' ho F.slot_str_join F.type_str_join hl (hb _) (by rw [hs]; rfl) fun t h1 g1 t1 k1 =>
    PyProof.Rows.callWith_method1 (args_cons (he fr _ g1 am O (S'.gr k1) _ fun v h2 g2 t2 k2 r2 => args_nil (by
      obtain ⟨a, vs, n, rfl, hoh, hr⟩ := r2.list k2.sub
      obtain ⟨l, e1, e2⟩ := strs_of hr
      subst e1
      refine SC.join (texts := xs.map S) (isList_of hoh) e2 (joinOk_S xs hz) fun t' k => ?_
      have ej : Txt.join ⟨#[]⟩ (xs.map S) = S xs.flatten := by
        rw [show Txt.join ⟨#[]⟩ (xs.map S) = Str.join ⟨#[]⟩ (xs.map S) from beq_iff_eq.mp (PyProof.Rows.join_plain_closes _ _), join_S]
      rw [ej]
      exact hQ _ h2 g2 k (k1.trans k2) (.str _ _))) (hs _)) (hs _)

/-- f'..{e}..' -/
inductive EvJ (c : Cfg) (Γ : Gam) (Δ : Del) : List Expr → List Nat → Prop
  | nil : EvJ c Γ Δ [] []
  | lit {x : List Nat} {k : Nat} {pos : Pos} {es : List Expr} {r : List Nat} (t : EvJ c Γ Δ es r) : EvJ c Γ Δ (.Constant (.str (S x)) k pos :: es) (x ++ r)
  | lit' {y : Str} {x : List Nat} {k : Nat} {pos : Pos} {es : List Expr} {r : List Nat} (hy : y = S x) (t : EvJ c Γ Δ es r) : EvJ c Γ Δ (.Constant (.str y) k pos :: es) (x ++ r)
  | val {e : Expr} {pos : Pos} {x : List Nat} {es : List Expr} {r : List Nat} (h : Ev c Γ Δ e (.str (S x))) (t : EvJ c Γ Δ es r) : EvJ c Γ Δ (.FormattedValue e (-1) none pos :: es) (x ++ r)
theorem w_joins {fr : Frm} {am : List Addr} : ∀ {es : List Expr} {r : List Nat} (_ : EvJ c Γ Δ es r) {s : Shared} {g : Fz} (acc : List Nat) (_ : Okf c fr) (_ : St fr Γ Δ s.heap g am) (_ : acc.length + r.length ≤ 1000000) {Q : Str → Shared → Prop}
    (_ : ∀ h' g' tk, Gr s.heap g h' g' → Q (S (acc ++ r)) { s with heap := h', toks := tk }), Joins (model c.X.prog c.X.w) fr.A (fun _ _ => False) (evalEach es fr.env) (S acc) Q s
  | _, _, .nil, s, g, acc, O, S', hz, Q, hQ => by
    show Q (S acc) s
    have := hQ s.heap g s.toks (.refl S'.sub)
    rwa [List.append_nil] at this
  | _, _, .lit (x := x) (r := r) t, s, g, acc, O, S', hz, Q, hQ => by
    simp only [List.length_append] at hz
    refine ev_str fr s g am O S' _ fun v h1 g1 t1 k1 r1 => ?_
    obtain ⟨u, rfl⟩ := rstr (.fz r1 : RepS h1 g1 _ _)
    refine ⟨_, _, rfl, ?_, ?_⟩
    · rw [append_S, sizeLine_lit]; simp [Str.length]; omega
    · rw [append_S]
      exact w_joins t (acc ++ x) O (S'.gr k1) (by rw [List.length_append]; omega) fun h2 g2 t2 k2 => by rw [List.append_assoc]; exact hQ h2 g2 t2 (k1.trans k2)
  | _, _, .lit' (x := x) (r := r) rfl t, s, g, acc, O, S', hz, Q, hQ => by
    simp only [List.length_append] at hz
    refine ev_str fr s g am O S' _ fun v h1 g1 t1 k1 r1 => ?_
    obtain ⟨u, rfl⟩ := rstr (.fz r1 : RepS h1 g1 _ _)
    refine ⟨_, _, rfl, ?_, ?_⟩
    · rw [append_S, sizeLine_lit]; simp [Str.length]; omega
    · rw [append_S]
      exact w_joins t (acc ++ x) O (S'.gr k1) (by rw [List.length_append]; omega) fun h2 g2 t2 k2 => by rw [List.append_assoc]; exact hQ h2 g2 t2 (k1.trans k2)
  | _, _, .val (x := x) (r := r) h t, s, g, acc, O, S', hz, Q, hQ => by
    simp only [List.length_append] at hz
    have hx : (S x).length ≤ sizeLine := by rw [sizeLine_lit]; simp [Str.length]; omega
    refine wpAny_FormattedValue_plain (h fr s g am O S' _ fun v h1 g1 t1 k1 r1 => ?_)
    obtain ⟨u, rfl⟩ := rstr r1
    have fin : ∀ u tk, ∃ y t, Value.str (S x) u = .str y t ∧ (S acc ++ y).length ≤ sizeLine ∧ Joins (model c.X.prog c.X.w) fr.A (fun _ _ => False) (evalEach _ fr.env) (S acc ++ y) Q { s with heap := h1, toks := tk } := fun u tk => by
      refine ⟨_, _, rfl, ?_, ?_⟩
      · rw [append_S, sizeLine_lit]; simp [Str.length]; omega
      · rw [append_S]
        exact w_joins t (acc ++ x) O (S'.gr k1) (by rw [List.length_append]; omega) fun h2 g2 t2 k2 => by rw [List.append_assoc]; exact hQ h2 g2 t2 (k1.trans k2)
    exact wpAny_formatField_str (fin _ _) (fin _ _) hx
theorem ev_fstr {e1 e2 : Expr} {es : List Expr} {pos : Pos} {r : List Nat} (h : EvJ c Γ Δ (e1 :: e2 :: es) r) (hz : r.length ≤ 1000000) : EvF c Γ Δ (.JoinedStr (e1 :: e2 :: es) pos) (.str (S r)) := fun fr s g am O S' Q hQ =>
  wpAny_JoinedStr (w_joins h [] O S' (by simpa using hz) fun h' g' tk k => by
    refine ⟨by rw [sizeLine_lit]; simp [Str.length]; omega, ?_⟩
    exact hQ _ h' g' _ k (.str _ _))
end Mine

set_option maxRecDepth 100000
set_option autoImplicit false
set_option linter.unusedVariables false
namespace Mine
open PySem PySem.W PySem.Calls PyProof.Rows PySem.Builtin.Str
variable {c : Cfg} {Γ : Gam} {Δ : Del} {P : Post}

/-! object() -/
theorem ob_mro : mroOf (.type "object") = pure [.type "object"] := by rw [mroOf_type]; kernel_rfl
theorem ob_new : typeLookup (.type "object") "__new__" = pure (some (.builtin "object.__new__")) := by rw [typeLookup_type, builtinLookup_eq_fast]; kernel_rfl
theorem ob_called : TypeCalled "object" "object.__new__" "object.__init__" :=
  ⟨by decide +kernel, by decide +kernel, ⟨_, _, ob_mro⟩, madeBy_type ob_mro ob_new (by decide +kernel), by decide +kernel, by rw [isSubtype_type]; kernel_rfl, F.slot_object_init⟩
theorem ob_tree : Builtin.«object.__new__» ⟨[.type "object"], []⟩ = (newObj (.type "object") .plain none >>= fun v => ret v) := by kernel_rfl
theorem ob_meets : Meets (Builtin.«object.__new__» ⟨[.type "object"], []⟩) (fun _ R s => R (.ok (.ret (.ref s.heap.objs.size))) { s with heap := s.heap.push { cls := .type "object", data := .plain } }) :=
  .of_wp fun prog w A R s h => by
    rw [ob_tree]
    exact wpAny_bind (wpAny_newObj_type (wpAny_pure ⟨_, rfl, h⟩))
theorem ob_init (v : Value) : Meets (Builtin.«object.__init__» ⟨[v], []⟩) (fun _ R s => R (.ok (.ret .none)) s) := .of_wp fun prog w A R s h => wpAny_pure ⟨_, rfl, h⟩
theorem call_object {prog : Program} {w : World} {A : Around} {E : Value → Shared → Prop} {s : Shared} {Q : Value → Shared → Prop} (h : Q (.ref s.heap.objs.size) { s with heap := s.heap.push { cls := .type "object", data := .plain } }) :
    wpAny (model prog w) A (call (.type "object") []) Q E s :=
  callType_meets (Q₁ := fun obj s₁ => s₁.TypeIs obj "object" ∧ Q obj s₁) ob_called (by kernel_rfl) (by kernel_rfl) F.entry_object_new (entryFor_of_tree (by kernel_rfl)) ob_meets ⟨⟨_, Heap.get?_push_size _ rfl, rfl⟩, h⟩
    fun obj s₁ hq => ⟨hq.1, by unfold argsOk; rw [signature?_of (id := "object.__init__") (n := ['_', '_', 't', 'i', 'n', 'i', '_', '_']) (o := ['t', 'c', 'e', 'j', 'b', 'o']) (by kernel_rfl) F.owner_object]; kernel_rfl, _, ob_init obj, rfl, hq.2⟩

theorem ex_assign_object {x : Str} {p q pos pos' : Pos} (hx : Sto c x) (hk : c.sc.names.lookup (Str.ofString "object") = some .globalImplicit) (hl : Str.ofString "object" ∈ c.X.bl) (h : ∀ a, P .next (upd Γ x (.d (.obj a))) Δ) :
    Ex1 c Γ Δ (.Assign [.Name x p] (.Call (.Name (Str.ofString "object") q) [] [] pos) pos') P := fun fr s g am O S' Q hQ =>
  wpAny_Assign_Name (Call_ (w_global O S' hk hl PyProof.Rows.boot_object (by decide) (PyProof.Rows.callWith_type0 (call_object (by
    have k := Gr.add (o := { cls := .type "object", data := .plain }) S'.sub (fun b o e => Heap.get?_push_of_some _ e) fresh_size (Heap.get?_push_size _ rfl)
    exact w_store O (S'.gr k) hx (.d _ _ (.obj _ _ (Fz.add_self _ _ _) rfl rfl)) fun h2 t2 S2 _ => hQ .next .next _ _ h2 _ am t2 (h _) .next S2))))) rfl

/-! find, index -/
theorem gives_index_from (x y : Str) (i : Int) (t u v : Tok) (k : Nat) (rest : List Nat) (h : occurrences x y (fromIndex x.length i) x.length 1 = k :: rest) : Gives (Builtin.«str.index» ⟨[.str x t, .str y u, .int i v], []⟩) (.int k) := by
  show Gives (match occurrences x y (fromIndex x.length i) (min x.length x.length) 1 with | k :: _ => retInt k | [] => (do rule "str.index.not-found"; raiseError "ValueError" "substring not found")) _
  rw [Nat.min_self, h]
  exact .of_eq rfl
theorem ev_index {o e f : Expr} {ap pos : Pos} {x y : Str} {i : Int} {k : Nat} {rest : List Nat} (ho : Ev c Γ Δ o (.str x)) (he : Ev c Γ Δ e (.str y)) (hf : Ev c Γ Δ f (.int i)) (hocc : occurrences x y (fromIndex x.length i) x.length 1 = k :: rest) (hl : (ap.endLine == pos.line) = true := by rfl)
    (hb : ∀ env, attributeBase o (Str.ofString "index") env (eval o env) = eval o env := by intro _; rfl) (hs : ∀ env, starEach [e, f] env = (false, eval e env) :: starEach [f] env := by intro _; rfl) (hs' : ∀ env, starEach [f] env = [(false, eval f env)] := by intro _; rfl) :
    EvF c Γ Δ (.Call (.Attribute o (Str.ofString "index") ap) [e, f] [] pos) (.int k) := fun fr s g am O S' Q hQ =>
  w_str_meth O S' ho F.slot_str_index F.type_str_index hl (hb _) (by rw [hs, hs']; rfl) fun t h1 g1 t1 k1 =>
    PyProof.Rows.callWith_method1 (args_cons (he fr _ g1 am O (S'.gr k1) _ fun v h2 g2 t2 k2 r2 => args_cons (hf fr _ g2 am O ((S'.gr k1).gr k2) _ fun v3 h3 g3 t3 k3 r3 => args_nil (by
      obtain ⟨u, rfl⟩ := rstr r2
      obtain ⟨z, rfl⟩ := rint r3
      exact call_gives F.slot_str_index (typeIs_str _ _ _) F.entry_str_index (F.args_str_index_3 _ _ _) (gives_index_from x y i t u z k rest hocc) (hQ _ h3 g3 _ ((k1.trans k2).trans k3) (.int _ _)))) (hs' _)) (hs _)) (hs _) (by rw [hs']; rfl)

/-! backwards -/
theorem ev_rev_list {v st : Expr} {ds : List D} {p pos : Pos} (hv : Ev c Γ Δ v (.list ds)) (hst : Ev c Γ Δ st (.int (-1))) (hz : ds.length ≤ 100000)
    (ht : ∀ o r, letTemporaryGo v o r = pure () := by intro _ _; rfl) : EvF c Γ Δ (.Subscript v (.Slice none none (some st) p) pos) (.list ds.reverse) := fun fr s g am O S' Q hQ =>
  wpAny_Subscript_Slice_step slot_list_getitem.lookup (hv fr s g am O S' _ fun va k1 g1 t1 kk1 r1 => wpAny_Slice (wpAny_pure (wpAny_pure (hst fr _ g1 am O (S'.gr kk1) _ fun vs k2 g2 t2 kk2 r2 => by
    obtain ⟨t, rfl⟩ := rint r2
    obtain ⟨a, vs, n, rfl, ho, hr⟩ := (r1.gr kk2).list kk2.sub
    have hl := hr.length
    dsimp only
    generalize hH : k2.push { cls := .type "slice", data := .fields #[.none, .none, .int (-1) t] } = H
    have kp : ∀ b o, k2.get? b = some o → H.get? b = some o := fun b o e => by rw [← hH]; exact Heap.get?_push_of_some _ e
    have hsl : H.IsSliceOf k2.objs.size .none .none (.int (-1) t) := by rw [← hH]; exact Heap.IsSliceOf.new _ _ _ _
    refine ⟨(isList_of (kp _ _ ho)).typeIs, wpAny_getItem_list_slice (isList_of (kp _ _ ho)) hsl .none .none (.int (-1) t) (by decide) ?_ (by rw [List.size_toArray, hl, sizeLine_lit]; omega)⟩
    have hcut : (({ cls := .type "list", data := .seq (slicePick vs.toArray none none (some (-1))) } : Obj)) = lstO vs.reverse 0 := by rw [krv_pick]
    rw [hcut]
    have kk4 : Gr k2 g2 (H.push (lstO vs.reverse 0)) (g2.add H.objs.size (lstO vs.reverse 0)) := .add kk2.sub (fun b o e => Heap.get?_push_of_some _ (kp b o e)) (none_of_keep kp fresh_size) (Heap.get?_push_size _ rfl)
    exact hQ _ _ _ t2 ((kk1.trans kk2).trans kk4) (.list _ _ vs.reverse 0 (Fz.add_self _ _ _) (hr.rev.mono (Fz.add_keep (none_of_sub kk2.sub (none_of_keep kp fresh_size)))))))) ) ht
end Mine

set_option maxRecDepth 100000
set_option autoImplicit false
set_option linter.unusedVariables false
namespace Mine
open PySem PySem.W PySem.Calls PyProof.Rows
section
variable {c : Cfg} {Γ : Gam} {Δ : Del} {P : Post}

/-! bytes -/
theorem op_addb {a b : List UInt8} (hsz : a.length + b.length ≤ 16777216) : OpF c .Add (.bytes a) (.bytes b) (.bytes (a ++ b)) := fun fr s g va vb O hs _ ra rb Q hQ => by
  obtain ⟨t, rfl⟩ := rbytes ra; obtain ⟨u, rfl⟩ := rbytes rb
  refine KBy.add_bytes (by simpa using hsz) fun t' tk => ?_
  have e : a.toArray ++ b.toArray = (a ++ b).toArray := by simp
  rw [e]
  exact hQ _ s.heap g tk (.refl hs) (.bytes _ t')

theorem ev_sl_bytes {v : Expr} {lo hi : Option Expr} {i j : Option Int} {l : List UInt8} {p pos : Pos} (hv : Ev c Γ Δ v (.bytes l)) (h1 : EvP c Γ Δ lo i) (h2 : EvP c Γ Δ hi j) (hz : l.length ≤ 100000)
    (ht : ∀ o r, letTemporaryGo v o r = pure () := by intro _ _; rfl) : EvF c Γ Δ (.Subscript v (.Slice lo hi none p) pos) (.bytes (cut l i j)) := fun fr s g am O S' Q hQ =>
  wpAny_Subscript_Slice FB.slot_bytes_getitem.lookup (hv fr s g am O S' _ fun va k1 g1 t1 kk1 r1 => wpAny_Slice (w_part h1 O (S'.gr kk1) fun q1 k2 g2 t2 kk2 e1 => w_part h2 O ((S'.gr kk1).gr kk2) fun q2 k3 g3 t3 kk3 e2 => by
    obtain ⟨t, rfl⟩ := rbytes r1
    rw [evalPart_none]
    refine wpAny_pure ?_
    dsimp only
    have kp : ∀ b o, k3.get? b = some o → (k3.push { cls := .type "slice", data := .fields #[partValue q1, partValue q2, .none] }).get? b = some o := fun b o e => Heap.get?_push_of_some _ e
    refine ⟨typeIs_bytes _ _ _, getItem_meets (typeIs_bytes _ _ _) (by decide) FB.slot_bytes_getitem FB.entry_bytes_getitem (FB.args_bytes_getitem_2 _ _) (KBc.meets_slice2 l.toArray t _ (isPart_of e1) (isPart_of e2)) ⟨Heap.IsSliceOf.new .., ?_, fun t' tk => ?_⟩⟩
    · have := KBc.size_picked_le l.toArray i j
      rw [sizeLine_lit]; simp only [List.size_toArray] at this; omega
    · have e : KBy.picked l.toArray i j = (cut l i j).toArray := by rw [KBc.picked_eq]; simp [cut]
      rw [e]
      exact hQ _ _ g3 tk ((kk1.trans (kk2.trans kk3)).trans (.heap kk3.sub kp)) (.bytes _ t'))) ht

def bsigns (b : List UInt8) : List D := b.map fun x => .int (x.toNat : Int)
theorem evi_bytes {e : Expr} {b : List UInt8} (h : Ev c Γ Δ e (.bytes b)) (hh : c.hd = true := by rfl) : EvI true c Γ Δ e (bsigns b) := fun fr s g am O S Q hQ =>
  h fr s g am O S _ fun v h1 g1 t1 k1 r1 => by
    obtain ⟨t, rfl⟩ := rbytes r1
    refine KBw.pyIter_bytes ?_
    have kp : ∀ a o, h1.get? a = some o → (h1.push { cls := .type "bytes_iterator", data := .fields #[.bytes b.toArray t, .int 0 0] }).get? a = some o := fun b o e => Heap.get?_push_of_some _ e
    have W := KBw.walks (prog := c.X.prog) (w := c.X.w) (A := fr.A) (O.hand hh) h1.objs.size b.toArray t
    have e : b.toArray.size = (bsigns b).length := by simp [bsigns]
    rw [e] at W
    refine hQ _ _ _ _ _ _ g1 t1 (it_mk k1 kp W ⟨_, Heap.get?_push_size _ rfl, rfl, rfl⟩ fresh_size (fun i k hk => let ⟨o, ho, _⟩ := hk; by rw [ho]; simp) (fun b hb => .inl (List.mem_singleton.mp hb)) ?_)
    rintro i v ⟨n, u, hn, rfl⟩
    refine ⟨.int (n.toNat : Int), ?_, .int _ _⟩
    have : b[i]? = some n := by simpa using hn
    simp [bsigns, this]
end
end Mine

set_option maxRecDepth 100000
set_option autoImplicit false
set_option linter.unusedVariables false
namespace Mine
open PySem PySem.W PySem.Calls PyProof.Rows
section
variable {c : Cfg} {Γ : Gam} {Δ : Del} {P : Post}

/-! a truth value less another -/
theorem op_subb {a b : Bool} : OpF c .Sub (.bool a) (.bool b) (.int ((if a = true then 1 else 0) - (if b = true then 1 else 0))) := fun fr s g va vb O hs _ ra rb Q hQ => by
  rw [rbool ra, rbool rb]
  exact PyProof.Rows.sub_bool (hQ _ s.heap g _ (.refl hs) (.int _ _))

/-! pairs of an int and a text, by order -/
section
variable {prog : Program} {w : World} {A : Around} {E : Value → Shared → Prop} {s : Shared}
theorem tuple_typeIs {a : Addr} {vs : List Value} {n : Nat} (h : s.heap.get? a = some (tupO vs n)) : s.TypeIs (.ref a) "tuple" := ⟨_, h, rfl⟩
theorem pair_lt_tree {a b : Addr} {n m : Nat} {i j : Int} {t t' u u' : Tok} {x y : Str} {P : PySem.Fin → Shared → Prop} (hx : s.heap.get? a = some (tupO [.int i t, .str x u] n)) (hy : s.heap.get? b = some (tupO [.int j t', .str y u'] m))
    (h : P (.done (.ret (.bool (if i == j then (if x == y then false else decide (x.cps.toList < y.cps.toList)) else decide (i < j))))) s) :
    wpAny (model prog w) A (Builtin.«tuple.__lt__» ⟨[.ref a, .ref b], []⟩) P E s := by
  show wpAny _ _ (isInstance (.ref b) (.type "tuple") >>= _) _ _ s
  refine wpAny_bind (wpAny_isInstance (tuple_typeIs hy) isSubtype_tuple_tuple ?_)
  simp only [Bool.not_true, Bool.false_eq_true, if_false]
  refine wpAny_bind (wpAny_tupleItemsOf hx rfl ?_)
  refine wpAny_bind (wpAny_tupleItemsOf hy rfl ?_)
  simp only [List.zip_cons_cons, List.zip_nil_left, List.forIn_cons, List.forIn_nil]
  refine wpAny_bind (wpAny_bind (wpAny_bind (wpAny_eqBool_int ?_)))
  cases hij : (i == j)
  · rw [hij, if_neg (by decide)] at h
    simp only [Bool.not_false, if_true]
    refine wpAny_bind (wpAny_rule (wpAny_bind (?_ : wpAny _ _ (compareOp .Lt (.int i t) (.int j t')) _ _ _)))
    exact lt_int (wpAny_bind (wpAny_pure (wpAny_pure (wpAny_pure (wpAny_pure h)))))
  · rw [hij, if_pos rfl] at h
    simp only [Bool.not_true, Bool.false_eq_true, if_false]
    refine wpAny_pure ?_
    refine wpAny_bind (wpAny_bind (eqBool_str ?_))
    cases hxy : (x == y)
    · rw [hxy, if_neg (by decide)] at h
      simp only [Bool.not_false, if_true]
      refine wpAny_bind (wpAny_rule (wpAny_bind (?_ : wpAny _ _ (compareOp .Lt (.str x u) (.str y u')) _ _ _)))
      exact lt_str (wpAny_bind (wpAny_pure (wpAny_pure (wpAny_pure (wpAny_pure h)))))
    · rw [hxy, if_pos rfl] at h
      simp only [Bool.not_true, Bool.false_eq_true, if_false]
      exact wpAny_pure (wpAny_pure (wpAny_pure h))
theorem pair_gt_tree {a b : Addr} {n m : Nat} {i j : Int} {t t' u u' : Tok} {x y : Str} {P : PySem.Fin → Shared → Prop} (hx : s.heap.get? a = some (tupO [.int i t, .str x u] n)) (hy : s.heap.get? b = some (tupO [.int j t', .str y u'] m))
    (h : P (.done (.ret (.bool (if i == j then (if x == y then false else decide (y.cps.toList < x.cps.toList)) else decide (j < i))))) s) :
    wpAny (model prog w) A (Builtin.«tuple.__gt__» ⟨[.ref a, .ref b], []⟩) P E s := by
  show wpAny _ _ (isInstance (.ref b) (.type "tuple") >>= _) _ _ s
  refine wpAny_bind (wpAny_isInstance (tuple_typeIs hy) isSubtype_tuple_tuple ?_)
  simp only [Bool.not_true, Bool.false_eq_true, if_false]
  refine wpAny_bind (wpAny_tupleItemsOf hx rfl ?_)
  refine wpAny_bind (wpAny_tupleItemsOf hy rfl ?_)
  simp only [List.zip_cons_cons, List.zip_nil_left, List.forIn_cons, List.forIn_nil]
  refine wpAny_bind (wpAny_bind (wpAny_bind (wpAny_eqBool_int ?_)))
  cases hij : (i == j)
  · rw [hij, if_neg (by decide)] at h
    simp only [Bool.not_false, if_true]
    refine wpAny_bind (wpAny_rule (wpAny_bind (?_ : wpAny _ _ (compareOp .Gt (.int i t) (.int j t')) _ _ _)))
    exact gt_int (wpAny_bind (wpAny_pure (wpAny_pure (wpAny_pure (wpAny_pure h)))))
  · rw [hij, if_pos rfl] at h
    simp only [Bool.not_true, Bool.false_eq_true, if_false]
    refine wpAny_pure ?_
    refine wpAny_bind (wpAny_bind (eqBool_str ?_))
    cases hxy : (x == y)
    · rw [hxy, if_neg (by decide)] at h
      simp only [Bool.not_false, if_true]
      refine wpAny_bind (wpAny_rule (wpAny_bind (?_ : wpAny _ _ (compareOp .Gt (.str x u) (.str y u')) _ _ _)))
      exact PySem.P.gt_str (wpAny_bind (wpAny_pure (wpAny_pure (wpAny_pure (wpAny_pure h)))))
    · rw [hxy, if_pos rfl] at h
      simp only [Bool.not_true, Bool.false_eq_true, if_false]
      exact wpAny_pure (wpAny_pure (wpAny_pure h))
end
/-- a pair of an int and a text -/
abbrev NP (p : Int × Str) : D := .tup [.int p.1, .str p.2]
theorem rpair {h : Heap} {g : Fz} {p : Int × Str} {v : Value} (s : ∀ b o, g b = some o → h.get? b = some o) (r : RepS h g (NP p) v) : ∃ a t u n, v = .ref a ∧ h.get? a = some (tupO [.int p.1 t, .str p.2 u] n) := by
  obtain ⟨a, vs, n, rfl, ho, hr⟩ := r.tup s
  cases hr with
  | cons h1 t1 =>
    cases t1 with
    | cons h2 t2 =>
      cases t2
      cases h1; cases h2
      exact ⟨a, _, _, n, rfl, ho⟩
theorem cmp_ltp {p q : Int × Str} : CmpF c .Lt (NP p) (NP q) (if p.1 == q.1 then (if p.2 == q.2 then false else decide (p.2.cps.toList < q.2.cps.toList)) else decide (p.1 < q.1)) := fun fr s g va vb O hs _ ra rb Q hQ => by
  obtain ⟨a, t, u, n, rfl, ha⟩ := rpair hs ra
  obtain ⟨b, t', u', m, rfl, hb⟩ := rpair hs rb
  exact wpAny_richCompare_same_room (op := .Lt) (tuple_typeIs ha) (tuple_typeIs hb) F.slot_tuple_lt (wpAny_call_entry F.slot_tuple_lt (tuple_typeIs ha) F.entry_tuple_lt (pair_lt_tree ha hb ⟨_, rfl, (fun e => nomatch e), hQ s.heap s.toks fun _ _ e => e⟩) (F.args_tuple_lt_2 _ _)) (by have := O.units; omega)
theorem cmp_gtp {p q : Int × Str} : CmpF c .Gt (NP p) (NP q) (if p.1 == q.1 then (if p.2 == q.2 then false else decide (q.2.cps.toList < p.2.cps.toList)) else decide (q.1 < p.1)) := fun fr s g va vb O hs _ ra rb Q hQ => by
  obtain ⟨a, t, u, n, rfl, ha⟩ := rpair hs ra
  obtain ⟨b, t', u', m, rfl, hb⟩ := rpair hs rb
  exact wpAny_richCompare_same_room (op := .Gt) (tuple_typeIs ha) (tuple_typeIs hb) F.slot_tuple_gt (wpAny_call_entry F.slot_tuple_gt (tuple_typeIs ha) F.entry_tuple_gt (pair_gt_tree ha hb ⟨_, rfl, (fun e => nomatch e), hQ s.heap s.toks fun _ _ e => e⟩) (F.args_tuple_gt_2 _ _)) (by have := O.units; omega)
end
end Mine

set_option maxRecDepth 100000
set_option autoImplicit false
set_option linter.unusedVariables false
namespace Mine
open PySem PySem.W PySem.Calls PyProof.Rows
section
variable {c : Cfg} {Γ : Gam} {Δ : Del} {P : Post}

/-! tuple + tuple -/
/-! sorted, ints -/
def sortZ (ns : List Int) : List Int := ns.mergeSort (fun a b => decide (a ≤ b))
theorem sortZ_perm (ns : List Int) : (sortZ ns).Perm ns := List.mergeSort_perm _ _
theorem sortZ_le (ns : List Int) : (sortZ ns).Pairwise (· ≤ ·) := by
  have := List.pairwise_mergeSort (le := fun a b : Int => decide (a ≤ b)) (fun a b c h1 h2 => by simp only [decide_eq_true_eq] at *; omega) (fun a b => by simp only [Bool.or_eq_true, decide_eq_true_eq]; omega) ns
  exact this.imp fun h => by simpa using h
theorem sortZ_uniq {ns ms : List Int} (hp : ms.Perm ns) (hs : ms.Pairwise (· ≤ ·)) : ms = sortZ ns :=
  (hp.trans (sortZ_perm ns).symm).eq_of_pairwise (le := (· ≤ ·)) (fun a b _ _ h1 h2 => by omega) hs (sortZ_le ns)
theorem IL.ints {g : Fz} : ∀ {ns : List Int} {vs : List Value}, Reps g (IL ns) vs → IntsAre vs ns
  | [], _, .nil => .nil
  | n :: r, _, .cons h t => by
    cases h
    exact .cons _ _ (IL.ints t)
theorem ints_IL {g : Fz} : ∀ {vs : List Value} {ns : List Int}, IntsAre vs ns → Reps g (IL ns) vs
  | _, _, .nil => .nil
  | _, _, .cons n t r => .cons (.int n t) (ints_IL r)
theorem b_sorted {ns : List Int} (hz : ns.length < 64) : B1 c "sorted" (.list (IL ns)) (.list (IL (sortZ ns))) := fun fr s g v O hs _ r Q hQ => by
  obtain ⟨a, vs, n, rfl, ho, hr⟩ := r.list hs
  have hl : vs.length = ns.length := by rw [hr.length]; simp [IL]
  refine sorted_ints (isList_of ho) (IL.ints hr) (by omega) fun out ns' hI hp hsr => ?_
  obtain rfl := sortZ_uniq hp hsr
  obtain ⟨e, he⟩ := sortedAll_at s.heap vs out
  have he' : (sortedAll s.heap vs out).get? (s.heap.objs.size + 1) = some (lstO out.toList e) := by simpa [lstO, seqObj] using he
  have hn : s.heap.get? (s.heap.objs.size + 1) = none := Heap.get?_none_of_le (Nat.le_succ _)
  exact hQ _ _ _ s.toks (Gr.add hs (fun b o e => sortedAll_old e) hn he') (.list _ _ _ e (Fz.add_self _ _ _) (ints_IL hI))
end
end Mine

set_option maxRecDepth 100000
set_option autoImplicit false
set_option linter.unusedVariables false
namespace Mine
open PySem PySem.W PySem.Calls PyProof.Rows
open Sem (wp)
section
variable {prog : Program} {w : World} {A : Around} {E : Value → Shared → Prop} {s : Shared}
theorem tl_append : typeLookup (.type "list") (Str.ofString "append") = pure (some (.builtin "list.append")) := F.slot_list_append.lookup
theorem md_get : typeLookup (.type "method_descriptor") (Str.ofString "__get__") = pure (some (.builtin "method_descriptor.__get__")) := by rw [typeLookup_type, builtinLookup_eq_fast]; kernel_rfl
theorem md_set : typeLookup (.type "method_descriptor") (Str.ofString "__set__") = pure none := by rw [typeLookup_type, builtinLookup_eq_fast]; kernel_rfl
theorem md_del : typeLookup (.type "method_descriptor") (Str.ofString "__delete__") = pure none := by rw [typeLookup_type, builtinLookup_eq_fast]; kernel_rfl
theorem md_slot : Slot "method_descriptor" "__get__" "method_descriptor.__get__" :=
  .of (owner := "method_descriptor") (n := "__get__") (by rw [typeLookup_type, builtinLookup_eq_fast]; kernel_rfl) (by decide +kernel) (by decide +kernel) (by decide +kernel)
    (by first | exact .inl (by decide +kernel) | exact .inr (by decide +kernel)) (by rw [isSubtype_type]; kernel_rfl)
theorem md_entry : entryFor table "method_descriptor.__get__" = some Builtin.«method_descriptor.__get__» := entryFor_of_tree (by kernel_rfl)
theorem md_args (a b c : Value) : argsOk "method_descriptor.__get__" ⟨[a, b, c], []⟩ := by unfold argsOk; kernel_rfl
theorem md_meets (a : Addr) (xs : Array Value) (k : Nat) : Meets (Builtin.«method_descriptor.__get__» ⟨[.builtin "list.append", .ref a, .type "list"], []⟩) (fun A R s => s.heap.get? a = some { cls := .type "list", data := .seq xs k } ∧ R (.ok (.ret (.ref s.heap.objs.size))) { s with heap := s.heap.push (methOf a) }) :=
  Meets.of_wp fun prog w A R s hs => by
    obtain ⟨hp, g, d, tk, os⟩ := s
    obtain ⟨hx, hs⟩ := hs
    have hT : (⟨hp, g, d, tk, os⟩ : Shared).TypeIs (.ref a) "list" := ⟨_, hx, rfl⟩
    have f1 : isSubtype (.type "list") (.type (".".intercalate ("list.append".cutAt '.').dropLast)) = pure true := by
      have e : ".".intercalate ("list.append".cutAt '.').dropLast = "list" := by decide +kernel
      rw [e, isSubtype_type]; kernel_rfl
    unfold Builtin.«method_descriptor.__get__»
    repeat (any_goals (first | assumption | wp_step))
    exact ⟨_, rfl, hs⟩
theorem md_code {A : Around} {a : Addr} {xs : Array Value} {k : Nat} {R : Result → Shared → Prop} {s : Shared} (hx : s.heap.get? a = some { cls := .type "list", data := .seq xs k }) (h : R (.ok (.ret (.ref s.heap.objs.size))) { s with heap := s.heap.push (methOf a) }) :
    codeAny (model prog w) A (.call (.builtin "method_descriptor.__get__") ⟨[.builtin "list.append", .ref a, .type "list"], []⟩) R s := by
  refine codeAny_call_builtin md_slot.plain md_entry (md_slot.check _ _ _ _ _ _ _ _ (show s.TypeIs (.builtin "list.append") "method_descriptor" from F.type_list_append) (md_args _ _ _) ?_)
  exact md_meets a xs k prog w A R s ⟨hx, h⟩
theorem meets_ga (a : Addr) (xs : Array Value) (k : Nat) (u : Tok) :
    Meets (Builtin.«object.__getattribute__» ⟨[.ref a, .str (Str.ofString "append") u], []⟩) (fun A R s => s.heap.get? a = some { cls := .type "list", data := .seq xs k } ∧ R (.ok (.ret (.ref s.heap.objs.size))) { s with heap := s.heap.push (methOf a) }) :=
  Meets.of_wp fun prog w A R s hs => by
    obtain ⟨hp, g, d, tk, os⟩ := s
    obtain ⟨hx, hs⟩ := hs
    have hT : (⟨hp, g, d, tk, os⟩ : Shared).TypeIs (.ref a) "list" := ⟨_, hx, rfl⟩
    have f1 := tl_append
    have f2 : typeOf (.builtin "list.append") = pure (.type "method_descriptor") := F.type_list_append
    have f3 := md_get
    have f4 := md_set
    have f5 := md_del
    unfold Builtin.«object.__getattribute__»
    repeat (any_goals (first | assumption | wp_step))
    refine md_code hx ?_
    exact wpAny_pure ⟨_, rfl, hs⟩
theorem getAttr_append {A : Around} {E : Value → Shared → Prop} {s : Shared} {a : Addr} {xs : Array Value} {k : Nat} {Q : Value → Shared → Prop} (hx : s.heap.get? a = some { cls := .type "list", data := .seq xs k })
    (h : ∀ tk, Q (.ref s.heap.objs.size) { s with heap := s.heap.push (methOf a), toks := tk }) : wpAny (model prog w) A (getAttr (.ref a) (Str.ofString "append") true) Q E s := by
  obtain ⟨hp, g, d, tk, os⟩ := s
  have hT : ∀ tk', (⟨hp, g, d, tk', os⟩ : Shared).TypeIs (.ref a) "list" := fun _ => ⟨_, hx, rfl⟩
  have f3 := F.slot_list_getattribute.lookup
  have f4 := F.slot_list_getattribute.bind (.ref a)
  unfold getAttr getAttrBy
  repeat (any_goals (first | assumption | exact hT _ | ((with_reducible show wpAny _ _ (call (Value.builtin "list.__getattribute__") _ _) _ _ _); refine call_meets F.slot_list_getattribute (hT _) am_entry_list_getattribute (F.args_list_getattribute_2 _ _) (meets_ga a xs k _) ⟨hx, ?_⟩) | wp_step))
  show wpAny _ _ (handedOut (.ref _)) Q E _
  exact wpAny_pure (h _)

theorem m_check {A : Around} {E : Value → Shared → Prop} {s : Shared} {a : Addr} {x : Value} {xs : Array Value} {k : Nat} {Q : Unit → Shared → Prop} (hx : s.heap.get? a = some { cls := .type "list", data := .seq xs k }) (h : Q () s) : wpAny (model prog w) A (checkBoundCall "list.append" ⟨[.ref a, x], []⟩) Q E s := by
  have f1 : isSubtype (.type "list") (.type "module") = pure false := by rw [isSubtype_type]; kernel_rfl
  have f3 : Manifest.signature? "list.append" = some ⟨.oneArg, "list.append", "append", .self, [⟨"object", .posOnly, true⟩]⟩ := by
    rw [signature?_of (id := "list.append") (n := ['d', 'n', 'e', 'p', 'p', 'a']) (o := ['t', 's', 'i', 'l']) (by kernel_rfl) F.owner_list]; kernel_rfl
  have f4 : builtinKind "list.append" = some .method := by decide +kernel
  obtain ⟨hp, g, d, tk, os⟩ := s
  have hT : (⟨hp, g, d, tk, os⟩ : Shared).TypeIs (.ref a) "list" := ⟨_, hx, rfl⟩
  unfold checkBoundCall
  rw [f3, f4]
  dsimp only
  repeat (any_goals (first | assumption | wp_step))
theorem call_meth {A : Around} {E : Value → Shared → Prop} {s : Shared} {q a : Addr} {x : Value} {xs : Array Value} {k : Nat} {Q : Value → Shared → Prop} (hq : s.heap.get? q = some (methOf a)) (hx : s.heap.get? a = some { cls := .type "list", data := .seq xs k }) (hz : xs.size + 1 ≤ sizeLine)
    (h : Q .none { s with heap := s.heap.update a (Obj.mapSeq fun ys => ys.push x) }) : wpAny (model prog w) A (call (.ref q) [x]) Q E s := by
  refine wpAny_call (codeAny_of_tree ?_)
  show wpAny _ A.in1 (callAny (.ref q) ⟨[x], []⟩) _ _ s
  simp only [callAny]
  refine wpAny_bind (wpAny_load hq ?_)
  simp only [methOf, show (Value.type "builtin_function_or_method" == Value.type "method" || Value.type "builtin_function_or_method" == Value.type "builtin_function_or_method" || Value.type "builtin_function_or_method" == Value.type "method-wrapper") = true by decide, if_true]
  refine KFB.if_so (by decide) ?_
  refine wpAny_bind (m_check hx ?_)
  refine wpAny_bind (wpAny_pure (wpAny_pure ?_))
  refine ⟨Code.quiet_builtin _ (by decide +kernel), codeAny_builtin F.entry_list_append ?_⟩
  rw [Around.under_plainId (by decide +kernel)]
  exact list_append a xs k x (by omega) prog w A (fun r s' => match r with | .ok (.ret v) => Q v s' | .ok _ => False | .error e => E e s') s ⟨hx, h⟩
theorem callWith_meth {A : Around} {E : Value → Shared → Prop} {s : Shared} {pos : Pos} {q a : Addr} {env : Env} {e : Expr} {Q : Value → Shared → Prop} (he : starEach [e] env = [(false, eval e env)])
    (h : wpAny (model prog w) A (eval e env) (fun v s₁ => s₁.heap.get? q = some (methOf a) ∧ wpAny (model prog w) A (call (.ref q) [v]) Q E s₁) E s) : wpAny (model prog w) A (callWith pos (.ref q) [] (backTo pos (starEach [e] env)) []) Q E s := by
  have hb : backTo pos (starEach [e] env) = [(false, eval e env)] := by rw [he]; rfl
  unfold callWith
  refine wpAny_bind (wpAny_holding ?_)
  refine wpAny_mono (Q := fun (x : Args) s₁ => x.kw = [] ∧ s₁.heap.get? q = some (methOf a) ∧ wpAny (model prog w) A (call (.ref q) x.pos) Q E s₁) ?_ (fun x s₁ h₁ => wpAny_bind (wpAny_standAt ?_)) fun _ _ x => x
  · rw [hb]
    refine evalArgs_plain ?_
    rw [← hb]
    refine (args_cons (wpAny_mono h (fun v s₁ h₁ => args_nil ?_) fun _ _ x => x) he)
    exact ⟨rfl, h₁⟩
  obtain ⟨hkw, ho, hcall⟩ := h₁
  simp only [hb, List.any_cons, List.any_nil, Bool.or_false]
  refine wpAny_bind (m := keeperOf (.ref q)) ?_
  unfold keeperOf
  refine wpAny_bind (wpAny_load ho ?_)
  simp only [methOf, show (Value.type "builtin_function_or_method" != Value.type "method") = true by decide, show (Value.type "builtin_function_or_method" == Value.type "builtin_function_or_method" || Value.type "builtin_function_or_method" == Value.type "method-wrapper") = true by decide, if_true]
  refine wpAny_pure ?_
  rw [hkw]
  exact wpAny_bind (wpAny_mono hcall (fun r s₂ hr => wpAny_bind (wpAny_holding (wpAny_point (wpAny_pure hr)))) fun _ _ x => x)
end
section
variable {c : Cfg} {Γ : Gam} {Δ : Del} {P : Post}
/-- add = res.append -/
theorem ex_assign_meth {x y : Str} {p q ap pos : Pos} {i : Nat} {ds : List D} (hm : (y, V.mu i) ∈ Γ) (hi : Δ[i]? = some ds) (hx : Sto c x) (h : P .next (upd Γ x (.meth i)) Δ) (hd : (y == ("__debug__" : Str)) = false := by decide) (hc : (y == ("__classdict__" : Str)) = false := by decide)
    (hb : ∀ env, attributeBase (.Name y q) (Str.ofString "append") env (eval (.Name y q) env) = eval (.Name y q) env := by intro _; rfl)
    (hs : ∀ env, swapsWith (.Attribute (.Name y q) (Str.ofString "append") ap) (some (.Name x p)) pos.line env = pure false := by intro _; rfl) :
    Ex1 c Γ Δ (.Assign [.Name x p] (.Attribute (.Name y q) (Str.ofString "append") ap) pos) P := fun fr s g am O S' Q hQ => by
  obtain ⟨m, hn, hp⟩ := S'.loc
  obtain ⟨v, h1, h2⟩ := hp _ hm
  cases h1 with
  | mu _ a ha =>
    obtain ⟨⟨vs, n, ho, hr⟩, _⟩ := S'.muts i a ds ha hi
    refine wpAny_Assign_Name (Q := _) (?_ : wpAny _ _ (eval (.Attribute (.Name y q) (Str.ofString "append") ap) fr.env) _ _ s) (hs _)
    rw [arm_eval_Attribute, hb]
    refine wpAny_bind (wpAny_Name (load_At O S' hn h2 hc ?_) hd)
    refine wpAny_bind (wpAny_standAt ?_)
    refine wpAny_bind (wpAny_holding (getAttr_append ho fun tk => ?_))
    refine wpAny_bind (wpAny_letTemporaryGo (wpAny_pure ?_))
    have k := Gr.add (o := methOf a) S'.sub (fun b o e => Heap.get?_push_of_some _ e) fresh_size (Heap.get?_push_size s.heap (o := methOf a) rfl)
    exact w_store O (S'.gr k) hx (.meth i a _ _ ha (Fz.add_self _ _ _) rfl) fun h2 t2 S2 _ => hQ .next .next _ _ h2 _ am t2 h .next S2

/-- add(e) -/
theorem ex_call_meth {x : Str} {p pos pos' : Pos} {i : Nat} {ds : List D} {e : Expr} {d : D} (hm : (x, V.meth i) ∈ Γ) (hi : Δ[i]? = some ds) (he : EvF c Γ Δ e d) (h : P .next Γ (Δ.set i (ds ++ [d]))) (hz : ds.length < sizeLine)
    (hd : (x == ("__debug__" : Str)) = false := by decide) (hc : (x == ("__classdict__" : Str)) = false := by decide)
    (hs : ∀ env, starEach [e] env = [(false, eval e env)] := by intro _; rfl) :
    Ex1 c Γ Δ (.Expr (.Call (.Name x p) [e] [] pos) pos') P := fun fr s g am O S' Q hQ => by
  obtain ⟨m, hn, hp⟩ := S'.loc
  obtain ⟨v, h1, h2⟩ := hp _ hm
  cases h1 with
  | meth _ a q o ha hq ho =>
    subst ho
    refine wpAny_Expr_any (Call_ (wpAny_Name (load_At O S' hn h2 hc ?_) hd)) (by unfold interactive; rw [O.sc, O.kind]; rfl) rfl
    refine callWith_meth (a := a) (hs _) (he fr s g am O S' _ fun v h1 g1 t1 k1 r1 => ?_)
    have S1 := S'.gr k1
    obtain ⟨⟨vs, n, ho, hr⟩, _⟩ := S1.muts i a ds ha hi
    have e1 := hr.length
    refine ⟨k1.sub _ _ (k1.gk _ _ hq), call_meth (k1.sub _ _ (k1.gk _ _ hq)) ho (by rw [List.size_toArray, e1]; exact hz) ?_⟩
    obtain ⟨n', ho', hs'⟩ := upd_list (ws := vs ++ [v]) ho (fun xs => xs.push v) (by simp)
    exact hQ .next .next Γ _ _ g1 am t1 h .next (S1.setMut ha hs' ho' (hr.append (.cons r1 .nil)))
end
end Mine

set_option maxRecDepth 100000
set_option autoImplicit false
set_option linter.unusedVariables false
namespace Mine
open PySem PySem.W PySem.Calls PyProof.Rows
section
variable {c : Cfg} {Γ : Gam} {Δ : Del} {P : Post}

theorem lk {Γ : Gam} {x : Str} {v : V} (h : Γ.lookup x = some v) : (x, v) ∈ Γ := mem_of_lookup h
theorem ev_nm {x : Str} {d : D} {pos : Pos} (h : Γ.lookup x = some (.d d)) (hd : (x == ("__debug__" : Str)) = false := by decide) (hc : (x == ("__classdict__" : Str)) = false := by decide) : EvF c Γ Δ (.Name x pos) d := ev_name (lk h) hd hc
theorem sub_nil {Γ : Gam} : ∀ p ∈ ([] : Gam), p ∈ Γ := fun _ h => nomatch h
theorem sub_cons {Γ r : Gam} {x : Str} {v : V} (h : Γ.lookup x = some v) (t : ∀ p ∈ r, p ∈ Γ) : ∀ p ∈ (x, v) :: r, p ∈ Γ := fun p hp => by
  rcases List.mem_cons.mp hp with rfl | hp
  · exact lk h
  · exact t p hp
theorem sub_all {Γ : Gam} : ∀ p ∈ Γ, p ∈ Γ := fun _ h => h

/-- while, by states -/
theorem ex_whileS {t : Expr} {b : List Stmt} {pos : Pos} {σ : Type} (Γf : σ → Gam) (Δf : σ → Del) (μ : σ → Nat) (inv : σ → Prop) (z : σ) (h0 : inv z) (hw : ∀ p ∈ Γf z, p ∈ Γ) (hΔ : Δ = Δf z)
    (turn : ∀ z, inv z → ∃ x, EvT c (Γf z) (Δf z) t x ∧ (x = false → P .next (Γf z) (Δf z)) ∧ (x = true → Exs c (Γf z) (Δf z) b fun o Γ₂ Δ₂ => match o with
      | .next | .cont => ∃ z', μ z' < μ z ∧ (∀ p ∈ Γf z', p ∈ Γ₂) ∧ Δ₂ = Δf z' ∧ inv z'
      | .brk => P .next Γ₂ Δ₂
      | .ret d => P (.ret d) Γ₂ Δ₂)) : Ex1 c Γ Δ (.While t b [] pos) P := by
  subst hΔ
  refine fun fr s g am O S Q hQ => ex_while (Γ := Γf z) (Δ := Δf z) (fun n Γ₁ Δ₁ => ∃ z, n = μ z ∧ Γ₁ = Γf z ∧ Δ₁ = Δf z ∧ inv z) ?_ (μ z) ⟨z, rfl, rfl, rfl, h0⟩ fr s g am O (S.weak hw) Q hQ
  rintro n Γ₁ Δ₁ ⟨z, rfl, rfl, rfl, hi⟩
  obtain ⟨x, h1, h2, h3⟩ := turn z hi
  refine ⟨x, h1, h2, fun e => exs_mono (h3 e) fun o Γ₂ Δ₂ hp => ?_⟩
  cases o with
  | next => obtain ⟨z', a1, a2, a3, a4⟩ := hp; exact ⟨_, a1, _, a2, z', rfl, rfl, a3, a4⟩
  | cont => obtain ⟨z', a1, a2, a3, a4⟩ := hp; exact ⟨_, a1, _, a2, z', rfl, rfl, a3, a4⟩
  | brk => exact hp
  | ret d => exact hp
/-- for, by states -/
theorem ex_forS {x : Str} {px pos : Pos} {iter : Expr} {body : List Stmt} {xs : List D} {σ : Type} (Γf : σ → Gam) (Δf : σ → Del) (inv : Nat → σ → Prop) (z : σ) (h0 : inv 0 z) (hw : ∀ p ∈ Γf z, p ∈ Γ) (hΔ : Δ = Δf z) (hi : EvI true c (Γf z) (Δf z) iter xs) (hx : Sto c x)
    (turn : ∀ i d z, xs[i]? = some d → inv i z → Exs c (upd (Γf z) x (.d d)) (Δf z) body fun o Γ₂ Δ₂ => match o with
      | .next | .cont => ∃ z', (∀ p ∈ Γf z', p ∈ Γ₂) ∧ Δ₂ = Δf z' ∧ inv (i + 1) z'
      | .brk => P .next Γ₂ Δ₂
      | .ret d => P (.ret d) Γ₂ Δ₂)
    (done : ∀ z, inv xs.length z → P .next (Γf z) (Δf z)) (hs : ∀ env x, foldedSetIterable iter env x = pure x := by intro _ _; rfl) : Ex1 c Γ Δ (.For (.Name x px) iter body [] pos) P := by
  subst hΔ
  refine fun fr s g am O S Q hQ => ex_for hi hx (fun i Γ₁ Δ₁ => ∃ z, Γ₁ = Γf z ∧ Δ₁ = Δf z ∧ inv i z) ⟨z, rfl, rfl, h0⟩ ?_ ?_ hs fr s g am O (S.weak hw) Q hQ
  · rintro i d Γ₁ Δ₁ hd ⟨z, rfl, rfl, hi⟩
    refine exs_mono (turn i d z hd hi) fun o Γ₂ Δ₂ hp => ?_
    cases o with
    | next => obtain ⟨z', a2, a3, a4⟩ := hp; exact ⟨_, a2, z', rfl, a3, a4⟩
    | cont => obtain ⟨z', a2, a3, a4⟩ := hp; exact ⟨_, a2, z', rfl, a3, a4⟩
    | brk => exact hp
    | ret d => exact hp
  · rintro Γ₁ Δ₁ ⟨z, rfl, rfl, hi⟩
    exact done z hi

/-! isinstance -/
theorem isi_of {f : Str} {T : String} {pf pt pos : Pos} {e : Expr} {d : D} {b : Bool} (he : EvF c Γ Δ e d)
    (hq : ∀ fr (s : Shared) g v, Okf c fr → Rep g d v → ∀ Q : Value → Shared → Prop, (∀ tk, Q (.bool b) { s with toks := tk }) → W c fr (call (.builtin "isinstance") [v, .type T]) Q s)
    (hk : c.sc.names.lookup (Str.ofString "isinstance") = some .globalImplicit) (hl : Str.ofString "isinstance" ∈ c.X.bl) (hk2 : c.sc.names.lookup f = some .globalImplicit) (hl2 : f ∈ c.X.bl) (hv2 : bootBuiltins f = some (.type T)) (hd2 : (f == ("__debug__" : Str)) = false := by decide)
    (hs : ∀ env, starEach [e, .Name f pt] env = (false, eval e env) :: starEach [.Name f pt] env := by intro _; rfl) (hs' : ∀ env, starEach [.Name f pt] env = [(false, eval (.Name f pt) env)] := by intro _; rfl) : EvF c Γ Δ (.Call (.Name (Str.ofString "isinstance") pf) [e, .Name f pt] [] pos) (.bool b) := fun fr s g am O S' Q hQ =>
  Call_ (w_global O S' hk hl PyProof.Rows.boot_isinstance (by decide) (PyProof.Rows.callWith_builtin1 (args_cons (he fr s g am O S' _ fun v h1 g1 t1 k1 r1 => args_cons (w_global O (S'.gr k1) hk2 hl2 hv2 hd2 (args_nil
    (hq fr _ g1 v O r1 _ fun tk => hQ _ h1 g1 tk k1 (.bool b)))) (hs' _)) (hs _)) (hs _) (by rw [hs']; rfl)))
theorem ty_str : typeOf (.type "str") = pure (.type "type") := by first | rfl | kernel_rfl
theorem ty_bool : typeOf (.type "bool") = pure (.type "type") := by first | rfl | kernel_rfl
theorem ev_isi_str {pf pt pos : Pos} {e : Expr} {x : Str} (he : EvF c Γ Δ e (.str x)) (hk : c.sc.names.lookup (Str.ofString "isinstance") = some .globalImplicit) (hl : Str.ofString "isinstance" ∈ c.X.bl) (hk2 : c.sc.names.lookup (Str.ofString "str") = some .globalImplicit) (hl2 : Str.ofString "str" ∈ c.X.bl)
    (hs : ∀ env, starEach [e, .Name (Str.ofString "str") pt] env = (false, eval e env) :: starEach [.Name (Str.ofString "str") pt] env := by intro _; rfl) : EvF c Γ Δ (.Call (.Name (Str.ofString "isinstance") pf) [e, .Name (Str.ofString "str") pt] [] pos) (.bool true) :=
  isi_of he (fun fr s g v O r Q hQ => by
    cases r
    exact call_isinstance (isinstance_true (Tx := "str") ty_str (by rw [isSubtype_type]; kernel_rfl)) ⟨rfl, hQ s.toks⟩) hk hl hk2 hl2 (by decide +kernel) (by decide) hs
theorem ev_isi_bool {pf pt pos : Pos} {e : Expr} {x : Int} (he : EvF c Γ Δ e (.int x)) (hk : c.sc.names.lookup (Str.ofString "isinstance") = some .globalImplicit) (hl : Str.ofString "isinstance" ∈ c.X.bl) (hk2 : c.sc.names.lookup (Str.ofString "bool") = some .globalImplicit) (hl2 : Str.ofString "bool" ∈ c.X.bl)
    (hs : ∀ env, starEach [e, .Name (Str.ofString "bool") pt] env = (false, eval e env) :: starEach [.Name (Str.ofString "bool") pt] env := by intro _; rfl) : EvF c Γ Δ (.Call (.Name (Str.ofString "isinstance") pf) [e, .Name (Str.ofString "bool") pt] [] pos) (.bool false) :=
  isi_of he (fun fr s g v O r Q hQ => by
    cases r
    exact call_isinstance (isinstance_false_int (by decide) ty_bool (by rw [isSubtype_type]; kernel_rfl)) (hQ _)) hk hl hk2 hl2 (by decide +kernel) (by decide) hs
end
end Mine

set_option maxRecDepth 100000
set_option autoImplicit false
set_option linter.unusedVariables false
namespace Mine
open PySem PySem.W PySem.Calls PyProof.Rows
section
variable {c : Cfg} {Γ : Gam} {Δ : Del} {P : Post}

theorem evf_eq {e : Expr} {d d' : D} (h : EvF c Γ Δ e d) (q : d = d') : EvF c Γ Δ e d' := q ▸ h
theorem ev_eq {e : Expr} {d d' : D} (h : Ev c Γ Δ e d) (q : d = d') : Ev c Γ Δ e d' := q ▸ h
theorem evt_eq {e : Expr} {d d' : Bool} (h : EvT c Γ Δ e d) (q : d = d') : EvT c Γ Δ e d' := q ▸ h
theorem evi_eq {b : Bool} {e : Expr} {d d' : List D} (h : EvI b c Γ Δ e d) (q : d = d') : EvI b c Γ Δ e d' := q ▸ h

def Inj {α β : Type} (f : α → β) : Prop := ∀ a b, f a = f b → a = b

theorem comp_fn {α β : Type} (enc : α → D) (encb : β → D) (hinj : Inj enc) (p : α → Bool) (F : α → β) : ∃ (p' : D → Bool) (f' : D → D), ∀ a, p' (enc a) = p a ∧ f' (enc a) = encb (F a) := by
  classical
  refine ⟨fun d => if h : ∃ a, enc a = d then p h.choose else false, fun d => if h : ∃ a, enc a = d then encb (F h.choose) else d, fun a => ?_⟩
  have h : ∃ b, enc b = enc a := ⟨a, rfl⟩
  have e : h.choose = a := hinj _ _ h.choose_spec
  simp only [dif_pos h]
  rw [e]; exact ⟨rfl, rfl⟩
theorem comp_eq {α β : Type} {enc : α → D} {encb : β → D} {p : α → Bool} {F : α → β} {p' : D → Bool} {f' : D → D} (h : ∀ a, p' (enc a) = p a ∧ f' (enc a) = encb (F a)) : ∀ l : List α, ((l.map enc).filter p').map f' = ((l.filter p).map F).map encb
  | [] => rfl
  | a :: r => by
    rw [List.map_cons, List.filter_cons, List.filter_cons, (h a).1]
    cases p a with
    | true => simp only [if_true, List.map_cons]; rw [(h a).2, comp_eq h r]
    | false => simp only [Bool.false_eq_true, if_false]; exact comp_eq h r

theorem ev_compL {α β : Type} (enc : α → D) (encb : β → D) (hinj : Inj enc) (l : List α) (p : α → Bool) (F : α → β) {elt iter : Expr} {x : Str} {px pos : Pos} {ifs : List Expr} {sc : Scope} (Γ' : Gam) (hi : EvI false c Γ Δ iter (l.map enc)) (C : CScope c sc) (hx : Sto (cOf c sc) x) (hsz : l.length ≤ 100000)
    (hΓ : ∀ p ∈ Γ', p ∈ Γ ∧ (p.1, NameKind.free) ∈ sc.names ∧ ∃ d, p.2 = .d d)
    (hif : ∀ a ∈ l, EvIfs (cOf c sc) (upd Γ' x (.d (enc a))) [] ifs (p a)) (he : ∀ a ∈ l, p a = true → EvF (cOf c sc) (upd Γ' x (.d (enc a))) [] elt (encb (F a)))
    (hs : ∀ env x, foldedSetIterable iter env x = pure x := by intro _ _; rfl) : EvF c Γ Δ (.ListComp elt [⟨.Name x px, iter, ifs, 0⟩] sc pos) (.list (((l.filter p).map F).map encb)) := by
  obtain ⟨p', f', h⟩ := comp_fn enc encb hinj p F
  rw [← comp_eq h l]
  refine ev_comp hi C hx (by simpa using hsz) hΓ (fun d hd => ?_) (fun d hd hp => ?_) hs
  · obtain ⟨a, ha, rfl⟩ := List.mem_map.mp hd
    rw [(h a).1]; exact hif a ha
  · obtain ⟨a, ha, rfl⟩ := List.mem_map.mp hd
    rw [(h a).1] at hp
    rw [(h a).2]; exact he a ha hp
theorem ev_compN {α β : Type} (enc : α → D) (encb : β → D) (hinj : Inj enc) (l : List α) (F : α → β) {elt iter : Expr} {x : Str} {px pos : Pos} {sc : Scope} (Γ' : Gam) (hi : EvI false c Γ Δ iter (l.map enc)) (C : CScope c sc) (hx : Sto (cOf c sc) x) (hsz : l.length ≤ 100000)
    (hΓ : ∀ p ∈ Γ', p ∈ Γ ∧ (p.1, NameKind.free) ∈ sc.names ∧ ∃ d, p.2 = .d d)
    (he : ∀ a ∈ l, EvF (cOf c sc) (upd Γ' x (.d (enc a))) [] elt (encb (F a)))
    (hs : ∀ env x, foldedSetIterable iter env x = pure x := by intro _ _; rfl) : EvF c Γ Δ (.ListComp elt [⟨.Name x px, iter, [], 0⟩] sc pos) (.list ((l.map F).map encb)) := by
  have := ev_compL (ifs := []) enc encb hinj l (fun _ => true) F (pos := pos) (px := px) Γ' hi C hx hsz hΓ (fun a _ => evifs_nil) (fun a ha _ => he a ha) hs
  rwa [show l.filter (fun _ => true) = l by simp] at this

theorem ex_assign_compL {α β : Type} (enc : α → D) (encb : β → D) (hinj : Inj enc) (l : List α) (p : α → Bool) (F : α → β) {y : Str} {py spos : Pos} {elt iter : Expr} {x : Str} {px pos : Pos} {ifs : List Expr} {sc : Scope} (Γ' : Gam) (hi : EvI false c Γ Δ iter (l.map enc)) (C : CScope c sc) (hx : Sto (cOf c sc) x) (hsz : l.length ≤ 100000)
    (hΓ : ∀ p ∈ Γ', p ∈ Γ ∧ (p.1, NameKind.free) ∈ sc.names ∧ ∃ d, p.2 = .d d)
    (hif : ∀ a ∈ l, EvIfs (cOf c sc) (upd Γ' x (.d (enc a))) [] ifs (p a)) (he : ∀ a ∈ l, p a = true → EvF (cOf c sc) (upd Γ' x (.d (enc a))) [] elt (encb (F a)))
    (hy : c.sc.names.lookup y = some .local) (h : P .next (upd Γ y (.d (.list (((l.filter p).map F).map encb)))) Δ)
    (hl : (py.line == pos.line) = true := by rfl) (hno : (sc.names.any fun (n, k) => n == y && (k == .local || k == .cell)) = false := by decide +kernel)
    (hs : ∀ env x, foldedSetIterable iter env x = pure x := by intro _ _; rfl) : Ex1 c Γ Δ (.Assign [.Name y py] (.ListComp elt [⟨.Name x px, iter, ifs, 0⟩] sc pos) spos) P := by
  obtain ⟨p', f', hh⟩ := comp_fn enc encb hinj p F
  rw [← comp_eq hh l] at h
  refine ex_assign_comp hi C hx (by simpa using hsz) hΓ (fun d hd => ?_) (fun d hd hp => ?_) hy h hl hno hs
  · obtain ⟨a, ha, rfl⟩ := List.mem_map.mp hd
    rw [(hh a).1]; exact hif a ha
  · obtain ⟨a, ha, rfl⟩ := List.mem_map.mp hd
    rw [(hh a).1] at hp
    rw [(hh a).2]; exact he a ha hp
theorem ex_assign_compN {α β : Type} (enc : α → D) (encb : β → D) (hinj : Inj enc) (l : List α) (F : α → β) {y : Str} {py spos : Pos} {elt iter : Expr} {x : Str} {px pos : Pos} {sc : Scope} (Γ' : Gam) (hi : EvI false c Γ Δ iter (l.map enc)) (C : CScope c sc) (hx : Sto (cOf c sc) x) (hsz : l.length ≤ 100000)
    (hΓ : ∀ p ∈ Γ', p ∈ Γ ∧ (p.1, NameKind.free) ∈ sc.names ∧ ∃ d, p.2 = .d d)
    (he : ∀ a ∈ l, EvF (cOf c sc) (upd Γ' x (.d (enc a))) [] elt (encb (F a)))
    (hy : c.sc.names.lookup y = some .local) (h : P .next (upd Γ y (.d (.list ((l.map F).map encb)))) Δ)
    (hl : (py.line == pos.line) = true := by rfl) (hno : (sc.names.any fun (n, k) => n == y && (k == .local || k == .cell)) = false := by decide +kernel)
    (hs : ∀ env x, foldedSetIterable iter env x = pure x := by intro _ _; rfl) : Ex1 c Γ Δ (.Assign [.Name y py] (.ListComp elt [⟨.Name x px, iter, [], 0⟩] sc pos) spos) P :=
  ex_assign_compL (ifs := []) enc encb hinj l (fun _ => true) F Γ' hi C hx hsz hΓ (fun a _ => evifs_nil) (fun a ha _ => he a ha) hy (by rwa [show l.filter (fun _ => true) = l by simp]) hl hno hs

def chkF (sc p : Scope) : Bool := sc.names.all fun x => match x.2 with
  | .free => (match p.names.lookup x.1 with | some .cell => true | some .free => true | _ => false)
  | _ => true
theorem csc {sc : Scope} (hk : sc.kind = .function) (hn : (sc.names.map (·.1)).Nodup) (hf : chkF sc c.sc = true) : CScope c sc := ⟨hk, hn, fun p hp e => by
  have h := List.all_eq_true.mp hf p hp
  rw [e] at h
  dsimp only at h
  split at h
  · exact .inl ‹_›
  · exact .inr ‹_›
  · cases h⟩
theorem nle {m n : Nat} (h : Nat.ble m n = true) : m ≤ n := Nat.le_of_ble_eq_true h
theorem inj_int : Inj D.int := fun a b h => by injection h
theorem inj_S : Inj fun l : List Nat => D.str (S l) := fun a b h => by
  have h1 : S a = S b := by injection h
  have h2 : a.toArray = b.toArray := by injection h1
  simpa using h2
theorem inj_nat : Inj fun n : Nat => D.int n := fun a b h => by injection h with h; exact Int.ofNat.inj h
theorem cs_nil {Γ : Gam} {sc : Scope} : ∀ p ∈ ([] : Gam), p ∈ Γ ∧ (p.1, NameKind.free) ∈ sc.names ∧ ∃ d, p.2 = .d d := fun _ h => nomatch h
theorem cs_cons {Γ r : Gam} {sc : Scope} {x : Str} {d : D} (h : Γ.lookup x = some (.d d)) (hf : sc.names.lookup x = some .free) (t : ∀ p ∈ r, p ∈ Γ ∧ (p.1, NameKind.free) ∈ sc.names ∧ ∃ d, p.2 = .d d) :
    ∀ p ∈ (x, V.d d) :: r, p ∈ Γ ∧ (p.1, NameKind.free) ∈ sc.names ∧ ∃ d, p.2 = .d d := fun p hp => by
  rcases List.mem_cons.mp hp with rfl | hp
  · exact ⟨lk h, mem_of_lookup hf, d, rfl⟩
  · exact t p hp
end
end Mine

set_option maxRecDepth 100000
set_option autoImplicit false
set_option linter.unusedVariables false
namespace Mine
open PySem PySem.W PySem.Calls PyProof.Rows
section
variable {prog : Program} {w : World} {A : Around} {E : Value → Shared → Prop} {s : Shared}
theorem tr_look {a : Addr} {n : Nat} {f : Int → Option Value} {Q : Builtin.Str.Mapped → Shared → Prop} (hh : A.handled = none) (hm : s.heap.MapOf (intKind prog w) a f) (hd : (a == sysModules) = false) (hv : f n = none)
    (h : ∀ h' tk, (∀ b o, s.heap.get? b = some o → h'.get? b = some o) → Q .keep { s with heap := h', toks := tk }) : wpAny (model prog w) A (Builtin.Str.tableLookup (.ref a) n) Q E s := by
  unfold Builtin.Str.tableLookup
  refine wpAny_bind (wpAny_attempt ?_)
  refine wpAny_bind (wpAny_mkInt ?_)
  refine wpAny_getItem_missing_of (knd := intKind prog w) (k := (n : Int)) (by simp [intKind, Value.isInt]) hd hh hm hv fun h' e hx => ?_
  obtain ⟨ob, t, h1, h2, h3⟩ := hx.there
  refine wpAny_bind (wpAny_isInstance (T := "KeyError") (b := true) ⟨_, h1, h2⟩ (by rw [isSubtype_type]; kernel_rfl) ?_)
  exact wpAny_bind (wpAny_rule (wpAny_pure (h h' _ hx.keeps)))
theorem tr_tree {a : Addr} {n : Nat} {t : Tok} {f : Int → Option Value} {P : PySem.Fin → Shared → Prop} (hn : n < 128) (hh : A.handled = none) (hm : s.heap.MapOf (intKind prog w) a f) (hd : (a == sysModules) = false) (hv : f n = none)
    (h : ∀ h' t' tk, (∀ b o, s.heap.get? b = some o → h'.get? b = some o) → P (.done (.ret (.str (S [n]) t'))) { s with heap := h', toks := tk }) : wpAny (model prog w) A (Builtin.«str.translate» ⟨[.str (S [n]) t, .ref a], []⟩) P E s := by
  unfold Builtin.«str.translate»
  generalize hT : Builtin.Str.tableLookup = TL
  have hl : ∀ {Q : Builtin.Str.Mapped → Shared → Prop}, (∀ h' tk, (∀ b o, s.heap.get? b = some o → h'.get? b = some o) → Q .keep { s with heap := h', toks := tk }) → wpAny (model prog w) A (TL (.ref a) n) Q E s := by
    intro Q hQ; rw [← hT]; exact tr_look hh hm hd hv hQ
  clear hT
  refine wpAny_bind ?_
  repeat (any_goals (first | assumption | wp_step))
  refine hl fun h' tk kk => ?_
  simp only [List.size_toArray, List.length_cons, List.length_nil, Nat.zero_add, Nat.sub_self, Nat.sub_zero, List.getElem_toArray, List.getElem_cons_zero]
  clear hl
  repeat (any_goals (first | assumption | wp_step))
  have := h h' tk (tk + 1) kk
  simpa [S] using this
end
section
variable {c : Cfg} {Γ : Gam} {Δ : Del} {P : Post}
/-- the table of translate -/
def TM (X : GCtx) (h : Heap) : Prop := ∃ a, X.mg (Str.ofString "_special_chars_map") = some (.ref a) ∧ (a == sysModules) = false ∧ ∃ f, h.MapOf (intKind X.prog X.w) a f ∧ ∀ k : Nat, 65 ≤ k → k ≤ 80 → f k = none
theorem w_gname {fr : Frm} {s : Shared} {g : Fz} {am : List Addr} {x : Str} {p : Pos} {v : Value} {Q : Value → Shared → Prop} (O : Okf c fr) (S' : St fr Γ Δ s.heap g am) (hk : c.sc.names.lookup x = some .globalImplicit) (hv : c.X.mg x = some v)
    (hd : (x == ("__debug__" : Str)) = false) (hQ : Q v s) : W c fr (eval (.Name x p) fr.env) Q s := by
  have G := O.glo.keeps S'.keep
  exact Name_function_global (O.sc ▸ O.kind) (by unfold Env.kindOf; rw [O.sc]; exact hk) (loadGlobal_global (O.glob ▸ G.g) hv hQ) hd
theorem ev_translate {o : Expr} {ap pm pos : Pos} {n : Nat} (ht : ∀ h, c.X.tm h → TM c.X h) (ho : Ev c Γ Δ o (.str (S [n]))) (h1 : 65 ≤ n) (h2 : n ≤ 80) (hk : c.sc.names.lookup (Str.ofString "_special_chars_map") = some .globalImplicit) (hh : c.hd = true := by rfl) (hl : (ap.endLine == pos.line) = true := by rfl)
    (hb : ∀ env, attributeBase o (Str.ofString "translate") env (eval o env) = eval o env := by intro _; rfl) (hs : ∀ env, starEach [.Name (Str.ofString "_special_chars_map") pm] env = [(false, eval (.Name (Str.ofString "_special_chars_map") pm) env)] := by intro _; rfl) :
    EvF c Γ Δ (.Call (.Attribute o (Str.ofString "translate") ap) [.Name (Str.ofString "_special_chars_map") pm] [] pos) (.str (S [n])) := fun fr s g am O S' Q hQ =>
  w_str_meth O S' ho F.slot_str_translate F.type_str_translate hl (hb _) (by rw [hs]; rfl) fun t h1' g1 t1 k1 => by
    have G := O.glo.keeps (S'.gr k1).keep
    obtain ⟨a, hmg, hsm, f, hmap, hf⟩ := ht _ G.tm
    refine PyProof.Rows.callWith_method1 (args_cons (w_gname O (S'.gr k1) hk hmg (by decide) (args_nil ?_)) (hs _)) (hs _)
    refine wpAny_call_entry F.slot_str_translate (typeIs_str _ _ _) F.entry_str_translate (tr_tree (by omega) (by exact O.hand hh) hmap hsm (hf n h1 h2) fun h' t' tk kk => ⟨_, rfl, ?_⟩) (F.args_str_translate_2 _ _)
    exact hQ _ h' g1 tk (k1.trans (.heap k1.sub kk)) (.str _ t')
end
end Mine

set_option maxRecDepth 100000
set_option autoImplicit false
set_option linter.unusedVariables false
namespace Mine
open PySem PySem.W PySem.Calls PyProof.Rows
section
variable {c : Cfg} {Γ : Gam} {Δ : Del} {P : Post}
theorem S_inj {a b : List Nat} : S a = S b ↔ a = b := ⟨fun h => by
  have h2 : a.toArray = b.toArray := by injection h
  simpa using h2, fun h => by rw [h]⟩
theorem S_beq (a b : List Nat) : (S a == S b) = decide (a = b) := by
  rw [Bool.eq_iff_iff]; simp [S_inj]
theorem S_bne (a b : List Nat) : (S a != S b) = !decide (a = b) := by
  show (!(S a == S b)) = _
  rw [S_beq]
theorem ev_lit {x : Str} {k : Nat} {pos : Pos} (l : List Nat) (h : x = S l) : EvF c Γ Δ (.Constant (.str x) k pos) (.str (S l)) := h ▸ ev_str
theorem cmp_eqS {a b : List Nat} : CmpF c .Eq (.str (S a)) (.str (S b)) (decide (a = b)) := by rw [← S_beq]; exact cmp_eqs
theorem cmp_neS {a b : List Nat} : CmpF c .NotEq (.str (S a)) (.str (S b)) (!decide (a = b)) := by rw [← S_bne]; exact cmp_nes
def belowB (k : Nat) (Γ : Gam) : Bool := Γ.all fun p => match p.2 with
  | .d _ => true
  | .mu i => Nat.blt i k
  | .meth i => Nat.blt i k
  | .arg _ => true
theorem fz_of {Γ' : Gam} {ds : List D} {k : Nat} (hs : ∀ p ∈ Γ', p ∈ Γ) (hb : belowB k Γ' = true) : ∀ p ∈ Γ', (p ∈ Γ ∧ Below1 k p.2) ∨ (p.2 = .d (.list ds) ∧ (p.1, V.mu k) ∈ Γ) := fun p hp => .inl ⟨hs p hp, by
  have h := List.all_eq_true.mp hb p hp
  obtain ⟨x, v⟩ := p
  cases v with
  | d d => exact trivial
  | mu i => exact Nat.blt_eq.mp h
  | meth i => exact Nat.blt_eq.mp h
  | arg ns => exact trivial⟩
/-- the last list that turned is no more needed -/
theorem exs_drop {b : List Stmt} {Γ' : Gam} {ds : List D} (hs : ∀ p ∈ Γ', p ∈ Γ) (hb : belowB Δ.length Γ' = true) (h : Exs c Γ' Δ b P) : Exs c Γ (Δ ++ [ds]) b P := exs_freeze (fz_of hs hb) h
theorem slen (l : List Nat) : (S l).length = l.length := by simp [Str.length]
theorem b_len_S {l : List Nat} (hz : l.length ≤ 1000000) : B1 c "len" (.str (S l)) (.int l.length) := by
  have := b_len_str (c := c) (x := S l) (by rw [slen]; exact hz)
  rwa [slen] at this
end
end Mine

set_option maxRecDepth 100000
set_option autoImplicit false
set_option linter.unusedVariables false
namespace Mine
open PySem PySem.W PySem.Calls PyProof.Rows
section
variable {c : Cfg} {Γ : Gam} {Δ : Del} {P : Post}
theorem St.fresh {fr : Frm} {h : Heap} {g : Fz} {am : List Addr} {a : Addr} (S : St fr Γ Δ h g am) (hn : h.get? a = none) : fr.h₀.get? a = none ∧ a ≠ fr.env.locals ∧ a ∉ fr.oc ∧ a ∉ am := by
  refine ⟨?_, fun e => ?_, fun hm => ?_, fun hm => ?_⟩
  · cases q : fr.h₀.get? a with
    | none => rfl
    | some o => rw [S.keep a o q] at hn; cases hn
  · obtain ⟨m, hns, _⟩ := S.loc
    obtain ⟨o, ho⟩ := Heap.Ns.get hns
    rw [e, ho] at hn; cases hn
  · obtain ⟨⟨v, o, ho, _⟩, _⟩ := S.ocs a hm
    rw [ho] at hn; cases hn
  · obtain ⟨i, hi, e⟩ := List.mem_iff_getElem.mp hm
    obtain ⟨⟨vs, n, ho, _⟩, _⟩ := S.muts i a _ (by rw [List.getElem?_eq_getElem hi, e]) (List.getElem?_eq_getElem (S.len ▸ hi))
    rw [ho] at hn; cases hn
theorem St.addMut' {fr : Frm} {h : Heap} {g : Fz} {am : List Addr} {a : Addr} {vs : List Value} {n : Nat} {ds : List D} (S : St fr Γ Δ h g am) (hf : fr.h₀.get? a = none ∧ a ≠ fr.env.locals ∧ a ∉ fr.oc ∧ a ∉ am) (hg : g a = none)
    (ha : h.get? a = some (lstO vs n)) (hr : Reps g ds vs) : St fr Γ (Δ ++ [ds]) h g (am ++ [a]) := by
  obtain ⟨h0, hL, hoc, ham⟩ := hf
  refine { S with loc := ?_, ocs := fun b hb => ?_, len := by simp [S.len], nd := ?_, muts := fun i b ds' h1 h2 => ?_ }
  · obtain ⟨m, hns, hp⟩ := S.loc
    exact ⟨m, hns, fun p hm => let ⟨v, e1, e2⟩ := hp p hm; ⟨v, e1.mono fun _ _ e => e, e2⟩⟩
  · obtain ⟨r0, r1, r2, r3, r4⟩ := S.ocs b hb
    refine ⟨r0, r1, r2, r3, fun hm => ?_⟩
    rcases List.mem_append.mp hm with hm | hm
    · exact r4 hm
    · rw [List.mem_singleton.mp hm] at hb; exact hoc hb
  · exact List.nodup_append.mpr ⟨S.nd, by simp, fun x hx y hy e => ham (by rw [List.mem_singleton.mp hy] at e; exact e ▸ hx)⟩
  · by_cases hlt : i < am.length
    · rw [List.getElem?_append_left hlt] at h1
      rw [List.getElem?_append_left (S.len ▸ hlt)] at h2
      exact S.muts i b ds' h1 h2
    · have hi : i = am.length := by
        have := (List.getElem?_eq_some_iff.mp h1).1
        simp at this; omega
      subst hi
      rw [List.getElem?_append_right (Nat.le_refl _)] at h1
      rw [S.len, List.getElem?_append_right (Nat.le_refl _)] at h2
      simp at h1 h2
      subst h1 h2
      exact ⟨⟨vs, n, ha, hr⟩, hL, h0, hg⟩

/-- x = [[..], [..]][k] -/
theorem ex_assign_pick {x : Str} {p p0 p1 p2 p3 pos : Pos} {es0 es1 : List Expr} {ds0 ds1 : List D} {k : Expr} {z : Nat} (h0 : EvFs c Γ Δ es0 ds0) (h1 : EvFs c Γ Δ es1 ds1) (hk : Ev c Γ Δ k (.int z)) (hz : z < 2) (hx : Sto c x)
    (h : P .next (upd Γ x (.mu Δ.length)) (Δ ++ [if z = 0 then ds0 else ds1])) (hz0 : ds0.length ≤ sizeLine := by rw [sizeLine_lit]; simp) (hz1 : ds1.length ≤ sizeLine := by rw [sizeLine_lit]; simp)
    (hs : ∀ env, starEach [.List es0 p0, .List es1 p1] env = (false, eval (.List es0 p0) env) :: starEach [.List es1 p1] env := by intro _; rfl) (hs' : ∀ env, starEach [.List es1 p1] env = [(false, eval (.List es1 p1) env)] := by intro _; rfl)
    (hsub : ∀ o i t, subscripted k false o (.int i t) = operate [o, .int i t] (getItem o (.int i t)) := by intro _ _ _; rfl)
    (hsw : ∀ env, swapsWith (.Subscript (.List [.List es0 p0, .List es1 p1] p2) k p3) (some (.Name x p)) pos.line env = pure false := by intro _; rfl) :
    Ex1 c Γ Δ (.Assign [.Name x p] (.Subscript (.List [.List es0 p0, .List es1 p1] p2) k p3) pos) P := fun fr s g am O S' Q hQ => by
  refine wpAny_Assign_Name (Subscript_ (List_ (args_cons (List_ (w_args h0 O S' fun vs0 h1' g1 t1 k1 r0 => ?_)) (hs _)))) (hsw _)
  refine wpAny_newList ?_ (by rw [r0.length]; exact hz0)
  have S1 := S'.gr k1
  have kp1 : ∀ b o, h1'.get? b = some o → (h1'.push (lstO vs0 0)).get? b = some o := fun b o e => Heap.get?_push_of_some _ e
  have S2 := S1.gr (Gr.heap k1.sub kp1)
  have k2 := k1.trans (Gr.heap k1.sub kp1)
  have ha0 : (h1'.push (lstO vs0 0)).get? h1'.objs.size = some (lstO vs0 0) := Heap.get?_push_size _ rfl
  have f0 := S1.fresh (a := h1'.objs.size) fresh_size
  have hg0 : g1 h1'.objs.size = none := none_of_sub k1.sub fresh_size
  generalize h1'.objs.size = a0 at ha0 f0 hg0 ⊢
  generalize h1'.push (lstO vs0 0) = H1 at S2 k2 ha0 ⊢
  refine args_cons (List_ (w_args h1 O S2 fun vs1 h2' g2 t2 k3 r1 => ?_)) (hs' _)
  refine wpAny_newList (args_nil ?_) (by rw [r1.length]; exact hz1)
  have S3 := S2.gr k3
  have kp2 : ∀ b o, h2'.get? b = some o → (h2'.push (lstO vs1 0)).get? b = some o := fun b o e => Heap.get?_push_of_some _ e
  have S4 := S3.gr (Gr.heap k3.sub kp2)
  have k4 := k3.trans (Gr.heap k3.sub kp2)
  have ha1 : (h2'.push (lstO vs1 0)).get? h2'.objs.size = some (lstO vs1 0) := Heap.get?_push_size _ rfl
  have f1 := S3.fresh (a := h2'.objs.size) fresh_size
  have hg1 : g2 h2'.objs.size = none := none_of_sub k3.sub fresh_size
  generalize h2'.objs.size = a1 at ha1 f1 hg1 ⊢
  generalize h2'.push (lstO vs1 0) = H2 at S4 k4 ha1 ⊢
  refine wpAny_newList ?_ (by rw [sizeLine_lit]; simp)
  have kp3 : ∀ b o, H2.get? b = some o → (H2.push (lstO [.ref a0, .ref a1] 0)).get? b = some o := fun b o e => Heap.get?_push_of_some _ e
  have S5 := S4.gr (Gr.heap k4.sub kp3)
  have ho : (H2.push (lstO [.ref a0, .ref a1] 0)).get? H2.objs.size = some (lstO [.ref a0, .ref a1] 0) := Heap.get?_push_size _ rfl
  have k5 := k4.trans (Gr.heap k4.sub kp3)
  have ha0' := k5.hk _ _ ha0
  have ha1' := kp3 _ _ ha1
  generalize H2.objs.size = ao at ho ⊢
  generalize H2.push (lstO [.ref a0, .ref a1] 0) = H3 at S5 k5 ho ha0' ha1' ⊢
  have hg0' := k5.none hg0 ha0
  refine hk fr _ g2 am O S5 _ fun vk h4 g4 t4 k6 r4 => ?_
  obtain ⟨t, rfl⟩ := rint r4
  have S6 := S5.gr k6
  have ho4 := k6.hk _ _ ho
  refine tail_any (isList_of ho4).typeIs slot_list_getitem.lookup (wpAny_getItem_list (isList_of ho4) (by omega) (by omega) (x := .ref (if z = 0 then a0 else a1)) ?_ ?_) (hsub _ _ _)
  · have : z = 0 ∨ z = 1 := by omega
    rcases this with e | e <;> subst e <;> rfl
  · have : z = 0 ∨ z = 1 := by omega
    rcases this with e | e <;> subst e
    · have S7 := S6.addMut' f0 (k6.none hg0' ha0') (k6.hk _ _ ha0') (r0.mono fun b o e => k6.gk _ _ (k5.gk _ _ e))
      exact w_store O S7 hx (.mu Δ.length a0 (by rw [← S'.len, List.getElem?_append_right (Nat.le_refl _)]; simp)) fun h2 t2 S2 _ => hQ .next .next _ _ h2 g4 _ t2 h .next S2
    · have S7 := S6.addMut' f1 (k6.none hg1 ha1') (k6.hk _ _ ha1') (r1.mono fun b o e => k6.gk _ _ e)
      exact w_store O S7 hx (.mu Δ.length a1 (by rw [← S'.len, List.getElem?_append_right (Nat.le_refl _)]; simp)) fun h2 t2 S2 _ => hQ .next .next _ _ h2 g4 _ t2 h .next S2
end
end Mine

set_option maxRecDepth 100000
set_option autoImplicit false
set_option linter.unusedVariables false
namespace Mine
open PySem PySem.W PySem.Calls PyProof.Rows PySem.Builtin.Str

theorem fold_keep {α β : Type} (f : β → α → β) (b : β) : ∀ l : List α, (∀ x ∈ l, f b x = b) → l.foldl f b = b
  | [], _ => rfl
  | a :: r, h => by rw [List.foldl_cons, h a (by simp)]; exact fold_keep f b r fun x hx => h x (by simp [hx])
theorem occ_first (s sub : Str) (lo hi i : Nat) (h1 : lo ≤ i) (h2 : i + sub.length ≤ hi) (h3 : subAt s sub i = true) (h4 : ∀ j, lo ≤ j → j < i → subAt s sub j = false) : occurrences s sub lo hi 1 = [i] := by
  unfold occurrences
  simp only [Std.Legacy.Range.forIn_eq_forIn_range', Std.Legacy.Range.size]
  have hr : List.range' lo (hi + 1 - lo + 1 - 1) 1 = List.range' lo (i - lo) ++ i :: List.range' (i + 1) (hi - i) := by
    have e : hi + 1 - lo + 1 - 1 = (i - lo) + ((hi - i) + 1) := by omega
    rw [e, ← List.range'_append_1, List.range'_succ]
    rw [show lo + (i - lo) = i by omega]
  simp only [Nat.div_one]
  rw [hr]
  have key : ∀ (l : List Nat) (b : Array Nat × Nat), (forIn (m := Id) l b fun i (r : Array Nat × Nat) => if (decide (r.fst.size < 1) && decide (r.snd ≤ i) && decide (i + sub.length ≤ hi) && subAt s sub i) = true then pure (ForInStep.yield (r.fst.push i, i + sub.length)) else pure (ForInStep.yield (r.fst, r.snd)))
      = l.foldl (fun r i => if (decide (r.fst.size < 1) && decide (r.snd ≤ i) && decide (i + sub.length ≤ hi) && subAt s sub i) = true then (r.fst.push i, i + sub.length) else r) b := by
    intro l
    induction l with
    | nil => intro b; rfl
    | cons a t ih =>
      intro b
      rw [List.forIn_cons, List.foldl_cons]
      split
      · exact ih _
      · exact ih _
  show (forIn (m := Id) (List.range' lo (i - lo) ++ i :: List.range' (i + 1) (hi - i)) ((#[] : Array Nat), lo) _).fst.toList = [i]
  rw [key, List.foldl_append, List.foldl_cons]
  rw [fold_keep _ _ (List.range' lo (i - lo)) (fun x hx => by
    have := List.mem_range'_1.mp hx
    rw [h4 x this.1 (by omega)]; simp)]
  have c : (decide (((#[] : Array Nat), lo).fst.size < 1) && decide (((#[] : Array Nat), lo).snd ≤ i) && decide (i + sub.length ≤ hi) && subAt s sub i) = true := by
    rw [h3]; simp [h1, h2]
  rw [if_pos c]
  rw [fold_keep _ _ (List.range' (i + 1) (hi - i)) (fun x hx => by simp)]
  simp

/-- a sign in a text -/
theorem subAt_one (l : List Nat) (n i : Nat) : subAt (S l) (S [n]) i = (l[i]? == some n) := by
  unfold subAt
  have e : (S l).cps.extract i (i + (S [n]).length) = ((l.drop i).take 1).toArray := by
    show l.toArray.extract i (i + 1) = _
    apply Array.toList_inj.mp
    simp
  rw [e]
  show (((l.drop i).take 1).toArray == [n].toArray) = _
  cases h : l[i]? with
  | none =>
    have : l.drop i = [] := List.drop_eq_nil_iff.mpr (by simpa using h)
    rw [this]; rfl
  | some m =>
    have hi := (List.getElem?_eq_some_iff.mp h)
    obtain ⟨h1, h2⟩ := hi
    have : (l.drop i).take 1 = [m] := by
      rw [List.drop_eq_getElem_cons h1, h2]; simp
    rw [this]
    rw [Bool.eq_iff_iff]; simp
end Mine

set_option maxRecDepth 100000
set_option autoImplicit false
set_option linter.unusedVariables false
namespace Mine
open PySem PySem.W PySem.Calls PyProof.Rows
section
variable {c : Cfg} {Γ : Gam} {Δ : Del} {P : Post}

theorem compTurn_in (g0 : Comprehension) (elt target iter : Expr) (scope : Scope) (pos : Pos) (it acc : Value) (env : Env) :
    compTurn (.ListComp elt [g0, ⟨target, iter, [], 0⟩] scope pos) 1 it acc env = (do
      standAt iter.pos
      match ← pyNext it with
      | none => pure (.done .next)
      | some v =>
        letOwnedTupleGo target it v
        assign target env v
        (do let _ ← call (.builtin "list.append") [acc, ← eval elt env])
        again (.compLoop (.ListComp elt [g0, ⟨target, iter, [], 0⟩] scope pos) 1 it acc env)) := by rfl
theorem compTurn_out (elt target iter target' iter' : Expr) (scope : Scope) (pos : Pos) (it acc : Value) (env : Env) :
    compTurn (.ListComp elt [⟨target, iter, [], 0⟩, ⟨target', iter', [], 0⟩] scope pos) 0 it acc env = (do
      standAt iter.pos
      match ← pyNext it with
      | none => pure (.done .next)
      | some v =>
        letOwnedTupleGo target it v
        assign target env v
        let x ← eval iter' env
        standAt iter'.pos
        let x ← foldedSetIterable iter' env x
        let _ ← runOwn (.compStart (.ListComp elt [⟨target, iter, [], 0⟩, ⟨target', iter', [], 0⟩] scope pos) 1 (← holding [x] (pyIter x)) acc env) env
        again (.compLoop (.ListComp elt [⟨target, iter, [], 0⟩, ⟨target', iter', [], 0⟩] scope pos) 0 it acc env)) := by rfl
theorem start_in {prog : Program} {w : World} {A : Around} {R : Result → Shared → Prop} {s : Shared} {g0 : Comprehension} {elt target iter : Expr} {scope : Scope} {pos : Pos} {it acc : Value} {env : Env}
    (h0 : codeAny (model prog w) A (.compLoop (.ListComp elt [g0, ⟨target, iter, [], 0⟩] scope pos) 1 it acc env) R s)
    (h : wpAny (model prog w) A (pyIter it) (fun it' s' => codeAny (model prog w) A (.compLoop (.ListComp elt [g0, ⟨target, iter, [], 0⟩] scope pos) 1 it' acc env) R s')
      (notedBy (model prog w) A env fun x s' => R (.error x) s') s) :
    codeAny (model prog w) A (.compStart (.ListComp elt [g0, ⟨target, iter, [], 0⟩] scope pos) 1 it acc env) R s := by
  refine codeAny_of_tree ?_
  show wpAny _ _ ((compStart (.ListComp elt [g0, ⟨target, iter, [], 0⟩] scope pos) 1 it acc env).onRaise (fun x => do noteFrame x env; standAt theWindowsPlace)) _ _ s
  refine wpAny_notedAt ?_
  unfold compStart
  show wpAny _ _ (ask >>= _) _ _ s
  refine wpAny_bind (wpAny_askSetting (wpAny_ite ?_))
  split
  · first
      | exact wpAny_bind (wpAny_pure (wpAny_pure (And.intro rfl h0)))
      | exact wpAny_pure (And.intro rfl h0)
  · refine wpAny_bind (wpAny_rule ?_)
    show wpAny _ _ (standAt iter.pos >>= _) _ _ s
    exact wpAny_bind (wpAny_standAt (wpAny_bind (wpAny_mono h (fun it' s' h' => wpAny_pure (And.intro rfl h')) fun _ _ x => x)))

/-- the inner generator's walk -/
theorem w_inner {β : Type} {K : Sem β} {fr : Frm} {s : Shared} {g : Fz} {D₀ : Addr} {acc : List D} {g0 : Comprehension} {elt iter : Expr} {y : Str} {py pos : Pos} {sc : Scope} {ys : List D} {F : D → D} {Γ₁ : Gam} (O : Okf c fr) (S0 : St fr Γ₁ [acc] s.heap g [D₀])
    (hi : EvI true c Γ₁ [acc] iter ys) (hy : Sto c y) (hn : ∀ p ∈ Γ₁, p.1 ≠ y) (hsz : acc.length + ys.length ≤ 100000) (he : ∀ d ∈ ys, ∀ acc', EvF c (upd Γ₁ y (.d d)) [acc'] elt (F d)) {Q : β → Shared → Prop}
    (hQ : ∀ h' g' tk, St fr Γ₁ [acc ++ ys.map F] h' g' [D₀] → W c fr K Q { s with heap := h', toks := tk }) (hs : ∀ env x, foldedSetIterable iter env x = pure x := by intro _ _; rfl) (ht : ∀ x v, letOwnedTupleGo (.Name y py) x v = pure () := by intro _ _; rfl) :
    W c fr (do
      let x ← eval iter fr.env
      standAt iter.pos
      let x ← foldedSetIterable iter fr.env x
      let _ ← runOwn (.compStart (.ListComp elt [g0, ⟨.Name y py, iter, [], 0⟩] sc pos) 1 (← holding [x] (pyIter x)) (.ref D₀) fr.env) fr.env
      K) Q s := by
  refine wpAny_bind (wpAny_mono (hi fr s g [D₀] O S0 (fun iv s₂ => wpAny (model c.X.prog c.X.w) fr.A (runOwn (.compStart (.ListComp elt [g0, ⟨.Name y py, iter, [], 0⟩] sc pos) 1 iv (.ref D₀) fr.env) fr.env) (fun _ s₃ => W c fr K Q s₃) (fun _ _ => False) s₂) ?_) (fun xv s₁ h₁ => ?_) fun _ _ e => e)
  rotate_left
  · refine wpAny_bind (wpAny_standAt (wpAny_bind (wpAny_of_eq (hs _ _) ?_)))
    refine wpAny_bind (wpAny_holding (wpAny_mono h₁ (fun iv s₂ h₂ => ?_) fun _ _ e => e))
    exact wpAny_bind (wpAny_mono h₂ (fun _ s₃ h₃ => h₃) fun _ _ e => e)
  intro I fp wr Pw Sw h1 g1 t1 it
  refine wpAny_runOwn ?_
  have S := S0.gr it.gr
  have F0 := it.offs S0
  have hfD : ∀ {h : Heap} {g₂ : Fz} {acc' : List D} {Γ₂ : Gam}, St fr Γ₂ [acc'] h g₂ [D₀] → (∀ b o, g1 b = some o → g₂ b = some o) → Off fr g₂ [D₀] wr → ∀ b ∈ fp, b ≠ fr.env.locals ∧ b ∉ fr.oc ∧ b ≠ D₀ := fun {h g₂ acc' Γ₂} S2 hg F2 b hb => by
    rcases it.fp b hb with hb | hb
    · obtain ⟨r1, r2, r3, _⟩ := F2.off b hb; exact ⟨r1, r2, by simpa using r3⟩
    · rw [if_pos rfl] at hb
      obtain ⟨o, ho⟩ := Option.ne_none_iff_exists'.mp hb
      have ho2 := hg b o ho
      refine ⟨fun e => ?_, fun hm => ?_, fun e => ?_⟩
      · rw [e, S2.gL] at ho2; cases ho2
      · rw [(S2.ocs b hm).2.1] at ho2; cases ho2
      · have M := S2.muts 0 D₀ _ rfl rfl
        rw [e, M.free] at ho2; cases ho2
  have loop : ∀ {R : Result → Shared → Prop}, (∀ h' g' tk, St fr Γ₁ [acc ++ ys.map F] h' g' [D₀] → R (.ok .next) { s with heap := h', toks := tk }) → codeAny (model c.X.prog c.X.w) (fr.A.mark none) (.compLoop (.ListComp elt [g0, ⟨.Name y py, iter, [], 0⟩] sc pos) 1 (.ref I) (.ref D₀) fr.env) R { s with heap := h1, toks := t1 } := by
    intro R hR
    refine codeAny_loop rfl (fun k s' => ∃ j h₂ g₂ tk, s' = { s with heap := h₂, toks := tk } ∧ St fr Γ₁ [acc ++ (ys.take j).map F] h₂ g₂ [D₀] ∧ Off fr g₂ [D₀] wr ∧ (∀ b o, g1 b = some o → g₂ b = some o) ∧ Sw j h₂ ∧ j ≤ ys.length ∧ k = ys.length + 1 - j) ?_ (ys.length + 1)
      ⟨0, h1, g1, t1, rfl, by simpa using S, F0, fun _ _ e => e, it.st, Nat.zero_le _, rfl⟩
    rintro k s' ⟨j, h₂, g₂, tk, rfl, S2, F2, hg, hst, hjl, rfl⟩
    show wpAny _ fr.A ((compTurn (.ListComp elt [g0, ⟨.Name y py, iter, [], 0⟩] sc pos) 1 (.ref I) (.ref D₀) fr.env).onRaise (fun x => do noteFrame x fr.env; theTreesLotGoes x)) _ _ _
    refine wpAny_noted ?_
    rw [compTurn_in]
    refine wpAny_bind (wpAny_standAt (wpAny_bind ?_))
    by_cases hlt : j < ys.length
    · refine it.wk.item j _ _ _ hlt hst fun v h3 t3 hv hst3 k3 => ?_
      obtain ⟨d, hd, hr⟩ := it.item j v hv
      have hdm : d ∈ ys := List.mem_of_getElem? hd
      have S3 := S2.off F2 k3
      have fpo := hfD S3 hg F2
      dsimp only
      refine wpAny_bind (wpAny_of_eq (ht _ _) (wpAny_bind ?_))
      refine wpAny_mono (E := fun _ _ => False) (wpAny_assign_Name (w_store O S3 hy (.d d v (hr.mono hg)) fun h4 t4 S4 k4 => ?_)) (fun _ _ q => q) fun _ _ q => q.elim
      have hst4 : Sw (j + 1) h4 := it.wk.frame _ _ _ hst3 fun b hb o e => k4 b o (fpo b hb).1 (fpo b hb).2.1 e
      refine wpAny_bind (wpAny_bind (wpAny_mono (E := fun _ _ => False) (he d hdm _ fr _ g₂ [D₀] O S4 _ fun r h5 g5 t5 k5 r5 => ?_) (fun _ _ q => q) fun _ _ q => q.elim))
      have S5 := S4.gr k5
      obtain ⟨⟨vs, n, ho, hvs⟩, _⟩ := S5.muts 0 D₀ _ rfl rfl
      have hvl := hvs.length
      refine wpAny_bind (wpAny_list_append_plain (items := vs.toArray) ⟨n, ho⟩ (fun h6 hl6 hs6 => ?_) (by
        rw [List.size_toArray, hvl, sizeLine_lit, List.length_append, List.length_map, List.length_take]; omega))
      obtain ⟨n6, ho6⟩ := hl6
      have ho6' : h6.get? D₀ = some (lstO (vs ++ [r]) n6) := by rw [ho6]; simp
      have S6 := S5.setMut (i := 0) rfl hs6 ho6' (hvs.append (.cons r5 .nil))
      refine wpAny_pure (wpAny_pure ⟨rfl, _, by omega, j + 1, h6, g5, t5, rfl, ?_, ?_, fun b o e => k5.gk _ _ (hg b o e), ?_, hlt, rfl⟩)
      · have e1 : (ys.take (j + 1)).map F = (ys.take j).map F ++ [F d] := by
          rw [List.take_add_one, hd]; simp
        rw [e1, ← List.append_assoc]
        exact S6.weak fun p hp => List.Mem.tail _ (List.mem_filter.mpr ⟨hp, by simpa using hn p hp⟩)
      · refine ⟨fun b hb => ?_⟩
        obtain ⟨r1, r2, r3, r4, r5⟩ := F2.off b hb
        obtain ⟨o, ho⟩ := Option.ne_none_iff_exists'.mp (it.wl _ _ hst4 b hb)
        exact ⟨r1, r2, r3, k5.none r4 ho, r5⟩
      · exact it.wk.frame _ _ _ hst4 fun b hb o e => (hs6.2 b (fpo b hb).2.2).trans (k5.hk _ _ e)
    · have hin : j = ys.length := by omega
      subst hin
      refine it.wk.done _ _ _ hst fun h3 t3 k3 => wpAny_pure ?_
      rw [List.take_length] at S2
      exact hR h3 g₂ t3 (S2.off F2 k3)
  have goal := loop (R := fun r s' => match r with | .ok _ => W c fr K Q s' | .error e => cameBackBy (model c.X.prog c.X.w) fr.A fr.env (fun _ _ => False) e s') fun h' g' tk S' => hQ h' g' tk S'
  exact start_in goal (it.wk.self 0 _ _ _ it.st goal)

/-- two generators -/
theorem w_comp2 {fr : Frm} {s₀ s : Shared} {g₀ g : Fz} {am : List Addr} {elt iter iter2 : Expr} {x y : Str} {px py pos : Pos} {sc : Scope} {xs : List D} {ys : D → List D} {F : D → D → D} {Γ' : Gam} {It : Addr} {fp wr : List Addr} {Pw : Nat → Value → Prop} {Sw : Nat → Heap → Prop}
    {RR : Value → Addr → Result → Shared → Prop} (O : Okf c fr) (S0 : St fr Γ Δ s₀.heap g₀ am) (it : ItAt c fr false xs s₀.heap g₀ s.heap g It fp wr Pw Sw) (C : CScope c sc) (hx : Sto (cOf c sc) x) (hy : Sto (cOf c sc) y) (hxy : x ≠ y) (hsz : ∀ i, ((xs.take i).flatMap ys).length ≤ 100000)
    (hΓ : ∀ p ∈ Γ', p ∈ Γ ∧ (p.1, NameKind.free) ∈ sc.names ∧ ∃ d, p.2 = .d d)
    (hi2 : ∀ d ∈ xs, ∀ Δ', EvI true (cOf c sc) (upd Γ' x (.d d)) Δ' iter2 (ys d)) (he : ∀ d ∈ xs, ∀ e ∈ ys d, ∀ Δ', EvF (cOf c sc) (upd (upd Γ' x (.d d)) y (.d e)) Δ' elt (F d e))
    (hs2 : ∀ env x, foldedSetIterable iter2 env x = pure x)
    (hRR : ∀ D C h' g' tk m, s₀.heap.get? C = none → g' C = none → h'.Ns C m → Gr s₀.heap g₀ h' g' → Rep g' (.list (xs.flatMap fun d => (ys d).map (F d))) (.ref D) → D ≠ C → RR (.ref D) C (.ok .next) { s with heap := h', toks := tk }) :
    W c fr (newList []) (fun acc s₃ => W c fr (newFunctionEnv sc fr.env.globals (clos fr.env sc.names []) [] fr.env.qual none .none (some fr.env)) (fun cenv s₄ =>
      codeAny (model c.X.prog c.X.w) fr.A (.compStart (.ListComp elt [⟨.Name x px, iter, [], 0⟩, ⟨.Name y py, iter2, [], 0⟩] sc pos) 0 (.ref It) acc { cenv with scope := relabel sc fr.env }) (RR acc cenv.locals) s₄) s₃) s := by
  have S := S0.gr it.gr
  have F0 := it.offs S0
  refine wpAny_newList ?_
  refine w_newEnv C.kind fun h₄ k4 hn hcl hap => ?_
  dsimp only at k4 hn hcl ⊢
  generalize hH1 : s.heap.push (lstO [] 0) = H1 at k4 hn hcl hap ⊢
  have hsize : H1.objs.size = s.heap.objs.size + 1 := by rw [← hH1, Heap.size_push]
  have kpush : ∀ b o, s.heap.get? b = some o → H1.get? b = some o := fun b o e => by rw [← hH1]; exact Heap.get?_push_of_some _ e
  have hD1 : H1.get? s.heap.objs.size = some (lstO [] 0) := by rw [← hH1]; exact Heap.get?_push_size _ rfl
  obtain ⟨O', S'⟩ := comp_frame (h₄ := h₄) (L' := H1.objs.size) O S F0 C (by rw [hsize]; exact Nat.lt_succ_self _) hΓ (fun b o e => k4 b o (kpush b o e)) hn hcl hap
  let fr' := frC fr s.heap g wr sc H1.objs.size
  have hDfresh : s.heap.get? s.heap.objs.size = none := fresh_size
  have hLfresh : s.heap.get? H1.objs.size = none := by
    cases q : s.heap.get? H1.objs.size with
    | none => rfl
    | some o => have : H1.objs.size < s.heap.objs.size := Heap.lt_size q
                rw [hsize] at this; exact absurd this (by omega)
  have hDL : s.heap.objs.size ≠ H1.objs.size := by rw [hsize]; exact Nat.ne_of_lt (Nat.lt_succ_self _)
  have hocD : ∀ a ∈ fr'.oc, s.heap.get? a = none ∧ s.heap.objs.size ≠ a := fun a ha => by
    obtain ⟨q, hq, rfl⟩ := List.mem_map.mp ha
    have h2 := (hcl q.1 q.2 hq).2
    refine ⟨?_, ?_⟩
    · cases q' : s.heap.get? q.2 with
      | none => rfl
      | some o => have : q.2 < s.heap.objs.size := Heap.lt_size q'
                  rw [hsize] at h2
                  exact absurd (Nat.lt_trans h2 this) (by omega)
    · rw [hsize] at h2; intro e; rw [← e] at h2; exact absurd h2 (by omega)
  have wrE : ∀ b ∈ wr, s.heap.get? b ≠ none := it.wl 0 _ it.st
  have fpE : ∀ b ∈ fp, s.heap.get? b ≠ none := fun b hb => (it.fp b hb).elim (wrE b) fun e => by simpa using e
  have hDwr : s.heap.objs.size ∉ wr := fun hm => wrE _ hm hDfresh
  have hDfp : s.heap.objs.size ∉ fp := fun hm => fpE _ hm hDfresh
  have hDh : (hideAll s.heap wr).get? s.heap.objs.size = none := none_of_keep (fun b o e => of_hideAll _ e) hDfresh
  have fpo : ∀ b ∈ fp, b ≠ fr'.env.locals ∧ b ∉ fr'.oc ∧ b ≠ s.heap.objs.size := fun b hb =>
    ⟨fun e => fpE b hb (by rw [show b = H1.objs.size from e]; exact hLfresh), fun hm => fpE b hb (hocD b hm).1, fun e => hDfp (e ▸ hb)⟩
  have S'' : St fr' Γ' [[]] h₄ g [s.heap.objs.size] := S'.addMut' ⟨hDh, hDL, fun hm => (hocD _ hm).2 rfl, by simp⟩ (none_of_sub S.sub hDfresh) (k4 _ _ hD1) .nil
  have offW : Off fr' g [s.heap.objs.size] wr := ⟨fun b hb => ⟨fun e => wrE b hb (by rw [show b = H1.objs.size from e]; exact hLfresh), fun hm => wrE b hb (hocD b hm).1, fun hm => hDwr ((List.mem_singleton.mp hm) ▸ hb), it.free b hb, hideAll_none _ hb⟩⟩
  have loop : codeAny (model c.X.prog c.X.w) fr.A (.compLoop (.ListComp elt [⟨.Name x px, iter, [], 0⟩, ⟨.Name y py, iter2, [], 0⟩] sc pos) 0 (.ref It) (.ref s.heap.objs.size) fr'.env) (RR (.ref s.heap.objs.size) H1.objs.size) { s with heap := h₄ } := by
    refine codeAny_loop rfl (fun k s' => ∃ i h₁ g₁ tk, s' = { s with heap := h₁, toks := tk } ∧ St fr' Γ' [(xs.take i).flatMap fun d => (ys d).map (F d)] h₁ g₁ [s.heap.objs.size] ∧ Off fr' g₁ [s.heap.objs.size] wr ∧ Sw i h₁ ∧ i ≤ xs.length ∧ k = xs.length + 1 - i) ?_ (xs.length + 1)
      ⟨0, h₄, g, s.toks, rfl, S'', offW, it.wk.frame _ _ _ it.st (fun b hb o e => k4 _ _ (kpush _ _ e)), Nat.zero_le _, rfl⟩
    rintro k s' ⟨i, h₁, g₁, tk, rfl, S1, F1, hst, hil, rfl⟩
    show wpAny _ fr.A ((compTurn (.ListComp elt [⟨.Name x px, iter, [], 0⟩, ⟨.Name y py, iter2, [], 0⟩] sc pos) 0 (.ref It) (.ref s.heap.objs.size) fr'.env).onRaise (fun x => do noteFrame x fr'.env; theTreesLotGoes x)) _ _ _
    refine wpAny_noted ?_
    rw [compTurn_out]
    refine wpAny_bind (wpAny_standAt (wpAny_bind ?_))
    by_cases hlt : i < xs.length
    · refine it.wk.item i _ _ _ hlt hst fun v h3 t3 hv hst3 k3 => ?_
      obtain ⟨d, hd, hr⟩ := it.item i v hv
      have hdm : d ∈ xs := List.mem_of_getElem? hd
      have S3 := S1.off F1 k3
      dsimp only
      refine wpAny_bind (wpAny_of_eq (a := ()) rfl (wpAny_bind ?_))
      refine wpAny_mono (E := fun _ _ => False) (wpAny_assign_Name (w_store O' S3 hx (.d d v (hr.mono S1.gsub)) fun h4 t4 S4 k4' => ?_)) (fun _ _ q => q) fun _ _ q => q.elim
      have hst4 : Sw (i + 1) h4 := it.wk.frame _ _ _ hst3 fun b hb o e => k4' b o (fpo b hb).1 (fpo b hb).2.1 e
      have e1 : ∀ (G : D → List D), (xs.take (i + 1)).flatMap G = (xs.take i).flatMap G ++ G d := fun G => by
        rw [List.take_add_one, hd]; simp
      have hlen : ((xs.take i).flatMap fun d => (ys d).map (F d)).length + (ys d).length ≤ 100000 := by
        have h0 := hsz (i + 1)
        rw [e1, List.length_append] at h0
        have : ((xs.take i).flatMap fun d => (ys d).map (F d)).length = ((xs.take i).flatMap ys).length := by simp [List.length_flatMap, Function.comp_def]
        omega
      have inR : ∀ b o, b ∈ fp → h4.get? b = some o → (reb fr' h4 g₁ [s.heap.objs.size]).h₀.get? b = some o := fun b o hb e => by
        refine hideAll_get _ e fun hm => ?_
        obtain ⟨r1, r2, r3⟩ := fpo b hb
        rcases List.mem_cons.mp hm with q | hm
        · exact r1 q
        · rcases List.mem_append.mp hm with hm | hm
          · exact r2 hm
          · exact r3 (List.mem_singleton.mp hm)
      refine wpAny_mono (E := fun _ _ => False) (w_inner (K := again (.compLoop (.ListComp elt [⟨.Name x px, iter, [], 0⟩, ⟨.Name y py, iter2, [], 0⟩] sc pos) 0 (.ref It) (.ref s.heap.objs.size) fr'.env)) (F := F d) (g0 := ⟨.Name x px, iter, [], 0⟩) (py := py) (pos := pos) (sc := sc) (s := { s with heap := h4, toks := t4 }) (O'.reb S4) S4.reb (hi2 d hdm _) hy (fun p hp => by
        rcases upd_cases hp with rfl | ⟨h1, _⟩
        · exact hxy
        · exact sto_not_free C hy (hΓ p h1).2.1) hlen (fun e hem acc' => he d hdm e hem _)
        (Q := fun fin s' => match fin with | .done f => RR (.ref s.heap.objs.size) H1.objs.size (.ok f) s' | .again c' => c' = .compLoop (.ListComp elt [⟨.Name x px, iter, [], 0⟩, ⟨.Name y py, iter2, [], 0⟩] sc pos) 0 (.ref It) (.ref s.heap.objs.size) fr'.env ∧ ∃ m, m < xs.length + 1 - i ∧ ∃ i h₁ g₁ tk, s' = { s with heap := h₁, toks := tk } ∧ St fr' Γ' [(xs.take i).flatMap fun d => (ys d).map (F d)] h₁ g₁ [s.heap.objs.size] ∧ Off fr' g₁ [s.heap.objs.size] wr ∧ Sw i h₁ ∧ i ≤ xs.length ∧ m = xs.length + 1 - i) (fun h5 g5 t5 S5 => by
          have S5' := S4.unreb S5
          have kept : ∀ b o, b ∈ fp → h4.get? b = some o → h5.get? b = some o := fun b o hb e => S5.keep b o (inR b o hb e)
          refine wpAny_pure ⟨rfl, _, by omega, i + 1, h5, g5, t5, rfl, ?_, ⟨fun b hb => ?_⟩, it.wk.frame _ _ _ hst4 fun b hb o e => kept b o hb e, hlt, rfl⟩
          · rw [e1]
            exact S5'.weak fun p hp => List.Mem.tail _ (List.mem_filter.mpr ⟨hp, by simpa using sto_not_free C hx (hΓ p hp).2.1⟩)
          · obtain ⟨r1, r2, r3, r4, r5⟩ := F1.off b hb
            obtain ⟨o, ho⟩ := Option.ne_none_iff_exists'.mp (it.wl _ _ hst4 b hb)
            have hin := inR b o (it.wk.sub b hb) ho
            refine ⟨r1, r2, r3, ?_, r5⟩
            cases q : g5 b with
            | none => rfl
            | some o' =>
              rcases S5.own b o' q with e | e
              · have e' : g₁ b = some o' := e
                rw [r4] at e'; cases e'
              · rw [hin] at e; cases e) hs2) (fun _ _ q => q) fun _ _ q => q.elim
    · have hin : i = xs.length := by omega
      subst hin
      refine it.wk.done _ _ _ hst fun h3 t3 k3 => wpAny_pure ?_
      have S3 := S1.off F1 k3
      rw [List.take_length] at S3
      have up0 : ∀ b o, s₀.heap.get? b = some o → (hideAll s.heap wr).get? b = some o := fun b o e => hideAll_get _ (it.gr.hk b o e) fun hm => by rw [it.new b hm] at e; cases e
      obtain ⟨⟨vs, n, hD3, hR⟩, _, _, hfD⟩ := S3.muts 0 s.heap.objs.size _ rfl rfl
      obtain ⟨m3, hn3, _⟩ := S3.loc
      refine hRR _ _ h3 (g₁.add s.heap.objs.size (lstO vs n)) t3 m3 (none_of_keep it.gr.hk hLfresh) ?_ hn3 ⟨fun b o e => S3.keep b o (up0 b o e), fun b o e => Fz.add_keep hfD _ _ (S3.gsub b o (it.gr.gk b o e)), fun b o e => ?_, fun b o e => ?_⟩ (.list _ _ vs n (Fz.add_self _ _ _) (hR.mono (Fz.add_keep hfD))) hDL
      · unfold Fz.add; rw [if_neg (Ne.symm hDL)]; exact S3.gL
      · unfold Fz.add at e
        by_cases hb : b = s.heap.objs.size
        · rw [if_pos hb] at e; cases e; rw [hb]; exact hD3
        · rw [if_neg hb] at e; exact S3.sub b o e
      · unfold Fz.add at e
        by_cases hb : b = s.heap.objs.size
        · rw [hb]; exact .inr (none_of_keep it.gr.hk hDfresh)
        · rw [if_neg hb] at e
          rcases S3.own b o e with q | q
          · exact it.gr.own b o q
          · exact .inr (none_of_keep up0 q)
  refine codeAny_compStart_list loop (it.wk.self 0 _ _ _ ?_ loop)
  exact it.wk.frame _ _ _ it.st fun b hb o e => k4 _ _ (kpush _ _ e)
theorem ev_comp2 {elt iter iter2 : Expr} {x y : Str} {px py pos : Pos} {sc : Scope} {xs : List D} {ys : D → List D} {F : D → D → D} {Γ' : Gam} (hi : EvI false c Γ Δ iter xs) (C : CScope c sc) (hx : Sto (cOf c sc) x) (hy : Sto (cOf c sc) y) (hxy : x ≠ y) (hsz : ∀ i, ((xs.take i).flatMap ys).length ≤ 100000)
    (hΓ : ∀ p ∈ Γ', p ∈ Γ ∧ (p.1, NameKind.free) ∈ sc.names ∧ ∃ d, p.2 = .d d)
    (hi2 : ∀ d ∈ xs, ∀ Δ', EvI true (cOf c sc) (upd Γ' x (.d d)) Δ' iter2 (ys d)) (he : ∀ d ∈ xs, ∀ e ∈ ys d, ∀ Δ', EvF (cOf c sc) (upd (upd Γ' x (.d d)) y (.d e)) Δ' elt (F d e))
    (hs : ∀ env x, foldedSetIterable iter env x = pure x := by intro _ _; rfl) (hs2 : ∀ env x, foldedSetIterable iter2 env x = pure x := by intro _ _; rfl) :
    EvF c Γ Δ (.ListComp elt [⟨.Name x px, iter, [], 0⟩, ⟨.Name y py, iter2, [], 0⟩] sc pos) (.list (xs.flatMap fun d => (ys d).map (F d))) := fun fr s g am O S Q hQ => by
  rw [eval_ListComp]
  refine wpAny_comprehension_free (use := none) rfl (hs _) (closureFor_clos (O.closed C)) C.kind C.hnames (hi fr s g am O S _ fun It fp wr Pw Sw h1 g1 t1 it => ?_)
  refine w_comp2 O S it C hx hy hxy hsz hΓ hi2 he hs2 (RR := fun acc C => compPost _ _ _ none Q acc C) fun D C h' g' tk m hC hgC hn k r hDC => ?_
  exact ⟨m, hn, fun h'' hs => hQ _ h'' g' tk (gr_other k hs hC hgC) r⟩

theorem comp_fn2 {α β γ : Type} (enc : α → D) (encb : β → D) (encc : γ → D) (ha : Inj enc) (hb : Inj encb) (m : α → List β) (F : α → β → γ) : ∃ (ys : D → List D) (F' : D → D → D), ∀ a, ys (enc a) = (m a).map encb ∧ ∀ b, F' (enc a) (encb b) = encc (F a b) := by
  classical
  refine ⟨fun d => if h : ∃ a, enc a = d then (m h.choose).map encb else [], fun d e => if h : ∃ a, enc a = d then (if h' : ∃ b, encb b = e then encc (F h.choose h'.choose) else d) else d, fun a => ?_⟩
  have h : ∃ b, enc b = enc a := ⟨a, rfl⟩
  have e : h.choose = a := ha _ _ h.choose_spec
  refine ⟨by simp only [dif_pos h]; rw [e], fun b => ?_⟩
  have h' : ∃ b', encb b' = encb b := ⟨b, rfl⟩
  have e' : h'.choose = b := hb _ _ h'.choose_spec
  simp only [dif_pos h, dif_pos h']
  rw [e, e']
theorem comp_eq2 {α β γ : Type} {enc : α → D} {encb : β → D} {encc : γ → D} {m : α → List β} {F : α → β → γ} {ys : D → List D} {F' : D → D → D} (h : ∀ a, ys (enc a) = (m a).map encb ∧ ∀ b, F' (enc a) (encb b) = encc (F a b)) :
    ∀ l : List α, ((l.map enc).flatMap fun d => (ys d).map (F' d)) = (l.flatMap fun a => (m a).map (F a)).map encc
  | [] => rfl
  | a :: r => by
    rw [List.map_cons, List.flatMap_cons, List.flatMap_cons, List.map_append, comp_eq2 h r, (h a).1, List.map_map, List.map_map]
    congr 1
    apply List.map_congr_left
    intro b _
    exact (h a).2 b
theorem ev_comp2L {α β γ : Type} (enc : α → D) (encb : β → D) (encc : γ → D) (ha : Inj enc) (hb : Inj encb) (l : List α) (m : α → List β) (F : α → β → γ) {elt iter iter2 : Expr} {x y : Str} {px py pos : Pos} {sc : Scope} (Γ' : Gam) (hi : EvI false c Γ Δ iter (l.map enc)) (C : CScope c sc) (hx : Sto (cOf c sc) x) (hy : Sto (cOf c sc) y) (hxy : x ≠ y) (hsz : (l.flatMap m).length ≤ 100000)
    (hΓ : ∀ p ∈ Γ', p ∈ Γ ∧ (p.1, NameKind.free) ∈ sc.names ∧ ∃ d, p.2 = .d d)
    (hi2 : ∀ a ∈ l, ∀ Δ', EvI true (cOf c sc) (upd Γ' x (.d (enc a))) Δ' iter2 ((m a).map encb)) (he : ∀ a ∈ l, ∀ b ∈ m a, ∀ Δ', EvF (cOf c sc) (upd (upd Γ' x (.d (enc a))) y (.d (encb b))) Δ' elt (encc (F a b)))
    (hs : ∀ env x, foldedSetIterable iter env x = pure x := by intro _ _; rfl) (hs2 : ∀ env x, foldedSetIterable iter2 env x = pure x := by intro _ _; rfl) :
    EvF c Γ Δ (.ListComp elt [⟨.Name x px, iter, [], 0⟩, ⟨.Name y py, iter2, [], 0⟩] sc pos) (.list ((l.flatMap fun a => (m a).map (F a)).map encc)) := by
  obtain ⟨ys, F', h⟩ := comp_fn2 enc encb encc ha hb m F
  rw [← comp_eq2 h l]
  refine ev_comp2 hi C hx hy hxy (fun i => ?_) hΓ (fun d hd Δ' => ?_) (fun d hd e he' Δ' => ?_) hs hs2
  · have e1 : ((l.map enc).take i).flatMap ys = ((l.take i).flatMap m).map encb := by
      rw [← List.map_take]
      generalize l.take i = l'
      induction l' with
      | nil => rfl
      | cons a r ih => rw [List.map_cons, List.flatMap_cons, List.flatMap_cons, List.map_append, ih, (h a).1]
    rw [e1, List.length_map]
    refine Nat.le_trans ?_ hsz
    have : l = l.take i ++ l.drop i := (List.take_append_drop i l).symm
    have e2 : (l.flatMap m).length = ((l.take i).flatMap m).length + ((l.drop i).flatMap m).length := by
      conv => lhs; rw [this, List.flatMap_append, List.length_append]
    omega
  · obtain ⟨a, ha', rfl⟩ := List.mem_map.mp hd
    rw [(h a).1]; exact hi2 a ha' Δ'
  · obtain ⟨a, ha', rfl⟩ := List.mem_map.mp hd
    rw [(h a).1] at he'
    obtain ⟨b, hb', rfl⟩ := List.mem_map.mp he'
    rw [(h a).2]; exact he a ha' b hb' Δ'
end
end Mine

set_option maxRecDepth 100000
set_option autoImplicit false
set_option linter.unusedVariables false
set_option maxHeartbeats 1000000
namespace Mine
open PySem PySem.W PySem.Calls PyProof.Rows
section
variable {prog : Program} {w : World} {A : Around} {E : Value → Shared → Prop} {s : Shared}

/-- a fresh IndexError -/
def RaisedAt (h h' : Heap) (e : Addr) (c : Value) : Prop := (∀ b o, h.get? b = some o → h'.get? b = some o) ∧ h.get? e = none ∧ ∃ ob vs, h'.get? e = some ob ∧ ob.cls = .type "IndexError" ∧ ob.data = .fields vs ∧ vs.size = 6 ∧ vs[1]? = some .none ∧ vs[2]? = some c
/-- what is being handled -/
def Hand (A : Around) (h : Heap) : Prop := A.handled = none ∨ ∃ e1 o1 vs1, A.handled = some (.ref e1) ∧ h.get? e1 = some o1 ∧ o1.data = .fields vs1 ∧ vs1[2]? = some .none

theorem Heap.NewExc.raised {h h' : Heap} {e : Addr} (x : Heap.NewExc h h' e "IndexError") : RaisedAt h h' e .none := by
  obtain ⟨ob, t, h1, h2, h3⟩ := x.there
  exact ⟨x.keeps, x.new, ob, _, h1, h2, h3, rfl, rfl, rfl⟩

theorem raise_in {α : Type} {msg : String} {Q : α → Shared → Prop} {e1 : Addr} {o1 : Obj} {vs1 : Array Value} (hh : A.handled = some (.ref e1)) (h1 : s.heap.get? e1 = some o1) (hd1 : o1.data = .fields vs1) (h2 : vs1[2]? = some .none)
    (h : ∀ h' tk e c, RaisedAt s.heap h' e c → E (.ref e) { s with heap := h', toks := tk }) : wpAny (model prog w) A (raiseErrorWords "IndexError" msg : Sem α) Q E s := by
  unfold raiseErrorWords
  refine wpAny_bind (wpAny_mkText (wpAny_bind ?_))
  unfold newExc newTuple
  refine wpAny_bind (wpAny_newObj_type ?_)
  refine wpAny_bind (m := firstArgMember _ _) (wpAny_of_eq (a := Value.none) (by simp only [firstArgMember, plainExc_IndexError.first]; rfl) ?_)
  rw [plainExc_IndexError.own]
  refine wpAny_newObj_type ?_
  unfold raiseNew
  refine wpAny_bind (wpAny_handled ?_)
  rw [hh]
  dsimp only
  generalize hH1 : s.heap.push { cls := .type "tuple", data := .seq #[Value.str (Str.ofString msg) s.toks] } = H1
  have k1 : ∀ b o, s.heap.get? b = some o → H1.get? b = some o := fun b o q => by rw [← hH1]; exact Heap.get?_push_of_some _ q
  have hlt : e1 < H1.objs.size := Heap.lt_size (k1 _ _ h1)
  have hne : (Value.ref e1 != Value.ref H1.objs.size) = true := by
    have : e1 ≠ H1.objs.size := Nat.ne_of_lt hlt
    simpa using this
  rw [if_pos hne]
  generalize ho : ({ cls := .type "IndexError", data := .fields (#[Value.ref s.heap.objs.size, .none, .none, .none, .bool false, .none] ++ #[]) } : Obj) = oe
  have k2 : ∀ b o, s.heap.get? b = some o → (H1.push oe).get? b = some o := fun b o q => Heap.get?_push_of_some _ (k1 b o q)
  have hoe : (H1.push oe).get? H1.objs.size = some oe := Heap.get?_push_size _ (by rw [← ho]; rfl)
  have hod : oe.data = .fields #[Value.ref s.heap.objs.size, .none, .none, .none, .bool false, .none] := by rw [← ho]; rfl
  refine wpAny_bind (wpAny_holding (wpAny_runValue (codeAny_builtin (b := Builtin.«proto.unchain») (entryFor_of_tree (by kernel_rfl)) ?_)))
  show wpAny _ _ (field (.ref e1) 2 >>= _) _ _ _
  refine wpAny_bind (wpAny_field (k2 _ _ h1) hd1 h2 ?_)
  rw [if_pos (by decide)]
  refine wpAny_bind (wpAny_pure (wpAny_pure ?_))
  refine wpAny_bind (?_ : wpAny _ _ (setField (.ref H1.objs.size) 2 (.ref e1)) _ _ _)
  refine wpAny_setField hoe hod (by simp) (wpAny_throw ?_)
  have hnew : s.heap.get? H1.objs.size = none := none_of_keep k1 fresh_size
  refine h _ _ _ (.ref e1) ⟨fun b o q => ?_, hnew, ?_⟩
  · rw [Heap.get?_update_other _ _ (fun q' => by rw [← q', hnew] at q; cases q)]; exact k2 b o q
  · have hd3 := Obj.data_mapFields hod (·.setIfInBounds 2 (Value.ref e1))
    refine ⟨_, _, Heap.get?_update_self _ hoe (Obj.isFreed_of_fields hd3), by rw [Obj.cls_mapFields, ← ho], hd3, by simp, by simp, by simp⟩

theorem gi_out {l : Addr} {items : Array Value} {k : Int} {t : Tok} {Q : Value → Shared → Prop} (hA : Hand A s.heap) (hl : s.heap.IsList l items) (hout : (items.size : Int) ≤ k) (hhi : k < 2 ^ 63)
    (hE : ∀ h' tk e c, RaisedAt s.heap h' e c → (A.handled = none → c = .none) → E (.ref e) { s with heap := h', toks := tk }) : wpAny (model prog w) A (getItem (.ref l) (.int k t)) Q E s := by
  rcases hA with hA | ⟨e1, o1, vs1, hA, h1, hd1, h2⟩
  · exact wpAny_getItem_list_out hA hl (.inr hout) (by omega) hhi fun h' tk e x => hE h' tk e _ (Heap.NewExc.raised x) fun _ => rfl
  obtain ⟨o, ho, hc, ne, hd⟩ := id hl
  unfold getItem
  refine wpAny_holding ?_
  refine wpAny_bind (wpAny_sequenceKey hl.typeIs (by decide) ?_)
  refine wpAny_bind (wpAny_callSpecial?_slot (name := Str.ofString "__getitem__") hl.typeIs slot_list_getitem
    (wpAny_call_entry slot_list_getitem hl.typeIs entry_list_getitem ?_ (args_list_getitem _ _)))
  show wpAny _ _ (Builtin.List.listSubscript? (.int k t) >>= _) _ _ s
  refine wpAny_bind (wpAny_listSubscript_int (fitsIndex_both (by omega) hhi) ?_)
  obtain ⟨j, rfl⟩ : ∃ j : Nat, k = (j : Int) := ⟨k.toNat, by omega⟩
  have hx : items[j]? = none := Array.getElem?_eq_none (by omega)
  show wpAny _ _ ((seqItemAt l j >>= fun r => pure (r.map (j, ·))) >>= _) _ _ s
  refine wpAny_bind (wpAny_bind (wpAny_seqItemAt ho hd (wpAny_pure ?_)))
  rw [hx]
  exact wpAny_bind (wpAny_rule (wpAny_bind (raise_in (A := A.in1) hA h1 hd1 h2 fun h' tk e c x => hE h' tk e c x fun q => by rw [q] at hA; cases hA)))
end
/-! the callee's frame and its caller's -/
/-- two frames on the stack -/
structure Two (fr : Frm) (LL : Addr) : Prop where
  st : ∃ envL, fr.A.frames = some [fr.env, envL] ∧ envL.frame = some LL ∧ envL.scope.kind ≠ .module
  f1 : fr.env.frame = some fr.env.locals
  k1 : fr.env.scope.kind ≠ .module
  ne : fr.env.locals ≠ LL
  oc : fr.oc = []
  h0 : fr.h₀.get? LL = none
/-- what is seen of the caller's names -/
structure Seen (LL : Addr) (dL : Data) (h : Heap) : Prop where
  at' : ∃ o, h.get? LL = some o ∧ o.data = dL
  nf : ∀ vs, dL ≠ .fields vs
/-- an exception on its way: noted, its flight fl -/
structure Flies (fr : Frm) (h : Heap) (g : Fz) (e : Addr) (c fl : Value) : Prop where
  ob : ∃ oe vs T oT ts, h.get? e = some oe ∧ oe.cls = .type "IndexError" ∧ oe.data = .fields vs ∧ vs[1]? = some (.ref T) ∧ vs[2]? = some c ∧ T ≠ e ∧ h.get? T = some oT ∧ oT.data = .fields ts ∧ ts[3]? = some fl ∧ g T = none ∧ fr.h₀.get? T = none
  ge : g e = none
  he : fr.h₀.get? e = none
variable {c : Cfg} {Γ : Gam} {Δ : Del}

theorem St.slots {fr : Frm} {h h' : Heap} {g : Fz} {am : List Addr} {LL : Addr} (S : St fr Γ Δ h g am) (F : Two fr LL) (hg : g LL = none) (ham : LL ∉ am) (k : ∀ b, b ∉ [fr.env.locals, LL] → h'.get? b = h.get? b) (ks : ∀ b o, h.get? b = some o → ∃ sl, h'.get? b = some { o with slots := sl }) : St fr Γ Δ h' g am where
  keep := fun b o e => (k b fun hm => by
    rcases List.mem_cons.mp hm with q | hm
    · rw [q, S.hL] at e; cases e
    · rw [List.mem_singleton.mp hm, F.h0] at e; cases e).trans (S.keep b o e)
  sub := fun b o e => (k b fun hm => by
    rcases List.mem_cons.mp hm with q | hm
    · rw [q, S.gL] at e; cases e
    · rw [List.mem_singleton.mp hm, hg] at e; cases e).trans (S.sub b o e)
  gsub := S.gsub
  own := S.own
  gL := S.gL
  hL := S.hL
  loc := by
    obtain ⟨m, hn, hp⟩ := S.loc
    have hn' : h'.Ns fr.env.locals m := by
      obtain ⟨o, es, ep, ho, hd, r⟩ := hn
      obtain ⟨sl, hs⟩ := ks _ o ho
      exact ⟨_, es, ep, hs, hd, r⟩
    refine ⟨m, hn', fun p hm => ?_⟩
    obtain ⟨v, h1, h2⟩ := hp p hm
    refine ⟨v, h1, ?_⟩
    cases h2 with
    | loc h3 h4 => exact .loc h3 h4
    | ocell a h3 h4 h5 h6 => rw [F.oc] at h5; cases h5
    | cell a h3 h4 h6 => exact .cell a h3 h4 h6
  ocs := fun b hb => by rw [F.oc] at hb; cases hb
  len := S.len
  nd := S.nd
  muts := fun i a ds h1 h2 => by
    obtain ⟨⟨vs, n, ho, hr⟩, r1, r2, r3⟩ := S.muts i a ds h1 h2
    refine ⟨⟨vs, n, (k a fun hm => ?_).trans ho, hr⟩, r1, r2, r3⟩
    rcases List.mem_cons.mp hm with q | hm
    · exact r1 q
    · exact ham (List.mem_singleton.mp hm ▸ List.mem_of_getElem? h1)

theorem note_first {prog : Program} {w : World} {E : Value → Shared → Prop} {s : Shared} {fr : Frm} {LL e : Addr} {dL : Data} {g : Fz} {am : List Addr} {oe : Obj} {vs : Array Value} {c2 : Value} {Q : Unit → Shared → Prop} (F : Two fr LL) (S : St fr Γ Δ s.heap g am) (L : Seen LL dL s.heap) (hg : g LL = none) (ham : LL ∉ am)
    (he : s.heap.get? e = some oe) (hcl : oe.cls = .type "IndexError") (hd : oe.data = .fields vs) (hz : vs.size = 6) (h1 : vs[1]? = some .none) (h2 : vs[2]? = some c2) (hge : g e = none) (hhe : fr.h₀.get? e = none)
    (h : ∀ h', St fr Γ Δ h' g am → Seen LL dL h' → Flies fr h' g e c2 (rawInt fr.env.locals) → Q () { s with heap := h' }) : wpAny (model prog w) fr.A (noteFrame (.ref e) fr.env) Q E s := by
  obtain ⟨envL, hfr, f2, k2⟩ := F.st
  obtain ⟨⟨oL, hoL, hdL⟩, hnf⟩ := L
  obtain ⟨m, ⟨oN, es, ep, hoN, hdN, hr⟩, _⟩ := id S.loc
  have hfm : [fr.env, envL].filterMap (·.frame) = [fr.env.locals, LL] := by simp [F.f1, f2]
  have hl : s.heap.FunFrames (hideAll s.heap [fr.env.locals, LL]) [fr.env, envL] :=
    ⟨F.k1, ⟨_, _, F.f1, hideAll_none _ (.head _), hoN, fun vs q => by rw [hdN] at q; cases q⟩, k2, ⟨_, _, f2, hideAll_none _ (.tail _ (.head _)), hoL, fun vs q => hnf vs (hdL ▸ q)⟩, trivial⟩
  have heL : e ≠ fr.env.locals := fun q => by rw [← q, he] at hoN; cases hoN; rw [hd] at hdN; cases hdN
  have heLL : e ≠ LL := fun q => by rw [← q, he] at hoL; cases hoL; exact hnf vs (hdL ▸ hd)
  have heam : e ∉ am := fun hm => by
    obtain ⟨i, hi, q⟩ := List.mem_iff_getElem.mp hm
    obtain ⟨⟨us, n, ho, _⟩, _⟩ := S.muts i e _ (by rw [List.getElem?_eq_getElem hi, q]) (List.getElem?_eq_getElem (S.len ▸ hi))
    rw [he] at ho; cases ho; cases hd
  unfold noteFrame
  simp only [F.f1]
  refine wpAny_bind (wpAny_field he hd h1 ?_)
  rw [if_neg (by decide)]
  refine wpAny_bind (wpAny_frameOf_fun hfr hl F.f1 fun h₁ hs₁ => ?_)
  rw [hfm] at hs₁
  refine wpAny_bind (wpAny_entryPlaceOf fun pl hpl => ?_)
  unfold EntryCells.newEntry newFields
  refine wpAny_bind (wpAny_newObj_type ?_ (hpl.sizeOk5 _ _ _ _ _))
  have S1 : St fr Γ Δ h₁ g am := S.slots F hg ham (fun b hb => hs₁.2.1 b hb) hs₁.2.2
  have he₁ : h₁.get? e = some oe := (hs₁.2.1 e (by simp [heL, heLL])).trans he
  generalize hotb : ({ cls := .type "traceback", dict := none, data := .fields ([Value.none, .ref fr.env.locals, .none, rawInt fr.env.locals, .none] ++ (if pl.isEmpty then List.replicate 6 Value.none else pl)).toArray } : Obj) = otb
  have hotd : otb.data = .fields ([Value.none, .ref fr.env.locals, .none, rawInt fr.env.locals, .none] ++ (if pl.isEmpty then List.replicate 6 Value.none else pl)).toArray := by rw [← hotb]
  have hoN1 : ∃ o, h₁.get? LL = some o ∧ o.data = dL := by
    obtain ⟨sl, hs⟩ := hs₁.2.2 _ _ hoL
    exact ⟨_, hs, hdL⟩
  have kp : ∀ b o, h₁.get? b = some o → (h₁.push otb).get? b = some o := fun b o q => Heap.get?_push_of_some _ q
  have hT : (h₁.push otb).get? h₁.objs.size = some otb := Heap.get?_push_size _ (by rw [← hotb]; rfl)
  have he₂ := kp _ _ he₁
  have hTe : h₁.objs.size ≠ e := Nat.ne_of_gt (Heap.lt_size he₁)
  have S2 := S1.gr (Gr.heap S1.sub kp)
  refine wpAny_setField he₂ hd (by omega) (h _ ?_ ?_ ⟨?_, hge, hhe⟩)
  · exact S2.off (wr := [e]) ⟨fun b hb => by rw [List.mem_singleton.mp hb]; exact ⟨heL, by rw [F.oc]; simp, heam, hge, hhe⟩⟩ fun b o hb q => by
      rw [Heap.get?_update_other _ _ (fun q' => hb (List.mem_singleton.mpr q'.symm))]; exact q
  · obtain ⟨o, ho, hdo⟩ := hoN1
    exact ⟨⟨o, by rw [Heap.get?_update_other _ _ heLL]; exact kp _ _ ho, hdo⟩, hnf⟩
  · have hd3 := Obj.data_mapFields hd (·.setIfInBounds 1 (Value.ref h₁.objs.size))
    refine ⟨_, _, h₁.objs.size, otb, _, Heap.get?_update_self _ he₂ (Obj.isFreed_of_fields hd3), by rw [Obj.cls_mapFields]; exact hcl, hd3, ?_, ?_, hTe, ?_, hotd, ?_, ?_, ?_⟩
    · rw [Array.getElem?_setIfInBounds_self]; rw [if_pos (by omega)]
    · rw [Array.getElem?_setIfInBounds_ne (by decide)]; exact h2
    · rw [Heap.get?_update_other _ _ (Ne.symm hTe)]; exact hT
    · simp
    · exact none_of_sub S1.sub fresh_size
    · exact none_of_keep S1.keep fresh_size

theorem note_again {prog : Program} {w : World} {E : Value → Shared → Prop} {s : Shared} {fr : Frm} {LL e : Addr} {g : Fz} {c2 : Value} {Q : Unit → Shared → Prop} (F : Two fr LL) (X : Flies fr s.heap g e c2 (rawInt fr.env.locals)) (h : Q () s) : wpAny (model prog w) fr.A (noteFrame (.ref e) fr.env) Q E s := by
  obtain ⟨oe, vs, T, oT, ts, he, hcl, hd, h1, h2, hTe, hT, hdT, h3, _⟩ := X.ob
  unfold noteFrame
  simp only [F.f1]
  refine wpAny_bind (wpAny_field he hd h1 ?_)
  rw [if_pos (show (Value.ref T != Value.none) = true from by simp)]
  refine wpAny_bind (wpAny_field hT hdT h3 ?_)
  rw [if_pos (show (rawInt fr.env.locals == rawInt fr.env.locals) = true from by simp)]
  exact wpAny_pure h

theorem set_flight {prog : Program} {w : World} {A : Around} {E : Value → Shared → Prop} {s : Shared} {fr : Frm} {LL e : Addr} {dL : Data} {g : Fz} {am : List Addr} {c2 fl : Value} {x : Option Addr} {Q : Unit → Shared → Prop} (F : Two fr LL) (S : St fr Γ Δ s.heap g am) (L : Seen LL dL s.heap) (X : Flies fr s.heap g e c2 fl)
    (h : ∀ h', St fr Γ Δ h' g am → Seen LL dL h' → Flies fr h' g e c2 (x.elim .none fun f => rawInt f) → Q () { s with heap := h' }) : wpAny (model prog w) A (setFlight (.ref e) x) Q E s := by
  obtain ⟨oe, vs, T, oT, ts, he, hcl, hd, h1, h2, hTe, hT, hdT, h3, hgT, hhT⟩ := X.ob
  obtain ⟨⟨oL, hoL, hdL⟩, hnf⟩ := L
  obtain ⟨m, ⟨oN, es, ep, hoN, hdN, hr⟩, _⟩ := id S.loc
  have hTL : T ≠ fr.env.locals := fun q => by rw [← q, hT] at hoN; cases hoN; rw [hdT] at hdN; cases hdN
  have hTLL : T ≠ LL := fun q => by rw [← q, hT] at hoL; cases hoL; exact hnf ts (hdL ▸ hdT)
  have hTam : T ∉ am := fun hm => by
    obtain ⟨i, hi, q⟩ := List.mem_iff_getElem.mp hm
    obtain ⟨⟨us, n, ho, _⟩, _⟩ := S.muts i T _ (by rw [List.getElem?_eq_getElem hi, q]) (List.getElem?_eq_getElem (S.len ▸ hi))
    rw [hT] at ho; cases ho; cases hdT
  have hlt : 3 < ts.size := (Array.getElem?_eq_some_iff.mp h3).1
  have hd3 := Obj.data_mapFields hdT (·.setIfInBounds 3 (x.elim .none fun f => rawInt f))
  unfold setFlight
  refine wpAny_bind (wpAny_field he hd h1 ?_)
  rw [if_pos (show (Value.ref T != Value.none) = true from by simp)]
  refine wpAny_setField hT hdT hlt (h _ ?_ ?_ ⟨⟨oe, vs, T, _, _, ?_, hcl, hd, h1, h2, hTe, Heap.get?_update_self _ hT (Obj.isFreed_of_fields hd3), hd3, ?_, hgT, hhT⟩, X.ge, X.he⟩)
  · exact S.off (wr := [T]) ⟨fun b hb => by rw [List.mem_singleton.mp hb]; exact ⟨hTL, by rw [F.oc]; simp, hTam, hgT, hhT⟩⟩ fun b o hb q => by
      rw [Heap.get?_update_other _ _ (fun q' => hb (List.mem_singleton.mpr q'.symm))]; exact q
  · exact ⟨⟨oL, by rw [Heap.get?_update_other _ _ hTLL]; exact hoL, hdL⟩, hnf⟩
  · rw [Heap.get?_update_other _ _ hTe]; exact he
  · rw [Array.getElem?_setIfInBounds_self]; rw [if_pos hlt]
end Mine

set_option maxRecDepth 100000
set_option autoImplicit false
set_option linter.unusedVariables false
set_option maxHeartbeats 1000000
namespace Mine
open PySem PySem.W PySem.Calls PyProof.Rows
variable {c : Cfg} {Γ Γ' : Gam} {Δ Δ' : Del}

structure SS (fr : Frm) (LL : Addr) (dL : Data) (Γ : Gam) (Δ : Del) (h : Heap) (g : Fz) (am : List Addr) : Prop where
  S : St fr Γ Δ h g am
  L : Seen LL dL h
  hg : g LL = none
  ham : LL ∉ am

theorem SS.gr {fr : Frm} {LL : Addr} {dL : Data} {h h' : Heap} {g g' : Fz} {am : List Addr} (Z : SS fr LL dL Γ Δ h g am) (k : Gr h g h' g') : SS fr LL dL Γ Δ h' g' am := by
  obtain ⟨⟨o, ho, hd⟩, hnf⟩ := Z.L
  exact ⟨Z.S.gr k, ⟨⟨o, k.hk _ _ ho, hd⟩, hnf⟩, k.none Z.hg ho, Z.ham⟩
theorem SS.weak {fr : Frm} {LL : Addr} {dL : Data} {h : Heap} {g : Fz} {am : List Addr} (Z : SS fr LL dL Γ Δ h g am) (k : ∀ p ∈ Γ', p ∈ Γ) : SS fr LL dL Γ' Δ h g am := ⟨Z.S.weak k, Z.L, Z.hg, Z.ham⟩
/-- with more heap told -/
theorem SS.un {fr : Frm} {LL : Addr} {dL : Data} {h h' : Heap} {g g' : Fz} {am am' : List Addr} (F : Two fr LL) (Z : SS fr LL dL Γ Δ h g am) (S' : St (reb fr h g am) Γ' Δ' h' g' am') : SS fr LL dL Γ' Δ' h' g' am' := by
  obtain ⟨⟨o, ho, hd⟩, hnf⟩ := Z.L
  have hin : (reb fr h g am).h₀.get? LL = some o := hideAll_get _ ho fun hm => by
    rcases List.mem_cons.mp hm with q | hm
    · exact F.ne q.symm
    · rw [F.oc, List.nil_append] at hm; exact Z.ham hm
  refine ⟨Z.S.unreb S', ⟨⟨o, S'.keep _ _ hin, hd⟩, hnf⟩, ?_, fun hm => ?_⟩
  · cases q : g' LL with
    | none => rfl
    | some o' =>
      rcases S'.own _ _ q with e | e
      · have e' : g LL = some o' := e
        rw [Z.hg] at e'; cases e'
      · rw [hin] at e; cases e
  · obtain ⟨j, hj, q⟩ := List.mem_iff_getElem.mp hm
    have M := S'.muts j LL _ (by rw [List.getElem?_eq_getElem hj, q]) (List.getElem?_eq_getElem (S'.len ▸ hj))
    rw [M.new] at hin; cases hin
/-- records stay -/
def Recs (h : Heap) (g : Fz) (h' : Heap) (g' : Fz) : Prop := ∀ b o vs, h.get? b = some o → o.data = .fields vs → h'.get? b = some o ∧ (g b = none → g' b = none)
theorem SS.recs {fr : Frm} {LL : Addr} {dL : Data} {h h' : Heap} {g g' : Fz} {am am' : List Addr} (F : Two fr LL) (Z : SS fr LL dL Γ Δ h g am) (S' : St (reb fr h g am) Γ' Δ' h' g' am') : Recs h g h' g' := fun b o vs ho hd => by
  have hin : (reb fr h g am).h₀.get? b = some o := hideAll_get _ ho fun hm => by
    rcases List.mem_cons.mp hm with q | hm
    · obtain ⟨m, ⟨oN, es, ep, hoN, hdN, _⟩, _⟩ := Z.S.loc
      rw [← q, ho] at hoN; cases hoN; rw [hd] at hdN; cases hdN
    · rw [F.oc, List.nil_append] at hm
      obtain ⟨j, hj, q⟩ := List.mem_iff_getElem.mp hm
      obtain ⟨⟨us, n, ho', _⟩, _⟩ := Z.S.muts j b _ (by rw [List.getElem?_eq_getElem hj, q]) (List.getElem?_eq_getElem (Z.S.len ▸ hj))
      rw [ho] at ho'; cases ho'; cases hd
  refine ⟨S'.keep _ _ hin, fun hg => ?_⟩
  cases q : g' b with
  | none => rfl
  | some o' =>
    rcases S'.own _ _ q with e | e
    · have e' : g b = some o' := e
      rw [hg] at e'; cases e'
    · rw [hin] at e; cases e
/-- a plain statement, a plain block -/
theorem SS.ex1 {fr : Frm} {LL : Addr} {dL : Data} {s : Shared} {g : Fz} {am : List Addr} {st : Stmt} {P : Post} {Q : Flow → Shared → Prop} {E : Value → Shared → Prop} (O : Okf c fr) (F : Two fr LL) (Z : SS fr LL dL Γ Δ s.heap g am) (R : Ex1 c Γ Δ st P)
    (hQ : ∀ o f Γ' Δ' h' g' am' tk, P o Γ' Δ' → Fl g' o f → SS fr LL dL Γ' Δ' h' g' am' → Recs s.heap g h' g' → Q f { s with heap := h', toks := tk }) : wpAny (model c.X.prog c.X.w) fr.A (exec st fr.env) Q E s :=
  wpAny_mono (R (reb fr s.heap g am) s g am (O.reb Z.S) Z.S.reb Q fun o f Γ' Δ' h' g' am' tk hp hf S' => hQ o f Γ' Δ' h' g' am' tk hp hf (Z.un F S') (Z.recs F S')) (fun _ _ q => q) fun _ _ q => q.elim
theorem SS.exs {fr : Frm} {LL : Addr} {dL : Data} {s : Shared} {g : Fz} {am : List Addr} {b : List Stmt} {P : Post} {Q : Flow → Shared → Prop} {E : Value → Shared → Prop} (O : Okf c fr) (F : Two fr LL) (Z : SS fr LL dL Γ Δ s.heap g am) (R : Exs c Γ Δ b P)
    (hQ : ∀ o f Γ' Δ' h' g' am' tk, P o Γ' Δ' → Fl g' o f → SS fr LL dL Γ' Δ' h' g' am' → Recs s.heap g h' g' → Q f { s with heap := h', toks := tk }) : wpAny (model c.X.prog c.X.w) fr.A (execs b fr.env) Q E s :=
  wpAny_mono (R (reb fr s.heap g am) s g am (O.reb Z.S) Z.S.reb Q fun o f Γ' Δ' h' g' am' tk hp hf S' => hQ o f Γ' Δ' h' g' am' tk hp hf (Z.un F S') (Z.recs F S')) (fun _ _ q => q) fun _ _ q => q.elim

theorem Hand.keep {A : Around} {h h' : Heap} (H : Hand A h) (k : ∀ b o, h.get? b = some o → h'.get? b = some o) : Hand A h' := by
  rcases H with H | ⟨e1, o1, vs1, H, h1, r⟩
  · exact .inl H
  · exact .inr ⟨e1, o1, vs1, H, k _ _ h1, r⟩
theorem RaisedAt.back {h h₁ h' : Heap} {e : Addr} {c : Value} (x : RaisedAt h₁ h' e c) (k : ∀ b o, h.get? b = some o → h₁.get? b = some o) : RaisedAt h h' e c := ⟨fun b o q => x.1 b o (k b o q), none_of_keep k x.2.1, x.2.2⟩

/-- xs[i], within or behind the list -/
theorem x_item {fr : Frm} {LL : Addr} {dL : Data} {s : Shared} {g : Fz} {am : List Addr} {xs i : Str} {p q pos : Pos} {ds : List D} {k : Nat} {Q : Value → Shared → Prop} {E : Value → Shared → Prop} (O : Okf c fr) (Z : SS fr LL dL Γ Δ s.heap g am) (hA : Hand fr.A s.heap)
    (hx : Γ.lookup xs = some (.d (.list ds))) (hi : Γ.lookup i = some (.d (.int k))) (hz : k < 100000)
    (hok : ∀ d v h' g' tk, ds[k]? = some d → Gr s.heap g h' g' → Rep g' d v → Q v { s with heap := h', toks := tk }) (hout : ds.length ≤ k → ∀ h' tk e c₂, RaisedAt s.heap h' e c₂ → (fr.A.handled = none → c₂ = .none) → E (.ref e) { s with heap := h', toks := tk })
    (hd1 : (xs == ("__debug__" : Str)) = false := by decide) (hc1 : (xs == ("__classdict__" : Str)) = false := by decide) (hd2 : (i == ("__debug__" : Str)) = false := by decide) (hc2 : (i == ("__classdict__" : Str)) = false := by decide) :
    wpAny (model c.X.prog c.X.w) fr.A (eval (.Subscript (.Name xs p) (.Name i q) pos) fr.env) Q E s := by
  by_cases hk : k < ds.length
  · have R : EvF c Γ Δ (.Subscript (.Name xs p) (.Name i q) pos) ds[k] := ev_item (d := ds[k]) (ev_nm hx hd1 hc1).ev (ev_nm hi hd2 hc2).ev (by omega) (by omega) (by simp [hk])
    exact wpAny_mono (E := fun _ _ => False) (R fr s g am O Z.S Q fun v h' g' tk kk r => hok _ v h' g' tk (by simp [hk]) kk r) (fun _ _ q => q) fun _ _ q => q.elim
  · refine Subscript_ (wpAny_mono (E := fun _ _ => False) ((ev_nm hx hd1 hc1 : EvF c Γ Δ (.Name xs p) (.list ds)) fr s g am O Z.S _ fun v h1 g1 t1 k1 r1 => wpAny_mono (E := fun _ _ => False) ((ev_nm hi hd2 hc2 : EvF c Γ Δ (.Name i q) (.int k)) fr _ g1 am O (Z.S.gr k1) _ fun v2 h2 g2 t2 k2 r2 => ?_) (fun _ _ q => q) fun _ _ q => q.elim) (fun _ _ q => q) fun _ _ q => q.elim)
    obtain ⟨a, vs, n, rfl, ho, hr⟩ := (RepS.fz r1 : RepS h1 g1 _ _).list k1.sub
    obtain ⟨t, rfl⟩ := rint (.fz r2 : RepS h2 g2 _ _)
    have ho2 := k2.hk _ _ ho
    refine tail_any (isList_of ho2).typeIs slot_list_getitem.lookup (gi_out (Hand.keep hA fun b o e => k2.hk _ _ (k1.hk _ _ e)) (isList_of ho2) (by rw [List.size_toArray, hr.length]; omega) (by omega) fun h' tk e c₂ x hc => hout (by omega) h' tk e c₂ (x.back fun b o e => k2.hk _ _ (k1.hk _ _ e)) hc) (by rfl)

theorem came_back {prog : Program} {w : World} {A : Around} {E : Value → Shared → Prop} {s : Shared} {fr : Frm} {LL e : Addr} {dL : Data} {g : Fz} {am : List Addr} {c2 fl : Value} (F : Two fr LL) (Z : SS fr LL dL Γ Δ s.heap g am) (X : Flies fr s.heap g e c2 fl)
    (h : ∀ h', SS fr LL dL Γ Δ h' g am → Flies fr h' g e c2 (rawInt fr.env.locals) → E (.ref e) { s with heap := h' }) : cameBackBy (model prog w) A fr.env E (.ref e) s := by
  obtain ⟨oe, vs, T, oT, ts, he, hcl, hd, h1, h2, hTe, hT, hdT, h3, hgT, hhT⟩ := id X.ob
  unfold cameBackBy
  refine wpAny_bind (wpAny_field he hd h1 ?_)
  rw [if_neg (show ¬ ((Value.ref T == Value.none) = true) from by simp)]
  rw [F.f1]
  exact set_flight F Z.S Z.L X fun h' S' L' X' => h h' ⟨S', L', Z.hg, Z.ham⟩ X'

/-- a raised exception is noted -/
theorem noted_raise {prog : Program} {w : World} {E : Value → Shared → Prop} {s : Shared} {h₁ : Heap} {fr : Frm} {LL e : Addr} {dL : Data} {g : Fz} {am : List Addr} {Q : Unit → Shared → Prop} (F : Two fr LL) (Z : SS fr LL dL Γ Δ h₁ g am) {c2 : Value} (x : RaisedAt h₁ s.heap e c2)
    (h : ∀ h', SS fr LL dL Γ Δ h' g am → Flies fr h' g e c2 (rawInt fr.env.locals) → Q () { s with heap := h' }) : wpAny (model prog w) fr.A (noteFrame (.ref e) fr.env) Q E s := by
  obtain ⟨k, hn, ob, vs, h1, h2, h3, h4, h5, h6⟩ := x
  have Z' := Z.gr (Gr.heap Z.S.sub k)
  exact note_first F Z'.S Z'.L Z'.hg Z'.ham h1 h2 h3 h4 h5 h6 (none_of_sub Z.S.sub hn) (none_of_keep Z.S.keep hn) fun h' S' L' X' => h h' ⟨S', L', Z.hg, Z.ham⟩ X'

/-- while xs[i] == v: .. -/
theorem x_while {fr : Frm} {LL : Addr} {dL : Data} {s : Shared} {g : Fz} {am : List Addr} {xs i v : Str} {p q r pos pos' pos'' : Pos} {ds : List D} {e0 : D} {k : Nat} {body : List Stmt} {Q : Flow → Shared → Prop} {E : Value → Shared → Prop} (O : Okf c fr) (F : Two fr LL) (Z : SS fr LL dL Γ Δ s.heap g am) (hA : Hand fr.A s.heap)
    (hx : Γ.lookup xs = some (.d (.list ds))) (hi : Γ.lookup i = some (.d (.int k))) (hv : Γ.lookup v = some (.d e0)) (hz : k < 100000) (heq : ∀ d, ds[k]? = some d → CmpF c .Eq d e0 false)
    (hnext : k < ds.length → ∀ h' g' tk, Gr s.heap g h' g' → SS fr LL dL Γ Δ h' g' am → Q .next { s with heap := h', toks := tk })
    (hraise : ds.length ≤ k → ∀ h' tk e c2, SS fr LL dL Γ Δ h' g am → Flies fr h' g e c2 (rawInt fr.env.locals) → (fr.A.handled = none → c2 = .none) → E (.ref e) { s with heap := h', toks := tk })
    (hd1 : (xs == ("__debug__" : Str)) = false := by decide) (hc1 : (xs == ("__classdict__" : Str)) = false := by decide) (hd2 : (i == ("__debug__" : Str)) = false := by decide) (hc2 : (i == ("__classdict__" : Str)) = false := by decide) (hd3 : (v == ("__debug__" : Str)) = false := by decide) (hc3 : (v == ("__classdict__" : Str)) = false := by decide) :
    wpAny (model c.X.prog c.X.w) fr.A (exec (.While (.Compare (.Subscript (.Name xs p) (.Name i q) pos) [.Eq] [.Name v r] pos') body [] pos'') fr.env) Q E s := by
  refine wpAny_While (codeAny_whileLoop (fun _ s' => s' = s) ?_ 0 rfl)
  rintro n s' rfl
  refine wpAny_isTrue_Compare1 (x_item O Z hA hx hi hz (fun d va h1 g1 t1 hd k1 r1 => ?_) (fun hl h' tk e c2 x hc => ?_) hd1 hc1 hd2 hc2) (by with_unfolding_all rfl)
  · refine wpAny_mono (E := fun _ _ => False) ((ev_nm hv hd3 hc3 : EvF c Γ Δ (.Name v r) e0) fr _ g1 am O (Z.S.gr k1) _ fun vb h2 g2 t2 k2 r2 => ?_) (fun _ _ q => q) fun _ _ q => q.elim
    refine wpAny_mono (E := fun _ _ => False) (heq d hd fr _ g2 va vb O k2.sub ((Z.S.gr k1).gr k2).keep (.fz (r1.mono k2.gk)) (.fz r2) _ fun h3 t3 k3 => ?_) (fun _ _ q => q) fun _ _ q => q.elim
    refine wpAny_truthy_bool ?_
    simp only [Bool.false_eq_true, if_false]
    refine wpAny_execs_nil (hnext (List.getElem?_eq_some_iff.mp hd).1 h3 g2 t3 ((k1.trans k2).trans (Gr.heap k2.sub k3)) (((Z.gr k1).gr k2).gr (Gr.heap k2.sub k3)))
  · refine noted_raise F Z x fun h2 Z2 X2 => ?_
    exact came_back F Z2 X2 fun h3 Z3 X3 => hraise hl h3 tk e c2 Z3 X3 hc
end Mine

set_option maxRecDepth 100000
set_option autoImplicit false
set_option linter.unusedVariables false
set_option maxHeartbeats 1000000
namespace Mine
open PySem PySem.W PySem.Calls PyProof.Rows
variable {c : Cfg} {Γ Γ' : Gam} {Δ Δ' : Del}

/-- the frame, something being handled -/
def mkd (fr : Frm) (A : Around) : Frm := { fr with A := A }
theorem At.mkd {fr : Frm} {A : Around} {h : Heap} {m : Str → Option Value} {x : Str} {v : Value} (a : At fr h m x v) : At (mkd fr A) h m x v := by
  cases a with
  | loc h1 h2 => exact .loc h1 h2
  | ocell a h1 h2 h3 h4 => exact .ocell a h1 h2 h3 h4
  | cell a h1 h2 h3 => exact .cell a h1 h2 h3
theorem At.unmkd {fr : Frm} {A : Around} {h : Heap} {m : Str → Option Value} {x : Str} {v : Value} (a : At (Mine.mkd fr A) h m x v) : At fr h m x v := by
  cases a with
  | loc h1 h2 => exact .loc h1 h2
  | ocell a h1 h2 h3 h4 => exact .ocell a h1 h2 h3 h4
  | cell a h1 h2 h3 => exact .cell a h1 h2 h3
theorem St.mkd {fr : Frm} {A : Around} {h : Heap} {g : Fz} {am : List Addr} (S : St fr Γ Δ h g am) : St (Mine.mkd fr A) Γ Δ h g am where
  keep := S.keep
  sub := S.sub
  gsub := S.gsub
  own := S.own
  gL := S.gL
  hL := S.hL
  loc := let ⟨m, hn, hp⟩ := S.loc; ⟨m, hn, fun p hm => let ⟨v, h1, h2⟩ := hp p hm; ⟨v, h1, h2.mkd⟩⟩
  ocs := S.ocs
  len := S.len
  nd := S.nd
  muts := fun i a ds h1 h2 => let M := S.muts i a ds h1 h2; ⟨M.lst, M.ne, M.new, M.free⟩
theorem St.unmkd {fr : Frm} {A : Around} {h : Heap} {g : Fz} {am : List Addr} (S : St (Mine.mkd fr A) Γ Δ h g am) : St fr Γ Δ h g am where
  keep := S.keep
  sub := S.sub
  gsub := S.gsub
  own := S.own
  gL := S.gL
  hL := S.hL
  loc := let ⟨m, hn, hp⟩ := S.loc; ⟨m, hn, fun p hm => let ⟨v, h1, h2⟩ := hp p hm; ⟨v, h1, h2.unmkd⟩⟩
  ocs := S.ocs
  len := S.len
  nd := S.nd
  muts := fun i a ds h1 h2 => let M := S.muts i a ds h1 h2; ⟨M.lst, M.ne, M.new, M.free⟩
theorem SS.mkd {fr : Frm} {A : Around} {LL : Addr} {dL : Data} {h : Heap} {g : Fz} {am : List Addr} (Z : SS fr LL dL Γ Δ h g am) : SS (Mine.mkd fr A) LL dL Γ Δ h g am := ⟨Z.S.mkd, Z.L, Z.hg, Z.ham⟩
theorem SS.unmkd {fr : Frm} {A : Around} {LL : Addr} {dL : Data} {h : Heap} {g : Fz} {am : List Addr} (Z : SS (Mine.mkd fr A) LL dL Γ Δ h g am) : SS fr LL dL Γ Δ h g am := ⟨Z.S.unmkd, Z.L, Z.hg, Z.ham⟩
theorem Two.mkd {fr : Frm} {LL : Addr} {v : Value} (F : Two fr LL) : Two (Mine.mkd fr (fr.A.mark (some v))) LL := ⟨F.st, F.f1, F.k1, F.ne, F.oc, F.h0⟩
theorem Flies.unmkd {fr : Frm} {A : Around} {h : Heap} {g : Fz} {e : Addr} {c2 fl : Value} (X : Flies (Mine.mkd fr A) h g e c2 fl) : Flies fr h g e c2 fl := ⟨X.ob, X.ge, X.he⟩
def noh (c : Cfg) : Cfg := { c with hd := false, fl := false }
theorem Okf.mkd {fr : Frm} {v : Value} (O : Okf c fr) : Okf (noh c) (Mine.mkd fr (fr.A.mark (some v))) :=
  ⟨(fun h => nomatch h), (fun h => nomatch h), O.depth, O.units, O.sc, O.kind, O.glob, O.blt, O.glo, O.hck, O.ocn, O.cls, O.ocu⟩
theorem Flies.recs {fr : Frm} {h h' : Heap} {g g' : Fz} {e : Addr} {c2 fl : Value} (X : Flies fr h g e c2 fl) (k : Recs h g h' g') : Flies fr h' g' e c2 fl := by
  obtain ⟨oe, vs, T, oT, ts, he, hcl, hd, h1, h2, hTe, hT, hdT, h3, hgT, hhT⟩ := X.ob
  exact ⟨⟨oe, vs, T, oT, ts, (k _ _ _ he hd).1, hcl, hd, h1, h2, hTe, (k _ _ _ hT hdT).1, hdT, h3, (k _ _ _ hT hdT).2 hgT, hhT⟩, (k _ _ _ he hd).2 X.ge, X.he⟩
theorem Recs.gr {h h' : Heap} {g g' : Fz} (k : Gr h g h' g') : Recs h g h' g' := fun b o vs ho _ => ⟨k.hk _ _ ho, fun hg => k.none hg ho⟩

/-! sorted_list_difference's names -/
def sG (A1 A2 : List D) (i j : Nat) : Gam := [("i", .d (.int i)), ("j", .d (.int j)), ("expected", .d (.list A1)), ("actual", .d (.list A2)), ("missing", .mu 0), ("unexpected", .mu 1)]
def sE (A1 A2 : List D) (i j : Nat) (e a : D) : Gam := ("e", .d e) :: ("a", .d a) :: sG A1 A2 i j

/-- the inner try: while expected[i] == e .. finally j += 1, while actual[j] == a -/
theorem x_finally {fr : Frm} {LL : Addr} {dL : Data} {s : Shared} {g : Fz} {am : List Addr} {A1 A2 : List D} {i j : Nat} {e a : D} {Q : Flow → Shared → Prop} {E : Value → Shared → Prop} {p1 p2 p3 p4 p5 p6 p7 p8 p9 q1 q2 q3 q4 q5 q6 q7 : Pos} {k1 : Nat} {b1 b2 : List Stmt} (O : Okf c fr) (F : Two fr LL) (hh : c.hd = true)
    (Z : SS fr LL dL (sE A1 A2 i j e a) Δ s.heap g am) (hi : i < 50000) (hj : j < 50000) (hsj : c.sc.names.lookup (Str.ofString "j") = some .local)
    (h1 : ∀ d, A1[i]? = some d → ∀ c, CmpF c .Eq d e false) (h2 : ∀ d, A2[j + 1]? = some d → ∀ c, CmpF c .Eq d a false)
    (hnext : i < A1.length → j + 1 < A2.length → ∀ h' g' am' tk, SS fr LL dL (sE A1 A2 i (j + 1) e a) Δ h' g' am' → Q .next { s with heap := h', toks := tk })
    (hraise : A1.length ≤ i ∨ A2.length ≤ j + 1 → ∀ h' g' am' tk x c2, SS fr LL dL (sE A1 A2 i (j + 1) e a) Δ h' g' am' → Flies fr h' g' x c2 (rawInt fr.env.locals) → E (.ref x) { s with heap := h', toks := tk }) :
    wpAny (model c.X.prog c.X.w) fr.A (exec (.Try [.While (.Compare (.Subscript (.Name "expected" p1) (.Name "i" p2) p3) [.Eq] [.Name "e" p4] p5) b1 [] p6] [] []
      [.AugAssign (.Name "j" q1) .Add (.Constant (.int 1) k1 q2) q3, .While (.Compare (.Subscript (.Name "actual" q4) (.Name "j" q5) q6) [.Eq] [.Name "a" q7] p7) b2 [] p8] p9) fr.env) Q E s := by
  have hA : fr.A.handled = none := O.hand hh
  -- the final block, plain
  have plain : i < A1.length → ∀ (s₁ : Shared) g₁, SS fr LL dL (sE A1 A2 i j e a) Δ s₁.heap g₁ am → (∃ h' tk, s₁ = { s with heap := h', toks := tk }) →
      wpAny (model c.X.prog c.X.w) fr.A (execs [.AugAssign (.Name "j" q1) .Add (.Constant (.int 1) k1 q2) q3, .While (.Compare (.Subscript (.Name "actual" q4) (.Name "j" q5) q6) [.Eq] [.Name "a" q7] p7) b2 [] p8] fr.env)
        (fun g s' => match g with | .next => Q .next s' | g => Q g s') (notedBy (model c.X.prog c.X.w) fr.A fr.env (cameBackBy (model c.X.prog c.X.w) fr.A fr.env E)) s₁ := by
    rintro hl s₁ g₁ Z₁ ⟨h₁, t₁, rfl⟩
    refine wpAny_execs_cons (SS.ex1 (P := fun o Γ' Δ' => o = .next ∧ Γ' = upd (sE A1 A2 i j e a) "j" (.d (.int ((j : Int) + 1))) ∧ Δ' = Δ) O F Z₁ (ex_aug (lk rfl) ev_int.ev (.inl hsj) ⟨rfl, rfl, rfl⟩) fun o f Γ' Δ' h' g' am' tk hp hf Z₂ k₂ => ?_)
    obtain ⟨rfl, rfl, rfl⟩ := hp
    cases hf
    have Z₃ : SS fr LL dL (sE A1 A2 i (j + 1) e a) Δ' h' g' am' := Z₂.weak (sub_cons rfl (sub_cons rfl (sub_cons rfl (sub_cons rfl (sub_cons rfl (sub_cons rfl (sub_cons rfl (sub_cons rfl sub_nil))))))))
    refine wpAny_execs_cons (x_while (s := { s with heap := h', toks := tk }) O F Z₃ (.inl hA) rfl rfl rfl (by omega) (fun d hd => h2 d hd c) (fun hl2 h3 g3 t3 _ Z4 => ?_) (fun hl2 h3 t3 x c2 Z4 X4 _ => ?_))
    · exact wpAny_execs_nil (hnext hl hl2 h3 g3 am' t3 Z4)
    · exact note_again F X4 (came_back F Z4 X4 fun h5 Z5 X5 => hraise (.inr hl2) h5 g' am' t3 x c2 Z5 X5)
  refine wpAny_Try_finally (wpAny_execs_cons (x_while O F Z (.inl hA) rfl rfl rfl (by omega) (fun d hd => h1 d hd c) (fun hl h3 g3 t3 _ Z3 => ?_) (fun hl h3 t3 x c2 Z3 X3 hc2 => ?_)))
  · exact wpAny_execs_nil (wpAny_execs_nil (plain hl _ g3 Z3 ⟨h3, t3, rfl⟩))
  · obtain rfl := hc2 hA
    refine note_again F X3 ⟨ref_ne_byPass _, note_again F X3 (set_flight F Z3.S Z3.L X3 fun h4 S4 L4 X4 => ?_)⟩
    -- the final block, x in flight
    have Z4 : SS (mkd fr (fr.A.mark (some (.ref x)))) LL dL (sE A1 A2 i j e a) Δ h4 g am := (SS.mk S4 L4 Z3.hg Z3.ham).mkd
    have O4 := O.mkd (v := .ref x)
    have F4 := F.mkd (v := .ref x)
    refine wpAny_execs_cons (SS.ex1 (s := { s with heap := h4, toks := t3 }) (P := fun o Γ' Δ' => o = .next ∧ Γ' = upd (sE A1 A2 i j e a) "j" (.d (.int ((j : Int) + 1))) ∧ Δ' = Δ) O4 F4 Z4 (ex_aug (lk rfl) ev_int.ev (.inl hsj) ⟨rfl, rfl, rfl⟩) fun o f Γ' Δ' h' g' am' tk hp hf Z₂ k₂ => ?_)
    obtain ⟨rfl, rfl, rfl⟩ := hp
    cases hf
    have Z₃ : SS (mkd fr (fr.A.mark (some (.ref x)))) LL dL (sE A1 A2 i (j + 1) e a) Δ' h' g' am' := Z₂.weak (sub_cons rfl (sub_cons rfl (sub_cons rfl (sub_cons rfl (sub_cons rfl (sub_cons rfl (sub_cons rfl (sub_cons rfl sub_nil))))))))
    have X₃ : Flies fr h' g' x .none _ := X4.recs k₂
    obtain ⟨oe, vs, T, oT, ts, he, hcl, hd, q1, q2, _⟩ := id X₃.ob
    refine wpAny_execs_cons (x_while (c := noh c) (s := { s with heap := h', toks := tk }) O4 F4 Z₃ (.inr ⟨x, oe, vs, rfl, he, hd, q2⟩) rfl rfl rfl (by omega) (fun d hd => h2 d hd _) (fun hl2 h5 g5 t5 k5 Z5 => ?_) (fun hl2 h5 t5 y c5 Z5 X5 _ => ?_))
    · refine wpAny_execs_nil ?_
      have X5 := (X₃.recs (Recs.gr k5)).unmkd
      obtain ⟨oe, vs, T, oT, ts, he, hcl, hd, q1, q2, _⟩ := id X5.ob
      show wpAny _ fr.A (PySem.passOn "try.finally" (.ref x) fr.env) Q E _
      unfold PySem.passOn
      refine wpAny_bind (wpAny_field he hd q1 ?_)
      rw [if_neg (show ¬ ((Value.ref T == Value.none) = true) from by simp)]
      rw [F.f1]
      refine wpAny_bind (set_flight F Z5.unmkd.S Z5.L X5 fun h6 S6 L6 X6 => wpAny_throw ?_)
      exact hraise (.inl hl) h6 g5 am' t5 x .none ⟨S6, L6, Z5.hg, Z5.ham⟩ X6
    · exact note_again F4 X5 (came_back F Z5.unmkd X5.unmkd fun h6 Z6 X6 => hraise (.inr hl2) h6 g' am' t5 y c5 Z6 X6)
end Mine

set_option maxRecDepth 100000
set_option autoImplicit false
set_option linter.unusedVariables false
set_option maxHeartbeats 1000000
namespace Mine
open PySem PySem.W PySem.Calls PyProof.Rows
section
variable {c : Cfg} {Γ : Gam} {Δ : Del} {P : Post}
/-- x.extend(e) -/
theorem ex_extend {x : Str} {p ap pos pos' : Pos} {i : Nat} {ds ds2 : List D} {e : Expr} (hm : (x, V.mu i) ∈ Γ) (hi : Δ[i]? = some ds) (he : EvF c Γ Δ e (.list ds2)) (h : P .next Γ (Δ.set i (ds ++ ds2))) (hz : ds.length + ds2.length ≤ 100000)
    (hl : (ap.endLine == pos.line) = true := by rfl) (hd : (x == ("__debug__" : Str)) = false := by decide) (hc : (x == ("__classdict__" : Str)) = false := by decide)
    (hb : ∀ env, attributeBase (.Name x p) "extend" env (eval (.Name x p) env) = eval (.Name x p) env := by intro _; rfl)
    (ht : ∀ env, backTo pos (starEach [e] env) = [(false, eval e env)] := by intro _; rfl) : Ex1 c Γ Δ (.Expr (.Call (.Attribute (.Name x p) "extend" ap) [e] [] pos) pos') P := fun fr s g am O S Q hQ => by
  refine w_list_meth O S hm F.slot_list_extend F.type_list_extend hl hd hc (hb _) (by rw [ht]; rfl) fun a ha => ?_
  rw [ht]
  refine PySem.P.extend_list (he fr s g am O S _ fun v h1 g1 t1 k1 r1 => ?_)
  have S1 := S.gr k1
  obtain ⟨⟨vs, n, ho, hr⟩, _⟩ := S1.muts i a ds ha hi
  have e1 := hr.length
  obtain ⟨b, us, m, rfl, hb', hr'⟩ := (RepS.fz r1 : RepS h1 g1 _ _).list k1.sub
  have e2 := hr'.length
  refine ⟨b, vs.toArray, us.toArray, n, m, by rw [List.size_toArray, sizeLine_lit]; omega, by rw [List.size_toArray, List.size_toArray, sizeLine_lit]; omega, ?_, rfl, ho, hb', ?_⟩
  · simp only [List.size_toArray, Builtin.List.listTooLong, Bool.and_eq_true, decide_eq_true_eq, sizeLine_lit]
    omega
  · obtain ⟨n', ho', hs'⟩ := upd_list (ws := vs ++ us) ho (fun xs => xs ++ us.toArray) (by simp)
    exact hQ .next .next Γ _ _ g1 am t1 h .next (S1.setMut ha hs' ho' (hr.append hr'))
end

variable {c : Cfg}
structure Ord {α : Type} (enc : α → D) (lt : α → α → Bool) : Prop where
  clt : ∀ c a b, CmpF c .Lt (enc a) (enc b) (lt a b)
  cgt : ∀ c a b, CmpF c .Gt (enc a) (enc b) (lt b a)
  ceq : ∀ c a b, a ≠ b → CmpF c .Eq (enc a) (enc b) false
  irr : ∀ a, lt a a = false
  tr : ∀ a b c, lt a b = true → lt b c = true → lt a c = true
  tot : ∀ a b, lt a b = false → lt b a = false → a = b

section
variable {α : Type} [DecidableEq α] {enc : α → D} {lt : α → α → Bool}
def dif (x y : List α) : List α := x.filter fun a => !y.contains a
theorem dif_nil (x : List α) : dif x [] = x := by simp [dif]
theorem nil_dif (x : List α) : dif ([] : List α) x = [] := rfl
theorem not_mem_lt (R : Ord enc lt) {a b : α} {y : List α} (h : lt a b = true) (hs : (b :: y).Pairwise fun p q => lt p q = true) : a ∉ b :: y := fun hm => by
  rcases List.mem_cons.mp hm with rfl | hm
  · rw [R.irr] at h; cases h
  · have := R.tr a b a h ((List.pairwise_cons.mp hs).1 a hm)
    rw [R.irr] at this; cases this
theorem dif_lt (R : Ord enc lt) {a b : α} {x y : List α} (h : lt a b = true) (hs : (b :: y).Pairwise fun p q => lt p q = true) : dif (a :: x) (b :: y) = a :: dif x (b :: y) ∧ dif (b :: y) (a :: x) = dif (b :: y) x := by
  have hn := not_mem_lt R h hs
  refine ⟨by unfold dif; rw [List.filter_cons]; rw [if_pos (by simpa using hn)], ?_⟩
  unfold dif
  apply List.filter_congr
  intro q hq
  have : q ≠ a := fun e => hn (e ▸ hq)
  simp [this]
theorem dif_eq (R : Ord enc lt) {a : α} {x y : List α} (hx : (a :: x).Pairwise fun p q => lt p q = true) (hy : (a :: y).Pairwise fun p q => lt p q = true) : dif (a :: x) (a :: y) = dif x y := by
  unfold dif
  rw [List.filter_cons, if_neg (by simp)]
  apply List.filter_congr
  intro q hq
  have : q ≠ a := fun e => by have := (List.pairwise_cons.mp hx).1 q hq; rw [e, R.irr] at this; cases this
  simp [this]

/-- the state -/
structure Go (l1 l2 M U p1 r1 p2 r2 mi un : List α) : Prop where
  e1 : l1 = p1 ++ r1
  e2 : l2 = p2 ++ r2
  m : mi ++ dif r1 r2 = M
  u : un ++ dif r2 r1 = U
theorem go_get {l p r : List α} {a : α} (h : l = p ++ a :: r) : (l.map enc)[p.length]? = some (enc a) := by subst h; simp
theorem go_len {l p r : List α} (h : l = p ++ r) : (l.map enc).length = p.length + r.length := by subst h; simp
theorem go_out {l p r : List α} {d : D} (h : l = p ++ r) (hd : (l.map enc)[p.length]? = some d) : ∃ a r', r = a :: r' ∧ d = enc a := by
  cases r with
  | nil => subst h; simp at hd
  | cons a r' => rw [go_get h] at hd; injection hd with hd; exact ⟨a, r', rfl, hd.symm⟩

/-- an IndexError leaves the body -/
def RZ (fr : Frm) (LL : Addr) (dL : Data) (enc : α → D) (l1 l2 M U : List α) (s : Shared) (v : Value) (s' : Shared) : Prop :=
  ∃ x c2 p1 r1 p2 r2 mi un g am h h' tk, v = .ref x ∧ s' = { s with heap := h', toks := tk } ∧ (r1 = [] ∨ r2 = []) ∧ Go l1 l2 M U p1 r1 p2 r2 mi un ∧
    SS fr LL dL (sG (l1.map enc) (l2.map enc) p1.length p2.length) [mi.map enc, un.map enc] h g am ∧ ((h = h' ∧ Flies fr h g x c2 (rawInt fr.env.locals)) ∨ RaisedAt h h' x c2)

theorem SS.store {fr : Frm} {LL : Addr} {dL : Data} {Γ : Gam} {Δ : Del} {s : Shared} {g : Fz} {am : List Addr} {x : Str} {e : V} {v : Value} {Q : Unit → Shared → Prop} {E : Value → Shared → Prop} (O : Okf c fr) (F : Two fr LL) (Z : SS fr LL dL Γ Δ s.heap g am) (hx : Sto c x) (hv : EV g am e v)
    (hQ : ∀ h' tk, SS fr LL dL (upd Γ x e) Δ h' g am → Q () { s with heap := h', toks := tk }) : wpAny (model c.X.prog c.X.w) fr.A (storeName fr.env x v) Q E s :=
  wpAny_mono (E := fun _ _ => False) (w_store O Z.S hx hv fun h2 t2 S2 k2 => by
    obtain ⟨⟨o, ho, hd⟩, hnf⟩ := Z.L
    exact hQ h2 t2 ⟨S2, ⟨⟨o, k2 LL o (Ne.symm F.ne) (by rw [F.oc]; simp) ho, hd⟩, hnf⟩, Z.hg, Z.ham⟩) (fun _ _ q => q) fun _ _ q => q.elim
theorem x_body {fr : Frm} {LL : Addr} {dL : Data} {s : Shared} {g : Fz} {am : List Addr} {l1 l2 M U p1 r1 p2 r2 mi un : List α} (R : Ord enc lt) (O : Okf c fr) (F : Two fr LL) (hh : c.hd = true)
    {q1 q2 q3 q4 q5 q6 q7 q8 q9 q10 : Pos} {tail : List Stmt} {Q : Flow → Shared → Prop} (Z : SS fr LL dL (sG (l1.map enc) (l2.map enc) p1.length p2.length) [mi.map enc, un.map enc] s.heap g am) (G : Go l1 l2 M U p1 r1 p2 r2 mi un)
    (hz1 : l1.length ≤ 1000) (hz2 : l2.length ≤ 1000) (hse : c.sc.names.lookup (Str.ofString "e") = some .local) (hsa : c.sc.names.lookup (Str.ofString "a") = some .local)
    (htail : ∀ a b r1' r2' h' g' tk, r1 = a :: r1' → r2 = b :: r2' → SS fr LL dL (sE (l1.map enc) (l2.map enc) p1.length p2.length (enc a) (enc b)) [mi.map enc, un.map enc] h' g' am →
      wpAny (model c.X.prog c.X.w) fr.A (execs tail fr.env) Q (RZ fr LL dL enc l1 l2 M U s) { s with heap := h', toks := tk }) :
    wpAny (model c.X.prog c.X.w) fr.A (execs (.Assign [.Name "e" q1] (.Subscript (.Name "expected" q2) (.Name "i" q3) q4) q5 :: .Assign [.Name "a" q6] (.Subscript (.Name "actual" q7) (.Name "j" q8) q9) q10 :: tail) fr.env) Q (RZ fr LL dL enc l1 l2 M U s) s := by
  have hA : fr.A.handled = none := O.hand hh
  have b1 : p1.length ≤ 1000 := by have := congrArg List.length G.e1; rw [List.length_append] at this; omega
  have b2 : p2.length ≤ 1000 := by have := congrArg List.length G.e2; rw [List.length_append] at this; omega
  refine wpAny_execs_cons (wpAny_Assign_Name (x_item O Z (.inl hA) rfl rfl (by omega) (fun d v h1 g1 t1 hd k1 r1 => ?_) fun hl h' tk x c2 xr _ => ?_) rfl)
  · obtain ⟨a, r1', rfl, rfl⟩ := go_out G.e1 hd
    refine SS.store (s := { s with heap := h1, toks := t1 }) O F (Z.gr k1) (.inl hse) (.d _ v r1) fun h2 t2 Z2 => ?_
    refine wpAny_execs_cons (wpAny_Assign_Name (x_item (s := { s with heap := h2, toks := t2 }) O Z2 (.inl hA) rfl rfl (by omega) (fun d v h3 g3 t3 hd k3 r3 => ?_) fun hl h' tk x c2 xr _ => ?_) rfl)
    · obtain ⟨b, r2', rfl, rfl⟩ := go_out G.e2 hd
      refine SS.store (s := { s with heap := h3, toks := t3 }) O F (Z2.gr k3) (.inl hsa) (.d _ v r3) fun h4 t4 Z4 => ?_
      exact htail a b r1' r2' h4 g3 t4 rfl rfl (Z4.weak (sub_cons rfl (sub_cons rfl (sub_cons rfl (sub_cons rfl (sub_cons rfl (sub_cons rfl (sub_cons rfl (sub_cons rfl sub_nil)))))))))
    · rw [go_len G.e2] at hl
      have h0 : r2 = [] := List.length_eq_zero_iff.mp (by omega)
      exact ⟨x, c2, p1, _, p2, r2, mi, un, g1, am, h2, h', tk, rfl, rfl, .inr h0, G, Z2.weak (sub_cons rfl (sub_cons rfl (sub_cons rfl (sub_cons rfl (sub_cons rfl (sub_cons rfl sub_nil)))))), .inr xr⟩
  · rw [go_len G.e1] at hl
    have h0 : r1 = [] := List.length_eq_zero_iff.mp (by omega)
    exact ⟨x, c2, p1, r1, p2, r2, mi, un, g, am, s.heap, h', tk, rfl, rfl, .inl h0, G, Z, .inr xr⟩
end
end Mine

set_option maxRecDepth 100000
set_option autoImplicit false
set_option linter.unusedVariables false
set_option linter.unusedSectionVars false
set_option maxHeartbeats 1000000
namespace Mine
open PySem PySem.W PySem.Calls PyProof.Rows
variable {c : Cfg}
section
variable {α : Type} [DecidableEq α] {enc : α → D} {lt : α → α → Bool}
theorem SS.test {fr : Frm} {LL : Addr} {dL : Data} {Γ : Gam} {Δ : Del} {s : Shared} {g : Fz} {am : List Addr} {t : Expr} {x : Bool} {Q : Bool → Shared → Prop} {E : Value → Shared → Prop} (O : Okf c fr) (Z : SS fr LL dL Γ Δ s.heap g am) (h : EvT c Γ Δ t x)
    (hQ : ∀ h' g' tk, SS fr LL dL Γ Δ h' g' am → Q x { s with heap := h', toks := tk }) : wpAny (model c.X.prog c.X.w) fr.A (isTrue t fr.env (eval t fr.env)) Q E s :=
  wpAny_mono (E := fun _ _ => False) (h fr s g am O Z.S Q fun h' g' tk k => hQ h' g' tk (Z.gr k)) (fun _ _ q => q) fun _ _ q => q.elim
theorem pw_suf (l p r : List α) (h : l = p ++ r) (hs : l.Pairwise fun a b => lt a b = true) : r.Pairwise fun a b => lt a b = true := by subst h; exact (List.pairwise_append.mp hs).2.1
theorem pw_ne (R : Ord enc lt) {a a' : α} {r : List α} (h : (a :: a' :: r).Pairwise fun a b => lt a b = true) : a' ≠ a := fun e => by
  have := (List.pairwise_cons.mp h).1 a' (by simp)
  rw [e, R.irr] at this; cases this
theorem go_out1 {l p r : List α} {a : α} {d : D} (h : l = p ++ a :: r) (hd : (l.map enc)[p.length + 1]? = some d) : ∃ a' r', r = a' :: r' ∧ d = enc a' := by
  have h' : l = (p ++ [a]) ++ r := by rw [h]; simp
  have e : (p ++ [a]).length = p.length + 1 := by simp
  exact go_out h' (by rw [e]; exact hd)

/-- Python's body behind the two reads -/
theorem x_less {fr : Frm} {LL : Addr} {dL : Data} {s s0 : Shared} {g : Fz} {am : List Addr} {l1 l2 M U p1 r1 p2 r2 mi un : List α} {a b : α} (R : Ord enc lt) (O : Okf c fr) (F : Two fr LL) (hh : c.hd = true)
    {q1 q2 q3 q4 q5 q6 q7 q8 q9 q10 q11 q12 q13 q14 : Pos} {k1 : Nat} {b1 : List Stmt} {Q : Flow → Shared → Prop} (Z : SS fr LL dL (sE (l1.map enc) (l2.map enc) p1.length p2.length (enc a) (enc b)) [mi.map enc, un.map enc] s.heap g am) (hs : ∃ h tk, s = { s0 with heap := h, toks := tk }) (G : Go l1 l2 M U p1 (a :: r1) p2 (b :: r2) mi un)
    (hab : lt a b = true) (hz1 : l1.length ≤ 1000) (hz2 : l2.length ≤ 1000) (hM : M.length ≤ 1000) (hw1 : l1.Pairwise fun a b => lt a b = true) (hw2 : l2.Pairwise fun a b => lt a b = true) (hsi : c.sc.names.lookup (Str.ofString "i") = some .local)
    (hap : (q1.endLine == q3.line) = true)
    (hQ : ∀ p1' r1' mi' h' g' am' tk, r1'.length < (a :: r1).length → Go l1 l2 M U p1' r1' p2 (b :: r2) mi' un → SS fr LL dL (sG (l1.map enc) (l2.map enc) p1'.length p2.length) [mi'.map enc, un.map enc] h' g' am' → Q .next { s with heap := h', toks := tk }) :
    wpAny (model c.X.prog c.X.w) fr.A (execs [.Expr (.Call (.Attribute (.Name "missing" q2) "append" q1) [.Name "e" q4] [] q3) q5, .AugAssign (.Name "i" q6) .Add (.Constant (.int 1) k1 q7) q8,
      .While (.Compare (.Subscript (.Name "expected" q9) (.Name "i" q10) q11) [.Eq] [.Name "e" q12] q13) b1 [] q14] fr.env) Q (RZ fr LL dL enc l1 l2 M U s0) s := by
  obtain ⟨h0, t0, rfl⟩ := hs
  have hA : fr.A.handled = none := O.hand hh
  have b1 : p1.length ≤ 1000 := by have := congrArg List.length G.e1; rw [List.length_append] at this; omega
  have hml : mi.length ≤ 1000 := by have := congrArg List.length G.m; rw [List.length_append] at this; omega
  refine wpAny_execs_cons (SS.ex1 (P := fun o Γ' Δ' => o = .next ∧ Γ' = sE (l1.map enc) (l2.map enc) p1.length p2.length (enc a) (enc b) ∧ Δ' = [mi.map enc ++ [enc a], un.map enc]) O F Z (ex_append (i := 0) (ds := mi.map enc) (lk rfl) rfl (ev_nm rfl) ⟨rfl, rfl, rfl⟩ (by rw [sizeLine_lit, List.length_map]; omega) hap) fun o f Γ' Δ' h' g' am' tk hp hf Z1 _ => ?_)
  obtain ⟨rfl, rfl, rfl⟩ := hp
  cases hf
  refine wpAny_execs_cons (SS.ex1 (s := { s0 with heap := h', toks := tk }) (P := fun o Γ' Δ' => o = .next ∧ Γ' = upd (sE (l1.map enc) (l2.map enc) p1.length p2.length (enc a) (enc b)) "i" (.d (.int ((p1.length : Int) + 1))) ∧ Δ' = [mi.map enc ++ [enc a], un.map enc]) O F Z1 (ex_aug (lk rfl) ev_int.ev (.inl hsi) ⟨rfl, rfl, rfl⟩) fun o f Γ' Δ' h2 g2 am2 t2 hp hf Z2 _ => ?_)
  obtain ⟨rfl, rfl, rfl⟩ := hp
  cases hf
  have hmi : [mi.map enc ++ [enc a], un.map enc] = [(mi ++ [a]).map enc, un.map enc] := by simp
  rw [hmi] at Z2
  have Z3 : SS fr LL dL (sE (l1.map enc) (l2.map enc) (p1.length + 1) p2.length (enc a) (enc b)) [(mi ++ [a]).map enc, un.map enc] h2 g2 am2 := Z2.weak (sub_cons rfl (sub_cons rfl (sub_cons rfl (sub_cons rfl (sub_cons rfl (sub_cons rfl (sub_cons rfl (sub_cons rfl sub_nil))))))))
  have hpl : (p1 ++ [a]).length = p1.length + 1 := by simp
  have hd := dif_lt (x := r1) R hab (pw_suf _ _ _ G.e2 hw2)
  have G' : Go l1 l2 M U (p1 ++ [a]) r1 p2 (b :: r2) (mi ++ [a]) un := ⟨by rw [G.e1]; simp, G.e2, by rw [← G.m, hd.1]; simp, by rw [← G.u, hd.2]⟩
  have toG : ∀ {h g am}, SS fr LL dL (sE (l1.map enc) (l2.map enc) (p1.length + 1) p2.length (enc a) (enc b)) [(mi ++ [a]).map enc, un.map enc] h g am → SS fr LL dL (sG (l1.map enc) (l2.map enc) (p1 ++ [a]).length p2.length) [(mi ++ [a]).map enc, un.map enc] h g am := fun Z => by
    rw [hpl]; exact Z.weak (sub_cons rfl (sub_cons rfl (sub_cons rfl (sub_cons rfl (sub_cons rfl (sub_cons rfl sub_nil))))))
  refine wpAny_execs_cons (x_while (s := { s0 with heap := h2, toks := t2 }) O F Z3 (.inl hA) rfl rfl rfl (by omega) (fun d hd => ?_) (fun hl h3 g3 t3 _ Z4 => ?_) (fun hl h3 t3 x c2 Z4 X4 _ => ?_))
  · obtain ⟨a', r', rfl, rfl⟩ := go_out1 G.e1 hd
    exact R.ceq c a' a (pw_ne R (pw_suf _ _ _ G.e1 hw1))
  · exact wpAny_execs_nil (hQ _ r1 _ h3 g3 am2 t3 (by simp) G' (toG Z4))
  · have hr : r1 = [] := by
      have := go_len (enc := enc) G.e1
      rw [this] at hl
      simp only [List.length_cons] at hl
      exact List.length_eq_zero_iff.mp (by omega)
    exact ⟨x, c2, _, r1, p2, _, _, un, g2, am2, h3, h3, t3, rfl, rfl, .inl hr, G', toG Z4, .inl ⟨rfl, X4⟩⟩
theorem x_more {fr : Frm} {LL : Addr} {dL : Data} {s s0 : Shared} {g : Fz} {am : List Addr} {l1 l2 M U p1 r1 p2 r2 mi un : List α} {a b : α} (R : Ord enc lt) (O : Okf c fr) (F : Two fr LL) (hh : c.hd = true)
    {q1 q2 q3 q4 q5 q6 q7 q8 q9 q10 q11 q12 q13 q14 : Pos} {k1 : Nat} {b1 : List Stmt} {Q : Flow → Shared → Prop} (Z : SS fr LL dL (sE (l1.map enc) (l2.map enc) p1.length p2.length (enc a) (enc b)) [mi.map enc, un.map enc] s.heap g am) (hs : ∃ h tk, s = { s0 with heap := h, toks := tk }) (G : Go l1 l2 M U p1 (a :: r1) p2 (b :: r2) mi un)
    (hab : lt b a = true) (hz1 : l1.length ≤ 1000) (hz2 : l2.length ≤ 1000) (hU : U.length ≤ 1000) (hw1 : l1.Pairwise fun a b => lt a b = true) (hw2 : l2.Pairwise fun a b => lt a b = true) (hsi : c.sc.names.lookup (Str.ofString "j") = some .local)
    (hap : (q1.endLine == q3.line) = true)
    (hQ : ∀ p2' r2' un' h' g' am' tk, r2'.length < (b :: r2).length → Go l1 l2 M U p1 (a :: r1) p2' r2' mi un' → SS fr LL dL (sG (l1.map enc) (l2.map enc) p1.length p2'.length) [mi.map enc, un'.map enc] h' g' am' → Q .next { s with heap := h', toks := tk }) :
    wpAny (model c.X.prog c.X.w) fr.A (execs [.Expr (.Call (.Attribute (.Name "unexpected" q2) "append" q1) [.Name "a" q4] [] q3) q5, .AugAssign (.Name "j" q6) .Add (.Constant (.int 1) k1 q7) q8,
      .While (.Compare (.Subscript (.Name "actual" q9) (.Name "j" q10) q11) [.Eq] [.Name "a" q12] q13) b1 [] q14] fr.env) Q (RZ fr LL dL enc l1 l2 M U s0) s := by
  obtain ⟨h0, t0, rfl⟩ := hs
  have hA : fr.A.handled = none := O.hand hh
  have b2 : p2.length ≤ 1000 := by have := congrArg List.length G.e2; rw [List.length_append] at this; omega
  have hml : un.length ≤ 1000 := by have := congrArg List.length G.u; rw [List.length_append] at this; omega
  refine wpAny_execs_cons (SS.ex1 (P := fun o Γ' Δ' => o = .next ∧ Γ' = sE (l1.map enc) (l2.map enc) p1.length p2.length (enc a) (enc b) ∧ Δ' = [mi.map enc, un.map enc ++ [enc b]]) O F Z (ex_append (i := 1) (ds := un.map enc) (lk rfl) rfl (ev_nm rfl) ⟨rfl, rfl, rfl⟩ (by rw [sizeLine_lit, List.length_map]; omega) hap) fun o f Γ' Δ' h' g' am' tk hp hf Z1 _ => ?_)
  obtain ⟨rfl, rfl, rfl⟩ := hp
  cases hf
  refine wpAny_execs_cons (SS.ex1 (s := { s0 with heap := h', toks := tk }) (P := fun o Γ' Δ' => o = .next ∧ Γ' = upd (sE (l1.map enc) (l2.map enc) p1.length p2.length (enc a) (enc b)) "j" (.d (.int ((p2.length : Int) + 1))) ∧ Δ' = [mi.map enc, un.map enc ++ [enc b]]) O F Z1 (ex_aug (lk rfl) ev_int.ev (.inl hsi) ⟨rfl, rfl, rfl⟩) fun o f Γ' Δ' h2 g2 am2 t2 hp hf Z2 _ => ?_)
  obtain ⟨rfl, rfl, rfl⟩ := hp
  cases hf
  have hmi : [mi.map enc, un.map enc ++ [enc b]] = [mi.map enc, (un ++ [b]).map enc] := by simp
  rw [hmi] at Z2
  have Z3 : SS fr LL dL (sE (l1.map enc) (l2.map enc) p1.length (p2.length + 1) (enc a) (enc b)) [mi.map enc, (un ++ [b]).map enc] h2 g2 am2 := Z2.weak (sub_cons rfl (sub_cons rfl (sub_cons rfl (sub_cons rfl (sub_cons rfl (sub_cons rfl (sub_cons rfl (sub_cons rfl sub_nil))))))))
  have hpl : (p2 ++ [b]).length = p2.length + 1 := by simp
  have hd := dif_lt (x := r2) R hab (pw_suf _ _ _ G.e1 hw1)
  have G' : Go l1 l2 M U p1 (a :: r1) (p2 ++ [b]) r2 mi (un ++ [b]) := ⟨G.e1, by rw [G.e2]; simp, by rw [← G.m, hd.2], by rw [← G.u, hd.1]; simp⟩
  have toG : ∀ {h g am}, SS fr LL dL (sE (l1.map enc) (l2.map enc) p1.length (p2.length + 1) (enc a) (enc b)) [mi.map enc, (un ++ [b]).map enc] h g am → SS fr LL dL (sG (l1.map enc) (l2.map enc) p1.length (p2 ++ [b]).length) [mi.map enc, (un ++ [b]).map enc] h g am := fun Z => by
    rw [hpl]; exact Z.weak (sub_cons rfl (sub_cons rfl (sub_cons rfl (sub_cons rfl (sub_cons rfl (sub_cons rfl sub_nil))))))
  refine wpAny_execs_cons (x_while (s := { s0 with heap := h2, toks := t2 }) O F Z3 (.inl hA) rfl rfl rfl (by omega) (fun d hd => ?_) (fun hl h3 g3 t3 _ Z4 => ?_) (fun hl h3 t3 x c2 Z4 X4 _ => ?_))
  · obtain ⟨a', r', rfl, rfl⟩ := go_out1 G.e2 hd
    exact R.ceq c a' b (pw_ne R (pw_suf _ _ _ G.e2 hw2))
  · exact wpAny_execs_nil (hQ _ r2 _ h3 g3 am2 t3 (by simp) G' (toG Z4))
  · have hr : r2 = [] := by
      have := go_len (enc := enc) G.e2
      rw [this] at hl
      simp only [List.length_cons] at hl
      exact List.length_eq_zero_iff.mp (by omega)
    exact ⟨x, c2, p1, _, _, r2, _, _, g2, am2, h3, h3, t3, rfl, rfl, .inr hr, G', toG Z4, .inl ⟨rfl, X4⟩⟩

theorem x_same {fr : Frm} {LL : Addr} {dL : Data} {s s0 : Shared} {g : Fz} {am : List Addr} {l1 l2 M U p1 r1 p2 r2 mi un : List α} {a : α} (R : Ord enc lt) (O : Okf c fr) (F : Two fr LL) (hh : c.hd = true)
    {p3 p4 p5 p6 p7 p8 p9 p10 p11 q1 q2 q3 q4 q5 q6 q7 q8 q9 q10 : Pos} {k1 k2 : Nat} {b1 b2 : List Stmt} {Q : Flow → Shared → Prop} (Z : SS fr LL dL (sE (l1.map enc) (l2.map enc) p1.length p2.length (enc a) (enc a)) [mi.map enc, un.map enc] s.heap g am) (hs : ∃ h tk, s = { s0 with heap := h, toks := tk }) (G : Go l1 l2 M U p1 (a :: r1) p2 (a :: r2) mi un)
    (hz1 : l1.length ≤ 1000) (hz2 : l2.length ≤ 1000) (hw1 : l1.Pairwise fun a b => lt a b = true) (hw2 : l2.Pairwise fun a b => lt a b = true) (hsi : c.sc.names.lookup (Str.ofString "i") = some .local) (hsj : c.sc.names.lookup (Str.ofString "j") = some .local)
    (hQ : ∀ p1' r1' p2' r2' h' g' am' tk, r1'.length < (a :: r1).length → r2'.length < (a :: r2).length → Go l1 l2 M U p1' r1' p2' r2' mi un → SS fr LL dL (sG (l1.map enc) (l2.map enc) p1'.length p2'.length) [mi.map enc, un.map enc] h' g' am' → Q .next { s with heap := h', toks := tk }) :
    wpAny (model c.X.prog c.X.w) fr.A (execs [.AugAssign (.Name "i" q8) .Add (.Constant (.int 1) k2 q9) q10, .Try [.While (.Compare (.Subscript (.Name "expected" p3) (.Name "i" p4) p5) [.Eq] [.Name "e" p6] p7) b1 [] p8] [] []
      [.AugAssign (.Name "j" q1) .Add (.Constant (.int 1) k1 q2) q3, .While (.Compare (.Subscript (.Name "actual" q4) (.Name "j" q5) q6) [.Eq] [.Name "a" q7] p9) b2 [] p10] p11] fr.env) Q (RZ fr LL dL enc l1 l2 M U s0) s := by
  obtain ⟨h0, t0, rfl⟩ := hs
  have b1' : p1.length ≤ 1000 := by have := congrArg List.length G.e1; rw [List.length_append] at this; omega
  have b2' : p2.length ≤ 1000 := by have := congrArg List.length G.e2; rw [List.length_append] at this; omega
  refine wpAny_execs_cons (SS.ex1 (P := fun o Γ' Δ' => o = .next ∧ Γ' = upd (sE (l1.map enc) (l2.map enc) p1.length p2.length (enc a) (enc a)) "i" (.d (.int ((p1.length : Int) + 1))) ∧ Δ' = [mi.map enc, un.map enc]) O F Z (ex_aug (lk rfl) ev_int.ev (.inl hsi) ⟨rfl, rfl, rfl⟩) fun o f Γ' Δ' h2 g2 am2 t2 hp hf Z2 _ => ?_)
  obtain ⟨rfl, rfl, rfl⟩ := hp
  cases hf
  have Z3 : SS fr LL dL (sE (l1.map enc) (l2.map enc) (p1.length + 1) p2.length (enc a) (enc a)) [mi.map enc, un.map enc] h2 g2 am2 := Z2.weak (sub_cons rfl (sub_cons rfl (sub_cons rfl (sub_cons rfl (sub_cons rfl (sub_cons rfl (sub_cons rfl (sub_cons rfl sub_nil))))))))
  have hpl1 : (p1 ++ [a]).length = p1.length + 1 := by simp
  have hpl2 : (p2 ++ [a]).length = p2.length + 1 := by simp
  have G' : Go l1 l2 M U (p1 ++ [a]) r1 (p2 ++ [a]) r2 mi un := ⟨by rw [G.e1]; simp, by rw [G.e2]; simp, by rw [← G.m, dif_eq R (pw_suf _ _ _ G.e1 hw1) (pw_suf _ _ _ G.e2 hw2)], by rw [← G.u, dif_eq R (pw_suf _ _ _ G.e2 hw2) (pw_suf _ _ _ G.e1 hw1)]⟩
  have toG : ∀ {h g am}, SS fr LL dL (sE (l1.map enc) (l2.map enc) (p1.length + 1) (p2.length + 1) (enc a) (enc a)) [mi.map enc, un.map enc] h g am → SS fr LL dL (sG (l1.map enc) (l2.map enc) (p1 ++ [a]).length (p2 ++ [a]).length) [mi.map enc, un.map enc] h g am := fun Z => by
    rw [hpl1, hpl2]; exact Z.weak (sub_cons rfl (sub_cons rfl (sub_cons rfl (sub_cons rfl (sub_cons rfl (sub_cons rfl sub_nil))))))
  have l1e := go_len (enc := enc) G.e1
  have l2e := go_len (enc := enc) G.e2
  simp only [List.length_cons] at l1e l2e
  refine wpAny_execs_cons (x_finally (s := { s0 with heap := h2, toks := t2 }) O F hh Z3 (by omega) (by omega) hsj (fun d hd c => ?_) (fun d hd c => ?_) (fun hl1 hl2 h3 g3 am3 t3 Z4 => ?_) (fun hl h3 g3 am3 t3 x c2 Z4 X4 => ?_))
  · obtain ⟨a', r', rfl, rfl⟩ := go_out1 G.e1 hd
    exact R.ceq c a' a (pw_ne R (pw_suf _ _ _ G.e1 hw1))
  · obtain ⟨a', r', rfl, rfl⟩ := go_out1 G.e2 hd
    exact R.ceq c a' a (pw_ne R (pw_suf _ _ _ G.e2 hw2))
  · exact wpAny_execs_nil (hQ _ r1 _ r2 h3 g3 am3 t3 (by simp) (by simp) G' (toG Z4))
  · refine ⟨x, c2, _, r1, _, r2, mi, un, g3, am3, h3, h3, t3, rfl, rfl, ?_, G', toG Z4, .inl ⟨rfl, X4⟩⟩
    rcases hl with hl | hl
    · exact .inl (List.length_eq_zero_iff.mp (by omega))
    · exact .inr (List.length_eq_zero_iff.mp (by omega))
end
end Mine

set_option maxRecDepth 100000
set_option autoImplicit false
set_option linter.unusedVariables false
set_option linter.unusedSectionVars false
set_option maxHeartbeats 1000000
namespace Mine
open PySem PySem.W PySem.Calls PyProof.Rows
variable {c : Cfg}
section
variable {α : Type} [DecidableEq α] {enc : α → D} {lt : α → α → Bool}

theorem cut_rest {β : Type} {l p r : List β} (h : l = p ++ r) : cut l (some (p.length : Int)) none = r := by
  subst h
  unfold cut
  simp only [Option.elim_some, Option.elim_none, clipAt_nat, List.length_append]
  rw [Nat.min_eq_left (by omega)]
  simp
/-- the handler -/
theorem x_handle {fr : Frm} {LL : Addr} {dL : Data} {s s' : Shared} {l1 l2 M U : List α} {v : Value} (O : Okf c fr) (F : Two fr LL) (z : RZ fr LL dL enc l1 l2 M U s v s') (hz1 : l1.length ≤ 1000) (hz2 : l2.length ≤ 1000) (hM : M.length ≤ 1000) (hU : U.length ≤ 1000)
    (hk : c.sc.names.lookup (Str.ofString "IndexError") = some .globalImplicit) (hb : Str.ofString "IndexError" ∈ c.X.bl) {np pos q1 q2 q3 q4 q5 q6 q7 q8 q9 q10 q11 q12 q13 q14 q15 q16 q17 : Pos} {rest : List ExceptHandler} {Q : Flow → Shared → Prop} {E : Value → Shared → Prop}
    (ha1 : (q1.endLine == q3.line) = true) (ha2 : (q9.endLine == q11.line) = true)
    (hQ : ∀ h' g' am' tk, SS fr LL dL [("missing", .mu 0), ("unexpected", .mu 1)] [M.map enc, U.map enc] h' g' am' → Q .brk { s with heap := h', toks := tk }) :
    wpAny (model c.X.prog c.X.w) fr.A (noteFrame v fr.env) (fun _ s₂ => wpAny (model c.X.prog c.X.w) fr.A (setFlight v none) (fun _ s₃ => wpAny (model c.X.prog c.X.w) fr.A (handleBy v fr.env (.ExceptHandler (some (.Name "IndexError" np)) none
      [.Expr (.Call (.Attribute (.Name "missing" q2) "extend" q1) [.Subscript (.Name "expected" q4) (.Slice (some (.Name "i" q5)) none none q6) q7] [] q3) q8,
       .Expr (.Call (.Attribute (.Name "unexpected" q10) "extend" q9) [.Subscript (.Name "actual" q12) (.Slice (some (.Name "j" q13)) none none q14) q15] [] q11) q17, .Break q16] pos :: rest)) Q E s₃) E s₂) E s' := by
  obtain ⟨x, c2, p1, r1, p2, r2, mi, un, g, am, h, h', tk, rfl, rfl, hr, G, Z, hX⟩ := z
  -- noted
  suffices key : ∀ h₁, SS fr LL dL (sG (l1.map enc) (l2.map enc) p1.length p2.length) [mi.map enc, un.map enc] h₁ g am → Flies fr h₁ g x c2 (rawInt fr.env.locals) →
      wpAny (model c.X.prog c.X.w) fr.A (setFlight (.ref x) none) (fun _ s₃ => wpAny (model c.X.prog c.X.w) fr.A (handleBy (.ref x) fr.env (.ExceptHandler (some (.Name "IndexError" np)) none
      [.Expr (.Call (.Attribute (.Name "missing" q2) "extend" q1) [.Subscript (.Name "expected" q4) (.Slice (some (.Name "i" q5)) none none q6) q7] [] q3) q8,
       .Expr (.Call (.Attribute (.Name "unexpected" q10) "extend" q9) [.Subscript (.Name "actual" q12) (.Slice (some (.Name "j" q13)) none none q14) q15] [] q11) q17, .Break q16] pos :: rest)) Q E s₃) E { s with heap := h₁, toks := tk } by
    rcases hX with ⟨rfl, X⟩ | X
    · exact note_again F X (key h Z X)
    · exact noted_raise (s := { s with heap := h', toks := tk }) F Z X fun h1 Z1 X1 => key h1 Z1 X1
  intro h₁ Z1 X1
  refine set_flight (s := { s with heap := h₁, toks := tk }) F Z1.S Z1.L X1 fun h2 S2 L2 X2 => ?_
  have Z2 : SS fr LL dL (sG (l1.map enc) (l2.map enc) p1.length p2.length) [mi.map enc, un.map enc] h2 g am := ⟨S2, L2, Z1.hg, Z1.ham⟩
  have O4 := O.mkd (v := .ref x)
  have F4 := F.mkd (v := .ref x)
  have Z4 := Z2.mkd (A := fr.A.mark (some (.ref x)))
  obtain ⟨oe, vs, T, oT, ts, he, hcl, _⟩ := id X2.ob
  refine wpAny_handleBy_builtin (X := "IndexError") (T := "IndexError") (b := true) (by rw [isSubtype_type]; kernel_rfl) (by first | (rw [isSubtype_type]; kernel_rfl) | kernel_rfl) (by rw [isSubtype_type]; kernel_rfl) ?_
  refine wpAny_mono (E := fun _ _ => False) (w_global (c := noh c) (fr := mkd fr (fr.A.mark (some (.ref x)))) (s := { s with heap := h2, toks := tk }) O4 Z4.S hk hb (by decide +kernel) (by decide) ⟨rfl, ⟨_, he, hcl⟩, ?_⟩) (fun _ _ q => q) fun _ _ q => q.elim
  simp only [if_true]
  refine set_flight (s := { s with heap := h2, toks := tk }) F S2 L2 X2 fun h3 S3 L3 X3 => ?_
  have Z5 : SS (mkd fr (fr.A.mark (some (.ref x)))) LL dL (sG (l1.map enc) (l2.map enc) p1.length p2.length) [mi.map enc, un.map enc] h3 g am := (SS.mk S3 L3 Z1.hg Z1.ham).mkd
  have b1 : p1.length ≤ 1000 := by have := congrArg List.length G.e1; rw [List.length_append] at this; omega
  have b2 : p2.length ≤ 1000 := by have := congrArg List.length G.e2; rw [List.length_append] at this; omega
  have hmi : mi ++ r1 = M := by
    rw [← G.m]; rcases hr with rfl | rfl
    · rw [nil_dif]
    · rw [dif_nil]
  have hun : un ++ r2 = U := by
    rw [← G.u]; rcases hr with rfl | rfl
    · rw [dif_nil]
    · rw [nil_dif]
  have c1 : cut (l1.map enc) (some (p1.length : Int)) none = r1.map enc := by
    have := cut_rest (l := l1.map enc) (p := p1.map enc) (r := r1.map enc) (by rw [G.e1]; simp)
    rwa [List.length_map] at this
  have c2 : cut (l2.map enc) (some (p2.length : Int)) none = r2.map enc := by
    have := cut_rest (l := l2.map enc) (p := p2.map enc) (r := r2.map enc) (by rw [G.e2]; simp)
    rwa [List.length_map] at this
  have z1 : (mi.map enc).length + (r1.map enc).length ≤ 100000 := by
    have := congrArg List.length hmi; rw [List.length_append] at this; rw [List.length_map, List.length_map]; omega
  have z2 : (un.map enc).length + (r2.map enc).length ≤ 100000 := by
    have := congrArg List.length hun; rw [List.length_append] at this; rw [List.length_map, List.length_map]; omega
  refine SS.exs (c := noh c) (fr := mkd fr (fr.A.mark (some (.ref x)))) (s := { s with heap := h3, toks := tk }) (P := fun o Γ' Δ' => o = .brk ∧ Γ' = sG (l1.map enc) (l2.map enc) p1.length p2.length ∧ Δ' = [M.map enc, U.map enc]) O4 F4 Z5
    (exs_cons (ex_extend (i := 0) (ds := mi.map enc) (lk rfl) rfl (evf_eq (ev_sl_list (ev_nm rfl).ev (.some (ev_nm rfl).ev) .none (by rw [List.length_map]; omega)) (by rw [c1])) (exs_cons (ex_extend (i := 1) (ds := un.map enc) (lk rfl) rfl (evf_eq (ev_sl_list (ev_nm rfl).ev (.some (ev_nm rfl).ev) .none (by rw [List.length_map]; omega)) (by rw [c2])) (exs_cons (ex_brk ⟨rfl, rfl, ?_⟩)) z2 ha2)) z1 ha1)) fun o f Γ' Δ' h5 g5 am5 t5 hp hf Z6 _ => ?_
  · rw [← hmi, ← hun]; simp
  · obtain ⟨rfl, rfl, rfl⟩ := hp
    cases hf
    exact hQ h5 g5 am5 t5 (Z6.unmkd.weak (sub_cons rfl (sub_cons rfl sub_nil)))
end
end Mine

set_option maxRecDepth 100000
set_option autoImplicit false
set_option linter.unusedVariables false
set_option linter.unusedSectionVars false
set_option maxHeartbeats 1000000
namespace Mine
open PySem PySem.W PySem.Calls PyProof.Rows
theorem enter_def {X : GCtx} {dr : DefRec} {n : Nat} {ps : List Str} {ds : List D} (hdr : dr ∈ X.defs) (hlen : ds.length = ps.length)
    (hbind : ∀ pm code doc vs, vs.length = ps.length → bindArgs (docDef dr.name dr.params dr.body dr.scope pm code doc) ⟨vs, []⟩ = pure (ps.zip vs)) (hps : ps.Nodup)
    (hloc : ∀ x ∈ ps, dr.scope.names.lookup x = some .local ∨ dr.scope.names.lookup x = some .cell) (hnc : ∀ x ∈ ownCells dr.scope, dr.scope.names.lookup x = some .cell) (hnd : ((cellsFrom 0 dr.scope.names []).map (·.1)).Nodup)
    (hnf : ∀ p ∈ dr.scope.names, p.2 ≠ .free) (hk : dr.scope.kind = .function) (hco : dr.scope.isCoroutine = false) (hgen : dr.scope.isGenerator = false)
    {A : Around} {s : Shared} {g : Fz} {fa : Addr} {vs : List Value} (hA : A.handled = none) (hdp : A.depth + (n + 1) < recursionLimit) (hu : A.units + 8 * (n + 1) + 200 < cLine) (G : Glo X s.heap) (hs : ∀ b o, g b = some o → s.heap.get? b = some o)
    (hmg : X.mg dr.name = some (.ref fa)) (hr : Reps g ds vs) {Q : Value → Shared → Prop} {E : Value → Shared → Prop}
    (h : ∀ fr h₁ tk, fr.A = A.deeper fr.env → fr.h₀ = s.heap → fr.g₀ = g → fr.hc = s.heap → fr.env.frame = some fr.env.locals → fr.oc = (cellsFrom (s.heap.objs.size + 1) dr.scope.names []).map (·.2) → s.heap.get? fr.env.locals = none → (∀ b o, s.heap.get? b = some o → h₁.get? b = some o) →
      Okf ⟨X, n, dr.scope, ownCells dr.scope, true, false⟩ fr → St fr (ps.zip (ds.map V.d)) [] h₁ g [] → wpAny (model X.prog X.w) fr.A (execs dr.body fr.env) (fun f s' => ∃ v, f = .ret v ∧ Q v s') (fun _ _ => False) { s with heap := h₁, toks := tk }) :
    wpAny (model X.prog X.w) A (call (.ref fa) vs) Q E s := by
  obtain ⟨a, o, pm, code, doc, h1, h2, h3, h4⟩ := G.fn dr hdr
  rw [hmg] at h1
  cases h1
  have hvl : vs.length = ps.length := hr.length.trans hlen
  have hfst := zip_fst ps vs hvl
  refine wpAny_call (codeAny_call_cells (fd := docDef dr.name dr.params dr.body dr.scope pm code doc) (body := dr.body) (binds := ps.zip vs) (by omega) h2 h3 G.nolimit h4 rfl (hbind pm code doc vs hvl) rfl (fun x hx => ?_) (fun s₁ ic => ?_) hco hgen hk)
  · have hx' : x.1 ∈ ps := hfst ▸ List.mem_map_of_mem hx
    rcases hloc _ hx' with e | e
    · exact .inl e
    · exact .inr ⟨e, mem_cellsFrom _ _ _ (.inl (mem_of_lookup e))⟩
  · obtain ⟨h₁, tk, rfl, hkeep⟩ := ic.done
    let env : Env := callEnvC (docDef dr.name dr.params dr.body dr.scope pm code doc) s.heap.objs.size fa
    let fr : Frm := ⟨A.deeper env, env, s.heap, g, env.cells.map (·.2), s.heap⟩
    have hL : s.heap.get? s.heap.objs.size = none := by
      cases q : s.heap.get? s.heap.objs.size with
      | none => rfl
      | some o => exact absurd (Heap.lt_size q) (Nat.lt_irrefl _)
    have fresh : ∀ b, s.heap.objs.size ≤ b → s.heap.get? b = none := fun b hb => by
      cases q : s.heap.get? b with
      | none => rfl
      | some o => exact absurd (Heap.lt_size q) (Nat.not_lt.mpr hb)
    have gfresh : ∀ b, s.heap.get? b = none → g b = none := fun b hb => by
      cases q : g b with
      | none => rfl
      | some o => rw [hs b o q] at hb; cases hb
    have O : Okf ⟨X, n, dr.scope, ownCells dr.scope, true, false⟩ fr := by
      refine ⟨fun _ => hA, (fun h => nomatch h), ?_, ?_, rfl, hk, rfl, rfl, G, fun _ _ e => e, fun x hx => ⟨hnc x hx, ?_⟩, fun x hx => ?_, fun x y a e1 e2 _ => pairwise_uniq ic.apart e1 e2⟩
      · have e : fr.A.depth = A.depth + 1 := rfl
        have e2 : (⟨X, n, dr.scope, ownCells dr.scope, true, false⟩ : Cfg).n = n := rfl
        rw [e, e2]; omega
      · have e : fr.A.units = A.units + 3 := rfl
        have e2 : (⟨X, n, dr.scope, ownCells dr.scope, true, false⟩ : Cfg).n = n := rfl
        rw [e, e2]; omega
      · obtain ⟨p, hp, rfl⟩ := List.mem_map.mp hx
        obtain ⟨hp1, hp2⟩ := List.mem_filter.mp hp
        have e : p.2 = .cell := by simpa using hp2
        have this : (p.1, NameKind.cell) ∈ dr.scope.names := by rw [← e]; exact hp1
        obtain ⟨a, ha⟩ := Option.isSome_iff_exists.mp (mem_cellsFrom (x := p.1) dr.scope.names (s.heap.objs.size + 1) [] (.inl this))
        exact ⟨a, ha, List.mem_map.mpr ⟨_, mem_of_lookup ha, rfl⟩⟩
      · rcases hx with e | e
        · obtain ⟨a, ha⟩ := Option.isSome_iff_exists.mp (mem_cellsFrom (x := x) dr.scope.names (s.heap.objs.size + 1) [] (.inl (mem_of_lookup e)))
          exact ⟨a, ha, .inl (List.mem_map.mpr ⟨_, mem_of_lookup ha, rfl⟩)⟩
        · exact absurd rfl (hnf _ (mem_of_lookup e))
    have S : St fr (ps.zip (ds.map V.d)) [] h₁ g [] := by
      refine ⟨hkeep, fun b o e => hkeep b o (hs b o e), fun _ _ e => e, fun _ _ e => .inl e, gfresh _ hL, hL, ⟨_, ic.toInCall.ns, fun p hp => ?_⟩, fun a ha => ?_, rfl, List.nodup_nil, fun i a ds h1 _ => by simp at h1⟩
      · obtain ⟨v, hv, he⟩ := zip_rep ps hr p hp
        have hx : p.1 ∈ ps := hfst ▸ List.mem_map_of_mem hv
        refine ⟨v, he _, ?_⟩
        rcases hloc _ hx with e | e
        · exact .loc e (bindL_at (kindOf := env.kindOf) e _ _ (by rw [hfst]; exact hps) hv)
        · obtain ⟨a, ha⟩ := Option.isSome_iff_exists.mp (mem_cellsFrom (x := p.1) dr.scope.names (s.heap.objs.size + 1) [] (.inl (mem_of_lookup e)))
          have hc := ic.cell _ _ ha
          rw [bindC_at (kindOf := env.kindOf) e _ _ (by rw [hfst]; exact hps) hv] at hc
          exact .ocell a e ha (List.mem_map.mpr ⟨_, mem_of_lookup ha, rfl⟩) hc
      · obtain ⟨q, hq, rfl⟩ := List.mem_map.mp ha
        have hlk : env.cells.lookup q.1 = some q.2 := lookup_of_mem_nodup (cellsFrom_names dr.scope.names 0 (s.heap.objs.size + 1) [] [] rfl ▸ hnd) hq
        have hab := ic.above _ _ hq
        have hn := fresh q.2 (Nat.le_of_lt hab)
        exact ⟨⟨_, ic.cell _ _ hlk⟩, gfresh _ hn, hn, Nat.ne_of_gt hab, by simp⟩
    refine wpAny_mono (h fr h₁ _ rfl rfl rfl rfl rfl rfl hL hkeep O S) (fun f s' hq => ?_) fun _ _ x => x.elim
    obtain ⟨v, rfl, hq⟩ := hq; exact hq
end Mine

set_option maxRecDepth 100000
set_option autoImplicit false
set_option linter.unusedVariables false
set_option linter.unusedSectionVars false
set_option maxHeartbeats 1000000
namespace Mine
open PySem PySem.W PySem.Calls PyProof.Rows
variable {c : Cfg} {Γ : Gam} {Δ : Del}

/-- back in the caller's frame: of its names' object the data stand -/
theorem St.back {fr : Frm} {h' hF : Heap} {g' gF : Fz} {am : List Addr} (S : St fr Γ Δ h' g' am) (k : ∀ b o, b ≠ fr.env.locals → h'.get? b = some o → hF.get? b = some o) (hd : ∀ o, h'.get? fr.env.locals = some o → ∃ o', hF.get? fr.env.locals = some o' ∧ o'.data = o.data)
    (gk : ∀ b o, g' b = some o → gF b = some o) (sub : ∀ b o, gF b = some o → hF.get? b = some o) (own : ∀ b o, gF b = some o → g' b = some o ∨ (hideAll h' [fr.env.locals]).get? b = none) (gL : gF fr.env.locals = none) : St fr Γ Δ hF gF am where
  keep := fun b o e => k b o (fun q => by rw [q, S.hL] at e; cases e) (S.keep b o e)
  sub := sub
  gsub := fun b o e => gk b o (S.gsub b o e)
  own := fun b o e => by
    rcases own b o e with q | q
    · exact S.own b o q
    · by_cases hb : b = fr.env.locals
      · rw [hb, gL] at e; cases e
      · refine .inr (none_of_keep S.keep ?_)
        cases q' : h'.get? b with
        | none => rfl
        | some o' => rw [hideAll_get _ q' (by simpa using hb)] at q; cases q
  gL := gL
  hL := S.hL
  loc := by
    obtain ⟨m, ⟨o, es, ep, ho, hdd, r⟩, hp⟩ := S.loc
    obtain ⟨o', ho', hd'⟩ := hd o ho
    refine ⟨m, ⟨o', es, ep, ho', hd'.trans hdd, r⟩, fun p hm => ?_⟩
    obtain ⟨v, h1, h2⟩ := hp p hm
    refine ⟨v, h1.mono0 gk, ?_⟩
    cases h2 with
    | loc h3 h4 => exact .loc h3 h4
    | ocell a h3 h4 h5 h6 =>
      obtain ⟨o, ho, hdo⟩ := h6
      exact .ocell a h3 h4 h5 ⟨o, k a o (S.ocs a h5).2.2.2.1 ho, hdo⟩
    | cell a h3 h4 h6 => exact .cell a h3 h4 h6
  ocs := fun b hb => by
    obtain ⟨⟨v, o, ho, hdo⟩, r1, r2, r3, r4⟩ := S.ocs b hb
    refine ⟨⟨v, o, k b o r3 ho, hdo⟩, ?_, r2, r3, r4⟩
    cases q : gF b with
    | none => rfl
    | some o' =>
      rcases own b o' q with e | e
      · rw [r1] at e; cases e
      · rw [hideAll_get _ ho (by simpa using r3)] at e; cases e
  len := S.len
  nd := S.nd
  muts := fun i a ds h1 h2 => by
    obtain ⟨⟨vs, n, ho, hr⟩, r1, r2, r3⟩ := S.muts i a ds h1 h2
    refine ⟨⟨vs, n, k a _ r1 ho, hr.mono gk⟩, r1, r2, ?_⟩
    cases q : gF a with
    | none => rfl
    | some o' =>
      rcases own a o' q with e | e
      · rw [r3] at e; cases e
      · rw [hideAll_get _ ho (by simpa using r1)] at e; cases e

/-- the callee's frame, told less of the heap -/
def less (fr : Frm) (LL : Addr) : Frm := { fr with h₀ := hideAll fr.h₀ [LL], hc := hideAll fr.h₀ [LL] }
theorem Okf.less {fr : Frm} {LL : Addr} (O : Okf c fr) (hG : Glo c.X (hideAll fr.h₀ [LL])) (hn : ∀ p ∈ c.sc.names, p.2 ≠ .cell ∧ p.2 ≠ .free) (ho : c.own = []) : Okf c (less fr LL) :=
  ⟨O.hand, O.frs, O.depth, O.units, O.sc, O.kind, O.glob, O.blt, hG, fun _ _ e => e, fun x hx => (by rw [ho] at hx; cases hx), fun x hx => (by
    rcases hx with e | e
    · exact absurd rfl (hn _ (mem_of_lookup e)).1
    · exact absurd rfl (hn _ (mem_of_lookup e)).2), O.ocu⟩
theorem St.less {fr : Frm} {LL : Addr} {h : Heap} {g : Fz} (O : Okf c fr) (S : St fr Γ [] h g []) (hn : ∀ p ∈ c.sc.names, p.2 ≠ .cell ∧ p.2 ≠ .free) (hoc : fr.oc = []) : St (Mine.less fr LL) Γ [] h g [] where
  keep := fun b o e => S.keep b o (of_hideAll _ e)
  sub := S.sub
  gsub := S.gsub
  own := fun b o e => (S.own b o e).imp id fun q => none_of_keep (fun b o e => of_hideAll _ e) q
  gL := S.gL
  hL := none_of_keep (fun b o e => of_hideAll _ e) S.hL
  loc := by
    obtain ⟨m, hns, hp⟩ := S.loc
    refine ⟨m, hns, fun p hm => ?_⟩
    obtain ⟨v, h1, h2⟩ := hp p hm
    refine ⟨v, h1, ?_⟩
    cases h2 with
    | loc h3 h4 => exact .loc h3 h4
    | ocell a h3 h4 h5 h6 => rw [hoc] at h5; cases h5
    | cell a h3 h4 h6 =>
      rw [O.sc] at h3
      rcases h3 with e | e
      · exact absurd rfl (hn _ (mem_of_lookup e)).1
      · exact absurd rfl (hn _ (mem_of_lookup e)).2
  ocs := fun b hb => by have hb' : b ∈ fr.oc := hb; rw [hoc] at hb'; cases hb'
  len := S.len
  nd := S.nd
  muts := fun i a ds h1 h2 => by simp at h1
end Mine

set_option maxRecDepth 100000
set_option autoImplicit false
set_option linter.unusedVariables false
set_option maxHeartbeats 1000000
namespace Mine
open PySem PySem.W PySem.Calls PyProof.Rows
section
variable {c : Cfg} {Γ : Gam} {Δ : Del} {P : Post}
theorem IntsAre.length {vs : List Value} {ns : List Int} (h : IntsAre vs ns) : vs.length = ns.length := by
  induction h with
  | nil => rfl
  | cons n t _ ih => simp [ih]
/-- script[:k] -/
theorem ev_arg_slice {x : Str} {q p pos : Pos} {e : Expr} {ns : List Int} {z : Int} (hm : (x, V.arg ns) ∈ Γ) (hk : Ev c Γ Δ e (.int z)) (hz : ns.length ≤ 100000) (hd : (x == ("__debug__" : Str)) = false := by decide) (hc : (x == ("__classdict__" : Str)) = false := by decide) :
    EvF c Γ Δ (.Subscript (.Name x q) (.Slice none (some e) none p) pos) (.list (IL (cut ns none (some z)))) := fun fr s g am O S' Q hQ => by
  obtain ⟨m, hn, hp⟩ := S'.loc
  obtain ⟨v, h1, h2⟩ := hp _ hm
  cases h1 with
  | arg _ a o vs n ho hcl hdat hI =>
    have hl := IntsAre.length hI
    refine wpAny_Subscript_list_slice (wpAny_Name (load_At O S' hn h2 hc ?_) hd)
    refine w_part (i := none) .none O S' fun q1 k2 g2 t2 kk2 e1 => w_part (.some hk) O (S'.gr kk2) fun q2 k3 g3 t3 kk3 e2 => ?_
    have ho3 := kk3.hk _ _ (kk2.hk _ _ (S'.sub _ _ ho))
    have hr : Reps g3 (IL ns) vs := ints_IL hI
    refine ⟨a, vs.toArray, none, some z, rfl, ⟨o, ho3, hcl, n, hdat⟩, by rw [List.size_toArray, hl, sizeLine_lit]; omega, isPart_of e1, isPart_of e2, ?_⟩
    rw [slicePick_plain]
    generalize hH : k3.push { cls := .type "slice", data := .fields #[partValue q1, partValue q2, .none] } = H
    have kp : ∀ b o, k3.get? b = some o → H.get? b = some o := fun b o e => by rw [← hH]; exact Heap.get?_push_of_some _ e
    have hsz : H.objs.size = k3.objs.size + 1 := by rw [← hH, Heap.size_push]
    have e3 : H.get? H.objs.size = none := fresh_size
    show Q (.ref (k3.objs.size + 1)) _
    rw [← hsz]
    have kk4 : Gr k3 g3 (H.push (lstO (cut vs none (some z)) 0)) (g3.add H.objs.size (lstO (cut vs none (some z)) 0)) := .add kk3.sub (fun b o e => Heap.get?_push_of_some _ (kp b o e)) (none_of_keep kp e3) (Heap.get?_push_size _ rfl)
    have hcut : (({ cls := .type "list", data := .seq ((vs.toArray.toList.drop ((none : Option Int).elim 0 (clipAt vs.toArray.size))).take ((some z).elim vs.toArray.size (clipAt vs.toArray.size) - (none : Option Int).elim 0 (clipAt vs.toArray.size))).toArray } : Obj)) = lstO (cut vs none (some z)) 0 := by simp [cut]
    rw [hcut]
    refine hQ _ _ _ t3 ((kk2.trans kk3).trans kk4) (.list _ _ (cut vs none (some z)) 0 (Fz.add_self _ _ _) ?_)
    have := Reps.sub hr 0 (clipAt ns.length z)
    have e5 : cut vs none (some z) = (vs.drop 0).take (clipAt ns.length z) := by unfold cut; simp [hl]
    have e6 : IL (cut ns none (some z)) = ((IL ns).drop 0).take (clipAt ns.length z) := by unfold cut; simp [IL]
    rw [e5, e6]
    exact this.mono (Fz.add_keep (none_of_sub kk3.sub (none_of_keep kp e3)))
end
end Mine

set_option maxRecDepth 100000
set_option autoImplicit false
set_option linter.unusedVariables false
set_option maxHeartbeats 1000000
namespace Mine
open PySem PySem.W PySem.Calls PyProof.Rows
section
variable {c : Cfg} {Γ : Gam} {Δ : Del} {P : Post}
theorem ex_assign_comp2 {z : Str} {pz spos : Pos} {elt iter iter2 : Expr} {x y : Str} {px py pos : Pos} {sc : Scope} {xs : List D} {ys : D → List D} {F : D → D → D} {Γ' : Gam} (hi : EvI false c Γ Δ iter xs) (C : CScope c sc) (hx : Sto (cOf c sc) x) (hy : Sto (cOf c sc) y) (hxy : x ≠ y) (hsz : ∀ i, ((xs.take i).flatMap ys).length ≤ 100000)
    (hΓ : ∀ p ∈ Γ', p ∈ Γ ∧ (p.1, NameKind.free) ∈ sc.names ∧ ∃ d, p.2 = .d d)
    (hi2 : ∀ d ∈ xs, ∀ Δ', EvI true (cOf c sc) (upd Γ' x (.d d)) Δ' iter2 (ys d)) (he : ∀ d ∈ xs, ∀ e ∈ ys d, ∀ Δ', EvF (cOf c sc) (upd (upd Γ' x (.d d)) y (.d e)) Δ' elt (F d e))
    (hz : c.sc.names.lookup z = some .local) (h : P .next (upd Γ z (.d (.list (xs.flatMap fun d => (ys d).map (F d))))) Δ)
    (hl : (pz.line == pos.line) = true := by rfl) (hno : (sc.names.any fun (n, k) => n == z && (k == .local || k == .cell)) = false := by decide +kernel)
    (hs : ∀ env x, foldedSetIterable iter env x = pure x := by intro _ _; rfl) (hs2 : ∀ env x, foldedSetIterable iter2 env x = pure x := by intro _ _; rfl) : Ex1 c Γ Δ (.Assign [.Name z pz] (.ListComp elt [⟨.Name x px, iter, [], 0⟩, ⟨.Name y py, iter2, [], 0⟩] sc pos) spos) P := fun fr s g am O S Q hQ => by
  have hsw : swapsWith (.ListComp elt [⟨.Name x px, iter, [], 0⟩, ⟨.Name y py, iter2, [], 0⟩] sc pos) (some (.Name z pz)) spos.line fr.env = pure true := by
    show (pure (fr.env.blockKind == .function && fr.env.kindOf z == some .local && pz.line == pos.line && !(sc.names.any fun (n, k) => n == z && (k == .local || k == .cell))) : Sem Bool) = _
    have h1 : fr.env.blockKind = .function := by unfold Env.blockKind; rw [O.sc, O.kind]; rfl
    have h2 : fr.env.kindOf z = some .local := by unfold Env.kindOf; rw [O.sc]; exact hz
    rw [h1, h2, hl, hno]; rfl
  unfold W
  rw [exec_Assign_Name_used _ _ _ _ hsw]
  refine wpAny_bind (wpAny_standAt (wpAny_bind ?_))
  show wpAny _ fr.A (do let _ ← comprehension (.ListComp elt [⟨.Name x px, iter, [], 0⟩, ⟨.Name y py, iter2, [], 0⟩] sc pos) sc fr.env _ (newList []) false (eval iter fr.env) (some (assign (.Name z pz) fr.env))) _ _ s
  refine wpAny_bind (wpAny_mono (wpAny_comprehension_free (use := some (assign (.Name z pz) fr.env)) (Q := fun _ s' => Q .next s') rfl (hs _) (closureFor_clos (O.closed C)) C.kind C.hnames
    (hi fr s g am O S _ fun It fp wr Pw Sw h1 g1 t1 it => ?_)) (fun _ s' hq => wpAny_pure (wpAny_pure hq)) fun _ _ e => e)
  refine w_comp2 O S it C hx hy hxy hsz hΓ hi2 he hs2 (RR := fun acc C => compPost _ _ _ (some (assign (.Name z pz) fr.env)) (fun _ s' => Q .next s') acc C) fun D C h' g' tk m hC hgC hn k r hDC => ?_
  have S1 := S.gr k
  have hCL : C ≠ fr.env.locals := fun e => by
    obtain ⟨m', hns, _⟩ := S.loc
    obtain ⟨o, ho⟩ := Heap.Ns.get hns
    rw [← e, hC] at ho; cases ho
  have hCo : C ∉ fr.oc := fun hm => by
    obtain ⟨⟨v, o, ho, _⟩, _⟩ := S.ocs C hm
    rw [hC] at ho; cases ho
  have hCm : C ∉ am := fun hm => by
    obtain ⟨i, hi, q⟩ := List.mem_iff_getElem.mp hm
    obtain ⟨⟨vs, n, ho, _⟩, _⟩ := S.muts i C _ (by rw [List.getElem?_eq_getElem hi, q]) (List.getElem?_eq_getElem (S.len ▸ hi))
    rw [hC] at ho; cases ho
  show wpAny _ fr.A (assign (.Name z pz) fr.env (.ref D)) _ _ _
  refine wpAny_assign_Name (w_store O S1 (.inl hz) (.d _ _ r) fun h2 t2 S2 k2 => ?_)
  refine ⟨m, hn.at' fun o e => k2 _ o hCL hCo e, fun h3 hs3 => ?_⟩
  have S3 := S2.off (wr := [C]) ⟨fun b hb => by rw [List.mem_singleton.mp hb]; exact ⟨hCL, hCo, hCm, hgC, none_of_keep S.keep hC⟩⟩ fun b o hb e => (hs3.2 b fun q => hb (List.mem_singleton.mpr q)).trans e
  exact hQ .next .next _ _ h3 g' am t2 h .next S3

theorem ex_assign_comp2L {α β γ : Type} (enc : α → D) (encb : β → D) (encc : γ → D) (ha : Inj enc) (hb : Inj encb) (l : List α) (m : α → List β) (F : α → β → γ) {z : Str} {pz spos : Pos} {elt iter iter2 : Expr} {x y : Str} {px py pos : Pos} {sc : Scope} (Γ' : Gam) (hi : EvI false c Γ Δ iter (l.map enc)) (C : CScope c sc) (hx : Sto (cOf c sc) x) (hy : Sto (cOf c sc) y) (hxy : x ≠ y) (hsz : (l.flatMap m).length ≤ 100000)
    (hΓ : ∀ p ∈ Γ', p ∈ Γ ∧ (p.1, NameKind.free) ∈ sc.names ∧ ∃ d, p.2 = .d d)
    (hi2 : ∀ a ∈ l, ∀ Δ', EvI true (cOf c sc) (upd Γ' x (.d (enc a))) Δ' iter2 ((m a).map encb)) (he : ∀ a ∈ l, ∀ b ∈ m a, ∀ Δ', EvF (cOf c sc) (upd (upd Γ' x (.d (enc a))) y (.d (encb b))) Δ' elt (encc (F a b)))
    (hz : c.sc.names.lookup z = some .local) (h : P .next (upd Γ z (.d (.list ((l.flatMap fun a => (m a).map (F a)).map encc)))) Δ)
    (hl : (pz.line == pos.line) = true := by rfl) (hno : (sc.names.any fun (n, k) => n == z && (k == .local || k == .cell)) = false := by decide +kernel)
    (hs : ∀ env x, foldedSetIterable iter env x = pure x := by intro _ _; rfl) (hs2 : ∀ env x, foldedSetIterable iter2 env x = pure x := by intro _ _; rfl) :
    Ex1 c Γ Δ (.Assign [.Name z pz] (.ListComp elt [⟨.Name x px, iter, [], 0⟩, ⟨.Name y py, iter2, [], 0⟩] sc pos) spos) P := by
  obtain ⟨ys, F', hh⟩ := comp_fn2 enc encb encc ha hb m F
  rw [← comp_eq2 hh l] at h
  refine ex_assign_comp2 hi C hx hy hxy (fun i => ?_) hΓ (fun d hd Δ' => ?_) (fun d hd e he' Δ' => ?_) hz h hl hno hs hs2
  · have e1 : ((l.map enc).take i).flatMap ys = ((l.take i).flatMap m).map encb := by
      rw [← List.map_take]
      generalize l.take i = l'
      induction l' with
      | nil => rfl
      | cons a r ih => rw [List.map_cons, List.flatMap_cons, List.flatMap_cons, List.map_append, ih, (hh a).1]
    rw [e1, List.length_map]
    refine Nat.le_trans ?_ hsz
    have : l = l.take i ++ l.drop i := (List.take_append_drop i l).symm
    have e2 : (l.flatMap m).length = ((l.take i).flatMap m).length + ((l.drop i).flatMap m).length := by
      conv => lhs; rw [this, List.flatMap_append, List.length_append]
    omega
  · obtain ⟨a, ha', rfl⟩ := List.mem_map.mp hd
    rw [(hh a).1]; exact hi2 a ha' Δ'
  · obtain ⟨a, ha', rfl⟩ := List.mem_map.mp hd
    rw [(hh a).1] at he'
    obtain ⟨b, hb', rfl⟩ := List.mem_map.mp he'
    rw [(hh a).2]; exact he a ha' b hb' Δ'
end
end Mine

set_option maxRecDepth 100000
set_option autoImplicit false
set_option linter.unusedVariables false
set_option maxHeartbeats 1000000
namespace Mine
open PySem PySem.W PySem.Calls PyProof.Rows
section
variable {c : Cfg} {Γ : Gam} {Δ : Del} {P : Post}
/-- one generator -/
theorem w_compI {fr : Frm} {s₀ s : Shared} {g₀ g : Fz} {am : List Addr} {elt iter : Expr} {x : Str} {px pos : Pos} {ifs : List Expr} {sc : Scope} {xs : List D} {Γ' : Gam} {out : List (Option D)} {It : Addr} {fp wr : List Addr} {Pw : Nat → Value → Prop} {Sw : Nat → Heap → Prop}
    {RR : Value → Addr → Result → Shared → Prop} (O : Okf c fr) (S0 : St fr Γ Δ s₀.heap g₀ am) (it : ItAt c fr false xs s₀.heap g₀ s.heap g It fp wr Pw Sw) (C : CScope c sc) (hx : Sto (cOf c sc) x) (hsz : xs.length ≤ 100000)
    (hΓ : ∀ p ∈ Γ', p ∈ Γ ∧ (p.1, NameKind.free) ∈ sc.names ∧ ∃ d, p.2 = .d d)
    (hol : out.length = xs.length) (hif : ∀ (i : Nat) (d : D) (o : Option D), xs[i]? = some d → out[i]? = some o → EvIfs (cOf c sc) (upd Γ' x (.d d)) [] ifs o.isSome) (he : ∀ (i : Nat) (d v : D), xs[i]? = some d → out[i]? = some (some v) → EvF (cOf c sc) (upd Γ' x (.d d)) [] elt v)
    (hRR : ∀ D C h' g' tk m, s₀.heap.get? C = none → g' C = none → h'.Ns C m → Gr s₀.heap g₀ h' g' → Rep g' (.list (out.filterMap id)) (.ref D) → D ≠ C → RR (.ref D) C (.ok .next) { s with heap := h', toks := tk }) :
    W c fr (newList []) (fun acc s₃ => W c fr (newFunctionEnv sc fr.env.globals (clos fr.env sc.names []) [] fr.env.qual none .none (some fr.env)) (fun cenv s₄ =>
      codeAny (model c.X.prog c.X.w) fr.A (.compStart (.ListComp elt [⟨.Name x px, iter, ifs, 0⟩] sc pos) 0 (.ref It) acc { cenv with scope := relabel sc fr.env }) (RR acc cenv.locals) s₄) s₃) s := by
  have S := S0.gr it.gr
  have F := it.offs S0
  refine wpAny_newList ?_
  refine w_newEnv C.kind fun h₄ k4 hn hcl hap => ?_
  dsimp only at k4 hn hcl ⊢
  generalize hH1 : s.heap.push (lstO [] 0) = H1 at k4 hn hcl hap ⊢
  have hsize : H1.objs.size = s.heap.objs.size + 1 := by rw [← hH1, Heap.size_push]
  have kpush : ∀ b o, s.heap.get? b = some o → H1.get? b = some o := fun b o e => by rw [← hH1]; exact Heap.get?_push_of_some _ e
  have hD1 : H1.get? s.heap.objs.size = some (lstO [] 0) := by rw [← hH1]; exact Heap.get?_push_size _ rfl
  obtain ⟨O', S'⟩ := comp_frame (h₄ := h₄) (L' := H1.objs.size) O S F C (by rw [hsize]; exact Nat.lt_succ_self _) hΓ (fun b o e => k4 b o (kpush b o e)) hn hcl hap
  let fr' := frC fr s.heap g wr sc H1.objs.size
  have hDfresh : s.heap.get? s.heap.objs.size = none := fresh_size
  have hLfresh : s.heap.get? H1.objs.size = none := by
    cases q : s.heap.get? H1.objs.size with
    | none => rfl
    | some o => have : H1.objs.size < s.heap.objs.size := Heap.lt_size q
                rw [hsize] at this; exact absurd this (by omega)
  have hDL : s.heap.objs.size ≠ H1.objs.size := by rw [hsize]; exact Nat.ne_of_lt (Nat.lt_succ_self _)
  have hocD : ∀ a ∈ fr'.oc, s.heap.get? a = none ∧ s.heap.objs.size ≠ a := fun a ha => by
    obtain ⟨q, hq, rfl⟩ := List.mem_map.mp ha
    have h2 := (hcl q.1 q.2 hq).2
    refine ⟨?_, ?_⟩
    · cases q' : s.heap.get? q.2 with
      | none => rfl
      | some o => have : q.2 < s.heap.objs.size := Heap.lt_size q'
                  rw [hsize] at h2
                  exact absurd (Nat.lt_trans h2 this) (by omega)
    · rw [hsize] at h2; intro e; rw [← e] at h2; exact absurd h2 (by omega)
  have wrE : ∀ b ∈ wr, s.heap.get? b ≠ none := it.wl 0 _ it.st
  have fpE : ∀ b ∈ fp, s.heap.get? b ≠ none := fun b hb => (it.fp b hb).elim (wrE b) fun e => by simpa using e
  have hDwr : s.heap.objs.size ∉ wr := fun hm => wrE _ hm hDfresh
  have hDfp : s.heap.objs.size ∉ fp := fun hm => fpE _ hm hDfresh
  have offW : Off fr' g [] wr := ⟨fun b hb => ⟨fun e => wrE b hb (by rw [show b = H1.objs.size from e]; exact hLfresh), fun hm => wrE b hb (hocD b hm).1, by simp, it.free b hb, hideAll_none _ hb⟩⟩
  have hDh : (hideAll s.heap wr).get? s.heap.objs.size = none := none_of_keep (fun b o e => of_hideAll _ e) hDfresh
  have offD : ∀ {g₁ : Fz}, g₁ s.heap.objs.size = none → Off fr' g₁ [] [s.heap.objs.size] := fun hg => ⟨fun b hb => by
    rw [List.mem_singleton.mp hb]
    exact ⟨hDL, fun hm => (hocD _ hm).2 rfl, by simp, hg, hDh⟩⟩
  have loop : codeAny (model c.X.prog c.X.w) fr.A (.compLoop (.ListComp elt [⟨.Name x px, iter, ifs, 0⟩] sc pos) 0 (.ref It) (.ref s.heap.objs.size) fr'.env) (RR (.ref s.heap.objs.size) H1.objs.size) { s with heap := h₄ } := by
    refine codeAny_compLoop_tests (fun k s' => ∃ i h₁ g₁ tk ys n, s' = { s with heap := h₁, toks := tk } ∧ St fr' Γ' [] h₁ g₁ [] ∧ (∀ b ∈ wr, g₁ b = none) ∧ g₁ s.heap.objs.size = none ∧ Sw i h₁ ∧ h₁.get? s.heap.objs.size = some (lstO ys n) ∧ Reps g₁ ((out.take i).filterMap id) ys ∧ i ≤ xs.length ∧ k = xs.length + 1 - i) ?_ (xs.length + 1)
      ⟨0, h₄, g, s.toks, [], 0, rfl, S', it.free, none_of_sub S.sub hDfresh, it.wk.frame _ _ _ it.st fun b hb o e => k4 _ _ (kpush _ _ e), k4 _ _ hD1, by simp; exact .nil, Nat.zero_le _, rfl⟩
    rintro k s' ⟨i, h₁, g₁, tk, ys, n, rfl, S1, hfw, hfD, hst, hD, hR, hil, rfl⟩
    by_cases hlt : i < xs.length
    · refine it.wk.item i _ _ _ hlt hst fun v h3 t3 hv hst3 k3 => ?_
      obtain ⟨d, hd, hr⟩ := it.item i v hv
      obtain ⟨o, ho⟩ : ∃ o, out[i]? = some o := ⟨out[i]'(by rw [hol]; exact hlt), List.getElem?_eq_getElem _⟩
      have offW1 : Off fr' g₁ [] wr := ⟨fun b hb => ⟨(offW.off b hb).1, (offW.off b hb).2.1, (offW.off b hb).2.2.1, hfw b hb, (offW.off b hb).2.2.2.2⟩⟩
      have S3 := S1.off offW1 k3
      have hD3 := k3 _ _ hDwr hD
      refine wpAny_mono (E := fun _ _ => False) (wpAny_assign_Name (w_store O' S3 hx (.d d v (hr.mono S1.gsub)) fun h4 t4 S4 k4' => ?_)) (fun _ _ q => q) fun _ _ q => q.elim
      have hD4 := k4' _ _ hDL (fun hm => (hocD _ hm).2 rfl) hD3
      have hst4 : Sw (i + 1) h4 := it.wk.frame _ _ _ hst3 fun b hb o e => k4' b o (fun q => fpE b hb (by rw [show b = H1.objs.size from q]; exact hLfresh)) (fun hm => fpE b hb (hocD b hm).1) e
      refine wpAny_mono (E := fun _ _ => False) (hif i d o hd ho fr' _ g₁ [] O' S4 _ fun h5 g5 t5 k5 => ?_) (fun _ _ q => q) fun _ _ q => q.elim
      have S5 := S4.gr k5
      have back : ∀ {h : Heap} {g : Fz}, St fr' (upd Γ' x (.d d)) [] h g [] → St fr' Γ' [] h g [] := fun S => S.weak fun q hq => by
        obtain ⟨q1, q2, q3⟩ := hΓ q hq
        exact List.Mem.tail _ (List.mem_filter.mpr ⟨hq, by simpa using sto_not_free C hx q2⟩)
      have nD5 := k5.none hfD hD4
      have nW : ∀ {h h' : Heap} {g₁ g' : Fz} {b : Addr} {i : Nat}, Gr h g₁ h' g' → Sw i h → b ∈ wr → g₁ b = none → g' b = none := fun {h h' g₁ g' b i} k hs hb hg => by
        obtain ⟨o, ho⟩ := Option.ne_none_iff_exists'.mp (it.wl i h hs b hb)
        exact k.none hg ho
      have hst5 : Sw (i + 1) h5 := it.wk.frame _ _ _ hst4 fun b hb o e => k5.hk b o e
      cases hp : o with
      | none =>
        subst hp
        simp only [Bool.false_eq_true, if_false]
        refine ⟨_, by omega, i + 1, h5, g5, t5, ys, n, rfl, back S5, fun b hb => nW k5 hst4 hb (hfw b hb), nD5, hst5, k5.hk _ _ hD4, ?_, hlt, rfl⟩
        have e9 : (out.take (i + 1)).filterMap id = (out.take i).filterMap id := by rw [List.take_add_one, ho, List.filterMap_append]; simp
        rw [e9]
        exact hR.mono k5.gk
      | some ov =>
        subst hp
        simp only [if_true]
        refine wpAny_mono (E := fun _ _ => False) (he i d ov hd ho fr' _ g5 [] O' S5 _ fun y h6 g6 t6 k6 r6 => ?_) (fun _ _ q => q) fun _ _ q => q.elim
        have S6 := S5.gr k6
        have hD6 := k6.hk _ _ (k5.hk _ _ hD4)
        have nD6 := k6.none nD5 (k5.hk _ _ hD4)
        have hys : ys.length = ((out.take i).filterMap id).length := hR.length
        have hys2 : ys.length ≤ sizeLine := by
          rw [hys]
          have e1 := List.length_filterMap_le id (out.take i)
          rw [List.length_take] at e1
          rw [sizeLine_lit]; omega
        refine wpAny_list_append_plain (items := ys.toArray) ⟨n, hD6⟩ (fun h7 hl7 hs7 => ?_) (by rw [List.size_toArray]; exact hys2)
        obtain ⟨n7, ho7⟩ := hl7
        have ho7' : h7.get? s.heap.objs.size = some (lstO (ys ++ [y]) n7) := by rw [ho7]; simp
        have S7 := S6.off (offD nD6) fun b o hb e => (hs7.2 b fun q => hb (List.mem_singleton.mpr q)).trans e
        have hst6 : Sw (i + 1) h6 := it.wk.frame _ _ _ hst5 fun b hb o e => k6.hk b o e
        refine ⟨_, by omega, i + 1, h7, g6, t6, ys ++ [y], n7, rfl, back S7, fun b hb => nW k6 hst5 hb (nW k5 hst4 hb (hfw b hb)), nD6, it.wk.frame _ _ _ hst6 (fun b hb o e => (hs7.2 b fun q => hDfp (by rw [← show b = s.heap.objs.size from q]; exact hb)).trans e), ho7', ?_, hlt, rfl⟩
        have e9 : (out.take (i + 1)).filterMap id = (out.take i).filterMap id ++ [ov] := by rw [List.take_add_one, ho, List.filterMap_append]; simp
        rw [e9]
        exact ((hR.mono k5.gk).mono k6.gk).append (.cons r6 .nil)
    · have hin : i = xs.length := by omega
      subst hin
      refine it.wk.done _ _ _ hst fun h3 t3 k3 => ?_
      have offW1 : Off fr' g₁ [] wr := ⟨fun b hb => ⟨(offW.off b hb).1, (offW.off b hb).2.1, (offW.off b hb).2.2.1, hfw b hb, (offW.off b hb).2.2.2.2⟩⟩
      have S3 := S1.off offW1 k3
      have hD3 := k3 _ _ hDwr hD
      rw [← hol, List.take_length] at hR
      have up0 : ∀ b o, s₀.heap.get? b = some o → (hideAll s.heap wr).get? b = some o := fun b o e => hideAll_get _ (it.gr.hk b o e) fun hm => by rw [it.new b hm] at e; cases e
      obtain ⟨m3, hn3, _⟩ := S3.loc
      refine hRR _ _ h3 (g₁.add s.heap.objs.size (lstO ys n)) t3 m3 (none_of_keep it.gr.hk hLfresh) ?_ hn3 ⟨fun b o e => S3.keep b o (up0 b o e), fun b o e => Fz.add_keep hfD _ _ (S3.gsub b o (it.gr.gk b o e)), fun b o e => ?_, fun b o e => ?_⟩ (.list _ _ ys n (Fz.add_self _ _ _) (hR.mono (Fz.add_keep hfD))) hDL
      · unfold Fz.add; rw [if_neg (Ne.symm hDL)]; exact S3.gL
      · unfold Fz.add at e
        by_cases hb : b = s.heap.objs.size
        · rw [if_pos hb] at e; cases e; rw [hb]; exact hD3
        · rw [if_neg hb] at e; exact S3.sub b o e
      · unfold Fz.add at e
        by_cases hb : b = s.heap.objs.size
        · rw [hb]; exact .inr (none_of_keep it.gr.hk hDfresh)
        · rw [if_neg hb] at e
          rcases S3.own b o e with q | q
          · exact it.gr.own b o q
          · exact .inr (none_of_keep up0 q)
  refine codeAny_compStart_list loop (it.wk.self 0 _ _ _ ?_ loop)
  exact it.wk.frame _ _ _ it.st fun b hb o e => k4 _ _ (kpush _ _ e)
theorem ev_compI {elt iter : Expr} {x : Str} {px pos : Pos} {ifs : List Expr} {sc : Scope} {xs : List D} {Γ' : Gam} {out : List (Option D)} (hi : EvI false c Γ Δ iter xs) (C : CScope c sc) (hx : Sto (cOf c sc) x) (hsz : xs.length ≤ 100000)
    (hΓ : ∀ p ∈ Γ', p ∈ Γ ∧ (p.1, NameKind.free) ∈ sc.names ∧ ∃ d, p.2 = .d d)
    (hol : out.length = xs.length) (hif : ∀ (i : Nat) (d : D) (o : Option D), xs[i]? = some d → out[i]? = some o → EvIfs (cOf c sc) (upd Γ' x (.d d)) [] ifs o.isSome) (he : ∀ (i : Nat) (d v : D), xs[i]? = some d → out[i]? = some (some v) → EvF (cOf c sc) (upd Γ' x (.d d)) [] elt v)
    (hs : ∀ env x, foldedSetIterable iter env x = pure x := by intro _ _; rfl) : EvF c Γ Δ (.ListComp elt [⟨.Name x px, iter, ifs, 0⟩] sc pos) (.list (out.filterMap id)) := fun fr s g am O S Q hQ => by
  rw [eval_ListComp]
  refine wpAny_comprehension_free (use := none) rfl (hs _) (closureFor_clos (O.closed C)) C.kind C.hnames (hi fr s g am O S _ fun It fp wr Pw Sw h1 g1 t1 it => ?_)
  refine w_compI O S it C hx hsz hΓ hol hif he (RR := fun acc C => compPost _ _ _ none Q acc C) fun D C h' g' tk m hC hgC hn k r hDC => ?_
  exact ⟨m, hn, fun h'' hs => hQ _ h'' g' tk (gr_other k hs hC hgC) r⟩

theorem ex_assign_compI {y : Str} {py spos : Pos} {elt iter : Expr} {x : Str} {px pos : Pos} {ifs : List Expr} {sc : Scope} {xs : List D} {Γ' : Gam} {out : List (Option D)} (hi : EvI false c Γ Δ iter xs) (C : CScope c sc) (hx : Sto (cOf c sc) x) (hsz : xs.length ≤ 100000)
    (hΓ : ∀ p ∈ Γ', p ∈ Γ ∧ (p.1, NameKind.free) ∈ sc.names ∧ ∃ d, p.2 = .d d)
    (hol : out.length = xs.length) (hif : ∀ (i : Nat) (d : D) (o : Option D), xs[i]? = some d → out[i]? = some o → EvIfs (cOf c sc) (upd Γ' x (.d d)) [] ifs o.isSome) (he : ∀ (i : Nat) (d v : D), xs[i]? = some d → out[i]? = some (some v) → EvF (cOf c sc) (upd Γ' x (.d d)) [] elt v)
    (hy : c.sc.names.lookup y = some .local) (h : P .next (upd Γ y (.d (.list (out.filterMap id)))) Δ)
    (hl : (py.line == pos.line) = true := by rfl) (hno : (sc.names.any fun (n, k) => n == y && (k == .local || k == .cell)) = false := by decide +kernel)
    (hs : ∀ env x, foldedSetIterable iter env x = pure x := by intro _ _; rfl) : Ex1 c Γ Δ (.Assign [.Name y py] (.ListComp elt [⟨.Name x px, iter, ifs, 0⟩] sc pos) spos) P := fun fr s g am O S Q hQ => by
  have hsw : swapsWith (.ListComp elt [⟨.Name x px, iter, ifs, 0⟩] sc pos) (some (.Name y py)) spos.line fr.env = pure true := by
    show (pure (fr.env.blockKind == .function && fr.env.kindOf y == some .local && py.line == pos.line && !(sc.names.any fun (n, k) => n == y && (k == .local || k == .cell))) : Sem Bool) = _
    have h1 : fr.env.blockKind = .function := by unfold Env.blockKind; rw [O.sc, O.kind]; rfl
    have h2 : fr.env.kindOf y = some .local := by unfold Env.kindOf; rw [O.sc]; exact hy
    rw [h1, h2, hl, hno]; rfl
  unfold W
  rw [exec_Assign_Name_used _ _ _ _ hsw]
  refine wpAny_bind (wpAny_standAt (wpAny_bind ?_))
  show wpAny _ fr.A (do let _ ← comprehension (.ListComp elt [⟨.Name x px, iter, ifs, 0⟩] sc pos) sc fr.env _ (newList []) false (eval iter fr.env) (some (assign (.Name y py) fr.env))) _ _ s
  refine wpAny_bind (wpAny_mono (wpAny_comprehension_free (use := some (assign (.Name y py) fr.env)) (Q := fun _ s' => Q .next s') rfl (hs _) (closureFor_clos (O.closed C)) C.kind C.hnames
    (hi fr s g am O S _ fun It fp wr Pw Sw h1 g1 t1 it => ?_)) (fun _ s' hq => wpAny_pure (wpAny_pure hq)) fun _ _ e => e)
  refine w_compI O S it C hx hsz hΓ hol hif he (RR := fun acc C => compPost _ _ _ (some (assign (.Name y py) fr.env)) (fun _ s' => Q .next s') acc C) fun D C h' g' tk m hC hgC hn k r hDC => ?_
  have S1 := S.gr k
  have hCL : C ≠ fr.env.locals := fun e => by
    obtain ⟨m', hns, _⟩ := S.loc
    obtain ⟨o, ho⟩ := Heap.Ns.get hns
    rw [← e, hC] at ho; cases ho
  have hCo : C ∉ fr.oc := fun hm => by
    obtain ⟨⟨v, o, ho, _⟩, _⟩ := S.ocs C hm
    rw [hC] at ho; cases ho
  have hCm : C ∉ am := fun hm => by
    obtain ⟨i, hi, q⟩ := List.mem_iff_getElem.mp hm
    obtain ⟨⟨vs, n, ho, _⟩, _⟩ := S.muts i C _ (by rw [List.getElem?_eq_getElem hi, q]) (List.getElem?_eq_getElem (S.len ▸ hi))
    rw [hC] at ho; cases ho
  show wpAny _ fr.A (assign (.Name y py) fr.env (.ref D)) _ _ _
  refine wpAny_assign_Name (w_store O S1 (.inl hy) (.d _ _ r) fun h2 t2 S2 k2 => ?_)
  refine ⟨m, hn.at' fun o e => k2 _ o hCL hCo e, fun h3 hs3 => ?_⟩
  have S3 := S2.off (wr := [C]) ⟨fun b hb => by rw [List.mem_singleton.mp hb]; exact ⟨hCL, hCo, hCm, hgC, none_of_keep S.keep hC⟩⟩ fun b o hb e => (hs3.2 b fun q => hb (List.mem_singleton.mpr q)).trans e
  exact hQ .next .next _ _ h3 g' am t2 h .next S3

end
end Mine

set_option maxRecDepth 100000
set_option autoImplicit false
set_option linter.unusedVariables false
set_option maxHeartbeats 1000000
namespace Mine
open PySem PySem.W PySem.Calls PyProof.Rows
section
variable {c : Cfg} {Γ : Gam} {Δ : Del} {P : Post}
theorem filterX {α : Type} (p : α → Bool) (G : α → D) (l : List α) : (l.map fun a => if p a then some (G a) else none).filterMap id = (l.filter p).map G := by
  induction l with
  | nil => rfl
  | cons a r ih =>
    simp only [List.map_cons, List.filterMap_cons, List.filter_cons]
    cases p a <;> simp [ih]
theorem outX {α : Type} {enc : α → D} {p : α → Bool} {G : α → D} {l : List α} {i : Nat} {d : D} {o : Option D} (h1 : (l.map enc)[i]? = some d) (h2 : (l.map fun a => if p a then some (G a) else none)[i]? = some o) :
    ∃ a ∈ l, d = enc a ∧ o = if p a then some (G a) else none := by
  rw [List.getElem?_map] at h1 h2
  cases q : l[i]? with
  | none => rw [q] at h1; cases h1
  | some a =>
    rw [q] at h1 h2
    injection h1 with h1; injection h2 with h2
    exact ⟨a, List.mem_of_getElem? q, h1.symm, h2.symm⟩
/-- comprehensions over a list of anything, no injection asked -/
theorem ev_compX {α : Type} (enc G : α → D) (l : List α) (p : α → Bool) {elt iter : Expr} {x : Str} {px pos : Pos} {ifs : List Expr} {sc : Scope} (Γ' : Gam) (hi : EvI false c Γ Δ iter (l.map enc)) (C : CScope c sc) (hx : Sto (cOf c sc) x) (hsz : l.length ≤ 100000)
    (hΓ : ∀ p ∈ Γ', p ∈ Γ ∧ (p.1, NameKind.free) ∈ sc.names ∧ ∃ d, p.2 = .d d)
    (hif : ∀ a ∈ l, EvIfs (cOf c sc) (upd Γ' x (.d (enc a))) [] ifs (p a)) (he : ∀ a ∈ l, p a = true → EvF (cOf c sc) (upd Γ' x (.d (enc a))) [] elt (G a))
    (hs : ∀ env x, foldedSetIterable iter env x = pure x := by intro _ _; rfl) : EvF c Γ Δ (.ListComp elt [⟨.Name x px, iter, ifs, 0⟩] sc pos) (.list ((l.filter p).map G)) := by
  rw [← filterX p G l]
  refine ev_compI hi C hx (by simpa using hsz) hΓ (by simp) (fun i d o h1 h2 => ?_) (fun i d v h1 h2 => ?_) hs
  · obtain ⟨a, ha, rfl, rfl⟩ := outX h1 h2
    have := hif a ha
    cases q : p a <;> rw [q] at this <;> simpa using this
  · obtain ⟨a, ha, rfl, h3⟩ := outX h1 h2
    cases q : p a <;> rw [q] at h3
    · cases h3
    · simp at h3; subst h3; exact he a ha q
theorem ev_compY {α : Type} (enc G : α → D) (l : List α) {elt iter : Expr} {x : Str} {px pos : Pos} {sc : Scope} (Γ' : Gam) (hi : EvI false c Γ Δ iter (l.map enc)) (C : CScope c sc) (hx : Sto (cOf c sc) x) (hsz : l.length ≤ 100000)
    (hΓ : ∀ p ∈ Γ', p ∈ Γ ∧ (p.1, NameKind.free) ∈ sc.names ∧ ∃ d, p.2 = .d d)
    (he : ∀ a ∈ l, EvF (cOf c sc) (upd Γ' x (.d (enc a))) [] elt (G a))
    (hs : ∀ env x, foldedSetIterable iter env x = pure x := by intro _ _; rfl) : EvF c Γ Δ (.ListComp elt [⟨.Name x px, iter, [], 0⟩] sc pos) (.list (l.map G)) := by
  have := ev_compX (ifs := []) enc G l (fun _ => true) (pos := pos) (px := px) Γ' hi C hx hsz hΓ (fun a _ => evifs_nil) (fun a ha _ => he a ha) hs
  rwa [show l.filter (fun _ => true) = l by simp] at this
theorem ex_assign_compX {α : Type} (enc G : α → D) (l : List α) (p : α → Bool) {y : Str} {py spos : Pos} {elt iter : Expr} {x : Str} {px pos : Pos} {ifs : List Expr} {sc : Scope} (Γ' : Gam) (hi : EvI false c Γ Δ iter (l.map enc)) (C : CScope c sc) (hx : Sto (cOf c sc) x) (hsz : l.length ≤ 100000)
    (hΓ : ∀ p ∈ Γ', p ∈ Γ ∧ (p.1, NameKind.free) ∈ sc.names ∧ ∃ d, p.2 = .d d)
    (hif : ∀ a ∈ l, EvIfs (cOf c sc) (upd Γ' x (.d (enc a))) [] ifs (p a)) (he : ∀ a ∈ l, p a = true → EvF (cOf c sc) (upd Γ' x (.d (enc a))) [] elt (G a))
    (hy : c.sc.names.lookup y = some .local) (h : P .next (upd Γ y (.d (.list ((l.filter p).map G)))) Δ)
    (hl : (py.line == pos.line) = true := by rfl) (hno : (sc.names.any fun (n, k) => n == y && (k == .local || k == .cell)) = false := by decide +kernel)
    (hs : ∀ env x, foldedSetIterable iter env x = pure x := by intro _ _; rfl) : Ex1 c Γ Δ (.Assign [.Name y py] (.ListComp elt [⟨.Name x px, iter, ifs, 0⟩] sc pos) spos) P := by
  rw [← filterX p G l] at h
  refine ex_assign_compI hi C hx (by simpa using hsz) hΓ (by simp) (fun i d o h1 h2 => ?_) (fun i d v h1 h2 => ?_) hy h hl hno hs
  · obtain ⟨a, ha, rfl, rfl⟩ := outX h1 h2
    have := hif a ha
    cases q : p a <;> rw [q] at this <;> simpa using this
  · obtain ⟨a, ha, rfl, h3⟩ := outX h1 h2
    cases q : p a <;> rw [q] at h3
    · cases h3
    · simp at h3; subst h3; exact he a ha q
theorem ex_assign_compY {α : Type} (enc G : α → D) (l : List α) {y : Str} {py spos : Pos} {elt iter : Expr} {x : Str} {px pos : Pos} {sc : Scope} (Γ' : Gam) (hi : EvI false c Γ Δ iter (l.map enc)) (C : CScope c sc) (hx : Sto (cOf c sc) x) (hsz : l.length ≤ 100000)
    (hΓ : ∀ p ∈ Γ', p ∈ Γ ∧ (p.1, NameKind.free) ∈ sc.names ∧ ∃ d, p.2 = .d d)
    (he : ∀ a ∈ l, EvF (cOf c sc) (upd Γ' x (.d (enc a))) [] elt (G a))
    (hy : c.sc.names.lookup y = some .local) (h : P .next (upd Γ y (.d (.list (l.map G)))) Δ)
    (hl : (py.line == pos.line) = true := by rfl) (hno : (sc.names.any fun (n, k) => n == y && (k == .local || k == .cell)) = false := by decide +kernel)
    (hs : ∀ env x, foldedSetIterable iter env x = pure x := by intro _ _; rfl) : Ex1 c Γ Δ (.Assign [.Name y py] (.ListComp elt [⟨.Name x px, iter, [], 0⟩] sc pos) spos) P :=
  ex_assign_compX (ifs := []) enc G l (fun _ => true) Γ' hi C hx hsz hΓ (fun a _ => evifs_nil) (fun a ha _ => he a ha) hy (by rwa [show l.filter (fun _ => true) = l by simp]) hl hno hs
end
end Mine

set_option maxRecDepth 100000
set_option autoImplicit false
set_option linter.unusedVariables false
set_option maxHeartbeats 1000000
namespace Mine
open PySem PySem.W PySem.Calls PyProof.Rows
/-- the law is entered with its list of ints -/
theorem law_enter {X : GCtx} {dr : DefRec} {n : Nat} {x : Str} {A : Around} {s : Shared} {a fa : Addr} {o : Obj} {pm code doc : Value} {vs : List Value} {ns : List Int} {Q : Value → Shared → Prop} {E : Value → Shared → Prop}
    (h2 : s.heap.get? fa = some o) (h3 : o.data = .func (docDef dr.name dr.params dr.body dr.scope pm code doc)) (h4 : s.heap.CodeRec code dr.name) (G : Glo X s.heap) (hA : A.handled = none) (hfr : A.frames = some []) (hdp : A.depth + (n + 1) < recursionLimit) (hu : A.units + 8 * (n + 1) + 200 < cLine)
    (hl : s.heap.IsList a vs.toArray) (hI : IntsAre vs ns)
    (hbind : ∀ pm code doc v, bindArgs (docDef dr.name dr.params dr.body dr.scope pm code doc) ⟨[v], []⟩ = pure [(x, v)]) (hloc : dr.scope.names.lookup x = some .local) (hnc : ∀ x ∈ ownCells dr.scope, dr.scope.names.lookup x = some .cell) (hnd : ((cellsFrom 0 dr.scope.names []).map (·.1)).Nodup)
    (hnf : ∀ p ∈ dr.scope.names, p.2 ≠ .free) (hk : dr.scope.kind = .function) (hco : dr.scope.isCoroutine = false) (hgen : dr.scope.isGenerator = false)
    (h : Exs ⟨X, n, dr.scope, ownCells dr.scope, true, true⟩ [(x, .arg ns)] [] dr.body fun o _ _ => o = .ret (.bool true))
    (hQ : ∀ h' tk, (∀ b o, s.heap.get? b = some o → h'.get? b = some o) → Q (.bool true) { s with heap := h', toks := tk }) : wpAny (model X.prog X.w) A (call (.ref fa) [.ref a]) Q E s := by
  obtain ⟨ol, hol, hlc, nl, hld⟩ := hl
  let g : Fz := fun b => if b = a then some ol else none
  have hs : ∀ b o, g b = some o → s.heap.get? b = some o := fun b o e => by
    show s.heap.get? b = some o
    have e : (if b = a then some ol else none) = some o := e
    split at e
    · rename_i q; rw [q, hol]; exact e
    · cases e
  have ga : g a = some ol := if_pos rfl
  refine wpAny_mono (E := fun _ _ => False) (Q := Q) ?_ (fun _ _ q => q) fun _ _ q => q.elim
  refine wpAny_call (codeAny_call_cells (fd := docDef dr.name dr.params dr.body dr.scope pm code doc) (body := dr.body) (binds := [(x, .ref a)]) (by omega) h2 h3 G.nolimit h4 rfl (hbind pm code doc _) rfl (fun y hy => ?_) (fun s₁ ic => ?_) hco hgen hk)
  · rw [List.mem_singleton.mp hy]; exact .inl hloc
  · obtain ⟨h₁, tk, rfl, hkeep⟩ := ic.done
    let env : Env := callEnvC (docDef dr.name dr.params dr.body dr.scope pm code doc) s.heap.objs.size fa
    let fr : Frm := ⟨A.deeper env, env, s.heap, g, env.cells.map (·.2), s.heap⟩
    have hL : s.heap.get? s.heap.objs.size = none := fresh_size
    have fresh : ∀ b, s.heap.objs.size ≤ b → s.heap.get? b = none := fun b hb => by
      cases q : s.heap.get? b with
      | none => rfl
      | some o => exact absurd (Heap.lt_size q) (Nat.not_lt.mpr hb)
    have gfresh : ∀ b, s.heap.get? b = none → g b = none := fun b hb => by
      cases q : g b with
      | none => rfl
      | some o => rw [hs b o q] at hb; cases hb
    have O : Okf ⟨X, n, dr.scope, ownCells dr.scope, true, true⟩ fr := by
      refine ⟨fun _ => hA, fun _ => ⟨?_, rfl⟩, ?_, ?_, rfl, hk, rfl, rfl, G, fun _ _ e => e, fun x hx => ⟨hnc x hx, ?_⟩, fun x hx => ?_, fun x y a e1 e2 _ => pairwise_uniq ic.apart e1 e2⟩
      · show A.frames.map (env :: ·) = some [env]
        rw [hfr]; rfl
      · have e : fr.A.depth = A.depth + 1 := rfl
        have e2 : (⟨X, n, dr.scope, ownCells dr.scope, true, true⟩ : Cfg).n = n := rfl
        rw [e, e2]; omega
      · have e : fr.A.units = A.units + 3 := rfl
        have e2 : (⟨X, n, dr.scope, ownCells dr.scope, true, true⟩ : Cfg).n = n := rfl
        rw [e, e2]; omega
      · obtain ⟨p, hp, rfl⟩ := List.mem_map.mp hx
        obtain ⟨hp1, hp2⟩ := List.mem_filter.mp hp
        have e : p.2 = .cell := by simpa using hp2
        have this : (p.1, NameKind.cell) ∈ dr.scope.names := by rw [← e]; exact hp1
        obtain ⟨a, ha⟩ := Option.isSome_iff_exists.mp (mem_cellsFrom (x := p.1) dr.scope.names (s.heap.objs.size + 1) [] (.inl this))
        exact ⟨a, ha, List.mem_map.mpr ⟨_, mem_of_lookup ha, rfl⟩⟩
      · rcases hx with e | e
        · obtain ⟨a, ha⟩ := Option.isSome_iff_exists.mp (mem_cellsFrom (x := x) dr.scope.names (s.heap.objs.size + 1) [] (.inl (mem_of_lookup e)))
          exact ⟨a, ha, .inl (List.mem_map.mpr ⟨_, mem_of_lookup ha, rfl⟩)⟩
        · exact absurd rfl (hnf _ (mem_of_lookup e))
    have S : St fr [(x, .arg ns)] [] h₁ g [] := by
      refine ⟨hkeep, fun b o e => hkeep b o (hs b o e), fun _ _ e => e, fun _ _ e => .inl e, gfresh _ hL, hL, ⟨_, ic.toInCall.ns, fun p hp => ?_⟩, fun a ha => ?_, rfl, List.nodup_nil, fun i a ds h1 _ => by simp at h1⟩
      · rw [List.mem_singleton.mp hp]
        exact ⟨.ref a, .arg ns a ol vs nl ga hlc hld hI, .loc hloc (bindL_at (kindOf := env.kindOf) hloc _ _ (by simp) (by simp))⟩
      · obtain ⟨q, hq, rfl⟩ := List.mem_map.mp ha
        have hlk : env.cells.lookup q.1 = some q.2 := lookup_of_mem_nodup (cellsFrom_names dr.scope.names 0 (s.heap.objs.size + 1) [] [] rfl ▸ hnd) hq
        have hab := ic.above _ _ hq
        have hn := fresh q.2 (Nat.le_of_lt hab)
        exact ⟨⟨_, ic.cell _ _ hlk⟩, gfresh _ hn, hn, Nat.ne_of_gt hab, by simp⟩
    refine wpAny_mono (h fr _ g [] O S (fun f s' => ∃ v, f = .ret v ∧ Q v s') fun o f Γ' Δ' h' g' am' tk' hp hf S' => ?_) (fun f s' hq => ?_) fun _ _ x => x.elim
    · cases hf with
      | ret d' v r =>
        cases hp
        cases r
        exact ⟨_, rfl, hQ h' tk' S'.keep⟩
      | _ => cases hp
    · obtain ⟨v, rfl, hq⟩ := hq; exact hq

/-! the world of the top -/
theorem tm_of {X : GCtx} {K : Frag} {h : Heap} {a : Addr} {es : Array DictEntry} {ep : Nat} (XI : K.In h) (G : h.Ns mainGlobals X.mg) (e1 : nsIn K mainGlobals (Str.ofString "_special_chars_map") = some (some (.ref a))) (hsm : (a == sysModules) = false)
    (e2 : K.lookup a = some { cls := .type "dict", data := .dict es ep }) (hc : chkTM es = true) : TM X h := by
  refine ⟨a, mg_of XI G e1, hsm, fun k => findBy (intKind X.prog X.w).is es k, ⟨_, es, ep, XI _ _ e2, ⟨rfl, rfl, rfl⟩, rfl, fun e he => ?_, fun k => rfl⟩, fun k h1 h2 => ?_⟩
  · have := Array.all_eq_true'.mp hc e he
    split at this
    · rename_i k t hk
      simp only [Bool.and_eq_true, beq_iff_eq] at this
      exact ⟨k, by rw [hk]; simp [intKind, Value.isInt], this.1⟩
    · cases this
  · unfold findBy
    have : es.find? (fun e => (intKind X.prog X.w).is (k : Int) e.key) = none := by
      rw [Array.find?_eq_none]
      intro e he hi
      have := Array.all_eq_true'.mp hc e he
      split at this
      · rename_i k' t hk
        rw [hk] at hi
        simp [intKind, Value.isInt] at hi
        simp only [Bool.and_eq_true, Bool.not_eq_true', Bool.and_eq_false_iff, decide_eq_false_iff_not] at this
        omega
      · cases this
    simp [this]
theorem tm_chk {X : GCtx} {K : Frag} {h : Heap} (XI : K.In h) (G : h.Ns mainGlobals X.mg) (e : chkK K = true) : TM X h := by
  unfold chkK at e
  split at e
  · rename_i a e1
    simp only [Bool.and_eq_true, Bool.not_eq_true'] at e
    obtain ⟨e0, e⟩ := e
    split at e
    · rename_i t es n sl e2
      simp only [Bool.and_eq_true, beq_iff_eq, Array.isEmpty_iff] at e
      obtain ⟨⟨rfl, rfl⟩, e4⟩ := e
      exact tm_of XI G e1 e0 e2 e4
    · cases e
  · cases e
theorem glo_of {p : Program} {loose : List Str} {mean : ExcName → Option Value} {h : Heap} {X : GCtx} (T : Top p loose mean X.mg X.mb h) (hd : ∀ d ∈ X.defs, d ∈ recsOf p) (hb : ∀ x ∈ X.bl, x ≠ Str.ofString "__name__" ∧ x ∉ startupNames ∧ x ∉ loose ∧ x ∉ (recsOf p).map (·.name) ∧ x ∉ (litsOf p).map (·.1) ∧ x ∉ (clssOf p loose).map (·.name)) (htm : X.tm h) : Glo X h where
  g := T.g
  b := T.b
  nolimit := T.nolimit
  fn := fun d hm => T.fn d (hd d hm)
  bl := fun x hx => let ⟨h0, h1, h2, h3, h4, h5⟩ := hb x hx; ⟨T.free x h1 h2 h3 h4 h5, T.builtins x h0⟩
  tm := htm
end Mine

set_option maxRecDepth 100000
set_option autoImplicit false
set_option linter.unusedVariables false
namespace Mine
open PySem PySem.W PySem.Calls PyProof.Rows

/-- a def of the program by its place -/
def dfn (p : Program) (k : Nat) : DefRec := match p.main.body[k]? with
  | some (.FunctionDef name args body _ _ _ scope _ _ pos) => ⟨name, args, body, scope, pos⟩
  | _ => ⟨"", { posonlyargs := [], args := [], vararg := none, kwonlyargs := [], kw_defaults := [], kwarg := none, defaults := [] }, [], { kind := .function, names := [], isGenerator := false, isCoroutine := false }, ⟨0, 0, 0, 0⟩⟩

/-- the figures to the base 16, the highest in front -/
noncomputable def hx (n : Nat) : List Nat := if h : n = 0 then [] else hx (n / 16) ++ [n % 16]
termination_by n
decreasing_by omega
theorem hx_zero : hx 0 = [] := by rw [hx]; simp
theorem hx_pos {n : Nat} (h : n ≠ 0) : hx n = hx (n / 16) ++ [n % 16] := by rw [hx]; simp [h]
def apB (n : Nat) : List UInt8 := (hx n).map fun d => UInt8.ofNat (65 + d)

abbrev pgm : Program := PySem.Challenge.pw_in0243_01
def defsX : List DefRec := [dfn pgm 2, dfn pgm 5, dfn pgm 8, dfn pgm 10, dfn pgm 11, dfn pgm 13, dfn pgm 14, dfn pgm 16, dfn pgm 17, dfn pgm 18, dfn pgm 19, dfn pgm 20, dfn pgm 21, dfn pgm 22, dfn pgm 23, dfn pgm 24, dfn pgm 25]
def blX : List Str := ["int", "abs", "divmod", "len", "chr", "ord", "range", "sorted", "isinstance", "object", "str", "bool", "IndexError"].map Str.ofString
structure IsX (X : GCtx) : Prop where
  d : X.defs = defsX
  b : X.bl = blX
theorem IsX.mem {X : GCtx} (I : IsX X) {k : Nat} {r : DefRec} (h : defsX[k]? = some r) : r ∈ X.defs := by rw [I.d]; exact List.mem_of_getElem? h
theorem IsX.bm {X : GCtx} (I : IsX X) {k : Nat} {r : Str} (h : blX[k]? = some r) : r ∈ X.bl := by rw [I.b]; exact List.mem_of_getElem? h

theorem cut_ap (m : Nat) (h : m < 16) : cut [65, 66, 67, 68, 69, 70, 71, 72, 73, 74, 75, 76, 77, 78, 79, 80] (some (m : Int)) (some ((m : Int) + 1)) = [UInt8.ofNat (65 + m)] := by
  have : m = 0 ∨ m = 1 ∨ m = 2 ∨ m = 3 ∨ m = 4 ∨ m = 5 ∨ m = 6 ∨ m = 7 ∨ m = 8 ∨ m = 9 ∨ m = 10 ∨ m = 11 ∨ m = 12 ∨ m = 13 ∨ m = 14 ∨ m = 15 := by omega
  rcases this with h | h | h | h | h | h | h | h | h | h | h | h | h | h | h | h <;> subst h <;> rfl

theorem apB_step (n : Nat) (h : n ≠ 0) (acc : List UInt8) : apB n ++ acc = apB (n / 16) ++ ([UInt8.ofNat (65 + n % 16)] ++ acc) := by
  unfold apB
  rw [hx_pos h]; simp

theorem noPy {a b : Int} (h : b.natAbs < 2 ^ 30) : Builtin.divisionGoesByPylong a b = false := by
  unfold Builtin.divisionGoesByPylong
  have : b.natAbs.log2 / 30 = 0 := by
    by_cases hz : b.natAbs = 0
    · rw [hz]; decide
    · have := (Nat.log2_lt hz).mpr h; omega
  simp only [this]
  by_cases hz : (b == 0) = true
  · simp [hz]
  · simp [hz]
theorem sp_Int2AP {X : GCtx} (I : IsX X) (N : Nat) (hN : N < 2 ^ 20) : Spec X "Int2AP" 1 [.int N] (.bytes (apB N)) := by
  refine spec_def (dr := dfn pgm 2) (ps := ["num"]) (I.mem (k := 0) rfl) rfl (fun pm code doc vs h => ?_) (by decide) (by decide +kernel) (by decide +kernel) (by decide +kernel) (by decide +kernel) rfl rfl rfl ?_
  · match vs, h with
    | [v], _ => rfl
  refine exs_cons (ex_assign ev_bytes (.inl rfl) ?_)
  refine exs_cons (ex_assign ev_bytes (.inl rfl) ?_)
  refine exs_cons (ex_assign (ev_int_of (ev_b1 (ev_nm rfl).ev b_abs rfl (I.bm (k := 1) rfl) (by decide +kernel)).ev rfl (I.bm (k := 0) rfl)) (.inl rfl) ?_)
  refine exs_cons (ex_whileS (σ := Nat × List UInt8) (fun z => [("num", .d (.int z.1)), ("val", .d (.bytes z.2)), ("AP", .d (.bytes [65, 66, 67, 68, 69, 70, 71, 72, 73, 74, 75, 76, 77, 78, 79, 80]))]) (fun _ => []) (fun z => z.1)
    (fun z => z.1 ≤ N ∧ apB z.1 ++ z.2 = apB N ∧ z.2.length + z.1 ≤ N) (N, []) ⟨Nat.le_refl _, by simp, by simp⟩ ?_ rfl ?_)
  · rw [if_neg (by omega)]
    exact sub_cons rfl (sub_cons rfl (sub_cons rfl sub_nil))
  rintro ⟨m, acc⟩ ⟨h1, h2, h3⟩
  refine ⟨(m : Int) != 0, et_of (ev_nm rfl).ev (by exact rfl), fun e => ?_, fun e => ?_⟩
  · have hm : m = 0 := by simpa using e
    subst hm
    refine exs_cons (ex_ret (ev_nm rfl) ?_)
    show _ = _
    rw [← h2]; simp [apB, hx_zero]
  · have hm : m ≠ 0 := by simpa using e
    refine exs_cons (ex_pair (ev_divmod (ev_nm rfl).ev ev_int.ev (by decide) (noPy (by decide)) rfl (I.bm (k := 2) rfl)).ev (.inl rfl) (.inl rfl) ?_)
    have e1 : ((m : Int).fdiv 16) = ((m / 16 : Nat) : Int) := by rw [Int.fdiv_eq_ediv_of_nonneg _ (by decide)]; rfl
    have e2 : ((m : Int).fmod 16) = ((m % 16 : Nat) : Int) := by rw [Int.fmod_eq_emod_of_nonneg _ (by decide)]; rfl
    dsimp only
    rw [e1, e2]
    refine exs_cons (ex_assign (ev_bin (ev_sl_bytes (ev_nm rfl).ev (.some (ev_nm rfl).ev) (.some (ev_bin (ev_nm rfl).ev ev_int.ev op_add).ev) (by decide)).ev (ev_nm rfl).ev (op_addb ?_)) (.inl rfl) ?_)
    · rw [cut_ap _ (by omega)]; simp only [List.length_cons, List.length_nil]; have : acc.length + m ≤ N := h3; omega
    refine exs_nil ⟨(m / 16, [UInt8.ofNat (65 + m % 16)] ++ acc), ?_, ?_, rfl, ?_, ?_, ?_⟩
    · show m / 16 < m; omega
    · rw [cut_ap _ (by omega)]
      exact sub_cons rfl (sub_cons rfl (sub_cons rfl sub_nil))
    · show m / 16 ≤ N; omega
    · show apB (m / 16) ++ ([UInt8.ofNat (65 + m % 16)] ++ acc) = _
      rw [← apB_step m hm, h2]
    · show ([UInt8.ofNat (65 + m % 16)] ++ acc).length + m / 16 ≤ N; have : acc.length + m ≤ N := h3; simp only [List.length_append, List.length_cons, List.length_nil]; omega
end Mine

set_option maxRecDepth 100000
set_option autoImplicit false
set_option linter.unusedVariables false
namespace Mine
open PySem PySem.W PySem.Calls PyProof.Rows

/-- the word of a number -/
def wd (n : Nat) : List Nat := (hx n).map fun d => 65 + d
theorem hx_lt : ∀ n, ∀ d ∈ hx n, d < 16 := fun n => by
  induction n using Nat.strongRecOn with
  | _ n ih =>
    intro d hd
    by_cases h : n = 0
    · subst h; rw [hx_zero] at hd; cases hd
    · rw [hx_pos h] at hd
      rcases List.mem_append.mp hd with hd | hd
      · exact ih (n / 16) (by omega) d hd
      · rw [List.mem_singleton.mp hd]; omega
theorem hx_len : ∀ k n, n < 16 ^ k → (hx n).length ≤ k := fun k => by
  induction k with
  | zero => intro n h; have : n = 0 := by omega
            subst this; rw [hx_zero]; exact Nat.le_refl _
  | succ k ih =>
    intro n h
    by_cases h0 : n = 0
    · subst h0; rw [hx_zero]; exact Nat.zero_le _
    · rw [hx_pos h0, List.length_append]
      have := ih (n / 16) (by rw [Nat.pow_succ] at h; omega)
      simp only [List.length_cons, List.length_nil]; omega
theorem apB_len {n : Nat} (h : n < 2 ^ 20) : (apB n).length ≤ 5 := by
  unfold apB; rw [List.length_map]; exact hx_len 5 n (by omega)

theorem sp_word {X : GCtx} (I : IsX X) (N : Nat) (hN : N < 2 ^ 20) : Spec X "_law_word" 2 [.int N] (.str (S (wd N))) := by
  refine spec_def (dr := dfn pgm 16) (ps := ["number"]) (I.mem (k := 7) rfl) rfl (fun pm code doc vs h => ?_) (by decide) (by decide +kernel) (by decide +kernel) (by decide +kernel) (by decide +kernel) rfl rfl rfl ?_
  · match vs, h with
    | [v], _ => rfl
  refine exs_cons (ex_ret (ev_join (xs := (apB N).map fun b => [b.toNat]) ev_str.ev (evf_eq (ev_compN (fun b : UInt8 => D.int b.toNat) (fun n => D.str (S [n])) ?_ (apB N) (fun b => b.toNat) []
    (evi_eq (evi_bytes (ev_call (.cons (ev_nm rfl) .nil) (sp_Int2AP I N hN) (nle rfl) rfl).ev).weak rfl) (csc rfl (by decide +kernel) rfl) (.inl rfl) ?_ cs_nil ?_) ?_).ev ?_) ?_)
  · intro a b h; injection h with h; exact UInt8.toNat_inj.mp (Int.ofNat.inj h)
  · have := apB_len hN; omega
  · intro b _; exact ev_b1 (ev_nm rfl).ev (b_chr (by omega) (by have := b.toNat_lt; omega)) rfl (I.bm (k := 4) rfl) (by decide +kernel)
  · simp [Function.comp_def]
  · have h1 := apB_len hN
    have : ((apB N).map fun b => [b.toNat]).flatten.length = (apB N).length := by simp [List.length_flatten]; generalize apB N = l; induction l <;> simp_all <;> omega
    omega
  · show _ = _
    congr 2
    unfold apB wd
    rw [List.map_map]
    have : ∀ l : List Nat, (∀ d ∈ l, d < 16) → (l.map ((fun b : UInt8 => [b.toNat]) ∘ fun d => UInt8.ofNat (65 + d))).flatten = l.map fun d => 65 + d := by
      intro l
      induction l with
      | nil => intro _; rfl
      | cons a r ih =>
        intro h
        have ha := h a (by simp)
        simp only [List.map_cons, List.flatten_cons, Function.comp]
        rw [← ih fun d hd => h d (by simp [hd])]
        have : (UInt8.ofNat (65 + a)).toNat = 65 + a := by simp [UInt8.toNat_ofNat]; omega
        rw [this]; rfl
    exact this _ (hx_lt N)

/-- three_way_cmp of texts, by the order of their signs -/
def twc (a b : List Nat) : Int := (if b < a then 1 else 0) - (if a < b then 1 else 0)
theorem sp_twc_str {X : GCtx} (I : IsX X) (a b : List Nat) : Spec X "three_way_cmp" 1 [.str (S a), .str (S b)] (.int (twc a b)) := by
  refine spec_def (dr := dfn pgm 14) (ps := ["x", "y"]) (I.mem (k := 6) rfl) rfl (fun pm code doc vs h => ?_) (by decide) (by decide +kernel) (by decide +kernel) (by decide +kernel) (by decide +kernel) rfl rfl rfl ?_
  · match vs, h with
    | [v, u], _ => rfl
  refine exs_cons (ex_ret (ev_bin (ev_cmp (ev_nm rfl).ev (ev_nm rfl).ev cmp_gts).ev (ev_cmp (ev_nm rfl).ev (ev_nm rfl).ev cmp_lts).ev op_subb) ?_)
  show D.int _ = _
  unfold twc
  simp
/-- and of pairs -/
def twp (p q : Int × List Nat) : Int := (if p.1 = q.1 then twc p.2 q.2 else if p.1 < q.1 then -1 else 1)
theorem sp_twc_pair {X : GCtx} (I : IsX X) (p q : Int × List Nat) : Spec X "three_way_cmp" 1 [.tup [.int p.1, .str (S p.2)], .tup [.int q.1, .str (S q.2)]] (.int (twp p q)) := by
  refine spec_def (dr := dfn pgm 14) (ps := ["x", "y"]) (I.mem (k := 6) rfl) rfl (fun pm code doc vs h => ?_) (by decide) (by decide +kernel) (by decide +kernel) (by decide +kernel) (by decide +kernel) rfl rfl rfl ?_
  · match vs, h with
    | [v, u], _ => rfl
  refine exs_cons (ex_ret (ev_bin (ev_cmp (ev_nm rfl).ev (ev_nm rfl).ev (cmp_gtp (p := (p.1, S p.2)) (q := (q.1, S q.2)))).ev (ev_cmp (ev_nm rfl).ev (ev_nm rfl).ev (cmp_ltp (p := (p.1, S p.2)) (q := (q.1, S q.2)))).ev op_subb) ?_)
  show D.int _ = _
  congr 1
  unfold twp twc
  simp only [beq_iff_eq]
  by_cases h1 : p.1 = q.1
  · simp only [h1, if_true]
    by_cases h2 : p.2 = q.2
    · simp [h2]
    · have : ¬ S p.2 = S q.2 := fun e => h2 (by have h2 : p.2.toArray = q.2.toArray := by injection e
                                                simpa using h2)
      simp [this]
  · simp only [h1, if_false]
    by_cases h2 : p.1 < q.1
    · have : ¬ q.1 < p.1 := by omega
      simp [h2, this]
    · have : q.1 < p.1 := by omega
      simp [h2, this]

/-- read a word -/
def rd1 (a : Int) (d : Nat) : Int := a * 16 + (d : Int) - 65
def rd (w : List Nat) : Int := w.foldl rd1 0
theorem rd_hx (l : List Nat) : ∀ n, (l.map fun d => 65 + d).foldl rd1 n = l.foldl (fun (a : Int) (d : Nat) => a * 16 + (d : Int)) n := by
  induction l with
  | nil => intro n; rfl
  | cons a r ih => intro n; simp only [List.map_cons, List.foldl_cons]; rw [ih]; congr 1; unfold rd1; omega
theorem fold_hx (n : Nat) : (hx n).foldl (fun (a : Int) (d : Nat) => a * 16 + (d : Int)) 0 = n := by
  induction n using Nat.strongRecOn with
  | _ n ih =>
    by_cases h : n = 0
    · subst h; rw [hx_zero]; rfl
    · rw [hx_pos h, List.foldl_append, ih (n / 16) (by omega)]
      show ((n / 16 : Nat) : Int) * 16 + ((n % 16 : Nat) : Int) = n
      omega
theorem rd_wd (n : Nat) : rd (wd n) = n := by
  unfold rd wd; rw [rd_hx, fold_hx]
theorem wd_let (n : Nat) : ∀ d ∈ wd n, 65 ≤ d ∧ d ≤ 80 := fun d hd => by
  obtain ⟨a, ha, rfl⟩ := List.mem_map.mp hd
  have := hx_lt n a ha
  omega
theorem wd_len {n : Nat} (h : n < 2 ^ 20) : (wd n).length ≤ 5 := by unfold wd; rw [List.length_map]; exact hx_len 5 n (by omega)
theorem mulOk16 {a : Int} : IntMulOk a 16 := .of_right (by decide +kernel)
theorem sp_read {X : GCtx} (I : IsX X) (N : Nat) (hN : N < 2 ^ 20) : Spec X "_law_read" 1 [.str (S (wd N))] (.int N) := by
  rw [← rd_wd N]
  have hl5 := wd_len hN
  have hlet := wd_let N
  generalize wd N = w at hl5 hlet
  refine spec_def (dr := dfn pgm 17) (ps := ["word"]) (I.mem (k := 8) rfl) rfl (fun pm code doc vs h => ?_) (by decide) (by decide +kernel) (by decide +kernel) (by decide +kernel) (by decide +kernel) rfl rfl rfl ?_
  · match vs, h with
    | [v], _ => rfl
  refine exs_cons (ex_assign ev_int (.inl rfl) ?_)
  refine exs_cons (ex_forS (σ := Int) (fun z => [("number", .d (.int z)), ("word", .d (.str (S w)))]) (fun _ => []) (fun i z => z = (w.take i).foldl rd1 0) 0 rfl (sub_cons rfl (sub_cons rfl sub_nil)) rfl
    (evi_str (ev_nm rfl).ev (by simp only [List.all_toArray, List.all_eq_true, decide_eq_true_eq]; intro d hd; have := hlet d hd; omega)) (.inl rfl) ?_ ?_)
  · rintro i d z hd rfl
    have hl : (signs (S w)).length = w.length := by simp [signs]
    have hi : i < w.length := by rw [← hl]; exact (List.getElem?_eq_some_iff.mp hd).1
    have hd' : d = .str (S [w[i]]) := by
      have : (signs (S w))[i]? = some (D.str (S [w[i]])) := by simp [signs, hi]
      rw [this] at hd; injection hd with hd; exact hd.symm
    subst hd'
    refine exs_cons (ex_assign (ev_bin (ev_bin (ev_bin (ev_nm rfl).ev ev_int.ev (op_mul mulOk16)).ev (ev_b1 (ev_nm rfl).ev b_ord rfl (I.bm (k := 5) rfl) (by decide +kernel)).ev op_add).ev ev_int.ev op_sub) (.inl rfl) ?_)
    refine exs_nil ⟨_, sub_cons rfl (sub_cons rfl sub_nil), rfl, ?_⟩
    rw [List.take_add_one, List.foldl_append, List.getElem?_eq_getElem hi]; rfl
  · rintro z rfl
    refine exs_cons (ex_ret (ev_nm rfl) ?_)
    show D.int _ = D.int _
    have hl : (signs (S w)).length = w.length := by simp [signs]
    rw [hl, List.take_length]; rfl

/-- digits to the base 3, the lowest in front, read to the base 16 -/
noncomputable def sprd (rest : Nat) : Nat → Nat → Nat
  | 0, acc => acc
  | k + 1, acc => sprd (rest / 3) k (acc * 16 + rest % 3)
theorem sprd_lt : ∀ (k rest acc : Nat) (j : Nat), acc < 16 ^ j → sprd rest k acc < 16 ^ (j + k)
  | 0, _, acc, j, h => h
  | k + 1, rest, acc, j, h => by
    have := sprd_lt k (rest / 3) (acc * 16 + rest % 3) (j + 1) (by rw [Nat.pow_succ]; omega)
    rwa [Nat.add_right_comm] at this
theorem sp_spread {X : GCtx} (I : IsX X) (rest size : Nat) (hs : size ≤ 5) : Spec X "_law_spread" 1 [.int rest, .int size] (.int (sprd rest size 0 : Nat)) := by
  refine spec_def (dr := dfn pgm 18) (ps := ["rest", "size"]) (I.mem (k := 9) rfl) rfl (fun pm code doc vs h => ?_) (by decide) (by decide +kernel) (by decide +kernel) (by decide +kernel) (by decide +kernel) rfl rfl rfl ?_
  · match vs, h with
    | [v, u], _ => rfl
  refine exs_cons (ex_assign ev_int (.inl rfl) ?_)
  refine exs_cons (ex_forS (σ := Nat × Nat) (fun z => [("number", .d (.int z.1)), ("rest", .d (.int z.2)), ("size", .d (.int size))]) (fun _ => []) (fun i z => i ≤ size ∧ sprd z.2 (size - i) z.1 = sprd rest size 0) (0, rest) ⟨Nat.zero_le _, rfl⟩ (sub_cons rfl (sub_cons rfl (sub_cons rfl sub_nil))) rfl
    (evi_range1 (ev_nm rfl).ev (by omega) (by omega) rfl (I.bm (k := 6) rfl)) (.inl rfl) ?_ ?_)
  · rintro i d ⟨n, r⟩ hd ⟨hi, hz⟩
    have hl : i < size := by
      have := (List.getElem?_eq_some_iff.mp hd).1
      simpa [zs] using this
    refine exs_cons (ex_assign (ev_bin (ev_bin (ev_nm rfl).ev ev_int.ev (op_mul mulOk16)).ev (ev_bin (ev_nm rfl).ev ev_int.ev (op_mod (by decide))).ev op_add) (.inl rfl) ?_)
    refine exs_cons (ex_assign (ev_bin (ev_nm rfl).ev ev_int.ev (op_fdiv (by decide) (noPy (by decide)))) (.inl rfl) ?_)
    dsimp only
    have e1 : ((r : Int).fdiv 3) = ((r / 3 : Nat) : Int) := by rw [Int.fdiv_eq_ediv_of_nonneg _ (by decide)]; rfl
    have e2 : (n : Int) * 16 + ((r : Int).fmod 3) = ((n * 16 + r % 3 : Nat) : Int) := by rw [Int.fmod_eq_emod_of_nonneg _ (by decide)]; omega
    rw [e1, e2]
    refine exs_nil ⟨(n * 16 + r % 3, r / 3), sub_cons rfl (sub_cons rfl (sub_cons rfl sub_nil)), rfl, by omega, ?_⟩
    rw [← hz, show size - i = (size - (i + 1)) + 1 by omega]; rfl
  · rintro ⟨n, r⟩ ⟨hi, hz⟩
    refine exs_cons (ex_ret (ev_nm rfl) ?_)
    show D.int _ = D.int _
    have hl : (zs 0 (size : Int).toNat).length = size := by simp [zs]
    rw [hl, Nat.sub_self] at hz
    rw [← hz]; rfl

/-- how many figures -/
theorem sp_size {X : GCtx} (I : IsX X) (N : Nat) : Spec X "_law_size" 1 [.int N] (.int (hx N).length) := by
  refine spec_def (dr := dfn pgm 24) (ps := ["number"]) (I.mem (k := 15) rfl) rfl (fun pm code doc vs h => ?_) (by decide) (by decide +kernel) (by decide +kernel) (by decide +kernel) (by decide +kernel) rfl rfl rfl ?_
  · match vs, h with
    | [v], _ => rfl
  refine exs_cons (ex_assign ev_int (.inl rfl) ?_)
  refine exs_cons (ex_whileS (σ := Nat × Nat) (fun z => [("number", .d (.int z.1)), ("size", .d (.int z.2))]) (fun _ => []) (fun z => z.1) (fun z => (hx z.1).length + z.2 = (hx N).length) (N, 0) rfl (sub_cons rfl (sub_cons rfl sub_nil)) rfl ?_)
  rintro ⟨n, s⟩ hz
  refine ⟨decide ((0 : Int) < n), et_cmp (ev_nm rfl).ev ev_int.ev cmp_gt, fun e => ?_, fun e => ?_⟩
  · have h0 : n = 0 := by have := of_decide_eq_false e; omega
    subst h0
    refine exs_cons (ex_ret (ev_nm rfl) ?_)
    show D.int _ = D.int _
    rw [← hz]; simp [hx_zero]
  · have h0 : n ≠ 0 := by have := of_decide_eq_true e; omega
    refine exs_cons (ex_assign (ev_bin (ev_nm rfl).ev ev_int.ev (op_fdiv (by decide) (noPy (by decide)))) (.inl rfl) ?_)
    refine exs_cons (ex_assign (ev_bin (ev_nm rfl).ev ev_int.ev op_add) (.inl rfl) ?_)
    dsimp only
    have e1 : ((n : Int).fdiv 16) = ((n / 16 : Nat) : Int) := by rw [Int.fdiv_eq_ediv_of_nonneg _ (by decide)]; rfl
    have e2 : (s : Int) + 1 = ((s + 1 : Nat) : Int) := by omega
    rw [e1, e2]
    refine exs_nil ⟨(n / 16, s + 1), by show n / 16 < n; omega, sub_cons rfl (sub_cons rfl sub_nil), rfl, ?_⟩
    show (hx (n / 16)).length + (s + 1) = _
    rw [← hz, hx_pos h0, List.length_append]
    simp only [List.length_cons, List.length_nil]; omega
end Mine

set_option maxRecDepth 100000
set_option autoImplicit false
set_option linter.unusedVariables false
namespace Mine
open PySem PySem.W PySem.Calls PyProof.Rows

theorem sp_escape {X : GCtx} (I : IsX X) (ht : ∀ h, X.tm h → TM X h) (n : Nat) (h1 : 65 ≤ n) (h2 : n ≤ 80) : Spec X "escape" 1 [.str (S [n])] (.str (S [n])) := by
  refine spec_def (dr := dfn pgm 8) (ps := ["pattern"]) (I.mem (k := 2) rfl) rfl (fun pm code doc vs h => ?_) (by decide) (by decide +kernel) (by decide +kernel) (by decide +kernel) (by decide +kernel) rfl rfl rfl ?_
  · match vs, h with
    | [v], _ => rfl
  refine exs_cons (ex_if (x := true) (et_of (ev_isi_str (ev_nm rfl) rfl (I.bm (k := 8) rfl) rfl (I.bm (k := 10) rfl)).ev (by exact rfl)) (fun _ => ?_) (fun e => nomatch e))
  exact exs_cons (ex_ret (ev_translate ht (ev_nm rfl).ev h1 h2 rfl) rfl)

/-- the parts of a pattern: a star's object, or a sign -/
inductive Pt where
  | star
  | sign (n : Nat)
def Pt.d (a : Addr) : Pt → D
  | .star => .obj a
  | .sign n => .str (S [n])
/-- what _translate makes of a pattern -/
def prStep (r : List Pt) (n : Nat) : List Pt := if n = 42 then (match r.getLast? with | some .star => r | _ => r ++ [.star]) else if n = 63 then r ++ [.sign 46] else r ++ [.sign n]
def prt (l : List Nat) : List Pt := l.foldl prStep []
def okPat (l : List Nat) : Prop := ∀ n ∈ l, n = 42 ∨ n = 63 ∨ (65 ≤ n ∧ n ≤ 80)
theorem prStep_len (r : List Pt) (n : Nat) : (prStep r n).length ≤ r.length + 1 := by
  unfold prStep
  split
  · split <;> simp
  · split <;> simp
theorem prt_len (l : List Nat) : ∀ r : List Pt, (l.foldl prStep r).length ≤ r.length + l.length := by
  induction l with
  | nil => intro r; simp
  | cons a t ih => intro r; have h1 := ih (prStep r a); have h2 := prStep_len r a; simp only [List.foldl_cons, List.length_cons]; omega
def trG (l : List Nat) (a : Addr) (i : Nat) : Gam := [("res", .mu 0), ("add", .meth 0), ("i", .d (.int i)), ("n", .d (.int l.length)), ("pat", .d (.str (S l))), ("STAR", .d (.obj a)), ("QUESTION_MARK", .d (.str (S [46])))]
theorem sp__translate {X : GCtx} (I : IsX X) (ht : ∀ h, X.tm h → TM X h) (l : List Nat) (a : Addr) (hl : okPat l) (hz : l.length ≤ 10000) : Spec X "_translate" 2 [.str (S l), .obj a, .str (S [46])] (.list ((prt l).map (Pt.d a))) := by
  refine spec_def (dr := dfn pgm 10) (ps := ["pat", "STAR", "QUESTION_MARK"]) (I.mem (k := 3) rfl) rfl (fun pm code doc vs h => ?_) (by decide) (by decide +kernel) (by decide +kernel) (by decide +kernel) (by decide +kernel) rfl rfl rfl ?_
  · match vs, h with
    | [v, u, t], _ => rfl
  refine exs_cons (ex_assign_list .nil (.inl rfl) ?_)
  refine exs_cons (ex_assign_meth (i := 0) (ds := []) (lk rfl) rfl (.inl rfl) ?_)
  refine exs_cons (ex_pairS (ev_tup (.cons ev_int (.cons (ev_b1 (ev_nm rfl).ev (b_len_S (by omega)) rfl (I.bm (k := 3) rfl) (by decide +kernel)) .nil))).ev (.inl rfl) (.inl rfl) ?_ ?_)
  rotate_left
  · intro env he
    cases env
    cases he
    rfl
  refine exs_cons (ex_whileS (σ := Nat) (trG l a)
    (fun i => [((l.take i).foldl prStep []).map (Pt.d a)]) (fun i => l.length - i) (fun i => i ≤ l.length) 0 (Nat.zero_le _) ?_ rfl ?_)
  · exact sub_cons rfl (sub_cons rfl (sub_cons rfl (sub_cons rfl (sub_cons rfl (sub_cons rfl (sub_cons rfl sub_nil))))))
  intro i hi
  refine ⟨_, et_cmp (ev_nm rfl).ev (ev_nm rfl).ev cmp_lt, fun e => ?_, fun e => ?_⟩
  · have hi2 : i = l.length := by have := of_decide_eq_false e; omega
    subst hi2
    refine exs_cons (ex_assert (evt_eq (et_cmp (ev_nm rfl).ev (ev_nm rfl).ev cmp_eq) (by simp)) ?_)
    refine exs_cons (ex_ret_mu (lk rfl) (i := 0) rfl ?_)
    show D.list _ = D.list _
    rw [List.take_length]; rfl
  have hi2 : i < l.length := by have := of_decide_eq_true e; omega
  have hn := hl l[i] (List.getElem_mem hi2)
  have htk : (l.take (i + 1)).foldl prStep [] = prStep ((l.take i).foldl prStep []) l[i] := by
    rw [List.take_add_one, List.foldl_append, List.getElem?_eq_getElem hi2]; rfl
  have hrl : ((l.take i).foldl prStep []).length ≤ 10000 := by have := prt_len (l.take i) []; simp only [List.length_take, List.length_nil] at this; omega
  have hge := List.getElem?_eq_getElem hi2
  generalize l[i] = n at hn htk hge
  generalize (l.take i).foldl prStep [] = r at htk hrl ⊢
  refine exs_cons (ex_assign (ev_sitem (n := n) (ev_nm rfl).ev (ev_nm rfl).ev (by omega) (by omega) (by simp only [Int.toNat_natCast]; exact hge)) (.inl rfl) ?_)
  refine exs_cons (ex_assign (ev_bin (ev_nm rfl).ev ev_int.ev op_add) (.inl rfl) ?_)
  have cnv : ((i : Int) + 1) = ((i + 1 : Nat) : Int) := by omega
  rw [cnv]
  have fin : ∀ ds : List D, ds = (prStep r n).map (Pt.d a) → ∀ Γ₂ : Gam, (∀ p ∈ trG l a (i + 1), p ∈ Γ₂) →
      ∃ z', l.length - z' < l.length - i ∧ (∀ p ∈ trG l a z', p ∈ Γ₂) ∧ [ds] = [((l.take z').foldl prStep []).map (Pt.d a)] ∧ z' ≤ l.length := fun ds e Γ₂ h =>
    ⟨i + 1, by omega, h, by rw [htk, e], by omega⟩
  refine exs_cons (ex_if (et_cmp (ev_nm rfl).ev (ev_lit [42] rfl).ev cmp_eqS) (fun h => ?_) (fun h => ?_))
  · have h42 : n = 42 := by simpa using h
    rcases List.eq_nil_or_concat r with hr | ⟨r', p, hr⟩
    · subst hr
      refine exs_cons (ex_if (x := true) (evt_eq (et_or (a := true) (b := true) (et_not (et_of (b := false) (ev_mu (lk rfl) rfl) ⟨rfl, by simp⟩)) (fun h => nomatch h)) rfl) (fun _ => ?_) (fun h => nomatch h))
      refine exs_cons (ex_call_meth (i := 0) (lk rfl) rfl (ev_nm rfl) ?_ (by rw [sizeLine_lit]; simp))
      refine exs_nil (exs_nil (exs_nil (fin _ ?_ _ ?_)))
      · subst h42; rfl
      · exact sub_cons rfl (sub_cons rfl (sub_cons rfl (sub_cons rfl (sub_cons rfl (sub_cons rfl (sub_cons rfl sub_nil))))))
    · rw [List.concat_eq_append] at hr
      subst hr
      have hmap : (r' ++ [p]).map (Pt.d a) = r'.map (Pt.d a) ++ [Pt.d a p] := by simp
      rw [hmap]
      have hne : (r'.map (Pt.d a) ++ [Pt.d a p]).isEmpty = false := by simp
      cases p with
      | star =>
        refine exs_cons (ex_if (x := false) (evt_eq (et_or (a := false) (b := false) (et_not (et_of (b := true) (ev_mu (lk rfl) rfl) ⟨by rw [hne]; rfl, by simp at hrl ⊢; omega⟩)) (fun h => et_cmp (ev_last (ds := r'.map (Pt.d a)) (d := .obj a) (ev_mu (lk rfl) rfl) (ev_neg ev_int.ev).ev (by simp at hrl ⊢; omega)).ev (ev_nm rfl).ev cmp_isnot_self)) rfl) (fun h => nomatch h) (fun _ => ?_))
        refine exs_nil (exs_nil (exs_nil (fin _ ?_ _ ?_)))
        · rw [← hmap]; subst h42; simp [prStep]
        · exact sub_cons rfl (sub_cons rfl (sub_cons rfl (sub_cons rfl (sub_cons rfl (sub_cons rfl (sub_cons rfl sub_nil))))))
      | sign k =>
        refine exs_cons (ex_if (x := true) (evt_eq (et_or (a := false) (b := true) (et_not (et_of (b := true) (ev_mu (lk rfl) rfl) ⟨by rw [hne]; rfl, by simp at hrl ⊢; omega⟩)) (fun h => et_cmp (ev_last (ds := r'.map (Pt.d a)) (d := .str (S [k])) (ev_mu (lk rfl) rfl) (ev_neg ev_int.ev).ev (by simp at hrl ⊢; omega)).ev (ev_nm rfl).ev cmp_isnot_str)) rfl) (fun _ => ?_) (fun h => nomatch h))
        refine exs_cons (ex_call_meth (i := 0) (lk rfl) rfl (ev_nm rfl) ?_ (by rw [sizeLine_lit]; simp at hrl ⊢; omega))
        refine exs_nil (exs_nil (exs_nil (fin _ ?_ _ ?_)))
        · subst h42; simp [prStep, Pt.d]
        · exact sub_cons rfl (sub_cons rfl (sub_cons rfl (sub_cons rfl (sub_cons rfl (sub_cons rfl (sub_cons rfl sub_nil))))))
  have h42 : n ≠ 42 := by simpa using h
  refine exs_cons (ex_if (et_cmp (ev_nm rfl).ev (ev_lit [63] rfl).ev cmp_eqS) (fun h => ?_) (fun h => ?_))
  · have h63 : n = 63 := by simpa using h
    refine exs_cons (ex_call_meth (i := 0) (lk rfl) rfl (ev_nm rfl) ?_ (by rw [sizeLine_lit]; simp at hrl ⊢; omega))
    refine exs_nil (exs_nil (exs_nil (fin _ ?_ _ ?_)))
    · subst h63; simp [prStep, Pt.d]
    · exact sub_cons rfl (sub_cons rfl (sub_cons rfl (sub_cons rfl (sub_cons rfl (sub_cons rfl (sub_cons rfl sub_nil))))))
  have h63 : n ≠ 63 := by simpa using h
  have hn' : 65 ≤ n ∧ n ≤ 80 := by rcases hn with h | h | h
                                   · exact absurd h h42
                                   · exact absurd h h63
                                   · exact h
  refine exs_cons (ex_if (x := false) (evt_eq (et_cmp (ev_nm rfl).ev (ev_lit [91] rfl).ev cmp_eqS) (by simp; omega)) (fun h => nomatch h) (fun h => ?_))
  refine exs_cons (ex_call_meth (i := 0) (lk rfl) rfl (ev_call (.cons (ev_nm rfl) .nil) (sp_escape I ht n hn'.1 hn'.2) (nle rfl) rfl) ?_ (by rw [sizeLine_lit]; simp at hrl ⊢; omega))
  refine exs_nil (exs_nil (exs_nil (exs_nil (fin _ ?_ _ ?_))))
  · simp [prStep, Pt.d, h42, h63]
  · exact sub_cons rfl (sub_cons rfl (sub_cons rfl (sub_cons rfl (sub_cons rfl (sub_cons rfl (sub_cons rfl sub_nil))))))
end Mine

set_option maxRecDepth 100000
set_option autoImplicit false
set_option linter.unusedVariables false
set_option maxHeartbeats 2000000
namespace Mine
open PySem PySem.W PySem.Calls PyProof.Rows

/-- the signs in front, and what is behind them -/
noncomputable def sgs : List Pt → List Nat
  | .sign n :: r => n :: sgs r
  | _ => []
noncomputable def rst : List Pt → List Pt
  | .sign n :: r => rst r
  | r => r
theorem rst_len : ∀ r : List Pt, (rst r).length ≤ r.length
  | [] => Nat.le_refl _
  | .star :: r => Nat.le_refl _
  | .sign n :: r => Nat.le_trans (rst_len r) (Nat.le_succ _)
theorem sgs_len : ∀ r : List Pt, (sgs r).length ≤ r.length
  | [] => Nat.le_refl _
  | .star :: r => Nat.zero_le _
  | .sign n :: r => Nat.succ_le_succ (sgs_len r)
theorem sgs_rst : ∀ r : List Pt, r = (sgs r).map Pt.sign ++ rst r
  | [] => rfl
  | .star :: r => rfl
  | .sign n :: r => by simp only [sgs, rst, List.map_cons, List.cons_append]; rw [← sgs_rst r]
theorem rst_star : ∀ r : List Pt, rst r = [] ∨ ∃ t, rst r = .star :: t
  | [] => .inl rfl
  | .star :: r => .inr ⟨r, rfl⟩
  | .sign n :: r => rst_star r
/-- the pieces from a star on -/
noncomputable def jres : Nat → List Pt → List (List Nat)
  | k + 1, .star :: t => if t.isEmpty then [[46, 42]] else if (rst t).isEmpty then [[46, 42], sgs t] else ([40, 63, 62, 46, 42, 63] ++ sgs t ++ [41]) :: jres k (rst t)
  | _, _ => []
theorem jres_more : ∀ (k : Nat) (r : List Pt), r.length ≤ k → jres (k + 1) r = jres k r
  | 0, [], _ => rfl
  | k + 1, [], _ => rfl
  | 0, _ :: _, h => by simp at h
  | k + 1, .sign n :: r, _ => rfl
  | k + 1, .star :: t, h => by
    have h1 := rst_len t
    have ih := jres_more k (rst t) (by simp only [List.length_cons] at h; omega)
    simp only [jres]
    rw [ih]
theorem jres_eq {k m : Nat} {r : List Pt} (h : r.length ≤ k) (h' : k ≤ m) : jres m r = jres k r := by
  induction m with
  | zero => have : k = 0 := by omega
            subst this; rfl
  | succ m ih =>
    by_cases e : k = m + 1
    · rw [e]
    · rw [jres_more m r (by omega)]; exact ih (by omega)
/-- no star behind a star -/
noncomputable def NA : List Pt → Prop
  | .star :: .star :: _ => False
  | _ :: r => NA r
  | [] => True
theorem NA.tail : ∀ {p : Pt} {r : List Pt}, NA (p :: r) → NA r
  | .sign _, _, h => h
  | .star, [], _ => trivial
  | .star, .sign _ :: _, h => h
  | .star, .star :: _, h => h.elim
theorem NA.rst : ∀ {r : List Pt}, NA r → NA (rst r)
  | [], h => h
  | .star :: r, h => h
  | .sign n :: r, h => NA.rst (r := r) h
/-- the inner text -/
def inner (ps : List Pt) : List Nat := sgs ps ++ (jres ps.length (rst ps)).flatten
def text (ps : List Pt) : List Nat := [40, 63, 115, 58] ++ inner ps ++ [41, 92, 90]

section
variable {c : Cfg} {Γ : Gam} {Δ : Del} {P : Post}
def Pt.isS : Pt → Bool
  | .star => false
  | .sign _ => true
theorem et_isnot {p : Pt} {a : Addr} {e f : Expr} {pos : Pos} (he : Ev c Γ Δ e (p.d a)) (hf : Ev c Γ Δ f (.obj a)) (hm : behindInMarks .IsNot f = false := by with_unfolding_all rfl) : EvT c Γ Δ (.Compare e [.IsNot] [f] pos) p.isS := by
  cases p with
  | star => exact et_cmp he hf cmp_isnot_self hm
  | sign n => exact et_cmp he hf cmp_isnot_str hm
end
def stl (l : List (List Nat)) : List D := l.map fun x => .str (S x)
def jG (ps : List Pt) (a : Addr) (r : List Pt) : Gam := [("res", .mu 0), ("add", .meth 0), ("i", .d (.int (ps.length - r.length : Nat))), ("n", .d (.int ps.length)), ("inp", .d (.list (ps.map (Pt.d a)))), ("STAR", .d (.obj a))]
theorem suf_item {ps r : List Pt} {p : Pt} {a : Addr} (h : ∃ pre, ps = pre ++ p :: r) : (ps.map (Pt.d a))[((ps.length - (p :: r).length : Nat) : Int).toNat]? = some (p.d a) := by
  obtain ⟨pre, rfl⟩ := h
  have : (pre ++ p :: r).length - (p :: r).length = pre.length := by simp
  rw [this]; simp
theorem suf_next {ps r : List Pt} {p : Pt} (h : ∃ pre, ps = pre ++ p :: r) : ((ps.length - (p :: r).length : Nat) : Int) + 1 = ((ps.length - r.length : Nat) : Int) := by
  obtain ⟨pre, rfl⟩ := h
  simp only [List.length_append, List.length_cons]; omega
theorem suf_tail {ps r : List Pt} {p : Pt} (h : ∃ pre, ps = pre ++ p :: r) : ∃ pre, ps = pre ++ r := by
  obtain ⟨pre, rfl⟩ := h
  exact ⟨pre ++ [p], by simp⟩
theorem suf_le {ps r : List Pt} (h : ∃ pre, ps = pre ++ r) : r.length ≤ ps.length := by
  obtain ⟨pre, rfl⟩ := h
  simp

theorem jres_flat : ∀ (k : Nat) (r : List Pt), (jres k r).flatten.length ≤ 9 * r.length ∧ (jres k r).length ≤ 2 * r.length
  | 0, r => by simp [jres]
  | k + 1, [] => by simp [jres]
  | k + 1, .sign n :: r => by simp [jres]
  | k + 1, .star :: t => by
    have h1 := rst_len t
    have h2 := sgs_len t
    have ih := jres_flat k (rst t)
    have h3 : (sgs t).length + (rst t).length = t.length := by
      have := congrArg List.length (sgs_rst t); simp at this; omega
    simp only [jres]
    split
    · simp; omega
    · split
      · rename_i ht _
        have : 0 < t.length := by cases t with
          | nil => exact absurd rfl ht
          | cons => simp
        simp; omega
      · simp only [List.flatten_cons, List.length_append, List.length_cons, List.length_nil]; omega
theorem flat_single (l : List Nat) : (l.map fun n => [n]).flatten = l := by induction l <;> simp_all
theorem sp_join {X : GCtx} (I : IsX X) (ps : List Pt) (a : Addr) (hna : NA ps) (hz : ps.length ≤ 10000) : Spec X "_join_translated_parts" 1 [.list (ps.map (Pt.d a)), .obj a] (.str (S (text ps))) := by
  refine spec_def (dr := dfn pgm 11) (ps := ["inp", "STAR"]) (I.mem (k := 4) rfl) rfl (fun pm code doc vs h => ?_) (by decide) (by decide +kernel) (by decide +kernel) (by decide +kernel) (by decide +kernel) rfl rfl rfl ?_
  · match vs, h with
    | [v, u], _ => rfl
  refine exs_cons (ex_assign_list .nil (.inl rfl) ?_)
  refine exs_cons (ex_assign_meth (i := 0) (ds := []) (lk rfl) rfl (.inl rfl) ?_)
  refine exs_cons (ex_pairS (ev_tup (.cons ev_int (.cons (ev_b1 (ev_nm rfl).ev (b_len_list (by simp; omega)) rfl (I.bm (k := 3) rfl) (by decide +kernel)) .nil))).ev (.inl rfl) (.inl rfl) ?_ ?_)
  rotate_left
  · intro env he
    cases env
    cases he
    rfl
  have hc0 : ((ps.map (Pt.d a)).length : Int) = (ps.length : Int) := by simp
  rw [hc0]
  -- the end
  have hlen : ∀ z : List (List Nat), z = (sgs ps).map (fun n => [n]) ++ jres ps.length (rst ps) → z.flatten.length ≤ 100000 := fun z e => by
    subst e
    have h1 := jres_flat ps.length (rst ps)
    have h2 := sgs_len ps
    have h3 := rst_len ps
    rw [List.flatten_append, flat_single, List.length_append]; omega
  have hlen2 : ∀ z : List (List Nat), z = (sgs ps).map (fun n => [n]) ++ jres ps.length (rst ps) → z.length ≤ 100000 := fun z e => by
    subst e
    have h1 := jres_flat ps.length (rst ps)
    have h2 := sgs_len ps
    have h3 := rst_len ps
    rw [List.length_append, List.length_map]; omega
  -- the signs ahead
  refine exs_cons (ex_whileS (σ := List Pt × List (List Nat)) (fun z => jG ps a z.1) (fun z => [stl z.2]) (fun z => z.1.length) (fun z => (∃ pre, ps = pre ++ z.1) ∧ z.2 ++ (sgs z.1).map (fun n => [n]) = (sgs ps).map (fun n => [n]) ∧ rst z.1 = rst ps) (ps, []) ⟨⟨[], rfl⟩, rfl, rfl⟩ ?_ rfl ?_)
  · have : (ps.length - ps.length : Nat) = 0 := Nat.sub_self _
    unfold jG; dsimp only; rw [this]
    exact sub_cons rfl (sub_cons rfl (sub_cons rfl (sub_cons rfl (sub_cons rfl (sub_cons rfl sub_nil)))))
  rintro ⟨r, acc⟩ ⟨h1, h2, h3⟩
  dsimp only at h1 h2 h3 ⊢
  refine ⟨(match r with | [] => false | p :: _ => p.isS), ?_, fun e => ?_, fun e => ?_⟩
  · cases r with
    | nil => exact evt_eq (et_and (a := false) (b := false) (evt_eq (et_cmp (ev_nm rfl).ev (ev_nm rfl).ev cmp_lt) (by simp)) (fun h => nomatch h)) rfl
    | cons p r =>
      have := suf_le h1
      exact evt_eq (et_and (a := true) (evt_eq (et_cmp (ev_nm rfl).ev (ev_nm rfl).ev cmp_lt) (by simp at this ⊢; omega)) (fun _ => et_isnot (p := p) (a := a) (ev_item (ev_nm rfl).ev (ev_nm rfl).ev (by omega) (by omega) (suf_item h1)).ev (ev_nm rfl).ev)) (by simp)
  · -- behind the signs
    have hr : r = rst ps ∧ acc = (sgs ps).map (fun n => [n]) := by
      cases r with
      | nil => exact ⟨h3, by simpa [sgs] using h2⟩
      | cons p r => cases p with
        | star => exact ⟨h3, by simpa [sgs] using h2⟩
        | sign n => cases e
    obtain ⟨rfl, rfl⟩ := hr
    have hsuf : ∃ pre, ps = pre ++ rst ps := ⟨_, sgs_rst ps⟩
    refine exs_cons (ex_whileS (σ := List Pt × List (List Nat)) (fun z => jG ps a z.1) (fun z => [stl z.2]) (fun z => z.1.length)
      (fun z => (∃ pre, ps = pre ++ z.1) ∧ NA z.1 ∧ (z.1 = [] ∨ ∃ t, z.1 = .star :: t) ∧ z.2 ++ jres z.1.length z.1 = (sgs ps).map (fun n => [n]) ++ jres ps.length (rst ps)) (rst ps, _) ⟨hsuf, hna.rst, rst_star ps, by rw [jres_eq (Nat.le_refl _) (suf_le hsuf)]⟩ sub_all rfl ?_)
    clear h1 h2 h3 e hsuf
    rintro ⟨r, acc⟩ ⟨h1, h2, h3, h4⟩
    dsimp only at h1 h2 h3 h4 ⊢
    refine ⟨!r.isEmpty, ?_, fun e => ?_, fun e => ?_⟩
    · have := suf_le h1
      refine evt_eq (et_cmp (ev_nm rfl).ev (ev_nm rfl).ev cmp_lt) ?_
      cases r with
      | nil => simp
      | cons p r => simp at this ⊢; omega
    · have hr : r = [] := by cases r with
        | nil => rfl
        | cons p r => cases e
      subst hr
      have hacc := (by simpa [jres] using h4 : acc = _)
      refine exs_cons (ex_assert (evt_eq (et_cmp (ev_nm rfl).ev (ev_nm rfl).ev cmp_eq) (by simp)) ?_)
      refine exs_cons (ex_assign (ev_join (xs := acc) ev_str.ev (ev_mu (lk rfl) (i := 0) rfl) (by have := hlen acc hacc; omega)) (.inl rfl) ?_)
      refine exs_cons (ex_ret (ev_fstr (.lit' (x := [40, 63, 115, 58]) rfl (.val (ev_nm rfl).ev (.lit' (x := [41, 92, 90]) rfl .nil))) (by have := hlen acc hacc; simp only [List.length_append, List.length_cons, List.length_nil]; omega)) ?_)
      show D.str _ = D.str _
      rw [hacc, List.flatten_append, flat_single]
      simp [text, inner]
    · rcases h3 with rfl | ⟨t, rfl⟩
      · cases e
      have hz4 : acc.length ≤ 100000 := by have := congrArg List.length h4; have h5 := hlen2 _ rfl; simp only [List.length_append] at this h5; omega
      refine exs_cons (ex_assert (et_cmp (ev_item (d := .obj a) (ev_nm rfl).ev (ev_nm rfl).ev (by omega) (by have := suf_le h1; omega) (suf_item (p := .star) h1)).ev (ev_nm rfl).ev cmp_is_self) ?_)
      refine exs_cons (ex_aug (lk rfl) ev_int.ev (.inl rfl) ?_)
      rw [suf_next h1]
      refine exs_weak (Γ₀ := jG ps a t) (sub_cons rfl (sub_cons rfl (sub_cons rfl (sub_cons rfl (sub_cons rfl (sub_cons rfl sub_nil)))))) ?_
      have h1' := suf_tail h1
      cases t with
      | nil =>
        refine exs_cons (ex_if (x := true) (evt_eq (et_cmp (ev_nm rfl).ev (ev_nm rfl).ev cmp_eq) (by simp)) (fun _ => ?_) (fun h => nomatch h))
        refine exs_cons (ex_call_meth (i := 0) (ds := stl acc) (lk rfl) rfl (ev_lit [46, 42] rfl) ?_ (by rw [sizeLine_lit]; simp [stl]; omega))
        refine exs_cons (ex_brk ?_)
        have hst : ([stl acc].set 0 (stl acc ++ [D.str (S [46, 42])])) = [stl (acc ++ [[46, 42]])] := by simp [stl]
        rw [hst]
        have h4' : acc ++ [[46, 42]] = (sgs ps).map (fun n => [n]) ++ jres ps.length (rst ps) := by rw [← h4]; simp [jres]
        generalize acc ++ [[46, 42]] = acc at h4' ⊢
        have hacc := h4'
        refine exs_cons (ex_assert (evt_eq (et_cmp (ev_nm rfl).ev (ev_nm rfl).ev cmp_eq) (by simp)) ?_)
        refine exs_cons (ex_assign (ev_join (xs := acc) ev_str.ev (ev_mu (lk rfl) (i := 0) rfl) (by have := hlen acc hacc; omega)) (.inl rfl) ?_)
        refine exs_cons (ex_ret (ev_fstr (.lit' (x := [40, 63, 115, 58]) rfl (.val (ev_nm rfl).ev (.lit' (x := [41, 92, 90]) rfl .nil))) (by have := hlen acc hacc; simp only [List.length_append, List.length_cons, List.length_nil]; omega)) ?_)
        show D.str _ = D.str _
        rw [hacc, List.flatten_append, flat_single]
        simp [text, inner]
      | cons p t =>
        have hle := suf_le h1'
        cases p with
        | star => exact h2.elim
        | sign n =>
        refine exs_cons (ex_if (x := false) (evt_eq (et_cmp (ev_nm rfl).ev (ev_nm rfl).ev cmp_eq) (by simp at hle ⊢; omega)) (fun h => nomatch h) (fun _ => exs_nil ?_))
        refine exs_cons (ex_assert (et_isnot (p := .sign n) (a := a) (ev_item (ev_nm rfl).ev (ev_nm rfl).ev (by omega) (by omega) (suf_item h1')).ev (ev_nm rfl).ev) ?_)
        refine exs_cons (ex_assign_list .nil (.inl rfl) ?_)
        refine exs_cons (ex_whileS (σ := List Pt × List (List Nat)) (fun z => ("fixed", .mu 1) :: jG ps a z.1) (fun z => [stl acc, stl z.2]) (fun z => z.1.length)
          (fun z => (∃ pre, ps = pre ++ z.1) ∧ z.2 ++ (sgs z.1).map (fun n => [n]) = (sgs (.sign n :: t)).map (fun n => [n]) ∧ rst z.1 = rst (.sign n :: t)) (.sign n :: t, []) ⟨h1', rfl, rfl⟩ (sub_cons rfl (sub_cons rfl (sub_cons rfl (sub_cons rfl (sub_cons rfl (sub_cons rfl (sub_cons rfl sub_nil))))))) rfl ?_)
        rintro ⟨r, fx⟩ ⟨g1, g2, g3⟩
        dsimp only at g1 g2 g3 ⊢
        refine ⟨(match r with | [] => false | p :: _ => p.isS), ?_, fun e => ?_, fun e => ?_⟩
        · cases r with
          | nil => exact evt_eq (et_and (a := false) (b := false) (evt_eq (et_cmp (ev_nm rfl).ev (ev_nm rfl).ev cmp_lt) (by simp)) (fun h => nomatch h)) rfl
          | cons p r =>
            have := suf_le g1
            exact evt_eq (et_and (a := true) (evt_eq (et_cmp (ev_nm rfl).ev (ev_nm rfl).ev cmp_lt) (by simp at this ⊢; omega)) (fun _ => et_isnot (p := p) (a := a) (ev_item (ev_nm rfl).ev (ev_nm rfl).ev (by omega) (by omega) (suf_item g1)).ev (ev_nm rfl).ev)) (by simp)
        · have hr : r = rst (.sign n :: t) ∧ fx = (sgs (.sign n :: t)).map (fun n => [n]) := by
            cases r with
            | nil => exact ⟨g3, by simpa [sgs] using g2⟩
            | cons p r => cases p with
              | star => exact ⟨g3, by simpa [sgs] using g2⟩
              | sign n => cases e
          obtain ⟨rfl, rfl⟩ := hr
          have hsl := sgs_len (.sign n :: t)
          have hrl := rst_len (.sign n :: t)
          have hjs : jres (.star :: .sign n :: t).length (.star :: .sign n :: t) = if (rst (.sign n :: t)).isEmpty then [[46, 42], sgs (.sign n :: t)] else ([40, 63, 62, 46, 42, 63] ++ sgs (.sign n :: t) ++ [41]) :: jres (.sign n :: t).length (rst (.sign n :: t)) := by
            simp only [List.length_cons, jres]; rw [if_neg (by simp)]
          rw [hjs] at h4
          have hje : jres (.sign n :: t).length (rst (.sign n :: t)) = jres (rst (.sign n :: t)).length (rst (.sign n :: t)) := jres_eq (Nat.le_refl _) hrl
          rw [hje] at h4
          have hna2 : NA (rst (.sign n :: t)) := NA.rst (NA.tail h2)
          have hst2 := rst_star (.sign n :: t)
          clear e g2 g3 hjs hje
          generalize rst (.sign n :: t) = r at g1 h4 hna2 hst2 hrl ⊢
          generalize sgs (.sign n :: t) = f at h4 hsl ⊢
          refine exs_cons (ex_assign (ev_join (xs := f.map fun n => [n]) ev_str.ev (ev_mu (lk rfl) (i := 1) rfl) (by rw [flat_single]; omega)) (.inl rfl) ?_)
          rw [flat_single]
          refine exs_drop (Γ' := ("fixed", .d (.str (S f))) :: jG ps a r) (Δ := [stl acc]) (sub_cons rfl (sub_cons rfl (sub_cons rfl (sub_cons rfl (sub_cons rfl (sub_cons rfl (sub_cons rfl sub_nil))))))) rfl ?_
          cases r with
          | nil =>
            refine exs_cons (ex_if (x := true) (evt_eq (et_cmp (ev_nm rfl).ev (ev_nm rfl).ev cmp_eq) (by simp)) (fun _ => ?_) (fun h => nomatch h))
            refine exs_cons (ex_call_meth (i := 0) (ds := stl acc) (lk rfl) rfl (ev_lit [46, 42] rfl) ?_ (by rw [sizeLine_lit]; simp [stl]; omega))
            refine exs_cons (ex_call_meth (i := 0) (ds := stl acc ++ [D.str (S [46, 42])]) (lk rfl) rfl (ev_nm rfl) ?_ (by rw [sizeLine_lit]; simp [stl]; omega))
            refine exs_nil (exs_nil ⟨([], acc ++ [[46, 42], f]), by simp, sub_cons rfl (sub_cons rfl (sub_cons rfl (sub_cons rfl (sub_cons rfl (sub_cons rfl sub_nil))))), by simp [stl], ⟨ps, by simp⟩, trivial, .inl rfl, ?_⟩)
            rw [← h4]; simp [jres]
          | cons p r =>
            have hle2 := suf_le g1
            refine exs_cons (ex_if (x := false) (evt_eq (et_cmp (ev_nm rfl).ev (ev_nm rfl).ev cmp_eq) (by simp at hle2 ⊢; omega)) (fun h => nomatch h) (fun _ => ?_))
            refine exs_cons (ex_call_meth (i := 0) (ds := stl acc) (lk rfl) rfl (ev_fstr (.lit' (x := [40, 63, 62, 46, 42, 63]) rfl (.val (ev_nm rfl).ev (.lit' (x := [41]) rfl .nil))) (by simp at hsl hle ⊢; omega)) ?_ (by rw [sizeLine_lit]; simp [stl]; omega))
            refine exs_nil (exs_nil ⟨(p :: r, acc ++ [[40, 63, 62, 46, 42, 63] ++ f ++ [41]]), by simp at hrl ⊢; omega, sub_cons rfl (sub_cons rfl (sub_cons rfl (sub_cons rfl (sub_cons rfl (sub_cons rfl sub_nil))))), by simp [stl], g1, hna2, hst2, ?_⟩)
            rw [← h4, if_neg (by simp)]; simp
        · cases r with
          | nil => cases e
          | cons p r => cases p with
            | star => cases e
            | sign m =>
              refine exs_cons (ex_append (i := 1) (ds := stl fx) (lk rfl) rfl (ev_item (ev_nm rfl).ev (ev_nm rfl).ev (by omega) (by omega) (suf_item g1)) ?_ ?_)
              refine exs_cons (ex_aug (lk rfl) ev_int.ev (.inl rfl) ?_)
              · rw [suf_next g1]
                refine exs_nil ⟨(r, fx ++ [[m]]), by simp, ?_, by simp [stl, Pt.d], suf_tail g1, ?_, g3⟩
                · exact sub_cons rfl (sub_cons rfl (sub_cons rfl (sub_cons rfl (sub_cons rfl (sub_cons rfl (sub_cons rfl sub_nil))))))
                · simpa [sgs] using g2
              · have := congrArg List.length g2
                have h9 := sgs_len (.sign n :: t)
                simp at this h9 hle
                rw [sizeLine_lit]; simp [stl]; omega
  · cases r with
    | nil => cases e
    | cons p r => cases p with
      | star => cases e
      | sign n =>
        refine exs_cons (ex_call_meth (i := 0) (ds := stl acc) (lk rfl) rfl (ev_item (ev_nm rfl).ev (ev_nm rfl).ev (by omega) (by omega) (suf_item h1)) ?_ ?_)
        refine exs_cons (ex_aug (lk rfl) ev_int.ev (.inl rfl) ?_)
        · rw [suf_next h1]
          refine exs_nil ⟨(r, acc ++ [[n]]), by simp, ?_, by simp [stl, Pt.d], suf_tail h1, ?_, h3⟩
          · exact sub_cons rfl (sub_cons rfl (sub_cons rfl (sub_cons rfl (sub_cons rfl (sub_cons rfl sub_nil)))))
          · simpa [sgs] using h2
        · have : acc.length + (sgs (.sign n :: r)).length = (sgs ps).length := by have := congrArg List.length h2; simpa using this
          have h4 := sgs_len ps
          rw [sizeLine_lit]; simp [stl]; omega
end Mine

set_option maxRecDepth 100000
set_option autoImplicit false
set_option linter.unusedVariables false
set_option maxHeartbeats 2000000
namespace Mine
open PySem PySem.W PySem.Calls PyProof.Rows

theorem NA_snoc : ∀ (r : List Pt) (n : Nat), NA r → NA (r ++ [.sign n])
  | [], _, _ => trivial
  | [.star], _, _ => trivial
  | [.sign _], _, _ => trivial
  | .star :: .star :: _, _, h => h.elim
  | .star :: .sign m :: r, n, h => NA_snoc (.sign m :: r) n h
  | .sign _ :: p :: r, n, h => NA_snoc (p :: r) n h
theorem NA_star : ∀ (r : List Pt), NA r → r.getLast? ≠ some .star → NA (r ++ [.star])
  | [], _, _ => trivial
  | [.star], _, h => absurd rfl h
  | [.sign _], _, _ => trivial
  | .star :: .star :: _, h, _ => h.elim
  | .star :: .sign m :: r, h, h' => NA_star (.sign m :: r) h (by simpa using h')
  | .sign _ :: p :: r, h, h' => NA_star (p :: r) h (by simpa using h')
theorem NA_step (r : List Pt) (n : Nat) (h : NA r) : NA (prStep r n) := by
  unfold prStep
  split
  · split
    · exact h
    · rename_i hh; exact NA_star r h hh
  · split <;> exact NA_snoc r _ h
theorem NA_prt (l : List Nat) : NA (prt l) := by
  have : ∀ (l : List Nat) (r : List Pt), NA r → NA (l.foldl prStep r) := by
    intro l
    induction l with
    | nil => intro r h; exact h
    | cons a t ih => intro r h; exact ih _ (NA_step r a h)
  exact this l [] trivial

theorem sp_translate {X : GCtx} (I : IsX X) (ht : ∀ h, X.tm h → TM X h) (l : List Nat) (hl : okPat l) (hz : l.length ≤ 10000) : Spec X "translate" 3 [.str (S l)] (.str (S (text (prt l)))) := by
  refine spec_def (dr := dfn pgm 5) (ps := ["pat"]) (I.mem (k := 1) rfl) rfl (fun pm code doc vs h => ?_) (by decide) (by decide +kernel) (by decide +kernel) (by decide +kernel) (by decide +kernel) rfl rfl rfl ?_
  · match vs, h with
    | [v], _ => rfl
  refine exs_cons (ex_assign_object (.inl rfl) rfl (I.bm (k := 9) rfl) fun a => ?_)
  refine exs_cons (ex_assign (ev_call (.cons (ev_nm rfl) (.cons (ev_nm rfl) (.cons (ev_lit [46] rfl) .nil))) (sp__translate I ht l a hl hz) (nle rfl) rfl) (.inl rfl) ?_)
  exact exs_cons (ex_ret (ev_call (.cons (ev_nm rfl) (.cons (ev_nm rfl) .nil)) (sp_join I (prt l) a (NA_prt l) (by have := prt_len l []; simp only [List.length_nil] at this; unfold prt; omega)) (nle rfl) rfl) rfl)
end Mine

set_option maxRecDepth 100000
set_option autoImplicit false
set_option linter.unusedVariables false
set_option maxHeartbeats 2000000
namespace Mine
open PySem PySem.W PySem.Calls PyProof.Rows

abbrev NL (ns : List Nat) : List D := ns.map fun n : Nat => D.int (n : Int)
theorem NL_IL (ns : List Nat) : NL ns = IL (ns.map fun n : Nat => (n : Int)) := by simp [NL, IL]
def addN (r : List Nat) (n : Nat) : List Nat := if r.contains n then r else r ++ [n]
def rows0 (dr : List Nat) : List Nat := dr.foldl (fun r x => addN r (sprd (x / 36) 5 0)) [0, 34, 273, 4370]
def sortN (ns : List Nat) : List Nat := ns.mergeSort (fun a b => decide (a ≤ b))
theorem sortN_perm (ns : List Nat) : (sortN ns).Perm ns := List.mergeSort_perm _ _
theorem sortN_le (ns : List Nat) : (sortN ns).Pairwise (· ≤ ·) := by
  have := List.pairwise_mergeSort (le := fun a b : Nat => decide (a ≤ b)) (fun a b c h1 h2 => by simp only [decide_eq_true_eq] at *; omega) (fun a b => by simp only [Bool.or_eq_true, decide_eq_true_eq]; omega) ns
  exact this.imp fun h => by simpa using h
theorem sortZN (ns : List Nat) : sortZ (ns.map fun n : Nat => (n : Int)) = (sortN ns).map fun n : Nat => (n : Int) :=
  (sortZ_uniq ((sortN_perm ns).map _) (List.pairwise_map.mpr ((sortN_le ns).imp fun h => by omega))).symm
theorem contains_cast (ns : List Nat) (n : Nat) : (ns.map fun n : Nat => (n : Int)).contains (n : Int) = ns.contains n := by
  rw [Bool.eq_iff_iff]; simp only [List.contains_iff_mem, List.mem_map]
  exact ⟨fun ⟨a, h, e⟩ => by have : a = n := by omega
                             exact this ▸ h, fun h => ⟨n, h, rfl⟩⟩
theorem rows0_len (dr : List Nat) : ∀ r : List Nat, (dr.foldl (fun r x => addN r (sprd (x / 36) 5 0)) r).length ≤ r.length + dr.length := by
  induction dr with
  | nil => intro r; simp
  | cons a t ih =>
    intro r
    have h1 := ih (addN r (sprd (a / 36) 5 0))
    have h2 : (addN r (sprd (a / 36) 5 0)).length ≤ r.length + 1 := by unfold addN; split <;> simp
    simp only [List.foldl_cons, List.length_cons]; omega
theorem fdivN (a b : Nat) (h : 0 < b) : ((a : Int).fdiv b) = ((a / b : Nat) : Int) := by rw [Int.fdiv_eq_ediv_of_nonneg _ (by omega)]; rfl
theorem fmodN (a b : Nat) (h : 0 < b) : ((a : Int).fmod b) = ((a % b : Nat) : Int) := by rw [Int.fmod_eq_emod_of_nonneg _ (by omega)]; rfl
theorem nl_get {ns : List Nat} {i : Nat} {d : D} (h : (NL ns)[i]? = some d) : ∃ hi : i < ns.length, d = .int (ns[i] : Nat) := by
  have hi : i < ns.length := by have := (List.getElem?_eq_some_iff.mp h).1; simpa using this
  refine ⟨hi, ?_⟩
  have : (NL ns)[i]? = some (D.int (ns[i] : Nat)) := by simp [NL, hi]
  rw [this] at h; injection h with h; exact h.symm
theorem take_snoc {α : Type} (l : List α) (i : Nat) (h : i < l.length) : l.take (i + 1) = l.take i ++ [l[i]] := by
  rw [List.take_add_one, List.getElem?_eq_getElem h]; rfl

theorem sp_rows {X : GCtx} (I : IsX X) (dr : List Nat) (hz : dr.length ≤ 8) : Spec X "_law_rows" 2 [.list (NL dr)] (.list (NL (sortN (rows0 dr)))) := by
  refine spec_def (dr := dfn pgm 19) (ps := ["draws"]) (I.mem (k := 10) rfl) rfl (fun pm code doc vs h => ?_) (by decide) (by decide +kernel) (by decide +kernel) (by decide +kernel) (by decide +kernel) rfl rfl rfl ?_
  · match vs, h with
    | [v], _ => rfl
  refine exs_cons (ex_assign_list (.cons ev_int (.cons ev_int (.cons ev_int (.cons ev_int .nil)))) (.inl rfl) ?_)
  refine exs_cons (ex_forS (σ := List Nat) (fun r => [("rows", .mu 0), ("draws", .d (.list (NL dr)))]) (fun r => [NL r]) (fun i r => r = (dr.take i).foldl (fun r x => addN r (sprd (x / 36) 5 0)) [0, 34, 273, 4370]) [0, 34, 273, 4370] rfl (sub_cons rfl (sub_cons rfl sub_nil)) rfl (evi_list (ev_nm rfl)) (.inl rfl) ?_ ?_)
  · rintro i d r hd rfl
    obtain ⟨hi, rfl⟩ := nl_get hd
    have htk := take_snoc dr i hi
    have hl : ((dr.take i).foldl (fun r x => addN r (sprd (x / 36) 5 0)) [0, 34, 273, 4370]).length ≤ 12 := by
      have := rows0_len (dr.take i) [0, 34, 273, 4370]
      simp only [List.length_take, List.length_cons, List.length_nil] at this; omega
    have hst : (dr.take (i + 1)).foldl (fun r x => addN r (sprd (x / 36) 5 0)) [0, 34, 273, 4370] = addN ((dr.take i).foldl (fun r x => addN r (sprd (x / 36) 5 0)) [0, 34, 273, 4370]) (sprd (dr[i] / 36) 5 0) := by
      rw [htk, List.foldl_append]; rfl
    generalize (dr.take i).foldl (fun r x => addN r (sprd (x / 36) 5 0)) [0, 34, 273, 4370] = r at hl hst ⊢
    generalize dr[i] = x at hst ⊢
    refine exs_cons (ex_assign (ev_call (ds := [.int (x / 36 : Nat), .int (5 : Nat)]) (.cons (evf_eq (ev_bin (ev_nm rfl).ev ev_int.ev (op_fdiv (by decide) (noPy (by decide)))) (by rw [show (36 : Int) = ((36 : Nat) : Int) from rfl, fdivN _ _ (by decide)])) (.cons ev_int .nil)) (sp_spread I (x / 36) 5 (by decide)) (nle rfl) rfl) (.inl rfl) ?_)
    refine exs_cons (ex_if (x := !r.contains (sprd (x / 36) 5 0)) (evt_eq (et_cmp (ev_nm rfl).ev (ev_eq (ev_mu (lk rfl) rfl) (by rw [NL_IL])) cmp_ninI) (by rw [contains_cast])) (fun h => ?_) (fun h => ?_))
    · refine exs_cons (ex_append (i := 0) (ds := NL r) (lk rfl) rfl (ev_nm rfl) ?_ (by rw [sizeLine_lit]; simp; omega))
      refine exs_nil (exs_nil ⟨_, sub_cons rfl (sub_cons rfl sub_nil), ?_, hst.symm⟩)
      have : r.contains (sprd (x / 36) 5 0) = false := by simpa using h
      unfold addN; rw [this]; simp [NL]
    · refine exs_nil (exs_nil ⟨_, sub_cons rfl (sub_cons rfl sub_nil), ?_, hst.symm⟩)
      have : r.contains (sprd (x / 36) 5 0) = true := by simpa using h
      unfold addN; rw [this]; simp
  · rintro r rfl
    have hl : (NL dr).length = dr.length := by simp
    rw [hl, List.take_length]
    refine exs_cons (ex_ret (ev_b1 (ev_eq (ev_mu (lk rfl) rfl) (by rw [NL_IL])) (b_sorted (by have := rows0_len dr [0, 34, 273, 4370]; simp only [List.length_cons, List.length_nil] at this; rw [List.length_map]; omega)) rfl (I.bm (k := 7) rfl) (by decide +kernel)) ?_)
    show D.list _ = D.list _
    rw [sortZN, ← NL_IL]; rfl

/-! items -/
def it1 (m : Nat) : Int := if 10 < m then -2 else if 8 < m then -1 else (sprd m 2 0 : Nat)
def itStep (side : Nat) (r : List Int) (x : Nat) : List Int := if ((x / 12 % 3 : Nat) : Int) = 1 - (side : Int) then r else r ++ [it1 (x % 12)]
def itemsOf (dr : List Nat) (side : Nat) : List Int := dr.foldl (itStep side) (if side = 0 then [-1, 17, -1] else [-2, -1, 2])
theorem itStep_len (side : Nat) (r : List Int) (x : Nat) : (itStep side r x).length ≤ r.length + 1 := by unfold itStep; split <;> simp
theorem items_len (side : Nat) (dr : List Nat) : ∀ r : List Int, (dr.foldl (itStep side) r).length ≤ r.length + dr.length := by
  induction dr with
  | nil => intro r; simp
  | cons a t ih =>
    intro r
    have h1 := ih (itStep side r a)
    have h2 := itStep_len side r a
    simp only [List.foldl_cons, List.length_cons]; omega
theorem sp_items {X : GCtx} (I : IsX X) (dr : List Nat) (side : Nat) (hs : side < 2) (hz : dr.length ≤ 8) : Spec X "_law_items" 2 [.list (NL dr), .int side] (.list (IL (itemsOf dr side))) := by
  refine spec_def (dr := dfn pgm 20) (ps := ["draws", "side"]) (I.mem (k := 11) rfl) rfl (fun pm code doc vs h => ?_) (by decide) (by decide +kernel) (by decide +kernel) (by decide +kernel) (by decide +kernel) rfl rfl rfl ?_
  · match vs, h with
    | [v, u], _ => rfl
  refine exs_cons (ex_assign_pick (z := side) (.cons (ev_neg ev_int.ev) (.cons ev_int (.cons (ev_neg ev_int.ev) .nil))) (.cons (ev_neg ev_int.ev) (.cons (ev_neg ev_int.ev) (.cons ev_int .nil))) (ev_nm rfl).ev hs (.inl rfl) ?_)
  have hd0 : ([] : Del) ++ [if side = 0 then [D.int (-1), D.int 17, D.int (-1)] else [D.int (-2), D.int (-1), D.int 2]] = [IL (if side = 0 then [-1, 17, -1] else [-2, -1, 2])] := by
    split <;> rfl
  rw [hd0]
  have hl0 : (if side = 0 then [(-1 : Int), 17, -1] else [-2, -1, 2]).length = 3 := by split <;> rfl
  refine exs_cons (ex_forS (σ := List Int) (fun r => [("items", .mu 0), ("draws", .d (.list (NL dr))), ("side", .d (.int side))]) (fun r => [IL r]) (fun i r => r = (dr.take i).foldl (itStep side) (if side = 0 then [-1, 17, -1] else [-2, -1, 2])) _ rfl (sub_cons rfl (sub_cons rfl (sub_cons rfl sub_nil))) rfl (evi_list (ev_nm rfl)) (.inl rfl) ?_ ?_)
  · rintro i d r hd rfl
    obtain ⟨hi, rfl⟩ := nl_get hd
    have htk := take_snoc dr i hi
    have hl : ((dr.take i).foldl (itStep side) (if side = 0 then [-1, 17, -1] else [-2, -1, 2])).length ≤ 12 := by
      have := items_len side (dr.take i) (if side = 0 then [-1, 17, -1] else [-2, -1, 2])
      rw [hl0] at this
      simp only [List.length_take] at this; omega
    have hst : (dr.take (i + 1)).foldl (itStep side) (if side = 0 then [-1, 17, -1] else [-2, -1, 2]) = itStep side ((dr.take i).foldl (itStep side) (if side = 0 then [-1, 17, -1] else [-2, -1, 2])) dr[i] := by
      rw [htk, List.foldl_append]; rfl
    generalize (dr.take i).foldl (itStep side) (if side = 0 then [-1, 17, -1] else [-2, -1, 2]) = r at hl hst ⊢
    generalize dr[i] = x at hst ⊢
    have e1 : ((x : Int).fdiv 12).fmod 3 = ((x / 12 % 3 : Nat) : Int) := by
      rw [show (12 : Int) = ((12 : Nat) : Int) from rfl, fdivN _ _ (by decide), show (3 : Int) = ((3 : Nat) : Int) from rfl, fmodN _ _ (by decide)]
    have e2 : (x : Int).fmod 12 = ((x % 12 : Nat) : Int) := by
      rw [show (12 : Int) = ((12 : Nat) : Int) from rfl, fmodN _ _ (by decide)]
    have fin : ∀ v : Int, it1 (x % 12) = v → ¬ ((x / 12 % 3 : Nat) : Int) = 1 - (side : Int) → [IL r].set 0 (IL r ++ [.int v]) = [IL (itStep side r x)] := fun v e h => by
      unfold itStep; rw [if_neg h, e]; simp [IL]
    refine exs_cons (ex_if (x := !decide (((x / 12 % 3 : Nat) : Int) = 1 - (side : Int))) (evt_eq (et_cmp (ev_bin (ev_bin (ev_nm rfl).ev ev_int.ev (op_fdiv (by decide) (noPy (by decide)))).ev ev_int.ev (op_mod (by decide))).ev (ev_bin ev_int.ev (ev_nm rfl).ev op_sub).ev cmp_ne) (by rw [e1]; exact rfl)) (fun h => ?_) (fun h => ?_))
    · have hne : ¬ ((x / 12 % 3 : Nat) : Int) = 1 - (side : Int) := by simpa using h
      refine exs_cons (ex_if (x := decide (10 < x % 12)) (evt_eq (et_cmp (ev_bin (ev_nm rfl).ev ev_int.ev (op_mod (by decide))).ev ev_int.ev cmp_gt) (by rw [e2]; simp; omega)) (fun h => ?_) (fun h => ?_))
      · have h10 : 10 < x % 12 := by simpa using h
        refine exs_cons (ex_append (i := 0) (ds := IL r) (lk rfl) rfl (ev_neg ev_int.ev) ?_ (by rw [sizeLine_lit]; simp; omega))
        refine exs_nil (exs_nil (exs_nil ⟨_, sub_cons rfl (sub_cons rfl (sub_cons rfl sub_nil)), fin _ (by unfold it1; rw [if_pos h10]) hne, hst.symm⟩))
      · have h10 : ¬ 10 < x % 12 := by simpa using h
        refine exs_cons (ex_if (x := decide (8 < x % 12)) (evt_eq (et_cmp (ev_bin (ev_nm rfl).ev ev_int.ev (op_mod (by decide))).ev ev_int.ev cmp_gt) (by rw [e2]; simp; omega)) (fun h => ?_) (fun h => ?_))
        · have h8 : 8 < x % 12 := by simpa using h
          refine exs_cons (ex_append (i := 0) (ds := IL r) (lk rfl) rfl (ev_neg ev_int.ev) ?_ (by rw [sizeLine_lit]; simp; omega))
          refine exs_nil (exs_nil (exs_nil (exs_nil ⟨_, sub_cons rfl (sub_cons rfl (sub_cons rfl sub_nil)), fin _ (by unfold it1; rw [if_neg h10, if_pos h8]) hne, hst.symm⟩)))
        · have h8 : ¬ 8 < x % 12 := by simpa using h
          refine exs_cons (ex_append (i := 0) (ds := IL r) (lk rfl) rfl (ev_call (ds := [.int (x % 12 : Nat), .int (2 : Nat)]) (.cons (evf_eq (ev_bin (ev_nm rfl).ev ev_int.ev (op_mod (by decide))) (by rw [e2])) (.cons ev_int .nil)) (sp_spread I (x % 12) 2 (by decide)) (nle rfl) rfl) ?_ (by rw [sizeLine_lit]; simp; omega))
          refine exs_nil (exs_nil (exs_nil (exs_nil ⟨_, sub_cons rfl (sub_cons rfl (sub_cons rfl sub_nil)), fin _ (by unfold it1; rw [if_neg h10, if_neg h8]) hne, hst.symm⟩)))
    · have hne : ((x / 12 % 3 : Nat) : Int) = 1 - (side : Int) := by simpa using h
      refine exs_nil (exs_nil ⟨_, sub_cons rfl (sub_cons rfl (sub_cons rfl sub_nil)), ?_, hst.symm⟩)
      unfold itStep; rw [if_pos hne]
  · rintro r rfl
    have hl : (NL dr).length = dr.length := by simp
    rw [hl, List.take_length]
    exact exs_cons (ex_ret_mu (lk rfl) (i := 0) rfl rfl)

/-! the pattern -/
def okIt (i : Int) : Prop := i = -1 ∨ i = -2 ∨ (0 ≤ i ∧ i < 2 ^ 20)
def itW (i : Int) : List Nat := if i = -1 then [42] else if i = -2 then [63] else wd i.toNat
def patOf (its : List Int) : List Nat := (its.map itW).flatten
theorem itW_len {i : Int} (h : okIt i) : (itW i).length ≤ 5 := by
  unfold itW
  split
  · simp
  · split
    · simp
    · refine wd_len ?_
      unfold okIt at h; omega
theorem flat_len {α : Type} (B : Nat) : ∀ l : List (List α), (∀ x ∈ l, x.length ≤ B) → l.flatten.length ≤ B * l.length
  | [], _ => by simp
  | a :: r, h => by
    have h1 := h a (by simp)
    have h2 := flat_len B r fun x hx => h x (by simp [hx])
    rw [List.flatten_cons, List.length_append, List.length_cons, Nat.mul_add]; omega
theorem sp_pattern {X : GCtx} (I : IsX X) (its : List Int) (ho : ∀ i ∈ its, okIt i) (hz : its.length ≤ 100) : Spec X "_law_pattern" 3 [.list (IL its)] (.str (S (patOf its))) := by
  refine spec_def (dr := dfn pgm 21) (ps := ["items"]) (I.mem (k := 12) rfl) rfl (fun pm code doc vs h => ?_) (by decide) (by decide +kernel) (by decide +kernel) (by decide +kernel) (by decide +kernel) rfl rfl rfl ?_
  · match vs, h with
    | [v], _ => rfl
  refine exs_cons (ex_ret (ev_join (xs := its.map itW) ev_str.ev (ev_compN D.int (fun l => D.str (S l)) inj_int its itW [] (evi_list (ev_nm rfl)).weak (csc rfl (by decide +kernel) rfl) (.inl rfl) (by omega) cs_nil ?_).ev ?_) ?_)
  · intro i hi
    have h1 := ho i hi
    refine evf_eq (ev_if (b := decide (i = -1)) (d := .str (S [42])) (e := .str (S (if i = -2 then [63] else wd i.toNat))) (evt_eq (et_cmp (ev_nm rfl).ev (ev_neg ev_int.ev).ev cmp_eq) rfl) (fun _ => ev_lit [42] rfl) (fun h => ?_)) (by unfold itW; by_cases h : i = -1 <;> simp [h])
    have hn1 : i ≠ -1 := by simpa using h
    refine evf_eq (ev_if (b := decide (i = -2)) (d := .str (S [63])) (e := .str (S (wd i.toNat))) (evt_eq (et_cmp (ev_nm rfl).ev (ev_neg ev_int.ev).ev cmp_eq) rfl) (fun _ => ev_lit [63] rfl) (fun h => ?_)) (by by_cases h : i = -2 <;> simp [h])
    have hn2 : i ≠ -2 := by simpa using h
    have h3 : 0 ≤ i ∧ i < 2 ^ 20 := by unfold okIt at h1; omega
    exact ev_call (.cons (evf_eq (ev_nm rfl) (by rw [Int.toNat_of_nonneg h3.1])) .nil) (sp_word I i.toNat (by omega)) (nle rfl) rfl
  · have := flat_len 5 (its.map itW) (fun x hx => by obtain ⟨i, hi, rfl⟩ := List.mem_map.mp hx; exact itW_len (ho i hi))
    rw [List.length_map] at this; omega
  · rfl
end Mine

set_option maxRecDepth 100000
set_option autoImplicit false
set_option linter.unusedVariables false
set_option maxHeartbeats 2000000
namespace Mine
open PySem PySem.W PySem.Calls PyProof.Rows

theorem cut_nn {α : Type} (l : List α) (a b : Nat) : cut l (some (a : Int)) (some (b : Int)) = (l.take b).drop a := by
  unfold cut
  simp only [Option.elim_some, clipAt_nat]
  by_cases h : a ≤ l.length
  · rw [Nat.min_eq_left h, List.drop_take]
    apply List.take_eq_take_iff.mpr
    simp only [List.length_drop]; omega
  · rw [Nat.min_eq_right (show l.length ≤ a by omega)]
    have h1 : l.drop l.length = [] := by simp
    rw [h1, List.take_nil]
    symm
    apply List.drop_eq_nil_of_le
    simp only [List.length_take]; omega
theorem cut_n {α : Type} (l : List α) (a : Nat) : cut l (some (a : Int)) none = l.drop a := by
  unfold cut
  simp only [Option.elim_some, Option.elim_none, clipAt_nat]
  by_cases h : a ≤ l.length
  · rw [Nat.min_eq_left h, List.take_of_length_le (by simp)]
  · rw [Nat.min_eq_right (by omega)]; simp; omega
theorem cut_to {α : Type} (l : List α) (b : Nat) : cut l none (some (b : Int)) = l.take b := by
  unfold cut
  simp only [Option.elim_some, Option.elim_none, clipAt_nat, List.drop_zero, Nat.sub_zero]
  by_cases h : b ≤ l.length
  · rw [Nat.min_eq_left h]
  · rw [Nat.min_eq_right (by omega), List.take_of_length_le (Nat.le_refl _), List.take_of_length_le (by omega)]
theorem cut_tail {α : Type} (l : List α) (k : Nat) (hk : 1 ≤ k) : cut l (some (-(k : Int))) none = l.drop (l.length - k) := by
  unfold cut
  simp only [Option.elim_some, Option.elim_none, clipAt_neg _ _ hk]
  rw [List.take_of_length_le (by simp)]
theorem cut_mid {α : Type} (l : List α) (a k : Nat) (hk : 1 ≤ k) : cut l (some (a : Int)) (some (-(k : Int))) = (l.take (l.length - k)).drop a := by
  have h := cut_nn l a (l.length - k)
  unfold cut at h ⊢
  simp only [Option.elim_some, clipAt_nat, clipAt_neg _ _ hk] at h ⊢
  rw [Nat.min_eq_left (Nat.sub_le _ _)] at h
  exact h

/-- a piece fits a word at a place -/
def fitsB (f w : List Nat) (at' : Nat) : Bool := decide (at' + f.length ≤ w.length) && (List.range f.length).all fun k => f.getD k 0 == 46 || f.getD k 0 == w.getD (at' + k) 0
theorem zs_get {n : Nat} {a : Int} {i : Nat} {d : D} (h : (zs a n)[i]? = some d) : i < n ∧ d = .int (a + i) := by
  have hi : i < n := by have := (List.getElem?_eq_some_iff.mp h).1; simpa [zs] using this
  refine ⟨hi, ?_⟩
  have : (zs a n)[i]? = some (D.int (a + i)) := by simp [zs, hi]
  rw [this] at h; injection h with h; exact h.symm
def encz (k : Nat) : D := .int (0 + (k : Int))
theorem inj_encz : Inj encz := fun a b h => by unfold encz at h; injection h with h; omega
def okL (l : List Nat) : Prop := ∀ n ∈ l, n < 0x110000
theorem okS_one (n : Nat) (h : n < 0x110000) : okS (S [n]) = true := by simp [okS, h]
theorem sp_fits {X : GCtx} (I : IsX X) (f w : List Nat) (at' : Nat) (hf : f.length ≤ 1000) (hw : w.length ≤ 1000) (hat : at' ≤ 100000) (hof : okL f) (how : okL w) : Spec X "_law_fits" 1 [.str (S f), .str (S w), .int at'] (.bool (fitsB f w at')) := by
  refine spec_def (dr := dfn pgm 22) (ps := ["piece", "word", "at"]) (I.mem (k := 13) rfl) rfl (fun pm code doc vs h => ?_) (by decide) (by decide +kernel) (by decide +kernel) (by decide +kernel) (by decide +kernel) rfl rfl rfl ?_
  · match vs, h with
    | [v, u, t], _ => rfl
  refine exs_cons (ex_if (x := !decide (at' + f.length ≤ w.length)) (evt_eq (et_cmp (ev_bin (ev_nm rfl).ev (ev_b1 (ev_nm rfl).ev (b_len_S (by omega)) rfl (I.bm (k := 3) rfl) (by decide +kernel)).ev op_add).ev (ev_b1 (ev_nm rfl).ev (b_len_S (by omega)) rfl (I.bm (k := 3) rfl) (by decide +kernel)).ev cmp_gt) (by rw [Bool.eq_iff_iff]; simp; omega)) (fun h => ?_) (fun h => exs_nil ?_))
  · refine exs_cons (ex_ret ev_bool ?_)
    show D.bool _ = D.bool _
    have : decide (at' + f.length ≤ w.length) = false := by simpa using h
    unfold fitsB; rw [this]; rfl
  · have hle : at' + f.length ≤ w.length := by simpa using h
    refine exs_cons (ex_ret (ev_cmp (ev_eq (ev_compL encz encz inj_encz (List.range f.length) (fun k => !(46 == f.getD k 0 || w.getD (at' + k) 0 == f.getD k 0)) id [("piece", .d (.str (S f))), ("word", .d (.str (S w))), ("at", .d (.int at'))]
      (evi_eq (evi_range1 (ev_b1 (ev_nm rfl).ev (b_len_S (by omega)) rfl (I.bm (k := 3) rfl) (by decide +kernel)).ev (by omega) (by omega) rfl (I.bm (k := 6) rfl)).weak (by rw [Int.toNat_natCast]; rfl)) (csc rfl (by decide +kernel) rfl) (.inl rfl) (by simp; omega)
      (cs_cons rfl rfl (cs_cons rfl rfl (cs_cons rfl rfl cs_nil))) ?_ ?_).ev (d' := .list (IL (((List.range f.length).filter fun k => !(46 == f.getD k 0 || w.getD (at' + k) 0 == f.getD k 0)).map fun k : Nat => (0 + (k : Int))))) (by simp only [IL, List.map_map, List.map_id]; rfl)) (ev_eq (ev_list .nil).ev (d' := .list (IL [])) rfl) cmp_eqI) ?_)
    · intro k hk
      have hk' : k < f.length := List.mem_range.mp hk
      have e1 : f.getD k 0 = f[k] := by simp [hk']
      have hk2 : at' + k < w.length := by omega
      have e2 : w.getD (at' + k) 0 = w[at' + k] := by simp [hk2]
      rw [e1, e2]
      refine evifs_one (evt_eq (et_cmp (ev_sitem (n := f[k]) (ev_nm rfl).ev (ev_nm rfl).ev (by omega) (by omega) (by simp [hk'])).ev (ev_tup (.cons (ev_lit [46] rfl) (.cons (ev_sitem (n := w[at' + k]) (ev_nm rfl).ev (ev_bin (ev_nm rfl).ev (ev_nm rfl).ev op_add).ev (by omega) (by omega) (by
        have : ((at' : Int) + (0 + (k : Int))).toNat = at' + k := by omega
        rw [this]; simp [hk2])) .nil))).ev (cmp_ninS (okS_one 46 (by decide)) (okS_one _ (how _ (List.getElem_mem hk2))) (okS_one _ (hof _ (List.getElem_mem hk'))))) ?_)
      rw [S_beq, S_beq]
      rw [Bool.eq_iff_iff]; simp
    · intro k hk hp
      exact ev_nm rfl
    · show D.bool _ = D.bool _
      congr 1
      unfold fitsB
      rw [decide_eq_true hle, Bool.true_and]
      rw [Bool.eq_iff_iff]
      simp only [decide_eq_true_eq, List.map_eq_nil_iff, List.filter_eq_nil_iff, List.all_eq_true, List.mem_range, Bool.not_eq_true', Bool.not_eq_false, Bool.or_eq_true, beq_iff_eq]
      exact ⟨fun h k hk => (h k hk).imp Eq.symm Eq.symm, fun h k hk => (h k hk).imp Eq.symm Eq.symm⟩
end Mine

set_option maxRecDepth 100000
set_option autoImplicit false
set_option linter.unusedVariables false
set_option maxHeartbeats 2000000
namespace Mine
open PySem PySem.W PySem.Calls PyProof.Rows PySem.Builtin.Str

/-- the first place from at on where the piece fits, else one behind the word -/
noncomputable def seek (w f : List Nat) : Nat → Nat → Nat
  | 0, a => a
  | m + 1, a => if decide (a ≤ w.length) && !fitsB f w a then seek w f m (a + 1) else a
theorem seek_le (w f : List Nat) : ∀ m a, seek w f m a ≤ max a (w.length + 1)
  | 0, a => by simp [seek]; omega
  | m + 1, a => by
    unfold seek
    split
    · rename_i h
      have := seek_le w f m (a + 1)
      simp at h; omega
    · omega
/-- does the inner text take the word -/
noncomputable def tk (w : List Nat) : Nat → List Pt → Nat → Bool
  | k + 1, .sign n :: r, a => fitsB [n] w a && tk w k r (a + 1)
  | k + 1, .star :: t, a => if (rst t).isEmpty then decide (a + (sgs t).length ≤ w.length) && fitsB (sgs t) w (w.length - (sgs t).length) else tk w k (rst t) (seek w (sgs t) (w.length + 1) a + (sgs t).length)
  | _, _, a => a == w.length
def OkP (ps : List Pt) : Prop := ∀ n, Pt.sign n ∈ ps → n = 46 ∨ (65 ≤ n ∧ n ≤ 80)
theorem OkP.sgs : ∀ {r : List Pt}, OkP r → ∀ n ∈ sgs r, n = 46 ∨ (65 ≤ n ∧ n ≤ 80)
  | [], _, n, h => by cases h
  | .star :: r, _, n, h => by cases h
  | .sign m :: r, ho, n, h => by
    rcases List.mem_cons.mp h with rfl | h
    · exact ho _ (by simp)
    · exact OkP.sgs (r := r) (fun k hk => ho k (by simp [hk])) n h
theorem OkP.rst : ∀ {r : List Pt}, OkP r → OkP (rst r)
  | [], h => h
  | .star :: r, h => h
  | .sign m :: r, h => OkP.rst (r := r) fun k hk => h k (by simp [hk])

theorem inner_sign (n : Nat) (r : List Pt) : inner (.sign n :: r) = n :: inner r := by
  unfold inner
  show n :: sgs r ++ (jres (r.length + 1) (rst r)).flatten = _
  rw [jres_more _ _ (rst_len r)]; rfl
theorem rst_idem : ∀ r : List Pt, sgs (rst r) = [] ∧ rst (rst r) = rst r
  | [] => ⟨rfl, rfl⟩
  | .star :: r => ⟨rfl, rfl⟩
  | .sign n :: r => rst_idem r
theorem inner_end (t : List Pt) (h : (rst t).isEmpty = true) : inner (.star :: t) = 46 :: 42 :: sgs t := by
  show [] ++ (jres (t.length + 1) (.star :: t)).flatten = _
  simp only [jres]
  cases t with
  | nil => rfl
  | cons p t =>
    rw [if_neg (by simp), if_pos h]; simp
theorem inner_grp (t : List Pt) (h : (rst t).isEmpty = false) : inner (.star :: t) = [40, 63, 62, 46, 42, 63] ++ sgs t ++ 41 :: inner (rst t) := by
  show [] ++ (jres (t.length + 1) (.star :: t)).flatten = _
  have ht : ¬ t.isEmpty = true := by
    cases t with
    | nil => cases h
    | cons => simp
  simp only [jres]
  rw [if_neg ht, if_neg (by simp [h])]
  have h1 := rst_idem t
  unfold inner
  rw [h1.1, h1.2, jres_eq (Nat.le_refl _) (rst_len t)]
  simp
theorem inner_head : ∀ (r : List Pt), OkP r → (inner r).head? ≠ some 42
  | [], _ => by simp [inner, sgs, rst, jres]
  | .sign n :: r, h => by
    rw [inner_sign]; have := h n (by simp); simp; omega
  | .star :: t, h => by
    cases hr : (rst t).isEmpty with
    | true => rw [inner_end t hr]; simp
    | false => rw [inner_grp t hr]; simp
theorem inner_ok : ∀ (k : Nat) (r : List Pt), r.length ≤ k → OkP r → okL (inner r)
  | _, [], _, _ => by intro n h; simp [inner, sgs, rst, jres] at h
  | 0, _ :: _, h, _ => by simp at h
  | k + 1, .sign n :: r, hk, h => by
    rw [inner_sign]; intro m hm
    rcases List.mem_cons.mp hm with rfl | hm
    · have := h m (by simp); omega
    · exact inner_ok k r (by simpa using hk) (fun a ha => h a (by simp [ha])) m hm
  | k + 1, .star :: t, hk, h => by
    have ht : OkP t := fun a ha => h a (by simp [ha])
    have hs : ∀ m ∈ sgs t, m < 0x110000 := fun m hm => by have := ht.sgs m hm; omega
    cases hr : (rst t).isEmpty with
    | true =>
      rw [inner_end t hr]; intro m hm
      rcases List.mem_cons.mp hm with rfl | hm
      · decide
      rcases List.mem_cons.mp hm with rfl | hm
      · decide
      exact hs m hm
    | false =>
      rw [inner_grp t hr]; intro m hm
      rcases List.mem_append.mp hm with hm | hm
      · rcases List.mem_append.mp hm with hm | hm
        · have h6 : ∀ m ∈ ([40, 63, 62, 46, 42, 63] : List Nat), m < 0x110000 := by decide
          exact h6 m hm
        · exact hs m hm
      · rcases List.mem_cons.mp hm with rfl | hm
        · decide
        · exact inner_ok k (rst t) (by have := rst_len t; simp at hk; omega) ht.rst m hm

def tG (T w : List Nat) (r : List Pt) (a : Nat) : Gam := [("inner", .d (.str (S T))), ("word", .d (.str (S w))), ("at", .d (.int a)), ("k", .d (.int (T.length - (inner r).length : Nat)))]
theorem pre_take {T s : List Nat} (h : ∃ pre, T = pre ++ s) (m : Nat) : (T.take (T.length - s.length + m)).drop (T.length - s.length) = s.take m := by
  obtain ⟨pre, rfl⟩ := h
  have e : (pre ++ s).length - s.length = pre.length := by simp
  rw [e, List.take_append, List.drop_append]
  simp
theorem pre_drop {T s : List Nat} (h : ∃ pre, T = pre ++ s) (m : Nat) : T.drop (T.length - s.length + m) = s.drop m := by
  obtain ⟨pre, rfl⟩ := h
  have e : (pre ++ s).length - s.length = pre.length := by simp
  rw [e, ← List.drop_drop]; simp
theorem pre_get {T s : List Nat} {n : Nat} (h : ∃ pre, T = pre ++ n :: s) : T[T.length - (n :: s).length]? = some n := by
  obtain ⟨pre, rfl⟩ := h
  have e : (pre ++ n :: s).length - (n :: s).length = pre.length := by simp
  rw [e]; simp
theorem pre_le {T s : List Nat} (h : ∃ pre, T = pre ++ s) : s.length ≤ T.length := by
  obtain ⟨pre, rfl⟩ := h; simp
theorem pre_shut {T f s : List Nat} (hf : ∀ n ∈ f, n ≠ 41) (h : ∃ pre, T = pre ++ ([40, 63, 62, 46, 42, 63] ++ f ++ 41 :: s)) :
    occurrences (S T) (S [41]) (fromIndex (S T).length ((T.length - ([40, 63, 62, 46, 42, 63] ++ f ++ 41 :: s).length : Nat) : Int)) (S T).length 1 = [T.length - ([40, 63, 62, 46, 42, 63] ++ f ++ 41 :: s).length + 6 + f.length] := by
  obtain ⟨pre, rfl⟩ := h
  have e : (pre ++ ([40, 63, 62, 46, 42, 63] ++ f ++ 41 :: s)).length - ([40, 63, 62, 46, 42, 63] ++ f ++ 41 :: s).length = pre.length := by simp
  rw [e, slen]
  have hfi : fromIndex (pre ++ ([40, 63, 62, 46, 42, 63] ++ f ++ 41 :: s)).length (pre.length : Int) = pre.length := by unfold fromIndex; omega
  rw [hfi]
  have get : ∀ j, (pre ++ ([40, 63, 62, 46, 42, 63] ++ f ++ 41 :: s))[pre.length + j]? = ([40, 63, 62, 46, 42, 63] ++ f ++ 41 :: s)[j]? := fun j => by
    rw [List.getElem?_append_right (by omega)]; congr 1; omega
  refine occ_first _ _ _ _ _ (by omega) (by simp [Str.length]; omega) ?_ fun j h1 h2 => ?_
  · rw [subAt_one, Nat.add_assoc, get, List.getElem?_append_right (by simp; omega)]
    have : 6 + f.length - ([40, 63, 62, 46, 42, 63] ++ f).length = 0 := by simp; omega
    rw [this]; rfl
  · obtain ⟨i, rfl⟩ : ∃ i, j = pre.length + i := ⟨j - pre.length, by omega⟩
    rw [subAt_one, get, List.getElem?_append_left (by simp; omega)]
    have hi : i < ([40, 63, 62, 46, 42, 63] ++ f).length := by simp; omega
    rw [List.getElem?_eq_getElem hi]
    have hm := List.getElem_mem hi
    have hne : ([40, 63, 62, 46, 42, 63] ++ f)[i] ≠ 41 := by
      rcases List.mem_append.mp hm with hm | hm
      · have h6 : ∀ m ∈ ([40, 63, 62, 46, 42, 63] : List Nat), m ≠ 41 := by decide
        exact h6 _ hm
      · exact hf _ hm
    exact beq_eq_false_iff_ne.mpr (fun h => hne (Option.some.inj h))

theorem pre_piece {T f s : List Nat} (h : ∃ pre, T = pre ++ ([40, 63, 62, 46, 42, 63] ++ f ++ 41 :: s)) : (T.take (T.length - (f.length + 7 + s.length) + 6 + f.length)).drop (T.length - (f.length + 7 + s.length) + 6) = f := by
  obtain ⟨pre, rfl⟩ := h
  have e : (pre ++ ([40, 63, 62, 46, 42, 63] ++ f ++ 41 :: s)).length - (f.length + 7 + s.length) = pre.length := by simp; omega
  rw [e]
  have e2 : pre ++ ([40, 63, 62, 46, 42, 63] ++ f ++ 41 :: s) = (pre ++ [40, 63, 62, 46, 42, 63]) ++ (f ++ 41 :: s) := by simp
  have e3 : pre.length + 6 = (pre ++ [40, 63, 62, 46, 42, 63]).length := by simp
  rw [e2, e3, List.take_append, List.drop_append]
  simp
theorem sp_takes {X : GCtx} (I : IsX X) (ps : List Pt) (w : List Nat) (ho : OkP ps) (hw : w.length ≤ 100) (how : okL w) (hT : (inner ps).length ≤ 1000) : Spec X "_law_takes" 2 [.str (S (inner ps)), .str (S w)] (.bool (tk w ps.length ps 0)) := by
  refine spec_def (dr := dfn pgm 23) (ps := ["inner", "word"]) (I.mem (k := 14) rfl) rfl (fun pm code doc vs h => ?_) (by decide) (by decide +kernel) (by decide +kernel) (by decide +kernel) (by decide +kernel) rfl rfl rfl ?_
  · match vs, h with
    | [v, u], _ => rfl
  refine exs_cons (ex_assign ev_int (.inl rfl) ?_)
  refine exs_cons (ex_assign ev_int (.inl rfl) ?_)
  have hTok := inner_ok ps.length ps (Nat.le_refl _) ho
  generalize hgoal : tk w ps.length ps 0 = goal
  generalize hTe : inner ps = T at *
  refine exs_cons (ex_whileS (σ := Nat × List Pt × Nat) (fun z => tG T w z.2.1 z.2.2) (fun _ => []) (fun z => (inner z.2.1).length)
    (fun z => (∃ pre, T = pre ++ inner z.2.1) ∧ z.2.1.length ≤ z.1 ∧ OkP z.2.1 ∧ tk w z.1 z.2.1 z.2.2 = goal ∧ z.2.2 + (inner z.2.1).length ≤ w.length + 1 + T.length) (ps.length, ps, 0) ⟨⟨[], by rw [hTe]; rfl⟩, Nat.le_refl _, ho, hgoal, by simp [hTe]⟩ ?_ rfl ?_)
  · unfold tG; dsimp only; rw [hTe, Nat.sub_self]
    exact sub_cons rfl (sub_cons rfl (sub_cons rfl (sub_cons rfl sub_nil)))
  clear hgoal
  rintro ⟨m, r, a⟩ ⟨h1, h2, h3, h4, h5⟩
  dsimp only at h1 h2 h3 h4 h5 ⊢
  have hle := pre_le h1
  refine ⟨!(inner r).isEmpty, evt_eq (et_cmp (ev_nm rfl).ev (ev_b1 (ev_nm rfl).ev (b_len_S (by omega)) rfl (I.bm (k := 3) rfl) (by decide +kernel)).ev cmp_lt) ?_, fun e => ?_, fun e => ?_⟩
  · cases hin : inner r with
    | nil => simp
    | cons x y => rw [hin] at hle; simp at hle ⊢; omega
  · have hr : r = [] := by
      cases r with
      | nil => rfl
      | cons p r => cases p with
        | sign n => rw [inner_sign] at e; cases e
        | star =>
          cases hr : (rst r).isEmpty with
          | true => rw [inner_end r hr] at e; cases e
          | false => rw [inner_grp r hr] at e; cases e
    subst hr
    refine exs_cons (ex_ret (ev_cmp (ev_nm rfl).ev (ev_b1 (ev_nm rfl).ev (b_len_S (by omega)) rfl (I.bm (k := 3) rfl) (by decide +kernel)).ev cmp_eq) ?_)
    show D.bool _ = D.bool _
    rw [← h4]
    have : tk w m [] a = (a == w.length) := by cases m <;> rfl
    rw [this]; congr 1; rw [Bool.eq_iff_iff]; simp; omega
  · obtain ⟨p, r', rfl⟩ : ∃ p r', r = p :: r' := by
      cases r with
      | nil => cases e
      | cons p r' => exact ⟨p, r', rfl⟩
    clear e
    obtain ⟨m, rfl⟩ : ∃ m', m = m' + 1 := ⟨m - 1, by simp at h2; omega⟩
    simp only [List.length_cons] at h2
    have h2' : r'.length ≤ m := by omega
    have e6 : ((T.length - (inner (p :: r')).length : Nat) : Int) + 6 = ((T.length - (inner (p :: r')).length + 6 : Nat) : Int) := by omega
    have e2 : ((T.length - (inner (p :: r')).length : Nat) : Int) + 2 = ((T.length - (inner (p :: r')).length + 2 : Nat) : Int) := by omega
    have c6 := pre_take h1 6
    have c2 := pre_take h1 2
    refine exs_cons (ex_if (x := decide ((inner (p :: r')).take 6 = [40, 63, 62, 46, 42, 63])) (evt_eq (et_cmp (ev_sl_str (ev_nm rfl).ev (.some (ev_nm rfl).ev) (.some (ev_bin (ev_nm rfl).ev ev_int.ev op_add).ev) (by omega)).ev (ev_lit [40, 63, 62, 46, 42, 63] rfl).ev cmp_eqS) (by rw [e6, cut_nn, c6])) (fun hc => ?_) (fun hc => ?_))
    · -- a held group
      have hc' := of_decide_eq_true hc
      cases p with
      | sign n =>
        rw [inner_sign] at hc'
        have := h3 n (by simp)
        simp at hc'; omega
      | star =>
        have hre : (rst r').isEmpty = false := by
          cases hr : (rst r').isEmpty with
          | false => rfl
          | true => rw [inner_end r' hr] at hc'; simp at hc'
        have hig := inner_grp r' hre
        have hsf : ∀ n ∈ sgs r', n ≠ 41 := fun n hn => by have := OkP.sgs (r := r') (fun k hk => h3 k (by simp [hk])) n hn; omega
        have hsk : okL (sgs r') := fun n hn => by have := OkP.sgs (r := r') (fun k hk => h3 k (by simp [hk])) n hn; omega
        have hrs : OkP (rst r') := OkP.rst (r := r') fun k hk => h3 k (by simp [hk])
        have hrl := rst_len r'
        have htk : tk w (m + 1) (.star :: r') a = tk w m (rst r') (seek w (sgs r') (w.length + 1) a + (sgs r').length) := by
          simp only [tk]; rw [if_neg (by simp [hre])]
        rw [htk] at h4
        have hocc := pre_shut hsf (hig ▸ h1)
        rw [hig] at h5 hle h1
        have hlen : ([40, 63, 62, 46, 42, 63] ++ sgs r' ++ 41 :: inner (rst r')).length = (sgs r').length + 7 + (inner (rst r')).length := by simp; omega
        rw [hlen] at h5 hle
        have hk0 : T.length - (inner (.star :: r')).length = T.length - ((sgs r').length + 7 + (inner (rst r')).length) := by rw [hig, hlen]
        rw [hlen] at hocc
        unfold tG
        rw [hk0]
        generalize hf : sgs r' = f at *
        refine exs_cons (ex_assign (ev_index (k := T.length - (f.length + 7 + (inner (rst r')).length) + 6 + f.length) (ev_nm rfl).ev (ev_lit [41] rfl).ev (ev_nm rfl).ev hocc) (.inl rfl) ?_)
        have hcut : cut T (some (((T.length - (f.length + 7 + (inner (rst r')).length) : Nat) : Int) + 6)) (some ((T.length - (f.length + 7 + (inner (rst r')).length) + 6 + f.length : Nat) : Int)) = f := by
          have q : (((T.length - (f.length + 7 + (inner (rst r')).length) : Nat) : Int) + 6) = ((T.length - (f.length + 7 + (inner (rst r')).length) + 6 : Nat) : Int) := by omega
          rw [q, cut_nn]; exact pre_piece h1
        refine exs_cons (ex_assign (evf_eq (ev_sl_str (ev_nm rfl).ev (.some (ev_bin (ev_nm rfl).ev ev_int.ev op_add).ev) (.some (ev_nm rfl).ev) (by omega)) (by rw [hcut])) (.inl rfl) ?_)
        refine exs_cons (ex_whileS (σ := Nat × Nat) (fun z => [("inner", .d (.str (S T))), ("word", .d (.str (S w))), ("at", .d (.int z.2)), ("k", .d (.int (T.length - (f.length + 7 + (inner (rst r')).length) : Nat))), ("shut", .d (.int (T.length - (f.length + 7 + (inner (rst r')).length) + 6 + f.length : Nat))), ("piece", .d (.str (S f)))]) (fun _ => []) (fun z => z.1)
          (fun z => seek w f z.1 z.2 = seek w f (w.length + 1) a ∧ w.length + 1 ≤ z.2 + z.1 ∧ (z.2 ≤ a ∨ z.2 ≤ w.length + 1)) (w.length + 1, a) ⟨rfl, by simp, .inl (Nat.le_refl _)⟩ (sub_cons rfl (sub_cons rfl (sub_cons rfl (sub_cons rfl (sub_cons rfl (sub_cons rfl sub_nil)))))) rfl ?_)
        rintro ⟨q, b⟩ ⟨g1, g2, g3⟩
        dsimp only at g1 g2 g3 ⊢
        have hfl : f.length ≤ 1000 := by omega
        refine ⟨decide (b ≤ w.length) && !fitsB f w b, et_and (evt_eq (et_cmp (ev_nm rfl).ev (ev_b1 (ev_nm rfl).ev (b_len_S (by omega)) rfl (I.bm (k := 3) rfl) (by decide +kernel)).ev cmp_le) (by rw [Bool.eq_iff_iff]; simp)) (fun _ => et_not (et_of (ev_call (.cons (ev_nm rfl) (.cons (ev_nm rfl) (.cons (ev_nm rfl) .nil))) (sp_fits I f w b hfl (by omega) (by omega) hsk how) (nle rfl) rfl).ev (by exact rfl))), fun e => ?_, fun e => ?_⟩
        · have hs : seek w f q b = b := by
            cases q with
            | zero => rfl
            | succ q => unfold seek; rw [if_neg (by simpa using e)]
          rw [hs] at g1
          refine exs_cons (ex_assign (ev_bin (ev_nm rfl).ev (ev_b1 (ev_nm rfl).ev (b_len_S (by omega)) rfl (I.bm (k := 3) rfl) (by decide +kernel)).ev op_add) (.inl rfl) ?_)
          refine exs_cons (ex_assign (ev_bin (ev_nm rfl).ev ev_int.ev op_add) (.inl rfl) ?_)
          have q1 : (b : Int) + (f.length : Int) = ((b + f.length : Nat) : Int) := by omega
          have q2 : ((T.length - (f.length + 7 + (inner (rst r')).length) + 6 + f.length : Nat) : Int) + 1 = ((T.length - (inner (rst r')).length : Nat) : Int) := by omega
          rw [q1, q2]
          refine exs_nil (exs_nil ⟨(m, rst r', b + f.length), ?_, sub_cons rfl (sub_cons rfl (sub_cons rfl (sub_cons rfl sub_nil))), rfl, ?_, by show (rst r').length ≤ m; omega, hrs, ?_, ?_⟩)
          · show (inner (rst r')).length < (inner (.star :: r')).length
            rw [hig]; simp; omega
          · obtain ⟨pre, hp⟩ := h1
            exact ⟨pre ++ ([40, 63, 62, 46, 42, 63] ++ f ++ [41]), by rw [hp]; simp⟩
          · show tk w m (rst r') (b + f.length) = goal
            rw [← h4, ← g1]
          · show b + f.length + (inner (rst r')).length ≤ _
            omega
        · have hb : b ≤ w.length := by simp at e; exact e.1
          obtain ⟨q, rfl⟩ : ∃ q', q = q' + 1 := ⟨q - 1, by omega⟩
          refine exs_cons (ex_assign (ev_bin (ev_nm rfl).ev ev_int.ev op_add) (.inl rfl) ?_)
          have q1 : (b : Int) + 1 = ((b + 1 : Nat) : Int) := by omega
          rw [q1]
          refine exs_nil ⟨(q, b + 1), by simp, sub_cons rfl (sub_cons rfl (sub_cons rfl (sub_cons rfl (sub_cons rfl (sub_cons rfl sub_nil))))), rfl, ?_, by show w.length + 1 ≤ b + 1 + q; omega, by show _ ∨ b + 1 ≤ _; omega⟩
          show seek w f q (b + 1) = _
          rw [← g1]; simp only [seek]; rw [if_pos (by simpa using e)]
    · have hc' := of_decide_eq_false hc
      refine exs_cons (ex_if (x := decide ((inner (p :: r')).take 2 = [46, 42])) (evt_eq (et_cmp (ev_sl_str (ev_nm rfl).ev (.some (ev_nm rfl).ev) (.some (ev_bin (ev_nm rfl).ev ev_int.ev op_add).ev) (by omega)).ev (ev_lit [46, 42] rfl).ev cmp_eqS) (by rw [e2, cut_nn, c2])) (fun hd => ?_) (fun hd => ?_))
      · have hd' := of_decide_eq_true hd
        cases p with
        | sign n =>
          rw [inner_sign] at hd'
          have hh := inner_head r' fun k hk => h3 k (by simp [hk])
          cases hir : inner r' with
          | nil => rw [hir] at hd'; simp at hd'
          | cons x y => rw [hir] at hd' hh; simp at hd' hh; exact absurd hd'.2 hh
        | star =>
          have hre : (rst r').isEmpty = true := by
            cases hr : (rst r').isEmpty with
            | true => rfl
            | false => rw [inner_grp r' hr] at hd'; simp at hd'
          have hig := inner_end r' hre
          have hsk : okL (sgs r') := fun n hn => by have := OkP.sgs (r := r') (fun k hk => h3 k (by simp [hk])) n hn; omega
          have htk : tk w (m + 1) (.star :: r') a = (decide (a + (sgs r').length ≤ w.length) && fitsB (sgs r') w (w.length - (sgs r').length)) := by
            simp only [tk]; rw [if_pos hre]
          rw [htk] at h4
          have hdr := pre_drop h1 2
          have hfl : (sgs r').length ≤ 1000 := by rw [hig] at hle; simp at hle; omega
          have hcut : cut T (some (((T.length - (inner (.star :: r')).length : Nat) : Int) + 2)) none = sgs r' := by
            rw [e2, cut_n, hdr, hig]; rfl
          refine exs_cons (ex_assign (evf_eq (ev_sl_str (ev_nm rfl).ev (.some (ev_bin (ev_nm rfl).ev ev_int.ev op_add).ev) .none (by omega)) (by rw [hcut])) (.inl rfl) ?_)
          refine exs_cons (ex_ret (ev_and (a := decide (a + (sgs r').length ≤ w.length)) (b := fitsB (sgs r') w (w.length - (sgs r').length)) (evf_eq (ev_cmp (ev_bin (ev_b1 (ev_nm rfl).ev (b_len_S (by omega)) rfl (I.bm (k := 3) rfl) (by decide +kernel)).ev (ev_b1 (ev_nm rfl).ev (b_len_S (by omega)) rfl (I.bm (k := 3) rfl) (by decide +kernel)).ev op_sub).ev (ev_nm rfl).ev cmp_ge) (by congr 1; rw [Bool.eq_iff_iff]; simp; omega))
            (fun hle2 => ev_call (.cons (ev_nm rfl) (.cons (ev_nm rfl) (.cons (evf_eq (ev_bin (ev_b1 (ev_nm rfl).ev (b_len_S (by omega)) rfl (I.bm (k := 3) rfl) (by decide +kernel)).ev (ev_b1 (ev_nm rfl).ev (b_len_S (by omega)) rfl (I.bm (k := 3) rfl) (by decide +kernel)).ev op_sub) (by have := of_decide_eq_true hle2; congr 1; omega)) .nil))) (sp_fits I (sgs r') w (w.length - (sgs r').length) hfl (by omega) (by omega) hsk how) (nle rfl) rfl)) ?_)
          show D.bool _ = D.bool _
          rw [h4]
      · have hd' := of_decide_eq_false hd
        cases p with
        | star =>
          cases hr : (rst r').isEmpty with
          | true => rw [inner_end r' hr] at hd'; simp at hd'
          | false => rw [inner_grp r' hr] at hc'; simp at hc'
        | sign n =>
          have hn := h3 n (by simp)
          have htk : tk w (m + 1) (.sign n :: r') a = (fitsB [n] w a && tk w m r' (a + 1)) := rfl
          rw [htk] at h4
          rw [inner_sign] at h1 h5 hle
          have hk0 : T.length - (inner (.sign n :: r')).length = T.length - (n :: inner r').length := by rw [inner_sign]
          unfold tG
          rw [hk0]
          refine exs_cons (ex_if (x := fitsB [n] w a) (et_of (ev_call (.cons (ev_sitem (n := n) (ev_nm rfl).ev (ev_nm rfl).ev (by omega) (by omega) (by rw [Int.toNat_natCast]; exact pre_get h1)) (.cons (ev_nm rfl) (.cons (ev_nm rfl) .nil))) (sp_fits I [n] w a (by simp) (by omega) (by omega) (by intro x hx; rw [List.mem_singleton.mp hx]; omega) how) (nle rfl) rfl).ev (by exact rfl)) (fun hfit => ?_) (fun hfit => ?_))
          · refine exs_cons (ex_assign (ev_bin (ev_nm rfl).ev ev_int.ev op_add) (.inl rfl) ?_)
            refine exs_cons (ex_assign (ev_bin (ev_nm rfl).ev ev_int.ev op_add) (.inl rfl) ?_)
            simp only [List.length_cons] at h5 hle ⊢
            have q1 : (a : Int) + 1 = ((a + 1 : Nat) : Int) := by omega
            have q2 : ((T.length - ((inner r').length + 1) : Nat) : Int) + 1 = ((T.length - (inner r').length : Nat) : Int) := by omega
            rw [q1, q2]
            refine exs_nil (exs_nil (exs_nil (exs_nil ⟨(m, r', a + 1), ?_, sub_cons rfl (sub_cons rfl (sub_cons rfl (sub_cons rfl sub_nil))), rfl, ?_, h2', fun k hk => h3 k (by simp [hk]), ?_, ?_⟩)))
            · show (inner r').length < (inner (.sign n :: r')).length
              rw [inner_sign]; simp
            · obtain ⟨pre, hp⟩ := h1
              exact ⟨pre ++ [n], by rw [hp]; simp⟩
            · show tk w m r' (a + 1) = goal
              rw [← h4, hfit]; rfl
            · show a + 1 + (inner r').length ≤ _
              omega
          · refine exs_cons (ex_ret ev_bool ?_)
            show D.bool _ = D.bool _
            rw [← h4, hfit]; rfl
end Mine

set_option maxRecDepth 100000
set_option autoImplicit false
set_option linter.unusedVariables false
set_option maxHeartbeats 2000000
namespace Mine
open PySem PySem.W PySem.Calls PyProof.Rows

def wideP (p : Nat) (acc : List Nat) : List Nat := (List.range 6).foldl (fun acc k => addN acc (p / 16 ^ k)) acc
def wideOf (l : List Nat) : List Nat := l.foldl (fun acc p => wideP p acc) []
def mstep (l : List Nat) (item : Int) : List Nat :=
  if item = -1 then wideOf l else if item = -2 then (l.filter fun p => decide (0 < p)).map fun p => p / 16
  else (l.filter fun p => p % 16 ^ (hx item.toNat).length == item.toNat).map fun p => p / 16 ^ (hx item.toNat).length
def means (its : List Int) (n : Nat) : Bool := (its.reverse.foldl mstep [n]).contains 0
theorem addN_len (r : List Nat) (n : Nat) : (addN r n).length ≤ r.length + 1 := by unfold addN; split <;> simp
theorem foldk_len (p : Nat) : ∀ (l : List Nat) (acc : List Nat), (l.foldl (fun acc k => addN acc (p / 16 ^ k)) acc).length ≤ acc.length + l.length
  | [], acc => by simp
  | a :: r, acc => by have h1 := foldk_len p r (addN acc (p / 16 ^ a)); have h2 := addN_len acc (p / 16 ^ a); simp only [List.foldl_cons, List.length_cons]; omega
theorem wideP_len (p : Nat) (acc : List Nat) : (wideP p acc).length ≤ acc.length + 6 := by
  have := foldk_len p (List.range 6) acc
  simpa [wideP] using this
theorem wide_len : ∀ (l acc : List Nat), (l.foldl (fun acc p => wideP p acc) acc).length ≤ acc.length + 6 * l.length
  | [], acc => by simp
  | a :: r, acc => by have h1 := wide_len r (wideP a acc); have h2 := wideP_len a acc; simp only [List.foldl_cons, List.length_cons]; omega
theorem mstep_len (l : List Nat) (item : Int) : (mstep l item).length ≤ 6 * l.length := by
  unfold mstep
  split
  · have := wide_len l []; simpa [wideOf] using this
  · split
    · have := List.length_filter_le (fun p => decide (0 < p)) l; rw [List.length_map]; omega
    · have := List.length_filter_le (fun p => p % 16 ^ (hx item.toNat).length == item.toNat) l; rw [List.length_map]; omega
theorem msteps_len : ∀ (its : List Int) (l : List Nat), (its.foldl mstep l).length ≤ 6 ^ its.length * l.length
  | [], l => by simp
  | a :: r, l => by
    have h1 := msteps_len r (mstep l a)
    have h2 := mstep_len l a
    simp only [List.foldl_cons, List.length_cons]
    refine Nat.le_trans h1 ?_
    rw [Nat.pow_succ, Nat.mul_assoc]
    exact Nat.mul_le_mul_left _ h2
theorem bits16 : Builtin.Int.intBits 16 = 5 := by decide +kernel
theorem pow16 (k : Nat) : (16 : Int) ^ k = ((16 ^ k : Nat) : Int) := by norm_cast
theorem pow16_lt (k : Nat) (h : k ≤ 5) : 16 ^ k ≤ 1048576 := Nat.pow_le_pow_right (n := 16) (by decide) h
section
variable {c : Cfg} {Γ : Gam} {Δ : Del} {P : Post}
theorem op_pow16 {k : Nat} (h : k ≤ 5) : OpF c .Pow (.int 16) (.int k) (.int (16 ^ k : Nat)) := by
  have := op_pow (c := c) (a := 16) (b := k) (by omega) (by rw [bits16]; omega)
  rwa [Int.toNat_natCast, pow16] at this
theorem op_div16 {a k : Nat} (h : k ≤ 5) (hh : c.hd = true := by rfl) : OpF c .FloorDiv (.int a) (.int (16 ^ k : Nat)) (.int (a / 16 ^ k : Nat)) := by
  have h1 := pow16_lt k h
  have h0 : 0 < 16 ^ k := Nat.pow_pos (by decide)
  have := op_fdiv (c := c) (a := a) (b := (16 ^ k : Nat)) (by omega) (noPy (by omega)) hh
  rwa [fdivN _ _ h0] at this
theorem op_mod16 {a k : Nat} : OpF c .Mod (.int a) (.int (16 ^ k : Nat)) (.int (a % 16 ^ k : Nat)) := by
  have h0 : 0 < 16 ^ k := Nat.pow_pos (by decide)
  have := op_mod (c := c) (a := a) (b := (16 ^ k : Nat)) (by omega)
  rwa [fmodN _ _ h0] at this
end
theorem il_get {ns : List Int} {i : Nat} {d : D} (h : (IL ns)[i]? = some d) : ∃ hi : i < ns.length, d = .int ns[i] := by
  have hi : i < ns.length := by have := (List.getElem?_eq_some_iff.mp h).1; simpa using this
  refine ⟨hi, ?_⟩
  have : (IL ns)[i]? = some (D.int ns[i]) := by simp [IL, hi]
  rw [this] at h; injection h with h; exact h.symm

theorem sp_means {X : GCtx} (I : IsX X) (its : List Int) (n : Nat) (ho : ∀ i ∈ its, okIt i) (hz : its.length ≤ 6) : Spec X "_law_means" 2 [.list (IL its), .int n] (.bool (means its n)) := by
  refine spec_def (dr := dfn pgm 25) (ps := ["items", "number"]) (I.mem (k := 16) rfl) rfl (fun pm code doc vs h => ?_) (by decide) (by decide +kernel) (by decide +kernel) (by decide +kernel) (by decide +kernel) rfl rfl rfl ?_
  · match vs, h with
    | [v, u], _ => rfl
  refine exs_cons (ex_assign (ev_list (.cons (ev_nm rfl) .nil)) (.inl rfl) ?_)
  refine exs_cons (ex_forS (σ := List Nat) (fun l => [("left", .d (.list (NL l))), ("items", .d (.list (IL its)))]) (fun _ => []) (fun i l => l = (its.reverse.take i).foldl mstep [n]) [n] rfl (sub_cons rfl (sub_cons rfl sub_nil)) rfl
    (evi_eq (evi_list (ev_rev_list (ev_nm rfl).ev (ev_neg ev_int.ev).ev (by simp; omega))) (show (IL its).reverse = IL its.reverse by simp [IL])) (.inr (show _ ∈ ownCells (dfn pgm 25).scope by decide +kernel)) ?_ ?_)
  · rintro i d l hd rfl
    obtain ⟨hi, rfl⟩ := il_get hd
    have htk := take_snoc its.reverse i hi
    have hst : (its.reverse.take (i + 1)).foldl mstep [n] = mstep ((its.reverse.take i).foldl mstep [n]) its.reverse[i] := by rw [htk, List.foldl_append]; rfl
    have hlen : ((its.reverse.take i).foldl mstep [n]).length ≤ 50000 := by
      refine Nat.le_trans (msteps_len _ _) ?_
      rw [List.length_take, List.length_singleton, Nat.mul_one]
      refine Nat.le_trans (Nat.pow_le_pow_right (n := 6) (by decide) (show min i its.reverse.length ≤ 6 by simp; omega)) (by decide)
    have hok : okIt its.reverse[i] := ho _ (List.mem_reverse.mp (List.getElem_mem hi))
    generalize (its.reverse.take i).foldl mstep [n] = l at hst hlen ⊢
    generalize its.reverse[i] = item at hst hok ⊢
    refine exs_cons (ex_if (x := decide (item = -1)) (evt_eq (et_cmp (ev_nm rfl).ev (ev_neg ev_int.ev).ev cmp_eq) rfl) (fun h => ?_) (fun h => ?_))
    · have h1 : item = -1 := of_decide_eq_true h
      refine exs_cons (ex_assign_list .nil (.inl rfl) ?_)
      refine exs_cons (ex_forS (σ := List Nat) (fun w => [("wide", .mu 0), ("left", .d (.list (NL l))), ("items", .d (.list (IL its)))]) (fun w => [NL w]) (fun j w => w = (l.take j).foldl (fun acc p => wideP p acc) []) [] rfl (sub_cons rfl (sub_cons rfl (sub_cons rfl sub_nil))) rfl (evi_list (ev_nm rfl)) (.inl rfl) ?_ ?_)
      · rintro j d w hd rfl
        obtain ⟨hj, rfl⟩ := nl_get hd
        have htj := take_snoc l j hj
        have hwl : ((l.take j).foldl (fun acc p => wideP p acc) []).length ≤ 300000 := by
          have := wide_len (l.take j) []
          rw [List.length_take, List.length_nil] at this; omega
        have hsj : (l.take (j + 1)).foldl (fun acc p => wideP p acc) [] = wideP l[j] ((l.take j).foldl (fun acc p => wideP p acc) []) := by rw [htj, List.foldl_append]; rfl
        generalize (l.take j).foldl (fun acc p => wideP p acc) [] = w at hwl hsj ⊢
        generalize l[j] = p at hsj ⊢
        refine exs_cons (ex_forS (σ := List Nat) (fun w => [("part", .d (.int p)), ("wide", .mu 0), ("left", .d (.list (NL l))), ("items", .d (.list (IL its)))]) (fun w => [NL w]) (fun q v => v = ((List.range 6).take q).foldl (fun acc k => addN acc (p / 16 ^ k)) w) w rfl (sub_cons rfl (sub_cons rfl (sub_cons rfl (sub_cons rfl sub_nil)))) rfl
          (evi_range1 ev_int.ev (by decide) (by decide) rfl (I.bm (k := 6) rfl)) (.inl rfl) ?_ ?_)
        · rintro q d v hd rfl
          obtain ⟨hq, rfl⟩ := zs_get hd
          have hq6 : q < 6 := by simpa using hq
          have htq := take_snoc (List.range 6) q (by simpa using hq6)
          have hvl := foldk_len p ((List.range 6).take q) w
          have hvl2 : ((List.range 6).take q).length ≤ 6 := by simp; omega
          have hsq : ((List.range 6).take (q + 1)).foldl (fun acc k => addN acc (p / 16 ^ k)) w = addN (((List.range 6).take q).foldl (fun acc k => addN acc (p / 16 ^ k)) w) (p / 16 ^ q) := by rw [htq, List.foldl_append]; simp
          generalize ((List.range 6).take q).foldl (fun acc k => addN acc (p / 16 ^ k)) w = v at hvl hsq ⊢
          rw [show (0 : Int) + (q : Int) = (q : Int) by omega]
          refine exs_cons (ex_if (x := !v.contains (p / 16 ^ q)) (evt_eq (et_cmp (ev_bin (ev_nm rfl).ev (ev_bin ev_int.ev (ev_nm rfl).ev (op_pow16 (by omega))).ev (op_div16 (by omega))).ev (ev_eq (ev_mu (lk rfl) rfl) (by rw [NL_IL])) cmp_ninI) (by rw [contains_cast])) (fun h => ?_) (fun h => ?_))
          · refine exs_cons (ex_append (i := 0) (ds := NL v) (lk rfl) rfl (ev_bin (ev_nm rfl).ev (ev_bin ev_int.ev (ev_nm rfl).ev (op_pow16 (by omega))).ev (op_div16 (by omega))) ?_ (by rw [sizeLine_lit]; simp; omega))
            refine exs_nil (exs_nil ⟨_, sub_cons rfl (sub_cons rfl (sub_cons rfl (sub_cons rfl sub_nil))), ?_, hsq.symm⟩)
            have : v.contains (p / 16 ^ q) = false := by simpa using h
            unfold addN; rw [this]; simp [NL]
          · refine exs_nil (exs_nil ⟨_, sub_cons rfl (sub_cons rfl (sub_cons rfl (sub_cons rfl sub_nil))), ?_, hsq.symm⟩)
            have : v.contains (p / 16 ^ q) = true := by simpa using h
            unfold addN; rw [this]; simp
        · rintro v rfl
          refine exs_nil ⟨_, sub_cons rfl (sub_cons rfl (sub_cons rfl sub_nil)), rfl, ?_⟩
          have : (zs 0 (6 : Int).toNat).length = 6 := by simp [zs]
          rw [hsj, this]; rfl
      · rintro w rfl
        have hl : (NL l).length = l.length := by simp
        rw [hl, List.take_length]
        refine exs_cons (ex_alias (i := 0) (lk rfl) (.inl rfl) ?_)
        refine exs_freeze (Δ := []) (Γ' := [("left", .d (.list (NL (l.foldl (fun acc p => wideP p acc) [])))), ("items", .d (.list (IL its)))]) (fun p hp => ?_) ?_
        · rcases List.mem_cons.mp hp with rfl | hp
          · exact .inr ⟨rfl, lk rfl⟩
          · rw [List.mem_singleton.mp hp]; exact .inl ⟨lk rfl, trivial⟩
        · refine exs_nil (exs_nil ⟨_, sub_all, rfl, ?_⟩)
          rw [hst]; unfold mstep; rw [if_pos h1]; rfl
    · have h1 : item ≠ -1 := of_decide_eq_false h
      refine exs_cons (ex_if (x := decide (item = -2)) (evt_eq (et_cmp (ev_nm rfl).ev (ev_neg ev_int.ev).ev cmp_eq) rfl) (fun h => ?_) (fun h => ?_))
      · have h2 : item = -2 := of_decide_eq_true h
        refine exs_cons (ex_assign_compL (fun n : Nat => D.int n) (fun n : Nat => D.int n) inj_nat l (fun p => decide (0 < p)) (fun p => p / 16) [] (evi_list (ev_nm rfl)).weak (csc rfl (by decide +kernel) rfl) (.inl rfl) (by omega) cs_nil (fun p _ => evifs_one (evt_eq (et_cmp (ev_nm rfl).ev ev_int.ev cmp_gt) (by rw [Bool.eq_iff_iff]; simp)))
          (fun p _ _ => evf_eq (ev_bin (ev_nm rfl).ev ev_int.ev (op_fdiv (by decide) (noPy (by decide)))) (by rw [show (16 : Int) = ((16 : Nat) : Int) from rfl, fdivN _ _ (by decide)])) rfl ?_)
        refine exs_nil (exs_nil (exs_nil ⟨_, sub_cons rfl (sub_cons rfl sub_nil), rfl, ?_⟩))
        rw [hst]; unfold mstep; rw [if_neg h1, if_pos h2]
      · have h2 : item ≠ -2 := of_decide_eq_false h
        have h3 : 0 ≤ item ∧ item < 2 ^ 20 := by unfold okIt at hok; omega
        have hsz := hx_len 5 item.toNat (by omega)
        have hit : (item.toNat : Int) = item := Int.toNat_of_nonneg h3.1
        refine exs_cons (ex_assign (ev_bin ev_int.ev (ev_call (.cons (evf_eq (ev_nm rfl) (by rw [hit])) .nil) (sp_size I item.toNat) (nle rfl) rfl).ev (op_pow16 hsz)) (.inr (show _ ∈ ownCells (dfn pgm 25).scope by decide +kernel)) ?_)
        refine exs_cons (ex_assign_compL (fun n : Nat => D.int n) (fun n : Nat => D.int n) inj_nat l (fun p => p % 16 ^ (hx item.toNat).length == item.toNat) (fun p => p / 16 ^ (hx item.toNat).length) [("whole", .d (.int (16 ^ (hx item.toNat).length : Nat))), ("item", .d (.int item))] (evi_list (ev_nm rfl)).weak (csc rfl (by decide +kernel) rfl) (.inl rfl) (by omega) (cs_cons rfl rfl (cs_cons rfl rfl cs_nil))
          (fun p _ => evifs_one (evt_eq (et_cmp (ev_bin (ev_nm rfl).ev (ev_nm rfl).ev op_mod16).ev (ev_nm rfl).ev cmp_eq) (by rw [Bool.eq_iff_iff]; simp only [beq_iff_eq]; generalize p % 16 ^ (hx item.toNat).length = y; omega)))
          (fun p _ _ => ev_bin (ev_nm rfl).ev (ev_nm rfl).ev (op_div16 hsz)) rfl ?_)
        refine exs_nil (exs_nil (exs_nil ⟨_, sub_cons rfl (sub_cons rfl sub_nil), rfl, ?_⟩))
        rw [hst]; unfold mstep; rw [if_neg h1, if_neg h2]
  · rintro l rfl
    have hl : (IL its.reverse).length = its.reverse.length := by simp
    rw [hl, List.take_length]
    refine exs_cons (ex_ret (ev_cmp ev_int.ev (ev_eq (ev_nm rfl).ev (by rw [NL_IL])) cmp_inI) ?_)
    show D.bool _ = D.bool _
    rw [show (0 : Int) = ((0 : Nat) : Int) from rfl, contains_cast]; rfl
end Mine

set_option maxRecDepth 100000
set_option autoImplicit false
set_option linter.unusedVariables false
set_option linter.unusedSectionVars false
set_option maxHeartbeats 400000
namespace Mine
open PySem PySem.W PySem.Calls PyProof.Rows
section
variable {α : Type} [DecidableEq α] {enc : α → D} {lt : α → α → Bool}

def sl0 (A1 A2 : List D) : Gam := [("expected", .d (.list A1)), ("actual", .d (.list A2))]
def sl1 (A1 A2 : List D) : Gam := [("i", .d (.int 0)), ("j", .d (.int 0)), ("expected", .d (.list A1)), ("actual", .d (.list A2))]
def sl2 (A1 A2 : List D) : Gam := [("i", .d (.int 0)), ("j", .d (.int 0)), ("expected", .d (.list A1)), ("actual", .d (.list A2)), ("missing", .mu 0)]
theorem sld_run {X : GCtx} (I : IsX X) (R : Ord enc lt) (l1 l2 : List α) (hw1 : l1.Pairwise fun a b => lt a b = true) (hw2 : l2.Pairwise fun a b => lt a b = true) (hz1 : l1.length ≤ 1000) (hz2 : l2.length ≤ 1000)
    {A : Around} {s : Shared} {g : Fz} {fa LL : Addr} {vs : List Value} {envL : Env} {oL : Obj} (hA : A.handled = none) (hdp : A.depth + (0 + 1) < recursionLimit) (hu : A.units + 8 * (0 + 1) + 200 < cLine) (G : Glo X s.heap) (hs : ∀ b o, g b = some o → s.heap.get? b = some o)
    (hmg : X.mg (Str.ofString "sorted_list_difference") = some (.ref fa)) (hr : Reps g [.list (l1.map enc), .list (l2.map enc)] vs)
    (hfr : A.frames = some [envL]) (hf : envL.frame = some LL) (hk : envL.scope.kind ≠ .module) (hoL : s.heap.get? LL = some oL) (hnf : ∀ vs, oL.data ≠ .fields vs) (hgL : g LL = none) (hG : Glo X (hideAll s.heap [LL]))
    {Q : Value → Shared → Prop} {E : Value → Shared → Prop}
    (hQ : ∀ v hF gF tk, (∀ b o, (hideAll s.heap [LL]).get? b = some o → hF.get? b = some o) → (∃ o', hF.get? LL = some o' ∧ o'.data = oL.data) → (∀ b o, g b = some o → gF b = some o) → (∀ b o, gF b = some o → hF.get? b = some o) → (∀ b o, gF b = some o → g b = some o ∨ (hideAll s.heap [LL]).get? b = none) → gF LL = none →
      Rep gF (.tup [.list ((dif l1 l2).map enc), .list ((dif l2 l1).map enc)]) v → Q v { s with heap := hF, toks := tk }) :
    wpAny (model X.prog X.w) A (call (.ref fa) vs) Q E s := by
  refine enter_def (dr := dfn pgm 13) (ps := ["expected", "actual"]) (n := 0) (I.mem (k := 5) rfl) rfl (fun pm code doc vs h => ?_) (by decide) (by decide +kernel) (by decide +kernel) (by decide +kernel) (by decide +kernel) rfl rfl rfl hA hdp hu G hs hmg hr ?_
  · match vs, h with
    | [v, u], _ => rfl
  intro fr h₁ tk e1 e2 e3 e4 e5 e6 e7 kp O S
  have hoc : fr.oc = [] := by rw [e6]; rfl
  have hn : ∀ p ∈ (dfn pgm 13).scope.names, p.2 ≠ .cell ∧ p.2 ≠ .free := by decide +kernel
  have hG' : Glo X (hideAll fr.h₀ [LL]) := by rw [e2]; exact hG
  have O3 := O.less (LL := LL) hG' hn rfl
  have S3 := S.less (LL := LL) O hn hoc
  have hne : fr.env.locals ≠ LL := fun q => by rw [q, hoL] at e7; cases e7
  have F : Two (less fr LL) LL := ⟨⟨envL, by show fr.A.frames = _; rw [e1]; exact Around.frames_deeper hfr, hf, hk⟩, e5, (by show fr.env.scope.kind ≠ _; rw [O.sc, O.kind]; decide), hne, hoc, hideAll_none _ (.head _)⟩
  have Z : SS (less fr LL) LL oL.data (sl0 (l1.map enc) (l2.map enc)) [] h₁ g [] := ⟨S3, ⟨⟨oL, kp _ _ hoL, rfl⟩, hnf⟩, hgL, by simp⟩
  generalize hfr3 : less fr LL = fr3 at O3 S3 F Z
  have eA : fr.A = fr3.A := by rw [← hfr3]; rfl
  have eE : fr.env = fr3.env := by rw [← hfr3]; rfl
  have eh : fr3.h₀ = hideAll s.heap [LL] := by rw [← hfr3, ← e2]; rfl
  have eg : fr3.g₀ = g := by rw [← hfr3]; exact e3
  rw [eA, eE]
  clear S O S3
  refine wpAny_execs_cons (SS.ex1 (s := { s with heap := h₁, toks := tk }) (P := fun o Γ' Δ' => o = .next ∧ (∀ p ∈ sl1 (l1.map enc) (l2.map enc), p ∈ Γ') ∧ Δ' = []) O3 F Z (ex_two ev_int (.inl rfl) (.inl rfl) ⟨rfl, sub_cons rfl (sub_cons rfl (sub_cons rfl (sub_cons rfl sub_nil))), rfl⟩) fun o f Γ' Δ' h2 g2 am2 t2 hp hf Z2 k2 => ?_)
  obtain ⟨rfl, hsub, rfl⟩ := hp
  cases hf
  have Z2 := Z2.weak hsub
  refine wpAny_execs_cons (SS.ex1 (s := { s with heap := h2, toks := t2 }) (P := fun o Γ' Δ' => o = .next ∧ (∀ p ∈ sl2 (l1.map enc) (l2.map enc), p ∈ Γ') ∧ Δ' = [[]]) O3 F Z2 (ex_assign_list .nil (.inl rfl) ⟨rfl, sub_cons rfl (sub_cons rfl (sub_cons rfl (sub_cons rfl (sub_cons rfl sub_nil)))), rfl⟩) fun o f Γ' Δ' h3 g3 am3 t3 hp hf Z3 k3 => ?_)
  obtain ⟨rfl, hsub, rfl⟩ := hp
  cases hf
  have Z3 := Z3.weak hsub
  refine wpAny_execs_cons (SS.ex1 (s := { s with heap := h3, toks := t3 }) (P := fun o Γ' Δ' => o = .next ∧ (∀ p ∈ sG (l1.map enc) (l2.map enc) 0 0, p ∈ Γ') ∧ Δ' = [[], []]) O3 F Z3 (ex_assign_list .nil (.inl rfl) ⟨rfl, sub_cons rfl (sub_cons rfl (sub_cons rfl (sub_cons rfl (sub_cons rfl (sub_cons rfl sub_nil))))), rfl⟩) fun o f Γ' Δ' h4 g4 am4 t4 hp hf Z4 k4 => ?_)
  obtain ⟨rfl, hsub, rfl⟩ := hp
  cases hf
  have Z4 := Z4.weak hsub
  clear Z Z2 Z3
  have hM : (dif l1 l2).length ≤ 1000 := Nat.le_trans (List.length_filter_le _ _) hz1
  have hU : (dif l2 l1).length ≤ 1000 := Nat.le_trans (List.length_filter_le _ _) hz2
  refine wpAny_execs_cons (wpAny_While (codeAny_whileLoop (fun n s' => ∃ p1 r1 p2 r2 mi un g am h tk, s' = { s with heap := h, toks := tk } ∧ Go l1 l2 (dif l1 l2) (dif l2 l1) p1 r1 p2 r2 mi un ∧ SS fr3 LL oL.data (sG (l1.map enc) (l2.map enc) p1.length p2.length) [mi.map enc, un.map enc] h g am ∧ n = r1.length + r2.length) ?_ (l1.length + l2.length)
    ⟨[], l1, [], l2, [], [], g4, am4, h4, t4, rfl, ⟨rfl, rfl, rfl, rfl⟩, Z4, rfl⟩))
  clear Z4
  rintro n s' ⟨p1, r1, p2, r2, mi, un, g5, am5, h5, t5, rfl, G5, Z5, rfl⟩
  refine SS.test (s := { s with heap := h5, toks := t5 }) (x := true) O3 Z5 (et_of ev_bool.ev (by exact rfl)) fun h6 g6 t6 Z6 => ?_
  simp only [if_true]
  refine wpAny_execs_cons (wpAny_Try_except ?_)
  refine wpAny_mono (?_ : wpAny _ _ _ _ (RZ fr3 LL oL.data enc l1 l2 (dif l1 l2) (dif l2 l1) { s with heap := h6, toks := t6 }) _) (fun _ _ q => q) ?_
  · refine x_body (s := { s with heap := h6, toks := t6 }) R O3 F rfl Z6 G5 hz1 hz2 rfl rfl ?_
    intro a b r1' r2' h7 g7 t7 er1 er2 Z7
    subst er1 er2
    refine wpAny_execs_cons (wpAny_If (SS.test (s := { s with heap := h7, toks := t7 }) (x := lt a b) O3 Z7 (et_cmp (ev_nm rfl).ev (ev_nm rfl).ev (R.clt _ a b)) fun h8 g8 t8 Z8 => ?_))
    by_cases hab : lt a b = true
    · rw [if_pos hab]
      refine x_less (s := { s with heap := h8, toks := t8 }) (s0 := { s with heap := h6, toks := t6 }) R O3 F rfl Z8 ⟨_, _, rfl⟩ G5 hab hz1 hz2 hM hw1 hw2 rfl ?_ ?_
      · rfl
      · intro p1' r1'' mi' h9 g9 am9 t9 hlt G9 Z9
        exact wpAny_execs_nil (wpAny_execs_nil (wpAny_execs_nil ⟨_, by simp only [List.length_cons] at hlt ⊢; omega, p1', r1'', _, _, mi', _, g9, am9, h9, t9, rfl, G9, Z9, rfl⟩))
    · rw [if_neg hab]
      refine wpAny_execs_cons (wpAny_If (SS.test (s := { s with heap := h8, toks := t8 }) (x := lt b a) O3 Z8 (et_cmp (ev_nm rfl).ev (ev_nm rfl).ev (R.cgt _ a b)) fun h9 g9 t9 Z9 => ?_))
      by_cases hba : lt b a = true
      · rw [if_pos hba]
        refine x_more (s := { s with heap := h9, toks := t9 }) (s0 := { s with heap := h6, toks := t6 }) R O3 F rfl Z9 ⟨_, _, rfl⟩ G5 hba hz1 hz2 hU hw1 hw2 rfl ?_ ?_
        · rfl
        · intro p2' r2'' un' h9 g9 am9 t9 hlt G9 Z9
          exact wpAny_execs_nil (wpAny_execs_nil (wpAny_execs_nil (wpAny_execs_nil ⟨_, by simp only [List.length_cons] at hlt ⊢; omega, _, _, p2', r2'', _, un', g9, am9, h9, t9, rfl, G9, Z9, rfl⟩)))
      · rw [if_neg hba]
        obtain rfl := R.tot a b (by simpa using hab) (by simpa using hba)
        refine x_same (s := { s with heap := h9, toks := t9 }) (s0 := { s with heap := h6, toks := t6 }) R O3 F rfl Z9 ⟨_, _, rfl⟩ G5 hz1 hz2 hw1 hw2 rfl rfl ?_
        intro p1' r1'' p2' r2'' h9 g9 am9 t9 hlt hlt2 G9 Z9
        exact wpAny_execs_nil (wpAny_execs_nil (wpAny_execs_nil (wpAny_execs_nil ⟨_, by simp only [List.length_cons] at hlt hlt2 ⊢; omega, p1', r1'', p2', r2'', _, _, g9, am9, h9, t9, rfl, G9, Z9, rfl⟩)))
  · intro v s' z
    refine x_handle O3 F z hz1 hz2 hM hU rfl (I.bm (k := 12) rfl) ?_ ?_ ?_
    · rfl
    · rfl
    · intro h8 g8 am8 t8 Z8
      -- behind the loop: the return
      refine SS.exs (s := { s with heap := h8, toks := t8 }) (P := fun o Γ' Δ' => o = .ret (.tup [.list ((dif l1 l2).map enc), .list ((dif l2 l1).map enc)])) O3 F Z8 ?_ fun o f Γ' Δ' h9 g9 am9 t9 hp hf Z9 _ => ?_
      · refine exs_freeze (Δ := [(dif l1 l2).map enc]) (Γ' := [("missing", .mu 0), ("unexpected", .d (.list ((dif l2 l1).map enc)))]) (fun p hp => ?_) ?_
        · rcases List.mem_cons.mp hp with rfl | hp
          · exact .inl ⟨lk rfl, by show 0 < 1; omega⟩
          · rw [List.mem_singleton.mp hp]; exact .inr ⟨rfl, lk rfl⟩
        refine exs_freeze (Δ := []) (Γ' := [("missing", .d (.list ((dif l1 l2).map enc))), ("unexpected", .d (.list ((dif l2 l1).map enc)))]) (fun p hp => ?_) ?_
        · rcases List.mem_cons.mp hp with rfl | hp
          · exact .inr ⟨rfl, lk rfl⟩
          · rw [List.mem_singleton.mp hp]; exact .inl ⟨lk rfl, trivial⟩
        exact exs_cons (ex_ret (ev_tup (.cons (ev_nm rfl) (.cons (ev_nm rfl) .nil))) rfl)
      · cases hp
        cases hf with
        | ret d v r =>
          refine ⟨v, rfl, hQ v h9 g9 t9 (fun b o e => Z9.S.keep b o (eh ▸ e)) Z9.L.at' (fun b o e => Z9.S.gsub b o (eg ▸ e)) Z9.S.sub (fun b o e => ?_) Z9.hg r⟩
          rcases Z9.S.own b o e with q | q
          · exact .inl (eg ▸ q)
          · exact .inr (eh ▸ q)

/-- x = sorted_list_difference(e1, e2), in the law's own frame -/
theorem ex_assign_sld {c : Cfg} {Γ : Gam} {Δ : Del} {P : Post} (I : IsX c.X) (hfl : c.fl = true) (hn1 : 1 ≤ c.n) (R : Ord enc lt) {l1 l2 : List α} {x : Str} {p pf pos pos' : Pos} {a1 a2 : Expr} (h1 : EvF c Γ Δ a1 (.list (l1.map enc))) (h2 : EvF c Γ Δ a2 (.list (l2.map enc)))
    (hw1 : l1.Pairwise fun a b => lt a b = true) (hw2 : l2.Pairwise fun a b => lt a b = true) (hz1 : l1.length ≤ 1000) (hz2 : l2.length ≤ 1000) (hx : Sto c x) (hk : c.sc.names.lookup (Str.ofString "sorted_list_difference") = some .globalImplicit)
    (h : P .next (upd Γ x (.d (.tup [.list ((dif l1 l2).map enc), .list ((dif l2 l1).map enc)]))) Δ) (hh : c.hd = true := by rfl)
    (he : ∀ env, starEach [a1, a2] env = (false, eval a1 env) :: starEach [a2] env := by intro _; rfl) (he' : ∀ env, starEach [a2] env = [(false, eval a2 env)] := by intro _; rfl)
    (hs : ∀ env, swapsWith (.Call (.Name (Str.ofString "sorted_list_difference") pf) [a1, a2] [] pos) (some (.Name x p)) pos'.line env = pure false := by intro _; rfl) :
    Ex1 c Γ Δ (.Assign [.Name x p] (.Call (.Name (Str.ofString "sorted_list_difference") pf) [a1, a2] [] pos) pos') P := fun fr s g am O S Q hQ => by
  obtain ⟨a, o, pm, code, doc, m1, m2, m3, m4⟩ := O.glo.fn (dfn pgm 13) (I.mem (k := 5) rfl)
  refine wpAny_Assign_Name (Call_ (Name_function_global (O.sc ▸ O.kind) (by unfold Env.kindOf; rw [O.sc]; exact hk) (loadGlobal_global (O.glob ▸ (O.glo.g.keeps S.keep)) m1 (callWith_def m3 (w_args (.cons h1 (.cons h2 .nil he') he) O S fun vs h' g' tk k r => ⟨?_, ?_⟩) (he _))) (by decide))) (hs _)
  · exact k.hk _ _ (S.keep _ _ m2)
  have S' := S.gr k
  obtain ⟨fr1, fr2⟩ := O.frs hfl
  obtain ⟨m, ⟨oL, es, ep, hoL, hdL, _⟩, _⟩ := id S'.loc
  have hu := O.units
  have hdp := O.depth
  refine sld_run I R l1 l2 hw1 hw2 hz1 hz2 (s := { s with heap := h', toks := tk }) (LL := fr.env.locals) (O.hand hh) (by omega) (by omega) (O.glo.keeps S'.keep) k.sub m1 r fr1 fr2 (by rw [O.sc, O.kind]; decide) hoL (fun vs q => by rw [hdL] at q; cases q) S'.gL
    (O.glo.keeps fun b o e => hideAll_get _ (S'.keep b o e) fun hm => by rw [List.mem_singleton.mp hm, S.hL] at e; cases e) fun v hF gF tk' q1 q2 q3 q4 q5 q6 q7 => ?_
  have SF : St fr Γ Δ hF gF am := S'.back (fun b o hb e => q1 b o (hideAll_get _ e (by simpa using hb))) (fun o e => by rw [hoL] at e; cases e; exact q2) q3 q4 q5 q6
  exact w_store (s := { s with heap := hF, toks := tk' }) O SF hx (.d _ v q7) fun h2 t2 S2 _ => hQ .next .next _ _ h2 gF am t2 h .next S2
end
end Mine

set_option maxRecDepth 100000
set_option autoImplicit false
set_option linter.unusedVariables false
set_option linter.unusedSectionVars false
set_option maxHeartbeats 2000000
namespace Mine
open PySem PySem.W PySem.Calls PyProof.Rows

theorem cut_to' (l : List Int) : cut l none (some 8) = l.take 8 := cut_to l 8
def drawsOf (ns : List Int) : List Nat := (ns.take 8).map fun x => (x.fmod 8748).toNat
theorem draws_len (ns : List Int) : (drawsOf ns).length ≤ 8 := by unfold drawsOf; simp; omega
theorem it1_ok (m : Nat) : okIt (it1 m) := by
  unfold it1
  split
  · exact .inr (.inl rfl)
  · split
    · exact .inl rfl
    · have := sprd_lt 2 m 0 0 (by decide)
      exact .inr (.inr ⟨by omega, by omega⟩)
theorem items_ok (dr : List Nat) (side : Nat) : ∀ i ∈ itemsOf dr side, okIt i := by
  have h0 : ∀ i ∈ (if side = 0 then [(-1 : Int), 17, -1] else [-2, -1, 2]), okIt i := by
    split
    · intro i hi; simp at hi; unfold okIt; omega
    · intro i hi; simp at hi; unfold okIt; omega
  unfold itemsOf
  generalize (if side = 0 then [(-1 : Int), 17, -1] else [-2, -1, 2]) = r at h0
  induction dr generalizing r with
  | nil => exact h0
  | cons a t ih =>
    refine ih _ fun i hi => ?_
    unfold itStep at hi
    split at hi
    · exact h0 i hi
    · rcases List.mem_append.mp hi with hi | hi
      · exact h0 i hi
      · rw [List.mem_singleton.mp hi]; exact it1_ok _
theorem items_len6 (dr : List Nat) (side : Nat) (h : dr.length ≤ 3) : (itemsOf dr side).length ≤ 6 := by
  have := items_len side dr (if side = 0 then [-1, 17, -1] else [-2, -1, 2])
  have h2 : (if side = 0 then [(-1 : Int), 17, -1] else [-2, -1, 2]).length = 3 := by split <;> rfl
  unfold itemsOf; omega
theorem pat_ok (its : List Int) (h : ∀ i ∈ its, okIt i) : okPat (patOf its) := fun n hn => by
  obtain ⟨l, hl, hn⟩ := List.mem_flatten.mp hn
  obtain ⟨i, hi, rfl⟩ := List.mem_map.mp hl
  unfold itW at hn
  split at hn
  · exact .inl (List.mem_singleton.mp hn)
  · split at hn
    · exact .inr (.inl (List.mem_singleton.mp hn))
    · exact .inr (.inr (wd_let _ n hn))
theorem pat_len (its : List Int) (h : ∀ i ∈ its, okIt i) (h6 : its.length ≤ 6) : (patOf its).length ≤ 30 := by
  have := flat_len 5 (its.map itW) (fun x hx => by obtain ⟨i, hi, rfl⟩ := List.mem_map.mp hx; exact itW_len (h i hi))
  rw [List.length_map] at this
  show (its.map itW).flatten.length ≤ 30
  omega
theorem prt_okP (l : List Nat) (h : okPat l) : OkP (prt l) := by
  have key : ∀ (l : List Nat) (r : List Pt), okPat l → OkP r → OkP (l.foldl prStep r) := by
    intro l
    induction l with
    | nil => intro r _ h; exact h
    | cons a t ih =>
      intro r hl hr
      refine ih _ (fun n hn => hl n (by simp [hn])) ?_
      have ha := hl a (by simp)
      unfold prStep
      split
      · split
        · exact hr
        · intro n hn; rcases List.mem_append.mp hn with hn | hn
          · exact hr n hn
          · simp at hn
      · split
        · intro n hn; rcases List.mem_append.mp hn with hn | hn
          · exact hr n hn
          · simp at hn; exact .inl hn
        · intro n hn; rcases List.mem_append.mp hn with hn | hn
          · exact hr n hn
          · simp at hn; subst hn; omega
  exact key l [] h (fun n hn => by cases hn)
theorem inner_len (ps : List Pt) (h : ps.length ≤ 30) : (inner ps).length ≤ 400 := by
  have h1 := jres_flat ps.length (rst ps)
  have h2 := sgs_len ps
  have h3 := rst_len ps
  unfold inner; rw [List.length_append]; omega
end Mine

set_option maxRecDepth 100000
set_option autoImplicit false
set_option linter.unusedVariables false
set_option linter.unusedSectionVars false
set_option maxHeartbeats 2000000
namespace Mine
open PySem PySem.W PySem.Calls PyProof.Rows

def lawC (X : GCtx) : Cfg := ⟨X, 20, (dfn pgm 26).scope, ownCells (dfn pgm 26).scope, true, true⟩
def sideL (ns : List Int) : List (List Int) := [itemsOf ((drawsOf ns).take 3) 0, itemsOf ((drawsOf ns).take 3) 1]
def rowsL (ns : List Int) : List Nat := sortN (rows0 (drawsOf ns))
def txtOf (its : List Int) : List Nat := text (prt (patOf its))
theorem inj_IL : Inj fun l : List Int => D.list (IL l) := fun a b h => by
  have h1 : IL a = IL b := by injection h
  clear h
  induction a generalizing b with
  | nil => cases b with
    | nil => rfl
    | cons => simp [IL] at h1
  | cons x r ih => cases b with
    | nil => simp [IL] at h1
    | cons y t =>
      simp only [IL, List.map_cons, List.cons.injEq, D.int.injEq] at h1
      rw [h1.1, ih t h1.2]

theorem cut3 (dr : List Nat) : cut (NL dr) none (some 3) = NL (dr.take 3) := by
  rw [show (3 : Int) = ((3 : Nat) : Int) from rfl, cut_to]; simp [NL, List.map_take]
def lawG1 (ns : List Int) : Gam := [("sides", .d (.list ((sideL ns).map fun l => D.list (IL l)))), ("rows", .d (.list (NL (rowsL ns))))]
theorem law_a {X : GCtx} (I : IsX X) (ht : ∀ h, X.tm h → TM X h) (ns : List Int) (hz : ns.length ≤ 63) {b : List Stmt} {s1 s2 s3 : Stmt} {P : Post} (hb : (dfn pgm 26).body = s1 :: s2 :: s3 :: b) (h : Exs (lawC X) (lawG1 ns) [] b P) : Exs (lawC X) [("script", .arg ns)] [] (dfn pgm 26).body P := by
  have h1 := draws_len ns
  have hbody : (dfn pgm 26).body.drop 3 = b := by rw [hb]; rfl
  subst hbody
  clear hb
  refine exs_cons (ex_assign_compN D.int (fun n : Nat => D.int n) inj_int (ns.take 8) (fun x => (x.fmod 8748).toNat) [] (evi_list (evf_eq (ev_arg_slice (lk rfl) ev_int.ev (by omega)) (by rw [cut_to']))).weak (csc rfl (by decide +kernel) rfl) (.inl rfl) (by simp; omega) cs_nil (fun x _ => evf_eq (ev_bin (ev_nm rfl).ev ev_int.ev (op_mod (by decide))) (by
    have : 0 ≤ x.fmod 8748 := Int.fmod_nonneg_of_pos _ (by decide)
    rw [Int.toNat_of_nonneg this])) rfl ?_)
  refine exs_cons (ex_assign (ev_call (.cons (evf_eq (ev_nm rfl) (show _ = D.list (NL (drawsOf ns)) from rfl)) .nil) (sp_rows I (drawsOf ns) h1) (nle rfl) rfl) (.inr (show _ ∈ ownCells (dfn pgm 26).scope by decide +kernel)) ?_)
  have ht3 : ((drawsOf ns).take 3).length ≤ 8 := by simp; omega
  refine exs_cons (ex_assign (ev_list (.cons (ev_call (.cons (evf_eq (ev_sl_list (ev_nm rfl).ev .none (.some ev_int.ev) (by simp; omega)) (congrArg D.list (cut3 (drawsOf ns)))) (.cons ev_int .nil)) (sp_items I ((drawsOf ns).take 3) 0 (by decide) ht3) (nle rfl) rfl)
    (.cons (ev_call (.cons (evf_eq (ev_sl_list (ev_nm rfl).ev .none (.some ev_int.ev) (by simp; omega)) (congrArg D.list (cut3 (drawsOf ns)))) (.cons ev_int .nil)) (sp_items I ((drawsOf ns).take 3) 1 (by decide) ht3) (nle rfl) rfl) .nil))) (.inl rfl) ?_)
  exact exs_weak (Γ₀ := lawG1 ns) (sub_cons rfl (sub_cons rfl sub_nil)) h
end Mine

set_option maxRecDepth 100000
set_option autoImplicit false
set_option linter.unusedVariables false
set_option linter.unusedSectionVars false
set_option maxHeartbeats 2000000
namespace Mine
open PySem PySem.W PySem.Calls PyProof.Rows

theorem side_ok (ns : List Int) : ∀ l ∈ sideL ns, (∀ i ∈ l, okIt i) ∧ l.length ≤ 6 := fun l hl => by
  have h3 : ((drawsOf ns).take 3).length ≤ 3 := by simp; omega
  simp only [sideL, List.mem_cons, List.not_mem_nil, or_false] at hl
  rcases hl with rfl | rfl
  · exact ⟨items_ok _ _, items_len6 _ _ h3⟩
  · exact ⟨items_ok _ _, items_len6 _ _ h3⟩
theorem rows0_lt (dr : List Nat) : ∀ r : List Nat, (∀ n ∈ r, n < 2 ^ 20) → ∀ n ∈ dr.foldl (fun r x => addN r (sprd (x / 36) 5 0)) r, n < 2 ^ 20 := by
  induction dr with
  | nil => intro r h; exact h
  | cons a t ih =>
    intro r h
    refine ih _ fun n hn => ?_
    have hn : n ∈ addN r (sprd (a / 36) 5 0) := hn
    unfold addN at hn
    split at hn
    · exact h n hn
    · rcases List.mem_append.mp hn with hn | hn
      · exact h n hn
      · rw [List.mem_singleton.mp hn]
        have := sprd_lt 5 (a / 36) 0 0 (by decide)
        omega
theorem rowsL_lt (ns : List Int) : ∀ n ∈ rowsL ns, n < 2 ^ 20 := fun n hn => rows0_lt _ _ (by decide) n ((sortN_perm _).mem_iff.mp hn)
theorem rowsL_len (ns : List Int) : (rowsL ns).length ≤ 12 := by
  unfold rowsL
  rw [(sortN_perm _).length_eq]
  have := rows0_len (drawsOf ns) [0, 34, 273, 4370]
  have h2 := draws_len ns
  simp only [List.length_cons, List.length_nil] at this
  unfold rows0; omega
def eW (n : Nat) : D := .str (S (wd n))
theorem wd_inj {a b : Nat} (h : wd a = wd b) : a = b := by
  have h1 := rd_wd a
  rw [h, rd_wd b] at h1
  omega
theorem inj_eW : Inj eW := fun a b h => wd_inj (inj_S _ _ h)
def eN (n : Nat) : D := .tup [.int (wd n).length, .str (S (wd n))]
theorem inj_eN : Inj eN := fun a b h => by
  unfold eN at h
  injection h with h
  injection h with h1 h2
  injection h2 with h2 _
  exact inj_eW a b h2

def lawG2 (ns : List Int) : Gam := [("sides", .d (.list ((sideL ns).map fun l => D.list (IL l)))), ("rows", .d (.list (NL (rowsL ns)))), ("texts", .d (.list ((sideL ns).map fun l => D.str (S (txtOf l))))), ("names", .d (.list ((rowsL ns).map eN)))]
theorem text_shape (ps : List Pt) : ((text ps).take 4 = [40, 63, 115, 58]) ∧ (text ps).drop ((text ps).length - 3) = [41, 92, 90] := by
  unfold text
  constructor
  · simp
  · have e : ([40, 63, 115, 58] ++ inner ps ++ [41, 92, 90]).length - 3 = ([40, 63, 115, 58] ++ inner ps).length := by simp
    rw [e, List.drop_left]
theorem law_b {X : GCtx} (I : IsX X) (ht : ∀ h, X.tm h → TM X h) (ns : List Int) {P : Post} (h : Exs (lawC X) (lawG2 ns) [] ((dfn pgm 26).body.drop 8) P) : Exs (lawC X) (lawG1 ns) [] ((dfn pgm 26).body.drop 3) P := by
  have hlt := rowsL_lt ns
  have hrl := rowsL_len ns
  refine exs_cons (ex_assign_compN (fun l : List Int => D.list (IL l)) (fun t : List Nat => D.str (S t)) inj_IL (sideL ns) txtOf [] (evi_list (ev_nm rfl)).weak (csc rfl (by decide +kernel) rfl) (.inl rfl) (by simp [sideL]) cs_nil (fun l hl => ?_) rfl ?_)
  · have hs := side_ok ns l hl
    have hp := pat_len l hs.1 hs.2
    exact ev_call (.cons (ev_call (.cons (ev_nm rfl) .nil) (sp_pattern I l hs.1 (by omega)) (nle rfl) rfl) .nil) (sp_translate I ht (patOf l) (pat_ok l hs.1) (by omega)) (nle rfl) rfl
  have htl : ∀ l ∈ sideL ns, (txtOf l).length ≤ 1000 := fun l hl => by
    have hs := side_ok ns l hl
    have hp := pat_len l hs.1 hs.2
    have h1 := inner_len (prt (patOf l)) (by have := prt_len (patOf l) []; simp only [List.length_nil] at this; unfold prt; omega)
    unfold txtOf text; simp only [List.length_append, List.length_cons, List.length_nil]; omega
  have hmap : (sideL ns).map (fun l => D.str (S (txtOf l))) = ((sideL ns).map txtOf).map fun t => D.str (S t) := by simp
  refine exs_cons (ex_if (x := false) (et_cmp (ev_eq (ev_compL (fun t : List Nat => D.str (S t)) (fun t : List Nat => D.str (S t)) inj_S ((sideL ns).map txtOf) (fun t => !decide (t.take 4 = [40, 63, 115, 58]) || !decide (t.drop (t.length - 3) = [41, 92, 90])) id [] (evi_list (ev_nm rfl)).weak (csc rfl (by decide +kernel) rfl) (.inl rfl) (by simp [sideL]) cs_nil (fun t htm => ?_) (fun t _ _ => ev_nm rfl)).ev
    (d' := .list (IL [])) ?_) (ev_eq (ev_list .nil).ev (d' := .list (IL [])) rfl) cmp_neI) (fun h => nomatch h) (fun _ => exs_nil ?_))
  · obtain ⟨l, hl, rfl⟩ := List.mem_map.mp htm
    have hz := htl l hl
    refine evifs_one (et_or (evt_eq (et_cmp (ev_sl_str (ev_nm rfl).ev .none (.some ev_int.ev) (by omega)).ev (ev_lit [40, 63, 115, 58] rfl).ev cmp_neS) ?_) (fun _ => evt_eq (et_cmp (ev_sl_str (ev_nm rfl).ev (.some (ev_neg ev_int.ev).ev) .none (by omega)).ev (ev_lit [41, 92, 90] rfl).ev cmp_neS) ?_))
    · rw [show (4 : Int) = ((4 : Nat) : Int) from rfl, cut_to]
    · rw [show (-3 : Int) = -((3 : Nat) : Int) from rfl, cut_tail _ 3 (by decide)]
  · congr 1
    have : ((sideL ns).map txtOf).filter (fun t => !decide (t.take 4 = [40, 63, 115, 58]) || !decide (t.drop (t.length - 3) = [41, 92, 90])) = [] := by
      rw [List.filter_eq_nil_iff]
      intro t ht
      obtain ⟨l, _, rfl⟩ := List.mem_map.mp ht
      have := text_shape (prt (patOf l))
      unfold txtOf
      simp [this.1, this.2]
    rw [this]; rfl
  refine exs_cons (ex_assign_compN (fun n : Nat => D.int n) eW inj_nat (rowsL ns) id [] (evi_list (ev_nm rfl)).weak (csc rfl (by decide +kernel) rfl) (.inl rfl) (by omega) cs_nil (fun n hn => ev_call (.cons (ev_nm rfl) .nil) (sp_word I n (hlt n hn)) (nle rfl) rfl) rfl ?_)
  rw [List.map_id]
  refine exs_cons (ex_if (x := false) (evt_eq (et_cmp (ev_eq (ev_compN (c := lawC X) eW (fun n : Nat => D.int n) inj_eW (rowsL ns) id [] (evi_list (ev_nm rfl)).weak (csc rfl (by decide +kernel) rfl) (.inl rfl) (by omega) cs_nil (fun n hn => ev_call (.cons (ev_nm rfl) .nil) (sp_read I n (hlt n hn)) (nle rfl) rfl)).ev (d' := .list (IL ((rowsL ns).map fun n : Nat => (n : Int)))) (by simp [IL])) (ev_eq (ev_nm rfl).ev (d' := .list (IL ((rowsL ns).map fun n : Nat => (n : Int)))) (by simp [IL, NL])) cmp_neI) (by simp)) (fun h => nomatch h) (fun _ => exs_nil ?_))
  refine exs_cons (ex_assign_compC (ev_compN (c := lawC X) eW eN inj_eW (rowsL ns) id [] (evi_list (ev_nm rfl)).weak (csc rfl (by decide +kernel) rfl) (.inl rfl) (by omega) cs_nil (fun n hn => ?_)) (show Str.ofString "names" ∈ ownCells (dfn pgm 26).scope by decide +kernel) rfl ?_)
  · have hl5 := wd_len (hlt n hn)
    exact ev_tup (.cons (evf_eq (ev_b1 (ev_nm rfl).ev (b_len_S (l := wd n) (by omega)) rfl (I.bm (k := 3) rfl) (by decide +kernel)) rfl) (.cons (ev_nm rfl) .nil))
  · rw [List.map_id]
    exact exs_weak (Γ₀ := lawG2 ns) (sub_cons rfl (sub_cons rfl (sub_cons (by rw [hmap]; rfl) (sub_cons rfl sub_nil)))) h
end Mine

set_option maxRecDepth 100000
set_option autoImplicit false
set_option linter.unusedVariables false
set_option linter.unusedSectionVars false
set_option maxHeartbeats 2000000
namespace Mine
open PySem PySem.W PySem.Calls PyProof.Rows

/-- how two numbers' names stand -/
def twN (a b : Nat) : Int := twp ((wd a).length, wd a) ((wd b).length, wd b)
def sgnL (ns : List Int) : List Int := (rowsL ns).flatMap fun a => (rowsL ns).map (twN a)
def lawG3 (ns : List Int) : Gam := [("signs", .d (.list (IL (sgnL ns)))), ("sides", .d (.list ((sideL ns).map fun l => D.list (IL l)))), ("rows", .d (.list (NL (rowsL ns)))), ("texts", .d (.list ((sideL ns).map fun l => D.str (S (txtOf l))))), ("names", .d (.list ((rowsL ns).map eN)))]
theorem flat_sq (l m : List Nat) : (l.flatMap fun _ => m).length = l.length * m.length := by
  induction l with
  | nil => simp
  | cons a r ih => rw [List.flatMap_cons, List.length_append, ih, List.length_cons, Nat.add_mul]; omega
theorem law_c {X : GCtx} (I : IsX X) (ns : List Int) {P : Post} (h : Exs (lawC X) (lawG3 ns) [] ((dfn pgm 26).body.drop 9) P) : Exs (lawC X) (lawG2 ns) [] ((dfn pgm 26).body.drop 8) P := by
  have hrl := rowsL_len ns
  refine exs_cons (ex_assign_comp2L eN eN D.int inj_eN inj_eN (rowsL ns) (fun _ => rowsL ns) twN [("names", .d (.list ((rowsL ns).map eN)))] (evi_list (ev_nm rfl)).weak (csc rfl (by decide +kernel) rfl) (.inl rfl) (.inl rfl) (by decide) (by rw [flat_sq]; have := Nat.mul_le_mul hrl hrl; omega)
    (cs_cons rfl rfl cs_nil) (fun a _ _ => evi_list (ev_nm rfl)) (fun a _ b _ _ => ev_call (.cons (ev_nm rfl) (.cons (ev_nm rfl) .nil)) (sp_twc_pair I ((wd a).length, wd a) ((wd b).length, wd b)) (nle rfl) rfl) rfl ?_)
  exact exs_weak (Γ₀ := lawG3 ns) (sub_cons rfl (sub_cons rfl (sub_cons rfl (sub_cons rfl (sub_cons rfl sub_nil))))) h
end Mine

set_option maxRecDepth 100000
set_option autoImplicit false
set_option linter.unusedVariables false
set_option linter.unusedSectionVars false
set_option maxHeartbeats 2000000
namespace Mine
open PySem PySem.W PySem.Calls PyProof.Rows

def sq (n : Nat) : List Int := (List.range n).flatMap fun i => (List.range n).map fun k => if i = k then 0 else if k < i then 1 else -1
theorem law_d {X : GCtx} (I : IsX X) (ns : List Int) (hsgn : sgnL ns = sq (rowsL ns).length) {P : Post} (h : Exs (lawC X) (lawG3 ns) [] ((dfn pgm 26).body.drop 11) P) : Exs (lawC X) (lawG3 ns) [] ((dfn pgm 26).body.drop 9) P := by
  have hrl := rowsL_len ns
  have hsl : (sgnL ns).length ≤ 144 := by
    have e : (sgnL ns).length = ((rowsL ns).flatMap fun _ => rowsL ns).length := by unfold sgnL; simp [List.length_flatMap]
    rw [e, flat_sq]; exact Nat.mul_le_mul hrl hrl
  refine exs_cons (ex_if (x := false) (et_cmp (ev_eq (ev_compL (c := lawC X) D.int D.int inj_int (sgnL ns) (fun _ => false) id [] (evi_list (ev_nm rfl)).weak (csc rfl (by decide +kernel) rfl) (.inl rfl) (by omega) cs_nil (fun t _ => evifs_one (et_of (ev_isi_bool (ev_nm rfl) rfl (I.bm (k := 8) rfl) rfl (I.bm (k := 11) rfl)).ev (by exact rfl))) (fun t _ _ => ev_nm rfl)).ev
    (d' := .list (IL [])) (by simp [IL])) (ev_eq (ev_list .nil).ev (d' := .list (IL [])) rfl) cmp_neI) (fun h => nomatch h) (fun _ => exs_nil ?_))
  refine exs_cons (ex_if (x := false) (evt_eq (et_cmp (ev_nm rfl).ev (ev_eq (ev_comp2L (c := lawC X) encz encz D.int inj_encz inj_encz (List.range (rowsL ns).length) (fun _ => List.range (rowsL ns).length) (fun i k => if i = k then 0 else if k < i then 1 else -1) [("rows", .d (.list (NL (rowsL ns))))]
    (evi_eq (evi_range1 (ev_b1 (ev_nm rfl).ev (b_len_list (by simp; omega)) rfl (I.bm (k := 3) rfl) (by decide +kernel)).ev (by simp; omega) (by omega) rfl (I.bm (k := 6) rfl)).weak (by rw [Int.toNat_natCast, List.length_map]; rfl)) (csc rfl (by decide +kernel) rfl) (.inl rfl) (.inl rfl) (by decide) (by rw [flat_sq, List.length_range]; have := Nat.mul_le_mul hrl hrl; omega)
    (cs_cons rfl rfl cs_nil) (fun a _ _ => evi_eq (evi_range1 (ev_b1 (ev_nm rfl).ev (b_len_list (by simp; omega)) rfl (I.bm (k := 3) rfl) (by decide +kernel)).ev (by simp; omega) (by omega) rfl (I.bm (k := 6) rfl)) (by rw [Int.toNat_natCast, List.length_map]; rfl))
    (fun i _ k _ _ => ?_)).ev (d' := .list (IL (sq (rowsL ns).length))) rfl) cmp_neI) (by rw [hsgn]; simp)) (fun h => nomatch h) (fun _ => exs_nil h))
  refine evf_eq (ev_if (b := decide (i = k)) (d := .int 0) (e := .int (if k < i then 1 else -1)) (evt_eq (et_cmp (ev_nm rfl).ev (ev_nm rfl).ev cmp_eq) (by rw [Bool.eq_iff_iff]; simp; omega)) (fun _ => ev_int) (fun _ => ?_)) (by by_cases h : i = k <;> simp [h])
  exact evf_eq (ev_if (b := decide (k < i)) (d := .int 1) (e := .int (-1)) (evt_eq (et_cmp (ev_nm rfl).ev (ev_nm rfl).ev cmp_gt) (by rw [Bool.eq_iff_iff]; simp)) (fun _ => ev_int) (fun _ => ev_neg ev_int.ev)) (by by_cases h : k < i <;> simp [h])
end Mine

set_option maxRecDepth 100000
set_option autoImplicit false
set_option linter.unusedVariables false
namespace Mine
open PySem PySem.W PySem.Calls PyProof.Rows
theorem lex_snoc (x y : Nat) : ∀ (l m : List Nat), l.length = m.length → ((l ++ [x] < m ++ [y]) ↔ (l < m ∨ (l = m ∧ x < y)))
  | [], [], _ => by simp [List.cons_lt_cons_iff]
  | [], _ :: _, h => by simp at h
  | _ :: _, [], h => by simp at h
  | a :: r, b :: t, h => by
    simp only [List.length_cons, Nat.add_right_cancel_iff] at h
    have ih := lex_snoc x y r t h
    simp only [List.cons_append, List.cons_lt_cons_iff, ih, List.cons.injEq]
    constructor
    · rintro (h1 | ⟨h1, h2 | ⟨h2, h3⟩⟩)
      · exact .inl (.inl h1)
      · exact .inl (.inr ⟨h1, h2⟩)
      · exact .inr ⟨⟨h1, h2⟩, h3⟩
    · rintro ((h1 | ⟨h1, h2⟩) | ⟨⟨h1, h2⟩, h3⟩)
      · exact .inl h1
      · exact .inr ⟨h1, .inl h2⟩
      · exact .inr ⟨h1, .inr ⟨h2, h3⟩⟩
theorem hx_lex : ∀ (k a b : Nat), (hx a).length = k → (hx b).length = k → ((wd a < wd b) ↔ a < b) := fun k => by
  induction k with
  | zero =>
    intro a b ha hb
    have h0 : ∀ n, (hx n).length = 0 → n = 0 := fun n h => by
      by_cases q : n = 0
      · exact q
      · rw [hx_pos q] at h; simp at h
    rw [h0 a ha, h0 b hb]; simp
  | succ k ih =>
    intro a b ha hb
    have pa : a ≠ 0 := fun q => by rw [q, hx_zero] at ha; simp at ha
    have pb : b ≠ 0 := fun q => by rw [q, hx_zero] at hb; simp at hb
    have qa : (hx (a / 16)).length = k := by rw [hx_pos pa] at ha; simpa using ha
    have qb : (hx (b / 16)).length = k := by rw [hx_pos pb] at hb; simpa using hb
    have ea : wd a = wd (a / 16) ++ [65 + a % 16] := by unfold wd; rw [hx_pos pa]; simp
    have eb : wd b = wd (b / 16) ++ [65 + b % 16] := by unfold wd; rw [hx_pos pb]; simp
    rw [ea, eb, lex_snoc _ _ _ _ (by unfold wd; rw [List.length_map, List.length_map, qa, qb]), ih _ _ qa qb]
    constructor
    · rintro (h | ⟨h1, h2⟩)
      · omega
      · have := wd_inj h1; omega
    · intro h
      by_cases q : a / 16 < b / 16
      · exact .inl q
      · have : a / 16 = b / 16 := by omega
        exact .inr ⟨by rw [this], by omega⟩
theorem hx_mono : ∀ (k n : Nat), (hx n).length = k + 1 → 16 ^ k ≤ n := fun k => by
  induction k with
  | zero => intro n h; by_cases q : n = 0
            · rw [q, hx_zero] at h; simp at h
            · simp; omega
  | succ k ih =>
    intro n h
    have pn : n ≠ 0 := fun q => by rw [q, hx_zero] at h; simp at h
    have := ih (n / 16) (by rw [hx_pos pn] at h; simpa using h)
    rw [Nat.pow_succ]; omega
theorem hx_up : ∀ (k n : Nat), (hx n).length = k → n < 16 ^ k := fun k => by
  induction k with
  | zero => intro n h; by_cases q : n = 0
            · rw [q]; decide
            · rw [hx_pos q] at h; simp at h
  | succ k ih =>
    intro n h
    have pn : n ≠ 0 := fun q => by rw [q, hx_zero] at h; simp at h
    have := ih (n / 16) (by rw [hx_pos pn] at h; simpa using h)
    rw [Nat.pow_succ]; omega
theorem hx_len_lt {a b : Nat} (h : (hx a).length < (hx b).length) : a < b := by
  have h1 := hx_up _ a rfl
  obtain ⟨k, hk⟩ : ∃ k, (hx b).length = k + 1 := ⟨(hx b).length - 1, by omega⟩
  have h2 := hx_mono k b hk
  have h3 : 16 ^ (hx a).length ≤ 16 ^ k := Nat.pow_le_pow_right (by decide) (by omega)
  omega
theorem twN_eq (a b : Nat) : twN a b = if a = b then 0 else if b < a then 1 else -1 := by
  have la : (wd a).length = (hx a).length := by simp [wd]
  have lb : (wd b).length = (hx b).length := by simp [wd]
  unfold twN twp twc
  rw [la, lb]
  by_cases hl : (hx a).length = (hx b).length
  · have h1 := hx_lex _ a b rfl hl.symm
    have h2 := hx_lex _ b a hl.symm rfl
    simp only [hl, if_true]
    by_cases e : a = b
    · subst e
      have : ¬ wd a < wd a := fun q => by have := h1.mp q; omega
      simp [this]
    · rw [if_neg e]
      by_cases q : b < a
      · have q1 : wd b < wd a := h2.mpr q
        have q2 : ¬ wd a < wd b := fun z => by have := h1.mp z; omega
        simp [q, q1, q2]
      · have q1 : wd a < wd b := h1.mpr (by omega)
        have q2 : ¬ wd b < wd a := fun z => by have := h2.mp z; omega
        simp [q, q1, q2]
  · have hne : ((hx a).length : Int) ≠ (hx b).length := by omega
    have e : a ≠ b := fun q => hl (by rw [q])
    simp only [hne, if_false, e]
    by_cases q : (hx a).length < (hx b).length
    · have := hx_len_lt q
      have q' : ((hx a).length : Int) < (hx b).length := by omega
      rw [if_pos q', if_neg (by omega)]
    · have q2 : (hx b).length < (hx a).length := by omega
      have := hx_len_lt q2
      have q' : ¬ ((hx a).length : Int) < (hx b).length := by omega
      rw [if_neg q', if_pos this]
end Mine

set_option maxRecDepth 100000
set_option autoImplicit false
set_option linter.unusedVariables false
namespace Mine
open PySem PySem.W PySem.Calls PyProof.Rows
theorem addN_nodup {r : List Nat} {n : Nat} (h : r.Nodup) : (addN r n).Nodup := by
  unfold addN
  split
  · exact h
  · rename_i hc
    refine List.nodup_append.mpr ⟨h, by simp, fun x hx y hy e => hc ?_⟩
    rw [List.mem_singleton.mp hy] at e
    simpa using e ▸ hx
theorem rows0_nodup (dr : List Nat) : ∀ r : List Nat, r.Nodup → (dr.foldl (fun r x => addN r (sprd (x / 36) 5 0)) r).Nodup := by
  induction dr with
  | nil => intro r h; exact h
  | cons a t ih => intro r h; exact ih _ (addN_nodup h)
theorem rowsL_lt' (ns : List Int) : (rowsL ns).Pairwise (· < ·) := by
  have h1 := sortN_le (rows0 (drawsOf ns))
  have h2 : (sortN (rows0 (drawsOf ns))).Nodup := (sortN_perm _).nodup_iff.mpr (rows0_nodup _ _ (by decide))
  exact (h1.and h2).imp fun ⟨a, b⟩ => by omega
theorem map_range (l : List Nat) : l = (List.range l.length).map fun i => l.getD i 0 := by
  apply List.ext_getElem
  · simp
  · intro i h1 h2; simp [h1]
theorem sgn_sq (l : List Nat) (h : l.Pairwise (· < ·)) : (l.flatMap fun a => l.map (twN a)) = sq l.length := by
  have mono : ∀ i k, i < l.length → k < l.length → i < k → l.getD i 0 < l.getD k 0 := fun i k hi hk hik => by
    have := List.pairwise_iff_getElem.mp h i k hi hk hik
    simpa [hi, hk] using this
  have e1 : (l.flatMap fun a => l.map (twN a)) = (List.range l.length).flatMap fun i => (List.range l.length).map fun k => twN (l.getD i 0) (l.getD k 0) := by
    conv => lhs; rw [map_range l]
    rw [List.flatMap_map]
    simp only [List.length_map, List.length_range, List.map_map]
    rfl
  rw [e1]
  unfold sq
  have e2 : ∀ i ∈ List.range l.length, ((List.range l.length).map fun k => twN (l.getD i 0) (l.getD k 0)) = (List.range l.length).map fun k => if i = k then 0 else if k < i then 1 else -1 := fun i hi => by
    apply List.map_congr_left
    intro k hk
    have hi := List.mem_range.mp hi
    have hk := List.mem_range.mp hk
    rw [twN_eq]
    by_cases e : i = k
    · subst e; simp
    · by_cases q : k < i
      · have := mono k i hk hi q
        rw [if_neg (by omega), if_pos this, if_neg e, if_pos q]
      · have := mono i k hi hk (by omega)
        rw [if_neg (by omega), if_neg (by omega), if_neg e, if_neg q]
  generalize List.range l.length = rg at e2 ⊢
  have gen : ∀ (s : List Nat), (∀ i ∈ s, i ∈ rg) → (s.flatMap fun i => rg.map fun k => twN (l.getD i 0) (l.getD k 0)) = s.flatMap fun i => rg.map fun k => if i = k then (0 : Int) else if k < i then 1 else -1 := by
    intro s
    induction s with
    | nil => intro _; rfl
    | cons a t ih => intro hs; rw [List.flatMap_cons, List.flatMap_cons, e2 a (hs a (by simp)), ih fun i hi => hs i (by simp [hi])]
  exact gen rg fun _ h => h
theorem hsgn (ns : List Int) : sgnL ns = sq (rowsL ns).length := sgn_sq _ (rowsL_lt' ns)
end Mine

set_option maxRecDepth 100000
set_option autoImplicit false
set_option linter.unusedVariables false
namespace Mine
open PySem PySem.W PySem.Calls PyProof.Rows
/-- names by their numbers: the order of pairs is that of numbers -/
theorem wd_lt_iff (a b : Nat) : ((if (((wd a).length : Int) == ((wd b).length : Int)) then (if S (wd a) == S (wd b) then false else decide ((S (wd a)).cps.toList < (S (wd b)).cps.toList)) else decide (((wd a).length : Int) < ((wd b).length : Int)))) = decide (a < b) := by
  have la : (wd a).length = (hx a).length := by simp [wd]
  have lb : (wd b).length = (hx b).length := by simp [wd]
  rw [la, lb]
  by_cases hl : (hx a).length = (hx b).length
  · have h1 := hx_lex _ a b rfl hl.symm
    rw [if_pos (by simp [hl]), S_beq]
    by_cases e : wd a = wd b
    · have := wd_inj e; subst this; simp
    · have e2 : ¬ a = b := fun q => e (by rw [q])
      simp [e, h1]
  · rw [if_neg (by simp; omega)]
    by_cases q : (hx a).length < (hx b).length
    · have := hx_len_lt q
      simp [q, this]
    · have q2 : (hx b).length < (hx a).length := by omega
      have := hx_len_lt q2
      have q3 : ¬ a < b := by omega
      simp [q, q3]
theorem ord_eN : Ord eN (fun a b : Nat => decide (a < b)) where
  clt := fun c a b => by
    have := cmp_ltp (c := c) (p := (((wd a).length : Int), S (wd a))) (q := (((wd b).length : Int), S (wd b)))
    rw [wd_lt_iff a b] at this; exact this
  cgt := fun c a b => by
    have := cmp_gtp (c := c) (p := (((wd a).length : Int), S (wd a))) (q := (((wd b).length : Int), S (wd b)))
    have e := wd_lt_iff b a
    rw [Bool.beq_comm (a := S (wd b)), Bool.beq_comm (a := ((wd b).length : Int))] at e
    rw [e] at this; exact this
  ceq := fun c a b hne => by
    have hb : ∀ n, pyOk (eN n) = true := fun n => rfl
    have hs : ∀ n, PySem.SeqAt.shaped (py (eN n)) = true := fun n => by
      have h0 : okS (S (wd n)) = true := by
        unfold okS
        simp only [List.all_toArray, List.all_eq_true, decide_eq_true_eq]
        intro d hd; have := wd_let n d hd; omega
      unfold PySem.SeqAt.shaped eN
      simp only [py, pys, PyData.canLay0, PyData.canLayAll0, PyData.depth, PyData.depthAll, Bool.and_true, Bool.true_and]
      have h1 : (S (wd n)).cps.all (fun x => decide (x < 0x110000)) = true := h0
      exact Bool.and_eq_true_iff.mpr ⟨h1, by decide⟩
    have := cmp_eqD (c := c) (hb a) (hb b) (hs a) (hs b)
    have e : PyData.eqv (py (eN a)) (py (eN b)) = false := by
      unfold eN
      simp only [py, pys, PyData.eqv, PyData.eqvAll, Bool.and_true]
      rw [S_beq, decide_eq_false (fun q => hne (wd_inj q)), Bool.and_false]
    rw [e] at this; exact this
  irr := fun a => by simp
  tr := fun a b c h1 h2 => by simp at *; omega
  tot := fun a b h1 h2 => by simp at *; omega
end Mine

set_option maxRecDepth 100000
set_option autoImplicit false
set_option linter.unusedVariables false
set_option linter.unusedSectionVars false
set_option maxHeartbeats 2000000
namespace Mine
open PySem PySem.W PySem.Calls PyProof.Rows

/-- does the text of these items take the word of n -/
def tkL (its : List Int) (n : Nat) : Bool := tk (wd n) (prt (patOf its)).length (prt (patOf its)) 0
def takenL (ns : List Int) (its : List Int) : List Nat := (rowsL ns).filter (tkL its)
def meantL (ns : List Int) (its : List Int) : List Nat := (rowsL ns).filter (means its)
def lawG4 (ns : List Int) : Gam := [("taken", .d (.list ((sideL ns).map fun l => D.list ((takenL ns l).map eN)))), ("sides", .d (.list ((sideL ns).map fun l => D.list (IL l)))), ("rows", .d (.list (NL (rowsL ns))))]
theorem txt_inner (its : List Int) : ((txtOf its).take ((txtOf its).length - 3)).drop 4 = inner (prt (patOf its)) := by
  unfold txtOf text
  have e : ([40, 63, 115, 58] ++ inner (prt (patOf its)) ++ [41, 92, 90]).length - 3 = ([40, 63, 115, 58] ++ inner (prt (patOf its))).length := by simp
  rw [e, List.take_left]; rfl
theorem law_e {X : GCtx} (I : IsX X) (ns : List Int) {P : Post} (h : Exs (lawC X) (lawG4 ns) [] ((dfn pgm 26).body.drop 12) P) : Exs (lawC X) (lawG3 ns) [] ((dfn pgm 26).body.drop 11) P := by
  have hrl := rowsL_len ns
  have hlt := rowsL_lt ns
  refine exs_cons (ex_assign_compY (fun l => D.str (S (txtOf l))) (fun l => D.list ((takenL ns l).map eN)) (sideL ns) [("names", .d (.list ((rowsL ns).map eN)))] (evi_list (ev_nm rfl)).weak (csc rfl (by decide +kernel) rfl) (.inr (show _ ∈ ownCells _ by decide +kernel)) (by simp [sideL]) (cs_cons rfl rfl cs_nil) (fun l hl => ?_) rfl ?_)
  · have hs := side_ok ns l hl
    have hp := pat_len l hs.1 hs.2
    have hpl : (prt (patOf l)).length ≤ 30 := by have := prt_len (patOf l) []; simp only [List.length_nil] at this; unfold prt; omega
    have h1 := inner_len (prt (patOf l)) hpl
    have htl : (txtOf l).length ≤ 1000 := by unfold txtOf text; simp only [List.length_append, List.length_cons, List.length_nil]; omega
    refine ev_compX eN eN (rowsL ns) (tkL l) [("text", .d (.str (S (txtOf l))))] (evi_list (ev_nm rfl)).weak (csc rfl (by decide +kernel) rfl) (.inl rfl) (by omega) (cs_cons rfl rfl cs_nil) (fun n hn => ?_) (fun n hn _ => ev_nm rfl)
    have hl5 := wd_len (hlt n hn)
    refine evifs_one (et_of (ev_call (.cons (evf_eq (ev_sl_str (ev_nm rfl).ev (.some ev_int.ev) (.some (ev_neg ev_int.ev).ev) (by omega)) ?_) (.cons (ev_titem (d := .str (S (wd n))) (ev_nm rfl).ev ev_int.ev (by decide) (by decide) rfl) .nil)) (sp_takes I (prt (patOf l)) (wd n) (prt_okP _ (pat_ok l hs.1)) (by omega) (fun m hm => by have := wd_let n m hm; omega) (by omega)) (nle rfl) rfl).ev (by exact rfl))
    rw [show (4 : Int) = ((4 : Nat) : Int) from rfl, show (-3 : Int) = -((3 : Nat) : Int) from rfl, cut_mid _ 4 3 (by decide), txt_inner]
  exact exs_weak (Γ₀ := lawG4 ns) (sub_cons rfl (sub_cons rfl (sub_cons rfl sub_nil))) h
end Mine

set_option maxRecDepth 100000
set_option autoImplicit false
set_option linter.unusedVariables false
namespace Mine
open PySem PySem.W PySem.Calls PyProof.Rows
/-- what a pattern takes -/
inductive Mat : List Pt → List Nat → Prop
  | nil : Mat [] []
  | sign {n c : Nat} {r : List Pt} {w : List Nat} (h : n = 46 ∨ n = c) (t : Mat r w) : Mat (.sign n :: r) (c :: w)
  | star {r : List Pt} {w : List Nat} (u : List Nat) (t : Mat r w) : Mat (.star :: r) (u ++ w)

theorem mat_app {p : List Pt} : ∀ {q : List Pt} {w : List Nat}, Mat (p ++ q) w ↔ ∃ u v, w = u ++ v ∧ Mat p u ∧ Mat q v := by
  induction p with
  | nil =>
    intro q w
    constructor
    · intro h; exact ⟨[], w, rfl, .nil, h⟩
    · rintro ⟨u, v, rfl, h1, h2⟩; cases h1; exact h2
  | cons a p ih =>
    intro q w
    constructor
    · intro h
      cases h with
      | sign h t =>
        obtain ⟨u, v, rfl, h1, h2⟩ := ih.mp t
        exact ⟨_ :: u, v, rfl, .sign h h1, h2⟩
      | star x t =>
        obtain ⟨u, v, rfl, h1, h2⟩ := ih.mp t
        exact ⟨x ++ u, v, by simp, .star x h1, h2⟩
    · rintro ⟨u, v, rfl, h1, h2⟩
      cases h1 with
      | sign h t => exact .sign h (ih.mpr ⟨_, v, rfl, t, h2⟩)
      | star x t => rw [List.append_assoc]; exact .star x (ih.mpr ⟨_, v, rfl, t, h2⟩)

def rawP (n : Nat) : Pt := if n = 42 then .star else if n = 63 then .sign 46 else .sign n
theorem mat_ss {q : List Pt} {w : List Nat} : Mat (.star :: .star :: q) w ↔ Mat (.star :: q) w := by
  constructor
  · intro h
    cases h with
    | star x t => cases t with
      | star y t => rw [← List.append_assoc]; exact .star _ t
  · intro h
    exact .star [] h
theorem mat_prt (l : List Nat) : ∀ (r : List Pt) (w : List Nat), Mat (l.foldl prStep r) w ↔ Mat (r ++ l.map rawP) w := by
  induction l with
  | nil => intro r w; simp
  | cons a t ih =>
    intro r w
    rw [List.foldl_cons, ih, List.map_cons]
    unfold prStep
    by_cases h : a = 42
    · rw [if_pos h]
      have ha : rawP a = .star := by unfold rawP; rw [if_pos h]
      rw [ha]
      cases hr : r.getLast? with
      | none => simp
      | some p => cases p with
        | sign n => simp
        | star =>
          obtain ⟨r', rfl⟩ := List.getLast?_eq_some_iff.mp hr
          dsimp only
          rw [List.append_assoc, List.append_assoc]
          rw [mat_app, mat_app]
          exact exists_congr fun u => exists_congr fun v => and_congr_right fun _ => and_congr_right fun _ => mat_ss.symm
    · rw [if_neg h]
      by_cases h2 : a = 63
      · rw [if_pos h2]
        have ha : rawP a = .sign 46 := by unfold rawP; rw [if_neg h, if_pos h2]
        rw [ha]; simp
      · rw [if_neg h2]
        have ha : rawP a = .sign a := by unfold rawP; rw [if_neg h, if_neg h2]
        rw [ha]; simp

/-- what an item takes, what a row of items takes -/
def im (i : Int) (u : List Nat) : Prop := if i = -1 then True else if i = -2 then u.length = 1 else u = wd i.toNat
noncomputable def mtc : List Int → List Nat → Prop
  | [], w => w = []
  | i :: r, w => ∃ u v, w = u ++ v ∧ im i u ∧ mtc r v
theorem mat_let (l : List Nat) (h : ∀ n ∈ l, 65 ≤ n) : ∀ u, Mat (l.map rawP) u ↔ u = l := by
  induction l with
  | nil => intro u; constructor
           · intro h; cases h; rfl
           · rintro rfl; exact .nil
  | cons a t ih =>
    intro u
    have ha := h a (by simp)
    have hr : rawP a = .sign a := by unfold rawP; rw [if_neg (by omega), if_neg (by omega)]
    rw [List.map_cons, hr]
    have ih := ih fun n hn => h n (by simp [hn])
    constructor
    · intro h
      cases h with
      | sign h t =>
        rcases h with h | h
        · omega
        · rw [h, (ih _).mp t]
    · rintro rfl
      exact .sign (.inr rfl) ((ih _).mpr rfl)
theorem mat_item (i : Int) (u : List Nat) : Mat ((itW i).map rawP) u ↔ im i u := by
  unfold itW im
  split
  · constructor
    · intro _; trivial
    · intro _; show Mat [.star] u
      have := Mat.star u Mat.nil
      rwa [List.append_nil] at this
  · split
    · show Mat [.sign 46] u ↔ _
      constructor
      · intro h
        cases h with
        | sign h t => cases t; rfl
      · intro h
        match u, h with
        | [c], _ => exact .sign (.inl rfl) .nil
    · exact mat_let _ (fun n hn => (wd_let _ n hn).1) u
theorem mat_mt (its : List Int) : ∀ w, Mat ((patOf its).map rawP) w ↔ mtc its w := by
  induction its with
  | nil => intro w; constructor
           · intro h; cases h; rfl
           · intro h; rw [show w = [] from h]; exact .nil
  | cons i r ih =>
    intro w
    have e : (patOf (i :: r)).map rawP = (itW i).map rawP ++ (patOf r).map rawP := by simp [patOf]
    rw [e, mat_app]
    show _ ↔ ∃ u v, _
    exact exists_congr fun u => exists_congr fun v => and_congr_right fun _ => and_congr (mat_item i u) (ih v)
theorem mat_prt_mt (its : List Int) (w : List Nat) : Mat (prt (patOf its)) w ↔ mtc its w := by
  rw [← mat_mt]
  exact mat_prt (patOf its) [] w
end Mine

set_option maxRecDepth 100000
set_option autoImplicit false
set_option linter.unusedVariables false
namespace Mine
open PySem PySem.W PySem.Calls PyProof.Rows
/-- a fixed piece stands ahead -/
noncomputable def fix : List Nat → List Nat → Bool
  | [], _ => true
  | n :: f, c :: w => (n == 46 || n == c) && fix f w
  | _ :: _, [] => false
theorem fits_fix : ∀ (f w : List Nat) (a : Nat), a ≤ w.length → fitsB f w a = fix f (w.drop a)
  | [], w, a, h => by simp [fitsB, fix, h]
  | n :: f, w, a, h => by
    by_cases q : a < w.length
    · rw [List.drop_eq_getElem_cons q]
      have ih := fits_fix f w (a + 1) q
      unfold fix
      rw [← ih]
      unfold fitsB
      rw [List.length_cons, List.range_succ_eq_map, List.all_cons, List.all_map]
      have e1 : w.getD (a + 0) 0 = w[a] := by simp [q]
      have e2 : ((fun k => (n :: f).getD k 0 == 46 || (n :: f).getD k 0 == w.getD (a + k) 0) ∘ Nat.succ) = fun k => f.getD k 0 == 46 || f.getD k 0 == w.getD (a + 1 + k) 0 := by
        funext k
        simp only [Function.comp, Nat.succ_eq_add_one, List.getD_cons_succ]
        rw [show a + (k + 1) = a + 1 + k by omega]
      rw [e1, e2, List.getD_cons_zero]
      have e3 : decide (a + (f.length + 1) ≤ w.length) = decide (a + 1 + f.length ≤ w.length) := by rw [Bool.eq_iff_iff]; simp; omega
      rw [e3]
      cases decide (a + 1 + f.length ≤ w.length) <;> cases (n == 46 || n == w[a]) <;> simp
    · have hd : w.drop a = [] := List.drop_eq_nil_of_le (by omega)
      rw [hd]
      unfold fix fitsB
      rw [decide_eq_false (by simp; omega)]; rfl
theorem fits_big (f w : List Nat) (a : Nat) (h : w.length < a) : fitsB f w a = false := by
  unfold fitsB; rw [decide_eq_false (by omega)]; rfl
theorem fits_more (f w : List Nat) (a : Nat) (h : fitsB f w a = true) : a + f.length ≤ w.length := by
  unfold fitsB at h; simp at h; exact h.1
theorem mat_sgs : ∀ (r : List Pt) (w : List Nat), Mat r w ↔ (fix (sgs r) w = true ∧ Mat (rst r) (w.drop (sgs r).length))
  | [], w => by simp [sgs, rst, fix]
  | .star :: r, w => by simp [sgs, rst, fix]
  | .sign n :: r, w => by
    constructor
    · intro h
      cases h with
      | sign h t =>
        have ih := (mat_sgs r _).mp t
        refine ⟨?_, ih.2⟩
        show ((_ || _) && _) = true
        rw [ih.1, Bool.and_true, Bool.or_eq_true, beq_iff_eq, beq_iff_eq]; exact h
    · rintro ⟨h1, h2⟩
      match w, h1, h2 with
      | c :: w, h1, h2 =>
        have h1 : ((n == 46 || n == c) && fix (sgs r) w) = true := h1
        rw [Bool.and_eq_true, Bool.or_eq_true, beq_iff_eq, beq_iff_eq] at h1
        exact .sign h1.1 ((mat_sgs r _).mpr ⟨h1.2, h2⟩)
theorem fix_len : ∀ (f w : List Nat), fix f w = true → f.length ≤ w.length
  | [], w, _ => by simp
  | n :: f, [], h => by cases h
  | n :: f, c :: w, h => by
    have h : ((n == 46 || n == c) && fix f w) = true := h
    rw [Bool.and_eq_true] at h
    have := fix_len f w h.2
    simp; omega
theorem mat_star (r : List Pt) (w : List Nat) : Mat (.star :: r) w ↔ ∃ k, k ≤ w.length ∧ Mat r (w.drop k) := by
  constructor
  · intro h
    cases h with
    | star u t => exact ⟨u.length, by simp, by simpa using t⟩
  · rintro ⟨k, hk, h⟩
    have := Mat.star (w.take k) h
    rwa [List.take_append_drop] at this
/-- seek tells the first place that fits -/
theorem seek_spec (w f : List Nat) : ∀ (m a : Nat), w.length + 1 ≤ a + m → a ≤ seek w f m a ∧ (∀ b, a ≤ b → b < seek w f m a → fitsB f w b = false) ∧ (seek w f m a ≤ w.length → fitsB f w (seek w f m a) = true)
  | 0, a, h => ⟨Nat.le_refl _, fun b h1 h2 => absurd h2 (by simp [seek]; omega), fun h2 => by simp [seek] at h2; omega⟩
  | m + 1, a, h => by
    unfold seek
    split
    · rename_i q
      simp at q
      have ih := seek_spec w f m (a + 1) (by omega)
      refine ⟨by omega, fun b h1 h2 => ?_, ih.2.2⟩
      by_cases e : b = a
      · rw [e]; exact q.2
      · exact ih.2.1 b (by omega) h2
    · rename_i q
      refine ⟨Nat.le_refl _, fun b h1 h2 => by omega, fun h2 => ?_⟩
      simpa [h2] using q
theorem tk_big (w : List Nat) : ∀ (k : Nat) (ps : List Pt) (a : Nat), w.length < a → ps.length ≤ k → tk w k ps a = false
  | 0, [], a, h, _ => by simp [tk]; omega
  | k + 1, [], a, h, _ => by simp [tk]; omega
  | 0, _ :: _, a, h, hl => by simp at hl
  | k + 1, .sign n :: r, a, h, hl => by simp only [tk]; rw [fits_big _ _ _ h]; rfl
  | k + 1, .star :: t, a, h, hl => by
    simp only [tk]
    split
    · rw [decide_eq_false (by omega)]; rfl
    · have h1 := (seek_spec w (sgs t) (w.length + 1) a (by omega)).1
      have h2 := rst_len t
      exact tk_big w k (rst t) _ (by omega) (by simp at hl; omega)
/-- later starts take no less after a star -/
theorem mat_star_more (r : List Pt) (w : List Nat) (a b : Nat) (h : b ≤ a) (hm : Mat (.star :: r) (w.drop a)) : Mat (.star :: r) (w.drop b) := by
  rw [mat_star] at hm ⊢
  obtain ⟨k, hk, hm⟩ := hm
  rw [List.length_drop] at hk
  by_cases q : a ≤ w.length
  · refine ⟨a - b + k, by rw [List.length_drop]; omega, ?_⟩
    rw [List.drop_drop] at hm ⊢
    rwa [show b + (a - b + k) = a + k by omega]
  · refine ⟨w.length - b, by rw [List.length_drop]; omega, ?_⟩
    rw [List.drop_drop] at hm ⊢
    rw [List.drop_eq_nil_of_le (by omega)] at hm
    rwa [List.drop_eq_nil_of_le (by omega)]
theorem rst_cases (t : List Pt) : rst t = [] ∨ ∃ r, rst t = .star :: r := by
  induction t with
  | nil => exact .inl rfl
  | cons p t ih => cases p with
    | star => exact .inr ⟨t, rfl⟩
    | sign n => exact ih
theorem tk_mat (w : List Nat) : ∀ (k : Nat) (ps : List Pt) (a : Nat), a ≤ w.length → ps.length ≤ k → (tk w k ps a = true ↔ Mat ps (w.drop a))
  | 0, [], a, h, _ => by
    simp only [tk]
    constructor
    · intro q; rw [List.drop_eq_nil_of_le (by simp at q; omega)]; exact .nil
    · intro q
      generalize hd : w.drop a = d at q
      cases q
      have := congrArg List.length hd; simp at this; simp; omega
  | k + 1, [], a, h, _ => by
    simp only [tk]
    constructor
    · intro q; rw [List.drop_eq_nil_of_le (by simp at q; omega)]; exact .nil
    · intro q
      generalize hd : w.drop a = d at q
      cases q
      have := congrArg List.length hd; simp at this; simp; omega
  | 0, _ :: _, a, h, hl => by simp at hl
  | k + 1, .sign n :: r, a, h, hl => by
    simp only [tk, Bool.and_eq_true]
    rw [fits_fix _ _ _ h]
    by_cases q : a < w.length
    · rw [tk_mat w k r (a + 1) q (by simp at hl; omega)]
      rw [List.drop_eq_getElem_cons q]
      constructor
      · rintro ⟨h1, h2⟩
        simp [fix] at h1
        exact .sign h1 h2
      · intro hm
        cases hm with
        | sign h t => exact ⟨by simpa [fix] using h, t⟩
    · rw [List.drop_eq_nil_of_le (by omega)]
      constructor
      · rintro ⟨h1, _⟩; simp [fix] at h1
      · intro hm; cases hm
  | k + 1, .star :: t, a, h, hl => by
    simp only [tk]
    rw [mat_star]
    have hl2 := rst_len t
    simp at hl
    split
    · rename_i hre
      have hre : rst t = [] := by simpa using hre
      rw [Bool.and_eq_true, decide_eq_true_eq]
      constructor
      · rintro ⟨h1, h2⟩
        rw [fits_fix _ _ _ (by omega)] at h2
        refine ⟨w.length - (sgs t).length - a, by rw [List.length_drop]; omega, ?_⟩
        rw [List.drop_drop, show a + (w.length - (sgs t).length - a) = w.length - (sgs t).length by omega, mat_sgs]
        refine ⟨h2, ?_⟩
        rw [hre, List.drop_drop, List.drop_eq_nil_of_le (by omega)]; exact .nil
      · rintro ⟨j, hj, hm⟩
        rw [List.length_drop] at hj
        rw [List.drop_drop, mat_sgs, hre, List.drop_drop] at hm
        obtain ⟨h1, h2⟩ := hm
        have hlen := fix_len _ _ h1
        rw [List.length_drop] at hlen
        have : w.length ≤ a + j + (sgs t).length := by
          generalize hd : w.drop (a + j + (sgs t).length) = d at h2
          cases h2
          have := congrArg List.length hd; simp at this; omega
        have e : a + j = w.length - (sgs t).length := by omega
        rw [← e]
        exact ⟨by omega, by rw [fits_fix _ _ _ (by omega)]; exact h1⟩
    · rename_i hre
      obtain ⟨r, hr⟩ : ∃ r, rst t = .star :: r := by
        rcases rst_cases t with q | q
        · rw [q] at hre; exact absurd rfl hre
        · exact q
      obtain ⟨s1, s2, s3⟩ := seek_spec w (sgs t) (w.length + 1) a (by omega)
      generalize seek w (sgs t) (w.length + 1) a = b at s1 s2 s3
      by_cases hb : b ≤ w.length
      · have hf := s3 hb
        have hfl := fits_more _ _ _ hf
        rw [tk_mat w k (rst t) (b + (sgs t).length) hfl (by omega)]
        constructor
        · intro hm
          refine ⟨b - a, by rw [List.length_drop]; omega, ?_⟩
          rw [List.drop_drop, show a + (b - a) = b by omega, mat_sgs]
          refine ⟨by rw [← fits_fix _ _ _ hb]; exact hf, ?_⟩
          rwa [List.drop_drop]
        · rintro ⟨j, hj, hm⟩
          rw [List.length_drop] at hj
          rw [List.drop_drop, mat_sgs, List.drop_drop] at hm
          have : b ≤ a + j := by
            by_cases q : b ≤ a + j
            · exact q
            · have := s2 (a + j) (by omega) (by omega)
              rw [fits_fix _ _ _ (by omega), hm.1] at this
              cases this
          rw [hr] at hm ⊢
          exact mat_star_more _ _ _ _ (by omega) hm.2
      · rw [tk_big w k (rst t) _ (by omega) (by omega)]
        constructor
        · intro h; cases h
        · rintro ⟨j, hj, hm⟩
          rw [List.length_drop] at hj
          rw [List.drop_drop, mat_sgs] at hm
          have := s2 (a + j) (by omega) (by omega)
          rw [fits_fix _ _ _ (by omega), hm.1] at this
          cases this
theorem tkL_mt (its : List Int) (n : Nat) : tkL its n = true ↔ mtc its (wd n) := by
  unfold tkL
  rw [tk_mat _ _ _ _ (Nat.zero_le _) (Nat.le_refl _), List.drop_zero, mat_prt_mt]
end Mine

set_option maxRecDepth 100000
set_option autoImplicit false
set_option linter.unusedVariables false
namespace Mine
open PySem PySem.W PySem.Calls PyProof.Rows
theorem wd_zero : wd 0 = [] := by simp [wd, hx_zero]
theorem wd_pos {n : Nat} (h : n ≠ 0) : wd n = wd (n / 16) ++ [65 + n % 16] := by unfold wd; rw [hx_pos h]; simp
theorem wd_split : ∀ (k y : Nat), ∃ u, wd y = wd (y / 16 ^ k) ++ u
  | 0, y => ⟨[], by simp⟩
  | k + 1, y => by
    obtain ⟨u, hu⟩ := wd_split k (y / 16)
    by_cases h : y = 0
    · exact ⟨[], by rw [h]; simp⟩
    · refine ⟨u ++ [65 + y % 16], ?_⟩
      rw [wd_pos h, hu, List.append_assoc]
      rw [Nat.div_div_eq_div_mul, Nat.pow_succ, Nat.mul_comm 16]
theorem wd_pre (u : List Nat) : ∀ (y x : Nat), wd y = wd x ++ u → x = y / 16 ^ u.length := by
  induction hn : u.length generalizing u with
  | zero =>
    intro y x h
    rw [List.length_eq_zero_iff.mp hn, List.append_nil] at h
    rw [wd_inj h]; simp
  | succ k ih =>
    intro y x h
    have hy : y ≠ 0 := fun q => by
      rw [q, wd_zero] at h
      have := congrArg List.length h; simp at this; omega
    obtain ⟨u', c, rfl⟩ : ∃ u' c, u = u' ++ [c] := ⟨u.dropLast, u.getLast (by intro q; rw [q] at hn; simp at hn), by rw [List.dropLast_concat_getLast]⟩
    rw [wd_pos hy, ← List.append_assoc] at h
    have h2 := (List.append_inj' h rfl).1
    have := ih u' (by simpa using hn) (y / 16) x h2
    rw [this, Nat.div_div_eq_div_mul, Nat.pow_succ, Nat.mul_comm 16]
/-- a beginning of a word is a word -/
theorem wd_ahead (y : Nat) (a b : List Nat) (h : wd y = a ++ b) : a = wd (y / 16 ^ b.length) := by
  induction hn : b.length generalizing b y with
  | zero =>
    rw [List.length_eq_zero_iff.mp hn, List.append_nil] at h
    rw [← h]; simp
  | succ k ih =>
    have hy : y ≠ 0 := fun q => by
      rw [q, wd_zero] at h
      have := congrArg List.length h; simp at this; omega
    obtain ⟨u', c, rfl⟩ : ∃ u' c, b = u' ++ [c] := ⟨b.dropLast, b.getLast (by intro q; rw [q] at hn; simp at hn), by rw [List.dropLast_concat_getLast]⟩
    rw [wd_pos hy, ← List.append_assoc] at h
    have h2 := (List.append_inj' h rfl).1
    have := ih (y / 16) u' h2 (by simpa using hn)
    rw [this, Nat.div_div_eq_div_mul, Nat.pow_succ, Nat.mul_comm 16]
theorem wd_cat (x m : Nat) : wd (x * 16 ^ (hx m).length + m) = wd x ++ wd m := by
  induction m using Nat.strongRecOn with
  | _ m ih =>
    by_cases h : m = 0
    · subst h; simp [hx_zero, wd_zero]
    · have hl : (hx m).length = (hx (m / 16)).length + 1 := by rw [hx_pos h]; simp
      have hp : 16 ^ (hx m).length = 16 * 16 ^ (hx (m / 16)).length := by rw [hl, Nat.pow_succ, Nat.mul_comm]
      have e : x * 16 ^ (hx m).length = 16 * (x * 16 ^ (hx (m / 16)).length) := by rw [hp, Nat.mul_left_comm]
      have h1 : x * 16 ^ (hx m).length + m ≠ 0 := by omega
      rw [wd_pos h1, wd_pos h, ← List.append_assoc, ← ih (m / 16) (by omega)]
      have e1 : (x * 16 ^ (hx m).length + m) / 16 = x * 16 ^ (hx (m / 16)).length + m / 16 := by rw [e]; omega
      have e2 : (x * 16 ^ (hx m).length + m) % 16 = m % 16 := by rw [e]; omega
      rw [e1, e2]
theorem mem_addN (r : List Nat) (n x : Nat) : x ∈ addN r n ↔ x ∈ r ∨ x = n := by
  unfold addN
  split
  · rename_i h
    have h : n ∈ r := by simpa using h
    constructor
    · exact .inl
    · rintro (h' | rfl)
      · exact h'
      · exact h
  · simp
theorem mem_foldk (p x : Nat) : ∀ (l acc : List Nat), x ∈ l.foldl (fun acc k => addN acc (p / 16 ^ k)) acc ↔ x ∈ acc ∨ ∃ k ∈ l, x = p / 16 ^ k
  | [], acc => by simp
  | a :: r, acc => by
    rw [List.foldl_cons, mem_foldk p x r, mem_addN]
    simp only [List.mem_cons, exists_eq_or_imp]
    rw [or_assoc]
theorem mem_wide (x : Nat) : ∀ (l acc : List Nat), x ∈ l.foldl (fun acc p => wideP p acc) acc ↔ x ∈ acc ∨ ∃ p ∈ l, ∃ k < 6, x = p / 16 ^ k
  | [], acc => by simp
  | a :: r, acc => by
    rw [List.foldl_cons, mem_wide x r]
    unfold wideP
    rw [mem_foldk]
    simp only [List.mem_cons, exists_eq_or_imp, List.mem_range]
    rw [or_assoc]
theorem mem_mstep (i : Int) (x : Nat) (l : List Nat) (hl : ∀ y ∈ l, y < 2 ^ 20) (ho : okIt i) : x ∈ mstep l i ↔ ∃ y ∈ l, ∃ u, wd y = wd x ++ u ∧ im i u := by
  unfold mstep im
  split
  · unfold wideOf
    rw [mem_wide]
    simp only [List.not_mem_nil, false_or, and_true]
    constructor
    · rintro ⟨y, hy, k, _, rfl⟩
      exact ⟨y, hy, wd_split k y⟩
    · rintro ⟨y, hy, u, h⟩
      refine ⟨y, hy, u.length, ?_, wd_pre u y x h⟩
      have := wd_len (hl y hy)
      rw [h, List.length_append] at this; omega
  · split
    · rename_i h1 h2
      simp only [List.mem_map, List.mem_filter, decide_eq_true_eq]
      constructor
      · rintro ⟨y, ⟨hy, h0⟩, rfl⟩
        exact ⟨y, hy, [65 + y % 16], wd_pos (by omega), rfl⟩
      · rintro ⟨y, hy, u, h, hu⟩
        have := wd_pre u y x h
        rw [hu, Nat.pow_one] at this
        refine ⟨y, ⟨hy, ?_⟩, this.symm⟩
        refine Nat.pos_of_ne_zero fun q => ?_
        rw [q, wd_zero] at h
        have := congrArg List.length h; simp at this; omega
    · rename_i h1 h2
      obtain ⟨m, rfl⟩ : ∃ m : Nat, i = m := ⟨i.toNat, by unfold okIt at ho; omega⟩
      simp only [Int.toNat_natCast, List.mem_map, List.mem_filter, beq_iff_eq]
      have hm := hx_up _ m rfl
      constructor
      · rintro ⟨y, ⟨hy, h0⟩, rfl⟩
        refine ⟨y, hy, wd m, ?_, rfl⟩
        rw [← wd_cat]
        congr 1
        have := Nat.div_add_mod y (16 ^ (hx m).length)
        rw [h0, Nat.mul_comm] at this; omega
      · rintro ⟨y, hy, u, h, rfl⟩
        rw [← wd_cat] at h
        have := wd_inj h
        subst this
        refine ⟨_, ⟨hy, ?_⟩, ?_⟩
        · rw [Nat.add_comm, Nat.add_mul_mod_self_right, Nat.mod_eq_of_lt hm]
        · rw [Nat.add_comm, Nat.add_mul_div_right _ _ (Nat.pos_of_ne_zero (by simp)), Nat.div_eq_of_lt hm, Nat.zero_add]
theorem mem_steps : ∀ (its : List Int) (x : Nat) (l : List Nat), (∀ y ∈ l, y < 2 ^ 20) → (∀ i ∈ its, okIt i) → (x ∈ its.reverse.foldl mstep l ↔ ∃ p ∈ l, ∃ v, wd p = wd x ++ v ∧ mtc its v)
  | [], x, l, hl, ho => by
    simp only [List.reverse_nil, List.foldl_nil, mtc]
    constructor
    · intro h; exact ⟨x, h, [], by simp, rfl⟩
    · rintro ⟨p, hp, v, h, rfl⟩
      rw [List.append_nil] at h
      rw [← wd_inj h]; exact hp
  | i :: r, x, l, hl, ho => by
    rw [List.reverse_cons, List.foldl_append]
    have ih := fun x => mem_steps r x l hl fun i hi => ho i (by simp [hi])
    show x ∈ mstep (r.reverse.foldl mstep l) i ↔ _
    rw [mem_mstep i x _ (fun y hy => ?_) (ho i (by simp))]
    · constructor
      · rintro ⟨y, hy, u, h1, h2⟩
        obtain ⟨p, hp, v, h3, h4⟩ := (ih y).mp hy
        exact ⟨p, hp, u ++ v, by rw [h3, h1, List.append_assoc], u, v, rfl, h2, h4⟩
      · rintro ⟨p, hp, _, h3, u, v, rfl, h2, h4⟩
        have h5 : wd p = (wd x ++ u) ++ v := by rw [h3, List.append_assoc]
        have h6 := wd_ahead p _ _ h5
        refine ⟨p / 16 ^ v.length, (ih _).mpr ⟨p, hp, v, by rw [← h6, h5], h4⟩, u, h6.symm, h2⟩
    · obtain ⟨p, hp, v, h3, _⟩ := (ih y).mp hy
      have := wd_pre v p y h3
      have := hl p hp
      have := Nat.div_le_self p (16 ^ v.length)
      omega
theorem means_mt (its : List Int) (n : Nat) (hn : n < 2 ^ 20) (ho : ∀ i ∈ its, okIt i) : means its n = true ↔ mtc its (wd n) := by
  unfold means
  rw [List.contains_iff_mem, mem_steps its 0 [n] (by simpa using hn) ho, wd_zero]
  simp
theorem tk_means (its : List Int) (n : Nat) (hn : n < 2 ^ 20) (ho : ∀ i ∈ its, okIt i) : tkL its n = means its n := by
  rw [Bool.eq_iff_iff, tkL_mt, means_mt its n hn ho]
end Mine

set_option maxRecDepth 100000
set_option autoImplicit false
set_option linter.unusedVariables false
set_option linter.unusedSectionVars false
set_option maxHeartbeats 2000000
namespace Mine
open PySem PySem.W PySem.Calls PyProof.Rows

theorem taken_meant (ns : List Int) (l : List Int) (hl : l ∈ sideL ns) : takenL ns l = meantL ns l := by
  unfold takenL meantL
  exact List.filter_congr fun n hn => tk_means l n (rowsL_lt ns n hn) (side_ok ns l hl).1
def side0 (ns : List Int) : List Int := itemsOf ((drawsOf ns).take 3) 0
def side1 (ns : List Int) : List Int := itemsOf ((drawsOf ns).take 3) 1
def mn0 (ns : List Int) : List Nat := meantL ns (side0 ns)
def mn1 (ns : List Int) : List Nat := meantL ns (side1 ns)
theorem mn_len (ns : List Int) (l : List Int) : (meantL ns l).length ≤ 12 := Nat.le_trans (List.length_filter_le _ _) (rowsL_len ns)
theorem mn_lt (ns : List Int) (l : List Int) : ∀ n ∈ meantL ns l, n < 2 ^ 20 := fun n hn => rowsL_lt ns n (List.mem_filter.mp hn).1
theorem mn_pw (ns : List Int) (l : List Int) : (meantL ns l).Pairwise fun a b => decide (a < b) = true := ((rowsL_lt' ns).sublist List.filter_sublist).imp fun h => by simpa using h
theorem dif_lt' (ns : List Int) (l m : List Int) : ∀ n ∈ dif (meantL ns l) (meantL ns m), n < 2 ^ 20 := fun n hn => mn_lt ns l n (List.mem_filter.mp hn).1
theorem dif_len' (ns : List Int) (l m : List Int) : (dif (meantL ns l) (meantL ns m)).length ≤ 12 := Nat.le_trans (List.length_filter_le _ _) (mn_len ns l)
theorem NL_ILL (a b : List Nat) : [D.list (NL a), D.list (NL b)] = ILL [a.map fun n : Nat => (n : Int), b.map fun n : Nat => (n : Int)] := by simp [ILL, NL_IL]
def lawG5 (ns : List Int) : Gam := [("meant", .d (.list [D.list (NL (mn0 ns)), D.list (NL (mn1 ns))])), ("taken", .d (.list [D.list ((mn0 ns).map eN), D.list ((mn1 ns).map eN)]))]
theorem law_f {X : GCtx} (I : IsX X) (ns : List Int) {P : Post} (h : Exs (lawC X) (lawG5 ns) [] ((dfn pgm 26).body.drop 13) P) : Exs (lawC X) (lawG4 ns) [] ((dfn pgm 26).body.drop 12) P := by
  have hrl := rowsL_len ns
  have hlt := rowsL_lt ns
  refine exs_cons (ex_assign_compC (ev_compY (fun l => D.list (IL l)) (fun l => D.list (NL (meantL ns l))) (sideL ns) [("rows", .d (.list (NL (rowsL ns))))] (evi_list (ev_nm rfl)).weak (csc rfl (by decide +kernel) rfl) (.inr (show _ ∈ ownCells _ by decide +kernel)) (by simp [sideL]) (cs_cons rfl rfl cs_nil) (fun l hl => ?_)) (show Str.ofString "meant" ∈ ownCells (dfn pgm 26).scope by decide +kernel) rfl ?_)
  · have hs := side_ok ns l hl
    refine ev_compX (fun n : Nat => D.int n) (fun n : Nat => D.int n) (rowsL ns) (means l) [("items", .d (.list (IL l)))] (evi_list (ev_nm rfl)).weak (csc rfl (by decide +kernel) rfl) (.inl rfl) (by omega) (cs_cons rfl rfl cs_nil) (fun n hn => ?_) (fun n hn _ => ev_nm rfl)
    exact evifs_one (et_of (ev_call (.cons (ev_nm rfl) (.cons (ev_nm rfl) .nil)) (sp_means I l n hs.1 hs.2) (nle rfl) rfl).ev (by exact rfl))
  · have e : ((sideL ns).map fun l => D.list ((takenL ns l).map eN)) = [D.list ((mn0 ns).map eN), D.list ((mn1 ns).map eN)] := by
      have h0 : takenL ns (side0 ns) = mn0 ns := taken_meant ns _ (by simp [sideL, side0])
      have h1 : takenL ns (side1 ns) = mn1 ns := taken_meant ns _ (by simp [sideL, side1])
      show [D.list ((takenL ns (side0 ns)).map eN), D.list ((takenL ns (side1 ns)).map eN)] = _
      rw [h0, h1]
    exact exs_weak (Γ₀ := lawG5 ns) (sub_cons rfl (sub_cons (by rw [← e]; rfl) sub_nil)) h
theorem law_g {X : GCtx} (I : IsX X) (ns : List Int) : Exs (lawC X) (lawG5 ns) [] ((dfn pgm 26).body.drop 13) (fun o _ _ => o = .ret (.bool true)) := by
  have hl0 := mn_len ns (side0 ns)
  have hl1 := mn_len ns (side1 ns)
  refine exs_cons (ex_assign_sld I rfl (nle rfl) ord_eN (l1 := mn0 ns) (l2 := mn1 ns) (ev_item (ev_nm rfl).ev ev_int.ev (by decide) (by decide) rfl) (ev_item (ev_nm rfl).ev ev_int.ev (by decide) (by decide) rfl) (mn_pw ns _) (mn_pw ns _) (Nat.le_trans hl0 (by decide)) (Nat.le_trans hl1 (by decide)) (.inl rfl) rfl ?_)
  refine exs_cons (ex_assign (ev_list (.cons (ev_compX (fun n : Nat => D.int n) (fun n : Nat => D.int n) (mn0 ns) (fun n => !(mn1 ns).contains n) [("meant", .d (.list [D.list (NL (mn0 ns)), D.list (NL (mn1 ns))]))] (evi_list (ev_item (ev_nm rfl).ev ev_int.ev (by decide) (by decide) rfl)).weak (csc rfl (by decide +kernel) rfl) (.inl rfl) (Nat.le_trans hl0 (by decide)) (cs_cons rfl rfl cs_nil)
      (fun n hn => evifs_one (evt_eq (et_cmp (ev_nm rfl).ev (ev_eq (ev_item (d := .list (NL (mn1 ns))) (ev_nm rfl).ev ev_int.ev (by decide) (by decide) rfl).ev (by rw [NL_IL])) cmp_ninI) (by rw [contains_cast]))) (fun n hn _ => ev_nm rfl))
    (.cons (ev_compX (fun n : Nat => D.int n) (fun n : Nat => D.int n) (mn1 ns) (fun n => !(mn0 ns).contains n) [("meant", .d (.list [D.list (NL (mn0 ns)), D.list (NL (mn1 ns))]))] (evi_list (ev_item (ev_nm rfl).ev ev_int.ev (by decide) (by decide) rfl)).weak (csc rfl (by decide +kernel) rfl) (.inl rfl) (Nat.le_trans hl1 (by decide)) (cs_cons rfl rfl cs_nil)
      (fun n hn => evifs_one (evt_eq (et_cmp (ev_nm rfl).ev (ev_eq (ev_item (d := .list (NL (mn0 ns))) (ev_nm rfl).ev ev_int.ev (by decide) (by decide) rfl).ev (by rw [NL_IL])) cmp_ninI) (by rw [contains_cast]))) (fun n hn _ => ev_nm rfl)) .nil))) (.inl rfl) ?_)
  refine exs_cons (ex_ret (ev_cmp (ev_eq (ev_compY (fun l : List Nat => D.list (l.map eN)) (fun l : List Nat => D.list (NL l)) [dif (mn0 ns) (mn1 ns), dif (mn1 ns) (mn0 ns)] [] (evi_tupW (xs := [dif (mn0 ns) (mn1 ns), dif (mn1 ns) (mn0 ns)].map fun l : List Nat => D.list (l.map eN)) (ev_nm rfl).ev) (csc rfl (by decide +kernel) rfl) (.inl rfl) (by simp) cs_nil (fun l hl => ?_)).ev
    (d' := .list (ILL [(dif (mn0 ns) (mn1 ns)).map fun n : Nat => (n : Int), (dif (mn1 ns) (mn0 ns)).map fun n : Nat => (n : Int)])) (by rw [← NL_ILL]; rfl)) (ev_eq (ev_nm rfl).ev
    (d' := .list (ILL [(dif (mn0 ns) (mn1 ns)).map fun n : Nat => (n : Int), (dif (mn1 ns) (mn0 ns)).map fun n : Nat => (n : Int)])) (by rw [← NL_ILL]; rfl)) cmp_eqII) ?_)
  · have hl : (∀ n ∈ l, n < 2 ^ 20) ∧ l.length ≤ 12 := by
      simp only [List.mem_cons, List.not_mem_nil, or_false] at hl
      rcases hl with rfl | rfl
      · exact ⟨dif_lt' ns _ _, dif_len' ns _ _⟩
      · exact ⟨dif_lt' ns _ _, dif_len' ns _ _⟩
    refine ev_compY eN (fun n : Nat => D.int n) l [] (evi_list (ev_nm rfl)).weak (csc rfl (by decide +kernel) rfl) (.inl rfl) (Nat.le_trans hl.2 (by decide)) cs_nil (fun n hn => ?_)
    exact ev_call (.cons (ev_titem (d := .str (S (wd n))) (ev_nm rfl).ev ev_int.ev (by decide) (by decide) rfl) .nil) (sp_read I n (hl.1 n hn)) (nle rfl) rfl
  · show Out.ret _ = Out.ret _
    rw [decide_eq_true rfl]
theorem law_all {X : GCtx} (I : IsX X) (ht : ∀ h, X.tm h → TM X h) (ns : List Int) (hz : ns.length ≤ 63) : Exs (lawC X) [("script", .arg ns)] [] (dfn pgm 26).body (fun o _ _ => o = .ret (.bool true)) :=
  law_a I ht ns hz rfl (law_b I ht ns (law_c I ns (law_d I ns (hsgn ns) (law_e I ns (law_f I ns (law_g I ns))))))
end Mine

set_option maxRecDepth 100000
set_option autoImplicit false
set_option linter.unusedVariables false
namespace Mine
open PySem PySem.W PySem.Calls PyProof.Rows
def GX (w : World) (mg mb : Str → Option Value) : GCtx where
  prog := pgm
  w := w
  mg := mg
  mb := mb
  defs := defsX
  bl := blX
  tm := TM ⟨pgm, w, mg, mb, [], [], fun _ => True, fun _ _ _ x => x⟩
  tmk := fun h h' k ⟨a, h1, h2, f, ⟨o, es, ep, ho, r⟩, h3⟩ => ⟨a, h1, h2, f, ⟨o, es, ep, k _ _ ho, r⟩, h3⟩
theorem law_end {p : Program} {loose : List Str} {mean : ExcName → Option Value} {w : World} {s : Shared} {mg mb : Str → Option Value} {K : Frag} {fa a : Addr} {vs : List Value} {ns : List Int} {Q E : Value → Shared → Prop}
    (T : Top p loose mean mg mb s.heap) (KX : K.In s.heap) (hmg : mg (dfn pgm 26).name = some (.ref fa)) (hL : s.heap.IsList a vs.toArray) (hI : IntsAre vs ns) (hz : ns.length ≤ 63)
    (eR : recsOf p = [2, 5, 8, 10, 11, 13, 14, 16, 17, 18, 19, 20, 21, 22, 23, 24, 25, 26].map (dfn pgm)) (hb : ∀ x ∈ blX, x ≠ Str.ofString "__name__" ∧ x ∉ startupNames ∧ x ∉ loose ∧ x ∉ (recsOf p).map (·.name) ∧ x ∉ (litsOf p).map (·.1) ∧ x ∉ (clssOf p loose).map (·.name))
    (hK : chkK K = true) (hQ : ∀ h' tk, (∀ b o, s.heap.get? b = some o → h'.get? b = some o) → Q (.bool true) { s with heap := h', toks := tk }) : wpAny (model pgm w) callerA (call (.ref fa) [.ref a]) Q E s := by
  obtain ⟨fa', o, pm, code, doc, hm', ho, hd, hc⟩ := T.fn (dfn pgm 26) (by rw [eR]; exact List.mem_map_of_mem (by decide))
  have ef : some (Value.ref fa') = some (.ref fa) := hm'.symm.trans hmg
  cases ef
  exact law_enter (X := GX w mg mb) (dr := dfn pgm 26) (n := 20) (x := "script") ho hd hc (glo_of T (fun d hd => by
    obtain ⟨k, hk, rfl⟩ := List.mem_map.mp (show d ∈ [2, 5, 8, 10, 11, 13, 14, 16, 17, 18, 19, 20, 21, 22, 23, 24, 25].map (dfn pgm) from hd)
    rw [eR]; exact List.mem_map_of_mem (by clear hd; revert k; decide)) hb (tm_chk KX T.g hK)) rfl rfl (by decide) (by decide) hL hI (fun pm code doc v => rfl) rfl (by decide +kernel) (by decide +kernel) (by decide +kernel) rfl rfl rfl (law_all ⟨rfl, rfl⟩ (fun h x => x) ns hz) hQ
end Mine
end

set_option Elab.async false
set_option maxRecDepth 100000
set_option autoImplicit false
set_option linter.unusedVariables false
open PySem PySem.W PyProof.Rows
set_option maxHeartbeats 8000000 in
theorem PySem.Challenge.cw_in0243_01_holds : PySem.Challenge.rw_in0243_01.Holds := by
  w_on
  refine holds_law Mine.said fun said => ?_
  refine holds_open (q := Mine.vw) (loose := Mine.loose) (Xt := Mine.XtL PySem.Challenge.rw_in0243_01.row.toRowW) (XP := XL Mine.vw []) (Yf := Mine.tmHook.obs) (Ya := Mine.tmHook.val) (YP := Mine.tmHook.says) (N := 4010) Mine.left1 Mine.tmHook.of Mine.tmHook.keeps (fun s e => xl_of s (Bool.and_eq_true_iff.mp e).1) XL.keeps (by rfl) (by rfl) (by rfl) (fun s e => recFacts_of (Bool.and_eq_true_iff.mp e).2) (by rfl) said (by decide +kernel) ⟨rfl, rfl, rfl, rfl, rfl, by decide +kernel⟩ ?hw ?_
  (case hw => w_witness2)
  intro w s₀ s₁ mg mb G Y fa o pm cd doc dV kV ho hd hcd hD hmg hg args vals as hpre hlay hrd hwl hlo
  obtain ⟨K, KX, hK⟩ := Y
  refine Ground.open G ?_
  intro T B D TE TW
  clear ho hd hcd hD B D TE TW
  wrow_args hpre hlay hrd hwl hlo
  rename Heap.IsList _ _ _ => hL1
  rename IntsAre _ _ => hI1
  rename ¬ _ < _ => hz1
  refine Mine.law_end T KX hmg hL1 hI1 (by omega) (by kernel_rfl) (by decide +kernel) hK ?_
  intro h' tk hk
  exact GoodW.toG ⟨.inl ⟨_, .bool true, [], rfl, raisesW_false (by wrow_none_raised), .bool true, by wrow_post, fun _ => ⟨by simp, by simp⟩⟩, hk, rfl, hg⟩
#print axioms PySem.Challenge.cw_in0243_01_holds
