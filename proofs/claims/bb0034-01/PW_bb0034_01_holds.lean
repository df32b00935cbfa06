import PyProof.Rows.All
import Wide.All
import OpenK.AllK
import Wide.FinOn
import PySem.Challenge.RW_bb0034_01
set_option Elab.async false
section
open PySem PySem.W PySem.Calls PyProof.Rows
set_option Elab.async false
set_option maxRecDepth 100000
namespace Mine

abbrev OP := Obj → Prop
abbrev Led := List (Addr × OP)
/-- what stays as it stands -/
abbrev Store := Addr → Option Obj
def Le (B B' : Store) : Prop := ∀ a o, B a = some o → B' a = some o
theorem Le.refl (B : Store) : Le B B := fun _ _ e => e
theorem Le.trans {B₁ B₂ B₃ : Store} (x : Le B₁ B₂) (y : Le B₂ B₃) : Le B₁ B₃ := fun a o e => y a o (x a o e)

/-- the state between two steps: `B` stays as it stood; each address of the ledger `L` bears an object of its kind -/
structure SS (B : Store) (G : Array GenState) (os : OsState) (L : Led) (s : Shared) : Prop where
  keep : ∀ b o, B b = some o → s.heap.get? b = some o
  led : ∀ p ∈ L, ∃ o, s.heap.get? p.1 = some o ∧ p.2 o
  new : ∀ p ∈ L, B p.1 = none
  nodup : (L.map (·.1)).Nodup
  gens : s.gens = G
  os : s.os = os

inductive Sel (a : Addr) (P : OP) : Led → Led → Prop
  | head {r} : Sel a P ((a, P) :: r) r
  | tail {p r r'} : Sel a P r r' → Sel a P (p :: r) (p :: r')

theorem Sel.perm {a : Addr} {P : OP} {L L' : Led} (h : Sel a P L L') : L.Perm ((a, P) :: L') := by
  induction h with
  | head => exact List.Perm.refl _
  | tail _ ih => exact (List.Perm.cons _ ih).trans (List.Perm.swap _ _ _)
theorem Sel.mem {a : Addr} {P : OP} {L L' : Led} (h : Sel a P L L') : (a, P) ∈ L := h.perm.mem_iff.mpr (.head _)

section
variable {B B' : Store} {G : Array GenState} {os : OsState} {L L' : Led} {s s' : Shared} {a : Addr} {P P' : OP} {o o' : Obj}

theorem SS.perm (p : L.Perm L') (S : SS B G os L s) : SS B G os L' s :=
  ⟨S.keep, fun q hq => S.led q (p.mem_iff.mpr hq), fun q hq => S.new q (p.mem_iff.mpr hq), (p.map (·.1)).nodup_iff.mp S.nodup, S.gens, S.os⟩
theorem SS.front (e : Sel a P L L') (S : SS B G os L s) : SS B G os ((a, P) :: L') s := S.perm e.perm
theorem SS.get (S : SS B G os L s) (e : Sel a P L L') : ∃ o, s.heap.get? a = some o ∧ P o := S.led (a, P) e.mem
theorem SS.fresh (S : SS B G os L s) (e : Sel a P L L') : B a = none := S.new (a, P) e.mem
theorem SS.drop {p : Addr × OP} (S : SS B G os (p :: L) s) : SS B G os L s :=
  ⟨S.keep, fun q hq => S.led q (.tail _ hq), fun q hq => S.new q (.tail _ hq), (List.nodup_cons.mp (by simpa using S.nodup)).2, S.gens, S.os⟩
theorem SS.dropAt (S : SS B G os L s) (e : Sel a P L L') : SS B G os L' s := (S.front e).drop
theorem SS.weak (h : ∀ o, P o → P' o) (S : SS B G os ((a, P) :: L) s) : SS B G os ((a, P') :: L) s :=
  ⟨S.keep, fun q hq => by
    rcases List.mem_cons.mp hq with rfl | hq
    · obtain ⟨o, ho, hp⟩ := S.led _ (.head _); exact ⟨o, ho, h o hp⟩
    · exact S.led q (.tail _ hq), fun q hq => by
    rcases List.mem_cons.mp hq with rfl | hq
    · exact S.new (a, P) (.head _)
    · exact S.new q (.tail _ hq), S.nodup, S.gens, S.os⟩
theorem SS.base (S : SS B G os L s) (e : B a = some o) : s.heap.get? a = some o := S.keep a o e
theorem SS.lt (S : SS B G os L s) (e : Sel a P L L') : a < s.heap.objs.size := let ⟨_, ho, _⟩ := S.get e; Heap.lt_size ho
/-- nothing old is changed -/
theorem SS.ext (S : SS B G os L s) (k : ∀ b o, s.heap.get? b = some o → s'.heap.get? b = some o) (hg : s'.gens = s.gens := by rfl) (ho : s'.os = s.os := by rfl) : SS B G os L s' :=
  ⟨fun b o e => k b o (S.keep b o e), fun p hp => let ⟨o, e, x⟩ := S.led p hp; ⟨o, k _ _ e, x⟩, S.new, S.nodup, hg.trans S.gens, ho.trans S.os⟩
theorem SS.toks (S : SS B G os L s) (hh : s'.heap = s.heap := by rfl) (hg : s'.gens = s.gens := by rfl) (ho : s'.os = s.os := by rfl) : SS B G os L s' :=
  S.ext (fun b o e => by rw [hh]; exact e) hg ho
/-- a new object at an address that bore none -/
theorem SS.add (S : SS B G os L s) (k : ∀ b o, s.heap.get? b = some o → s'.heap.get? b = some o) (hn : s.heap.get? a = none) (ho : s'.heap.get? a = some o) (hP : P o)
    (hg : s'.gens = s.gens := by rfl) (hos : s'.os = s.os := by rfl) : SS B G os ((a, P) :: L) s' := by
  have S' := S.ext k hg hos
  refine ⟨S'.keep, fun p hp => ?_, fun p hp => ?_, ?_, S'.gens, S'.os⟩
  · rcases List.mem_cons.mp hp with rfl | hp
    · exact ⟨o, ho, hP⟩
    · exact S'.led p hp
  · rcases List.mem_cons.mp hp with rfl | hp
    · cases q : B a with
      | none => rfl
      | some o' => have := S.keep a o' q; rw [hn] at this; cases this
    · exact S.new p hp
  · rw [List.map_cons]
    refine List.nodup_cons.mpr ⟨fun hm => ?_, S.nodup⟩
    obtain ⟨p, hp, rfl⟩ := List.mem_map.mp hm
    obtain ⟨o', e, _⟩ := S.led p hp
    rw [hn] at e; cases e
theorem SS.push (S : SS B G os L s) (o : Obj) (hP : P o) (hh : s'.heap = s.heap.push o := by rfl) (hf : o.isFreed = false := by rfl) (hg : s'.gens = s.gens := by rfl) (hos : s'.os = s.os := by rfl) :
    SS B G os ((s.heap.objs.size, P) :: L) s' :=
  S.add (fun b o' e => by rw [hh]; exact Heap.get?_push_of_some _ e) (Heap.get?_none_of_le (Nat.le_refl _)) (by rw [hh]; exact Heap.get?_push_size _ hf) hP hg hos
/-- the object at the front is turned -/
theorem SS.upd (S : SS B G os ((a, P) :: L) s) (hs : Heap.SameBut a s.heap s'.heap) (ho : s'.heap.get? a = some o') (hP : P' o') (hg : s'.gens = s.gens := by rfl) (hos : s'.os = s.os := by rfl) :
    SS B G os ((a, P') :: L) s' := by
  have hn := List.nodup_cons.mp (show (a :: L.map (·.1)).Nodup from S.nodup)
  have hB : B a = none := S.new (a, P) (.head _)
  refine ⟨fun b o e => (hs.2 b fun q => ?_).trans (S.keep b o e), fun p hp => ?_, fun p hp => ?_, S.nodup, hg.trans S.gens, hos.trans S.os⟩
  · rw [q, hB] at e; cases e
  · rcases List.mem_cons.mp hp with rfl | hp
    · exact ⟨o', ho, hP⟩
    · obtain ⟨o, e, x⟩ := S.led p (.tail _ hp)
      exact ⟨o, (hs.2 p.1 fun q => hn.1 (q ▸ List.mem_map_of_mem hp)).trans e, x⟩
  · rcases List.mem_cons.mp hp with rfl | hp
    · exact hB
    · exact S.new p (.tail _ hp)
theorem SS.ne {b : Addr} {P₂ : OP} {L₂ : Led} (S : SS B G os L s) (e : Sel a P L L') (e2 : Sel b P₂ L' L₂) : a ≠ b := by
  have S' := (S.front e).nodup
  rw [List.map_cons] at S'
  intro q
  have m := List.mem_map_of_mem (f := Prod.fst) e2.mem
  exact (List.nodup_cons.mp S').1 (by rw [q]; exact m)
theorem SS.nil (k : ∀ b o, B b = some o → s.heap.get? b = some o) : SS B s.gens s.os [] s := ⟨k, fun _ hp => (nomatch hp), fun _ hp => (nomatch hp), List.nodup_nil, rfl, rfl⟩
end

section
variable {B B' : Store} {G : Array GenState} {os : OsState} {L L' : Led} {s : Shared} {a : Addr} {P : OP}
/-- an object of the ledger is turned no more -/
theorem SS.freeze (S : SS B G os ((a, P) :: L) s) : ∃ B' o, Le B B' ∧ P o ∧ B' a = some o ∧ SS B' G os L s := by
  obtain ⟨o, ho, hP⟩ := S.led _ (.head _)
  have hB : B a = none := S.new _ (.head _)
  have hn := List.nodup_cons.mp (show (a :: L.map (·.1)).Nodup from S.nodup)
  refine ⟨fun b => if b = a then some o else B b, o, fun b o' e => ?_, hP, if_pos rfl, fun b o' e => ?_, fun p hp => S.led p (.tail _ hp), fun p hp => ?_, hn.2, S.gens, S.os⟩
  · have : b ≠ a := fun q => by rw [q, hB] at e; cases e
    show (if b = a then some o else B b) = some o'
    rw [if_neg this]; exact e
  · have e : (if b = a then some o else B b) = some o' := e
    by_cases q : b = a
    · subst q; rw [if_pos rfl] at e; cases e; exact ho
    · rw [if_neg q] at e; exact S.keep b o' e
  · have : p.1 ≠ a := fun q => hn.1 (q ▸ List.mem_map_of_mem hp)
    show (if p.1 = a then some o else B p.1) = none
    rw [if_neg this]; exact S.new p (.tail _ hp)
/-- a part of what stays may be forgotten -/
theorem SS.lessStore (S : SS B' G os L s) (l : Le B B') : SS B G os L s :=
  ⟨fun b o e => S.keep b o (l b o e), S.led, (fun p hp => by
    cases q : B p.1 with
    | none => rfl
    | some o => have := S.new p hp; rw [l _ _ q] at this; cases this), S.nodup, S.gens, S.os⟩
/-- a name table that stays -/
def NsS (B : Store) (a : Addr) (m : Str → Option Value) : Prop := ∃ o es ep, B a = some o ∧ o.data = .dict es ep ∧ StrKeys es ∧ ∀ name, nsFind es name = m name
theorem NsS.mono {m : Str → Option Value} (h : NsS B a m) (l : Le B B') : NsS B' a m := let ⟨o, es, ep, ho, r⟩ := h; ⟨o, es, ep, l _ _ ho, r⟩
theorem NsS.ns {m : Str → Option Value} (h : NsS B a m) (S : SS B G os L s) : s.heap.Ns a m := let ⟨o, es, ep, ho, r⟩ := h; ⟨o, es, ep, S.keep _ _ ho, r⟩
def NoLimitS (B : Store) : Prop := ∃ mc, NsS B cStatics mc ∧ mc "sys.recursionlimit" = none
theorem NoLimitS.mono (h : NoLimitS B) (l : Le B B') : NoLimitS B' := let ⟨mc, x, y⟩ := h; ⟨mc, x.mono l, y⟩
theorem NoLimitS.at (h : NoLimitS B) (S : SS B G os L s) : s.heap.NoLimit := let ⟨mc, x, y⟩ := h; ⟨mc, x.ns S, y⟩
end

/-! kinds of objects -/
/-- a frame's table: its names in order, each bound or not -/
def LocO (l : List (Str × Option Value)) : OP := fun o => (l.map (·.1)).Nodup ∧ ∃ es ep, o.data = .dict es ep ∧ StrKeys es ∧ ∀ n, nsFind es n = (l.lookup n).join
def CellO (v : Option Value) : OP := fun o => o.data = .cell v
def ListO (vs : List Value) : OP := fun o => o.cls = .type "list" ∧ o.dict = none ∧ ∃ n, o.data = .seq vs.toArray n
def TupO (vs : List Value) : OP := fun o => o.cls = .type "tuple" ∧ o.dict = none ∧ ∃ n, o.data = .seq vs.toArray n
def DictO {prog : Program} {w : World} {K : Type} [DecidableEq K] (knd : KeyKind prog w K) (f : K → Option Value) : OP :=
  fun o => ∃ es ep, o.ExactDict ∧ o.data = .dict es ep ∧ KeysOf knd es ∧ ∀ k, findBy knd.is es k = f k
def Is (o₀ : Obj) : OP := fun o => o = o₀

section
variable {B B' : Store} {G : Array GenState} {os : OsState} {L L' : Led} {s s' : Shared} {a : Addr}
theorem SS.ns {l : List (Str × Option Value)} (S : SS B G os L s) (e : Sel a (LocO l) L L') : s.heap.Ns a (fun n => (l.lookup n).join) :=
  let ⟨o, ho, _, es, ep, h1, h2, h3⟩ := S.get e; ⟨o, es, ep, ho, h1, h2, h3⟩
theorem SS.isCell {v : Option Value} (S : SS B G os L s) (e : Sel a (CellO v) L L') : s.heap.IsCell a v := let ⟨o, ho, h⟩ := S.get e; ⟨o, ho, h⟩
theorem SS.isList {vs : List Value} (S : SS B G os L s) (e : Sel a (ListO vs) L L') : s.heap.IsList a vs.toArray := let ⟨o, ho, h1, _, n, h2⟩ := S.get e; ⟨o, ho, h1, n, h2⟩
theorem SS.isTup {vs : List Value} (S : SS B G os L s) (e : Sel a (TupO vs) L L') : IsTup s.heap a vs.toArray := let ⟨o, ho, h1, _, n, h2⟩ := S.get e; ⟨o, ho, h1, n, h2⟩
theorem SS.mapOf {prog : Program} {w : World} {K : Type} [DecidableEq K] {knd : KeyKind prog w K} {f : K → Option Value} (S : SS B G os L s) (e : Sel a (DictO knd f) L L') : s.heap.MapOf knd a f :=
  let ⟨o, ho, es, ep, h1, h2, h3, h4⟩ := S.get e; ⟨o, es, ep, ho, h1, h2, h3, h4⟩
theorem SS.exact {o₀ : Obj} (S : SS B G os L s) (e : Sel a (Is o₀) L L') : s.heap.get? a = some o₀ := by
  obtain ⟨o, ho, h⟩ := S.get e; rw [ho, h]
end

/-! names bound in a frame's table -/
inductive LGet (x : Str) (v : Value) : List (Str × Option Value) → Prop
  | head {r} : LGet x v ((x, some v) :: r)
  | tail {p r} : LGet x v r → LGet x v (p :: r)
inductive LSet (x : Str) (v : Value) : List (Str × Option Value) → List (Str × Option Value) → Prop
  | head {u r} : LSet x v ((x, u) :: r) ((x, some v) :: r)
  | tail {p r r'} : LSet x v r r' → LSet x v (p :: r) (p :: r')
theorem lookup_none_of {α : Type} {x : Str} : ∀ {l : List (Str × α)}, x ∉ l.map (·.1) → l.lookup x = none
  | [], _ => rfl
  | (y, _) :: r, h => by
    have h1 : (x == y) = false := beq_eq_false_iff_ne.mpr fun e => h (by rw [List.map_cons, e]; exact .head _)
    rw [List.lookup_cons, h1]
    exact lookup_none_of fun hm => h (by rw [List.map_cons]; exact .tail _ hm)
theorem LGet.mem {x : Str} {v : Value} {l : List (Str × Option Value)} (h : LGet x v l) : x ∈ l.map (·.1) := by
  induction h with
  | head => exact .head _
  | tail _ ih => exact .tail _ ih
theorem LGet.lookup {x : Str} {v : Value} {l : List (Str × Option Value)} (h : LGet x v l) (hn : (l.map (·.1)).Nodup) : (l.lookup x).join = some v := by
  induction h with
  | head => rw [List.lookup_cons, beq_self_eq_true]; rfl
  | @tail p r h ih =>
    rw [List.map_cons] at hn
    have hn := List.nodup_cons.mp hn
    have h1 : (x == p.1) = false := beq_eq_false_iff_ne.mpr fun e => hn.1 (e ▸ h.mem)
    obtain ⟨y, u⟩ := p
    rw [List.lookup_cons, h1]
    exact ih hn.2
theorem LSet.names {x : Str} {v : Value} {l l' : List (Str × Option Value)} (h : LSet x v l l') : l'.map (·.1) = l.map (·.1) := by
  induction h with
  | head => rfl
  | tail _ ih => rw [List.map_cons, List.map_cons, ih]
theorem LSet.mem {x : Str} {v : Value} {l l' : List (Str × Option Value)} (h : LSet x v l l') : x ∈ l.map (·.1) := by
  induction h with
  | head => exact .head _
  | tail _ ih => exact .tail _ ih
theorem LSet.lookup {x : Str} {v : Value} {l l' : List (Str × Option Value)} (h : LSet x v l l') (hn : (l.map (·.1)).Nodup) (y : Str) : (l'.lookup y).join = if y = x then some v else (l.lookup y).join := by
  induction h with
  | head =>
    rw [List.lookup_cons, List.lookup_cons]
    by_cases e : y = x
    · subst e; simp
    · simp [e, beq_eq_false_iff_ne.mpr e]
  | @tail p r r' h ih =>
    obtain ⟨z, u⟩ := p
    rw [List.map_cons] at hn
    have hn := List.nodup_cons.mp hn
    rw [List.lookup_cons, List.lookup_cons]
    by_cases e : y = z
    · subst e
      have : y ≠ x := fun q => hn.1 (q ▸ h.mem)
      simp [this]
    · simp only [beq_eq_false_iff_ne.mpr e]
      exact ih hn.2

/-- what every frame's environment is -/
structure EnvIs (env : Env) (sc : Scope) (Lf : Addr) (cl : List (Str × Addr)) (cd : Value) : Prop where
  scope : env.scope = sc
  locals : env.locals = Lf
  globals : env.globals = mainGlobals
  cells : env.cells = cl
  builtins : env.builtins = builtinsNs
  code : env.code = cd
  fn : sc.kind = .function

section
variable {M : Model} {A : Around} {E : Value → Shared → Prop} {B B' : Store} {G : Array GenState} {os : OsState} {L L' : Led} {s : Shared} {env : Env} {sc : Scope} {Lf : Addr} {cl : List (Str × Addr)} {cd : Value} {x : Str} {pos : Pos} {v : Value}

theorem EnvIs.kind (I : EnvIs env sc Lf cl cd) {k : NameKind} (h : sc.names.lookup x = some k) : env.kindOf x = some k := by
  unfold Env.kindOf; rw [I.scope]; exact h
theorem EnvIs.fk (I : EnvIs env sc Lf cl cd) : env.scope.kind = .function := by rw [I.scope]; exact I.fn

/-- a local name is read -/
theorem nmL {l : List (Str × Option Value)} {Q : Value → Shared → Prop} (I : EnvIs env sc Lf cl cd) (S : SS B G os L s) (hx : sc.names.lookup x = some .local) (hd : (x == ("__debug__" : Str)) = false)
    (e : Sel Lf (LocO l) L L') (g : LGet x v l) (h : Q v s) : wpAny M A (eval (.Name x pos) env) Q E s := by
  refine wpAny_Name (wpAny_loadName_local (v := v) I.fk (I.kind hx) (by rw [I.locals]; exact S.ns e) (g.lookup ?_) h) hd
  obtain ⟨o, _, hn, _⟩ := S.get e; exact hn
/-- a name that an inner function captures is read -/
theorem nmC {c : Addr} {Q : Value → Shared → Prop} (I : EnvIs env sc Lf cl cd) (S : SS B G os L s) (hx : sc.names.lookup x = some .cell) (hd : (x == ("__debug__" : Str)) = false)
    (hc : cl.lookup x = some c) (e : Sel c (CellO (some v)) L L') (h : Q v s) : wpAny M A (eval (.Name x pos) env) Q E s :=
  wpAny_Name (wpAny_loadName_cell (v := v) I.fk (I.kind hx) (by rw [I.cells]; exact hc) (S.isCell e) h) hd
theorem nmF {c : Addr} {Q : Value → Shared → Prop} (I : EnvIs env sc Lf cl cd) (S : SS B G os L s) (hx : sc.names.lookup x = some .free) (hd : (x == ("__debug__" : Str)) = false) (hd2 : (x == ("__classdict__" : Str)) = false)
    (hc : cl.lookup x = some c) (e : Sel c (CellO (some v)) L L') (h : Q v s) : wpAny M A (eval (.Name x pos) env) Q E s :=
  wpAny_Name (wpAny_loadName_free (v := v) I.fk (I.kind hx) (by rw [I.cells]; exact hc) (S.isCell e) h hd2) hd
/-- a global name -/
theorem nmG {mg : Str → Option Value} {Q : Value → Shared → Prop} (I : EnvIs env sc Lf cl cd) (S : SS B G os L s) (hg : NsS B mainGlobals mg) (hx : sc.names.lookup x = some .globalImplicit) (hd : (x == ("__debug__" : Str)) = false)
    (hv : mg x = some v) (h : Q v s) : wpAny M A (eval (.Name x pos) env) Q E s :=
  Name_function_global I.fk (I.kind hx) (loadGlobal_global (by rw [I.globals]; exact hg.ns S) hv h) hd
/-- a built-in name -/
theorem nmB {mg mb : Str → Option Value} {Q : Value → Shared → Prop} (I : EnvIs env sc Lf cl cd) (S : SS B G os L s) (hg : NsS B mainGlobals mg) (hb : NsS B builtinsNs mb) (hx : sc.names.lookup x = some .globalImplicit)
    (hd : (x == ("__debug__" : Str)) = false) (hn : mg x = none) (hv : mb x = some v) (h : Q v s) : wpAny M A (eval (.Name x pos) env) Q E s :=
  Name_function_global I.fk (I.kind hx) (loadGlobal_builtin (by rw [I.globals]; exact hg.ns S) hn (by rw [I.builtins]; exact hb.ns S) hv h) hd

/-- a local name is bound -/
theorem stL {l l' : List (Str × Option Value)} {Q : Unit → Shared → Prop} (I : EnvIs env sc Lf cl cd) (S : SS B G os L s) (hx : sc.names.lookup x = some .local)
    (e : Sel Lf (LocO l) L L') (g : LSet x v l l') (h : ∀ s', SS B G os ((Lf, LocO l') :: L') s' → Q () s') : wpAny M A (storeName env x v) Q E s := by
  have hn : (l.map (·.1)).Nodup := by obtain ⟨o, _, hn, _⟩ := S.get e; exact hn
  refine wpAny_storeName_local (I.kind hx) (by rw [I.locals]; exact S.ns e) (fun h' hns hs => h _ ?_) (by rw [I.fk]; rfl)
  rw [I.locals] at hns hs
  obtain ⟨o, es, ep, ho, hd, hk, hf⟩ := hns
  exact (S.front e).upd hs ho ⟨g.names ▸ hn, es, ep, hd, hk, fun n => (hf n).trans (g.lookup hn n).symm⟩
theorem stC {c : Addr} {u : Option Value} {Q : Unit → Shared → Prop} (I : EnvIs env sc Lf cl cd) (S : SS B G os L s) (hx : sc.names.lookup x = some .cell)
    (hc : cl.lookup x = some c) (e : Sel c (CellO u) L L') (h : ∀ s', SS B G os ((c, CellO (some v)) :: L') s' → Q () s') : wpAny M A (storeName env x v) Q E s := by
  refine wpAny_storeName_cell I.fk (I.kind hx) (by rw [I.cells]; exact hc) (S.isCell e) fun h' ⟨o, ho, hv⟩ hs => h _ ?_
  exact (S.front e).upd hs ho hv
end
end Mine

end
section
open PySem PySem.W PySem.Calls PyProof.Rows Builtin
set_option Elab.async false
set_option maxRecDepth 100000
namespace Mine

/-! bytes by their order -/
theorem slot_bytes_lt : Slot "bytes" (cmpInfo .Lt).2.1 "bytes.__lt__" :=
  .of (owner := "bytes") (n := "__lt__") (by rw [typeLookup_type, builtinLookup_eq_fast]; kernel_rfl) (by decide +kernel) (by decide +kernel) (by decide +kernel)
    (by first | exact .inl (by decide +kernel) | exact .inr (by decide +kernel)) (by rw [isSubtype_type]; kernel_rfl)
theorem entry_bytes_lt : entryFor table "bytes.__lt__" = some Builtin.«bytes.__lt__» := entryFor_of_tree (by kernel_rfl)
theorem args_bytes_lt_2 (a b : Value) : argsOk "bytes.__lt__" ⟨[a, b], []⟩ := by
  unfold argsOk; rw [signature?_of (id := "bytes.__lt__") (n := ['_', '_', 't', 'l', '_', '_']) (o := ['s', 'e', 't', 'y', 'b']) (by kernel_rfl) FB.owner_bytes]; kernel_rfl
abbrev Bs := List UInt8
abbrev Key := Int × Bs
def bLt (a b : Bs) : Bool := Bytes.order a b == .lt
theorem gives_bytes_lt (b c : Array UInt8) (t u : Tok) : Gives («bytes.__lt__» ⟨[.bytes b t, .bytes c u], []⟩) (.val (.bool (bLt b.toList c.toList))) := by
  refine .of_wp fun M A E s Q hq => ?_
  show wpAny M A (isInstance (.bytes c u) (.type "bytes") >>= fun r => _) _ E s
  refine wpAny_bind (wpAny_isInstance (typeIs_bytes s c u) F.sub_bytes_bytes ?_)
  exact wpAny_pure ⟨_, rfl, hq⟩
def kLt (x y : Key) : Bool := if x.1 = y.1 then (if x.2 = y.2 then false else bLt x.2 y.2) else decide (x.1 < y.1)

/-- a pair (an int, bytes) that stays -/
def IsPair (B : Store) (v : Value) (k : Key) : Prop :=
  ∃ a o n t u, v = .ref a ∧ B a = some o ∧ o.cls = .type "tuple" ∧ o.dict = none ∧ o.data = .seq #[.int k.1 t, .bytes k.2.toArray u] n
theorem IsPair.mono {B B' : Store} {v : Value} {k : Key} (h : IsPair B v k) (l : Le B B') : IsPair B' v k :=
  let ⟨a, o, n, t, u, e, ho, r⟩ := h; ⟨a, o, n, t, u, e, l _ _ ho, r⟩

section
variable {prog : Program} {w : World} {A : Around} {E : Value → Shared → Prop} {B B' : Store} {G : Array GenState} {os : OsState} {L L' : Led} {s : Shared}

theorem rc_lt_int {a b : Int} {t u : Tok} {Q : Value → Shared → Prop} (h : Q (.bool (decide (a < b))) s) : wpAny (model prog w) A (richCompare .Lt (.int a t) (.int b u)) Q E s :=
  wpAny_lt_int (t := t) (u := u) h
theorem rc_lt_bytes {a b : Array UInt8} {t u : Tok} {Q : Value → Shared → Prop} (h : Q (.bool (bLt a.toList b.toList)) s) : wpAny (model prog w) A (richCompare .Lt (.bytes a t) (.bytes b u)) Q E s :=
  richCompare_gives (op := .Lt) (T := "bytes") rfl rfl slot_bytes_lt entry_bytes_lt (args_bytes_lt_2 _ _) (gives_bytes_lt a b t u) (fun x => nomatch x) h

theorem tuple_lt_tree {x y : Key} {va vb : Value} {Q : Fin → Shared → Prop} (S : SS B G os L s) (hx : IsPair B va x) (hy : IsPair B vb y) (h : Q (.done (.ret (.bool (kLt x y)))) s) :
    wpAny (model prog w) A («tuple.__lt__» ⟨[va, vb], []⟩) Q E s := by
  obtain ⟨a, oa, na, ta, ua, rfl, hoa, hca, _, hda⟩ := hx
  obtain ⟨b, ob, nb, tb, ub, rfl, hob, hcb, _, hdb⟩ := hy
  have hoa := S.keep _ _ hoa
  have hob := S.keep _ _ hob
  show wpAny _ _ (isInstance (.ref b) (.type "tuple") >>= _) _ _ s
  refine wpAny_bind (wpAny_isInstance ⟨ob, hob, hcb⟩ isSubtype_tuple_tuple ?_)
  simp only [Bool.not_true, Bool.false_eq_true, if_false]
  refine wpAny_bind (wpAny_tupleItemsOf hoa hda ?_)
  refine wpAny_bind (wpAny_tupleItemsOf hob hdb ?_)
  refine wpAny_bind ?_
  simp only [List.zip_cons_cons, List.zip_nil_left, List.forIn_cons, List.forIn_nil]
  refine wpAny_bind (wpAny_bind (wpAny_eqBool_int ?_))
  unfold kLt at h
  by_cases h1 : x.1 = y.1
  · rw [if_pos h1] at h
    rw [show (x.1 == y.1) = true by simpa using h1]
    simp only [Bool.not_true, Bool.false_eq_true, if_false]
    refine wpAny_pure ?_
    refine wpAny_bind (wpAny_bind (eqBool_bytes ?_))
    by_cases h2 : x.2 = y.2
    · rw [if_pos h2] at h
      rw [decide_eq_true (by simpa using h2)]
      simp only [Bool.not_true, Bool.false_eq_true, if_false]
      exact wpAny_pure (wpAny_pure (wpAny_pure h))
    · rw [if_neg h2] at h
      rw [decide_eq_false (by simpa using h2)]
      simp only [Bool.not_false, if_true]
      refine wpAny_bind (wpAny_rule (wpAny_bind (rc_lt_bytes ?_)))
      exact wpAny_bind (wpAny_pure (wpAny_pure (wpAny_pure (wpAny_pure h))))
  · rw [if_neg h1] at h
    rw [show (x.1 == y.1) = false by simpa using h1]
    simp only [Bool.not_false, if_true]
    refine wpAny_bind (wpAny_rule (wpAny_bind (rc_lt_int ?_)))
    exact wpAny_bind (wpAny_pure (wpAny_pure (wpAny_pure (wpAny_pure h))))
theorem IsPair.typeIs {v : Value} {k : Key} (h : IsPair B v k) (S : SS B G os L s) : s.TypeIs v "tuple" := by
  obtain ⟨a, oa, na, ta, ua, rfl, hoa, hca, _, hda⟩ := h; exact ⟨oa, S.keep _ _ hoa, hca⟩
theorem rc_lt_pair {x y : Key} {va vb : Value} {Q : Value → Shared → Prop} (hu : A.units < cLine) (S : SS B G os L s) (hx : IsPair B va x) (hy : IsPair B vb y) (h : Q (.bool (kLt x y)) s) :
    wpAny (model prog w) A (richCompare .Lt va vb) Q E s :=
  wpAny_richCompare_same_room (op := .Lt) (hx.typeIs S) (hy.typeIs S) F.slot_tuple_lt
    (wpAny_call_entry F.slot_tuple_lt (hx.typeIs S) F.entry_tuple_lt (tuple_lt_tree S hx hy ⟨_, rfl, (fun e => nomatch e), h⟩) (F.args_tuple_lt_2 _ _)) hu
end
end Mine

end
section
open PySem PySem.W PySem.Calls PyProof.Rows Builtin
set_option Elab.async false
set_option maxRecDepth 100000
namespace Mine

/-! the order of keys -/
theorem order_lt_irrefl : ∀ a : Bs, Bytes.order a a = .eq
  | [] => rfl
  | x :: a => by simp only [Bytes.order, UInt8.lt_irrefl, if_false, GT.gt]; exact order_lt_irrefl a
theorem order_eq_iff {a b : Bs} : Bytes.order a b = .eq ↔ a = b := by
  constructor
  · intro h
    have := order_eq a b
    rw [h] at this
    simpa using this.symm
  · rintro rfl; exact order_lt_irrefl a
theorem order_swap : ∀ a b : Bs, Bytes.order a b = .lt → Bytes.order b a = .gt
  | [], [], h => by cases h
  | [], _ :: _, _ => rfl
  | _ :: _, [], h => by cases h
  | x :: a, y :: b, h => by
    simp only [Bytes.order] at h ⊢
    by_cases h1 : x < y
    · have h2 : ¬ y < x := fun q => UInt8.lt_irrefl _ (UInt8.lt_trans h1 q)
      simp [h1, h2]
    · rw [if_neg h1] at h
      by_cases h2 : x > y
      · rw [if_pos h2] at h; cases h
      · rw [if_neg h2] at h
        have h2' : ¬ y < x := h2
        simp only [h2', if_false, GT.gt, h1]
        exact order_swap a b h
theorem order_swap' : ∀ a b : Bs, Bytes.order a b = .gt → Bytes.order b a = .lt
  | [], [], h => by cases h
  | [], _ :: _, h => by cases h
  | _ :: _, [], _ => rfl
  | x :: a, y :: b, h => by
    simp only [Bytes.order] at h ⊢
    by_cases h1 : x < y
    · rw [if_pos h1] at h; cases h
    · rw [if_neg h1] at h
      by_cases h2 : x > y
      · have h2' : y < x := h2
        simp [h2']
      · rw [if_neg h2] at h
        have h2' : ¬ y < x := h2
        simp only [h2', if_false, GT.gt, h1]
        exact order_swap' a b h
theorem order_trans : ∀ a b c : Bs, Bytes.order a b = .lt → Bytes.order b c = .lt → Bytes.order a c = .lt
  | [], [], _, h, _ => by cases h
  | [], _ :: _, [], _, h => by cases h
  | [], _ :: _, _ :: _, _, _ => rfl
  | _ :: _, [], _, h, _ => by cases h
  | _ :: _, _ :: _, [], _, h => by cases h
  | x :: a, y :: b, z :: c, h, k => by
    simp only [Bytes.order] at h k ⊢
    by_cases h1 : x < y
    · by_cases k1 : y < z
      · simp [UInt8.lt_trans h1 k1]
      · rw [if_neg k1] at k
        by_cases k2 : y > z
        · rw [if_pos k2] at k; cases k
        · have : y = z := UInt8.le_antisymm (UInt8.not_lt.mp k2) (UInt8.not_lt.mp k1)
          subst this; simp [h1]
    · rw [if_neg h1] at h
      by_cases h2 : x > y
      · rw [if_pos h2] at h; cases h
      · rw [if_neg h2] at h
        have e : x = y := UInt8.le_antisymm (UInt8.not_lt.mp h2) (UInt8.not_lt.mp h1)
        subst e
        by_cases k1 : x < z
        · simp [k1]
        · rw [if_neg k1] at k ⊢
          by_cases k2 : x > z
          · rw [if_pos k2] at k; cases k
          · rw [if_neg k2] at k ⊢
            exact order_trans a b c h k
theorem bLt_irrefl (a : Bs) : bLt a a = false := by unfold bLt; rw [order_lt_irrefl]; rfl
theorem bLt_trans {a b c : Bs} (h : bLt a b = true) (k : bLt b c = true) : bLt a c = true := by
  unfold bLt at *; rw [beq_iff_eq] at *; exact order_trans a b c h k
theorem bLt_total {a b : Bs} (h : a ≠ b) (k : bLt a b = false) : bLt b a = true := by
  unfold bLt at *
  cases q : Bytes.order a b with
  | lt => rw [q] at k; cases k
  | eq => exact absurd (order_eq_iff.mp q) h
  | gt => rw [order_swap' a b q]; rfl

theorem kLt_iff (x y : Key) : kLt x y = true ↔ x.1 < y.1 ∨ (x.1 = y.1 ∧ bLt x.2 y.2 = true) := by
  unfold kLt
  by_cases h : x.1 = y.1
  · rw [if_pos h]
    by_cases h2 : x.2 = y.2
    · rw [if_pos h2, h2]
      constructor
      · intro q; cases q
      · rintro (q | ⟨_, q⟩)
        · omega
        · rw [bLt_irrefl] at q; cases q
    · rw [if_neg h2]
      constructor
      · intro q; exact .inr ⟨h, q⟩
      · rintro (q | ⟨_, q⟩)
        · omega
        · exact q
  · rw [if_neg h, decide_eq_true_eq]
    constructor
    · exact .inl
    · rintro (q | ⟨q, _⟩)
      · exact q
      · exact absurd q h
theorem kLt_irrefl (x : Key) : kLt x x = false := by
  unfold kLt; simp
theorem kLt_trans {x y z : Key} (h : kLt x y = true) (k : kLt y z = true) : kLt x z = true := by
  rw [kLt_iff] at *
  rcases h with h | ⟨h, h'⟩ <;> rcases k with k | ⟨k, k'⟩
  · left; omega
  · left; omega
  · left; omega
  · right; exact ⟨by omega, bLt_trans h' k'⟩
theorem kLt_total {x y : Key} (h : x ≠ y) (k : kLt x y = false) : kLt y x = true := by
  rw [kLt_iff]
  have k' : ¬ (x.1 < y.1 ∨ (x.1 = y.1 ∧ bLt x.2 y.2 = true)) := by rw [← kLt_iff, k]; exact Bool.false_ne_true
  by_cases h1 : x.1 = y.1
  · right
    refine ⟨h1.symm, bLt_total (fun e => h (Prod.ext h1 e)) ?_⟩
    cases q : bLt x.2 y.2 with
    | false => rfl
    | true => exact absurd (.inr ⟨h1, q⟩) k'
  · left
    have : ¬ x.1 < y.1 := fun q => k' (.inl q)
    omega
/-- at most -/
def kLe (x y : Key) : Prop := kLt y x = false
theorem kLe.refl (x : Key) : kLe x x := kLt_irrefl x
theorem kLe.of_lt {x y : Key} (h : kLt x y = true) : kLe x y := by
  unfold kLe
  cases q : kLt y x with
  | false => rfl
  | true => have := kLt_trans h q; rw [kLt_irrefl] at this; cases this
theorem kLe.trans {x y z : Key} (h : kLe x y) (k : kLe y z) : kLe x z := by
  unfold kLe at *
  cases q : kLt z x with
  | false => rfl
  | true =>
    by_cases e : y = z
    · subst e; rw [q] at h; cases h
    · have := kLt_total (Ne.symm e) k
      -- y < z < x
      have := kLt_trans this q
      rw [this] at h; cases h
theorem kLe.total (x y : Key) : kLe x y ∨ kLe y x := by
  by_cases h : kLt y x = true
  · exact .inr (.of_lt h)
  · exact .inl (by unfold kLe; simpa using h)
theorem kLe.antisymm {x y : Key} (h : kLe x y) (k : kLe y x) : x = y := by
  by_cases e : x = y
  · exact e
  · have := kLt_total e k; unfold kLe at h; rw [this] at h; cases h

/-! heaps -/
def kd : Key := (0, [])
def gk (ks : List Key) (i : Nat) : Key := ks.getD i kd
def IsHeap (ks : List Key) : Prop := ∀ i, 0 < i → i < ks.length → kLe (gk ks ((i - 1) / 2)) (gk ks i)
structure UpInv (ks : List Key) (p : Nat) : Prop where
  a : ∀ i, 0 < i → i < ks.length → i ≠ p → kLe (gk ks ((i - 1) / 2)) (gk ks i)
  b : ∀ c, 0 < c → c < ks.length → (c - 1) / 2 = p → 0 < p → kLe (gk ks ((p - 1) / 2)) (gk ks c)
structure DnInv (ks : List Key) (p : Nat) : Prop where
  a : ∀ i, 0 < i → i < ks.length → i ≠ p → (i - 1) / 2 ≠ p → kLe (gk ks ((i - 1) / 2)) (gk ks i)
  b : ∀ c, 0 < c → c < ks.length → (c - 1) / 2 = p → 0 < p → kLe (gk ks ((p - 1) / 2)) (gk ks c)
def swp (ks : List Key) (i j : Nat) : List Key := (ks.set i (gk ks j)).set j (gk ks i)
theorem swp_length (ks : List Key) (i j : Nat) : (swp ks i j).length = ks.length := by simp [swp]
theorem gk_swp (ks : List Key) {i j : Nat} (hi : i < ks.length) (hj : j < ks.length) (k : Nat) : gk (swp ks i j) k = if k = j then gk ks i else if k = i then gk ks j else gk ks k := by
  unfold swp gk
  simp only [List.getD_eq_getElem?_getD, List.getElem?_set, List.length_set]
  by_cases h1 : k = j
  · subst h1; simp [hj]
  · by_cases h2 : k = i
    · subst h2; simp [hi, h1, Ne.symm h1]
    · simp [h1, h2, Ne.symm h1, Ne.symm h2]
theorem swp_perm (ks : List Key) {i j : Nat} (hi : i < ks.length) (hj : j < ks.length) : (swp ks i j).Perm ks := by
  unfold swp gk
  simp only [List.getD_eq_getElem?_getD, List.getElem?_eq_getElem hi, List.getElem?_eq_getElem hj, Option.getD_some]
  exact List.set_set_perm hi hj
theorem up_step {ks : List Key} {p : Nat} (U : UpInv ks p) (h0 : 0 < p) (hp : p < ks.length) (h : kLt (gk ks p) (gk ks ((p - 1) / 2)) = true) : UpInv (swp ks ((p - 1) / 2) p) ((p - 1) / 2) := by
  have hq : (p - 1) / 2 < ks.length := by omega
  have hqp : (p - 1) / 2 ≠ p := by omega
  have hx : kLe (gk ks p) (gk ks ((p - 1) / 2)) := .of_lt h
  constructor
  · intro i h1 h2 h3
    rw [swp_length] at h2
    rw [gk_swp ks hq hp, gk_swp ks hq hp]
    by_cases e1 : i = p
    · subst e1
      simp only [if_true, if_neg hqp]; exact hx
    · rw [if_neg e1, if_neg h3]
      by_cases e2 : (i - 1) / 2 = p
      · rw [if_pos e2]; exact U.b i h1 h2 e2 h0
      · rw [if_neg e2]
        by_cases e3 : (i - 1) / 2 = (p - 1) / 2
        · rw [if_pos e3]
          have := U.a i h1 h2 e1
          rw [e3] at this
          exact hx.trans this
        · rw [if_neg e3]; exact U.a i h1 h2 e1
  · intro c h1 h2 h3 h4
    rw [swp_length] at h2
    rw [gk_swp ks hq hp, gk_swp ks hq hp]
    have e0 : ((p - 1) / 2 - 1) / 2 ≠ p := by omega
    have e00 : ((p - 1) / 2 - 1) / 2 ≠ (p - 1) / 2 := by omega
    have k1 := U.a ((p - 1) / 2) h4 hq hqp
    rw [if_neg e0, if_neg e00]
    by_cases e1 : c = p
    · rw [if_pos e1]; exact k1
    · have e2 : c ≠ (p - 1) / 2 := by omega
      rw [if_neg e1, if_neg e2]
      have := U.a c h1 h2 e1
      rw [h3] at this
      exact k1.trans this
theorem up_end {ks : List Key} {p : Nat} (U : UpInv ks p) (h : 0 < p → kLt (gk ks p) (gk ks ((p - 1) / 2)) = false) : IsHeap ks := by
  intro i h1 h2
  by_cases e : i = p
  · subst e; exact h h1
  · exact U.a i h1 h2 e
theorem dn_step {ks : List Key} {p c : Nat} (D : DnInv ks p) (hc : c = 2 * p + 1 ∨ c = 2 * p + 2) (hl : c < ks.length)
    (h : ∀ o, (o = 2 * p + 1 ∨ o = 2 * p + 2) → o < ks.length → kLe (gk ks c) (gk ks o)) : DnInv (swp ks c p) c := by
  have hp : p < ks.length := by omega
  constructor
  · intro i h1 h2 h3 h4
    rw [swp_length] at h2
    rw [gk_swp ks hl hp, gk_swp ks hl hp, if_neg h3, if_neg h4]
    by_cases e1 : i = p
    · subst e1
      have : (i - 1) / 2 ≠ i := by omega
      rw [if_pos rfl, if_neg this]
      exact D.b c (by omega) hl (by omega) h1
    · rw [if_neg e1]
      by_cases e2 : (i - 1) / 2 = p
      · rw [if_pos e2]; exact h i (by omega) h2
      · rw [if_neg e2]; exact D.a i h1 h2 e1 e2
  · intro d h1 h2 h3 h4
    rw [swp_length] at h2
    rw [gk_swp ks hl hp, gk_swp ks hl hp]
    have e1 : (c - 1) / 2 = p := by omega
    rw [if_pos e1]
    have e2 : d ≠ p := by omega
    have e3 : d ≠ c := by omega
    rw [if_neg e2, if_neg e3]
    have := D.a d h1 h2 e2 (by omega)
    rw [h3] at this
    exact this
theorem dn_end {ks : List Key} {p : Nat} (D : DnInv ks p) (h : ks.length ≤ 2 * p + 1) : UpInv ks p :=
  ⟨fun i h1 h2 h3 => D.a i h1 h2 h3 (by omega), D.b⟩
theorem heap_push {ks : List Key} (H : IsHeap ks) (k : Key) : UpInv (ks ++ [k]) ks.length := by
  have g : ∀ i, i < ks.length → gk (ks ++ [k]) i = gk ks i := fun i hi => by unfold gk; simp [List.getD_eq_getElem?_getD, List.getElem?_append_left hi]
  constructor
  · intro i h1 h2 h3
    rw [List.length_append, List.length_singleton] at h2
    rw [g _ (by omega), g _ (by omega)]; exact H i h1 (by omega)
  · intro c h1 h2 h3 h4
    rw [List.length_append, List.length_singleton] at h2
    omega
theorem heap_pop {ks : List Key} (H : IsHeap ks) (l : Key) : DnInv ((ks.dropLast).set 0 l) 0 := by
  have g : ∀ i, 0 < i → i < ks.length - 1 → gk ((ks.dropLast).set 0 l) i = gk ks i := fun i h0 hi => by
    unfold gk
    rw [List.getD_eq_getElem?_getD, List.getD_eq_getElem?_getD, List.getElem?_set_ne (by omega), List.getElem?_dropLast, if_pos hi]
  constructor
  · intro i h1 h2 h3 h4
    rw [List.length_set, List.length_dropLast] at h2
    rw [g _ (by omega) (by omega), g _ (by omega) (by omega)]; exact H i h1 (by omega)
  · intro c h1 h2 h3 h4; omega
theorem heap_min {ks : List Key} (H : IsHeap ks) : ∀ i, i < ks.length → kLe (gk ks 0) (gk ks i) := by
  intro i
  induction i using Nat.strongRecOn with
  | ind i ih =>
    intro hi
    by_cases h : i = 0
    · subst h; exact .refl _
    · exact (ih ((i - 1) / 2) (by omega) (by omega)).trans (H i (by omega) hi)
theorem heap_min_mem {ks : List Key} (H : IsHeap ks) {k : Key} (hk : k ∈ ks) : kLe (gk ks 0) k := by
  obtain ⟨i, hi, rfl⟩ := List.mem_iff_getElem.mp hk
  have := heap_min H i hi
  unfold gk at this ⊢
  rwa [List.getD_eq_getElem?_getD (i := i), List.getElem?_eq_getElem hi, Option.getD_some] at this
theorem pop_perm {ks : List Key} {l : Key} (hl : ks.getLast? = some l) (h1 : ks.length ≠ 1) : (gk ks 0 :: (ks.dropLast).set 0 l).Perm ks := by
  obtain ⟨k0, r, rfl⟩ : ∃ k0 r, ks = k0 :: r := by cases ks with | nil => cases hl | cons a b => exact ⟨a, b, rfl⟩
  cases r with
  | nil => exact absurd rfl h1
  | cons k1 r =>
    rw [List.getLast?_cons_cons] at hl
    have e : k1 :: r = (k1 :: r).dropLast ++ [l] := by
      have hne : (k1 :: r) ≠ [] := by simp
      have := List.dropLast_concat_getLast hne
      rw [List.getLast?_eq_some_getLast hne] at hl
      rw [← Option.some.inj hl]; exact this.symm
    show ((k0 :: (List.dropLast (k0 :: k1 :: r)).set 0 l)).Perm _
    rw [List.dropLast_cons_cons, List.set_cons_zero]
    refine List.Perm.cons _ ?_
    conv => rhs; rw [e]
    exact (List.perm_append_singleton _ _).symm
end Mine

end
section
open PySem PySem.W PySem.Calls PyProof.Rows Builtin
set_option Elab.async false
set_option maxRecDepth 100000
set_option linter.unusedVariables false
namespace Mine

/-- two lists, place by place -/
def Rel2 {α β : Type} (R : α → β → Prop) (vs : List α) (ks : List β) : Prop := vs.length = ks.length ∧ ∀ (i : Nat) (v : α) (k : β), vs[i]? = some v → ks[i]? = some k → R v k
section
variable {α β : Type} {R R' : α → β → Prop} {vs : List α} {ks : List β}
theorem Rel2.mono (h : Rel2 R vs ks) (m : ∀ v k, R v k → R' v k) : Rel2 R' vs ks := ⟨h.1, fun i v k a b => m v k (h.2 i v k a b)⟩
theorem Rel2.nil : Rel2 R ([] : List α) ([] : List β) := ⟨rfl, fun i v k a => by simp at a⟩
theorem Rel2.cons {v : α} {k : β} (h : R v k) (r : Rel2 R vs ks) : Rel2 R (v :: vs) (k :: ks) := by
  refine ⟨by simp [r.1], fun i v' k' a b => ?_⟩
  cases i with
  | zero => simp only [List.getElem?_cons_zero, Option.some.injEq] at a b; subst a b; exact h
  | succ i => simp only [List.getElem?_cons_succ] at a b; exact r.2 i v' k' a b
theorem Rel2.tail {v : α} {k : β} (h : Rel2 R (v :: vs) (k :: ks)) : R v k ∧ Rel2 R vs ks :=
  ⟨h.2 0 v k rfl rfl, by simpa using h.1, fun i v' k' a b => h.2 (i + 1) v' k' (by simpa using a) (by simpa using b)⟩
theorem Rel2.nil_right {vs : List α} (h : Rel2 R vs ([] : List β)) : vs = [] := List.length_eq_zero_iff.mp h.1
theorem Rel2.get (h : Rel2 R vs ks) {i : Nat} (hi : i < ks.length) : ∃ v, vs[i]? = some v ∧ R v ks[i] := by
  have hv : i < vs.length := by rw [h.1]; exact hi
  exact ⟨vs[i], List.getElem?_eq_getElem hv, h.2 i _ _ (List.getElem?_eq_getElem hv) (List.getElem?_eq_getElem hi)⟩
theorem Rel2.set (h : Rel2 R vs ks) (i : Nat) {v : α} {k : β} (r : R v k) : Rel2 R (vs.set i v) (ks.set i k) := by
  refine ⟨by simp [h.1], fun j v' k' a b => ?_⟩
  rw [List.getElem?_set] at a b
  by_cases e : i = j
  · subst e
    rw [if_pos rfl] at a b
    split at a
    · split at b
      · cases a; cases b; exact r
      · cases b
    · cases a
  · rw [if_neg e] at a b; exact h.2 j v' k' a b
theorem Rel2.append {vs' : List α} {ks' : List β} (h : Rel2 R vs ks) (h' : Rel2 R vs' ks') : Rel2 R (vs ++ vs') (ks ++ ks') := by
  refine ⟨by simp [h.1, h'.1], fun i v k a b => ?_⟩
  rw [List.getElem?_append] at a b
  by_cases e : i < vs.length
  · rw [if_pos e] at a
    rw [if_pos (h.1 ▸ e)] at b
    exact h.2 i v k a b
  · rw [if_neg e] at a
    rw [if_neg (h.1 ▸ e)] at b
    exact h'.2 _ v k a (h.1 ▸ b)
theorem Rel2.dropLast (h : Rel2 R vs ks) : Rel2 R vs.dropLast ks.dropLast := by
  refine ⟨by simp [h.1], fun i v k a b => ?_⟩
  rw [List.getElem?_dropLast] at a b
  split at a
  · split at b
    · exact h.2 i v k a b
    · cases b
  · cases a
end
theorem Rel2.last {B : Store} {vs : List Value} {ks : List Key} (h : Rel2 (IsPair B) vs ks) (hn : ks ≠ []) : ∃ v k, vs.getLast? = some v ∧ ks.getLast? = some k ∧ IsPair B v k := by
  have hl : ks.length ≠ 0 := fun e => hn (List.length_eq_zero_iff.mp e)
  obtain ⟨v, hv, hr⟩ := h.get (i := ks.length - 1) (by omega)
  exact ⟨v, _, by rw [List.getLast?_eq_getElem?, h.1]; exact hv, by rw [List.getLast?_eq_getElem?]; exact List.getElem?_eq_getElem (by omega), hr⟩
theorem Rel2.gk {B : Store} {vs : List Value} {ks : List Key} (h : Rel2 (IsPair B) vs ks) {i : Nat} (hi : i < ks.length) : ∃ v, vs[i]? = some v ∧ IsPair B v (gk ks i) := by
  obtain ⟨v, hv, hr⟩ := h.get hi
  exact ⟨v, hv, by unfold Mine.gk; rw [List.getD_eq_getElem?_getD, List.getElem?_eq_getElem hi]; exact hr⟩

theorem entry_sift : entryFor table "_heapq.heapify.sift" = some Builtin.«_heapq.heapify.sift» := entryFor_of_tree (by kernel_rfl)
theorem entry_push : entryFor table "_heapq.heappush" = some Builtin.«_heapq.heappush» := entryFor_of_tree (by kernel_rfl)
theorem entry_pop : entryFor table "_heapq.heappop" = some Builtin.«_heapq.heappop» := entryFor_of_tree (by kernel_rfl)
theorem plain_sift : plainId "_heapq.heapify.sift" = true := by decide +kernel
theorem plain_push : plainId "_heapq.heappush" = true := by decide +kernel
theorem plain_pop : plainId "_heapq.heappop" = true := by decide +kernel
theorem kind_push : builtinKind "_heapq.heappush" = none := by decide +kernel
theorem kind_pop : builtinKind "_heapq.heappop" = none := by decide +kernel
theorem args_push (a b : Value) : argsOk "_heapq.heappush" ⟨[a, b], []⟩ := by unfold argsOk; kernel_rfl
theorem args_pop (a : Value) : argsOk "_heapq.heappop" ⟨[a], []⟩ := by unfold argsOk; kernel_rfl

section
variable {prog : Program} {w : World} {A : Around} {E : Value → Shared → Prop} {B B' : Store} {G : Array GenState} {os : OsState} {L L' : Led} {s : Shared} {R : Result → Shared → Prop} {q : Addr}

abbrev siftCode (q : Addr) (down : Bool) (p : Nat) (res : Value) : Code := .builtin "_heapq.heapify.sift" ⟨[.ref q, .bool false, .bool down, rawInt p, rawInt (0 : Nat), res, rawInt (-1)], []⟩

theorem at_pure {xs : Array Value} {i : Nat} {v : Value} {f : Array Value → Nat → Sem Value} (hf : f = fun xs i => match xs[i]? with | some v => pure v | none => unsupported "internal:_heapq.index") (h : xs[i]? = some v) : f xs i = pure v := by
  subst hf; dsimp only; rw [h]

theorem heap_sift_up {res : Value} : ∀ (p : Nat) (s : Shared) (vs : List Value) (ks : List Key), A.units + 1 < cLine → SS B G os ((q, ListO vs) :: L) s → Rel2 (IsPair B) vs ks → ks.length ≤ 1000 → p < ks.length → UpInv ks p →
    (∀ s' vs' ks', SS B G os ((q, ListO vs') :: L) s' → Rel2 (IsPair B) vs' ks' → IsHeap ks' → ks'.Perm ks → R (.ok (.ret res)) s') →
    codeAny (model prog w) A (siftCode q false p res) R s := by
  intro p
  induction p using Nat.strongRecOn with
  | ind p ih =>
    intro s vs ks hu S hr hz hp U h
    obtain ⟨o, ho, hc, hdd, n, hd⟩ := S.get (e := Sel.head)
    refine codeAny_builtin entry_sift ?_
    rw [Around.under_plainId plain_sift]
    unfold «_heapq.heapify.sift»
    dsimp only [rawInt]
    refine wpAny_bind ?_
    refine wpAny_bind (wpAny_seqItems ho hd ?_)
    refine wpAny_pure ?_
    rw [if_neg Bool.false_ne_true]
    simp only [Int.toNat_natCast]
    by_cases h0 : p > 0
    · rw [if_pos h0]
      have hq : (p - 1) / 2 < ks.length := by omega
      obtain ⟨vp, hvp, hkp⟩ := hr.gk hp
      obtain ⟨vq, hvq, hkq⟩ := hr.gk hq
      have hap : vs.toArray[p]? = some vp := by simpa using hvp
      have haq : vs.toArray[(p - 1) / 2]? = some vq := by simpa using hvq
      refine wpAny_bind (wpAny_of_eq (at_pure rfl hap) ?_)
      refine wpAny_bind (wpAny_of_eq (at_pure rfl haq) ?_)
      rw [if_neg Bool.false_ne_true]
      refine wpAny_bind ?_
      refine wpAny_bind (wpAny_holding (wpAny_bind (rc_lt_pair (by simpa using hu) S hkp hkq (wpAny_truthy_bool ?_))))
      refine wpAny_bind (wpAny_bind (wpAny_seqItems ho hd ?_))
      refine wpAny_pure ?_
      rw [if_neg (by simp)]
      refine wpAny_pure ?_
      cases hlt : kLt (gk ks p) (gk ks ((p - 1) / 2)) with
      | false =>
        rw [if_neg Bool.false_ne_true]
        rw [if_pos (by decide)]
        exact wpAny_pure (h _ vs ks S hr (up_end U fun _ => hlt) (List.Perm.refl _))
      | true =>
        rw [if_pos rfl]
        refine wpAny_bind ?_
        refine wpAny_bind (wpAny_bind (wpAny_seqItems ho hd ?_))
        refine wpAny_pure ?_
        refine wpAny_bind (wpAny_of_eq (at_pure rfl haq) ?_)
        refine wpAny_bind (wpAny_of_eq (at_pure rfl hap) ?_)
        have hlen : vs.length ≤ 1000 := by rw [hr.1]; exact hz
        refine wpAny_updateSeq ho hd ?_ (by rw [List.size_toArray, sizeLine]; omega) (by simp only [Array.size_setIfInBounds, List.size_toArray, sizeLine]; omega)
        obtain ⟨n', hd'⟩ := Obj.data_mapSeq hd (fun xs => (xs.setIfInBounds ((p - 1) / 2) vp).setIfInBounds p vq)
        have S' : SS B G os ((q, ListO ((vs.set ((p - 1) / 2) vp).set p vq)) :: L) { s with heap := s.heap.update q (Obj.mapSeq fun xs => (xs.setIfInBounds ((p - 1) / 2) vp).setIfInBounds p vq) } :=
          S.upd (Heap.SameBut.update ..) (Heap.get?_update_self _ ho (Obj.isFreed_of_seq hd')) ⟨(Obj.cls_mapSeq ..).trans hc, by obtain ⟨c, d, dt, sl⟩ := o; simp only at hd; subst hd; exact hdd, n', by rw [hd']; simp⟩
        refine wpAny_pure ⟨plainId_quiet plain_sift _, ?_⟩
        refine ih ((p - 1) / 2) (by omega) _ _ (swp ks ((p - 1) / 2) p) hu S' ?_ (by rw [swp_length]; exact hz) (by rw [swp_length]; exact hq) (up_step U h0 hp hlt) ?_
        · exact (hr.set _ hkp).set _ hkq
        · intro s' vs' ks' S'' hr' hH hP
          exact h s' vs' ks' S'' hr' hH (hP.trans (swp_perm ks hq hp))
    · rw [if_neg h0, if_pos (by decide)]
      exact wpAny_pure (h _ vs ks S hr (up_end U fun q => absurd q h0) (List.Perm.refl _))

theorem ListO.set {o : Obj} {vs vs' : List Value} {n : Nat} {f : Array Value → Array Value} (hc : o.cls = .type "list") (hdd : o.dict = none) (hd : o.data = .seq vs.toArray n) (e : f vs.toArray = vs'.toArray) : ListO vs' (Obj.mapSeq f o) := by
  obtain ⟨n', hd'⟩ := Obj.data_mapSeq hd f
  refine ⟨(Obj.cls_mapSeq ..).trans hc, ?_, n', by rw [hd', e]⟩
  obtain ⟨c, d, dt, sl⟩ := o
  simp only at hd; subst hd; exact hdd
theorem SS.mapList {o : Obj} {vs vs' : List Value} {n : Nat} {f : Array Value → Array Value} {s' : Shared} (S : SS B G os ((q, ListO vs) :: L) s) (ho : s.heap.get? q = some o) (hc : o.cls = .type "list") (hdd : o.dict = none) (hd : o.data = .seq vs.toArray n)
    (e : f vs.toArray = vs'.toArray) (hh : s'.heap = s.heap.update q (Obj.mapSeq f) := by rfl) (hg : s'.gens = s.gens := by rfl) (hos : s'.os = s.os := by rfl) : SS B G os ((q, ListO vs') :: L) s' := by
  obtain ⟨n', hd'⟩ := Obj.data_mapSeq hd f
  exact S.upd (by rw [hh]; exact Heap.SameBut.update ..) (by rw [hh]; exact Heap.get?_update_self _ ho (Obj.isFreed_of_seq hd')) (ListO.set hc hdd hd e) hg hos

theorem heap_sift_down {res : Value} : ∀ (m p : Nat) (s : Shared) (vs : List Value) (ks : List Key), ks.length - p = m → A.units + 1 < cLine → SS B G os ((q, ListO vs) :: L) s → Rel2 (IsPair B) vs ks → ks.length ≤ 1000 → p < ks.length → DnInv ks p →
    (∀ s' vs' ks', SS B G os ((q, ListO vs') :: L) s' → Rel2 (IsPair B) vs' ks' → IsHeap ks' → ks'.Perm ks → R (.ok (.ret res)) s') →
    codeAny (model prog w) A (siftCode q true p res) R s := by
  intro m
  induction m using Nat.strongRecOn with
  | ind m ih =>
    intro p s vs ks hm hu S hr hz hp D h
    have hlen : vs.length ≤ 1000 := by rw [hr.1]; exact hz
    obtain ⟨o, ho, hc, hdd, n, hd⟩ := S.get (e := Sel.head)
    obtain ⟨vp, hvp, hkp⟩ := hr.gk hp
    have hap : vs.toArray[p]? = some vp := by simpa using hvp
    -- the swap with a child, and on
    have go : ∀ c, (c = 2 * p + 1 ∨ c = 2 * p + 2) → c < ks.length → (∀ o, (o = 2 * p + 1 ∨ o = 2 * p + 2) → o < ks.length → kLe (gk ks c) (gk ks o)) → ∀ {T : Sem Fin} {sw : Sem Unit},
        (∀ {Q : Unit → Shared → Prop}, (∀ vc, vs[c]? = some vc → ∀ s', SS B G os ((q, ListO ((vs.set c vp).set p vc)) :: L) s' → Q () s') → wpAny (model prog w) A.in1 sw Q (fun e s' => R (.error e) s') s) →
        T = again (siftCode q true c res) →
        wpAny (model prog w) A.in1 (sw >>= fun _ => T) (fun fin s' => match fin with | .done f => R (.ok f) s' | .again c' => c'.quiet = true ∧ codeAny (model prog w) A c' R s') (fun e s' => R (.error e) s') s := by
      intro c hcc hcl hle T sw hsw hT
      subst hT
      obtain ⟨vc, hvc, hkc⟩ := hr.gk hcl
      refine wpAny_bind (hsw fun vc' e s' S' => ?_)
      rw [hvc] at e; cases e
      refine wpAny_pure ⟨plainId_quiet plain_sift _, ?_⟩
      refine ih (ks.length - c) (by omega) c s' _ (swp ks c p) (by rw [swp_length]) hu S' ((hr.set _ hkp).set _ hkc) (by rw [swp_length]; exact hz) (by rw [swp_length]; exact hcl) (dn_step D hcc hcl hle) ?_
      intro s'' vs' ks' S'' hr' hH hP
      exact h s'' vs' ks' S'' hr' hH (hP.trans (swp_perm ks hcl hp))
    have swap : ∀ c, c < ks.length → ∀ {Q : Unit → Shared → Prop}, (∀ vc, vs[c]? = some vc → ∀ s', SS B G os ((q, ListO ((vs.set c vp).set p vc)) :: L) s' → Q () s') →
        wpAny (model prog w) A.in1 (do
          let xs ← (do
            let some ys ← seqItems? (.ref q) | unsupported "internal:_heapq"
            pure ys : Sem (Array Value))
          let x ← (match xs[c]? with | some v => pure v | none => unsupported "internal:_heapq.index")
          let y ← (match xs[p]? with | some v => pure v | none => unsupported "internal:_heapq.index")
          updateSeq q fun xs => (xs.setIfInBounds c y).setIfInBounds p x) Q (fun e s' => R (.error e) s') s := by
      intro c hcl Q hQ
      obtain ⟨vc, hvc, hkc⟩ := hr.gk hcl
      have hac : vs.toArray[c]? = some vc := by simpa using hvc
      refine wpAny_bind (wpAny_bind (wpAny_seqItems ho hd (wpAny_pure ?_)))
      rw [hac, hap]
      refine wpAny_bind (wpAny_pure (wpAny_bind (wpAny_pure ?_)))
      refine wpAny_updateSeq ho hd ?_ (by rw [List.size_toArray, sizeLine]; omega) (by simp only [Array.size_setIfInBounds, List.size_toArray, sizeLine]; omega)
      exact hQ vc hvc _ (S.mapList (f := fun xs => (xs.setIfInBounds c vp).setIfInBounds p vc) ho hc hdd hd (by simp))
    refine codeAny_builtin entry_sift ?_
    rw [Around.under_plainId plain_sift]
    unfold «_heapq.heapify.sift»
    dsimp only [rawInt]
    refine wpAny_bind ?_
    refine wpAny_bind (wpAny_seqItems ho hd ?_)
    refine wpAny_pure ?_
    rw [if_pos rfl]
    simp only [Int.toNat_natCast, List.size_toArray]
    by_cases h0 : p < vs.length / 2
    · rw [if_pos h0]
      have hl1 : 2 * p + 1 < ks.length := by rw [← hr.1]; omega
      by_cases h1 : 2 * p + 1 + 1 < vs.length
      · rw [if_pos h1]
        have hl2 : 2 * p + 2 < ks.length := by rw [← hr.1]; omega
        obtain ⟨v1, hv1, hk1⟩ := hr.gk hl1
        obtain ⟨v2, hv2, hk2⟩ := hr.gk hl2
        refine wpAny_bind (wpAny_of_eq (at_pure rfl (show vs.toArray[2 * p + 1]? = some v1 by simpa using hv1)) ?_)
        refine wpAny_bind (wpAny_of_eq (at_pure rfl (show vs.toArray[2 * p + 1 + 1]? = some v2 by simpa using hv2)) ?_)
        rw [if_neg Bool.false_ne_true]
        refine wpAny_bind ?_
        refine wpAny_bind (wpAny_holding (wpAny_bind (rc_lt_pair (by simpa using hu) S hk1 hk2 (wpAny_truthy_bool ?_))))
        refine wpAny_bind (wpAny_bind (wpAny_seqItems ho hd ?_))
        refine wpAny_pure ?_
        rw [if_neg (by simp)]
        refine wpAny_pure ?_
        cases hlt : kLt (gk ks (2 * p + 1)) (gk ks (2 * p + 2)) with
        | false =>
          rw [if_pos (by rfl)]
          refine go (2 * p + 2) (.inr rfl) hl2 (fun o ho hl => ?_) (fun hQ => swap _ hl2 hQ) rfl
          rcases ho with rfl | rfl
          · exact hlt
          · exact .refl _
        | true =>
          rw [if_neg (by simp)]
          refine go (2 * p + 1) (.inl rfl) hl1 (fun o ho hl => ?_) (fun hQ => swap _ hl1 hQ) rfl
          rcases ho with rfl | rfl
          · exact .refl _
          · exact .of_lt hlt
      · rw [if_neg h1]
        refine go (2 * p + 1) (.inl rfl) hl1 (fun o ho hl => ?_) (fun hQ => swap _ hl1 hQ) rfl
        rcases ho with rfl | rfl
        · exact .refl _
        · rw [← hr.1] at hl; omega
    · rw [if_neg h0]
      refine wpAny_pure ⟨plainId_quiet plain_sift _, ?_⟩
      exact heap_sift_up p s vs ks hu S hr hz hp (dn_end D (by rw [← hr.1]; omega)) h

theorem argsOk_check {id : String} {args : Args} {P : Unit → Shared → Prop} (hk : builtinKind id = none) (ha : argsOk id args) (h : P () s) : wpAny (model prog w) A (checkBuiltinCall id args) P E s := by
  simp only [checkBuiltinCall, hk]
  cases hsig : Manifest.signature? id with
  | none => exact wpAny_pure h
  | some sig =>
    simp only [argsOk, hsig] at ha
    exact wpAny_of_eq ha h

set_option maxHeartbeats 2000000 in
/-- heappush: the keys' heap has one more -/
theorem heappush_spec {vs : List Value} {ks : List Key} {v : Value} {k : Key} {Q : Value → Shared → Prop} (hu : A.units + 1 < cLine) (S : SS B G os ((q, ListO vs) :: L) s) (hr : Rel2 (IsPair B) vs ks) (hv : IsPair B v k) (hz : ks.length < 1000) (H : IsHeap ks)
    (h : ∀ s' vs' ks', SS B G os ((q, ListO vs') :: L) s' → Rel2 (IsPair B) vs' ks' → IsHeap ks' → ks'.Perm (k :: ks) → Q .none s') :
    wpAny (model prog w) A (call (.builtin "_heapq.heappush") [.ref q, v]) Q E s := by
  have hlen : vs.length < 1000 := by rw [hr.1]; exact hz
  obtain ⟨o, ho, hc, hdd, n, hd⟩ := S.get (e := Sel.head)
  refine wpAny_call (codeAny_call_builtin plain_push entry_push ?_)
  refine argsOk_check (id := "_heapq.heappush") (args := ⟨[.ref q, v], []⟩) kind_push ?_ ?_
  · exact args_push _ _
  unfold «_heapq.heappush»
  refine wpAny_bind ?_
  refine wpAny_bind (wpAny_of_eq (a := ()) rfl ?_)
  refine wpAny_bind (wpAny_of_eq (a := ()) rfl ?_)
  refine wpAny_bind ?_
  refine wpAny_bind (wpAny_isInstance (T := "list") (b := true) ⟨o, ho, hc⟩ F.sub_list_list ?_)
  refine wpAny_pure ?_
  refine wpAny_pure ?_
  refine wpAny_bind (wpAny_updateSeq ho hd ?_ (by rw [List.size_toArray, sizeLine]; omega) (by simp only [Array.size_push, List.size_toArray, sizeLine]; omega))
  have S' : SS B G os ((q, ListO (vs ++ [v])) :: L) { s with heap := s.heap.update q (Obj.mapSeq (·.push v)) } := S.mapList (f := (·.push v)) ho hc hdd hd (by simp)
  obtain ⟨o', ho', hc', hdd', n', hd'⟩ := S'.get (e := Sel.head)
  refine wpAny_bind (wpAny_bind (wpAny_seqItems ho' hd' ?_))
  refine wpAny_pure ?_
  refine wpAny_pure ⟨plainId_quiet plain_sift _, ?_⟩
  have e : (vs ++ [v]).toArray.size - 1 = ks.length := by simp [hr.1]
  rw [e]
  refine heap_sift_up ks.length _ (vs ++ [v]) (ks ++ [k]) hu S' (hr.append (Rel2.cons hv .nil)) (by simp; omega) (by simp) (heap_push H k) fun s' vs' ks' S'' hr' hH hP => ?_
  exact h s' vs' ks' S'' hr' hH (hP.trans (List.perm_append_singleton _ _))

set_option maxHeartbeats 2000000 in
/-- heappop: the least key goes -/
theorem heappop_spec {vs : List Value} {ks : List Key} {Q : Value → Shared → Prop} (hu : A.units + 1 < cLine) (S : SS B G os ((q, ListO vs) :: L) s) (hr : Rel2 (IsPair B) vs ks) (hne : ks ≠ []) (hz : ks.length ≤ 1000) (H : IsHeap ks)
    (h : ∀ s' vs' ks' v k, SS B G os ((q, ListO vs') :: L) s' → Rel2 (IsPair B) vs' ks' → IsHeap ks' → IsPair B v k → (k :: ks').Perm ks → (∀ k' ∈ ks, kLe k k') → Q v s') :
    wpAny (model prog w) A (call (.builtin "_heapq.heappop") [.ref q]) Q E s := by
  have hl0 : 0 < ks.length := List.length_pos_iff.mpr hne
  have hlen : vs.length ≤ 1000 := by rw [hr.1]; exact hz
  obtain ⟨o, ho, hc, hdd, n, hd⟩ := S.get (e := Sel.head)
  obtain ⟨vl, kl, hvl, hkl, hpl⟩ := hr.last hne
  obtain ⟨v0, hv0, hk0⟩ := hr.gk hl0
  refine wpAny_call (codeAny_call_builtin plain_pop entry_pop ?_)
  refine argsOk_check (id := "_heapq.heappop") (args := ⟨[.ref q], []⟩) kind_pop ?_ ?_
  · exact args_pop _
  unfold «_heapq.heappop»
  refine wpAny_bind ?_
  refine wpAny_bind (wpAny_of_eq (a := .ref q) rfl ?_)
  refine wpAny_bind ?_
  refine wpAny_bind (wpAny_isInstance (T := "list") (b := true) ⟨o, ho, hc⟩ F.sub_list_list ?_)
  refine wpAny_pure ?_
  refine wpAny_pure ?_
  refine wpAny_bind (wpAny_bind (wpAny_seqItems ho hd ?_))
  refine wpAny_pure ?_
  rw [show vs.toArray.back? = some vl by simpa using hvl]
  refine wpAny_bind (wpAny_updateSeq ho hd ?_ (by rw [List.size_toArray, sizeLine]; omega) (by simp only [Array.size_pop, List.size_toArray, sizeLine]; omega))
  have S' : SS B G os ((q, ListO vs.dropLast) :: L) { s with heap := s.heap.update q (Obj.mapSeq (·.pop)) } := S.mapList (f := (·.pop)) ho hc hdd hd (by simp)
  by_cases h1 : ks.length = 1
  · have : (vs.toArray.size == 1) = true := by simp [hr.1, h1]
    rw [if_pos this]
    obtain ⟨k, rfl⟩ := List.length_eq_one_iff.mp h1
    simp only [List.getLast?_singleton, Option.some.injEq] at hkl
    subst hkl
    exact wpAny_pure (h _ _ [] vl _ S' (by simpa using hr.dropLast) (fun i a b => by simp at b) hpl (List.Perm.refl _) fun k' hk' => by rw [List.mem_singleton.mp hk']; exact .refl _)
  · have : ¬ (vs.toArray.size == 1) = true := by simp [hr.1, h1]
    rw [if_neg this]
    refine wpAny_bind (wpAny_of_eq (at_pure rfl (show vs.toArray[0]? = some v0 by simpa using hv0)) ?_)
    obtain ⟨o', ho', hc', hdd', n', hd'⟩ := S'.get (e := Sel.head)
    refine wpAny_bind (wpAny_updateSeq ho' hd' ?_ (by rw [List.size_toArray, List.length_dropLast, sizeLine]; omega) (by simp only [Array.size_setIfInBounds, List.size_toArray, List.length_dropLast, sizeLine]; omega))
    have S'' := S'.mapList (f := (·.setIfInBounds 0 vl)) (vs' := vs.dropLast.set 0 vl) (s' := { s with heap := (s.heap.update q (Obj.mapSeq (·.pop))).update q (Obj.mapSeq (·.setIfInBounds 0 vl)) }) ho' hc' hdd' hd' (by simp)
    refine wpAny_pure ⟨plainId_quiet plain_sift _, ?_⟩
    refine heap_sift_down _ 0 _ (vs.dropLast.set 0 vl) (ks.dropLast.set 0 kl) rfl hu S'' (hr.dropLast.set 0 hpl) (by simp; omega) (by simp; omega) (heap_pop H kl) fun s' vs' ks' S3 hr' hH hP => ?_
    exact h s' vs' ks' v0 (gk ks 0) S3 hr' hH hk0 ((List.Perm.cons _ hP).trans (pop_perm hkl h1)) fun k' hk' => heap_min_mem H hk'
end
end Mine

end
section
open PySem PySem.W PySem.Calls PyProof.Rows Builtin
set_option Elab.async false
set_option maxRecDepth 100000
set_option linter.unusedVariables false
namespace Mine

/-- a tree that does not raise -/
abbrev W {α : Type} (M : Model) (A : Around) (t : Sem α) (Q : α → Shared → Prop) (s : Shared) : Prop := wpAny M A t Q (fun _ _ => False) s
theorem W.up {α : Type} {M : Model} {A : Around} {t : Sem α} {Q : α → Shared → Prop} {E : Value → Shared → Prop} {s : Shared} (h : W M A t Q s) : wpAny M A t Q E s :=
  wpAny_mono h (fun _ _ x => x) fun _ _ x => x.elim
theorem W.mono {α : Type} {M : Model} {A : Around} {t : Sem α} {Q Q' : α → Shared → Prop} {s : Shared} (h : W M A t Q s) (k : ∀ a s, Q a s → Q' a s) : W M A t Q' s :=
  wpAny_mono h k fun _ _ x => x

/-- room enough for `n` more frames -/
structure Rm (A : Around) (n : Nat) : Prop where
  d : A.depth + n ≤ 900
  u : A.units + 20 * n ≤ 9800
  h : A.handled = none
theorem Rm.deeper {A : Around} {n : Nat} (h : Rm A (n + 1)) (env : Env) : Rm (A.deeper env) n := ⟨by have := h.d; simp only [Around.deeper]; omega, by have := h.u; simp only [Around.deeper]; omega, h.h⟩
theorem Rm.in1 {A : Around} {n : Nat} (h : Rm A (n + 1)) : Rm A.in1 n := ⟨by have := h.d; simp only [Around.in1_depth]; omega, by have := h.u; simp only [Around.in1_units]; omega, h.h⟩
theorem Rm.less {A : Around} {n m : Nat} (h : Rm A n) (k : m ≤ n) : Rm A m := ⟨by have := h.d; omega, by have := h.u; omega, h.h⟩
theorem Rm.room {A : Around} {n : Nat} (h : Rm A n) : A.depth < recursionLimit := by have := h.d; unfold recursionLimit; omega
theorem Rm.units {A : Around} {n : Nat} (h : Rm A n) : A.units < cLine := by have := h.u; rw [cLine_is]; omega
theorem Rm.units1 {A : Around} {n : Nat} (h : Rm A n) : A.units + 1 < cLine := by have := h.u; rw [cLine_is]; omega

theorem EnvIs.ni {env : Env} {sc : Scope} {Lf : Addr} {cl : List (Str × Addr)} {cd : Value} (I : EnvIs env sc Lf cl cd) : interactive env = false := by
  unfold interactive; rw [I.fk]; rfl
def CodeRecS (B : Store) (cd : Value) (q : Str) : Prop := ∃ c o vs t, cd = .ref c ∧ B c = some o ∧ o.data = .fields vs ∧ vs[1]? = some (.str q t)
theorem CodeRecS.mono {B B' : Store} {cd : Value} {q : Str} (h : CodeRecS B cd q) (l : Le B B') : CodeRecS B' cd q := let ⟨c, o, vs, t, e, x, r⟩ := h; ⟨c, o, vs, t, e, l _ _ x, r⟩
theorem CodeRecS.at {B : Store} {G : Array GenState} {os : OsState} {L : Led} {s : Shared} {cd : Value} {q : Str} (h : CodeRecS B cd q) (S : SS B G os L s) : s.heap.CodeRec cd q :=
  let ⟨c, o, vs, t, e, x, r⟩ := h; ⟨c, o, vs, t, e, S.keep _ _ x, r⟩
structure FnIs (B : Store) (f : Addr) (params : Arguments) (body : List Stmt) (scope : Scope) (clos : List (Str × Addr)) (dV cd : Value) : Prop where
  ex : ∃ o fd, B f = some o ∧ o.cls = .type "function" ∧ o.data = .func fd ∧ fd.params = params ∧ fd.body = .stmts body ∧ fd.scope = scope ∧ fd.closure = clos ∧ fd.defaults = dV ∧ fd.kwdefaults = .none ∧ fd.globals = mainGlobals ∧ fd.builtins = builtinsNs ∧ fd.code = cd ∧ CodeRecS B cd fd.qualname
theorem FnIs.mono {B B' : Store} {f : Addr} {params : Arguments} {body : List Stmt} {scope : Scope} {clos : List (Str × Addr)} {dV cd : Value} (h : FnIs B f params body scope clos dV cd) (l : Le B B') : FnIs B' f params body scope clos dV cd :=
  let ⟨o, fd, a, b, c, d, e, f', g, i, j, k, m, n, r⟩ := h.ex; ⟨o, fd, l _ _ a, b, c, d, e, f', g, i, j, k, m, n, r.mono l⟩

theorem LocO.init {h : Heap} {a : Addr} {m : Str → Option Value} {l : List (Str × Option Value)} (hn : h.Ns a m) (hnd : (l.map (·.1)).Nodup) (e : ∀ n, (l.lookup n).join = m n) : ∃ o, h.get? a = some o ∧ LocO l o := by
  obtain ⟨o, es, ep, ho, hd, hk, hf⟩ := hn
  exact ⟨o, ho, hnd, es, ep, hd, hk, fun n => (hf n).trans (e n).symm⟩
/-- the table of a fresh frame: its parameters bound, the rest not -/
theorem locs_binds {binds : List (Str × Value)} {rest : List Str} (hnd : (binds.map (·.1) ++ rest).Nodup) (n : Str) :
    ((binds.map (fun b => (b.1, some b.2)) ++ rest.map (fun x => (x, (none : Option Value)))).lookup n).join = binds.reverse.lookup n := by
  induction binds with
  | nil =>
    simp only [List.map_nil, List.nil_append, List.reverse_nil, List.lookup_nil]
    clear hnd
    induction rest with
    | nil => rfl
    | cons x r ih =>
      rw [List.map_cons, List.lookup_cons]
      cases h : n == x with
      | true => rfl
      | false => exact ih
  | cons b r ih =>
    obtain ⟨y, v⟩ := b
    simp only [List.map_cons, List.cons_append, List.nodup_cons, List.reverse_cons] at hnd ⊢
    have ih := ih hnd.2
    rw [List.lookup_cons, List.lookup_append (l₁ := r.reverse)]
    cases h : n == y with
    | true =>
      have e : n = y := eq_of_beq h
      subst e
      have : r.reverse.lookup n = none := lookup_none_of (by
        rw [List.map_reverse, List.mem_reverse]
        exact fun q => hnd.1 (List.mem_append_left _ q))
      rw [this]; simp
    | false =>
      rw [List.lookup_cons, h, List.lookup_nil, Option.or_none]
      exact ih

section
variable {prog : Program} {w : World} {A : Around} {E : Value → Shared → Prop} {B B' : Store} {G : Array GenState} {os : OsState} {L L' : Led} {s : Shared}
  {env : Env} {sc : Scope} {Lf : Addr} {cl : List (Str × Addr)} {cd : Value} {n : Nat}

def retOf : Flow → Value
  | .ret v => v
  | _ => .none

/-- a call of a def without cells of its own -/
theorem callFc {f : Addr} {args : Args} {binds : List (Str × Value)} {rest : List Str} {params : Arguments} {body : List Stmt} {scope : Scope} {clos : List (Str × Addr)} {dV : Value} {Rr : Result → Shared → Prop}
    (R : Rm A (n + 1)) (hN : NoLimitS B) (F : FnIs B f params body scope clos dV cd) (S : SS B G os L s)
    (hbind : ∀ fd : FuncData, fd.params = params → fd.defaults = dV → fd.kwdefaults = .none → BindsTo s fd args binds)
    (hcell : scope.names.all (fun x => x.2 != .cell) = true) (hl : binds.all (fun x => scope.names.lookup x.1 == some .local) = true)
    (hnd : decide ((binds.map (·.1) ++ rest).Nodup) = true) (hk : scope.kind = .function) (hco : scope.isCoroutine = false) (hge : scope.isGenerator = false)
    (h : ∀ env Lf s', EnvIs env scope Lf clos cd → Rm (A.deeper env) n → SS B G os ((Lf, LocO (binds.map (fun b => (b.1, some b.2)) ++ rest.map (fun x => (x, (none : Option Value))))) :: L) s' →
      W (model prog w) (A.deeper env) (execs body env) (fun fl s'' => Rr (.ok (.ret (retOf fl))) s'') s') :
    codeAny (model prog w) A (.call (.ref f) args) Rr s := by
  have hnd := of_decide_eq_true hnd
  obtain ⟨o, fd, ho, hc, hd, e1, e2, e3, e4, e5, e5', e6, e7, e8, hcr⟩ := F.ex
  refine codeAny_call_function R.room (S.keep _ _ ho) hd (by rw [e3]; exact hco) (by rw [e3]; exact hge) e2 (by rw [e8]; exact hcr.at S) ?_
  refine hbind fd e1 e5 e5' _ _ _ _ ?_
  rw [e3, e4, e6, e7, e8]
  refine wpAny_newFunctionEnv (fun x hx => by simpa using List.all_eq_true.mp hcell x hx) (fun x hx => by simpa using List.all_eq_true.mp hl x hx) (fun h' hns hsb => ?_) hk
  have hlim := hN.at S
  refine ⟨hlim.fresh _ hsb, codeAny_func ?_⟩
  obtain ⟨oL, hoL, hloc⟩ := LocO.init hns (l := binds.map (fun b => (b.1, some b.2)) ++ rest.map (fun x => (x, (none : Option Value)))) (by simpa [List.map_append, List.map_map, Function.comp_def] using hnd) (locs_binds hnd)
  have S' : SS B G os ((s.heap.objs.size, LocO (binds.map (fun b => (b.1, some b.2)) ++ rest.map (fun x => (x, (none : Option Value))))) :: L) { s with heap := h', toks := s.toks + binds.length } :=
    S.add (fun b o' e => hsb.extBut b o' (Nat.ne_of_lt (Heap.lt_size e)) (Heap.get?_push_of_some _ e)) (Heap.get?_none_of_le (Nat.le_refl _)) hoL hloc
  refine wpAny_mono (h (newEnv scope s.heap.objs.size mainGlobals clos (fd.qualname ++ ".<locals>.") (some f) cd none builtinsNs) s.heap.objs.size _ ⟨rfl, rfl, rfl, rfl, rfl, rfl, hk⟩ (R.deeper _) S') (fun fl s'' q => ?_) fun _ _ x => x.elim
  cases fl <;> exact q
theorem callF {f : Addr} {args : Args} {binds : List (Str × Value)} {rest : List Str} {params : Arguments} {body : List Stmt} {scope : Scope} {clos : List (Str × Addr)} {dV : Value} {Q : Value → Shared → Prop}
    (R : Rm A (n + 1)) (hN : NoLimitS B) (F : FnIs B f params body scope clos dV cd) (S : SS B G os L s)
    (hbind : ∀ fd : FuncData, fd.params = params → fd.defaults = dV → fd.kwdefaults = .none → BindsTo s fd args binds)
    (hcell : scope.names.all (fun x => x.2 != .cell) = true) (hl : binds.all (fun x => scope.names.lookup x.1 == some .local) = true)
    (hnd : decide ((binds.map (·.1) ++ rest).Nodup) = true) (hk : scope.kind = .function) (hco : scope.isCoroutine = false) (hge : scope.isGenerator = false)
    (h : ∀ env Lf s', EnvIs env scope Lf clos cd → Rm (A.deeper env) n → SS B G os ((Lf, LocO (binds.map (fun b => (b.1, some b.2)) ++ rest.map (fun x => (x, (none : Option Value))))) :: L) s' →
      W (model prog w) (A.deeper env) (execs body env) (fun fl s'' => Q (retOf fl) s'') s') :
    wpAny (model prog w) A (call (.ref f) args.pos args.kw) Q E s :=
  wpAny_call (callFc R hN F S hbind hcell hl hnd hk hco hge h)

/-! what is made -/
theorem newTuple_ {vs : List Value} {Q : Value → Shared → Prop} (S : SS B G os L s) (hsz : vs.length ≤ 1000) (h : ∀ a s', SS B G os ((a, TupO vs) :: L) s' → Q (.ref a) s') : wpAny (model prog w) A (newTuple vs) Q E s :=
  wpAny_newObj_type (h _ _ (S.push { cls := .type "tuple", data := .seq vs.toArray } ⟨rfl, rfl, 0, rfl⟩)) (by show vs.toArray.size ≤ sizeLine; rw [List.size_toArray, sizeLine]; omega)
theorem newList_ {vs : List Value} {Q : Value → Shared → Prop} (S : SS B G os L s) (hsz : vs.length ≤ 1000) (h : ∀ a s', SS B G os ((a, ListO vs) :: L) s' → Q (.ref a) s') : wpAny (model prog w) A (newList vs) Q E s :=
  wpAny_newObj_type (h _ _ (S.push { cls := .type "list", data := .seq vs.toArray } ⟨rfl, rfl, 0, rfl⟩)) (by show vs.toArray.size ≤ sizeLine; rw [List.size_toArray, sizeLine]; omega)
theorem eDict {pos : Pos} {K : Type} [DecidableEq K] {knd : KeyKind prog w K} {Q : Value → Shared → Prop} (S : SS B G os L s) (h : ∀ a s', SS B G os ((a, DictO knd fun _ => none) :: L) s' → Q (.ref a) s') : wpAny (model prog w) A (eval (.Dict [] [] pos) env) Q E s :=
  wpAny_Dict_empty (h _ _ (S.push { cls := .type "dict", data := .dict #[] } ⟨#[], 0, ⟨rfl, rfl, rfl⟩, rfl, fun _ he => by simp at he, fun _ => rfl⟩))
theorem eTuple {elts : List Expr} {k : Nat} {pos : Pos} {Q : Value → Shared → Prop} (h : wpAny (model prog w) A (spliced (backTo pos (starEach elts env))) (fun vs s₁ => wpAny (model prog w) A (newTuple vs) Q E s₁) E s) :
    wpAny (model prog w) A (eval (.Tuple elts k pos) env) Q E s := PyProof.Rows.Tuple_ h
theorem eList {elts : List Expr} {pos : Pos} {Q : Value → Shared → Prop} (h : wpAny (model prog w) A (spliced (backTo pos (starEach elts env))) (fun vs s₁ => wpAny (model prog w) A (newList vs) Q E s₁) E s) :
    wpAny (model prog w) A (eval (.List elts pos) env) Q E s := PyProof.Rows.List_ h

/-! small values -/
theorem eInt {i : Int} {k : Nat} {pos : Pos} {Q : Value → Shared → Prop} (S : SS B G os L s) (h : ∀ t s', SS B G os L s' → Q (.int i t) s') : wpAny (model prog w) A (eval (.Constant (.int i) k pos) env) Q E s := wpAny_Constant_int (h _ _ S.toks)
theorem eBytes {b : List UInt8} {k : Nat} {pos : Pos} {Q : Value → Shared → Prop} (S : SS B G os L s) (h : ∀ t s', SS B G os L s' → Q (.bytes b.toArray t) s') : wpAny (model prog w) A (eval (.Constant (.bytes b) k pos) env) Q E s := by
  refine wpAny_bind (m := fresh) (wpAny_fresh ?_)
  exact wpAny_pure (h _ _ S.toks)
theorem negS {a : Int} {t : Tok} {Q : Value → Shared → Prop} (S : SS B G os L s) (h : ∀ t s', SS B G os L s' → Q (.int (-a) t) s') : wpAny (model prog w) A (unaryOp .USub (.int a t)) Q E s := PyProof.Rows.neg_int (h _ _ S.toks)
theorem andS {a b : Int} {t u : Tok} {Q : Value → Shared → Prop} (S : SS B G os L s) (h : ∀ t s', SS B G os L s' → Q (.int (Builtin.bitAnd a b) t) s') : wpAny (model prog w) A (binaryOp .BitAnd (.int a t) (.int b u)) Q E s := and_int (h _ _ S.toks)
theorem orS {a b : Int} {t u : Tok} {Q : Value → Shared → Prop} (S : SS B G os L s) (h : ∀ t s', SS B G os L s' → Q (.int (Builtin.bitOr a b) t) s') : wpAny (model prog w) A (binaryOp .BitOr (.int a t) (.int b u)) Q E s := or_int (h _ _ S.toks)
theorem addS {a b : Int} {t u : Tok} {Q : Value → Shared → Prop} (S : SS B G os L s) (h : ∀ t s', SS B G os L s' → Q (.int (a + b) t) s') : wpAny (model prog w) A (binaryOp .Add (.int a t) (.int b u)) Q E s := PyProof.Rows.add_int (h _ _ S.toks)
theorem modS {a b : Int} {t u : Tok} {Q : Value → Shared → Prop} (hb : b ≠ 0) (S : SS B G os L s) (h : ∀ t s', SS B G os L s' → Q (.int (a.fmod b) t) s') : wpAny (model prog w) A (binaryOp .Mod (.int a t) (.int b u)) Q E s := PyProof.Rows.mod_int' hb (h _ _ S.toks)
theorem truthyTup {t : Addr} {items : Array Value} {Q : Bool → Shared → Prop} (S : SS B G os L s) (ht : IsTup s.heap t items) (hz : items.size ≤ 1000) (h : ∀ s', SS B G os L s' → Q (!items.isEmpty) s') : wpAny (model prog w) A (truthy (.ref t)) Q E s :=
  truthy_tuple ht (by omega) (h _ S.toks)

/-! a pair is taken apart -/
theorem TupO.isTup {a : Addr} {vs : List Value} {o : Obj} (h : s.heap.get? a = some o) (p : TupO vs o) : IsTup s.heap a vs.toArray := let ⟨h1, _, n, h2⟩ := p; ⟨o, h, h1, n, h2⟩
theorem unpack2 {x y : Str} {px py pos : Pos} {k : Nat} {t : Addr} {v1 v2 : Value} {Q : Unit → Shared → Prop} (R : Rm A n) (S : SS B G os L s) (ht : IsTup s.heap t #[v1, v2])
    (h : ∀ s', SS B G os L s' → wpAny (model prog w) A (storeName env x v1) (fun _ s₁ => wpAny (model prog w) A (storeName env y v2) Q E s₁) E s') :
    wpAny (model prog w) A (assign (.Tuple [.Name x px, .Name y py] k pos) env (.ref t)) Q E s := by
  refine assign_Tuple_tuple R.h ht rfl rfl fun h' he => ?_
  refine assignInOrder_cons (PyProof.Rows.assign_Name ?_)
  refine wpAny_mono (h _ (S.ext fun b o e => he b o (Nat.ne_of_lt (Heap.lt_size e)) e)) (fun _ s₁ h₁ => ?_) fun _ _ x => x
  exact assignInOrder_cons (PyProof.Rows.assign_Name (wpAny_mono h₁ (fun _ _ q => assignInOrder_nil q) fun _ _ x => x))
theorem IsPair.isTup {v : Value} {k : Key} (p : IsPair B v k) (S : SS B G os L s) : ∃ a t u, v = .ref a ∧ IsTup s.heap a #[.int k.1 t, .bytes k.2.toArray u] := by
  obtain ⟨a, o, m, t, u, rfl, ho, hc, _, hd⟩ := p
  exact ⟨a, t, u, rfl, o, S.keep _ _ ho, hc, m, hd⟩
end
end Mine

end
section
open PySem PySem.W PySem.Calls PyProof.Rows Builtin
set_option Elab.async false
set_option maxRecDepth 100000
set_option linter.unusedVariables false
namespace Mine

/-! the program's pieces, by their places -/
abbrev thePrg : Program := PySem.Challenge.pw_bb0034_01
def mainStmt (i : Nat) : Stmt := thePrg.main.body.getD i (.Pass default)
def fnPs : Stmt → Arguments | .FunctionDef _ a _ _ _ _ _ _ _ _ => a | _ => default
def fnBd : Stmt → List Stmt | .FunctionDef _ _ b _ _ _ _ _ _ _ => b | _ => []
def fnSc : Stmt → Scope | .FunctionDef _ _ _ _ _ _ sc _ _ _ => sc | _ => default
def clsBd : Stmt → List Stmt | .ClassDef _ _ _ b _ _ _ _ _ _ _ => b | _ => []
def wlStmt (i : Nat) : Stmt := (clsBd (mainStmt 2)).getD i (.Pass default)
abbrev sInit := wlStmt 0
abbrev sAdd := wlStmt 1
abbrev sGet := wlStmt 2
abbrev sIter := wlStmt 3
abbrev sLcas := mainStmt 3
abbrev sBase := mainStmt 4
abbrev sFast := mainStmt 5
abbrev sLaw := mainStmt 7

/-- what the top left, as far as it is asked -/
structure Top0 (K : Frag) (C fInit fAdd fGet fIter fLcas fBase fFast : Addr) (mg mb : Str → Option Value) (B : Store) : Prop where
  inK : ∀ a o, K.lookup a = some o → B a = some o
  glob : NsS B mainGlobals mg
  buil : NsS B builtinsNs mb
  lim : NoLimitS B
  gPush : mg "heappush" = some (.builtin "_heapq.heappush")
  gPop : mg "heappop" = some (.builtin "_heapq.heappop")
  gWL : mg "WorkList" = some (.ref C)
  gLcas : mg "_find_lcas" = some (.ref fLcas)
  gBase : mg "find_merge_base" = some (.ref fBase)
  gFast : mg "can_fast_forward" = some (.ref fFast)
  makes : makesIn K C = true
  init : findIn K (.ref C) "__init__" = some (some (.ref fInit))
  initT : typeIn K (.ref fInit) = some (.type "function")
  ga : findIn K (.ref C) "__getattribute__" = some (some (.builtin "object.__getattribute__"))
  gattr : findIn K (.ref C) "__getattr__" = some none
  sa : findIn K (.ref C) "__setattr__" = some (some (.builtin "object.__setattr__"))
  over : plainOver K C = true
  taker : takerIn K C "pq" = some none
  hasD : hasDictIn K C = true
  noPq : findIn K (.ref C) "pq" = some none
  mAdd : findIn K (.ref C) "add" = some (some (.ref fAdd))
  mAddT : typeIn K (.ref fAdd) = some (.type "function")
  mGet : findIn K (.ref C) "get" = some (some (.ref fGet))
  mGetT : typeIn K (.ref fGet) = some (.type "function")
  mIter : findIn K (.ref C) "iter" = some (some (.ref fIter))
  mIterT : typeIn K (.ref fIter) = some (.type "function")
  keepC : keepIn K (.ref C) = true
  fnInit : ∃ cd, FnIs B fInit (fnPs sInit) (fnBd sInit) (fnSc sInit) [] .none cd
  fnAdd : ∃ cd, FnIs B fAdd (fnPs sAdd) (fnBd sAdd) (fnSc sAdd) [] .none cd
  fnGet : ∃ cd, FnIs B fGet (fnPs sGet) (fnBd sGet) (fnSc sGet) [] .none cd
  fnIter : ∃ cd, FnIs B fIter (fnPs sIter) (fnBd sIter) (fnSc sIter) [] .none cd

section
variable {K : Frag} {C fInit fAdd fGet fIter fLcas fBase fFast : Addr} {mg mb : Str → Option Value} {B B' : Store}
theorem Top0.mono (T : Top0 K C fInit fAdd fGet fIter fLcas fBase fFast mg mb B) (l : Le B B') : Top0 K C fInit fAdd fGet fIter fLcas fBase fFast mg mb B' :=
  { T with
    inK := fun a o e => l a o (T.inK a o e)
    glob := T.glob.mono l
    buil := T.buil.mono l
    lim := T.lim.mono l
    fnInit := T.fnInit.imp fun _ h => h.mono l
    fnAdd := T.fnAdd.imp fun _ h => h.mono l
    fnGet := T.fnGet.imp fun _ h => h.mono l
    fnIter := T.fnIter.imp fun _ h => h.mono l }

/-- a worklist whose queue lies at `q` -/
def IsWL (B : Store) (C x q : Addr) : Prop := ∃ dx hs t n, B x = some (instObj C dx) ∧ B dx = some (dictOf [⟨hs, .str "pq" t, .ref q⟩] n)
theorem IsWL.mono {x q : Addr} (h : IsWL B C x q) (l : Le B B') : IsWL B' C x q := let ⟨dx, hs, t, n, a, b⟩ := h; ⟨dx, hs, t, n, l _ _ a, l _ _ b⟩

variable {w : World} {A : Around} {E : Value → Shared → Prop} {G : Array GenState} {os : OsState} {L L' : Led} {s : Shared} {env : Env} {sc : Scope} {Lf : Addr} {cl : List (Str × Addr)} {cd : Value} {n : Nat} {x q : Addr}

theorem Top0.at (T : Top0 K C fInit fAdd fGet fIter fLcas fBase fFast mg mb B) (S : SS B G os L s) : K.In s.heap := fun a o e => S.keep a o (T.inK a o e)
theorem IsWL.inst (h : IsWL B C x q) (S : SS B G os L s) : ∃ dx hs t n, InstAt s.heap x (instObj C dx) C (some (dictOf [⟨hs, .str "pq" t, .ref q⟩] n)) := by
  obtain ⟨dx, hs, t, n, a, b⟩ := h
  exact ⟨dx, hs, t, n, S.keep _ _ a, rfl, rfl, S.keep _ _ b⟩
theorem pq_get {ex : Bool} {Q : Value → Shared → Prop} (T : Top0 K C fInit fAdd fGet fIter fLcas fBase fFast mg mb B) (S : SS B G os L s) (hw : IsWL B C x q) (h : ∀ s', SS B G os L s' → Q (.ref q) s') :
    wpAny (model thePrg w) A (getAttr (.ref x) "pq" ex) Q E s := by
  obtain ⟨dx, hs, t, n, I⟩ := hw.inst S
  exact get_value (T.at S) I T.ga (findObj_own T.hasD T.noPq rfl rfl) rfl (h _ S.toks)
theorem wl_method {f : Addr} {name : Str} {pl : Sem Bool} {Q : Value × List Value → Shared → Prop} (T : Top0 K C fInit fAdd fGet fIter fLcas fBase fFast mg mb B) (S : SS B G os L s) (hw : IsWL B C x q)
    (hf : findIn K (.ref C) name = some (some (.ref f))) (ht : typeIn K (.ref f) = some (.type "function")) (hn : ((Value.str "pq" 0).isStr name) = false)
    (h : Q (.ref f, [.ref x]) s) : wpAny (model thePrg w) A (getMethod (.ref x) name pl) Q E s := by
  obtain ⟨dx, hs, t, m, I⟩ := hw.inst S
  refine method_fn (T.at S) I T.ga T.gattr hf ht ?_ h
  show (lookIn name (dictOf _ m)).map _ = _
  rw [lookIn_dict]
  unfold getL
  have e : (Value.str "pq" t).isStr name = false := hn
  simp [List.find?_cons, e, List.any_cons, DictEntry.refKey]
end
end Mine

end
section
open PySem PySem.W PySem.Calls PyProof.Rows Builtin
set_option Elab.async false
set_option maxRecDepth 100000
set_option linter.unusedVariables false
namespace Mine
local macro_rules | `(tactic| walk_at "m sel") => `(tactic| first | with_reducible apply Sel.head | (apply Sel.tail; walk_at "m sel"))
local macro_rules | `(tactic| walk_at "m lget") => `(tactic| first | with_reducible apply LGet.head | (apply LGet.tail; walk_at "m lget"))
local macro_rules | `(tactic| walk_at "m lset") => `(tactic| first | with_reducible apply LSet.head | (apply LSet.tail; walk_at "m lset"))
local macro_rules | `(tactic| walk_at "m mg") => `(tactic| first | exact Top0.gPush (by assumption) | exact Top0.gPop (by assumption) | exact Top0.gWL (by assumption) | exact Top0.gLcas (by assumption) | exact Top0.gBase (by assumption) | exact Top0.gFast (by assumption))
local macro_rules | `(tactic| walk_at "m name") => `(tactic| first
  | (refine' nmL (by assumption) (by assumption) ?hx ?hd ?he ?hg ?_; (case hx => kernel_rfl); (case hd => kernel_rfl); (case he => walk_at "m sel"); (case hg => walk_at "m lget"))
  | (refine' nmC (by assumption) (by assumption) ?hx ?hd ?hc ?he ?_; (case hx => kernel_rfl); (case hd => kernel_rfl); (case hc => rfl); (case he => walk_at "m sel"))
  | (refine' nmF (by assumption) (by assumption) ?hx ?hd ?hd2 ?hc ?he ?_; (case hx => kernel_rfl); (case hd => kernel_rfl); (case hd2 => kernel_rfl); (case hc => rfl); (case he => walk_at "m sel"))
  | (refine' nmG (by assumption) (by assumption) (Top0.glob (by assumption)) ?hx ?hd ?hv ?_; (case hx => kernel_rfl); (case hd => kernel_rfl); (case hv => walk_at "m mg")))
local macro_rules | `(tactic| walk_at "m store") => `(tactic| first
  | (refine' stL (by assumption) (by assumption) ?hx ?he ?hg ?_; (case hx => kernel_rfl); (case he => walk_at "m sel"); (case hg => walk_at "m lset"))
  | (refine' stC (by assumption) (by assumption) ?hx ?hc ?he ?_; (case hx => kernel_rfl); (case hc => rfl); (case he => walk_at "m sel")))
section
variable {K : Frag} {C fInit fAdd fGet fIter fLcas fBase fFast : Addr} {mg mb : Str → Option Value} {B B' : Store}
variable {w : World} {A : Around} {E : Value → Shared → Prop} {G : Array GenState} {os : OsState} {L L' : Led} {s : Shared} {env : Env} {sc : Scope} {Lf : Addr} {cl : List (Str × Addr)} {cd : Value} {n : Nat} {x q : Addr}

set_option maxHeartbeats 1000000 in
theorem add_spec {item : Value} {vs : List Value} {ks : List Key} {dt : Int} {b : Bs} {Q : Value → Shared → Prop} (T : Top0 K C fInit fAdd fGet fIter fLcas fBase fFast mg mb B) (R : Rm A 6) (S : SS B G os ((q, ListO vs) :: L) s)
    (hw : IsWL B C x q) (hr : Rel2 (IsPair B) vs ks) (hi : IsPair B item (dt, b)) (hz : ks.length < 1000) (H : IsHeap ks)
    (h : ∀ B' s' vs' ks', Le B B' → SS B' G os ((q, ListO vs') :: L) s' → Rel2 (IsPair B') vs' ks' → IsHeap ks' → ks'.Perm ((-dt, b) :: ks) → Q .none s') :
    W (model thePrg w) A (call (.ref fAdd) [.ref x, item]) Q s := by
  obtain ⟨cd, F⟩ := T.fnAdd
  refine callF (n := 5) (args := ⟨[.ref x, item], []⟩) (binds := [("self", .ref x), ("item", item)]) (rest := ["dt", "cmt"]) R T.lim F S ?_ (by kernel_rfl) (by kernel_rfl) (by kernel_rfl) (by kernel_rfl) (by kernel_rfl) (by kernel_rfl) ?_
  · intro fd h1 h2 h3
    refine BindsTo.of_eq ?_
    unfold bindArgs
    rw [h1, h2]
    kernel_rfl
  clear S
  intro env Lf s I R S
  simp only [List.map_cons, List.map_nil, List.cons_append, List.nil_append] at S
  refine wpAny_execs_cons ?_
  refine Assign_Tuple ?_
  walk_at "m name"
  obtain ⟨ta, t1, t2, rfl, ht⟩ := hi.isTup S
  refine unpack2 R S ht fun s S => ?_
  walk_at "m store"
  intro s S
  walk_at "m store"
  intro s S
  refine wpAny_execs_cons ?_
  refine wpAny_Expr (hi := I.ni) ?_
  refine PyProof.Rows.Call_ ?_
  walk_at "m name"
  refine callWith_builtin1 (he := rfl) (hplain := rfl) ?_
  refine args_cons (he := rfl) ?_
  refine Attribute_name ?_
  walk_at "m name"
  refine pq_get T S hw fun s S => ?_
  refine args_cons (he := rfl) ?_
  refine eTuple ?_
  refine args_cons (he := rfl) ?_
  refine UnaryOp_ ?_
  walk_at "m name"
  refine neg_int ?_
  have S := S.toks (s' := { s with toks := s.toks + 1 })
  refine args_cons (he := rfl) ?_
  walk_at "m name"
  refine args_nil ?_
  refine newTuple_ S (by simp) fun ta' s S => ?_
  refine args_nil ?_
  obtain ⟨B', o, le, ⟨hc, hd, n0, hdat⟩, hB, S⟩ := S.freeze
  have hp : IsPair B' (.ref ta') (-dt, b) := ⟨ta', o, n0, _, _, rfl, hB, hc, hd, hdat⟩
  have S := S.front (e := .tail .head)
  refine heappush_spec R.units1 S (hr.mono fun _ _ p => p.mono le) hp hz H fun s vs' ks' S hr' H' P => ?_
  have S := S.dropAt (e := .tail .head)
  exact wpAny_execs_nil (h B' s vs' ks' le S hr' H' P)

set_option maxHeartbeats 1000000 in
theorem get_spec {vs : List Value} {ks : List Key} {Q : Value → Shared → Prop} (T : Top0 K C fInit fAdd fGet fIter fLcas fBase fFast mg mb B) (R : Rm A 6) (S : SS B G os ((q, ListO vs) :: L) s)
    (hw : IsWL B C x q) (hr : Rel2 (IsPair B) vs ks) (hne : ks ≠ []) (hz : ks.length ≤ 1000) (H : IsHeap ks)
    (h : ∀ B' s' vs' ks' v dt b, Le B B' → SS B' G os ((q, ListO vs') :: L) s' → Rel2 (IsPair B') vs' ks' → IsHeap ks' → IsPair B' v (-dt, b) → ((dt, b) :: ks').Perm ks → (∀ k' ∈ ks, kLe (dt, b) k') → Q v s') :
    W (model thePrg w) A (call (.ref fGet) [.ref x]) Q s := by
  obtain ⟨cd, F⟩ := T.fnGet
  refine callF (n := 5) (args := ⟨[.ref x], []⟩) (binds := [("self", .ref x)]) (rest := ["item", "pr", "cmt"]) R T.lim F S ?_ (by kernel_rfl) (by kernel_rfl) (by kernel_rfl) (by kernel_rfl) (by kernel_rfl) (by kernel_rfl) ?_
  · intro fd h1 h2 h3
    refine BindsTo.of_eq ?_
    unfold bindArgs
    rw [h1, h2]
    kernel_rfl
  clear S
  intro env Lf s I R S
  simp only [List.map_cons, List.map_nil, List.cons_append, List.nil_append] at S
  refine wpAny_execs_cons ?_
  refine wpAny_Assign_Name ?_
  refine PyProof.Rows.Call_ ?_
  walk_at "m name"
  refine callWith_builtin1 (he := rfl) (hplain := rfl) ?_
  refine args_cons (he := rfl) ?_
  refine Attribute_name ?_
  walk_at "m name"
  refine pq_get T S hw fun s S => ?_
  refine args_nil ?_
  have S := S.front (e := .tail .head)
  refine heappop_spec R.units1 S hr hne hz H fun s vs' ks' v k S hr' H' hv P hmin => ?_
  have S := S.front (e := .tail .head)
  obtain ⟨ta, t1, t2, rfl, -⟩ := hv.isTup S
  walk_at "m store"
  intro s S
  refine wpAny_execs_cons ?_
  refine wpAny_If ?_
  refine isTrue_plain (he := rfl) ?_
  walk_at "m name"
  obtain ⟨ta', t1', t2', e, ht⟩ := hv.isTup S
  cases e
  refine truthyTup S ht (by simp) fun s S => ?_
  refine wpAny_execs_cons ?_
  refine Assign_Tuple ?_
  walk_at "m name"
  obtain ⟨ta'', t1'', t2'', e, ht⟩ := hv.isTup S
  cases e
  refine unpack2 R S ht fun s S => ?_
  walk_at "m store"
  intro s S
  walk_at "m store"
  intro s S
  refine wpAny_execs_cons ?_
  refine wpAny_Return_some ?_
  refine eTuple ?_
  refine args_cons (he := rfl) ?_
  refine UnaryOp_ ?_
  walk_at "m name"
  refine negS S fun _ s S => ?_
  refine args_cons (he := rfl) ?_
  walk_at "m name"
  refine args_nil ?_
  refine newTuple_ S (by simp) fun tb s S => ?_
  obtain ⟨B', o, le, ⟨hc, hd, n0, hdat⟩, hB, S⟩ := S.freeze
  have hp : IsPair B' (.ref tb) (-k.1, k.2) := ⟨tb, o, n0, _, _, rfl, hB, hc, hd, hdat⟩
  have S := S.dropAt (e := .head)
  exact h B' s vs' ks' _ k.1 k.2 le S (hr'.mono fun _ _ p => p.mono le) H' hp P hmin
end
end Mine

end
section
open PySem PySem.W PySem.Calls PyProof.Rows Builtin
set_option Elab.async false
set_option maxRecDepth 100000
set_option linter.unusedVariables false
namespace Mine
local macro_rules | `(tactic| walk_at "m sel") => `(tactic| first | with_reducible apply Sel.head | (apply Sel.tail; walk_at "m sel"))
local macro_rules | `(tactic| walk_at "m lget") => `(tactic| first | with_reducible apply LGet.head | (apply LGet.tail; walk_at "m lget"))
local macro_rules | `(tactic| walk_at "m lset") => `(tactic| first | with_reducible apply LSet.head | (apply LSet.tail; walk_at "m lset"))
local macro_rules | `(tactic| walk_at "m mg") => `(tactic| first | exact Top0.gPush (by assumption) | exact Top0.gPop (by assumption) | exact Top0.gWL (by assumption) | exact Top0.gLcas (by assumption) | exact Top0.gBase (by assumption) | exact Top0.gFast (by assumption))
local macro_rules | `(tactic| walk_at "m name") => `(tactic| first
  | (refine' nmL (by assumption) (by assumption) ?hx ?hd ?he ?hg ?_; (case hx => kernel_rfl); (case hd => kernel_rfl); (case he => walk_at "m sel"); (case hg => walk_at "m lget"))
  | (refine' nmC (by assumption) (by assumption) ?hx ?hd ?hc ?he ?_; (case hx => kernel_rfl); (case hd => kernel_rfl); (case hc => rfl); (case he => walk_at "m sel"))
  | (refine' nmF (by assumption) (by assumption) ?hx ?hd ?hd2 ?hc ?he ?_; (case hx => kernel_rfl); (case hd => kernel_rfl); (case hd2 => kernel_rfl); (case hc => rfl); (case he => walk_at "m sel"))
  | (refine' nmG (by assumption) (by assumption) (Top0.glob (by assumption)) ?hx ?hd ?hv ?_; (case hx => kernel_rfl); (case hd => kernel_rfl); (case hv => walk_at "m mg")))
local macro_rules | `(tactic| walk_at "m store") => `(tactic| first
  | (refine' stL (by assumption) (by assumption) ?hx ?he ?hg ?_; (case hx => kernel_rfl); (case he => walk_at "m sel"); (case hg => walk_at "m lset"))
  | (refine' stC (by assumption) (by assumption) ?hx ?hc ?he ?_; (case hx => kernel_rfl); (case hc => rfl); (case he => walk_at "m sel")))
section
variable {K : Frag} {C fInit fAdd fGet fIter fLcas fBase fFast : Addr} {mg mb : Str → Option Value} {B B' : Store}
variable {w : World} {A : Around} {E : Value → Shared → Prop} {G : Array GenState} {os : OsState} {L L' : Led} {s : Shared} {env : Env} {sc : Scope} {Lf : Addr} {cl : List (Str × Addr)} {cd : Value} {n : Nat} {x q : Addr}

theorem setPq {dx : Addr} {v : Value} {Q : Unit → Shared → Prop} (T : Top0 K C fInit fAdd fGet fIter fLcas fBase fFast mg mb B) (S : SS B G os ((dx, Is emptyDict) :: L) s) (hx : s.heap.get? x = some (instObj C dx))
    (h : ∀ hs t s', SS B G os ((dx, Is (dictOf [⟨hs, .str "pq" t, v⟩] 1)) :: L) s' → Q () s') :
    wpAny (model thePrg w) A (setAttr (.ref x) "pq" v) Q E s := by
  have D : s.heap.get? dx = some emptyDict := S.exact .head
  have I : InstAt s.heap x (instObj C dx) C (some emptyDict) := ⟨hx, rfl, rfl, D⟩
  have X := T.at S
  refine set_plain X I T.sa ?_
  refine osa_open (s := { s with toks := s.toks + 1 }) X I T.over T.taker fun b => ?_
  obtain ⟨cd, hc, hd'⟩ := any_some T.hasD
  refine wpAny_bind (wpAny_pure (wpAny_bind (wpAny_bind (wpAny_loadPart (o := instObj C dx) hx (wpAny_bind (Looks.here (s := { s with toks := s.toks + 1 }) (looks_clsIn (h := s.heap) X hc) ?_))))))
  rw [hd']
  refine wpAny_pure (a := some dx) (wpAny_bind (wpAny_pure (wpAny_bind ?_)))
  unfold nsSet
  refine wpAny_bind (wpAny_bind (wpAny_askSetting (wpAny_pure (wpAny_bind (wpAny_mkText (wpAny_bind (wpAny_loadPart (o := emptyDict) D ?_)))))))
  dsimp only [emptyDict]
  rw [aRefKeyMayBeTheName_at]
  rw [if_neg (by simp)]
  have e : ∀ hsh tk, Obj.putName "pq" hsh (.str "pq" tk) v emptyDict = dictOf [⟨hsh, .str "pq" tk, v⟩] 1 := fun hsh tk => putName_dict "pq" hsh (.str "pq" tk) v [] 0
  refine wpAny_updatePart (s := { s with toks := s.toks + 1 + 1 }) (o := emptyDict) D ?_
  generalize hH : (if (Str.ofString "pq").cps.isEmpty = true then (0 : Int) else reduceHash ((model thePrg w).w.params.strHash (Str.ofString "pq").cps)) = hsh
  have D' : (s.heap.update dx (Obj.putName "pq" hsh (.str "pq" (s.toks + 1)) v)).get? dx = some (dictOf [⟨hsh, .str "pq" (s.toks + 1), v⟩] 1) := by
    rw [Heap.get?_update_self _ D (by rw [e]; rfl), e]
  refine wpAny_bind (wpAny_lookBehind (s := { s with heap := s.heap.update dx (Obj.putName "pq" hsh (.str "pq" (s.toks + 1)) v), toks := s.toks + 1 + 1 }) D' (pastItsLine_dict (by simp [sizeLine])) ?_)
  exact wpAny_pure (h _ _ _ (S.upd (Heap.SameBut.update ..) D' rfl))

/-- WorkList() -/
theorem wl_make {Q : Value → Shared → Prop} (T : Top0 K C fInit fAdd fGet fIter fLcas fBase fFast mg mb B) (R : Rm A 8) (S : SS B G os L s)
    (h : ∀ B' x q s', Le B B' → IsWL B' C x q → SS B' G os ((q, ListO []) :: L) s' → Q (.ref x) s') : W (model thePrg w) A (call (.ref C) [] []) Q s := by
  obtain ⟨cd, F⟩ := T.fnInit
  have X := T.at S
  refine wpAny_call ?_
  obtain ⟨hh, g, d, t, os'⟩ := s
  refine make_core (makes_of X T.makes) (looks_findIn X T.init) (fun self => bind_fn X self T.initT) (.inl rfl) ?_
  have S1 : SS B G os ((hh.objs.size, Is emptyDict) :: L) ⟨hh.push emptyDict, g, d, t, os'⟩ := S.push emptyDict rfl
  have S2 := S1.push (s' := ⟨(hh.push emptyDict).push (instObj C hh.objs.size), g, d, t, os'⟩) (instObj C hh.objs.size) (P := Is (instObj C hh.objs.size)) rfl
  have ex : (hh.push emptyDict).objs.size = hh.objs.size + 1 := Heap.size_push ..
  dsimp only at S2
  rw [ex] at S2
  generalize hx : hh.objs.size + 1 = x at S2 ⊢
  generalize hdx : hh.objs.size = dx at S2 ⊢
  generalize (⟨(hh.push emptyDict).push (instObj C dx), g, d, t, os'⟩ : Shared) = s2 at S2 ⊢
  clear S1 S hx hdx ex
  have R' : Rm (A.under (.builtin "type.__call__" ⟨.ref C :: [], []⟩)) 7 := ⟨by rw [depth_under_make]; have := R.d; omega, by rw [units_under_make]; have := R.u; omega, R.h⟩
  refine callFc (n := 6) (args := ⟨[.ref x], []⟩) (binds := [("self", .ref x)]) (rest := []) R' T.lim F S2 ?_ (by kernel_rfl) (by kernel_rfl) (by kernel_rfl) (by kernel_rfl) (by kernel_rfl) (by kernel_rfl) ?_
  · intro fd h1 h2 h3
    refine BindsTo.of_eq ?_
    unfold bindArgs
    rw [h1, h2]
    kernel_rfl
  clear S2
  intro env Lf s I R S
  simp only [List.map_cons, List.map_nil, List.cons_append, List.nil_append] at S
  refine wpAny_execs_cons ?_
  refine plainObj_wpAny_Assign_Attribute ?_ (hs := rfl)
  refine eList ?_
  refine args_nil ?_
  refine newList_ S (by simp) fun q s S => ?_
  walk_at "m name"
  have hx := S.exact (e := .tail (.tail .head))
  have S := S.front (e := .tail (.tail (.tail .head)))
  refine setPq T S hx fun hs t s S => ?_
  refine wpAny_execs_nil ?_
  obtain ⟨B1, o1, le1, h1, hB1, S⟩ := S.freeze
  cases h1
  have S := S.front (e := .tail (.tail .head))
  obtain ⟨B2, o2, le2, h2, hB2, S⟩ := S.freeze
  cases h2
  have S := S.dropAt (e := .tail .head)
  exact ⟨rfl, h B2 x q s (le1.trans le2) ⟨dx, hs, t, 1, hB2, le2 _ _ hB1⟩ S⟩
end
end Mine

end
section
open PySem PySem.W PySem.W.X PySem.Calls PyProof.Rows Builtin
set_option Elab.async false
set_option maxRecDepth 100000
set_option linter.unusedVariables false
namespace Mine

/-! walking a list -/
def IterO (l : Addr) (i : Nat) : OP := fun o => o.cls = .type "list_iterator" ∧ o.data = .fields #[.ref l, .int i 0]
section
variable {prog : Program} {w : World} {A : Around} {E : Value → Shared → Prop} {B B' : Store} {G : Array GenState} {os : OsState} {L L' : Led} {s : Shared} {n : Nat} {l it : Addr} {i : Nat} {vs : List Value}
theorem iter_list {Q : Value → Shared → Prop} (S : SS B G os L s) (hl : s.heap.IsList l vs.toArray) (h : ∀ it s', SS B G os ((it, IterO l 0) :: L) s' → Q (.ref it) s') : wpAny (model prog w) A (pyIter (.ref l)) Q E s :=
  wpAny_pyIter_list hl (h _ _ (S.push { cls := .type "list_iterator", data := .fields #[.ref l, .int 0 0] } ⟨rfl, rfl⟩))
theorem next_item {v : Value} {Q : Option Value → Shared → Prop} (S : SS B G os ((it, IterO l i) :: L) s) (hl : s.heap.IsList l vs.toArray) (hx : vs[i]? = some v) (h : ∀ s', SS B G os ((it, IterO l (i + 1)) :: L) s' → Q (some v) s') :
    wpAny (model prog w) A (pyNext (.ref it)) Q E s := by
  obtain ⟨o, ho, hc, hd⟩ := S.get .head
  refine wpAny_pyNext_list_item ⟨o, ho, hc, hd⟩ hl (x := v) (by simpa using hx) fun h' hi hs => h _ ?_
  obtain ⟨o', ho', hc', hd'⟩ := hi
  exact S.upd hs ho' ⟨hc', hd'⟩
theorem next_end {Q : Option Value → Shared → Prop} (R : Rm A n) (S : SS B G os ((it, IterO l i) :: L) s) (hl : s.heap.IsList l vs.toArray) (hx : vs.length ≤ i) (h : ∀ s', SS B G os L s' → Q none s') :
    wpAny (model prog w) A (pyNext (.ref it)) Q E s := by
  obtain ⟨o, ho, hc, hd⟩ := S.get .head
  have hn := List.nodup_cons.mp (show (it :: L.map (·.1)).Nodup from S.nodup)
  refine wpAny_pyNext_list_end R.h ⟨o, ho, hc, hd⟩ hl (by simpa using hx) fun h' he => h _ ?_
  refine ⟨fun b o e => he b o (fun q => ?_) (S.keep b o e), fun p hp => ?_, fun p hp => S.new p (.tail _ hp), hn.2, S.gens, S.os⟩
  · have := S.new _ (List.Mem.head _); rw [q, this] at e; cases e
  · obtain ⟨o, e, x⟩ := S.led p (.tail _ hp)
    exact ⟨o, he _ _ (fun q => hn.1 (q ▸ List.mem_map_of_mem hp)) e, x⟩
end

/-- what is walked owns no tuple that it hands out -/
theorem letGo {prog : Program} {w : World} {A : Around} {s : Shared} {it : Addr} {o : Obj} {n : String} {target : Expr} {v : Value} {Q : Unit → Shared → Prop} {E : Value → Shared → Prop} (ho : s.heap.get? it = some o) (hc : o.cls = .type n)
    (hn : ["enumerate", "zip", "dict_itemiterator", "dict_reverseitemiterator", "odict_iterator", "itertools.zip_longest", "itertools.pairwise"].contains n = false) (h : Q () s) : wpAny (model prog w) A (letOwnedTupleGo target (.ref it) v) Q E s := by
  unfold letOwnedTupleGo
  cases target <;> first
    | exact wpAny_pure h
    | (cases v <;> first
        | exact wpAny_pure h
        | (refine wpAny_bind (wpAny_load ho ?_)
           rw [hc]
           cases o.data <;> first
             | exact wpAny_pure h
             | (dsimp only
                rw [hn]
                exact wpAny_pure h)))

/-! one stretch of a generator's run -/
section
variable {M : Model} {A : Around} {c : Code} {fs : List Frame} {s : Shared} {P : End → Shared → Prop} {env : Env} {K : Flow → Sem Fin} {H : Value → Sem Fin} {gd : Bool → Bool} {lv : List Value → List Value}
theorem x_wrap {α : Type} {m : Sem α} {K : α → Sem Fin} {H : Value → Sem Fin} {gd lv} (h : wpAny M (A.over c fs) m (fun a s' => SegX M A c (K a) fs s' P) (fun x s' => SegX M A c (H x) fs s' P) s) : SegX M A c (m.wrap K H gd lv) fs s P := by
  rintro Γ p rfl hΓ
  obtain ⟨e, s', hr, hq⟩ := runs_wrap_of_wp (Φ := fun e s' => e.quiet = true ∧ P e s') K H gd lv m (h (Γ.over fs) p (hΓ.over fs)) (fun a p' s' h' => h' Γ p' rfl hΓ) (fun x p' s' h' => h' Γ p' rfl hΓ)
  exact ⟨e, s', hr, hq⟩
theorem x_wrap0 {α : Type} {m : Sem α} {K : α → Sem Fin} {H : Value → Sem Fin} {gd lv} (h : W M (A.over c fs) m (fun a s' => SegX M A c (K a) fs s' P) s) : SegX M A c (m.wrap K H gd lv) fs s P := x_wrap h.up
theorem x_execs_cons {st : Stmt} {rest : List Stmt} (h : SegX M A c ((exec st env).wrap (fun f => match f with | .next => (execs rest env).wrap K H gd lv | f => K f) H gd lv) fs s P) :
    SegX M A c ((execs (st :: rest) env).wrap K H gd lv) fs s P := by rw [execs_cons_wrap]; exact h
theorem x_at {q : Pos} {k : Unit → Sem Fin} (h : SegX M A c (k ()) fs s P) : SegX M A c (.at q k) fs s P :=
  x_wrap (m := standAt q) (K := k) (H := .raise) (gd := id) (lv := id) (wpAny_standAt h)
end
section
variable {prog : Program} {w : World} {A : Around} {c : Code} {fs : List Frame} {s : Shared} {P : End → Shared → Prop} {env : Env} {K : Flow → Sem Fin} {H : Value → Sem Fin} {gd : Bool → Bool} {lv : List Value → List Value}
theorem x_func {body : List Stmt} (h : SegX (model prog w) A (.func body env) ((execs body env).wrap (fun f => .pure (.done (.ret (match f with | .ret v => v | _ => .none)))) (fun e => (leaving env e).wrap (fun _ => .raise e) .raise id id) id id) fs s P) :
    SegX (model prog w) A (.func body env) (denote table (.func body env)) fs s P := by
  show SegX _ A _ (.point [] fun _ => ((execs body env).onRaise (leaving env)) >>= _) fs s P
  refine x_wrap (m := point) (H := .raise) (gd := id) (lv := fun _ => []) (wpAny_point ?_)
  rw [Sem.onRaise_eq_wrap, Sem.bind_eq_wrap', Sem.wrap_wrap]
  rw [Sem.wrap_congr (execs body env) _ _ (K' := fun f => .pure (.done (.ret (match f with | .ret v => v | _ => .none))))
    (H' := fun e => (leaving env e).wrap (fun _ => .raise e) .raise id id) (fun f => by cases f <;> rfl)
    (fun e => by rw [Sem.bind_eq_wrap, Sem.wrap_wrap]; rfl)]
  exact h
theorem x_Yield {e : Expr} {ypos pos : Pos} (hfs : splitAtGen fs = none) (hgd : gd false = false) (hfg : fs.any Frame.guarded = false) (hco : env.scope.isCoroutine = false) (hi : interactive env = false)
    (h : W (model prog w) (A.over c fs) (eval e env) (fun v s' => ∀ (l : List Value) (k : Resume → Sem Fin) (p : Pos), k (.send .none) = K .next → P (.susp v false l k c p fs) s') s) :
    SegX (model prog w) A c ((exec (.Expr (.Yield (some e) ypos) pos) env).wrap K H gd lv) fs s P := by
  rw [exec_Expr env _ pos hi rfl]
  show SegX _ A c (.at pos fun _ => ((eval e env >>= fun v => (standAt ypos >>= fun _ => yieldOut env v)) >>= fun x => dropValue (.Yield (some e) ypos) pos x).wrap K H gd lv) fs s P
  have hy : ∀ v, yieldOut env v = yieldValue v := fun v => by simp only [yieldOut, hco, Bool.false_eq_true, if_false]
  simp only [hy]
  refine x_at ?_
  rw [Sem.bind_eq_wrap', Sem.bind_eq_wrap', Sem.wrap_wrap, Sem.wrap_wrap]
  refine x_wrap0 (W.mono h fun v s' h' => ?_)
  refine x_at ?_
  have e1 : gd (id (id false)) = false := hgd
  show SegX _ A c (.yield v (gd (id (id false))) _ _) fs s' P
  rw [e1]
  exact s_yield prog w A c fs P s' v _ _ hfs hfg fun p => h' _ _ p rfl
theorem x_For {target iter : Expr} {body orelse : List Stmt} {pos : Pos} (hs : ∀ x, foldedSetIterable iter env x = pure x)
    (h : W (model prog w) (A.over c fs) (eval iter env) (fun x s₁ => W (model prog w) (A.over c fs) (pyIter x) (fun it s₂ => ∀ p,
      SegX (model prog w) A (.forLoop target it body orelse env) (denote table (.forLoop target it body orelse env))
        (.ret (fun r => ((match r with | .ok f => (.pure f : Sem Flow) | .error e => .raise e).onRaise fun (x : Value) => do
          if (← field x 1) == Value.none then unsupported "frame.own-activation:exception-without-traceback"
          setFlight x env.frame).wrap K H gd lv) none (gd false) (lv []) c p [] :: fs) s₂ P) s₁) s) :
    SegX (model prog w) A c ((exec (.For target iter body orelse pos) env).wrap K H gd lv) fs s P := by
  rw [exec_For]
  refine x_at ?_
  have e1 : ∀ {α : Type} (m : Sem α) (f : α → Sem Flow), (m >>= f).wrap K H gd lv = m.wrap (fun a => (f a).wrap K H gd lv) H (fun g => gd g) (fun l => lv l) := fun m f => by
    rw [Sem.bind_eq_wrap', Sem.wrap_wrap]; rfl
  show SegX _ A c ((eval iter env >>= fun x => foldedSetIterable iter env x >>= fun x => (standAt iter.pos >>= fun _ => (holding [x] (pyIter x) >>= fun it => runOwn (.forLoop target it body orelse env) env))).wrap K H gd lv) fs s P
  rw [e1]
  refine x_wrap0 (W.mono h fun x s₁ h₁ => ?_)
  rw [hs x]
  show SegX _ A c ((standAt iter.pos >>= fun _ => (holding [x] (pyIter x) >>= fun it => runOwn (.forLoop target it body orelse env) env)).wrap K H gd lv) fs s₁ P
  refine x_at ?_
  show SegX _ A c ((holding [x] (pyIter x) >>= fun it => runOwn (.forLoop target it body orelse env) env).wrap K H gd lv) fs s₁ P
  rw [e1]
  refine x_wrap0 (wpAny_holding (W.mono h₁ fun it s₂ h₂ => ?_))
  exact s_call prog w A c fs P s₂ (.forLoop target it body orelse env) none _ _ _ h₂

/-- a turn of a for loop in a generator -/
theorem x_forLoop {target : Expr} {it : Value} {body orelse : List Stmt}
    (h : W (model prog w) (A.over (.forLoop target it body orelse env) fs) (pyNext it) (fun r s₁ => match r with
      | none => SegX (model prog w) A (.block orelse env) (denote table (.block orelse env)) fs s₁ P
      | some v => W (model prog w) (A.over (.forLoop target it body orelse env) fs) (letOwnedTupleGo target it v) (fun _ s₁' => W (model prog w) (A.over (.forLoop target it body orelse env) fs) (assign target env v) (fun _ s₂ =>
          SegX (model prog w) A (.forLoop target it body orelse env) ((execs body env).wrap (fun f => match f with
            | .next | .cont => .pure (.again (.forLoop target it body orelse env))
            | .brk => .pure (.done .next)
            | .ret v => .pure (.done (.ret v))) (fun e => (do noteFrame e env; theTreesLotGoes e : Sem Unit).wrap (fun _ => .raise e) .raise id id) id id) fs s₂ P) s₁') s₁) s) :
    SegX (model prog w) A (.forLoop target it body orelse env) (denote table (.forLoop target it body orelse env)) fs s P := by
  show SegX _ A _ ((forTurn target it body orelse env).onRaise (fun x => do noteFrame x env; theTreesLotGoes x)) fs s P
  have e1 : ∀ {α : Type} {K : Fin → Sem Fin} {H : Value → Sem Fin} {gd : Bool → Bool} {lv : List Value → List Value} (m : Sem α) (f : α → Sem Fin), (m >>= f).wrap K H gd lv = m.wrap (fun a => (f a).wrap K H gd lv) H (fun g => gd g) (fun l => lv l) := fun m f => by
    rw [Sem.bind_eq_wrap', Sem.wrap_wrap]; rfl
  rw [Sem.onRaise_eq_wrap]
  unfold forTurn
  rw [e1]
  refine x_wrap (m := standAt target.pos) (wpAny_standAt ?_)
  rw [e1]
  refine x_wrap0 (wpAny_onRaise (W.up (W.mono h fun r s₁ h₁ => ?_)))
  cases r with
  | none => exact s_again prog w A _ fs P s₁ _ rfl h₁
  | some v =>
    dsimp only at h₁ ⊢
    show SegX _ A _ ((letOwnedTupleGo target it v >>= fun _ => assign target env v >>= fun _ => execs body env >>= fun f => _).wrap _ _ _ _) fs s₁ P
    rw [e1]
    refine x_wrap0 (W.mono h₁ fun _ s₁' h₁' => ?_)
    rw [e1]
    refine x_wrap0 (W.mono h₁' fun _ s₂ h₂ => ?_)
    rw [e1]
    rw [Sem.wrap_congr (execs body env) _ _ (K' := fun f => match f with
            | .next | .cont => .pure (.again (.forLoop target it body orelse env))
            | .brk => .pure (.done .next)
            | .ret v => .pure (.done (.ret v))) (H' := (fun e => (do noteFrame e env; theTreesLotGoes e : Sem Unit).wrap (fun _ => .raise e) .raise id id))
        (fun f => by cases f <;> rfl)
        (fun e => by first | exact Sem.bind_eq_wrap _ _ | (show (do noteFrame e env; theTreesLotGoes e : Sem Unit).bind (fun _ => .raise e) = _; rw [Sem.bind_eq_wrap]))]
    exact h₂
end
end Mine

end
section
open PySem PySem.W PySem.W.X PySem.Calls PyProof.Rows Builtin
set_option Elab.async false
set_option maxRecDepth 100000
set_option linter.unusedVariables false
namespace Mine
local macro_rules | `(tactic| walk_at "m sel") => `(tactic| first | with_reducible apply Sel.head | (apply Sel.tail; walk_at "m sel"))
local macro_rules | `(tactic| walk_at "m lget") => `(tactic| first | with_reducible apply LGet.head | (apply LGet.tail; walk_at "m lget"))
local macro_rules | `(tactic| walk_at "m lset") => `(tactic| first | with_reducible apply LSet.head | (apply LSet.tail; walk_at "m lset"))
local macro_rules | `(tactic| walk_at "m mg") => `(tactic| first | exact Top0.gPush (by assumption) | exact Top0.gPop (by assumption) | exact Top0.gWL (by assumption) | exact Top0.gLcas (by assumption) | exact Top0.gBase (by assumption) | exact Top0.gFast (by assumption))
local macro_rules | `(tactic| walk_at "m name") => `(tactic| first
  | (refine' nmL (by assumption) (by assumption) ?hx ?hd ?he ?hg ?_; (case hx => kernel_rfl); (case hd => kernel_rfl); (case he => walk_at "m sel"); (case hg => walk_at "m lget"))
  | (refine' nmC (by assumption) (by assumption) ?hx ?hd ?hc ?he ?_; (case hx => kernel_rfl); (case hd => kernel_rfl); (case hc => rfl); (case he => walk_at "m sel"))
  | (refine' nmF (by assumption) (by assumption) ?hx ?hd ?hd2 ?hc ?he ?_; (case hx => kernel_rfl); (case hd => kernel_rfl); (case hd2 => kernel_rfl); (case hc => rfl); (case he => walk_at "m sel"))
  | (refine' nmG (by assumption) (by assumption) (Top0.glob (by assumption)) ?hx ?hd ?hv ?_; (case hx => kernel_rfl); (case hd => kernel_rfl); (case hv => walk_at "m mg")))
local macro_rules | `(tactic| walk_at "m store") => `(tactic| first
  | (refine' stL (by assumption) (by assumption) ?hx ?he ?hg ?_; (case hx => kernel_rfl); (case he => walk_at "m sel"); (case hg => walk_at "m lset"))
  | (refine' stC (by assumption) (by assumption) ?hx ?hc ?he ?_; (case hx => kernel_rfl); (case hc => rfl); (case he => walk_at "m sel")))
section
variable {K : Frag} {C fInit fAdd fGet fIter fLcas fBase fFast : Addr} {mg mb : Str → Option Value} {B B' : Store}
variable {w : World} {A : Around} {E : Value → Shared → Prop} {G : Array GenState} {os : OsState} {L L' : Led} {s : Shared} {env : Env} {sc : Scope} {Lf : Addr} {cl : List (Str × Addr)} {cd : Value} {n : Nat} {x q : Addr}

def IsGenS (B : Store) (a : Addr) (g : Nat) : Prop := ∃ o nm qn, B a = some o ∧ o.cls = .type "generator" ∧ o.data = .fields #[.int g 0, nm, qn] ∧ o.slots = #[]
theorem IsGenS.mono {a : Addr} {g : Nat} (h : IsGenS B a g) (l : Le B B') : IsGenS B' a g := let ⟨o, nm, qn, x, r⟩ := h; ⟨o, nm, qn, l _ _ x, r⟩
theorem IsGenS.at {a : Addr} {g : Nat} (h : IsGenS B a g) (S : SS B G os L s) : s.heap.IsGen a g := let ⟨o, nm, qn, x, r⟩ := h; ⟨o, nm, qn, S.keep _ _ x, r⟩

/-- a generator in state gs goes on -/
def Res (w : World) (A : Around) (gs : GenState) (s : Shared) (P : End → Shared → Prop) : Prop := match gs with
  | .fresh c => SegX (model thePrg w) A c (denote table c) [] s P
  | .suspended k _ c _ fs _ => SegX (model thePrg w) A c (k (.send .none)) fs s P
  | _ => False

theorem next_gen {a : Addr} {g : Nat} {gs : GenState} {P : End → Shared → Prop} {Q : Option Value → Shared → Prop} (R : Rm A n) (hl : NoLimitS B) (S : SS B G os L s) (hg : IsGenS B a g) (hgs : s.gens[g]? = some gs)
    (hr : Res w A.in1 gs (s.setGen g .running) P) (hn : ∀ r s', P (.ret r) s' → r = .ok (.ret .none))
    (hy : ∀ e s', P e s' → e.quiet = true → ∀ v, e.result = .yielded v → Q (some v) (s'.setGen g e.genState))
    (he : ∀ s', P (.ret (.ok (.ret .none))) s' → ∀ h', (∀ b o, s'.heap.get? b = some o → h'.get? b = some o) → Q none { s'.setGen g .finished with heap := h' }) :
    wpAny (model thePrg w) A (pyNext (.ref a)) Q E s := by
  have hg := hg.at S
  unfold pyNext
  refine wpAny_bind (wpAny_attempt (wpAny_callSpecial?_slot (name := Str.ofString "__next__") hg.typeIs slot_gen_next
    (wpAny_call_entry slot_gen_next hg.typeIs entry_gen_next ?_ (args_gen_next _))))
  show wpAny _ A.in1 (Builtin.Generator.genWake (.ref a) (.send .none)) _ _ s
  unfold Builtin.Generator.genWake
  refine wpAny_bind (wpAny_holding (wpAny_genNumber hg (wpAny_bind (wpAny_genState hgs ?_))))
  have key : ∀ {l : List Value} {k : GenResult → Sem Fin} {Q' : Fin → Shared → Prop} {E' : Value → Shared → Prop},
      (∀ e s', P e s' → e.quiet = true → wpAny (model thePrg w) A.in1 (k e.result) Q' E' (s'.setGen g e.genState)) → wpAny (model thePrg w) A.in1 (.resume g (.send .none) l k) Q' E' s := by
    intro l k Q' E' hk Γ p hΓ
    have conv : ∀ {c t fs}, SegX (model thePrg w) A.in1 c t fs (s.setGen g .running) P → SegX (model thePrg w) A.in1 c t fs (s.setGen g .running)
        (fun e s₁ => ∀ Γ p, Γ.In A.in1 → Sem.wp (model thePrg w) Γ (k e.result) (fun a _ s' => Q' a s') (fun e _ s' => E' e s') p (s₁.setGen g e.genState)) := fun hx Γ p hc hΓ => by
      obtain ⟨e, s', hr, hq, hp⟩ := hx Γ p hc hΓ
      exact ⟨e, s', hr, hq, fun Γ p hΓ => hk e s' hp hq Γ p hΓ⟩
    cases gs with
    | fresh c => exact wake_any _ thePrg w (A := A.in1) hgs (.inl ⟨rfl, rfl, rfl, rfl⟩) (fun Γ => Γ.In A.in1) (fun _ h => h) (conv hr) Γ p hΓ
    | suspended k₀ l₀ c₀ p₀ fs₀ cl => exact wake_any _ thePrg w (A := A.in1) hgs (.inr ⟨k₀, l₀, p₀, cl, rfl, rfl⟩) (fun Γ => Γ.In A.in1) (fun _ h => h) (conv hr) Γ p hΓ
    | running => exact hr.elim
    | finished => exact hr.elim
  cases gs with
  | running => exact hr.elim
  | finished => exact hr.elim
  | _ =>
    refine wpAny_bind (wpAny_roomToWake (hl.at S) R.room ?_)
    show wpAny _ A.in1 (.resume g (.send .none) [] _) _ _ s
    refine key fun e s₁ hp hq => ?_
    cases e with
    | ret r =>
      obtain rfl := hn r s₁ hp
      show wpAny _ A.in1 (newExc (.type "StopIteration") [] >>= _) _ _ _
      refine wpAny_bind ?_
      simp only [newExc, newTuple]
      refine wpAny_bind (wpAny_newObj_type ?_ (by size_fits))
      refine wpAny_bind (m := firstArgMember _ _) (wpAny_of_eq (a := Value.none) (by first | rfl | (simp only [firstArgMember]; rfl)) ?_)
      refine wpAny_newObj_type ?_ (by size_fits)
      simp only [raiseNew]
      refine wpAny_bind (wpAny_bind (wpAny_handled ?_))
      rw [show A.in1.handled = none from R.h]
      refine wpAny_throw ?_
      refine wpAny_bind (wpAny_isInstance (T := "StopIteration") (b := true) ⟨_, Heap.get?_push_size _ rfl, rfl⟩ isSubtype_stop ?_)
      exact wpAny_pure (he s₁ hp _ fun b o hb => Heap.get?_push_of_some _ (Heap.get?_push_of_some _ hb))
    | susp v gd l k c p fs => exact wpAny_pure ⟨v, rfl, wpAny_pure (hy _ s₁ hp hq v rfl)⟩

set_option maxHeartbeats 1000000 in
/-- wlst.iter() -/
theorem iter_call {Q : Value → Shared → Prop} (T : Top0 K C fInit fAdd fGet fIter fLcas fBase fFast mg mb B) (R : Rm A 4) (S : SS B G os L s)
    (h : ∀ B' a env Lg cd s', Le B B' → IsGenS B' a G.size → EnvIs env (fnSc sIter) Lg [] cd → SS B' (G.push (.fresh (.func (fnBd sIter) env))) os ((Lg, LocO [("self", some (.ref x)), ("pr", none), ("cmt", none)]) :: L) s' → Q (.ref a) s') :
    W (model thePrg w) A (call (.ref fIter) [.ref x]) Q s := by
  obtain ⟨cd, F⟩ := T.fnIter
  obtain ⟨o, fd, ho, hc, hd, e1, e2, e3, e4, e5, e5', e6, e7, e8, hcr⟩ := F.ex
  refine wpAny_call (codeAny_call_generator R.room (S.keep _ _ ho) hd (by rw [e3]; kernel_rfl) (by rw [e3]; kernel_rfl) e2 (by rw [e8]; exact hcr.at S) ?_)
  refine BindsTo.of_eq (binds := [("self", .ref x)]) ?_ _ _ _ _ ?_
  · unfold bindArgs
    rw [e1, e5]
    kernel_rfl
  rw [e3, e4, e6, e7, e8]
  refine wpAny_newFunctionEnv ?_ ?_ (fun h' hns hsb => ?_) (by kernel_rfl)
  · have : (fnSc sIter).names.all (fun x => x.2 != .cell) = true := by kernel_rfl
    exact fun x hx => by simpa using List.all_eq_true.mp this x hx
  · have : [(("self" : Str), Value.ref x)].all (fun x => (fnSc sIter).names.lookup x.1 == some .local) = true := by kernel_rfl
    exact fun x hx => by simpa using List.all_eq_true.mp this x hx
  have hlim := T.lim.at S
  refine ⟨hlim.fresh _ hsb, ?_⟩
  obtain ⟨oL, hoL, hloc⟩ := LocO.init hns (l := [("self", some (.ref x)), ("pr", none), ("cmt", none)]) (of_decide_eq_true (by kernel_rfl)) (locs_binds (binds := [("self", .ref x)]) (rest := ["pr", "cmt"]) (of_decide_eq_true (by kernel_rfl)))
  have S1 : SS B G os ((s.heap.objs.size, LocO [("self", some (.ref x)), ("pr", none), ("cmt", none)]) :: L) { s with heap := h', toks := s.toks + 1 } :=
    S.add (fun b o' e => hsb.extBut b o' (Nat.ne_of_lt (Heap.lt_size e)) (Heap.get?_push_of_some _ e)) (Heap.get?_none_of_le (Nat.le_refl _)) hoL hloc
  let og : Obj := { cls := .type "generator", data := .fields #[.int s.gens.size 0, .str fd.name (s.toks + 1), .str fd.qualname (s.toks + 1 + 1)] }
  have S2 := S1.push (s' := { s with heap := h'.push og, toks := s.toks + 1 + 1 + 1 }) og (P := Is og) rfl
  obtain ⟨B', o', le, h1, hB, S3⟩ := S2.freeze
  cases h1
  refine h B' _ (newEnv (fnSc sIter) s.heap.objs.size mainGlobals [] (fd.qualname ++ ".<locals>.") (some fIter) cd none builtinsNs) s.heap.objs.size cd _ le ?_ ⟨rfl, rfl, rfl, rfl, rfl, rfl, by kernel_rfl⟩ ?_
  · rw [← S.gens]; exact ⟨og, _, _, hB, rfl, rfl, rfl⟩
  · exact ⟨S3.keep, S3.led, S3.new, S3.nodup, by show s.gens.push _ = _; rw [S.gens], S3.os⟩

/-- the generator's frame -/
def GLoc (x : Addr) : OP := fun o => ∃ u1 u2, LocO [("self", some (.ref x)), ("pr", u1), ("cmt", u2)] o
/-- the generator stands ahead of the last n items; pre is what it holds -/
def GenSt (w : World) (A : Around) (B₀ : Store) (os : OsState) (q : Addr) (vs : List Value) (ks : List Key) : Nat → GenState → Led → Prop
  | 0, gs, pre => ∀ B G L s, Le B₀ B → SS B G os (pre ++ (q, ListO vs) :: L) s → Res w A gs s (fun e s' => e = .ret (.ok (.ret .none)) ∧ SS B G os ((q, ListO vs) :: L) s')
  | m + 1, gs, pre => ∀ B G L s, Le B₀ B → SS B G os (pre ++ (q, ListO vs) :: L) s → Res w A gs s (fun e s' =>
      ∃ v B' pre', e.result = .yielded v ∧ Le B B' ∧ IsPair B' v (-(gk ks (ks.length - (m + 1))).1, (gk ks (ks.length - (m + 1))).2) ∧ SS B' G os (pre' ++ (q, ListO vs) :: L) s' ∧
        GenSt w A B₀ os q vs ks m e.genState pre')

abbrev iterFor : Stmt := (fnBd sIter).getD 0 (.Pass default)
def forTg : Stmt → Expr | .For t _ _ _ _ => t | _ => default
def forIt : Stmt → Expr | .For _ i _ _ _ => i | _ => default
def forBd : Stmt → List Stmt | .For _ _ b _ _ => b | _ => []

theorem GLoc.weak (S : SS B G os ((q, GLoc x) :: L) s) : ∃ u1 u2, SS B G os ((q, LocO [("self", some (.ref x)), ("pr", u1), ("cmt", u2)]) :: L) s := by
  obtain ⟨o, ho, u1, u2, hl⟩ := S.led _ (.head _)
  refine ⟨u1, u2, S.keep, fun p hp => ?_, fun p hp => ?_, S.nodup, S.gens, S.os⟩
  · rcases List.mem_cons.mp hp with rfl | hp
    · exact ⟨o, ho, hl⟩
    · exact S.led p (.tail _ hp)
  · rcases List.mem_cons.mp hp with rfl | hp
    · exact S.new (q, GLoc x) (.head _)
    · exact S.new p (.tail _ hp)

theorem iter_loop {Lg it : Addr} {vs : List Value} {ks : List Key} (T : Top0 K C fInit fAdd fGet fIter fLcas fBase fFast mg mb B) (R : Rm A 8) (hw : IsWL B C x q) (hr : Rel2 (IsPair B) vs ks) (I : EnvIs env (fnSc sIter) Lg [] cd)
    {F : Frame} {kk : Result → Sem Fin} {lv : List Value} {pf : Pos} {kp : List Value} (hF : F = .ret kk none false lv (.func (fnBd sIter) env) pf kp) (hk : kk (.ok .next) = .pure (.done (.ret .none))) :
    ∀ (m : Nat) (B' : Store) (G : Array GenState) (L : Led) (s : Shared), m ≤ ks.length → Le B B' → SS B' G os ((it, IterO q (ks.length - m)) :: (Lg, GLoc x) :: (q, ListO vs) :: L) s →
      SegX (model thePrg w) A (.forLoop (forTg iterFor) (.ref it) (forBd iterFor) [] env) (denote table (.forLoop (forTg iterFor) (.ref it) (forBd iterFor) [] env)) [F] s (fun e s' => match m with
        | 0 => e = .ret (.ok (.ret .none)) ∧ SS B' G os ((q, ListO vs) :: L) s'
        | m' + 1 => ∃ v B'' pre', e.result = .yielded v ∧ Le B' B'' ∧ IsPair B'' v (-(gk ks (ks.length - (m' + 1))).1, (gk ks (ks.length - (m' + 1))).2) ∧ SS B'' G os (pre' ++ (q, ListO vs) :: L) s' ∧
            GenSt w A B os q vs ks m' e.genState pre') := by
  intro m
  have R' : Rm (A.over (.forLoop (forTg iterFor) (.ref it) (forBd iterFor) [] env) [F]) 4 := by subst hF; exact ⟨by have := R.d; show A.depth + 1 + 0 + 4 ≤ 900; omega, by have := R.u; show A.units + 3 + 0 + 20 * 4 ≤ 9800; omega, R.h⟩
  induction m with
  | zero =>
    intro B' G L s hm le S
    refine x_forLoop ?_
    refine next_end R' S (vs := vs) (S.isList (.tail (.tail .head))) (by rw [hr.1]; omega) fun s' S' => ?_
    dsimp only
    subst hF
    refine s_pop thePrg w A _ _ _ _ (.ok .next) _ rfl _ _ _ _ _ _ _ ?_
    rw [hk]
    exact s_end thePrg w A _ _ _ (.ok (.ret .none)) _ rfl ⟨rfl, S'.drop⟩
  | succ m ih =>
    intro B' G L s hm le S
    refine x_forLoop ?_
    obtain ⟨v, hv, hp⟩ := hr.gk (i := ks.length - (m + 1)) (by omega)
    refine next_item S (vs := vs) (S.isList (.tail (.tail .head))) hv fun s' S' => ?_
    rw [show ks.length - (m + 1) + 1 = ks.length - m by omega] at S'
    dsimp only
    obtain ⟨oi, hoi, hci, -⟩ := S'.get .head
    refine letGo hoi hci (by decide) ?_
    obtain ⟨ta, t1, t2, rfl, ht⟩ := (hp.mono le).isTup S'
    clear S
    have S := S'.front (e := .tail .head)
    obtain ⟨u1, u2, S⟩ := GLoc.weak S
    clear S' hoi
    refine unpack2 R' S ht fun s S => ?_
    walk_at "m store"
    intro s S
    walk_at "m store"
    intro s S
    refine x_execs_cons ?_
    refine x_Yield (by subst hF; rfl) (by rfl) (by subst hF; rfl) (by rw [I.scope]; kernel_rfl) I.ni ?_
    refine eTuple ?_
    refine args_cons (he := rfl) ?_
    refine UnaryOp_ ?_
    walk_at "m name"
    refine negS S fun _ s S => ?_
    refine args_cons (he := rfl) ?_
    walk_at "m name"
    refine args_nil ?_
    refine newTuple_ S (by simp) fun tb s S => ?_
    obtain ⟨B'', o, le', ⟨hc, hd, n0, hdat⟩, hB, S⟩ := S.freeze
    have hp : IsPair B'' (.ref tb) (-(gk ks (ks.length - (m + 1))).1, (gk ks (ks.length - (m + 1))).2) := ⟨tb, o, n0, _, _, rfl, hB, hc, hd, hdat⟩
    intro l k p hkk
    have S := S.weak (P' := GLoc x) fun o h => ⟨_, _, h⟩
    have S := S.front (e := .tail .head)
    refine ⟨_, B'', [(it, IterO q (ks.length - m)), (Lg, GLoc x)], rfl, le', hp, S, ?_⟩
    have hk' : k (.send .none) = .pure (.again (.forLoop (forTg iterFor) (.ref it) (forBd iterFor) [] env)) := hkk
    clear S
    cases m with
    | zero =>
      intro B G L s le S
      show SegX _ _ _ (k (.send .none)) _ s _
      rw [hk']
      exact s_again thePrg w A _ _ _ _ _ rfl (ih B G L s (by omega) le S)
    | succ m =>
      intro B G L s le S
      show SegX _ _ _ (k (.send .none)) _ s _
      rw [hk']
      exact s_again thePrg w A _ _ _ _ _ rfl (ih B G L s (by omega) le S)

theorem iter_fresh {Lg : Addr} {vs : List Value} {ks : List Key} (T : Top0 K C fInit fAdd fGet fIter fLcas fBase fFast mg mb B) (R : Rm A 8) (hw : IsWL B C x q) (hr : Rel2 (IsPair B) vs ks) (I : EnvIs env (fnSc sIter) Lg [] cd) :
    GenSt w A B os q vs ks ks.length (.fresh (.func (fnBd sIter) env)) [(Lg, LocO [("self", some (.ref x)), ("pr", none), ("cmt", none)])] := by
  have key : ∀ B' (G : Array GenState) (L : Led) s, Le B B' → SS B' G os ((Lg, LocO [("self", some (.ref x)), ("pr", none), ("cmt", none)]) :: (q, ListO vs) :: L) s →
      SegX (model thePrg w) A (.func (fnBd sIter) env) (denote table (.func (fnBd sIter) env)) [] s (fun e s' => match ks.length with
        | 0 => e = .ret (.ok (.ret .none)) ∧ SS B' G os ((q, ListO vs) :: L) s'
        | m' + 1 => ∃ v B'' pre', e.result = .yielded v ∧ Le B' B'' ∧ IsPair B'' v (-(gk ks (ks.length - (m' + 1))).1, (gk ks (ks.length - (m' + 1))).2) ∧ SS B'' G os (pre' ++ (q, ListO vs) :: L) s' ∧
            GenSt w A B os q vs ks m' e.genState pre') := by
    intro B' G L s le S
    refine x_func ?_
    refine x_execs_cons ?_
    refine x_For (fun _ => rfl) ?_
    refine Attribute_name ?_
    walk_at "m name"
    refine pq_get (T.mono le) S (hw.mono le) fun s S => ?_
    refine iter_list S (S.isList (.tail .head)) fun it s S => ?_
    intro p
    have S := S.front (e := .tail .head)
    have S := S.weak (P' := GLoc x) fun o h => ⟨_, _, h⟩
    have S := S.front (e := .tail .head)
    exact iter_loop T R hw hr I rfl rfl ks.length B' G L s (Nat.le_refl _) le (by rw [Nat.sub_self]; exact S)
  generalize hm : ks.length = m at key
  cases m with
  | zero => exact fun B G L s le S => key B G L s le S
  | succ m =>
    intro B G L s le S
    rw [hm]
    exact key B G L s le S
end
end Mine

end
section
open PySem PySem.W PySem.W.X PySem.Calls PyProof.Rows Builtin
set_option Elab.async false
set_option maxRecDepth 100000
set_option linter.unusedVariables false
namespace Mine

def IntV (i : Int) (v : Value) : Prop := ∃ t, v = .int i t
def BytV (b : Bs) (v : Value) : Prop := ∃ t, v = .bytes b.toArray t
theorem BytV.is {w : World} {b : Bs} {v : Value} (h : BytV b v) : (bytesKind thePrg w).is b v = true := by
  obtain ⟨t, rfl⟩ := h; simp [bytesKind, isBytes]

/-- what a table holds under a key -/
def Val {β : Type} (R : β → Value → Prop) : Option β → Option Value → Prop
  | none, v => v = none
  | some b, v => ∃ u, v = some u ∧ R b u
theorem Val.isSome {β : Type} {R : β → Value → Prop} : ∀ {b : Option β} {v : Option Value}, Val R b v → v.isSome = b.isSome
  | none, _, h => by cases h; rfl
  | some _, _, ⟨_, h, _⟩ => by cases h; rfl
theorem Val.mono {β : Type} {R R' : β → Value → Prop} (m : ∀ b v, R b v → R' b v) : ∀ {b : Option β} {v : Option Value}, Val R b v → Val R' b v
  | none, _, h => h
  | some _, _, ⟨u, h, r⟩ => ⟨u, h, m _ _ r⟩

/-- a table with keys of U -/
def DctO (w : World) (U : List Bs) {β : Type} (R : β → Value → Prop) (g : Bs → Option β) : OP := fun o =>
  ∃ es ep kvs, o.ExactDict ∧ o.data = .dict es ep ∧ KeysOf (bytesKind thePrg w) es ∧ Pairs (bytesKind thePrg w) es.toList kvs ∧ (kvs.map (·.1)).Nodup ∧ (∀ k ∈ kvs.map (·.1), k ∈ U) ∧ ∀ k, Val R (g k) (valueAt kvs k)

theorem DctO.mono {w : World} {U : List Bs} {β : Type} {R R' : β → Value → Prop} {g : Bs → Option β} {o : Obj} (h : DctO w U R g o) (m : ∀ b v, R b v → R' b v) : DctO w U R' g o :=
  let ⟨es, ep, kvs, a, b, c, d, e, f, i⟩ := h; ⟨es, ep, kvs, a, b, c, d, e, f, fun k => (i k).mono m⟩

theorem valueAt_stored (kvs : List (Bs × Value)) (k : Bs) (v : Value) (x : Bs) : valueAt (stored kvs k v) x = if x = k then some v else valueAt kvs x := by
  unfold stored
  by_cases ha : kvs.any (fun kv => kv.1 = k) = true
  · rw [if_pos ha]
    have hm : ∀ l : List (Bs × Value), (l.any (fun kv => kv.1 = k) = true ∨ x ≠ k) → valueAt (l.map fun kv => if kv.1 = k then (kv.1, v) else kv) x = if x = k then some v else valueAt l x := by
      intro l
      induction l with
      | nil => intro h; rcases h with h | h; · simp at h
               rw [if_neg h]; rfl
      | cons kv l ih =>
        intro h
        simp only [valueAt, List.map_cons, List.find?_cons] at ih ⊢
        by_cases hk : kv.1 = k
        · rw [if_pos hk]
          by_cases hx : x = k
          · subst hx; simp [hk]
          · have : ¬ k = x := fun e => hx e.symm
            have i := ih (.inr hx)
            rw [if_neg hx] at i ⊢
            simp only [hk, this, decide_false]
            exact i
        · rw [if_neg hk]
          by_cases hx : kv.1 = x
          · have : ¬ x = k := fun e => hk (hx.trans e)
            simp [hx, this]
          · have h' : l.any (fun kv => kv.1 = k) = true ∨ x ≠ k := by
              rcases h with h | h
              · left; simpa [hk] using h
              · exact .inr h
            have i := ih h'
            simp only [hx, decide_false]
            exact i
    exact hm kvs (.inl ha)
  · rw [if_neg ha]
    have hno : ∀ kv ∈ kvs, ¬ kv.1 = k := fun kv hkv e => ha (List.any_eq_true.mpr ⟨kv, hkv, by simpa using e⟩)
    simp only [valueAt, List.find?_append]
    by_cases hx : x = k
    · subst hx
      have : kvs.find? (fun kv => decide (kv.1 = x)) = none := List.find?_eq_none.mpr fun kv hkv => by simpa using hno kv hkv
      simp [this]
    · have : ¬ k = x := fun e => hx e.symm
      rw [if_neg hx]
      simp [this]
theorem stored_keys {kvs : List (Bs × Value)} {k : Bs} {v : Value} {U : List Bs} (h : ∀ x ∈ kvs.map (·.1), x ∈ U) (hk : k ∈ U) : ∀ x ∈ (stored kvs k v).map (·.1), x ∈ U := by
  unfold stored
  split
  · rw [keys_map_store]; exact h
  · intro x hx
    rw [List.map_append, List.mem_append] at hx
    rcases hx with hx | hx
    · exact h x hx
    · simp at hx; subst hx; exact hk
theorem nodup_sub_length {U : List Bs} : ∀ {l : List Bs}, l.Nodup → (∀ x ∈ l, x ∈ U) → l.length ≤ U.length := by
  induction U with
  | nil => intro l _ h; cases l with
    | nil => exact Nat.le_refl _
    | cons a l => exact absurd (h a (.head _)) (by simp)
  | cons u U ih =>
    intro l hn h
    by_cases hu : u ∈ l
    · have := ih (l := l.erase u) (hn.erase u) fun x hx => by
        have hx' := (List.Nodup.mem_erase_iff hn).mp hx
        rcases List.mem_cons.mp (h x hx'.2) with e | e
        · exact absurd e hx'.1
        · exact e
      rw [List.length_erase_of_mem hu] at this
      have : 0 < l.length := List.length_pos_of_mem hu
      simp only [List.length_cons]; omega
    · have := ih (l := l) hn fun x hx => by
        rcases List.mem_cons.mp (h x hx) with e | e
        · subst e; exact absurd hx hu
        · exact e
      simp only [List.length_cons]; omega

section
variable {w : World} {A : Around} {E : Value → Shared → Prop} {B B' : Store} {G : Array GenState} {os : OsState} {L L' : Led} {s : Shared} {d : Addr} {o : Obj} {U : List Bs} {β : Type} {R : β → Value → Prop} {g : Bs → Option β} {k : Bs} {key : Value} {b : β}

theorem DctO.dictOf (h : DctO w U R g o) (ho : s.heap.get? d = some o) : ∃ kvs, s.heap.DictOf (bytesKind thePrg w) d kvs ∧ (∀ k ∈ kvs.map (·.1), k ∈ U) ∧ ∀ k, Val R (g k) (valueAt kvs k) :=
  let ⟨es, ep, kvs, h1, h2, h3, h4, h5, h6, h7⟩ := h; ⟨kvs, ⟨o, es, ep, ho, h1, h2, h3, h4, h5⟩, h6, h7⟩
theorem DctO.new : DctO w U R (fun _ => none) { cls := .type "dict", data := .dict #[] } :=
  ⟨#[], 0, [], ⟨rfl, rfl, rfl⟩, rfl, fun _ he => by simp at he, .nil, List.nodup_nil, fun _ h => by simp at h, fun k => rfl⟩

theorem dctItem {Q : Value → Shared → Prop} (S : SS B G os L s) (ho : s.heap.get? d = some o) (hD : DctO w U R g o) (hk : BytV k key) (hg : g k = some b) (h : ∀ v s', R b v → SS B G os L s' → Q v s') :
    wpAny (model thePrg w) A (getItem (.ref d) key) Q E s := by
  obtain ⟨kvs, hd, -, hv⟩ := hD.dictOf ho
  have := hv k
  rw [hg] at this
  obtain ⟨u, hu, hr⟩ := this
  exact wpAny_getItem_of hk.is hd.mapOf hu (h u _ hr S.toks)
theorem dctSub {value slice : Expr} {Q : Value → Shared → Prop} (S : SS B G os L s) (ho : s.heap.get? d = some o) (hD : DctO w U R g o) (hk : BytV k key) (hg : g k = some b) (h : ∀ v s', R b v → SS B G os L s' → Q v s')
    (hs : subscripted slice false (.ref d) key = operate [.ref d, key] (getItem (.ref d) key) := by with_unfolding_all rfl) (ht : ∀ r, letTemporaryGo value (.ref d) r = pure () := by intro _; with_unfolding_all rfl) :
    wpAny (model thePrg w) A (subscriptTail value slice (.ref d) key) Q E s := by
  obtain ⟨kvs, hd, -, hv⟩ := hD.dictOf ho
  exact subscriptTail_builtin hd.typeIs slot_dict_getitem.lookup (dctItem S ho hD hk hg h) hs ht
theorem dctIn {Q : Value → Shared → Prop} (S : SS B G os L s) (ho : s.heap.get? d = some o) (hD : DctO w U R g o) (hds : (d == sysModules) = false) (hk : BytV k key) (h : ∀ s', SS B G os L s' → Q (.bool (g k).isSome) s') :
    wpAny (model thePrg w) A (compareOp .In key (.ref d)) Q E s := by
  obtain ⟨kvs, hd, -, hv⟩ := hD.dictOf ho
  refine wpAny_in_of hk.is hds hd.mapOf ?_
  rw [(hv k).isSome]
  exact h _ S.toks
theorem dctGet2 {dflt : Value} {Q : Value → Shared → Prop} (S : SS B G os L s) (ho : s.heap.get? d = some o) (hD : DctO w U R g o) (hds : (d == sysModules) = false) (hk : BytV k key)
    (h1 : ∀ b v s', g k = some b → R b v → SS B G os L s' → Q v s') (h2 : ∀ s', g k = none → SS B G os L s' → Q dflt s') :
    wpAny (model thePrg w) A (call (.builtin "dict.get") [.ref d, key, dflt]) Q E s := by
  obtain ⟨kvs, hd, -, hv⟩ := hD.dictOf ho
  refine call_meetsIn PySem.F.slot_dict_get hd.typeIs PySem.F.entry_dict_get (PySem.F.args_dict_get_3 _ _ _) (meets_dict_get_default (bytesKind thePrg w) d hk.is hds dflt) ⟨_, hd.mapOf, ?_⟩
  have := hv k
  cases hg : g k with
  | none => rw [hg] at this; rw [show valueAt kvs k = none from this]; exact h2 _ hg S.toks
  | some b =>
    rw [hg] at this
    obtain ⟨u, hu, hr⟩ := this
    rw [hu]; exact h1 b u _ hg hr S.toks
theorem dctGetM {pl : Sem Bool} {Q : Value × List Value → Shared → Prop} (ho : s.heap.get? d = some o) (hD : DctO w U R g o) (h : Q (.builtin "dict.get", [.ref d]) s) :
    wpAny (model thePrg w) A (getMethod (.ref d) "get" pl) Q E s := by
  obtain ⟨kvs, hd, -, hv⟩ := hD.dictOf ho
  exact getMethod_builtin hd.typeIs PySem.F.plainAttrs_dict PySem.F.slot_dict_get PySem.F.type_dict_get hd.mapOf.noDict h
theorem dctSet {v : Value} {Q : Unit → Shared → Prop} (S : SS B G os ((d, DctO w U R g) :: L) s) (hk : BytV k key) (hU : k ∈ U) (hz : U.length ≤ 1000) (hv : R b v)
    (h : ∀ s', SS B G os ((d, DctO w U R (fun x => if x = k then some b else g x)) :: L) s' → Q () s') : wpAny (model thePrg w) A (setItem (.ref d) key v) Q E s := by
  obtain ⟨o, ho, hD⟩ := S.get .head
  obtain ⟨kvs, hd, hsub, hval⟩ := hD.dictOf ho
  have hlen : kvs.length ≤ U.length := by
    obtain ⟨_, _, _, _, _, _, _, _, hn⟩ := hd
    have := nodup_sub_length hn hsub
    simpa using this
  refine wpAny_setItem_pairs hk.is hd (fun h' hd' hsb => h _ ?_) (by unfold sizeLine; omega)
  obtain ⟨o', es, ep, ho', h1, h2, h3, h4, h5⟩ := hd'
  refine S.upd (s' := { s with heap := h', toks := s.toks + 1 }) hsb ho' ⟨es, ep, _, h1, h2, h3, h4, h5, stored_keys hsub hU, fun x => ?_⟩
  rw [valueAt_stored]
  dsimp only
  by_cases hx : x = k
  · rw [if_pos hx, if_pos hx]; exact ⟨v, rfl, hv⟩
  · rw [if_neg hx, if_neg hx]; exact hval x
theorem eDct {pos : Pos} {env : Env} {mg : Str → Option Value} {Q : Value → Shared → Prop} (hg : NsS B mainGlobals mg) (S : SS B G os L s) (h : ∀ a s', (a == sysModules) = false → SS B G os ((a, DctO w U R fun _ => none) :: L) s' → Q (.ref a) s') :
    wpAny (model thePrg w) A (eval (.Dict [] [] pos) env) Q E s := by
  obtain ⟨og, _, _, hog, _⟩ := hg
  have := Heap.lt_size (S.keep _ _ hog)
  refine wpAny_Dict_empty (h _ _ ?_ (S.push { cls := .type "dict", data := .dict #[] } DctO.new))
  exact beq_eq_false_iff_ne.mpr (Nat.ne_of_gt (Nat.lt_trans (by decide) this))

/-! lists -/
theorem lApp {l : Addr} {vs : List Value} {v : Value} {Q : Value → Shared → Prop} (S : SS B G os ((l, ListO vs) :: L) s) (hz : vs.length ≤ 1000) (h : ∀ s', SS B G os ((l, ListO (vs ++ [v])) :: L) s' → Q .none s') :
    wpAny (model thePrg w) A (call (.builtin "list.append") [.ref l, v]) Q E s := by
  obtain ⟨o, ho, hc, hdd, n, hd⟩ := S.get .head
  obtain ⟨n', hd'⟩ := Obj.data_mapSeq hd (·.push v)
  refine wpAny_call_entry slot_list_append ⟨o, ho, hc⟩ entry_list_append ?_ (args_list_append _ _)
  show wpAny _ _ (updateSeq l (·.push v) >>= fun _ => ret .none) _ _ s
  refine wpAny_bind ?_
  refine wpAny_updateSeq ho hd (wpAny_pure ⟨.none, rfl, h _ ?_⟩) (by unfold sizeLine; simp; omega)
  exact S.mapList ho hc hdd hd (by simp) (vs' := vs ++ [v]) (f := (·.push v))
theorem lAppM {l : Addr} {vs : List Value} {pl : Sem Bool} {Q : Value × List Value → Shared → Prop} (S : SS B G os L s) (e : Sel l (ListO vs) L L') (h : Q (.builtin "list.append", [.ref l]) s) :
    wpAny (model thePrg w) A (getMethod (.ref l) "append" pl) Q E s := by
  obtain ⟨o, ho, hc, hdd, n, hd⟩ := S.get e
  exact getMethod_list_of PySem.F.slot_list_append PySem.F.type_list_append ⟨o, ho, hc, n, hd⟩ ⟨o, ho, hdd⟩ h
end
end Mine

end
section
open PySem PySem.W PySem.W.X PySem.Calls PyProof.Rows Builtin
set_option Elab.async false
set_option maxRecDepth 100000
set_option linter.unusedVariables false
namespace Mine

section
variable {w : World} {A : Around} {E : Value → Shared → Prop} {B B' : Store} {G : Array GenState} {os : OsState} {L L' : Led} {s : Shared} {env : Env}

theorem forW {target iter : Expr} {body orelse : List Stmt} {pos : Pos} {Q : Flow → Shared → Prop}
    (h : W (model thePrg w) A (eval iter env) (fun x s₁ => W (model thePrg w) A (pyIter x) (fun it s₂ =>
      ∀ R : Result → Shared → Prop, (∀ f s', Q f s' → R (.ok f) s') → codeAny (model thePrg w) A (.forLoop target it body orelse env) R s₂) s₁) s)
    (hs : ∀ x, foldedSetIterable iter env x = pure x := by intro _; rfl) : W (model thePrg w) A (exec (.For target iter body orelse pos) env) Q s :=
  wpAny_For (wpAny_mono h (fun x s₁ h₁ => wpAny_mono h₁ (fun it s₂ h₂ => h₂ _ fun f s' q => q) fun _ _ x => x) fun _ _ x => x) hs

theorem loopW {target : Expr} {it : Value} {body orelse : List Stmt} {R : Result → Shared → Prop} (I : Nat → Shared → Prop)
    (turn : ∀ n s, I n s → W (model thePrg w) A (pyNext it) (fun r s₁ => match r with
      | none => W (model thePrg w) A (execs orelse env) (fun f s₃ => R (.ok f) s₃) s₁
      | some v => W (model thePrg w) A (letOwnedTupleGo target it v) (fun _ s₁' =>
          W (model thePrg w) A (assign target env v) (fun _ s₂ => W (model thePrg w) A (execs body env) (fun f s₃ => match f with
            | .next | .cont => ∃ m, m < n ∧ I m s₃
            | .brk => R (.ok .next) s₃
            | .ret v => R (.ok (.ret v)) s₃) s₂) s₁') s₁) s)
    (n : Nat) (h : I n s) : codeAny (model thePrg w) A (.forLoop target it body orelse env) R s := by
  refine codeAny_forLoop_any I (fun n s hI => ?_) n h
  refine wpAny_mono (turn n s hI) (fun r s₁ h₁ => ?_) fun _ _ x => x.elim
  cases r with
  | none => exact h₁.up
  | some v => exact wpAny_mono h₁ (fun _ s₂ h₂ => wpAny_mono h₂ (fun _ s₃ h₃ => h₃.up) fun _ _ x => x.elim) fun _ _ x => x.elim

theorem whileW {test : Expr} {body orelse : List Stmt} {pos : Pos} {Q : Flow → Shared → Prop} (I : Nat → Shared → Prop)
    (turn : ∀ n s, I n s → W (model thePrg w) A (isTrue test env (eval test env)) (fun b s₂ =>
        if b then W (model thePrg w) A (execs body env) (fun f s₃ => match f with
            | .next | .cont => ∃ m, m < n ∧ I m s₃
            | .brk => Q .next s₃
            | .ret v => Q (.ret v) s₃) s₂
        else W (model thePrg w) A (execs orelse env) Q s₂) s)
    (n : Nat) (h : I n s) : W (model thePrg w) A (exec (.While test body orelse pos) env) Q s := by
  refine wpAny_While ?_
  refine codeAny_whileLoop I (fun n s hI => ?_) n h
  refine wpAny_mono (turn n s hI) (fun b s₁ h₁ => ?_) fun _ _ x => x.elim
  cases b with
  | true => exact h₁.up
  | false => exact h₁.up

/-- a try whose body does not raise -/
theorem tryW {body : List Stmt} {h₀ : ExceptHandler} {hs : List ExceptHandler} {pos : Pos} {Q : Flow → Shared → Prop}
    (h : W (model thePrg w) A (execs body env) Q s) : W (model thePrg w) A (exec (.Try body (h₀ :: hs) [] [] pos) env) Q s := by
  refine wpAny_Try_except ?_
  refine wpAny_mono h (fun f s₁ h₁ => ?_) fun _ _ x => x.elim
  cases f with
  | next => exact wpAny_execs_nil h₁
  | cont => exact h₁
  | brk => exact h₁
  | ret v => exact h₁

theorem FnIs.at {f : Addr} {params : Arguments} {body : List Stmt} {scope : Scope} {clos : List (Str × Addr)} {dV cd : Value} (F : FnIs B f params body scope clos dV cd) (S : SS B G os L s) : FnAt f s.heap := by
  obtain ⟨o, fd, ho, hc, hd, _⟩ := F.ex
  obtain ⟨a, b, c, d⟩ := o
  cases hd
  exact ⟨a, b, fd, d, S.keep _ _ ho⟩

/-! a plain list is walked by its places -/
theorem nextL {it l : Addr} {i : Nat} {vs : List Value} {n : Nat} {Q : Option Value → Shared → Prop} (R : Rm A n) (S : SS B G os ((it, IterO l i) :: L) s) (hl : s.heap.IsList l vs.toArray)
    (h1 : ∀ v s', vs[i]? = some v → i < vs.length → SS B G os ((it, IterO l (i + 1)) :: L) s' → Q (some v) s') (h2 : ∀ s', vs.length ≤ i → SS B G os L s' → Q none s') : wpAny (model thePrg w) A (pyNext (.ref it)) Q E s := by
  by_cases hi : i < vs.length
  · exact next_item S hl (List.getElem?_eq_getElem hi) fun s' S' => h1 _ s' (List.getElem?_eq_getElem hi) hi S'
  · exact next_end R S hl (by omega) fun s' S' => h2 s' (by omega) S'
theorem letGoI {it l : Addr} {i : Nat} {target : Expr} {v : Value} {Q : Unit → Shared → Prop} (S : SS B G os L s) (e : Sel it (IterO l i) L L') (h : Q () s) : wpAny (model thePrg w) A (letOwnedTupleGo target (.ref it) v) Q E s := by
  obtain ⟨oi, hoi, hci, -⟩ := S.get e
  exact letGo hoi hci (by decide) h
end
end Mine

end
section
open PySem PySem.W PySem.W.X PySem.Calls PyProof.Rows Builtin
set_option Elab.async false
set_option maxRecDepth 100000
set_option linter.unusedVariables false
namespace Mine
local macro_rules | `(tactic| walk_at "m sel") => `(tactic| first | with_reducible apply Sel.head | (apply Sel.tail; walk_at "m sel"))
local macro_rules | `(tactic| walk_at "m lget") => `(tactic| first | with_reducible apply LGet.head | (apply LGet.tail; walk_at "m lget"))
local macro_rules | `(tactic| walk_at "m lset") => `(tactic| first | with_reducible apply LSet.head | (apply LSet.tail; walk_at "m lset"))
local macro_rules | `(tactic| walk_at "m mg") => `(tactic| first | exact Top0.gPush (by assumption) | exact Top0.gPop (by assumption) | exact Top0.gWL (by assumption) | exact Top0.gLcas (by assumption) | exact Top0.gBase (by assumption) | exact Top0.gFast (by assumption))
local macro_rules | `(tactic| walk_at "m name") => `(tactic| first
  | (refine' nmL (by assumption) (by assumption) ?hx ?hd ?he ?hg ?_; (case hx => kernel_rfl); (case hd => kernel_rfl); (case he => walk_at "m sel"); (case hg => walk_at "m lget"))
  | (refine' nmC (by assumption) (by assumption) ?hx ?hd ?hc ?he ?_; (case hx => decide +kernel); (case hd => kernel_rfl); (case hc => rfl); (case he => walk_at "m sel"))
  | (refine' nmF (by assumption) (by assumption) ?hx ?hd ?hd2 ?hc ?he ?_; (case hx => decide +kernel); (case hd => kernel_rfl); (case hd2 => kernel_rfl); (case hc => rfl); (case he => walk_at "m sel"))
  | (refine' nmG (by assumption) (by assumption) (Top0.glob (by assumption)) ?hx ?hd ?hv ?_; (case hx => kernel_rfl); (case hd => kernel_rfl); (case hv => walk_at "m mg")))
local macro_rules | `(tactic| walk_at "m store") => `(tactic| first
  | (refine' stL (by assumption) (by assumption) ?hx ?he ?hg ?_; (case hx => kernel_rfl); (case he => walk_at "m sel"); (case hg => walk_at "m lset"))
  | (refine' stC (by assumption) (by assumption) ?hx ?hc ?he ?_; (case hx => kernel_rfl); (case hc => rfl); (case he => walk_at "m sel")))
section
variable {K : Frag} {C fInit fAdd fGet fIter fLcas fBase fFast : Addr} {mg mb : Str → Option Value} {B B' : Store}
variable {w : World} {A : Around} {E : Value → Shared → Prop} {G : Array GenState} {os : OsState} {L L' : Led} {s : Shared} {env : Env} {sc : Scope} {Lf : Addr} {cl : List (Str × Addr)} {cd : Value} {n : Nat} {x q : Addr}

abbrev lcasStmt (i : Nat) : Stmt := (fnBd sLcas).getD i (.Pass default)
abbrev sHas : Stmt := lcasStmt 6

/-- is there a queued commit that is not marked -/
def liveK (g : Bs → Option Int) (k : Key) : Bool := match g k.2 with | some i => !(Builtin.bitAnd i 4 == 4) | none => false

theorem Bare.set {G : Array GenState} {i : Nat} {gs : GenState} (h : AllBare G) (hg : gs.bare = true) : AllBare (G.setIfInBounds i gs) := fun y hy => by
  rcases Array.mem_or_eq_of_mem_setIfInBounds hy with h' | rfl
  · exact h y h'
  · exact hg

theorem SS.setGen (S : SS B G os L s) (i : Nat) (gs : GenState) : SS B (G.setIfInBounds i gs) os L (s.setGen i gs) :=
  ⟨S.keep, S.led, S.new, S.nodup, by show s.gens.setIfInBounds i gs = _; rw [S.gens], S.os⟩

theorem SS.dropL : ∀ {pre : Led} {L : Led}, SS B G os (pre ++ L) s → SS B G os L s
  | [], _, S => S
  | _ :: pre, _, S => SS.dropL S.drop

set_option maxHeartbeats 1000000 in
theorem has_spec {f d cD : Addr} {t : Tok} {vs : List Value} {ks : List Key} {U : List Bs} {g : Bs → Option Int} {Q : Value → Shared → Prop} (T : Top0 K C fInit fAdd fGet fIter fLcas fBase fFast mg mb B) (R : Rm A 14)
    (F : FnIs B f (fnPs sHas) (fnBd sHas) (fnSc sHas) [("_DNC", cD)] .none cd) (hG : AllBare G)
    (S : SS B G os ((q, ListO vs) :: (d, DctO w U IntV g) :: (cD, CellO (some (.int 4 t))) :: L) s) (hw : IsWL B C x q) (hr : Rel2 (IsPair B) vs ks) (hds : (d == sysModules) = false)
    (h : ∀ B' G' s', Le B B' → AllBare G' → SS B' G' os ((q, ListO vs) :: (d, DctO w U IntV g) :: (cD, CellO (some (.int 4 t))) :: L) s' → Q (.bool (ks.any (liveK g))) s') :
    W (model thePrg w) A (call (.ref f) [.ref x, .ref d]) Q s := by
  refine callF (n := 13) (args := ⟨[.ref x, .ref d], []⟩) (binds := [("wlst", .ref x), ("cstates", .ref d)]) (rest := ["dt", "cmt"]) R T.lim F S ?_ (by kernel_rfl) (by kernel_rfl) (by kernel_rfl) (by kernel_rfl) (by kernel_rfl) (by kernel_rfl) ?_
  · intro fd h1 h2 h3
    refine BindsTo.of_eq ?_
    unfold bindArgs
    rw [h1, h2]
    kernel_rfl
  clear S
  intro env Lf s I R S
  simp only [List.map_cons, List.map_nil, List.cons_append, List.nil_append] at S
  refine wpAny_execs_cons ?_
  refine forW ?_
  refine MethodCall_ ?_
  walk_at "m name"
  refine wl_method T S hw T.mIter T.mIterT rfl ?_
  obtain ⟨cdI, FI⟩ := T.fnIter
  refine callWith_F0 (FI.at S) ?_
  refine iter_call T (R.less (by omega)) S fun B1 a envI Lg cdI s le1 hgen II S => ?_
  have RI : Rm (A.deeper env).in1 8 := (R.less (m := 9) (by omega)).in1
  have hst := iter_fresh (w := w) (os := os) (T.mono le1) RI (hw.mono le1) (hr.mono fun _ _ p => p.mono le1) II
  have gsz : (G.push (.fresh (.func (fnBd sIter) envI)))[G.size]? = some (.fresh (.func (fnBd sIter) envI)) := by simp
  refine wpAny_pyIter_gen (hgen.at S) fun Rr hR => ?_
  refine loopW (fun m s => ∃ B2 G2 gs pre u1 u2, Le B1 B2 ∧ m ≤ ks.length ∧ GenSt w (A.deeper env).in1 B1 os q vs ks m gs pre ∧ G2[G.size]? = some gs ∧ AllBare G2 ∧
    SS B2 G2 os ((q, ListO vs) :: (Lf, LocO [("wlst", some (.ref x)), ("cstates", some (.ref d)), ("dt", u1), ("cmt", u2)]) :: (d, DctO w U IntV g) :: (cD, CellO (some (.int 4 t))) :: (L ++ pre)) s ∧
    ∀ i, i < ks.length - m → liveK g (gk ks i) = false) ?_ ks.length ⟨B1, _, _, _, none, none, Le.refl _, Nat.le_refl _, hst, gsz, ?_, ?_, fun i hi => by omega⟩
  · rintro m s ⟨B2, G2, gs, pre, u1, u2, le2, hm, hst, hgs, hb, S, hno⟩
    have hlt : G.size < G2.size := by
      rcases Nat.lt_or_ge G.size G2.size with h | h
      · exact h
      · rw [Array.getElem?_eq_none h] at hgs; cases hgs
    have back : ∀ (gs' : GenState), ((G2.setIfInBounds G.size .running).setIfInBounds G.size gs')[G.size]? = some gs' := fun gs' => by
      simp [hlt]
    have Sr := S.perm (L' := pre ++ (q, ListO vs) :: (Lf, LocO [("wlst", some (.ref x)), ("cstates", some (.ref d)), ("dt", u1), ("cmt", u2)]) :: (d, DctO w U IntV g) :: (cD, CellO (some (.int 4 t))) :: L) (List.perm_append_comm (l₂ := pre))
    have Srg := Sr.setGen G.size .running
    cases m with
    | zero =>
      refine next_gen R (T.lim.mono (le1.trans le2)) S (hgen.mono le2) (by rw [S.gens]; exact hgs) (hst B2 _ _ _ le2 Srg) ?_ ?_ ?_
      · rintro r s' ⟨hr, -⟩
        cases hr; rfl
      · rintro e s' ⟨rfl, -⟩ - v hv
        cases hv
      · rintro s' ⟨-, S'⟩ h' hk
        have S' := (S'.setGen G.size .finished).ext (s' := { s'.setGen G.size .finished with heap := h' }) hk
        refine wpAny_execs_nil (hR _ _ ?_)
        refine wpAny_execs_cons ?_
        refine wpAny_Return_some ?_
        refine Constant_bool ?_
        have S' := S'.dropAt (e := .tail .head)
        have hall : ks.any (liveK g) = false := by
          rw [List.any_eq_false]
          intro k hk
          obtain ⟨i, hi, rfl⟩ := List.mem_iff_getElem.mp hk
          have := hno i (by omega)
          unfold gk at this
          rw [List.getD_eq_getElem?_getD, List.getElem?_eq_getElem hi] at this
          simpa using this
        have := h B2 _ _ (le1.trans le2) (Bare.set (Bare.set hb rfl) rfl) S'
        rw [hall] at this
        exact this
    | succ m =>
      refine next_gen R (T.lim.mono (le1.trans le2)) S (hgen.mono le2) (by rw [S.gens]; exact hgs) (hst B2 _ _ _ le2 Srg) ?_ ?_ ?_
      · rintro r s' ⟨v, B', pre', hr, -⟩
        cases r with
        | ok f => cases hr
        | error e => cases hr
      · rintro e s' ⟨v', B3, pre', hr', le3, hp, S', hst'⟩ hq v hv
        rw [hr'] at hv
        cases hv
        have S' := S'.setGen G.size e.genState
        have S := S'.perm (L' := (q, ListO vs) :: (Lf, LocO [("wlst", some (.ref x)), ("cstates", some (.ref d)), ("dt", u1), ("cmt", u2)]) :: (d, DctO w U IntV g) :: (cD, CellO (some (.int 4 t))) :: (L ++ pre')) (List.perm_append_comm (l₁ := pre'))
        clear S' Sr Srg
        have hb' : AllBare ((G2.setIfInBounds G.size .running).setIfInBounds G.size e.genState) := Bare.set (Bare.set hb rfl) (End.bare_of_quiet hq)
        generalize hG3 : (G2.setIfInBounds G.size .running).setIfInBounds G.size e.genState = G3 at S hb'
        have hgs3 : G3[G.size]? = some e.genState := by rw [← hG3]; exact back _
        generalize s'.setGen G.size e.genState = s at S
        have hk : gk ks (ks.length - (m + 1)) ∈ ks := by
          unfold gk; rw [List.getD_eq_getElem?_getD, List.getElem?_eq_getElem (by omega)]; exact List.getElem_mem _
        generalize hkk : gk ks (ks.length - (m + 1)) = k at hp hk
        dsimp only
        obtain ⟨oi, nm, qn, hoi, hci, -⟩ := (hgen.mono (le2.trans le3))
        refine letGo (S.keep _ _ hoi) hci (by decide) ?_
        obtain ⟨ta, t1, t2, rfl, ht⟩ := hp.isTup S
        refine unpack2 R S ht fun s S => ?_
        walk_at "m store"
        intro s S
        walk_at "m store"
        intro s S
        have S := S.front (e := .tail .head)
        have T3 := T.mono (le1.trans (le2.trans le3))
        have leB := le1.trans (le2.trans le3)
        have next : ∀ s, liveK g k = false → SS B3 G3 os ((q, ListO vs) :: (Lf, LocO [("wlst", some (.ref x)), ("cstates", some (.ref d)), ("dt", some (.int (-k.1) t1)), ("cmt", some (.bytes k.2.toArray t2))]) :: (d, DctO w U IntV g) :: (cD, CellO (some (.int 4 t))) :: (L ++ pre')) s →
            ∃ m', m' < m + 1 ∧ ∃ B2 G2 gs pre u1 u2, Le B1 B2 ∧ m' ≤ ks.length ∧ GenSt w (A.deeper env).in1 B1 os q vs ks m' gs pre ∧ G2[G.size]? = some gs ∧ AllBare G2 ∧
              SS B2 G2 os ((q, ListO vs) :: (Lf, LocO [("wlst", some (.ref x)), ("cstates", some (.ref d)), ("dt", u1), ("cmt", u2)]) :: (d, DctO w U IntV g) :: (cD, CellO (some (.int 4 t))) :: (L ++ pre)) s ∧
              ∀ i, i < ks.length - m' → liveK g (gk ks i) = false := by
          intro s hl S
          refine ⟨m, Nat.lt_succ_self m, B3, G3, _, pre', _, _, le2.trans le3, by omega, hst', hgs3, hb', S, fun i hi => ?_⟩
          rcases Nat.lt_or_ge i (ks.length - (m + 1)) with h | h
          · exact hno i h
          · have : i = ks.length - (m + 1) := by omega
            rw [this, hkk]; exact hl
        refine wpAny_execs_cons ?_
        refine wpAny_If ?_
        refine wpAny_isTrue_Compare1 ?_
        walk_at "m name"
        walk_at "m name"
        obtain ⟨od, hod, hD⟩ := S.get (.tail (.tail .head))
        refine dctIn S hod hD hds (k := k.2) ⟨_, rfl⟩ fun s S => ?_
        refine wpAny_truthy_bool ?_
        cases hgk : g k.2 with
        | none =>
          refine wpAny_execs_nil ?_
          refine wpAny_execs_nil ?_
          exact next s (by unfold liveK; rw [hgk]) S
        | some fl =>
          refine wpAny_execs_cons ?_
          refine wpAny_If ?_
          refine isTrue_not ?_
          refine wpAny_isTrue_Compare1 ?_
          refine wpAny_BinOp ?_
          refine Subscript_ ?_
          walk_at "m name"
          walk_at "m name"
          obtain ⟨od, hod, hD⟩ := S.get (.tail (.tail .head))
          refine dctSub S hod hD (k := k.2) ⟨_, rfl⟩ hgk fun v s hv S => ?_
          obtain ⟨t3, rfl⟩ := hv
          walk_at "m name"
          refine andS S fun t4 s S => ?_
          walk_at "m name"
          refine eq_int ?_
          refine wpAny_truthy_bool ?_
          have hl : liveK g k = !(Builtin.bitAnd fl 4 == 4) := by unfold liveK; rw [hgk]
          cases hb4 : (Builtin.bitAnd fl 4 == 4) with
          | true =>
            rw [hb4] at hl
            refine wpAny_execs_nil ?_
            refine wpAny_execs_nil ?_
            refine wpAny_execs_nil ?_
            exact next s hl S
          | false =>
            rw [hb4] at hl
            refine wpAny_execs_cons ?_
            refine wpAny_Return_some ?_
            refine Constant_bool ?_
            refine hR _ _ ?_
            have S := S.dropAt (e := .tail .head)
            have S := (S.perm (L' := pre' ++ (q, ListO vs) :: (d, DctO w U IntV g) :: (cD, CellO (some (.int 4 t))) :: L) (List.perm_append_comm (l₂ := pre'))).dropL
            have hany : ks.any (liveK g) = true := List.any_eq_true.mpr ⟨k, hk, hl⟩
            have := h B3 _ _ leB hb' S
            rw [hany] at this
            exact this
      · rintro s' ⟨v, B', pre', hr, -⟩ h' hk
        cases hr
  · exact hG.push rfl
  · exact ((S.front (e := .tail (.tail .head))).front (e := .tail .head)).perm (List.perm_append_comm (l₁ := [_]))
end
end Mine

end
section
open PySem PySem.W PySem.Calls PyProof.Rows Builtin
set_option Elab.async false
set_option maxRecDepth 100000
set_option linter.unusedVariables false
namespace Mine

/-! flags -/
structure Fl where
  a1 : Bool
  a2 : Bool
  dn : Bool
  lc : Bool
def fz : Fl := ⟨false, false, false, false⟩
def Fl.enc (f : Fl) : Int := (if f.a1 then 1 else 0) + (if f.a2 then 2 else 0) + (if f.dn then 4 else 0) + (if f.lc then 8 else 0)
def prop (f : Fl) : Fl := ⟨f.a1, f.a2, f.dn || (f.a1 && f.a2), false⟩
def Sub (f g : Fl) : Bool := (!f.a1 || g.a1) && (!f.a2 || g.a2) && (!f.dn || g.dn)
def uni (g f : Fl) : Fl := ⟨g.a1 || f.a1, g.a2 || f.a2, g.dn || f.dn, g.lc || f.lc⟩
def low (f : Fl) : Fl := { f with lc := false }
theorem enc_low (f : Fl) : Builtin.bitAnd f.enc 7 = (low f).enc := by
  obtain ⟨a, b, c, d⟩ := f; revert a b c d; decide +kernel
theorem enc_is3 (f : Fl) : ((low f).enc == 3) = (f.a1 && f.a2 && !f.dn) := by
  obtain ⟨a, b, c, d⟩ := f; revert a b c d; decide +kernel
theorem enc_lc (f : Fl) : (Builtin.bitAnd f.enc 8 == 8) = f.lc := by
  obtain ⟨a, b, c, d⟩ := f; revert a b c d; decide +kernel
theorem enc_dn (f : Fl) : (Builtin.bitAnd f.enc 4 == 4) = f.dn := by
  obtain ⟨a, b, c, d⟩ := f; revert a b c d; decide +kernel
theorem enc_set8 (f : Fl) : Builtin.bitOr f.enc 8 = ({ f with lc := true } : Fl).enc := by
  obtain ⟨a, b, c, d⟩ := f; revert a b c d; decide +kernel
theorem enc_set4 (f : Fl) (h : (f.a1 && f.a2 && !f.dn) = true) : Builtin.bitOr (low f).enc 4 = (prop f).enc := by
  obtain ⟨a, b, c, d⟩ := f; revert a b c d; decide +kernel
theorem enc_keep (f : Fl) (h : (f.a1 && f.a2 && !f.dn) = false) : (low f).enc = (prop f).enc := by
  obtain ⟨a, b, c, d⟩ := f; revert a b c d; decide +kernel
theorem enc_sub (f g : Fl) : (Builtin.bitAnd g.enc (prop f).enc == (prop f).enc) = Sub (prop f) g := by
  obtain ⟨a, b, c, d⟩ := f; obtain ⟨a', b', c', d'⟩ := g; revert a b c d a' b' c' d'; decide +kernel
theorem enc_uni (f g : Fl) : Builtin.bitOr g.enc f.enc = (uni g f).enc := by
  obtain ⟨a, b, c, d⟩ := f; obtain ⟨a', b', c', d'⟩ := g; revert a b c d a' b' c' d'; decide +kernel
theorem Sub.iff (f g : Fl) : Sub f g = true ↔ (f.a1 = true → g.a1 = true) ∧ (f.a2 = true → g.a2 = true) ∧ (f.dn = true → g.dn = true) := by
  obtain ⟨a, b, c, d⟩ := f; obtain ⟨a', b', c', d'⟩ := g; cases a <;> cases b <;> cases c <;> simp [Sub, and_assoc]
theorem Sub.refl (f : Fl) : Sub f f = true := (Sub.iff _ _).mpr ⟨id, id, id⟩
theorem Sub.trans {f g h : Fl} (x : Sub f g = true) (y : Sub g h = true) : Sub f h = true := by
  rw [Sub.iff] at *; exact ⟨fun a => y.1 (x.1 a), fun a => y.2.1 (x.2.1 a), fun a => y.2.2 (x.2.2 a)⟩
theorem Sub.uni_left (f g : Fl) : Sub f (uni f g) = true := by
  rw [Sub.iff]; simp [uni]; exact ⟨fun h => .inl h, fun h => .inl h, fun h => .inl h⟩
theorem Sub.uni_right (f g : Fl) : Sub g (uni f g) = true := by
  rw [Sub.iff]; simp [uni]; exact ⟨fun h => .inr h, fun h => .inr h, fun h => .inr h⟩
theorem prop_prop (f : Fl) (l : Bool) : prop { f with lc := l } = prop f := rfl

def miss : Option Fl → Nat
  | none => 3
  | some f => (if f.a1 then 0 else 1) + (if f.a2 then 0 else 1) + (if f.dn then 0 else 1)
theorem miss_uni {o : Option Fl} {f : Fl} (h : Sub f (o.getD fz) = false) : miss (some (uni (o.getD fz) f)) < miss o := by
  obtain ⟨a, b, c, d⟩ := f
  cases o with
  | none => revert a b c d; decide +kernel
  | some g => obtain ⟨a', b', c', d'⟩ := g; revert a b c d a' b' c' d'; decide +kernel

/-! the graph -/
inductive Anc (P : Bs → List Bs) : Bs → Bs → Prop
  | refl (x : Bs) : Anc P x x
  | step {x p y : Bs} : p ∈ P x → Anc P p y → Anc P x y
theorem Anc.trans {P : Bs → List Bs} {x y z : Bs} (h : Anc P x y) (k : Anc P y z) : Anc P x z := by
  induction h with
  | refl => exact k
  | step hp _ ih => exact .step hp (ih k)
theorem Anc.one {P : Bs → List Bs} {x p : Bs} (h : p ∈ P x) : Anc P x p := .step h (.refl _)
theorem Anc.snoc {P : Bs → List Bs} {x y p : Bs} (h : Anc P x y) (k : p ∈ P y) : Anc P x p := h.trans (.one k)

/-- the graph as the search sees it -/
structure Gr where
  par : Bs → List Bs
  tm : Bs → Int
  mn : Int
  U : List Bs
  c1 : Bs
  c2s : List Bs
def Gr.P (g : Gr) (x : Bs) : List Bs := (g.par x).filter fun p => decide (g.mn ≤ g.tm p)
structure Gr.Ok (g : Gr) : Prop where
  up : ∀ x ∈ g.U, ∀ p ∈ g.par x, p ∈ g.U ∧ g.tm p < g.tm x
  c1 : g.c1 ∈ g.U
  c2 : ∀ c ∈ g.c2s, c ∈ g.U
def Gr.A1 (g : Gr) (x : Bs) : Prop := Anc g.P g.c1 x
def Gr.A2 (g : Gr) (x : Bs) : Prop := ∃ c ∈ g.c2s, Anc g.P c x
def Gr.J (g : Gr) (x : Bs) : Prop := g.A1 x ∧ g.A2 x
def Gr.D (g : Gr) (x : Bs) : Prop := ∃ z, z ∈ g.U ∧ g.J z ∧ ∃ p ∈ g.P z, Anc g.P p x
def Gr.Great (g : Gr) (x : Bs) : Prop := g.J x ∧ ∀ y, g.J y → y ≠ x → ¬ Anc g.P y x

theorem Gr.P_mem {g : Gr} {x p : Bs} : p ∈ g.P x ↔ p ∈ g.par x ∧ g.mn ≤ g.tm p := by simp [Gr.P]
theorem Gr.Ok.anc {g : Gr} (o : g.Ok) {x y : Bs} (h : Anc g.P x y) (hx : x ∈ g.U) : y ∈ g.U ∧ (x = y ∨ g.tm y < g.tm x) := by
  induction h with
  | refl => exact ⟨hx, .inl rfl⟩
  | step hp _ ih =>
    obtain ⟨hpU, hlt⟩ := o.up _ hx _ (Gr.P_mem.mp hp).1
    obtain ⟨hy, h⟩ := ih hpU
    refine ⟨hy, .inr ?_⟩
    rcases h with h | h
    · rw [← h]; exact hlt
    · exact Int.lt_trans h hlt
theorem Gr.Ok.le {g : Gr} (o : g.Ok) {x y : Bs} (h : Anc g.P x y) (hx : x ∈ g.U) : g.tm y ≤ g.tm x := by
  rcases (o.anc h hx).2 with e | e
  · rw [e]; exact Int.le_refl _
  · exact Int.le_of_lt e
theorem Gr.A1.step {g : Gr} {x p : Bs} (h : g.A1 x) (k : p ∈ g.P x) : g.A1 p := Anc.snoc h k
theorem Gr.A2.step {g : Gr} {x p : Bs} (h : g.A2 x) (k : p ∈ g.P x) : g.A2 p := let ⟨c, hc, r⟩ := h; ⟨c, hc, r.snoc k⟩
theorem Gr.D.step {g : Gr} {x p : Bs} (h : g.D x) (k : p ∈ g.P x) : g.D p := let ⟨z, hU, hz, q, hq, r⟩ := h; ⟨z, hU, hz, q, hq, r.snoc k⟩

/-- the state of the search; pr: the parents that a commit off the queue has been taken to -/
structure Inv (g : Gr) (pr : Bs → List Bs) (fl : Bs → Option Fl) (qs cands : List Key) : Prop where
  sound : ∀ x f, fl x = some f → x ∈ g.U ∧ (f.a1 = true → g.A1 x) ∧ (f.a2 = true → g.A2 x) ∧ (f.dn = true → g.D x) ∧ (f.lc = true → g.J x)
  cover : ∀ x f, fl x = some f → (∃ k ∈ qs, k.2 = x) ∨ ((f.a1 = true → f.a2 = true → f.dn = false → f.lc = true) ∧ ∀ p ∈ pr x, g.mn ≤ g.tm p → Sub (prop f) ((fl p).getD fz) = true)
  queue : ∀ k ∈ qs, k.1 = -g.tm k.2 ∧ ∃ f, fl k.2 = some f
  cand : ∀ c ∈ cands, c.1 = g.tm c.2 ∧ ∃ f, fl c.2 = some f ∧ f.lc = true
  candAll : ∀ x f, fl x = some f → f.lc = true → (g.tm x, x) ∈ cands
  sorted : cands.Pairwise fun a b => kLt (-a.1, a.2) (-b.1, b.2) = true
  order : ∀ c ∈ cands, ∀ k ∈ qs, kLe (-c.1, c.2) k
  root1 : ∃ f, fl g.c1 = some f ∧ f.a1 = true
  root2 : ∀ c ∈ g.c2s, ∃ f, fl c = some f ∧ f.a2 = true

def upd (fl : Bs → Option Fl) (x : Bs) (f : Fl) : Bs → Option Fl := fun y => if y = x then some f else fl y
theorem upd_self (fl : Bs → Option Fl) (x : Bs) (f : Fl) : upd fl x f x = some f := if_pos rfl
theorem upd_ne (fl : Bs → Option Fl) {x y : Bs} (f : Fl) (h : y ≠ x) : upd fl x f y = fl y := if_neg h

theorem Inv.perm {g : Gr} {pr : Bs → List Bs} {fl : Bs → Option Fl} {qs qs' cands : List Key} (I : Inv g pr fl qs cands) (p : qs'.Perm qs) : Inv g pr fl qs' cands :=
  { I with
    cover := fun x f h => (I.cover x f h).imp (fun ⟨k, hk, e⟩ => ⟨k, p.mem_iff.mpr hk, e⟩) id
    queue := fun k hk => I.queue k (p.mem_iff.mp hk)
    order := fun c hc k hk => I.order c hc k (p.mem_iff.mp hk) }

/-- pr while x is taken to the parents in l -/
def prAt (g : Gr) (x : Bs) (l : List Bs) : Bs → List Bs := fun y => if y = x then l else g.par y
theorem prAt_all (g : Gr) (x : Bs) : prAt g x (g.par x) = g.par := by
  funext y; unfold prAt; split
  · rename_i h; rw [h]
  · rfl

theorem key_of_le {g : Gr} {x y : Bs} (h : kLe (-g.tm x, x) (-g.tm y, y)) : g.tm y ≤ g.tm x := by
  unfold kLe at h
  rw [Bool.eq_false_iff] at h
  have := fun q => h ((kLt_iff _ _).mpr (.inl q))
  simp at this; omega

/-- a commit is taken off the queue; its parents are yet to be seen -/
theorem Inv.pop {g : Gr} {fl : Bs → Option Fl} {qs qs' cands : List Key} {k : Key} (I : Inv g g.par fl qs cands) (p : (k :: qs').Perm qs) (hmin : ∀ k' ∈ qs, kLe k k') {f : Fl} (hf : fl k.2 = some f) :
    let nw := f.a1 && f.a2 && !f.dn
    let f1 : Fl := { f with lc := f.lc || nw }
    Inv g (prAt g k.2 []) (upd fl k.2 f1) qs' (if nw && !f.lc then cands ++ [(g.tm k.2, k.2)] else cands) ∧
      (∀ c ∈ (if nw && !f.lc then cands ++ [(g.tm k.2, k.2)] else cands), kLe (-c.1, c.2) (-g.tm k.2, k.2)) := by
  intro nw f1
  have hk : k ∈ qs := p.mem_iff.mp (.head _)
  have hk1 : k = (-g.tm k.2, k.2) := by obtain ⟨a, b⟩ := k; have := (I.queue _ hk).1; simp at this; simp [this]
  have sub : ∀ k' ∈ qs', k' ∈ qs := fun k' h => p.mem_iff.mp (.tail _ h)
  have s0 := I.sound _ _ hf
  have prf : prop f1 = prop f := rfl
  have getD1 : ∀ q, Sub ((fl q).getD fz) ((upd fl k.2 f1 q).getD fz) = true := fun q => by
    by_cases e : q = k.2
    · subst e; rw [upd_self, hf]; exact (Sub.iff _ _).mpr ⟨id, id, id⟩
    · rw [upd_ne _ _ e]; exact Sub.refl _
  have cle : ∀ c ∈ (if nw && !f.lc then cands ++ [(g.tm k.2, k.2)] else cands), kLe (-c.1, c.2) (-g.tm k.2, k.2) := by
    intro c hc
    split at hc
    · rcases List.mem_append.mp hc with hc | hc
      · have := I.order c hc k hk; rw [hk1] at this; exact this
      · simp at hc; subst hc; exact kLe.refl _
    · have := I.order c hc k hk; rw [hk1] at this; exact this
  refine ⟨⟨?_, ?_, ?_, ?_, ?_, ?_, ?_, ?_, ?_⟩, cle⟩
  · intro x f' h
    by_cases e : x = k.2
    · subst e
      rw [upd_self] at h; cases h
      refine ⟨s0.1, s0.2.1, s0.2.2.1, s0.2.2.2.1, fun hl => ?_⟩
      simp only [f1, Bool.or_eq_true] at hl
      rcases hl with hl | hl
      · exact s0.2.2.2.2 hl
      · simp only [nw, Bool.and_eq_true] at hl
        exact ⟨s0.2.1 hl.1.1, s0.2.2.1 hl.1.2⟩
    · rw [upd_ne _ _ e] at h; exact I.sound x f' h
  · intro x f' h
    by_cases e : x = k.2
    · subst e
      rw [upd_self] at h; cases h
      refine .inr ⟨fun h1 h2 h3 => ?_, fun q hq => ?_⟩
      · simp only [f1] at h1 h2 h3 ⊢
        simp [nw, h1, h2, h3]
      · unfold prAt at hq; rw [if_pos rfl] at hq; cases hq
    · rw [upd_ne _ _ e] at h
      rcases I.cover x f' h with ⟨k', hk', ek⟩ | ⟨h1, h2⟩
      · have : k' ∈ k :: qs' := p.mem_iff.mpr hk'
        rcases List.mem_cons.mp this with e' | h'
        · subst e'; exact absurd ek.symm e
        · exact .inl ⟨k', h', ek⟩
      · refine .inr ⟨h1, fun q hq hm => ?_⟩
        unfold prAt at hq; rw [if_neg e] at hq
        exact Sub.trans (h2 q hq hm) (getD1 q)
  · intro k' h'
    obtain ⟨h1, f', h2⟩ := I.queue k' (sub k' h')
    refine ⟨h1, ?_⟩
    by_cases e : k'.2 = k.2
    · rw [e, upd_self]; exact ⟨_, rfl⟩
    · rw [upd_ne _ _ e]; exact ⟨_, h2⟩
  · have old : ∀ c ∈ cands, c.1 = g.tm c.2 ∧ ∃ f', upd fl k.2 f1 c.2 = some f' ∧ f'.lc = true := by
      intro c hc
      obtain ⟨h1, f', h2, h3⟩ := I.cand c hc
      refine ⟨h1, ?_⟩
      by_cases e : c.2 = k.2
      · rw [e, upd_self]
        rw [e, hf] at h2; cases h2
        exact ⟨_, rfl, by simp only [f1, h3, Bool.true_or]⟩
      · rw [upd_ne _ _ e]; exact ⟨_, h2, h3⟩
    intro c hc
    split at hc
    · rename_i hn
      rcases List.mem_append.mp hc with hc | hc
      · exact old c hc
      · simp at hc; subst hc
        refine ⟨rfl, f1, upd_self _ _ _, ?_⟩
        simp only [Bool.and_eq_true] at hn
        simp only [f1, hn.1, Bool.or_true]
    · exact old c hc
  · intro x f' h hl
    by_cases e : x = k.2
    · subst e
      rw [upd_self] at h; cases h
      cases hfl : f.lc with
      | true =>
        have := I.candAll _ _ hf hfl
        split
        · exact List.mem_append_left _ this
        · exact this
      | false =>
        have hn : nw = true := by simpa [f1, hfl] using hl
        rw [hn]; simp
    · rw [upd_ne _ _ e] at h
      have := I.candAll x f' h hl
      split
      · exact List.mem_append_left _ this
      · exact this
  · split
    · rename_i hn
      rw [List.pairwise_append]
      refine ⟨I.sorted, by simp, fun a ha b hb => ?_⟩
      simp at hb; subst hb
      have hle := I.order a ha k hk
      rw [hk1] at hle
      have hne : (-a.1, a.2) ≠ ((-g.tm k.2, k.2) : Key) := by
        intro e
        have e2 : a.2 = k.2 := (Prod.mk.inj e).2
        obtain ⟨_, f', h2, h3⟩ := I.cand a ha
        rw [e2, hf] at h2; cases h2
        rw [h3] at hn; simp at hn
      cases hh : kLt (-a.1, a.2) (-g.tm k.2, k.2) with
      | true => rfl
      | false =>
        exact absurd (kLe.antisymm hle hh) hne
    · exact I.sorted
  · intro c hc k' hk'
    have h1 := cle c hc
    rw [← hk1] at h1
    exact h1.trans (hmin k' (sub k' hk'))
  · obtain ⟨f', h1, h2⟩ := I.root1
    by_cases e : g.c1 = k.2
    · rw [e, upd_self]; rw [e, hf] at h1; cases h1; exact ⟨_, rfl, h2⟩
    · rw [upd_ne _ _ e]; exact ⟨_, h1, h2⟩
  · intro c hc
    obtain ⟨f', h1, h2⟩ := I.root2 c hc
    by_cases e : c = k.2
    · rw [e, upd_self]; rw [e, hf] at h1; cases h1; exact ⟨_, rfl, h2⟩
    · rw [upd_ne _ _ e]; exact ⟨_, h1, h2⟩

/-- a parent that has all flags, or is too old -/
theorem Inv.skip {g : Gr} {fl : Bs → Option Fl} {qs cands : List Key} {x p : Bs} {l : List Bs} {f : Fl} (I : Inv g (prAt g x l) fl qs cands) (hf : fl x = some f)
    (h : Sub (prop f) ((fl p).getD fz) = true ∨ g.tm p < g.mn) : Inv g (prAt g x (l ++ [p])) fl qs cands :=
  { I with
    cover := fun y f' hy => by
      rcases I.cover y f' hy with h' | ⟨h1, h2⟩
      · exact .inl h'
      · refine .inr ⟨h1, fun q hq hm => ?_⟩
        by_cases e : y = x
        · subst e
          rw [hf] at hy; cases hy
          unfold prAt at hq; rw [if_pos rfl] at hq
          rcases List.mem_append.mp hq with hq | hq
          · exact h2 q (by unfold prAt; rw [if_pos rfl]; exact hq) hm
          · simp at hq; subst hq
            rcases h with h | h
            · exact h
            · omega
        · refine h2 q ?_ hm
          unfold prAt at hq ⊢; rw [if_neg e] at hq ⊢; exact hq }

/-- a parent gets flags and is queued -/
theorem Inv.push {g : Gr} (o : g.Ok) {fl : Bs → Option Fl} {qs qs' cands : List Key} {x p : Bs} {l : List Bs} {f : Fl} (I : Inv g (prAt g x l) fl qs cands) (hf : fl x = some f) (hp : p ∈ g.par x) (hm : g.mn ≤ g.tm p)
    (hle : ∀ c ∈ cands, kLe (-c.1, c.2) (-g.tm x, x)) (pm : qs'.Perm ((-g.tm p, p) :: qs)) :
    Inv g (prAt g x (l ++ [p])) (upd fl p (uni ((fl p).getD fz) (prop f))) qs' cands ∧ upd fl p (uni ((fl p).getD fz) (prop f)) x = some f := by
  have s0 := I.sound _ _ hf
  obtain ⟨hpU, hlt⟩ := o.up x s0.1 p hp
  have hne : x ≠ p := fun e => by rw [e] at hlt; exact absurd hlt (Int.lt_irrefl _)
  have hP : p ∈ g.P x := Gr.P_mem.mpr ⟨hp, hm⟩
  have hx' : upd fl p (uni ((fl p).getD fz) (prop f)) x = some f := by rw [upd_ne _ _ hne]; exact hf
  refine ⟨Inv.perm ?_ pm, hx'⟩
  generalize hu : uni ((fl p).getD fz) (prop f) = u at hx' ⊢
  have gs : ∀ f', fl p = some f' → Sub f' u = true := fun f' h => by rw [← hu, h]; exact Sub.uni_left _ _
  have getD1 : ∀ q, Sub ((fl q).getD fz) ((upd fl p u q).getD fz) = true := fun q => by
    by_cases e : q = p
    · subst e; rw [upd_self, ← hu]; exact Sub.uni_left _ _
    · rw [upd_ne _ _ e]; exact Sub.refl _
  have lcp : ∀ f', fl p = some f' → u.lc = f'.lc := fun f' h => by rw [← hu, h]; simp [uni, prop]
  refine ⟨?_, ?_, ?_, ?_, ?_, I.sorted, ?_, ?_, ?_⟩
  · intro y f' h
    by_cases e : y = p
    · subst e
      rw [upd_self] at h; cases h
      have fp : (f.a1 = true → g.A1 y) ∧ (f.a2 = true → g.A2 y) ∧ ((prop f).dn = true → g.D y) := by
        refine ⟨fun h => (s0.2.1 h).step hP, fun h => (s0.2.2.1 h).step hP, fun h => ?_⟩
        simp only [prop, Bool.or_eq_true, Bool.and_eq_true] at h
        rcases h with h | h
        · exact (s0.2.2.2.1 h).step hP
        · exact ⟨x, s0.1, ⟨s0.2.1 h.1, s0.2.2.1 h.2⟩, y, hP, .refl _⟩
      cases hfy : fl y with
      | none =>
        rw [hfy] at hu
        subst hu
        refine ⟨hpU, ?_, ?_, ?_, ?_⟩
        · intro h; simp [uni, fz, prop] at h; exact fp.1 h
        · intro h; simp [uni, fz, prop] at h; exact fp.2.1 h
        · intro h; simp only [uni, Option.getD_none, fz, Bool.false_or] at h; exact fp.2.2 h
        · intro h; simp [uni, fz, prop] at h
      | some f₀ =>
        have s1 := I.sound _ _ hfy
        rw [hfy] at hu
        subst hu
        refine ⟨hpU, ?_, ?_, ?_, ?_⟩
        · intro h; simp only [uni, Option.getD_some, Bool.or_eq_true] at h; exact h.elim s1.2.1 fp.1
        · intro h; simp only [uni, Option.getD_some, Bool.or_eq_true] at h; exact h.elim s1.2.2.1 fp.2.1
        · intro h; simp only [uni, Option.getD_some, Bool.or_eq_true] at h; exact h.elim s1.2.2.2.1 fp.2.2
        · intro h; simp only [uni, Option.getD_some, prop, Bool.or_false] at h; exact s1.2.2.2.2 h
    · rw [upd_ne _ _ e] at h; exact I.sound y f' h
  · intro y f' h
    by_cases e : y = p
    · exact .inl ⟨_, .head _, e.symm⟩
    · rw [upd_ne _ _ e] at h
      rcases I.cover y f' h with ⟨k, hk, ek⟩ | ⟨h1, h2⟩
      · exact .inl ⟨k, .tail _ hk, ek⟩
      · refine .inr ⟨h1, fun q hq hm' => ?_⟩
        by_cases ex : y = x
        · subst ex
          rw [hf] at h; cases h
          unfold prAt at hq; rw [if_pos rfl] at hq
          rcases List.mem_append.mp hq with hq | hq
          · exact Sub.trans (h2 q (by unfold prAt; rw [if_pos rfl]; exact hq) hm') (getD1 q)
          · simp at hq; subst hq
            rw [upd_self, ← hu]; exact Sub.uni_right _ _
        · refine Sub.trans (h2 q ?_ hm') (getD1 q)
          unfold prAt at hq ⊢; rw [if_neg ex] at hq ⊢; exact hq
  · intro k hk
    rcases List.mem_cons.mp hk with rfl | hk
    · exact ⟨rfl, u, upd_self _ _ _⟩
    · obtain ⟨h1, f', h2⟩ := I.queue k hk
      refine ⟨h1, ?_⟩
      by_cases e : k.2 = p
      · rw [e, upd_self]; exact ⟨_, rfl⟩
      · rw [upd_ne _ _ e]; exact ⟨_, h2⟩
  · intro c hc
    obtain ⟨h1, f', h2, h3⟩ := I.cand c hc
    refine ⟨h1, ?_⟩
    by_cases e : c.2 = p
    · rw [e, upd_self]; rw [e] at h2; exact ⟨_, rfl, by rw [lcp _ h2, h3]⟩
    · rw [upd_ne _ _ e]; exact ⟨_, h2, h3⟩
  · intro y f' h hl
    by_cases e : y = p
    · subst e
      rw [upd_self] at h; cases h
      cases hfy : fl y with
      | none => rw [hfy] at hu; subst hu; simp [uni, fz, prop] at hl
      | some f₀ => rw [lcp _ hfy] at hl; exact I.candAll y f₀ hfy hl
    · rw [upd_ne _ _ e] at h; exact I.candAll y f' h hl
  · intro c hc k hk
    rcases List.mem_cons.mp hk with rfl | hk
    · exact (hle c hc).trans (kLe.of_lt ((kLt_iff _ _).mpr (.inl (by show -g.tm x < -g.tm p; omega))))
    · exact I.order c hc k hk
  · obtain ⟨f', h1, h2⟩ := I.root1
    by_cases e : g.c1 = p
    · rw [e, upd_self]; rw [e] at h1; exact ⟨_, rfl, ((Sub.iff _ _).mp (gs _ h1)).1 h2⟩
    · rw [upd_ne _ _ e]; exact ⟨_, h1, h2⟩
  · intro c hc
    obtain ⟨f', h1, h2⟩ := I.root2 c hc
    by_cases e : c = p
    · rw [e, upd_self]; rw [e] at h1; exact ⟨_, rfl, ((Sub.iff _ _).mp (gs _ h1)).2.1 h2⟩
    · rw [upd_ne _ _ e]; exact ⟨_, h1, h2⟩

/-! the end: every queued commit is marked -/
theorem Inv.great {g : Gr} (o : g.Ok) {fl : Bs → Option Fl} {qs cands : List Key} (I : Inv g g.par fl qs cands) (hend : ∀ k ∈ qs, ∀ f, fl k.2 = some f → f.dn = true) (x : Bs) :
    (∃ f, fl x = some f ∧ f.lc = true ∧ f.dn = false) ↔ g.Great x := by
  have notq : ∀ y f, fl y = some f → f.dn = false → (f.a1 = true → f.a2 = true → f.dn = false → f.lc = true) ∧ ∀ p ∈ g.par y, g.mn ≤ g.tm p → Sub (prop f) ((fl p).getD fz) = true := by
    intro y f h hd
    rcases I.cover y f h with ⟨k, hk, e⟩ | h'
    · have := hend k hk f (by rw [e]; exact h)
      rw [hd] at this; cases this
    · exact h'
  have getD_a : ∀ {p : Bs} {f : Fl}, Sub f ((fl p).getD fz) = true → (f.a1 = true ∨ f.a2 = true ∨ f.dn = true) → ∃ f', fl p = some f' ∧ Sub f f' = true := by
    intro p f h ha
    cases hp : fl p with
    | some f' => rw [hp] at h; exact ⟨f', rfl, h⟩
    | none =>
      rw [hp, Sub.iff] at h
      simp only [Option.getD_none, fz] at h
      rcases ha with ha | ha | ha
      · exact absurd (h.1 ha) (by simp)
      · exact absurd (h.2.1 ha) (by simp)
      · exact absurd (h.2.2 ha) (by simp)
  constructor
  · rintro ⟨f, hf, hl, hd⟩
    have hJ := (I.sound x f hf).2.2.2.2 hl
    have hxU := (I.sound x f hf).1
    refine ⟨hJ, fun y hy hne hyx => ?_⟩
    have hc := I.candAll x f hf hl
    -- nothing newer than x is queued
    have newer : ∀ y f', fl y = some f' → g.tm x < g.tm y → (f'.a1 = true → f'.a2 = true → f'.dn = false → f'.lc = true) ∧ ∀ p ∈ g.par y, g.mn ≤ g.tm p → Sub (prop f') ((fl p).getD fz) = true := by
      intro y f' h hlt
      rcases I.cover y f' h with ⟨k, hk, e⟩ | h'
      · have h1 := I.order _ hc k hk
        have h2 := (I.queue k hk).1
        have h3 : k = (-g.tm y, y) := by obtain ⟨a, b⟩ := k; simp at h2 e; subst e; simp [h2]
        rw [h3] at h1
        have := key_of_le h1
        omega
      · exact h'
    have go1 : ∀ {u v : Bs}, Anc g.P u v → u ∈ g.U → g.tm x < g.tm v → (∃ f', fl u = some f' ∧ f'.a1 = true) → ∃ f', fl v = some f' ∧ f'.a1 = true := by
      intro u v h
      induction h with
      | refl => intro _ _ h; exact h
      | @step u p v hp hr ih =>
        intro hu hlt ⟨f', h1, h2⟩
        obtain ⟨hpar, hm⟩ := Gr.P_mem.mp hp
        obtain ⟨hpU, hpl⟩ := o.up u hu p hpar
        have hle := o.le hr hpU
        have := (newer u f' h1 (by omega)).2 p hpar hm
        obtain ⟨f'', h3, h4⟩ := getD_a this (.inl h2)
        exact ih hpU hlt ⟨f'', h3, ((Sub.iff _ _).mp h4).1 h2⟩
    have go2 : ∀ {u v : Bs}, Anc g.P u v → u ∈ g.U → g.tm x < g.tm v → (∃ f', fl u = some f' ∧ f'.a2 = true) → ∃ f', fl v = some f' ∧ f'.a2 = true := by
      intro u v h
      induction h with
      | refl => intro _ _ h; exact h
      | @step u p v hp hr ih =>
        intro hu hlt ⟨f', h1, h2⟩
        obtain ⟨hpar, hm⟩ := Gr.P_mem.mp hp
        obtain ⟨hpU, hpl⟩ := o.up u hu p hpar
        have hle := o.le hr hpU
        have := (newer u f' h1 (by omega)).2 p hpar hm
        obtain ⟨f'', h3, h4⟩ := getD_a this (.inr (.inl h2))
        exact ih hpU hlt ⟨f'', h3, ((Sub.iff _ _).mp h4).2.1 h2⟩
    have go3 : ∀ {u v : Bs}, Anc g.P u v → u ∈ g.U → v = x → (∃ f', fl u = some f' ∧ f'.dn = true) → ∃ f', fl v = some f' ∧ f'.dn = true := by
      intro u v h
      induction h with
      | refl => intro _ _ h; exact h
      | @step u p v hp hr ih =>
        intro hu hv ⟨f', h1, h2⟩
        obtain ⟨hpar, hm⟩ := Gr.P_mem.mp hp
        obtain ⟨hpU, hpl⟩ := o.up u hu p hpar
        have hle := o.le hr hpU
        rw [hv] at hle
        have := (newer u f' h1 (by omega)).2 p hpar hm
        obtain ⟨f'', h3, h4⟩ := getD_a this (.inr (.inr (by simp [prop, h2])))
        exact ih hpU hv ⟨f'', h3, ((Sub.iff _ _).mp h4).2.2 (by simp [prop, h2])⟩
    have hyU : y ∈ g.U := (o.anc hy.1 o.c1).1
    have hlt : g.tm x < g.tm y := by
      rcases (o.anc hyx hyU).2 with e | e
      · exact absurd e hne
      · exact e
    obtain ⟨fy, hy1, hy2⟩ := go1 hy.1 o.c1 hlt I.root1
    obtain ⟨c, hcc, hcy⟩ := hy.2
    obtain ⟨fy', hy3, hy4⟩ := go2 hcy (o.c2 c hcc) hlt (I.root2 c hcc)
    rw [hy1] at hy3; cases hy3
    cases hyx with
    | refl => exact hne rfl
    | @step _ p _ hp hr =>
      obtain ⟨hpar, hm⟩ := Gr.P_mem.mp hp
      have := (newer y fy hy1 hlt).2 p hpar hm
      have hpd : (prop fy).dn = true := by simp [prop, hy2, hy4]
      obtain ⟨fp, h3, h4⟩ := getD_a this (.inr (.inr hpd))
      obtain ⟨fx, h5, h6⟩ := go3 hr (o.up y hyU p hpar).1 rfl ⟨fp, h3, ((Sub.iff _ _).mp h4).2.2 hpd⟩
      rw [hf] at h5; cases h5
      rw [hd] at h6; cases h6
  · rintro ⟨hJ, hG⟩
    have hxU : x ∈ g.U := (o.anc hJ.1 o.c1).1
    have nodn : ∀ u f', Anc g.P u x → fl u = some f' → f'.dn = false := by
      intro u f' hux hu
      cases hd : f'.dn with
      | false => rfl
      | true =>
        obtain ⟨z, hzU, hzJ, p, hp, hr⟩ := (I.sound u f' hu).2.2.2.1 hd
        have hpx := hr.trans hux
        obtain ⟨hpU, hpl⟩ := o.up z hzU p (Gr.P_mem.mp hp).1
        have := o.le hpx hpU
        exact absurd (Anc.step hp hpx) (hG z hzJ fun e => by rw [e] at hpl; omega)
    have go1 : ∀ {u v : Bs}, Anc g.P u v → v = x → (∃ f', fl u = some f' ∧ f'.a1 = true) → ∃ f', fl v = some f' ∧ f'.a1 = true := by
      intro u v h
      induction h with
      | refl => intro _ h; exact h
      | @step u p v hp hr ih =>
        intro hv ⟨f', h1, h2⟩
        obtain ⟨hpar, hm⟩ := Gr.P_mem.mp hp
        have := (notq u f' h1 (nodn u f' (hv ▸ Anc.step hp hr) h1)).2 p hpar hm
        obtain ⟨f'', h3, h4⟩ := getD_a this (.inl h2)
        exact ih hv ⟨f'', h3, ((Sub.iff _ _).mp h4).1 h2⟩
    have go2 : ∀ {u v : Bs}, Anc g.P u v → v = x → (∃ f', fl u = some f' ∧ f'.a2 = true) → ∃ f', fl v = some f' ∧ f'.a2 = true := by
      intro u v h
      induction h with
      | refl => intro _ h; exact h
      | @step u p v hp hr ih =>
        intro hv ⟨f', h1, h2⟩
        obtain ⟨hpar, hm⟩ := Gr.P_mem.mp hp
        have := (notq u f' h1 (nodn u f' (hv ▸ Anc.step hp hr) h1)).2 p hpar hm
        obtain ⟨f'', h3, h4⟩ := getD_a this (.inr (.inl h2))
        exact ih hv ⟨f'', h3, ((Sub.iff _ _).mp h4).2.1 h2⟩
    obtain ⟨fx, h1, h2⟩ := go1 hJ.1 rfl I.root1
    obtain ⟨c, hcc, hcx⟩ := hJ.2
    obtain ⟨fx', h3, h4⟩ := go2 hcx rfl (I.root2 c hcc)
    rw [h1] at h3; cases h3
    have hd := nodn x fx (.refl x) h1
    exact ⟨fx, h1, (notq x fx h1 hd).1 h2 h4 hd, hd⟩

/-! the beginning -/
structure Ini (g : Gr) (fl : Bs → Option Fl) (qs : List Key) (done : List Bs) : Prop where
  flags : ∀ x f, fl x = some f → x ∈ g.U ∧ (f.a1 = true → x = g.c1) ∧ (f.a2 = true → x ∈ done) ∧ f.dn = false ∧ f.lc = false ∧ ∃ k ∈ qs, k.2 = x
  queue : ∀ k ∈ qs, k.1 = -g.tm k.2 ∧ ∃ f, fl k.2 = some f
  root1 : ∃ f, fl g.c1 = some f ∧ f.a1 = true
  root2 : ∀ c ∈ done, ∃ f, fl c = some f ∧ f.a2 = true
theorem Ini.start {g : Gr} (o : g.Ok) : Ini g (upd (fun _ => none) g.c1 ⟨true, false, false, false⟩) [(-g.tm g.c1, g.c1)] [] := by
  refine ⟨fun x f h => ?_, fun k hk => ?_, ⟨_, upd_self _ _ _, rfl⟩, fun c hc => (nomatch hc)⟩
  · by_cases e : x = g.c1
    · subst e; rw [upd_self] at h; cases h
      exact ⟨o.c1, fun _ => rfl, fun h => (nomatch h), rfl, rfl, _, .head _, rfl⟩
    · rw [upd_ne _ _ e] at h; cases h
  · simp at hk; subst hk; exact ⟨rfl, _, upd_self _ _ _⟩
def f2 : Fl := ⟨false, true, false, false⟩
theorem Ini.add {g : Gr} {fl : Bs → Option Fl} {qs qs' : List Key} {done : List Bs} {c : Bs} (I : Ini g fl qs done) (hU : c ∈ g.U) (pm : qs'.Perm ((-g.tm c, c) :: qs)) :
    Ini g (upd fl c (uni ((fl c).getD fz) f2)) qs' (done ++ [c]) := by
  have sub : ∀ k ∈ qs, k ∈ qs' := fun k hk => pm.mem_iff.mpr (.tail _ hk)
  refine ⟨fun x f h => ?_, fun k hk => ?_, ?_, fun x hx => ?_⟩
  · by_cases e : x = c
    · subst e; rw [upd_self] at h; cases h
      refine ⟨hU, ?_, fun _ => by simp, ?_, ?_, _, pm.mem_iff.mpr (.head _), rfl⟩
      · cases hx : fl x with
        | none => intro h; simp [uni, fz, f2] at h
        | some f₀ => intro h; simp [uni, f2] at h; exact (I.flags x f₀ hx).2.1 h
      · cases hx : fl x with
        | none => simp [uni, fz, f2]
        | some f₀ => have := (I.flags x f₀ hx).2.2.2.1; simp [uni, f2, this]
      · cases hx : fl x with
        | none => simp [uni, fz, f2]
        | some f₀ => have := (I.flags x f₀ hx).2.2.2.2.1; simp [uni, f2, this]
    · rw [upd_ne _ _ e] at h
      obtain ⟨a, b, c', d, e', k, hk, ek⟩ := I.flags x f h
      exact ⟨a, b, fun h => List.mem_append_left _ (c' h), d, e', k, sub k hk, ek⟩
  · rcases List.mem_cons.mp (pm.mem_iff.mp hk) with rfl | hk
    · exact ⟨rfl, _, upd_self _ _ _⟩
    · obtain ⟨h1, f, h2⟩ := I.queue k hk
      refine ⟨h1, ?_⟩
      by_cases e : k.2 = c
      · rw [e, upd_self]; exact ⟨_, rfl⟩
      · rw [upd_ne _ _ e]; exact ⟨_, h2⟩
  · obtain ⟨f, h1, h2⟩ := I.root1
    by_cases e : g.c1 = c
    · rw [e, upd_self]; rw [e] at h1; exact ⟨_, rfl, by simp [uni, h1, h2]⟩
    · rw [upd_ne _ _ e]; exact ⟨_, h1, h2⟩
  · by_cases e : x = c
    · subst e; rw [upd_self]; exact ⟨_, rfl, by simp [uni, f2]⟩
    · rcases List.mem_append.mp hx with hx | hx
      · obtain ⟨f, h1, h2⟩ := I.root2 x hx
        rw [upd_ne _ _ e]; exact ⟨_, h1, h2⟩
      · simp at hx; exact absurd hx e
theorem Ini.inv {g : Gr} {fl : Bs → Option Fl} {qs : List Key} (I : Ini g fl qs g.c2s) : Inv g g.par fl qs [] := by
  refine ⟨fun x f h => ?_, fun x f h => .inl (I.flags x f h).2.2.2.2.2, I.queue, fun c hc => (nomatch hc), fun x f h hl => ?_, List.Pairwise.nil, fun c hc => (nomatch hc), I.root1, I.root2⟩
  · obtain ⟨a, b, c, d, e, _⟩ := I.flags x f h
    refine ⟨a, fun h => ?_, fun h => ?_, fun h => ?_, fun h => ?_⟩
    · rw [b h]; exact .refl _
    · exact ⟨x, c h, .refl _⟩
    · rw [d] at h; cases h
    · rw [e] at h; cases h
  · have := (I.flags x f h).2.2.2.2.1
    rw [this] at hl; cases hl

/-! the measure -/
def mu (U : List Bs) (fl : Bs → Option Fl) : Nat := (U.map fun x => miss (fl x)).sum
theorem mu_le {U : List Bs} {fl fl' : Bs → Option Fl} (h : ∀ x ∈ U, miss (fl' x) ≤ miss (fl x)) : mu U fl' ≤ mu U fl := by
  unfold mu
  induction U with
  | nil => exact Nat.le_refl _
  | cons u U ih =>
    simp only [List.map_cons, List.sum_cons]
    exact Nat.add_le_add (h u (.head _)) (ih fun x hx => h x (.tail _ hx))
theorem mu_lt {U : List Bs} {fl fl' : Bs → Option Fl} (h : ∀ x ∈ U, miss (fl' x) ≤ miss (fl x)) {p : Bs} (hp : p ∈ U) (hl : miss (fl' p) < miss (fl p)) : mu U fl' < mu U fl := by
  unfold mu
  induction U with
  | nil => cases hp
  | cons u U ih =>
    simp only [List.map_cons, List.sum_cons]
    rcases List.mem_cons.mp hp with rfl | hp
    · exact Nat.add_lt_add_of_lt_of_le hl (mu_le fun x hx => h x (.tail _ hx))
    · exact Nat.add_lt_add_of_le_of_lt (h u (.head _)) (ih (fun x hx => h x (.tail _ hx)) hp)
theorem mu_push {U : List Bs} {fl : Bs → Option Fl} {p : Bs} {f : Fl} (hp : p ∈ U) (h : Sub f ((fl p).getD fz) = false) : mu U (upd fl p (uni ((fl p).getD fz) f)) < mu U fl := by
  have hl := miss_uni h
  refine mu_lt (fun x _ => ?_) hp (by rw [upd_self]; exact hl)
  by_cases e : x = p
  · subst e; rw [upd_self]; exact Nat.le_of_lt hl
  · rw [upd_ne _ _ e]; exact Nat.le_refl _
theorem mu_lc {U : List Bs} {fl : Bs → Option Fl} {x : Bs} {f : Fl} {l : Bool} (h : fl x = some f) : mu U (upd fl x { f with lc := l }) = mu U fl := by
  unfold mu
  congr 1
  refine List.map_congr_left fun y _ => ?_
  by_cases e : y = x
  · subst e; rw [upd_self, h]; rfl
  · rw [upd_ne _ _ e]
theorem mu_bound (U : List Bs) (fl : Bs → Option Fl) : mu U fl ≤ 3 * U.length := by
  unfold mu
  induction U with
  | nil => exact Nat.le_refl _
  | cons u U ih =>
    simp only [List.map_cons, List.sum_cons, List.length_cons]
    have : miss (fl u) ≤ 3 := by
      unfold miss; split
      · exact Nat.le_refl _
      · split <;> split <;> split <;> omega
    omega
end Mine

end
section
open PySem PySem.W PySem.Calls PyProof.Rows Builtin
set_option Elab.async false
set_option maxRecDepth 100000
set_option linter.unusedVariables false
namespace Mine

/-! a sort of fewer than 64 items keeps the order of equals -/
structure SB (kd : SortKind) (a₀ : Array Keyed) (st : SortSt) : Prop where
  perm : (arrOf st).Perm a₀
  kind : kindOf st = kd
  failed : failedOf st = none
  pend : pendingOf st = #[]
theorem SB.size {kd : SortKind} {a₀ : Array Keyed} {st : SortSt} (h : SB kd a₀ st) : (arrOf st).size = a₀.size := h.perm.size_eq
theorem SB.setArr {kd : SortKind} {a₀ : Array Keyed} {st : SortSt} (h : SB kd a₀ st) {xs : Array Keyed} (hp : xs.Perm (arrOf st)) : SB kd a₀ (setArr st xs) := ⟨hp.trans h.perm, h.kind, h.failed, h.pend⟩
theorem SB.at {kd : SortKind} {a₀ : Array Keyed} {st : SortSt} (h : SB kd a₀ st) {i : Nat} (hi : i < a₀.size) : ∃ x, (arrOf st)[i]? = some x ∧ x ∈ a₀.toList := by
  have hi' : i < (arrOf st).size := by rw [h.size]; exact hi
  exact ⟨(arrOf st)[i], getElem?_pos _ i hi', (Array.perm_iff_toList_perm.mp h.perm).mem_iff.mp (by simp)⟩

section
variable (ky : Keyed → Key) (po : Keyed → Nat)
def ke (xs : Array Keyed) (i : Nat) : Key := match xs[i]? with | some p => ky p | none => kd
def pp (xs : Array Keyed) (i : Nat) : Nat := match xs[i]? with | some p => po p | none => 0
def sl (xs : Array Keyed) (i j : Nat) : Prop := kLt (ke ky xs i) (ke ky xs j) = true ∨ (ke ky xs i = ke ky xs j ∧ pp po xs i < pp po xs j)
def Asc (xs : Array Keyed) (n : Nat) : Prop := ∀ i j, i < j → j < n → sl ky po xs i j
/-- what lies past n is unmoved -/
def Rest (xs : Array Keyed) (n : Nat) : Prop := (∀ i, n ≤ i → i < xs.size → pp po xs i = i) ∧ ∀ i, i < n → i < xs.size → pp po xs i < n
structure Desc (xs : Array Keyed) (x q : Nat) : Prop where
  d1 : ∀ i j, i < j → j < x - (q + 1) → sl ky po xs j i
  d2 : ∀ i j, i < x - (q + 1) → x - (q + 1) ≤ j → j < x → kLt (ke ky xs j) (ke ky xs i) = true
  d3 : ∀ i j, x - (q + 1) ≤ i → i < j → j < x → ke ky xs i = ke ky xs j ∧ pp po xs i < pp po xs j
/-- falling all the way -/
def Fall (xs : Array Keyed) (x : Nat) : Prop := ∀ i j, i < j → j < x → sl ky po xs j i
end

section
variable {ky : Keyed → Key} {po : Keyed → Nat} {xs : Array Keyed}
theorem ke_congr {xs ys : Array Keyed} {i j : Nat} (h : xs[i]? = ys[j]?) : ke ky xs i = ke ky ys j := by unfold ke; rw [h]
theorem pp_congr {xs ys : Array Keyed} {i j : Nat} (h : xs[i]? = ys[j]?) : pp po xs i = pp po ys j := by unfold pp; rw [h]
theorem sl_le {i j : Nat} (h : sl ky po xs i j) : kLe (ke ky xs i) (ke ky xs j) := by
  rcases h with h | h
  · exact kLe.of_lt h
  · rw [h.1]; exact kLe.refl _
theorem sl_of_le {i j : Nat} (h : kLe (ke ky xs i) (ke ky xs j)) (hp : pp po xs i < pp po xs j) : sl ky po xs i j := by
  cases hl : kLt (ke ky xs i) (ke ky xs j) with
  | true => exact .inl hl
  | false => exact .inr ⟨kLe.antisymm h hl, hp⟩
theorem sl.trans {i j k : Nat} (h : sl ky po xs i j) (h' : sl ky po xs j k) : sl ky po xs i k := by
  rcases h with h | h <;> rcases h' with h' | h'
  · exact .inl (kLt_trans h h')
  · exact .inl (by rw [← h'.1]; exact h)
  · exact .inl (by rw [h.1]; exact h')
  · exact .inr ⟨h.1.trans h'.1, Nat.lt_trans h.2 h'.2⟩
theorem lt_of_lt_le {x y z : Key} (h : kLt x y = true) (k : kLe y z) : kLt x z = true := by
  cases hl : kLt y z with
  | true => exact kLt_trans h hl
  | false => rw [← kLe.antisymm k hl]; exact h
theorem lt_of_le_lt {x y z : Key} (h : kLe x y) (k : kLt y z = true) : kLt x z = true := by
  cases hl : kLt x y with
  | true => exact kLt_trans hl k
  | false => rw [kLe.antisymm h hl]; exact k

theorem ke_mirror {i j : Nat} (hj : j ≤ xs.size) (k : Nat) : ke ky (mirror xs i j ((j - i) / 2)) k = if i ≤ k ∧ k < j then ke ky xs (i + j - 1 - k) else ke ky xs k := by
  have e := getElem?_mirror_all (i := i) hj k
  by_cases h1 : i ≤ k ∧ k < j
  · rw [if_pos h1] at e ⊢; exact ke_congr e
  · rw [if_neg h1] at e ⊢; exact ke_congr e
theorem pp_mirror {i j : Nat} (hj : j ≤ xs.size) (k : Nat) : pp po (mirror xs i j ((j - i) / 2)) k = if i ≤ k ∧ k < j then pp po xs (i + j - 1 - k) else pp po xs k := by
  have e := getElem?_mirror_all (i := i) hj k
  by_cases h1 : i ≤ k ∧ k < j
  · rw [if_pos h1] at e ⊢; exact pp_congr e
  · rw [if_neg h1] at e ⊢; exact pp_congr e
theorem ke_bubble {src d : Nat} (hs : src < xs.size) (hd : d ≤ src) (k : Nat) : ke ky (bubble xs src d) k = if k = src - d then ke ky xs src else if src - d < k ∧ k ≤ src then ke ky xs (k - 1) else ke ky xs k := by
  have e := getElem?_bubble hs d hd k
  by_cases h1 : k = src - d
  · rw [if_pos h1] at e ⊢; exact ke_congr e
  · rw [if_neg h1] at e ⊢
    by_cases h2 : src - d < k ∧ k ≤ src
    · rw [if_pos h2] at e ⊢; exact ke_congr e
    · rw [if_neg h2] at e ⊢; exact ke_congr e
theorem pp_bubble {src d : Nat} (hs : src < xs.size) (hd : d ≤ src) (k : Nat) : pp po (bubble xs src d) k = if k = src - d then pp po xs src else if src - d < k ∧ k ≤ src then pp po xs (k - 1) else pp po xs k := by
  have e := getElem?_bubble hs d hd k
  by_cases h1 : k = src - d
  · rw [if_pos h1] at e ⊢; exact pp_congr e
  · rw [if_neg h1] at e ⊢
    by_cases h2 : src - d < k ∧ k ≤ src
    · rw [if_pos h2] at e ⊢; exact pp_congr e
    · rw [if_neg h2] at e ⊢; exact pp_congr e

theorem Rest.mirror {i j n : Nat} (h : Rest po xs n) (hj : j ≤ n) (hn : n ≤ xs.size) : Rest po (mirror xs i j ((j - i) / 2)) n := by
  refine ⟨fun k hk hl => ?_, fun k hk hl => ?_⟩
  · rw [mirror_size] at hl
    rw [pp_mirror (by omega), if_neg (by omega)]; exact h.1 k hk hl
  · rw [mirror_size] at hl
    rw [pp_mirror (by omega)]
    split
    · exact h.2 _ (by omega) (by omega)
    · exact h.2 k hk hl
theorem Rest.succ {n : Nat} (h : Rest po xs n) (hn : n < xs.size) : Rest po xs (n + 1) := by
  refine ⟨fun k hk hl => h.1 k (by omega) hl, fun k hk hl => ?_⟩
  by_cases e : k = n
  · subst e; rw [h.1 k (Nat.le_refl _) hl]; omega
  · have := h.2 k (by omega) hl; omega
theorem Rest.bubble {k l : Nat} (h : Rest po xs k) (hk : k < xs.size) (hl : l ≤ k) : Rest po (bubble xs k (k - l)) (k + 1) := by
  have h' := h.succ hk
  refine ⟨fun i hi hs => ?_, fun i hi hs => ?_⟩
  · rw [bubble_size] at hs
    rw [pp_bubble hk (by omega), if_neg (by omega), if_neg (by omega)]; exact h'.1 i hi hs
  · rw [bubble_size] at hs
    rw [pp_bubble hk (by omega)]
    split
    · exact h'.2 _ (by omega) hk
    · split
      · exact h'.2 _ (by omega) (by omega)
      · exact h'.2 i hi hs

theorem Asc.snoc {n : Nat} (h : Asc ky po xs n) (hR : Rest po xs n) (hn : n < xs.size) (h1 : 1 ≤ n) (hle : kLe (ke ky xs (n - 1)) (ke ky xs n)) : Asc ky po xs (n + 1) := by
  intro i j hij hj
  by_cases e : j < n
  · exact h i j hij e
  · have : j = n := by omega
    subst this
    have last : sl ky po xs (j - 1) j := sl_of_le hle (by rw [hR.1 j (Nat.le_refl _) hn]; exact hR.2 _ (by omega) (by omega))
    by_cases e' : i = j - 1
    · rw [e']; exact last
    · exact (h i (j - 1) (by omega) (by omega)).trans last

/-- the last group of equals is turned -/
theorem Desc.fall {x q : Nat} (h : Desc ky po xs x q) (hx : x ≤ xs.size) (hq : q + 1 ≤ x) : Fall ky po (mirror xs (x - (q + 1)) x ((x - (x - (q + 1))) / 2)) x := by
  intro i j hij hj
  unfold sl
  rw [ke_mirror hx, ke_mirror hx, pp_mirror hx, pp_mirror hx]
  by_cases h1 : x - (q + 1) ≤ i
  · rw [if_pos (by omega), if_pos (by omega), if_pos (by omega), if_pos (by omega)]
    have := h.d3 (x - (q + 1) + x - 1 - j) (x - (q + 1) + x - 1 - i) (by omega) (by omega) (by omega)
    exact .inr this
  · by_cases h2 : x - (q + 1) ≤ j
    · rw [if_pos (by omega), if_neg (by omega), if_pos (by omega), if_neg (by omega)]
      exact .inl (h.d2 _ _ (by omega) (by omega) (by omega))
    · rw [if_neg (by omega), if_neg (by omega), if_neg (by omega), if_neg (by omega)]
      exact h.d1 i j hij (by omega)
theorem Desc.fall0 {x : Nat} (h : Desc ky po xs x 0) : Fall ky po xs x := by
  intro i j hij hj
  by_cases h2 : x - 1 ≤ j
  · exact .inl (h.d2 _ _ (by omega) (by omega) (by omega))
  · exact h.d1 i j hij (by omega)
theorem Fall.desc {x : Nat} (h : Fall ky po xs x) (h1 : 1 ≤ x) (hl : kLt (ke ky xs x) (ke ky xs (x - 1)) = true) : Desc ky po xs (x + 1) 0 := by
  refine ⟨fun i j hij hj => h i j hij (by omega), fun i j hi hj hj' => ?_, fun i j hi hij hj => by omega⟩
  have : j = x := by omega
  subst this
  by_cases e : i = j - 1
  · rw [e]; exact hl
  · exact lt_of_lt_le hl (sl_le (h i (j - 1) (by omega) (by omega)))
theorem Fall.asc {n : Nat} (h : Fall ky po xs n) (hn : n ≤ xs.size) : Asc ky po (mirror xs 0 n ((n - 0) / 2)) n := by
  intro i j hij hj
  unfold sl
  rw [ke_mirror hn, ke_mirror hn, pp_mirror hn, pp_mirror hn, if_pos (by omega), if_pos (by omega), if_pos (by omega), if_pos (by omega)]
  exact h _ _ (by omega) (by omega)
theorem Desc.more {x q : Nat} (h : Desc ky po xs x q) (hR : Rest po xs x) (hx : x < xs.size) (hq : q + 1 ≤ x) (he : ke ky xs x = ke ky xs (x - 1)) : Desc ky po xs (x + 1) (q + 1) := by
  have e1 : x + 1 - (q + 1 + 1) = x - (q + 1) := by omega
  refine ⟨fun i j hij hj => h.d1 i j hij (by omega), fun i j hi hj hj' => ?_, fun i j hi hij hj => ?_⟩
  · by_cases e : j = x
    · subst e; rw [he]; exact h.d2 i (j - 1) (by omega) (by omega) (by omega)
    · exact h.d2 i j (by omega) (by omega) (by omega)
  · by_cases e : j = x
    · subst e
      refine ⟨?_, by rw [hR.1 j (Nat.le_refl _) hx]; exact hR.2 i (by omega) (by omega)⟩
      rw [he]
      by_cases e2 : i = j - 1
      · rw [e2]
      · exact (h.d3 i (j - 1) (by omega) (by omega) (by omega)).1
    · exact h.d3 i j (by omega) hij (by omega)
end

section
variable {M : Model} {A : Around} {E : Value → Shared → Prop} {s : Shared} {a₀ : Array Keyed} {kd : SortKind} {ky : Keyed → Key} {po : Keyed → Nat}
/-- what a comparison gives -/
def Lts (M : Model) (A : Around) (E : Value → Shared → Prop) (s : Shared) (kd : SortKind) (a₀ : Array Keyed) (ky : Keyed → Key) : Prop :=
  ∀ (st : SortSt) (i j : Nat) (x y : Keyed) (Q : Option Bool → SortSt → Prop), SB kd a₀ st → (arrOf st)[i]? = some x → (arrOf st)[j]? = some y → x ∈ a₀.toList → y ∈ a₀.toList → Q (some (kLt (ky x) (ky y))) st → wpS M A E s (ltAt' i j) Q st

theorem lt_ {st : SortSt} {i j : Nat} {Q : Option Bool → SortSt → Prop} (hL : Lts M A E s kd a₀ ky) (hB : SB kd a₀ st) (hi : i < a₀.size) (hj : j < a₀.size)
    (h : Q (some (kLt (ke ky (arrOf st) i) (ke ky (arrOf st) j))) st) : wpS M A E s (ltAt' i j) Q st := by
  obtain ⟨x, e1, m1⟩ := hB.at hi
  obtain ⟨y, e2, m2⟩ := hB.at hj
  refine hL st i j x y Q hB e1 e2 m1 m2 ?_
  unfold ke at h; rw [e1, e2] at h; exact h

theorem binary_ {st : SortSt} {n ok : Nat} {Q : Bool → SortSt → Prop} (hL : Lts M A E s kd a₀ ky) (hn : n ≤ a₀.size) (hok : ok ≤ n) (hok1 : 1 ≤ ok) (hB : SB kd a₀ st) (hs : Asc ky po (arrOf st) ok) (hR : Rest po (arrOf st) ok)
    (h : ∀ st', SB kd a₀ st' → Asc ky po (arrOf st') n → Q true st') : wpS M A E s (binarySort' 0 n ok) Q st := by
  rw [binarySort'_eq]
  simp only [Nat.zero_add]
  refine wpS_bind (wpS_mono (wpS_forRange (I := fun k c st' => c = (none, ()) ∧ SB kd a₀ st' ∧ Asc ky po (arrOf st') k ∧ Rest po (arrOf st') k)
    (Q := fun c st' => c = (none, ()) ∧ SB kd a₀ st' ∧ Asc ky po (arrOf st') n) ?step ?fin ?init) ?post)
  case post =>
    rintro c st' ⟨rfl, hB', hs'⟩
    exact wpS_pure (h st' hB' hs')
  case init =>
    rw [show max ok 1 = ok by omega]
    exact ⟨rfl, hB, hs, hR⟩
  case fin =>
    rintro c st' ⟨hc, hB', hs', -⟩
    refine ⟨hc, hB', ?_⟩
    rwa [show max (max ok 1) n = n by omega] at hs'
  case step =>
    rintro k c st' hak hkn ⟨rfl, hB', hs', hR'⟩
    have hk : k < a₀.size := by omega
    refine wpS_bind (wpS_mono (wpS_forRange (I := fun x c st'' => st'' = st' ∧ ∃ l r, c = (none, l, r) ∧ l ≤ r ∧ r ≤ k ∧ r - l ≤ k - x ∧
        (∀ i, i < l → kLe (ke ky (arrOf st') i) (ke ky (arrOf st') k)) ∧ (∀ i, r ≤ i → i < k → kLt (ke ky (arrOf st') k) (ke ky (arrOf st') i) = true))
      (Q := fun c st'' => st'' = st' ∧ ∃ l r, c = (none, l, r) ∧ l ≤ k ∧
        (∀ i, i < l → kLe (ke ky (arrOf st') i) (ke ky (arrOf st') k)) ∧ (∀ i, l ≤ i → i < k → kLt (ke ky (arrOf st') k) (ke ky (arrOf st') i) = true)) ?istep ?ifin ?iinit) ?ipost)
    case iinit => exact ⟨rfl, 0, k, rfl, by omega, by omega, by omega, fun i hi => by omega, fun i h1 h2 => by omega⟩
    case ifin =>
      rintro c st'' ⟨rfl, l, r, rfl, hlr, hrk, hm, hlo, hhi⟩
      have : l = r := by omega
      subst this
      exact ⟨rfl, l, l, rfl, hrk, hlo, hhi⟩
    case istep =>
      rintro x c st'' _ hxk ⟨rfl, l, r, rfl, hlr, hrk, hm, hlo, hhi⟩
      dsimp only
      by_cases hge : l ≥ r
      · rw [if_pos hge]
        have : l = r := by omega
        subst this
        exact wpS_pure ⟨rfl, l, l, rfl, hrk, hlo, hhi⟩
      · rw [if_neg hge]
        refine wpS_bind (lt_ hL hB' hk (by omega) ?_)
        have asc : ∀ i j, i ≤ j → j < k → kLe (ke ky (arrOf st'') i) (ke ky (arrOf st'') j) := fun i j hij hj => by
          by_cases e : i = j
          · rw [e]; exact kLe.refl _
          · exact sl_le (hs' i j (by omega) hj)
        cases hless : kLt (ke ky (arrOf st'') k) (ke ky (arrOf st'') ((l + r) / 2)) with
        | true =>
          simp only [if_true]
          refine wpS_pure ⟨rfl, l, (l + r) / 2, rfl, by omega, by omega, by omega, hlo, fun i h1 h2 => ?_⟩
          exact lt_of_lt_le hless (asc _ _ h1 h2)
        | false =>
          simp only [Bool.false_eq_true, if_false]
          refine wpS_pure ⟨rfl, (l + r) / 2 + 1, r, rfl, by omega, by omega, by omega, fun i h1 => ?_, hhi⟩
          exact (asc i ((l + r) / 2) (by omega) (by omega)).trans hless
    case ipost =>
      rintro c st'' ⟨rfl, l, r, rfl, hlk, hlo, hhi⟩
      show wpS _ _ _ _ (do moveDown' k l; pure (ForInStep.yield (none, ()))) _ _
      rw [moveDown'_eq]
      have hks : k < (arrOf st'').size := by rw [hB'.size]; exact hk
      refine wpS_bind (wpS_modify (wpS_pure ⟨rfl, hB'.setArr (bubble_perm _ _ _), ?_, hR'.bubble hks hlk⟩))
      intro i j hij hj
      show sl ky po (bubble (arrOf st'') k (k - l)) i j
      have hpk : pp po (arrOf st'') k = k := hR'.1 k (Nat.le_refl _) hks
      have lo1 : ∀ t, t < l → ke ky (bubble (arrOf st'') k (k - l)) t = ke ky (arrOf st'') t ∧ pp po (bubble (arrOf st'') k (k - l)) t = pp po (arrOf st'') t := fun t ht => by
        exact ⟨by rw [ke_bubble hks (by omega), if_neg (by omega), if_neg (by omega)], by rw [pp_bubble hks (by omega), if_neg (by omega), if_neg (by omega)]⟩
      have mid1 : ke ky (bubble (arrOf st'') k (k - l)) l = ke ky (arrOf st'') k ∧ pp po (bubble (arrOf st'') k (k - l)) l = pp po (arrOf st'') k := by
        exact ⟨by rw [ke_bubble hks (by omega), if_pos (by omega)], by rw [pp_bubble hks (by omega), if_pos (by omega)]⟩
      have hi1 : ∀ t, l < t → t ≤ k → ke ky (bubble (arrOf st'') k (k - l)) t = ke ky (arrOf st'') (t - 1) ∧ pp po (bubble (arrOf st'') k (k - l)) t = pp po (arrOf st'') (t - 1) := fun t ht hk => by
        exact ⟨by rw [ke_bubble hks (by omega), if_neg (by omega), if_pos (by omega)], by rw [pp_bubble hks (by omega), if_neg (by omega), if_pos (by omega)]⟩
      unfold sl
      by_cases h1 : j < l
      · rw [(lo1 i (by omega)).1, (lo1 i (by omega)).2, (lo1 j h1).1, (lo1 j h1).2]
        exact hs' i j hij (by omega)
      · by_cases h2 : j = l
        · rw [h2, (lo1 i (by omega)).1, (lo1 i (by omega)).2, mid1.1, mid1.2]
          exact sl_of_le (hlo i (by omega)) (by rw [hpk]; exact hR'.2 i (by omega) (by omega))
        · rw [(hi1 j (by omega) (by omega)).1, (hi1 j (by omega) (by omega)).2]
          by_cases h3 : i < l
          · rw [(lo1 i h3).1, (lo1 i h3).2]
            exact hs' i (j - 1) (by omega) (by omega)
          · by_cases h4 : i = l
            · rw [h4, mid1.1]
              exact .inl (hhi (j - 1) (by omega) (by omega))
            · rw [(hi1 i (by omega) (by omega)).1, (hi1 i (by omega) (by omega)).2]
              exact hs' (i - 1) (j - 1) (by omega) (by omega)

theorem asc_ {st : SortSt} {a nrem : Nat} {Q : AscSt → SortSt → Prop} (hL : Lts M A E s kd a₀ ky) (hn : nrem ≤ a₀.size) (ha : 1 ≤ a) (han : a ≤ nrem) (hB : SB kd a₀ st)
    (hs : Asc ky po (arrOf st) a) (hR : Rest po (arrOf st) a)
    (h : ∀ n, a ≤ n → n ≤ nrem → Asc ky po (arrOf st) n → Rest po (arrOf st) n → (n = nrem ∨ kLt (ke ky (arrOf st) n) (ke ky (arrOf st) (n - 1)) = true) → Q (none, n) st) :
    wpS M A E s (ascLoop a nrem) Q st := by
  unfold ascLoop
  refine wpS_forRange (I := fun x c st' => st' = st ∧ c = (none, x) ∧ Asc ky po (arrOf st) x ∧ Rest po (arrOf st) x) ?step ?fin ⟨rfl, rfl, hs, hR⟩
  case fin =>
    rintro c st' ⟨rfl, rfl, hs', hR'⟩
    rw [show max a nrem = nrem by omega] at hs' hR' ⊢
    exact h nrem han (Nat.le_refl _) hs' hR' (.inl rfl)
  case step =>
    rintro x c st' hax hxn ⟨rfl, rfl, hs', hR'⟩
    dsimp only
    refine wpS_bind (lt_ hL hB (by omega) (by omega) ?_)
    have hsz : x < (arrOf st').size := by rw [hB.size]; omega
    cases hless : kLt (ke ky (arrOf st') x) (ke ky (arrOf st') (x - 1)) with
    | true =>
      simp only [if_true]
      exact wpS_pure (h x hax (by omega) hs' hR' (.inr hless))
    | false =>
      simp only [Bool.false_eq_true, if_false]
      exact wpS_pure ⟨rfl, rfl, hs'.snoc hR' hsz (by omega) hless, hR'.succ hsz⟩

theorem rev_ {st : SortSt} {i j : Nat} {Q : Unit → SortSt → Prop} (h : Q () (setArr st (mirror (arrOf st) i j ((j - i) / 2)))) : wpS M A E s (reverseSlice' i j) Q st := by
  rw [reverseSlice'_eq]; exact wpS_modify h

theorem tail_ {st : SortSt} {n nrem : Nat} {Q : Option Nat → SortSt → Prop} (hL : Lts M A E s kd a₀ ky) (hn : nrem ≤ a₀.size) (h1 : 1 ≤ n) (hnn : n ≤ nrem) (hB : SB kd a₀ st)
    (hs : Fall ky po (arrOf st) n) (hR : Rest po (arrOf st) n) (h : ∀ m st', SB kd a₀ st' → 1 ≤ m → m ≤ nrem → Asc ky po (arrOf st') m → Rest po (arrOf st') m → Q (some m) st') :
    wpS M A E s (tail3 n nrem) Q st := by
  unfold tail3
  have hsz : n ≤ (arrOf st).size := by rw [hB.size]; omega
  refine wpS_bind (rev_ ?_)
  have hB' : SB kd a₀ (setArr st (mirror (arrOf st) 0 n ((n - 0) / 2))) := hB.setArr (mirror_perm _ _ _ _)
  exact wpS_bind (asc_ hL hn h1 hnn hB' (hs.asc hsz) (hR.mirror (Nat.le_refl _) hsz) fun m hm1 hm2 hsm hRm _ => wpS_pure (h m _ hB' (by omega) hm2 hsm hRm))

theorem desc_ {st : SortSt} {n nrem : Nat} {Q : DescSt → SortSt → Prop} (hL : Lts M A E s kd a₀ ky) (hn : nrem ≤ a₀.size) (h1 : 1 ≤ n) (hnn : n ≤ nrem) (hB : SB kd a₀ st)
    (hs : Desc ky po (arrOf st) n 0) (hR : Rest po (arrOf st) n)
    (h : ∀ m neq st', SB kd a₀ st' → n ≤ m → m ≤ nrem → Desc ky po (arrOf st') m neq → neq + 1 ≤ m → Rest po (arrOf st') m → Q (none, m, neq) st') :
    wpS M A E s (descLoop n nrem) Q st := by
  unfold descLoop
  refine wpS_forRange (I := fun x c st' => ∃ neq, c = (none, x, neq) ∧ SB kd a₀ st' ∧ Desc ky po (arrOf st') x neq ∧ neq + 1 ≤ x ∧ Rest po (arrOf st') x) ?step ?fin ⟨0, rfl, hB, hs, by omega, hR⟩
  case fin =>
    rintro c st' ⟨neq, rfl, hB', hs', hq, hR'⟩
    rw [show max n nrem = nrem by omega] at hs' hq hR' ⊢
    exact h nrem neq st' hB' hnn (Nat.le_refl _) hs' hq hR'
  case step =>
    rintro x c st' hax hxn ⟨neq, rfl, hB', hs', hq, hR'⟩
    dsimp only
    have hsz : x < (arrOf st').size := by rw [hB'.size]; omega
    refine wpS_bind (lt_ hL hB' (by omega) (by omega) ?_)
    cases hless : kLt (ke ky (arrOf st') x) (ke ky (arrOf st') (x - 1)) with
    | true =>
      simp only [if_true]
      by_cases hneq : neq > 0
      · rw [if_pos hneq]
        refine wpS_bind (rev_ (wpS_pure ⟨0, rfl, hB'.setArr (mirror_perm _ _ _ _), (hs'.fall (by omega) hq).desc (by omega) ?_, by omega, ?_⟩))
        · show kLt (ke ky (mirror (arrOf st') _ _ _) x) (ke ky (mirror (arrOf st') _ _ _) (x - 1)) = true
          rw [ke_mirror (by omega), ke_mirror (by omega), if_neg (by omega), if_pos (by omega)]
          refine lt_of_lt_le hless ?_
          by_cases e : x - (neq + 1) + x - 1 - (x - 1) = x - 1
          · rw [e]; exact kLe.refl _
          · have := (hs'.d3 (x - (neq + 1) + x - 1 - (x - 1)) (x - 1) (by omega) (by omega) (by omega)).1
            rw [this]; exact kLe.refl _
        · show Rest po (mirror (arrOf st') _ _ _) (x + 1)
          exact (hR'.mirror (Nat.le_refl _) (by omega)).succ (by rw [mirror_size]; exact hsz)
      · rw [if_neg hneq]
        have : neq = 0 := by omega
        subst this
        exact wpS_pure ⟨0, rfl, hB', hs'.fall0.desc (by omega) hless, by omega, hR'.succ hsz⟩
    | false =>
      simp only [Bool.false_eq_true, if_false]
      refine wpS_bind (lt_ hL hB' (by omega) (by omega) ?_)
      cases hlarger : kLt (ke ky (arrOf st') (x - 1)) (ke ky (arrOf st') x) with
      | true =>
        simp only [if_true]
        exact wpS_pure (h x neq st' hB' hax (by omega) hs' hq hR')
      | false =>
        simp only [Bool.false_eq_true, if_false]
        exact wpS_pure ⟨neq + 1, rfl, hB', hs'.more hR' hsz hq (kLe.antisymm hlarger hless), by omega, hR'.succ hsz⟩

theorem descPart_ {st : SortSt} {n nrem : Nat} {Q : Option Nat → SortSt → Prop} (hL : Lts M A E s kd a₀ ky) (hn : nrem ≤ a₀.size) (hnn : n + 1 ≤ nrem) (hB : SB kd a₀ st)
    (hs : Desc ky po (arrOf st) (n + 1) 0) (hR : Rest po (arrOf st) (n + 1)) (h : ∀ m st', SB kd a₀ st' → 1 ≤ m → m ≤ nrem → Asc ky po (arrOf st') m → Rest po (arrOf st') m → Q (some m) st') :
    wpS M A E s (descPart n nrem) Q st := by
  unfold descPart
  refine wpS_bind (wpS_lift (wpAny_rule ⟨rfl, ?_⟩))
  refine wpS_bind (desc_ hL hn (by omega) hnn hB hs hR fun m neq st' hB' hm1 hm2 hs' hq hR' => ?_)
  dsimp only
  have hsz : m ≤ (arrOf st').size := by rw [hB'.size]; omega
  by_cases hneq : neq > 0
  · rw [if_pos hneq]
    exact wpS_bind (rev_ (tail_ hL hn (by omega) hm2 (hB'.setArr (mirror_perm _ _ _ _)) (hs'.fall hsz hq) (hR'.mirror (Nat.le_refl _) hsz) h))
  · rw [if_neg hneq]
    have : neq = 0 := by omega
    subst this
    exact tail_ hL hn (by omega) hm2 hB' hs'.fall0 hR' h

theorem countRun_ {st : SortSt} {nrem : Nat} {Q : Option Nat → SortSt → Prop} (hL : Lts M A E s kd a₀ ky) (hn : nrem ≤ a₀.size) (h1 : 1 ≤ nrem) (hB : SB kd a₀ st) (hR : Rest po (arrOf st) 1)
    (h : ∀ m st', SB kd a₀ st' → 1 ≤ m → m ≤ nrem → Asc ky po (arrOf st') m → Rest po (arrOf st') m → Q (some m) st') :
    wpS M A E s (countRun' 0 nrem) Q st := by
  rw [countRun0_eq]
  refine wpS_bind (asc_ hL hn (Nat.le_refl 1) h1 hB (fun i j hij hj => by omega) hR fun n hn1 hn2 hsn hRn hor => ?_)
  dsimp only
  by_cases hnn : n = nrem
  · rw [if_pos (by simpa using hnn)]
    exact wpS_pure (h n st hB hn1 hn2 hsn hRn)
  · rw [if_neg (by simpa using hnn)]
    have hlt := hor.resolve_left hnn
    have hsz : n < (arrOf st).size := by rw [hB.size]; omega
    by_cases hgt : n > 1
    · rw [if_pos hgt]
      refine wpS_bind (lt_ hL hB (by omega) (by omega) ?_)
      cases hrose : kLt (ke ky (arrOf st) 0) (ke ky (arrOf st) (n - 1)) with
      | true =>
        simp only [if_true]
        exact wpS_pure (h n st hB hn1 hn2 hsn hRn)
      | false =>
        simp only [Bool.false_eq_true, if_false]
        have hle : ∀ i j, i ≤ j → j < n → kLe (ke ky (arrOf st) i) (ke ky (arrOf st) j) := fun i j hij hj => by
          by_cases e : i = j
          · rw [e]; exact kLe.refl _
          · exact sl_le (hsn i j (by omega) hj)
        have hall : ∀ k, k < n → ke ky (arrOf st) k = ke ky (arrOf st) (n - 1) := fun k hk =>
          kLe.antisymm (hle k (n - 1) (by omega) (by omega)) ((show kLe (ke ky (arrOf st) (n - 1)) (ke ky (arrOf st) 0) from hrose).trans (hle 0 k (by omega) hk))
        refine wpS_bind (rev_ (descPart_ hL hn (by omega) (hB.setArr (mirror_perm _ _ _ _)) ?_ ?_ h))
        · have hf : Fall ky po (mirror (arrOf st) 0 n ((n - 0) / 2)) n := by
            intro i j hij hj
            unfold sl
            rw [ke_mirror (by omega), ke_mirror (by omega), pp_mirror (by omega), pp_mirror (by omega), if_pos (by omega), if_pos (by omega), if_pos (by omega), if_pos (by omega)]
            rcases hsn (0 + n - 1 - j) (0 + n - 1 - i) (by omega) (by omega) with h' | h'
            · rw [hall _ (by omega), hall (0 + n - 1 - i) (by omega), kLt_irrefl] at h'; cases h'
            · exact .inr h'
          refine hf.desc hn1 ?_
          show kLt (ke ky (mirror (arrOf st) _ _ _) n) (ke ky (mirror (arrOf st) _ _ _) (n - 1)) = true
          rw [ke_mirror (by omega), ke_mirror (by omega), if_neg (by omega), if_pos (by omega), hall (0 + n - 1 - (n - 1)) (by omega)]
          exact hlt
        · exact (hRn.mirror (Nat.le_refl _) (by omega)).succ (by rw [mirror_size]; exact hsz)
    · rw [if_neg hgt]
      have hn1' : n = 1 := by omega
      subst hn1'
      refine descPart_ hL hn (by omega) hB ?_ (hRn.succ hsz) h
      exact Fall.desc (fun i j hij hj => by omega) (Nat.le_refl _) hlt

theorem sortRuns_ {st : SortSt} {Q : Unit → SortSt → Prop} (hL : Lts M A E s kd a₀ ky) (hpos : ∀ i x, a₀[i]? = some x → po x = i) (hB : SB kd a₀ st) (h0 : arrOf st = a₀) (h2 : 2 ≤ a₀.size) (h64 : a₀.size < 64)
    (h : ∀ st', (arrOf st').Perm a₀ → failedOf st' = none → Asc ky po (arrOf st') a₀.size → Q () st') : wpS M A E s sortRuns' Q st := by
  rw [sortRuns'_eq]
  refine wpS_bind (wpS_get ?_)
  dsimp only
  have hmr : minRun' a₀.size a₀.size 0 = a₀.size := by
    obtain ⟨f, hf⟩ : ∃ f, a₀.size = f + 1 := ⟨a₀.size - 1, by omega⟩
    have : minRun' (f + 1) a₀.size 0 = a₀.size := by rw [minRun'_succ, if_pos h64]; rfl
    rwa [← hf] at this
  simp only [hB.size, hmr]
  have done : ∀ st', SB kd a₀ st' → Asc ky po (arrOf st') a₀.size → (fun st'' : SortSt => (arrOf st'').Perm a₀ ∧ failedOf st'' = none ∧ pendingOf st'' = #[(0, a₀.size, 0)] ∧ Asc ky po (arrOf st'') a₀.size) (setPending st' ((pendingOf st').push (0, a₀.size, 0))) :=
    fun st' hB' hs' => ⟨hB'.perm, hB'.failed, by show (pendingOf st').push _ = _; rw [hB'.pend]; rfl, hs'⟩
  have hpp : ∀ i, i < a₀.size → pp po a₀ i = i := fun i hi => by
    unfold pp; rw [getElem?_pos a₀ i hi]; exact hpos i _ (getElem?_pos a₀ i hi)
  refine wpS_bind (wpS_mono (wpS_forRange
    (I := fun x c st' => (x = 0 ∧ c = (none, 0) ∧ SB kd a₀ st' ∧ arrOf st' = a₀) ∨ (1 ≤ x ∧ c = (none, a₀.size) ∧ (arrOf st').Perm a₀ ∧ failedOf st' = none ∧ pendingOf st' = #[(0, a₀.size, 0)] ∧ Asc ky po (arrOf st') a₀.size))
    (Q := fun c st' => c = (none, a₀.size) ∧ (arrOf st').Perm a₀ ∧ failedOf st' = none ∧ pendingOf st' = #[(0, a₀.size, 0)] ∧ Asc ky po (arrOf st') a₀.size) ?step ?fin (.inl ⟨rfl, rfl, hB, h0⟩)) ?post)
  case fin =>
    rintro c st' (⟨hx, _, _⟩ | ⟨_, hc, hD⟩)
    · omega
    · exact ⟨hc, hD⟩
  case step =>
    rintro x c st' _ hx (⟨rfl, rfl, hB', h0'⟩ | ⟨hx1, rfl, hD⟩)
    · dsimp only
      rw [if_neg (by omega)]
      simp only [Nat.sub_zero, Nat.min_self, Nat.zero_add]
      refine wpS_bind (countRun_ (po := po) hL (Nat.le_refl _) (by omega) hB' ?_ fun m st2 hB2 hm1 hm2 hs2 hR2 => ?_)
      · rw [h0']
        exact ⟨fun i _ hi => hpp i hi, fun i h1 hi => by rw [hpp i hi]; exact h1⟩
      dsimp only
      by_cases hlt : m < a₀.size
      · rw [if_pos hlt]
        refine wpS_bind (wpS_lift (wpAny_rule ⟨rfl, ?_⟩))
        refine wpS_bind (binary_ hL (Nat.le_refl _) hm2 hm1 hB2 hs2 hR2 fun st3 hB3 hs3 => ?_)
        simp only [Bool.not_true, Bool.false_eq_true, if_false]
        refine wpS_bind (wpS_get ?_)
        have hb : (pendingOf st3).back? = none := by rw [hB3.pend]; rfl
        rw [hb]
        dsimp only
        exact wpS_bind (wpS_modify (wpS_pure (.inr ⟨by omega, rfl, done st3 hB3 hs3⟩)))
      · rw [if_neg hlt]
        have hm : m = a₀.size := by omega
        subst hm
        refine wpS_bind (wpS_get ?_)
        have hb : (pendingOf st2).back? = none := by rw [hB2.pend]; rfl
        rw [hb]
        dsimp only
        exact wpS_bind (wpS_modify (wpS_pure (.inr ⟨by omega, rfl, done st2 hB2 hs2⟩)))
    · dsimp only
      rw [if_pos (Nat.le_refl _)]
      exact wpS_pure ⟨rfl, hD⟩
  case post =>
    rintro c st' ⟨rfl, hD⟩
    dsimp only
    refine wpS_bind (wpS_mono (wpS_forRange (I := fun _ c st'' => st'' = st' ∧ c = (none, ())) (Q := fun c st'' => st'' = st' ∧ c = (none, ())) ?_ (fun _ _ hh => hh) ⟨rfl, rfl⟩) ?_)
    · rintro x c st'' _ _ ⟨rfl, rfl⟩
      refine wpS_bind (wpS_get ?_)
      rw [if_pos (by rw [hD.2.2.1]; exact Nat.le_refl 1)]
      exact wpS_pure ⟨rfl, rfl⟩
    · rintro c st'' ⟨rfl, rfl⟩
      exact wpS_pure (h _ hD.1 hD.2.1 hD.2.2.2)
end
end Mine

end
section
open PySem PySem.W PySem.Calls PyProof.Rows Builtin
set_option Elab.async false
set_option maxRecDepth 100000
set_option linter.unusedVariables false
namespace Mine

theorem pos_of {α : Type} {l : List α} (hn : l.Nodup) : ∃ po : α → Nat, ∀ i x, l[i]? = some x → po x = i := by
  classical
  refine ⟨fun x => if h : ∃ i, l[i]? = some x then h.choose else 0, fun i x hx => ?_⟩
  have h : ∃ i, l[i]? = some x := ⟨i, hx⟩
  show (if h : ∃ i, l[i]? = some x then h.choose else 0) = i
  rw [dif_pos h]
  have h2 := h.choose_spec
  obtain ⟨l1, e1⟩ := List.getElem?_eq_some_iff.mp hx
  obtain ⟨l2, e2⟩ := List.getElem?_eq_some_iff.mp h2
  exact (List.getElem_inj hn).mp (e2.trans e1.symm)

theorem sort_out {vs : List Value} {ks : List Key} {R : Value → Key → Prop} (hr : Rel2 R vs ks) {a₀ arr : Array Keyed} {ky : Keyed → Key} {po : Keyed → Nat} {Kf : Key → Key} {Rst : Key → Key → Prop} (ha : a₀.size = vs.length)
    (hit : ∀ (i : Nat) (e : Keyed), a₀[i]? = some e → vs[i]? = some e.2) (hpo : ∀ (i : Nat) (e : Keyed), a₀[i]? = some e → po e = i) (hky : ∀ (i : Nat) (e : Keyed), a₀[i]? = some e → ky e = Kf (gk ks i)) (hp : arr.Perm a₀) (hs : Asc ky po arr arr.size) (hks : ks.Pairwise Rst) :
    ∃ ks', Rel2 R (arr.map (·.2)).toList ks' ∧ ks'.Perm ks ∧ ks'.Pairwise fun x y => kLt (Kf x) (Kf y) = true ∨ (Kf x = Kf y ∧ Rst x y) := by
  have hl : arr.toList.Perm a₀.toList := Array.perm_iff_toList_perm.mp hp
  have mem : ∀ e ∈ arr.toList, a₀[po e]? = some e := fun e he => by
    obtain ⟨i, hi, rfl⟩ := List.mem_iff_getElem.mp (hl.mem_iff.mp he)
    have h1 : a₀[i]? = some a₀.toList[i] := by simp at hi; simp [hi]
    rw [hpo i _ h1]; exact h1
  have lt : ∀ {i : Nat} {e : Keyed}, a₀[i]? = some e → i < ks.length := fun {i e} h => by
    have := (Array.getElem?_eq_some_iff.mp h).1
    rw [← hr.1, ← ha]; exact this
  refine ⟨arr.toList.map fun e => gk ks (po e), ⟨by simp, fun i v k hv hk => ?_⟩, ?_, ?_⟩
  · rw [Array.toList_map, List.getElem?_map] at hv
    rw [List.getElem?_map] at hk
    cases he : arr.toList[i]? with
    | none => rw [he] at hv; simp at hv
    | some e =>
      rw [he] at hv hk
      simp only [Option.map_some, Option.some.injEq] at hv hk
      subst hv hk
      have hm := mem e (List.mem_of_getElem? he)
      have hl' := lt hm
      refine hr.2 (po e) _ _ (hit _ _ hm) ?_
      unfold gk; rw [List.getD_eq_getElem?_getD, List.getElem?_eq_getElem hl']; rfl
  · have e2 : a₀.toList.map (fun e => gk ks (po e)) = ks := by
      refine List.ext_getElem (by simp [ha, hr.1]) fun i h1 h2 => ?_
      simp only [List.length_map, Array.length_toList] at h1
      have h3 : a₀[i]? = some a₀[i] := getElem?_pos a₀ i h1
      simp only [List.getElem_map, Array.getElem_toList, hpo i _ h3]
      unfold gk; rw [List.getD_eq_getElem?_getD, List.getElem?_eq_getElem h2]; rfl
    exact (hl.map _).trans (List.Perm.of_eq e2)
  · rw [List.pairwise_map, List.pairwise_iff_getElem]
    intro i j hi hj hij
    have hi' : i < arr.size := by simpa using hi
    have hj' : j < arr.size := by simpa using hj
    have mi := mem arr[i] (by simp)
    have mj := mem arr[j] (by simp)
    have h := hs i j hij hj'
    unfold sl ke pp at h
    rw [getElem?_pos arr i hi', getElem?_pos arr j hj'] at h
    dsimp only at h
    rw [hky _ _ mi, hky _ _ mj] at h
    simp only [Array.getElem_toList]
    refine h.imp id fun ⟨h1, h2⟩ => ⟨h1, ?_⟩
    have li := lt mi
    have lj := lt mj
    have := List.pairwise_iff_getElem.mp hks (po arr[i]) (po arr[j]) li lj h2
    unfold gk
    rw [List.getD_eq_getElem?_getD, List.getD_eq_getElem?_getD, List.getElem?_eq_getElem li, List.getElem?_eq_getElem lj]
    exact this

/-! list objects with their epoch -/
def ListE (vs : List Value) (n : Nat) : OP := fun o => o.cls = .type "list" ∧ o.dict = none ∧ o.data = .seq vs.toArray n
section
variable {w : World} {A : Around} {E : Value → Shared → Prop} {B B' : Store} {G : Array GenState} {os : OsState} {L L' : Led} {s : Shared} {q : Addr}
theorem ListE.listO {vs : List Value} {n : Nat} {o : Obj} (h : ListE vs n o) : ListO vs o := ⟨h.1, h.2.1, n, h.2.2⟩
theorem SS.listE {vs : List Value} (S : SS B G os ((q, ListO vs) :: L) s) : ∃ n, SS B G os ((q, ListE vs n) :: L) s := by
  obtain ⟨o, ho, hc, hdd, n, hd⟩ := S.led _ (.head _)
  refine ⟨n, S.keep, fun p hp => ?_, fun p hp => ?_, S.nodup, S.gens, S.os⟩
  · rcases List.mem_cons.mp hp with rfl | hp
    · exact ⟨o, ho, hc, hdd, hd⟩
    · exact S.led p (.tail _ hp)
  · rcases List.mem_cons.mp hp with rfl | hp
    · exact S.new (q, ListO vs) (.head _)
    · exact S.new p (.tail _ hp)
theorem updE {vs vs' : List Value} {n : Nat} {f : Array Value → Array Value} {Q : Unit → Shared → Prop} (S : SS B G os ((q, ListE vs n) :: L) s) (e : f vs.toArray = vs'.toArray) (hz : vs.length ≤ 1000) (hz' : vs'.length ≤ 1001)
    (h : ∀ n' s', SS B G os ((q, ListE vs' n') :: L) s' → Q () s') : wpAny (model thePrg w) A (Builtin.List.listUpdate (.ref q) f) Q E s := by
  obtain ⟨o, ho, hc, hdd, hd⟩ := S.led _ (.head _)
  obtain ⟨n', hd'⟩ := Obj.data_mapSeq hd f
  refine listUpdate_at ho hd (h n' _ ?_) (by unfold sizeLine; simp; omega) (by rw [e]; unfold sizeLine; simp; omega)
  obtain ⟨h1, h2, n2, h3⟩ := ListO.set hc hdd hd e
  exact S.upd (Heap.SameBut.update ..) (Heap.get?_update_self _ ho (Obj.isFreed_of_seq hd')) ⟨h1, h2, by rw [hd', e]⟩
theorem itemsE {vs : List Value} {n : Nat} {Q : Array Value → Shared → Prop} (S : SS B G os L s) (e : Sel q (ListE vs n) L L') (h : Q vs.toArray s) : wpAny (model thePrg w) A (Builtin.List.listItems (.ref q)) Q E s := by
  obtain ⟨o, ho, hc, hdd, hd⟩ := S.get e
  exact listItems_at ho hd h
theorem epochE {vs : List Value} {n : Nat} {Q : Nat → Shared → Prop} (S : SS B G os L s) (e : Sel q (ListE vs n) L L') (h : Q n s) : wpAny (model thePrg w) A (seqEpoch q) Q E s := by
  obtain ⟨o, ho, hc, hdd, hd⟩ := S.get e
  exact seqEpoch_at ho hd h

/-- a function that gives a pair's first -/
def FirstFn (w : World) (B : Store) (q : Addr) : Prop := ∀ (A : Around) (B' : Store) (G : Array GenState) (os : OsState) (L : Led) (s : Shared) (v : Value) (k : Key) (Q : Value → Shared → Prop), Rm A 2 → Le B B' → IsPair B' v k → SS B' G os L s →
  (∀ t s', SS B' G os L s' → Q (.int k.1 t) s') → W (model thePrg w) A (call (.ref q) [v]) Q s

theorem ltsInt {a₀ : Array Keyed} (h : ∀ e ∈ a₀.toList, ∃ n t, e.1 = .int n t) : Lts (model thePrg w) A E s oneType' a₀ (fun e => (numOf e.1, [])) := by
  intro st i j x y Q hB hi hj mx my hq
  obtain ⟨n, t, hn⟩ := h x mx
  obtain ⟨m, u, hm⟩ := h y my
  obtain ⟨x1, x2⟩ := x
  obtain ⟨y1, y2⟩ := y
  simp only at hn hm
  subst hn hm
  refine wpS_ltAt hB.kind hi hj ?_
  have : kLt (n, []) (m, []) = decide (n < m) := by
    unfold kLt; dsimp only
    by_cases e : n = m
    · rw [if_pos e, if_pos rfl]; simp [e]
    · rw [if_neg e]
  rw [← this]; exact hq

theorem sort_end {a kS : Addr} {vs keys : List Value} {ks : List Key} {e1 n : Nat} {Rst : Key → Key → Prop} {P : PySem.Fin → Shared → Prop} (S : SS B G os ((a, ListE [] e1) :: (kS, ListE keys n) :: L) s)
    (hr : Rel2 (IsPair B) vs ks) (hk : Rel2 (fun v k => ∃ t, v = .int k.1 t) keys ks) (hnd : ks.Nodup) (h64 : ks.length < 64) (hst : ks.Pairwise Rst)
    (h : ∀ s' vs' ks', SS B G os ((a, ListO vs') :: L) s' → Rel2 (IsPair B) vs' ks' → ks'.Perm ks → (ks'.Pairwise fun x y => x.1 < y.1 ∨ (x.1 = y.1 ∧ Rst x y)) → P (.done (.ret .none)) s') :
    wpAny (model thePrg w) A (ksk_end a false vs.toArray e1 (.ref kS) keys.toArray) P E s := by
  have hlv : vs.length = ks.length := hr.1
  have hlk : keys.length = ks.length := hk.1
  have hvn : vs.Nodup := by
    rw [List.nodup_iff_pairwise_ne, List.pairwise_iff_getElem]
    intro i j hi hj hij e
    have h1 := hr.2 i _ _ (List.getElem?_eq_getElem hi) (List.getElem?_eq_getElem (by omega))
    have h2 := hr.2 j _ _ (List.getElem?_eq_getElem hj) (List.getElem?_eq_getElem (by omega))
    rw [e] at h1
    obtain ⟨a1, o1, n1, t1, u1, e1, b1, -, -, d1⟩ := h1
    obtain ⟨a2, o2, n2, t2, u2, e2, b2, -, -, d2⟩ := h2
    rw [e1] at e2; cases e2
    rw [b1] at b2; cases b2
    rw [d1] at d2
    injection d2 with d2 _
    have : (ks[i]'(by omega)) = (ks[j]'(by omega)) := by
      simp at d2
      exact Prod.ext d2.1.1 d2.2.1
    exact absurd ((List.getElem_inj hnd).mp this) (by omega)
  let a₀ : Array Keyed := keys.toArray.zip vs.toArray
  have hsz : a₀.size = vs.length := by simp [a₀]; omega
  have hget : ∀ (i : Nat) (e : Keyed), a₀[i]? = some e → keys[i]? = some e.1 ∧ vs[i]? = some e.2 := fun i e he => by
    obtain ⟨x, y⟩ := e
    simpa [a₀, Array.getElem?_zip_eq_some, List.getElem?_zip_eq_some] using he
  obtain ⟨po, hpo⟩ := pos_of hvn
  have hpo' : ∀ (i : Nat) (e : Keyed), a₀[i]? = some e → (fun e : Keyed => po e.2) e = i := fun i e he => hpo i _ (hget i e he).2
  have hky : ∀ (i : Nat) (e : Keyed), a₀[i]? = some e → (fun e : Keyed => ((numOf e.1, []) : Key)) e = (fun k : Key => (k.1, [])) (gk ks i) := fun i e he => by
    have h1 := (hget i e he).1
    have hi : i < ks.length := by rw [← hlk]; exact (List.getElem?_eq_some_iff.mp h1).1
    obtain ⟨t, ht⟩ := hk.2 i _ _ h1 (List.getElem?_eq_getElem hi)
    dsimp only
    rw [ht]
    unfold gk; rw [List.getD_eq_getElem?_getD, List.getElem?_eq_getElem hi]; rfl
  have hints : ∀ e ∈ a₀.toList, ∃ n t, e.1 = .int n t := fun e he => by
    obtain ⟨i, hi, rfl⟩ := List.mem_iff_getElem.mp he
    have h1 : a₀[i]? = some a₀.toList[i] := by simp at hi; simp [hi]
    have h2 := (hget i _ h1).1
    have hi' : i < ks.length := by rw [← hlk]; exact (List.getElem?_eq_some_iff.mp h2).1
    obtain ⟨t, ht⟩ := hk.2 i _ _ h2 (List.getElem?_eq_getElem hi')
    exact ⟨_, t, ht⟩
  -- the tail
  have fin : ∀ st : SortSt, (arrOf st).Perm a₀ → failedOf st = none → Asc (fun e => (numOf e.1, [])) (fun e => po e.2) (arrOf st) (arrOf st).size →
      wpAny (model thePrg w) A (ksk_tail a false e1 (.ref kS) st) P E s := by
    intro st hp hf hs
    obtain ⟨ks', r1, r2, r3⟩ := sort_out hr (R := IsPair B) (Kf := fun k => (k.1, [])) hsz (fun i e he => (hget i e he).2) hpo' hky hp hs hst
    have hout : (arrOf st).size = vs.length := hp.size_eq.trans hsz
    unfold ksk_tail
    dsimp only
    have S := S.front (e := .tail .head)
    refine wpAny_bind (updE S (vs' := []) rfl (by omega) (by simp) fun n' s S => ?_)
    refine wpAny_bind (wpAny_letGo ?_)
    refine wpAny_bind (epochE S (.tail .head) ?_)
    have S := S.front (e := .tail .head)
    refine wpAny_bind (updE S (vs' := ((arrOf st).map (·.2)).toList) (by rw [Array.toArray_toList, if_neg Bool.false_ne_true]) (by simp) (by simp; omega) fun n'' s S => ?_)
    rw [hf]
    simp only [bne_self_eq_false, Bool.false_eq_true, if_false]
    refine wpAny_pure (h s _ ks' ((S.weak fun o h => h.listO).dropAt (e := .tail .head) |> fun S => ?_) r1 r2 ?_)
    · exact S
    · refine r3.imp fun {x y} hxy => ?_
      rcases hxy with hxy | ⟨hxy, hr⟩
      · have := (kLt_iff _ _).mp hxy
        simp only at this
        rcases this with h | ⟨_, h⟩
        · exact .inl h
        · rw [bLt_irrefl] at h; cases h
      · exact .inr ⟨(Prod.mk.inj hxy).1, hr⟩
  unfold ksk_end
  dsimp only
  simp only [Bool.false_eq_true, if_false]
  by_cases h2 : vs.toArray.size < 2
  · rw [if_pos h2, if_pos h2]
    refine wpAny_bind (wpAny_pure ?_)
    rw [StateT.run_pure]
    refine wpAny_bind (wpAny_pure ?_)
    refine fin (SortSt.mk' general' a₀ #[] 7 none) (Array.Perm.refl _) rfl ?_
    intro i j hij hj
    have hj' : j < a₀.size := hj
    rw [hsz] at hj'
    simp at h2
    omega
  · rw [if_neg h2, if_neg h2]
    have h2' : 2 ≤ vs.length := by simpa using h2
    have hkind : keyKind' keys.toArray = pure oneType' := by
      have hI : IntsAre keys (keys.map numOf) := intsAre_map keys fun v hv => by
        obtain ⟨i, hi, rfl⟩ := List.mem_iff_getElem.mp hv
        obtain ⟨t, ht⟩ := hk.2 i _ _ (List.getElem?_eq_getElem hi) (List.getElem?_eq_getElem (by omega))
        exact ⟨_, t, ht⟩
      exact ksk_kind hI (by simp; omega)
    rw [hkind]
    refine wpAny_bind (wpAny_pure ?_)
    refine wpAny_bind (wpAny_mono (sortRuns_ (a₀ := a₀) (kd := oneType') (ky := fun e => (numOf e.1, [])) (po := fun e => po e.2) (st := SortSt.mk' oneType' a₀ #[] 7 none)
      (Q := fun _ st' => (arrOf st').Perm a₀ ∧ failedOf st' = none ∧ Asc (fun e => (numOf e.1, [])) (fun e => po e.2) (arrOf st') (arrOf st').size)
      (ltsInt hints) hpo' ⟨Array.Perm.refl _, rfl, rfl, rfl⟩ rfl (by omega) (by omega) fun st' a1 a2 a3 => ⟨a1, a2, by rw [a1.size_eq]; exact a3⟩) ?_ fun _ _ e => e)
    rintro ⟨⟨⟩, st'⟩ s' ⟨rfl, hp, hf, hs⟩
    exact fin st' hp hf hs

/-- results.sort(key=..) -/
theorem sort_key {a q : Addr} {vs : List Value} {ks : List Key} {Rst : Key → Key → Prop} {Q : Value → Shared → Prop} {n : Nat} (R : Rm A 4) (hf : FirstFn w B q) (S : SS B G os ((a, ListO vs) :: L) s)
    (hr : Rel2 (IsPair B) vs ks) (hnd : ks.Nodup) (h64 : ks.length < 64) (hst : ks.Pairwise Rst)
    (h : ∀ s' vs' ks', SS B G os ((a, ListO vs') :: L) s' → Rel2 (IsPair B) vs' ks' → ks'.Perm ks → (ks'.Pairwise fun x y => x.1 < y.1 ∨ (x.1 = y.1 ∧ Rst x y)) → Q .none s') :
    W (model thePrg w) A (call (.builtin "list.sort") [.ref a] [("key", .ref q)]) Q s := by
  have hlv : vs.length = ks.length := hr.1
  obtain ⟨n, S⟩ := S.listE
  obtain ⟨oa, hoa, hca, -⟩ := S.get .head
  refine wpAny_call_entry_kw slot_list_sort ⟨_, hoa, hca⟩ entry_list_sort ?_ (ksk_l1 _ _)
  rw [ksk_t1]
  unfold ksk_tree
  refine wpAny_bind (itemsE S .head ?_)
  refine wpAny_bind (updE S (vs' := []) rfl (by omega) (by simp) fun n1 s S => ?_)
  refine wpAny_bind (epochE S .head ?_)
  refine wpAny_bind (newTuple_ S (by simp; omega) fun tu s S => ?_)
  have S := S.drop
  refine wpAny_bind (newList_ S (by simp) fun kS s S => ?_)
  refine wpAny_holding ?_
  unfold ksk_rest
  refine wpAny_bind (wpAny_rule ?_)
  rw [List.forIn_toArray]
  obtain ⟨n2, S⟩ := S.listE
  have RI : Rm A.in1 2 := (R.less (m := 3) (by omega)).in1
  refine wpAny_bind (ksk_fold (fun i s' => ∃ kA e, SS B G os ((kS, ListE kA e) :: (a, ListE [] n1) :: L) s' ∧ Rel2 (fun v k => ∃ t, v = .int k.1 t) kA (ks.take i)) vs 0 s
    ⟨[], n2, S, by simpa using Rel2.nil⟩ ?step ?done)
  case step =>
    rintro j x s' hx ⟨kA, e, S, hk⟩
    simp only [Nat.zero_add] at hk ⊢
    have hj : j < vs.length := (List.getElem?_eq_some_iff.mp hx).1
    have hp := hr.2 j x _ hx (List.getElem?_eq_getElem (by omega))
    have hz : kA.length ≤ 64 := by have := hk.1; rw [List.length_take] at this; omega
    refine wpAny_bind (wpAny_attempt (wpAny_mono (hf A.in1 B G os _ s' x _ (fun v s' => ∃ t, v = Value.int (ks[j]'(by omega)).1 t ∧ SS B G os ((kS, ListE kA e) :: (a, ListE [] n1) :: L) s') RI (Le.refl _) hp S fun t s' S => ⟨t, rfl, S⟩) (fun v s'' he => ?_) fun _ _ hF => hF.elim))
    obtain ⟨t, rfl, S⟩ := he
    dsimp only
    refine wpAny_bind (updE S (vs' := kA ++ [.int (ks[j]'(by omega)).1 t]) (by simp) (by omega) (by simp; omega) fun n' s S => ?_)
    refine wpAny_pure ⟨rfl, _, n', S, ?_⟩
    rw [List.take_add_one, List.getElem?_eq_getElem (show j < ks.length by omega)]
    exact hk.append (Rel2.cons ⟨t, rfl⟩ .nil)
  case done =>
    rintro s' ⟨kA, e, S, hk⟩
    have e3 : ks.take (0 + vs.length) = ks := List.take_of_length_le (by omega)
    rw [e3] at hk
    refine wpAny_bind (itemsE S .head ?_)
    have S := S.front (e := .tail .head)
    exact sort_end S hr hk hnd h64 hst fun s' vs' ks' S' r1 r2 r3 => ⟨_, rfl, h s' vs' ks' S' r1 r2 r3⟩
end
end Mine

end
section
open PySem PySem.W PySem.Calls PyProof.Rows Builtin
set_option Elab.async false
set_option maxRecDepth 100000
set_option linter.unusedVariables false
namespace Mine

section
variable {B B' : Store} {G : Array GenState} {os : OsState} {L L' : Led} {s s' : Shared} {a c : Addr} {P P' : OP} {o o' : Obj}
theorem SS.updX (S : SS B G os ((a, P) :: L) s) (hx : Heap.ExtBut a s.heap s'.heap) (ho : s'.heap.get? a = some o') (hP : P' o') (hg : s'.gens = s.gens := by rfl) (hos : s'.os = s.os := by rfl) :
    SS B G os ((a, P') :: L) s' := by
  have hn := List.nodup_cons.mp (show (a :: L.map (·.1)).Nodup from S.nodup)
  have hB : B a = none := S.new (a, P) (.head _)
  refine ⟨fun b o e => hx b o (fun q => ?_) (S.keep b o e), fun p hp => ?_, fun p hp => ?_, S.nodup, hg.trans S.gens, hos.trans S.os⟩
  · rw [q, hB] at e; cases e
  · rcases List.mem_cons.mp hp with rfl | hp
    · exact ⟨o', ho, hP⟩
    · obtain ⟨o, e, x⟩ := S.led p (.tail _ hp)
      exact ⟨o, hx p.1 o (fun q => hn.1 (q ▸ List.mem_map_of_mem hp)) e, x⟩
  · rcases List.mem_cons.mp hp with rfl | hp
    · exact hB
    · exact S.new p (.tail _ hp)
theorem SS.reveal (S : SS B G os L s) (ho : s.heap.get? c = some o) (hB : B c = none) (hL : ∀ p ∈ L, p.1 ≠ c) : ∃ B', Le B B' ∧ B' c = some o ∧ (∀ b, b ≠ c → B' b = B b) ∧ SS B' G os L s := by
  refine ⟨fun b => if b = c then some o else B b, fun b o' e => ?_, if_pos rfl, fun b hb => if_neg hb, fun b o' e => ?_, S.led, fun p hp => ?_, S.nodup, S.gens, S.os⟩
  · have : b ≠ c := fun q => by rw [q, hB] at e; cases e
    show (if b = c then some o else B b) = some o'
    rw [if_neg this]; exact e
  · have e : (if b = c then some o else B b) = some o' := e
    by_cases q : b = c
    · subst q; rw [if_pos rfl] at e; cases e; exact ho
    · rw [if_neg q] at e; exact S.keep b o' e
  · show (if p.1 = c then some o else B p.1) = none
    rw [if_neg (hL p hp)]; exact S.new p hp
theorem SS.above (S : SS B G os L s) {b : Addr} (hb : s.heap.objs.size ≤ b) : B b = none ∧ ∀ p ∈ L, p.1 ≠ b := by
  constructor
  · cases q : B b with
    | none => rfl
    | some o => exact (Nat.not_lt.mpr hb (Heap.lt_size (S.keep b o q))).elim
  · intro p hp e
    obtain ⟨o, ho, _⟩ := S.led p hp
    have := Heap.lt_size ho
    rw [e] at this; exact Nat.not_lt.mpr hb this
end

/-- what is read of the machine's own names -/
def BmainS (mg : Str → Option Value) (B : Store) : Prop := ∃ bm ob, mg "__builtins__" = some (.ref bm) ∧ bm ≠ builtinsNs ∧ bm ≠ mainGlobals ∧ B bm = some ob ∧ ob.cls = .type "module" ∧ ob.dict = some builtinsNs ∧ ob.data = .plain
theorem BmainS.mono {mg : Str → Option Value} {B B' : Store} (h : BmainS mg B) (l : Le B B') : BmainS mg B' := let ⟨bm, ob, a, b, c, d, r⟩ := h; ⟨bm, ob, a, b, c, l _ _ d, r⟩
theorem BmainS.at {mg : Str → Option Value} {B : Store} {G : Array GenState} {os : OsState} {L : Led} {s : Shared} {P : Addr} (h : BmainS mg B) (S : SS B G os L s) (hP : B P = none) : s.heap.BuiltinsAt mg P :=
  let ⟨bm, ob, a, b, c, d, r⟩ := h; ⟨bm, ob, a, b, c, (fun e => by rw [e, hP] at d; cases d), S.keep _ _ d, r⟩
def CodeHdS (B : Store) (c P : Addr) : Prop := ∀ h : Heap, (∀ a o, B a = some o → h.get? a = some o) → CodeHd h c P
theorem CodeHdS.mono {B B' : Store} {c P : Addr} (h : CodeHdS B c P) (l : Le B B') : CodeHdS B' c P := fun hp k => h hp fun a o e => k a o (l a o e)
theorem CodeRecS.inj {B : Store} {cd : Value} {q q' : Str} (h : CodeRecS B cd q) (h' : CodeRecS B cd q') : q = q' := by
  obtain ⟨c, o, vs, t, rfl, a, b, d⟩ := h
  obtain ⟨c', o', vs', t', e, a', b', d'⟩ := h'
  cases e
  rw [a] at a'; cases a'
  rw [b] at b'; cases b'
  rw [d] at d'; cases d'; rfl

theorem closFor {scope : Scope} {env : Env} {sc : Scope} {Lf : Addr} {cl clos : List (Str × Addr)} {cd : Value} (I : EnvIs env sc Lf cl cd) (h : closureFor scope { (default : Env) with cells := cl } = pure clos) : closureFor scope env = pure clos := by
  have e : ∀ n, cellOf env n = cellOf { (default : Env) with cells := cl } n := fun n => by unfold cellOf; rw [I.cells]
  rw [← h]; unfold closureFor; simp only [e]

section
variable {w : World} {A : Around} {E : Value → Shared → Prop} {B B' : Store} {G : Array GenState} {os : OsState} {L L' : Led} {s : Shared} {env : Env} {sc : Scope} {Lf : Addr} {cl clos : List (Str × Addr)} {cd : Value} {n : Nat} {mg : Str → Option Value}
  {c P : Addr} {ps : Array Value} {name qual : Str} {params : Arguments} {body : List Stmt} {scope : Scope} {pos : Pos} {Q : Value → Shared → Prop}

theorem nestW (hg : NsS B mainGlobals mg) (hb : BmainS mg B) (hC : CodeHdS B c P) (I : EnvIs env sc Lf cl (.ref c)) (S : SS B G os ((P, Is (tabObj ps)) :: L) s) (ht : TriplesOk ps.toList) (hnf : codeAmong pos ps.toList = none)
    (hcl : closureFor scope { (default : Env) with cells := cl } = pure clos)
    (h : ∀ B' f c' s', Le B B' → FnIs B' f params body scope clos .none (.ref c') → CodeRecS B' (.ref c') qual → SS B' G os ((P, Is (tabObj (ps ++ #[rawInt pos.line, rawInt pos.col, .ref c']))) :: L) s' → Q (.ref f) s') :
    wpAny (model thePrg w) A (makeFunction name qual params (.stmts body) scope env [] [] [] pos pos.line) Q E s := by
  have hBP : B P = none := S.new (P, Is (tabObj ps)) (.head _)
  have hP : s.heap.get? P = some (tabObj ps) := S.exact .head
  have hgP : mainGlobals ≠ P := fun e => by obtain ⟨o, _, _, ho, _⟩ := hg; rw [e, hBP] at ho; cases ho
  refine makeFunction_K (mg := mg) (closFor I hcl) I.globals (hg.ns S) I.code (hC _ S.keep) hP ht hnf hgP (hb.at S hBP) fun c' ctv doc h' tk hx hge hlt hrec htb => ?_
  obtain ⟨c₂, oc, vs, t, e2, hoc, hd, hv⟩ := hrec
  cases e2
  have S1 := S.updX (s' := { s with heap := h', toks := tk }) hx htb (P' := Is (tabObj (ps ++ #[rawInt pos.line, rawInt pos.col, .ref c']))) rfl
  have hcn := S.above hge
  obtain ⟨B1, le1, hB1, hB1n, S2⟩ := S1.reveal hoc hcn.1 (fun p hp => by
    rcases List.mem_cons.mp hp with rfl | hp
    · exact hcn.2 (P, Is (tabObj ps)) (.head _)
    · exact hcn.2 p (.tail _ hp))
  have S3 := S2.push (s' := { s with heap := h'.push (fnMade name qual params body scope clos doc ((mg "__name__").getD .none) c' ctv), toks := tk }) (fnMade name qual params body scope clos doc ((mg "__name__").getD .none) c' ctv) (P := Is (fnMade name qual params body scope clos doc ((mg "__name__").getD .none) c' ctv)) rfl
  obtain ⟨B2, o2, le2, h2, hB2, S4⟩ := S3.freeze
  cases h2
  have hcr : CodeRecS B2 (.ref c') qual := ⟨c', oc, vs, t, rfl, le2 _ _ hB1, hd, hv⟩
  exact h B2 _ c' _ (le1.trans le2) ⟨_, _, hB2, rfl, rfl, rfl, rfl, rfl, rfl, rfl, rfl, rfl, rfl, rfl, hcr⟩ hcr S4

theorem nestHitW {c' : Addr} (hg : NsS B mainGlobals mg) (hb : BmainS mg B) (hC : CodeHdS B c P) (I : EnvIs env sc Lf cl (.ref c)) (S : SS B G os ((P, Is (tabObj ps)) :: L) s) (ht : TriplesOk ps.toList) (hf : codeAmong pos ps.toList = some (.ref c'))
    (hcr : CodeRecS B (.ref c') qual) (hcl : closureFor scope { (default : Env) with cells := cl } = pure clos)
    (h : ∀ B' f s', Le B B' → FnIs B' f params body scope clos .none (.ref c') → SS B' G os ((P, Is (tabObj ps)) :: L) s' → Q (.ref f) s') :
    wpAny (model thePrg w) A (makeFunction name qual params (.stmts body) scope env [] [] [] pos pos.line) Q E s := by
  have hBP : B P = none := S.new (P, Is (tabObj ps)) (.head _)
  have hP : s.heap.get? P = some (tabObj ps) := S.exact .head
  refine makeFunction_hit (mg := mg) (closFor I hcl) I.globals (hg.ns S) I.code (hC _ S.keep) hP ht hf (hb.at S hBP) fun ctv doc h' tk hk hsz => ?_
  have S1 := S.ext (s' := { s with heap := h', toks := tk }) hk
  have S3 := S1.push (s' := { s with heap := h'.push (fnMade name qual params body scope clos doc ((mg "__name__").getD .none) c' ctv), toks := tk }) (fnMade name qual params body scope clos doc ((mg "__name__").getD .none) c' ctv) (P := Is (fnMade name qual params body scope clos doc ((mg "__name__").getD .none) c' ctv)) rfl
  obtain ⟨B2, o2, le2, h2, hB2, S4⟩ := S3.freeze
  cases h2
  exact h B2 _ _ le2 ⟨_, _, hB2, rfl, rfl, rfl, rfl, rfl, rfl, rfl, rfl, rfl, rfl, rfl, hcr.mono le2⟩ S4

/-! lambdas -/
structure LamIs (B : Store) (f : Addr) (params : Arguments) (body : Expr) (scope : Scope) (clos : List (Str × Addr)) (cd : Value) : Prop where
  ex : ∃ o fd, B f = some o ∧ o.cls = .type "function" ∧ o.data = .func fd ∧ fd.params = params ∧ fd.body = .expr body ∧ fd.scope = scope ∧ fd.closure = clos ∧ fd.defaults = .none ∧ fd.kwdefaults = .none ∧ fd.globals = mainGlobals ∧ fd.builtins = builtinsNs ∧ fd.code = cd ∧ CodeRecS B cd fd.qualname
theorem LamIs.mono {f : Addr} {body : Expr} {cd : Value} (h : LamIs B f params body scope clos cd) (l : Le B B') : LamIs B' f params body scope clos cd :=
  let ⟨o, fd, a, b, c, d, e, f', g, i, j, k, m, n, r⟩ := h.ex; ⟨o, fd, l _ _ a, b, c, d, e, f', g, i, j, k, m, n, r.mono l⟩

theorem lamW {body : Expr} (hg : NsS B mainGlobals mg) (hb : BmainS mg B) (hC : CodeHdS B c P) (I : EnvIs env sc Lf cl (.ref c)) (S : SS B G os ((P, Is (tabObj ps)) :: L) s) (ht : TriplesOk ps.toList) (hnf : codeAmong pos ps.toList = none)
    (hcl : closureFor scope { (default : Env) with cells := cl } = pure clos) (hdef : defaultsOf params env = ([], []))
    (h : ∀ B' f c' s', Le B B' → LamIs B' f params body scope clos (.ref c') → CodeRecS B' (.ref c') (env.qual ++ "<lambda>") → SS B' G os ((P, Is (tabObj (ps ++ #[rawInt pos.line, rawInt pos.col, .ref c']))) :: L) s' → Q (.ref f) s') :
    wpAny (model thePrg w) A (eval (.Lambda params body scope pos) env) Q E s := by
  refine kla_eval hdef ?_
  have hBP : B P = none := S.new (P, Is (tabObj ps)) (.head _)
  have hP : s.heap.get? P = some (tabObj ps) := S.exact .head
  have hgP : mainGlobals ≠ P := fun e => by obtain ⟨o, _, _, ho, _⟩ := hg; rw [e, hBP] at ho; cases ho
  refine kla_makeFunction (mg := mg) (closFor I hcl) I.globals (hg.ns S) I.code (hC _ S.keep) hP ht hnf hgP (hb.at S hBP) fun c' ctv h' tk hx hge hlt hrec htb => ?_
  obtain ⟨c₂, oc, vs, t, e2, hoc, hd, hv⟩ := hrec
  cases e2
  have S1 := S.updX (s' := { s with heap := h', toks := tk }) hx htb (P' := Is (tabObj (ps ++ #[rawInt pos.line, rawInt pos.col, .ref c']))) rfl
  have hcn := S.above hge
  obtain ⟨B1, le1, hB1, hB1n, S2⟩ := S1.reveal hoc hcn.1 (fun p hp => by
    rcases List.mem_cons.mp hp with rfl | hp
    · exact hcn.2 (P, Is (tabObj ps)) (.head _)
    · exact hcn.2 p (.tail _ hp))
  have S3 := S2.push (s' := { s with heap := h'.push (kla_obj "<lambda>" (env.qual ++ "<lambda>") params body scope clos ((mg "__name__").getD .none) c' ctv), toks := tk }) (kla_obj "<lambda>" (env.qual ++ "<lambda>") params body scope clos ((mg "__name__").getD .none) c' ctv) (P := Is (kla_obj "<lambda>" (env.qual ++ "<lambda>") params body scope clos ((mg "__name__").getD .none) c' ctv)) rfl
  obtain ⟨B2, o2, le2, h2, hB2, S4⟩ := S3.freeze
  cases h2
  have hcr : CodeRecS B2 (.ref c') (env.qual ++ "<lambda>") := ⟨c', oc, vs, t, rfl, le2 _ _ hB1, hd, hv⟩
  exact h B2 _ c' _ (le1.trans le2) ⟨_, _, hB2, rfl, rfl, rfl, rfl, rfl, rfl, rfl, rfl, rfl, rfl, rfl, hcr⟩ hcr S4
theorem lamHitW {body : Expr} {c' : Addr} (hg : NsS B mainGlobals mg) (hb : BmainS mg B) (hC : CodeHdS B c P) (I : EnvIs env sc Lf cl (.ref c)) (S : SS B G os ((P, Is (tabObj ps)) :: L) s) (ht : TriplesOk ps.toList) (hf : codeAmong pos ps.toList = some (.ref c'))
    (hcr : CodeRecS B (.ref c') (env.qual ++ "<lambda>")) (hcl : closureFor scope { (default : Env) with cells := cl } = pure clos) (hdef : defaultsOf params env = ([], []))
    (h : ∀ B' f s', Le B B' → LamIs B' f params body scope clos (.ref c') → SS B' G os ((P, Is (tabObj ps)) :: L) s' → Q (.ref f) s') :
    wpAny (model thePrg w) A (eval (.Lambda params body scope pos) env) Q E s := by
  refine kla_eval hdef ?_
  have hBP : B P = none := S.new (P, Is (tabObj ps)) (.head _)
  have hP : s.heap.get? P = some (tabObj ps) := S.exact .head
  refine kla_makeFunctionHit (mg := mg) (closFor I hcl) I.globals (hg.ns S) I.code (hC _ S.keep) hP ht hf (hb.at S hBP) fun ctv h' tk hk hsz => ?_
  have S1 := S.ext (s' := { s with heap := h', toks := tk }) hk
  have S3 := S1.push (s' := { s with heap := h'.push (kla_obj "<lambda>" (env.qual ++ "<lambda>") params body scope clos ((mg "__name__").getD .none) c' ctv), toks := tk }) (kla_obj "<lambda>" (env.qual ++ "<lambda>") params body scope clos ((mg "__name__").getD .none) c' ctv) (P := Is (kla_obj "<lambda>" (env.qual ++ "<lambda>") params body scope clos ((mg "__name__").getD .none) c' ctv)) rfl
  obtain ⟨B2, o2, le2, h2, hB2, S4⟩ := S3.freeze
  cases h2
  exact h B2 _ _ le2 ⟨_, _, hB2, rfl, rfl, rfl, rfl, rfl, rfl, rfl, rfl, rfl, rfl, rfl, hcr.mono le2⟩ S4

/-- a call of a lambda -/
theorem callLam {f : Addr} {args : Args} {binds : List (Str × Value)} {rest : List Str} {body : Expr}
    (R : Rm A (n + 1)) (hN : NoLimitS B) (F : LamIs B f params body scope clos cd) (S : SS B G os L s)
    (hbind : ∀ fd : FuncData, fd.params = params → fd.defaults = .none → fd.kwdefaults = .none → BindsTo s fd args binds)
    (hcell : scope.names.all (fun x => x.2 != .cell) = true) (hl : binds.all (fun x => scope.names.lookup x.1 == some .local) = true)
    (hnd : decide ((binds.map (·.1) ++ rest).Nodup) = true) (hk : scope.kind = .function) (hco : scope.isCoroutine = false) (hge : scope.isGenerator = false)
    (h : ∀ env Lf s', EnvIs env scope Lf clos cd → Rm (A.deeper env) n → SS B G os ((Lf, LocO (binds.map (fun b => (b.1, some b.2)) ++ rest.map (fun x => (x, (none : Option Value))))) :: L) s' →
      W (model thePrg w) (A.deeper env) (eval body env) Q s') :
    wpAny (model thePrg w) A (call (.ref f) args.pos args.kw) Q E s := by
  refine wpAny_call ?_
  have hnd := of_decide_eq_true hnd
  obtain ⟨o, fd, ho, hc, hd, e1, e2, e3, e4, e5, e5', e6, e7, e8, hcr⟩ := F.ex
  refine kla_callFunE R.room (S.keep _ _ ho) hd (by rw [e3]; exact hco) (by rw [e3]; exact hge) e2 (by rw [e8]; exact hcr.at S) ?_
  refine hbind fd e1 e5 e5' _ _ _ _ ?_
  rw [e3, e4, e6, e7, e8]
  refine wpAny_newFunctionEnv (fun x hx => by simpa using List.all_eq_true.mp hcell x hx) (fun x hx => by simpa using List.all_eq_true.mp hl x hx) (fun h' hns hsb => ?_) hk
  have hlim := hN.at S
  refine ⟨hlim.fresh _ hsb, kla_codeExpr ?_⟩
  obtain ⟨oL, hoL, hloc⟩ := LocO.init hns (l := binds.map (fun b => (b.1, some b.2)) ++ rest.map (fun x => (x, (none : Option Value)))) (by simpa [List.map_append, List.map_map, Function.comp_def] using hnd) (locs_binds hnd)
  have S' : SS B G os ((s.heap.objs.size, LocO (binds.map (fun b => (b.1, some b.2)) ++ rest.map (fun x => (x, (none : Option Value))))) :: L) { s with heap := h', toks := s.toks + binds.length } :=
    S.add (fun b o' e => hsb.extBut b o' (Nat.ne_of_lt (Heap.lt_size e)) (Heap.get?_push_of_some _ e)) (Heap.get?_none_of_le (Nat.le_refl _)) hoL hloc
  exact wpAny_mono (h (newEnv scope s.heap.objs.size mainGlobals clos (fd.qualname ++ ".<locals>.") (some f) cd none builtinsNs) s.heap.objs.size _ ⟨rfl, rfl, rfl, rfl, rfl, rfl, hk⟩ (R.deeper _) S') (fun v s'' q => q) fun _ _ x => x.elim

/-! a def with cells of its own -/
theorem lookupMem {α : Type} : ∀ {l : List (Str × α)}, (l.Pairwise fun x y => x.1 ≠ y.1) → ∀ {n : Str} {a : α}, (n, a) ∈ l → l.lookup n = some a
  | (x, b) :: r, hp, n, a, hm => by
    obtain ⟨h1, h2⟩ := List.pairwise_cons.mp hp
    rw [List.lookup_cons]
    rcases List.mem_cons.mp hm with e | hm
    · cases e; simp
    · have : (n == x) = false := beq_eq_false_iff_ne.mpr fun e => h1 _ hm e.symm
      rw [this]; exact lookupMem h2 hm
theorem bindL_local {k : Str → Option NameKind} : ∀ (binds : List (Str × Value)) (m : Str → Option Value), (∀ x ∈ binds, k x.1 = some .local) → ∀ y, bindL k binds m y = (binds.reverse.lookup y).or (m y)
  | [], m, _, y => by simp [bindL]
  | (x, v) :: r, m, h, y => by
    unfold bindL
    rw [if_pos (h _ (.head _)), bindL_local r _ (fun z hz => h z (.tail _ hz)) y, List.reverse_cons, List.lookup_append]
    cases hr : r.reverse.lookup y with
    | some u => simp
    | none =>
      by_cases e : y = x
      · subst e; simp
      · simp [List.lookup_cons, e, beq_eq_false_iff_ne.mpr e]
theorem bindC_local {k : Str → Option NameKind} : ∀ (binds : List (Str × Value)) (m : Str → Option Value), (∀ x ∈ binds, k x.1 = some .local) → bindC k binds m = m
  | [], m, _ => rfl
  | (x, v) :: r, m, h => by
    unfold bindC
    rw [if_pos (h _ (.head _))]
    exact bindC_local r m fun z hz => h z (.tail _ hz)
theorem SS.cells {h' : Heap} {tk : Nat} (S : SS B G os L s) (k : ∀ b o, s.heap.get? b = some o → h'.get? b = some o) : ∀ (cs : List Addr), cs.Nodup → (∀ c ∈ cs, s.heap.objs.size ≤ c ∧ ∃ o, h'.get? c = some o ∧ CellO none o) →
    SS B G os (cs.map (fun c => (c, CellO none)) ++ L) { s with heap := h', toks := tk }
  | [], _, _ => S.ext k
  | c :: cs, hn, h => by
    have ih := SS.cells (tk := tk) S k cs (List.nodup_cons.mp hn).2 fun d hd => h d (.tail _ hd)
    obtain ⟨hge, o, ho, hc⟩ := h c (.head _)
    have ha := S.above hge
    refine ⟨ih.keep, fun p hp => ?_, fun p hp => ?_, ?_, ih.gens, ih.os⟩
    · rcases List.mem_cons.mp hp with rfl | hp
      · exact ⟨o, ho, hc⟩
      · exact ih.led p hp
    · rcases List.mem_cons.mp hp with rfl | hp
      · exact ha.1
      · exact ih.new p hp
    · show (c :: (List.map _ _)).Nodup
      refine List.nodup_cons.mpr ⟨fun hm => ?_, ih.nodup⟩
      obtain ⟨p, hp, e⟩ := List.mem_map.mp hm
      rcases List.mem_append.mp hp with hp | hp
      · obtain ⟨d, hd, rfl⟩ := List.mem_map.mp hp
        exact (List.nodup_cons.mp hn).1 (e ▸ hd)
      · exact ha.2 p hp e

theorem callFcc {f : Addr} {args : Args} {binds : List (Str × Value)} {rest : List Str} {dV : Value} {Rr : Result → Shared → Prop} {cs : Nat → List (Str × Addr)}
    (R : Rm A (n + 1)) (hN : NoLimitS B) (F : FnIs B f params body scope [] dV cd) (S : SS B G os L s)
    (hbind : ∀ fd : FuncData, fd.params = params → fd.defaults = dV → fd.kwdefaults = .none → BindsTo s fd args binds)
    (hcs : ∀ m, cellsFrom m scope.names [] = cs m) (hcn : ∀ m, (cs m).Pairwise fun x y => x.1 ≠ y.1) (hl : binds.all (fun x => scope.names.lookup x.1 == some .local) = true)
    (hnd : decide ((binds.map (·.1) ++ rest).Nodup) = true) (hk : scope.kind = .function) (hco : scope.isCoroutine = false) (hge : scope.isGenerator = false)
    (h : ∀ env Lf s', EnvIs env scope Lf (cs (Lf + 1)) cd → (∃ q, CodeRecS B cd q ∧ env.qual = q ++ ".<locals>.") → Rm (A.deeper env) n →
      SS B G os ((Lf, LocO (binds.map (fun b => (b.1, some b.2)) ++ rest.map (fun x => (x, (none : Option Value))))) :: ((cs (Lf + 1)).map (fun p => (p.2, CellO none)) ++ L)) s' →
      W (model thePrg w) (A.deeper env) (execs body env) (fun fl s'' => Rr (.ok (.ret (retOf fl))) s'') s') :
    codeAny (model thePrg w) A (.call (.ref f) args) Rr s := by
  have hnd := of_decide_eq_true hnd
  obtain ⟨o, fd, ho, hc, hd, e1, e2, e3, e4, e5, e5', e6, e7, e8, hcr⟩ := F.ex
  refine codeAny_call_function R.room (S.keep _ _ ho) hd (by rw [e3]; exact hco) (by rw [e3]; exact hge) e2 (by rw [e8]; exact hcr.at S) ?_
  refine hbind fd e1 e5 e5' _ _ _ _ ?_
  rw [e3, e4, e6, e7, e8]
  have hloc : ∀ x ∈ binds, scope.names.lookup x.1 = some .local := fun x hx => by simpa using List.all_eq_true.mp hl x hx
  refine wpAny_newFunctionEnv_cells hk (fun x hx => .inl (hloc x hx)) fun env' he s' x => ?_
  subst he
  obtain ⟨h₁, tk, rfl, hk₁⟩ := x.done
  have hlim := hN.at S
  refine ⟨hlim.keeps hk₁, codeAny_func ?_⟩
  have xl := x.cell
  have xa := x.apart
  have xb := x.above
  have xn := x.toInCall.ns
  dsimp only [newEnv] at xl xa xb xn
  rw [hcs] at xl xa xb
  rw [bindC_local binds _ hloc] at xl
  obtain ⟨oL, hoL, hlo⟩ := LocO.init xn (l := binds.map (fun b => (b.1, some b.2)) ++ rest.map (fun x => (x, (none : Option Value)))) (by simpa [List.map_append, List.map_map, Function.comp_def] using hnd)
    (fun y => by rw [bindL_local binds _ hloc]; simpa using locs_binds hnd y)
  have hcell : ∀ c ∈ (cs (s.heap.objs.size + 1)).map (·.2), s.heap.objs.size < c ∧ ∃ o, h₁.get? c = some o ∧ CellO none o := fun c hc => by
    obtain ⟨⟨y, c'⟩, hp, rfl⟩ := List.mem_map.mp hc
    refine ⟨xb y c' hp, ?_⟩
    obtain ⟨o, ho, hd⟩ := xl y c' (lookupMem (hcn _) hp)
    exact ⟨o, ho, hd⟩
  have S1 := S.cells (tk := tk) hk₁ ((cs (s.heap.objs.size + 1)).map (·.2)) (by rw [List.nodup_iff_pairwise_ne, List.pairwise_map]; exact xa) fun c hc => ⟨Nat.le_of_lt (hcell c hc).1, (hcell c hc).2⟩
  have S' : SS B G os ((s.heap.objs.size, LocO (binds.map (fun b => (b.1, some b.2)) ++ rest.map (fun x => (x, (none : Option Value))))) :: ((cs (s.heap.objs.size + 1)).map (fun p => (p.2, CellO none)) ++ L)) { s with heap := h₁, toks := tk } := by
    rw [List.map_map] at S1
    have ha := S.above (Nat.le_refl s.heap.objs.size)
    refine ⟨S1.keep, fun p hp => ?_, fun p hp => ?_, ?_, S1.gens, S1.os⟩
    · rcases List.mem_cons.mp hp with rfl | hp
      · exact ⟨oL, hoL, hlo⟩
      · exact S1.led p hp
    · rcases List.mem_cons.mp hp with rfl | hp
      · exact ha.1
      · exact S1.new p hp
    · show (s.heap.objs.size :: (List.map _ _)).Nodup
      refine List.nodup_cons.mpr ⟨fun hm => ?_, S1.nodup⟩
      obtain ⟨p, hp, e⟩ := List.mem_map.mp hm
      rcases List.mem_append.mp hp with hp | hp
      · obtain ⟨d, hd, rfl⟩ := List.mem_map.mp hp
        have := (hcell d.2 (List.mem_map_of_mem hd)).1
        simp at e; omega
      · exact ha.2 p hp e
  refine wpAny_mono (h (newEnv scope s.heap.objs.size mainGlobals (cellsFrom (s.heap.objs.size + 1) scope.names []) (fd.qualname ++ ".<locals>.") (some f) cd none builtinsNs) s.heap.objs.size _ ⟨rfl, rfl, rfl, hcs _, rfl, rfl, hk⟩ ⟨_, by rw [← e8]; rw [e8]; exact hcr, rfl⟩ (R.deeper _) S') (fun fl s'' q => ?_) fun _ _ x => x.elim
  cases fl <;> exact q
end
end Mine

end
section
open PySem PySem.W PySem.Calls PyProof.Rows Builtin
set_option Elab.async false
set_option maxRecDepth 100000
set_option linter.unusedVariables false
namespace Mine

/-- the scope of a comprehension, seen from the one around it -/
def rl (scope sc : Scope) : Scope := { scope with names := scope.names.map fun (n, k) => if (k == .free && sc.kind == .function && sc.names.lookup n == some .cell) then (n, .cell) else (n, k) }
theorem rl_eq {scope : Scope} {env : Env} {sc : Scope} {Lf : Addr} {cl : List (Str × Addr)} {cd : Value} (I : EnvIs env sc Lf cl cd) : relabel scope env = rl scope sc := by
  unfold relabel rl Env.kindOf; rw [I.scope]
theorem compEnvIs {scope : Scope} {env : Env} {sc : Scope} {Lf C : Addr} {cl clos : List (Str × Addr)} {cd : Value} (I : EnvIs env sc Lf cl cd) (hk : scope.kind = .function) : EnvIs (compEnvC scope clos C env) (rl scope sc) C clos cd :=
  ⟨rl_eq I, rfl, I.globals, rfl, I.builtins, I.code, hk⟩

section
variable {w : World} {A : Around} {E : Value → Shared → Prop} {B B' : Store} {G : Array GenState} {os : OsState} {L L' : Led} {s : Shared} {env : Env} {sc : Scope} {Lf : Addr} {cl clos : List (Str × Addr)} {cd : Value} {n : Nat}

theorem SS.dropBut {C : Addr} {P : OP} {h' : Heap} (S : SS B G os ((C, P) :: L) s) (hs : Heap.SameBut C s.heap h') : SS B G os L { s with heap := h' } := by
  have hn := List.nodup_cons.mp (show (C :: L.map (·.1)).Nodup from S.nodup)
  refine ⟨fun b o e => (hs.2 b fun q => ?_).trans (S.keep b o e), fun p hp => ?_, fun p hp => S.new p (.tail _ hp), hn.2, S.gens, S.os⟩
  · have := S.new _ (List.Mem.head _); rw [q, this] at e; cases e
  · obtain ⟨o, e, x⟩ := S.led p (.tail _ hp)
    exact ⟨o, (hs.2 p.1 fun q => hn.1 (q ▸ List.mem_map_of_mem hp)).trans e, x⟩

/-- what a comprehension leaves -/
def CompR (os : OsState) (C : Addr) (Q : Shared → Prop) : Result → Shared → Prop := fun r s' => match r with
  | .ok _ => ∃ B' G' l L', SS B' G' os ((C, LocO l) :: L') s' ∧ ∀ s'', SS B' G' os L' s'' → Q s''
  | .error _ => False

theorem ns_of {C : Addr} {l : List (Str × Option Value)} (S : SS B G os ((C, LocO l) :: L) s) : ∃ m, s.heap.Ns C m := ⟨_, S.ns .head⟩

theorem lcomp_core {e : Expr} {scope : Scope} {pos : Pos} {g : Comprehension} {gs : List Comprehension} {first : Sem Value} {Q : Value → Shared → Prop} (nl : List Str) (I : EnvIs env sc Lf cl cd)
    (hcl : clausesOf e = g :: gs) (hs : ∀ x, foldedSetIterable g.iter env x = pure x) (hclos : closureFor scope { (default : Env) with cells := cl } = pure clos)
    (hkind : scope.kind = .function) (hcell : scope.names.all (fun x => x.2 != .cell) = true) (hnames : scope.names.all (fun x => x.2 != .local || scope.names.lookup x.1 == some .local) = true) (hnl : decide nl.Nodup = true)
    (h : W (model thePrg w) A first (fun x s₁ => W (model thePrg w) A (pyIter x) (fun it s₂ => ∃ B G L, SS B G os L s₂ ∧ ∀ D C s₃, SS B G os ((C, LocO (nl.map fun x => (x, none))) :: (D, ListO []) :: L) s₃ →
      codeAny (model thePrg w) A (.compStart e 0 it (.ref D) (compEnvC scope clos C env)) (CompR os C fun s'' => Q (.ref D) s'') s₃) s₁) s) :
    W (model thePrg w) A (comprehension e scope env pos (newList []) false first none) Q s := by
  refine wpAny_comprehension_free (use := none) hcl hs (closFor I hclos) hkind (fun x hx hl => ?_) ?_
  · have := List.all_eq_true.mp hnames x hx
    simpa [hl] using this
  refine wpAny_mono h (fun x s₁ h₁ => wpAny_mono h₁ (fun it s₂ h₂ => ?_) fun _ _ x => x) fun _ _ x => x
  obtain ⟨B, G, L, S, h₂⟩ := h₂
  refine newList_ S (by simp) fun D s₃ S => ?_
  refine wpAny_newFunctionEnv (fun x hx => by simpa using List.all_eq_true.mp hcell x hx) (fun x hx => (nomatch hx)) (fun h' hns hsb => ?_) hkind
  obtain ⟨oL, hoL, hloc⟩ := LocO.init hns (l := nl.map fun x => (x, none)) (by simpa [List.map_map, Function.comp_def] using of_decide_eq_true hnl) (fun y => by
    have := locs_binds (binds := []) (rest := nl) (by simpa using of_decide_eq_true hnl) y
    simpa using this)
  have S' : SS B G os ((s₃.heap.objs.size, LocO (nl.map fun x => (x, none))) :: (D, ListO []) :: L) { s₃ with heap := h', toks := s₃.toks + 0 } :=
    S.add (fun b o' e => hsb.extBut b o' (Nat.ne_of_lt (Heap.lt_size e)) (Heap.get?_push_of_some _ e)) (Heap.get?_none_of_le (Nat.le_refl _)) hoL hloc
  refine codeAny_mono (h₂ D s₃.heap.objs.size _ S') fun r s' hr => ?_
  cases r with
  | error x => exact hr.elim
  | ok f =>
    obtain ⟨B', G', l, L', S1, hq⟩ := hr
    obtain ⟨m, hm⟩ := ns_of S1
    exact ⟨m, hm, fun h'' hs'' => hq _ (S1.dropBut hs'')⟩

theorem lcompW {elt : Expr} {gens : List Comprehension} {g : Comprehension} {gs : List Comprehension} {scope : Scope} {pos : Pos} {Q : Value → Shared → Prop} (nl : List Str) (I : EnvIs env sc Lf cl cd) (hg : gens = g :: gs) (ha : g.is_async = 0)
    (hs : ∀ x, foldedSetIterable g.iter env x = pure x) (hclos : closureFor scope { (default : Env) with cells := cl } = pure clos)
    (hkind : scope.kind = .function) (hcell : scope.names.all (fun x => x.2 != .cell) = true) (hnames : scope.names.all (fun x => x.2 != .local || scope.names.lookup x.1 == some .local) = true) (hnl : decide nl.Nodup = true)
    (h : W (model thePrg w) A (eval g.iter env) (fun x s₁ => W (model thePrg w) A (pyIter x) (fun it s₂ => ∃ B G L, SS B G os L s₂ ∧ ∀ D C s₃, SS B G os ((C, LocO (nl.map fun x => (x, none))) :: (D, ListO []) :: L) s₃ →
      codeAny (model thePrg w) A (.compStart (.ListComp elt gens scope pos) 0 it (.ref D) (compEnvC scope clos C env)) (CompR os C fun s'' => Q (.ref D) s'') s₃) s₁) s) :
    W (model thePrg w) A (eval (.ListComp elt gens scope pos) env) Q s := by
  subst hg
  obtain ⟨gt, gi, gf, gz⟩ := g
  cases ha
  exact lcomp_core nl I rfl hs hclos hkind hcell hnames hnl h

/-- a comprehension that is bound to a name -/
theorem lcompUse {x : Str} {px : Pos} {elt : Expr} {gens : List Comprehension} {g : Comprehension} {gs : List Comprehension} {scope : Scope} {pos spos : Pos} {Q : Flow → Shared → Prop} (nl : List Str) (I : EnvIs env sc Lf cl cd) (hg : gens = g :: gs) (ha : g.is_async = 0)
    (hsw : swapsWith (.ListComp elt gens scope pos) (some (.Name x px)) spos.line env = pure true)
    (hs : ∀ x, foldedSetIterable g.iter env x = pure x) (hclos : closureFor scope { (default : Env) with cells := cl } = pure clos)
    (hkind : scope.kind = .function) (hcell : scope.names.all (fun x => x.2 != .cell) = true) (hnames : scope.names.all (fun x => x.2 != .local || scope.names.lookup x.1 == some .local) = true) (hnl : decide nl.Nodup = true)
    (h : W (model thePrg w) A (eval g.iter env) (fun x' s₁ => W (model thePrg w) A (pyIter x') (fun it s₂ => ∃ B G L, SS B G os L s₂ ∧ ∀ D C s₃, SS B G os ((C, LocO (nl.map fun x => (x, none))) :: (D, ListO []) :: L) s₃ →
      codeAny (model thePrg w) A (.compStart (.ListComp elt gens scope pos) 0 it (.ref D) (compEnvC scope clos C env)) (fun r s' => match r with
        | .ok _ => W (model thePrg w) A (storeName env x (.ref D)) (fun _ s₄ => ∃ B' G' l L', SS B' G' os ((C, LocO l) :: L') s₄ ∧ ∀ s'', SS B' G' os L' s'' → Q .next s'') s'
        | .error _ => False) s₃) s₁) s) :
    W (model thePrg w) A (exec (.Assign [.Name x px] (.ListComp elt gens scope pos) spos) env) Q s := by
  subst hg
  obtain ⟨gt, gi, gf, gz⟩ := g
  cases ha
  rw [exec_Assign_Name_used _ _ _ _ hsw]
  refine wpAny_bind (wpAny_standAt (wpAny_bind ?_))
  rw [arm_evalThenUse_ListComp]
  refine wpAny_bind ?_
  refine wpAny_comprehension_free (g := ⟨gt, gi, gf, 0⟩) (gs := gs) rfl hs (closFor I hclos) hkind (fun x hx hl => ?_) ?_
  · have := List.all_eq_true.mp hnames x hx
    simpa [hl] using this
  refine wpAny_mono h (fun x s₁ h₁ => wpAny_mono h₁ (fun it s₂ h₂ => ?_) fun _ _ x => x) fun _ _ x => x
  obtain ⟨B, G, L, S, h₂⟩ := h₂
  refine newList_ S (by simp) fun D s₃ S => ?_
  refine wpAny_newFunctionEnv (fun x hx => by simpa using List.all_eq_true.mp hcell x hx) (fun x hx => (nomatch hx)) (fun h' hns hsb => ?_) hkind
  obtain ⟨oL, hoL, hloc⟩ := LocO.init hns (l := nl.map fun x => (x, none)) (by simpa [List.map_map, Function.comp_def] using of_decide_eq_true hnl) (fun y => by
    have := locs_binds (binds := []) (rest := nl) (by simpa using of_decide_eq_true hnl) y
    simpa using this)
  have S' : SS B G os ((s₃.heap.objs.size, LocO (nl.map fun x => (x, none))) :: (D, ListO []) :: L) { s₃ with heap := h', toks := s₃.toks + 0 } :=
    S.add (fun b o' e => hsb.extBut b o' (Nat.ne_of_lt (Heap.lt_size e)) (Heap.get?_push_of_some _ e)) (Heap.get?_none_of_le (Nat.le_refl _)) hoL hloc
  refine codeAny_mono (h₂ D s₃.heap.objs.size _ S') fun r s' hr => ?_
  cases r with
  | error x => exact hr.elim
  | ok f =>
    refine wpAny_assign_Name (wpAny_mono hr (fun _ s₄ h₄ => ?_) fun _ _ x => x)
    obtain ⟨B', G', l, L', S1, hq⟩ := h₄
    obtain ⟨m, hm⟩ := ns_of S1
    exact ⟨m, hm, fun h'' hs'' => wpAny_pure (wpAny_pure (hq _ (S1.dropBut hs'')))⟩

/-! one generator -/
abbrev testsOf (ifs : List Expr) (env : Env) : Sem Bool := forIn ifs true fun c r => if r = true then do let ok ← isTrue c env (eval c env); pure (ForInStep.yield ok) else pure (ForInStep.yield r)
theorem cloop1 {elt target iter : Expr} {ifs : List Expr} {scope : Scope} {pos : Pos} {it acc : Value} {R : Result → Shared → Prop} (I : Nat → Shared → Prop)
    (turn : ∀ n s, I n s → W (model thePrg w) A (pyNext it) (fun r s₁ => match r with
      | none => R (.ok .next) s₁
      | some v => W (model thePrg w) A (letOwnedTupleGo target it v) (fun _ s₁' => W (model thePrg w) A (assign target env v) (fun _ s₂ => W (model thePrg w) A (testsOf ifs env) (fun ok s₃ =>
          if ok then W (model thePrg w) A (eval elt env) (fun x s₄ => W (model thePrg w) A (call (.builtin "list.append") [acc, x]) (fun _ s₅ => ∃ m, m < n ∧ I m s₅) s₄) s₃
          else ∃ m, m < n ∧ I m s₃) s₂) s₁') s₁) s)
    (n : Nat) (h : I n s) : codeAny (model thePrg w) A (.compLoop (.ListComp elt [⟨target, iter, ifs, 0⟩] scope pos) 0 it acc env) R s := by
  refine codeAny_loop rfl I (fun n s hI => ?_) n h
  show wpAny _ A ((compTurn (.ListComp elt [⟨target, iter, ifs, 0⟩] scope pos) 0 it acc env).onRaise (fun x => do noteFrame x env; theTreesLotGoes x)) _ _ s
  refine wpAny_noted ?_
  rw [compTurn_list]
  refine wpAny_bind (wpAny_standAt (wpAny_bind (wpAny_mono (turn n s hI) (fun r s₁ h₁ => ?_) fun _ _ h' => h'.elim)))
  cases r with
  | none => exact wpAny_pure h₁
  | some v =>
    refine wpAny_bind (wpAny_mono h₁ (fun _ s₁' h₁' => ?_) fun _ _ h' => h'.elim)
    refine wpAny_bind (wpAny_mono h₁' (fun _ s₂ h₂ => ?_) fun _ _ h' => h'.elim)
    refine wpAny_bind (wpAny_mono h₂ (fun ok s₃ h₃ => ?_) fun _ _ h' => h'.elim)
    cases ok with
    | true => exact wpAny_bind (wpAny_bind (wpAny_mono h₃ (fun x s₄ h₄ => wpAny_bind (wpAny_mono h₄ (fun _ s₅ h₅ => wpAny_pure (wpAny_pure ⟨rfl, h₅⟩)) fun _ _ h' => h'.elim)) fun _ _ h' => h'.elim))
    | false => exact wpAny_pure ⟨rfl, h₃⟩

/-- compStart over an iterator of a list -/
theorem cstartL {elt target iter : Expr} {ifs : List Expr} {rest : List Comprehension} {scope : Scope} {pos : Pos} {acc : Value} {R : Result → Shared → Prop} {it l : Addr} {i : Nat} (S : SS B G os L s) (e : Sel it (IterO l i) L L')
    (h : ∀ s', SS B G os L s' → codeAny (model thePrg w) A (.compLoop (.ListComp elt (⟨target, iter, ifs, 0⟩ :: rest) scope pos) 0 (.ref it) acc env) R s') :
    codeAny (model thePrg w) A (.compStart (.ListComp elt (⟨target, iter, ifs, 0⟩ :: rest) scope pos) 0 (.ref it) acc env) R s := by
  refine codeAny_compStart_list (h s S) ?_
  obtain ⟨o, ho, hc, hd⟩ := S.get e
  exact wpAny_pyIter_listiter ⟨o, ho, hc, hd⟩ (h s S)
end
end Mine

end
section
open PySem PySem.W PySem.Calls PyProof.Rows Builtin
set_option Elab.async false
set_option maxRecDepth 100000
set_option linter.unusedVariables false
namespace Mine
local macro_rules | `(tactic| walk_at "m sel") => `(tactic| first | with_reducible apply Sel.head | (apply Sel.tail; walk_at "m sel"))
local macro_rules | `(tactic| walk_at "m lget") => `(tactic| first | with_reducible apply LGet.head | (apply LGet.tail; walk_at "m lget"))
local macro_rules | `(tactic| walk_at "m lset") => `(tactic| first | with_reducible apply LSet.head | (apply LSet.tail; walk_at "m lset"))
local macro_rules | `(tactic| walk_at "m mg") => `(tactic| first | exact Top0.gPush (by assumption) | exact Top0.gPop (by assumption) | exact Top0.gWL (by assumption) | exact Top0.gLcas (by assumption) | exact Top0.gBase (by assumption) | exact Top0.gFast (by assumption))
local macro_rules | `(tactic| walk_at "m name") => `(tactic| first
  | (refine' nmL (by assumption) (by assumption) ?hx ?hd ?he ?hg ?_; (case hx => kernel_rfl); (case hd => kernel_rfl); (case he => walk_at "m sel"); (case hg => walk_at "m lget"))
  | (refine' nmC (by assumption) (by assumption) ?hx ?hd ?hc ?he ?_; (case hx => decide +kernel); (case hd => kernel_rfl); (case hc => rfl); (case he => walk_at "m sel"))
  | (refine' nmF (by assumption) (by assumption) ?hx ?hd ?hd2 ?hc ?he ?_; (case hx => decide +kernel); (case hd => kernel_rfl); (case hd2 => kernel_rfl); (case hc => rfl); (case he => walk_at "m sel"))
  | (refine' nmG (by assumption) (by assumption) (Top0.glob (by assumption)) ?hx ?hd ?hv ?_; (case hx => kernel_rfl); (case hd => kernel_rfl); (case hv => walk_at "m mg")))
local macro_rules | `(tactic| walk_at "m store") => `(tactic| first
  | (refine' stL (by assumption) (by assumption) ?hx ?he ?hg ?_; (case hx => kernel_rfl); (case he => walk_at "m sel"); (case hg => walk_at "m lset"))
  | (refine' stC (by assumption) (by assumption) ?hx ?hc ?he ?_; (case hx => kernel_rfl); (case hc => rfl); (case he => walk_at "m sel")))
section
variable {K : Frag} {C fInit fAdd fGet fIter fLcas fBase fFast : Addr} {mg mb : Str → Option Value} {B B' : Store}
variable {w : World} {A : Around} {E : Value → Shared → Prop} {G : Array GenState} {os : OsState} {L L' : Led} {s : Shared} {env : Env} {sc : Scope} {Lf : Addr} {cl : List (Str × Addr)} {cd : Value} {n : Nat} {x q : Addr}

abbrev BytL (vs : List Value) (bs : List Bs) : Prop := Rel2 (fun v b => BytV b v) vs bs
/-- a list that stays -/
def KList (B : Store) (l : Addr) (vs : List Value) : Prop := ∃ o, B l = some o ∧ ListO vs o
theorem KList.mono {l : Addr} {vs : List Value} (h : KList B l vs) (le : Le B B') : KList B' l vs := let ⟨o, a, b⟩ := h; ⟨o, le _ _ a, b⟩
theorem KList.isList {l : Addr} {vs : List Value} (h : KList B l vs) (S : SS B G os L s) : s.heap.IsList l vs.toArray := let ⟨o, a, h1, _, n, h2⟩ := h; ⟨o, S.keep _ _ a, h1, n, h2⟩
/-- a function that gives a commit's parents -/
structure LkP (w : World) (B : Store) (U : List Bs) (par : Bs → List Bs) (fp : Addr) : Prop where
  fn : ∃ o fd, B fp = some o ∧ o.data = .func fd
  call : ∀ (A : Around) (B' : Store) (G : Array GenState) (os : OsState) (L : Led) (s : Shared) (v : Value) (b : Bs) (Q : Value → Shared → Prop), Rm A 3 → Le B B' → BytV b v → b ∈ U → SS B' G os L s →
    (∀ l vs s', KList B' l vs → BytL vs (par b) → SS B' G os L s' → Q (.ref l) s') → W (model thePrg w) A (call (.ref fp) [v]) Q s
structure LkT (w : World) (B : Store) (U : List Bs) (tm : Bs → Int) (ft : Addr) : Prop where
  fn : ∃ o fd, B ft = some o ∧ o.data = .func fd
  call : ∀ (A : Around) (B' : Store) (G : Array GenState) (os : OsState) (L : Led) (s : Shared) (v : Value) (b : Bs) (Q : Value → Shared → Prop), Rm A 3 → Le B B' → BytV b v → b ∈ U → SS B' G os L s →
    (∀ t s', SS B' G os L s' → Q (.int (tm b) t) s') → W (model thePrg w) A (call (.ref ft) [v]) Q s
theorem LkP.mono {U : List Bs} {par : Bs → List Bs} {fp : Addr} (h : LkP w B U par fp) (l : Le B B') : LkP w B' U par fp :=
  ⟨let ⟨o, fd, a, b⟩ := h.fn; ⟨o, fd, l _ _ a, b⟩, fun A B'' G os L s v b Q R le => h.call A B'' G os L s v b Q R (l.trans le)⟩
theorem LkT.mono {U : List Bs} {tm : Bs → Int} {ft : Addr} (h : LkT w B U tm ft) (l : Le B B') : LkT w B' U tm ft :=
  ⟨let ⟨o, fd, a, b⟩ := h.fn; ⟨o, fd, l _ _ a, b⟩, fun A B'' G os L s v b Q R le => h.call A B'' G os L s v b Q R (l.trans le)⟩
theorem fnAtOf {f : Addr} (h : ∃ o fd, B f = some o ∧ o.data = .func fd) (S : SS B G os L s) : FnAt f s.heap := by
  obtain ⟨o, fd, ho, hd⟩ := h
  obtain ⟨a, b, c, d⟩ := o
  cases hd
  exact ⟨a, b, fd, d, S.keep _ _ ho⟩

/-- the frame of _find_lcas -/
def LcF (lp v1 v2 ls vm : Value) (lc d fh x : Addr) (ta tb te : Tok) : OP := fun o => ∃ u0 u1 u2 u3 u4 u5 u6 u7 u8 u9 u10,
  LocO [("lookup_parents", some lp), ("c1", some v1), ("c2s", some v2), ("lookup_stamp", some ls), ("min_stamp", some vm), ("shallows", some .none), ("cands", some (.ref lc)), ("cstates", some (.ref d)),
    ("_ANC_OF_1", some (.int 1 ta)), ("_ANC_OF_2", some (.int 2 tb)), ("_LCA", some (.int 8 te)), ("_has_candidates", some (.ref fh)), ("wlst", some (.ref x)),
    ("c2", u0), ("cflags", u1), ("result", u2), ("dt", u3), ("cmt", u4), ("parents", u5), ("pcmt", u6), ("pflags", u7), ("pdt", u8), ("results", u9), ("lcas", u10)] o
theorem LcF.open {lp v1 v2 ls vm : Value} {lc d fh x a : Addr} {ta tb te : Tok} (S : SS B G os ((a, LcF lp v1 v2 ls vm lc d fh x ta tb te) :: L) s) : ∃ u0 u1 u2 u3 u4 u5 u6 u7 u8 u9 u10,
  SS B G os ((a, LocO [("lookup_parents", some lp), ("c1", some v1), ("c2s", some v2), ("lookup_stamp", some ls), ("min_stamp", some vm), ("shallows", some .none), ("cands", some (.ref lc)), ("cstates", some (.ref d)),
    ("_ANC_OF_1", some (.int 1 ta)), ("_ANC_OF_2", some (.int 2 tb)), ("_LCA", some (.int 8 te)), ("_has_candidates", some (.ref fh)), ("wlst", some (.ref x)),
    ("c2", u0), ("cflags", u1), ("result", u2), ("dt", u3), ("cmt", u4), ("parents", u5), ("pcmt", u6), ("pflags", u7), ("pdt", u8), ("results", u9), ("lcas", u10)]) :: L) s := by
  obtain ⟨o, ho, u0, u1, u2, u3, u4, u5, u6, u7, u8, u9, u10, hl⟩ := S.led _ (.head _)
  refine ⟨u0, u1, u2, u3, u4, u5, u6, u7, u8, u9, u10, S.keep, fun p hp => ?_, fun p hp => ?_, S.nodup, S.gens, S.os⟩
  · rcases List.mem_cons.mp hp with rfl | hp
    · exact ⟨o, ho, hl⟩
    · exact S.led p (.tail _ hp)
  · rcases List.mem_cons.mp hp with rfl | hp
    · exact S.new (a, LcF lp v1 v2 ls vm lc d fh x ta tb te) (.head _)
    · exact S.new p (.tail _ hp)

def encf (fl : Bs → Option Fl) : Bs → Option Int := fun k => (fl k).map Fl.enc
theorem encf_upd (fl : Bs → Option Fl) (x : Bs) (f : Fl) : encf (upd fl x f) = fun y => if y = x then some f.enc else encf fl y := by
  funext y; unfold encf upd; split <;> rfl

theorem encf_getD (fl : Bs → Option Fl) (x : Bs) : (encf fl x).getD 0 = ((fl x).getD fz).enc := by
  unfold encf; cases fl x with
  | none => rfl
  | some f => rfl
theorem dctGetD {d : Addr} {o : Obj} {U : List Bs} {β : Type} {R : β → Value → Prop} {g : Bs → Option β} {k : Bs} {key dflt : Value} {b0 : β} {Q : Value → Shared → Prop} (S : SS B G os L s) (ho : s.heap.get? d = some o) (hD : DctO w U R g o)
    (hds : (d == sysModules) = false) (hk : BytV k key) (h0 : R b0 dflt) (h : ∀ v s', R ((g k).getD b0) v → SS B G os L s' → Q v s') :
    wpAny (model thePrg w) A (call (.builtin "dict.get") [.ref d, key, dflt]) Q E s :=
  dctGet2 S ho hD hds hk (fun b v s' hg hr S' => h v s' (by rw [hg]; exact hr) S') fun s' hg S' => h dflt s' (by rw [hg]; exact h0) S'

/-- what _find_lcas has at hand -/
structure LC (K : Frag) (C fInit fAdd fGet fIter fLcas fBase fFast : Addr) (mg mb : Str → Option Value) (w : World) (A : Around) (env : Env) (Lf cD : Addr) (cd : Value) (g : Gr) (fp ft fh x q d : Addr) (v1 : Value) (cdH : Value) (B : Store) : Prop where
  T : Top0 K C fInit fAdd fGet fIter fLcas fBase fFast mg mb B
  R : Rm A 16
  I : EnvIs env (fnSc sLcas) Lf [("_DNC", cD)] cd
  LP : LkP w B g.U g.par fp
  LT : LkT w B g.U g.tm ft
  ok : g.Ok
  hU : g.U.length ≤ 30
  hpar : ∀ x ∈ g.U, (g.par x).length ≤ 30
  wl : IsWL B C x q
  ds : (d == sysModules) = false
  v1 : BytV g.c1 v1
  has : FnIs B fh (fnPs sHas) (fnBd sHas) (fnSc sHas) [("_DNC", cD)] .none cdH
variable {g : Gr} {fp ft fh d lc cD l2 P : Addr} {v1 cdH vm : Value} {ta tb te td : Tok}
theorem LC.mono (h : LC K C fInit fAdd fGet fIter fLcas fBase fFast mg mb w A env Lf cD cd g fp ft fh x q d v1 cdH B) (l : Le B B') : LC K C fInit fAdd fGet fIter fLcas fBase fFast mg mb w A env Lf cD cd g fp ft fh x q d v1 cdH B' :=
  { h with T := h.T.mono l, LP := h.LP.mono l, LT := h.LT.mono l, wl := h.wl.mono l, has := h.has.mono l }

set_option maxHeartbeats 1000000 in
/-- for c2 in c2s -/
theorem forC2 {vs2 : List Value} {fl : Bs → Option Fl} {vs : List Value} {ks : List Key} {Q : Flow → Shared → Prop} (H : LC K C fInit fAdd fGet fIter fLcas fBase fFast mg mb w A env Lf cD cd g fp ft fh x q d v1 cdH B)
    (hl2 : KList B l2 vs2) (hb2 : BytL vs2 g.c2s) (hz2 : g.c2s.length ≤ 30)
    (S : SS B G os ((q, ListO vs) :: (Lf, LcF (.ref fp) v1 (.ref l2) (.ref ft) vm lc d fh x ta tb te) :: (d, DctO w g.U IntV (encf fl)) :: (cD, CellO (some (.int 4 td))) :: L) s)
    (hr : Rel2 (IsPair B) vs ks) (hh : IsHeap ks) (hi : Ini g fl ks []) (hk1 : ks.length = 1)
    (h : ∀ B' s' fl' vs' ks', Le B B' → SS B' G os ((q, ListO vs') :: (Lf, LcF (.ref fp) v1 (.ref l2) (.ref ft) vm lc d fh x ta tb te) :: (d, DctO w g.U IntV (encf fl')) :: (cD, CellO (some (.int 4 td))) :: L) s' →
      Rel2 (IsPair B') vs' ks' → IsHeap ks' → Ini g fl' ks' g.c2s → ks'.length = g.c2s.length + 1 → Q .next s') :
    W (model thePrg w) A (exec (lcasStmt 10) env) Q s := by
  have I := H.I
  obtain ⟨u0, u1, u2, u3, u4, u5, u6, u7, u8, u9, u10, S⟩ := LcF.open (S.front (e := .tail .head))
  refine forW ?_
  walk_at "m name"
  refine iter_list S (hl2.isList S) fun it s S => ?_
  intro Rr hR
  have S := (S.front (e := .tail .head)).weak (P' := LcF (.ref fp) v1 (.ref l2) (.ref ft) vm lc d fh x ta tb te) fun o h => ⟨_, _, _, _, _, _, _, _, _, _, _, h⟩
  have S := (S.front (e := .tail .head)).front (e := .tail (.tail .head))
  refine loopW (fun m s => ∃ B' fl vs ks done rest, Le B B' ∧ g.c2s = done ++ rest ∧ m = rest.length ∧ Rel2 (IsPair B') vs ks ∧ IsHeap ks ∧ Ini g fl ks done ∧ ks.length = done.length + 1 ∧
    SS B' G os ((q, ListO vs) :: (it, IterO l2 done.length) :: (Lf, LcF (.ref fp) v1 (.ref l2) (.ref ft) vm lc d fh x ta tb te) :: (d, DctO w g.U IntV (encf fl)) :: (cD, CellO (some (.int 4 td))) :: L) s) ?_ g.c2s.length
    ⟨B, fl, vs, ks, [], g.c2s, Le.refl _, rfl, rfl, hr, hh, hi, by simpa using hk1, S⟩
  clear S hr hh hi hk1
  rintro m s ⟨B', fl, vs, ks, done, rest, le, hc, hm, hr, hh, hi, hk1, S⟩
  have H' := H.mono le
  have T := H'.T
  have S := S.front (e := .tail .head)
  refine nextL H.R S ((hl2.mono le).isList S) ?_ ?_
  · intro v s hv hlt S
    have hlt' : done.length < g.c2s.length := by rw [← hb2.1]; exact hlt
    obtain ⟨c, rest', rfl⟩ : ∃ c rest', rest = c :: rest' := by
      cases rest with
      | nil => rw [hc] at hlt'; simp at hlt'
      | cons c r => exact ⟨c, r, rfl⟩
    have hcv : BytV c v := hb2.2 done.length v c hv (by rw [hc]; simp)
    have hcU : c ∈ g.U := H.ok.c2 c (by rw [hc]; simp)
    dsimp only
    refine letGoI S .head ?_
    refine wpAny_assign_Name ?_
    obtain ⟨u0, u1, u2, u3, u4, u5, u6, u7, u8, u9, u10, S⟩ := LcF.open (S.front (e := .tail (.tail .head)))
    walk_at "m store"
    intro s S
    refine wpAny_execs_cons ?_
    refine wpAny_Assign_Name ?_
    refine MethodCall_ ?_
    walk_at "m name"
    obtain ⟨od, hod, hD⟩ := S.get (.tail (.tail (.tail .head)))
    refine dctGetM hod hD ?_
    refine callWith_method1 (he := rfl) (hplain := rfl) ?_
    refine args_cons (he := rfl) ?_
    walk_at "m name"
    refine args_cons (he := rfl) ?_
    refine eInt S fun tz s S => ?_
    refine args_nil ?_
    obtain ⟨od, hod, hD⟩ := S.get (.tail (.tail (.tail .head)))
    refine dctGetD S hod hD H.ds hcv (b0 := 0) ⟨_, rfl⟩ fun z s hz S => ?_
    rw [encf_getD] at hz
    obtain ⟨tz', rfl⟩ := hz
    walk_at "m store"
    intro s S
    refine wpAny_execs_cons ?_
    refine wpAny_Assign_Subscript ?_
    refine wpAny_BinOp ?_
    walk_at "m name"
    walk_at "m name"
    refine orS S fun tf s S => ?_
    walk_at "m name"
    walk_at "m name"
    have S := S.front (e := .tail (.tail (.tail .head)))
    rw [show (2 : Int) = f2.enc from rfl, enc_uni]
    refine dctSet S hcv hcU (by have := H.hU; omega) ⟨_, rfl⟩ fun s S => ?_
    rw [← encf_upd] at S
    refine wpAny_execs_cons ?_
    refine tryW ?_
    refine wpAny_execs_cons ?_
    refine wpAny_Expr (hi := I.ni) ?_
    refine MethodCall_ ?_
    walk_at "m name"
    refine wl_method T S H'.wl T.mAdd T.mAddT rfl ?_
    obtain ⟨cdA, FA⟩ := T.fnAdd
    refine callWith_F (FA.at S) ?_ (he := rfl) (hplain := rfl)
    refine args_cons (he := rfl) ?_
    refine eTuple ?_
    refine args_cons (he := rfl) ?_
    refine PyProof.Rows.Call_ ?_
    walk_at "m name"
    refine callWith_F (fnAtOf H'.LT.fn S) ?_ (he := rfl) (hplain := rfl)
    refine args_cons (he := rfl) ?_
    walk_at "m name"
    refine args_nil ?_
    refine ⟨fnAtOf H'.LT.fn S, ?_⟩
    refine W.up (H'.LT.call A B' G os _ s v c _ (H.R.less (by omega)) (Le.refl _) hcv hcU S fun tc s S => ?_)
    refine args_cons (he := rfl) ?_
    walk_at "m name"
    refine args_nil ?_
    refine newTuple_ S (by simp) fun tp s S => ?_
    refine args_nil ?_
    refine ⟨FA.at S, ?_⟩
    obtain ⟨tcv, rfl⟩ := hcv
    obtain ⟨B'', o, le', ⟨hcl, hdd, n0, hdat⟩, hB, S⟩ := S.freeze
    have hp : IsPair B'' (.ref tp) (g.tm c, c) := ⟨tp, o, n0, _, _, rfl, hB, hcl, hdd, hdat⟩
    have S := S.front (e := .tail (.tail (.tail .head)))
    have H'' := H'.mono le'
    refine add_spec H''.T (H.R.less (by omega)) S H''.wl (hr.mono fun _ _ p => p.mono le') hp (by omega) hh fun B3 s vs' ks' le3 S hr' hh' pm => ?_
    refine wpAny_execs_nil ?_
    refine wpAny_execs_nil ?_
    refine ⟨rest'.length, by rw [hm]; simp, B3, upd fl c (uni ((fl c).getD fz) f2), vs', ks', done ++ [c], rest', le.trans (le'.trans le3), by rw [hc]; simp, rfl, hr', hh', hi.add hcU pm, ?_, ?_⟩
    · rw [pm.length_eq]; simp [hk1]
    · have S := S.front (e := .tail (.tail .head))
      have S := S.weak (P' := LcF (.ref fp) v1 (.ref l2) (.ref ft) vm lc d fh x ta tb te) fun o h => ⟨_, _, _, _, _, _, _, _, _, _, _, h⟩
      have S := (S.front (e := .tail (.tail (.tail .head)))).front (e := .tail (.tail .head))
      rw [List.length_append, List.length_singleton]
      exact S
  · intro s hlt S
    have hr0 : rest = [] := by
      have : g.c2s.length = done.length + rest.length := by rw [hc]; simp
      have h2 : g.c2s.length ≤ done.length := by rw [← hb2.1]; exact hlt
      exact List.length_eq_zero_iff.mp (by omega)
    subst hr0
    rw [List.append_nil] at hc
    refine wpAny_execs_nil (hR _ _ ?_)
    exact h B' s fl vs ks le S hr hh (by rw [hc]; exact hi) (by rw [hc]; exact hk1)
end
end Mine

end
section
open PySem PySem.W PySem.Calls PyProof.Rows Builtin
set_option Elab.async false
set_option maxRecDepth 100000
set_option linter.unusedVariables false
namespace Mine
local macro_rules | `(tactic| walk_at "m sel") => `(tactic| first | with_reducible apply Sel.head | (apply Sel.tail; walk_at "m sel"))
local macro_rules | `(tactic| walk_at "m lget") => `(tactic| first | with_reducible apply LGet.head | (apply LGet.tail; walk_at "m lget"))
local macro_rules | `(tactic| walk_at "m lset") => `(tactic| first | with_reducible apply LSet.head | (apply LSet.tail; walk_at "m lset"))
local macro_rules | `(tactic| walk_at "m mg") => `(tactic| first | exact Top0.gPush (by assumption) | exact Top0.gPop (by assumption) | exact Top0.gWL (by assumption) | exact Top0.gLcas (by assumption) | exact Top0.gBase (by assumption) | exact Top0.gFast (by assumption))
local macro_rules | `(tactic| walk_at "m name") => `(tactic| first
  | (refine' nmL (by assumption) (by assumption) ?hx ?hd ?he ?hg ?_; (case hx => kernel_rfl); (case hd => kernel_rfl); (case he => walk_at "m sel"); (case hg => walk_at "m lget"))
  | (refine' nmC (by assumption) (by assumption) ?hx ?hd ?hc ?he ?_; (case hx => decide +kernel); (case hd => kernel_rfl); (case hc => rfl); (case he => walk_at "m sel"))
  | (refine' nmF (by assumption) (by assumption) ?hx ?hd ?hd2 ?hc ?he ?_; (case hx => decide +kernel); (case hd => kernel_rfl); (case hd2 => kernel_rfl); (case hc => rfl); (case he => walk_at "m sel"))
  | (refine' nmG (by assumption) (by assumption) (Top0.glob (by assumption)) ?hx ?hd ?hv ?_; (case hx => kernel_rfl); (case hd => kernel_rfl); (case hv => walk_at "m mg")))
local macro_rules | `(tactic| walk_at "m store") => `(tactic| first
  | (refine' stL (by assumption) (by assumption) ?hx ?he ?hg ?_; (case hx => kernel_rfl); (case he => walk_at "m sel"); (case hg => walk_at "m lset"))
  | (refine' stC (by assumption) (by assumption) ?hx ?hc ?he ?_; (case hx => kernel_rfl); (case hc => rfl); (case he => walk_at "m sel")))
section
variable {K : Frag} {C fInit fAdd fGet fIter fLcas fBase fFast : Addr} {mg mb : Str → Option Value} {B B' : Store}
variable {w : World} {A : Around} {E : Value → Shared → Prop} {G : Array GenState} {os : OsState} {L L' : Led} {s : Shared} {env : Env} {sc : Scope} {Lf : Addr} {cl : List (Str × Addr)} {cd : Value} {n : Nat} {x q : Addr}
variable {g : Gr} {fp ft fh d lc cD l2 P : Addr} {v1 cdH vm : Value} {ta tb te td : Tok}
def whBd : Stmt → List Stmt | .While _ b _ _ => b | _ => []
def whTs : Stmt → Expr | .While t _ _ _ => t | _ => default
def ifBd : Stmt → List Stmt | .If _ b _ _ => b | _ => []
abbrev whStmt (i : Nat) : Stmt := (whBd (lcasStmt 11)).getD i (.Pass default)
abbrev sPar : Stmt := (ifBd (whStmt 6)).getD 0 (.Pass default)

/-- the frame while a commit's parents are seen -/
def LcG (lp v1 v2 ls vm : Value) (lc d fh x : Addr) (ta tb te : Tok) (cf : Value) : OP := fun o => ∃ u0 u2 u3 u4 u5 u6 u7 u8 u9 u10,
  LocO [("lookup_parents", some lp), ("c1", some v1), ("c2s", some v2), ("lookup_stamp", some ls), ("min_stamp", some vm), ("shallows", some .none), ("cands", some (.ref lc)), ("cstates", some (.ref d)),
    ("_ANC_OF_1", some (.int 1 ta)), ("_ANC_OF_2", some (.int 2 tb)), ("_LCA", some (.int 8 te)), ("_has_candidates", some (.ref fh)), ("wlst", some (.ref x)),
    ("c2", u0), ("cflags", some cf), ("result", u2), ("dt", u3), ("cmt", u4), ("parents", u5), ("pcmt", u6), ("pflags", u7), ("pdt", u8), ("results", u9), ("lcas", u10)] o
theorem LcG.open {lp v1 v2 ls vm cf : Value} {lc d fh x a : Addr} {ta tb te : Tok} (S : SS B G os ((a, LcG lp v1 v2 ls vm lc d fh x ta tb te cf) :: L) s) : ∃ u0 u2 u3 u4 u5 u6 u7 u8 u9 u10,
  SS B G os ((a, LocO [("lookup_parents", some lp), ("c1", some v1), ("c2s", some v2), ("lookup_stamp", some ls), ("min_stamp", some vm), ("shallows", some .none), ("cands", some (.ref lc)), ("cstates", some (.ref d)),
    ("_ANC_OF_1", some (.int 1 ta)), ("_ANC_OF_2", some (.int 2 tb)), ("_LCA", some (.int 8 te)), ("_has_candidates", some (.ref fh)), ("wlst", some (.ref x)),
    ("c2", u0), ("cflags", some cf), ("result", u2), ("dt", u3), ("cmt", u4), ("parents", u5), ("pcmt", u6), ("pflags", u7), ("pdt", u8), ("results", u9), ("lcas", u10)]) :: L) s := by
  obtain ⟨o, ho, u0, u2, u3, u4, u5, u6, u7, u8, u9, u10, hl⟩ := S.led _ (.head _)
  refine ⟨u0, u2, u3, u4, u5, u6, u7, u8, u9, u10, S.keep, fun p hp => ?_, fun p hp => ?_, S.nodup, S.gens, S.os⟩
  · rcases List.mem_cons.mp hp with rfl | hp
    · exact ⟨o, ho, hl⟩
    · exact S.led p (.tail _ hp)
  · rcases List.mem_cons.mp hp with rfl | hp
    · exact S.new (a, LcG lp v1 v2 ls vm lc d fh x ta tb te cf) (.head _)
    · exact S.new p (.tail _ hp)

set_option maxHeartbeats 1000000 in
/-- for pcmt in parents -/
theorem forPar {c : Bs} {f : Fl} {pvs : List Value} {lpar : Addr} {fl : Bs → Option Fl} {vs : List Value} {ks cs : List Key} {m : Nat} {tcf : Tok} {Q : Flow → Shared → Prop} (H : LC K C fInit fAdd fGet fIter fLcas fBase fFast mg mb w A env Lf cD cd g fp ft fh x q d v1 cdH B)
    (hvm : IntV g.mn vm) (hlp : KList B lpar pvs) (hbp : BytL pvs (g.par c)) {u0 u2 u3 u4 u6 u7 u8 u9 u10 : Option Value}
    (S : SS B G os ((q, ListO vs) :: (Lf, LocO [("lookup_parents", some (.ref fp)), ("c1", some v1), ("c2s", some (.ref l2)), ("lookup_stamp", some (.ref ft)), ("min_stamp", some vm), ("shallows", some .none), ("cands", some (.ref lc)), ("cstates", some (.ref d)),
      ("_ANC_OF_1", some (.int 1 ta)), ("_ANC_OF_2", some (.int 2 tb)), ("_LCA", some (.int 8 te)), ("_has_candidates", some (.ref fh)), ("wlst", some (.ref x)),
      ("c2", u0), ("cflags", some (.int (prop f).enc tcf)), ("result", u2), ("dt", u3), ("cmt", u4), ("parents", some (.ref lpar)), ("pcmt", u6), ("pflags", u7), ("pdt", u8), ("results", u9), ("lcas", u10)]) ::
      (d, DctO w g.U IntV (encf fl)) :: (cD, CellO (some (.int 4 td))) :: L) s)
    (hr : Rel2 (IsPair B) vs ks) (hh : IsHeap ks) (hi : Inv g (prAt g c []) fl ks cs) (hf : fl c = some f) (hle : ∀ k ∈ cs, kLe (-k.1, k.2) (-g.tm c, c)) (hmu : ks.length + mu g.U fl ≤ m) (hm9 : m ≤ 900)
    (h : ∀ B' s' fl' vs' ks', Le B B' → SS B' G os ((q, ListO vs') :: (Lf, LcF (.ref fp) v1 (.ref l2) (.ref ft) vm lc d fh x ta tb te) :: (d, DctO w g.U IntV (encf fl')) :: (cD, CellO (some (.int 4 td))) :: L) s' →
      Rel2 (IsPair B') vs' ks' → IsHeap ks' → Inv g g.par fl' ks' cs → ks'.length + mu g.U fl' ≤ m → Q .next s') :
    W (model thePrg w) A (exec sPar env) Q s := by
  have I := H.I
  have S := S.front (e := .tail .head)
  refine forW ?_
  walk_at "m name"
  refine iter_list S (hlp.isList S) fun it s S => ?_
  intro Rr hR
  have S := (S.front (e := .tail .head)).weak (P' := LcG (.ref fp) v1 (.ref l2) (.ref ft) vm lc d fh x ta tb te (.int (prop f).enc tcf)) fun o h => ⟨_, _, _, _, _, _, _, _, _, _, h⟩
  have S := (S.front (e := .tail .head)).front (e := .tail (.tail .head))
  refine loopW (fun r s => ∃ B' fl vs ks done rest, Le B B' ∧ g.par c = done ++ rest ∧ r = rest.length ∧ Rel2 (IsPair B') vs ks ∧ IsHeap ks ∧ Inv g (prAt g c done) fl ks cs ∧ fl c = some f ∧ ks.length + mu g.U fl ≤ m ∧
    SS B' G os ((q, ListO vs) :: (it, IterO lpar done.length) :: (Lf, LcG (.ref fp) v1 (.ref l2) (.ref ft) vm lc d fh x ta tb te (.int (prop f).enc tcf)) :: (d, DctO w g.U IntV (encf fl)) :: (cD, CellO (some (.int 4 td))) :: L) s) ?_ (g.par c).length
    ⟨B, fl, vs, ks, [], g.par c, Le.refl _, rfl, rfl, hr, hh, hi, hf, hmu, S⟩
  clear S hr hh hi hf hmu
  rintro r s ⟨B', fl, vs, ks, done, rest, le, hc, hm, hr, hh, hi, hf, hmu, S⟩
  have H' := H.mono le
  have T := H'.T
  have hcU := (hi.sound _ _ hf).1
  have S := S.front (e := .tail .head)
  refine nextL H.R S ((hlp.mono le).isList S) ?_ ?_
  · intro v s hv hlt S
    have hlt' : done.length < (g.par c).length := by rw [← hbp.1]; exact hlt
    obtain ⟨p, rest', rfl⟩ : ∃ p rest', rest = p :: rest' := by
      cases rest with
      | nil => rw [hc] at hlt'; simp at hlt'
      | cons c r => exact ⟨c, r, rfl⟩
    have hcv : BytV p v := hbp.2 done.length v p hv (by rw [hc]; simp)
    have hpp : p ∈ g.par c := by rw [hc]; simp
    have hpU : p ∈ g.U := (H.ok.up c hcU p hpp).1
    have hc' : g.par c = (done ++ [p]) ++ rest' := by rw [hc]; simp
    have hrl : rest'.length < r := by rw [hm]; simp
    dsimp only
    refine letGoI S .head ?_
    refine wpAny_assign_Name ?_
    obtain ⟨u0, u2, u3, u4, u5, u6, u7, u8, u9, u10, S⟩ := LcG.open (S.front (e := .tail (.tail .head)))
    walk_at "m store"
    intro s S
    refine wpAny_execs_cons ?_
    refine wpAny_Assign_Name ?_
    refine MethodCall_ ?_
    walk_at "m name"
    obtain ⟨od, hod, hD⟩ := S.get (.tail (.tail (.tail .head)))
    refine dctGetM hod hD ?_
    refine callWith_method1 (he := rfl) (hplain := rfl) ?_
    refine args_cons (he := rfl) ?_
    walk_at "m name"
    refine args_cons (he := rfl) ?_
    refine eInt S fun tz s S => ?_
    refine args_nil ?_
    obtain ⟨od, hod, hD⟩ := S.get (.tail (.tail (.tail .head)))
    refine dctGetD S hod hD H.ds hcv (b0 := 0) ⟨_, rfl⟩ fun z s hz S => ?_
    rw [encf_getD] at hz
    obtain ⟨tz', rfl⟩ := hz
    walk_at "m store"
    intro s S
    refine wpAny_execs_cons ?_
    refine wpAny_If ?_
    refine wpAny_isTrue_Compare1 ?_
    refine wpAny_BinOp ?_
    walk_at "m name"
    walk_at "m name"
    refine andS S fun tf s S => ?_
    walk_at "m name"
    refine eq_int ?_
    refine wpAny_truthy_bool ?_
    rw [enc_sub]
    have skip : ∀ s, (Sub (prop f) ((fl p).getD fz) = true ∨ g.tm p < g.mn) →
        SS B' G os ((q, ListO vs) :: (it, IterO lpar (done.length + 1)) :: (Lf, LcG (.ref fp) v1 (.ref l2) (.ref ft) vm lc d fh x ta tb te (.int (prop f).enc tcf)) :: (d, DctO w g.U IntV (encf fl)) :: (cD, CellO (some (.int 4 td))) :: L) s →
        ∃ r', r' < r ∧ ∃ B' fl vs ks done rest, Le B B' ∧ g.par c = done ++ rest ∧ r' = rest.length ∧ Rel2 (IsPair B') vs ks ∧ IsHeap ks ∧ Inv g (prAt g c done) fl ks cs ∧ fl c = some f ∧ ks.length + mu g.U fl ≤ m ∧
          SS B' G os ((q, ListO vs) :: (it, IterO lpar done.length) :: (Lf, LcG (.ref fp) v1 (.ref l2) (.ref ft) vm lc d fh x ta tb te (.int (prop f).enc tcf)) :: (d, DctO w g.U IntV (encf fl)) :: (cD, CellO (some (.int 4 td))) :: L) s :=
      fun s hsk S => ⟨rest'.length, hrl, B', fl, vs, ks, done ++ [p], rest', le, hc', rfl, hr, hh, hi.skip hf hsk, hf, hmu, by rw [List.length_append, List.length_singleton]; exact S⟩
    cases hsub : Sub (prop f) ((fl p).getD fz) with
    | true =>
      refine wpAny_execs_cons ?_
      refine wpAny_Continue ?_
      have S := S.weak (P' := LcG (.ref fp) v1 (.ref l2) (.ref ft) vm lc d fh x ta tb te (.int (prop f).enc tcf)) fun o h => ⟨_, _, _, _, _, _, _, _, _, _, h⟩
      exact skip s (.inl hsub) ((S.front (e := .tail .head)).front (e := .tail (.tail .head)))
    | false =>
      refine wpAny_execs_nil ?_
      refine wpAny_execs_cons ?_
      refine tryW ?_
      refine wpAny_execs_cons ?_
      refine wpAny_Assign_Name ?_
      refine PyProof.Rows.Call_ ?_
      walk_at "m name"
      refine callWith_F (fnAtOf H'.LT.fn S) ?_ (he := rfl) (hplain := rfl)
      refine args_cons (he := rfl) ?_
      walk_at "m name"
      refine args_nil ?_
      refine ⟨fnAtOf H'.LT.fn S, ?_⟩
      refine W.up (H'.LT.call A B' G os _ s v p _ (H.R.less (by omega)) (Le.refl _) hcv hpU S fun tc s S => ?_)
      walk_at "m store"
      intro s S
      refine wpAny_execs_nil ?_
      refine wpAny_execs_cons ?_
      refine wpAny_If ?_
      refine wpAny_isTrue_Compare1 ?_
      walk_at "m name"
      obtain ⟨tvm, rfl⟩ := hvm
      walk_at "m name"
      refine PyProof.Rows.lt_int ?_
      refine wpAny_truthy_bool ?_
      by_cases hold : g.tm p < g.mn
      · rw [decide_eq_true hold]
        refine wpAny_execs_cons ?_
        refine wpAny_Continue ?_
        have S := S.weak (P' := LcG (.ref fp) v1 (.ref l2) (.ref ft) (.int g.mn tvm) lc d fh x ta tb te (.int (prop f).enc tcf)) fun o h => ⟨_, _, _, _, _, _, _, _, _, _, h⟩
        exact skip s (.inr hold) ((S.front (e := .tail .head)).front (e := .tail (.tail .head)))
      · rw [decide_eq_false hold]
        refine wpAny_execs_nil ?_
        refine wpAny_execs_cons ?_
        refine wpAny_Assign_Subscript ?_
        refine wpAny_BinOp ?_
        walk_at "m name"
        walk_at "m name"
        refine orS S fun tf s S => ?_
        walk_at "m name"
        walk_at "m name"
        have S := S.front (e := .tail (.tail (.tail .head)))
        rw [enc_uni]
        refine dctSet S hcv hpU (by have := H.hU; omega) ⟨_, rfl⟩ fun s S => ?_
        rw [← encf_upd] at S
        have hmlt := mu_push (U := g.U) hpU hsub
        refine wpAny_execs_cons ?_
        refine wpAny_Expr (hi := I.ni) ?_
        refine MethodCall_ ?_
        walk_at "m name"
        refine wl_method T S H'.wl T.mAdd T.mAddT rfl ?_
        obtain ⟨cdA, FA⟩ := T.fnAdd
        refine callWith_F (FA.at S) ?_ (he := rfl) (hplain := rfl)
        refine args_cons (he := rfl) ?_
        refine eTuple ?_
        refine args_cons (he := rfl) ?_
        walk_at "m name"
        refine args_cons (he := rfl) ?_
        walk_at "m name"
        refine args_nil ?_
        refine newTuple_ S (by simp) fun tp s S => ?_
        refine args_nil ?_
        refine ⟨FA.at S, ?_⟩
        obtain ⟨tcv, rfl⟩ := hcv
        obtain ⟨B'', o, le', ⟨hcl, hdd, n0, hdat⟩, hB, S⟩ := S.freeze
        have hp : IsPair B'' (.ref tp) (g.tm p, p) := ⟨tp, o, n0, _, _, rfl, hB, hcl, hdd, hdat⟩
        have S := S.front (e := .tail (.tail (.tail .head)))
        have H'' := H'.mono le'
        refine add_spec H''.T (H.R.less (by omega)) S H''.wl (hr.mono fun _ _ p => p.mono le') hp (by omega) hh fun B3 s vs' ks' le3 S hr' hh' pm => ?_
        refine wpAny_execs_nil ?_
        obtain ⟨hi', hf'⟩ := hi.push H.ok hf hpp (by omega) hle pm
        refine ⟨rest'.length, hrl, B3, _, vs', ks', done ++ [p], rest', le.trans (le'.trans le3), hc', rfl, hr', hh', hi', hf', ?_, ?_⟩
        · rw [pm.length_eq, List.length_cons]; omega
        · have S := S.front (e := .tail (.tail .head))
          have S := S.weak (P' := LcG (.ref fp) v1 (.ref l2) (.ref ft) (.int g.mn tvm) lc d fh x ta tb te (.int (prop f).enc tcf)) fun o h => ⟨_, _, _, _, _, _, _, _, _, _, h⟩
          have S := (S.front (e := .tail (.tail (.tail .head)))).front (e := .tail (.tail .head))
          rw [List.length_append, List.length_singleton]
          exact S
  · intro s hlt S
    have hr0 : rest = [] := by
      have : (g.par c).length = done.length + rest.length := by rw [hc]; simp
      have h2 : (g.par c).length ≤ done.length := by rw [← hbp.1]; exact hlt
      exact List.length_eq_zero_iff.mp (by omega)
    subst hr0
    rw [List.append_nil] at hc
    refine wpAny_execs_nil (hR _ _ ?_)
    rw [← hc, prAt_all] at hi
    obtain ⟨u0, u2, u3, u4, u5, u6, u7, u8, u9, u10, S⟩ := LcG.open (S.front (e := .tail .head))
    have S := S.weak (P' := LcF (.ref fp) v1 (.ref l2) (.ref ft) vm lc d fh x ta tb te) fun o h => ⟨_, _, _, _, _, _, _, _, _, _, _, h⟩
    have S := S.front (e := .tail .head)
    exact h B' s fl vs ks le S hr hh hi hmu
end
end Mine

end
section
open PySem PySem.W PySem.Calls PyProof.Rows Builtin
set_option Elab.async false
set_option maxRecDepth 100000
set_option linter.unusedVariables false
namespace Mine
local macro_rules | `(tactic| walk_at "m sel") => `(tactic| first | with_reducible apply Sel.head | (apply Sel.tail; walk_at "m sel"))
local macro_rules | `(tactic| walk_at "m lget") => `(tactic| first | with_reducible apply LGet.head | (apply LGet.tail; walk_at "m lget"))
local macro_rules | `(tactic| walk_at "m lset") => `(tactic| first | with_reducible apply LSet.head | (apply LSet.tail; walk_at "m lset"))
local macro_rules | `(tactic| walk_at "m mg") => `(tactic| first | exact Top0.gPush (by assumption) | exact Top0.gPop (by assumption) | exact Top0.gWL (by assumption) | exact Top0.gLcas (by assumption) | exact Top0.gBase (by assumption) | exact Top0.gFast (by assumption))
local macro_rules | `(tactic| walk_at "m name") => `(tactic| first
  | (refine' nmL (by assumption) (by assumption) ?hx ?hd ?he ?hg ?_; (case hx => kernel_rfl); (case hd => kernel_rfl); (case he => walk_at "m sel"); (case hg => walk_at "m lget"))
  | (refine' nmC (by assumption) (by assumption) ?hx ?hd ?hc ?he ?_; (case hx => decide +kernel); (case hd => kernel_rfl); (case hc => rfl); (case he => walk_at "m sel"))
  | (refine' nmF (by assumption) (by assumption) ?hx ?hd ?hd2 ?hc ?he ?_; (case hx => decide +kernel); (case hd => kernel_rfl); (case hd2 => kernel_rfl); (case hc => rfl); (case he => walk_at "m sel"))
  | (refine' nmG (by assumption) (by assumption) (Top0.glob (by assumption)) ?hx ?hd ?hv ?_; (case hx => kernel_rfl); (case hd => kernel_rfl); (case hv => walk_at "m mg")))
local macro_rules | `(tactic| walk_at "m store") => `(tactic| first
  | (refine' stL (by assumption) (by assumption) ?hx ?he ?hg ?_; (case hx => kernel_rfl); (case he => walk_at "m sel"); (case hg => walk_at "m lset"))
  | (refine' stC (by assumption) (by assumption) ?hx ?hc ?he ?_; (case hx => kernel_rfl); (case hc => rfl); (case he => walk_at "m sel")))
section
variable {K : Frag} {C fInit fAdd fGet fIter fLcas fBase fFast : Addr} {mg mb : Str → Option Value} {B B' : Store}
variable {w : World} {A : Around} {E : Value → Shared → Prop} {G : Array GenState} {os : OsState} {L L' : Led} {s : Shared} {env : Env} {sc : Scope} {Lf : Addr} {cl : List (Str × Addr)} {cd : Value} {n : Nat} {x q : Addr}
variable {g : Gr} {fp ft fh d lc cD l2 P : Addr} {v1 cdH vm : Value} {ta tb te td : Tok}

theorem upd_same {fl : Bs → Option Fl} {c : Bs} {f : Fl} (h : fl c = some f) : upd fl c f = fl := by
  funext y; unfold upd; split
  · rename_i e; rw [e, h]
  · rfl
theorem cands_length {pr : Bs → List Bs} {fl : Bs → Option Fl} {ks cs : List Key} (hi : Inv g pr fl ks cs) : (cs.map (·.2)).Nodup ∧ cs.length ≤ g.U.length := by
  have hn : (cs.map (·.2)).Nodup := by
    rw [List.nodup_iff_pairwise_ne, List.pairwise_map]
    refine hi.sorted.imp_of_mem fun {a b} ha hb h e => ?_
    have h1 := (hi.cand a ha).1
    have h2 := (hi.cand b hb).1
    rw [h1, h2, e, kLt_irrefl] at h; cases h
  refine ⟨hn, ?_⟩
  have := nodup_sub_length (U := g.U) hn fun x hx => by
    obtain ⟨c, hc, rfl⟩ := List.mem_map.mp hx
    obtain ⟨_, f, hf, _⟩ := hi.cand c hc
    exact (hi.sound _ _ hf).1
  simpa using this
theorem live_any {fl : Bs → Option Fl} {ks : List Key} : ks.any (liveK (encf fl)) = true ↔ ∃ k ∈ ks, ∃ f, fl k.2 = some f ∧ f.dn = false := by
  rw [List.any_eq_true]
  refine exists_congr fun k => and_congr_right fun _ => ?_
  unfold liveK encf
  cases hf : fl k.2 with
  | none => simp
  | some f => simp only [Option.map_some, enc_dn]; simp

set_option maxHeartbeats 2000000 in
/-- a turn after the flags are known -/
theorem whTail {c : Bs} {f : Fl} {fl : Bs → Option Fl} {vs : List Value} {ks cs : List Key} {m : Nat} {tcf tcb : Tok} {Q : Flow → Shared → Prop} (H : LC K C fInit fAdd fGet fIter fLcas fBase fFast mg mb w A env Lf cD cd g fp ft fh x q d v1 cdH B)
    (hvm : IntV g.mn vm) {u0 u2 u3 u5 u6 u7 u8 u9 u10 : Option Value}
    (S : SS B G os ((Lf, LocO [("lookup_parents", some (.ref fp)), ("c1", some v1), ("c2s", some (.ref l2)), ("lookup_stamp", some (.ref ft)), ("min_stamp", some vm), ("shallows", some .none), ("cands", some (.ref lc)), ("cstates", some (.ref d)),
      ("_ANC_OF_1", some (.int 1 ta)), ("_ANC_OF_2", some (.int 2 tb)), ("_LCA", some (.int 8 te)), ("_has_candidates", some (.ref fh)), ("wlst", some (.ref x)),
      ("c2", u0), ("cflags", some (.int (prop f).enc tcf)), ("result", u2), ("dt", u3), ("cmt", some (.bytes c.toArray tcb)), ("parents", u5), ("pcmt", u6), ("pflags", u7), ("pdt", u8), ("results", u9), ("lcas", u10)]) ::
      (q, ListO vs) :: (d, DctO w g.U IntV (encf fl)) :: (cD, CellO (some (.int 4 td))) :: L) s)
    (hr : Rel2 (IsPair B) vs ks) (hh : IsHeap ks) (hi : Inv g (prAt g c []) fl ks cs) (hf : fl c = some f) (hle : ∀ k ∈ cs, kLe (-k.1, k.2) (-g.tm c, c)) (hmu : ks.length + mu g.U fl ≤ m) (hm9 : m ≤ 900)
    (h : ∀ B' s' fl' vs' ks', Le B B' → SS B' G os ((q, ListO vs') :: (Lf, LcF (.ref fp) v1 (.ref l2) (.ref ft) vm lc d fh x ta tb te) :: (d, DctO w g.U IntV (encf fl')) :: (cD, CellO (some (.int 4 td))) :: L) s' →
      Rel2 (IsPair B') vs' ks' → IsHeap ks' → Inv g g.par fl' ks' cs → ks'.length + mu g.U fl' ≤ m → Q .next s') :
    W (model thePrg w) A (execs ((whBd (lcasStmt 11)).drop 5) env) Q s := by
  have I := H.I
  have hcU := (hi.sound _ _ hf).1
  refine wpAny_execs_cons ?_
  refine tryW ?_
  refine wpAny_execs_cons ?_
  refine wpAny_Assign_Name ?_
  refine PyProof.Rows.Call_ ?_
  walk_at "m name"
  refine callWith_F (fnAtOf H.LP.fn S) ?_ (he := rfl) (hplain := rfl)
  refine args_cons (he := rfl) ?_
  walk_at "m name"
  refine args_nil ?_
  refine ⟨fnAtOf H.LP.fn S, ?_⟩
  refine W.up (H.LP.call A B G os _ s _ c _ (H.R.less (by omega)) (Le.refl _) ⟨_, rfl⟩ hcU S fun lp pvs s hlp hbp S => ?_)
  walk_at "m store"
  intro s S
  refine wpAny_execs_nil ?_
  refine wpAny_execs_cons ?_
  refine wpAny_If ?_
  refine isTrue_plain (he := rfl) ?_
  walk_at "m name"
  have hsz := H.hpar c hcU
  have hpl : pvs.length = (g.par c).length := hbp.1
  refine wpAny_truthy_list (hlp.isList S) (by simp; omega) ?_
  have S := S.toks (s' := { s with toks := s.toks + 1 + 1 })
  cases pvs with
  | nil =>
    have hpn : g.par c = [] := by simpa using hpl.symm
    refine wpAny_execs_nil ?_
    refine wpAny_execs_nil ?_
    have S := S.weak (P' := LcF (.ref fp) v1 (.ref l2) (.ref ft) vm lc d fh x ta tb te) fun o h => ⟨_, _, _, _, _, _, _, _, _, _, _, h⟩
    have e : prAt g c [] = g.par := by rw [← prAt_all g c, hpn]
    rw [e] at hi
    exact h B _ fl vs ks (Le.refl _) (S.front (e := .tail .head)) hr hh hi hmu
  | cons pv pvs =>
    refine wpAny_execs_cons ?_
    refine forPar H hvm hlp hbp (S.front (e := .tail .head)) hr hh hi hf hle hmu hm9 fun B' s fl' vs' ks' le S r1 r2 r3 r4 => ?_
    refine wpAny_execs_nil ?_
    refine wpAny_execs_nil ?_
    exact h B' s fl' vs' ks' le S r1 r2 r3 r4

set_option maxHeartbeats 2000000 in
theorem whLcas {fl : Bs → Option Fl} {vs : List Value} {ks : List Key} {Q : Flow → Shared → Prop} (H : LC K C fInit fAdd fGet fIter fLcas fBase fFast mg mb w A env Lf cD cd g fp ft fh x q d v1 cdH B)
    (hvm : IntV g.mn vm) (hG : AllBare G)
    (S : SS B G os ((q, ListO vs) :: (Lf, LcF (.ref fp) v1 (.ref l2) (.ref ft) vm lc d fh x ta tb te) :: (d, DctO w g.U IntV (encf fl)) :: (cD, CellO (some (.int 4 td))) :: (lc, ListO []) :: L) s)
    (hr : Rel2 (IsPair B) vs ks) (hh : IsHeap ks) (hi : Inv g g.par fl ks []) (hmu : ks.length + mu g.U fl ≤ 900)
    (h : ∀ B' G' s' fl vs ks cvs cs, Le B B' → AllBare G' → SS B' G' os ((q, ListO vs) :: (Lf, LcF (.ref fp) v1 (.ref l2) (.ref ft) vm lc d fh x ta tb te) :: (d, DctO w g.U IntV (encf fl)) :: (cD, CellO (some (.int 4 td))) :: (lc, ListO cvs) :: L) s' →
      Rel2 (IsPair B') cvs cs → Inv g g.par fl ks cs → (∀ k ∈ ks, ∀ f, fl k.2 = some f → f.dn = true) → Q .next s') :
    W (model thePrg w) A (exec (lcasStmt 11) env) Q s := by
  have I := H.I
  refine whileW (fun m s => ∃ B' G' fl vs ks cvs cs, Le B B' ∧ AllBare G' ∧ Rel2 (IsPair B') vs ks ∧ IsHeap ks ∧ Inv g g.par fl ks cs ∧ Rel2 (IsPair B') cvs cs ∧ ks.length + mu g.U fl ≤ m ∧ m ≤ 900 ∧
    SS B' G' os ((q, ListO vs) :: (Lf, LcF (.ref fp) v1 (.ref l2) (.ref ft) vm lc d fh x ta tb te) :: (d, DctO w g.U IntV (encf fl)) :: (cD, CellO (some (.int 4 td))) :: (lc, ListO cvs) :: L) s) ?_ (ks.length + mu g.U fl)
    ⟨B, G, fl, vs, ks, [], [], Le.refl _, hG, hr, hh, hi, Rel2.nil, Nat.le_refl _, hmu, S⟩
  clear S hr hh hi hmu hG
  rintro m s ⟨B', G', fl, vs, ks, cvs, cs, le, hG, hr, hh, hi, hrc, hmu, hm9, S⟩
  have H' := H.mono le
  have T := H'.T
  obtain ⟨u0, u1, u2, u3, u4, u5, u6, u7, u8, u9, u10, S⟩ := LcF.open (S.front (e := .tail .head))
  refine isTrue_plain (he := rfl) ?_
  refine PyProof.Rows.Call_ ?_
  walk_at "m name"
  refine callWith_F (H'.has.at S) ?_ (he := rfl) (hplain := rfl)
  refine args_cons (he := rfl) ?_
  walk_at "m name"
  refine args_cons (he := rfl) ?_
  walk_at "m name"
  refine args_nil ?_
  refine ⟨H'.has.at S, ?_⟩
  have S := ((S.front (e := .tail (.tail (.tail .head)))).front (e := .tail (.tail (.tail .head)))).front (e := .tail (.tail (.tail .head)))
  refine W.up (has_spec T (H.R.less (by omega)) H'.has hG S H'.wl hr H.ds fun B2 G2 s le2 hG2 S => ?_)
  refine wpAny_truthy_bool ?_
  have H2 := H'.mono le2
  have T2 := H2.T
  cases hany : ks.any (liveK (encf fl)) with
  | false =>
    refine wpAny_execs_nil ?_
    have S := (S.front (e := .tail (.tail (.tail .head)))).weak (P' := LcF (.ref fp) v1 (.ref l2) (.ref ft) vm lc d fh x ta tb te) fun o h => ⟨_, _, _, _, _, _, _, _, _, _, _, h⟩
    refine h B2 G2 s fl vs ks cvs cs (le.trans le2) hG2 (S.front (e := .tail .head)) (hrc.mono fun _ _ p => p.mono le2) hi fun k hk f hf => ?_
    cases hd : f.dn with
    | true => rfl
    | false =>
      have := live_any.mpr ⟨k, hk, f, hf, hd⟩
      rw [hany] at this; cases this
  | true =>
    have hne : ks ≠ [] := by rintro rfl; simp at hany
    have S := S.front (e := .tail (.tail (.tail .head)))
    refine wpAny_execs_cons ?_
    refine wpAny_Assign_Name ?_
    refine MethodCall_ ?_
    walk_at "m name"
    refine wl_method T2 S H2.wl T2.mGet T2.mGetT rfl ?_
    obtain ⟨cdG, FG⟩ := T2.fnGet
    refine callWith_F0 (FG.at S) ?_
    have S := S.front (e := .tail .head)
    have hkl : ks.length ≤ 900 := by omega
    refine W.up (get_spec T2 (H.R.less (by omega)) S H2.wl (hr.mono fun _ _ p => p.mono le2) hne (by omega) hh fun B3 s vs' ks' v kt c le3 S hr' hh' hp pm hmin => ?_)
    have H3 := H2.mono le3
    have hk0 : (kt, c) ∈ ks := pm.mem_iff.mp (.head _)
    obtain ⟨hkt, f, hf⟩ := hi.queue _ hk0
    have hkt : kt = -g.tm c := hkt
    have hf : fl c = some f := hf
    have hcU := (hi.sound _ _ hf).1
    have hlen : ks'.length + 1 = ks.length := by have := pm.length_eq; simpa using this
    have S := S.front (e := .tail .head)
    obtain ⟨tpa, tt1, tt2, rfl, -⟩ := hp.isTup S
    walk_at "m store"
    intro s S
    refine wpAny_execs_cons ?_
    refine wpAny_If ?_
    refine wpAny_isTrue_Compare1 ?_
    walk_at "m name"
    refine Constant_none ?_
    refine is_ref_none ?_
    refine wpAny_truthy_bool ?_
    refine wpAny_execs_nil ?_
    refine wpAny_execs_cons ?_
    refine Assign_Tuple ?_
    walk_at "m name"
    obtain ⟨tpa', tt1', tt2', e, ht⟩ := hp.isTup S
    cases e
    refine unpack2 H.R S ht fun s S => ?_
    walk_at "m store"
    intro s S
    walk_at "m store"
    intro s S
    refine wpAny_execs_cons ?_
    refine wpAny_Assign_Name ?_
    refine wpAny_BinOp ?_
    refine Subscript_ ?_
    walk_at "m name"
    walk_at "m name"
    obtain ⟨od, hod, hD⟩ := S.get (.tail (.tail .head))
    refine dctSub S hod hD (k := c) ⟨_, rfl⟩ (b := f.enc) (by unfold encf; rw [hf]; rfl) fun z s hz S => ?_
    obtain ⟨tz, rfl⟩ := hz
    refine wpAny_BinOp ?_
    refine wpAny_BinOp ?_
    walk_at "m name"
    walk_at "m name"
    refine orS S fun t9 s S => ?_
    walk_at "m name"
    refine orS S fun t9 s S => ?_
    refine andS S fun tcf s S => ?_
    rw [show Builtin.bitOr (Builtin.bitOr 1 2) 4 = 7 by decide +kernel, enc_low]
    walk_at "m store"
    intro s S
    refine wpAny_execs_cons ?_
    refine wpAny_If ?_
    refine wpAny_isTrue_Compare1 ?_
    walk_at "m name"
    refine wpAny_BinOp ?_
    walk_at "m name"
    walk_at "m name"
    refine orS S fun t9 s S => ?_
    refine eq_int ?_
    refine wpAny_truthy_bool ?_
    rw [show Builtin.bitOr 1 2 = 3 by decide +kernel, enc_is3]
    obtain ⟨hpop, hple⟩ := hi.pop pm hmin hf
    dsimp only at hpop hple
    -- what follows
    have go : ∀ B4 s cvs4 cs4 fl4 f4 tcf, Le B3 B4 → Inv g (prAt g c []) fl4 ks' cs4 → fl4 c = some f4 → prop f4 = prop f → mu g.U fl4 = mu g.U fl → (∀ k ∈ cs4, kLe (-k.1, k.2) (-g.tm c, c)) → Rel2 (IsPair B4) cvs4 cs4 →
        SS B4 G2 os ((Lf, LocO [("lookup_parents", some (.ref fp)), ("c1", some v1), ("c2s", some (.ref l2)), ("lookup_stamp", some (.ref ft)), ("min_stamp", some vm), ("shallows", some .none), ("cands", some (.ref lc)), ("cstates", some (.ref d)),
          ("_ANC_OF_1", some (.int 1 ta)), ("_ANC_OF_2", some (.int 2 tb)), ("_LCA", some (.int 8 te)), ("_has_candidates", some (.ref fh)), ("wlst", some (.ref x)),
          ("c2", u0), ("cflags", some (.int (prop f).enc tcf)), ("result", some (.ref tpa)), ("dt", some (.int (-kt) tt1')), ("cmt", some (.bytes c.toArray tt2')), ("parents", u5), ("pcmt", u6), ("pflags", u7), ("pdt", u8), ("results", u9), ("lcas", u10)]) ::
          (q, ListO vs') :: (d, DctO w g.U IntV (encf fl4)) :: (cD, CellO (some (.int 4 td))) :: (lc, ListO cvs4) :: L) s →
        W (model thePrg w) A (execs ((whBd (lcasStmt 11)).drop 5) env) (fun f s₃ => match f with
            | .next | .cont => ∃ m', m' < m ∧ ∃ B' G' fl vs ks cvs cs, Le B B' ∧ AllBare G' ∧ Rel2 (IsPair B') vs ks ∧ IsHeap ks ∧ Inv g g.par fl ks cs ∧ Rel2 (IsPair B') cvs cs ∧ ks.length + mu g.U fl ≤ m' ∧ m' ≤ 900 ∧
              SS B' G' os ((q, ListO vs) :: (Lf, LcF (.ref fp) v1 (.ref l2) (.ref ft) vm lc d fh x ta tb te) :: (d, DctO w g.U IntV (encf fl)) :: (cD, CellO (some (.int 4 td))) :: (lc, ListO cvs) :: L) s₃
            | .brk => Q .next s₃
            | .ret v => Q (.ret v) s₃) s := by
      intro B4 s cvs4 cs4 fl4 f4 tcf le4 hi4 hf4 hpf hmu4 hle4 hrc4 S
      rw [← hpf] at S
      refine whTail (m := m - 1) (H3.mono le4) hvm S (hr'.mono fun _ _ p => p.mono le4) hh' hi4 hf4 hle4 (by omega) (by omega) fun B5 s fl5 vs5 ks5 le5 S r1 r2 r3 r4 => ?_
      refine ⟨m - 1, by omega, B5, G2, fl5, vs5, ks5, cvs4, cs4, le.trans (le2.trans (le3.trans (le4.trans le5))), hG2, r1, r2, r3, hrc4.mono fun _ _ p => p.mono le5, r4, by omega, S⟩
    have hrc3 := hrc.mono fun _ _ p => p.mono (le2.trans le3)
    have hcl := (cands_length hi).2
    have hcl2 : cvs.length = cs.length := hrc.1
    have hU := H.hU
    cases hnw : (f.a1 && f.a2 && !f.dn) with
    | false =>
      rw [hnw] at hpop hple
      simp only [Bool.or_false, Bool.false_and, Bool.false_eq_true, if_false] at hpop hple
      rw [show ({ f with lc := f.lc } : Fl) = f from rfl, upd_same hf] at hpop
      rw [enc_keep f hnw] at S
      refine wpAny_execs_nil ?_
      exact go B3 s cvs cs fl f _ (Le.refl _) hpop hf rfl rfl hple hrc3 S
    | true =>
      rw [hnw] at hpop hple
      simp only [Bool.or_true, Bool.true_and] at hpop hple
      refine wpAny_execs_cons ?_
      refine wpAny_If ?_
      refine isTrue_not ?_
      refine wpAny_isTrue_Compare1 ?_
      refine wpAny_BinOp ?_
      refine Subscript_ ?_
      walk_at "m name"
      walk_at "m name"
      obtain ⟨od, hod, hD⟩ := S.get (.tail (.tail .head))
      refine dctSub S hod hD (k := c) ⟨_, rfl⟩ (b := f.enc) (by unfold encf; rw [hf]; rfl) fun z s hz S => ?_
      obtain ⟨tz, rfl⟩ := hz
      walk_at "m name"
      refine andS S fun t9 s S => ?_
      walk_at "m name"
      refine eq_int ?_
      refine wpAny_truthy_bool ?_
      rw [enc_lc]
      cases hlc : f.lc with
      | true =>
        rw [hlc] at hpop hple
        simp only [Bool.not_true, Bool.false_eq_true, if_false] at hpop hple
        rw [show ({ f with lc := true } : Fl) = f by rw [← hlc], upd_same hf] at hpop
        refine wpAny_execs_nil ?_
        refine wpAny_execs_cons ?_
        refine wpAny_Assign_Name ?_
        refine wpAny_BinOp ?_
        walk_at "m name"
        walk_at "m name"
        refine orS S fun t9 s S => ?_
        rw [enc_set4 f hnw]
        walk_at "m store"
        intro s S
        refine wpAny_execs_nil ?_
        exact go B3 s cvs cs fl f _ (Le.refl _) hpop hf rfl rfl hple hrc3 S
      | false =>
        rw [hlc] at hpop hple
        simp only [Bool.not_false, if_true] at hpop hple
        refine wpAny_execs_cons ?_
        refine wpAny_Assign_Subscript ?_
        refine wpAny_BinOp ?_
        refine Subscript_ ?_
        walk_at "m name"
        walk_at "m name"
        obtain ⟨od, hod, hD⟩ := S.get (.tail (.tail .head))
        refine dctSub S hod hD (k := c) ⟨_, rfl⟩ (b := f.enc) (by unfold encf; rw [hf]; rfl) fun z s hz S => ?_
        obtain ⟨tz, rfl⟩ := hz
        walk_at "m name"
        refine orS S fun t9 s S => ?_
        walk_at "m name"
        walk_at "m name"
        have S := S.front (e := .tail (.tail .head))
        rw [enc_set8]
        refine dctSet S (k := c) ⟨_, rfl⟩ hcU (by omega) ⟨_, rfl⟩ fun s S => ?_
        rw [← encf_upd] at S
        refine wpAny_execs_cons ?_
        refine wpAny_Expr (hi := I.ni) ?_
        refine MethodCall_ ?_
        walk_at "m name"
        refine lAppM S (e := .tail (.tail (.tail (.tail .head)))) ?_
        refine callWith_method1 (he := rfl) (hplain := rfl) ?_
        refine args_cons (he := rfl) ?_
        refine eTuple ?_
        refine args_cons (he := rfl) ?_
        walk_at "m name"
        refine args_cons (he := rfl) ?_
        walk_at "m name"
        refine args_nil ?_
        refine newTuple_ S (by simp) fun tp s S => ?_
        refine args_nil ?_
        obtain ⟨B4, o, le4, ⟨hcl', hdd, n0, hdat⟩, hB, S⟩ := S.freeze
        have hp4 : IsPair B4 (.ref tp) (g.tm c, c) := ⟨tp, o, n0, _, _, rfl, hB, hcl', hdd, by rw [hdat, show -kt = g.tm c by rw [hkt]; exact Int.neg_neg _]⟩
        have S := S.front (e := .tail (.tail (.tail (.tail .head))))
        refine lApp S (by omega) fun s S => ?_
        refine wpAny_execs_nil ?_
        have S := S.front (e := .tail (.tail .head))
        refine wpAny_execs_cons ?_
        refine wpAny_Assign_Name ?_
        refine wpAny_BinOp ?_
        walk_at "m name"
        walk_at "m name"
        refine orS S fun t9 s S => ?_
        rw [enc_set4 f hnw]
        walk_at "m store"
        intro s S
        refine wpAny_execs_nil ?_
        have S := S.front (a := lc) (e := by walk_at "m sel")
        have S := S.front (a := cD) (e := by walk_at "m sel")
        have S := S.front (a := d) (e := by walk_at "m sel")
        have S := S.front (a := q) (e := by walk_at "m sel")
        have S := S.front (a := Lf) (e := by walk_at "m sel")
        exact go B4 s _ _ _ { f with lc := true } _ le4 hpop (upd_self _ _ _) rfl (mu_lc hf) hple ((hrc3.mono fun _ _ p => p.mono le4).append (Rel2.cons hp4 .nil)) S
end
end Mine

end
section
open PySem PySem.W PySem.Calls PySem.SeqAt PyProof.Rows Builtin
set_option Elab.async false
set_option maxRecDepth 100000
set_option linter.unusedVariables false
namespace Mine
local macro_rules | `(tactic| walk_at "m sel") => `(tactic| first | with_reducible apply Sel.head | (apply Sel.tail; walk_at "m sel"))
local macro_rules | `(tactic| walk_at "m lget") => `(tactic| first | with_reducible apply LGet.head | (apply LGet.tail; walk_at "m lget"))
local macro_rules | `(tactic| walk_at "m lset") => `(tactic| first | with_reducible apply LSet.head | (apply LSet.tail; walk_at "m lset"))
local macro_rules | `(tactic| walk_at "m mg") => `(tactic| first | exact Top0.gPush (by assumption) | exact Top0.gPop (by assumption) | exact Top0.gWL (by assumption) | exact Top0.gLcas (by assumption) | exact Top0.gBase (by assumption) | exact Top0.gFast (by assumption))
local macro_rules | `(tactic| walk_at "m name") => `(tactic| first
  | (refine' nmL (by assumption) (by assumption) ?hx ?hd ?he ?hg ?_; (case hx => kernel_rfl); (case hd => kernel_rfl); (case he => walk_at "m sel"); (case hg => walk_at "m lget"))
  | (refine' nmC (by assumption) (by assumption) ?hx ?hd ?hc ?he ?_; (case hx => decide +kernel); (case hd => kernel_rfl); (case hc => rfl); (case he => walk_at "m sel"))
  | (refine' nmF (by assumption) (by assumption) ?hx ?hd ?hd2 ?hc ?he ?_; (case hx => decide +kernel); (case hd => kernel_rfl); (case hd2 => kernel_rfl); (case hc => rfl); (case he => walk_at "m sel"))
  | (refine' nmG (by assumption) (by assumption) (Top0.glob (by assumption)) ?hx ?hd ?hv ?_; (case hx => kernel_rfl); (case hd => kernel_rfl); (case hv => walk_at "m mg")))
local macro_rules | `(tactic| walk_at "m store") => `(tactic| first
  | (refine' stL (by assumption) (by assumption) ?hx ?he ?hg ?_; (case hx => kernel_rfl); (case he => walk_at "m sel"); (case hg => walk_at "m lset"))
  | (refine' stC (by assumption) (by assumption) ?hx ?hc ?he ?_; (case hx => kernel_rfl); (case hc => rfl); (case he => walk_at "m sel")))
section
variable {K : Frag} {C fInit fAdd fGet fIter fLcas fBase fFast : Addr} {mg mb : Str → Option Value} {B B' : Store}
variable {w : World} {A : Around} {E : Value → Shared → Prop} {G : Array GenState} {os : OsState} {L L' : Led} {s : Shared} {env : Env} {sc : Scope} {Lf : Addr} {cl : List (Str × Addr)} {cd : Value} {n : Nat} {x q : Addr}
variable {g : Gr} {fp ft fh d lc cD l2 P : Addr} {v1 cdH vm : Value} {ta tb te td : Tok}
def kwv : Stmt → Expr | .Expr (.Call _ _ [k] _) _ => k.value | _ => default
def lamPs : Expr → Arguments | .Lambda a _ _ _ => a | _ => default
def lamBd : Expr → Expr | .Lambda _ b _ _ => b | _ => default
def lamSc : Expr → Scope | .Lambda _ _ sc _ => sc | _ => default
abbrev eLam : Expr := kwv (lcasStmt 14)

theorem firstFn {f : Addr} (hN : NoLimitS B) (F : LamIs B f (lamPs eLam) (lamBd eLam) (lamSc eLam) [] cd) : FirstFn w B f := by
  intro A B' G os L s v k Q R le hp S h
  obtain ⟨a, t, u, rfl, -⟩ := hp.isTup S
  refine callLam (n := 1) (args := ⟨[.ref a], []⟩) (binds := [("x", .ref a)]) (rest := []) R (hN.mono le) (F.mono le) S ?_ (by kernel_rfl) (by kernel_rfl) (by kernel_rfl) (by kernel_rfl) (by kernel_rfl) (by kernel_rfl) ?_
  · intro fd h1 h2 h3
    refine BindsTo.of_eq ?_
    unfold bindArgs
    rw [h1, h2]
    kernel_rfl
  clear S
  intro env Lf s I R S
  simp only [List.map_cons, List.map_nil, List.cons_append, List.nil_append] at S
  refine Subscript_ ?_
  walk_at "m name"
  refine eInt S fun tz s S => ?_
  obtain ⟨a', t', u', e, ht⟩ := hp.isTup S
  cases e
  refine item_tuple ht (by decide) (by decide) (j := 0) rfl rfl ?_
  exact h _ s S.drop

/-! the table of _find_lcas -/
def TabO (cd : Value) (B : Store) : OP := fun o => o = tabObj #[] ∨ ∃ q c1 c2, CodeRecS B cd q ∧ CodeRecS B (.ref c1) (q ++ ".<locals>." ++ "_has_candidates") ∧ CodeRecS B (.ref c2) (q ++ ".<locals>." ++ "<lambda>") ∧
  o = tabObj #[rawInt 30, rawInt 4, .ref c1, rawInt 89, rawInt 21, .ref c2]
theorem TabO.mono {o : Obj} (h : TabO cd B o) (l : Le B B') : TabO cd B' o := h.imp id fun ⟨q, c1, c2, a, b, c, e⟩ => ⟨q, c1, c2, a.mono l, b.mono l, c.mono l, e⟩
def Tab1 (cd : Value) (B : Store) : OP := fun o => ∃ q c1, CodeRecS B cd q ∧ CodeRecS B (.ref c1) (q ++ ".<locals>." ++ "_has_candidates") ∧ (o = tabObj #[rawInt 30, rawInt 4, .ref c1] ∨
  ∃ c2, CodeRecS B (.ref c2) (q ++ ".<locals>." ++ "<lambda>") ∧ o = tabObj #[rawInt 30, rawInt 4, .ref c1, rawInt 89, rawInt 21, .ref c2])
theorem Tab1.mono {o : Obj} (h : Tab1 cd B o) (l : Le B B') : Tab1 cd B' o := let ⟨q, c1, a, b, c⟩ := h; ⟨q, c1, a.mono l, b.mono l, c.imp id fun ⟨c2, x, y⟩ => ⟨c2, x.mono l, y⟩⟩
theorem SS.pick {P : OP} {a : Addr} (S : SS B G os ((a, P) :: L) s) : ∃ o, P o ∧ SS B G os ((a, Is o) :: L) s := by
  obtain ⟨o, ho, hp⟩ := S.led _ (.head _)
  refine ⟨o, hp, S.keep, fun p hm => ?_, fun p hm => ?_, S.nodup, S.gens, S.os⟩
  · rcases List.mem_cons.mp hm with rfl | hm
    · exact ⟨o, ho, rfl⟩
    · exact S.led p (.tail _ hm)
  · rcases List.mem_cons.mp hm with rfl | hm
    · exact S.new (a, P) (.head _)
    · exact S.new p (.tail _ hm)
theorem qual_in {name qn : Str} (I : EnvIs env sc Lf cl cd) (hq : env.qual = qn) (hk : sc.names.lookup name = some .local) : qualnameIn env name name = qn ++ name := by
  unfold qualnameIn
  rw [I.kind hk, hq]; rfl

def fnPos : Stmt → Pos | .FunctionDef _ _ _ _ _ _ _ _ _ p => p | _ => default
def lamPos : Expr → Pos | .Lambda _ _ _ p => p | _ => default
theorem hasMk {c : Addr} {qn : Str} {Q : Value → Shared → Prop} (hg : NsS B mainGlobals mg) (hb : BmainS mg B) (hC : CodeHdS B c P) (I : EnvIs env (fnSc sLcas) Lf [("_DNC", cD)] (.ref c)) (hq : CodeRecS B (.ref c) qn) (hqe : env.qual = qn ++ ".<locals>.")
    (S : SS B G os ((P, TabO (.ref c) B) :: L) s)
    (h : ∀ B' f cdH s', Le B B' → FnIs B' f (fnPs sHas) (fnBd sHas) (fnSc sHas) [("_DNC", cD)] .none cdH → SS B' G os ((P, Tab1 (.ref c) B') :: L) s' → Q (.ref f) s') :
    wpAny (model thePrg w) A (makeFunction "_has_candidates" (qualnameIn env "_has_candidates" "_has_candidates") (fnPs sHas) (.stmts (fnBd sHas)) (fnSc sHas) env [] [] [] (fnPos sHas) (fnPos sHas).line) Q E s := by
  rw [qual_in I hqe (by kernel_rfl)]
  obtain ⟨o, ho, S⟩ := S.pick
  rcases ho with rfl | ⟨q', c1, c2, h1, h2, h3, rfl⟩
  · refine nestW (clos := [("_DNC", cD)]) hg hb hC I S trivial rfl (by kernel_rfl) fun B' f c' s' le F hcr S => ?_
    refine h B' f _ s' le F (S.weak fun o h => ⟨qn, c', hq.mono le, hcr, .inl ?_⟩)
    rw [h]; kernel_rfl
  · have e := hq.inj h1
    subst e
    refine nestHitW (clos := [("_DNC", cD)]) hg hb hC I S ?_ (c' := c1) ?_ h2 (by kernel_rfl) fun B' f s' le F S => ?_
    · exact trivial
    · kernel_rfl
    · exact h B' f _ s' le F (S.weak fun o h => ⟨qn, c1, hq.mono le, h2.mono le, .inr ⟨c2, h3.mono le, h⟩⟩)
theorem lamMk {c : Addr} {qn : Str} {Q : Value → Shared → Prop} (hg : NsS B mainGlobals mg) (hb : BmainS mg B) (hC : CodeHdS B c P) (I : EnvIs env (fnSc sLcas) Lf [("_DNC", cD)] (.ref c)) (hq : CodeRecS B (.ref c) qn) (hqe : env.qual = qn ++ ".<locals>.")
    (S : SS B G os ((P, Tab1 (.ref c) B) :: L) s)
    (h : ∀ B' f cdH s', Le B B' → LamIs B' f (lamPs eLam) (lamBd eLam) (lamSc eLam) [] cdH → SS B' G os ((P, TabO (.ref c) B') :: L) s' → Q (.ref f) s') :
    wpAny (model thePrg w) A (eval eLam env) Q E s := by
  obtain ⟨o, ho, S⟩ := S.pick
  obtain ⟨q', c1, h1, h2, ho⟩ := ho
  have e := hq.inj h1
  subst e
  show wpAny _ _ (eval (.Lambda (lamPs eLam) (lamBd eLam) (lamSc eLam) (lamPos eLam)) env) _ _ _
  rcases ho with rfl | ⟨c2, h3, rfl⟩
  · refine lamW (clos := []) hg hb hC I S ?_ ?_ (by kernel_rfl) (by kernel_rfl) fun B' f c' s' le F hcr S => ?_
    · exact trivial
    · kernel_rfl
    · rw [hqe] at hcr
      refine h B' f _ s' le F (S.weak fun o h => .inr ⟨qn, c1, c', hq.mono le, h2.mono le, hcr, ?_⟩)
      rw [h]; kernel_rfl
  · refine lamHitW (clos := []) hg hb hC I S ?_ (c' := c2) ?_ (by rw [hqe]; exact h3) (by kernel_rfl) (by kernel_rfl) fun B' f s' le F S => ?_
    · exact trivial
    · kernel_rfl
    · exact h B' f _ s' le F (S.weak fun o h => .inr ⟨qn, c1, c2, hq.mono le, h2.mono le, h3.mono le, h⟩)

/-! a pair among pairs -/
theorem eqAt_bytes {a b : Array UInt8} {t u : Tok} : EqAt A s (.bytes a t) (.bytes b u) (decide (a.toList = b.toList)) := fun prog w E Q h => eqBool_bytes h
theorem eqAt_pair {va vb : Value} {k k' : Key} (hu : A.units < cLine) (S : SS B G os L s) (ha : ∃ l t u, va = .ref l ∧ s.heap.IsTuple l #[.int k.1 t, .bytes k.2.toArray u]) (hb : ∃ l t u, vb = .ref l ∧ s.heap.IsTuple l #[.int k'.1 t, .bytes k'.2.toArray u])
    (hne : va ≠ vb) (hk : k.2 ≠ k'.2) : EqAt A s va vb false := by
  obtain ⟨l, t, u, rfl, ha⟩ := ha
  obtain ⟨l', t', u', rfl, hb⟩ := hb
  have := RcAt.tuples (e := fun i => if i = 0 then (k.1 == k'.1) else decide (k.2 = k'.2)) ha hb hu (fun j h1 h2 => by
    have hj : j = 0 ∨ j = 1 := by simp at h1; omega
    rcases hj with rfl | rfl
    · exact EqAt.int_int _ _ _ _
    · simpa using eqAt_bytes (A := A.in1) (s := s) (a := k.2.toArray) (b := k'.2.toArray) (t := u) (u := u'))
  refine EqAt.of_refs (fun e => hne (by rw [e])) ?_
  have e : ((List.range (min (#[Value.int k.1 t, .bytes k.2.toArray u] : Array Value).size (#[Value.int k'.1 t', .bytes k'.2.toArray u'] : Array Value).size)).all (fun i => if i = 0 then (k.1 == k'.1) else decide (k.2 = k'.2)) && (#[Value.int k.1 t, .bytes k.2.toArray u] : Array Value).size == (#[Value.int k'.1 t', .bytes k'.2.toArray u'] : Array Value).size) = false := by
    simp [List.range_succ, hk]
  rw [e] at this
  exact this

def notDn (fl : Bs → Option Fl) (k : Key) : Bool := match fl k.2 with | some f => !f.dn | none => false

set_option maxHeartbeats 2000000 in
/-- for dt, cmt in cands -/
theorem forRes {fl : Bs → Option Fl} {cvs : List Value} {ks cs : List Key} {lr : Addr} {Q : Flow → Shared → Prop} (H : LC K C fInit fAdd fGet fIter fLcas fBase fFast mg mb w A env Lf cD cd g fp ft fh x q d v1 cdH B)
    {u0 u1 u2 u3 u4 u5 u6 u7 u8 u10 : Option Value}
    (S : SS B G os ((Lf, LocO [("lookup_parents", some (.ref fp)), ("c1", some v1), ("c2s", some (.ref l2)), ("lookup_stamp", some (.ref ft)), ("min_stamp", some vm), ("shallows", some .none), ("cands", some (.ref lc)), ("cstates", some (.ref d)),
      ("_ANC_OF_1", some (.int 1 ta)), ("_ANC_OF_2", some (.int 2 tb)), ("_LCA", some (.int 8 te)), ("_has_candidates", some (.ref fh)), ("wlst", some (.ref x)),
      ("c2", u0), ("cflags", u1), ("result", u2), ("dt", u3), ("cmt", u4), ("parents", u5), ("pcmt", u6), ("pflags", u7), ("pdt", u8), ("results", some (.ref lr)), ("lcas", u10)]) ::
      (lr, ListO []) :: (lc, ListO cvs) :: (d, DctO w g.U IntV (encf fl)) :: (cD, CellO (some (.int 4 td))) :: L) s)
    (hrc : Rel2 (IsPair B) cvs cs) (hi : Inv g g.par fl ks cs)
    (h : ∀ B' s' rvs u3 u4, Le B B' → SS B' G os ((Lf, LocO [("lookup_parents", some (.ref fp)), ("c1", some v1), ("c2s", some (.ref l2)), ("lookup_stamp", some (.ref ft)), ("min_stamp", some vm), ("shallows", some .none), ("cands", some (.ref lc)), ("cstates", some (.ref d)),
      ("_ANC_OF_1", some (.int 1 ta)), ("_ANC_OF_2", some (.int 2 tb)), ("_LCA", some (.int 8 te)), ("_has_candidates", some (.ref fh)), ("wlst", some (.ref x)),
      ("c2", u0), ("cflags", u1), ("result", u2), ("dt", u3), ("cmt", u4), ("parents", u5), ("pcmt", u6), ("pflags", u7), ("pdt", u8), ("results", some (.ref lr)), ("lcas", u10)]) ::
      (lr, ListO rvs) :: (lc, ListO cvs) :: (d, DctO w g.U IntV (encf fl)) :: (cD, CellO (some (.int 4 td))) :: L) s' → Rel2 (IsPair B') rvs (cs.filter (notDn fl)) → Q .next s') :
    W (model thePrg w) A (exec (lcasStmt 13) env) Q s := by
  have I := H.I
  refine forW ?_
  walk_at "m name"
  refine iter_list S (S.isList (.tail (.tail .head))) fun it s S => ?_
  intro Rr hR
  refine loopW (fun r s => ∃ B' rvs done rest u3 u4, Le B B' ∧ cs = done ++ rest ∧ r = rest.length ∧ Rel2 (IsPair B') rvs (done.filter (notDn fl)) ∧
    SS B' G os ((it, IterO lc done.length) :: (Lf, LocO [("lookup_parents", some (.ref fp)), ("c1", some v1), ("c2s", some (.ref l2)), ("lookup_stamp", some (.ref ft)), ("min_stamp", some vm), ("shallows", some .none), ("cands", some (.ref lc)), ("cstates", some (.ref d)),
      ("_ANC_OF_1", some (.int 1 ta)), ("_ANC_OF_2", some (.int 2 tb)), ("_LCA", some (.int 8 te)), ("_has_candidates", some (.ref fh)), ("wlst", some (.ref x)),
      ("c2", u0), ("cflags", u1), ("result", u2), ("dt", u3), ("cmt", u4), ("parents", u5), ("pcmt", u6), ("pflags", u7), ("pdt", u8), ("results", some (.ref lr)), ("lcas", u10)]) ::
      (lr, ListO rvs) :: (lc, ListO cvs) :: (d, DctO w g.U IntV (encf fl)) :: (cD, CellO (some (.int 4 td))) :: L) s) ?_ cs.length
    ⟨B, [], [], cs, u3, u4, Le.refl _, rfl, rfl, Rel2.nil, S⟩
  clear S
  rintro r s ⟨B', rvs, done, rest, u3, u4, le, hc, hm, hrr, S⟩
  have H' := H.mono le
  have hcl : cvs.length = cs.length := hrc.1
  have hnd := cands_length hi
  have hU := H.hU
  refine nextL H.R S (S.isList (.tail (.tail (.tail .head)))) ?_ ?_
  · intro v s hv hlt S
    obtain ⟨k, rest', rfl⟩ : ∃ k rest', rest = k :: rest' := by
      cases rest with
      | nil => rw [hcl, hc] at hlt; simp at hlt
      | cons c r => exact ⟨c, r, rfl⟩
    have hkc : k ∈ cs := by rw [hc]; simp
    have hp : IsPair B' v k := (hrc.2 done.length v k hv (by rw [hc]; simp)).mono le
    obtain ⟨-, f, hf, -⟩ := hi.cand k hkc
    have hc' : cs = (done ++ [k]) ++ rest' := by rw [hc]; simp
    have hrl : rest'.length < r := by rw [hm]; simp
    have hrlen : rvs.length ≤ 30 := by
      have h1 := hrr.1
      have h2 := List.length_filter_le (notDn fl) done
      have h3 : cs.length = done.length + (k :: rest').length := by rw [hc, List.length_append]
      simp at h3; omega
    dsimp only
    refine letGoI S .head ?_
    obtain ⟨tpa, tt1, tt2, rfl, ht⟩ := hp.isTup S
    refine unpack2 H.R S ht fun s S => ?_
    walk_at "m store"
    intro s S
    walk_at "m store"
    intro s S
    have S := S.front (a := it) (e := by walk_at "m sel")
    refine wpAny_execs_cons ?_
    refine wpAny_If ?_
    refine isTrue_and ?_
    refine isTrue_not ?_
    refine wpAny_isTrue_Compare1 ?_
    refine wpAny_BinOp ?_
    refine Subscript_ ?_
    walk_at "m name"
    walk_at "m name"
    obtain ⟨od, hod, hD⟩ := S.get (a := d) (e := by walk_at "m sel")
    refine dctSub S hod hD (k := k.2) ⟨_, rfl⟩ (b := f.enc) (by unfold encf; rw [hf]; rfl) fun z s hz S => ?_
    obtain ⟨tz, rfl⟩ := hz
    walk_at "m name"
    refine andS S fun t9 s S => ?_
    walk_at "m name"
    refine eq_int ?_
    refine wpAny_truthy_bool ?_
    rw [enc_dn]
    have hnd1 : notDn fl k = !f.dn := by unfold notDn; rw [hf]
    cases hdn : f.dn with
    | true =>
      rw [hdn] at hnd1
      refine wpAny_execs_nil ?_
      refine wpAny_execs_nil ?_
      refine ⟨rest'.length, hrl, B', rvs, done ++ [k], rest', _, _, le, hc', rfl, ?_, by rw [List.length_append, List.length_singleton]; exact S⟩
      rw [List.filter_append, List.filter_cons, hnd1]; simpa using hrr
    | false =>
      rw [hdn] at hnd1
      refine isTrue_and ?_
      refine wpAny_isTrue_Compare1 ?_
      refine eTuple ?_
      refine args_cons (he := rfl) ?_
      walk_at "m name"
      refine args_cons (he := rfl) ?_
      walk_at "m name"
      refine args_nil ?_
      refine newTuple_ S (by simp) fun tq s S => ?_
      walk_at "m name"
      have hin : ∀ y ∈ rvs, EqAt A.in1 s y (.ref tq) false := fun y hy => by
        obtain ⟨i, hi', rfl⟩ := List.mem_iff_getElem.mp hy
        have hlen := hrr.1
        have hpy := hrr.2 i _ _ (List.getElem?_eq_getElem hi') (List.getElem?_eq_getElem (by omega))
        obtain ⟨ly, ty1, ty2, ey, hty⟩ := hpy.isTup S
        obtain ⟨oq, hoq, h1, -, n1, h2⟩ := S.get .head
        refine eqAt_pair (k' := k) (Rm.units (n := 1) ((H.R.less (m := 2) (by omega)).in1)) S ⟨ly, ty1, ty2, ey, hty⟩ ⟨tq, _, _, rfl, oq, hoq, h1, n1, h2⟩ (fun e => ?_) fun e => ?_
        · obtain ⟨ly', oy, ny, ty1', ty2', ey', hby, -⟩ := hpy
          rw [ey'] at e
          cases e
          have := S.new _ (List.Mem.head _)
          rw [hby] at this; cases this
        · have hmem : (done.filter (notDn fl))[i]'(by omega) ∈ done := (List.mem_filter.mp (List.getElem_mem _)).1
          rw [hc, List.map_append] at hnd
          have := (List.nodup_append.mp hnd.1).2.2 _ (List.mem_map_of_mem hmem) _ (by rw [List.map_cons]; exact .head _)
          exact this e
      refine notIn_listAt (fun _ => false) (S.isList (a := lr) (by walk_at "m sel")) (fun y hy => hin y (by simpa using hy)) ?_
      have hany : (rvs.toArray.any fun _ => false) = false := by simp
      rw [hany]
      refine wpAny_truthy_bool ?_
      refine isTrue_and_nil ?_
      have S := S.drop
      refine wpAny_execs_cons ?_
      refine wpAny_Expr (hi := I.ni) ?_
      refine MethodCall_ ?_
      walk_at "m name"
      refine lAppM S (l := lr) (e := by walk_at "m sel") ?_
      refine callWith_method1 (he := rfl) (hplain := rfl) ?_
      refine args_cons (he := rfl) ?_
      refine eTuple ?_
      refine args_cons (he := rfl) ?_
      walk_at "m name"
      refine args_cons (he := rfl) ?_
      walk_at "m name"
      refine args_nil ?_
      refine newTuple_ S (by simp) fun tp s S => ?_
      refine args_nil ?_
      obtain ⟨B4, o, le4, ⟨hcl', hdd, n0, hdat⟩, hB, S⟩ := S.freeze
      have hp4 : IsPair B4 (.ref tp) k := ⟨tp, o, n0, _, _, rfl, hB, hcl', hdd, hdat⟩
      have S := S.front (a := lr) (e := by walk_at "m sel")
      refine lApp S (by omega) fun s S => ?_
      refine wpAny_execs_nil ?_
      refine wpAny_execs_nil ?_
      have S := S.front (a := Lf) (e := by walk_at "m sel")
      have S := S.front (a := it) (e := by walk_at "m sel")
      refine ⟨rest'.length, hrl, B4, _, done ++ [k], rest', _, _, le.trans le4, hc', rfl, ?_, by rw [List.length_append, List.length_singleton]; exact S⟩
      rw [List.filter_append, List.filter_cons, hnd1]
      simpa using (hrr.mono fun _ _ p => p.mono le4).append (Rel2.cons hp4 .nil)
  · intro s hlt S
    have hr0 : rest = [] := by
      have : cs.length = done.length + rest.length := by rw [hc]; simp
      exact List.length_eq_zero_iff.mp (by omega)
    subst hr0
    rw [List.append_nil] at hc
    refine wpAny_execs_nil (hR _ _ ?_)
    rw [← hc] at hrr
    exact h B' s rvs u3 u4 le S hrr
end
end Mine

end
section
open PySem PySem.W PySem.Calls PySem.SeqAt PyProof.Rows Builtin
set_option Elab.async false
set_option maxRecDepth 100000
set_option linter.unusedVariables false
namespace Mine
local macro_rules | `(tactic| walk_at "m sel") => `(tactic| first | with_reducible apply Sel.head | (apply Sel.tail; walk_at "m sel"))
local macro_rules | `(tactic| walk_at "m lget") => `(tactic| first | with_reducible apply LGet.head | (apply LGet.tail; walk_at "m lget"))
local macro_rules | `(tactic| walk_at "m lset") => `(tactic| first | with_reducible apply LSet.head | (apply LSet.tail; walk_at "m lset"))
local macro_rules | `(tactic| walk_at "m mg") => `(tactic| first | exact Top0.gPush (by assumption) | exact Top0.gPop (by assumption) | exact Top0.gWL (by assumption) | exact Top0.gLcas (by assumption) | exact Top0.gBase (by assumption) | exact Top0.gFast (by assumption))
local macro_rules | `(tactic| walk_at "m name") => `(tactic| first
  | (refine' nmL (by assumption) (by assumption) ?hx ?hd ?he ?hg ?_; (case hx => kernel_rfl); (case hd => kernel_rfl); (case he => walk_at "m sel"); (case hg => walk_at "m lget"))
  | (refine' nmC (by assumption) (by assumption) ?hx ?hd ?hc ?he ?_; (case hx => decide +kernel); (case hd => kernel_rfl); (case hc => rfl); (case he => walk_at "m sel"))
  | (refine' nmF (by assumption) (by assumption) ?hx ?hd ?hd2 ?hc ?he ?_; (case hx => decide +kernel); (case hd => kernel_rfl); (case hd2 => kernel_rfl); (case hc => rfl); (case he => walk_at "m sel"))
  | (refine' nmG (by assumption) (by assumption) (Top0.glob (by assumption)) ?hx ?hd ?hv ?_; (case hx => kernel_rfl); (case hd => kernel_rfl); (case hv => walk_at "m mg")))
local macro_rules | `(tactic| walk_at "m store") => `(tactic| first
  | (refine' stL (by assumption) (by assumption) ?hx ?he ?hg ?_; (case hx => kernel_rfl); (case he => walk_at "m sel"); (case hg => walk_at "m lset"))
  | (refine' stC (by assumption) (by assumption) ?hx ?hc ?he ?_; (case hx => kernel_rfl); (case hc => rfl); (case he => walk_at "m sel")))
section
variable {K : Frag} {C fInit fAdd fGet fIter fLcas fBase fFast : Addr} {mg mb : Str → Option Value} {B B' : Store}
variable {w : World} {A : Around} {E : Value → Shared → Prop} {G : Array GenState} {os : OsState} {L L' : Led} {s : Shared} {env : Env} {sc : Scope} {Lf : Addr} {cl : List (Str × Addr)} {cd : Value} {n : Nat} {x q : Addr}
variable {g : Gr} {fp ft fh d lc cD l2 P : Addr} {v1 cdH vm : Value} {ta tb te td : Tok}

theorem nodupMap {α β : Type} {f : α → β} {l : List α} (h : (l.map f).Nodup) : l.Nodup := by
  rw [List.nodup_iff_pairwise_ne] at *
  exact (List.pairwise_map.mp h).imp fun h e => h (congrArg _ e)
/-- what the search gives -/
def ResOk (g : Gr) (res : List Bs) : Prop := ∃ ks : List Key, res = ks.map (·.2) ∧ (∀ k ∈ ks, k.1 = g.tm k.2) ∧ ks.Pairwise (fun x y => kLt x y = true) ∧ ∀ x, x ∈ res ↔ g.Great x

theorem resOk {fl : Bs → Option Fl} {ks cs rs : List Key} (o : g.Ok) (hi : Inv g g.par fl ks cs) (hend : ∀ k ∈ ks, ∀ f, fl k.2 = some f → f.dn = true) (hp : rs.Perm (cs.filter (notDn fl)))
    (hs : rs.Pairwise fun x y => x.1 < y.1 ∨ (x.1 = y.1 ∧ kLt (-x.1, x.2) (-y.1, y.2) = true)) : ResOk g (rs.map (·.2)) := by
  have mem : ∀ k, k ∈ rs ↔ k ∈ cs ∧ notDn fl k = true := fun k => by rw [hp.mem_iff, List.mem_filter]
  refine ⟨rs, rfl, fun k hk => (hi.cand k ((mem k).mp hk).1).1, hs.imp fun {x y} h => ?_, fun x => ?_⟩
  · rw [kLt_iff]
    rcases h with h | ⟨h1, h2⟩
    · exact .inl h
    · rw [kLt_iff] at h2
      simp only at h2
      rcases h2 with h2 | h2
      · omega
      · exact .inr ⟨h1, h2.2⟩
  · rw [← hi.great o hend x]
    constructor
    · intro hx
      obtain ⟨k, hk, rfl⟩ := List.mem_map.mp hx
      obtain ⟨hkc, hkn⟩ := (mem k).mp hk
      obtain ⟨-, f, hf, hl⟩ := hi.cand k hkc
      refine ⟨f, hf, hl, ?_⟩
      unfold notDn at hkn
      rw [hf] at hkn
      simpa using hkn
    · rintro ⟨f, hf, hl, hd⟩
      refine List.mem_map.mpr ⟨(g.tm x, x), (mem _).mpr ⟨hi.candAll x f hf hl, ?_⟩, rfl⟩
      unfold notDn
      rw [show ((g.tm x, x) : Key).2 = x from rfl, hf]
      simp [hd]

theorem swapsT {t : Str} {tp pos : Pos} {elt : Expr} {gens : List Comprehension} {scope : Scope} {line : Nat} (I : EnvIs env sc Lf cl cd)
    (h : (sc.names.lookup t == some .local && tp.line == (Expr.ListComp elt gens scope pos).pos.line && !(scope.names.any fun (n, k) => n == t && (k == .local || k == .cell))) = true) :
    swapsWith (.ListComp elt gens scope pos) (some (.Name t tp)) line env = pure true := by
  show (pure (env.blockKind == .function && env.kindOf t == some .local && tp.line == (Expr.ListComp elt gens scope pos).pos.line && !(scope.names.any fun (n, k) => n == t && (k == .local || k == .cell))) : Sem Bool) = _
  have e1 : (env.blockKind == .function) = true := by unfold Env.blockKind; rw [I.fk]; rfl
  have e2 : env.kindOf t = sc.names.lookup t := by unfold Env.kindOf; rw [I.scope]
  rw [e1, e2, Bool.true_and, h]

def asgV : Stmt → Expr | .Assign _ v _ => v | _ => default
def lcSc : Expr → Scope | .ListComp _ _ s _ => s | _ => default
/-- [y for x, y in l] -/
theorem compSnd {x y : Str} {p1 p2 p3 p4 pos : Pos} {kk : Nat} {iter : Expr} {scope : Scope} {it lr D Cc : Addr} {rvs : List Value} {ks : List Key} {u0 u1 u2 : Option Value} {Rr : Result → Shared → Prop} (R : Rm A n) (I : EnvIs env sc Cc cl cd)
    (hx : sc.names.lookup x = some .local) (hy : sc.names.lookup y = some .local) (hyd : (y == ("__debug__" : Str)) = false) (hr : Rel2 (IsPair B) rvs ks) (hz : ks.length ≤ 100)
    (S : SS B G os ((it, IterO lr 0) :: (Cc, LocO [(".0", u0), (x, u1), (y, u2)]) :: (D, ListO []) :: (lr, ListO rvs) :: L) s)
    (h : ∀ s' out l, SS B G os ((Cc, LocO l) :: (D, ListO out) :: (lr, ListO rvs) :: L) s' → BytL out (ks.map (·.2)) → Rr (.ok .next) s') :
    codeAny (model thePrg w) A (.compLoop (.ListComp (.Name y p1) [⟨.Tuple [.Name x p2, .Name y p3] kk p4, iter, [], 0⟩] scope pos) 0 (.ref it) (.ref D) env) Rr s := by
  refine cloop1 (fun m s => ∃ done rest out u1 u2, ks = done ++ rest ∧ m = rest.length ∧ BytL out (done.map (·.2)) ∧ SS B G os ((it, IterO lr done.length) :: (Cc, LocO [(".0", u0), (x, u1), (y, u2)]) :: (D, ListO out) :: (lr, ListO rvs) :: L) s) ?_ ks.length
    ⟨[], ks, [], u1, u2, rfl, rfl, Rel2.nil, S⟩
  clear S
  rintro m s ⟨done, rest, out, u1, u2, hc, hm, ho, S⟩
  have hcl : rvs.length = ks.length := hr.1
  have hol : out.length = done.length := by have := ho.1; simpa using this
  refine nextL R S (S.isList (.tail (.tail (.tail .head)))) ?_ ?_
  · intro v s hv hlt S
    obtain ⟨k, rest', rfl⟩ : ∃ k rest', rest = k :: rest' := by
      cases rest with
      | nil => rw [hcl, hc] at hlt; simp at hlt
      | cons c r => exact ⟨c, r, rfl⟩
    have hp := hr.2 done.length v k hv (by rw [hc]; simp)
    have hdl : done.length ≤ 100 := by rw [hc, List.length_append] at hz; omega
    dsimp only
    refine letGoI S .head ?_
    obtain ⟨tpa, tt1, tt2, rfl, ht⟩ := hp.isTup S
    refine unpack2 R S ht fun s S => ?_
    refine stL I S hx (.tail .head) (.tail .head) fun s S => ?_
    refine stL I S hy .head (.tail (.tail .head)) fun s S => ?_
    refine wpAny_tests_nil ?_
    refine nmL I S hy hyd .head (.tail (.tail .head)) ?_
    have S := S.front (a := D) (e := .tail (.tail .head))
    refine lApp S (by omega) fun s S => ?_
    have S := (S.front (a := Cc) (e := .tail .head)).front (a := it) (e := .tail (.tail .head))
    refine ⟨rest'.length, by rw [hm]; simp, done ++ [k], rest', _, _, _, by rw [hc]; simp, rfl, ?_, by rw [List.length_append, List.length_singleton]; exact S⟩
    rw [List.map_append]
    exact ho.append (Rel2.cons ⟨_, rfl⟩ .nil)
  · intro s hlt S'
    have hr0 : rest = [] := by
      have : ks.length = done.length + rest.length := by rw [hc]; simp
      exact List.length_eq_zero_iff.mp (by omega)
    subst hr0
    rw [List.append_nil] at hc
    rw [← hc] at ho
    exact h s out _ S' ho

set_option maxHeartbeats 4000000 in
theorem lcas_spec {c : Addr} {dV : Value} {args : Args} {vs2 : List Value} {Q : Value → Shared → Prop} (T : Top0 K C fInit fAdd fGet fIter fLcas fBase fFast mg mb B) (hb : BmainS mg B) (hC : CodeHdS B c P)
    (F : FnIs B fLcas (fnPs sLcas) (fnBd sLcas) (fnSc sLcas) [] dV (.ref c)) (R : Rm A 20) (hG : AllBare G) (o : g.Ok) (hU : g.U.length ≤ 30) (hpar : ∀ x ∈ g.U, (g.par x).length ≤ 30) (hz2 : g.c2s.length ≤ 30)
    (LP : LkP w B g.U g.par fp) (LT : LkT w B g.U g.tm ft) (hc1 : BytV g.c1 v1) (hvm : IntV g.mn vm) (hl2 : KList B l2 vs2) (hb2 : BytL vs2 g.c2s)
    (hbind : ∀ fd : FuncData, fd.params = fnPs sLcas → fd.defaults = dV → fd.kwdefaults = .none → BindsTo s fd args [("lookup_parents", .ref fp), ("c1", v1), ("c2s", .ref l2), ("lookup_stamp", .ref ft), ("min_stamp", vm), ("shallows", .none)])
    (S : SS B G os ((P, TabO (.ref c) B) :: L) s)
    (h : ∀ B' G' s' a vs res, Le B B' → AllBare G' → SS B' G' os ((a, ListO vs) :: (P, TabO (.ref c) B') :: L) s' → BytL vs res → ResOk g res → Q (.ref a) s') :
    W (model thePrg w) A (call (.ref fLcas) args.pos args.kw) Q s := by
  refine wpAny_call ?_
  refine callFcc (n := 19) (binds := [("lookup_parents", .ref fp), ("c1", v1), ("c2s", .ref l2), ("lookup_stamp", .ref ft), ("min_stamp", vm), ("shallows", .none)])
    (rest := ["cands", "cstates", "_ANC_OF_1", "_ANC_OF_2", "_LCA", "_has_candidates", "wlst", "c2", "cflags", "result", "dt", "cmt", "parents", "pcmt", "pflags", "pdt", "results", "lcas"])
    (cs := fun m => [("_DNC", m)]) R T.lim F S hbind (fun m => by kernel_rfl) (fun m => by simp) (by kernel_rfl) (by kernel_rfl) (by kernel_rfl) (by kernel_rfl) (by kernel_rfl) ?_
  clear S hbind
  intro env Lf s I hq R S
  obtain ⟨qn, hqr, hqe⟩ := hq
  simp only [List.map_cons, List.map_nil, List.cons_append, List.nil_append] at S
  generalize Lf + 1 = cD at S I
  refine wpAny_execs_cons ?_
  refine wpAny_Assign_Name ?_
  refine eList ?_
  refine args_nil ?_
  refine newList_ S (by simp) fun lc s S => ?_
  walk_at "m store"
  intro s S
  refine wpAny_execs_cons ?_
  refine wpAny_Assign_Name ?_
  refine eDct (w := w) (U := g.U) (R := IntV) T.glob S fun d s hds S => ?_
  walk_at "m store"
  intro s S
  refine wpAny_execs_cons ?_
  refine wpAny_Assign_Name ?_
  refine eInt S fun ta s S => ?_
  walk_at "m store"
  intro s S
  refine wpAny_execs_cons ?_
  refine wpAny_Assign_Name ?_
  refine eInt S fun tb s S => ?_
  walk_at "m store"
  intro s S
  refine wpAny_execs_cons ?_
  refine wpAny_Assign_Name ?_
  refine eInt S fun td s S => ?_
  walk_at "m store"
  intro s S
  refine wpAny_execs_cons ?_
  refine wpAny_Assign_Name ?_
  refine eInt S fun te s S => ?_
  walk_at "m store"
  intro s S
  refine wpAny_execs_cons ?_
  refine nestDef_K (by kernel_rfl) (by kernel_rfl) (by kernel_rfl) ?_
  have S := S.front (a := P) (e := by walk_at "m sel")
  refine hasMk T.glob hb hC I hqr hqe S fun B1 fh cdH s le1 FH S => ?_
  walk_at "m store"
  intro s S
  have T1 := T.mono le1
  refine wpAny_execs_cons ?_
  refine wpAny_Assign_Name ?_
  refine PyProof.Rows.Call_ ?_
  walk_at "m name"
  refine callWith_of rfl (keeps_K T1.keepC) (evalArgs_nil3 ⟨T1.at S, ?_⟩)
  refine W.up (wl_make T1 (R.less (by omega)) S fun B2 x q s le2 hw S => ?_)
  have T2 := T1.mono le2
  have le12 := le1.trans le2
  walk_at "m store"
  intro s S
  have H : LC K C fInit fAdd fGet fIter fLcas fBase fFast mg mb w (A.deeper env) env Lf cD (.ref c) g fp ft fh x q d v1 cdH B2 :=
    { T := T2, R := R.less (by omega), I := I, LP := LP.mono le12, LT := LT.mono le12, ok := o, hU := hU, hpar := hpar, wl := hw, ds := hds, v1 := hc1, has := FH.mono le2 }
  refine wpAny_execs_cons ?_
  refine wpAny_Assign_Subscript ?_
  walk_at "m name"
  walk_at "m name"
  walk_at "m name"
  have S := S.front (a := d) (e := by walk_at "m sel")
  refine dctSet S hc1 o.c1 (by omega) (b := (1 : Int)) ⟨_, rfl⟩ fun s S => ?_
  refine wpAny_execs_cons ?_
  refine tryW ?_
  refine wpAny_execs_cons ?_
  refine wpAny_Expr (hi := I.ni) ?_
  refine MethodCall_ ?_
  walk_at "m name"
  refine wl_method T2 S hw T2.mAdd T2.mAddT rfl ?_
  obtain ⟨cdA, FA⟩ := T2.fnAdd
  refine callWith_F (FA.at S) ?_ (he := rfl) (hplain := rfl)
  refine args_cons (he := rfl) ?_
  refine eTuple ?_
  refine args_cons (he := rfl) ?_
  refine PyProof.Rows.Call_ ?_
  walk_at "m name"
  refine callWith_F (fnAtOf H.LT.fn S) ?_ (he := rfl) (hplain := rfl)
  refine args_cons (he := rfl) ?_
  walk_at "m name"
  refine args_nil ?_
  refine ⟨fnAtOf H.LT.fn S, ?_⟩
  refine W.up (H.LT.call _ B2 G os _ s v1 g.c1 _ (R.less (by omega)) (Le.refl _) hc1 o.c1 S fun tc s S => ?_)
  refine args_cons (he := rfl) ?_
  walk_at "m name"
  refine args_nil ?_
  refine newTuple_ S (by simp) fun tp s S => ?_
  refine args_nil ?_
  refine ⟨FA.at S, ?_⟩
  obtain ⟨tcv, e1⟩ := id hc1
  obtain ⟨B3, o3, le3, ⟨hcl, hdd, n0, hdat⟩, hB, S⟩ := S.freeze
  have hp : IsPair B3 (.ref tp) (g.tm g.c1, g.c1) := ⟨tp, o3, n0, tc, tcv, rfl, hB, hcl, hdd, by rw [hdat, e1]⟩
  have S := S.front (a := q) (e := by walk_at "m sel")
  have H3 := H.mono le3
  refine W.up (add_spec H3.T (R.less (by omega)) S H3.wl Rel2.nil hp (by simp) (fun i h0 h1 => absurd h1 (by simp)) fun B4 s vs ks le4 S hr hh pm => ?_)
  have H4 := H3.mono le4
  have le24 := le3.trans le4
  have le04 := le12.trans le24
  have hks : ks = [(-g.tm g.c1, g.c1)] := by simpa using pm
  refine wpAny_execs_nil ?_
  refine wpAny_execs_cons ?_
  have S := S.front (a := P) (e := by walk_at "m sel")
  have S := S.weak (P' := Tab1 (.ref c) B4) fun o h => h.mono (le2.trans le24)
  have S := S.front (a := lc) (e := by walk_at "m sel")
  have S := S.front (a := cD) (e := by walk_at "m sel")
  have S := S.front (a := d) (e := by walk_at "m sel")
  have S := S.front (a := Lf) (e := by walk_at "m sel")
  have S := S.weak (P' := LcF (.ref fp) v1 (.ref l2) (.ref ft) vm lc d fh x ta tb te) fun o h => ⟨_, _, _, _, _, _, _, _, _, _, _, h⟩
  have S := S.front (a := q) (e := by walk_at "m sel")
  have efl : (fun y => if y = g.c1 then some (1 : Int) else none) = encf (upd (fun _ => none) g.c1 ⟨true, false, false, false⟩) := by
    funext y; unfold encf upd; split <;> rfl
  rw [efl] at S
  refine forC2 H4 (hl2.mono le04) hb2 hz2 S hr hh (by rw [hks]; exact Ini.start o) (by rw [hks]; rfl) fun B5 s fl vs ks le5 S hr hh hini hkl => ?_
  have H5 := H4.mono le5
  have S := S.front (a := lc) (e := by walk_at "m sel")
  have S := S.front (a := cD) (e := by walk_at "m sel")
  have S := S.front (a := d) (e := by walk_at "m sel")
  have S := S.front (a := Lf) (e := by walk_at "m sel")
  have S := S.front (a := q) (e := by walk_at "m sel")
  refine wpAny_execs_cons ?_
  have hmub := mu_bound g.U fl
  refine whLcas H5 hvm hG S hr hh hini.inv (by omega) fun B6 G6 s fl vs ks cvs cs le6 hG6 S hrc hi hend => ?_
  have H6 := H5.mono le6
  obtain ⟨u0, u1, u2, u3, u4, u5, u6, u7, u8, u9, u10, S⟩ := LcF.open (S.drop)
  refine wpAny_execs_cons ?_
  refine wpAny_Assign_Name ?_
  refine eList ?_
  refine args_nil ?_
  refine newList_ S (by simp) fun lr s S => ?_
  walk_at "m store"
  intro s S
  refine wpAny_execs_cons ?_
  have S := S.front (a := d) (e := by walk_at "m sel")
  have S := S.front (a := lc) (e := by walk_at "m sel")
  have S := S.front (a := lr) (e := by walk_at "m sel")
  have S := S.front (a := Lf) (e := by walk_at "m sel")
  refine forRes H6 S hrc hi fun B7 s rvs u3 u4 le7 S hrr => ?_
  have H7 := H6.mono le7
  have le17 : Le B1 B7 := le2.trans (le24.trans (le5.trans (le6.trans le7)))
  have le07 := le1.trans le17
  refine wpAny_execs_cons ?_
  refine wpAny_Expr (hi := I.ni) ?_
  refine methodCall_KW ?_
  walk_at "m name"
  obtain ⟨olr, holr, hlrc, hlrd, nlr, hlrD⟩ := S.get (a := lr) (e := by walk_at "m sel")
  refine getMethod_list_of slot_list_sort PySem.F.type_list_sort ⟨olr, holr, hlrc, nlr, hlrD⟩ ⟨olr, holr, hlrd⟩ ?_
  refine callWith_builtin_kwB (by rfl) (by rfl) ?_
  refine evalArgs_kw2_nil (by rfl) ?_
  refine kwAll_cons ?_
  have S := S.front (a := P) (e := by walk_at "m sel")
  have S := S.weak (P' := Tab1 (.ref c) B7) fun o h => h.mono (le5.trans (le6.trans le7))
  refine lamMk (H7.T.glob) (hb.mono le07) (hC.mono le07) I (hqr.mono le07) hqe S fun B8 fl' cdL s le8 FL S => ?_
  refine kwAll_nil ?_
  have H8 := H7.mono le8
  have S := S.front (a := lr) (e := by walk_at "m sel")
  have hfl := hi.sorted.filter (notDn fl)
  have hfn : (cs.filter (notDn fl)).Nodup := (nodupMap (cands_length hi).1).filter _
  have hfz : (cs.filter (notDn fl)).length ≤ 30 := Nat.le_trans (List.length_filter_le _ _) (Nat.le_trans (cands_length hi).2 hU)
  refine W.up (sort_key (n := 0) (R.less (by omega)) (firstFn H8.T.lim FL) S (hrr.mono fun _ _ p => p.mono le8) hfn (by omega) hfl fun s rvs ks' S hr' pm hsort => ?_)
  have hres := resOk o hi hend pm hsort
  refine wpAny_execs_cons ?_
  have hkl : ks'.length ≤ 30 := by rw [pm.length_eq]; exact hfz
  have hrl : rvs.length = ks'.length := hr'.1
  refine lcompUse (os := os) (x := "lcas") (clos := []) [".0", "dt", "cmt"] I rfl rfl (swapsT I (by kernel_rfl)) (fun _ => rfl) (by kernel_rfl) (by kernel_rfl) (by kernel_rfl) (by kernel_rfl) (by kernel_rfl) ?_
  walk_at "m name"
  refine iter_list S (S.isList (a := lr) (by walk_at "m sel")) fun it s S => ?_
  refine ⟨B8, G6, _, S, ?_⟩
  intro D Cc s S
  have I2 := compEnvIs (scope := lcSc (asgV (lcasStmt 15))) (C := Cc) (clos := []) I (by kernel_rfl)
  refine cstartL S (e := by walk_at "m sel") fun s S => ?_
  have S := S.front (a := lr) (e := by walk_at "m sel")
  have S := S.front (a := D) (e := by walk_at "m sel")
  have S := S.front (a := Cc) (e := by walk_at "m sel")
  have S := S.front (a := it) (e := by walk_at "m sel")
  refine compSnd (n := 0) (R.less (by omega)) I2 (by kernel_rfl) (by kernel_rfl) (by kernel_rfl) hr' (by omega) S fun s out l S hout => ?_
  dsimp only
  walk_at "m store"
  intro s S
  have S := S.front (a := Cc) (e := by walk_at "m sel")
  refine ⟨B8, G6, l, _, S, fun s S => ?_⟩
  refine wpAny_execs_cons ?_
  refine wpAny_Return_some ?_
  walk_at "m name"
  have S := ((S.front (a := P) (e := by walk_at "m sel")).front (a := D) (e := by walk_at "m sel"))
  have S := S.dropAt (a := Lf) (e := by walk_at "m sel")
  have S := S.dropAt (a := lr) (e := by walk_at "m sel")
  have S := S.dropAt (a := lc) (e := by walk_at "m sel")
  have S := S.dropAt (a := d) (e := by walk_at "m sel")
  have S := S.dropAt (a := cD) (e := by walk_at "m sel")
  exact h B8 G6 s D out _ (le07.trans le8) hG6 S hout hres
end
end Mine

end
section
open PySem PySem.W PySem.Calls PySem.SeqAt PyProof.Rows Builtin
set_option Elab.async false
set_option maxRecDepth 100000
set_option linter.unusedVariables false
namespace Mine
local macro_rules | `(tactic| walk_at "m sel") => `(tactic| first | with_reducible apply Sel.head | (apply Sel.tail; walk_at "m sel"))
local macro_rules | `(tactic| walk_at "m lget") => `(tactic| first | with_reducible apply LGet.head | (apply LGet.tail; walk_at "m lget"))
local macro_rules | `(tactic| walk_at "m lset") => `(tactic| first | with_reducible apply LSet.head | (apply LSet.tail; walk_at "m lset"))
local macro_rules | `(tactic| walk_at "m mg") => `(tactic| first | exact Top0.gPush (by assumption) | exact Top0.gPop (by assumption) | exact Top0.gWL (by assumption) | exact Top0.gLcas (by assumption) | exact Top0.gBase (by assumption) | exact Top0.gFast (by assumption))
local macro_rules | `(tactic| walk_at "m name") => `(tactic| first
  | (refine' nmL (by assumption) (by assumption) ?hx ?hd ?he ?hg ?_; (case hx => kernel_rfl); (case hd => kernel_rfl); (case he => walk_at "m sel"); (case hg => walk_at "m lget"))
  | (refine' nmC (by assumption) (by assumption) ?hx ?hd ?hc ?he ?_; (case hx => decide +kernel); (case hd => kernel_rfl); (case hc => rfl); (case he => walk_at "m sel"))
  | (refine' nmF (by assumption) (by assumption) ?hx ?hd ?hd2 ?hc ?he ?_; (case hx => decide +kernel); (case hd => kernel_rfl); (case hd2 => kernel_rfl); (case hc => rfl); (case he => walk_at "m sel"))
  | (refine' nmG (by assumption) (by assumption) (Top0.glob (by assumption)) ?hx ?hd ?hv ?_; (case hx => kernel_rfl); (case hd => kernel_rfl); (case hv => walk_at "m mg")))
local macro_rules | `(tactic| walk_at "m store") => `(tactic| first
  | (refine' stL (by assumption) (by assumption) ?hx ?he ?hg ?_; (case hx => kernel_rfl); (case he => walk_at "m sel"); (case hg => walk_at "m lset"))
  | (refine' stC (by assumption) (by assumption) ?hx ?hc ?he ?_; (case hx => kernel_rfl); (case hc => rfl); (case he => walk_at "m sel")))
/-- the built-in names that are read -/
structure TopB (mg mb : Str → Option Value) : Prop where
  len : mg "len" = none ∧ mb "len" = some (.builtin "len")
  list : mg "list" = none ∧ mb "list" = some (.type "list")
  range : mg "range" = none ∧ mb "range" = some (.type "range")
  max : mg "max" = none ∧ mb "max" = some (.builtin "max")
  set : mg "set" = none ∧ mb "set" = some (.type "set")
  sorted : mg "sorted" = none ∧ mb "sorted" = some (.builtin "sorted")
  bytes : mg "bytes" = none ∧ mb "bytes" = some (.type "bytes")
section
variable {K : Frag} {C fInit fAdd fGet fIter fLcas fBase fFast : Addr} {mg mb : Str → Option Value} {B B' : Store}
variable {w : World} {A : Around} {E : Value → Shared → Prop} {G : Array GenState} {os : OsState} {L L' : Led} {s : Shared} {env : Env} {sc : Scope} {Lf : Addr} {cl : List (Str × Addr)} {cd : Value} {n : Nat} {x q : Addr}
variable {g : Gr} {fp ft fh d lc cD l2 P : Addr} {v1 cdH vm : Value} {ta tb te td : Tok}

theorem sliceW {value : Expr} {lower upper : Option Expr} {p pos : Pos} {Q : Value → Shared → Prop}
    (h : W (model thePrg w) A (eval value env) (fun o s₁ => W (model thePrg w) A (evalPart lower env) (fun vl s₂ => W (model thePrg w) A (evalPart upper env) (fun vu s₃ =>
      ∃ B G os L l vs lo hi, o = .ref l ∧ SS B G os L s₃ ∧ s₃.heap.IsList l (List.toArray vs) ∧ vs.length ≤ 1000 ∧ IsPart vl lo ∧ IsPart vu hi ∧ ∀ D s', SS B G os ((D, ListO (slicePick vs.toArray lo hi none).toList) :: L) s' → Q (.ref D) s') s₂) s₁) s)
    (ht : ∀ o r, letTemporaryGo value o r = pure () := by intro _ _; rfl) :
    W (model thePrg w) A (eval (.Subscript value (.Slice lower upper none p) pos) env) Q s := by
  refine wpAny_Subscript_list_slice (wpAny_mono h (fun o s₁ h₁ => wpAny_mono h₁ (fun vl s₂ h₂ => wpAny_mono h₂ (fun vu s₃ h₃ => ?_) fun _ _ e => e) fun _ _ e => e) fun _ _ e => e) ht
  obtain ⟨B, G, os, L, l, vs, lo, hi, rfl, S, hl, hz, p1, p2, hQ⟩ := h₃
  refine ⟨l, _, lo, hi, rfl, hl, by simp [sizeLine]; omega, p1, p2, ?_⟩
  have S1 := S.push (s' := { s₃ with heap := s₃.heap.push { cls := .type "slice", data := .fields #[vl, vu, .none] } }) { cls := .type "slice", data := .fields #[vl, vu, .none] } (P := fun _ => True) trivial
  have S2 := S1.drop.push (s' := { s₃ with heap := (s₃.heap.push { cls := .type "slice", data := .fields #[vl, vu, .none] }).push { cls := .type "list", data := .seq (slicePick vs.toArray lo hi none) } }) { cls := .type "list", data := .seq (slicePick vs.toArray lo hi none) } (P := ListO (slicePick vs.toArray lo hi none).toList) ⟨rfl, rfl, 0, by simp⟩
  have e : (s₃.heap.push { cls := .type "slice", data := .fields #[vl, vu, .none] }).objs.size = s₃.heap.objs.size + 1 := Heap.size_push ..
  dsimp only at S2
  rw [e] at S2
  exact hQ _ _ S2

theorem listOf {l : Addr} {vs : List Value} {Q : Value → Shared → Prop} (S : SS B G os L s) (hl : s.heap.IsList l vs.toArray) (hz : vs.length ≤ 1000) (h : ∀ D s', SS B G os ((D, ListO vs) :: L) s' → Q (.ref D) s') :
    wpAny (model thePrg w) A (call (.type "list") [.ref l]) Q E s := by
  obtain ⟨o, ho, hc, n, hd⟩ := hl
  refine call_list_seq l (.inl rfl) ho hc hd (fun h' c' hk hD => h _ _ ?_) (by simp [sizeLine]; omega)
  exact S.add (s' := { s with heap := h' }) hk (Heap.get?_none_of_le (Nat.le_refl _)) hD ⟨rfl, rfl, c', rfl⟩

theorem BytL.inAt {vs : List Value} {bs : List Bs} (h : BytL vs bs) {b : Bs} {v : Value} (hb : BytV b v) : ∃ e : Value → Bool, (∀ y ∈ vs, EqAt A s y v (e y)) ∧ vs.any e = decide (b ∈ bs) := by
  refine ⟨fun y => match y with | .bytes a _ => decide (a.toList = b) | _ => false, fun y hy => ?_, ?_⟩
  · obtain ⟨i, hi, rfl⟩ := List.mem_iff_getElem.mp hy
    have hl := h.1
    obtain ⟨t, ht⟩ := h.2 i _ _ (List.getElem?_eq_getElem hi) (List.getElem?_eq_getElem (by omega))
    obtain ⟨u, rfl⟩ := hb
    rw [ht]
    exact eqAt_bytes
  · induction vs generalizing bs with
    | nil =>
      have : bs = [] := by have := h.1; simpa using this.symm
      subst this; simp
    | cons v' vs ih =>
      cases bs with
      | nil => have := h.1; simp at this
      | cons b' bs =>
        obtain ⟨⟨t, rfl⟩, h2⟩ := h.tail
        rw [List.any_cons, ih h2]
        by_cases e : b' = b
        · subst e; simp
        · have : ¬ b = b' := fun q => e q.symm
          simp [e, this]

/-- the defaults of _find_lcas -/
def DefL (B : Store) (dV : Value) : Prop := ∃ dT oT n t, dV = .ref dT ∧ B dT = some oT ∧ oT.data = .seq #[.int 0 t, .none] n
theorem DefL.mono {dV : Value} (h : DefL B dV) (l : Le B B') : DefL B' dV := let ⟨dT, oT, n, t, a, b, c⟩ := h; ⟨dT, oT, n, t, a, l _ _ b, c⟩

/-- what the two callers have at hand -/
structure FC (K : Frag) (C fInit fAdd fGet fIter fLcas fBase fFast : Addr) (mg mb : Str → Option Value) (w : World) (c P : Addr) (dV : Value) (g : Gr) (fp ft : Addr) (B : Store) : Prop where
  T : Top0 K C fInit fAdd fGet fIter fLcas fBase fFast mg mb B
  TB : TopB mg mb
  hb : BmainS mg B
  hC : CodeHdS B c P
  FL : FnIs B fLcas (fnPs sLcas) (fnBd sLcas) (fnSc sLcas) [] dV (.ref c)
  df : DefL B dV
  ok : g.Ok
  hU : g.U.length ≤ 30
  hpar : ∀ x ∈ g.U, (g.par x).length ≤ 30
  hz2 : g.c2s.length ≤ 30
  LP : LkP w B g.U g.par fp
  LT : LkT w B g.U g.tm ft
variable {c : Addr} {dV : Value}
theorem FC.mono (H : FC K C fInit fAdd fGet fIter fLcas fBase fFast mg mb w c P dV g fp ft B) (l : Le B B') : FC K C fInit fAdd fGet fIter fLcas fBase fFast mg mb w c P dV g fp ft B' :=
  { H with T := H.T.mono l, hb := H.hb.mono l, hC := H.hC.mono l, FL := H.FL.mono l, df := H.df.mono l, LP := H.LP.mono l, LT := H.LT.mono l }

/-- what find_merge_base gives -/
def BaseOk (g : Gr) (res : List Bs) : Prop := if g.c1 ∈ g.c2s then res = [g.c1] else ResOk g res

set_option maxHeartbeats 2000000 in
theorem base_spec {lrow : Addr} {v1 : Value} {vs2 : List Value} {cdB : Value} {Q : Value → Shared → Prop} (H : FC K C fInit fAdd fGet fIter fLcas fBase fFast mg mb w c P dV g fp ft B)
    (FB : FnIs B fBase (fnPs sBase) (fnBd sBase) (fnSc sBase) [] .none cdB) (R : Rm A 24) (hG : AllBare G) (hmn : g.mn = 0) (hrow : KList B lrow (v1 :: vs2)) (hc1 : BytV g.c1 v1) (hb2 : BytL vs2 g.c2s) (hne : g.c2s ≠ [])
    (S : SS B G os ((P, TabO (.ref c) B) :: L) s)
    (h : ∀ B' G' s' a vs res, Le B B' → AllBare G' → SS B' G' os ((a, ListO vs) :: (P, TabO (.ref c) B') :: L) s' → BytL vs res → BaseOk g res → Q (.ref a) s') :
    W (model thePrg w) A (call (.ref fBase) [.ref fp, .ref ft, .none, .ref lrow]) Q s := by
  have T := H.T
  have TB := H.TB
  refine callF (n := 23) (args := ⟨[.ref fp, .ref ft, .none, .ref lrow], []⟩) (binds := [("lookup_parents", .ref fp), ("lookup_stamp", .ref ft), ("shallows", .none), ("commit_ids", .ref lrow)]) (rest := ["c1", "c2s", "lcas"]) R T.lim FB S ?_
    (by kernel_rfl) (by kernel_rfl) (by kernel_rfl) (by kernel_rfl) (by kernel_rfl) (by kernel_rfl) ?_
  · intro fd h1 h2 h3
    refine BindsTo.of_eq ?_
    unfold bindArgs
    rw [h1, h2]
    kernel_rfl
  clear S
  intro env Lf s I R S
  simp only [List.map_cons, List.map_nil, List.cons_append, List.nil_append] at S
  have hlen : vs2.length = g.c2s.length := hb2.1
  have hz := H.hz2
  have h1l : 1 ≤ g.c2s.length := List.length_pos_iff.mpr hne
  refine wpAny_execs_cons ?_
  refine wpAny_If ?_
  refine isTrue_not ?_
  refine isTrue_plain (he := rfl) ?_
  walk_at "m name"
  refine wpAny_truthy_list (hrow.isList S) (by simp; omega) ?_
  have S := S.toks (s' := { s with toks := s.toks + 1 + 1 })
  refine wpAny_execs_nil ?_
  refine wpAny_execs_cons ?_
  refine wpAny_Assign_Name ?_
  refine Subscript_ ?_
  walk_at "m name"
  refine eInt S fun tz s S => ?_
  refine item_listL (hrow.isList S) (by decide) (by decide) (x := v1) rfl ?_
  walk_at "m store"
  intro s S
  refine wpAny_execs_cons ?_
  refine wpAny_If ?_
  refine isTrue_not ?_
  refine wpAny_isTrue_Compare1 ?_
  refine PyProof.Rows.Call_ ?_
  refine nmB I S T.glob T.buil (by kernel_rfl) (by kernel_rfl) TB.len.1 TB.len.2 ?_
  refine callWith_builtin1 (he := rfl) (hplain := rfl) ?_
  refine args_cons (he := rfl) ?_
  walk_at "m name"
  refine args_nil ?_
  refine len_list (hrow.isList S) (by simp; omega) ?_
  have S := S.toks (s' := { s with toks := s.toks + 1 + 1 })
  refine eInt S fun tz s S => ?_
  refine PyProof.Rows.gt_int ?_
  refine wpAny_truthy_bool ?_
  rw [decide_eq_true (show (1 : Int) < ((v1 :: vs2).toArray.size : Nat) by simp; omega)]
  refine wpAny_execs_nil ?_
  refine wpAny_execs_cons ?_
  refine wpAny_Assign_Name ?_
  refine PyProof.Rows.Call_ ?_
  refine nmB I S T.glob T.buil (by kernel_rfl) (by kernel_rfl) TB.list.1 TB.list.2 ?_
  refine PyProof.Rows.callWith_type1 (he := rfl) (hplain := rfl) ?_
  refine args_cons (he := rfl) ?_
  refine sliceW ?_
  walk_at "m name"
  refine wpAny_evalPart_some ?_
  refine eInt S fun tz s S => ?_
  refine wpAny_evalPart_none ?_
  refine ⟨B, G, os, _, lrow, v1 :: vs2, some 1, none, rfl, S, hrow.isList S, by simp; omega, .int 1 tz, .none, fun D s S => ?_⟩
  have e1 : (slicePick (v1 :: vs2).toArray (some 1) none none).toList = vs2 := by
    rw [show (1 : Int) = ((1 : Nat) : Int) from rfl, slicePick_from']; simp
  rw [e1] at S
  refine args_nil ?_
  refine listOf S (S.isList .head) (by omega) fun l2 s S => ?_
  obtain ⟨B1, o2, le1, ho2, hB2, S⟩ := S.freeze
  have hk2 : KList B1 l2 vs2 := ⟨o2, hB2, ho2⟩
  have S := S.drop
  walk_at "m store"
  intro s S
  have H1 := H.mono le1
  have T := H1.T
  refine wpAny_execs_cons ?_
  refine wpAny_If ?_
  refine wpAny_isTrue_Compare1 ?_
  walk_at "m name"
  walk_at "m name"
  obtain ⟨e, he1, he2⟩ := hb2.inAt (A := (A.deeper env).in1) (s := s) hc1
  refine in_listAt e (hk2.isList S) (fun y hy => he1 y (by simpa using hy)) ?_
  refine wpAny_truthy_bool ?_
  have e3 : vs2.toArray.any e = decide (g.c1 ∈ g.c2s) := by rw [List.any_toArray]; exact he2
  rw [e3]
  by_cases hin : g.c1 ∈ g.c2s
  · rw [decide_eq_true hin]
    refine wpAny_execs_cons ?_
    refine wpAny_Return_some ?_
    refine eList ?_
    refine args_cons (he := rfl) ?_
    walk_at "m name"
    refine args_nil ?_
    refine newList_ S (by simp) fun D s S => ?_
    have S := S.dropAt (a := Lf) (e := by walk_at "m sel")
    have S := (S.front (a := P) (e := by walk_at "m sel")).weak (P' := TabO (.ref c) B1) fun o h => TabO.mono h le1
    have S := S.front (a := D) (e := by walk_at "m sel")
    refine h B1 G s D [v1] [g.c1] le1 hG S (Rel2.cons hc1 .nil) ?_
    unfold BaseOk; rw [if_pos hin]
  · rw [decide_eq_false hin]
    refine wpAny_execs_nil ?_
    refine wpAny_execs_cons ?_
    refine wpAny_Assign_Name ?_
    refine wpAny_Call_Name_kw ?_
    walk_at "m name"
    obtain ⟨dT, oT, nT, tT, rfl, hdT, hoT⟩ := H1.df
    obtain ⟨oL, fdL, hoL, hcL, hdL, -⟩ := H1.FL.ex
    refine callWith_function_kw (o := oL) (fd := fdL) ?_
    refine evalArgs_kw2 (by rfl) ?_ (he := rfl)
    refine args_cons (he := rfl) ?_
    walk_at "m name"
    refine args_cons (he := rfl) ?_
    walk_at "m name"
    refine args_cons (he := rfl) ?_
    walk_at "m name"
    refine args_cons (he := rfl) ?_
    walk_at "m name"
    refine args_nil ?_
    refine kwAll_cons ?_
    walk_at "m name"
    refine kwAll_nil ?_
    refine ⟨⟨S.keep _ _ hoL, hdL⟩, ?_⟩
    have S := (S.front (a := P) (e := by walk_at "m sel")).weak (P' := TabO (.ref c) B1) fun o h => TabO.mono h le1
    refine W.up (lcas_spec (args := ⟨[.ref fp, v1, .ref l2, .ref ft], [("shallows", .none)]⟩) (vm := .int 0 tT) H1.T H1.hb H1.hC H1.FL (R.less (by omega)) hG H1.ok H1.hU H1.hpar H1.hz2 H1.LP H1.LT hc1 ⟨tT, by rw [hmn]⟩ hk2 hb2 ?_ S fun B2 G2 s a vs res le2 hG2 S hout hres => ?_)
    · intro fd h1 h2 h3
      refine BindsTo.of_defaults h2 (S.keep _ _ hdT) hoT (by unfold bindArgs; rw [h1]; exact rfl) (by exact rfl)
    · have S := S.front (a := Lf) (e := by walk_at "m sel")
      walk_at "m store"
      intro s S
      refine wpAny_execs_cons ?_
      refine wpAny_Return_some ?_
      walk_at "m name"
      have S := S.drop
      refine h B2 G2 s a vs res (le1.trans le2) hG2 S hout ?_
      unfold BaseOk; rw [if_neg hin]; exact hres
end
end Mine

end
section
open PySem PySem.W PySem.Calls PySem.SeqAt PyProof.Rows Builtin
set_option Elab.async false
set_option maxRecDepth 100000
set_option linter.unusedVariables false
namespace Mine
local macro_rules | `(tactic| walk_at "m sel") => `(tactic| first | with_reducible apply Sel.head | (apply Sel.tail; walk_at "m sel"))
local macro_rules | `(tactic| walk_at "m lget") => `(tactic| first | with_reducible apply LGet.head | (apply LGet.tail; walk_at "m lget"))
local macro_rules | `(tactic| walk_at "m lset") => `(tactic| first | with_reducible apply LSet.head | (apply LSet.tail; walk_at "m lset"))
local macro_rules | `(tactic| walk_at "m mg") => `(tactic| first | exact Top0.gPush (by assumption) | exact Top0.gPop (by assumption) | exact Top0.gWL (by assumption) | exact Top0.gLcas (by assumption) | exact Top0.gBase (by assumption) | exact Top0.gFast (by assumption))
local macro_rules | `(tactic| walk_at "m name") => `(tactic| first
  | (refine' nmL (by assumption) (by assumption) ?hx ?hd ?he ?hg ?_; (case hx => kernel_rfl); (case hd => kernel_rfl); (case he => walk_at "m sel"); (case hg => walk_at "m lget"))
  | (refine' nmC (by assumption) (by assumption) ?hx ?hd ?hc ?he ?_; (case hx => decide +kernel); (case hd => kernel_rfl); (case hc => rfl); (case he => walk_at "m sel"))
  | (refine' nmF (by assumption) (by assumption) ?hx ?hd ?hd2 ?hc ?he ?_; (case hx => decide +kernel); (case hd => kernel_rfl); (case hd2 => kernel_rfl); (case hc => rfl); (case he => walk_at "m sel"))
  | (refine' nmG (by assumption) (by assumption) (Top0.glob (by assumption)) ?hx ?hd ?hv ?_; (case hx => kernel_rfl); (case hd => kernel_rfl); (case hv => walk_at "m mg")))
local macro_rules | `(tactic| walk_at "m store") => `(tactic| first
  | (refine' stL (by assumption) (by assumption) ?hx ?he ?hg ?_; (case hx => kernel_rfl); (case he => walk_at "m sel"); (case hg => walk_at "m lset"))
  | (refine' stC (by assumption) (by assumption) ?hx ?hc ?he ?_; (case hx => kernel_rfl); (case hc => rfl); (case he => walk_at "m sel")))
section
variable {K : Frag} {C fInit fAdd fGet fIter fLcas fBase fFast : Addr} {mg mb : Str → Option Value} {B B' : Store}
variable {w : World} {A : Around} {E : Value → Shared → Prop} {G : Array GenState} {os : OsState} {L L' : Led} {s : Shared} {env : Env} {sc : Scope} {Lf : Addr} {cl : List (Str × Addr)} {cd : Value} {n : Nat} {x q : Addr}
variable {g : Gr} {fp ft fh d lc cD l2 P : Addr} {v1 cdH vm : Value} {ta tb te td : Tok} {c : Addr} {dV : Value}

theorem eqBytes {a b : Bs} {va vb : Value} {Q : Value → Shared → Prop} (ha : BytV a va) (hb : BytV b vb) (h : Q (.bool (decide (a = b))) s) : wpAny (model thePrg w) A (compareOp .Eq va vb) Q E s := by
  obtain ⟨t, rfl⟩ := ha
  obtain ⟨u, rfl⟩ := hb
  refine richCompare_gives (op := .Eq) (T := "bytes") rfl rfl FB.slot_bytes_eq FB.entry_bytes_eq (FB.args_bytes_eq_2 _ _) (gives_bytes_eq a.toArray b.toArray t u) (fun x => nomatch x) ?_
  rw [show (a.toArray.toList == b.toArray.toList) = decide (a = b) by rw [Bool.eq_iff_iff]; simp]; exact h

/-- lists of bytes are held against each other -/
theorem eqLists {l m : Addr} {vs us : List Value} {as bs : List Bs} {Q : Value → Shared → Prop} (R : Rm A 1) (S : SS B G os L s) (hl : s.heap.IsList l vs.toArray) (hm : s.heap.IsList m us.toArray) (ha : BytL vs as) (hb : BytL us bs)
    (h : Q (.bool (decide (as = bs))) s) : wpAny (model thePrg w) A (compareOp .Eq (.ref l) (.ref m)) Q E s := by
  have h1 := ha.1
  have h2 := hb.1
  by_cases hz : vs.length = us.length
  · refine eq_listAt (e := fun i => decide (as[i]? = bs[i]?)) hl hm (by simpa using hz) R.units (fun j h1 h2 => ?_) ?_
    · have hj : j < vs.length := by simpa using h1
      have hj' : j < us.length := by simpa using h2
      obtain ⟨t, ht⟩ := ha.2 j _ _ (List.getElem?_eq_getElem hj) (List.getElem?_eq_getElem (by omega))
      obtain ⟨u, hu⟩ := hb.2 j _ _ (List.getElem?_eq_getElem hj') (List.getElem?_eq_getElem (by omega))
      simp only [List.getElem_toArray]
      rw [ht, hu, List.getElem?_eq_getElem (show j < as.length by omega), List.getElem?_eq_getElem (show j < bs.length by omega)]
      simpa using eqAt_bytes (A := A.in1) (s := s) (a := (as[j]'(by omega)).toArray) (b := (bs[j]'(by omega)).toArray) (t := t) (u := u)
    · have e : (List.range vs.toArray.size).all (fun i => decide (as[i]? = bs[i]?)) = decide (as = bs) := by
        rw [Bool.eq_iff_iff, List.all_eq_true, decide_eq_true_iff]
        constructor
        · intro hh
          refine List.ext_getElem? fun i => ?_
          by_cases hi : i < vs.length
          · simpa using hh i (by simpa using hi)
          · rw [List.getElem?_eq_none (by omega), List.getElem?_eq_none (by omega)]
        · rintro rfl i _; simp
      rw [e]; exact h
  · refine eq_list_lengthsAt hl hm (by simpa using hz) R.units ?_
    rw [decide_eq_false (fun e => hz (by rw [h1, h2, e]))] at h
    exact h

/-- what can_fast_forward gives -/
def FastOk (g : Gr) (c2 : Bs) (b : Bool) : Prop := (g.c1 = c2 ∧ b = true) ∨ (g.c1 ≠ c2 ∧ ∃ res, ResOk g res ∧ b = decide (res = [g.c1]))

set_option maxHeartbeats 2000000 in
theorem fast_spec {c2 : Bs} {v1 v2 : Value} {cdB : Value} {Q : Value → Shared → Prop} (H : FC K C fInit fAdd fGet fIter fLcas fBase fFast mg mb w c P dV g fp ft B)
    (FB : FnIs B fFast (fnPs sFast) (fnBd sFast) (fnSc sFast) [] .none cdB) (R : Rm A 24) (hG : AllBare G) (hmn : g.mn = g.tm g.c1) (h2s : g.c2s = [c2]) (hc1 : BytV g.c1 v1) (hc2 : BytV c2 v2)
    (S : SS B G os ((P, TabO (.ref c) B) :: L) s)
    (h : ∀ B' G' s' b, Le B B' → AllBare G' → SS B' G' os ((P, TabO (.ref c) B') :: L) s' → FastOk g c2 b → Q (.bool b) s') :
    W (model thePrg w) A (call (.ref fFast) [.ref fp, .ref ft, .none, v1, v2]) Q s := by
  have T := H.T
  have TB := H.TB
  refine callF (n := 23) (args := ⟨[.ref fp, .ref ft, .none, v1, v2], []⟩) (binds := [("lookup_parents", .ref fp), ("lookup_stamp", .ref ft), ("shallows", .none), ("c1", v1), ("c2", v2)]) (rest := ["min_stamp", "lcas"]) R T.lim FB S ?_
    (by kernel_rfl) (by kernel_rfl) (by kernel_rfl) (by kernel_rfl) (by kernel_rfl) (by kernel_rfl) ?_
  · intro fd h1 h2 h3
    refine BindsTo.of_eq ?_
    unfold bindArgs
    rw [h1, h2]
    kernel_rfl
  clear S
  intro env Lf s I R S
  simp only [List.map_cons, List.map_nil, List.cons_append, List.nil_append] at S
  refine wpAny_execs_cons ?_
  refine wpAny_If ?_
  refine wpAny_isTrue_Compare1 ?_
  walk_at "m name"
  walk_at "m name"
  refine eqBytes hc1 hc2 ?_
  refine wpAny_truthy_bool ?_
  by_cases heq : g.c1 = c2
  · rw [decide_eq_true heq]
    refine wpAny_execs_cons ?_
    refine wpAny_Return_some ?_
    refine Constant_bool ?_
    exact h B G s true (Le.refl _) hG S.drop (.inl ⟨heq, rfl⟩)
  · rw [decide_eq_false heq]
    refine wpAny_execs_nil ?_
    refine wpAny_execs_cons ?_
    refine tryW ?_
    refine wpAny_execs_cons ?_
    refine wpAny_Assign_Name ?_
    refine PyProof.Rows.Call_ ?_
    walk_at "m name"
    refine callWith_F (fnAtOf H.LT.fn S) ?_ (he := rfl) (hplain := rfl)
    refine args_cons (he := rfl) ?_
    walk_at "m name"
    refine args_nil ?_
    refine ⟨fnAtOf H.LT.fn S, ?_⟩
    refine W.up (H.LT.call _ B G os _ s v1 g.c1 _ (R.less (by omega)) (Le.refl _) hc1 H.ok.c1 S fun tm s S => ?_)
    walk_at "m store"
    intro s S
    refine wpAny_execs_nil ?_
    refine wpAny_execs_cons ?_
    refine wpAny_Assign_Name ?_
    refine wpAny_Call_Name_kw ?_
    walk_at "m name"
    obtain ⟨dT, oT, nT, tT, rfl, hdT, hoT⟩ := H.df
    obtain ⟨oL, fdL, hoL, hcL, hdL, -⟩ := H.FL.ex
    refine callWith_function_kw (o := oL) (fd := fdL) ?_
    refine evalArgs_kw2 (by rfl) ?_ (he := rfl)
    refine args_cons (he := rfl) ?_
    walk_at "m name"
    refine args_cons (he := rfl) ?_
    walk_at "m name"
    refine args_cons (he := rfl) ?_
    refine eList ?_
    refine args_cons (he := rfl) ?_
    walk_at "m name"
    refine args_nil ?_
    refine newList_ S (by simp) fun l2 s S => ?_
    obtain ⟨B1, o2, le1, ho2, hB2, S⟩ := S.freeze
    have hk2 : KList B1 l2 [v2] := ⟨o2, hB2, ho2⟩
    have H1 := H.mono le1
    have T := H1.T
    refine args_cons (he := rfl) ?_
    walk_at "m name"
    refine args_nil ?_
    refine kwAll_cons ?_
    walk_at "m name"
    refine kwAll_cons ?_
    walk_at "m name"
    refine kwAll_nil ?_
    refine ⟨⟨S.keep _ _ (le1 _ _ hoL), hdL⟩, ?_⟩
    have S := (S.front (a := P) (e := by walk_at "m sel")).weak (P' := TabO (.ref c) B1) fun o h => TabO.mono h le1
    refine W.up (lcas_spec (args := ⟨[.ref fp, v1, .ref l2, .ref ft], [("min_stamp", .int (g.tm g.c1) tm), ("shallows", .none)]⟩) (vm := .int (g.tm g.c1) tm) H1.T H1.hb H1.hC H1.FL (R.less (by omega)) hG H1.ok H1.hU H1.hpar H1.hz2 H1.LP H1.LT hc1 ⟨tm, by rw [hmn]⟩ hk2
      (by rw [h2s]; exact Rel2.cons hc2 .nil) ?_ S fun B2 G2 s a vs res le2 hG2 S hout hres => ?_)
    · intro fd h1 h2 h3
      refine BindsTo.of_defaults h2 (S.keep _ _ (le1 _ _ hdT)) hoT (by unfold bindArgs; rw [h1]; exact rfl) (by exact rfl)
    · have S := S.front (a := Lf) (e := by walk_at "m sel")
      walk_at "m store"
      intro s S
      refine wpAny_execs_cons ?_
      refine wpAny_Return_some ?_
      refine wpAny_Compare1 ?_
      walk_at "m name"
      refine eList ?_
      refine args_cons (he := rfl) ?_
      walk_at "m name"
      refine args_nil ?_
      refine newList_ S (by simp) fun l3 s S => ?_
      refine eqLists (R.less (by omega)) S (S.isList (a := a) (by walk_at "m sel")) (S.isList .head) hout (Rel2.cons hc1 .nil) ?_
      have S := S.dropAt (a := l3) (e := by walk_at "m sel")
      have S := S.dropAt (a := Lf) (e := by walk_at "m sel")
      have S := S.dropAt (a := a) (e := by walk_at "m sel")
      exact h B2 G2 s _ (le1.trans le2) hG2 S (.inr ⟨heq, res, hres, rfl⟩)
end
end Mine

end
section
open PySem PySem.W PySem.Calls PySem.SeqAt PyProof.Rows Builtin
set_option Elab.async false
set_option maxRecDepth 100000
set_option linter.unusedVariables false
namespace Mine

def byT (w : World) : Bool := w.params.followText "set-order"
def SetOB (w : World) (S : Bs → Bool) (N : Nat) : OP := fun o => ∃ es ep t, o.ExactSet ∧ o.data = .set es ep t ∧ ElemsOf (bytesKind thePrg w) es.toList ∧ (∀ k, S k = true ↔ ∃ e ∈ es.toList, (bytesKind thePrg w).is k e.2 = true) ∧
  es.size ≤ N ∧ t.fits es.size = true ∧ t.led = (!byT w) ∧ (0 < es.size → t.plain = false) ∧ (es.toList.map (·.2)).Nodup

theorem layNew_led (t : SetTable) (es : Array (Int × Value)) (h : Int) (x : Value) : (layNew t es h x).2.1.led = t.led := by
  unfold layNew
  split
  · rename_i slot d e
    dsimp only
    unfold SetTable.orStandIn
    split <;> rfl
  · rfl
theorem relayAll_led (t : SetTable) (es : Array (Int × Value)) (n : Nat) : (relayAll t es n).2.1.led = t.led ∧ ((relayAll t es n).2.1.plain = true → t.plain = true) := by
  unfold relayAll
  split
  · rename_i t' order e
    dsimp only
    have : t'.led = t.led ∧ t'.plain = t.plain := by
      unfold SetTable.relaid SetTable.laid at e
      simp only [Option.bind_eq_bind, Option.bind_eq_some_iff, Option.pure_def, Option.some.injEq, Prod.mk.injEq] at e
      obtain ⟨_, _, h, _⟩ := e
      rw [← h]; exact ⟨rfl, rfl⟩
    split
    · exact ⟨this.1, fun h => by rw [← this.2]; exact h⟩
    · exact ⟨rfl, fun h => by cases h⟩
  · exact ⟨rfl, fun h => by cases h⟩

section
variable {w : World} {A : Around} {E : Value → Shared → Prop} {B B' : Store} {G : Array GenState} {os : OsState} {L L' : Led} {s : Shared} {a : Addr} {S : Bs → Bool} {N : Nat} {k : Bs} {x : Value} {n : Nat}

theorem storeB {o : Obj} {es : Array (Int × Value)} {ep : Nat} {t : SetTable} (ho : s.heap.get? a = some o) (hex : o.ExactSet) (hd : o.data = .set es ep t)
    {es' : Array (Int × Value)} {t' : SetTable} {S' : Bs → Bool} (hel : ElemsOf (bytesKind thePrg w) es'.toList) (hmem : ∀ k, S' k = true ↔ ∃ e ∈ es'.toList, (bytesKind thePrg w).is k e.2 = true) (hb : es'.size ≤ N) (hf : t'.fits es'.size = true)
    (hl : t'.led = (!byT w)) (hp : t'.plain = false) (hnd : (es'.toList.map (·.2)).Nodup) :
    ∃ o', (s.heap.update a (Obj.putSet es' t')).get? a = some o' ∧ SetOB w S' N o' ∧ o'.data = .set es' (ep + 1) t' ∧ o'.ExactSet := by
  have hg := Heap.get?_update_self (Obj.putSet es' t') ho (by rw [putSet_of es' t' hd]; rfl)
  rw [putSet_of es' t' hd] at hg
  exact ⟨_, hg, ⟨es', ep + 1, t', hex, rfl, hel, hmem, hb, hf, hl, (fun _ => hp), hnd⟩, rfl, hex⟩

theorem tailB {g : Bool → Sem Unit} (hg : ∀ (b : Bool) (s₁ : Shared) (Q' : Unit → Shared → Prop), Q' () s₁ → wpAny (model thePrg w) A (g b) Q' E s₁)
    {o : Obj} {es : Array (Int × Value)} {ep : Nat} {t : SetTable} (ho : s.heap.get? a = some o) (hex : o.ExactSet) (hd : o.data = .set es ep t)
    {es1 : Array (Int × Value)} {t2 : SetTable} {S' : Bs → Bool} (hel1 : ElemsOf (bytesKind thePrg w) es1.toList) (hmem1 : ∀ k', S' k' = true ↔ ∃ e ∈ es1.toList, (bytesKind thePrg w).is k' e.2 = true)
    (hb1 : es1.size ≤ N) (hN : N < scanBound) (hf2 : t2.fits es1.size = true) (hl : t2.led = (!byT w)) (hp : t2.plain = false) (hnd : (es1.toList.map (·.2)).Nodup) {wasDummy : Bool} {R : Option Bool → Shared → Prop}
    (h : ∀ h' o', Heap.SameBut a s.heap h' → h'.get? a = some o' → SetOB w S' N o' → R (some true) { s with heap := h' }) :
    wpAny (model thePrg w) A (do
        storeSet a es1 t2
        if (!wasDummy && t2.tooFull) = true then do
            g (relayAll t2 es1 (SetTable.grown es1.size)).2.2
            storeSet a (relayAll t2 es1 (SetTable.grown es1.size)).1 (relayAll t2 es1 (SetTable.grown es1.size)).2.1
            pure (some true)
          else pure (some true)) R E s := by
  have hsc : es1.size < scanBound := Nat.lt_of_le_of_lt hb1 hN
  refine wpAny_bind (wpAny_storeSet_of ho hd ?_ (fits_of_scanBound hsc))
  obtain ⟨o1, ho1, hS1, hd1, hex1⟩ := storeB (N := N) ho hex hd hel1 hmem1 hb1 hf2 hl hp hnd
  have hsb1 := Heap.SameBut.update s.heap a (Obj.putSet es1 t2)
  split
  · have hpm := relayAll_perm t2 es1 (SetTable.grown es1.size)
    have hfr := relayAll_fits t2 es1 (SetTable.grown es1.size)
    have hlr := relayAll_led t2 es1 (SetTable.grown es1.size)
    generalize hRl : relayAll t2 es1 (SetTable.grown es1.size) = Rl at hpm hfr hlr ⊢
    obtain ⟨es2, t3, gave2⟩ := Rl
    dsimp only at hpm hfr hlr ⊢
    have hel2 : ElemsOf (bytesKind thePrg w) es2.toList := hel1.perm hpm
    have hmem2 : ∀ k', S' k' = true ↔ ∃ e ∈ es2.toList, (bytesKind thePrg w).is k' e.2 = true := fun k' => (hmem1 k').trans ⟨fun ⟨e, he, q⟩ => ⟨e, hpm.mem_iff.mpr he, q⟩, fun ⟨e, he, q⟩ => ⟨e, hpm.mem_iff.mp he, q⟩⟩
    have hsz : es2.size = es1.size := by rw [← Array.length_toList, hpm.length_eq, Array.length_toList]
    refine wpAny_bind (hg _ _ _ ?_)
    refine wpAny_bind (wpAny_storeSet_of ho1 hd1 ?_ (fits_of_scanBound (by rw [hsz]; exact hsc)))
    obtain ⟨o2, ho2, hS2, -, -⟩ := storeB (s := { s with heap := s.heap.update a (Obj.putSet es1 t2) }) (N := N) ho1 hex1 hd1 hel2 hmem2 (by rw [hsz]; exact hb1) hfr (hlr.1.trans hl) (by
      cases hpp : t3.plain with
      | false => rfl
      | true => rw [hlr.2 hpp] at hp; cases hp) ((hpm.map _).nodup_iff.mpr hnd)
    exact wpAny_pure (h _ o2 (hsb1.trans (Heap.SameBut.update _ a _)) ho2 hS2)
  · exact wpAny_pure (h _ o1 hsb1 ho1 hS1)

theorem addHashB {Q : Bool → Shared → Prop} (hx : BytV k x) (S0 : SS B G os ((a, SetOB w S N) :: L) s) (hN : N + 1 < scanBound)
    (h : ∀ b s', SS B G os ((a, SetOB w (fun k' => S k' || decide (k' = k)) (N + 1)) :: L) s' → Q b s') : wpAny (model thePrg w) A (setAddHashed a x ((bytesKind thePrg w).hash k)) Q E s := by
  obtain ⟨o, ho, es, ep, t, hex, hd, hel, hmem, hb, hf, hl, hp, hnd⟩ := S0.get .head
  have hkey := hx.is (w := w)
  have hsc : x.scannable = true := by obtain ⟨u, rfl⟩ := hx; rfl
  have hbs : es.size < scanBound := by omega
  have put : ∀ h' o', Heap.SameBut a s.heap h' → h'.get? a = some o' → SetOB w (fun k' => S k' || decide (k' = k)) (N + 1) o' → SS B G os ((a, SetOB w (fun k' => S k' || decide (k' = k)) (N + 1)) :: L) { s with heap := h' } :=
    fun h' o' hsb ho' hS' => S0.upd (s' := { s with heap := h' }) hsb ho' hS'
  unfold setAddHashed setAddHashedIn
  refine wpAny_holding (wpAny_bind (wpAny_setState_of ho hd hf ?_))
  dsimp only
  rw [byScan_of hsc hbs hel]
  simp only [↓reduceIte]
  unfold setAddByScan
  refine wpAny_bind ?_
  refine wpAny_bind (wpAny_rule ?_)
  refine wpAny_bind (wpAny_setScan_of hkey ho hd hf hel ?_)
  cases hr : List.findIdx? (fun e => (bytesKind thePrg w).is k e.2) es.toList with
  | some j =>
    dsimp only
    obtain ⟨hj, hpj, _⟩ := List.findIdx?_eq_some_iff_getElem.mp hr
    have hSk : S k = true := (hmem k).mpr ⟨es.toList[j], List.getElem_mem hj, hpj⟩
    refine wpAny_pure (wpAny_pure (h _ s (S0.weak fun o' ⟨es', ep', t', q1, q2, q3, q4, q5, q6⟩ => ⟨es', ep', t', q1, q2, q3, fun k' => ?_, Nat.le_succ_of_le q5, q6⟩)))
    rw [Bool.or_eq_true, decide_eq_true_eq, ← q4 k']
    exact ⟨fun hk => hk.elim id (fun e => e ▸ hSk), .inl⟩
  | none =>
    dsimp only
    have hgw : ∀ (b : Bool) {s₁ : Shared} {Q' : Unit → Shared → Prop}, Q' () s₁ → wpAny (model thePrg w) A (match b with | true => rule "set.scan.the-table-gave-way" | false => pure ()) Q' E s₁ :=
      fun b s₁ Q' hq => by cases b <;> first | exact wpAny_pure hq | exact wpAny_rule hq
    have hperm := layNew_perm t es ((bytesKind thePrg w).hash k) x
    have hfits := layNew_fits t es ((bytesKind thePrg w).hash k) x
    have hled := layNew_led t es ((bytesKind thePrg w).hash k) x
    generalize hL : layNew t es ((bytesKind thePrg w).hash k) x = Lq at hperm hfits hled ⊢
    obtain ⟨es1, t1, wasDummy, gave⟩ := Lq
    dsimp only at hperm hfits hled ⊢
    rw [Array.toList_push] at hperm
    have hel1 : ElemsOf (bytesKind thePrg w) es1.toList := (hel.push hkey hsc).perm hperm
    have hmem1 : ∀ k', (S k' || decide (k' = k)) = true ↔ ∃ e ∈ es1.toList, (bytesKind thePrg w).is k' e.2 = true := mem_push_iff hkey hmem hperm
    have hsz1 : es1.size ≤ N + 1 := by rw [← Array.length_toList, hperm.length_eq, List.length_append, Array.length_toList]; simpa using hb
    have hnd1 : (es1.toList.map (·.2)).Nodup := by
      refine (hperm.map _).nodup_iff.mpr ?_
      rw [List.map_append, List.nodup_append]
      refine ⟨hnd, by simp, fun y hy z hz e => ?_⟩
      simp at hz
      obtain ⟨e0, he0, rfl⟩ := List.mem_map.mp hy
      have := List.findIdx?_eq_none_iff.mp hr e0 he0
      rw [e, hz, hkey] at this; cases this
    refine wpAny_bind (hgw _ ?_)
    cases hp1 : t1.plain with
    | true =>
      simp only [↓reduceIte]
      refine wpAny_bind ?_
      rw [hashByValue_scannable 8 hsc]
      have hpk : plainKind x = false := by obtain ⟨u, rfl⟩ := hx; rfl
      rw [hpk]
      refine wpAny_pure ?_
      simp only [Bool.false_eq_true, ↓reduceIte]
      refine tailB ?_ ho hex hd hel1 hmem1 hsz1 hN (SetTable.fits_plain_off hfits) (hled.trans hl) rfl hnd1 ?_
      · intro b s₁ Q' hq; cases b <;> first | exact wpAny_pure hq | exact wpAny_rule hq
      · intro h' o' hsb ho' hS'; dsimp only; exact wpAny_pure (h _ _ (put h' o' hsb ho' hS'))
    | false =>
      simp only [Bool.false_eq_true, ↓reduceIte]
      refine wpAny_bind (wpAny_pure ?_)
      simp only [↓reduceIte]
      refine tailB ?_ ho hex hd hel1 hmem1 hsz1 hN hfits (hled.trans hl) hp1 hnd1 ?_
      · intro b s₁ Q' hq; cases b <;> first | exact wpAny_pure hq | exact wpAny_rule hq
      · intro h' o' hsb ho' hS'; dsimp only; exact wpAny_pure (h _ _ (put h' o' hsb ho' hS'))

theorem addB {Q : Bool → Shared → Prop} (hx : BytV k x) (S0 : SS B G os ((a, SetOB w S N) :: L) s) (hN : N + 1 < scanBound)
    (h : ∀ b s', SS B G os ((a, SetOB w (fun k' => S k' || decide (k' = k)) (N + 1)) :: L) s' → Q b s') : wpAny (model thePrg w) A (setAdd a x) Q E s := by
  unfold setAdd
  refine wpAny_holding ?_
  refine wpAny_bind ((bytesKind thePrg w).pyHash (k := k) hx.is ?_)
  exact addHashB hx (S0.toks (s' := { s with toks := s.toks + 1 })) hN h

/-- elements from an iterator of a list -/
theorem updLoop {l it : Addr} {vs : List Value} {bs : List Bs} {Rr : Result → Shared → Prop} (R : Rm A.in1 n) (hb : BytL vs bs) (hz : bs.length ≤ 1000) : ∀ (m i : Nat) (s : Shared), bs.length - i = m → i ≤ bs.length →
    SS B G os ((it, IterO l i) :: (a, SetOB w (fun k => decide (k ∈ bs.take i)) i) :: L) s → KList B l vs →
    (∀ s', SS B G os ((a, SetOB w (fun k => decide (k ∈ bs)) bs.length) :: L) s' → Rr (.ok (.ret .none)) s') → codeAny (model thePrg w) A (.builtin "set.update.loop" ⟨[.ref a, .ref it], []⟩) Rr s := by
  intro m
  induction m with
  | zero =>
    intro i s hm hi S hl h
    have hib : i = bs.length := by omega
    refine codeAny_builtin PyProof.Rows.F.entry_set_update_loop ?_
    rw [Around.under_plainId PyProof.Rows.F.plain_set_update_loop _]
    show wpAny _ A.in1 (pyNext (.ref it) >>= _) _ _ s
    refine wpAny_bind (next_end R S (hl.isList S) (by rw [hb.1]; omega) fun s' S' => ?_)
    show wpAny _ A.in1 (ret Value.none) _ _ s'
    subst hib
    rw [List.take_length] at S'
    exact wpAny_pure (h s' S')
  | succ m ih =>
    intro i s hm hi S hl h
    have hlt : i < bs.length := by omega
    refine codeAny_builtin PyProof.Rows.F.entry_set_update_loop ?_
    rw [Around.under_plainId PyProof.Rows.F.plain_set_update_loop _]
    show wpAny _ A.in1 (pyNext (.ref it) >>= _) _ _ s
    have hv : i < vs.length := by rw [hb.1]; exact hlt
    refine wpAny_bind (next_item S (hl.isList S) (List.getElem?_eq_getElem hv) fun s' S' => ?_)
    have hk := hb.2 i _ _ (List.getElem?_eq_getElem hv) (List.getElem?_eq_getElem hlt)
    show wpAny _ A.in1 (holding [vs[i]] (setAdd a vs[i]) >>= _) _ _ s'
    refine wpAny_bind (wpAny_holding (addB hk (S'.front (e := .tail .head)) (by unfold scanBound; omega) fun b s2 S2 => ?_))
    refine wpAny_pure ⟨plainId_quiet PyProof.Rows.F.plain_set_update_loop _, ih (i + 1) s2 (by omega) hlt ?_ hl h⟩
    have S3 := S2.front (e := .tail .head)
    have e : (fun k' => decide (k' ∈ bs.take i) || decide (k' = bs[i])) = fun k' => decide (k' ∈ bs.take (i + 1)) := by
      funext k'
      have e2 : bs.take (i + 1) = bs.take i ++ [bs[i]] := by rw [List.take_add_one, List.getElem?_eq_getElem hlt]; rfl
      rw [e2, Bool.eq_iff_iff]
      simp only [Bool.or_eq_true, decide_eq_true_eq, List.mem_append, List.mem_singleton]
    rw [e] at S3
    exact S3

theorem newSetB {l : Addr} {Q₁ : Value → Shared → Prop} (h : Q₁ (.ref s.heap.objs.size) { s with heap := s.heap.push { cls := .type "set", dict := none, data := .set #[] 0 (.fresh 0 0 (!byT w)) } }) :
    codeAny (model thePrg w) A (.call (.builtin "set.__new__") ⟨[.type "set", .ref l], []⟩) (wants Q₁ E) s := by
  refine codeAny_of_tree ?_
  show wpAny _ A.in1 (do checkBuiltinCall "set.__new__" ⟨[.type "set", .ref l], []⟩; again (.builtin "set.__new__" ⟨[.type "set", .ref l], []⟩)) _ _ s
  refine wpAny_bind (wpAny_of_eq (F.newCall_set_1 (.ref l)) (wpAny_pure ⟨plainId_quiet F.plain_set_new _, codeAny_builtin F.entry_set_new ?_⟩))
  rw [Around.under_plainId F.plain_set_new _]
  unfold Builtin.«set.__new__» Builtin.Frozenset.newClass
  have hsub := sub_set_self
  obtain ⟨hp, g, d, tk, os⟩ := s
  dsimp only
  wp_walk
  refine wpAny_askSetting (wpAny_pure ?_)
  dsimp only
  simp only [newObj]
  refine wpAny_bind (wpAny_alloc (wpAny_pure ?_))
  exact wpAny_pure h

set_option maxHeartbeats 3200000 in
/-- set(a list of bytes) -/
theorem setOf {l : Addr} {vs : List Value} {bs : List Bs} {Q : Value → Shared → Prop} (R : Rm A 6) (S : SS B G os L s) (hl : KList B l vs) (hb : BytL vs bs) (hz : bs.length ≤ 1000)
    (h : ∀ D s', SS B G os ((D, SetOB w (fun k => decide (k ∈ bs)) bs.length) :: L) s' → Q (.ref D) s') : wpAny (model thePrg w) A (call (.type "set") [.ref l]) Q E s := by
  obtain ⟨c, tl, hmro⟩ := F.called_set.mro
  have hmade := F.called_set.made
  have hsub := F.called_set.sub
  refine wpAny_call (codeAny_of_tree ?_)
  show wpAny _ _ (callAny (.type "set") _) _ _ _
  refine wpAny_pure ⟨Code.quiet_builtin _ (by decide +kernel), codeAny_builtin F.entry_type_call ?_⟩
  rw [Around.under_plain (weight_type_call_type "set" [.ref l] []) rfl]
  have h1 := F.called_set.notType
  have h2 := F.called_set.canCreate
  have hct := F.typeCall_set_1 (.ref l)
  repeat (any_goals (first | assumption | wp_step))
  let so : Obj := { cls := .type "set", dict := none, data := .set #[] 0 (.fresh 0 0 (!byT w)) }
  refine codeAny_mono (newSetB (l := l) (E := E) (Q₁ := fun obj s₁ => obj = .ref s.heap.objs.size ∧ s₁ = { s with heap := s.heap.push so }) ⟨rfl, rfl⟩) fun r s₁ hr => ?_
  cases r with
  | error e => exact hr
  | ok fl =>
    cases fl with
    | ret obj =>
      obtain ⟨rfl, rfl⟩ := hr
      have hS : (s.heap.push so).get? s.heap.objs.size = some so := Heap.get?_push_size _ rfl
      have hT : Shared.TypeIs { s with heap := s.heap.push so } (.ref s.heap.objs.size) "set" := ⟨_, hS, rfl⟩
      have hli := F.called_set.init.lookup
      have hbi := F.called_set.init.bind (.ref s.heap.objs.size)
      repeat (any_goals (first | assumption | wp_step))
      have Sp : SS B G os ((s.heap.objs.size, SetOB w (fun k => decide (k ∈ bs.take 0)) 0) :: L) { s with heap := s.heap.push so } :=
        S.push so ⟨#[], 0, .fresh 0 0 (!byT w), ⟨rfl, rfl, rfl⟩, rfl, (fun e he => by simp at he), (fun k => by simp), Nat.le_refl _, rfl, rfl, (fun h => by simp at h), by simp⟩
      refine codeAny_mono (codeAny_call_builtin (R := wants (fun r s₂ => r = .none ∧ SS B G os ((s.heap.objs.size, SetOB w (fun k => decide (k ∈ bs)) bs.length) :: L) s₂) E) F.called_set.init.plain F.entry_set_init (check_set_init_1 hT ?_)) fun r₂ s₂ hr₂ => ?_
      · have hl0 := hl.isList Sp
        have hl' := hl.isList Sp
        obtain ⟨ol, hol, hcl, nl, hdl⟩ := hl'
        obtain ⟨ocls, odict, odata, oslots⟩ := ol
        simp only at hcl hdl
        subst hcl; subst hdl
        have hsls := F.sub_list_set
        have hslf := F.sub_list_frozenset
        have hne : (Value.type "list" == Value.type "dict") = false := by decide
        unfold Builtin.«set.__init__» noKeywords Builtin.Frozenset.updateFrom
        generalize hPI : pyIter = PI
        wp_walk
        subst hPI
        refine iter_list Sp hl0 fun it s2 S2 => ?_
        refine wpAny_bind (wpAny_runValue ?_)
        refine updLoop (n := 1) ?_ hb hz bs.length 0 s2 (by omega) (Nat.zero_le _) S2 hl fun s3 S3 => ?_
        · exact (((R.less (m := 4) (by omega)).in1).in1).in1
        · show wpAny _ _ _ _ _ _
          refine wpAny_pure ?_
          show wpAny _ _ (ret Value.none) _ _ _
          exact wpAny_pure ⟨rfl, S3⟩
      · cases r₂ with
        | error e => exact hr₂
        | ok fl₂ =>
          cases fl₂ with
          | ret r =>
            obtain ⟨rfl, S3⟩ := hr₂
            repeat (any_goals (first | assumption | wp_step))
            exact h _ _ S3
          | _ => exact hr₂.elim
    | _ => exact hr.elim
end
end Mine

end
section
open PySem PySem.W PySem.Calls PySem.SeqAt PyProof.Rows Builtin
set_option Elab.async false
set_option maxRecDepth 100000
set_option linter.unusedVariables false
namespace Mine

theorem slot_setit_next : Slot "set_iterator" "__next__" "set_iterator.__next__" :=
  .of (owner := "set_iterator") (n := "__next__") (by rw [typeLookup_type, builtinLookup_eq_fast]; kernel_rfl) (by decide +kernel) (by decide +kernel) (by decide +kernel)
    (by first | exact .inl (by decide +kernel) | exact .inr (by decide +kernel)) (by rw [isSubtype_type]; kernel_rfl)
theorem slot_setit_iter : Slot "set_iterator" "__iter__" "set_iterator.__iter__" :=
  .of (owner := "set_iterator") (n := "__iter__") (by rw [typeLookup_type, builtinLookup_eq_fast]; kernel_rfl) (by decide +kernel) (by decide +kernel) (by decide +kernel)
    (by first | exact .inl (by decide +kernel) | exact .inr (by decide +kernel)) (by rw [isSubtype_type]; kernel_rfl)
theorem entry_setit_next : entryFor table "set_iterator.__next__" = some Builtin.«set_iterator.__next__» := entryFor_of_tree (by kernel_rfl)
theorem entry_setit_iter : entryFor table "set_iterator.__iter__" = some Builtin.«dict_keyiterator.__iter__» :=
  entryFor_alias (id' := "dict_keyiterator.__iter__") (by kernel_rfl) rfl (by decide +kernel) (by kernel_rfl)
theorem entry_set_iter : entryFor table "set.__iter__" = some Builtin.«frozenset.__iter__» :=
  entryFor_alias (id' := "frozenset.__iter__") (by kernel_rfl) rfl (by decide +kernel) (by kernel_rfl)
theorem owner_setit_next : ("set_iterator.__next__".splitOn ".__next__").headD "" = "set_iterator" := by simp +decide [String.splitOn, String.splitOnAux]

/-! orders -/
theorem erase_perm {α : Type} : ∀ {l : List α} {i : Nat} (h : i < l.length), (l[i] :: l.eraseIdx i).Perm l
  | x :: l, 0, _ => by simp
  | x :: l, i + 1, h => by
    have h' : i < l.length := by simpa using h
    have := erase_perm h'
    simp only [List.getElem_cons_succ, List.eraseIdx_cons_succ]
    exact (List.Perm.swap _ _ _).trans (this.cons _)
theorem wpAny_choose {M : Model} {A : Around} {E : Value → Shared → Prop} {s : Shared} {src : Source} {n : Nat} {Q : Nat → Shared → Prop} (hn : 0 < n) (h : ∀ i, i < n → Q i { s with drawn := s.drawn.bump src }) : wpAny M A (choose src n) Q E s := fun Γ p hΓ => by
  unfold choose
  rw [Sem.wp_choose]
  refine ⟨by omega, ?_⟩
  have := h _ (Nat.mod_lt (M.w.draws src (s.drawn.get src)) hn)
  simpa using this
theorem pick_go {α : Type} (next : Nat → Nat) : ∀ (fuel k : Nat) (left : List α) (out : Array α), left.length ≤ fuel → (pickOrder.go next fuel k left out).toList.Perm (out.toList ++ left)
  | 0, k, left, out, h => by
    have : left = [] := List.length_eq_zero_iff.mp (by omega)
    subst this; unfold pickOrder.go; simp
  | fuel + 1, k, left, out, h => by
    unfold pickOrder.go
    cases hl : left[next k % left.length]? with
    | none =>
      have : left = [] := by
        rcases left with _ | ⟨x, r⟩
        · rfl
        · have := List.getElem?_eq_none_iff.mp hl
          have h2 := Nat.mod_lt (next k) (show 0 < (x :: r).length by simp)
          omega
      subst this; simp
    | some x =>
      obtain ⟨hlt, hx⟩ := List.getElem?_eq_some_iff.mp hl
      dsimp only
      refine (pick_go next fuel (k + 1) _ _ (by rw [List.length_eraseIdx, if_pos hlt]; omega)).trans ?_
      rw [Array.toList_push, List.append_assoc]
      refine List.Perm.append_left _ ?_
      rw [← hx]
      exact erase_perm hlt
theorem pick_perm {α : Type} (next : Nat → Nat) (xs : Array α) : (pickOrder next xs).toList.Perm xs.toList := by
  have := pick_go next xs.size 0 xs.toList #[] (by simp)
  simpa [pickOrder] using this

section
variable {w : World} {A : Around} {E : Value → Shared → Prop} {B B' : Store} {G : Array GenState} {os : OsState} {L L' : Led} {s : Shared} {a : Addr} {S : Bs → Bool} {N : Nat} {k : Bs} {x : Value} {n : Nat}

theorem draw_perm {α : Type} {Q : List α → Shared → Prop} : ∀ (n : Nat) (xs : List α) (s : Shared), xs.length = n → SS B G os L s → (∀ ys s', ys.Perm xs → SS B G os L s' → Q ys s') → wpAny (model thePrg w) A (drawOrder n xs) Q E s := by
  intro n
  induction n generalizing Q with
  | zero =>
    intro xs s h S hQ
    have : xs = [] := List.length_eq_zero_iff.mp h
    subst this
    exact wpAny_pure (hQ [] s (.refl _) S)
  | succ n ih =>
    intro xs s h S hQ
    cases xs with
    | nil => simp at h
    | cons x0 xr =>
      show wpAny _ _ (choose .order (x0 :: xr).length >>= _) _ _ s
      refine wpAny_bind (wpAny_choose (by simp) fun i hlt => ?_)
      have S' := S.toks (s' := { s with drawn := s.drawn.bump .order })
      rw [List.getElem?_eq_getElem hlt]
      dsimp only
      refine wpAny_bind (ih ((x0 :: xr).eraseIdx i) _ (by rw [List.length_eraseIdx, if_pos hlt]; simp at h ⊢; omega) S' fun ys s' hp S2 => ?_)
      exact wpAny_pure (hQ _ s' ((hp.cons _).trans (erase_perm hlt)) S2)

/-- a set that stays -/
def KSet (w : World) (B : Store) (a : Addr) (S : Bs → Bool) (N : Nat) : Prop := ∃ o, B a = some o ∧ SetOB w S N o
theorem KSet.mono (h : KSet w B a S N) (l : Le B B') : KSet w B' a S N := let ⟨o, x, y⟩ := h; ⟨o, l _ _ x, y⟩

theorem inSet {key : Value} {Q : Value → Shared → Prop} (hk : BytV k key) (hS : KSet w B a S N) (hN : N < scanBound) (S0 : SS B G os L s) (h : ∀ s', SS B G os L s' → Q (.bool (S k)) s') : wpAny (model thePrg w) A (compareOp .In key (.ref a)) Q E s := by
  obtain ⟨o, ho, es, ep, t, hex, hd, hel, hmem, hb, hf, -⟩ := hS
  refine wpAny_inSet_of (knd := bytesKind thePrg w) (n := es.size) hk.is (by obtain ⟨u, rfl⟩ := hk; rfl) ⟨o, es, ep, t, S0.keep _ _ ho, hex, hd, hel, hmem, by omega, hf, rfl⟩ (h _ S0.toks)

/-- what an iterator of a set has yet to give -/
def SIt (w : World) (B : Store) (a : Addr) (xs : List Value) (i : Nat) : OP := fun o => o.cls = .type "set_iterator" ∧ ∃ first es ep t oS, B a = some oS ∧ oS.data = .set es ep t ∧ t.fits es.size = true ∧
  o.data = .fields #[first, rawInt (i : Nat), .ref a, rawInt (es.size : Nat), rawInt (ep : Nat)] ∧ i ≤ xs.length ∧
  ((byT w = true ∧ (∃ z : Nat, first = rawInt z) ∧ xs = (pickOrder (w.params.setOrder a ep) es).toList.map (·.2)) ∨
   (byT w = false ∧ es.size ≤ 1 ∧ t.led = true ∧ xs = es.toList.map (·.2) ∧ ∃ z : Nat, first = rawInt z ∧ z = if i = 0 then 0 else t.place.getD 0 0 + 1) ∨
   (byT w = false ∧ ∃ pa op np places, first = .ref pa ∧ B pa = some op ∧ op.data = .seq (List.map (fun p : Nat => rawInt p) places).toArray np ∧ xs = places.filterMap (fun p => es[p]?.map (·.2)) ∧ (∀ p ∈ places, p < es.size)))

theorem drawn_of {es : Array (Int × Value)} {t : SetTable} {o : Obj} {ep : Nat} {Q : Bool → Shared → Prop} (ho : s.heap.get? a = some o) (hd : o.data = .set es ep t) (hf : t.fits es.size = true)
    (h : Q (!byT w && (!t.plain && decide (es.size > 1))) s) : wpAny (model thePrg w) A (setDrawn a) Q E s := by
  unfold setDrawn
  refine wpAny_bind (wpAny_setState_of ho hd hf ?_)
  dsimp only
  refine wpAny_bind ?_
  unfold setsByText
  refine wpAny_bind (wpAny_askSetting (wpAny_pure ?_))
  exact wpAny_pure h

/-- iter(a set) -/
theorem iterSet {Q : Value → Shared → Prop} (hS : KSet w B a S N) (hN : N ≤ 1000) (S0 : SS B G os L s)
    (h : ∀ B' it xs bs s', Le B B' → BytL xs bs → (∀ b, b ∈ bs ↔ S b = true) → bs.length ≤ N → xs.Nodup → SS B' G os ((it, SIt w B' a xs 0) :: L) s' → Q (.ref it) s') : wpAny (model thePrg w) A (pyIter (.ref a)) Q E s := by
  obtain ⟨oS, hoS, es, ep, t, hex, hd, hel, hmem, hb, hf, hl, hp, hnd⟩ := hS
  have ho := S0.keep _ _ hoS
  -- the elements, in any order
  have fin : ∀ (ys : List (Int × Value)), ys.Perm es.toList → ∃ bs, BytL (ys.map (·.2)) bs ∧ (∀ b, b ∈ bs ↔ S b = true) ∧ bs.length ≤ N ∧ (ys.map (·.2)).Nodup := by
    intro ys hy
    have hb' : ∀ e ∈ ys, ∃ b, BytV b e.2 := fun e he => by
      obtain ⟨⟨b, hb, -⟩, -⟩ := hel e (hy.mem_iff.mp he)
      obtain ⟨u, hu⟩ := isBytes_shape hb
      exact ⟨b, u, hu⟩
    have key : ∀ (zs : List (Int × Value)), (∀ e ∈ zs, ∃ b, BytV b e.2) → ∃ bs, BytL (zs.map (·.2)) bs ∧ (∀ b, b ∈ bs ↔ ∃ e ∈ zs, BytV b e.2) ∧ bs.length = zs.length := by
      intro zs
      induction zs with
      | nil => intro _; exact ⟨[], Rel2.nil, fun b => by simp, rfl⟩
      | cons e zs ih =>
        intro hz
        obtain ⟨b0, hb0⟩ := hz e (.head _)
        obtain ⟨bs, h1, h2, h3⟩ := ih fun e he => hz e (.tail _ he)
        refine ⟨b0 :: bs, Rel2.cons hb0 h1, fun b => ?_, by simp [h3]⟩
        rw [List.mem_cons, h2]
        constructor
        · rintro (rfl | ⟨e', he', hb'⟩)
          · exact ⟨e, .head _, hb0⟩
          · exact ⟨e', .tail _ he', hb'⟩
        · rintro ⟨e', he', hb'⟩
          rcases List.mem_cons.mp he' with rfl | he'
          · obtain ⟨u, hu⟩ := hb0
            obtain ⟨u', hu'⟩ := hb'
            rw [hu] at hu'
            injection hu' with e1 _
            exact .inl (by injection e1.symm)
          · exact .inr ⟨e', he', hb'⟩
    obtain ⟨bs, h1, h2, h3⟩ := key ys hb'
    refine ⟨bs, h1, fun b => ?_, by rw [h3, hy.length_eq]; simpa using hb, (hy.map _).nodup_iff.mpr hnd⟩
    rw [h2, hmem]
    constructor
    · rintro ⟨e, he, hb⟩; exact ⟨e, hy.mem_iff.mp he, hb.is⟩
    · rintro ⟨e, he, hb⟩
      obtain ⟨u, hu⟩ := isBytes_shape hb
      exact ⟨e, hy.mem_iff.mpr he, u, hu⟩
  have hT : s.TypeIs (.ref a) "set" := ⟨oS, ho, hex.1⟩
  have fits := hf
  simp only [SetTable.fits, Bool.and_eq_true, beq_iff_eq, decide_eq_true_eq] at fits
  refine wpAny_pyIter_slot hT F.slot_set_iter (wpAny_call_entry F.slot_set_iter hT entry_set_iter ?_ (F.args_set_iter_1 _))
  unfold Builtin.«frozenset.__iter__» Builtin.Frozenset.slot0 slotArgs
  simp only [List.isEmpty_nil, Bool.not_true, Bool.false_eq_true, ↓reduceIte, bind_assoc, List.length_nil, bne_self_eq_false]
  unfold Builtin.Frozenset.addrOf Builtin.Frozenset.sizeOf
  refine wpAny_bind (wpAny_pure ?_)
  try dsimp only
  refine wpAny_bind (wpAny_pure ?_)
  refine wpAny_bind (wpAny_bind (wpAny_setEntries_of ho hd hf (wpAny_pure ?_)))
  refine wpAny_bind (drawn_of ho hd hf ?_)
  -- the tail
  have tail : ∀ (B' : Store) (s : Shared) (first : Value) (xs : List Value) (bs : List Bs), Le B B' → SS B' G os L s → BytL xs bs → (∀ b, b ∈ bs ↔ S b = true) → bs.length ≤ N → xs.Nodup →
      (∀ o : Obj, o.cls = .type "set_iterator" → o.data = .fields #[first, rawInt (0 : Nat), .ref a, rawInt (es.size : Nat), rawInt (ep : Nat)] → SIt w B' a xs 0 o) →
      wpAny (model thePrg w) A.in1 (do ret (← newFields "set_iterator" [first, rawInt 0, .ref a, rawInt es.size, rawInt (← setEpoch a)])) (fun fin s' => ∃ r, fin = .done (.ret r) ∧ ∃ T' r', s'.TypeIs r T' ∧ typeLookup (.type T') "__next__" = pure (some r') ∧ Q r s') E s := by
    intro B' s first xs bs le S1 h1 h2 h3 h4 hs
    refine wpAny_bind (wpAny_setEpoch_of (S1.keep _ _ (le _ _ hoS)) hd hf ?_)
    refine wpAny_bind ?_
    simp only [newFields]
    refine wpAny_newObj_type ?_ (by size_fits)
    refine wpAny_pure ⟨_, rfl, "set_iterator", _, ⟨_, Heap.get?_push_size _ rfl, rfl⟩, slot_setit_next.lookup, ?_⟩
    exact h B' _ xs bs _ le h1 h2 h3 h4 (S1.push { cls := .type "set_iterator", data := .fields #[first, rawInt 0, .ref a, rawInt es.size, rawInt ep] } (hs _ rfl rfl))
  cases hbt : byT w with
  | true =>
    simp only [Bool.not_true, Bool.false_and, Bool.false_eq_true, ↓reduceIte]
    refine wpAny_bind (wpAny_pure ?_)
    obtain ⟨bs, h1, h2, h3, h4⟩ := fin _ (pick_perm (w.params.setOrder a ep) es)
    exact tail B s _ _ bs (Le.refl _) S0 h1 h2 h3 h4 fun o hc hdat => ⟨hc, rawInt 0, es, ep, t, oS, hoS, hd, hf, hdat, Nat.zero_le _, .inl ⟨hbt, ⟨0, rfl⟩, rfl⟩⟩
  | false =>
    rw [hbt] at hl
    by_cases hsz : es.size > 1
    · rw [hp (by omega), decide_eq_true hsz]
      simp only [Bool.not_false, Bool.and_self, ↓reduceIte]
      refine wpAny_bind (draw_perm es.size (List.range es.size) s (by simp) S0 fun places s' hperm S1 => ?_)
      refine wpAny_bind (newTuple_ S1 (by have := hperm.length_eq; simp at this ⊢; omega) fun pa s2 S2 => ?_)
      obtain ⟨B', op, le, ⟨_, _, np, hdp⟩, hBp, S3⟩ := S2.freeze
      have hpl : ∀ p ∈ places, p < es.size := fun p hp => by simpa using hperm.mem_iff.mp hp
      have hx : (places.filterMap (fun p => es[p]?.map (·.2))) = (places.filterMap (fun p => es[p]?)).map (·.2) := by rw [List.map_filterMap]
      have hpe : (places.filterMap (fun p => es[p]?)).Perm es.toList := by
        refine (hperm.filterMap _).trans (List.Perm.of_eq ?_)
        exact filterMap_getElem?_range es
      obtain ⟨bs, h1, h2, h3, h4⟩ := fin _ hpe
      rw [← hx] at h1 h4
      exact tail B' s2 _ _ bs le S3 h1 h2 h3 h4 fun o hc hdat => ⟨hc, .ref pa, es, ep, t, oS, le _ _ hoS, hd, hf, hdat, Nat.zero_le _, .inr (.inr ⟨hbt, pa, op, np, places, rfl, hBp, hdp, rfl, hpl⟩)⟩
    · rw [decide_eq_false hsz]
      simp only [Bool.and_false, Bool.false_eq_true, ↓reduceIte]
      refine wpAny_bind (wpAny_pure ?_)
      obtain ⟨bs, h1, h2, h3, h4⟩ := fin _ (List.Perm.refl _)
      exact tail B s _ _ bs (Le.refl _) S0 h1 h2 h3 h4 fun o hc hdat => ⟨hc, rawInt 0, es, ep, t, oS, hoS, hd, hf, hdat, Nat.zero_le _, .inr (.inl ⟨hbt, by omega, hl, rfl, 0, rfl, rfl⟩)⟩
end
end Mine

end
section
open PySem PySem.W PySem.Calls PySem.SeqAt PyProof.Rows Builtin
set_option Elab.async false
set_option maxRecDepth 100000
set_option linter.unusedVariables false
namespace Mine
theorem args_setit_next (a : Value) : argsOk "set_iterator.__next__" ⟨[a], []⟩ := by unfold argsOk; kernel_rfl
theorem args_setit_iter (a : Value) : argsOk "set_iterator.__iter__" ⟨[a], []⟩ := by unfold argsOk; kernel_rfl
section
variable {w : World} {A : Around} {E : Value → Shared → Prop} {B B' : Store} {G : Array GenState} {os : OsState} {L L' : Led} {s : Shared} {a it : Addr} {S : Bs → Bool} {N : Nat} {k : Bs} {x : Value} {n : Nat}

/-- the iterator's record is turned -/
theorem setFieldS {P P' : OP} {o : Obj} {vs : Array Value} {j : Nat} {v : Value} {Q : Unit → Shared → Prop} (S : SS B G os ((it, P) :: L) s) (ho : s.heap.get? it = some o) (hd : o.data = .fields vs) (hj : j < vs.size)
    (hP : ∀ o' : Obj, o'.cls = o.cls → o'.data = .fields (vs.setIfInBounds j v) → P' o') (h : ∀ s' o', SS B G os ((it, P') :: L) s' → s'.heap.get? it = some o' → o'.cls = o.cls → o'.data = .fields (vs.setIfInBounds j v) → Q () s') :
    wpAny (model thePrg w) A (setField (.ref it) j v) Q E s := by
  refine wpAny_setField ho hd hj ?_
  have hg := Heap.get?_update_self (Obj.mapFields (·.setIfInBounds j v)) ho (Obj.isFreed_of_fields (Obj.data_mapFields hd _))
  exact h _ _ (S.upd (s' := { s with heap := s.heap.update it (Obj.mapFields (·.setIfInBounds j v)) }) (Heap.SameBut.update ..) hg (hP _ (Obj.cls_mapFields ..) (Obj.data_mapFields hd _))) hg (Obj.cls_mapFields ..) (Obj.data_mapFields hd _)

/-- the end of an iterator -/
theorem stopS {Q : Except Value (Option Value) → Shared → Prop} (hh : A.handled = none) (h : ∀ e h', (∀ b o, s.heap.get? b = some o → h'.get? b = some o) → Shared.TypeIs { s with heap := h' } (.ref e) "StopIteration" → E (.ref e) { s with heap := h' }) :
    wpAny (model thePrg w) A (do raiseNew (← newExc (.type "StopIteration") []) : Sem PySem.Fin) (fun _ _ => False) E s := by
  refine wpAny_bind ?_
  simp only [newExc, newTuple]
  refine wpAny_bind (wpAny_newObj_type ?_ (by size_fits))
  refine wpAny_bind (m := firstArgMember _ _) (wpAny_of_eq (a := Value.none) (by first | rfl | (simp only [firstArgMember]; rfl)) ?_)
  refine wpAny_newObj_type ?_ (by size_fits)
  simp only [raiseNew]
  refine wpAny_bind (wpAny_handled ?_)
  rw [hh]
  refine wpAny_bind (wpAny_pure (wpAny_throw ?_))
  exact h _ _ (fun b o hb => Heap.get?_push_of_some _ (Heap.get?_push_of_some _ hb)) ⟨_, Heap.get?_push_size _ rfl, rfl⟩

set_option maxHeartbeats 1000000 in
theorem nextSet {xs : List Value} {i : Nat} {Q : Option Value → Shared → Prop} (hh : A.handled = none) (S0 : SS B G os ((it, SIt w B a xs i) :: L) s)
    (h1 : ∀ v s', xs[i]? = some v → i < xs.length → SS B G os ((it, SIt w B a xs (i + 1)) :: L) s' → Q (some v) s') (h2 : ∀ s', i = xs.length → SS B G os L s' → Q none s') : wpAny (model thePrg w) A (pyNext (.ref it)) Q E s := by
  obtain ⟨o, ho, hc, first, es, ep, t, oS, hoS, hdS, hf, hd, hi, hcase⟩ := S0.get .head
  have hT : s.TypeIs (.ref it) "set_iterator" := ⟨o, ho, hc⟩
  have hS := S0.keep _ _ hoS
  have fits := hf
  simp only [SetTable.fits, Bool.and_eq_true, beq_iff_eq, decide_eq_true_eq] at fits
  unfold pyNext
  refine wpAny_bind (wpAny_attempt (wpAny_callSpecial?_slot (name := Str.ofString "__next__") hT slot_setit_next (wpAny_call_entry slot_setit_next hT entry_setit_next ?_ (args_setit_next _))))
  unfold Builtin.«set_iterator.__next__» slotArgs
  simp only [List.isEmpty_nil, Bool.not_true, Bool.false_eq_true, ↓reduceIte, bind_assoc, List.length_nil, bne_self_eq_false]
  refine wpAny_bind (wpAny_pure ?_)
  refine wpAny_bind (wpAny_fieldsOf ho hd ?_)
  dsimp only [rawInt]
  refine wpAny_bind (wpAny_setEntries_of hS hdS hf ?_)
  rw [if_neg (by simp)]
  have hii : (i : Int).toNat = i := rfl
  have hep : (ep : Int).toNat = ep := rfl
  -- the end
  have stop : ∀ (s : Shared) (P : OP), i = xs.length → SS B G os ((it, P) :: L) s → wpAny (model thePrg w) A.in1 (do raiseNew (← newExc (.type "StopIteration") []) : Sem PySem.Fin)
      (fun fin s' => ∃ v, fin = .done (.ret v) ∧ wpAny (model thePrg w) A (pure (some v)) Q E s')
      (fun e s' => wpAny (model thePrg w) A (do if ← isInstance e (.type "StopIteration") then pure none else throw e) Q E s') s := by
    intro s P hx S
    refine wpAny_mono (stopS (Q := fun _ _ => True) (A := A.in1) hh fun e h' hk hTe => ?_) (fun _ _ h => h.elim) fun _ _ h => h
    refine wpAny_bind (wpAny_isInstance (T := "StopIteration") (b := true) hTe isSubtype_stop ?_)
    exact wpAny_pure (h2 _ hx (S.drop.ext hk))
  rcases hcase with ⟨hbt, ⟨z, rfl⟩, hxs⟩ | ⟨hbt, hsz, hled, hxs, z, rfl, hz⟩ | ⟨hbt, pa, op, np, places, rfl, hBp, hdp, hxs, hpl⟩
  · -- by the text
    dsimp only [rawInt]
    refine wpAny_bind ?_
    unfold setNext
    refine wpAny_bind (wpAny_setState_of hS hdS hf ?_)
    dsimp only
    unfold setsByText
    refine wpAny_bind (wpAny_bind (wpAny_askSetting (wpAny_pure ?_)))
    refine wpAny_ite_split (fun _ => ?_) fun hno => absurd (show (w.params.followText "set-order") = true from hbt) hno
    rw [hep, if_neg (by simp)]
    refine wpAny_bind ?_
    unfold setWalk
    refine wpAny_bind (wpAny_setState_of hS hdS hf ?_)
    dsimp only
    unfold setsByText
    refine wpAny_bind (wpAny_bind (wpAny_askSetting (wpAny_pure ?_)))
    refine wpAny_ite_split (fun _ => ?_) fun hno => absurd (show (w.params.followText "set-order") = true from hbt) hno
    refine wpAny_bind (wpAny_askSetting (wpAny_pure ?_))
    refine wpAny_pure ?_
    rw [hii]
    have hx : ((pickOrder (w.params.setOrder a ep) es)[i]?.map fun e => (e.2, (z : Int).toNat)) = xs[i]?.map fun v => (v, (z : Int).toNat) := by
      rw [hxs, List.getElem?_map, Array.getElem?_toList, Option.map_map]; rfl
    rw [show (Option.map (fun e : Int × Value => (e.2, (z : Int).toNat)) (pickOrder (({ program := (model thePrg w).prog, params := (model thePrg w).w.params } : Setting).params.setOrder a ep) es)[i]?) = xs[i]?.map fun v => (v, (z : Int).toNat) from hx]
    by_cases hlt : i < xs.length
    · rw [List.getElem?_eq_getElem hlt]
      refine wpAny_bind (setFieldS (P' := fun _ => True) S0 ho hd (by simp) (fun _ _ _ => trivial) fun s1 o1 S1 ho1 hc1 hd1 => ?_)
      refine wpAny_bind (setFieldS (P' := SIt w B a xs (i + 1)) S1 ho1 hd1 (by simp) (fun o' hc' hd' => ⟨hc'.trans (hc1.trans hc), rawInt z, es, ep, t, oS, hoS, hdS, hf, ?_, hlt, .inl ⟨hbt, ⟨z, rfl⟩, hxs⟩⟩) fun s2 o2 S2 _ _ _ => ?_)
      · rw [hd']; simp [rawInt]
      · exact wpAny_pure ⟨_, rfl, wpAny_pure (h1 _ s2 (List.getElem?_eq_getElem hlt) hlt S2)⟩
    · rw [List.getElem?_eq_none (by omega)]
      refine wpAny_bind (setFieldS (P' := fun _ => True) S0 ho hd (by simp) (fun _ _ _ => trivial) fun s1 o1 S1 ho1 hc1 hd1 => ?_)
      exact stop s1 _ (by omega) S1
  · -- at most one element
    dsimp only [rawInt]
    refine wpAny_bind ?_
    unfold setNext
    refine wpAny_bind (wpAny_setState_of hS hdS hf ?_)
    dsimp only
    unfold setsByText
    refine wpAny_bind (wpAny_bind (wpAny_askSetting (wpAny_pure ?_)))
    refine wpAny_ite_split (fun hyes => absurd (show byT w = true from hyes) (by rw [hbt]; simp)) fun _ => ?_
    refine wpAny_ite_split (fun h => ?_) fun _ => ?_
    · have h' : (!t.plain && decide (es.size > 1)) = true := h
      simp at h'; omega
    obtain ⟨mask, place, dummies, finger, led, moves, plain⟩ := t
    simp only at hled fits hz
    subst hled
    refine wpAny_bind (m := _) (wpAny_of_eq (a := ()) rfl ?_)
    dsimp only
    have hzz : (z : Int).toNat = z := rfl
    rw [hzz]
    have hxl : xs.length = es.size := by rw [hxs]; simp
    by_cases hlt : i < xs.length
    · have hi0 : i = 0 := by omega
      have hes1 : es.size = 1 := by omega
      subst hi0
      rw [if_pos rfl] at hz
      subst hz
      obtain ⟨p, hp⟩ : ∃ p, place = #[p] := by
        have : place.size = 1 := by rw [fits.1]; exact hes1
        exact Array.size_eq_one_iff.mp this
      subst hp
      obtain ⟨e, he⟩ : ∃ e, es = #[e] := Array.size_eq_one_iff.mp hes1
      subst he
      have hb0 : SetTable.below #[p] 0 = 0 := by simp [SetTable.below, SetTable.below.go]
      rw [hb0]
      refine wpAny_pure ?_
      show wpAny _ _ (do setField (Value.ref it) 0 (Value.int ((p + 1 : Nat) : Int) 0); setField (Value.ref it) 1 (Value.int ((0 : Nat) + 1) 0); ret e.2) _ _ s
      refine wpAny_bind (setFieldS (P' := fun _ => True) S0 ho hd (by simp) (fun _ _ _ => trivial) fun s1 o1 S1 ho1 hc1 hd1 => ?_)
      refine wpAny_bind (setFieldS (P' := SIt w B a xs (0 + 1)) S1 ho1 hd1 (by simp) (fun o' hc' hd' => ⟨hc'.trans (hc1.trans hc), rawInt ((p + 1 : Nat) : Int), #[e], ep, _, oS, hoS, hdS, hf, ?_, hlt, .inr (.inl ⟨hbt, hsz, rfl, hxs, p + 1, rfl, by simp⟩)⟩) fun s2 o2 S2 _ _ _ => ?_)
      · rw [hd']; simp [rawInt]
      · exact wpAny_pure ⟨_, rfl, wpAny_pure (h1 _ s2 (by rw [hxs]; rfl) hlt S2)⟩
    · have hb : es[SetTable.below place z]? = none := by
        by_cases h0 : es.size = 0
        · rw [Array.getElem?_eq_none]; omega
        · have hes1 : es.size = 1 := by omega
          have hi1 : i = 1 := by omega
          subst hi1
          obtain ⟨p, hp⟩ : ∃ p, place = #[p] := by
            have : place.size = 1 := by rw [fits.1]; exact hes1
            exact Array.size_eq_one_iff.mp this
          subst hp
          have hz1 : z = p + 1 := by simpa using hz
          subst hz1
          have hb0 : SetTable.below #[p] (p + 1) = 1 := by simp [SetTable.below, SetTable.below.go]
          rw [hb0, Array.getElem?_eq_none]; omega
      rw [hb]
      refine wpAny_pure ?_
      show wpAny _ _ (do setField (Value.ref it) 2 Value.none; raiseNew (← newExc (.type "StopIteration") [])) _ _ s
      refine wpAny_bind (setFieldS (P' := fun _ => True) S0 ho hd (by simp) (fun _ _ _ => trivial) fun s1 o1 S1 ho1 hc1 hd1 => ?_)
      exact stop s1 _ (by omega) S1
  · -- drawn
    dsimp only
    refine wpAny_bind (wpAny_seqItems (S0.keep _ _ hBp) hdp ?_)
    dsimp only
    rw [hii]
    have hxl : xs.length = places.length := by
      rw [hxs]
      have : ∀ l : List Nat, (∀ p ∈ l, p < es.size) → (l.filterMap (fun p => es[p]?.map (·.2))).length = l.length := by
        intro l
        induction l with
        | nil => intro _; rfl
        | cons p l ih =>
          intro h
          have hp := h p (.head _)
          rw [List.filterMap_cons, getElem?_pos es p hp]
          simp [ih fun q hq => h q (.tail _ hq)]
      exact this places hpl
    have hxi : ∀ i (h : i < places.length), xs[i]? = (es[places[i]]?).map (·.2) := by
      rw [hxs]
      have : ∀ (l : List Nat), (∀ p ∈ l, p < es.size) → ∀ i (h : i < l.length), (l.filterMap (fun p => es[p]?.map (·.2)))[i]? = (es[l[i]]?).map (·.2) := by
        intro l
        induction l with
        | nil => intro _ i h; simp at h
        | cons p l ih =>
          intro h i hi
          have hp := h p (.head _)
          rw [List.filterMap_cons, getElem?_pos es p hp]
          cases i with
          | zero => simp [hp]
          | succ i => simpa using ih (fun q hq => h q (.tail _ hq)) i (by simpa using hi)
      exact this places hpl
    by_cases hlt : i < xs.length
    · have hlp : i < places.length := by omega
      have hg : (List.map (fun p : Nat => rawInt p) places).toArray[i]? = some (.int (places[i] : Nat) 0) := by simp [hlp, rawInt]
      rw [hg]
      dsimp only
      have hp := hpl _ (List.getElem_mem hlp)
      refine wpAny_bind ?_
      unfold setNextDrawn
      refine wpAny_bind (wpAny_setState_of hS hdS hf ?_)
      dsimp only
      rw [hep, if_neg (by simp), show ((places[i] : Nat) : Int).toNat = places[i] from rfl, getElem?_pos es _ hp]
      refine wpAny_pure ?_
      refine wpAny_bind (setFieldS (P' := SIt w B a xs (i + 1)) S0 ho hd (by simp) (fun o' hc' hd' => ⟨hc'.trans hc, .ref pa, es, ep, t, oS, hoS, hdS, hf, ?_, hlt, .inr (.inr ⟨hbt, pa, op, np, places, rfl, hBp, hdp, hxs, hpl⟩)⟩) fun s2 o2 S2 _ _ _ => ?_)
      · rw [hd']; simp [rawInt]
      · exact wpAny_pure ⟨_, rfl, wpAny_pure (h1 _ s2 (by rw [hxi i hlp, getElem?_pos es _ hp]; rfl) hlt S2)⟩
    · have hg : (List.map (fun p : Nat => rawInt p) places).toArray[i]? = none := by simp; omega
      rw [hg]
      dsimp only
      refine wpAny_bind (setFieldS (P' := fun _ => True) S0 ho hd (by simp) (fun _ _ _ => trivial) fun s1 o1 S1 ho1 hc1 hd1 => ?_)
      refine wpAny_bind (setFieldS (P' := fun _ => True) S1 ho1 hd1 (by simp) (fun _ _ _ => trivial) fun s2 o2 S2 ho2 hc2 hd2 => ?_)
      exact stop s2 _ (by omega) S2

/-- an iterator of a set is its own -/
theorem selfSet {xs : List Value} {i : Nat} {Q : Value → Shared → Prop} (S0 : SS B G os L s) (e : Sel it (SIt w B a xs i) L L') (h : Q (.ref it) s) : wpAny (model thePrg w) A (pyIter (.ref it)) Q E s := by
  obtain ⟨o, ho, hc, -⟩ := S0.get e
  have hT : s.TypeIs (.ref it) "set_iterator" := ⟨o, ho, hc⟩
  refine wpAny_pyIter_slot hT slot_setit_iter (wpAny_call_entry slot_setit_iter hT entry_setit_iter ?_ (args_setit_iter _))
  show wpAny _ _ (ret (.ref it)) _ _ s
  exact wpAny_pure ⟨_, rfl, "set_iterator", _, hT, slot_setit_next.lookup, h⟩
end
end Mine

end
section
open PySem PySem.W PySem.Calls PySem.SeqAt PyProof.Rows Builtin
set_option Elab.async false
set_option maxRecDepth 100000
set_option linter.unusedVariables false
namespace Mine
section
variable {w : World} {A : Around} {E : Value → Shared → Prop} {B B' : Store} {G : Array GenState} {os : OsState} {L L' : Led} {s : Shared} {a it D : Addr} {S : Bs → Bool} {N : Nat} {k : Bs} {x : Value} {n : Nat}

theorem extLoop {xs : List Value} {Rr : Result → Shared → Prop} (hh : A.handled = none) (hz : xs.length ≤ 1000) : ∀ (m i : Nat) (s : Shared), xs.length - i = m → i ≤ xs.length →
    SS B G os ((it, SIt w B a xs i) :: (D, ListO (xs.take i)) :: L) s → (∀ s', SS B G os ((D, ListO xs) :: L) s' → Rr (.ok (.ret (.ref D))) s') →
    codeAny (model thePrg w) A (.builtin "list.extend.loop" ⟨[.ref D, .ref it, .ref D], []⟩) Rr s := by
  intro m
  induction m with
  | zero =>
    intro i s hm hi S0 h
    refine codeAny_builtin F.entry_extend_loop ?_
    rw [Around.under_plainId F.plain_extend_loop _]
    show wpAny _ A.in1 (pyNext (.ref it) >>= _) _ _ s
    refine wpAny_bind (nextSet hh S0 (fun v s' _ hlt _ => by omega) fun s' hx S1 => ?_)
    show wpAny _ _ (ret (.ref D)) _ _ s'
    rw [show i = xs.length by omega, List.take_length] at S1
    exact wpAny_pure (h s' S1)
  | succ m ih =>
    intro i s hm hi S0 h
    refine codeAny_builtin F.entry_extend_loop ?_
    rw [Around.under_plainId F.plain_extend_loop _]
    show wpAny _ A.in1 (pyNext (.ref it) >>= _) _ _ s
    refine wpAny_bind (nextSet hh S0 (fun v s' hv hlt S1 => ?_) fun s' hx S1 => by omega)
    obtain ⟨ne, S1⟩ := (S1.front (e := .tail .head)).listE
    show wpAny _ _ (Builtin.List.listUpdate (.ref D) (·.push v) >>= _) _ _ s'
    refine wpAny_bind (updE S1 (vs' := xs.take i ++ [v]) (by simp) (by simp; omega) (by simp; omega) fun n2 s2 S2 => ?_)
    refine wpAny_pure ⟨plainId_quiet F.plain_extend_loop _, ih (i + 1) s2 (by omega) hlt ?_ h⟩
    have e : xs.take (i + 1) = xs.take i ++ [v] := by rw [List.take_add_one, hv]; rfl
    rw [e]
    exact (S2.weak fun o h => h.listO).front (e := .tail .head)

/-- the elements of a set -/
theorem collectSet {Q : List Value → Shared → Prop} (hh : A.handled = none) (hS : KSet w B a S N) (hN : N ≤ 1000) (S0 : SS B G os L s)
    (h : ∀ B' xs bs s', Le B B' → BytL xs bs → (∀ b, b ∈ bs ↔ S b = true) → bs.length ≤ N → xs.Nodup → SS B' G os L s' → Q xs s') : wpAny (model thePrg w) A (collect (.ref a)) Q E s := by
  have hS' := hS
  obtain ⟨oS, hoS, es, ep, t, hex, -⟩ := hS'
  unfold collect
  refine wpAny_bind (wpAny_runValue (codeAny_builtin entry_proto_collect' ?_))
  show wpAny _ _ (do again (.builtin "list.__iadd__" ⟨[← newList [], .ref a], []⟩)) _ _ s
  refine wpAny_bind (newList_ S0 (by simp) fun D s S1 => ?_)
  refine wpAny_pure ⟨Code.quiet_builtin _ (by decide +kernel), codeAny_builtin entry_list_iadd' ?_⟩
  show wpAny _ _ (Builtin.List.listExtendWith (.ref D) (.ref a) (.ref D)) _ _ s
  have hDa : D ≠ a := fun e => by have := S1.new _ (List.Mem.head _); rw [e, hoS] at this; cases this
  have hT : s.TypeIs (.ref a) "set" := ⟨oS, S1.keep _ _ hoS, hex.1⟩
  unfold Builtin.List.listExtendWith
  refine wpAny_bind (wpAny_typeOf hT ?_)
  have h1 : Builtin.List.listSameRef (.ref D) (.ref a) = false := by simp [Builtin.List.listSameRef, hDa]
  have h2 : (Value.type "set" == Value.type "list") = false := by decide
  have h3 : (Value.type "set" == Value.type "tuple") = false := by decide
  simp only [h1, h2, h3, Bool.or_false, Bool.false_eq_true, if_false]
  refine wpAny_bind (iterSet hS hN S1 fun B' it xs bs s le hb hm hl hnd S2 => ?_)
  have hT : s.TypeIs (.ref a) "set" := ⟨oS, S2.keep _ _ (le _ _ hoS), hex.1⟩
  refine wpAny_bind (wpAny_holding ?_)
  unfold Builtin.List.listLengthHint
  refine wpAny_bind (wpAny_specialOf hT F.slot_set_len.lookup ?_)
  dsimp only
  refine wpAny_bind (wpAny_isInstance (T := "set") (b := true) hT sub_set_self ?_)
  simp only [Bool.not_true, Bool.false_eq_true, if_false]
  refine wpAny_bind (wpAny_typeOf hT ?_)
  refine wpAny_pure ?_
  show wpAny _ _ (rule "list.extend.makes-room" >>= fun _ => Builtin.List.listTouch (.ref D) >>= fun _ => again (.builtin "list.extend.loop" ⟨[.ref D, .ref it, .ref D], []⟩)) _ _ _
  refine wpAny_bind (wpAny_rule ?_)
  refine wpAny_bind ?_
  have hxl : xs.length ≤ 1000 := by have := hb.1; omega
  obtain ⟨n0, S3⟩ := (S2.front (e := .tail .head)).listE
  unfold Builtin.List.listTouch
  refine wpAny_bind (updE S3 (vs' := [.none]) (by simp) (by simp) (by simp) fun n1 s S3 => ?_)
  refine updE S3 (vs' := []) (by simp) (by simp) (by simp) fun n2 s S3 => ?_
  have S4 := (S3.weak fun o h => h.listO).front (e := .tail .head)
  refine wpAny_pure ⟨plainId_quiet F.plain_extend_loop _, extLoop (xs := xs) hh hxl xs.length 0 s (by omega) (Nat.zero_le _) S4 fun s S5 => ?_⟩
  obtain ⟨oD, hoD, hDc, hDd, nD, hDD⟩ := S5.get .head
  refine wpAny_bind (wpAny_load hoD ?_)
  rw [hDD]
  exact wpAny_pure (h B' xs bs s le hb hm hl hnd S5.drop)

/-! sorting bytes -/
theorem ltsBytes {a₀ : Array Keyed} (h : ∀ e ∈ a₀.toList, ∃ b, BytV b e.1) : Lts (model thePrg w) A E s oneType' a₀ (fun e => match e.1 with | .bytes b _ => (0, b.toList) | _ => kd) := by
  intro st i j x y Q hB hi hj mx my hq
  obtain ⟨b, t, hb⟩ := h x mx
  obtain ⟨c, u, hc⟩ := h y my
  obtain ⟨x1, x2⟩ := x
  obtain ⟨y1, y2⟩ := y
  simp only at hb hc
  subst hb hc
  rw [ltAt'_eq]
  refine wpS_bind (wpS_get ?_)
  show wpS _ _ _ _ (do let x ← elem' (arrOf st) i; let y ← elem' (arrOf st) j; lt' x y) Q st
  rw [elem'_eq, elem'_eq, hi, hj]
  refine wpS_bind (wpS_pure (wpS_bind (wpS_pure ?_)))
  rw [lt'_eq]
  refine wpS_bind (wpS_get ?_)
  rw [hB.kind, keyLt'_oneType]
  refine wpS_bind (wpS_lift (wpAny_attempt ?_))
  · rw [oneLt'_eq]
    simp only [if_true]
    refine wpAny_bind (wpAny_cRoomFor_byValue rfl ?_)
    refine wpAny_bind (wpAny_callSpecialIfBound?_slot (T := "bytes") rfl slot_bytes_lt (wpAny_call_entry slot_bytes_lt rfl entry_bytes_lt ?_ (args_bytes_lt_2 _ _)))
    show wpAny _ _ (isInstance (.bytes c.toArray u) (.type "bytes") >>= fun r => _) _ _ s
    refine wpAny_bind (wpAny_isInstance (typeIs_bytes s c.toArray u) F.sub_bytes_bytes ?_)
    refine wpAny_pure ⟨_, rfl, ?_⟩
    refine wpAny_truthy_bool ⟨rfl, ?_⟩
    refine wpS_pure ?_
    have e : kLt (0, b) (0, c) = bLt b c := by
      unfold kLt; dsimp only; rw [if_pos rfl]
      split
      · rename_i e; rw [e, bLt_irrefl]
      · rfl
    rw [show Bytes.holds "__lt__" (Bytes.order b.toArray.toList c.toArray.toList) = kLt (0, b) (0, c) from e.symm]; exact hq

theorem kind_bytes {vs : List Value} (h : ∀ v ∈ vs, ∃ b, BytV b v) (h2 : 2 ≤ vs.length) : keyKind' vs.toArray = pure oneType' := by
  have hf : ∀ l : List Value, (∀ v ∈ l, ∃ b, BytV b v) → l.mapM firstOfTuple' = pure (l.map fun _ => none) := by
    intro l
    induction l with
    | nil => intro _; simp
    | cons v l ih =>
      intro h
      obtain ⟨b, t, rfl⟩ := h v (.head _)
      rw [List.mapM_cons, ih fun v hv => h v (.tail _ hv)]
      show (pure none >>= fun x => pure _ >>= fun xs => pure (x :: xs)) = _
      simp
  have ht : ∀ l : List Value, (∀ v ∈ l, ∃ b, BytV b v) → l.mapM typeOf = pure (l.map fun _ => Value.type "bytes") := by
    intro l
    induction l with
    | nil => intro _; simp
    | cons v l ih =>
      intro h
      obtain ⟨b, t, rfl⟩ := h v (.head _)
      rw [List.mapM_cons, ih fun v hv => h v (.tail _ hv)]
      show (pure (Value.type "bytes") >>= fun x => pure _ >>= fun xs => pure (x :: xs)) = _
      simp
  match vs, h2 with
  | v1 :: v2 :: rest, _ =>
    rw [keyKind'_eq, List.mapM_toArray, hf _ h]
    simp only [map_pure, pure_bind]
    rw [if_neg (by simp), if_neg (by simp)]
    rw [oneTypeOnly'_eq, List.mapM_toArray, ht _ h]
    simp only [map_pure, pure_bind]
    have hall : ((List.map (fun _ => Value.type "bytes") (v1 :: v2 :: rest)).toArray.all fun x => x == Value.type "bytes") = true := by
      simp only [List.all_toArray, List.all_map, List.all_eq_true]
      intro _ _
      rfl
    have h0 : (List.map (fun _ => Value.type "bytes") (v1 :: v2 :: rest)).toArray[0]? = some (Value.type "bytes") := by simp
    rw [h0]
    simp only [hall, if_true, pure_bind, Option.isSome_some]

/-- l.sort(): what is asked of the kind and of the comparisons -/
theorem sort_plain {vs : List Value} {kd' : SortKind} {ky : Keyed → Key} {Q : Value → Shared → Prop} (S0 : SS B G os ((a, ListO vs) :: L) s) (hz : vs.length < 64) (hvn : vs.Nodup)
    (hk : 2 ≤ vs.length → ∀ s Q', SS B G os L s → Q' kd' s → wpAny (model thePrg w) A.in1 (keyKind' vs.toArray) Q' E s)
    (hL : ∀ s E', SS B G os L s → Lts (model thePrg w) A.in1 E' s kd' (vs.toArray.zip vs.toArray) ky)
    (h : ∀ s' vs', SS B G os ((a, ListO vs') :: L) s' → vs'.Perm vs → vs'.Pairwise (fun x y => kLe (ky (x, x)) (ky (y, y))) → Q .none s') : wpAny (model thePrg w) A (call (.builtin "list.sort") [.ref a]) Q E s := by
  obtain ⟨n0, S0⟩ := S0.listE
  obtain ⟨oa, hoa, hca, -⟩ := S0.get .head
  refine wpAny_call_entry slot_list_sort ⟨_, hoa, hca⟩ entry_list_sort ?_ (args_list_sort _)
  rw [list_sort_plain]
  refine wpAny_bind (itemsE S0 .head ?_)
  refine wpAny_bind (updE S0 (vs' := []) rfl (by omega) (by simp) fun n1 s S => ?_)
  refine wpAny_bind (epochE S .head ?_)
  refine wpAny_bind (newTuple_ S (by simp; omega) fun tu s S => ?_)
  have S := S.drop
  refine wpAny_bind (newList_ S (by simp) fun kS s S => ?_)
  have S := S.drop
  refine wpAny_holding ?_
  obtain ⟨po, hpo⟩ := pos_of hvn
  let a₀ : Array Keyed := vs.toArray.zip vs.toArray
  have hsz : a₀.size = vs.length := by simp [a₀]
  have hget : ∀ (i : Nat) (e : Keyed), a₀[i]? = some e → vs[i]? = some e.1 ∧ vs[i]? = some e.2 := fun i e he => by
    obtain ⟨x, y⟩ := e
    simpa [a₀, Array.getElem?_zip_eq_some, List.getElem?_zip_eq_some] using he
  have hpo' : ∀ (i : Nat) (e : Keyed), a₀[i]? = some e → (fun e : Keyed => po e.2) e = i := fun i e he => hpo i _ (hget i e he).2
  have fin : ∀ (st : SortSt), (arrOf st).Perm a₀ → failedOf st = none → Asc ky (fun e => po e.2) (arrOf st) (arrOf st).size → ∀ s, SS B G os ((a, ListE [] n1) :: L) s →
      wpAny (model thePrg w) A.in1 (do
        let sorted := (arrOf st).map (·.2)
        let touched := (← seqEpoch a) != n1
        Builtin.List.listUpdate (.ref a) fun _ => sorted
        if let some e := failedOf st then rule "list.sort.comparison-raised"; throw e
        if touched then rule "list.sort.modified"; raiseError "ValueError" "list modified during sort"
        ret .none) (fun fin s' => ∃ v, fin = .done (.ret v) ∧ Q v s') E s := by
    intro st hp hf hs s S
    have hl : (arrOf st).toList.Perm a₀.toList := Array.perm_iff_toList_perm.mp hp
    have same : ∀ e ∈ (arrOf st).toList, e.1 = e.2 := fun e he => by
      obtain ⟨i, hi, rfl⟩ := List.mem_iff_getElem.mp (hl.mem_iff.mp he)
      have h1 : a₀[i]? = some a₀.toList[i] := by simp at hi; simp [hi]
      have := hget i _ h1
      rw [this.1] at this
      exact Option.some.inj this.2
    refine wpAny_bind (epochE S .head ?_)
    refine wpAny_bind (updE S (vs' := ((arrOf st).map (·.2)).toList) (by rw [Array.toArray_toList]) (by simp) (by have := hp.size_eq; simp; omega) fun n2 s S => ?_)
    rw [hf]
    simp only [bne_self_eq_false, Bool.false_eq_true, if_false]
    refine wpAny_pure ⟨_, rfl, h s _ (S.weak fun o h => h.listO) ?_ ?_⟩
    · have e2 : a₀.toList.map (·.2) = vs := by
        show (vs.toArray.zip vs.toArray).toList.map Prod.snd = vs
        rw [Array.toList_zip]
        exact List.map_snd_zip (Nat.le_refl _)
      rw [Array.toList_map]
      exact (hl.map _).trans (List.Perm.of_eq e2)
    · rw [Array.toList_map, List.pairwise_map, List.pairwise_iff_getElem]
      intro i j hi hj hij
      have hi' : i < (arrOf st).size := by simpa using hi
      have hj' : j < (arrOf st).size := by simpa using hj
      have hh := sl_le (hs i j hij hj')
      unfold ke at hh
      rw [getElem?_pos _ i hi', getElem?_pos _ j hj'] at hh
      have e1 := same _ (List.getElem_mem hi)
      have e2 := same _ (List.getElem_mem hj)
      simp only [Array.getElem_toList] at e1 e2 ⊢
      have f1 : ((arrOf st)[i].2, (arrOf st)[i].2) = (arrOf st)[i] := Prod.ext e1.symm rfl
      have f2 : ((arrOf st)[j].2, (arrOf st)[j].2) = (arrOf st)[j] := Prod.ext e2.symm rfl
      rw [f1, f2]; exact hh
  by_cases h2 : vs.toArray.size < 2
  · rw [if_pos h2, if_pos h2]
    refine wpAny_bind (wpAny_pure ?_)
    dsimp only
    rw [StateT.run_pure]
    refine wpAny_bind (wpAny_pure ?_)
    refine fin (SortSt.mk' general' a₀ #[] 7 none) (Array.Perm.refl _) rfl ?_ s S
    intro i j hij hj
    have hj' : j < a₀.size := hj
    rw [hsz] at hj'
    simp at h2
    omega
  · rw [if_neg h2, if_neg h2]
    have h2' : 2 ≤ vs.length := by simpa using h2
    refine wpAny_bind (hk h2' s _ S.drop ?_)
    refine wpAny_bind (wpAny_mono (sortRuns_ (a₀ := a₀) (kd := kd') (ky := ky) (po := fun e => po e.2) (st := SortSt.mk' kd' a₀ #[] 7 none)
      (Q := fun _ st' => (arrOf st').Perm a₀ ∧ failedOf st' = none ∧ Asc ky (fun e => po e.2) (arrOf st') (arrOf st').size)
      (hL s _ S.drop) hpo' ⟨Array.Perm.refl _, rfl, rfl, rfl⟩ rfl (by omega) (by omega) fun st' a1 a2 a3 => ⟨a1, a2, by rw [a1.size_eq]; exact a3⟩) ?_ fun _ _ e => e)
    rintro ⟨⟨⟩, st'⟩ s' ⟨rfl, hp, hf, hs⟩
    exact fin st' hp hf hs _ S

theorem ltsBytes' {vs : List Value} (h : ∀ v ∈ vs, ∃ b, BytV b v) : Lts (model thePrg w) A E s oneType' (vs.toArray.zip vs.toArray) (fun e => match e.1 with | .bytes b _ => (0, b.toList) | _ => kd) := by
  refine ltsBytes fun e he => ?_
  rw [Array.toList_zip] at he
  exact h _ (List.of_mem_zip he).1

/-- sorted(a set) -/
theorem sortedSet {Q : Value → Shared → Prop} (hh : A.handled = none) (hS : KSet w B a S N) (hN : N ≤ 60) (S0 : SS B G os L s)
    (h : ∀ B' D vs bs s', Le B B' → BytL vs bs → (∀ b, b ∈ bs ↔ S b = true) → bs.length ≤ N → SS B' G os ((D, ListO vs) :: L) s' → Q (.ref D) s') : wpAny (model thePrg w) A (call (.builtin "sorted") [.ref a]) Q E s := by
  refine Calls.call_function_entry kind_sorted plain_sorted entry_sorted (args_sorted1 _) ?_
  unfold Builtin.«sorted»
  refine wpAny_bind (m := checkCount "sorted" 1 1 _) (wpAny_pure ?_)
  refine wpAny_bind (collectSet hh hS (by omega) S0 fun B' xs bs s le hb hm hl hnd S1 => ?_)
  have hxl : xs.length ≤ 60 := by have := hb.1; omega
  refine wpAny_bind (newList_ S1 (by omega) fun D s S2 => ?_)
  have hby : ∀ v ∈ xs, ∃ b, BytV b v := fun v hv => by
    obtain ⟨i, hi, rfl⟩ := List.mem_iff_getElem.mp hv
    have := hb.1
    exact ⟨_, hb.2 i _ _ (List.getElem?_eq_getElem hi) (List.getElem?_eq_getElem (by omega))⟩
  refine wpAny_bind (wpAny_holding (sort_plain S2 (by omega) hnd (fun h2 s Q' _ hq => wpAny_of_eq (kind_bytes hby h2) hq) (fun s E' _ => ltsBytes' hby) fun s vs' S3 hp _ => ?_))
  refine wpAny_pure ⟨_, rfl, ?_⟩
  obtain ⟨bs', hb', hp'⟩ : ∃ bs', BytL vs' bs' ∧ bs'.Perm bs := by
    have key : ∀ {us vs : List Value}, us.Perm vs → ∀ {bs : List Bs}, BytL vs bs → ∃ bs', BytL us bs' ∧ bs'.Perm bs := by
      intro us vs hp
      induction hp with
      | nil => intro bs hb; exact ⟨bs, hb, .refl _⟩
      | cons x _ ih =>
        intro bs hb
        cases bs with
        | nil => exact absurd hb.1 (by simp)
        | cons b bs =>
          obtain ⟨h1, h2⟩ := hb.tail
          obtain ⟨bs', h3, h4⟩ := ih h2
          exact ⟨b :: bs', Rel2.cons h1 h3, h4.cons _⟩
      | swap x y l =>
        intro bs hb
        match bs, hb with
        | [], hb => exact absurd hb.1 (by simp)
        | [_], hb => exact absurd hb.1 (by simp)
        | b :: c :: bs, hb =>
          obtain ⟨h1, h2⟩ := hb.tail
          obtain ⟨h3, h4⟩ := h2.tail
          exact ⟨c :: b :: bs, Rel2.cons h3 (Rel2.cons h1 h4), .swap _ _ _⟩
      | trans _ _ ih1 ih2 =>
        intro bs hb
        obtain ⟨b2, h1, h2⟩ := ih2 hb
        obtain ⟨b3, h3, h4⟩ := ih1 h1
        exact ⟨b3, h3, h4.trans h2⟩
    exact key hp hb
  exact h B' D vs' bs' s le hb' (fun b => by rw [hp'.mem_iff, hm]) (by rw [hp'.length_eq]; exact hl) S3
end
end Mine

end
section
open PySem PySem.W PySem.Calls PyProof.Rows Builtin
set_option Elab.async false
set_option maxRecDepth 100000
set_option linter.unusedVariables false
namespace Mine
section
variable {w : World} {A : Around} {E : Value → Shared → Prop} {B B' : Store} {G : Array GenState} {os : OsState} {L L' : Led} {s : Shared} {a it D : Addr} {n : Nat}

theorem IsPair.fn {v : Value} {k k' : Key} (h : IsPair B v k) (h' : IsPair B v k') : k = k' := by
  obtain ⟨a1, o1, n1, t1, u1, e1, b1, -, -, d1⟩ := h
  obtain ⟨a2, o2, n2, t2, u2, e2, b2, -, -, d2⟩ := h'
  rw [e1] at e2; cases e2
  rw [b1] at b2; cases b2
  rw [d1] at d2
  injection d2 with d2 _
  simp at d2
  exact Prod.ext d2.1.1 d2.2.1
open Classical in
noncomputable def pk (B : Store) (v : Value) : Key := if h : ∃ k, IsPair B v k then h.choose else kd
theorem IsPair.pk {v : Value} {k : Key} (h : IsPair B v k) : Mine.pk B v = k := by
  unfold Mine.pk
  rw [dif_pos ⟨k, h⟩]
  exact (Exists.choose_spec (⟨k, h⟩ : ∃ k, IsPair B v k)).fn h

theorem ltsPairs {vs : List Value} (S : SS B G os L s) (h : ∀ v ∈ vs, ∃ k, IsPair B v k) : Lts (model thePrg w) A E s (tuples' true) (vs.toArray.zip vs.toArray) (fun e => pk B e.1) := by
  have h' : ∀ e ∈ (vs.toArray.zip vs.toArray).toList, ∃ k, IsPair B e.1 k := fun e he => by
    rw [Array.toList_zip] at he
    exact h _ (List.of_mem_zip he).1
  intro st i j x y Q hB hi hj mx my hq
  obtain ⟨kx, hx⟩ := h' x mx
  obtain ⟨ky, hy⟩ := h' y my
  obtain ⟨x1, x2⟩ := x
  obtain ⟨y1, y2⟩ := y
  simp only at hx hy
  dsimp only at hq
  rw [hx.pk, hy.pk] at hq
  rw [ltAt'_eq]
  refine wpS_bind (wpS_get ?_)
  show wpS _ _ _ _ (do let x ← elem' (arrOf st) i; let y ← elem' (arrOf st) j; lt' x y) Q st
  rw [elem'_eq, elem'_eq, hi, hj]
  refine wpS_bind (wpS_pure (wpS_bind (wpS_pure ?_)))
  rw [lt'_eq]
  refine wpS_bind (wpS_get ?_)
  rw [hB.kind]
  refine wpS_bind (wpS_lift (wpAny_attempt ?_))
  obtain ⟨a1, o1, n1, t1, u1, rfl, b1, -, -, d1⟩ := hx
  obtain ⟨a2, o2, n2, t2, u2, rfl, b2, -, -, d2⟩ := hy
  refine kat_lt (S.keep _ _ b1) d1 (S.keep _ _ b2) d2 ?_
  show KatLex thePrg w A true _ _ [(.int kx.1 t1, .int ky.1 t2), (.bytes kx.2.toArray u1, .bytes ky.2.toArray u2)] 0 s
  unfold kLt at hq
  refine kat_cons (wpAny_eqBool_int (kat_go (fun h1 => ?_) fun h1 => ?_))
  · have h1 : kx.1 = ky.1 := by simpa using h1
    rw [if_pos h1] at hq
    refine kat_yes (kat_cons (eqBool_bytes (kat_go (fun h2 => ?_) fun h2 => ?_)))
    · have h2 : kx.2 = ky.2 := by simpa using h2
      rw [if_pos h2] at hq
      refine kat_yes (kat_nil ?_)
      exact ⟨rfl, wpS_pure hq⟩
    · have h2 : ¬ kx.2 = ky.2 := by simpa using h2
      rw [if_neg h2] at hq
      refine kat_no (kat_one _ _ (rc_lt_bytes ?_))
      exact ⟨rfl, wpS_pure hq⟩
  · have h1 : ¬ kx.1 = ky.1 := by simpa using h1
    rw [if_neg h1] at hq
    refine kat_no ?_
    show wpAny _ _ (oneLt' true _ _) _ _ _
    exact oneLt_int ⟨rfl, wpS_pure hq⟩

theorem kind_pairs {vs : List Value} {Q : SortKind → Shared → Prop} (S : SS B G os L s) (h : ∀ v ∈ vs, ∃ k, IsPair B v k) (h2 : 2 ≤ vs.length) (hq : Q (tuples' true) s) : wpAny (model thePrg w) A (keyKind' vs.toArray) Q E s := by
  have : ∀ vs : List Value, (∀ v ∈ vs, ∃ k, IsPair B v k) → ∃ fs : List Value, fs.length = vs.length ∧ KatTups s.heap vs fs ∧ ∀ v ∈ fs, ∃ i t, v = .int i t := by
    intro vs
    induction vs with
    | nil => intro _; exact ⟨[], rfl, .nil, fun _ h => nomatch h⟩
    | cons v vs ih =>
      intro h
      obtain ⟨fs, e, t, ht⟩ := ih fun v hv => h v (.tail _ hv)
      obtain ⟨k, a1, o1, n1, t1, u1, rfl, b1, c1, -, d1⟩ := h v (.head _)
      exact ⟨.int k.1 t1 :: fs, by simp [e], .cons (S.keep _ _ b1) c1 d1 rfl t, fun v hv => by
        rcases List.mem_cons.mp hv with rfl | hv
        · exact ⟨_, _, rfl⟩
        · exact ht v hv⟩
  obtain ⟨fs, e, t, ht⟩ := this vs h
  refine kat_kind t (by omega) (T := .type "int") (fun v hv => ?_) (by decide) hq
  obtain ⟨i, t, rfl⟩ := ht v hv
  exact .now

theorem Rel2.perm {α β : Type} {R : α → β → Prop} {us vs : List α} (hp : us.Perm vs) : ∀ {bs : List β}, Rel2 R vs bs → ∃ bs', Rel2 R us bs' ∧ bs'.Perm bs := by
  induction hp with
  | nil => intro bs hb; exact ⟨bs, hb, .refl _⟩
  | cons x _ ih =>
    intro bs hb
    cases bs with
    | nil => exact absurd hb.1 (by simp)
    | cons b bs =>
      obtain ⟨h1, h2⟩ := hb.tail
      obtain ⟨bs', h3, h4⟩ := ih h2
      exact ⟨b :: bs', Rel2.cons h1 h3, h4.cons _⟩
  | swap x y l =>
    intro bs hb
    match bs, hb with
    | [], hb => exact absurd hb.1 (by simp)
    | [_], hb => exact absurd hb.1 (by simp)
    | b :: c :: bs, hb =>
      obtain ⟨h1, h2⟩ := hb.tail
      obtain ⟨h3, h4⟩ := h2.tail
      exact ⟨c :: b :: bs, Rel2.cons h3 (Rel2.cons h1 h4), .swap _ _ _⟩
  | trans _ _ ih1 ih2 =>
    intro bs hb
    obtain ⟨b2, h1, h2⟩ := ih2 hb
    obtain ⟨b3, h3, h4⟩ := ih1 h1
    exact ⟨b3, h3, h4.trans h2⟩

/-- sorted(a list of pairs) -/
theorem sortedPairs {l : Addr} {vs : List Value} {ks : List Key} {Q : Value → Shared → Prop} (hh : A.handled = none) (S0 : SS B G os L s) (hl : KList B l vs) (hr : Rel2 (IsPair B) vs ks) (hnd : ks.Nodup) (hz : ks.length < 64)
    (h : ∀ D vs' ks' s', Rel2 (IsPair B) vs' ks' → ks'.Perm ks → ks'.Pairwise kLe → SS B G os ((D, ListO vs') :: L) s' → Q (.ref D) s') : wpAny (model thePrg w) A (call (.builtin "sorted") [.ref l]) Q E s := by
  have hlv : vs.length = ks.length := hr.1
  have hvn : vs.Nodup := by
    rw [List.nodup_iff_pairwise_ne, List.pairwise_iff_getElem]
    intro i j hi hj hij e
    have h1 := hr.2 i _ _ (List.getElem?_eq_getElem hi) (List.getElem?_eq_getElem (by omega))
    have h2 := hr.2 j _ _ (List.getElem?_eq_getElem hj) (List.getElem?_eq_getElem (by omega))
    rw [e] at h1
    exact absurd ((List.getElem_inj hnd).mp (h1.fn h2)) (by omega)
  have hby : ∀ v ∈ vs, ∃ k, IsPair B v k := fun v hv => by
    obtain ⟨i, hi, rfl⟩ := List.mem_iff_getElem.mp hv
    exact ⟨_, hr.2 i _ _ (List.getElem?_eq_getElem hi) (List.getElem?_eq_getElem (by omega))⟩
  refine Calls.call_function_entry kind_sorted plain_sorted entry_sorted (args_sorted1 _) ?_
  unfold Builtin.«sorted»
  refine wpAny_bind (m := checkCount "sorted" 1 1 _) (wpAny_pure ?_)
  refine wpAny_bind (collect_list (hl.isList S0) ?_ (by unfold sizeLine; omega))
  have S1 : SS B G os L { s with heap := (s.heap.push (seqObj "list" #[] 0)).update s.heap.objs.size (Obj.mapSeq (· ++ vs.toArray)) } := by
    have S1 : SS B G os ((s.heap.objs.size, ListO []) :: L) { s with heap := s.heap.push (seqObj "list" #[] 0) } := S0.push (seqObj "list" #[] 0) ⟨rfl, rfl, 0, rfl⟩
    exact S1.dropBut (Heap.SameBut.update ..)
  refine wpAny_bind (newList_ S1 (by omega) fun D s S2 => ?_)
  refine wpAny_bind (wpAny_holding (sort_plain S2 (by omega) hvn (fun h2 s Q' S hq => kind_pairs S hby h2 hq) (fun s E' S => ltsPairs S hby) fun s vs' S3 hp hs => ?_))
  refine wpAny_pure ⟨_, rfl, ?_⟩
  obtain ⟨ks', hb', hp'⟩ := Rel2.perm hp hr
  refine h D vs' ks' s hb' hp' ?_ S3
  rw [List.pairwise_iff_getElem] at hs ⊢
  intro i j hi hj hij
  have hl' : vs'.length = ks'.length := hb'.1
  have := hs i j (by omega) (by omega) hij
  have e1 := hb'.2 i _ _ (List.getElem?_eq_getElem (by omega)) (List.getElem?_eq_getElem hi)
  have e2 := hb'.2 j _ _ (List.getElem?_eq_getElem (by omega)) (List.getElem?_eq_getElem hj)
  rw [e1.pk, e2.pk] at this
  exact this
end
end Mine

end
section
open PySem PySem.W PySem.Calls PySem.SeqAt PyProof.Rows Builtin
set_option Elab.async false
set_option maxRecDepth 100000
set_option linter.unusedVariables false
namespace Mine

/-- a cell that stays -/
def KCell (B : Store) (c : Addr) (v : Value) : Prop := ∃ o, B c = some o ∧ CellO (some v) o
theorem KCell.mono {B B' : Store} {c : Addr} {v : Value} (h : KCell B c v) (l : Le B B') : KCell B' c v := let ⟨o, a, b⟩ := h; ⟨o, l _ _ a, b⟩

section
variable {w : World} {A : Around} {E : Value → Shared → Prop} {B B' : Store} {G : Array GenState} {os : OsState} {L L' : Led} {s : Shared} {env : Env} {sc : Scope} {Lf : Addr} {cl clos : List (Str × Addr)} {cd : Value} {n : Nat} {x : Str} {pos : Pos} {v : Value} {a it D : Addr}

theorem KCell.at {c : Addr} (h : KCell B c v) (S : SS B G os L s) : s.heap.IsCell c (some v) := let ⟨o, a, b⟩ := h; ⟨o, S.keep _ _ a, b⟩
theorem nmKC {c : Addr} {Q : Value → Shared → Prop} (I : EnvIs env sc Lf cl cd) (S : SS B G os L s) (hx : sc.names.lookup x = some .cell) (hd : (x == ("__debug__" : Str)) = false)
    (hc : cl.lookup x = some c) (e : KCell B c v) (h : Q v s) : wpAny (model thePrg w) A (eval (.Name x pos) env) Q E s :=
  wpAny_Name (wpAny_loadName_cell (v := v) I.fk (I.kind hx) (by rw [I.cells]; exact hc) (e.at S) h) hd
theorem nmKF {c : Addr} {Q : Value → Shared → Prop} (I : EnvIs env sc Lf cl cd) (S : SS B G os L s) (hx : sc.names.lookup x = some .free) (hd : (x == ("__debug__" : Str)) = false) (hd2 : (x == ("__classdict__" : Str)) = false)
    (hc : cl.lookup x = some c) (e : KCell B c v) (h : Q v s) : wpAny (model thePrg w) A (eval (.Name x pos) env) Q E s :=
  wpAny_Name (wpAny_loadName_free (v := v) I.fk (I.kind hx) (by rw [I.cells]; exact hc) (e.at S) h hd2) hd

/-! ranges -/
def RngO (x left : Int) : OP := Is { cls := .type "range_iterator", dict := none, data := .fields #[rawInt x, rawInt left, rawInt 1], slots := #[] }
theorem range1W {k : Int} {t : Tok} {Q : Value → Shared → Prop} (S : SS B G os L s) (h0 : 0 ≤ k) (hk : k ≤ 1000) (h : ∀ r s', SS B G os L s' → (∃ t u v, IsRange s'.heap r 0 k 1 t u v) → Q (.ref r) s') : wpAny (model thePrg w) A (call (.type "range") [.int k t]) Q E s := by
  refine call_range_1 ?_
  refine h _ _ (S.ext fun b o e => Heap.get?_push_of_some _ e) ⟨_, _, _, Heap.get?_push_size _ rfl⟩
theorem range2W {j k : Int} {t u : Tok} {Q : Value → Shared → Prop} (S : SS B G os L s) (h : ∀ r s', SS B G os L s' → (∃ t u v, IsRange s'.heap r j k 1 t u v) → Q (.ref r) s') : wpAny (model thePrg w) A (call (.type "range") [.int j t, .int k u]) Q E s := by
  refine call_range_2 ?_
  refine h _ _ (S.ext fun b o e => Heap.get?_push_of_some _ e) ⟨_, _, _, Heap.get?_push_size _ rfl⟩
theorem iterRng {r : Addr} {j k : Int} {Q : Value → Shared → Prop} (S : SS B G os L s) (hr : ∃ t u v, IsRange s.heap r j k 1 t u v) (h0 : 0 ≤ j) (hk : j ≤ k) (hk2 : k ≤ 1000) (h : ∀ it s', SS B G os ((it, RngO j (k - j)) :: L) s' → Q (.ref it) s') :
    wpAny (model thePrg w) A (pyIter (.ref r)) Q E s := by
  obtain ⟨t, u, v, hr⟩ := hr
  have hsz : Builtin.Range.rangeSize j k 1 = k - j := by rw [rangeSize_nat]; omega
  refine wpAny_pyIter_range hr (small_one (by omega) (by omega) (by omega) (by omega)) ?_
  rw [hsz]
  exact h _ _ (S.push { cls := .type "range_iterator", data := .fields #[rawInt j, rawInt (k - j), rawInt 1] } rfl)
theorem nextRng {x left : Int} {Q : Option Value → Shared → Prop} (hh : A.handled = none) (S : SS B G os ((it, RngO x left) :: L) s)
    (h1 : ∀ t s', 0 < left → SS B G os ((it, RngO (x + 1) (left - 1)) :: L) s' → Q (some (.int x t)) s') (h2 : ∀ s', left ≤ 0 → SS B G os L s' → Q none s') : wpAny (model thePrg w) A (pyNext (.ref it)) Q E s := by
  have hit : IsRangeIter s.heap it x left 1 := S.exact .head
  by_cases hl : 0 < left
  · exact wpAny_pyNext_range_item hit hl fun h' hi hs => h1 _ _ hl (S.upd hs hi rfl)
  · refine wpAny_pyNext_range_end hh hit (by omega) fun h' he => h2 _ (by omega) ?_
    have hn := List.nodup_cons.mp (show (it :: L.map (·.1)).Nodup from S.nodup)
    refine ⟨fun b o e => he b o (fun q => ?_) (S.keep b o e), fun p hp => ?_, fun p hp => S.new p (.tail _ hp), hn.2, S.gens, S.os⟩
    · have := S.new _ (List.Mem.head _); rw [q, this] at e; cases e
    · obtain ⟨o, e, y⟩ := S.led p (.tail _ hp)
      exact ⟨o, he p.1 o (fun q => hn.1 (q ▸ List.mem_map_of_mem hp)) e, y⟩
theorem selfRng {x left : Int} {Q : Value → Shared → Prop} (S : SS B G os L s) (e : Sel it (RngO x left) L L') (h : Q (.ref it) s) : wpAny (model thePrg w) A (pyIter (.ref it)) Q E s :=
  wpAny_pyIter_rangeiter (S.exact e) h
theorem letGoR {x left : Int} {target : Expr} {v : Value} {Q : Unit → Shared → Prop} (S : SS B G os L s) (e : Sel it (RngO x left) L L') (h : Q () s) : wpAny (model thePrg w) A (letOwnedTupleGo target (.ref it) v) Q E s :=
  letGo (S.exact e) rfl (by decide) h
theorem letGoS {xs : List Value} {i : Nat} {target : Expr} {v : Value} {Q : Unit → Shared → Prop} (S : SS B G os L s) (e : Sel it (SIt w B a xs i) L L') (h : Q () s) : wpAny (model thePrg w) A (letOwnedTupleGo target (.ref it) v) Q E s := by
  obtain ⟨oi, hoi, hci, -⟩ := S.get e
  exact letGo hoi hci (by decide) h

/-! max, + of lists, bytes of one number -/
theorem maxL {l : Addr} {vs : List Value} {ns : List Int} {Q : Value → Shared → Prop} (hh : A.handled = none) (S : SS B G os L s) (hl : s.heap.IsList l vs.toArray) (hi : IntsAre vs ns) (hne : 0 < ns.length)
    (h : ∀ M t s', M ∈ ns → (∀ a, a ∈ ns → a ≤ M) → SS B G os L s' → Q (.int M t) s') : wpAny (model thePrg w) A (call (.builtin "max") [.ref l]) Q E s := by
  obtain ⟨xs, e⟩ := hi.allInts.items
  have hns : ns = xs.toList.map (·.1) := by
    rw [← hi.numsOf, ← nums_intItems, ← e]
  have hsz : 0 < xs.size := by
    have h3 := hne; rw [hns, List.length_map, Array.length_toList] at h3; exact h3
  rw [e] at hl
  refine max_intList hh hl hsz fun v h' tk hv hk => ?_
  obtain ⟨t, rfl⟩ := intItems_at hv
  obtain ⟨h1, h2⟩ := argBest_gt (numAt xs) (xs.size - 1)
  refine h _ t _ ?_ (fun a ha => ?_) (S.ext (s' := { s with heap := h', toks := tk }) hk)
  · rw [hns, numAt_eq]; exact getD_mem (by rw [List.length_map, Array.length_toList]; omega)
  · rw [hns] at ha
    obtain ⟨j, hj, rfl⟩ := mem_getD ha
    rw [List.length_map, Array.length_toList] at hj
    rw [← numAt_eq]; exact h2 j (by omega)
theorem addL {l b : Addr} {vs ws : List Value} {Q : Value → Shared → Prop} (S : SS B G os L s) (hl : s.heap.IsList l vs.toArray) (hb : s.heap.IsList b ws.toArray) (hz : vs.length + ws.length ≤ 1000)
    (h : ∀ D s', SS B G os ((D, ListO (vs ++ ws)) :: L) s' → Q (.ref D) s') : wpAny (model thePrg w) A (binaryOp .Add (.ref l) (.ref b)) Q E s := by
  obtain ⟨o1, ho1, hc1, n1, hd1⟩ := hl
  obtain ⟨o2, ho2, hc2, n2, hd2⟩ := hb
  obtain ⟨c1, d1, e1, s1⟩ := o1
  obtain ⟨c2, d2, e2, s2⟩ := o2
  simp only at hc1 hd1 hc2 hd2
  subst hc1 hd1 hc2 hd2
  refine concat_meets ⟨_, ho1, rfl⟩ ⟨_, ho2, rfl⟩ noFill_list_add seq_list_add F.slot_list_add F.entry_list_add (F.args_list_add_2 _ _) (list_addW l b vs.toArray ws.toArray n1 n2 d1 d2 s1 s2 (by simp [sizeLine]; omega)) ⟨ho1, ho2, ?_⟩
  refine h _ _ (S.push (s' := { s with heap := s.heap.push { cls := Value.type "list", data := Data.seq (vs.toArray ++ ws.toArray) } }) { cls := Value.type "list", data := Data.seq (vs.toArray ++ ws.toArray) } ⟨rfl, rfl, 0, by simp⟩)
theorem bytes1 {l : Addr} {k : Int} {t : Tok} {Q : Value → Shared → Prop} (hh : A.handled = none) (S : SS B G os L s) (hl : s.heap.IsList l #[.int k t]) (h0 : 0 ≤ k) (h1 : k < 256)
    (h : ∀ v s', BytV [UInt8.ofNat k.toNat] v → SS B G os L s' → Q v s') : wpAny (model thePrg w) A (call (.type "bytes") [.ref l]) Q E s := by
  refine call_bytes_ints (vs := [.int k t]) (ns := [k]) hl (.cons k t .nil) (fun n hn => by simp at hn; subst hn; exact ⟨h0, h1⟩) (by simp [sizeLine]) hh fun h' t' k' hk => h _ _ ⟨t', rfl⟩ (S.ext (s' := { s with heap := h', toks := k' }) hk)

/-! comprehensions with a cell of their own -/
theorem newEnvCell {scope : Scope} {globals : Addr} {qual : Str} {outer : Env} {cx : Str} {Q : Env → Shared → Prop}
    (hcs : ∀ m, cellsFrom m scope.names clos = (cx, m) :: clos) (hpc : ∀ h : Heap, pushCells h scope.names = h.push { cls := .type "cell", data := .cell none })
    (h : Q { scope, locals := s.heap.objs.size, globals, cells := (cx, s.heap.objs.size + 1) :: clos, qual, func := none, code := outer.code, frame := outer.frame, builtins := outer.builtins }
      { s with heap := (s.heap.push { cls := .type "dict", data := .dict #[] }).push { cls := .type "cell", data := .cell none } }) :
    wpAny (model thePrg w) A (newFunctionEnv scope globals clos [] qual none .none (some outer)) Q E s := by
  simp only [newFunctionEnv, Option.isSome_some, if_true]
  refine wpAny_bind (wpAny_alloc ?_)
  refine wpAny_bind (wpAny_layCells _ (fun name kind cells => by cases hkc : kind == NameKind.cell <;> simp [hkc]) _ _ _ _ ?_)
  rw [hcs, hpc]
  refine wpAny_bind ?_
  rw [List.forIn_nil]
  refine wpAny_pure (wpAny_pure ?_)
  rw [show ({ s with heap := s.heap.push { cls := .type "dict", data := .dict #[] } } : Shared).heap.objs.size = s.heap.objs.size + 1 from Heap.size_push ..]
  exact h

theorem cellState {nl : List Str} (hnl : nl.Nodup) (S : SS B G os L s) : SS B G os ((s.heap.objs.size, LocO (nl.map fun x => (x, none))) :: (s.heap.objs.size + 1, CellO none) :: L)
    { s with heap := (s.heap.push { cls := .type "dict", data := .dict #[] }).push { cls := .type "cell", data := .cell none } } := by
  have S1 : SS B G os ((s.heap.objs.size, LocO (nl.map fun x => (x, none))) :: L) { s with heap := s.heap.push { cls := .type "dict", data := .dict #[] } } :=
    S.push { cls := .type "dict", data := .dict #[] } ⟨by simpa [List.map_map, Function.comp_def] using hnl, #[], 0, rfl, (fun _ h => by simp at h), fun y => by
      have := locs_binds (binds := []) (rest := nl) (by simpa using hnl) y
      simp only [List.map_nil, List.nil_append, List.reverse_nil, List.lookup_nil] at this
      rw [this]; rfl⟩
  have S2 := S1.push (s' := { s with heap := (s.heap.push { cls := .type "dict", data := .dict #[] }).push { cls := .type "cell", data := .cell none } }) { cls := .type "cell", data := .cell none } (P := CellO none) rfl
  have e : (s.heap.push { cls := .type "dict", data := .dict #[] }).objs.size = s.heap.objs.size + 1 := Heap.size_push ..
  dsimp only at S2
  rw [e] at S2
  exact S2.front (e := .tail .head)

theorem lcompC_core {e : Expr} {scope : Scope} {pos : Pos} {g : Comprehension} {gs : List Comprehension} {first : Sem Value} {cx : Str} {Q : Value → Shared → Prop} (nl : List Str) (I : EnvIs env sc Lf cl cd)
    (hcl : clausesOf e = g :: gs) (hs : ∀ x, foldedSetIterable g.iter env x = pure x) (hclos : closureFor scope { (default : Env) with cells := cl } = pure clos)
    (hkind : scope.kind = .function) (hcs : ∀ m, cellsFrom m scope.names clos = (cx, m) :: clos) (hpc : ∀ h : Heap, pushCells h scope.names = h.push { cls := .type "cell", data := .cell none })
    (hnames : scope.names.all (fun x => x.2 != .local || scope.names.lookup x.1 == some .local) = true) (hnl : decide nl.Nodup = true)
    (h : W (model thePrg w) A first (fun x s₁ => W (model thePrg w) A (pyIter x) (fun it s₂ => ∃ B G L, SS B G os L s₂ ∧ ∀ D C c s₃, SS B G os ((C, LocO (nl.map fun x => (x, none))) :: (c, CellO none) :: (D, ListO []) :: L) s₃ →
      codeAny (model thePrg w) A (.compStart e 0 it (.ref D) (compEnvC scope ((cx, c) :: clos) C env)) (CompR os C fun s'' => Q (.ref D) s'') s₃) s₁) s) :
    W (model thePrg w) A (comprehension e scope env pos (newList []) false first none) Q s := by
  refine wpAny_comprehension_free (use := none) hcl hs (closFor I hclos) hkind (fun x hx hl => ?_) ?_
  · have := List.all_eq_true.mp hnames x hx
    simpa [hl] using this
  refine wpAny_mono h (fun x s₁ h₁ => wpAny_mono h₁ (fun it s₂ h₂ => ?_) fun _ _ x => x) fun _ _ x => x
  obtain ⟨B, G, L, S, h₂⟩ := h₂
  refine newList_ S (by simp) fun D s₃ S => ?_
  refine newEnvCell hcs hpc ?_
  refine codeAny_mono (h₂ D s₃.heap.objs.size (s₃.heap.objs.size + 1) _ (cellState (of_decide_eq_true hnl) S)) fun r s' hr => ?_
  cases r with
  | error x => exact hr.elim
  | ok f =>
    obtain ⟨B', G', l, L', S1, hq⟩ := hr
    obtain ⟨m, hm⟩ := ns_of S1
    exact ⟨m, hm, fun h'' hs'' => hq _ (S1.dropBut hs'')⟩

theorem lcompC {elt : Expr} {gens : List Comprehension} {g : Comprehension} {gs : List Comprehension} {scope : Scope} {pos : Pos} {cx : Str} {Q : Value → Shared → Prop} (nl : List Str) (I : EnvIs env sc Lf cl cd) (hg : gens = g :: gs) (ha : g.is_async = 0)
    (hs : ∀ x, foldedSetIterable g.iter env x = pure x) (hclos : closureFor scope { (default : Env) with cells := cl } = pure clos)
    (hkind : scope.kind = .function) (hcs : ∀ m, cellsFrom m scope.names clos = (cx, m) :: clos) (hpc : ∀ h : Heap, pushCells h scope.names = h.push { cls := .type "cell", data := .cell none })
    (hnames : scope.names.all (fun x => x.2 != .local || scope.names.lookup x.1 == some .local) = true) (hnl : decide nl.Nodup = true)
    (h : W (model thePrg w) A (eval g.iter env) (fun x s₁ => W (model thePrg w) A (pyIter x) (fun it s₂ => ∃ B G L, SS B G os L s₂ ∧ ∀ D C c s₃, SS B G os ((C, LocO (nl.map fun x => (x, none))) :: (c, CellO none) :: (D, ListO []) :: L) s₃ →
      codeAny (model thePrg w) A (.compStart (.ListComp elt gens scope pos) 0 it (.ref D) (compEnvC scope ((cx, c) :: clos) C env)) (CompR os C fun s'' => Q (.ref D) s'') s₃) s₁) s) :
    W (model thePrg w) A (eval (.ListComp elt gens scope pos) env) Q s := by
  subst hg
  obtain ⟨gt, gi, gf, gz⟩ := g
  cases ha
  exact lcompC_core nl I rfl hs hclos hkind hcs hpc hnames hnl h

theorem lcompUseC {x : Str} {px : Pos} {elt : Expr} {gens : List Comprehension} {g : Comprehension} {gs : List Comprehension} {scope : Scope} {pos spos : Pos} {cx : Str} {Q : Flow → Shared → Prop} (nl : List Str) (I : EnvIs env sc Lf cl cd) (hg : gens = g :: gs) (ha : g.is_async = 0)
    (hsw : swapsWith (.ListComp elt gens scope pos) (some (.Name x px)) spos.line env = pure true)
    (hs : ∀ x, foldedSetIterable g.iter env x = pure x) (hclos : closureFor scope { (default : Env) with cells := cl } = pure clos)
    (hkind : scope.kind = .function) (hcs : ∀ m, cellsFrom m scope.names clos = (cx, m) :: clos) (hpc : ∀ h : Heap, pushCells h scope.names = h.push { cls := .type "cell", data := .cell none })
    (hnames : scope.names.all (fun x => x.2 != .local || scope.names.lookup x.1 == some .local) = true) (hnl : decide nl.Nodup = true)
    (h : W (model thePrg w) A (eval g.iter env) (fun x' s₁ => W (model thePrg w) A (pyIter x') (fun it s₂ => ∃ B G L, SS B G os L s₂ ∧ ∀ D C c s₃, SS B G os ((C, LocO (nl.map fun x => (x, none))) :: (c, CellO none) :: (D, ListO []) :: L) s₃ →
      codeAny (model thePrg w) A (.compStart (.ListComp elt gens scope pos) 0 it (.ref D) (compEnvC scope ((cx, c) :: clos) C env)) (fun r s' => match r with
        | .ok _ => W (model thePrg w) A (storeName env x (.ref D)) (fun _ s₄ => ∃ B' G' l L', SS B' G' os ((C, LocO l) :: L') s₄ ∧ ∀ s'', SS B' G' os L' s'' → Q .next s'') s'
        | .error _ => False) s₃) s₁) s) :
    W (model thePrg w) A (exec (.Assign [.Name x px] (.ListComp elt gens scope pos) spos) env) Q s := by
  subst hg
  obtain ⟨gt, gi, gf, gz⟩ := g
  cases ha
  rw [exec_Assign_Name_used _ _ _ _ hsw]
  refine wpAny_bind (wpAny_standAt (wpAny_bind ?_))
  rw [arm_evalThenUse_ListComp]
  refine wpAny_bind ?_
  refine wpAny_comprehension_free (g := ⟨gt, gi, gf, 0⟩) (gs := gs) rfl hs (closFor I hclos) hkind (fun x hx hl => ?_) ?_
  · have := List.all_eq_true.mp hnames x hx
    simpa [hl] using this
  refine wpAny_mono h (fun x s₁ h₁ => wpAny_mono h₁ (fun it s₂ h₂ => ?_) fun _ _ x => x) fun _ _ x => x
  obtain ⟨B, G, L, S, h₂⟩ := h₂
  refine newList_ S (by simp) fun D s₃ S => ?_
  refine newEnvCell hcs hpc ?_
  refine codeAny_mono (h₂ D s₃.heap.objs.size (s₃.heap.objs.size + 1) _ (cellState (of_decide_eq_true hnl) S)) fun r s' hr => ?_
  cases r with
  | error x => exact hr.elim
  | ok f =>
    refine wpAny_assign_Name (wpAny_mono hr (fun _ s₄ h₄ => ?_) fun _ _ x => x)
    obtain ⟨B', G', l, L', S1, hq⟩ := h₄
    obtain ⟨m, hm⟩ := ns_of S1
    exact ⟨m, hm, fun h'' hs'' => wpAny_pure (wpAny_pure (hq _ (S1.dropBut hs'')))⟩

/-! a comprehension's start, and two generators -/
theorem cstartW {elt target iter : Expr} {ifs : List Expr} {rest : List Comprehension} {scope : Scope} {pos : Pos} {it acc : Value} {R : Result → Shared → Prop}
    (h0 : codeAny (model thePrg w) A (.compLoop (.ListComp elt (⟨target, iter, ifs, 0⟩ :: rest) scope pos) 0 it acc env) R s)
    (h : W (model thePrg w) A (pyIter it) (fun it' s' => codeAny (model thePrg w) A (.compLoop (.ListComp elt (⟨target, iter, ifs, 0⟩ :: rest) scope pos) 0 it' acc env) R s') s) :
    codeAny (model thePrg w) A (.compStart (.ListComp elt (⟨target, iter, ifs, 0⟩ :: rest) scope pos) 0 it acc env) R s :=
  codeAny_compStart_list h0 h.up

/-- the inner of two -/
theorem cstart2 {elt t1 i1 t2 i2 : Expr} {f1 f2 : List Expr} {scope : Scope} {pos : Pos} {it acc : Value} {R : Result → Shared → Prop}
    (h0 : codeAny (model thePrg w) A (.compLoop (.ListComp elt [⟨t1, i1, f1, 0⟩, ⟨t2, i2, f2, 0⟩] scope pos) 1 it acc env) R s)
    (h : W (model thePrg w) A (pyIter it) (fun it' s' => codeAny (model thePrg w) A (.compLoop (.ListComp elt [⟨t1, i1, f1, 0⟩, ⟨t2, i2, f2, 0⟩] scope pos) 1 it' acc env) R s') s) :
    codeAny (model thePrg w) A (.compStart (.ListComp elt [⟨t1, i1, f1, 0⟩, ⟨t2, i2, f2, 0⟩] scope pos) 1 it acc env) R s := by
  refine codeAny_of_tree ?_
  show wpAny _ _ ((compStart (.ListComp elt [⟨t1, i1, f1, 0⟩, ⟨t2, i2, f2, 0⟩] scope pos) 1 it acc env).onRaise (fun x => do noteFrame x env; standAt theWindowsPlace)) _ _ s
  refine wpAny_notedAt ?_
  unfold compStart
  show wpAny _ _ (ask >>= _) _ _ s
  refine wpAny_bind (wpAny_askSetting (wpAny_ite ?_))
  split
  · first
      | exact wpAny_bind (wpAny_pure (wpAny_pure (And.intro rfl h0)))
      | exact wpAny_pure (And.intro rfl h0)
  · first
      | exact wpAny_bind (wpAny_rule (wpAny_bind (wpAny_standAt (wpAny_bind (wpAny_mono h.up (fun it' s' h' => wpAny_pure (And.intro rfl h')) fun _ _ x => x)))))
      | (refine wpAny_bind (wpAny_rule ?_); show wpAny _ _ (standAt i2.pos >>= _) _ _ s; exact wpAny_bind (wpAny_standAt (wpAny_bind (wpAny_mono h.up (fun it' s' h' => wpAny_pure (And.intro rfl h')) fun _ _ x => x))))

theorem cloopIn {elt t1 i1 t2 i2 : Expr} {f1 : List Expr} {scope : Scope} {pos : Pos} {it acc : Value} {R : Result → Shared → Prop} (I : Nat → Shared → Prop)
    (turn : ∀ n s, I n s → W (model thePrg w) A (pyNext it) (fun r s₁ => match r with
      | none => R (.ok .next) s₁
      | some v => W (model thePrg w) A (letOwnedTupleGo t2 it v) (fun _ s₁' => W (model thePrg w) A (assign t2 env v) (fun _ s₂ =>
          W (model thePrg w) A (eval elt env) (fun x s₄ => W (model thePrg w) A (call (.builtin "list.append") [acc, x]) (fun _ s₅ => ∃ m, m < n ∧ I m s₅) s₄) s₂) s₁') s₁) s)
    (n : Nat) (h : I n s) : codeAny (model thePrg w) A (.compLoop (.ListComp elt [⟨t1, i1, f1, 0⟩, ⟨t2, i2, [], 0⟩] scope pos) 1 it acc env) R s := by
  refine codeAny_loop rfl I (fun n s hI => ?_) n h
  show wpAny _ A ((compTurn (.ListComp elt [⟨t1, i1, f1, 0⟩, ⟨t2, i2, [], 0⟩] scope pos) 1 it acc env).onRaise (fun x => do noteFrame x env; theTreesLotGoes x)) _ _ s
  refine wpAny_noted ?_
  have e : compTurn (.ListComp elt [⟨t1, i1, f1, 0⟩, ⟨t2, i2, [], 0⟩] scope pos) 1 it acc env = (do
      standAt i2.pos
      match ← pyNext it with
      | none => pure (.done .next)
      | some v =>
        letOwnedTupleGo t2 it v
        assign t2 env v
        (do let _ ← call (.builtin "list.append") [acc, ← eval elt env])
        again (.compLoop (.ListComp elt [⟨t1, i1, f1, 0⟩, ⟨t2, i2, [], 0⟩] scope pos) 1 it acc env)) := by rfl
  rw [e]
  refine wpAny_bind (wpAny_standAt (wpAny_bind (wpAny_mono (turn n s hI) (fun r s₁ h₁ => ?_) fun _ _ h' => h'.elim)))
  cases r with
  | none => exact wpAny_pure h₁
  | some v =>
    refine wpAny_bind (wpAny_mono h₁ (fun _ s₁' h₁' => ?_) fun _ _ h' => h'.elim)
    refine wpAny_bind (wpAny_mono h₁' (fun _ s₂ h₂ => ?_) fun _ _ h' => h'.elim)
    exact wpAny_bind (wpAny_bind (wpAny_mono h₂ (fun x s₄ h₄ => wpAny_bind (wpAny_mono h₄ (fun _ s₅ h₅ => wpAny_pure (wpAny_pure ⟨rfl, h₅⟩)) fun _ _ h' => h'.elim)) fun _ _ h' => h'.elim))

theorem cloopOut {elt t1 i1 t2 i2 : Expr} {scope : Scope} {pos : Pos} {it acc : Value} {R : Result → Shared → Prop} (I : Nat → Shared → Prop) (hs : ∀ x, foldedSetIterable i2 env x = pure x)
    (turn : ∀ n s, I n s → W (model thePrg w) A (pyNext it) (fun r s₁ => match r with
      | none => R (.ok .next) s₁
      | some v => W (model thePrg w) A (letOwnedTupleGo t1 it v) (fun _ s₁' => W (model thePrg w) A (assign t1 env v) (fun _ s₂ =>
          W (model thePrg w) A (eval i2 env) (fun x s₄ => W (model thePrg w) A (pyIter x) (fun it2 s₅ => codeAny (model thePrg w) A (.compStart (.ListComp elt [⟨t1, i1, [], 0⟩, ⟨t2, i2, [], 0⟩] scope pos) 1 it2 acc env)
            (fun r s₆ => match r with | .ok _ => ∃ m, m < n ∧ I m s₆ | .error _ => False) s₅) s₄) s₂) s₁') s₁) s)
    (n : Nat) (h : I n s) : codeAny (model thePrg w) A (.compLoop (.ListComp elt [⟨t1, i1, [], 0⟩, ⟨t2, i2, [], 0⟩] scope pos) 0 it acc env) R s := by
  refine codeAny_loop rfl I (fun n s hI => ?_) n h
  show wpAny _ A ((compTurn (.ListComp elt [⟨t1, i1, [], 0⟩, ⟨t2, i2, [], 0⟩] scope pos) 0 it acc env).onRaise (fun x => do noteFrame x env; theTreesLotGoes x)) _ _ s
  refine wpAny_noted ?_
  have e : compTurn (.ListComp elt [⟨t1, i1, [], 0⟩, ⟨t2, i2, [], 0⟩] scope pos) 0 it acc env = (do
      standAt i1.pos
      match ← pyNext it with
      | none => pure (.done .next)
      | some v =>
        letOwnedTupleGo t1 it v
        assign t1 env v
        let x ← eval i2 env
        standAt i2.pos
        let x ← foldedSetIterable i2 env x
        let _ ← runOwn (.compStart (.ListComp elt [⟨t1, i1, [], 0⟩, ⟨t2, i2, [], 0⟩] scope pos) 1 (← holding [x] (pyIter x)) acc env) env
        again (.compLoop (.ListComp elt [⟨t1, i1, [], 0⟩, ⟨t2, i2, [], 0⟩] scope pos) 0 it acc env)) := by rfl
  rw [e]
  refine wpAny_bind (wpAny_standAt (wpAny_bind (wpAny_mono (turn n s hI) (fun r s₁ h₁ => ?_) fun _ _ h' => h'.elim)))
  cases r with
  | none => exact wpAny_pure h₁
  | some v =>
    refine wpAny_bind (wpAny_mono h₁ (fun _ s₁' h₁' => ?_) fun _ _ h' => h'.elim)
    refine wpAny_bind (wpAny_mono h₁' (fun _ s₂ h₂ => ?_) fun _ _ h' => h'.elim)
    refine wpAny_bind (wpAny_mono h₂ (fun x s₄ h₄ => ?_) fun _ _ h' => h'.elim)
    refine wpAny_bind (wpAny_standAt ?_)
    refine wpAny_bind (wpAny_of_eq (hs x) ?_)
    refine wpAny_bind (wpAny_holding (wpAny_mono h₄ (fun it2 s₅ h₅ => ?_) fun _ _ h' => h'.elim))
    refine wpAny_bind (wpAny_runOwn (h := none) (codeAny_mono h₅ fun r s₆ hr => ?_))
    cases r with
    | error x => exact hr.elim
    | ok f => exact wpAny_pure ⟨rfl, hr⟩
end
end Mine

end
section
open PySem PySem.W PySem.Calls PySem.SeqAt PyProof.Rows Builtin
set_option Elab.async false
set_option maxRecDepth 100000
set_option linter.unusedVariables false
namespace Mine
local macro_rules | `(tactic| walk_at "m sel") => `(tactic| first | with_reducible apply Sel.head | (apply Sel.tail; walk_at "m sel"))
local macro_rules | `(tactic| walk_at "m lget") => `(tactic| first | with_reducible apply LGet.head | (apply LGet.tail; walk_at "m lget"))
local macro_rules | `(tactic| walk_at "m lset") => `(tactic| first | with_reducible apply LSet.head | (apply LSet.tail; walk_at "m lset"))
local macro_rules | `(tactic| walk_at "m mg") => `(tactic| first | exact Top0.gPush (by assumption) | exact Top0.gPop (by assumption) | exact Top0.gWL (by assumption) | exact Top0.gLcas (by assumption) | exact Top0.gBase (by assumption) | exact Top0.gFast (by assumption))
local macro_rules | `(tactic| walk_at "m name") => `(tactic| first
  | (refine' nmL (by assumption) (by assumption) ?hx ?hd ?he ?hg ?_; (case hx => kernel_rfl); (case hd => kernel_rfl); (case he => walk_at "m sel"); (case hg => walk_at "m lget"))
  | (refine' nmC (by assumption) (by assumption) ?hx ?hd ?hc ?he ?_; (case hx => decide +kernel); (case hd => kernel_rfl); (case hc => rfl); (case he => walk_at "m sel"))
  | (refine' nmF (by assumption) (by assumption) ?hx ?hd ?hd2 ?hc ?he ?_; (case hx => decide +kernel); (case hd => kernel_rfl); (case hd2 => kernel_rfl); (case hc => rfl); (case he => walk_at "m sel"))
  | (refine' nmG (by assumption) (by assumption) (Top0.glob (by assumption)) ?hx ?hd ?hv ?_; (case hx => kernel_rfl); (case hd => kernel_rfl); (case hv => walk_at "m mg")))
local macro_rules | `(tactic| walk_at "m store") => `(tactic| first
  | (refine' stL (by assumption) (by assumption) ?hx ?he ?hg ?_; (case hx => kernel_rfl); (case he => walk_at "m sel"); (case hg => walk_at "m lset"))
  | (refine' stC (by assumption) (by assumption) ?hx ?hc ?he ?_; (case hx => kernel_rfl); (case hc => rfl); (case he => walk_at "m sel")))
def lawStmt (i : Nat) : Stmt := (fnBd sLaw).getD i (.Pass default)
abbrev LawL (script rest k cell own merge greatest due row : Option Value) : OP :=
  LocO [("script", script), ("rest", rest), ("k", k), ("cell", cell), ("own", own), ("merge", merge), ("greatest", greatest), ("due", due), ("row", row)]
def lawCs (m : Addr) : List (Str × Addr) := [("times", m + 12), ("parents", m + 11), ("time_of", m + 10), ("parents_of", m + 9), ("joint", m + 8), ("ahead", m + 7), ("upon", m + 6), ("others", m + 5), ("first", m + 4), ("kin", m + 3), ("names", m + 2), ("many", m + 1), ("cells", m)]
abbrev lawSc : Scope := fnSc sLaw
section
variable {K : Frag} {C fInit fAdd fGet fIter fLcas fBase fFast : Addr} {mg mb : Str → Option Value} {B B' : Store}
variable {w : World} {A : Around} {E : Value → Shared → Prop} {G : Array GenState} {os : OsState} {L L' : Led} {s : Shared} {env : Env} {sc : Scope} {Lf m : Addr} {cl : List (Str × Addr)} {cd : Value} {n : Nat} {x q : Addr}

theorem intsApp {v1 v2 : List Value} {n1 n2 : List Int} (h : IntsAre v1 n1) (h2 : IntsAre v2 n2) : IntsAre (v1 ++ v2) (n1 ++ n2) := by
  induction h with
  | nil => exact h2
  | cons n t _ ih => exact .cons n t ih
theorem intsTake {v1 : List Value} {n1 : List Int} (h : IntsAre v1 n1) : ∀ k, IntsAre (v1.take k) (n1.take k) := by
  induction h with
  | nil => intro k; simp; exact .nil
  | cons n t _ ih => intro k; cases k with
    | zero => exact .nil
    | succ k => exact .cons n t (ih k)
theorem intsDrop {v1 : List Value} {n1 : List Int} (h : IntsAre v1 n1) : ∀ k, IntsAre (v1.drop k) (n1.drop k) := by
  induction h with
  | nil => intro k; simp; exact .nil
  | cons n t h ih => intro k; cases k with
    | zero => exact .cons n t h
    | succ k => exact ih k

set_option maxHeartbeats 2000000 in
theorem law0 {rest : List Stmt} {ls : Addr} {vals : List Value} {zs : List Int} {u1 u2 u3 u4 u5 u6 u7 u8 : Option Value} {c0 : Option Value} {Q : Flow → Shared → Prop} (T : Top0 K C fInit fAdd fGet fIter fLcas fBase fFast mg mb B) (TB : TopB mg mb) (I : EnvIs env lawSc Lf (lawCs m) cd) (R : Rm A 30)
    (hl : KList B ls vals) (hi : IntsAre vals zs) (hz : vals.length ≤ 63) (S : SS B G os ((Lf, LawL (some (.ref ls)) u1 u2 u3 u4 u5 u6 u7 u8) :: (m, CellO c0) :: L) s)
    (h : ∀ B' lc cvs cis u1 s', Le B B' → KCell B' m (.ref lc) → KList B' lc cvs → IntsAre cvs cis → cis.length = 10 → SS B' G os ((Lf, LawL (some (.ref ls)) u1 u2 u3 u4 u5 u6 u7 u8) :: L) s' → W (model thePrg w) A (execs rest env) Q s') :
    W (model thePrg w) A (execs (lawStmt 0 :: lawStmt 1 :: rest) env) Q s := by
  refine wpAny_execs_cons ?_
  refine wpAny_Assign_Name ?_
  refine eList ?_
  iterate 10 (refine args_cons (he := rfl) ?_; refine eInt S fun _ s S => ?_)
  refine args_nil ?_
  refine newList_ S (by simp) fun D s S => ?_
  walk_at "m store"
  intro s S
  refine wpAny_execs_cons ?_
  refine wpAny_Assign_Name ?_
  refine wpAny_BinOp ?_
  refine sliceW ?_
  walk_at "m name"
  refine wpAny_evalPart_none ?_
  refine wpAny_evalPart_some ?_
  refine eInt S fun tz s S => ?_
  refine ⟨B, G, os, _, ls, vals, none, some 10, rfl, S, hl.isList S, by omega, .none, .int 10 tz, fun D1 s S => ?_⟩
  have e1 : (slicePick vals.toArray none (some 10) none).toList = vals.take 10 := by
    rw [show (10 : Int) = ((10 : Nat) : Int) from rfl, slicePick_upto']
  rw [e1] at S
  refine sliceW ?_
  walk_at "m name"
  refine wpAny_evalPart_some ?_
  refine PyProof.Rows.Call_ ?_
  refine nmB I S T.glob T.buil (by kernel_rfl) (by kernel_rfl) TB.len.1 TB.len.2 ?_
  refine callWith_builtin1 (he := rfl) (hplain := rfl) ?_
  refine args_cons (he := rfl) ?_
  refine sliceW ?_
  walk_at "m name"
  refine wpAny_evalPart_none ?_
  refine wpAny_evalPart_some ?_
  refine eInt S fun ty s S => ?_
  refine ⟨B, G, os, _, ls, vals, none, some 10, rfl, S, hl.isList S, by omega, .none, .int 10 ty, fun D2 s S => ?_⟩
  rw [e1] at S
  refine args_nil ?_
  refine len_list (S.isList .head) (by simp; omega) ?_
  have S := S.drop
  have S := S.toks (s' := { s with toks := s.toks + 1 + 1 })
  refine wpAny_evalPart_none ?_
  refine ⟨B, G, os, _, D, _, some ((vals.take 10).length : Nat), none, rfl, S, S.isList (a := D) (by walk_at "m sel"), by simp, ?_, .none, fun D3 s S => ?_⟩
  · have := IsPart.int ((vals.take 10).length : Nat) (s.toks + 1)
    simpa using this
  rw [slicePick_from'] at S
  refine addL S (S.isList (a := D1) (by walk_at "m sel")) (S.isList (a := D3) (by walk_at "m sel")) (by simp; omega) fun D4 s S => ?_
  obtain ⟨B1, o4, le1, ho4, hB4, S⟩ := S.freeze
  walk_at "m store"
  intro s S
  obtain ⟨B2, oc, le2, hoc, hBc, S⟩ := S.freeze
  have S := S.dropAt (a := D) (e := by walk_at "m sel")
  have S := S.dropAt (a := D1) (e := by walk_at "m sel")
  have S := S.dropAt (a := D3) (e := by walk_at "m sel")
  refine h B2 D4 _ _ _ s (le1.trans le2) ⟨oc, hBc, hoc⟩ ⟨o4, le2 _ _ hB4, ho4⟩ (intsApp (intsTake hi 10) (intsDrop (.cons 9 _ (.cons 5 _ (.cons 14 _ (.cons 3 _ (.cons 22 _ (.cons 40 _ (.cons 8 _ (.cons 17 _ (.cons 31 _ (.cons 26 _ .nil)))))))))) _)) ?_ S
  have := hi.length
  simp; omega
end
end Mine

end
section
open PySem PySem.W PySem.Calls PySem.SeqAt PyProof.Rows Builtin
set_option Elab.async false
set_option maxRecDepth 100000
set_option linter.unusedVariables false
namespace Mine
local macro_rules | `(tactic| walk_at "m sel") => `(tactic| first | with_reducible apply Sel.head | (apply Sel.tail; walk_at "m sel"))
local macro_rules | `(tactic| walk_at "m lget") => `(tactic| first | with_reducible apply LGet.head | (apply LGet.tail; walk_at "m lget"))
local macro_rules | `(tactic| walk_at "m lset") => `(tactic| first | with_reducible apply LSet.head | (apply LSet.tail; walk_at "m lset"))
local macro_rules | `(tactic| walk_at "m mg") => `(tactic| first | exact Top0.gPush (by assumption) | exact Top0.gPop (by assumption) | exact Top0.gWL (by assumption) | exact Top0.gLcas (by assumption) | exact Top0.gBase (by assumption) | exact Top0.gFast (by assumption))
local macro_rules | `(tactic| walk_at "m name") => `(tactic| first
  | (refine' nmL (by assumption) (by assumption) ?hx ?hd ?he ?hg ?_; (case hx => kernel_rfl); (case hd => kernel_rfl); (case he => walk_at "m sel"); (case hg => walk_at "m lget"))
  | (refine' nmC (by assumption) (by assumption) ?hx ?hd ?hc ?he ?_; (case hx => decide +kernel); (case hd => kernel_rfl); (case hc => rfl); (case he => walk_at "m sel"))
  | (refine' nmF (by assumption) (by assumption) ?hx ?hd ?hd2 ?hc ?he ?_; (case hx => decide +kernel); (case hd => kernel_rfl); (case hd2 => kernel_rfl); (case hc => rfl); (case he => walk_at "m sel"))
  | (refine' nmG (by assumption) (by assumption) (Top0.glob (by assumption)) ?hx ?hd ?hv ?_; (case hx => kernel_rfl); (case hd => kernel_rfl); (case hv => walk_at "m mg")))
local macro_rules | `(tactic| walk_at "m store") => `(tactic| first
  | (refine' stL (by assumption) (by assumption) ?hx ?he ?hg ?_; (case hx => kernel_rfl); (case he => walk_at "m sel"); (case hg => walk_at "m lset"))
  | (refine' stC (by assumption) (by assumption) ?hx ?hc ?he ?_; (case hx => kernel_rfl); (case hc => rfl); (case he => walk_at "m sel")))
section
variable {K : Frag} {C fInit fAdd fGet fIter fLcas fBase fFast : Addr} {mg mb : Str → Option Value} {B B' : Store}
variable {w : World} {A : Around} {E : Value → Shared → Prop} {G : Array GenState} {os : OsState} {L L' : Led} {s : Shared} {env : Env} {sc : Scope} {Lf m : Addr} {cl : List (Str × Addr)} {cd : Value} {n : Nat} {x q : Addr}

theorem swapsF {t : Str} {tp pos : Pos} {elt : Expr} {gens : List Comprehension} {scope : Scope} {line : Nat} (I : EnvIs env sc Lf cl cd)
    (h : (sc.names.lookup t == some .local) = false) :
    swapsWith (.ListComp elt gens scope pos) (some (.Name t tp)) line env = pure false := by
  show (pure (env.blockKind == .function && env.kindOf t == some .local && tp.line == (Expr.ListComp elt gens scope pos).pos.line && !(scope.names.any fun (n, k) => n == t && (k == .local || k == .cell))) : Sem Bool) = _
  have e1 : (env.blockKind == .function) = true := by unfold Env.blockKind; rw [I.fk]; rfl
  have e2 : env.kindOf t = sc.names.lookup t := by unfold Env.kindOf; rw [I.scope]
  rw [e1, e2, Bool.true_and, h]
  rfl
theorem compNm {scope : Scope} {nms : List (Str × NameKind)} (h : (rl scope lawSc).names = nms) {x : Str} {k : Option NameKind} (e : nms.lookup x = k) : (rl scope lawSc).names.lookup x = k := by rw [h]; exact e

theorem cstartR {elt target iter : Expr} {ifs : List Expr} {rest : List Comprehension} {scope : Scope} {pos : Pos} {acc : Value} {R : Result → Shared → Prop} {it : Addr} {x left : Int} (S : SS B G os L s) (e : Sel it (RngO x left) L L')
    (h : ∀ s', SS B G os L s' → codeAny (model thePrg w) A (.compLoop (.ListComp elt (⟨target, iter, ifs, 0⟩ :: rest) scope pos) 0 (.ref it) acc env) R s') :
    codeAny (model thePrg w) A (.compStart (.ListComp elt (⟨target, iter, ifs, 0⟩ :: rest) scope pos) 0 (.ref it) acc env) R s :=
  cstartW (h s S) (selfRng S e (h s S))

theorem fmod_nonneg_ (a : Int) {b : Int} (h : 0 < b) : 0 ≤ a.fmod b := by rw [Int.fmod_eq_emod_of_nonneg a (Int.le_of_lt h)]; exact Int.emod_nonneg a (by omega)
theorem fmod_lt_ (a : Int) {b : Int} (h : 0 < b) : a.fmod b < b := by rw [Int.fmod_eq_emod_of_nonneg a (Int.le_of_lt h)]; exact Int.emod_lt_of_pos a h
/-- the cells' list and its first -/
theorem intAt {vs : List Value} {ns : List Int} (h : IntsAre vs ns) {i : Nat} (hi : i < ns.length) : ∃ t, vs[i]? = some (.int (ns.getD i 0) t) := by
  induction h generalizing i with
  | nil => simp at hi
  | cons n t _ ih =>
    cases i with
    | zero => exact ⟨t, rfl⟩
    | succ i => obtain ⟨u, hu⟩ := ih (i := i) (by simpa using hi); exact ⟨u, by simpa using hu⟩

theorem law2 {lc : Addr} {cvs : List Value} {cis : List Int} {c0 : Option Value} {Q : Flow → Shared → Prop} (I : EnvIs env lawSc Lf (lawCs m) cd)
    (hc : KCell B m (.ref lc)) (hl : KList B lc cvs) (hi : IntsAre cvs cis) (h10 : cis.length = 10) (S : SS B G os ((m + 1, CellO c0) :: L) s)
    (h : ∀ B' t s', Le B B' → KCell B' (m + 1) (.int (4 + (cis.getD 0 0).fmod 6) t) → SS B' G os L s' → Q .next s') :
    W (model thePrg w) A (exec (lawStmt 2) env) Q s := by
  obtain ⟨t0, ht0⟩ := intAt hi (i := 0) (by omega)
  refine wpAny_Assign_Name ?_
  refine wpAny_BinOp ?_
  refine eInt S fun _ s S => ?_
  refine wpAny_BinOp ?_
  refine Subscript_ ?_
  refine nmKC I S (by decide +kernel) (by kernel_rfl) rfl hc ?_
  refine eInt S fun _ s S => ?_
  refine item_listL (hl.isList S) (by decide) (by decide) (x := .int (cis.getD 0 0) t0) ht0 ?_
  refine eInt S fun _ s S => ?_
  refine modS (by decide) S fun _ s S => ?_
  refine addS S fun t s S => ?_
  refine stC I S (by kernel_rfl) rfl .head fun s S => ?_
  obtain ⟨B2, oc, le2, hoc, hBc, S⟩ := S.freeze
  exact h B2 t s le2 ⟨oc, hBc, hoc⟩ S

/-- the name of the k-th commit -/
def nm (c0 : Int) (k : Nat) : Bs := [(97 + ((k : Int) * 7 + c0.fdiv 6).fmod 26).toNat.toUInt8]

set_option maxHeartbeats 2000000 in
theorem law3 {lc : Addr} {cvs : List Value} {cis : List Int} {c0 : Option Value} {many : Nat} {tm : Tok} {Q : Flow → Shared → Prop} (T : Top0 K C fInit fAdd fGet fIter fLcas fBase fFast mg mb B) (TB : TopB mg mb) (I : EnvIs env lawSc Lf (lawCs m) cd)
    (R : Rm A 30) (hc : KCell B m (.ref lc)) (hl : KList B lc cvs) (hi : IntsAre cvs cis) (h10 : cis.length = 10) (hmany : KCell B (m + 1) (.int many tm)) (h9 : many ≤ 9) (S : SS B G os ((m + 2, CellO c0) :: L) s)
    (h : ∀ B' ln nvs s', Le B B' → KCell B' (m + 2) (.ref ln) → KList B' ln nvs → BytL nvs ((List.range many).map (nm (cis.getD 0 0))) → SS B' G os L s' → Q .next s') :
    W (model thePrg w) A (exec (lawStmt 3) env) Q s := by
  obtain ⟨t0, ht0⟩ := intAt hi (i := 0) (by omega)
  refine wpAny_Assign_Name ?_ (hs := swapsF I (by decide +kernel))
  refine lcompW (os := os) (clos := [("cells", m)]) [".0", "k"] I rfl rfl (fun _ => rfl) (by kernel_rfl) (by kernel_rfl) (by kernel_rfl) (by kernel_rfl) (by kernel_rfl) ?_
  refine PyProof.Rows.Call_ ?_
  refine nmB I S T.glob T.buil (by kernel_rfl) (by kernel_rfl) TB.range.1 TB.range.2 ?_
  refine PyProof.Rows.callWith_type1 (he := rfl) (hplain := rfl) ?_
  refine args_cons (he := rfl) ?_
  refine nmKC I S (by decide +kernel) (by kernel_rfl) rfl hmany ?_
  refine args_nil ?_
  refine range1W S (by omega) (by omega) fun r s S hr => ?_
  refine iterRng S hr (by omega) (by omega) (by omega) fun it s S => ?_
  refine ⟨B, G, _, S, ?_⟩
  intro D Cc s S
  have I2 := compEnvIs (scope := lcSc (asgV (lawStmt 3))) (C := Cc) (clos := [("cells", m)]) I (by kernel_rfl)
  refine cstartR S (e := by walk_at "m sel") fun s S => ?_
  have S := S.front (a := it) (e := by walk_at "m sel")
  refine cloop1 (fun j s => ∃ i out u0 u1, j + i = many ∧ BytL out ((List.range i).map (nm (cis.getD 0 0))) ∧ SS B G os ((it, RngO i (many - i : Nat)) :: (Cc, LocO [(".0", u0), ("k", u1)]) :: (D, ListO out) :: (m + 2, CellO c0) :: L) s) ?_ many
    ⟨0, [], none, none, rfl, Rel2.nil, by simpa using S⟩
  clear S
  rintro j s ⟨i, out, u0, u1, hj, ho, S⟩
  have hol : out.length = i := by have := ho.1; simpa using this
  refine nextRng R.h S (fun t s hlt S => ?_) (fun s hle S' => ?_)
  · dsimp only
    refine letGoR S .head ?_
    refine PyProof.Rows.assign_Name ?_
    refine stL I2 S (by kernel_rfl) (.tail .head) (.tail .head) fun s S => ?_
    refine wpAny_tests_nil ?_
    refine PyProof.Rows.Call_ ?_
    refine nmB I2 S T.glob T.buil (by kernel_rfl) (by kernel_rfl) TB.bytes.1 TB.bytes.2 ?_
    refine PyProof.Rows.callWith_type1 (he := rfl) (hplain := rfl) ?_
    refine args_cons (he := rfl) ?_
    refine eList ?_
    refine args_cons (he := rfl) ?_
    refine wpAny_BinOp ?_
    refine eInt S fun _ s S => ?_
    refine wpAny_BinOp ?_
    refine wpAny_BinOp ?_
    refine wpAny_BinOp ?_
    refine nmL I2 S (by kernel_rfl) (by kernel_rfl) .head (.tail .head) ?_
    refine eInt S fun _ s S => ?_
    refine PyProof.Rows.mul_int ?_
    have S := S.toks (s' := { s with toks := s.toks + 1 })
    refine wpAny_BinOp ?_
    refine Subscript_ ?_
    refine nmKC I2 S (by decide +kernel) (by kernel_rfl) rfl hc ?_
    refine eInt S fun _ s S => ?_
    refine item_listL (hl.isList S) (by decide) (by decide) (x := .int (cis.getD 0 0) t0) ht0 ?_
    refine eInt S fun _ s S => ?_
    refine PyProof.Rows.floordiv_int (by decide) ?_
    have S := S.toks (s' := { s with toks := s.toks + 1 })
    refine addS S fun _ s S => ?_
    refine eInt S fun _ s S => ?_
    refine modS (by decide) S fun _ s S => ?_
    refine addS S fun _ s S => ?_
    refine args_nil ?_
    refine newList_ S (by simp) fun l1 s S => ?_
    refine args_nil ?_
    have hf0 := fmod_nonneg_ ((i : Int) * 7 + (cis.getD 0 0).fdiv 6) (b := 26) (by decide)
    have hf1 := fmod_lt_ ((i : Int) * 7 + (cis.getD 0 0).fdiv 6) (b := 26) (by decide)
    refine bytes1 R.h S (S.isList .head) (by omega) (by omega) fun v s hv S => ?_
    have S := S.drop
    have S := S.front (a := D) (e := by walk_at "m sel")
    refine lApp S (by omega) fun s S => ?_
    have S := S.front (a := Cc) (e := by walk_at "m sel")
    have S := S.front (a := it) (e := by walk_at "m sel")
    refine ⟨j - 1, by omega, i + 1, _, _, _, by omega, ?_, by rw [show (((i + 1 : Nat) : Int)) = (i : Int) + 1 by omega, show ((many - (i + 1) : Nat) : Int) = ((many - i : Nat) : Int) - 1 by omega]; exact S⟩
    rw [List.range_succ, List.map_append]
    exact ho.append (Rel2.cons hv .nil)
  · have hi : i = many := by omega
    rw [hi] at ho
    refine ⟨B, G, _, _, S', fun s S => ?_⟩
    obtain ⟨B1, o1, le1, ho1, hB1, S⟩ := S.freeze
    refine stC I S (by kernel_rfl) rfl (by walk_at "m sel") fun s S => ?_
    obtain ⟨B2, oc, le2, hoc, hBc, S⟩ := S.freeze
    exact h B2 D out s (le1.trans le2) ⟨oc, hBc, hoc⟩ ⟨o1, le2 _ _ hB1, ho1⟩ ho S
end
end Mine

end
section
open PySem PySem.W PySem.Calls PySem.SeqAt PyProof.Rows Builtin
set_option Elab.async false
set_option maxRecDepth 100000
set_option linter.unusedVariables false
namespace Mine
local macro_rules | `(tactic| walk_at "m sel") => `(tactic| first | with_reducible apply Sel.head | (apply Sel.tail; walk_at "m sel"))
local macro_rules | `(tactic| walk_at "m lget") => `(tactic| first | with_reducible apply LGet.head | (apply LGet.tail; walk_at "m lget"))
local macro_rules | `(tactic| walk_at "m lset") => `(tactic| first | with_reducible apply LSet.head | (apply LSet.tail; walk_at "m lset"))
local macro_rules | `(tactic| walk_at "m mg") => `(tactic| first | exact Top0.gPush (by assumption) | exact Top0.gPop (by assumption) | exact Top0.gWL (by assumption) | exact Top0.gLcas (by assumption) | exact Top0.gBase (by assumption) | exact Top0.gFast (by assumption))
local macro_rules | `(tactic| walk_at "m name") => `(tactic| first
  | (refine' nmL (by assumption) (by assumption) ?hx ?hd ?he ?hg ?_; (case hx => kernel_rfl); (case hd => kernel_rfl); (case he => walk_at "m sel"); (case hg => walk_at "m lget"))
  | (refine' nmC (by assumption) (by assumption) ?hx ?hd ?hc ?he ?_; (case hx => decide +kernel); (case hd => kernel_rfl); (case hc => rfl); (case he => walk_at "m sel"))
  | (refine' nmF (by assumption) (by assumption) ?hx ?hd ?hd2 ?hc ?he ?_; (case hx => decide +kernel); (case hd => kernel_rfl); (case hd2 => kernel_rfl); (case hc => rfl); (case he => walk_at "m sel"))
  | (refine' nmG (by assumption) (by assumption) (Top0.glob (by assumption)) ?hx ?hd ?hv ?_; (case hx => kernel_rfl); (case hd => kernel_rfl); (case hv => walk_at "m mg")))
local macro_rules | `(tactic| walk_at "m store") => `(tactic| first
  | (refine' stL (by assumption) (by assumption) ?hx ?he ?hg ?_; (case hx => kernel_rfl); (case he => walk_at "m sel"); (case hg => walk_at "m lset"))
  | (refine' stC (by assumption) (by assumption) ?hx ?hc ?he ?_; (case hx => kernel_rfl); (case hc => rfl); (case he => walk_at "m sel")))
/-- what a table of lists of bytes, of sets holds -/
def ParR (B : Store) (ps : List Bs) (v : Value) : Prop := ∃ l vs, v = .ref l ∧ KList B l vs ∧ BytL vs ps
theorem ParR.mono {B B' : Store} (le : Le B B') (ps : List Bs) (v : Value) (h : ParR B ps v) : ParR B' ps v := let ⟨l, vs, a, b, c⟩ := h; ⟨l, vs, a, b.mono le, c⟩
def KinR (w : World) (B : Store) (S : (Bs → Bool) × Nat) (v : Value) : Prop := ∃ a, v = .ref a ∧ KSet w B a S.1 S.2
theorem KinR.mono {w : World} {B B' : Store} (le : Le B B') (S : (Bs → Bool) × Nat) (v : Value) (h : KinR w B S v) : KinR w B' S v := let ⟨a, b, c⟩ := h; ⟨a, b, c.mono le⟩
section
variable {K : Frag} {C fInit fAdd fGet fIter fLcas fBase fFast : Addr} {mg mb : Str → Option Value} {B B' : Store}
variable {w : World} {A : Around} {E : Value → Shared → Prop} {G : Array GenState} {os : OsState} {L L' : Led} {s : Shared} {env : Env} {sc : Scope} {Lf m : Addr} {cl : List (Str × Addr)} {cd : Value} {n : Nat} {x q : Addr}

theorem unpack3 {x y z : Str} {px py pz pos : Pos} {k : Nat} {t : Addr} {v1 v2 v3 : Value} {Q : Unit → Shared → Prop} (hh : A.handled = none) (S : SS B G os L s) (ht : IsTup s.heap t #[v1, v2, v3])
    (h : ∀ s', SS B G os L s' → wpAny (model thePrg w) A (storeName env x v1) (fun _ s₁ => wpAny (model thePrg w) A (storeName env y v2) (fun _ s₂ => wpAny (model thePrg w) A (storeName env z v3) Q E s₂) E s₁) E s') :
    wpAny (model thePrg w) A (assign (.Tuple [.Name x px, .Name y py, .Name z pz] k pos) env (.ref t)) Q E s := by
  refine assign_Tuple_tuple hh ht rfl rfl fun h' he => ?_
  refine assignInOrder_cons (PyProof.Rows.assign_Name ?_)
  refine wpAny_mono (h _ (S.ext fun b o e => he b o (Nat.ne_of_lt (Heap.lt_size e)) e)) (fun _ s₁ h₁ => ?_) fun _ _ x => x
  refine assignInOrder_cons (PyProof.Rows.assign_Name ?_)
  refine wpAny_mono h₁ (fun _ s₂ h₂ => ?_) fun _ _ x => x
  exact assignInOrder_cons (PyProof.Rows.assign_Name (wpAny_mono h₂ (fun _ _ q => assignInOrder_nil q) fun _ _ x => x))

theorem swEq {ts : List Expr} {v : Expr} (I : EnvIs env sc Lf cl cd) : swappedStores ts v env = swappedStores ts v { (default : Env) with scope := sc } := by
  have e1 : env.blockKind = Env.blockKind { (default : Env) with scope := sc } := by unfold Env.blockKind; rw [I.scope]
  have e2 : ∀ t, env.kindOf t = Env.kindOf { (default : Env) with scope := sc } t := fun t => by unfold Env.kindOf; rw [I.scope]
  unfold swappedStores
  simp only [e1, e2]

theorem SS.dP {B₀ B₁ : Store} {a : Addr} {U : List Bs} {g : Bs → Option (List Bs)} (le : Le B₀ B₁) (S : SS B G os ((a, DctO w U (ParR B₀) g) :: L) s) : SS B G os ((a, DctO w U (ParR B₁) g) :: L) s :=
  S.weak fun o h => DctO.mono h (ParR.mono le)
theorem SS.dK {B₀ B₁ : Store} {a : Addr} {U : List Bs} {g : Bs → Option ((Bs → Bool) × Nat)} (le : Le B₀ B₁) (S : SS B G os ((a, DctO w U (KinR w B₀) g) :: L) s) : SS B G os ((a, DctO w U (KinR w B₁) g) :: L) s :=
  S.weak fun o h => DctO.mono h (KinR.mono le)

set_option maxHeartbeats 2000000 in
theorem law4 {U : List Bs} {c1 c2 c3 : Option Value} {Q : Flow → Shared → Prop} (T : Top0 K C fInit fAdd fGet fIter fLcas fBase fFast mg mb B) (I : EnvIs env lawSc Lf (lawCs m) cd)
    (R : Rm A 30) (S : SS B G os ((m + 12, CellO c1) :: (m + 11, CellO c2) :: (m + 3, CellO c3) :: L) s)
    (h : ∀ B' dT dP dK s', Le B B' → KCell B' (m + 12) (.ref dT) → KCell B' (m + 11) (.ref dP) → KCell B' (m + 3) (.ref dK) → (dT == sysModules) = false → (dP == sysModules) = false → (dK == sysModules) = false →
      SS B' G os ((dP, DctO w U (ParR B') fun _ => none) :: (dT, DctO w U IntV fun _ => none) :: (dK, DctO w U (KinR w B') fun _ => none) :: L) s' → Q .next s') :
    W (model thePrg w) A (exec (lawStmt 4) env) Q s := by
  refine Assign_Tuple ?_ (hw := (swEq I).trans (by rfl))
  refine eTuple ?_
  refine args_cons (he := rfl) ?_
  refine eDct (U := U) (R := ParR B) T.glob S fun dP s h1 S => ?_
  refine args_cons (he := rfl) ?_
  refine eDct (U := U) (R := IntV) T.glob S fun dT s h2 S => ?_
  refine args_cons (he := rfl) ?_
  refine eDct (U := U) (R := KinR w B) T.glob S fun dK s h3 S => ?_
  refine args_nil ?_
  refine newTuple_ S (by simp) fun tu s S => ?_
  refine unpack3 R.h S (S.isTup .head) fun s S => ?_
  have S := S.drop
  refine stC I S (by kernel_rfl) rfl (by walk_at "m sel") fun s S => ?_
  refine stC I S (by kernel_rfl) rfl (by walk_at "m sel") fun s S => ?_
  refine stC I S (by kernel_rfl) rfl (by walk_at "m sel") fun s S => ?_
  have S := S.front (a := m + 11) (e := by walk_at "m sel")
  obtain ⟨B1, o1, le1, ho1, hB1, S⟩ := S.freeze
  have S := S.front (a := m + 12) (e := by walk_at "m sel")
  obtain ⟨B2, o2, le2, ho2, hB2, S⟩ := S.freeze
  have S := S.front (a := m + 3) (e := by walk_at "m sel")
  obtain ⟨B3, o3, le3, ho3, hB3, S⟩ := S.freeze
  have le : Le B B3 := (le1.trans le2).trans le3
  have S := (S.front (a := dK) (e := by walk_at "m sel")).dK le
  have S := S.front (a := dT) (e := by walk_at "m sel")
  have S := (S.front (a := dP) (e := by walk_at "m sel")).dP le
  exact h B3 dT dP dK s le ⟨o2, le3 _ _ hB2, ho2⟩ ⟨o1, le3 _ _ (le2 _ _ hB1), ho1⟩ ⟨o3, hB3, ho3⟩ h2 h1 h3 S
end
end Mine

end
section
open PySem PySem.W PySem.Calls PySem.SeqAt PyProof.Rows Builtin
set_option Elab.async false
set_option maxRecDepth 100000
set_option linter.unusedVariables false
namespace Mine
local macro_rules | `(tactic| walk_at "m sel") => `(tactic| first | with_reducible apply Sel.head | (apply Sel.tail; walk_at "m sel"))
local macro_rules | `(tactic| walk_at "m lget") => `(tactic| first | with_reducible apply LGet.head | (apply LGet.tail; walk_at "m lget"))
local macro_rules | `(tactic| walk_at "m lset") => `(tactic| first | with_reducible apply LSet.head | (apply LSet.tail; walk_at "m lset"))
local macro_rules | `(tactic| walk_at "m mg") => `(tactic| first | exact Top0.gPush (by assumption) | exact Top0.gPop (by assumption) | exact Top0.gWL (by assumption) | exact Top0.gLcas (by assumption) | exact Top0.gBase (by assumption) | exact Top0.gFast (by assumption))
local macro_rules | `(tactic| walk_at "m name") => `(tactic| first
  | (refine' nmL (by assumption) (by assumption) ?hx ?hd ?he ?hg ?_; (case hx => kernel_rfl); (case hd => kernel_rfl); (case he => walk_at "m sel"); (case hg => walk_at "m lget"))
  | (refine' nmC (by assumption) (by assumption) ?hx ?hd ?hc ?he ?_; (case hx => decide +kernel); (case hd => kernel_rfl); (case hc => rfl); (case he => walk_at "m sel"))
  | (refine' nmF (by assumption) (by assumption) ?hx ?hd ?hd2 ?hc ?he ?_; (case hx => decide +kernel); (case hd => kernel_rfl); (case hd2 => kernel_rfl); (case hc => rfl); (case he => walk_at "m sel"))
  | (refine' nmG (by assumption) (by assumption) (Top0.glob (by assumption)) ?hx ?hd ?hv ?_; (case hx => kernel_rfl); (case hd => kernel_rfl); (case hv => walk_at "m mg")))
local macro_rules | `(tactic| walk_at "m store") => `(tactic| first
  | (refine' stL (by assumption) (by assumption) ?hx ?he ?hg ?_; (case hx => kernel_rfl); (case he => walk_at "m sel"); (case hg => walk_at "m lset"))
  | (refine' stC (by assumption) (by assumption) ?hx ?hc ?he ?_; (case hx => kernel_rfl); (case hc => rfl); (case he => walk_at "m sel")))
def forB : Stmt → List Stmt | .For _ _ b _ _ => b | _ => []
def bStmt (i : Nat) : Stmt := (forB (lawStmt 5)).getD i (.Pass default)
section
variable {K : Frag} {C fInit fAdd fGet fIter fLcas fBase fFast : Addr} {mg mb : Str → Option Value} {B B' : Store}
variable {w : World} {A : Around} {E : Value → Shared → Prop} {G : Array GenState} {os : OsState} {L L' : Led} {s : Shared} {env : Env} {sc : Scope} {Lf m : Addr} {cl : List (Str × Addr)} {cd : Value} {n : Nat} {x q : Addr}
variable {u0 u1 u2 u3 u4 u5 u6 u7 u8 : Option Value} {k : Nat} {tk : Tok}

theorem BytL.pick {vs : List Value} {bs : List Bs} (h : BytL vs bs) {i : Nat} (hi : i < bs.length) : ∃ v b, vs[i]? = some v ∧ bs[i]? = some b ∧ BytV b v :=
  have hl := h.1
  ⟨vs[i]'(by omega), bs[i], List.getElem?_eq_getElem _, List.getElem?_eq_getElem _, h.2 i _ _ (List.getElem?_eq_getElem _) (List.getElem?_eq_getElem _)⟩

set_option maxHeartbeats 2000000 in
theorem bodyA {rest : List Stmt} {lc : Addr} {cvs : List Value} {cis : List Int} {Q : Flow → Shared → Prop} (I : EnvIs env lawSc Lf (lawCs m) cd)
    (hc : KCell B m (.ref lc)) (hl : KList B lc cvs) (hi : IntsAre cvs cis) (h10 : cis.length = 10) (S : SS B G os ((Lf, LawL u0 u1 (some (.int k tk)) u3 u4 u5 u6 u7 u8) :: L) s)
    (h : ∀ lo c t s', SS B G os ((Lf, LawL u0 u1 (some (.int k tk)) (some (.int c t)) (some (.ref lo)) u5 u6 u7 u8) :: (lo, ListO []) :: L) s' → W (model thePrg w) A (execs rest env) Q s') :
    W (model thePrg w) A (execs (bStmt 0 :: bStmt 1 :: rest) env) Q s := by
  have hf0 := fmod_nonneg_ (k : Int) (b := 8) (by decide)
  have hf1 := fmod_lt_ (k : Int) (b := 8) (by decide)
  obtain ⟨t0, ht0⟩ := intAt hi (i := (1 + (k : Int).fmod 8).toNat) (by omega)
  have fin : ∀ c t s, SS B G os ((Lf, LawL u0 u1 (some (.int k tk)) (some (.int c t)) u4 u5 u6 u7 u8) :: L) s → W (model thePrg w) A (execs (bStmt 1 :: rest) env) Q s := by
    intro c t s S
    refine wpAny_execs_cons ?_
    refine wpAny_Assign_Name ?_
    refine eList ?_
    refine args_nil ?_
    refine newList_ S (by simp) fun lo s S => ?_
    walk_at "m store"
    intro s S
    exact h lo c t s S
  refine wpAny_execs_cons ?_
  refine wpAny_Assign_Name ?_
  refine wpAny_BinOp ?_
  refine Subscript_ ?_
  refine nmKC I S (by decide +kernel) (by kernel_rfl) rfl hc ?_
  refine wpAny_BinOp ?_
  refine eInt S fun _ s S => ?_
  refine wpAny_BinOp ?_
  walk_at "m name"
  refine eInt S fun _ s S => ?_
  refine modS (by decide) S fun _ s S => ?_
  refine addS S fun _ s S => ?_
  refine item_listL (hl.isList S) (by omega) (by omega) ht0 ?_
  refine IfExp_ ?_
  refine wpAny_isTrue_Compare1 ?_
  walk_at "m name"
  refine eInt S fun _ s S => ?_
  refine PyProof.Rows.lt_int ?_
  refine wpAny_truthy_bool ?_
  by_cases h8 : (k : Int) < 8
  · rw [decide_eq_true h8]
    refine eInt S fun _ s S => ?_
    refine PyProof.Rows.floordiv_int (by decide) ?_
    have S := S.toks (s' := { s with toks := s.toks + 1 })
    walk_at "m store"
    intro s S
    exact fin _ _ _ S
  · rw [decide_eq_false h8]
    refine eInt S fun _ s S => ?_
    refine PyProof.Rows.floordiv_int (by decide) ?_
    have S := S.toks (s' := { s with toks := s.toks + 1 })
    walk_at "m store"
    intro s S
    exact fin _ _ _ S

set_option maxHeartbeats 2000000 in
theorem bodyC {ln lo : Addr} {nvs : List Value} {names : List Bs} {c : Int} {t : Tok} {Q : Flow → Shared → Prop} (I : EnvIs env lawSc Lf (lawCs m) cd)
    (hc : KCell B (m + 2) (.ref ln)) (hl : KList B ln nvs) (hb : BytL nvs names) (hk : k < names.length) (hz : names.length ≤ 9)
    (S : SS B G os ((Lf, LawL u0 u1 (some (.int k tk)) (some (.int c t)) (some (.ref lo)) u5 u6 u7 u8) :: (lo, ListO []) :: L) s)
    (h : ∀ ovs own s', BytL ovs own → own.length ≤ 1 → (∀ x ∈ own, ∃ j, j < k ∧ names[j]? = some x) → SS B G os ((Lf, LawL u0 u1 (some (.int k tk)) (some (.int c t)) (some (.ref lo)) u5 u6 u7 u8) :: (lo, ListO ovs) :: L) s' → Q .next s') :
    W (model thePrg w) A (exec (bStmt 2) env) Q s := by
  refine wpAny_If ?_
  refine isTrue_and ?_
  refine wpAny_isTrue_Compare1 ?_
  walk_at "m name"
  refine eInt S fun _ s S => ?_
  refine PyProof.Rows.gt_int ?_
  refine wpAny_truthy_bool ?_
  by_cases h0 : (0 : Int) < k
  · rw [decide_eq_true h0]
    simp only [if_true]
    refine isTrue_and ?_
    refine wpAny_isTrue_Compare1 ?_
    refine wpAny_BinOp ?_
    walk_at "m name"
    refine eInt S fun _ s S => ?_
    refine modS (by decide) S fun _ s S => ?_
    refine eInt S fun _ s S => ?_
    refine PyProof.Rows.gt_int ?_
    refine wpAny_truthy_bool ?_
    by_cases h1 : (0 : Int) < c.fmod 8
    · rw [decide_eq_true h1]
      simp only [if_true]
      refine isTrue_and_nil ?_
      refine wpAny_execs_cons ?_
      refine wpAny_Expr (hi := I.ni) ?_
      refine MethodCall_ ?_
      walk_at "m name"
      refine lAppM S (e := .tail .head) ?_
      refine callWith_method1 (he := rfl) (hplain := rfl) ?_
      refine args_cons (he := rfl) ?_
      refine Subscript_ ?_
      refine nmKC I S (by decide +kernel) (by kernel_rfl) rfl hc ?_
      refine wpAny_BinOp ?_
      refine wpAny_BinOp ?_
      walk_at "m name"
      refine eInt S fun _ s S => ?_
      refine PyProof.Rows.floordiv_int (by decide) ?_
      have S := S.toks (s' := { s with toks := s.toks + 1 })
      walk_at "m name"
      refine modS (by omega) S fun _ s S => ?_
      have hf0 := fmod_nonneg_ (c.fdiv 8) (b := (k : Int)) h0
      have hf1 := fmod_lt_ (c.fdiv 8) (b := (k : Int)) h0
      have hj : ((c.fdiv 8).fmod k).toNat < k := by omega
      obtain ⟨v, b, hv, hbb, hvb⟩ := hb.pick (i := ((c.fdiv 8).fmod k).toNat) (by omega)
      refine item_listL (hl.isList S) (by omega) (by omega) hv ?_
      refine args_nil ?_
      have S := S.front (a := lo) (e := by walk_at "m sel")
      refine lApp S (by simp) fun s S => ?_
      refine wpAny_execs_nil ?_
      refine h _ [b] s (Rel2.cons hvb .nil) (by simp) (fun x hx => ⟨_, hj, by simp at hx; rw [hx]; exact hbb⟩) ?_
      exact S.front (e := .tail .head)
    · rw [decide_eq_false h1]
      simp only [Bool.false_eq_true, if_false]
      refine wpAny_execs_nil ?_
      exact h [] [] s .nil (by simp) (fun x hx => nomatch hx) S
  · rw [decide_eq_false h0]
    simp only [Bool.false_eq_true, if_false]
    refine wpAny_execs_nil ?_
    exact h [] [] s .nil (by simp) (fun x hx => nomatch hx) S

set_option maxHeartbeats 2000000 in
theorem bodyD {ln lo : Addr} {nvs ovs : List Value} {names own : List Bs} {c : Int} {t : Tok} {Q : Flow → Shared → Prop} (I : EnvIs env lawSc Lf (lawCs m) cd)
    (hc : KCell B (m + 2) (.ref ln)) (hl : KList B ln nvs) (hb : BytL nvs names) (hk : k < names.length) (hz : names.length ≤ 9) (ho : BytL ovs own) (ho1 : own.length ≤ 1) (hom : ∀ x ∈ own, ∃ j, j < k ∧ names[j]? = some x)
    (S : SS B G os ((Lf, LawL u0 u1 (some (.int k tk)) (some (.int c t)) (some (.ref lo)) u5 u6 u7 u8) :: (lo, ListO ovs) :: L) s)
    (h : ∀ ovs own s', BytL ovs own → own.length ≤ 2 → (∀ x ∈ own, ∃ j, j < k ∧ names[j]? = some x) → SS B G os ((Lf, LawL u0 u1 (some (.int k tk)) (some (.int c t)) (some (.ref lo)) u5 u6 u7 u8) :: (lo, ListO ovs) :: L) s' → Q .next s') :
    W (model thePrg w) A (exec (bStmt 3) env) Q s := by
  refine wpAny_If ?_
  refine isTrue_and ?_
  refine wpAny_isTrue_Compare1 ?_
  walk_at "m name"
  refine eInt S fun _ s S => ?_
  refine PyProof.Rows.gt_int ?_
  refine wpAny_truthy_bool ?_
  have no : ∀ s, SS B G os ((Lf, LawL u0 u1 (some (.int k tk)) (some (.int c t)) (some (.ref lo)) u5 u6 u7 u8) :: (lo, ListO ovs) :: L) s → W (model thePrg w) A (execs [] env) Q s := fun s S =>
    wpAny_execs_nil (h ovs own s ho (by omega) hom S)
  by_cases h0 : (1 : Int) < k
  · rw [decide_eq_true h0]
    simp only [if_true]
    refine isTrue_and ?_
    refine wpAny_isTrue_Compare1 ?_
    refine wpAny_BinOp ?_
    walk_at "m name"
    refine eInt S fun _ s S => ?_
    refine modS (by decide) S fun _ s S => ?_
    refine eInt S fun _ s S => ?_
    refine PyProof.Rows.gt_int ?_
    refine wpAny_truthy_bool ?_
    by_cases h1 : (3 : Int) < c.fmod 8
    · rw [decide_eq_true h1]
      simp only [if_true]
      have hf0 := fmod_nonneg_ (c.fdiv 3) (b := (k : Int)) (by omega)
      have hf1 := fmod_lt_ (c.fdiv 3) (b := (k : Int)) (by omega)
      have hj : ((c.fdiv 3).fmod k).toNat < k := by omega
      obtain ⟨v, b, hv, hbb, hvb⟩ := hb.pick (i := ((c.fdiv 3).fmod k).toNat) (by omega)
      refine isTrue_and ?_
      refine wpAny_isTrue_Compare1 ?_
      refine Subscript_ ?_
      refine nmKC I S (by decide +kernel) (by kernel_rfl) rfl hc ?_
      refine wpAny_BinOp ?_
      refine wpAny_BinOp ?_
      walk_at "m name"
      refine eInt S fun _ s S => ?_
      refine PyProof.Rows.floordiv_int (by decide) ?_
      have S := S.toks (s' := { s with toks := s.toks + 1 })
      walk_at "m name"
      refine modS (by omega) S fun _ s S => ?_
      refine item_listL (hl.isList S) (by omega) (by omega) hv ?_
      walk_at "m name"
      obtain ⟨e, he1, he2⟩ := ho.inAt (A := A.in1) (s := s) hvb
      refine notIn_listAt e (S.isList (a := lo) (by walk_at "m sel")) (fun y hy => he1 y (by simpa using hy)) ?_
      refine wpAny_truthy_bool ?_
      rw [List.any_toArray, he2]
      by_cases hin : b ∈ own
      · rw [decide_eq_true hin]
        exact no _ S
      · rw [decide_eq_false hin]
        simp only [Bool.not_false, if_true]
        refine isTrue_and_nil ?_
        refine wpAny_execs_cons ?_
        refine wpAny_Expr (hi := I.ni) ?_
        refine MethodCall_ ?_
        walk_at "m name"
        refine lAppM S (e := .tail .head) ?_
        refine callWith_method1 (he := rfl) (hplain := rfl) ?_
        refine args_cons (he := rfl) ?_
        refine Subscript_ ?_
        refine nmKC I S (by decide +kernel) (by kernel_rfl) rfl hc ?_
        refine wpAny_BinOp ?_
        refine wpAny_BinOp ?_
        walk_at "m name"
        refine eInt S fun _ s S => ?_
        refine PyProof.Rows.floordiv_int (by decide) ?_
        have S := S.toks (s' := { s with toks := s.toks + 1 })
        walk_at "m name"
        refine modS (by omega) S fun _ s S => ?_
        refine item_listL (hl.isList S) (by omega) (by omega) hv ?_
        refine args_nil ?_
        have S := S.front (a := lo) (e := by walk_at "m sel")
        refine lApp S (by have := ho.1; omega) fun s S => ?_
        refine wpAny_execs_nil ?_
        refine h _ (own ++ [b]) s (ho.append (Rel2.cons hvb .nil)) (by simp; omega) (fun x hx => ?_) (S.front (e := .tail .head))
        rcases List.mem_append.mp hx with hx | hx
        · exact hom x hx
        · exact ⟨_, hj, by simp at hx; rw [hx]; exact hbb⟩
    · rw [decide_eq_false h1]
      exact no _ S
  · rw [decide_eq_false h0]
    exact no _ S
end
end Mine

end
section
open PySem PySem.W PySem.Calls PySem.SeqAt PyProof.Rows Builtin
set_option Elab.async false
set_option maxRecDepth 100000
set_option linter.unusedVariables false
namespace Mine
local macro_rules | `(tactic| walk_at "m sel") => `(tactic| first | with_reducible apply Sel.head | (apply Sel.tail; walk_at "m sel"))
local macro_rules | `(tactic| walk_at "m lget") => `(tactic| first | with_reducible apply LGet.head | (apply LGet.tail; walk_at "m lget"))
local macro_rules | `(tactic| walk_at "m lset") => `(tactic| first | with_reducible apply LSet.head | (apply LSet.tail; walk_at "m lset"))
local macro_rules | `(tactic| walk_at "m mg") => `(tactic| first | exact Top0.gPush (by assumption) | exact Top0.gPop (by assumption) | exact Top0.gWL (by assumption) | exact Top0.gLcas (by assumption) | exact Top0.gBase (by assumption) | exact Top0.gFast (by assumption))
local macro_rules | `(tactic| walk_at "m name") => `(tactic| first
  | (refine' nmL (by assumption) (by assumption) ?hx ?hd ?he ?hg ?_; (case hx => kernel_rfl); (case hd => kernel_rfl); (case he => walk_at "m sel"); (case hg => walk_at "m lget"))
  | (refine' nmC (by assumption) (by assumption) ?hx ?hd ?hc ?he ?_; (case hx => decide +kernel); (case hd => kernel_rfl); (case hc => rfl); (case he => walk_at "m sel"))
  | (refine' nmF (by assumption) (by assumption) ?hx ?hd ?hd2 ?hc ?he ?_; (case hx => decide +kernel); (case hd => kernel_rfl); (case hd2 => kernel_rfl); (case hc => rfl); (case he => walk_at "m sel"))
  | (refine' nmG (by assumption) (by assumption) (Top0.glob (by assumption)) ?hx ?hd ?hv ?_; (case hx => kernel_rfl); (case hd => kernel_rfl); (case hv => walk_at "m mg")))
local macro_rules | `(tactic| walk_at "m store") => `(tactic| first
  | (refine' stL (by assumption) (by assumption) ?hx ?he ?hg ?_; (case hx => kernel_rfl); (case he => walk_at "m sel"); (case hg => walk_at "m lset"))
  | (refine' stC (by assumption) (by assumption) ?hx ?hc ?he ?_; (case hx => kernel_rfl); (case hc => rfl); (case he => walk_at "m sel")))
section
variable {K : Frag} {C fInit fAdd fGet fIter fLcas fBase fFast : Addr} {mg mb : Str → Option Value} {B B' : Store}
variable {w : World} {A : Around} {E : Value → Shared → Prop} {G : Array GenState} {os : OsState} {L L' : Led} {s : Shared} {env : Env} {sc : Scope} {Lf m : Addr} {cl : List (Str × Addr)} {cd : Value} {n : Nat} {x q : Addr}
variable {u0 u1 u2 u3 u4 u5 u6 u7 u8 : Option Value} {k : Nat} {tk : Tok} {U : List Bs}

theorem bodyE {ln lo dP : Addr} {nvs ovs : List Value} {names own : List Bs} {nk : Bs} {gp : Bs → Option (List Bs)} {Q : Flow → Shared → Prop} (I : EnvIs env lawSc Lf (lawCs m) cd)
    (hc : KCell B (m + 2) (.ref ln)) (hl : KList B ln nvs) (hb : BytL nvs names) (hk : names[k]? = some nk) (hz : k < 100) (hU : nk ∈ U) (hUz : U.length ≤ 1000) (ho : BytL ovs own) (hP : KCell B (m + 11) (.ref dP))
    (S : SS B G os ((Lf, LawL u0 u1 (some (.int k tk)) u3 (some (.ref lo)) u5 u6 u7 u8) :: (lo, ListO ovs) :: (dP, DctO w U (ParR B) gp) :: L) s)
    (h : ∀ B' s', Le B B' → KList B' lo ovs → SS B' G os ((dP, DctO w U (ParR B') (fun x => if x = nk then some own else gp x)) :: (Lf, LawL u0 u1 (some (.int k tk)) u3 (some (.ref lo)) u5 u6 u7 u8) :: L) s' → Q .next s') :
    W (model thePrg w) A (exec (bStmt 4) env) Q s := by
  have S := S.front (a := lo) (e := by walk_at "m sel")
  obtain ⟨B1, o1, le1, ho1, hB1, S⟩ := S.freeze
  have hlo : KList B1 lo ovs := ⟨o1, hB1, ho1⟩
  have hc := hc.mono le1
  have hl := hl.mono le1
  have hP := hP.mono le1
  obtain ⟨v, b, hv, hbb, hvb⟩ := hb.pick (i := k) (List.getElem?_eq_some_iff.mp hk).1
  rw [hk] at hbb; cases hbb
  refine wpAny_Assign_Subscript ?_
  walk_at "m name"
  refine nmKC I S (by decide +kernel) (by kernel_rfl) rfl hP ?_
  refine Subscript_ ?_
  refine nmKC I S (by decide +kernel) (by kernel_rfl) rfl hc ?_
  walk_at "m name"
  refine item_listL (hl.isList S) (by omega) (by omega) (x := v) (by simpa using hv) ?_
  have S := (S.front (a := dP) (e := by walk_at "m sel")).dP le1
  refine dctSet S hvb hU hUz (b := own) ⟨lo, ovs, rfl, hlo, ho⟩ fun s S => ?_
  exact h B1 s le1 hlo S

/-- [times[one] for one in l] -/
theorem timesLoop {p1 p2 p3 p4 pos : Pos} {iter : Expr} {scope : Scope} {it l D Cc ct dT : Addr} {vs : List Value} {own : List Bs} {tmv : Bs → Int} {gt : Bs → Option Int} {w0 w1 : Option Value} {Rr : Result → Shared → Prop} (R : Rm A n) (I : EnvIs env sc Cc cl cd)
    (h1 : sc.names.lookup ("one" : Str) = some .local) (h2 : sc.names.lookup ("times" : Str) = some .cell) (h3 : cl.lookup ("times" : Str) = some ct) (hT : KCell B ct (.ref dT)) (hl : KList B l vs) (hb : BytL vs own) (hz : own.length ≤ 100) (hg : ∀ p ∈ own, gt p = some (tmv p))
    (S : SS B G os ((it, IterO l 0) :: (Cc, LocO [(".0", w0), ("one", w1)]) :: (D, ListO []) :: (dT, DctO w U IntV gt) :: L) s)
    (h : ∀ s' out l', SS B G os ((Cc, LocO l') :: (D, ListO out) :: (dT, DctO w U IntV gt) :: L) s' → IntsAre out (own.map tmv) → Rr (.ok .next) s') :
    codeAny (model thePrg w) A (.compLoop (.ListComp (.Subscript (.Name "times" p1) (.Name "one" p2) p3) [⟨.Name "one" p4, iter, [], 0⟩] scope pos) 0 (.ref it) (.ref D) env) Rr s := by
  refine cloop1 (fun m s => ∃ done rest out u0 u1, own = done ++ rest ∧ m = rest.length ∧ IntsAre out (done.map tmv) ∧ SS B G os ((it, IterO l done.length) :: (Cc, LocO [(".0", u0), ("one", u1)]) :: (D, ListO out) :: (dT, DctO w U IntV gt) :: L) s) ?_ own.length
    ⟨[], own, [], w0, w1, rfl, rfl, .nil, S⟩
  clear S
  rintro m s ⟨done, rest, out, u0, u1, hc, hm, ho, S⟩
  have hvl : vs.length = own.length := hb.1
  have hol : out.length = done.length := by have := ho.length; simpa using this
  refine nextL R S (hl.isList S) ?_ ?_
  · intro v s hv hlt S
    obtain ⟨b, rest', rfl⟩ : ∃ k rest', rest = k :: rest' := by
      cases rest with
      | nil => rw [hvl, hc] at hlt; simp at hlt
      | cons c r => exact ⟨c, r, rfl⟩
    have hp : BytV b v := hb.2 done.length v b hv (by rw [hc]; simp)
    have hdl : done.length ≤ 100 := by rw [hc, List.length_append] at hz; omega
    dsimp only
    refine letGoI S .head ?_
    refine PyProof.Rows.assign_Name ?_
    refine stL I S h1 (.tail .head) (.tail .head) fun s S => ?_
    refine wpAny_tests_nil ?_
    refine Subscript_ ?_
    refine nmKC I S h2 (by decide +kernel) h3 hT ?_
    refine nmL I S h1 (by decide +kernel) .head (.tail .head) ?_
    obtain ⟨od, hod, hD⟩ := S.get (a := dT) (e := by walk_at "m sel")
    refine dctSub S hod hD hp (hg b (by rw [hc]; simp)) fun z s hz S => ?_
    obtain ⟨tz, rfl⟩ := hz
    have S := S.front (a := D) (e := by walk_at "m sel")
    refine lApp S (by omega) fun s S => ?_
    have S := S.front (a := Cc) (e := by walk_at "m sel")
    have S := S.front (a := it) (e := by walk_at "m sel")
    refine ⟨rest'.length, by rw [hm]; simp, done ++ [b], rest', _, _, _, by rw [hc]; simp, rfl, ?_, by rw [List.length_append, List.length_singleton]; exact S⟩
    rw [List.map_append]
    exact intsApp ho (.cons _ _ .nil)
  · intro s hlt S'
    have hr0 : rest = [] := by
      have : own.length = done.length + rest.length := by rw [hc]; simp
      exact List.length_eq_zero_iff.mp (by omega)
    subst hr0
    rw [List.append_nil] at hc
    rw [← hc] at ho
    exact h s out _ S' ho

set_option maxHeartbeats 2000000 in
theorem bodyF {ln lo dT : Addr} {nvs ovs : List Value} {names own : List Bs} {nk : Bs} {gt : Bs → Option Int} {tmv : Bs → Int} {c : Int} {t : Tok} {Q : Flow → Shared → Prop} (T : Top0 K C fInit fAdd fGet fIter fLcas fBase fFast mg mb B) (TB : TopB mg mb) (R : Rm A 30) (I : EnvIs env lawSc Lf (lawCs m) cd)
    (hc : KCell B (m + 2) (.ref ln)) (hl : KList B ln nvs) (hb : BytL nvs names) (hk : names[k]? = some nk) (hz : k < 100) (hU : nk ∈ U) (hUz : U.length ≤ 1000) (hlo : KList B lo ovs) (ho : BytL ovs own) (hoz : own.length ≤ 2) (hT : KCell B (m + 12) (.ref dT)) (hg : ∀ p ∈ own, gt p = some (tmv p))
    (S : SS B G os ((Lf, LawL u0 u1 (some (.int k tk)) (some (.int c t)) (some (.ref lo)) u5 u6 u7 u8) :: (dT, DctO w U IntV gt) :: L) s)
    (h : ∀ N s', 1 ≤ N → (∀ p ∈ own, tmv p < N) → SS B G os ((dT, DctO w U IntV (fun x => if x = nk then some N else gt x)) :: (Lf, LawL u0 u1 (some (.int k tk)) (some (.int c t)) (some (.ref lo)) u5 u6 u7 u8) :: L) s' → Q .next s') :
    W (model thePrg w) A (exec (bStmt 5) env) Q s := by
  obtain ⟨v, b, hv, hbb, hvb⟩ := hb.pick (i := k) (List.getElem?_eq_some_iff.mp hk).1
  rw [hk] at hbb; cases hbb
  refine wpAny_Assign_Subscript ?_
  refine wpAny_BinOp ?_
  refine wpAny_BinOp ?_
  refine PyProof.Rows.Call_ ?_
  refine nmB I S T.glob T.buil (by kernel_rfl) (by kernel_rfl) TB.max.1 TB.max.2 ?_
  refine callWith_builtin1 (he := rfl) (hplain := rfl) ?_
  refine args_cons (he := rfl) ?_
  refine wpAny_BinOp ?_
  refine eList ?_
  refine args_cons (he := rfl) ?_
  refine eInt S fun t0 s S => ?_
  refine args_nil ?_
  refine newList_ S (by simp) fun l0 s S => ?_
  refine lcompW (os := os) (clos := [("times", m + 12)]) [".0", "one"] I rfl rfl (fun _ => rfl) (by kernel_rfl) (by kernel_rfl) (by kernel_rfl) (by kernel_rfl) (by kernel_rfl) ?_
  walk_at "m name"
  refine iter_list S (hlo.isList S) fun it s S => ?_
  refine ⟨B, G, _, S, ?_⟩
  intro D Cc s S
  refine cstartL S (e := by walk_at "m sel") fun s S => ?_
  have S := S.front (a := dT) (e := by walk_at "m sel")
  have S := S.front (a := D) (e := by walk_at "m sel")
  have S := S.front (a := Cc) (e := by walk_at "m sel")
  have S := S.front (a := it) (e := by walk_at "m sel")
  refine timesLoop R (compEnvIs I (by kernel_rfl)) (by kernel_rfl) (by decide +kernel) rfl hT hlo ho (by omega) hg S fun s out l' S hi => ?_
  refine ⟨B, G, _, _, S, fun s S => ?_⟩
  refine addL S (S.isList (a := l0) (by walk_at "m sel")) (S.isList (a := D) (by walk_at "m sel")) (by have := hi.length; simp at this ⊢; omega) fun D2 s S => ?_
  refine args_nil ?_
  refine maxL R.h S (S.isList .head) (ns := 0 :: own.map tmv) (.cons 0 t0 hi) (by simp) fun M tM s hM1 hM2 S => ?_
  refine eInt S fun _ s S => ?_
  refine addS S fun _ s S => ?_
  refine wpAny_BinOp ?_
  refine wpAny_BinOp ?_
  walk_at "m name"
  refine eInt S fun _ s S => ?_
  refine PyProof.Rows.floordiv_int (by decide) ?_
  have S := S.toks (s' := { s with toks := s.toks + 1 })
  refine eInt S fun _ s S => ?_
  refine modS (by decide) S fun _ s S => ?_
  refine addS S fun tv s S => ?_
  have hf0 := fmod_nonneg_ (c.fdiv 5) (b := 2) (by decide)
  refine nmKC I S (by decide +kernel) (by kernel_rfl) rfl hT ?_
  refine Subscript_ ?_
  refine nmKC I S (by decide +kernel) (by kernel_rfl) rfl hc ?_
  walk_at "m name"
  refine item_listL (hl.isList S) (by omega) (by omega) (x := v) (by simpa using hv) ?_
  have S := S.dropAt (a := D2) (e := by walk_at "m sel")
  have S := S.dropAt (a := D) (e := by walk_at "m sel")
  have S := S.dropAt (a := l0) (e := by walk_at "m sel")
  have S := S.front (a := dT) (e := by walk_at "m sel")
  refine dctSet S hvb hU hUz (b := M + 1 + (c.fdiv 5).fmod 2) ⟨tv, rfl⟩ fun s S => ?_
  have h0 := hM2 0 (.head _)
  refine h _ s (by omega) (fun p hp => ?_) S
  have := hM2 (tmv p) (.tail _ (List.mem_map_of_mem hp))
  omega
end
end Mine

end
section
open PySem PySem.W PySem.Calls PySem.SeqAt PyProof.Rows Builtin
set_option Elab.async false
set_option maxRecDepth 100000
set_option linter.unusedVariables false
namespace Mine
local macro_rules | `(tactic| walk_at "m sel") => `(tactic| first | with_reducible apply Sel.head | (apply Sel.tail; walk_at "m sel"))
local macro_rules | `(tactic| walk_at "m lget") => `(tactic| first | with_reducible apply LGet.head | (apply LGet.tail; walk_at "m lget"))
local macro_rules | `(tactic| walk_at "m lset") => `(tactic| first | with_reducible apply LSet.head | (apply LSet.tail; walk_at "m lset"))
local macro_rules | `(tactic| walk_at "m mg") => `(tactic| first | exact Top0.gPush (by assumption) | exact Top0.gPop (by assumption) | exact Top0.gWL (by assumption) | exact Top0.gLcas (by assumption) | exact Top0.gBase (by assumption) | exact Top0.gFast (by assumption))
local macro_rules | `(tactic| walk_at "m name") => `(tactic| first
  | (refine' nmL (by assumption) (by assumption) ?hx ?hd ?he ?hg ?_; (case hx => kernel_rfl); (case hd => kernel_rfl); (case he => walk_at "m sel"); (case hg => walk_at "m lget"))
  | (refine' nmC (by assumption) (by assumption) ?hx ?hd ?hc ?he ?_; (case hx => decide +kernel); (case hd => kernel_rfl); (case hc => rfl); (case he => walk_at "m sel"))
  | (refine' nmF (by assumption) (by assumption) ?hx ?hd ?hd2 ?hc ?he ?_; (case hx => decide +kernel); (case hd => kernel_rfl); (case hd2 => kernel_rfl); (case hc => rfl); (case he => walk_at "m sel"))
  | (refine' nmG (by assumption) (by assumption) (Top0.glob (by assumption)) ?hx ?hd ?hv ?_; (case hx => kernel_rfl); (case hd => kernel_rfl); (case hv => walk_at "m mg")))
local macro_rules | `(tactic| walk_at "m store") => `(tactic| first
  | (refine' stL (by assumption) (by assumption) ?hx ?he ?hg ?_; (case hx => kernel_rfl); (case he => walk_at "m sel"); (case hg => walk_at "m lset"))
  | (refine' stC (by assumption) (by assumption) ?hx ?hc ?he ?_; (case hx => kernel_rfl); (case hc => rfl); (case he => walk_at "m sel")))
section
variable {K : Frag} {C fInit fAdd fGet fIter fLcas fBase fFast : Addr} {mg mb : Str → Option Value} {B B' : Store}
variable {w : World} {A : Around} {E : Value → Shared → Prop} {G : Array GenState} {os : OsState} {L L' : Led} {s : Shared} {env : Env} {sc : Scope} {Lf m : Addr} {cl : List (Str × Addr)} {cd : Value} {n : Nat} {x q : Addr}
variable {u0 u1 u2 u3 u4 u5 u6 u7 u8 : Option Value} {k : Nat} {tk : Tok} {U : List Bs}

/-- the inner of [far for one in own for far in kin[one]] -/
theorem farInner {p1 p2 pos : Pos} {t1 i1 i2 : Expr} {f1 : List Expr} {scope : Scope} {it a D Cc dK : Addr} {xs out0 : List Value} {bs bs0 : List Bs} {gk : Bs → Option ((Bs → Bool) × Nat)} {w0 w1 w2 : Option Value} {Rr : Result → Shared → Prop} (hh : A.handled = none) (I : EnvIs env sc Cc cl cd)
    (h1 : sc.names.lookup ("far" : Str) = some .local) (hb : BytL xs bs) (hb0 : BytL out0 bs0) (hz : bs0.length + bs.length ≤ 900)
    (S : SS B G os ((it, SIt w B a xs 0) :: (Cc, LocO [(".0", w0), ("one", w1), ("far", w2)]) :: (D, ListO out0) :: (dK, DctO w U (KinR w B) gk) :: L) s)
    (h : ∀ s' out w2, SS B G os ((Cc, LocO [(".0", w0), ("one", w1), ("far", w2)]) :: (D, ListO out) :: (dK, DctO w U (KinR w B) gk) :: L) s' → BytL out (bs0 ++ bs) → Rr (.ok .next) s') :
    codeAny (model thePrg w) A (.compLoop (.ListComp (.Name "far" p1) [⟨t1, i1, f1, 0⟩, ⟨.Name "far" p2, i2, [], 0⟩] scope pos) 1 (.ref it) (.ref D) env) Rr s := by
  have hxl : xs.length = bs.length := hb.1
  refine cloopIn (fun m s => ∃ i out w2, m + i = bs.length ∧ BytL out (bs0 ++ bs.take i) ∧ SS B G os ((it, SIt w B a xs i) :: (Cc, LocO [(".0", w0), ("one", w1), ("far", w2)]) :: (D, ListO out) :: (dK, DctO w U (KinR w B) gk) :: L) s) ?_ bs.length
    ⟨0, out0, w2, rfl, by simpa using hb0, S⟩
  clear S
  rintro m s ⟨i, out, w2, hm, ho, S⟩
  refine nextSet hh S ?_ ?_
  · intro v s hv hlt S
    have hib : i < bs.length := by omega
    have hp : BytV bs[i] v := hb.2 i v _ hv (List.getElem?_eq_getElem hib)
    have hol : out.length ≤ 900 := by have := ho.1; simp at this; omega
    dsimp only
    refine letGoS S .head ?_
    refine PyProof.Rows.assign_Name ?_
    refine stL I S h1 (.tail .head) (.tail (.tail .head)) fun s S => ?_
    refine nmL I S h1 (by decide +kernel) .head (.tail (.tail .head)) ?_
    have S := S.front (a := D) (e := by walk_at "m sel")
    refine lApp S (by omega) fun s S => ?_
    have S := S.front (a := Cc) (e := by walk_at "m sel")
    have S := S.front (a := it) (e := by walk_at "m sel")
    refine ⟨m - 1, by omega, i + 1, _, _, by omega, ?_, S⟩
    rw [List.take_add_one, List.getElem?_eq_getElem hib, ← List.append_assoc]
    exact ho.append (Rel2.cons hp .nil)
  · intro s hi S'
    rw [show i = bs.length by omega, List.take_length] at ho
    exact h s out _ S' ho

/-- [far for one in own for far in kin[one]] -/
theorem farLoop {p1 p2 p3 p4 p5 p6 pos : Pos} {iter : Expr} {scope : Scope} {it l D Cc ck dK : Addr} {vs : List Value} {own : List Bs} {kin : Bs → (Bs → Bool) × Nat} {gk : Bs → Option ((Bs → Bool) × Nat)} {N : Nat} {w0 w1 w2 : Option Value} {Rr : Result → Shared → Prop} (R : Rm A n) (I : EnvIs env sc Cc cl cd)
    (h1 : sc.names.lookup ("one" : Str) = some .local) (h2 : sc.names.lookup ("kin" : Str) = some .cell) (h4 : sc.names.lookup ("far" : Str) = some .local) (h3 : cl.lookup ("kin" : Str) = some ck) (hK : KCell B ck (.ref dK)) (hl : KList B l vs) (hb : BytL vs own) (hz : own.length * N ≤ 900) (hN : N ≤ 900)
    (hg : ∀ p ∈ own, gk p = some (kin p)) (hkN : ∀ p ∈ own, (kin p).2 ≤ N)
    (S : SS B G os ((it, IterO l 0) :: (Cc, LocO [(".0", w0), ("one", w1), ("far", w2)]) :: (D, ListO []) :: (dK, DctO w U (KinR w B) gk) :: L) s)
    (h : ∀ B' s' out bs l', Le B B' → SS B' G os ((Cc, LocO l') :: (D, ListO out) :: (dK, DctO w U (KinR w B') gk) :: L) s' → BytL out bs → bs.length ≤ own.length * N → (∀ b, b ∈ bs ↔ ∃ p ∈ own, (kin p).1 b = true) → Rr (.ok .next) s') :
    codeAny (model thePrg w) A (.compLoop (.ListComp (.Name "far" p1) [⟨.Name "one" p2, iter, [], 0⟩, ⟨.Name "far" p3, .Subscript (.Name "kin" p4) (.Name "one" p5) p6, [], 0⟩] scope pos) 0 (.ref it) (.ref D) env) Rr s := by
  refine cloopOut (fun m s => ∃ B' done rest out bs u0 u1 u2, Le B B' ∧ own = done ++ rest ∧ m = rest.length ∧ BytL out bs ∧ bs.length ≤ done.length * N ∧ (∀ b, b ∈ bs ↔ ∃ p ∈ done, (kin p).1 b = true) ∧
      SS B' G os ((it, IterO l done.length) :: (Cc, LocO [(".0", u0), ("one", u1), ("far", u2)]) :: (D, ListO out) :: (dK, DctO w U (KinR w B') gk) :: L) s) (fun _ => rfl) ?_ own.length
    ⟨B, [], own, [], [], w0, w1, w2, .refl _, rfl, rfl, Rel2.nil, Nat.zero_le _, (fun b => by simp), S⟩
  clear S
  rintro m s ⟨B1, done, rest, out, bs, u0, u1, u2, le1, hc, hm, ho, hbz, hbm, S⟩
  have hvl : vs.length = own.length := hb.1
  refine nextL R S ((hl.mono le1).isList S) ?_ ?_
  · intro v s hv hlt S
    obtain ⟨b, rest', rfl⟩ : ∃ k rest', rest = k :: rest' := by
      cases rest with
      | nil => rw [hvl, hc] at hlt; simp at hlt
      | cons c r => exact ⟨c, r, rfl⟩
    have hp : BytV b v := hb.2 done.length v b hv (by rw [hc]; simp)
    have hbo : b ∈ own := by rw [hc]; simp
    have hol : own.length = done.length + rest'.length + 1 := by rw [hc]; simp; omega
    have hmul : (done.length + 1) * N ≤ own.length * N := Nat.mul_le_mul_right _ (by omega)
    rw [Nat.add_mul, Nat.one_mul] at hmul
    have hkb := hkN b hbo
    dsimp only
    refine letGoI S .head ?_
    refine PyProof.Rows.assign_Name ?_
    refine stL I S h1 (.tail .head) (.tail .head) fun s S => ?_
    refine Subscript_ ?_
    refine nmKC I S h2 (by decide +kernel) h3 (hK.mono le1) ?_
    refine nmL I S h1 (by decide +kernel) .head (.tail .head) ?_
    obtain ⟨od, hod, hD⟩ := S.get (a := dK) (e := by walk_at "m sel")
    refine dctSub S hod hD hp (hg b hbo) fun z s hz S => ?_
    obtain ⟨a, rfl, hS⟩ := hz
    refine iterSet hS (by omega) S fun B2 it2 xs bs2 s le2 hxb hxm hxz hxn S => ?_
    have S := (S.front (a := dK) (e := by walk_at "m sel")).dK le2
    have S := S.front (a := D) (e := by walk_at "m sel")
    have S := S.front (a := Cc) (e := by walk_at "m sel")
    have S := S.front (a := it2) (e := by walk_at "m sel")
    refine (fun f => cstart2 (farInner R.h I h4 hxb ho (by omega) S f) (selfSet S .head (farInner R.h I h4 hxb ho (by omega) S f))) ?_
    · intro s out' w2 S ho'
      have S := S.front (a := it) (e := by walk_at "m sel")
      refine ⟨rest'.length, by rw [hm]; simp, B2, done ++ [b], rest', out', bs ++ bs2, _, _, _, le1.trans le2, by rw [hc]; simp, rfl, ho', ?_, ?_, by rw [List.length_append, List.length_singleton]; exact S⟩
      · rw [List.length_append, List.length_append, List.length_singleton, Nat.add_mul, Nat.one_mul]; omega
      · intro y
        rw [List.mem_append, hbm, hxm]
        constructor
        · rintro (⟨p, hp, hy⟩ | hy)
          · exact ⟨p, List.mem_append_left _ hp, hy⟩
          · exact ⟨b, by simp, hy⟩
        · rintro ⟨p, hp, hy⟩
          rcases List.mem_append.mp hp with hp | hp
          · exact .inl ⟨p, hp, hy⟩
          · simp at hp; subst hp; exact .inr hy
  · intro s hlt S'
    have hr0 : rest = [] := by
      have : own.length = done.length + rest.length := by rw [hc]; simp
      exact List.length_eq_zero_iff.mp (by omega)
    subst hr0
    rw [List.append_nil] at hc
    rw [← hc] at hbz hbm
    exact h B1 s out bs _ le1 S' ho hbz hbm

set_option maxHeartbeats 2000000 in
theorem bodyG {ln lo dK : Addr} {nvs ovs : List Value} {names own : List Bs} {nk : Bs} {gk : Bs → Option ((Bs → Bool) × Nat)} {kin : Bs → (Bs → Bool) × Nat} {N : Nat} {Q : Flow → Shared → Prop} (T : Top0 K C fInit fAdd fGet fIter fLcas fBase fFast mg mb B) (TB : TopB mg mb) (R : Rm A 30) (I : EnvIs env lawSc Lf (lawCs m) cd)
    (hc : KCell B (m + 2) (.ref ln)) (hl : KList B ln nvs) (hb : BytL nvs names) (hk : names[k]? = some nk) (hz : k < 100) (hU : nk ∈ U) (hUz : U.length ≤ 1000) (hlo : KList B lo ovs) (ho : BytL ovs own) (hoz : own.length * N ≤ 900) (hN : N ≤ 900) (hK : KCell B (m + 3) (.ref dK))
    (hg : ∀ p ∈ own, gk p = some (kin p)) (hkN : ∀ p ∈ own, (kin p).2 ≤ N)
    (S : SS B G os ((Lf, LawL u0 u1 (some (.int k tk)) u3 (some (.ref lo)) u5 u6 u7 u8) :: (dK, DctO w U (KinR w B) gk) :: L) s)
    (h : ∀ B' s' (X : (Bs → Bool) × Nat), Le B B' → X.2 ≤ 1 + own.length * N → (∀ b, X.1 b = true ↔ b = nk ∨ ∃ p ∈ own, (kin p).1 b = true) →
      SS B' G os ((dK, DctO w U (KinR w B') (fun x => if x = nk then some X else gk x)) :: (Lf, LawL u0 u1 (some (.int k tk)) u3 (some (.ref lo)) u5 u6 u7 u8) :: L) s' → Q .next s') :
    W (model thePrg w) A (exec (bStmt 6) env) Q s := by
  obtain ⟨v, b, hv, hbb, hvb⟩ := hb.pick (i := k) (List.getElem?_eq_some_iff.mp hk).1
  rw [hk] at hbb; cases hbb
  refine wpAny_Assign_Subscript ?_
  refine PyProof.Rows.Call_ ?_
  refine nmB I S T.glob T.buil (by kernel_rfl) (by kernel_rfl) TB.set.1 TB.set.2 ?_
  refine PyProof.Rows.callWith_type1 (he := rfl) (hplain := rfl) ?_
  refine args_cons (he := rfl) ?_
  refine wpAny_BinOp ?_
  refine eList ?_
  refine args_cons (he := rfl) ?_
  refine Subscript_ ?_
  refine nmKC I S (by decide +kernel) (by kernel_rfl) rfl hc ?_
  walk_at "m name"
  refine item_listL (hl.isList S) (by omega) (by omega) (x := v) (by simpa using hv) ?_
  refine args_nil ?_
  refine newList_ S (by simp) fun l0 s S => ?_
  refine lcompW (os := os) (clos := [("kin", m + 3)]) [".0", "one", "far"] I rfl rfl (fun _ => rfl) (by kernel_rfl) (by kernel_rfl) (by kernel_rfl) (by kernel_rfl) (by kernel_rfl) ?_
  walk_at "m name"
  refine iter_list S (hlo.isList S) fun it s S => ?_
  refine ⟨B, G, _, S, ?_⟩
  intro D Cc s S
  refine cstartL S (e := by walk_at "m sel") fun s S => ?_
  have S := S.front (a := dK) (e := by walk_at "m sel")
  have S := S.front (a := D) (e := by walk_at "m sel")
  have S := S.front (a := Cc) (e := by walk_at "m sel")
  have S := S.front (a := it) (e := by walk_at "m sel")
  refine farLoop R (compEnvIs I (by kernel_rfl)) (by kernel_rfl) (by decide +kernel) (by kernel_rfl) rfl hK hlo ho hoz hN hg hkN S fun B1 s out bs l' le1 S hob hbz hbm => ?_
  refine ⟨B1, G, _, _, S, fun s S => ?_⟩
  have hol := hob.1
  refine addL S (S.isList (a := l0) (by walk_at "m sel")) (S.isList (a := D) (by walk_at "m sel")) (by simp; omega) fun D2 s S => ?_
  refine args_nil ?_
  obtain ⟨B2, o2, le2, ho2, hB2, S⟩ := S.freeze
  refine setOf (bs := nk :: bs) (R.less (by omega)) S ⟨o2, hB2, ho2⟩ (Rel2.cons hvb hob) (by simp; omega) fun D3 s S => ?_
  obtain ⟨B3, o3, le3, ho3, hB3, S⟩ := S.freeze
  have le := (le1.trans le2).trans le3
  refine nmKC I S (by decide +kernel) (by kernel_rfl) rfl (hK.mono le) ?_
  refine Subscript_ ?_
  refine nmKC I S (by decide +kernel) (by kernel_rfl) rfl (hc.mono le) ?_
  walk_at "m name"
  refine item_listL ((hl.mono le).isList S) (by omega) (by omega) (x := v) (by simpa using hv) ?_
  have S := S.dropAt (a := D) (e := by walk_at "m sel")
  have S := S.dropAt (a := l0) (e := by walk_at "m sel")
  have S := (S.front (a := dK) (e := by walk_at "m sel")).dK (le2.trans le3)
  refine dctSet S hvb hU hUz (b := (fun k => decide (k ∈ nk :: bs), (nk :: bs).length)) ⟨D3, rfl, o3, hB3, ho3⟩ fun s S => ?_
  refine h B3 s _ le (by simp; omega) (fun y => ?_) S
  simp [hbm]
end
end Mine

end
section
open PySem PySem.W PySem.Calls PySem.SeqAt PyProof.Rows Builtin
set_option Elab.async false
set_option maxRecDepth 100000
set_option linter.unusedVariables false
namespace Mine
local macro_rules | `(tactic| walk_at "m sel") => `(tactic| first | with_reducible apply Sel.head | (apply Sel.tail; walk_at "m sel"))
local macro_rules | `(tactic| walk_at "m lget") => `(tactic| first | with_reducible apply LGet.head | (apply LGet.tail; walk_at "m lget"))
local macro_rules | `(tactic| walk_at "m lset") => `(tactic| first | with_reducible apply LSet.head | (apply LSet.tail; walk_at "m lset"))
local macro_rules | `(tactic| walk_at "m mg") => `(tactic| first | exact Top0.gPush (by assumption) | exact Top0.gPop (by assumption) | exact Top0.gWL (by assumption) | exact Top0.gLcas (by assumption) | exact Top0.gBase (by assumption) | exact Top0.gFast (by assumption))
local macro_rules | `(tactic| walk_at "m name") => `(tactic| first
  | (refine' nmL (by assumption) (by assumption) ?hx ?hd ?he ?hg ?_; (case hx => kernel_rfl); (case hd => kernel_rfl); (case he => walk_at "m sel"); (case hg => walk_at "m lget"))
  | (refine' nmC (by assumption) (by assumption) ?hx ?hd ?hc ?he ?_; (case hx => decide +kernel); (case hd => kernel_rfl); (case hc => rfl); (case he => walk_at "m sel"))
  | (refine' nmF (by assumption) (by assumption) ?hx ?hd ?hd2 ?hc ?he ?_; (case hx => decide +kernel); (case hd => kernel_rfl); (case hd2 => kernel_rfl); (case hc => rfl); (case he => walk_at "m sel"))
  | (refine' nmG (by assumption) (by assumption) (Top0.glob (by assumption)) ?hx ?hd ?hv ?_; (case hx => kernel_rfl); (case hd => kernel_rfl); (case hv => walk_at "m mg")))
local macro_rules | `(tactic| walk_at "m store") => `(tactic| first
  | (refine' stL (by assumption) (by assumption) ?hx ?he ?hg ?_; (case hx => kernel_rfl); (case he => walk_at "m sel"); (case hg => walk_at "m lset"))
  | (refine' stC (by assumption) (by assumption) ?hx ?hc ?he ?_; (case hx => kernel_rfl); (case hc => rfl); (case he => walk_at "m sel")))
structure Dag (names : List Bs) (k : Nat) (par : Bs → List Bs) (tm : Bs → Int) (kin : Bs → (Bs → Bool) × Nat) : Prop where
  hpar : ∀ i x, i < k → names[i]? = some x → ∀ p ∈ par x, ∃ j, j < i ∧ names[j]? = some p
  hlen : ∀ i x, i < k → names[i]? = some x → (par x).length ≤ 2
  hlt : ∀ i x, i < k → names[i]? = some x → 1 ≤ tm x ∧ ∀ p ∈ par x, tm p < tm x
  hkin : ∀ i x, i < k → names[i]? = some x → ∀ b, (kin x).1 b = true ↔ Anc par x b
  hsz : ∀ i x, i < k → names[i]? = some x → (kin x).2 < 2 ^ (i + 1)
def setF {β : Type} (f : Bs → β) (k : Bs) (b : β) : Bs → β := fun x => if x = k then b else f x
def tabOf {β : Type} (names : List Bs) (k : Nat) (f : Bs → β) : Bs → Option β := fun x => if x ∈ names.take k then some (f x) else none

theorem Anc.congr {P P' : Bs → List Bs} {D : Bs → Prop} (hc : ∀ x, D x → ∀ p ∈ P x, D p) (he : ∀ x, D x → P' x = P x) {x y : Bs} (hx : D x) : Anc P' x y ↔ Anc P x y := by
  constructor
  · intro h
    induction h with
    | refl => exact .refl _
    | step hp _ ih =>
      rw [he _ hx] at hp
      exact .step hp (ih (hc _ hx _ hp))
  · intro h
    induction h with
    | refl => exact .refl _
    | step hp _ ih => exact .step (by rw [he _ hx]; exact hp) (ih (hc _ hx _ hp))
theorem Anc.iff {P : Bs → List Bs} {x y : Bs} : Anc P x y ↔ y = x ∨ ∃ p ∈ P x, Anc P p y := by
  constructor
  · intro h
    cases h with
    | refl => exact .inl rfl
    | step hp h => exact .inr ⟨_, hp, h⟩
  · rintro (rfl | ⟨p, hp, h⟩)
    · exact .refl _
    · exact .step hp h

section
variable {names : List Bs} {k : Nat} {par : Bs → List Bs} {tm : Bs → Int} {kin : Bs → (Bs → Bool) × Nat}
theorem nodupAt (hn : names.Nodup) {i j : Nat} {x : Bs} (h1 : names[i]? = some x) (h2 : names[j]? = some x) : i = j := by
  obtain ⟨l1, e1⟩ := List.getElem?_eq_some_iff.mp h1
  obtain ⟨l2, e2⟩ := List.getElem?_eq_some_iff.mp h2
  exact (List.getElem_inj hn).mp (e1.trans e2.symm)
theorem tab_step {β : Type} {f : Bs → β} {nk : Bs} {b : β} (hn : names.Nodup) (hk : names[k]? = some nk) : (fun x => if x = nk then some b else tabOf names k f x) = tabOf names (k + 1) (setF f nk b) := by
  funext x
  unfold tabOf setF
  rw [List.take_add_one, hk]
  by_cases e : x = nk
  · subst e; simp
  · simp [e]
theorem Dag.step {nk : Bs} {own : List Bs} {N : Int} {X : (Bs → Bool) × Nat} (d : Dag names k par tm kin) (hn : names.Nodup) (hk : names[k]? = some nk) (ho : ∀ x ∈ own, ∃ j, j < k ∧ names[j]? = some x) (hoz : own.length ≤ 2)
    (h1 : 1 ≤ N) (h2 : ∀ p ∈ own, tm p < N) (h3 : X.2 ≤ 1 + own.length * (2 ^ k - 1)) (h4 : ∀ b, X.1 b = true ↔ b = nk ∨ ∃ p ∈ own, (kin p).1 b = true) :
    Dag names (k + 1) (setF par nk own) (setF tm nk N) (setF kin nk X) := by
  have old : ∀ i x, i < k → names[i]? = some x → x ≠ nk := fun i x hi hx e => by
    subst e
    have := nodupAt hn hx hk
    omega
  have anc : ∀ i x, i < k → names[i]? = some x → ∀ b, Anc (setF par nk own) x b ↔ Anc par x b := fun i x hi hx b =>
    Anc.congr (D := fun x => ∃ i, i < k ∧ names[i]? = some x) (fun x ⟨i, hi, hx⟩ p hp => let ⟨j, hj, hj2⟩ := d.hpar i x hi hx p hp; ⟨j, by omega, hj2⟩) (fun x ⟨i, hi, hx⟩ => by unfold setF; rw [if_neg (old i x hi hx)]) ⟨i, hi, hx⟩
  refine ⟨fun i x hi hx p hp => ?_, fun i x hi hx => ?_, fun i x hi hx => ?_, fun i x hi hx b => ?_, fun i x hi hx => ?_⟩
  · by_cases e : i = k
    · subst e; rw [hk] at hx; cases hx
      unfold setF at hp; rw [if_pos rfl] at hp
      exact ho p hp
    · have hi' : i < k := by omega
      unfold setF at hp; rw [if_neg (old i x hi' hx)] at hp
      exact d.hpar i x hi' hx p hp
  · by_cases e : i = k
    · subst e; rw [hk] at hx; cases hx
      unfold setF; rw [if_pos rfl]; exact hoz
    · have hi' : i < k := by omega
      unfold setF; rw [if_neg (old i x hi' hx)]
      exact d.hlen i x hi' hx
  · by_cases e : i = k
    · subst e; rw [hk] at hx; cases hx
      unfold setF; rw [if_pos rfl, if_pos rfl]
      refine ⟨h1, fun p hp => ?_⟩
      obtain ⟨j, hj, hj2⟩ := ho p hp
      rw [if_neg (old j p hj hj2)]
      exact h2 p hp
    · have hi' : i < k := by omega
      unfold setF; rw [if_neg (old i x hi' hx), if_neg (old i x hi' hx)]
      refine ⟨(d.hlt i x hi' hx).1, fun p hp => ?_⟩
      obtain ⟨j, hj, hj2⟩ := d.hpar i x hi' hx p hp
      rw [if_neg (old j p (by omega) hj2)]
      exact (d.hlt i x hi' hx).2 p hp
  · by_cases e : i = k
    · subst e; rw [hk] at hx; cases hx
      rw [Anc.iff]
      have e1 : setF kin nk X nk = X := by unfold setF; rw [if_pos rfl]
      have e2 : setF par nk own nk = own := by unfold setF; rw [if_pos rfl]
      rw [e1, e2, h4]
      refine or_congr Iff.rfl (exists_congr fun p => and_congr_right fun hp => ?_)
      obtain ⟨j, hj, hj2⟩ := ho p hp
      rw [anc j p hj hj2, d.hkin j p hj hj2]
    · have hi' : i < k := by omega
      rw [anc i x hi' hx]
      unfold setF; rw [if_neg (old i x hi' hx)]
      exact d.hkin i x hi' hx b
  · by_cases e : i = k
    · subst e; rw [hk] at hx; cases hx
      unfold setF; rw [if_pos rfl]
      have : own.length * (2 ^ i - 1) ≤ 2 * (2 ^ i - 1) := Nat.mul_le_mul_right _ hoz
      have h0 : 1 ≤ 2 ^ i := Nat.one_le_two_pow
      rw [Nat.pow_succ]; omega
    · have hi' : i < k := by omega
      unfold setF; rw [if_neg (old i x hi' hx)]
      exact d.hsz i x hi' hx
end

section
variable {K : Frag} {C fInit fAdd fGet fIter fLcas fBase fFast : Addr} {mg mb : Str → Option Value} {B B' : Store}
variable {w : World} {A : Around} {E : Value → Shared → Prop} {G : Array GenState} {os : OsState} {L L' : Led} {s : Shared} {env : Env} {sc : Scope} {Lf m : Addr} {cl : List (Str × Addr)} {cd : Value} {n : Nat} {x q : Addr}
variable {u0 u1 u2 u3 u4 u5 u6 u7 u8 : Option Value} {k : Nat} {tk : Tok} {U : List Bs}

set_option maxHeartbeats 2000000 in
theorem law5 {lc ln dT dP dK : Addr} {cvs nvs : List Value} {cis : List Int} {names : List Bs} {tm0 : Tok} {Q : Flow → Shared → Prop} (T : Top0 K C fInit fAdd fGet fIter fLcas fBase fFast mg mb B) (TB : TopB mg mb) (R : Rm A 30) (I : EnvIs env lawSc Lf (lawCs m) cd)
    (hcc : KCell B m (.ref lc)) (hcl : KList B lc cvs) (hci : IntsAre cvs cis) (h10 : cis.length = 10) (hmany : KCell B (m + 1) (.int names.length tm0)) (hnz : names.length ≤ 9) (hnd : names.Nodup)
    (hc : KCell B (m + 2) (.ref ln)) (hl : KList B ln nvs) (hb : BytL nvs names) (hU : ∀ x ∈ names, x ∈ U) (hUz : U.length ≤ 1000) (hT : KCell B (m + 12) (.ref dT)) (hP : KCell B (m + 11) (.ref dP)) (hK : KCell B (m + 3) (.ref dK))
    (S : SS B G os ((Lf, LawL u0 u1 u2 u3 u4 u5 u6 u7 u8) :: (dP, DctO w U (ParR B) fun _ => none) :: (dT, DctO w U IntV fun _ => none) :: (dK, DctO w U (KinR w B) fun _ => none) :: L) s)
    (h : ∀ B' par tm kin u2 u3 u4 s', Le B B' → Dag names names.length par tm kin →
      SS B' G os ((Lf, LawL u0 u1 u2 u3 u4 u5 u6 u7 u8) :: (dP, DctO w U (ParR B') (tabOf names names.length par)) :: (dT, DctO w U IntV (tabOf names names.length tm)) :: (dK, DctO w U (KinR w B') (tabOf names names.length kin)) :: L) s' → Q .next s') :
    W (model thePrg w) A (exec (lawStmt 5) env) Q s := by
  refine forW ?_
  refine PyProof.Rows.Call_ ?_
  refine nmB I S T.glob T.buil (by kernel_rfl) (by kernel_rfl) TB.range.1 TB.range.2 ?_
  refine PyProof.Rows.callWith_type1 (he := rfl) (hplain := rfl) ?_
  refine args_cons (he := rfl) ?_
  refine nmKC I S (by decide +kernel) (by kernel_rfl) rfl hmany ?_
  refine args_nil ?_
  refine range1W S (by omega) (by omega) fun r s S hr => ?_
  refine iterRng S hr (by omega) (by omega) (by omega) fun it s S => ?_
  intro Rr hR
  refine loopW (fun j s => ∃ B' i par tm kin u2 u3 u4, j + i = names.length ∧ Le B B' ∧ Dag names i par tm kin ∧
      SS B' G os ((it, RngO i (names.length - i : Nat)) :: (Lf, LawL u0 u1 u2 u3 u4 u5 u6 u7 u8) :: (dP, DctO w U (ParR B') (tabOf names i par)) :: (dT, DctO w U IntV (tabOf names i tm)) :: (dK, DctO w U (KinR w B') (tabOf names i kin)) :: L) s) ?_ names.length
    ⟨B, 0, fun _ => [], fun _ => 0, fun _ => (fun _ => false, 0), u2, u3, u4, rfl, .refl _, ⟨(fun _ _ h => by omega), (fun _ _ h => by omega), (fun _ _ h => by omega), (fun _ _ h => by omega), (fun _ _ h => by omega)⟩, ?_⟩
  · clear S
    rintro j s ⟨B1, i, par, tm, kin, u2, u3, u4, hj, le1, d, S⟩
    refine nextRng R.h S (fun t s hlt S => ?_) (fun s hle S' => ?_)
    · dsimp only
      have hi : i < names.length := by omega
      have hk : names[i]? = some names[i] := List.getElem?_eq_getElem hi
      have hnU : names[i] ∈ U := hU _ (List.getElem_mem hi)
      have T1 := T.mono le1
      refine letGoR S .head ?_
      refine PyProof.Rows.assign_Name ?_
      walk_at "m store"
      intro s S
      refine bodyA (rest := [bStmt 2, bStmt 3, bStmt 4, bStmt 5, bStmt 6]) I (hcc.mono le1) (hcl.mono le1) hci h10 (S.front (a := Lf) (e := by walk_at "m sel")) fun lo c tc s S => ?_
      refine wpAny_execs_cons ?_
      refine bodyC I (hc.mono le1) (hl.mono le1) hb hi hnz S fun ovs own s ho hoz hom S => ?_
      refine wpAny_execs_cons ?_
      refine bodyD I (hc.mono le1) (hl.mono le1) hb hi hnz ho hoz hom S fun ovs own s ho hoz hom S => ?_
      have S := S.front (a := dP) (e := by walk_at "m sel")
      have S := S.front (a := lo) (e := by walk_at "m sel")
      have S := S.front (a := Lf) (e := by walk_at "m sel")
      refine wpAny_execs_cons ?_
      refine bodyE I (hc.mono le1) (hl.mono le1) hb hk (by omega) hnU hUz ho (hP.mono le1) S fun B2 s le2 hlo S => ?_
      have le := le1.trans le2
      have S := S.front (a := dT) (e := by walk_at "m sel")
      have S := S.front (a := Lf) (e := by walk_at "m sel")
      have inTake : ∀ p ∈ own, p ∈ names.take i := fun p hp => by
        obtain ⟨z, hz, hz2⟩ := hom p hp
        exact List.mem_of_getElem? (i := z) (by rw [List.getElem?_take_of_lt hz]; exact hz2)
      refine wpAny_execs_cons ?_
      refine bodyF (tmv := tm) (T1.mono le2) TB R I (hc.mono le) (hl.mono le) hb hk (by omega) hnU hUz hlo ho hoz (hT.mono le) (fun p hp => by unfold tabOf; rw [if_pos (inTake p hp)]) S fun N s hN1 hN2 S => ?_
      have S := (S.front (a := dK) (e := by walk_at "m sel")).dK le2
      have S := S.front (a := Lf) (e := by walk_at "m sel")
      have h2i : 2 ^ i ≤ 2 ^ 8 := Nat.pow_le_pow_right (by omega) (by omega)
      have h2m : own.length * (2 ^ i - 1) ≤ 2 * (2 ^ i - 1) := Nat.mul_le_mul_right _ hoz
      refine wpAny_execs_cons ?_
      refine bodyG (kin := kin) (N := 2 ^ i - 1) (T1.mono le2) TB R I (hc.mono le) (hl.mono le) hb hk (by omega) hnU hUz hlo ho (by omega) (by omega) (hK.mono le) (fun p hp => by unfold tabOf; rw [if_pos (inTake p hp)]) (fun p hp => ?_) S fun B3 s X le3 hX1 hX2 S => ?_
      · obtain ⟨z, hz, hz2⟩ := hom p hp
        have h1 := d.hsz z p hz hz2
        have h2 : 2 ^ (z + 1) ≤ 2 ^ i := Nat.pow_le_pow_right (by omega) (by omega)
        omega
      refine wpAny_execs_nil ?_
      rw [tab_step hnd hk] at S
      have S := S.front (a := dT) (e := by walk_at "m sel")
      rw [tab_step hnd hk] at S
      have S := (S.front (a := dP) (e := by walk_at "m sel")).dP le3
      rw [tab_step hnd hk] at S
      have S := S.front (a := Lf) (e := by walk_at "m sel")
      have S := S.front (a := it) (e := by walk_at "m sel")
      exact ⟨j - 1, by omega, B3, i + 1, _, _, _, _, _, _, by omega, le.trans le3, d.step hnd hk hom hoz hN1 hN2 hX1 hX2, by rw [show (((i + 1 : Nat) : Int)) = (i : Int) + 1 by omega, show ((names.length - (i + 1) : Nat) : Int) = ((names.length - i : Nat) : Int) - 1 by omega]; exact S⟩
    · have hi : i = names.length := by omega
      rw [hi] at S' d
      refine wpAny_execs_nil ?_
      exact hR _ _ (h B1 par tm kin u2 u3 u4 s le1 d S')
  · have e : ∀ {β : Type} (f : Bs → β), tabOf names 0 f = fun _ => none := fun f => by funext x; unfold tabOf; simp
    rw [e, e, e]
    simpa using S
end
end Mine

end
section
open PySem PySem.W PySem.Calls PySem.SeqAt PyProof.Rows Builtin
set_option Elab.async false
set_option maxRecDepth 100000
set_option linter.unusedVariables false
namespace Mine
local macro_rules | `(tactic| walk_at "m sel") => `(tactic| first | with_reducible apply Sel.head | (apply Sel.tail; walk_at "m sel"))
local macro_rules | `(tactic| walk_at "m lget") => `(tactic| first | with_reducible apply LGet.head | (apply LGet.tail; walk_at "m lget"))
local macro_rules | `(tactic| walk_at "m lset") => `(tactic| first | with_reducible apply LSet.head | (apply LSet.tail; walk_at "m lset"))
local macro_rules | `(tactic| walk_at "m mg") => `(tactic| first | exact Top0.gPush (by assumption) | exact Top0.gPop (by assumption) | exact Top0.gWL (by assumption) | exact Top0.gLcas (by assumption) | exact Top0.gBase (by assumption) | exact Top0.gFast (by assumption))
local macro_rules | `(tactic| walk_at "m name") => `(tactic| first
  | (refine' nmL (by assumption) (by assumption) ?hx ?hd ?he ?hg ?_; (case hx => kernel_rfl); (case hd => kernel_rfl); (case he => walk_at "m sel"); (case hg => walk_at "m lget"))
  | (refine' nmC (by assumption) (by assumption) ?hx ?hd ?hc ?he ?_; (case hx => decide +kernel); (case hd => kernel_rfl); (case hc => rfl); (case he => walk_at "m sel"))
  | (refine' nmF (by assumption) (by assumption) ?hx ?hd ?hd2 ?hc ?he ?_; (case hx => decide +kernel); (case hd => kernel_rfl); (case hd2 => kernel_rfl); (case hc => rfl); (case he => walk_at "m sel"))
  | (refine' nmG (by assumption) (by assumption) (Top0.glob (by assumption)) ?hx ?hd ?hv ?_; (case hx => kernel_rfl); (case hd => kernel_rfl); (case hv => walk_at "m mg")))
local macro_rules | `(tactic| walk_at "m store") => `(tactic| first
  | (refine' stL (by assumption) (by assumption) ?hx ?he ?hg ?_; (case hx => kernel_rfl); (case he => walk_at "m sel"); (case hg => walk_at "m lset"))
  | (refine' stC (by assumption) (by assumption) ?hx ?hc ?he ?_; (case hx => kernel_rfl); (case hc => rfl); (case he => walk_at "m sel")))
section
variable {K : Frag} {C fInit fAdd fGet fIter fLcas fBase fFast : Addr} {mg mb : Str → Option Value} {B B' : Store}
variable {w : World} {A : Around} {E : Value → Shared → Prop} {G : Array GenState} {os : OsState} {L L' : Led} {s : Shared} {env : Env} {sc : Scope} {Lf m : Addr} {cl : List (Str × Addr)} {cd : Value} {n : Nat} {x q : Addr}
variable {u0 u1 u2 u3 u4 u5 u6 u7 u8 : Option Value} {k : Nat} {tk : Tok} {U : List Bs}

theorem law6 {lc ln : Addr} {cvs nvs : List Value} {cis : List Int} {names : List Bs} {tm0 : Tok} {c0 : Option Value} {Q : Flow → Shared → Prop} (I : EnvIs env lawSc Lf (lawCs m) cd)
    (hcc : KCell B m (.ref lc)) (hcl : KList B lc cvs) (hci : IntsAre cvs cis) (h10 : cis.length = 10) (hmany : KCell B (m + 1) (.int names.length tm0)) (hnz : names.length ≤ 9) (h1 : 1 ≤ names.length)
    (hc : KCell B (m + 2) (.ref ln)) (hl : KList B ln nvs) (hb : BytL nvs names) (S : SS B G os ((m + 4, CellO c0) :: L) s)
    (h : ∀ B' vf first s', Le B B' → KCell B' (m + 4) vf → BytV first vf → first ∈ names → SS B' G os L s' → Q .next s') :
    W (model thePrg w) A (exec (lawStmt 6) env) Q s := by
  obtain ⟨t9, ht9⟩ := intAt hci (i := 9) (by omega)
  refine wpAny_Assign_Name ?_
  refine Subscript_ ?_
  refine nmKC I S (by decide +kernel) (by kernel_rfl) rfl hc ?_
  refine wpAny_BinOp ?_
  refine Subscript_ ?_
  refine nmKC I S (by decide +kernel) (by kernel_rfl) rfl hcc ?_
  refine eInt S fun _ s S => ?_
  refine item_listL (hcl.isList S) (by decide) (by decide) ht9 ?_
  refine nmKC I S (by decide +kernel) (by kernel_rfl) rfl hmany ?_
  refine modS (by omega) S fun _ s S => ?_
  have hf0 := fmod_nonneg_ (cis.getD 9 0) (b := (names.length : Int)) (by omega)
  have hf1 := fmod_lt_ (cis.getD 9 0) (b := (names.length : Int)) (by omega)
  obtain ⟨v, b, hv, hbb, hvb⟩ := hb.pick (i := ((cis.getD 9 0).fmod names.length).toNat) (by omega)
  refine item_listL (hl.isList S) (by omega) (by omega) hv ?_
  refine stC I S (by kernel_rfl) rfl .head fun s S => ?_
  obtain ⟨B2, oc, le2, hoc, hBc, S⟩ := S.freeze
  exact h B2 v b s le2 ⟨oc, hBc, hoc⟩ hvb (List.mem_of_getElem? hbb) S

set_option maxHeartbeats 2000000 in
theorem law7 {lc ln : Addr} {cvs nvs : List Value} {cis : List Int} {names : List Bs} {tm0 : Tok} {c0 : Option Value} {Q : Flow → Shared → Prop} (T : Top0 K C fInit fAdd fGet fIter fLcas fBase fFast mg mb B) (TB : TopB mg mb) (R : Rm A 30) (I : EnvIs env lawSc Lf (lawCs m) cd)
    (hcc : KCell B m (.ref lc)) (hcl : KList B lc cvs) (hci : IntsAre cvs cis) (h10 : cis.length = 10) (hmany : KCell B (m + 1) (.int names.length tm0)) (hnz : names.length ≤ 9) (h1 : 1 ≤ names.length)
    (hc : KCell B (m + 2) (.ref ln)) (hl : KList B ln nvs) (hb : BytL nvs names) (S : SS B G os ((m + 5, CellO c0) :: L) s)
    (h : ∀ B' lo ovs others s', Le B B' → KCell B' (m + 5) (.ref lo) → KList B' lo ovs → BytL ovs others → others ≠ [] → others.length ≤ 3 → (∀ x ∈ others, x ∈ names) → SS B' G os L s' → Q .next s') :
    W (model thePrg w) A (exec (lawStmt 7) env) Q s := by
  obtain ⟨t9, ht9⟩ := intAt hci (i := 9) (by omega)
  obtain ⟨t8, ht8⟩ := intAt hci (i := 8) (by omega)
  have hf0 := fmod_nonneg_ (cis.getD 8 0) (b := 2) (by decide)
  have hf1 := fmod_lt_ (cis.getD 8 0) (b := 2) (by decide)
  refine wpAny_Assign_Name ?_ (hs := swapsF I (by decide +kernel))
  refine lcompW (os := os) (clos := [("names", m + 2), ("many", m + 1), ("cells", m)]) [".0", "k"] I rfl rfl (fun _ => rfl) (by kernel_rfl) (by kernel_rfl) (by kernel_rfl) (by kernel_rfl) (by kernel_rfl) ?_
  refine PyProof.Rows.Call_ ?_
  refine nmB I S T.glob T.buil (by kernel_rfl) (by kernel_rfl) TB.range.1 TB.range.2 ?_
  refine PyProof.Rows.callWith_type1 (he := rfl) (hplain := rfl) ?_
  refine args_cons (he := rfl) ?_
  refine eInt S fun _ s S => ?_
  refine args_cons (he := rfl) ?_
  refine wpAny_BinOp ?_
  refine eInt S fun _ s S => ?_
  refine wpAny_BinOp ?_
  refine Subscript_ ?_
  refine nmKC I S (by decide +kernel) (by kernel_rfl) rfl hcc ?_
  refine eInt S fun _ s S => ?_
  refine item_listL (hcl.isList S) (by decide) (by decide) ht8 ?_
  refine eInt S fun _ s S => ?_
  refine modS (by decide) S fun _ s S => ?_
  refine addS S fun _ s S => ?_
  refine args_nil ?_
  refine range2W S fun r s S hr => ?_
  refine iterRng S hr (by omega) (by omega) (by omega) fun it s S => ?_
  refine ⟨B, G, _, S, ?_⟩
  intro D Cc s S
  refine cstartR S (e := by walk_at "m sel") fun s S => ?_
  have S := S.front (a := it) (e := by walk_at "m sel")
  have hz0 : ∃ z : Nat, 3 + (cis.getD 8 0).fmod 2 - 1 = (z : Int) ∧ 2 ≤ z ∧ z ≤ 3 := ⟨(3 + (cis.getD 8 0).fmod 2 - 1).toNat, by omega, by omega, by omega⟩
  obtain ⟨z, hz, hz2, hz3⟩ := hz0
  rw [hz] at S
  refine cloop1 (fun j s => ∃ i out bs u0 u1, j + i = z ∧ bs.length = i ∧ BytL out bs ∧ (∀ x ∈ bs, x ∈ names) ∧ SS B G os ((it, RngO (1 + i) (z - i : Nat)) :: (Cc, LocO [(".0", u0), ("k", u1)]) :: (D, ListO out) :: (m + 5, CellO c0) :: L) s) ?_ z
    ⟨0, [], [], none, none, rfl, rfl, Rel2.nil, (fun _ h => nomatch h), by simpa using S⟩
  clear S
  rintro j s ⟨i, out, bs, u0, u1, hj, hbi, ho, hbn, S⟩
  have hol : out.length = i := by rw [← hbi]; exact ho.1
  have I2 := compEnvIs (scope := lcSc (asgV (lawStmt 7))) (C := Cc) (clos := [("names", m + 2), ("many", m + 1), ("cells", m)]) I (by kernel_rfl)
  refine nextRng R.h S (fun t s hlt S => ?_) (fun s hle S' => ?_)
  · dsimp only
    refine letGoR S .head ?_
    refine PyProof.Rows.assign_Name ?_
    refine stL I2 S (by kernel_rfl) (.tail .head) (.tail .head) fun s S => ?_
    refine wpAny_tests_nil ?_
    refine Subscript_ ?_
    refine nmKC I2 S (by decide +kernel) (by kernel_rfl) rfl hc ?_
    refine wpAny_BinOp ?_
    refine wpAny_BinOp ?_
    refine Subscript_ ?_
    refine nmKC I2 S (by decide +kernel) (by kernel_rfl) rfl hcc ?_
    refine eInt S fun _ s S => ?_
    refine item_listL (hcl.isList S) (by decide) (by decide) ht9 ?_
    refine wpAny_BinOp ?_
    refine nmKC I2 S (by decide +kernel) (by kernel_rfl) rfl hmany ?_
    refine nmL I2 S (by kernel_rfl) (by kernel_rfl) .head (.tail .head) ?_
    refine PyProof.Rows.pow_int_small (by omega) (by omega) (by omega) ?_
    have S := S.toks (s' := { s with toks := s.toks + 1 })
    have hp1 : 1 ≤ names.length ^ (1 + (i : Int)).toNat := Nat.one_le_pow _ _ h1
    have hp2 : names.length ^ (1 + (i : Int)).toNat ≤ 9 ^ 3 := Nat.le_trans (Nat.pow_le_pow_left hnz _) (Nat.pow_le_pow_right (by omega) (by omega))
    have hpe : ((names.length : Int) ^ (1 + (i : Int)).toNat) = ((names.length ^ (1 + (i : Int)).toNat : Nat) : Int) := by rw [Int.natCast_pow]
    rw [hpe]
    refine PyProof.Rows.floordiv_int (by omega) ?_
    have S := S.toks (s' := { s with toks := s.toks + 1 + 1 })
    refine nmKC I2 S (by decide +kernel) (by kernel_rfl) rfl hmany ?_
    refine modS (by omega) S fun _ s S => ?_
    have hg0 := fmod_nonneg_ ((cis.getD 9 0).fdiv ((names.length ^ (1 + (i : Int)).toNat : Nat) : Int)) (b := (names.length : Int)) (by omega)
    have hg1 := fmod_lt_ ((cis.getD 9 0).fdiv ((names.length ^ (1 + (i : Int)).toNat : Nat) : Int)) (b := (names.length : Int)) (by omega)
    obtain ⟨v, b, hv, hbb, hvb⟩ := hb.pick (i := (((cis.getD 9 0).fdiv ((names.length ^ (1 + (i : Int)).toNat : Nat) : Int)).fmod names.length).toNat) (by omega)
    refine item_listL (hl.isList S) (by omega) (by omega) hv ?_
    have S := S.front (a := D) (e := by walk_at "m sel")
    refine lApp S (by omega) fun s S => ?_
    have S := S.front (a := Cc) (e := by walk_at "m sel")
    have S := S.front (a := it) (e := by walk_at "m sel")
    refine ⟨j - 1, by omega, i + 1, _, bs ++ [b], _, _, by omega, by simp [hbi], ho.append (Rel2.cons hvb .nil), fun y hy => ?_, by rw [show (1 + ((i + 1 : Nat) : Int)) = 1 + (i : Int) + 1 by omega, show ((z - (i + 1) : Nat) : Int) = ((z - i : Nat) : Int) - 1 by omega]; exact S⟩
    rcases List.mem_append.mp hy with hy | hy
    · exact hbn y hy
    · simp at hy; subst hy; exact List.mem_of_getElem? hbb
  · have hi : i = z := by omega
    refine ⟨B, G, _, _, S', fun s S => ?_⟩
    obtain ⟨B1, o1, le1, ho1, hB1, S⟩ := S.freeze
    refine stC I S (by kernel_rfl) rfl (by walk_at "m sel") fun s S => ?_
    obtain ⟨B2, oc, le2, hoc, hBc, S⟩ := S.freeze
    exact h B2 D out bs s (le1.trans le2) ⟨oc, hBc, hoc⟩ ⟨o1, le2 _ _ hB1, ho1⟩ ho (fun e => by rw [e] at hbi; simp at hbi; omega) (by omega) hbn S
end
end Mine

end
section
open PySem PySem.W PySem.Calls PySem.SeqAt PyProof.Rows Builtin
set_option Elab.async false
set_option maxRecDepth 100000
set_option linter.unusedVariables false
namespace Mine
local macro_rules | `(tactic| walk_at "m sel") => `(tactic| first | with_reducible apply Sel.head | (apply Sel.tail; walk_at "m sel"))
local macro_rules | `(tactic| walk_at "m lget") => `(tactic| first | with_reducible apply LGet.head | (apply LGet.tail; walk_at "m lget"))
local macro_rules | `(tactic| walk_at "m lset") => `(tactic| first | with_reducible apply LSet.head | (apply LSet.tail; walk_at "m lset"))
local macro_rules | `(tactic| walk_at "m mg") => `(tactic| first | exact Top0.gPush (by assumption) | exact Top0.gPop (by assumption) | exact Top0.gWL (by assumption) | exact Top0.gLcas (by assumption) | exact Top0.gBase (by assumption) | exact Top0.gFast (by assumption))
local macro_rules | `(tactic| walk_at "m name") => `(tactic| first
  | (refine' nmL (by assumption) (by assumption) ?hx ?hd ?he ?hg ?_; (case hx => kernel_rfl); (case hd => kernel_rfl); (case he => walk_at "m sel"); (case hg => walk_at "m lget"))
  | (refine' nmC (by assumption) (by assumption) ?hx ?hd ?hc ?he ?_; (case hx => decide +kernel); (case hd => kernel_rfl); (case hc => rfl); (case he => walk_at "m sel"))
  | (refine' nmF (by assumption) (by assumption) ?hx ?hd ?hd2 ?hc ?he ?_; (case hx => decide +kernel); (case hd => kernel_rfl); (case hd2 => kernel_rfl); (case hc => rfl); (case he => walk_at "m sel"))
  | (refine' nmG (by assumption) (by assumption) (Top0.glob (by assumption)) ?hx ?hd ?hv ?_; (case hx => kernel_rfl); (case hd => kernel_rfl); (case hv => walk_at "m mg")))
local macro_rules | `(tactic| walk_at "m store") => `(tactic| first
  | (refine' stL (by assumption) (by assumption) ?hx ?he ?hg ?_; (case hx => kernel_rfl); (case he => walk_at "m sel"); (case hg => walk_at "m lset"))
  | (refine' stC (by assumption) (by assumption) ?hx ?hc ?he ?_; (case hx => kernel_rfl); (case hc => rfl); (case he => walk_at "m sel")))
abbrev bM : Bs := [123, 109, 101, 114, 103, 101]
abbrev bU : Bs := [123, 117, 112, 111, 110]
abbrev bA : Bs := [123, 97, 104, 101, 97, 100]
section
variable {K : Frag} {C fInit fAdd fGet fIter fLcas fBase fFast : Addr} {mg mb : Str → Option Value} {B B' : Store}
variable {w : World} {A : Around} {E : Value → Shared → Prop} {G : Array GenState} {os : OsState} {L L' : Led} {s : Shared} {env : Env} {sc : Scope} {Lf m : Addr} {cl : List (Str × Addr)} {cd : Value} {n : Nat} {x q : Addr}
variable {u0 u1 u2 u3 u4 u5 u6 u7 u8 : Option Value} {k : Nat} {tk : Tok} {U : List Bs}

theorem law8 {c1 c2 : Option Value} {Q : Flow → Shared → Prop} (R : Rm A 30) (I : EnvIs env lawSc Lf (lawCs m) cd)
    (S : SS B G os ((Lf, LawL u0 u1 u2 u3 u4 u5 u6 u7 u8) :: (m + 6, CellO c1) :: (m + 7, CellO c2) :: L) s)
    (h : ∀ B' vm vu va s', Le B B' → BytV bM vm → BytV bU vu → BytV bA va → KCell B' (m + 6) vu → KCell B' (m + 7) va → SS B' G os ((Lf, LawL u0 u1 u2 u3 u4 (some vm) u6 u7 u8) :: L) s' → Q .next s') :
    W (model thePrg w) A (exec (lawStmt 8) env) Q s := by
  refine Assign_Tuple ?_ (hw := (swEq I).trans (by rfl))
  refine eTuple ?_
  refine args_cons (he := rfl) ?_
  refine eBytes S fun t1 s S => ?_
  refine args_cons (he := rfl) ?_
  refine eBytes S fun t2 s S => ?_
  refine args_cons (he := rfl) ?_
  refine eBytes S fun t3 s S => ?_
  refine args_nil ?_
  refine newTuple_ S (by simp) fun tu s S => ?_
  refine unpack3 R.h S (S.isTup .head) fun s S => ?_
  have S := S.drop
  walk_at "m store"
  intro s S
  refine stC I S (by kernel_rfl) rfl (by walk_at "m sel") fun s S => ?_
  refine stC I S (by kernel_rfl) rfl (by walk_at "m sel") fun s S => ?_
  obtain ⟨B1, o1, le1, ho1, hB1, S⟩ := S.freeze
  obtain ⟨B2, o2, le2, ho2, hB2, S⟩ := S.freeze
  exact h B2 _ _ _ s (le1.trans le2) ⟨t1, rfl⟩ ⟨t2, rfl⟩ ⟨t3, rfl⟩ ⟨o2, hB2, ho2⟩ ⟨o1, le2 _ _ hB1, ho1⟩ S

theorem asgSub {o i : Expr} {pos : Pos} {v : Value} {Q : Unit → Shared → Prop} (h : wpAny (model thePrg w) A (eval o env) (fun ov s₂ => wpAny (model thePrg w) A (eval i env) (fun iv s₃ => wpAny (model thePrg w) A (setItem ov iv v) Q E s₃) E s₂) E s) :
    wpAny (model thePrg w) A (assign (.Subscript o i pos) env v) Q E s := by
  rw [assign_Subscript]
  refine wpAny_bind (wpAny_holding (wpAny_mono h (fun ov s₂ h₂ => ?_) fun _ _ x => x))
  refine wpAny_bind (wpAny_holding (wpAny_mono h₂ (fun iv s₃ h₃ => ?_) fun _ _ x => x))
  refine wpAny_bind (wpAny_standAt (wpAny_bind (wpAny_holding (wpAny_mono h₃ (fun _ s₄ h₄ => ?_) fun _ _ x => x))))
  exact wpAny_release h₄

/-- x[i], y[j] = a tuple of two -/
theorem asgSub2 {o1 i1 o2 i2 : Expr} {p1 p2 pos : Pos} {k : Nat} {t : Addr} {v1 v2 : Value} {Q : Unit → Shared → Prop} (hh : A.handled = none) (S : SS B G os L s) (ht : IsTup s.heap t #[v1, v2])
    (h : ∀ s', SS B G os L s' → wpAny (model thePrg w) A (eval o1 env) (fun ov s₂ => wpAny (model thePrg w) A (eval i1 env) (fun iv s₃ => wpAny (model thePrg w) A (setItem ov iv v1) (fun _ s₄ =>
      wpAny (model thePrg w) A (eval o2 env) (fun ov s₅ => wpAny (model thePrg w) A (eval i2 env) (fun iv s₆ => wpAny (model thePrg w) A (setItem ov iv v2) Q E s₆) E s₅) E s₄) E s₃) E s₂) E s') :
    wpAny (model thePrg w) A (assign (.Tuple [.Subscript o1 i1 p1, .Subscript o2 i2 p2] k pos) env (.ref t)) Q E s := by
  refine assign_Tuple_tuple hh ht rfl rfl fun h' he => ?_
  refine assignInOrder_cons (asgSub ?_)
  refine wpAny_mono (h _ (S.ext fun b o e => he b o (Nat.ne_of_lt (Heap.lt_size e)) e)) (fun _ s₁ h₁ => ?_) fun _ _ x => x
  refine wpAny_mono h₁ (fun _ s₂ h₂ => ?_) fun _ _ x => x
  refine wpAny_mono h₂ (fun _ s₃ h₃ => ?_) fun _ _ x => x
  exact assignInOrder_cons (asgSub (wpAny_mono h₃ (fun _ s₄ h₄ => wpAny_mono h₄ (fun _ s₅ h₅ => wpAny_mono h₅ (fun _ _ q => assignInOrder_nil q) fun _ _ x => x) fun _ _ x => x) fun _ _ x => x))

set_option maxHeartbeats 2000000 in
theorem law9 {ln lo dT dP : Addr} {nvs ovs : List Value} {names others : List Bs} {gp : Bs → Option (List Bs)} {gt : Bs → Option Int} {tm : Bs → Int} {vm : Value} {Q : Flow → Shared → Prop} (T : Top0 K C fInit fAdd fGet fIter fLcas fBase fFast mg mb B) (TB : TopB mg mb) (R : Rm A 30) (I : EnvIs env lawSc Lf (lawCs m) cd)
    (hc : KCell B (m + 2) (.ref ln)) (hl : KList B ln nvs) (hb : BytL nvs names) (hnz : names.length ≤ 9) (hn1 : 1 ≤ names.length) (hco : KCell B (m + 5) (.ref lo)) (hlo : KList B lo ovs) (ho : BytL ovs others) (hoz : others.length ≤ 3)
    (hT : KCell B (m + 12) (.ref dT)) (hP : KCell B (m + 11) (.ref dP)) (hvm : BytV bM vm) (hU : bM ∈ U) (hUz : U.length ≤ 1000) (hg : ∀ p ∈ names, gt p = some (tm p))
    (S : SS B G os ((Lf, LawL u0 u1 u2 u3 u4 (some vm) u6 u7 u8) :: (dP, DctO w U (ParR B) gp) :: (dT, DctO w U IntV gt) :: L) s)
    (h : ∀ B' mvs N s', Le B B' → (∀ b, b ∈ mvs ↔ b ∈ others) → mvs.length ≤ 3 → (∀ p ∈ names, tm p < N) →
      SS B' G os ((Lf, LawL u0 u1 u2 u3 u4 (some vm) u6 u7 u8) :: (dP, DctO w U (ParR B') (fun x => if x = bM then some mvs else gp x)) :: (dT, DctO w U IntV (fun x => if x = bM then some N else gt x)) :: L) s' → Q .next s') :
    W (model thePrg w) A (exec (lawStmt 9) env) Q s := by
  refine Assign_Tuple ?_ (hw := (swEq I).trans (by rfl))
  refine eTuple ?_
  refine args_cons (he := rfl) ?_
  refine PyProof.Rows.Call_ ?_
  refine nmB I S T.glob T.buil (by kernel_rfl) (by kernel_rfl) TB.sorted.1 TB.sorted.2 ?_
  refine callWith_builtin1 (he := rfl) (hplain := rfl) ?_
  refine args_cons (he := rfl) ?_
  refine PyProof.Rows.Call_ ?_
  refine nmB I S T.glob T.buil (by kernel_rfl) (by kernel_rfl) TB.set.1 TB.set.2 ?_
  refine PyProof.Rows.callWith_type1 (he := rfl) (hplain := rfl) ?_
  refine args_cons (he := rfl) ?_
  refine nmKC I S (by decide +kernel) (by kernel_rfl) rfl hco ?_
  refine args_nil ?_
  refine setOf (R.less (by omega)) S hlo ho (by omega) fun D1 s S => ?_
  obtain ⟨B1, o1, le1, ho1, hB1, S⟩ := S.freeze
  refine args_nil ?_
  refine sortedSet R.h ⟨o1, hB1, ho1⟩ (by omega) S fun B2 D2 mv mvs s le2 hmb hmm hmz S => ?_
  obtain ⟨B3, o3, le3, ho3, hB3, S⟩ := S.freeze
  have le := (le1.trans le2).trans le3
  have T3 := T.mono le
  refine args_cons (he := rfl) ?_
  refine wpAny_BinOp ?_
  refine PyProof.Rows.Call_ ?_
  refine nmB I S T3.glob T3.buil (by kernel_rfl) (by kernel_rfl) TB.max.1 TB.max.2 ?_
  refine callWith_builtin1 (he := rfl) (hplain := rfl) ?_
  refine args_cons (he := rfl) ?_
  refine lcompW (os := os) (clos := [("times", m + 12)]) [".0", "one"] I rfl rfl (fun _ => rfl) (by kernel_rfl) (by kernel_rfl) (by kernel_rfl) (by kernel_rfl) (by kernel_rfl) ?_
  refine nmKC I S (by decide +kernel) (by kernel_rfl) rfl (hc.mono le) ?_
  refine iter_list S ((hl.mono le).isList S) fun it s S => ?_
  refine ⟨B3, G, _, S, ?_⟩
  intro D Cc s S
  refine cstartL S (e := by walk_at "m sel") fun s S => ?_
  have S := S.front (a := dT) (e := by walk_at "m sel")
  have S := S.front (a := D) (e := by walk_at "m sel")
  have S := S.front (a := Cc) (e := by walk_at "m sel")
  have S := S.front (a := it) (e := by walk_at "m sel")
  refine timesLoop R (compEnvIs I (by kernel_rfl)) (by kernel_rfl) (by decide +kernel) rfl (hT.mono le) (hl.mono le) hb (by omega) hg S fun s out l' S hi => ?_
  refine ⟨B3, G, _, _, S, fun s S => ?_⟩
  refine args_nil ?_
  refine maxL R.h S (S.isList .head) hi (by simp; omega) fun M tM s hM1 hM2 S => ?_
  refine eInt S fun _ s S => ?_
  refine addS S fun tv s S => ?_
  refine args_nil ?_
  refine newTuple_ S (by simp) fun tu s S => ?_
  refine asgSub2 R.h S (S.isTup .head) fun s S => ?_
  have S := S.dropAt (a := tu) (e := by walk_at "m sel")
  have S := S.dropAt (a := D) (e := by walk_at "m sel")
  refine nmKC I S (by decide +kernel) (by kernel_rfl) rfl (hP.mono le) ?_
  walk_at "m name"
  have S := (S.front (a := dP) (e := by walk_at "m sel")).dP le
  refine dctSet S hvm hU hUz (b := mvs) ⟨D2, mv, rfl, ⟨o3, hB3, ho3⟩, hmb⟩ fun s S => ?_
  refine nmKC I S (by decide +kernel) (by kernel_rfl) rfl (hT.mono le) ?_
  walk_at "m name"
  have S := S.front (a := dT) (e := by walk_at "m sel")
  refine dctSet S hvm hU hUz (b := M + 1) ⟨tv, rfl⟩ fun s S => ?_
  have S := S.front (a := dP) (e := by walk_at "m sel")
  have S := S.front (a := Lf) (e := by walk_at "m sel")
  refine h B3 mvs (M + 1) s le (fun b => by rw [hmm]; simp) (by omega) (fun p hp => ?_) S
  have := hM2 (tm p) (List.mem_map_of_mem hp)
  omega

set_option maxHeartbeats 2000000 in
theorem law10 {dT dP : Addr} {gp : Bs → Option (List Bs)} {gt : Bs → Option Int} {vk vp : Value} {dummy : Bs} {N : Int} {Q : Flow → Shared → Prop} (R : Rm A 30) (I : EnvIs env lawSc Lf (lawCs m) cd)
    (hT : KCell B (m + 12) (.ref dT)) (hP : KCell B (m + 11) (.ref dP)) (hck : KCell B (m + 6) vk) (hvk : BytV bU vk) (hvp : BytV bM vp) (hU : bU ∈ U) (hUz : U.length ≤ 1000) (hg : gt bM = some N)
    (S : SS B G os ((Lf, LawL u0 u1 u2 u3 u4 (some vp) u6 u7 u8) :: (dP, DctO w U (ParR B) gp) :: (dT, DctO w U IntV gt) :: L) s)
    (h : ∀ B' s', Le B B' →
      SS B' G os ((Lf, LawL u0 u1 u2 u3 u4 (some vp) u6 u7 u8) :: (dP, DctO w U (ParR B') (fun x => if x = bU then some [bM] else gp x)) :: (dT, DctO w U IntV (fun x => if x = bU then some (N + 1) else gt x)) :: L) s' → Q .next s') :
    W (model thePrg w) A (exec (lawStmt 10) env) Q s := by
  refine Assign_Tuple ?_ (hw := (swEq I).trans (by rfl))
  refine eTuple ?_
  refine args_cons (he := rfl) ?_
  refine eList ?_
  refine args_cons (he := rfl) ?_
  walk_at "m name"
  refine args_nil ?_
  refine newList_ S (by simp) fun D2 s S => ?_
  obtain ⟨B3, o3, le, ho3, hB3, S⟩ := S.freeze
  refine args_cons (he := rfl) ?_
  refine wpAny_BinOp ?_
  refine Subscript_ ?_
  refine nmKC I S (by decide +kernel) (by kernel_rfl) rfl (hT.mono le) ?_
  walk_at "m name"
  obtain ⟨od, hod, hD⟩ := S.get (a := dT) (e := by walk_at "m sel")
  refine dctSub S hod hD hvp hg fun z s hz S => ?_
  obtain ⟨tz, rfl⟩ := hz
  refine eInt S fun _ s S => ?_
  refine addS S fun tv s S => ?_
  refine args_nil ?_
  refine newTuple_ S (by simp) fun tu s S => ?_
  refine asgSub2 R.h S (S.isTup .head) fun s S => ?_
  have S := S.dropAt (a := tu) (e := by walk_at "m sel")
  refine nmKC I S (by decide +kernel) (by kernel_rfl) rfl (hP.mono le) ?_
  refine nmKC I S (by decide +kernel) (by kernel_rfl) rfl (hck.mono le) ?_
  have S := (S.front (a := dP) (e := by walk_at "m sel")).dP le
  refine dctSet S hvk hU hUz (b := [bM]) ⟨D2, [vp], rfl, ⟨o3, hB3, ho3⟩, Rel2.cons hvp .nil⟩ fun s S => ?_
  refine nmKC I S (by decide +kernel) (by kernel_rfl) rfl (hT.mono le) ?_
  refine nmKC I S (by decide +kernel) (by kernel_rfl) rfl (hck.mono le) ?_
  have S := S.front (a := dT) (e := by walk_at "m sel")
  refine dctSet S hvk hU hUz (b := N + 1) ⟨tv, rfl⟩ fun s S => ?_
  have S := S.front (a := dP) (e := by walk_at "m sel")
  have S := S.front (a := Lf) (e := by walk_at "m sel")
  exact h B3 s le S

set_option maxHeartbeats 2000000 in
theorem law11 {dT dP : Addr} {gp : Bs → Option (List Bs)} {gt : Bs → Option Int} {vk vp : Value} {bp : Bs} {N : Int} {Q : Flow → Shared → Prop} (R : Rm A 30) (I : EnvIs env lawSc Lf (lawCs m) cd)
    (hT : KCell B (m + 12) (.ref dT)) (hP : KCell B (m + 11) (.ref dP)) (hck : KCell B (m + 7) vk) (hvk : BytV bA vk) (hcp : KCell B (m + 4) vp) (hvp : BytV bp vp) (hU : bA ∈ U) (hUz : U.length ≤ 1000) (hg : gt bp = some N)
    (S : SS B G os ((Lf, LawL u0 u1 u2 u3 u4 u5 u6 u7 u8) :: (dP, DctO w U (ParR B) gp) :: (dT, DctO w U IntV gt) :: L) s)
    (h : ∀ B' s', Le B B' →
      SS B' G os ((Lf, LawL u0 u1 u2 u3 u4 u5 u6 u7 u8) :: (dP, DctO w U (ParR B') (fun x => if x = bA then some [bp] else gp x)) :: (dT, DctO w U IntV (fun x => if x = bA then some (N + 1) else gt x)) :: L) s' → Q .next s') :
    W (model thePrg w) A (exec (lawStmt 11) env) Q s := by
  refine Assign_Tuple ?_ (hw := (swEq I).trans (by rfl))
  refine eTuple ?_
  refine args_cons (he := rfl) ?_
  refine eList ?_
  refine args_cons (he := rfl) ?_
  refine nmKC I S (by decide +kernel) (by kernel_rfl) rfl hcp ?_
  refine args_nil ?_
  refine newList_ S (by simp) fun D2 s S => ?_
  obtain ⟨B3, o3, le, ho3, hB3, S⟩ := S.freeze
  refine args_cons (he := rfl) ?_
  refine wpAny_BinOp ?_
  refine Subscript_ ?_
  refine nmKC I S (by decide +kernel) (by kernel_rfl) rfl (hT.mono le) ?_
  refine nmKC I S (by decide +kernel) (by kernel_rfl) rfl (hcp.mono le) ?_
  obtain ⟨od, hod, hD⟩ := S.get (a := dT) (e := by walk_at "m sel")
  refine dctSub S hod hD hvp hg fun z s hz S => ?_
  obtain ⟨tz, rfl⟩ := hz
  refine eInt S fun _ s S => ?_
  refine addS S fun tv s S => ?_
  refine args_nil ?_
  refine newTuple_ S (by simp) fun tu s S => ?_
  refine asgSub2 R.h S (S.isTup .head) fun s S => ?_
  have S := S.dropAt (a := tu) (e := by walk_at "m sel")
  refine nmKC I S (by decide +kernel) (by kernel_rfl) rfl (hP.mono le) ?_
  refine nmKC I S (by decide +kernel) (by kernel_rfl) rfl (hck.mono le) ?_
  have S := (S.front (a := dP) (e := by walk_at "m sel")).dP le
  refine dctSet S hvk hU hUz (b := [bp]) ⟨D2, [vp], rfl, ⟨o3, hB3, ho3⟩, Rel2.cons hvp .nil⟩ fun s S => ?_
  refine nmKC I S (by decide +kernel) (by kernel_rfl) rfl (hT.mono le) ?_
  refine nmKC I S (by decide +kernel) (by kernel_rfl) rfl (hck.mono le) ?_
  have S := S.front (a := dT) (e := by walk_at "m sel")
  refine dctSet S hvk hU hUz (b := N + 1) ⟨tv, rfl⟩ fun s S => ?_
  have S := S.front (a := dP) (e := by walk_at "m sel")
  have S := S.front (a := Lf) (e := by walk_at "m sel")
  exact h B3 s le S
end
end Mine

end
section
open PySem PySem.W PySem.Calls PySem.SeqAt PyProof.Rows Builtin
set_option Elab.async false
set_option maxRecDepth 100000
set_option linter.unusedVariables false
namespace Mine
local macro_rules | `(tactic| walk_at "m sel") => `(tactic| first | with_reducible apply Sel.head | (apply Sel.tail; walk_at "m sel"))
local macro_rules | `(tactic| walk_at "m lget") => `(tactic| first | with_reducible apply LGet.head | (apply LGet.tail; walk_at "m lget"))
local macro_rules | `(tactic| walk_at "m lset") => `(tactic| first | with_reducible apply LSet.head | (apply LSet.tail; walk_at "m lset"))
local macro_rules | `(tactic| walk_at "m mg") => `(tactic| first | exact Top0.gPush (by assumption) | exact Top0.gPop (by assumption) | exact Top0.gWL (by assumption) | exact Top0.gLcas (by assumption) | exact Top0.gBase (by assumption) | exact Top0.gFast (by assumption))
local macro_rules | `(tactic| walk_at "m name") => `(tactic| first
  | (refine' nmL (by assumption) (by assumption) ?hx ?hd ?he ?hg ?_; (case hx => kernel_rfl); (case hd => kernel_rfl); (case he => walk_at "m sel"); (case hg => walk_at "m lget"))
  | (refine' nmC (by assumption) (by assumption) ?hx ?hd ?hc ?he ?_; (case hx => decide +kernel); (case hd => kernel_rfl); (case hc => rfl); (case he => walk_at "m sel"))
  | (refine' nmF (by assumption) (by assumption) ?hx ?hd ?hd2 ?hc ?he ?_; (case hx => decide +kernel); (case hd => kernel_rfl); (case hd2 => kernel_rfl); (case hc => rfl); (case he => walk_at "m sel"))
  | (refine' nmG (by assumption) (by assumption) (Top0.glob (by assumption)) ?hx ?hd ?hv ?_; (case hx => kernel_rfl); (case hd => kernel_rfl); (case hv => walk_at "m mg")))
local macro_rules | `(tactic| walk_at "m store") => `(tactic| first
  | (refine' stL (by assumption) (by assumption) ?hx ?he ?hg ?_; (case hx => kernel_rfl); (case he => walk_at "m sel"); (case hg => walk_at "m lset"))
  | (refine' stC (by assumption) (by assumption) ?hx ?hc ?he ?_; (case hx => kernel_rfl); (case hc => rfl); (case he => walk_at "m sel")))
/-- a table that stays -/
def KTab (w : World) (B : Store) (U : List Bs) {β : Type} (R : β → Value → Prop) (g : Bs → Option β) (d : Addr) : Prop := ∃ o, B d = some o ∧ DctO w U R g o
section
variable {K : Frag} {C fInit fAdd fGet fIter fLcas fBase fFast : Addr} {mg mb : Str → Option Value} {B B' : Store}
variable {w : World} {A : Around} {E : Value → Shared → Prop} {G : Array GenState} {os : OsState} {L L' : Led} {s : Shared} {env : Env} {sc : Scope} {Lf m : Addr} {cl : List (Str × Addr)} {cd : Value} {n : Nat} {x q : Addr}
variable {u0 u1 u2 u3 u4 u5 u6 u7 u8 : Option Value} {k : Nat} {tk : Tok} {U : List Bs}

theorem KTab.kin {gk : Bs → Option ((Bs → Bool) × Nat)} {d : Addr} (h : KTab w B U (KinR w B) gk d) (le : Le B B') : KTab w B' U (KinR w B') gk d := let ⟨o, a, b⟩ := h; ⟨o, le _ _ a, DctO.mono b (KinR.mono le)⟩
theorem KTab.par {g : Bs → Option (List Bs)} {d : Addr} (h : KTab w B U (ParR B) g d) (le : Le B B') : KTab w B' U (ParR B') g d := let ⟨o, a, b⟩ := h; ⟨o, le _ _ a, DctO.mono b (ParR.mono le)⟩
theorem KTab.tm {g : Bs → Option Int} {d : Addr} (h : KTab w B U IntV g d) (le : Le B B') : KTab w B' U IntV g d := let ⟨o, a, b⟩ := h; ⟨o, le _ _ a, b⟩

theorem neBytes {a b : Bs} {va vb : Value} {Q : Value → Shared → Prop} (ha : BytV a va) (hb : BytV b vb) (h : Q (.bool (decide (a ≠ b))) s) : wpAny (model thePrg w) A (compareOp .NotEq va vb) Q E s := by
  obtain ⟨t, rfl⟩ := ha
  obtain ⟨u, rfl⟩ := hb
  refine PySem.W.ne_bytes ?_
  rw [show (a.toArray.toList != b.toArray.toList) = decide (a ≠ b) by rw [Bool.eq_iff_iff]; simp]; exact h

theorem neLists {l m : Addr} {vs us : List Value} {as bs : List Bs} {Q : Value → Shared → Prop} (R : Rm A 1) (S : SS B G os L s) (hl : s.heap.IsList l vs.toArray) (hm : s.heap.IsList m us.toArray) (ha : BytL vs as) (hb : BytL us bs)
    (h : Q (.bool (decide (as ≠ bs))) s) : wpAny (model thePrg w) A (compareOp .NotEq (.ref l) (.ref m)) Q E s := by
  have h1 := ha.1
  have h2 := hb.1
  by_cases hz : vs.length = us.length
  · refine RcNeAt.lists (e := fun i => decide (as[i]? = bs[i]?)) hl hm (by simpa using hz) R.units (fun j h1 h2 => ?_) thePrg w E Q ?_
    · have hj : j < vs.length := by simpa using h1
      have hj' : j < us.length := by simpa using h2
      obtain ⟨t, ht⟩ := ha.2 j _ _ (List.getElem?_eq_getElem hj) (List.getElem?_eq_getElem (by omega))
      obtain ⟨u, hu⟩ := hb.2 j _ _ (List.getElem?_eq_getElem hj') (List.getElem?_eq_getElem (by omega))
      simp only [List.getElem_toArray]
      rw [ht, hu, List.getElem?_eq_getElem (show j < as.length by omega), List.getElem?_eq_getElem (show j < bs.length by omega)]
      simpa using eqAt_bytes (A := A.in1) (s := s) (a := (as[j]'(by omega)).toArray) (b := (bs[j]'(by omega)).toArray) (t := t) (u := u)
    · have e : (!(List.range vs.toArray.size).all (fun i => decide (as[i]? = bs[i]?))) = decide (as ≠ bs) := by
        rw [Bool.eq_iff_iff, Bool.not_eq_true', decide_eq_true_iff, ← Bool.not_eq_true, List.all_eq_true]
        refine not_congr ?_
        constructor
        · intro hh
          refine List.ext_getElem? fun i => ?_
          by_cases hi : i < vs.length
          · simpa using hh i (by simpa using hi)
          · rw [List.getElem?_eq_none (by omega), List.getElem?_eq_none (by omega)]
        · rintro rfl i _; simp
      rw [e]; exact h
  · refine RcNeAt.lists_lengths hl hm (by simpa using hz) R.units thePrg w E Q ?_
    rw [decide_eq_true (show as ≠ bs from fun e => hz (by rw [h1, h2, e]))] at h
    exact h

/-- [other for other in l if TEST], the test being asked of the walk -/
theorem filtLoop {y : Str} {p1 p2 pos : Pos} {iter test : Expr} {scope : Scope} {it l D Cc : Addr} {vs : List Value} {bs : List Bs} {f : Bs → Bool} {w0 w1 : Option Value} {Rr : Result → Shared → Prop} (R : Rm A n) (I : EnvIs env sc Cc cl cd)
    (h1 : sc.names.lookup y = some .local) (hy : (y == ("__debug__" : Str)) = false) (hl : KList B l vs) (hb : BytL vs bs) (hz : bs.length ≤ 100)
    (ht : ∀ B' b v w0 out i s (Q : Bool → Shared → Prop), Le B B' → b ∈ bs → BytV b v → SS B' G os ((Cc, LocO [(".0", w0), (y, some v)]) :: (it, IterO l i) :: (D, ListO out) :: L) s →
      (∀ B'' s', Le B' B'' → SS B'' G os ((Cc, LocO [(".0", w0), (y, some v)]) :: (it, IterO l i) :: (D, ListO out) :: L) s' → Q (f b) s') → W (model thePrg w) A (isTrue test env (eval test env)) Q s)
    (S : SS B G os ((it, IterO l 0) :: (Cc, LocO [(".0", w0), (y, w1)]) :: (D, ListO []) :: L) s)
    (h : ∀ B' s' out l', Le B B' → SS B' G os ((Cc, LocO l') :: (D, ListO out) :: L) s' → BytL out (bs.filter f) → Rr (.ok .next) s') :
    codeAny (model thePrg w) A (.compLoop (.ListComp (.Name y p1) [⟨.Name y p2, iter, [test], 0⟩] scope pos) 0 (.ref it) (.ref D) env) Rr s := by
  refine cloop1 (fun m s => ∃ B' done rest out u0 u1, Le B B' ∧ bs = done ++ rest ∧ m = rest.length ∧ BytL out (done.filter f) ∧ SS B' G os ((it, IterO l done.length) :: (Cc, LocO [(".0", u0), (y, u1)]) :: (D, ListO out) :: L) s) ?_ bs.length
    ⟨B, [], bs, [], w0, w1, .refl _, rfl, rfl, Rel2.nil, S⟩
  clear S
  rintro m s ⟨B1, done, rest, out, u0, u1, le1, hc, hm, ho, S⟩
  have hvl : vs.length = bs.length := hb.1
  have hol : out.length ≤ done.length := by have := ho.1; have := List.length_filter_le f done; omega
  refine nextL R S ((hl.mono le1).isList S) ?_ ?_
  · intro v s hv hlt S
    obtain ⟨b, rest', rfl⟩ : ∃ k rest', rest = k :: rest' := by
      cases rest with
      | nil => rw [hvl, hc] at hlt; simp at hlt
      | cons c r => exact ⟨c, r, rfl⟩
    have hp : BytV b v := hb.2 done.length v b hv (by rw [hc]; simp)
    have hdl : done.length ≤ 100 := by rw [hc, List.length_append] at hz; omega
    dsimp only
    refine letGoI S .head ?_
    refine PyProof.Rows.assign_Name ?_
    refine stL I S h1 (.tail .head) (.tail .head) fun s S => ?_
    refine wpAny_tests_one ?_
    refine ht B1 b v _ _ _ _ _ le1 (by rw [hc]; simp) hp S fun B2 s le2 S => ?_
    cases hf : f b with
    | true =>
      refine nmL I S h1 hy .head (.tail .head) ?_
      have S := S.front (a := D) (e := by walk_at "m sel")
      refine lApp S (by omega) fun s S => ?_
      have S := S.front (a := Cc) (e := by walk_at "m sel")
      have S := S.front (a := it) (e := by walk_at "m sel")
      refine ⟨rest'.length, by rw [hm]; simp, B2, done ++ [b], rest', _, _, _, le1.trans le2, by rw [hc]; simp, rfl, ?_, by rw [List.length_append, List.length_singleton]; exact S⟩
      rw [List.filter_append, List.filter_cons, hf]
      exact ho.append (Rel2.cons hp .nil)
    | false =>
      have S := S.front (a := it) (e := by walk_at "m sel")
      refine ⟨rest'.length, by rw [hm]; simp, B2, done ++ [b], rest', _, _, _, le1.trans le2, by rw [hc]; simp, rfl, ?_, by rw [List.length_append, List.length_singleton]; exact S⟩
      rw [List.filter_append, List.filter_cons, hf]
      simpa using ho
  · intro s hlt S'
    have hr0 : rest = [] := by
      have : bs.length = done.length + rest.length := by rw [hc]; simp
      exact List.length_eq_zero_iff.mp (by omega)
    subst hr0
    rw [List.append_nil] at hc
    rw [← hc] at ho
    exact h B1 s out _ le1 S' ho
end
end Mine

end
section
open PySem PySem.W PySem.Calls PySem.SeqAt PyProof.Rows Builtin
set_option Elab.async false
set_option maxRecDepth 100000
set_option linter.unusedVariables false
namespace Mine
local macro_rules | `(tactic| walk_at "m sel") => `(tactic| first | with_reducible apply Sel.head | (apply Sel.tail; walk_at "m sel"))
local macro_rules | `(tactic| walk_at "m lget") => `(tactic| first | with_reducible apply LGet.head | (apply LGet.tail; walk_at "m lget"))
local macro_rules | `(tactic| walk_at "m lset") => `(tactic| first | with_reducible apply LSet.head | (apply LSet.tail; walk_at "m lset"))
local macro_rules | `(tactic| walk_at "m mg") => `(tactic| first | exact Top0.gPush (by assumption) | exact Top0.gPop (by assumption) | exact Top0.gWL (by assumption) | exact Top0.gLcas (by assumption) | exact Top0.gBase (by assumption) | exact Top0.gFast (by assumption))
local macro_rules | `(tactic| walk_at "m name") => `(tactic| first
  | (refine' nmL (by assumption) (by assumption) ?hx ?hd ?he ?hg ?_; (case hx => kernel_rfl); (case hd => kernel_rfl); (case he => walk_at "m sel"); (case hg => walk_at "m lget"))
  | (refine' nmC (by assumption) (by assumption) ?hx ?hd ?hc ?he ?_; (case hx => decide +kernel); (case hd => kernel_rfl); (case hc => rfl); (case he => walk_at "m sel"))
  | (refine' nmF (by assumption) (by assumption) ?hx ?hd ?hd2 ?hc ?he ?_; (case hx => decide +kernel); (case hd => kernel_rfl); (case hd2 => kernel_rfl); (case hc => rfl); (case he => walk_at "m sel"))
  | (refine' nmG (by assumption) (by assumption) (Top0.glob (by assumption)) ?hx ?hd ?hv ?_; (case hx => kernel_rfl); (case hd => kernel_rfl); (case hv => walk_at "m mg")))
local macro_rules | `(tactic| walk_at "m store") => `(tactic| first
  | (refine' stL (by assumption) (by assumption) ?hx ?he ?hg ?_; (case hx => kernel_rfl); (case he => walk_at "m sel"); (case hg => walk_at "m lset"))
  | (refine' stC (by assumption) (by assumption) ?hx ?hc ?he ?_; (case hx => kernel_rfl); (case hc => rfl); (case he => walk_at "m sel")))
/-- the comprehension within a comprehension's test -/
def innerOf : Expr → Expr
  | .ListComp _ (⟨_, _, .BoolOp _ [_, .Compare l _ _ _] _ :: _, _⟩ :: _) _ _ => l
  | .ListComp _ (⟨_, _, .Compare l _ _ _ :: _, _⟩ :: _) _ _ => l
  | _ => default
section
variable {K : Frag} {C fInit fAdd fGet fIter fLcas fBase fFast : Addr} {mg mb : Str → Option Value} {B B' : Store}
variable {w : World} {A : Around} {E : Value → Shared → Prop} {G : Array GenState} {os : OsState} {L L' : Led} {s : Shared} {env : Env} {sc : Scope} {Lf m : Addr} {cl : List (Str × Addr)} {cd : Value} {n : Nat} {x q : Addr}
variable {u0 u1 u2 u3 u4 u5 u6 u7 u8 : Option Value} {k : Nat} {tk : Tok} {U : List Bs}

/-- [one for one in l if TEST], `one` a cell -/
theorem filtLoopC {y : Str} {p1 p2 pos : Pos} {iter test : Expr} {scope : Scope} {it l D Cc c : Addr} {vs : List Value} {bs : List Bs} {f : Bs → Bool} {w0 w1 : Option Value} {Rr : Result → Shared → Prop} (R : Rm A n) (I : EnvIs env sc Cc cl cd)
    (h1 : sc.names.lookup y = some .cell) (hy : (y == ("__debug__" : Str)) = false) (hc : cl.lookup y = some c) (hl : KList B l vs) (hb : BytL vs bs) (hz : bs.length ≤ 100)
    (ht : ∀ B' b v w0 out i s (Q : Bool → Shared → Prop), Le B B' → b ∈ bs → BytV b v → SS B' G os ((c, CellO (some v)) :: (it, IterO l i) :: (Cc, LocO [(".0", w0)]) :: (D, ListO out) :: L) s →
      (∀ B'' s', Le B' B'' → SS B'' G os ((c, CellO (some v)) :: (it, IterO l i) :: (Cc, LocO [(".0", w0)]) :: (D, ListO out) :: L) s' → Q (f b) s') → W (model thePrg w) A (isTrue test env (eval test env)) Q s)
    (S : SS B G os ((it, IterO l 0) :: (Cc, LocO [(".0", w0)]) :: (c, CellO w1) :: (D, ListO []) :: L) s)
    (h : ∀ B' s' out l' w1, Le B B' → SS B' G os ((Cc, LocO l') :: (c, CellO w1) :: (D, ListO out) :: L) s' → BytL out (bs.filter f) → Rr (.ok .next) s') :
    codeAny (model thePrg w) A (.compLoop (.ListComp (.Name y p1) [⟨.Name y p2, iter, [test], 0⟩] scope pos) 0 (.ref it) (.ref D) env) Rr s := by
  refine cloop1 (fun m s => ∃ B' done rest out u0 u1, Le B B' ∧ bs = done ++ rest ∧ m = rest.length ∧ BytL out (done.filter f) ∧ SS B' G os ((it, IterO l done.length) :: (Cc, LocO [(".0", u0)]) :: (c, CellO u1) :: (D, ListO out) :: L) s) ?_ bs.length
    ⟨B, [], bs, [], w0, w1, .refl _, rfl, rfl, Rel2.nil, S⟩
  clear S
  rintro m s ⟨B1, done, rest, out, u0, u1, le1, hcc, hm, ho, S⟩
  have hvl : vs.length = bs.length := hb.1
  have hol : out.length ≤ done.length := by have := ho.1; have := List.length_filter_le f done; omega
  refine nextL R S ((hl.mono le1).isList S) ?_ ?_
  · intro v s hv hlt S
    obtain ⟨b, rest', rfl⟩ : ∃ k rest', rest = k :: rest' := by
      cases rest with
      | nil => rw [hvl, hcc] at hlt; simp at hlt
      | cons c r => exact ⟨c, r, rfl⟩
    have hp : BytV b v := hb.2 done.length v b hv (by rw [hcc]; simp)
    have hdl : done.length ≤ 100 := by rw [hcc, List.length_append] at hz; omega
    dsimp only
    refine letGoI S .head ?_
    refine PyProof.Rows.assign_Name ?_
    refine stC I S h1 hc (by walk_at "m sel") fun s S => ?_
    refine wpAny_tests_one ?_
    refine ht B1 b v _ _ _ _ _ le1 (by rw [hcc]; simp) hp S fun B2 s le2 S => ?_
    cases hf : f b with
    | true =>
      refine nmC I S h1 hy hc (by walk_at "m sel") ?_
      have S := S.front (a := D) (e := by walk_at "m sel")
      refine lApp S (by omega) fun s S => ?_
      have S := S.front (a := c) (e := by walk_at "m sel")
      have S := S.front (a := Cc) (e := by walk_at "m sel")
      have S := S.front (a := it) (e := by walk_at "m sel")
      refine ⟨rest'.length, by rw [hm]; simp, B2, done ++ [b], rest', _, _, _, le1.trans le2, by rw [hcc]; simp, rfl, ?_, by rw [List.length_append, List.length_singleton]; exact S⟩
      rw [List.filter_append, List.filter_cons, hf]
      exact ho.append (Rel2.cons hp .nil)
    | false =>
      have S := S.front (a := Cc) (e := by walk_at "m sel")
      have S := S.front (a := it) (e := by walk_at "m sel")
      refine ⟨rest'.length, by rw [hm]; simp, B2, done ++ [b], rest', _, _, _, le1.trans le2, by rw [hcc]; simp, rfl, ?_, by rw [List.length_append, List.length_singleton]; exact S⟩
      rw [List.filter_append, List.filter_cons, hf]
      simpa using ho
  · intro s hlt S'
    have hr0 : rest = [] := by
      have : bs.length = done.length + rest.length := by rw [hcc]; simp
      exact List.length_eq_zero_iff.mp (by omega)
    subst hr0
    rw [List.append_nil] at hcc
    rw [← hcc] at ho
    exact h B1 s out _ _ le1 S' ho

theorem KTab.sub {gk : Bs → Option ((Bs → Bool) × Nat)} {d : Addr} {key : Value} {b : Bs} {X : (Bs → Bool) × Nat} {value slice : Expr} {Q : Value → Shared → Prop} (S : SS B G os L s) (hD : KTab w B U (KinR w B) gk d) (hk : BytV b key) (hg : gk b = some X) (h : ∀ a s', KSet w B a X.1 X.2 → SS B G os L s' → Q (.ref a) s')
    (hs : subscripted slice false (.ref d) key = operate [.ref d, key] (getItem (.ref d) key) := by with_unfolding_all rfl) (ht : ∀ r, letTemporaryGo value (.ref d) r = pure () := by intro _; with_unfolding_all rfl) :
    wpAny (model thePrg w) A (subscriptTail value slice (.ref d) key) Q E s := by
  obtain ⟨o, ho, hD⟩ := hD
  refine dctSub S (S.keep _ _ ho) hD hk hg (fun v s' ⟨a, e, hS⟩ S' => ?_) hs ht
  subst e
  exact h a s' hS S'

set_option maxHeartbeats 2000000 in
theorem law12 {ln lo dK : Addr} {nvs ovs : List Value} {names others : List Bs} {kin : Bs → (Bs → Bool) × Nat} {gk : Bs → Option ((Bs → Bool) × Nat)} {vf : Value} {first : Bs} {c0 : Option Value} {Q : Flow → Shared → Prop} (T : Top0 K C fInit fAdd fGet fIter fLcas fBase fFast mg mb B) (TB : TopB mg mb) (R : Rm A 30) (I : EnvIs env lawSc Lf (lawCs m) cd)
    (hc : KCell B (m + 2) (.ref ln)) (hl : KList B ln nvs) (hb : BytL nvs names) (hnz : names.length ≤ 9) (hco : KCell B (m + 5) (.ref lo)) (hlo : KList B lo ovs) (ho : BytL ovs others) (hoz : others.length ≤ 3)
    (hcf : KCell B (m + 4) vf) (hvf : BytV first vf) (hfn : first ∈ names) (hon : ∀ x ∈ others, x ∈ names) (hcK : KCell B (m + 3) (.ref dK)) (hK : KTab w B U (KinR w B) gk dK) (hg : ∀ p ∈ names, gk p = some (kin p)) (hkz : ∀ p ∈ names, (kin p).2 ≤ 900)
    (S : SS B G os ((m + 8, CellO c0) :: L) s)
    (h : ∀ B' lj jvs s', Le B B' → KCell B' (m + 8) (.ref lj) → KList B' lj jvs → BytL jvs (names.filter fun x => (kin first).1 x && decide ((others.filter fun o => (kin o).1 x) ≠ [])) → SS B' G os L s' → Q .next s') :
    W (model thePrg w) A (exec (lawStmt 12) env) Q s := by
  have sb : ∀ p ∈ names, (kin p).2 < scanBound := fun p hp => by have := hkz p hp; unfold scanBound; omega
  refine wpAny_Assign_Name ?_ (hs := swapsF I (by decide +kernel))
  refine lcompC (os := os) (cx := "one") (clos := [("others", m + 5), ("kin", m + 3), ("first", m + 4)]) [".0"] I rfl rfl (fun _ => rfl) (by kernel_rfl) (by kernel_rfl) (fun _ => by kernel_rfl) (fun _ => by kernel_rfl) (by kernel_rfl) (by kernel_rfl) ?_
  refine nmKC I S (by decide +kernel) (by kernel_rfl) rfl hc ?_
  refine iter_list S (hl.isList S) fun it s S => ?_
  refine ⟨B, G, _, S, ?_⟩
  intro D Cc c s S
  refine cstartL S (e := by walk_at "m sel") fun s S => ?_
  have S := S.front (a := it) (e := by walk_at "m sel")
  have I2 := compEnvIs (scope := lcSc (asgV (lawStmt 12))) (C := Cc) (clos := [("one", c), ("others", m + 5), ("kin", m + 3), ("first", m + 4)]) I (by kernel_rfl)
  refine filtLoopC R I2 (by decide +kernel) (by decide +kernel) rfl hl hb (by omega) (f := fun x => (kin first).1 x && decide ((others.filter fun o => (kin o).1 x) ≠ [])) ?_ S ?_
  · clear S
    intro B1 b v w0 out i s Q' le1 hbn hbv S hQ
    have hK1 := hK.kin le1
    refine isTrue_and ?_
    refine wpAny_isTrue_Compare1 ?_
    refine nmC I2 S (by decide +kernel) (by decide +kernel) rfl (by walk_at "m sel") ?_
    refine Subscript_ ?_
    refine nmKC I2 S (by decide +kernel) (by kernel_rfl) rfl (hcK.mono le1) ?_
    refine nmKC I2 S (by decide +kernel) (by kernel_rfl) rfl (hcf.mono le1) ?_
    refine KTab.sub S hK1 hvf (hg first hfn) fun a s hS S => ?_
    refine inSet hbv hS (sb first hfn) S fun s S => ?_
    refine wpAny_truthy_bool ?_
    cases hk1 : (kin first).1 b with
    | false =>
      simp only [Bool.false_eq_true, if_false]
      simp only [hk1, Bool.false_and] at hQ
      exact hQ B1 s (.refl _) S
    | true =>
      simp only [if_true]
      simp only [hk1, Bool.true_and] at hQ
      refine isTrue_and ?_
      refine wpAny_isTrue_Compare1 ?_
      refine lcompW (os := os) (clos := [("one", c), ("kin", m + 3)]) [".0", "other"] I2 rfl rfl (fun _ => rfl) (by kernel_rfl) (by kernel_rfl) (by kernel_rfl) (by kernel_rfl) (by kernel_rfl) ?_
      refine nmKC I2 S (by decide +kernel) (by kernel_rfl) rfl (hco.mono le1) ?_
      refine iter_list S ((hlo.mono le1).isList S) fun it2 s S => ?_
      refine ⟨B1, G, _, S, ?_⟩
      intro D2 Cc2 s S
      refine cstartL S (e := by walk_at "m sel") fun s S => ?_
      have S := S.front (a := D2) (e := by walk_at "m sel")
      have S := S.front (a := Cc2) (e := by walk_at "m sel")
      have S := S.front (a := it2) (e := by walk_at "m sel")
      have I3 := compEnvIs (scope := lcSc (innerOf (asgV (lawStmt 12)))) (C := Cc2) (clos := [("one", c), ("kin", m + 3)]) I2 (by kernel_rfl)
      refine filtLoop R I3 (by decide +kernel) (by decide +kernel) (hlo.mono le1) ho (by omega) (f := fun o => (kin o).1 b) ?_ S ?_
      · clear S hQ
        intro B2 b2 v2 w0 out i s Q2 le2 hbo hbv2 S hQ2
        have hn2 := hon _ hbo
        refine wpAny_isTrue_Compare1 ?_
        refine nmC I3 S (by decide +kernel) (by decide +kernel) rfl (by walk_at "m sel") ?_
        refine Subscript_ ?_
        refine nmKC I3 S (by decide +kernel) (by kernel_rfl) rfl (hcK.mono (le1.trans le2)) ?_
        refine nmL I3 S (by decide +kernel) (by kernel_rfl) .head (.tail .head) ?_
        refine KTab.sub S (hK1.kin le2) hbv2 (hg b2 hn2) fun a s hS S => ?_
        refine inSet hbv hS (sb b2 hn2) S fun s S => ?_
        refine wpAny_truthy_bool ?_
        exact hQ2 B2 s (.refl _) S
      · intro B2 s out2 l2 le2 S hob
        refine ⟨B2, G, _, _, S, fun s S => ?_⟩
        refine eList ?_
        refine args_nil ?_
        refine newList_ S (by simp) fun D3 s S => ?_
        refine neLists (R.less (by omega)) S (S.isList (a := D2) (by walk_at "m sel")) (S.isList .head) hob .nil ?_
        refine wpAny_truthy_bool ?_
        have S := S.dropAt (a := D3) (e := by walk_at "m sel")
        have S := S.dropAt (a := D2) (e := by walk_at "m sel")
        cases hk2 : decide ((others.filter fun o => (kin o).1 b) ≠ []) with
        | true =>
          rw [hk2] at hQ
          simp only [if_true]
          refine isTrue_and_nil ?_
          exact hQ B2 s le2 S
        | false =>
          rw [hk2] at hQ
          simp only [Bool.false_eq_true, if_false]
          exact hQ B2 s le2 S
  · intro B1 s out l' w1 le1 S hob
    refine ⟨B1, G, _, _, S, fun s S => ?_⟩
    have S := S.drop
    obtain ⟨B2, o2, le2, ho2, hB2, S⟩ := S.freeze
    refine stC I S (by kernel_rfl) rfl (by walk_at "m sel") fun s S => ?_
    obtain ⟨B3, o3, le3, ho3, hB3, S⟩ := S.freeze
    exact h B3 D out s ((le1.trans le2).trans le3) ⟨o3, hB3, ho3⟩ ⟨o2, le3 _ _ hB2, ho2⟩ hob S
end
end Mine

end
section
open PySem PySem.W PySem.Calls PySem.SeqAt PyProof.Rows Builtin
set_option Elab.async false
set_option maxRecDepth 100000
set_option linter.unusedVariables false
namespace Mine
local macro_rules | `(tactic| walk_at "m sel") => `(tactic| first | with_reducible apply Sel.head | (apply Sel.tail; walk_at "m sel"))
local macro_rules | `(tactic| walk_at "m lget") => `(tactic| first | with_reducible apply LGet.head | (apply LGet.tail; walk_at "m lget"))
local macro_rules | `(tactic| walk_at "m lset") => `(tactic| first | with_reducible apply LSet.head | (apply LSet.tail; walk_at "m lset"))
local macro_rules | `(tactic| walk_at "m mg") => `(tactic| first | exact Top0.gPush (by assumption) | exact Top0.gPop (by assumption) | exact Top0.gWL (by assumption) | exact Top0.gLcas (by assumption) | exact Top0.gBase (by assumption) | exact Top0.gFast (by assumption))
local macro_rules | `(tactic| walk_at "m name") => `(tactic| first
  | (refine' nmL (by assumption) (by assumption) ?hx ?hd ?he ?hg ?_; (case hx => kernel_rfl); (case hd => kernel_rfl); (case he => walk_at "m sel"); (case hg => walk_at "m lget"))
  | (refine' nmC (by assumption) (by assumption) ?hx ?hd ?hc ?he ?_; (case hx => decide +kernel); (case hd => kernel_rfl); (case hc => rfl); (case he => walk_at "m sel"))
  | (refine' nmF (by assumption) (by assumption) ?hx ?hd ?hd2 ?hc ?he ?_; (case hx => decide +kernel); (case hd => kernel_rfl); (case hd2 => kernel_rfl); (case hc => rfl); (case he => walk_at "m sel"))
  | (refine' nmG (by assumption) (by assumption) (Top0.glob (by assumption)) ?hx ?hd ?hv ?_; (case hx => kernel_rfl); (case hd => kernel_rfl); (case hv => walk_at "m mg")))
local macro_rules | `(tactic| walk_at "m store") => `(tactic| first
  | (refine' stL (by assumption) (by assumption) ?hx ?he ?hg ?_; (case hx => kernel_rfl); (case he => walk_at "m sel"); (case hg => walk_at "m lset"))
  | (refine' stC (by assumption) (by assumption) ?hx ?hc ?he ?_; (case hx => kernel_rfl); (case hc => rfl); (case he => walk_at "m sel")))
section
variable {K : Frag} {C fInit fAdd fGet fIter fLcas fBase fFast : Addr} {mg mb : Str → Option Value} {B B' : Store}
variable {w : World} {A : Around} {E : Value → Shared → Prop} {G : Array GenState} {os : OsState} {L L' : Led} {s : Shared} {env : Env} {sc : Scope} {Lf m : Addr} {cl : List (Str × Addr)} {cd : Value} {n : Nat} {x q : Addr}
variable {u0 u1 u2 u3 u4 u5 u6 u7 u8 : Option Value} {k : Nat} {tk : Tok} {U : List Bs}

set_option maxHeartbeats 2000000 in
theorem law13 {lj dK : Addr} {jvs : List Value} {js : List Bs} {kin : Bs → (Bs → Bool) × Nat} {gk : Bs → Option ((Bs → Bool) × Nat)} {Q : Flow → Shared → Prop} (R : Rm A 30) (I : EnvIs env lawSc Lf (lawCs m) cd)
    (hc : KCell B (m + 8) (.ref lj)) (hl : KList B lj jvs) (hb : BytL jvs js) (hnz : js.length ≤ 9)
    (hcK : KCell B (m + 3) (.ref dK)) (hK : KTab w B U (KinR w B) gk dK) (hg : ∀ p ∈ js, gk p = some (kin p)) (hkz : ∀ p ∈ js, (kin p).2 ≤ 900)
    (S : SS B G os ((Lf, LawL u0 u1 u2 u3 u4 u5 u6 u7 u8) :: L) s)
    (h : ∀ B' lg gvs s', Le B B' → KList B' lg gvs → BytL gvs (js.filter fun x => decide ((js.filter fun o => decide (o ≠ x) && (kin o).1 x) = [])) → SS B' G os ((Lf, LawL u0 u1 u2 u3 u4 u5 (some (.ref lg)) u7 u8) :: L) s' → Q .next s') :
    W (model thePrg w) A (exec (lawStmt 13) env) Q s := by
  have sb : ∀ p ∈ js, (kin p).2 < scanBound := fun p hp => by have := hkz p hp; unfold scanBound; omega
  refine lcompUseC (os := os) (x := "greatest") (cx := "one") (clos := [("kin", m + 3), ("joint", m + 8)]) [".0"] I rfl rfl (swapsT I (by kernel_rfl)) (fun _ => rfl) (by kernel_rfl) (by kernel_rfl) (fun _ => by kernel_rfl) (fun _ => by kernel_rfl) (by kernel_rfl) (by kernel_rfl) ?_
  refine nmKC I S (by decide +kernel) (by kernel_rfl) rfl hc ?_
  refine iter_list S (hl.isList S) fun it s S => ?_
  refine ⟨B, G, _, S, ?_⟩
  intro D Cc c s S
  refine cstartL S (e := by walk_at "m sel") fun s S => ?_
  have S := S.front (a := it) (e := by walk_at "m sel")
  have I2 := compEnvIs (scope := lcSc (asgV (lawStmt 13))) (C := Cc) (clos := [("one", c), ("kin", m + 3), ("joint", m + 8)]) I (by kernel_rfl)
  refine filtLoopC R I2 (by decide +kernel) (by decide +kernel) rfl hl hb (by omega) (f := fun x => decide ((js.filter fun o => decide (o ≠ x) && (kin o).1 x) = [])) ?_ S ?_
  · clear S
    intro B1 b v w0 out i s Q' le1 hbn hbv S hQ
    have hK1 := hK.kin le1
    refine wpAny_isTrue_Compare1 ?_
    refine lcompW (os := os) (clos := [("one", c), ("kin", m + 3)]) [".0", "other"] I2 rfl rfl (fun _ => rfl) (by kernel_rfl) (by kernel_rfl) (by kernel_rfl) (by kernel_rfl) (by kernel_rfl) ?_
    refine nmKC I2 S (by decide +kernel) (by kernel_rfl) rfl (hc.mono le1) ?_
    refine iter_list S ((hl.mono le1).isList S) fun it2 s S => ?_
    refine ⟨B1, G, _, S, ?_⟩
    intro D2 Cc2 s S
    refine cstartL S (e := by walk_at "m sel") fun s S => ?_
    have S := S.front (a := D2) (e := by walk_at "m sel")
    have S := S.front (a := Cc2) (e := by walk_at "m sel")
    have S := S.front (a := it2) (e := by walk_at "m sel")
    have I3 := compEnvIs (scope := lcSc (innerOf (asgV (lawStmt 13)))) (C := Cc2) (clos := [("one", c), ("kin", m + 3)]) I2 (by kernel_rfl)
    refine filtLoop R I3 (by decide +kernel) (by decide +kernel) (hl.mono le1) hb (by omega) (f := fun o => decide (o ≠ b) && (kin o).1 b) ?_ S ?_
    · clear S hQ
      intro B2 b2 v2 w0 out i s Q2 le2 hbo hbv2 S hQ2
      refine isTrue_and ?_
      refine wpAny_isTrue_Compare1 ?_
      refine nmL I3 S (by decide +kernel) (by kernel_rfl) .head (.tail .head) ?_
      refine nmC I3 S (by decide +kernel) (by decide +kernel) rfl (by walk_at "m sel") ?_
      refine neBytes hbv2 hbv ?_
      refine wpAny_truthy_bool ?_
      cases hne : decide (b2 ≠ b) with
      | false =>
        rw [hne] at hQ2
        simp only [Bool.false_eq_true, if_false]
        simp only [Bool.false_and] at hQ2
        exact hQ2 B2 s (.refl _) S
      | true =>
        rw [hne] at hQ2
        simp only [if_true]
        simp only [Bool.true_and] at hQ2
        refine isTrue_and ?_
        refine wpAny_isTrue_Compare1 ?_
        refine nmC I3 S (by decide +kernel) (by decide +kernel) rfl (by walk_at "m sel") ?_
        refine Subscript_ ?_
        refine nmKC I3 S (by decide +kernel) (by kernel_rfl) rfl (hcK.mono (le1.trans le2)) ?_
        refine nmL I3 S (by decide +kernel) (by kernel_rfl) .head (.tail .head) ?_
        refine KTab.sub S (hK1.kin le2) hbv2 (hg b2 hbo) fun a s hS S => ?_
        refine inSet hbv hS (sb b2 hbo) S fun s S => ?_
        refine wpAny_truthy_bool ?_
        cases hk2 : (kin b2).1 b with
        | true =>
          rw [hk2] at hQ2
          simp only [if_true]
          refine isTrue_and_nil ?_
          exact hQ2 B2 s (.refl _) S
        | false =>
          rw [hk2] at hQ2
          simp only [Bool.false_eq_true, if_false]
          exact hQ2 B2 s (.refl _) S
    · intro B2 s out2 l2 le2 S hob
      refine ⟨B2, G, _, _, S, fun s S => ?_⟩
      refine eList ?_
      refine args_nil ?_
      refine newList_ S (by simp) fun D3 s S => ?_
      refine eqLists (R.less (by omega)) S (S.isList (a := D2) (by walk_at "m sel")) (S.isList .head) hob .nil ?_
      refine wpAny_truthy_bool ?_
      have S := S.dropAt (a := D3) (e := by walk_at "m sel")
      have S := S.dropAt (a := D2) (e := by walk_at "m sel")
      exact hQ B2 s le2 S
  · intro B1 s out l' w1 le1 S hob
    have S := S.dropAt (a := c) (e := by walk_at "m sel")
    have S := S.front (a := D) (e := by walk_at "m sel")
    obtain ⟨B2, o2, le2, ho2, hB2, S⟩ := S.freeze
    dsimp only
    walk_at "m store"
    intro s S
    have S := S.front (a := Cc) (e := by walk_at "m sel")
    exact ⟨B2, G, _, _, S, fun s S => h B2 D out s (le1.trans le2) ⟨o2, hB2, ho2⟩ hob S⟩
end
end Mine

end
section
open PySem PySem.W PySem.Calls PySem.SeqAt PyProof.Rows Builtin
set_option Elab.async false
set_option maxRecDepth 100000
set_option linter.unusedVariables false
namespace Mine
local macro_rules | `(tactic| walk_at "m sel") => `(tactic| first | with_reducible apply Sel.head | (apply Sel.tail; walk_at "m sel"))
local macro_rules | `(tactic| walk_at "m lget") => `(tactic| first | with_reducible apply LGet.head | (apply LGet.tail; walk_at "m lget"))
local macro_rules | `(tactic| walk_at "m lset") => `(tactic| first | with_reducible apply LSet.head | (apply LSet.tail; walk_at "m lset"))
local macro_rules | `(tactic| walk_at "m mg") => `(tactic| first | exact Top0.gPush (by assumption) | exact Top0.gPop (by assumption) | exact Top0.gWL (by assumption) | exact Top0.gLcas (by assumption) | exact Top0.gBase (by assumption) | exact Top0.gFast (by assumption))
local macro_rules | `(tactic| walk_at "m name") => `(tactic| first
  | (refine' nmL (by assumption) (by assumption) ?hx ?hd ?he ?hg ?_; (case hx => kernel_rfl); (case hd => kernel_rfl); (case he => walk_at "m sel"); (case hg => walk_at "m lget"))
  | (refine' nmC (by assumption) (by assumption) ?hx ?hd ?hc ?he ?_; (case hx => decide +kernel); (case hd => kernel_rfl); (case hc => rfl); (case he => walk_at "m sel"))
  | (refine' nmF (by assumption) (by assumption) ?hx ?hd ?hd2 ?hc ?he ?_; (case hx => decide +kernel); (case hd => kernel_rfl); (case hd2 => kernel_rfl); (case hc => rfl); (case he => walk_at "m sel"))
  | (refine' nmG (by assumption) (by assumption) (Top0.glob (by assumption)) ?hx ?hd ?hv ?_; (case hx => kernel_rfl); (case hd => kernel_rfl); (case hv => walk_at "m mg")))
local macro_rules | `(tactic| walk_at "m store") => `(tactic| first
  | (refine' stL (by assumption) (by assumption) ?hx ?he ?hg ?_; (case hx => kernel_rfl); (case he => walk_at "m sel"); (case hg => walk_at "m lset"))
  | (refine' stC (by assumption) (by assumption) ?hx ?hc ?he ?_; (case hx => kernel_rfl); (case hc => rfl); (case he => walk_at "m sel")))
/-- the comprehension within the call that a comprehension walks over -/
def iterIn : Expr → Expr
  | .ListComp _ (⟨_, .Call _ (e :: _) _ _, _, _⟩ :: _) _ _ => e
  | _ => default
section
variable {K : Frag} {C fInit fAdd fGet fIter fLcas fBase fFast : Addr} {mg mb : Str → Option Value} {B B' : Store}
variable {w : World} {A : Around} {E : Value → Shared → Prop} {G : Array GenState} {os : OsState} {L L' : Led} {s : Shared} {env : Env} {sc : Scope} {Lf m : Addr} {cl : List (Str × Addr)} {cd : Value} {n : Nat} {x q : Addr}
variable {u0 u1 u2 u3 u4 u5 u6 u7 u8 : Option Value} {k : Nat} {tk : Tok} {U : List Bs}

theorem KTab.subI {gt : Bs → Option Int} {d : Addr} {key : Value} {b : Bs} {X : Int} {value slice : Expr} {Q : Value → Shared → Prop} (S : SS B G os L s) (hD : KTab w B U IntV gt d) (hk : BytV b key) (hg : gt b = some X) (h : ∀ t s', SS B G os L s' → Q (.int X t) s')
    (hs : subscripted slice false (.ref d) key = operate [.ref d, key] (getItem (.ref d) key) := by with_unfolding_all rfl) (ht : ∀ r, letTemporaryGo value (.ref d) r = pure () := by intro _; with_unfolding_all rfl) :
    wpAny (model thePrg w) A (subscriptTail value slice (.ref d) key) Q E s := by
  obtain ⟨o, ho, hD⟩ := hD
  refine dctSub S (S.keep _ _ ho) hD hk hg (fun v s' ⟨t, e⟩ S' => ?_) hs ht
  subst e
  exact h t s' S'
theorem KTab.subP {gp : Bs → Option (List Bs)} {d : Addr} {key : Value} {b : Bs} {ps : List Bs} {value slice : Expr} {Q : Value → Shared → Prop} (S : SS B G os L s) (hD : KTab w B U (ParR B) gp d) (hk : BytV b key) (hg : gp b = some ps) (h : ∀ l vs s', KList B l vs → BytL vs ps → SS B G os L s' → Q (.ref l) s')
    (hs : subscripted slice false (.ref d) key = operate [.ref d, key] (getItem (.ref d) key) := by with_unfolding_all rfl) (ht : ∀ r, letTemporaryGo value (.ref d) r = pure () := by intro _; with_unfolding_all rfl) :
    wpAny (model thePrg w) A (subscriptTail value slice (.ref d) key) Q E s := by
  obtain ⟨o, ho, hD⟩ := hD
  refine dctSub S (S.keep _ _ ho) hD hk hg (fun v s' ⟨l, vs, e, h1, h2⟩ S' => ?_) hs ht
  subst e
  exact h l vs s' h1 h2 S'

/-- [(times[one], one) for one in l] -/
theorem pairLoop {p1 p2 p3 p4 p5 pp pos : Pos} {kk : Nat} {iter : Expr} {scope : Scope} {it l D Cc ct dT : Addr} {vs : List Value} {bs : List Bs} {tm : Bs → Int} {gt : Bs → Option Int} {w0 w1 : Option Value} {Rr : Result → Shared → Prop} (R : Rm A n) (I : EnvIs env sc Cc cl cd)
    (h1 : sc.names.lookup ("one" : Str) = some .local) (h2 : sc.names.lookup ("times" : Str) = some .cell) (h3 : cl.lookup ("times" : Str) = some ct) (hT : KCell B ct (.ref dT)) (hD : KTab w B U IntV gt dT) (hl : KList B l vs) (hb : BytL vs bs) (hz : bs.length ≤ 100) (hg : ∀ p ∈ bs, gt p = some (tm p))
    (S : SS B G os ((it, IterO l 0) :: (Cc, LocO [(".0", w0), ("one", w1)]) :: (D, ListO []) :: L) s)
    (h : ∀ B' s' out l', Le B B' → SS B' G os ((Cc, LocO l') :: (D, ListO out) :: L) s' → Rel2 (IsPair B') out (bs.map fun b => (tm b, b)) → Rr (.ok .next) s') :
    codeAny (model thePrg w) A (.compLoop (.ListComp (.Tuple [.Subscript (.Name "times" p1) (.Name "one" p2) p3, .Name "one" p5] kk pp) [⟨.Name "one" p4, iter, [], 0⟩] scope pos) 0 (.ref it) (.ref D) env) Rr s := by
  refine cloop1 (fun m s => ∃ B' done rest out u0 u1, Le B B' ∧ bs = done ++ rest ∧ m = rest.length ∧ Rel2 (IsPair B') out (done.map fun b => (tm b, b)) ∧ SS B' G os ((it, IterO l done.length) :: (Cc, LocO [(".0", u0), ("one", u1)]) :: (D, ListO out) :: L) s) ?_ bs.length
    ⟨B, [], bs, [], w0, w1, .refl _, rfl, rfl, Rel2.nil, S⟩
  clear S
  rintro m s ⟨B1, done, rest, out, u0, u1, le1, hc, hm, ho, S⟩
  have hvl : vs.length = bs.length := hb.1
  have hol : out.length = done.length := by have := ho.1; simpa using this
  refine nextL R S ((hl.mono le1).isList S) ?_ ?_
  · intro v s hv hlt S
    obtain ⟨b, rest', rfl⟩ : ∃ k rest', rest = k :: rest' := by
      cases rest with
      | nil => rw [hvl, hc] at hlt; simp at hlt
      | cons c r => exact ⟨c, r, rfl⟩
    have hp : BytV b v := hb.2 done.length v b hv (by rw [hc]; simp)
    have hdl : done.length ≤ 100 := by rw [hc, List.length_append] at hz; omega
    dsimp only
    refine letGoI S .head ?_
    refine PyProof.Rows.assign_Name ?_
    refine stL I S h1 (.tail .head) (.tail .head) fun s S => ?_
    refine wpAny_tests_nil ?_
    refine eTuple ?_
    refine args_cons (he := rfl) ?_
    refine Subscript_ ?_
    refine nmKC I S h2 (by decide +kernel) h3 (hT.mono le1) ?_
    refine nmL I S h1 (by decide +kernel) .head (.tail .head) ?_
    refine KTab.subI S (hD.tm le1) hp (hg b (by rw [hc]; simp)) fun tz s S => ?_
    refine args_cons (he := rfl) ?_
    refine nmL I S h1 (by decide +kernel) .head (.tail .head) ?_
    refine args_nil ?_
    refine newTuple_ S (by simp) fun tu s S => ?_
    obtain ⟨B2, o2, le2, ho2, hB2, S⟩ := S.freeze
    have S := S.front (a := D) (e := by walk_at "m sel")
    refine lApp S (by omega) fun s S => ?_
    have S := S.front (a := Cc) (e := by walk_at "m sel")
    have S := S.front (a := it) (e := by walk_at "m sel")
    refine ⟨rest'.length, by rw [hm]; simp, B2, done ++ [b], rest', _, _, _, le1.trans le2, by rw [hc]; simp, rfl, ?_, by rw [List.length_append, List.length_singleton]; exact S⟩
    rw [List.map_append]
    obtain ⟨tb, rfl⟩ := hp
    obtain ⟨hc2, hd2, nn, hdd2⟩ := ho2
    exact Rel2.append (ho.mono fun v k h => h.mono le2) (Rel2.cons ⟨tu, o2, nn, tz, tb, rfl, hB2, hc2, hd2, hdd2⟩ .nil)
  · intro s hlt S'
    have hr0 : rest = [] := by
      have : bs.length = done.length + rest.length := by rw [hc]; simp
      exact List.length_eq_zero_iff.mp (by omega)
    subst hr0
    rw [List.append_nil] at hc
    rw [← hc] at ho
    exact h B1 s out _ le1 S' ho

set_option maxHeartbeats 2000000 in
theorem law14 {lg dT : Addr} {gvs : List Value} {gs : List Bs} {tm : Bs → Int} {gt : Bs → Option Int} {Q : Flow → Shared → Prop} (T : Top0 K C fInit fAdd fGet fIter fLcas fBase fFast mg mb B) (TB : TopB mg mb) (R : Rm A 30) (I : EnvIs env lawSc Lf (lawCs m) cd)
    (hl : KList B lg gvs) (hb : BytL gvs gs) (hnz : gs.length ≤ 9) (hnd : gs.Nodup) (hT : KCell B (m + 12) (.ref dT)) (hD : KTab w B U IntV gt dT) (hg : ∀ p ∈ gs, gt p = some (tm p))
    (S : SS B G os ((Lf, LawL u0 u1 u2 u3 u4 u5 (some (.ref lg)) u7 u8) :: L) s)
    (h : ∀ B' ld dvs (ks : List Key) s', Le B B' → KList B' ld dvs → BytL dvs (ks.map (·.2)) → ks.Perm (gs.map fun b => (tm b, b)) → ks.Pairwise kLe → SS B' G os ((Lf, LawL u0 u1 u2 u3 u4 u5 (some (.ref lg)) (some (.ref ld)) u8) :: L) s' → Q .next s') :
    W (model thePrg w) A (exec (lawStmt 14) env) Q s := by
  refine lcompUse (os := os) (x := "due") (clos := []) [".0", "when", "one"] I rfl rfl (swapsT I (by kernel_rfl)) (fun _ => rfl) (by kernel_rfl) (by kernel_rfl) (by kernel_rfl) (by kernel_rfl) (by kernel_rfl) ?_
  refine PyProof.Rows.Call_ ?_
  refine nmB I S T.glob T.buil (by kernel_rfl) (by kernel_rfl) TB.sorted.1 TB.sorted.2 ?_
  refine callWith_builtin1 (he := rfl) (hplain := rfl) ?_
  refine args_cons (he := rfl) ?_
  refine lcompW (os := os) (clos := [("times", m + 12)]) [".0", "one"] I rfl rfl (fun _ => rfl) (by kernel_rfl) (by kernel_rfl) (by kernel_rfl) (by kernel_rfl) (by kernel_rfl) ?_
  walk_at "m name"
  refine iter_list S (hl.isList S) fun it s S => ?_
  refine ⟨B, G, _, S, ?_⟩
  intro D Cc s S
  refine cstartL S (e := by walk_at "m sel") fun s S => ?_
  have S := S.front (a := D) (e := by walk_at "m sel")
  have S := S.front (a := Cc) (e := by walk_at "m sel")
  have S := S.front (a := it) (e := by walk_at "m sel")
  refine pairLoop R (compEnvIs I (by kernel_rfl)) (by kernel_rfl) (by decide +kernel) rfl hT hD hl hb (by omega) hg S fun B1 s out l' le1 S hr => ?_
  refine ⟨B1, G, _, _, S, fun s S => ?_⟩
  obtain ⟨B2, o2, le2, ho2, hB2, S⟩ := S.freeze
  refine args_nil ?_
  have hndk : (gs.map fun b => (tm b, b)).Nodup := by
    rw [List.nodup_iff_pairwise_ne] at hnd ⊢
    rw [List.pairwise_map]
    exact hnd.imp fun h e => h (Prod.mk.inj e).2
  refine sortedPairs R.h S ⟨o2, hB2, ho2⟩ (hr.mono fun v k h => h.mono le2) hndk (by simp; omega) fun D2 vs' ks s hr' hp hs S => ?_
  refine iter_list S (S.isList .head) fun it2 s S => ?_
  refine ⟨B2, G, _, S, ?_⟩
  intro D3 Cc3 s S
  have hkl : ks.length ≤ 9 := by rw [hp.length_eq]; simpa using hnz
  refine cstartL S (e := by walk_at "m sel") fun s S => ?_
  have S := S.front (a := D2) (e := by walk_at "m sel")
  have S := S.front (a := D3) (e := by walk_at "m sel")
  have S := S.front (a := Cc3) (e := by walk_at "m sel")
  have S := S.front (a := it2) (e := by walk_at "m sel")
  have I2 := compEnvIs (scope := lcSc (asgV (lawStmt 14))) (C := Cc3) (clos := []) I (by kernel_rfl)
  refine compSnd (n := 0) (R.less (by omega)) I2 (by kernel_rfl) (by kernel_rfl) (by kernel_rfl) hr' (by omega) S fun s out l S hout => ?_
  dsimp only
  have S := S.dropAt (a := D2) (e := by walk_at "m sel")
  have S := S.front (a := D3) (e := by walk_at "m sel")
  obtain ⟨B3, o3, le3, ho3, hB3, S⟩ := S.freeze
  walk_at "m store"
  intro s S
  have S := S.front (a := Cc3) (e := by walk_at "m sel")
  exact ⟨B3, G, _, _, S, fun s S => h B3 D3 out ks s ((le1.trans le2).trans le3) ⟨o3, hB3, ho3⟩ hout hp hs S⟩
end
end Mine

end
section
open PySem PySem.W PySem.Calls PySem.SeqAt PyProof.Rows Builtin
set_option Elab.async false
set_option maxRecDepth 100000
set_option linter.unusedVariables false
namespace Mine
local macro_rules | `(tactic| walk_at "m sel") => `(tactic| first | with_reducible apply Sel.head | (apply Sel.tail; walk_at "m sel"))
local macro_rules | `(tactic| walk_at "m lget") => `(tactic| first | with_reducible apply LGet.head | (apply LGet.tail; walk_at "m lget"))
local macro_rules | `(tactic| walk_at "m lset") => `(tactic| first | with_reducible apply LSet.head | (apply LSet.tail; walk_at "m lset"))
local macro_rules | `(tactic| walk_at "m mg") => `(tactic| first | exact Top0.gPush (by assumption) | exact Top0.gPop (by assumption) | exact Top0.gWL (by assumption) | exact Top0.gLcas (by assumption) | exact Top0.gBase (by assumption) | exact Top0.gFast (by assumption))
local macro_rules | `(tactic| walk_at "m name") => `(tactic| first
  | (refine' nmL (by assumption) (by assumption) ?hx ?hd ?he ?hg ?_; (case hx => kernel_rfl); (case hd => kernel_rfl); (case he => walk_at "m sel"); (case hg => walk_at "m lget"))
  | (refine' nmC (by assumption) (by assumption) ?hx ?hd ?hc ?he ?_; (case hx => decide +kernel); (case hd => kernel_rfl); (case hc => rfl); (case he => walk_at "m sel"))
  | (refine' nmF (by assumption) (by assumption) ?hx ?hd ?hd2 ?hc ?he ?_; (case hx => decide +kernel); (case hd => kernel_rfl); (case hd2 => kernel_rfl); (case hc => rfl); (case he => walk_at "m sel"))
  | (refine' nmG (by assumption) (by assumption) (Top0.glob (by assumption)) ?hx ?hd ?hv ?_; (case hx => kernel_rfl); (case hd => kernel_rfl); (case hv => walk_at "m mg")))
local macro_rules | `(tactic| walk_at "m store") => `(tactic| first
  | (refine' stL (by assumption) (by assumption) ?hx ?he ?hg ?_; (case hx => kernel_rfl); (case he => walk_at "m sel"); (case hg => walk_at "m lset"))
  | (refine' stC (by assumption) (by assumption) ?hx ?hc ?he ?_; (case hx => kernel_rfl); (case hc => rfl); (case he => walk_at "m sel")))
section
variable {K : Frag} {C fInit fAdd fGet fIter fLcas fBase fFast : Addr} {mg mb : Str → Option Value} {B B' : Store}
variable {w : World} {A : Around} {E : Value → Shared → Prop} {G : Array GenState} {os : OsState} {L L' : Led} {s : Shared} {env : Env} {sc : Scope} {Lf m : Addr} {cl : List (Str × Addr)} {cd : Value} {n : Nat} {x q : Addr}
variable {u0 u1 u2 u3 u4 u5 u6 u7 u8 : Option Value} {k : Nat} {tk : Tok} {U : List Bs} {P2 c2 : Addr}

/-- the two nested functions -/
theorem law15 {c9 c10 : Option Value} {rest : List Stmt} {Q : Flow → Shared → Prop} (T : Top0 K C fInit fAdd fGet fIter fLcas fBase fFast mg mb B) (hb : BmainS mg B) (hC : CodeHdS B c2 P2) (I : EnvIs env lawSc Lf (lawCs m) (.ref c2))
    (S : SS B G os ((P2, Is (tabObj #[])) :: (m + 9, CellO c9) :: (m + 10, CellO c10) :: L) s)
    (h : ∀ B' fp ft cdP cdT s', Le B B' → FnIs B' fp (fnPs (lawStmt 15)) (fnBd (lawStmt 15)) (fnSc (lawStmt 15)) [("parents", m + 11)] .none cdP → FnIs B' ft (fnPs (lawStmt 16)) (fnBd (lawStmt 16)) (fnSc (lawStmt 16)) [("times", m + 12)] .none cdT →
      KCell B' (m + 9) (.ref fp) → KCell B' (m + 10) (.ref ft) → (∃ ps, B' P2 = some (tabObj ps)) → SS B' G os L s' → W (model thePrg w) A (execs rest env) Q s') :
    W (model thePrg w) A (execs (lawStmt 15 :: lawStmt 16 :: rest) env) Q s := by
  refine wpAny_execs_cons ?_
  refine nestDef_K (by kernel_rfl) (by kernel_rfl) (by kernel_rfl) ?_
  refine nestW (params := fnPs (lawStmt 15)) (body := fnBd (lawStmt 15)) (scope := fnSc (lawStmt 15)) (clos := [("parents", m + 11)]) T.glob hb hC I S trivial rfl (by kernel_rfl) fun B1 fp c1' s le1 FP hcr S => ?_
  refine stC I S (by kernel_rfl) rfl (by walk_at "m sel") fun s S => ?_
  obtain ⟨B2, o2, le2, ho2, hB2, S⟩ := S.freeze
  have le12 := le1.trans le2
  refine wpAny_execs_cons ?_
  refine nestDef_K (by kernel_rfl) (by kernel_rfl) (by kernel_rfl) ?_
  refine nestW (params := fnPs (lawStmt 16)) (body := fnBd (lawStmt 16)) (scope := fnSc (lawStmt 16)) (clos := [("times", m + 12)]) (T.mono le12).glob (hb.mono le12) (hC.mono le12) I S ?_ ?_ (by kernel_rfl) fun B3 ft c2' s le3 FT hcr2 S => ?_
  · exact trivial
  · kernel_rfl
  obtain ⟨B5, o5, le5, ho5, hB5, S⟩ := S.freeze
  refine stC I S (by kernel_rfl) rfl (by walk_at "m sel") fun s S => ?_
  obtain ⟨B4, o4, le4, ho4, hB4, S⟩ := S.freeze
  have le54 := le5.trans le4
  have le34 := le3.trans le54
  exact h B4 fp ft _ _ s (le12.trans le34) (FP.mono (le2.trans le34)) (FT.mono le54) ⟨o2, le34 _ _ hB2, ho2⟩ ⟨o4, hB4, ho4⟩ ⟨_, by rw [le4 _ _ hB5, ho5]⟩ S
end
end Mine

end
section
open PySem PySem.W PySem.Calls PySem.SeqAt PyProof.Rows Builtin
set_option Elab.async false
set_option maxRecDepth 100000
set_option linter.unusedVariables false
namespace Mine
local macro_rules | `(tactic| walk_at "m sel") => `(tactic| first | with_reducible apply Sel.head | (apply Sel.tail; walk_at "m sel"))
local macro_rules | `(tactic| walk_at "m lget") => `(tactic| first | with_reducible apply LGet.head | (apply LGet.tail; walk_at "m lget"))
local macro_rules | `(tactic| walk_at "m lset") => `(tactic| first | with_reducible apply LSet.head | (apply LSet.tail; walk_at "m lset"))
local macro_rules | `(tactic| walk_at "m mg") => `(tactic| first | exact Top0.gPush (by assumption) | exact Top0.gPop (by assumption) | exact Top0.gWL (by assumption) | exact Top0.gLcas (by assumption) | exact Top0.gBase (by assumption) | exact Top0.gFast (by assumption))
local macro_rules | `(tactic| walk_at "m name") => `(tactic| first
  | (refine' nmL (by assumption) (by assumption) ?hx ?hd ?he ?hg ?_; (case hx => kernel_rfl); (case hd => kernel_rfl); (case he => walk_at "m sel"); (case hg => walk_at "m lget"))
  | (refine' nmC (by assumption) (by assumption) ?hx ?hd ?hc ?he ?_; (case hx => decide +kernel); (case hd => kernel_rfl); (case hc => rfl); (case he => walk_at "m sel"))
  | (refine' nmF (by assumption) (by assumption) ?hx ?hd ?hd2 ?hc ?he ?_; (case hx => decide +kernel); (case hd => kernel_rfl); (case hd2 => kernel_rfl); (case hc => rfl); (case he => walk_at "m sel"))
  | (refine' nmG (by assumption) (by assumption) (Top0.glob (by assumption)) ?hx ?hd ?hv ?_; (case hx => kernel_rfl); (case hd => kernel_rfl); (case hv => walk_at "m mg")))
local macro_rules | `(tactic| walk_at "m store") => `(tactic| first
  | (refine' stL (by assumption) (by assumption) ?hx ?he ?hg ?_; (case hx => kernel_rfl); (case he => walk_at "m sel"); (case hg => walk_at "m lset"))
  | (refine' stC (by assumption) (by assumption) ?hx ?hc ?he ?_; (case hx => kernel_rfl); (case hc => rfl); (case he => walk_at "m sel")))
section
variable {K : Frag} {C fInit fAdd fGet fIter fLcas fBase fFast : Addr} {mg mb : Str → Option Value} {B B' : Store}
variable {w : World} {A : Around} {E : Value → Shared → Prop} {G : Array GenState} {os : OsState} {L L' : Led} {s : Shared} {env : Env} {sc : Scope} {Lf m : Addr} {cl : List (Str × Addr)} {cd : Value} {n : Nat} {x q : Addr}
variable {U : List Bs}

theorem lkP {fp dP : Addr} {cdP : Value} {gp : Bs → Option (List Bs)} {par : Bs → List Bs} (hN : NoLimitS B) (F : FnIs B fp (fnPs (lawStmt 15)) (fnBd (lawStmt 15)) (fnSc (lawStmt 15)) [("parents", m + 11)] .none cdP)
    (hc : KCell B (m + 11) (.ref dP)) (hD : KTab w B U (ParR B) gp dP) (hg : ∀ b ∈ U, gp b = some (par b)) : LkP w B U par fp := by
  refine ⟨let ⟨o, fd, a, _, b, _⟩ := F.ex; ⟨o, fd, a, b⟩, fun A B' G os L s v b Q R le hv hb S h => ?_⟩
  refine callF (n := 2) (args := ⟨[v], []⟩) (binds := [("name", v)]) (rest := []) R (hN.mono le) (F.mono le) S ?_ (by kernel_rfl) (by kernel_rfl) (by kernel_rfl) (by kernel_rfl) (by kernel_rfl) (by kernel_rfl) ?_
  · intro fd h1 h2 h3
    refine BindsTo.of_eq ?_
    unfold bindArgs
    rw [h1, h2]
    kernel_rfl
  clear S
  intro env Lf s I R S
  simp only [List.map_cons, List.map_nil, List.cons_append, List.nil_append] at S
  refine wpAny_execs_cons ?_
  refine wpAny_Return_some ?_
  refine Subscript_ ?_
  refine nmKF I S (by decide +kernel) (by kernel_rfl) (by kernel_rfl) rfl (hc.mono le) ?_
  walk_at "m name"
  refine KTab.subP S (hD.par le) hv (hg b hb) fun l vs s h1 h2 S => ?_
  exact h l vs s h1 h2 S.drop
theorem lkT {ft dT : Addr} {cdT : Value} {gt : Bs → Option Int} {tm : Bs → Int} (hN : NoLimitS B) (F : FnIs B ft (fnPs (lawStmt 16)) (fnBd (lawStmt 16)) (fnSc (lawStmt 16)) [("times", m + 12)] .none cdT)
    (hc : KCell B (m + 12) (.ref dT)) (hD : KTab w B U IntV gt dT) (hg : ∀ b ∈ U, gt b = some (tm b)) : LkT w B U tm ft := by
  refine ⟨let ⟨o, fd, a, _, b, _⟩ := F.ex; ⟨o, fd, a, b⟩, fun A B' G os L s v b Q R le hv hb S h => ?_⟩
  refine callF (n := 2) (args := ⟨[v], []⟩) (binds := [("name", v)]) (rest := []) R (hN.mono le) (F.mono le) S ?_ (by kernel_rfl) (by kernel_rfl) (by kernel_rfl) (by kernel_rfl) (by kernel_rfl) (by kernel_rfl) ?_
  · intro fd h1 h2 h3
    refine BindsTo.of_eq ?_
    unfold bindArgs
    rw [h1, h2]
    kernel_rfl
  clear S
  intro env Lf s I R S
  simp only [List.map_cons, List.map_nil, List.cons_append, List.nil_append] at S
  refine wpAny_execs_cons ?_
  refine wpAny_Return_some ?_
  refine Subscript_ ?_
  refine nmKF I S (by decide +kernel) (by kernel_rfl) (by kernel_rfl) rfl (hc.mono le) ?_
  walk_at "m name"
  refine KTab.subI S (hD.tm le) hv (hg b hb) fun t s S => ?_
  exact h t s S.drop
end
end Mine

end
section
open PySem PySem.W PySem.Calls PySem.SeqAt PyProof.Rows Builtin
set_option Elab.async false
set_option maxRecDepth 100000
set_option linter.unusedVariables false
namespace Mine
local macro_rules | `(tactic| walk_at "m sel") => `(tactic| first | with_reducible apply Sel.head | (apply Sel.tail; walk_at "m sel"))
local macro_rules | `(tactic| walk_at "m lget") => `(tactic| first | with_reducible apply LGet.head | (apply LGet.tail; walk_at "m lget"))
local macro_rules | `(tactic| walk_at "m lset") => `(tactic| first | with_reducible apply LSet.head | (apply LSet.tail; walk_at "m lset"))
local macro_rules | `(tactic| walk_at "m mg") => `(tactic| first | exact Top0.gPush (by assumption) | exact Top0.gPop (by assumption) | exact Top0.gWL (by assumption) | exact Top0.gLcas (by assumption) | exact Top0.gBase (by assumption) | exact Top0.gFast (by assumption))
local macro_rules | `(tactic| walk_at "m name") => `(tactic| first
  | (refine' nmL (by assumption) (by assumption) ?hx ?hd ?he ?hg ?_; (case hx => kernel_rfl); (case hd => kernel_rfl); (case he => walk_at "m sel"); (case hg => walk_at "m lget"))
  | (refine' nmC (by assumption) (by assumption) ?hx ?hd ?hc ?he ?_; (case hx => decide +kernel); (case hd => kernel_rfl); (case hc => rfl); (case he => walk_at "m sel"))
  | (refine' nmF (by assumption) (by assumption) ?hx ?hd ?hd2 ?hc ?he ?_; (case hx => decide +kernel); (case hd => kernel_rfl); (case hd2 => kernel_rfl); (case hc => rfl); (case he => walk_at "m sel"))
  | (refine' nmG (by assumption) (by assumption) (Top0.glob (by assumption)) ?hx ?hd ?hv ?_; (case hx => kernel_rfl); (case hd => kernel_rfl); (case hv => walk_at "m mg")))
local macro_rules | `(tactic| walk_at "m store") => `(tactic| first
  | (refine' stL (by assumption) (by assumption) ?hx ?he ?hg ?_; (case hx => kernel_rfl); (case he => walk_at "m sel"); (case hg => walk_at "m lset"))
  | (refine' stC (by assumption) (by assumption) ?hx ?hc ?he ?_; (case hx => kernel_rfl); (case hc => rfl); (case he => walk_at "m sel")))
def KTup (B : Store) (l : Addr) (vs : List Value) : Prop := ∃ o, B l = some o ∧ TupO vs o
def TIterO (t : Addr) (i : Nat) : OP := fun o => o.cls = .type "tuple_iterator" ∧ o.data = .fields #[.ref t, .int i 0]
section
variable {K : Frag} {C fInit fAdd fGet fIter fLcas fBase fFast : Addr} {mg mb : Str → Option Value} {B B' : Store}
variable {w : World} {A : Around} {E : Value → Shared → Prop} {G : Array GenState} {os : OsState} {L L' : Led} {s : Shared} {env : Env} {sc : Scope} {Lf m : Addr} {cl : List (Str × Addr)} {cd : Value} {n : Nat} {x q : Addr}
variable {U : List Bs}

theorem KTup.mono {l : Addr} {vs : List Value} (h : KTup B l vs) (le : Le B B') : KTup B' l vs := let ⟨o, a, b⟩ := h; ⟨o, le _ _ a, b⟩
theorem KTup.isTup {l : Addr} {vs : List Value} (h : KTup B l vs) (S : SS B G os L s) : s.heap.IsTuple l vs.toArray := let ⟨o, a, h1, _, n, h2⟩ := h; ⟨o, S.keep _ _ a, h1, n, h2⟩
theorem iterT {t : Addr} {vs : List Value} {Q : Value → Shared → Prop} (S : SS B G os L s) (hl : KTup B t vs) (h : ∀ it s', SS B G os ((it, TIterO t 0) :: L) s' → Q (.ref it) s') : wpAny (model thePrg w) A (pyIter (.ref t)) Q E s :=
  wpAny_pyIter_tuple (hl.isTup S) (h _ _ (S.push { cls := .type "tuple_iterator", data := .fields #[.ref t, .int 0 0] } ⟨rfl, rfl⟩))
theorem nextT {it t : Addr} {i : Nat} {vs : List Value} {Q : Option Value → Shared → Prop} (hh : A.handled = none) (S : SS B G os ((it, TIterO t i) :: L) s) (hl : KTup B t vs)
    (h1 : ∀ v s', vs[i]? = some v → SS B G os ((it, TIterO t (i + 1)) :: L) s' → Q (some v) s') (h2 : ∀ s', vs.length ≤ i → SS B G os L s' → Q none s') : wpAny (model thePrg w) A (pyNext (.ref it)) Q E s := by
  obtain ⟨o, ho, hc, hd⟩ := S.get .head
  by_cases hi : i < vs.length
  · refine wpAny_pyNext_tuple_item ⟨o, ho, hc, hd⟩ (hl.isTup S) (x := vs[i]) (by simp [hi]) fun h' hi' hs => ?_
    obtain ⟨o', ho', hc', hd'⟩ := hi'
    exact h1 _ _ (List.getElem?_eq_getElem hi) (S.upd hs ho' ⟨hc', hd'⟩)
  · refine wpAny_pyNext_tuple_end hh ⟨o, ho, hc, hd⟩ (hl.isTup S) (by simp; omega) fun h' he => h2 _ (by omega) ?_
    have hn := List.nodup_cons.mp (show (it :: L.map (·.1)).Nodup from S.nodup)
    refine ⟨fun b o e => he b o (fun q => ?_) (S.keep b o e), fun p hp => ?_, fun p hp => S.new p (.tail _ hp), hn.2, S.gens, S.os⟩
    · have := S.new _ (List.Mem.head _); rw [q, this] at e; cases e
    · obtain ⟨o, e, y⟩ := S.led p (.tail _ hp)
      exact ⟨o, he p.1 o (fun q => hn.1 (q ▸ List.mem_map_of_mem hp)) e, y⟩
theorem letGoT {it t : Addr} {i : Nat} {target : Expr} {v : Value} {Q : Unit → Shared → Prop} (S : SS B G os L s) (e : Sel it (TIterO t i) L L') (h : Q () s) : wpAny (model thePrg w) A (letOwnedTupleGo target (.ref it) v) Q E s := by
  obtain ⟨oi, hoi, hci, -⟩ := S.get e
  exact letGo hoi hci (by decide) h
end
end Mine

end
section
open PySem PySem.W PySem.Calls PySem.SeqAt PyProof.Rows Builtin
set_option Elab.async false
set_option maxRecDepth 100000
set_option linter.unusedVariables false
namespace Mine
local macro_rules | `(tactic| walk_at "m sel") => `(tactic| first | with_reducible apply Sel.head | (apply Sel.tail; walk_at "m sel"))
local macro_rules | `(tactic| walk_at "m lget") => `(tactic| first | with_reducible apply LGet.head | (apply LGet.tail; walk_at "m lget"))
local macro_rules | `(tactic| walk_at "m lset") => `(tactic| first | with_reducible apply LSet.head | (apply LSet.tail; walk_at "m lset"))
local macro_rules | `(tactic| walk_at "m mg") => `(tactic| first | exact Top0.gPush (by assumption) | exact Top0.gPop (by assumption) | exact Top0.gWL (by assumption) | exact Top0.gLcas (by assumption) | exact Top0.gBase (by assumption) | exact Top0.gFast (by assumption))
local macro_rules | `(tactic| walk_at "m name") => `(tactic| first
  | (refine' nmL (by assumption) (by assumption) ?hx ?hd ?he ?hg ?_; (case hx => kernel_rfl); (case hd => kernel_rfl); (case he => walk_at "m sel"); (case hg => walk_at "m lget"))
  | (refine' nmC (by assumption) (by assumption) ?hx ?hd ?hc ?he ?_; (case hx => decide +kernel); (case hd => kernel_rfl); (case hc => rfl); (case he => walk_at "m sel"))
  | (refine' nmF (by assumption) (by assumption) ?hx ?hd ?hd2 ?hc ?he ?_; (case hx => decide +kernel); (case hd => kernel_rfl); (case hd2 => kernel_rfl); (case hc => rfl); (case he => walk_at "m sel"))
  | (refine' nmG (by assumption) (by assumption) (Top0.glob (by assumption)) ?hx ?hd ?hv ?_; (case hx => kernel_rfl); (case hd => kernel_rfl); (case hv => walk_at "m mg")))
local macro_rules | `(tactic| walk_at "m store") => `(tactic| first
  | (refine' stL (by assumption) (by assumption) ?hx ?he ?hg ?_; (case hx => kernel_rfl); (case he => walk_at "m sel"); (case hg => walk_at "m lset"))
  | (refine' stC (by assumption) (by assumption) ?hx ?hc ?he ?_; (case hx => kernel_rfl); (case hc => rfl); (case he => walk_at "m sel")))
section
variable {K : Frag} {C fInit fAdd fGet fIter fLcas fBase fFast : Addr} {mg mb : Str → Option Value} {B B' : Store}
variable {w : World} {A : Around} {E : Value → Shared → Prop} {G : Array GenState} {os : OsState} {L L' : Led} {s : Shared} {env : Env} {sc : Scope} {Lf m : Addr} {cl : List (Str × Addr)} {cd : Value} {n : Nat} {x q : Addr}
variable {u0 u1 u2 u3 u4 u5 u6 u7 u8 : Option Value} {k : Nat} {tk : Tok} {U : List Bs} {P c fp ft : Addr} {dV : Value}

/-- a row's graph -/
abbrev rowG (par : Bs → List Bs) (tm : Bs → Int) (U : List Bs) (r : Bs × List Bs) : Gr := ⟨par, tm, 0, U, r.1, r.2⟩
def RowOk (B : Store) (v : Value) (r : Bs × List Bs) : Prop := ∃ l v1 vs2, v = .ref l ∧ KList B l (v1 :: vs2) ∧ BytV r.1 v1 ∧ BytL vs2 r.2 ∧ r.2 ≠ []
theorem RowOk.mono (le : Le B B') {v : Value} {r : Bs × List Bs} (h : RowOk B v r) : RowOk B' v r := let ⟨l, v1, vs2, a, b, c, d, e⟩ := h; ⟨l, v1, vs2, a, b.mono le, c, d, e⟩

set_option maxHeartbeats 4000000 in
theorem law17 {par : Bs → List Bs} {tm : Bs → Int} {cdB : Value} {ld lo : Addr} {dvs ovs : List Value} {due others : List Bs} {vf vm vu va : Value} {first : Bs} {Q : Flow → Shared → Prop} (R : Rm A 28) (I : EnvIs env lawSc Lf (lawCs m) cd) (hG : AllBare G)
    (HF : ∀ r ∈ [(first, others), (first, [bM]), (bM, [first]), (bA, [bU])], FC K C fInit fAdd fGet fIter fLcas fBase fFast mg mb w c P dV (rowG par tm U r) fp ft B)
    (FB : FnIs B fBase (fnPs sBase) (fnBd sBase) (fnSc sBase) [] .none cdB) (hpl : ∀ r ∈ [(first, others), (first, [bM]), (bM, [first]), (bA, [bU])], ∀ res, BaseOk (rowG par tm U r) res → res = due)
    (hcp : KCell B (m + 9) (.ref fp)) (hct : KCell B (m + 10) (.ref ft)) (hcf : KCell B (m + 4) vf) (hvf : BytV first vf) (hco : KCell B (m + 5) (.ref lo)) (hlo : KList B lo ovs) (ho : BytL ovs others) (hone : others ≠ []) (hoz : others.length ≤ 3)
    (hvm : BytV bM vm) (hcu : KCell B (m + 6) vu) (hvu : BytV bU vu) (hca : KCell B (m + 7) va) (hva : BytV bA va) (hld : KList B ld dvs) (hd : BytL dvs due)
    (S : SS B G os ((Lf, LawL u0 u1 u2 u3 u4 (some vm) u6 (some (.ref ld)) u8) :: (P, TabO (.ref c) B) :: L) s)
    (h : ∀ B' G' u8 s', Le B B' → AllBare G' → SS B' G' os ((Lf, LawL u0 u1 u2 u3 u4 (some vm) u6 (some (.ref ld)) u8) :: (P, TabO (.ref c) B') :: L) s' → Q .next s') :
    W (model thePrg w) A (exec (lawStmt 17) env) Q s := by
  have T := (HF _ (.head _)).T
  refine forW ?_
  refine eTuple ?_
  refine args_cons (he := rfl) ?_
  refine wpAny_BinOp ?_
  refine eList ?_
  refine args_cons (he := rfl) ?_
  refine nmKC I S (by decide +kernel) (by kernel_rfl) rfl hcf ?_
  refine args_nil ?_
  refine newList_ S (by simp) fun l0 s S => ?_
  refine nmKC I S (by decide +kernel) (by kernel_rfl) rfl hco ?_
  have hol := ho.1
  refine addL S (S.isList .head) (hlo.isList S) (by simp; omega) fun r1 s S => ?_
  obtain ⟨B1, o1, le1, ho1, hB1, S⟩ := S.freeze
  have S := S.drop
  refine args_cons (he := rfl) ?_
  refine eList ?_
  refine args_cons (he := rfl) ?_
  refine nmKC I S (by decide +kernel) (by kernel_rfl) rfl (hcf.mono le1) ?_
  refine args_cons (he := rfl) ?_
  walk_at "m name"
  refine args_nil ?_
  refine newList_ S (by simp) fun r2 s S => ?_
  obtain ⟨B2, o2, le2, ho2, hB2, S⟩ := S.freeze
  refine args_cons (he := rfl) ?_
  refine eList ?_
  refine args_cons (he := rfl) ?_
  walk_at "m name"
  refine args_cons (he := rfl) ?_
  refine nmKC I S (by decide +kernel) (by kernel_rfl) rfl (hcf.mono (le1.trans le2)) ?_
  refine args_nil ?_
  refine newList_ S (by simp) fun r3 s S => ?_
  obtain ⟨B3, o3, le3, ho3, hB3, S⟩ := S.freeze
  refine args_cons (he := rfl) ?_
  refine eList ?_
  refine args_cons (he := rfl) ?_
  refine nmKC I S (by decide +kernel) (by kernel_rfl) rfl (hca.mono ((le1.trans le2).trans le3)) ?_
  refine args_cons (he := rfl) ?_
  refine nmKC I S (by decide +kernel) (by kernel_rfl) rfl (hcu.mono ((le1.trans le2).trans le3)) ?_
  refine args_nil ?_
  refine newList_ S (by simp) fun r4 s S => ?_
  obtain ⟨B4, o4, le4, ho4, hB4, S⟩ := S.freeze
  refine args_nil ?_
  refine newTuple_ S (by simp) fun tu s S => ?_
  obtain ⟨B5, o5, le5, ho5, hB5, S⟩ := S.freeze
  have hKT : KTup B5 tu [.ref r1, .ref r2, .ref r3, .ref r4] := ⟨o5, hB5, ho5⟩
  have le15 : Le B1 B5 := ((le2.trans le3).trans le4).trans le5
  have le := le1.trans le15
  have hrows : Rel2 (RowOk B5) [.ref r1, .ref r2, .ref r3, .ref r4] [(first, others), (first, [bM]), (bM, [first]), (bA, [bU])] := by
    refine Rel2.cons ⟨r1, vf, ovs, rfl, ⟨o1, le15 _ _ hB1, ho1⟩, hvf, ho, hone⟩ (Rel2.cons ⟨r2, vf, [vm], rfl, ⟨o2, ((le3.trans le4).trans le5) _ _ hB2, ho2⟩, hvf, Rel2.cons hvm .nil, by simp⟩ (Rel2.cons ⟨r3, vm, [vf], rfl, ⟨o3, (le4.trans le5) _ _ hB3, ho3⟩, hvm, Rel2.cons hvf .nil, by simp⟩
      (Rel2.cons ⟨r4, va, [vu], rfl, ⟨o4, le5 _ _ hB4, ho4⟩, hva, Rel2.cons hvu .nil, by simp⟩ .nil)))
  generalize hrs : [(first, others), (first, [bM]), (bM, [first]), (bA, [bU])] = rows at HF hpl hrows
  generalize hvrs : [Value.ref r1, .ref r2, .ref r3, .ref r4] = rvs at hKT hrows
  have hrl : rvs.length = rows.length := hrows.1
  refine iterT S hKT fun it s S => ?_
  intro Rr hR
  have S := (S.front (a := P) (e := by walk_at "m sel")).weak (P' := TabO (.ref c) B5) fun o h => TabO.mono h le
  have S := S.front (a := Lf) (e := by walk_at "m sel")
  have S := S.front (a := it) (e := by walk_at "m sel")
  refine loopW (fun j s => ∃ B' G' i u8, j + i = rows.length ∧ Le B5 B' ∧ AllBare G' ∧
      SS B' G' os ((it, TIterO tu i) :: (Lf, LawL u0 u1 u2 u3 u4 (some vm) u6 (some (.ref ld)) u8) :: (P, TabO (.ref c) B') :: L) s) ?_ rows.length
    ⟨B5, G, 0, u8, rfl, .refl _, hG, S⟩
  clear S
  rintro j s ⟨B6, G6, i, u8, hj, le6, hG6, S⟩
  have le56 := le.trans le6
  refine nextT R.h S (hKT.mono le6) (fun v s hv S => ?_) fun s hz S => ?_
  · dsimp only
    have hi : i < rows.length := by have := (List.getElem?_eq_some_iff.mp hv).1; omega
    obtain ⟨lr, v1, vs2, rfl, hlr, hv1, hb2, hne⟩ := hrows.2 i v _ hv (List.getElem?_eq_getElem hi)
    have hri : rows[i] ∈ rows := List.getElem_mem hi
    have H6 := (HF _ hri).mono le56
    have T := H6.T
    refine letGoT S .head ?_
    refine PyProof.Rows.assign_Name ?_
    walk_at "m store"
    intro s S
    refine wpAny_execs_cons ?_
    refine wpAny_If ?_
    refine wpAny_isTrue_Compare1 ?_
    refine PyProof.Rows.Call_ ?_
    walk_at "m name"
    have FB6 := FB.mono le56
    refine callWith_F (FB6.at S) ?_ (he := rfl) (hplain := rfl)
    refine args_cons (he := rfl) ?_
    refine nmKC I S (by decide +kernel) (by kernel_rfl) rfl (hcp.mono le56) ?_
    refine args_cons (he := rfl) ?_
    refine nmKC I S (by decide +kernel) (by kernel_rfl) rfl (hct.mono le56) ?_
    refine args_cons (he := rfl) ?_
    refine wpAny_Constant_none ?_
    refine args_cons (he := rfl) ?_
    walk_at "m name"
    refine args_nil ?_
    have S := S.front (a := P) (e := by walk_at "m sel")
    refine ⟨FB6.at S, ?_⟩
    refine W.up (base_spec H6 FB6 (R.less (by omega)) hG6 rfl (hlr.mono le6) hv1 hb2 hne S fun B7 G7 s a vs res le7 hG7 S hbr hok => ?_)
    have hres := hpl _ hri res hok
    subst hres
    walk_at "m name"
    refine neLists (R.less (by omega)) S (S.isList .head) ((hld.mono (le56.trans le7)).isList S) hbr hd ?_
    refine wpAny_truthy_bool ?_
    rw [decide_eq_false (by simp)]
    refine wpAny_execs_nil ?_
    refine wpAny_execs_nil ?_
    have S := S.drop
    have S := S.front (a := Lf) (e := by walk_at "m sel")
    have S := S.front (a := it) (e := by walk_at "m sel")
    exact ⟨j - 1, by omega, B7, G7, i + 1, _, by omega, le6.trans le7, hG7, S⟩
  · refine wpAny_execs_nil ?_
    exact hR _ _ (h B6 G6 u8 s le56 hG6 S)
end
end Mine

end
section
open PySem PySem.W PySem.Calls PySem.SeqAt PyProof.Rows Builtin
set_option Elab.async false
set_option maxRecDepth 100000
set_option linter.unusedVariables false
namespace Mine
local macro_rules | `(tactic| walk_at "m sel") => `(tactic| first | with_reducible apply Sel.head | (apply Sel.tail; walk_at "m sel"))
local macro_rules | `(tactic| walk_at "m lget") => `(tactic| first | with_reducible apply LGet.head | (apply LGet.tail; walk_at "m lget"))
local macro_rules | `(tactic| walk_at "m lset") => `(tactic| first | with_reducible apply LSet.head | (apply LSet.tail; walk_at "m lset"))
local macro_rules | `(tactic| walk_at "m mg") => `(tactic| first | exact Top0.gPush (by assumption) | exact Top0.gPop (by assumption) | exact Top0.gWL (by assumption) | exact Top0.gLcas (by assumption) | exact Top0.gBase (by assumption) | exact Top0.gFast (by assumption))
local macro_rules | `(tactic| walk_at "m name") => `(tactic| first
  | (refine' nmL (by assumption) (by assumption) ?hx ?hd ?he ?hg ?_; (case hx => kernel_rfl); (case hd => kernel_rfl); (case he => walk_at "m sel"); (case hg => walk_at "m lget"))
  | (refine' nmC (by assumption) (by assumption) ?hx ?hd ?hc ?he ?_; (case hx => decide +kernel); (case hd => kernel_rfl); (case hc => rfl); (case he => walk_at "m sel"))
  | (refine' nmF (by assumption) (by assumption) ?hx ?hd ?hd2 ?hc ?he ?_; (case hx => decide +kernel); (case hd => kernel_rfl); (case hd2 => kernel_rfl); (case hc => rfl); (case he => walk_at "m sel"))
  | (refine' nmG (by assumption) (by assumption) (Top0.glob (by assumption)) ?hx ?hd ?hv ?_; (case hx => kernel_rfl); (case hd => kernel_rfl); (case hv => walk_at "m mg")))
local macro_rules | `(tactic| walk_at "m store") => `(tactic| first
  | (refine' stL (by assumption) (by assumption) ?hx ?he ?hg ?_; (case hx => kernel_rfl); (case he => walk_at "m sel"); (case hg => walk_at "m lset"))
  | (refine' stC (by assumption) (by assumption) ?hx ?hc ?he ?_; (case hx => kernel_rfl); (case hc => rfl); (case he => walk_at "m sel")))
def ifCompOf : Stmt → Expr | .If (.Compare l _ _ _) _ _ _ => l | _ => default
section
variable {K : Frag} {C fInit fAdd fGet fIter fLcas fBase fFast : Addr} {mg mb : Str → Option Value} {B B' : Store}
variable {w : World} {A : Around} {E : Value → Shared → Prop} {G : Array GenState} {os : OsState} {L L' : Led} {s : Shared} {env : Env} {sc : Scope} {Lf m : Addr} {cl : List (Str × Addr)} {cd : Value} {n : Nat} {x q : Addr}
variable {u0 u1 u2 u3 u4 u5 u6 u7 u8 : Option Value} {k : Nat} {tk : Tok} {U : List Bs} {P c fp ft : Addr} {dV : Value}

/-- the graph of can_fast_forward -/
abbrev fastG (par : Bs → List Bs) (tm : Bs → Int) (U : List Bs) (c1 c2 : Bs) : Gr := ⟨par, tm, tm c1, U, c1, [c2]⟩

set_option maxHeartbeats 4000000 in
theorem law18 {par : Bs → List Bs} {tm : Bs → Int} {cdF : Value} {ld : Addr} {dvs : List Value} {due : List Bs} {vu va : Value} {Q : Flow → Shared → Prop} (R : Rm A 28) (I : EnvIs env lawSc Lf (lawCs m) cd) (hG : AllBare G) (hBT : ∃ g0, FC K C fInit fAdd fGet fIter fLcas fBase fFast mg mb w c P dV g0 fp ft B)
    (HF : ∀ a ∈ due, ∀ b ∈ [bU, bA], FC K C fInit fAdd fGet fIter fLcas fBase fFast mg mb w c P dV (fastG par tm U a b) fp ft B)
    (FF : FnIs B fFast (fnPs sFast) (fnBd sFast) (fnSc sFast) [] .none cdF) (hpl : ∀ a ∈ due, ∀ b ∈ [bU, bA], ∀ r, FastOk (fastG par tm U a b) b r → r = true)
    (hcp : KCell B (m + 9) (.ref fp)) (hct : KCell B (m + 10) (.ref ft))
    (hcu : KCell B (m + 6) vu) (hvu : BytV bU vu) (hca : KCell B (m + 7) va) (hva : BytV bA va) (hld : KList B ld dvs) (hd : BytL dvs due) (hdz : due.length ≤ 100)
    (S : SS B G os ((Lf, LawL u0 u1 u2 u3 u4 u5 u6 (some (.ref ld)) u8) :: (P, TabO (.ref c) B) :: L) s)
    (h : ∀ B' G' s', Le B B' → AllBare G' → SS B' G' os ((Lf, LawL u0 u1 u2 u3 u4 u5 u6 (some (.ref ld)) u8) :: (P, TabO (.ref c) B') :: L) s' → Q .next s') :
    W (model thePrg w) A (exec (lawStmt 18) env) Q s := by
  refine wpAny_If ?_
  refine wpAny_isTrue_Compare1 ?_
  refine lcompW (os := os) (clos := [("upon", m + 6), ("time_of", m + 10), ("parents_of", m + 9), ("ahead", m + 7)]) [".0", "one"] I rfl rfl (fun _ => rfl) (by kernel_rfl) (by kernel_rfl) (by kernel_rfl) (by kernel_rfl) (by kernel_rfl) ?_
  walk_at "m name"
  refine iter_list S (hld.isList S) fun it s S => ?_
  refine ⟨B, G, _, S, ?_⟩
  intro D Cc s S
  refine cstartL S (e := by walk_at "m sel") fun s S => ?_
  have S := S.front (a := P) (e := by walk_at "m sel")
  have S := S.front (a := D) (e := by walk_at "m sel")
  have S := S.front (a := Cc) (e := by walk_at "m sel")
  have S := S.front (a := it) (e := by walk_at "m sel")
  have I2 := compEnvIs (scope := lcSc (ifCompOf (lawStmt 18))) (C := Cc) (clos := [("upon", m + 6), ("time_of", m + 10), ("parents_of", m + 9), ("ahead", m + 7)]) I (by kernel_rfl)
  refine cloop1 (fun j s => ∃ B' G' i w0 w1, j + i = due.length ∧ Le B B' ∧ AllBare G' ∧
      SS B' G' os ((it, IterO ld i) :: (Cc, LocO [(".0", w0), ("one", w1)]) :: (D, ListO []) :: (P, TabO (.ref c) B') :: (Lf, LawL u0 u1 u2 u3 u4 u5 u6 (some (.ref ld)) u8) :: L) s) ?_ due.length
    ⟨B, G, 0, none, none, rfl, .refl _, hG, S⟩
  clear S
  rintro j s ⟨B1, G1, i, w0, w1, hj, le1, hG1, S⟩
  have hvl : dvs.length = due.length := hd.1
  refine nextL R S ((hld.mono le1).isList S) ?_ ?_
  · intro v s hv hlt S
    have hi : i < due.length := by omega
    have hp : BytV due[i] v := hd.2 i v _ hv (List.getElem?_eq_getElem hi)
    have hmem : due[i] ∈ due := List.getElem_mem hi
    have HU := (HF _ hmem bU (.head _)).mono le1
    have HA := (HF _ hmem bA (.tail _ (.head _)))
    have T := HU.T
    have F1 := FF.mono le1
    dsimp only
    refine letGoI S .head ?_
    refine PyProof.Rows.assign_Name ?_
    refine stL I2 S (by kernel_rfl) (.tail .head) (.tail .head) fun s S => ?_
    refine wpAny_tests_one ?_
    refine isTrue_or ?_
    refine isTrue_not ?_
    refine isTrue_plain (he := rfl) ?_
    refine PyProof.Rows.Call_ ?_
    walk_at "m name"
    refine callWith_F (F1.at S) ?_ (he := rfl) (hplain := rfl)
    refine args_cons (he := rfl) ?_
    refine nmKC I2 S (by decide +kernel) (by kernel_rfl) rfl (hcp.mono le1) ?_
    refine args_cons (he := rfl) ?_
    refine nmKC I2 S (by decide +kernel) (by kernel_rfl) rfl (hct.mono le1) ?_
    refine args_cons (he := rfl) ?_
    refine wpAny_Constant_none ?_
    refine args_cons (he := rfl) ?_
    refine nmL I2 S (by kernel_rfl) (by kernel_rfl) .head (.tail .head) ?_
    refine args_cons (he := rfl) ?_
    refine nmKC I2 S (by decide +kernel) (by kernel_rfl) rfl (hcu.mono le1) ?_
    refine args_nil ?_
    refine ⟨F1.at S, ?_⟩
    have S := S.front (a := P) (e := by walk_at "m sel")
    refine W.up (fast_spec HU F1 (R.less (by omega)) hG1 rfl rfl hp hvu S fun B2 G2 s b le2 hG2 S hok => ?_)
    have hb := hpl _ hmem bU (.head _) b hok
    subst hb
    have le12 := le1.trans le2
    have HA2 := HA.mono le12
    have T := HA2.T
    have F2 := FF.mono le12
    refine wpAny_truthy_bool ?_
    simp only [Bool.not_true, Bool.false_eq_true, if_false]
    refine isTrue_or ?_
    refine isTrue_not ?_
    refine isTrue_plain (he := rfl) ?_
    refine PyProof.Rows.Call_ ?_
    walk_at "m name"
    refine callWith_F (F2.at S) ?_ (he := rfl) (hplain := rfl)
    refine args_cons (he := rfl) ?_
    refine nmKC I2 S (by decide +kernel) (by kernel_rfl) rfl (hcp.mono le12) ?_
    refine args_cons (he := rfl) ?_
    refine nmKC I2 S (by decide +kernel) (by kernel_rfl) rfl (hct.mono le12) ?_
    refine args_cons (he := rfl) ?_
    refine wpAny_Constant_none ?_
    refine args_cons (he := rfl) ?_
    refine nmL I2 S (by kernel_rfl) (by kernel_rfl) (.tail .head) (.tail .head) ?_
    refine args_cons (he := rfl) ?_
    refine nmKC I2 S (by decide +kernel) (by kernel_rfl) rfl (hca.mono le12) ?_
    refine args_nil ?_
    refine ⟨F2.at S, ?_⟩
    refine W.up (fast_spec HA2 F2 (R.less (by omega)) hG2 rfl rfl hp hva S fun B3 G3 s b le3 hG3 S hok => ?_)
    have hb := hpl _ hmem bA (.tail _ (.head _)) b hok
    subst hb
    refine wpAny_truthy_bool ?_
    simp only [Bool.not_true, Bool.false_eq_true, if_false]
    refine isTrue_or_nil ?_
    have S := S.front (a := D) (e := by walk_at "m sel")
    have S := S.front (a := Cc) (e := by walk_at "m sel")
    have S := S.front (a := it) (e := by walk_at "m sel")
    exact ⟨j - 1, by omega, B3, G3, i + 1, _, _, by omega, le12.trans le3, hG3, S⟩
  · intro s hlt S'
    refine ⟨B1, G1, _, _, S', fun s S => ?_⟩
    refine eList ?_
    refine args_nil ?_
    refine newList_ S (by simp) fun D3 s S => ?_
    refine neLists (R.less (by omega)) S (S.isList (a := D) (by walk_at "m sel")) (S.isList .head) (as := []) .nil .nil ?_
    refine wpAny_truthy_bool ?_
    rw [decide_eq_false (by simp)]
    refine wpAny_execs_nil ?_
    have S := S.drop
    have S := S.drop
    exact h B1 G1 s le1 hG1 (S.front (e := .tail .head))
end
end Mine

end
section
open PySem PySem.W PySem.Calls PySem.SeqAt PyProof.Rows Builtin
set_option Elab.async false
set_option maxRecDepth 100000
set_option linter.unusedVariables false
namespace Mine
local macro_rules | `(tactic| walk_at "m sel") => `(tactic| first | with_reducible apply Sel.head | (apply Sel.tail; walk_at "m sel"))
local macro_rules | `(tactic| walk_at "m lget") => `(tactic| first | with_reducible apply LGet.head | (apply LGet.tail; walk_at "m lget"))
local macro_rules | `(tactic| walk_at "m lset") => `(tactic| first | with_reducible apply LSet.head | (apply LSet.tail; walk_at "m lset"))
local macro_rules | `(tactic| walk_at "m mg") => `(tactic| first | exact Top0.gPush (by assumption) | exact Top0.gPop (by assumption) | exact Top0.gWL (by assumption) | exact Top0.gLcas (by assumption) | exact Top0.gBase (by assumption) | exact Top0.gFast (by assumption))
local macro_rules | `(tactic| walk_at "m name") => `(tactic| first
  | (refine' nmL (by assumption) (by assumption) ?hx ?hd ?he ?hg ?_; (case hx => kernel_rfl); (case hd => kernel_rfl); (case he => walk_at "m sel"); (case hg => walk_at "m lget"))
  | (refine' nmC (by assumption) (by assumption) ?hx ?hd ?hc ?he ?_; (case hx => decide +kernel); (case hd => kernel_rfl); (case hc => rfl); (case he => walk_at "m sel"))
  | (refine' nmF (by assumption) (by assumption) ?hx ?hd ?hd2 ?hc ?he ?_; (case hx => decide +kernel); (case hd => kernel_rfl); (case hd2 => kernel_rfl); (case hc => rfl); (case he => walk_at "m sel"))
  | (refine' nmG (by assumption) (by assumption) (Top0.glob (by assumption)) ?hx ?hd ?hv ?_; (case hx => kernel_rfl); (case hd => kernel_rfl); (case hv => walk_at "m mg")))
local macro_rules | `(tactic| walk_at "m store") => `(tactic| first
  | (refine' stL (by assumption) (by assumption) ?hx ?he ?hg ?_; (case hx => kernel_rfl); (case he => walk_at "m sel"); (case hg => walk_at "m lset"))
  | (refine' stC (by assumption) (by assumption) ?hx ?hc ?he ?_; (case hx => kernel_rfl); (case hc => rfl); (case he => walk_at "m sel")))
section
variable {K : Frag} {C fInit fAdd fGet fIter fLcas fBase fFast : Addr} {mg mb : Str → Option Value} {B B' : Store}
variable {w : World} {A : Around} {E : Value → Shared → Prop} {G : Array GenState} {os : OsState} {L L' : Led} {s : Shared} {env : Env} {sc : Scope} {Lf m : Addr} {cl : List (Str × Addr)} {cd : Value} {n : Nat} {x q : Addr}
variable {u0 u1 u2 u3 u4 u5 u6 u7 u8 : Option Value} {k : Nat} {tk : Tok} {U : List Bs} {P c fp ft : Addr} {dV : Value}

set_option maxHeartbeats 4000000 in
theorem law19 {par : Bs → List Bs} {tm : Bs → Int} {cdF : Value} {ld : Addr} {dvs : List Value} {due : List Bs} {first : Bs} {vf vu : Value} {Q : Flow → Shared → Prop} (R : Rm A 28) (I : EnvIs env lawSc Lf (lawCs m) cd) (hG : AllBare G)
    (HF : FC K C fInit fAdd fGet fIter fLcas fBase fFast mg mb w c P dV (fastG par tm U first bU) fp ft B)
    (FF : FnIs B fFast (fnPs sFast) (fnBd sFast) (fnSc sFast) [] .none cdF) (hpl : ∀ r, FastOk (fastG par tm U first bU) bU r → r = decide (due = [first]))
    (hcp : KCell B (m + 9) (.ref fp)) (hct : KCell B (m + 10) (.ref ft))
    (hcu : KCell B (m + 6) vu) (hvu : BytV bU vu) (hcf : KCell B (m + 4) vf) (hvf : BytV first vf) (hld : KList B ld dvs) (hd : BytL dvs due)
    (S : SS B G os ((Lf, LawL u0 u1 u2 u3 u4 u5 u6 (some (.ref ld)) u8) :: (P, TabO (.ref c) B) :: L) s)
    (h : ∀ B' G' s', Le B B' → AllBare G' → SS B' G' os ((Lf, LawL u0 u1 u2 u3 u4 u5 u6 (some (.ref ld)) u8) :: (P, TabO (.ref c) B') :: L) s' → Q .next s') :
    W (model thePrg w) A (exec (lawStmt 19) env) Q s := by
  have T := HF.T
  refine wpAny_If ?_
  refine wpAny_isTrue_Compare1 ?_
  refine PyProof.Rows.Call_ ?_
  walk_at "m name"
  refine callWith_F (FF.at S) ?_ (he := rfl) (hplain := rfl)
  refine args_cons (he := rfl) ?_
  refine nmKC I S (by decide +kernel) (by kernel_rfl) rfl hcp ?_
  refine args_cons (he := rfl) ?_
  refine nmKC I S (by decide +kernel) (by kernel_rfl) rfl hct ?_
  refine args_cons (he := rfl) ?_
  refine wpAny_Constant_none ?_
  refine args_cons (he := rfl) ?_
  refine nmKC I S (by decide +kernel) (by kernel_rfl) rfl hcf ?_
  refine args_cons (he := rfl) ?_
  refine nmKC I S (by decide +kernel) (by kernel_rfl) rfl hcu ?_
  refine args_nil ?_
  refine ⟨FF.at S, ?_⟩
  have S := S.front (a := P) (e := by walk_at "m sel")
  refine W.up (fast_spec HF FF (R.less (by omega)) hG rfl rfl hvf hvu S fun B1 G1 s b le1 hG1 S hok => ?_)
  have hb := hpl b hok
  subst hb
  refine wpAny_Compare1 ?_
  walk_at "m name"
  refine eList ?_
  refine args_cons (he := rfl) ?_
  refine nmKC I S (by decide +kernel) (by kernel_rfl) rfl (hcf.mono le1) ?_
  refine args_nil ?_
  refine newList_ S (by simp) fun D s S => ?_
  refine eqLists (R.less (by omega)) S ((hld.mono le1).isList S) (S.isList .head) hd (Rel2.cons hvf .nil) ?_
  refine PyProof.Rows.ne_bool ?_
  refine wpAny_truthy_bool ?_
  rw [bne_self_eq_false]
  refine wpAny_execs_nil ?_
  have S := S.drop
  exact h B1 G1 s le1 hG1 (S.front (e := .tail .head))

set_option maxHeartbeats 4000000 in
theorem law20 {par : Bs → List Bs} {tm : Bs → Int} {cdF : Value} {vu va : Value} {Q : Flow → Shared → Prop} (R : Rm A 28) (I : EnvIs env lawSc Lf (lawCs m) cd) (hG : AllBare G)
    (HF : FC K C fInit fAdd fGet fIter fLcas fBase fFast mg mb w c P dV (fastG par tm U bA bU) fp ft B)
    (FF : FnIs B fFast (fnPs sFast) (fnBd sFast) (fnSc sFast) [] .none cdF) (hpl : ∀ r, FastOk (fastG par tm U bA bU) bU r → r = false)
    (hcp : KCell B (m + 9) (.ref fp)) (hct : KCell B (m + 10) (.ref ft))
    (hcu : KCell B (m + 6) vu) (hvu : BytV bU vu) (hca : KCell B (m + 7) va) (hva : BytV bA va)
    (S : SS B G os ((P, TabO (.ref c) B) :: L) s)
    (h : ∀ B' G' s', Le B B' → AllBare G' → SS B' G' os ((P, TabO (.ref c) B') :: L) s' → Q (.ret (.bool true)) s') :
    W (model thePrg w) A (exec (lawStmt 20) env) Q s := by
  have T := HF.T
  refine wpAny_Return_some ?_
  refine UnaryOp_ ?_
  refine PyProof.Rows.Call_ ?_
  walk_at "m name"
  refine callWith_F (FF.at S) ?_ (he := rfl) (hplain := rfl)
  refine args_cons (he := rfl) ?_
  refine nmKC I S (by decide +kernel) (by kernel_rfl) rfl hcp ?_
  refine args_cons (he := rfl) ?_
  refine nmKC I S (by decide +kernel) (by kernel_rfl) rfl hct ?_
  refine args_cons (he := rfl) ?_
  refine wpAny_Constant_none ?_
  refine args_cons (he := rfl) ?_
  refine nmKC I S (by decide +kernel) (by kernel_rfl) rfl hca ?_
  refine args_cons (he := rfl) ?_
  refine nmKC I S (by decide +kernel) (by kernel_rfl) rfl hcu ?_
  refine args_nil ?_
  refine ⟨FF.at S, ?_⟩
  refine W.up (fast_spec HF FF (R.less (by omega)) hG rfl rfl hva hvu S fun B1 G1 s b le1 hG1 S hok => ?_)
  have hb := hpl b hok
  subst hb
  refine wpAny_bind (wpAny_truthy_bool ?_)
  exact wpAny_pure (h B1 G1 s le1 hG1 S)
end
end Mine

end
section
open PySem PySem.W PySem.Calls PySem.SeqAt PyProof.Rows Builtin
set_option Elab.async false
set_option maxRecDepth 100000
set_option linter.unusedVariables false
namespace Mine

/-! the plain law -/
structure Pl (names : List Bs) (par0 : Bs → List Bs) (tm0 : Bs → Int) (kin : Bs → (Bs → Bool) × Nat) (first : Bs) (others mvs : List Bs) (NM : Int) : Prop where
  dag : Dag names names.length par0 tm0 kin
  nd : names.Nodup
  one : ∀ x ∈ names, x.length = 1
  hf : first ∈ names
  ho : ∀ x ∈ others, x ∈ names
  hm : ∀ b, b ∈ mvs ↔ b ∈ others
  hN : ∀ p ∈ names, tm0 p < NM
def parF (par0 : Bs → List Bs) (first : Bs) (mvs : List Bs) : Bs → List Bs := fun x => if x = bA then [first] else if x = bU then [bM] else if x = bM then mvs else par0 x
def tmF (tm0 : Bs → Int) (first : Bs) (NM : Int) : Bs → Int := fun x => if x = bA then tm0 first + 1 else if x = bU then NM + 1 else if x = bM then NM else tm0 x
abbrev allU (names : List Bs) : List Bs := names ++ [bM, bU, bA]
def jL (names : List Bs) (kin : Bs → (Bs → Bool) × Nat) (first : Bs) (others : List Bs) : List Bs := names.filter fun x => (kin first).1 x && decide ((others.filter fun o => (kin o).1 x) ≠ [])
def gL (js : List Bs) (kin : Bs → (Bs → Bool) × Nat) : List Bs := js.filter fun x => decide ((js.filter fun o => decide (o ≠ x) && (kin o).1 x) = [])

theorem sorted_eq : ∀ {l l' : List Key}, l.Pairwise (fun x y => kLt x y = true) → l'.Pairwise (fun x y => kLt x y = true) → (∀ k, k ∈ l ↔ k ∈ l') → l = l' := by
  intro l
  induction l with
  | nil =>
    intro l' _ _ h
    cases l' with
    | nil => rfl
    | cons a r => exact absurd ((h a).mpr (.head _)) (by simp)
  | cons a r ih =>
    intro l' h1 h2 h
    cases l' with
    | nil => exact absurd ((h a).mp (.head _)) (by simp)
    | cons b r' =>
      obtain ⟨a1, a2⟩ := List.pairwise_cons.mp h1
      obtain ⟨b1, b2⟩ := List.pairwise_cons.mp h2
      have irr : ∀ k : Key, kLt k k = true → False := fun k hk => by
        rcases (kLt_iff k k).mp hk with h | ⟨_, h⟩
        · omega
        · rw [bLt_irrefl] at h; cases h
      have e : a = b := by
        rcases List.mem_cons.mp ((h a).mp (.head _)) with e | e
        · exact e
        · rcases List.mem_cons.mp ((h b).mpr (.head _)) with e' | e'
          · exact e'.symm
          · exact (irr a (kLt_trans (a1 b e') (b1 a e))).elim
      subst e
      rw [ih a2 b2 fun k => ?_]
      constructor
      · intro hk
        rcases List.mem_cons.mp ((h k).mp (.tail _ hk)) with e | e
        · subst e; exact (irr _ (a1 _ hk)).elim
        · exact e
      · intro hk
        rcases List.mem_cons.mp ((h k).mpr (.tail _ hk)) with e | e
        · subst e; exact (irr _ (b1 _ hk)).elim
        · exact e

section
variable {names : List Bs} {par0 : Bs → List Bs} {tm0 : Bs → Int} {kin : Bs → (Bs → Bool) × Nat} {first : Bs} {others mvs : List Bs} {NM : Int}
theorem Pl.neM (p : Pl names par0 tm0 kin first others mvs NM) {x : Bs} (h : x ∈ names) : x ≠ bM ∧ x ≠ bU ∧ x ≠ bA := by
  have := p.one x h
  refine ⟨?_, ?_, ?_⟩ <;> (rintro rfl; simp at this)
theorem Pl.parN (p : Pl names par0 tm0 kin first others mvs NM) {x : Bs} (h : x ∈ names) : parF par0 first mvs x = par0 x ∧ tmF tm0 first NM x = tm0 x := by
  obtain ⟨h1, h2, h3⟩ := p.neM h
  unfold parF tmF; simp [h1, h2, h3]
theorem parM : parF par0 first mvs bM = mvs := rfl
theorem tmM : tmF tm0 first NM bM = NM := rfl
theorem parU : parF par0 first mvs bU = [bM] := rfl
theorem tmU : tmF tm0 first NM bU = NM + 1 := rfl
theorem parA : parF par0 first mvs bA = [first] := rfl
theorem tmA : tmF tm0 first NM bA = tm0 first + 1 := rfl
theorem Pl.upN (p : Pl names par0 tm0 kin first others mvs NM) {x : Bs} (h : x ∈ names) : 1 ≤ tm0 x ∧ ∀ q ∈ par0 x, q ∈ names ∧ tm0 q < tm0 x := by
  obtain ⟨i, hi, rfl⟩ := List.mem_iff_getElem.mp h
  have hx := List.getElem?_eq_getElem hi
  refine ⟨(p.dag.hlt i _ hi hx).1, fun q hq => ?_⟩
  obtain ⟨j, _, hj⟩ := p.dag.hpar i _ hi hx q hq
  exact ⟨List.mem_of_getElem? hj, (p.dag.hlt i _ hi hx).2 q hq⟩
theorem Pl.up (p : Pl names par0 tm0 kin first others mvs NM) {x : Bs} (h : x ∈ allU names) : 1 ≤ tmF tm0 first NM x ∧ ∀ q ∈ parF par0 first mvs x, q ∈ allU names ∧ tmF tm0 first NM q < tmF tm0 first NM x := by
  have hNf := p.hN first p.hf
  have h1f := (p.upN p.hf).1
  rcases List.mem_append.mp h with h | h
  · obtain ⟨e1, e2⟩ := p.parN h
    rw [e1, e2]
    refine ⟨(p.upN h).1, fun q hq => ?_⟩
    obtain ⟨hq1, hq2⟩ := (p.upN h).2 q hq
    exact ⟨List.mem_append_left _ hq1, by rw [(p.parN hq1).2]; exact hq2⟩
  · simp only [List.mem_cons, List.not_mem_nil, or_false] at h
    rcases h with rfl | rfl | rfl
    · refine ⟨by rw [tmM]; omega, fun q hq => ?_⟩
      have hq' := p.ho q ((p.hm q).mp hq)
      exact ⟨List.mem_append_left _ hq', by rw [(p.parN hq').2, tmM]; exact p.hN q hq'⟩
    · refine ⟨by rw [tmU]; omega, fun q hq => ?_⟩
      rw [parU] at hq; simp only [List.mem_singleton] at hq; subst hq
      exact ⟨by simp, by rw [tmU, tmM]; omega⟩
    · refine ⟨by rw [tmA]; omega, fun q hq => ?_⟩
      rw [parA] at hq; simp only [List.mem_singleton] at hq; subst hq
      exact ⟨List.mem_append_left _ p.hf, by rw [(p.parN p.hf).2, tmA]; omega⟩
theorem Pl.ancN (p : Pl names par0 tm0 kin first others mvs NM) {x y : Bs} (h : x ∈ names) : Anc (parF par0 first mvs) x y ↔ (kin x).1 y = true := by
  obtain ⟨i, hi, rfl⟩ := List.mem_iff_getElem.mp h
  rw [p.dag.hkin i _ hi (List.getElem?_eq_getElem hi)]
  exact Anc.congr (D := fun x => x ∈ names) (fun x hx q hq => ((p.upN hx).2 q hq).1) (fun x hx => (p.parN hx).1) (List.getElem_mem hi)
theorem Pl.ancIn (p : Pl names par0 tm0 kin first others mvs NM) {x y : Bs} (h : x ∈ names) (k : Anc (parF par0 first mvs) x y) : y ∈ names := by
  induction k with
  | refl => exact h
  | step hp _ ih =>
    rw [(p.parN h).1] at hp
    exact ih ((p.upN h).2 _ hp).1
theorem Pl.ancLe (p : Pl names par0 tm0 kin first others mvs NM) {x y : Bs} (h : x ∈ allU names) (k : Anc (parF par0 first mvs) x y) : y ∈ allU names ∧ (x = y ∨ tmF tm0 first NM y < tmF tm0 first NM x) := by
  induction k with
  | refl => exact ⟨h, .inl rfl⟩
  | step hp _ ih =>
    obtain ⟨h1, h2⟩ := (p.up h).2 _ hp
    obtain ⟨h3, h4⟩ := ih h1
    refine ⟨h3, .inr ?_⟩
    rcases h4 with e | e
    · rw [← e]; exact h2
    · omega
theorem Pl.ok (p : Pl names par0 tm0 kin first others mvs NM) {mn : Int} {c1 : Bs} {c2s : List Bs} (h1 : c1 ∈ allU names) (h2 : ∀ c ∈ c2s, c ∈ allU names) : Gr.Ok ⟨parF par0 first mvs, tmF tm0 first NM, mn, allU names, c1, c2s⟩ :=
  ⟨fun x hx => (p.up hx).2, h1, h2⟩
theorem Pl.ancM (p : Pl names par0 tm0 kin first others mvs NM) {y : Bs} : Anc (parF par0 first mvs) bM y ↔ y = bM ∨ ∃ o ∈ others, Anc (parF par0 first mvs) o y := by
  rw [Anc.iff, parM]
  refine or_congr Iff.rfl (exists_congr fun o => and_congr (p.hm o) Iff.rfl)
theorem Pl.ancU (p : Pl names par0 tm0 kin first others mvs NM) {y : Bs} : Anc (parF par0 first mvs) bU y ↔ y = bU ∨ y = bM ∨ ∃ o ∈ others, Anc (parF par0 first mvs) o y := by
  rw [Anc.iff, parU]
  simp only [List.mem_singleton, exists_eq_left, p.ancM]
theorem Pl.ancA (p : Pl names par0 tm0 kin first others mvs NM) {y : Bs} : Anc (parF par0 first mvs) bA y ↔ y = bA ∨ Anc (parF par0 first mvs) first y := by
  rw [Anc.iff, parA]
  simp only [List.mem_singleton, exists_eq_left]
theorem Pl.mn0 (p : Pl names par0 tm0 kin first others mvs NM) {c1 x y : Bs} {c2s : List Bs} (hx : x ∈ allU names) : Anc (Gr.P ⟨parF par0 first mvs, tmF tm0 first NM, 0, allU names, c1, c2s⟩) x y ↔ Anc (parF par0 first mvs) x y := by
  refine Anc.congr (D := fun x => x ∈ allU names) (fun x hx q hq => ((p.up hx).2 q hq).1) (fun x hx => ?_) hx
  refine List.filter_eq_self.mpr fun q hq => ?_
  have := (p.up ((p.up hx).2 q hq).1).1
  simp; omega
theorem Pl.jMem (p : Pl names par0 tm0 kin first others mvs NM) {x : Bs} : x ∈ jL names kin first others ↔ Anc (parF par0 first mvs) first x ∧ ∃ o ∈ others, Anc (parF par0 first mvs) o x := by
  unfold jL
  rw [List.mem_filter, Bool.and_eq_true, decide_eq_true_iff, ← p.ancN p.hf]
  have e : ((others.filter fun o => (kin o).1 x) ≠ []) ↔ ∃ o ∈ others, Anc (parF par0 first mvs) o x := by
    rw [← List.length_pos_iff, List.length_pos_iff_exists_mem]
    simp only [List.mem_filter]
    exact exists_congr fun o => and_congr_right fun ho => (p.ancN (p.ho o ho)).symm
  rw [e]
  exact ⟨fun h => h.2, fun h => ⟨p.ancIn p.hf h.1, h⟩⟩
theorem Pl.gMem (p : Pl names par0 tm0 kin first others mvs NM) {x : Bs} : x ∈ gL (jL names kin first others) kin ↔ x ∈ jL names kin first others ∧ ∀ o ∈ jL names kin first others, o ≠ x → ¬ Anc (parF par0 first mvs) o x := by
  unfold gL
  rw [List.mem_filter, decide_eq_true_iff, List.filter_eq_nil_iff]
  refine and_congr_right fun _ => forall_congr' fun o => forall_congr' fun ho => ?_
  rw [p.ancN (p.ancIn p.hf (p.jMem.mp ho).1)]
  simp

theorem Anc.less {P P' : Bs → List Bs} (h : ∀ x q, q ∈ P x → q ∈ P' x) {x y : Bs} (k : Anc P x y) : Anc P' x y := by
  induction k with
  | refl => exact .refl _
  | step hp _ ih => exact .step (h _ _ hp) ih
theorem Anc.more {P P' : Bs → List Bs} {D : Bs → Prop} {y : Bs} (h : ∀ x q, D x → q ∈ P x → Anc P q y → D q ∧ q ∈ P' x) {x : Bs} (k : Anc P x y) (hx : D x) : Anc P' x y := by
  induction k with
  | refl => exact .refl _
  | step hp ha ih =>
    obtain ⟨h1, h2⟩ := h _ _ hx hp ha
    exact .step h2 (ih h h1)
/-- what the law calls due -/
structure Due (names : List Bs) (tm0 : Bs → Int) (kin : Bs → (Bs → Bool) × Nat) (first : Bs) (others : List Bs) (due : List Bs) : Prop where
  ex : ∃ ks : List Key, due = ks.map (·.2) ∧ ks.Perm ((gL (jL names kin first others) kin).map fun b => (tm0 b, b)) ∧ ks.Pairwise kLe
variable {due : List Bs}
theorem Pl.gNames (p : Pl names par0 tm0 kin first others mvs NM) {x : Bs} (h : x ∈ gL (jL names kin first others) kin) : x ∈ names := p.ancIn p.hf (p.jMem.mp (p.gMem.mp h).1).1
theorem Pl.dueKeys (p : Pl names par0 tm0 kin first others mvs NM) (d : Due names tm0 kin first others due) : ∃ ks : List Key, due = ks.map (·.2) ∧ ks.Pairwise (fun x y => kLt x y = true) ∧ ∀ k, k ∈ ks ↔ k.2 ∈ gL (jL names kin first others) kin ∧ k.1 = tm0 k.2 := by
  obtain ⟨ks, e, hp, hs⟩ := d.ex
  have hnd : (gL (jL names kin first others) kin).Nodup := (p.nd.filter _).filter _
  have hndk : ((gL (jL names kin first others) kin).map fun b => (tm0 b, b)).Nodup := by
    rw [List.nodup_iff_pairwise_ne] at hnd ⊢
    rw [List.pairwise_map]
    exact hnd.imp fun h e => h (Prod.mk.inj e).2
  have hn : ks.Nodup := hp.nodup_iff.mpr hndk
  refine ⟨ks, e, ?_, fun k => ?_⟩
  · rw [List.nodup_iff_pairwise_ne] at hn
    refine List.Pairwise.imp₂ (fun {x y} h1 h2 => ?_) hs hn
    exact kLt_total (Ne.symm h2) h1
  · rw [hp.mem_iff, List.mem_map]
    constructor
    · rintro ⟨b, hb, rfl⟩; exact ⟨hb, rfl⟩
    · rintro ⟨hb, e⟩; exact ⟨k.2, hb, Prod.ext e.symm rfl⟩
theorem Pl.res (p : Pl names par0 tm0 kin first others mvs NM) (d : Due names tm0 kin first others due) {g : Gr} {res : List Bs} (hg : ∀ x, g.Great x ↔ x ∈ gL (jL names kin first others) kin) (ht : g.tm = tmF tm0 first NM) (h : ResOk g res) : res = due := by
  obtain ⟨ks, e, h1, h2⟩ := p.dueKeys d
  obtain ⟨ks', e', h3, h4, h5⟩ := h
  have : ks' = ks := sorted_eq h4 h1 fun k => by
    rw [h2, ← hg, ← h5, e', List.mem_map]
    constructor
    · intro hk
      refine ⟨⟨k, hk, rfl⟩, ?_⟩
      have hx : k.2 ∈ names := p.gNames ((hg _).mp ((h5 _).mp (by rw [e']; exact List.mem_map_of_mem hk)))
      rw [h3 k hk, ht, (p.parN hx).2]
    · rintro ⟨⟨k', hk', e2⟩, e1⟩
      have hx : k'.2 ∈ names := p.gNames ((hg _).mp ((h5 _).mp (by rw [e']; exact List.mem_map_of_mem hk')))
      have : k' = k := Prod.ext (by rw [h3 k' hk', ht, (p.parN hx).2, e1, e2]) e2
      rw [← this]; exact hk'
  rw [e, e', this]
theorem Pl.firstDue (p : Pl names par0 tm0 kin first others mvs NM) (d : Due names tm0 kin first others due) : due = [first] ↔ first ∈ jL names kin first others := by
  obtain ⟨ks, e, h1, h2⟩ := p.dueKeys d
  have hf := List.mem_append_left [bM, bU, bA] p.hf
  constructor
  · intro h
    have : first ∈ ks.map (·.2) := by rw [← e, h]; simp
    obtain ⟨k, hk, e2⟩ := List.mem_map.mp this
    have h3 := (p.gMem.mp ((h2 k).mp hk).1).1
    rwa [e2] at h3
  · intro h
    have hg : ∀ x, x ∈ gL (jL names kin first others) kin ↔ x = first := fun x => by
      rw [p.gMem]
      constructor
      · rintro ⟨hx, hmax⟩
        by_cases e : first = x
        · exact e.symm
        · exact absurd (p.jMem.mp hx).1 (hmax first h e)
      · rintro rfl
        refine ⟨h, fun o ho hne ha => ?_⟩
        have a1 := (p.jMem.mp ho).1
        have l1 := (p.ancLe hf a1)
        rcases l1.2 with e | e
        · exact hne e.symm
        · rcases (p.ancLe l1.1 ha).2 with e' | e'
          · exact hne e'
          · omega
    have : ks = [(tm0 first, first)] := sorted_eq h1 (by simp) fun k => by
      rw [h2, hg, List.mem_singleton]
      constructor
      · rintro ⟨a, b⟩; exact Prod.ext (by rw [b, a]) a
      · rintro rfl; exact ⟨rfl, rfl⟩
    rw [e, this]; rfl
theorem Pl.great (p : Pl names par0 tm0 kin first others mvs NM) {c1 : Bs} {c2s : List Bs} (hJ : ∀ x, Gr.J ⟨parF par0 first mvs, tmF tm0 first NM, 0, allU names, c1, c2s⟩ x ↔ x ∈ jL names kin first others) (x : Bs) :
    Gr.Great ⟨parF par0 first mvs, tmF tm0 first NM, 0, allU names, c1, c2s⟩ x ↔ x ∈ gL (jL names kin first others) kin := by
  unfold Gr.Great
  rw [p.gMem, hJ]
  refine and_congr_right fun _ => forall_congr' fun o => ?_
  rw [hJ]
  refine forall_congr' fun ho => forall_congr' fun hne => not_congr ?_
  exact p.mn0 (List.mem_append_left _ (p.ancIn p.hf (p.jMem.mp ho).1))

theorem Pl.rows (p : Pl names par0 tm0 kin first others mvs NM) (d : Due names tm0 kin first others due) : ∀ r ∈ [(first, others), (first, [bM]), (bM, [first]), (bA, [bU])], ∀ res, BaseOk (rowG (parF par0 first mvs) (tmF tm0 first NM) (allU names) r) res → res = due := by
  have hfU := List.mem_append_left [bM, bU, bA] p.hf
  obtain ⟨nM, nU, nA⟩ := p.neM p.hf
  have eN : ∀ {c1 x y : Bs} {c2s : List Bs}, x ∈ allU names → (Anc (Gr.P ⟨parF par0 first mvs, tmF tm0 first NM, 0, allU names, c1, c2s⟩) x y ↔ Anc (parF par0 first mvs) x y) := fun hx => p.mn0 hx
  have inF : ∀ {x}, Anc (parF par0 first mvs) first x → x ∈ names := fun h => p.ancIn p.hf h
  have inO : ∀ {x}, (∃ o ∈ others, Anc (parF par0 first mvs) o x) → x ∈ names := fun ⟨o, ho, h⟩ => p.ancIn (p.ho o ho) h
  have main : ∀ (c1 : Bs) (c2s : List Bs), c1 ∉ c2s → (∀ x, Gr.J ⟨parF par0 first mvs, tmF tm0 first NM, 0, allU names, c1, c2s⟩ x ↔ x ∈ jL names kin first others) → ∀ res, BaseOk (rowG (parF par0 first mvs) (tmF tm0 first NM) (allU names) (c1, c2s)) res → res = due := by
    intro c1 c2s hn hJ res h
    unfold BaseOk at h
    rw [if_neg hn] at h
    exact p.res d (p.great hJ) rfl h
  intro r hr
  simp only [List.mem_cons, List.not_mem_nil, or_false] at hr
  rcases hr with rfl | rfl | rfl | rfl
  · have hJ : ∀ x, Gr.J ⟨parF par0 first mvs, tmF tm0 first NM, 0, allU names, first, others⟩ x ↔ x ∈ jL names kin first others := fun x => by
      rw [p.jMem]
      unfold Gr.J Gr.A1 Gr.A2
      refine and_congr (eN hfU) (exists_congr fun o => and_congr_right fun ho => eN (List.mem_append_left _ (p.ho o ho)))
    by_cases hin : first ∈ others
    · intro res h
      unfold BaseOk at h
      rw [if_pos hin] at h
      have : first ∈ jL names kin first others := p.jMem.mpr ⟨.refl _, first, hin, .refl _⟩
      rw [(p.firstDue d).mpr this]; exact h
    · exact main _ _ hin hJ
  · refine main _ _ (by simpa using nM) fun x => ?_
    rw [p.jMem]
    unfold Gr.J Gr.A1 Gr.A2
    simp only [List.mem_singleton, exists_eq_left]
    rw [eN hfU, eN (show bM ∈ allU names by simp), p.ancM]
    constructor
    · rintro ⟨h1, rfl | h2⟩
      · exact absurd rfl (p.neM (inF h1)).1
      · exact ⟨h1, h2⟩
    · rintro ⟨h1, h2⟩; exact ⟨h1, .inr h2⟩
  · refine main _ _ (by simpa using Ne.symm nM) fun x => ?_
    rw [p.jMem]
    unfold Gr.J Gr.A1 Gr.A2
    simp only [List.mem_singleton, exists_eq_left]
    rw [eN hfU, eN (show bM ∈ allU names by simp), p.ancM]
    constructor
    · rintro ⟨rfl | h2, h1⟩
      · exact absurd rfl (p.neM (inF h1)).1
      · exact ⟨h1, h2⟩
    · rintro ⟨h1, h2⟩; exact ⟨.inr h2, h1⟩
  · refine main _ _ (by decide) fun x => ?_
    rw [p.jMem]
    unfold Gr.J Gr.A1 Gr.A2
    simp only [List.mem_singleton, exists_eq_left]
    rw [eN (show bA ∈ allU names by simp), eN (show bU ∈ allU names by simp), p.ancA, p.ancU]
    constructor
    · rintro ⟨rfl | h1, h2 | h2 | h2⟩
      · exact absurd h2 (by decide)
      · exact absurd h2 (by decide)
      · exact absurd rfl (p.neM (inO h2)).2.2
      · exact absurd h2 (p.neM (inF h1)).2.1
      · exact absurd h2 (p.neM (inF h1)).1
      · exact ⟨h1, h2⟩
    · rintro ⟨h1, h2⟩; exact ⟨.inr h1, .inr (.inr h2)⟩

theorem Pl.fast (p : Pl names par0 tm0 kin first others mvs NM) {c1 c2 : Bs} (h1 : c1 ∈ allU names) (h2 : c2 ∈ allU names) {b : Bool} (h : FastOk (fastG (parF par0 first mvs) (tmF tm0 first NM) (allU names) c1 c2) c2 b) : b = true ↔ Anc (parF par0 first mvs) c2 c1 := by
  rcases h with ⟨e, rfl⟩ | ⟨hne, res, hr, rfl⟩
  · have e : c1 = c2 := e
    subst e
    exact ⟨fun _ => .refl _, fun _ => rfl⟩
  · have lt : ∀ {x y : Bs}, x ∈ allU names → Anc (parF par0 first mvs) x y → tmF tm0 first NM y ≤ tmF tm0 first NM x := fun hx h => by
      rcases (p.ancLe hx h).2 with e | e
      · rw [e]; exact Int.le_refl _
      · omega
    have a2 : ∀ {x : Bs}, x ∈ allU names → (Anc (Gr.P (fastG (parF par0 first mvs) (tmF tm0 first NM) (allU names) c1 c2)) x c1 ↔ Anc (parF par0 first mvs) x c1) := by
      intro x hx
      constructor
      · exact fun h => Anc.less (fun x q hq => (Gr.P_mem.mp hq).1) h
      · exact fun h => Anc.more (D := fun x => x ∈ allU names) (fun x q hx hq ha => have hq' := ((p.up hx).2 _ hq).1; ⟨hq', Gr.P_mem.mpr ⟨hq, lt hq' ha⟩⟩) h hx
    have a1 : ∀ x, Anc (Gr.P (fastG (parF par0 first mvs) (tmF tm0 first NM) (allU names) c1 c2)) c1 x ↔ x = c1 := by
      intro x
      rw [Anc.iff]
      constructor
      · rintro (h | ⟨q, hq, _⟩)
        · exact h
        · obtain ⟨hq1, hq2⟩ := Gr.P_mem.mp hq
          have hq2 : tmF tm0 first NM c1 ≤ tmF tm0 first NM q := hq2
          have := ((p.up h1).2 q hq1).2
          omega
      · exact .inl
    have gr : ∀ x, Gr.Great (fastG (parF par0 first mvs) (tmF tm0 first NM) (allU names) c1 c2) x ↔ x = c1 ∧ Anc (parF par0 first mvs) c2 c1 := by
      intro x
      unfold Gr.Great Gr.J Gr.A1 Gr.A2
      simp only [List.mem_singleton, exists_eq_left]
      constructor
      · rintro ⟨⟨ha, hb⟩, _⟩
        have e := (a1 x).mp ha
        subst e
        exact ⟨rfl, (a2 h2).mp hb⟩
      · rintro ⟨rfl, ha⟩
        refine ⟨⟨(a1 _).mpr rfl, (a2 h2).mpr ha⟩, fun y hy hne => absurd ((a1 y).mp hy.1) hne⟩
    obtain ⟨ks, e', h3, h4, h5⟩ := hr
    rw [decide_eq_true_iff]
    constructor
    · intro e
      exact ((gr c1).mp ((h5 c1).mp (by rw [e]; exact .head _))).2
    · intro ha
      have : ks = [(tmF tm0 first NM c1, c1)] := sorted_eq h4 (by simp) fun k => by
        rw [List.mem_singleton]
        constructor
        · intro hk
          have e1 : k.2 = c1 := ((gr _).mp ((h5 _).mp (by rw [e']; exact List.mem_map_of_mem hk))).1
          exact Prod.ext (by rw [h3 k hk]; show tmF tm0 first NM k.2 = _; rw [e1]) e1
        · rintro rfl
          have : c1 ∈ res := (h5 c1).mpr ((gr c1).mpr ⟨rfl, ha⟩)
          rw [e'] at this
          obtain ⟨k, hk, e2⟩ := List.mem_map.mp this
          have : k = (tmF tm0 first NM c1, c1) := Prod.ext (by rw [h3 k hk]; show tmF tm0 first NM k.2 = _; rw [e2]) e2
          rw [← this]; exact hk
      rw [e', this]; rfl
theorem Pl.law18 (p : Pl names par0 tm0 kin first others mvs NM) (d : Due names tm0 kin first others due) : ∀ a ∈ due, a ∈ names ∧ ∀ b ∈ [bU, bA], ∀ r, FastOk (fastG (parF par0 first mvs) (tmF tm0 first NM) (allU names) a b) b r → r = true := by
  intro a ha
  obtain ⟨ks, e, h1, h2⟩ := p.dueKeys d
  rw [e] at ha
  obtain ⟨k, hk, e2⟩ := List.mem_map.mp ha
  have hj := (p.gMem.mp ((h2 k).mp hk).1).1
  rw [e2] at hj
  obtain ⟨j1, j2⟩ := p.jMem.mp hj
  have han := p.ancIn p.hf j1
  refine ⟨han, fun b hb r hr => ?_⟩
  simp only [List.mem_cons, List.not_mem_nil, or_false] at hb
  rcases hb with rfl | rfl
  · exact (p.fast (List.mem_append_left _ han) (by simp) hr).mpr (p.ancU.mpr (.inr (.inr j2)))
  · exact (p.fast (List.mem_append_left _ han) (by simp) hr).mpr (p.ancA.mpr (.inr j1))
theorem Pl.law19 (p : Pl names par0 tm0 kin first others mvs NM) (d : Due names tm0 kin first others due) : ∀ r, FastOk (fastG (parF par0 first mvs) (tmF tm0 first NM) (allU names) first bU) bU r → r = decide (due = [first]) := by
  intro r hr
  rw [Bool.eq_iff_iff, decide_eq_true_iff, p.fast (List.mem_append_left _ p.hf) (by simp) hr, p.firstDue d, p.ancU, p.jMem]
  obtain ⟨nM, nU, nA⟩ := p.neM p.hf
  constructor
  · rintro (h | h | h)
    · exact absurd h nU
    · exact absurd h nM
    · exact ⟨.refl _, h⟩
  · rintro ⟨_, h⟩; exact .inr (.inr h)
theorem Pl.law20 (p : Pl names par0 tm0 kin first others mvs NM) : ∀ r, FastOk (fastG (parF par0 first mvs) (tmF tm0 first NM) (allU names) bA bU) bU r → r = false := by
  intro r hr
  cases r with
  | false => rfl
  | true =>
    rcases p.ancU.mp ((p.fast (by simp) (by simp) hr).mp rfl) with h | h | ⟨o, ho, h⟩
    · exact absurd h (by decide)
    · exact absurd h (by decide)
    · exact absurd rfl (p.neM (p.ancIn (p.ho o ho) h)).2.2
end
end Mine

end
section
open PySem PySem.W PySem.Calls PySem.SeqAt PyProof.Rows Builtin
set_option Elab.async false
set_option maxRecDepth 100000
set_option linter.unusedVariables false
namespace Mine
local macro_rules | `(tactic| walk_at "m sel") => `(tactic| first | with_reducible apply Sel.head | (apply Sel.tail; walk_at "m sel"))
local macro_rules | `(tactic| walk_at "m lget") => `(tactic| first | with_reducible apply LGet.head | (apply LGet.tail; walk_at "m lget"))
local macro_rules | `(tactic| walk_at "m lset") => `(tactic| first | with_reducible apply LSet.head | (apply LSet.tail; walk_at "m lset"))
local macro_rules | `(tactic| walk_at "m mg") => `(tactic| first | exact Top0.gPush (by assumption) | exact Top0.gPop (by assumption) | exact Top0.gWL (by assumption) | exact Top0.gLcas (by assumption) | exact Top0.gBase (by assumption) | exact Top0.gFast (by assumption))
local macro_rules | `(tactic| walk_at "m name") => `(tactic| first
  | (refine' nmL (by assumption) (by assumption) ?hx ?hd ?he ?hg ?_; (case hx => kernel_rfl); (case hd => kernel_rfl); (case he => walk_at "m sel"); (case hg => walk_at "m lget"))
  | (refine' nmC (by assumption) (by assumption) ?hx ?hd ?hc ?he ?_; (case hx => decide +kernel); (case hd => kernel_rfl); (case hc => rfl); (case he => walk_at "m sel"))
  | (refine' nmF (by assumption) (by assumption) ?hx ?hd ?hd2 ?hc ?he ?_; (case hx => decide +kernel); (case hd => kernel_rfl); (case hd2 => kernel_rfl); (case hc => rfl); (case he => walk_at "m sel"))
  | (refine' nmG (by assumption) (by assumption) (Top0.glob (by assumption)) ?hx ?hd ?hv ?_; (case hx => kernel_rfl); (case hd => kernel_rfl); (case hv => walk_at "m mg")))
local macro_rules | `(tactic| walk_at "m store") => `(tactic| first
  | (refine' stL (by assumption) (by assumption) ?hx ?he ?hg ?_; (case hx => kernel_rfl); (case he => walk_at "m sel"); (case hg => walk_at "m lset"))
  | (refine' stC (by assumption) (by assumption) ?hx ?hc ?he ?_; (case hx => kernel_rfl); (case hc => rfl); (case he => walk_at "m sel")))
section
variable {K : Frag} {C fInit fAdd fGet fIter fLcas fBase fFast : Addr} {mg mb : Str → Option Value} {B B' : Store}
variable {w : World} {A : Around} {E : Value → Shared → Prop} {G : Array GenState} {os : OsState} {L L' : Led} {s : Shared} {env : Env} {sc : Scope} {Lf m : Addr} {cl : List (Str × Addr)} {cd : Value} {n : Nat} {x q : Addr}
variable {u0 u1 u2 u3 u4 u5 u6 u7 u8 : Option Value} {k : Nat} {tk : Tok} {U : List Bs} {P c fp ft : Addr} {dV : Value}

theorem nm_len (c0 : Int) (k : Nat) : (nm c0 k).length = 1 := rfl
theorem nm_inj (c0 : Int) {i j : Nat} (hi : i < 9) (hj : j < 9) (h : nm c0 i = nm c0 j) : i = j := by
  unfold nm at h
  generalize c0.fdiv 6 = d at h
  have a0 := fmod_nonneg_ ((i : Int) * 7 + d) (b := 26) (by decide)
  have a1 := fmod_lt_ ((i : Int) * 7 + d) (b := 26) (by decide)
  have b0 := fmod_nonneg_ ((j : Int) * 7 + d) (b := 26) (by decide)
  have b1 := fmod_lt_ ((j : Int) * 7 + d) (b := 26) (by decide)
  have e : (97 + ((i : Int) * 7 + d).fmod 26).toNat.toUInt8 = (97 + ((j : Int) * 7 + d).fmod 26).toNat.toUInt8 := by simpa using h
  have e2 := congrArg UInt8.toNat e
  rw [show ∀ z : Nat, z.toUInt8 = UInt8.ofNat z from fun _ => rfl, show ∀ z : Nat, z.toUInt8 = UInt8.ofNat z from fun _ => rfl, UInt8.toNat_ofNat', UInt8.toNat_ofNat', Nat.mod_eq_of_lt (by omega), Nat.mod_eq_of_lt (by omega)] at e2
  have e3 : ((i : Int) * 7 + d).fmod 26 = ((j : Int) * 7 + d).fmod 26 := by omega
  rw [Int.fmod_eq_emod_of_nonneg _ (by decide), Int.fmod_eq_emod_of_nonneg _ (by decide)] at e3
  omega
theorem nms_ok (c0 : Int) {many : Nat} (h9 : many ≤ 9) : ((List.range many).map (nm c0)).Nodup ∧ (∀ x ∈ (List.range many).map (nm c0), x.length = 1) ∧ ((List.range many).map (nm c0)).length = many := by
  refine ⟨?_, fun x hx => ?_, by simp⟩
  · rw [List.nodup_iff_pairwise_ne, List.pairwise_map]
    have hr : (List.range many).Pairwise (· ≠ ·) := List.nodup_iff_pairwise_ne.mp List.nodup_range
    refine List.Pairwise.imp_of_mem (fun {a b} ha hb hne e => hne (nm_inj c0 ?_ ?_ e)) hr
    · have := List.mem_range.mp ha; omega
    · have := List.mem_range.mp hb; omega
  · obtain ⟨i, _, rfl⟩ := List.mem_map.mp hx; exact nm_len c0 i
end
end Mine

end
section
open PySem PySem.W PySem.Calls PySem.SeqAt PyProof.Rows Builtin
set_option Elab.async false
set_option maxRecDepth 100000
set_option linter.unusedVariables false
namespace Mine
local macro_rules | `(tactic| walk_at "m sel") => `(tactic| first | with_reducible apply Sel.head | (apply Sel.tail; walk_at "m sel"))
local macro_rules | `(tactic| walk_at "m lget") => `(tactic| first | with_reducible apply LGet.head | (apply LGet.tail; walk_at "m lget"))
local macro_rules | `(tactic| walk_at "m lset") => `(tactic| first | with_reducible apply LSet.head | (apply LSet.tail; walk_at "m lset"))
local macro_rules | `(tactic| walk_at "m mg") => `(tactic| first | exact Top0.gPush (by assumption) | exact Top0.gPop (by assumption) | exact Top0.gWL (by assumption) | exact Top0.gLcas (by assumption) | exact Top0.gBase (by assumption) | exact Top0.gFast (by assumption))
local macro_rules | `(tactic| walk_at "m name") => `(tactic| first
  | (refine' nmL (by assumption) (by assumption) ?hx ?hd ?he ?hg ?_; (case hx => kernel_rfl); (case hd => kernel_rfl); (case he => walk_at "m sel"); (case hg => walk_at "m lget"))
  | (refine' nmC (by assumption) (by assumption) ?hx ?hd ?hc ?he ?_; (case hx => decide +kernel); (case hd => kernel_rfl); (case hc => rfl); (case he => walk_at "m sel"))
  | (refine' nmF (by assumption) (by assumption) ?hx ?hd ?hd2 ?hc ?he ?_; (case hx => decide +kernel); (case hd => kernel_rfl); (case hd2 => kernel_rfl); (case hc => rfl); (case he => walk_at "m sel"))
  | (refine' nmG (by assumption) (by assumption) (Top0.glob (by assumption)) ?hx ?hd ?hv ?_; (case hx => kernel_rfl); (case hd => kernel_rfl); (case hv => walk_at "m mg")))
local macro_rules | `(tactic| walk_at "m store") => `(tactic| first
  | (refine' stL (by assumption) (by assumption) ?hx ?he ?hg ?_; (case hx => kernel_rfl); (case he => walk_at "m sel"); (case hg => walk_at "m lset"))
  | (refine' stC (by assumption) (by assumption) ?hx ?hc ?he ?_; (case hx => kernel_rfl); (case hc => rfl); (case he => walk_at "m sel")))
section
variable {K : Frag} {C fInit fAdd fGet fIter fLcas fBase fFast : Addr} {mg mb : Str → Option Value} {B B' : Store}
variable {w : World} {A : Around} {E : Value → Shared → Prop} {G : Array GenState} {os : OsState} {L L' : Led} {s : Shared} {env : Env} {sc : Scope} {Lf m : Addr} {cl : List (Str × Addr)} {cd : Value} {n : Nat} {x q : Addr}
variable {u0 u1 u2 u3 u4 u5 u6 u7 u8 : Option Value} {k : Nat} {tk : Tok} {U : List Bs} {P c fp ft : Addr} {dV : Value}

theorem lawBody : fnBd sLaw = [lawStmt 0, lawStmt 1, lawStmt 2, lawStmt 3, lawStmt 4, lawStmt 5, lawStmt 6, lawStmt 7, lawStmt 8, lawStmt 9, lawStmt 10, lawStmt 11, lawStmt 12, lawStmt 13, lawStmt 14, lawStmt 15, lawStmt 16, lawStmt 17, lawStmt 18, lawStmt 19, lawStmt 20] := by kernel_rfl

theorem tabAll {β : Type} {names : List Bs} {f : Bs → β} {p : Bs} (h : p ∈ names) : tabOf names names.length f p = some (f p) := by
  unfold tabOf; rw [List.take_length, if_pos h]

set_option maxHeartbeats 4000000 in
theorem law_spec {fLaw ls c2 P2 : Addr} {vals : List Value} {zs : List Int} {cdB cdF : Value} {Rr : Result → Shared → Prop} (T : Top0 K C fInit fAdd fGet fIter fLcas fBase fFast mg mb B) (TB : TopB mg mb) (hb : BmainS mg B) (hC : CodeHdS B c P) (hC2 : CodeHdS B c2 P2)
    (FL : FnIs B fLcas (fnPs sLcas) (fnBd sLcas) (fnSc sLcas) [] dV (.ref c)) (df : DefL B dV) (FB : FnIs B fBase (fnPs sBase) (fnBd sBase) (fnSc sBase) [] .none cdB) (FF : FnIs B fFast (fnPs sFast) (fnBd sFast) (fnSc sFast) [] .none cdF)
    (FW : FnIs B fLaw (fnPs sLaw) (fnBd sLaw) (fnSc sLaw) [] .none (.ref c2)) (R : Rm A 31) (hG : AllBare G) (hl : KList B ls vals) (hi : IntsAre vals zs) (hz : vals.length ≤ 63)
    (S : SS B G os ((P2, Is (tabObj #[])) :: (P, TabO (.ref c) B) :: L) s)
    (h : ∀ B' G' s', Le B B' → AllBare G' → (∃ ps, B' P2 = some (tabObj ps)) → SS B' G' os ((P, TabO (.ref c) B') :: L) s' → Rr (.ok (.ret (.bool true))) s') :
    codeAny (model thePrg w) A (.call (.ref fLaw) ⟨[.ref ls], []⟩) Rr s := by
  refine callFcc (n := 30) (binds := [("script", .ref ls)]) (rest := ["rest", "k", "cell", "own", "merge", "greatest", "due", "row"]) (cs := lawCs) R T.lim FW S ?_ (fun _ => rfl) ?_ (by kernel_rfl) (by kernel_rfl) (by kernel_rfl) (by kernel_rfl) (by kernel_rfl) ?_
  · intro fd h1 h2 h3
    refine BindsTo.of_eq ?_
    unfold bindArgs
    rw [h1, h2]
    kernel_rfl
  · intro m
    exact (List.pairwise_map (f := Prod.fst) (R := (· ≠ ·))).mp (List.nodup_iff_pairwise_ne.mp (of_decide_eq_true (show decide ((lawCs m).map Prod.fst).Nodup = true by kernel_rfl)))
  clear S R
  intro env Lf s I hq R S
  clear hq
  generalize Lf + 1 = m at I S
  simp only [lawCs, List.map_cons, List.map_nil, List.cons_append, List.nil_append] at S
  rw [lawBody]
  have S := S.front (a := m) (e := by walk_at "m sel")
  have S := S.front (a := Lf) (e := by walk_at "m sel")
  refine @law0 _ _ _ _ _ _ _ _ _ _ _ _ _ _ _ _ _ _ _ _ _ _ _ _ _ _ _ _ _ _ _ _ _ _ _ _ T TB I R hl hi hz S fun B1 lc cvs cis v1 s le1 hcc hcl hci h10 S => ?_
  clear hl hi hz
  have T := T.mono le1
  have S := S.front (a := m + 1) (e := by walk_at "m sel")
  refine wpAny_execs_cons ?_
  refine law2 I hcc hcl hci h10 S fun B2 tm0 s le2 hmany S => ?_
  have le := le1.trans le2
  have T := T.mono le2
  have c1 := fmod_nonneg_ (cis.getD 0 0) (b := 6) (by decide)
  have c2' := fmod_lt_ (cis.getD 0 0) (b := 6) (by decide)
  obtain ⟨many, hmn⟩ : ∃ many : Nat, 4 + (cis.getD 0 0).fmod 6 = (many : Int) := ⟨(4 + (cis.getD 0 0).fmod 6).toNat, by omega⟩
  have hm4 : 4 ≤ many := by omega
  have hm9 : many ≤ 9 := by omega
  rw [hmn] at hmany
  clear c1 c2' hmn
  have hcc := hcc.mono le2
  have hcl := hcl.mono le2
  have S := S.front (a := m + 2) (e := by walk_at "m sel")
  refine wpAny_execs_cons ?_
  refine law3 T TB I R hcc hcl hci h10 hmany hm9 S fun B3 ln nvs s le3 hcn hln hbn S => ?_
  have le := le.trans le3
  have T := T.mono le3
  have hcc := hcc.mono le3
  have hcl := hcl.mono le3
  have hmany := hmany.mono le3
  obtain ⟨hnd, hone, hlen⟩ := nms_ok (cis.getD 0 0) hm9
  generalize (List.range many).map (nm (cis.getD 0 0)) = names at hbn hnd hone hlen
  subst hlen
  have hUz : (allU names).length ≤ 30 := by simp; omega
  have hnU : ∀ x ∈ names, x ∈ allU names := fun x hx => List.mem_append_left _ hx
  have S := S.front (a := m + 3) (e := by walk_at "m sel")
  have S := S.front (a := m + 11) (e := by walk_at "m sel")
  have S := S.front (a := m + 12) (e := by walk_at "m sel")
  refine wpAny_execs_cons ?_
  refine law4 (U := allU names) T I R S fun B4 dT dP dK s le4 hcT hcP hcK nT nP nK S => ?_
  have le := le.trans le4
  have T := T.mono le4
  have hcc := hcc.mono le4
  have hcl := hcl.mono le4
  have hmany := hmany.mono le4
  have hcn := hcn.mono le4
  have hln := hln.mono le4
  have S := S.front (a := Lf) (e := by walk_at "m sel")
  refine wpAny_execs_cons ?_
  refine law5 T TB R I hcc hcl hci h10 hmany hm9 hnd hcn hln hbn hnU (by omega) hcT hcP hcK S fun B5 par tm kin v2 v3 v4 s le5 dag S => ?_
  have le := le.trans le5
  have T := T.mono le5
  have hcc := hcc.mono le5
  have hcl := hcl.mono le5
  have hmany := hmany.mono le5
  have hcn := hcn.mono le5
  have hln := hln.mono le5
  have hcT := hcT.mono le5
  have hcP := hcP.mono le5
  have hcK := hcK.mono le5
  have S := S.front (a := dK) (e := by walk_at "m sel")
  obtain ⟨B6, oK, le6, hoK, hBK, S⟩ := S.freeze
  have hK : KTab w B6 (allU names) (KinR w B6) (tabOf names names.length kin) dK := ⟨oK, hBK, DctO.mono hoK (KinR.mono le6)⟩
  have S := S.front (a := dP) (e := by walk_at "m sel")
  have S := S.dP le6
  have le := le.trans le6
  have T := T.mono le6
  have hcc := hcc.mono le6
  have hcl := hcl.mono le6
  have hmany := hmany.mono le6
  have hcn := hcn.mono le6
  have hln := hln.mono le6
  have hcT := hcT.mono le6
  have hcP := hcP.mono le6
  have hcK := hcK.mono le6
  clear hoK hBK
  have S := S.front (a := m + 4) (e := by walk_at "m sel")
  refine wpAny_execs_cons ?_
  refine law6 I hcc hcl hci h10 hmany hm9 (by omega) hcn hln hbn S fun B7 vf first s le7 hcf hvf hfn S => ?_
  have le := le.trans le7
  have T := T.mono le7
  have hcc := hcc.mono le7
  have hcl := hcl.mono le7
  have hmany := hmany.mono le7
  have hcn := hcn.mono le7
  have hln := hln.mono le7
  have hcT := hcT.mono le7
  have hcP := hcP.mono le7
  have hcK := hcK.mono le7
  have hK := hK.kin le7
  have S := S.front (a := dP) (e := by walk_at "m sel")
  have S := S.dP le7
  have S := S.front (a := m + 5) (e := by walk_at "m sel")
  refine wpAny_execs_cons ?_
  refine law7 T TB R I hcc hcl hci h10 hmany hm9 (by omega) hcn hln hbn S fun B8 lo ovs others s le8 hco hlo hbo hone' hoz hon S => ?_
  have le := le.trans le8
  have T := T.mono le8
  have hcc := hcc.mono le8
  have hcl := hcl.mono le8
  have hmany := hmany.mono le8
  have hcn := hcn.mono le8
  have hln := hln.mono le8
  have hcT := hcT.mono le8
  have hcP := hcP.mono le8
  have hcK := hcK.mono le8
  have hcf := hcf.mono le8
  have hK := hK.kin le8
  have S := S.front (a := dP) (e := by walk_at "m sel")
  have S := S.dP le8
  clear hcc hcl hci h10 hmany
  have S := S.front (a := m + 7) (e := by walk_at "m sel")
  have S := S.front (a := m + 6) (e := by walk_at "m sel")
  have S := S.front (a := Lf) (e := by walk_at "m sel")
  refine wpAny_execs_cons ?_
  refine law8 R I S fun B9 vm vu va s le9 hvm hvu hva hcu hca S => ?_
  have le := le.trans le9
  have T := T.mono le9
  have hcn := hcn.mono le9
  have hln := hln.mono le9
  have hcT := hcT.mono le9
  have hcP := hcP.mono le9
  have hcK := hcK.mono le9
  have hcf := hcf.mono le9
  have hco := hco.mono le9
  have hlo := hlo.mono le9
  have hK := hK.kin le9
  have S := S.front (a := dT) (e := by walk_at "m sel")
  have S := S.front (a := dP) (e := by walk_at "m sel")
  have S := S.dP le9
  have S := S.front (a := Lf) (e := by walk_at "m sel")
  refine wpAny_execs_cons ?_
  refine law9 T TB R I hcn hln hbn hm9 (by omega) hco hlo hbo hoz hcT hcP hvm (by simp) (by omega) (fun p hp => tabAll hp) S fun B10 mvs N s le10 hmv hmz hN S => ?_
  have le := le.trans le10
  have T := T.mono le10
  have hcn := hcn.mono le10
  have hln := hln.mono le10
  have hcT := hcT.mono le10
  have hcP := hcP.mono le10
  have hcK := hcK.mono le10
  have hcf := hcf.mono le10
  have hco := hco.mono le10
  have hlo := hlo.mono le10
  have hcu := hcu.mono le10
  have hca := hca.mono le10
  have hK := hK.kin le10
  refine wpAny_execs_cons ?_
  refine law10 (dummy := bM) R I hcT hcP hcu hvu hvm (by simp) (by omega) (if_pos rfl) S fun B11 s le11 S => ?_
  have le := le.trans le11
  have T := T.mono le11
  have hcn := hcn.mono le11
  have hln := hln.mono le11
  have hcT := hcT.mono le11
  have hcP := hcP.mono le11
  have hcK := hcK.mono le11
  have hcf := hcf.mono le11
  have hco := hco.mono le11
  have hlo := hlo.mono le11
  have hcu := hcu.mono le11
  have hca := hca.mono le11
  have hK := hK.kin le11
  have hf1 : first.length = 1 := hone first hfn
  have hfM : first ≠ bM := by rintro rfl; simp at hf1
  have hfU : first ≠ bU := by rintro rfl; simp at hf1
  refine wpAny_execs_cons ?_
  refine law11 (N := tm first) R I hcT hcP hca hva hcf hvf (by simp) (by omega) ((if_neg hfU).trans ((if_neg hfM).trans (tabAll hfn))) S fun B12 s le12 S => ?_
  have le := le.trans le12
  have T := T.mono le12
  have hcn := hcn.mono le12
  have hln := hln.mono le12
  have hcT := hcT.mono le12
  have hcP := hcP.mono le12
  have hcK := hcK.mono le12
  have hcf := hcf.mono le12
  have hco := hco.mono le12
  have hlo := hlo.mono le12
  have hcu := hcu.mono le12
  have hca := hca.mono le12
  have hK := hK.kin le12
  have S := S.front (a := dP) (e := by walk_at "m sel")
  obtain ⟨B13, oP, le13, hoP, hBP, S⟩ := S.freeze
  have le := le.trans le13
  have T := T.mono le13
  have hcn := hcn.mono le13
  have hln := hln.mono le13
  have hcT := hcT.mono le13
  have hcP := hcP.mono le13
  have hcK := hcK.mono le13
  have hcf := hcf.mono le13
  have hco := hco.mono le13
  have hlo := hlo.mono le13
  have hcu := hcu.mono le13
  have hca := hca.mono le13
  have hK := hK.kin le13
  have hKP : KTab w B13 (allU names) (ParR B13) _ dP := ⟨oP, hBP, DctO.mono hoP (ParR.mono le13)⟩
  have S := S.front (a := dT) (e := by walk_at "m sel")
  obtain ⟨B14, oT, le14, hoT, hBT, S⟩ := S.freeze
  have le := le.trans le14
  have T := T.mono le14
  have hcn := hcn.mono le14
  have hln := hln.mono le14
  have hcT := hcT.mono le14
  have hcP := hcP.mono le14
  have hcK := hcK.mono le14
  have hcf := hcf.mono le14
  have hco := hco.mono le14
  have hlo := hlo.mono le14
  have hcu := hcu.mono le14
  have hca := hca.mono le14
  have hK := hK.kin le14
  have hKT : KTab w B14 (allU names) IntV _ dT := ⟨oT, hBT, hoT⟩
  have hKP := hKP.par le14
  clear hoP hBP hoT hBT
  have p : Pl names par tm kin first others mvs N := ⟨dag, hnd, hone, hfn, hon, hmv, hN⟩
  have hkz : ∀ p ∈ names, (kin p).2 ≤ 900 := fun x hx => by
    obtain ⟨i, hi, rfl⟩ := List.mem_iff_getElem.mp hx
    have h1 := dag.hsz i _ hi (List.getElem?_eq_getElem hi)
    have h2 : 2 ^ (i + 1) ≤ 2 ^ 9 := Nat.pow_le_pow_right (by omega) (by omega)
    have h3 : (2 : Nat) ^ 9 = 512 := rfl
    omega
  have S := S.front (a := m + 8) (e := by walk_at "m sel")
  refine wpAny_execs_cons ?_
  refine law12 T TB R I hcn hln hbn hm9 hco hlo hbo hoz hcf hvf hfn hon hcK hK (fun p hp => tabAll hp) hkz S fun B15 lj jvs s le15 hcj hlj hbj S => ?_
  have le := le.trans le15
  have T := T.mono le15
  have hcn := hcn.mono le15
  have hln := hln.mono le15
  have hcT := hcT.mono le15
  have hcP := hcP.mono le15
  have hcK := hcK.mono le15
  have hcf := hcf.mono le15
  have hco := hco.mono le15
  have hlo := hlo.mono le15
  have hcu := hcu.mono le15
  have hca := hca.mono le15
  have hK := hK.kin le15
  have hKP := hKP.par le15
  have hKT := hKT.tm le15
  have hbj : BytL jvs (jL names kin first others) := hbj
  have hjn : ∀ x ∈ jL names kin first others, x ∈ names := fun x hx => (List.mem_filter.mp hx).1
  have hjz : (jL names kin first others).length ≤ 9 := Nat.le_trans (List.length_filter_le _ _) hm9
  have S := S.front (a := Lf) (e := by walk_at "m sel")
  refine wpAny_execs_cons ?_
  refine law13 R I hcj hlj hbj hjz hcK hK (fun p hp => tabAll (hjn p hp)) (fun p hp => hkz p (hjn p hp)) S fun B16 lg gvs s le16 hlg hbg S => ?_
  have le := le.trans le16
  have T := T.mono le16
  have hcn := hcn.mono le16
  have hln := hln.mono le16
  have hcT := hcT.mono le16
  have hcP := hcP.mono le16
  have hcK := hcK.mono le16
  have hcf := hcf.mono le16
  have hco := hco.mono le16
  have hlo := hlo.mono le16
  have hcu := hcu.mono le16
  have hca := hca.mono le16
  have hKP := hKP.par le16
  have hKT := hKT.tm le16
  have hbg : BytL gvs (gL (jL names kin first others) kin) := hbg
  have hgn : ∀ x ∈ gL (jL names kin first others) kin, x ∈ names := fun x hx => hjn x (List.mem_filter.mp hx).1
  have hgz : (gL (jL names kin first others) kin).length ≤ 9 := Nat.le_trans (List.length_filter_le _ _) hjz
  have htm : ∀ b ∈ allU names, (if b = bA then some (tm first + 1) else if b = bU then some (N + 1) else if b = bM then some N else tabOf names names.length tm b) = some (tmF tm first N b) := fun b hb => by
    unfold tmF
    split
    · rfl
    · split
      · rfl
      · split
        · rfl
        · refine tabAll ?_
          simp only [allU, List.mem_append, List.mem_cons, List.not_mem_nil, or_false] at hb
          rcases hb with hb | hb | hb | hb
          · exact hb
          all_goals contradiction
  have hpr : ∀ b ∈ allU names, (if b = bA then some [first] else if b = bU then some [bM] else if b = bM then some mvs else tabOf names names.length par b) = some (parF par first mvs b) := fun b hb => by
    unfold parF
    split
    · rfl
    · split
      · rfl
      · split
        · rfl
        · refine tabAll ?_
          simp only [allU, List.mem_append, List.mem_cons, List.not_mem_nil, or_false] at hb
          rcases hb with hb | hb | hb | hb
          · exact hb
          all_goals contradiction
  refine wpAny_execs_cons ?_
  refine law14 (tm := tm) T TB R I hlg hbg hgz ((hnd.filter _).filter _) hcT hKT (fun x hx => by rw [htm x (hnU x (hgn x hx)), (p.parN (hgn x hx)).2]) S fun B17 ld dvs ks s le17 hld hbd hpm hsr S => ?_
  have le := le.trans le17
  have T := T.mono le17
  have hcn := hcn.mono le17
  have hln := hln.mono le17
  have hcT := hcT.mono le17
  have hcP := hcP.mono le17
  have hcK := hcK.mono le17
  have hcf := hcf.mono le17
  have hco := hco.mono le17
  have hlo := hlo.mono le17
  have hcu := hcu.mono le17
  have hca := hca.mono le17
  have hKP := hKP.par le17
  have hKT := hKT.tm le17
  have d : Due names tm kin first others (ks.map (·.2)) := ⟨ks, rfl, hpm, hsr⟩
  have hdz : (ks.map (·.2)).length ≤ 100 := by
    have := hpm.length_eq
    simp at this ⊢; omega
  generalize ks.map (·.2) = due at d hbd hdz
  clear hpm hsr
  have S := S.front (a := m + 10) (e := by walk_at "m sel")
  have S := S.front (a := m + 9) (e := by walk_at "m sel")
  have S := S.front (a := P2) (e := by walk_at "m sel")
  refine @law15 _ _ _ _ _ _ _ _ _ _ _ _ _ _ _ _ _ _ _ _ _ _ _ _ _ _ _ T (hb.mono le) (hC2.mono le) I S fun B18 fp ft cdP cdT s le18 FP FT hcp hct hP2 S => ?_
  have hld := hld.mono le18
  have le := le.trans le18
  have T := T.mono le18
  have hcn := hcn.mono le18
  have hln := hln.mono le18
  have hcT := hcT.mono le18
  have hcP := hcP.mono le18
  have hcK := hcK.mono le18
  have hcf := hcf.mono le18
  have hco := hco.mono le18
  have hlo := hlo.mono le18
  have hcu := hcu.mono le18
  have hca := hca.mono le18
  have hKP := hKP.par le18
  have hKT := hKT.tm le18
  have LP : LkP w B18 (allU names) (parF par first mvs) fp := lkP T.lim FP hcP hKP hpr
  have LT : LkT w B18 (allU names) (tmF tm first N) ft := lkT T.lim FT hcT hKT htm
  have hC := hC.mono le
  have hb := hb.mono le
  have FL := FL.mono le
  have df := df.mono le
  have FB := FB.mono le
  have FF := FF.mono le
  have hpz : ∀ x ∈ allU names, (parF par first mvs x).length ≤ 30 := fun x hx => by
    simp only [allU, List.mem_append, List.mem_cons, List.not_mem_nil, or_false] at hx
    rcases hx with hx | rfl | rfl | rfl
    · rw [(p.parN hx).1]
      obtain ⟨i, hi, rfl⟩ := List.mem_iff_getElem.mp hx
      have := dag.hlen i _ hi (List.getElem?_eq_getElem hi)
      omega
    · show mvs.length ≤ 30; omega
    · show (1 : Nat) ≤ 30; omega
    · show (1 : Nat) ≤ 30; omega
  have HG : ∀ (mn : Int) (c1 : Bs) (c2s : List Bs), c1 ∈ allU names → (∀ c ∈ c2s, c ∈ allU names) → c2s.length ≤ 30 → FC K C fInit fAdd fGet fIter fLcas fBase fFast mg mb w c P dV ⟨parF par first mvs, tmF tm first N, mn, allU names, c1, c2s⟩ fp ft B18 :=
    fun mn c1 c2s h1 h2 h3 => ⟨T, TB, hb, hC, FL, df, p.ok h1 h2, hUz, hpz, h3, LP, LT⟩
  have R := R.less (m := 28) (by omega)
  have eM : bM ∈ allU names := by simp
  have eU : bU ∈ allU names := by simp
  have eA : bA ∈ allU names := by simp
  have eF : first ∈ allU names := hnU first hfn
  have S := S.front (a := P) (e := by walk_at "m sel")
  have S := S.weak (fun o h => TabO.mono h le)
  have HF : ∀ r ∈ [(first, others), (first, [bM]), (bM, [first]), (bA, [bU])], FC K C fInit fAdd fGet fIter fLcas fBase fFast mg mb w c P dV (rowG (parF par first mvs) (tmF tm first N) (allU names) r) fp ft B18 := by
    intro r hr
    simp only [List.mem_cons, List.not_mem_nil, or_false] at hr
    rcases hr with rfl | rfl | rfl | rfl
    · exact HG 0 first others eF (fun c hc => hnU c (hon c hc)) (by omega)
    · exact HG 0 first [bM] eF (fun c hc => by rw [List.mem_singleton.mp hc]; exact eM) (by simp)
    · exact HG 0 bM [first] eM (fun c hc => by rw [List.mem_singleton.mp hc]; exact eF) (by simp)
    · exact HG 0 bA [bU] eA (fun c hc => by rw [List.mem_singleton.mp hc]; exact eU) (by simp)
  have S := S.front (a := Lf) (e := by walk_at "m sel")
  refine wpAny_execs_cons ?_
  refine law17 R I hG HF FB (p.rows d) hcp hct hcf hvf hco hlo hbo hone' hoz hvm hcu hvu hca hva hld hbd S fun B19 G1 v8 s le19 hG1 S => ?_
  have HGf : ∀ a b, a ∈ allU names → b ∈ allU names → FC K C fInit fAdd fGet fIter fLcas fBase fFast mg mb w c P dV (fastG (parF par first mvs) (tmF tm first N) (allU names) a b) fp ft B18 := fun a b h1 h2 =>
    HG _ a [b] h1 (fun c hc => by rw [List.mem_singleton.mp hc]; exact h2) (by simp)
  have d18 := p.law18 d
  refine wpAny_execs_cons ?_
  refine law18 R I hG1 ⟨_, (HGf bA bU eA eU).mono le19⟩ (fun a ha b hb' => (HGf a b (hnU a (d18 a ha).1) (by simp only [List.mem_cons, List.not_mem_nil, or_false] at hb'; rcases hb' with rfl | rfl <;> assumption)).mono le19) (FF.mono le19) (fun a ha => (d18 a ha).2) (hcp.mono le19) (hct.mono le19) (hcu.mono le19) hvu (hca.mono le19) hva (hld.mono le19) hbd hdz S fun B20 G2 s le20 hG2 S => ?_
  have le20 := le19.trans le20
  refine wpAny_execs_cons ?_
  refine law19 R I hG2 ((HGf first bU eF eU).mono le20) (FF.mono le20) (p.law19 d) (hcp.mono le20) (hct.mono le20) (hcu.mono le20) hvu (hcf.mono le20) hvf (hld.mono le20) hbd S fun B21 G3 s le21 hG3 S => ?_
  have le21 := le20.trans le21
  have S := S.front (a := P) (e := by walk_at "m sel")
  refine wpAny_execs_cons ?_
  refine law20 R I hG3 ((HGf bA bU eA eU).mono le21) (FF.mono le21) p.law20 (hcp.mono le21) (hct.mono le21) (hcu.mono le21) hvu (hca.mono le21) hva S fun B22 G4 s le22 hG4 S => ?_
  have le22 := le21.trans le22
  have S := S.front (a := Lf) (e := by walk_at "m sel")
  have S := S.drop
  exact h B22 G4 s (le.trans le22) hG4 (hP2.imp fun _ e => le22 _ _ e) S
end
end Mine

end
section
open PySem PySem.W PySem.Calls PySem.SeqAt PyProof.Rows Builtin
set_option Elab.async false
set_option maxRecDepth 100000
set_option linter.unusedVariables false
namespace Mine

/-! the top, as the head leaves it -/
def fdOf (K : Frag) (f : Addr) : Option FuncData := match K.lookup f with
  | some ⟨.type n, _, .func fd, _⟩ => if n = "function" then some fd else none
  | _ => none
def fnIn (K : Frag) (f : Addr) : Option (Arguments × FuncBody × Scope × List (Str × Addr) × Value × Value × Addr × Addr) := (fdOf K f).map fun fd => (fd.params, fd.body, fd.scope, fd.closure, fd.defaults, fd.kwdefaults, fd.globals, fd.builtins)
def cdIn (K : Frag) (f : Addr) : Option Value := (fdOf K f).map (·.code)
def cdOk (K : Frag) (f : Addr) : Bool := match fdOf K f with
  | some fd => (match fd.code with
    | .ref c => (match K.lookup c with
      | some ⟨_, _, .fields vs, _⟩ => (match (vs[1]? : Option Value) with | some (.str q _) => q == fd.qualname | _ => false)
      | _ => false)
    | _ => false)
  | none => false
theorem fdOf_spec {K : Frag} {f : Addr} {fd : FuncData} (h : fdOf K f = some fd) : ∃ o, K.lookup f = some o ∧ o.cls = .type "function" ∧ o.data = .func fd := by
  unfold fdOf at h
  split at h
  · rename_i hk
    split at h
    · rename_i hn
      cases h
      exact ⟨_, hk, by rw [hn], rfl⟩
    · cases h
  · cases h
theorem cdOk_spec {K : Frag} {B : Store} {f : Addr} {fd : FuncData} (hB : ∀ a o, K.lookup a = some o → B a = some o) (h : fdOf K f = some fd) (hc : cdOk K f = true) : CodeRecS B fd.code fd.qualname := by
  unfold cdOk at hc
  rw [h] at hc
  dsimp only at hc
  split at hc
  · rename_i c hcd
    split at hc
    · rename_i vs _ hk
      split at hc
      · rename_i q t hq
        obtain rfl : q = fd.qualname := beq_iff_eq.mp hc
        exact ⟨c, _, vs, t, hcd, hB _ _ hk, rfl, hq⟩
      · cases hc
    · cases hc
  · cases hc
theorem fnIs_of {K : Frag} {B : Store} {f : Addr} {ps : Arguments} {bd : List Stmt} {sc : Scope} {dV : Value} (hB : ∀ a o, K.lookup a = some o → B a = some o)
    (h : fnIn K f = some (ps, .stmts bd, sc, [], dV, .none, mainGlobals, builtinsNs)) (hc : cdOk K f = true) : ∃ cd, cdIn K f = some cd ∧ FnIs B f ps bd sc [] dV cd := by
  unfold fnIn at h
  obtain ⟨fd, hf, e⟩ := Option.map_eq_some_iff.mp h
  obtain ⟨o, ho, h1, h2⟩ := fdOf_spec hf
  injection e with e1 e; injection e with e2 e; injection e with e3 e; injection e with e4 e; injection e with e5 e; injection e with e6 e; injection e with e7 e8
  exact ⟨fd.code, by unfold cdIn; rw [hf]; rfl, o, fd, hB _ _ ho, h1, h2, e1, e2, e3, e4, e5, e6, e7, e8, rfl, cdOk_spec hB hf hc⟩
theorem fnIs_ofc {K : Frag} {B : Store} {f c : Addr} {ps : Arguments} {bd : List Stmt} {sc : Scope} {dV : Value} (hB : ∀ a o, K.lookup a = some o → B a = some o)
    (h : fnIn K f = some (ps, .stmts bd, sc, [], dV, .none, mainGlobals, builtinsNs)) (hc : cdOk K f = true) (hd : cdIn K f = some (.ref c)) : FnIs B f ps bd sc [] dV (.ref c) := by
  obtain ⟨cd, h1, h2⟩ := fnIs_of hB h hc
  rw [hd] at h1; cases h1; exact h2

def defIn (K : Frag) (dT : Addr) : Bool := match K.lookup dT with
  | some ⟨_, _, .seq vs _, _⟩ => (match vs.toList with | [.int i _, .none] => i == 0 | _ => false)
  | _ => false
theorem defIn_spec {K : Frag} {B : Store} {dT : Addr} (hB : ∀ a o, K.lookup a = some o → B a = some o) (h : defIn K dT = true) : DefL B (.ref dT) := by
  unfold defIn at h
  split at h
  · rename_i vs n _ hk
    split at h
    · rename_i i t hv
      obtain rfl : i = 0 := beq_iff_eq.mp h
      refine ⟨dT, _, n, t, rfl, hB _ _ hk, ?_⟩
      show Data.seq vs n = _
      rw [show vs = #[.int 0 t, .none] from Array.toList_inj.mp hv]
    · cases h
  · cases h

theorem mg_none {K : Frag} {h : Heap} {mg : Str → Option Value} {n : Str} (X : K.In h) (G : h.Ns mainGlobals mg) (e : nsIn K mainGlobals n = some none) : mg n = none := by
  obtain ⟨o, es, ep, ho, hd, _, hf⟩ := G
  unfold nsIn at e
  split at e
  · rename_i c d es' n' sl q
    have := X _ _ q
    rw [ho] at this
    cases this
    cases hd
    split at e
    · cases e
    · rename_i hfn
      rw [← hf]
      show findBy _ _ _ = none
      unfold findBy
      rw [← Array.find?_toList, hfn]; rfl
  · cases e

/-- all that stands when the law is called, but the two tables -/
def storeOf (h : Heap) (P P2 : Addr) : Store := fun a => if a = P ∨ a = P2 then none else h.get? a
section
variable {h : Heap} {P P2 a : Addr} {o : Obj} {m : Str → Option Value}
theorem storeOf_keep (e : storeOf h P P2 a = some o) : h.get? a = some o := by
  unfold storeOf at e
  split at e
  · cases e
  · exact e
theorem storeOf_of (h1 : h.get? P = some (tabObj #[])) (h2 : h.get? P2 = some (tabObj #[])) (e : h.get? a = some o) (hc : o.cls ≠ .none ∨ ∃ es n, o.data = .dict es n) : storeOf h P P2 a = some o := by
  unfold storeOf
  rw [if_neg, e]
  rintro (rfl | rfl)
  · rw [h1] at e; cases e; rcases hc with hc | ⟨_, _, hc⟩
    · exact hc rfl
    · cases hc
  · rw [h2] at e; cases e; rcases hc with hc | ⟨_, _, hc⟩
    · exact hc rfl
    · cases hc
theorem nsS_of (h1 : h.get? P = some (tabObj #[])) (h2 : h.get? P2 = some (tabObj #[])) (e : h.Ns a m) : NsS (storeOf h P P2) a m :=
  let ⟨o, es, ep, ho, hd, r⟩ := e; ⟨o, es, ep, storeOf_of h1 h2 ho (.inr ⟨es, ep, hd⟩), hd, r⟩
end

/-- what the written part of the heap bears -/
structure StK (K : Frag) (C fInit fAdd fGet fIter fLcas fBase fFast fLaw c P c2 P2 dT : Addr) : Prop where
  nP : K.lookup P = none
  nP2 : K.lookup P2 = none
  ne : P2 ≠ P
  gPush : nsIn K mainGlobals "heappush" = some (some (.builtin "_heapq.heappush"))
  gPop : nsIn K mainGlobals "heappop" = some (some (.builtin "_heapq.heappop"))
  gWL : nsIn K mainGlobals "WorkList" = some (some (.ref C))
  gLcas : nsIn K mainGlobals "_find_lcas" = some (some (.ref fLcas))
  gBase : nsIn K mainGlobals "find_merge_base" = some (some (.ref fBase))
  gFast : nsIn K mainGlobals "can_fast_forward" = some (some (.ref fFast))
  nLen : nsIn K mainGlobals "len" = some none
  nList : nsIn K mainGlobals "list" = some none
  nRange : nsIn K mainGlobals "range" = some none
  nMax : nsIn K mainGlobals "max" = some none
  nSet : nsIn K mainGlobals "set" = some none
  nSorted : nsIn K mainGlobals "sorted" = some none
  nBytes : nsIn K mainGlobals "bytes" = some none
  makes : makesIn K C = true
  init : findIn K (.ref C) "__init__" = some (some (.ref fInit))
  initT : typeIn K (.ref fInit) = some (.type "function")
  ga : findIn K (.ref C) "__getattribute__" = some (some (.builtin "object.__getattribute__"))
  gattr : findIn K (.ref C) "__getattr__" = some none
  sa : findIn K (.ref C) "__setattr__" = some (some (.builtin "object.__setattr__"))
  over : plainOver K C = true
  taker : takerIn K C "pq" = some none
  hasD : hasDictIn K C = true
  noPq : findIn K (.ref C) "pq" = some none
  mAdd : findIn K (.ref C) "add" = some (some (.ref fAdd))
  mAddT : typeIn K (.ref fAdd) = some (.type "function")
  mGet : findIn K (.ref C) "get" = some (some (.ref fGet))
  mGetT : typeIn K (.ref fGet) = some (.type "function")
  mIter : findIn K (.ref C) "iter" = some (some (.ref fIter))
  mIterT : typeIn K (.ref fIter) = some (.type "function")
  keepC : keepIn K (.ref C) = true
  pInit : fnIn K fInit = some (fnPs sInit, .stmts (fnBd sInit), fnSc sInit, [], .none, .none, mainGlobals, builtinsNs)
  pAdd : fnIn K fAdd = some (fnPs sAdd, .stmts (fnBd sAdd), fnSc sAdd, [], .none, .none, mainGlobals, builtinsNs)
  pGet : fnIn K fGet = some (fnPs sGet, .stmts (fnBd sGet), fnSc sGet, [], .none, .none, mainGlobals, builtinsNs)
  pIter : fnIn K fIter = some (fnPs sIter, .stmts (fnBd sIter), fnSc sIter, [], .none, .none, mainGlobals, builtinsNs)
  pLcas : fnIn K fLcas = some (fnPs sLcas, .stmts (fnBd sLcas), fnSc sLcas, [], .ref dT, .none, mainGlobals, builtinsNs)
  pBase : fnIn K fBase = some (fnPs sBase, .stmts (fnBd sBase), fnSc sBase, [], .none, .none, mainGlobals, builtinsNs)
  pFast : fnIn K fFast = some (fnPs sFast, .stmts (fnBd sFast), fnSc sFast, [], .none, .none, mainGlobals, builtinsNs)
  pLaw : fnIn K fLaw = some (fnPs sLaw, .stmts (fnBd sLaw), fnSc sLaw, [], .none, .none, mainGlobals, builtinsNs)
  cInit : cdOk K fInit = true
  cAdd : cdOk K fAdd = true
  cGet : cdOk K fGet = true
  cIter : cdOk K fIter = true
  cLcas : cdOk K fLcas = true
  cBase : cdOk K fBase = true
  cFast : cdOk K fFast = true
  cLaw : cdOk K fLaw = true
  aLcas : cdIn K fLcas = some (.ref c)
  aLaw : cdIn K fLaw = some (.ref c2)
  hd1 : codeHdIn K c P = true
  hd2 : codeHdIn K c2 P2 = true
  df : defIn K dT = true
  gLaw : nsIn K mainGlobals "law" = some (some (.ref fLaw))

theorem law_asm {K : Frag} {C fInit fAdd fGet fIter fLcas fBase fFast fLaw c P c2 P2 dT ls : Addr} {w : World} {s₁ : Shared} {mg mb : Str → Option Value} {vals : List Value} {zs : List Int}
    (k : StK K C fInit fAdd fGet fIter fLcas fBase fFast fLaw c P c2 P2 dT) (X : K.In s₁.heap) (hg : s₁.heap.Ns mainGlobals mg) (hbu : s₁.heap.Ns builtinsNs mb) (hlim : s₁.heap.NoLimit)
    (hblt : ∀ x : Str, x ≠ "__name__" → mb x = bootBuiltins x)
    (hbm : ∃ bm ob, mg "__builtins__" = some (.ref bm) ∧ bm ≠ builtinsNs ∧ s₁.heap.get? bm = some ob ∧ ob.cls = .type "module" ∧ ob.dict = some builtinsNs ∧ ob.data = .plain)
    (hT : ∀ Q ∈ [P, P2], s₁.heap.get? Q = some (tabObj #[])) (hgens : s₁.gens = #[])
    (hl : s₁.heap.get? ls = some { cls := .type "list", data := .seq vals.toArray }) (hi : IntsAre vals zs) (hz : vals.length ≤ 63) :
    codeAny (model thePrg w) callerA (.call (.ref fLaw) ⟨[.ref ls], []⟩) (fun r s' => r = .ok (.ret (.bool true)) ∧ OldK s₁.heap s'.heap ∧ s'.os = s₁.os ∧ AllBare s'.gens) s₁ := by
  have h1 := hT P (by simp)
  have h2 := hT P2 (by simp)
  have hB : ∀ a o, K.lookup a = some o → storeOf s₁.heap P P2 a = some o := fun a o e => by
    unfold storeOf
    rw [if_neg]
    · exact X a o e
    · rintro (rfl | rfl)
      · rw [k.nP] at e; cases e
      · rw [k.nP2] at e; cases e
  have hbs : BmainS mg (storeOf s₁.heap P P2) := by
    obtain ⟨bm, ob, b1, b2, b3, b4, b5, b6⟩ := hbm
    refine ⟨bm, ob, b1, b2, fun e => ?_, storeOf_of h1 h2 b3 (.inl (by rw [b4]; nofun)), b4, b5, b6⟩
    obtain ⟨o, es, ep, ho, hd, _⟩ := hg
    rw [← e, b3] at ho; cases ho
    rw [b6] at hd; cases hd
  have T : Top0 K C fInit fAdd fGet fIter fLcas fBase fFast mg mb (storeOf s₁.heap P P2) := {
    inK := hB
    glob := nsS_of h1 h2 hg
    buil := nsS_of h1 h2 hbu
    lim := let ⟨mc, x, y⟩ := hlim; ⟨mc, nsS_of h1 h2 x, y⟩
    gPush := mg_of X hg k.gPush
    gPop := mg_of X hg k.gPop
    gWL := mg_of X hg k.gWL
    gLcas := mg_of X hg k.gLcas
    gBase := mg_of X hg k.gBase
    gFast := mg_of X hg k.gFast
    makes := k.makes
    init := k.init
    initT := k.initT
    ga := k.ga
    gattr := k.gattr
    sa := k.sa
    over := k.over
    taker := k.taker
    hasD := k.hasD
    noPq := k.noPq
    mAdd := k.mAdd
    mAddT := k.mAddT
    mGet := k.mGet
    mGetT := k.mGetT
    mIter := k.mIter
    mIterT := k.mIterT
    keepC := k.keepC
    fnInit := (fnIs_of hB k.pInit k.cInit).imp fun _ h => h.2
    fnAdd := (fnIs_of hB k.pAdd k.cAdd).imp fun _ h => h.2
    fnGet := (fnIs_of hB k.pGet k.cGet).imp fun _ h => h.2
    fnIter := (fnIs_of hB k.pIter k.cIter).imp fun _ h => h.2 }
  have TB : TopB mg mb := {
    len := ⟨mg_none X hg k.nLen, (hblt _ (by decide +kernel)).trans (by kernel_rfl)⟩
    list := ⟨mg_none X hg k.nList, (hblt _ (by decide +kernel)).trans (by kernel_rfl)⟩
    range := ⟨mg_none X hg k.nRange, (hblt _ (by decide +kernel)).trans (by kernel_rfl)⟩
    max := ⟨mg_none X hg k.nMax, (hblt _ (by decide +kernel)).trans (by kernel_rfl)⟩
    set := ⟨mg_none X hg k.nSet, (hblt _ (by decide +kernel)).trans (by kernel_rfl)⟩
    sorted := ⟨mg_none X hg k.nSorted, (hblt _ (by decide +kernel)).trans (by kernel_rfl)⟩
    bytes := ⟨mg_none X hg k.nBytes, (hblt _ (by decide +kernel)).trans (by kernel_rfl)⟩ }
  have hC : ∀ {c P' : Addr}, codeHdIn K c P' = true → CodeHdS (storeOf s₁.heap P P2) c P' := fun e h hk => codeHd_of_K (fun a o ea => hk a o (hB a o ea)) e
  obtain ⟨cdB, _, FB⟩ := fnIs_of hB k.pBase k.cBase
  obtain ⟨cdF, _, FF⟩ := fnIs_of hB k.pFast k.cFast
  have S0 : SS (storeOf s₁.heap P P2) s₁.gens s₁.os [(P2, Is (tabObj #[])), (P, TabO (.ref c) (storeOf s₁.heap P P2))] s₁ := by
    refine ⟨fun b o e => storeOf_keep e, fun p hp => ?_, fun p hp => ?_, ?_, rfl, rfl⟩
    · simp only [List.mem_cons, List.not_mem_nil, or_false] at hp
      rcases hp with rfl | rfl
      · exact ⟨_, h2, rfl⟩
      · exact ⟨_, h1, .inl rfl⟩
    · simp only [List.mem_cons, List.not_mem_nil, or_false] at hp
      rcases hp with rfl | rfl
      · exact if_pos (.inr rfl)
      · exact if_pos (.inl rfl)
    · simpa using k.ne
  refine law_spec (A := callerA) T TB hbs (hC k.hd1) (hC k.hd2) (fnIs_ofc hB k.pLcas k.cLcas k.aLcas) (defIn_spec hB k.df) FB FF (fnIs_ofc hB k.pLaw k.cLaw k.aLaw) ⟨by decide, by decide, rfl⟩ (.of_eq hgens)
    ⟨_, storeOf_of h1 h2 hl (.inl (by nofun)), rfl, rfl, 0, rfl⟩ hi hz S0 fun B' G' s' le hG' hP2 S => ⟨rfl, ⟨fun b o e => ?_, fun b o e => ?_⟩, S.os, by rw [S.gens]; exact hG'⟩
  · by_cases hb : b = P ∨ b = P2
    · rcases hb with rfl | rfl
      · rw [h1] at e; cases e
        obtain ⟨o, ho, hp⟩ := S.get .head
        have : ∃ ps, o = tabObj ps := by
          rcases hp with rfl | ⟨q, c1, c2, _, _, _, rfl⟩
          · exact ⟨_, rfl⟩
          · exact ⟨_, rfl⟩
        obtain ⟨ps, rfl⟩ := this
        obtain ⟨oc, vs, _, _, _, _, _, _, _, d1, d2, d3, d4, _⟩ := codeHd_of_K X k.hd1
        exact .inr (.inl ⟨⟨c, oc, vs, d1, d2, d3, d4⟩, rfl, #[], ps, rfl, by rw [Array.empty_append]; exact ho⟩)
      · rw [h2] at e; cases e
        obtain ⟨ps, hp⟩ := hP2
        obtain ⟨oc, vs, _, _, _, _, _, _, _, d1, d2, d3, d4, _⟩ := codeHd_of_K X k.hd2
        exact .inr (.inl ⟨⟨c2, oc, vs, d1, d2, d3, d4⟩, rfl, #[], ps, rfl, by rw [Array.empty_append]; exact S.keep _ _ hp⟩)
    · exact .inl (S.keep _ _ (le _ _ (by unfold storeOf; rw [if_neg hb, e])))
  · by_cases hb : b = P ∨ b = P2
    · rcases hb with rfl | rfl
      · obtain ⟨o, ho, _⟩ := S.get .head
        exact ⟨o, ho⟩
      · obtain ⟨ps, hp⟩ := hP2
        exact ⟨_, S.keep _ _ hp⟩
    · exact ⟨o, S.keep _ _ (le _ _ (by unfold storeOf; rw [if_neg hb, e]))⟩

theorem listObj {h : Heap} {ls : Addr} {vals : List Value} {xs : List WData} {P : Params} (hL : h.IsList ls vals.toArray) (wl : Well P h (.ref ls) (.list xs)) : h.get? ls = some { cls := .type "list", data := .seq vals.toArray } := by
  obtain ⟨o, ho, _, n, hd⟩ := hL
  cases wl with
  | list e _ =>
    rw [ho] at e ⊢
    cases e
    injection hd with e1 e2
    rw [e1]
theorem lawPost (l : OpenLaw) (as bs : List WData) : l.row.claim.post as (.bool true) bs = true := by
  show (WShape.has [] (.bool true) .bool && WTm.holds [] (.eq .res (.lit (.bool true))) { args := as, res := some (.bool true), after := bs }) = true
  rw [show WShape.has [] (.bool true) .bool = true from by first | rfl | decide | simp [WShape.has, WShape.arms]]
  rw [Bool.true_and]
  unfold WTm.holds
  simp [WTm.value, same]
end Mine

end
open PySem PySem.W PyProof.Rows
set_option Elab.async false
set_option maxRecDepth 100000 in
set_option maxHeartbeats 8000000 in
theorem PySem.Challenge.cw_bb0034_01_holds : PySem.Challenge.rw_bb0034_01.Holds := by
  w_on; o_law; k_head; (case hw => w_witness2); k_fill; intro w s₀ s₁ mg mb G Y fa o pm cd doc dV kV ho hd hcd hD hmg hg args vals as hpre hlay hrd hwl hlo
  have KX := km_in_of Y; km_tabs Y; refine Ground.open G ?_; intro T B D TE TW; wrow_args hpre hlay hrd hwl hlo
  rename_i zs hs hlay0 hLy hrec hl2 as1 as2 ls vals as3 hL ra wl r0 hI hr hc1 hc2
  have h63 : vals.length ≤ 63 := by have := hI.length; omega
  have ob := Mine.listObj hL wl
  clear hs hlay0 hLy hrec hl2 ra wl r0 hr hc1 hc2 B D TE TW hD hcd hd ho
  have e9 : mg (Str.ofString "law") = some (.ref 109) := mg_of KX T.g (by kernel_rfl)
  obtain rfl : fa = 109 := by
    have e8 : some (Value.ref 109) = some (Value.ref fa) := e9.symm.trans hmg
    injection e8 with e8; injection e8 with e8; exact e8.symm
  clear hmg e9
  refine enter_call ?_
  refine codeAny_mono (Mine.law_asm (K := _) (C := 80) (fInit := 56) (fAdd := 63) (fGet := 70) (fIter := 77) (fLcas := 90) (fBase := 97) (fFast := 104) (fLaw := 109) (c := 89) (P := 87) (c2 := 108) (P2 := 106) (dT := 85) ?stk KX T.g T.b T.nolimit T.builtins T.bmain hT8 hg ob hI h63) (fun r s' ⟨e, ok, os, ab⟩ => ⟨.inl ⟨.bool true, .bool true, [], e, (fun _ => rfl), .bool true, ?post, fun _ => ⟨List.nodup_nil, nofun⟩⟩, ok, os, ab⟩)
  case post => exact Mine.lawPost _ _ _
  case stk => exact ⟨by kernel_rfl, by kernel_rfl, by decide, by kernel_rfl, by kernel_rfl, by kernel_rfl, by kernel_rfl, by kernel_rfl, by kernel_rfl, by kernel_rfl, by kernel_rfl, by kernel_rfl, by kernel_rfl, by kernel_rfl, by kernel_rfl, by kernel_rfl, by kernel_rfl, by kernel_rfl, by kernel_rfl, by kernel_rfl, by kernel_rfl, by kernel_rfl, by kernel_rfl, by kernel_rfl, by kernel_rfl, by kernel_rfl, by kernel_rfl, by kernel_rfl, by kernel_rfl, by kernel_rfl, by kernel_rfl, by kernel_rfl, by kernel_rfl, by kernel_rfl, by kernel_rfl, by kernel_rfl, by kernel_rfl, by kernel_rfl, by kernel_rfl, by kernel_rfl, by kernel_rfl, by kernel_rfl, by kernel_rfl, by kernel_rfl, by kernel_rfl, by kernel_rfl, by kernel_rfl, by kernel_rfl, by kernel_rfl, by kernel_rfl, by kernel_rfl, by kernel_rfl, by kernel_rfl, by kernel_rfl, by kernel_rfl⟩
