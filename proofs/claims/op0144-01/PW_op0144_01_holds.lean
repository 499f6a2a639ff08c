import PyProof.Rows.All
import Wide.All
import OpenK.AllK
import Wide.FinOn
import KE.KBytesWalk
import KE.KSetInts
import KE.KIsBytes
import KE.BytesK
import KE.KBits
import KE.KTypeOf
import KE.KBytesAny
import KE.KRevSl
import KE.KSlice
import PyProof.IsiBase
import KE.KDictIter
import PyProof.RulesDel
import PyProof.DictValues
import KE.KStar
import KE.KBoundM
import PyProof.Cells
import PyProof.ListCopy
import PyProof.NeData
import PyProof.EnumMake
import PyProof.EnumFor
import KE.LcSums
import PyProof.Rows.EqBoolInt
import PySem.Challenge.RW_op0144_01
set_option Elab.async false
set_option maxRecDepth 100000
set_option linter.unusedVariables false
set_option compiler.extract_closed false
namespace Mine
open PySem PySem.W PyProof.Rows
section Lay
/-- values without their tokens -/
inductive V where
  | none | bool (b : Bool) | int (i : Int) | str (s : Str) | bytes (b : Array UInt8) | ref (a : Addr) | type (n : String) | bi (n : String)

inductive Is : Value → V → Prop where
  | none : Is .none .none
  | bool {b} : Is (.bool b) (.bool b)
  | int {i t} : Is (.int i t) (.int i)
  | str {s t} : Is (.str s t) (.str s)
  | bytes {b t} : Is (.bytes b t) (.bytes b)
  | ref {a} : Is (.ref a) (.ref a)
  | type {n} : Is (.type n) (.type n)
  | bi {n} : Is (.builtin n) (.bi n)

/-- what holds of every value that is v up to its token -/
noncomputable def V.All : V → (Value → Prop) → Prop
  | .none, P => P .none
  | .bool b, P => P (.bool b)
  | .int i, P => ∀ t, P (.int i t)
  | .str s, P => ∀ t, P (.str s t)
  | .bytes b, P => ∀ t, P (.bytes b t)
  | .ref a, P => P (.ref a)
  | .type n, P => P (.type n)
  | .bi n, P => P (.builtin n)
theorem V.All.is {v : V} {P : Value → Prop} (h : v.All P) {u : Value} (hu : Is u v) : P u := by
  cases hu <;> first | exact h | exact h _

inductive Isl : List Value → List V → Prop where
  | nil : Isl [] []
  | cons {u us v vs} : Is u v → Isl us vs → Isl (u :: us) (v :: vs)
theorem Isl.length {us vs} (h : Isl us vs) : us.length = vs.length := by
  induction h with
  | nil => rfl
  | cons _ _ ih => simp [ih]
theorem Isl.get {us vs} (h : Isl us vs) : ∀ {i : Nat} {v : V}, vs[i]? = some v → ∃ u, us[i]? = some u ∧ Is u v := by
  induction h with
  | nil => intro i v e; simp at e
  | cons hu _ ih =>
    intro i v e
    cases i with
    | zero => simp at e; subst e; exact ⟨_, by simp, hu⟩
    | succ i => simp at e; simpa using ih e
theorem Isl.append {us vs us' vs'} (h : Isl us vs) (h' : Isl us' vs') : Isl (us ++ us') (vs ++ vs') := by
  induction h with
  | nil => exact h'
  | cons a _ ih => exact .cons a ih
theorem Isl.snoc {us vs u v} (h : Isl us vs) (h' : Is u v) : Isl (us ++ [u]) (vs ++ [v]) := h.append (.cons h' .nil)

/-- entries of a dict keyed by ints -/
inductive DEs : List DictEntry → List (Int × V) → Prop where
  | nil : DEs [] []
  | cons {i t u v ds es} : Is u v → DEs ds es → DEs (⟨hashInt i, .int i t, u⟩ :: ds) ((i, v) :: es)
/-- entries of a dict keyed by names -/
inductive NEs : List DictEntry → List Str → List (Option V) → Prop where
  | nil : NEs [] [] []
  | cons {x h t u v ds ns vs} : Is u v → NEs ds ns vs → NEs (⟨h, .str x t, u⟩ :: ds) (x :: ns) (some v :: vs)
inductive SlotsAre : List (Option Value) → List (Option V) → Prop where
  | nil : SlotsAre [] []
  | non {us vs} : SlotsAre us vs → SlotsAre (none :: us) (none :: vs)
  | som {u v us vs} : Is u v → SlotsAre us vs → SlotsAre (some u :: us) (some v :: vs)

/-- objects without tokens and epochs -/
inductive O where
  | list (xs : List V)
  | tuple (xs : List V)
  | cell (v : Option V)
  | dict (es : List (Int × V)) (n : Nat)
  | idict (ns : List Str) (vs : List (Option V))
  | inst (C D : Addr)
  | node (C D : Addr) (vs : List (Option V))
  | pred (P : Obj → Prop)

noncomputable def Sat : O → Obj → Prop
  | .list xs, o => ∃ us n, o = { cls := .type "list", data := .seq us.toArray n } ∧ Isl us xs
  | .tuple xs, o => ∃ us n, o = { cls := .type "tuple", data := .seq us.toArray n } ∧ Isl us xs
  | .cell v, o => ∃ u, o = { cls := .type "cell", data := .cell u } ∧ SlotsAre [u] [v]
  | .dict es n, o => ∃ ds, o = { cls := .type "dict", data := .dict ds.toArray n } ∧ DEs ds es ∧ (es.map (·.1)).Nodup
  | .idict ns vs, o => ∃ ds n, o = { cls := .type "dict", data := .dict ds.toArray n } ∧ NEs ds ns vs
  | .inst C D, o => o = instObj C D
  | .node C D vs, o => ∃ us, o = { cls := .ref C, dict := some D, data := .plain, slots := us.toArray } ∧ SlotsAre us vs
  | .pred P, o => P o

structure Frm where
  L : Addr
  ns : List Str
  vs : List (Option V)

noncomputable def Vars (m : Str → Option Value) : List Str → List (Option V) → Prop
  | n :: ns, some v :: vs => (∃ u, m n = some u ∧ Is u v) ∧ Vars m ns vs
  | _ :: ns, none :: vs => Vars m ns vs
  | [], [] => True
  | _, _ => False

/-- the state: what was there when law began (b), the frames (the running one first), the ledger -/
structure St (b : Shared) (fs : List Frm) (led : List (Addr × O)) (s : Shared) : Prop where
  keep : ∀ a o, b.heap.get? a = some o → s.heap.get? a = some o
  fr : ∀ f ∈ fs, ∃ m, s.heap.Ns f.L m ∧ Vars m f.ns f.vs
  lg : ∀ p ∈ led, ∃ o, s.heap.get? p.1 = some o ∧ Sat p.2 o
  nd : (fs.map (·.L) ++ led.map (·.1)).Nodup
  new : ∀ a ∈ fs.map (·.L) ++ led.map (·.1), b.heap.get? a = none ∧ 3 < a
  top : ∀ a ≤ 3, ∃ o, b.heap.get? a = some o
  gens : s.gens = #[]
  os : s.os = b.os

inductive Lk : List Str → List (Option V) → Str → V → Prop where
  | here {x v ns vs} : Lk (x :: ns) (some v :: vs) x v
  | there {x v n w ns vs} : Lk ns vs x v → Lk (n :: ns) (w :: vs) x v
inductive Up : List Str → List (Option V) → Str → V → List (Option V) → Prop where
  | here {x v w ns vs} : Up (x :: ns) (w :: vs) x v (some v :: vs)
  | there {x v n w ns vs vs'} : Up ns vs x v vs' → Up (n :: ns) (w :: vs) x v (w :: vs')
inductive Upd : List (Addr × O) → Addr → O → O → List (Addr × O) → Prop where
  | here {a K K' l} : Upd ((a, K) :: l) a K K' ((a, K') :: l)
  | there {p a K K' l l'} : Upd l a K K' l' → Upd (p :: l) a K K' (p :: l')

theorem Lk.vars {ns vs x v m} (h : Lk ns vs x v) (hv : Vars m ns vs) : ∃ u, m x = some u ∧ Is u v := by
  induction h with
  | here => exact hv.1
  | @there _ _ _ w _ _ _ ih =>
    cases w with
    | none => exact ih hv
    | some _ => exact ih hv.2
theorem Lk.mem {ns vs x v} (h : Lk ns vs x v) : x ∈ ns := by
  induction h with
  | here => exact .head _
  | there _ ih => exact .tail _ ih
theorem Up.mem {ns vs x v vs'} (h : Up ns vs x v vs') : x ∈ ns := by
  induction h with
  | here => exact .head _
  | there _ ih => exact .tail _ ih
theorem Vars.congr {m m' : Str → Option Value} : ∀ {ns vs}, Vars m ns vs → (∀ x ∈ ns, m' x = m x) → Vars m' ns vs
  | n :: ns, some v :: vs, ⟨⟨u, hu, iu⟩, hr⟩, e => ⟨⟨u, (e n (.head _)).trans hu, iu⟩, hr.congr fun x hx => e x (.tail _ hx)⟩
  | n :: ns, none :: vs, hr, e => Vars.congr (ns := ns) (vs := vs) hr fun x hx => e x (.tail _ hx)
  | [], [], _, _ => trivial
  | [], _ :: _, h, _ => h.elim
  | _ :: _, [], h, _ => by simp [Vars] at h
theorem Up.vars {ns vs x v vs'} {m : Str → Option Value} {u : Value} (h : Up ns vs x v vs') (nd : ns.Nodup) (hu : Is u v) (hv : Vars m ns vs) :
    Vars (fun y => if y = x then some u else m y) ns vs' := by
  induction h with
  | @here x v w ns vs =>
    have hr : Vars m ns vs := by cases w with | none => exact hv | some _ => exact hv.2
    exact ⟨⟨u, by simp, hu⟩, hr.congr fun y hy => if_neg fun (e : y = x) => (List.nodup_cons.mp nd).1 (e ▸ hy)⟩
  | @there x v n w ns vs vs' h ih =>
    have nd' := List.nodup_cons.mp nd
    have hne : n ≠ x := fun e => nd'.1 (e ▸ h.mem)
    cases w with
    | none => exact ih nd'.2 hu hv
    | some w => exact ⟨by obtain ⟨⟨u', h1, h2⟩, _⟩ := hv; exact ⟨u', by simp [hne, h1], h2⟩, ih nd'.2 hu hv.2⟩
theorem Upd.mem {l a K K' l'} (h : Upd l a K K' l') : (a, K) ∈ l := by
  induction h with
  | here => exact .head _
  | there _ ih => exact .tail _ ih
theorem Upd.keys {l a K K' l'} (h : Upd l a K K' l') : l'.map (·.1) = l.map (·.1) := by
  induction h with
  | here => rfl
  | there _ ih => simp [ih]
theorem Upd.of {l a K K' l'} (h : Upd l a K K' l') (nd : (l.map (·.1)).Nodup) : ∀ p ∈ l', p = (a, K') ∨ (p ∈ l ∧ p.1 ≠ a) := by
  induction h with
  | @here a K K' l =>
    intro p hp
    rcases List.mem_cons.mp hp with rfl | hp
    · exact .inl rfl
    · refine .inr ⟨.tail _ hp, fun e => ?_⟩
      simp only [List.map_cons, List.nodup_cons] at nd
      exact nd.1 (e ▸ List.mem_map_of_mem hp)
  | @there q a K K' l l' h ih =>
    intro p hp
    simp only [List.map_cons, List.nodup_cons] at nd
    rcases List.mem_cons.mp hp with rfl | hp
    · exact .inr ⟨.head _, fun e => nd.1 (e ▸ List.mem_map_of_mem (f := (·.1)) h.mem)⟩
    · rcases ih nd.2 p hp with e | ⟨e1, e2⟩
      · exact .inl e
      · exact .inr ⟨.tail _ e1, e2⟩

section
variable {b s : Shared} {fs : List Frm} {led : List (Addr × O)}

theorem St.at (S : St b fs led s) {a : Addr} {K : O} (h : (a, K) ∈ led) : ∃ o, s.heap.get? a = some o ∧ Sat K o := S.lg _ h
theorem St.fresh (S : St b fs led s) {a : Addr} (h : s.heap.get? a = none) : a ∉ fs.map (·.L) ++ led.map (·.1) := by
  intro hm
  rcases List.mem_append.mp hm with hm | hm
  · obtain ⟨f, hf, rfl⟩ := List.mem_map.mp hm
    obtain ⟨m, ⟨o, _, _, ho, _⟩, _⟩ := S.fr f hf
    rw [h] at ho; cases ho
  · obtain ⟨p, hp, rfl⟩ := List.mem_map.mp hm
    obtain ⟨o, ho, _⟩ := S.lg p hp
    rw [h] at ho; cases ho
theorem size_none (h : Heap) : h.get? h.objs.size = none := by
  cases q : h.get? h.objs.size with
  | none => rfl
  | some o => exact absurd (Heap.lt_size q) (Nat.lt_irrefl _)

theorem ge_none {h : Heap} {a : Addr} (hge : h.objs.size ≤ a) : h.get? a = none := by
  cases q : h.get? a with
  | none => rfl
  | some o => exact absurd (Heap.lt_size q) (Nat.not_lt.mpr hge)
theorem St.isNew (S : St b fs led s) {a : Addr} (hge : s.heap.objs.size ≤ a) : b.heap.get? a = none ∧ 3 < a := by
  refine ⟨?_, ?_⟩
  · cases q : b.heap.get? a with
    | none => rfl
    | some o' => have := S.keep _ _ q; rw [ge_none hge] at this; cases this
  · obtain ⟨o, ho⟩ := S.top 3 (Nat.le_refl _)
    exact Nat.lt_of_lt_of_le (Heap.lt_size (S.keep _ _ ho)) hge
theorem St.isNew' (S : St b fs led s) {a : Addr} (hn : s.heap.get? a = none) : b.heap.get? a = none ∧ 3 < a := by
  refine ⟨?_, ?_⟩
  · cases q : b.heap.get? a with
    | none => rfl
    | some o' => have := S.keep _ _ q; rw [hn] at this; cases this
  · refine Nat.lt_of_not_le fun h => ?_
    obtain ⟨o, ho⟩ := S.top a h
    have := S.keep _ _ ho
    rw [hn] at this; cases this
/-- nothing that stood is changed -/
theorem St.grow (S : St b fs led s) {h' : Heap} {tk : Nat} (hk : ∀ a o, s.heap.get? a = some o → h'.get? a = some o) : St b fs led { s with heap := h', toks := tk } where
  keep := fun a o e => hk a o (S.keep a o e)
  fr := fun f hf => let ⟨m, hn, hv⟩ := S.fr f hf; ⟨m, hn.keeps hk, hv⟩
  lg := fun p hp => let ⟨o, ho, hs⟩ := S.lg p hp; ⟨o, hk _ _ ho, hs⟩
  nd := S.nd
  new := S.new
  top := S.top
  gens := S.gens
  os := S.os
theorem St.tok (S : St b fs led s) {tk : Nat} : St b fs led { s with toks := tk } := S.grow fun _ _ e => e

/-- a new object -/
theorem St.addN (S : St b fs led s) {h' : Heap} {tk : Nat} {a : Addr} {o : Obj} {K : O} (hk : ∀ a o, s.heap.get? a = some o → h'.get? a = some o) (hn : s.heap.get? a = none) (ho : h'.get? a = some o) (hs : Sat K o) :
    St b fs ((a, K) :: led) { s with heap := h', toks := tk } := by
  have G := S.grow (tk := tk) hk
  have hf := S.fresh hn
  refine ⟨G.keep, G.fr, fun p hp => ?_, ?_, fun x hx => ?_, G.top, G.gens, G.os⟩
  · rcases List.mem_cons.mp hp with rfl | hp
    · exact ⟨o, ho, hs⟩
    · exact G.lg p hp
  · rw [List.map_cons, List.nodup_append]
    have nd := List.nodup_append.mp S.nd
    refine ⟨nd.1, List.nodup_cons.mpr ⟨fun q => hf (List.mem_append_right _ q), nd.2.1⟩, fun x hx y hy => ?_⟩
    rcases List.mem_cons.mp hy with rfl | hy
    · exact fun e => hf (List.mem_append_left _ (e ▸ hx))
    · exact nd.2.2 x hx y hy
  · have hb := S.isNew' hn
    rcases List.mem_append.mp hx with hx | hx
    · exact S.new x (List.mem_append_left _ hx)
    · rcases List.mem_cons.mp hx with rfl | hx
      · exact hb
      · exact S.new x (List.mem_append_right _ hx)
theorem St.add (S : St b fs led s) {h' : Heap} {tk : Nat} {a : Addr} {o : Obj} {K : O} (hk : ∀ a o, s.heap.get? a = some o → h'.get? a = some o) (hge : s.heap.objs.size ≤ a) (ho : h'.get? a = some o) (hs : Sat K o) :
    St b fs ((a, K) :: led) { s with heap := h', toks := tk } := S.addN hk (ge_none hge) ho hs
theorem St.push (S : St b fs led s) {o : Obj} {tk : Nat} {K : O} (hs : Sat K o) (hf : o.isFreed = false := by rfl) : St b fs ((s.heap.objs.size, K) :: led) { s with heap := s.heap.push o, toks := tk } :=
  S.add (fun _ _ e => Heap.get?_push_of_some _ e) (Nat.le_refl _) (Heap.get?_push_size _ hf) hs

/-- an object of the ledger changed -/
theorem St.upd (S : St b fs led s) {h' : Heap} {tk : Nat} {a : Addr} {o : Obj} {K K' : O} {led' : List (Addr × O)} (hu : Upd led a K K' led') (hk : Heap.ExtBut a s.heap h') (ho : h'.get? a = some o) (hs : Sat K' o) :
    St b fs led' { s with heap := h', toks := tk } := by
  have nd := List.nodup_append.mp S.nd
  have hm : a ∈ led.map (·.1) := List.mem_map_of_mem (f := (·.1)) hu.mem
  have hb := (S.new a (List.mem_append_right _ hm)).1
  refine ⟨fun x o e => hk x o (fun q => by rw [q, hb] at e; cases e) (S.keep x o e), fun f hf => ?_, fun p hp => ?_, by rw [hu.keys]; exact S.nd, fun x hx => S.new x (by rw [hu.keys] at hx; exact hx), S.top, S.gens, S.os⟩
  · obtain ⟨m, hn, hv⟩ := S.fr f hf
    exact ⟨m, hn.extBut hk (fun e => nd.2.2 _ (List.mem_map_of_mem (f := (·.L)) hf) _ hm e), hv⟩
  · rcases hu.of nd.2.1 p hp with rfl | ⟨hp, hne⟩
    · exact ⟨o, ho, hs⟩
    · obtain ⟨o', ho', hs'⟩ := S.lg p hp
      exact ⟨o', hk _ _ hne ho', hs'⟩

/-- the running frame stores a name -/
theorem St.set {L ns vs vs' fs'} {x : Str} {v : V} {u : Value} (S : St b (⟨L, ns, vs⟩ :: fs') led s) {m' : Str → Option Value} {h' : Heap} {tk : Nat} (hk : Heap.ExtBut L s.heap h') (hn : h'.Ns L m') (hv : Vars m' ns vs') :
    St b (⟨L, ns, vs'⟩ :: fs') led { s with heap := h', toks := tk } := by
  have hb := (S.new L (List.mem_append_left _ (.head _))).1
  have nd := S.nd
  rw [List.map_cons, List.cons_append, List.nodup_cons] at nd
  refine ⟨fun x o e => hk x o (fun q => by rw [q, hb] at e; cases e) (S.keep x o e), fun f hf => ?_, fun p hp => ?_, S.nd, S.new, S.top, S.gens, S.os⟩
  · rcases List.mem_cons.mp hf with rfl | hf
    · exact ⟨m', hn, hv⟩
    · obtain ⟨m, hn, hv⟩ := S.fr f (.tail _ hf)
      exact ⟨m, hn.extBut hk (fun e => nd.1 (e ▸ List.mem_append_left _ (List.mem_map_of_mem (f := (·.L)) hf))), hv⟩
  · obtain ⟨o, ho, hs⟩ := S.lg p hp
    exact ⟨o, hk _ _ (fun e => nd.1 (e ▸ List.mem_append_right _ (List.mem_map_of_mem hp))) ho, hs⟩

theorem St.pop {f fs'} (S : St b (f :: fs') led s) : St b fs' led s :=
  ⟨S.keep, fun g hg => S.fr g (.tail _ hg), S.lg, (List.nodup_cons.mp S.nd).2, fun a ha => S.new a (.tail _ ha), S.top, S.gens, S.os⟩
/-- forgetting -/
theorem St.sub {led' : List (Addr × O)} (S : St b fs led s) (h : List.Sublist led' led) : St b fs led' s :=
  ⟨S.keep, S.fr, fun p hp => S.lg p (h.subset hp), List.Nodup.sublist ((List.Sublist.refl _).append (h.map _)) S.nd,
    fun a ha => S.new a (by
      rcases List.mem_append.mp ha with ha | ha
      · exact List.mem_append_left _ ha
      · exact List.mem_append_right _ ((h.map _).subset ha)), S.top, S.gens, S.os⟩
theorem St.drop {p} (S : St b fs (p :: led) s) : St b fs led s := S.sub (List.sublist_cons_self _ _)
theorem St.perm {led' : List (Addr × O)} (S : St b fs led s) (h : List.Perm led' led) : St b fs led' s :=
  ⟨S.keep, S.fr, fun p hp => S.lg p (h.subset hp), ((List.Perm.refl _).append (h.map _)).nodup_iff.mpr S.nd,
    fun a ha => S.new a (((List.Perm.refl _).append (h.map (·.1))).subset ha), S.top, S.gens, S.os⟩
/-- a frame comes on -/
theorem St.enter {L ns vs} {m : Str → Option Value} (S : St b fs led s) {h' : Heap} {tk : Nat} (hk : ∀ a o, s.heap.get? a = some o → h'.get? a = some o) (hge : s.heap.objs.size ≤ L) (hn : h'.Ns L m) (hv : Vars m ns vs) :
    St b (⟨L, ns, vs⟩ :: fs) led { s with heap := h', toks := tk } := by
  have G := S.grow (tk := tk) hk
  have hf := S.fresh (ge_none hge)
  refine ⟨G.keep, fun f hfm => ?_, G.lg, List.nodup_cons.mpr ⟨hf, S.nd⟩, fun a ha => ?_, G.top, G.gens, G.os⟩
  · rcases List.mem_cons.mp hfm with rfl | hfm
    · exact ⟨m, hn, hv⟩
    · exact G.fr f hfm
  · rcases List.mem_cons.mp ha with e | ha
    · have e : a = L := e
      subst e
      exact S.isNew hge
    · exact S.new a ha
end
end Lay
section Rul
/-- what a scope says of its names -/
structure Loc (sc : Scope) (ns gs : List Str) : Prop where
  kind : sc.kind = .function
  loc : ∀ x ∈ ns, sc.names.lookup x = some .local
  glo : ∀ x ∈ gs, sc.names.lookup x = some .globalImplicit
  nd : ns.Nodup
  nb : ∀ x ∈ ns ++ gs, (x == ("__debug__" : Str)) = false
noncomputable def locOk (sc : Scope) (ns gs : List Str) : Bool :=
  decide (sc.kind = .function) && ns.all (fun x => decide (sc.names.lookup x = some .local)) && gs.all (fun x => decide (sc.names.lookup x = some .globalImplicit)) && decide ns.Nodup && (ns ++ gs).all fun x => !(x == ("__debug__" : Str))
theorem Loc.of {sc ns gs} (h : locOk sc ns gs = true) : Loc sc ns gs := by
  unfold locOk at h
  simp only [Bool.and_eq_true, decide_eq_true_eq, List.all_eq_true, Bool.not_eq_true'] at h
  obtain ⟨⟨⟨⟨h1, h2⟩, h3⟩, h4⟩, h5⟩ := h
  exact ⟨h1, h2, h3, h4, h5⟩

/-- the running block: its names, its frame -/
structure Ev (env : Env) (L : Addr) (ns gs : List Str) : Prop where
  loc : Loc env.scope ns gs
  L : env.locals = L
  gl : env.globals = mainGlobals
  bl : env.builtins = builtinsNs
theorem Ev.inter {env L ns gs} (h : Ev env L ns gs) : interactive env = false := by
  unfold interactive
  rw [h.loc.kind]; rfl

/-- the names of the program's top and of the interpreter -/
structure Gl (gl bl : List (Str × V)) (b : Shared) : Prop where
  top : ∃ mg mb, b.heap.Ns mainGlobals mg ∧ b.heap.Ns builtinsNs mb ∧ (∀ p ∈ gl, ∃ u, mg p.1 = some u ∧ Is u p.2) ∧ (∀ p ∈ bl, mg p.1 = none ∧ ∃ u, mb p.1 = some u ∧ Is u p.2)
  lim : b.heap.NoLimit

section
variable {M : Model} {prog : Program} {w : World} {A : Around} {E : Value → Shared → Prop} {b s : Shared} {fs : List Frm} {led : List (Addr × O)} {env : Env} {L : Addr} {ns gs : List Str} {vs : List (Option V)}
  {gl bl : List (Str × V)}

theorem ev_loc {x : Str} {pos : Pos} {v : V} {Q : Value → Shared → Prop} (S : St b (⟨L, ns, vs⟩ :: fs) led s) (hl : Ev env L ns gs) (hx : Lk ns vs x v) (k : v.All fun u => Q u s) :
    wpAny M A (eval (.Name x pos) env) Q E s := by
  obtain ⟨m, hn, hv⟩ := S.fr _ (.head _)
  obtain ⟨u, hu, iu⟩ := hx.vars hv
  obtain ⟨hl, rfl, hG, hB⟩ := hl
  exact wpAny_Name (wpAny_loadName_local hl.kind (hl.loc x hx.mem) hn hu (k.is iu)) (hl.nb x (List.mem_append_left _ hx.mem))
theorem ld_loc {x : Str} {v : V} {Q : Value → Shared → Prop} (S : St b (⟨L, ns, vs⟩ :: fs) led s) (hl : Ev env L ns gs) (hx : Lk ns vs x v) (k : v.All fun u => Q u s) :
    wpAny M A (loadName env x) Q E s := by
  obtain ⟨m, hn, hv⟩ := S.fr _ (.head _)
  obtain ⟨u, hu, iu⟩ := hx.vars hv
  obtain ⟨hl, rfl, hG, hB⟩ := hl
  exact wpAny_loadName_local hl.kind (hl.loc x hx.mem) hn hu (k.is iu)
theorem st_loc {x : Str} {u : Value} {v : V} {vs' : List (Option V)} {Q : Unit → Shared → Prop} (S : St b (⟨L, ns, vs⟩ :: fs) led s) (hl : Ev env L ns gs) (hu : Is u v) (hx : Up ns vs x v vs')
    (k : ∀ s', St b (⟨L, ns, vs'⟩ :: fs) led s' → Q () s') : wpAny M A (storeName env x u) Q E s := by
  obtain ⟨m, hn, hv⟩ := S.fr _ (.head _)
  obtain ⟨hl, rfl, hG, hB⟩ := hl
  refine wpAny_storeName_local (hl.loc x hx.mem) hn (fun h' hn' hs => k _ (S.set (x := x) (v := v) (u := u) hs.extBut hn' (hx.vars hl.nd hu hv))) ?_
  rw [hl.kind]; rfl
theorem ev_glb {x : Str} {pos : Pos} {v : V} {Q : Value → Shared → Prop} (S : St b fs led s) (g : Gl gl bl b) (hl : Ev env L ns gs) (hx : x ∈ gs) (hv : (x, v) ∈ gl) (k : v.All fun u => Q u s) :
    wpAny M A (eval (.Name x pos) env) Q E s := by
  obtain ⟨hl, rfl, hG, hB⟩ := hl
  obtain ⟨mg, mb, hg, hb, h1, _⟩ := g.top
  obtain ⟨u, hu, iu⟩ := h1 _ hv
  refine wpAny_Name ?_ (hl.nb x (List.mem_append_right _ hx))
  have hk : env.blockKind = .function := by unfold Env.blockKind; rw [hl.kind]; rfl
  have hx' : env.kindOf x = some .globalImplicit := hl.glo x hx
  unfold loadName
  rw [hl.kind]
  simp only [ScopeKind.isAnnotationScope, Bool.false_and, Bool.false_eq_true, if_false, hk, hx']
  exact Calls.loadGlobal_global (hG ▸ hg.keeps S.keep) hu (k.is iu)
theorem ev_blt {x : Str} {pos : Pos} {v : V} {Q : Value → Shared → Prop} (S : St b fs led s) (g : Gl gl bl b) (hl : Ev env L ns gs) (hx : x ∈ gs) (hv : (x, v) ∈ bl) (k : v.All fun u => Q u s) :
    wpAny M A (eval (.Name x pos) env) Q E s := by
  obtain ⟨hl, rfl, hG, hB⟩ := hl
  obtain ⟨mg, mb, hg, hb, _, h1⟩ := g.top
  obtain ⟨h0, u, hu, iu⟩ := h1 _ hv
  refine wpAny_Name ?_ (hl.nb x (List.mem_append_right _ hx))
  have hk : env.blockKind = .function := by unfold Env.blockKind; rw [hl.kind]; rfl
  have hx' : env.kindOf x = some .globalImplicit := hl.glo x hx
  unfold loadName
  rw [hl.kind]
  simp only [ScopeKind.isAnnotationScope, Bool.false_and, Bool.false_eq_true, if_false, hk, hx']
  exact Calls.loadGlobal_builtin (hG ▸ hg.keeps S.keep) h0 (hB ▸ hb.keeps S.keep) hu (k.is iu)


theorem ev_int {i : Int} {n : Nat} {pos : Pos} {Q : Value → Shared → Prop} (S : St b fs led s) (k : ∀ t s', St b fs led s' → Q (.int i t) s') : wpAny M A (eval (.Constant (.int i) n pos) env) Q E s :=
  wpAny_Constant_int (k _ _ S.tok)
theorem ev_str {x : Str} {n : Nat} {pos : Pos} {Q : Value → Shared → Prop} (S : St b fs led s) (k : ∀ t s', St b fs led s' → Q (.str x t) s') : wpAny M A (eval (.Constant (.str x) n pos) env) Q E s :=
  Calls.Constant_str (k _ _ S.tok)
theorem ev_none {n : Nat} {pos : Pos} {Q : Value → Shared → Prop} (k : Q .none s) : wpAny M A (eval (.Constant .none n pos) env) Q E s := wpAny_Constant_none k
theorem ev_bool {c : Bool} {n : Nat} {pos : Pos} {Q : Value → Shared → Prop} (k : Q (.bool c) s) : wpAny M A (eval (.Constant (.bool c) n pos) env) Q E s := wpAny_Constant_bool k
theorem ev_neg {i : Int} {n : Nat} {pos pos' : Pos} {Q : Value → Shared → Prop} (S : St b fs led s) (k : ∀ t s', St b fs led s' → Q (.int (-i) t) s') : wpAny (model prog w) A (eval (.UnaryOp .USub (.Constant (.int i) n pos) pos') env) Q E s :=
  lit_neg Q fun v tk hv => by cases hv s.heap; exact k _ _ S.tok

theorem sp_nil {pos : Pos} {Q : List Value → Shared → Prop} (k : Q [] s) : wpAny M A (spliced (backTo pos (starEach [] env))) Q E s := wpAny_pure k
theorem sp_cons {e : Expr} {rest : List Expr} {pos : Pos} {Q : List Value → Shared → Prop}
    (h : wpAny M A (eval e env) (fun v s₁ => wpAny M A (spliced (backTo pos (starEach rest env))) (fun vs s₂ => Q (v :: vs) s₂) E s₁) E s)
    (hs : starEach (e :: rest) env = (false, eval e env) :: starEach rest env := by rfl) : wpAny M A (spliced (backTo pos (starEach (e :: rest) env))) Q E s := by
  rw [hs]
  show wpAny M A (spliced ((false, eval e env) :: backTo pos (starEach rest env))) Q E s
  unfold spliced
  refine wpAny_bind (wpAny_mono h (fun v s₁ h₁ => ?_) fun _ _ x => x)
  exact wpAny_bind (wpAny_pure (wpAny_bind (wpAny_holding (wpAny_mono h₁ (fun vs s₂ h₂ => wpAny_pure h₂) fun _ _ x => x))))

theorem x_nil {Q : Flow → Shared → Prop} (h : Q .next s) : wpAny M A (execs [] env) Q E s := wpAny_execs_nil h
/-- what comes behind a statement -/
noncomputable def Then (M : Model) (A : Around) (E : Value → Shared → Prop) (env : Env) (rest : List Stmt) (Q : Flow → Shared → Prop) (f : Flow) (s : Shared) : Prop :=
  match f with
  | .next => wpAny M A (execs rest env) Q E s
  | f => Q f s
theorem x_cons {st : Stmt} {rest : List Stmt} {Q : Flow → Shared → Prop} (h : wpAny M A (exec st env) (Then M A E env rest Q) E s) : wpAny M A (execs (st :: rest) env) Q E s :=
  wpAny_execs_cons (wpAny_mono h (fun f s' h => by cases f <;> exact h) fun _ _ x => x)
theorem then_next {rest : List Stmt} {Q : Flow → Shared → Prop} (h : wpAny M A (execs rest env) Q E s) : Then M A E env rest Q .next s := h
theorem then_ret {rest : List Stmt} {Q : Flow → Shared → Prop} {v : Value} (h : Q (.ret v) s) : Then M A E env rest Q (.ret v) s := h
theorem then_brk {rest : List Stmt} {Q : Flow → Shared → Prop} (h : Q .brk s) : Then M A E env rest Q .brk s := h
theorem then_cont {rest : List Stmt} {Q : Flow → Shared → Prop} (h : Q .cont s) : Then M A E env rest Q .cont s := h

theorem x_return {e : Expr} {pos : Pos} {Q : Flow → Shared → Prop} (h : wpAny M A (eval e env) (fun v s' => Q (.ret v) s') E s) : wpAny M A (exec (.Return (some e) pos) env) Q E s := by
  show wpAny M A (do standAt pos; return .ret (← eval e env)) Q E s
  exact wpAny_bind (wpAny_standAt (wpAny_bind (wpAny_mono h (fun _ _ h => wpAny_pure h) fun _ _ x => x)))
theorem x_pass {pos : Pos} {Q : Flow → Shared → Prop} (h : Q .next s) : wpAny M A (exec (.Pass pos) env) Q E s := wpAny_bind (wpAny_standAt (wpAny_pure h))
theorem x_break {pos : Pos} {Q : Flow → Shared → Prop} (h : Q .brk s) : wpAny M A (exec (.Break pos) env) Q E s := wpAny_bind (wpAny_standAt (wpAny_pure h))
theorem x_continue {pos : Pos} {Q : Flow → Shared → Prop} (h : Q .cont s) : wpAny M A (exec (.Continue pos) env) Q E s := wpAny_bind (wpAny_standAt (wpAny_pure h))
theorem x_if {test : Expr} {body orelse : List Stmt} {pos : Pos} {Q : Flow → Shared → Prop}
    (h : wpAny M A (isTrue test env (eval test env)) (fun c s₂ => bif c then wpAny M A (execs body env) Q E s₂ else wpAny M A (execs orelse env) Q E s₂) E s) : wpAny M A (exec (.If test body orelse pos) env) Q E s :=
  wpAny_If (wpAny_mono h (fun c s' h => by cases c <;> exact h) fun _ _ x => x)

end
section
variable {P : Value → Prop}
theorem all_none (h : P .none) : V.All .none P := h
theorem all_bool {c} (h : P (.bool c)) : V.All (.bool c) P := h
theorem all_int {i} (h : ∀ t, P (.int i t)) : V.All (.int i) P := h
theorem all_str {x} (h : ∀ t, P (.str x t)) : V.All (.str x) P := h
theorem all_bytes {x} (h : ∀ t, P (.bytes x t)) : V.All (.bytes x) P := h
theorem all_ref {a} (h : P (.ref a)) : V.All (.ref a) P := h
theorem all_type {n} (h : P (.type n)) : V.All (.type n) P := h
theorem all_bi {n} (h : P (.builtin n)) : V.All (.bi n) P := h
end
section
variable {M : Model} {prog : Program} {w : World} {A : Around} {E : Value → Shared → Prop} {b s : Shared} {fs : List Frm} {led : List (Addr × O)} {env : Env}
theorem mk_list {us : List Value} {xs : List V} {Q : Value → Shared → Prop} (S : St b fs led s) (hx : Isl us xs) (hz : us.length ≤ 1000) (k : ∀ a s', St b fs ((a, .list xs) :: led) s' → Q (.ref a) s') : wpAny M A (newList us) Q E s := by
  refine wpAny_newList (k _ _ (S.push ⟨us, 0, rfl, hx⟩)) ?_
  simp only [sizeLine_eq]; omega
theorem mk_tuple {us : List Value} {xs : List V} {Q : Value → Shared → Prop} (S : St b fs led s) (hx : Isl us xs) (hz : us.length ≤ 1000) (k : ∀ a s', St b fs ((a, .tuple xs) :: led) s' → Q (.ref a) s') : wpAny M A (newTuple us) Q E s := by
  refine wpAny_newTuple (k _ _ (S.push ⟨us, 0, rfl, hx⟩)) ?_
  simp only [sizeLine_eq]; omega
end
end Rul
section Att
open PySem PySem.W PyProof.Rows PySem.Calls Builtin Builtin.ObjectAttr Builtin.Getset_descriptor

theorem NEs.len {ds ns vs} (h : NEs ds ns vs) : ds.length = ns.length := by
  induction h with
  | nil => rfl
  | cons _ _ ih => simp [ih]
theorem isStr_self (x y : Str) (t : Tok) : (Value.str x t).isStr y = (x == y) := rfl
theorem str_ne {y x : Str} {ns : List Str} (h : x ∈ ns) (h' : y ∉ ns) : (y == x) = false := by
  cases q : y == x with
  | false => rfl
  | true => exact absurd ((beq_iff_eq.mp q) ▸ h) h'
theorem str_ne' {y x : Str} {ns : List Str} (h' : x ∉ y :: ns) : (y == x) = false := by
  cases q : y == x with
  | false => rfl
  | true => exact absurd ((beq_iff_eq.mp q) ▸ List.Mem.head _) h'
theorem NEs.find {ds ns vs x v} (h : NEs ds ns vs) (hx : Lk ns vs x v) (nd : ns.Nodup) : ∃ e, ds.find? (fun e => e.key.isStr x) = some e ∧ Is e.val v := by
  induction h with
  | nil => cases hx
  | @cons y hh t u w ds ns vs hu _ ih =>
    rw [List.nodup_cons] at nd
    cases hx with
    | here => exact ⟨⟨hh, .str x t, u⟩, by rw [List.find?_cons]; simp only [Value.isStr, beq_self_eq_true], hu⟩
    | there hx =>
      obtain ⟨e, he, hv⟩ := ih hx nd.2
      exact ⟨e, by rw [List.find?_cons]; simp only [Value.isStr, str_ne hx.mem nd.1]; exact he, hv⟩
theorem NEs.noref {ds ns vs} (h : NEs ds ns vs) : ds.any (·.refKey) = false := by
  induction h with
  | nil => rfl
  | cons _ _ ih => simp only [List.any_cons, ih, Bool.or_false]; rfl
theorem NEs.miss {ds ns vs x} (h : NEs ds ns vs) (hx : x ∉ ns) : ds.find? (fun e => e.key.isStr x) = none := by
  induction h with
  | nil => rfl
  | @cons y hh t u w ds ns vs hu _ ih =>
    rw [List.find?_cons]
    simp only [Value.isStr, str_ne' hx]
    exact ih fun q => hx (.tail _ q)
theorem NEs.put {ds ns vs x v} {u : Value} (h : NEs ds ns vs) (nd : ns.Nodup) (hu : Is u v) (hs : Int) (key : Value) : ∀ {vs'}, Up ns vs x v vs' →
    ∃ ds', nsPutIn x.cps.size x.cps.toList (fun | some e => { e with val := u } | none => ⟨hs, key, u⟩) ds = (ds', false) ∧ NEs ds' ns vs' := by
  induction h with
  | nil => intro vs' hx; cases hx
  | @cons y hh t w0 w ds ns vs hw hr ih =>
    intro vs' hx
    rw [List.nodup_cons] at nd
    cases hx with
    | here => exact ⟨⟨hh, .str x t, u⟩ :: ds, by rw [nsPutIn, if_pos (by rw [Value.isStrByCps_eq]; simp [Value.isStr])], .cons hu hr⟩
    | there hx =>
      obtain ⟨ds', e1, e2⟩ := ih nd.2 hx
      exact ⟨⟨hh, .str y t, w0⟩ :: ds', by rw [nsPutIn, if_neg (by rw [Value.isStrByCps_eq]; simp [Value.isStr, str_ne hx.mem nd.1]), e1], .cons hw e2⟩
theorem NEs.app {ds ns vs x v} {u : Value} (h : NEs ds ns vs) (hx : x ∉ ns) (hu : Is u v) (hs : Int) (t : Tok) :
    ∃ ds', nsPutIn x.cps.size x.cps.toList (fun | some e => { e with val := u } | none => ⟨hs, .str x t, u⟩) ds = (ds', true) ∧ NEs ds' (ns ++ [x]) (vs ++ [some v]) := by
  induction h with
  | nil => exact ⟨[⟨hs, .str x t, u⟩], rfl, .cons hu .nil⟩
  | @cons y hh t' w0 w ds ns vs hw hr ih =>
    obtain ⟨ds', e1, e2⟩ := ih fun q => hx (.tail _ q)
    exact ⟨⟨hh, .str y t', w0⟩ :: ds', by rw [nsPutIn, if_neg (by rw [Value.isStrByCps_eq]; simp [Value.isStr, str_ne' hx]), e1], .cons hw e2⟩

section
variable {prog : Program} {w : World} {A : Around} {E : Value → Shared → Prop} {s : Shared} {K : Frag} {x C dx : Addr} {ox od : Obj} {name : Str} {R : Result → Shared → Prop}

/-- a store into an object's own dict, over the bare heap -/
theorem osa_dictS {tk : Tok} {v : Value} {es : List DictEntry} {n : Nat} (X : K.In s.heap) (I : InstAt s.heap x ox C (some od)) (hd : ox.dict = some dx) (hp : plainOver K C = true) (ht : takerIn K C name = some none) (hh : (clsIn K C).any (·.hasDict) = true)
    (hl : (lookIn name od).isSome = true) (e' : (Obj.putName name (PyData.keyHash w.params name) (.str name s.toks) v od).data = .dict es.toArray n) (hz : es.length ≤ 1000)
    (h : R (.ok (.ret .none)) { s with heap := s.heap.update dx (Obj.putName name (PyData.keyHash w.params name) (.str name s.toks) v), toks := s.toks + 1 }) :
    codeAny (model prog w) A (.call (.builtin "object.__setattr__") ⟨[.ref x, .str name tk, v], []⟩) R s := by
  refine osa_open X I hp ht fun b => ?_
  obtain ⟨cd, hc, hd'⟩ := any_some hh
  obtain ⟨hx, hcl, hn, D⟩ := I
  obtain ⟨oc, odi, oda, osl⟩ := ox
  dsimp only at hcl hd D
  subst hcl hd
  have D' : (s.heap.update dx (Obj.putName name (PyData.keyHash w.params name) (.str name s.toks) v)).get? dx = some (Obj.putName name (PyData.keyHash w.params name) (.str name s.toks) v od) :=
    Heap.get?_update_self _ D (Obj.isFreed_of_dict e')
  refine wpAny_bind (wpAny_pure (wpAny_bind (wpAny_bind (wpAny_loadPart hx (wpAny_bind ((looks_clsIn X hc).here ?_))))))
  rw [hd']
  refine wpAny_pure (a := some dx) (wpAny_bind (wpAny_pure (wpAny_bind ?_)))
  unfold nsSet
  refine wpAny_bind (wpAny_bind (wpAny_askSetting (wpAny_pure (wpAny_bind (wpAny_mkText (wpAny_bind (wpAny_loadPart D ?_)))))))
  unfold lookIn at hl
  split at hl
  · rename_i es₀ n₀ q
    rw [q]
    dsimp only
    have c : (!es₀.any (·.key.isStr name) && es₀.any (·.refKey)) = false := by
      rw [← Array.any_toList, ← Array.any_toList]
      split at hl
      · rename_i en he
        rw [List.any_eq_true.mpr ⟨en, List.mem_of_find?_eq_some he, List.find?_some he⟩]; rfl
      · split at hl
        · cases hl
        · rename_i z; rw [Bool.not_eq_true] at z; rw [z, Bool.and_false]
    rw [aRefKeyMayBeTheName_at, c]
    refine wpAny_updatePart D ?_
    refine wpAny_bind (wpAny_lookBehind D' (by rw [e']; exact pastItsLine_dict (by rw [List.size_toArray, sizeLine_eq]; omega)) ?_)
    exact wpAny_pure h
  · cases hl

/-- a store into a slot, over the bare heap -/
theorem slot_setS {odd : Option Obj} {v : Value} {p i : Nat} (X : K.In s.heap) (I : InstAt s.heap x ox C odd) (hp : slotIn K p C = some i) (hi : i < 1000)
    (h : R (.ok (.ret .none)) { s with heap := s.heap.update x fun o => { o with slots := (o.slots ++ Array.replicate (i + 1 - o.slots.size) none).setIfInBounds i (some v) } }) :
    codeAny (model prog w) A (.call (.builtin "member_descriptor.__set__") ⟨[.ref p, .ref x, v], []⟩) R s := by
  obtain ⟨n, tn, owner, behind, tb, d, sl, cd, ho, hc, hm, hb, rfl⟩ := slot_of X hp
  obtain ⟨hh, g, dr, t, os⟩ := s
  have L0 := I.type (M := model prog w)
  have L1 := looks_mroIn (M := model prog w) X hm
  have L2 : Looks (model prog w) hh (Slots.slotNamesOf (.ref C)) cd.slotNames := (looks_clsIn X hc).andThen .now
  have hx := I.at_
  dsimp only at ho hx L0 L1
  have f0 := looks_field (M := model prog w) ho 0 (v := .str n tn) rfl
  have f1 := looks_field (M := model prog w) ho 1 (v := owner) rfl
  have f3 := looks_field (M := model prog w) ho 3 (v := .builtin "proto.slot#set") rfl
  have f4 := looks_field (M := model prog w) ho 4 (v := .int behind tb) rfl
  refine codeAny_call_builtin KF.slot_mset.plain KF.entry_mset (KF.slot_mset.check _ _ _ _ _ _ _ _ ⟨_, ho, rfl⟩ (KF.args_mset _ _ _) ?_)
  unfold Builtin.«member_descriptor.__set__» descrSet descrStoreThrough descrCheckInstance descrNameAndClass isInstance
  have f5 : Looks (model prog w) hh (descrItself (.ref p)) [.ref p] := ((Looks.ld (part := none) ho).andThen .now).andThen (Looks.of_pure (by kernel_rfl))
  repeat lk
  refine ⟨Code.quiet_builtin _ (by decide +kernel), codeAny_builtin KF.entry_slotset ?_⟩
  unfold Builtin.«proto.slot#set» Slots.target
  repeat lk
  rw [if_neg hb]
  refine wpAny_pure (wpAny_bind ?_)
  unfold setSlotAt
  dsimp only
  rw [if_neg (by rw [sizeLine_eq]; omega)]
  exact wpAny_updatePart hx (wpAny_pure h)
end

/-- what is asked of a class of the program -/
structure KC (K : Frag) (C : Addr) : Prop where
  ga : findIn K (.ref C) "__getattribute__" = some (some (.builtin "object.__getattribute__"))
  gat : findIn K (.ref C) "__getattr__" = some none
  sa : findIn K (.ref C) "__setattr__" = some (some (.builtin "object.__setattr__"))
  over : plainOver K C = true

noncomputable def V.ok : V → Bool
  | .bi _ => false
  | _ => true
theorem ok_ref {a} : V.ok (.ref a) = true := rfl
theorem ok_int {a} : V.ok (.int a) = true := rfl
theorem ok_none : V.ok .none = true := rfl
theorem handed_ok {u : Value} {v : V} (h : Is u v) (hv : v.ok = true) : handedIn u = true := by
  cases h <;> first | rfl | cases hv

section
variable {prog : Program} {w : World} {A : Around} {E : Value → Shared → Prop} {b s : Shared} {fs : List Frm} {led : List (Addr × O)} {K : Frag} {x C D : Addr} {name : Str} {ns : List Str} {vs : List (Option V)}

theorem lookIn_is {ds : List DictEntry} {n : Nat} (h : NEs ds ns vs) {v : V} (hx : Lk ns vs name v) (nd : ns.Nodup) : ∃ u, Is u v ∧ lookIn name ({ cls := .type "dict", data := .dict ds.toArray n } : Obj) = some (some u) := by
  obtain ⟨e, he, hv⟩ := h.find hx nd
  refine ⟨e.val, hv, ?_⟩
  unfold lookIn
  dsimp only
  rw [he]
theorem lookIn_not {ds : List DictEntry} {n : Nat} (h : NEs ds ns vs) (hx : name ∉ ns) : lookIn name ({ cls := .type "dict", data := .dict ds.toArray n } : Obj) = some none := by
  unfold lookIn
  dsimp only
  rw [h.miss hx, h.noref]
  rfl
theorem St.inst (S : St b fs led s) (h1 : (x, .inst C D) ∈ led) {ds : List DictEntry} {n : Nat} (h2 : s.heap.get? D = some { cls := .type "dict", data := .dict ds.toArray n }) :
    InstAt s.heap x (instObj C D) C (some { cls := .type "dict", data := .dict ds.toArray n }) := by
  obtain ⟨o, ho, hs⟩ := S.at h1
  cases (hs : o = _)
  exact ⟨ho, rfl, rfl, h2⟩

/-- an attribute out of the object's own dict -/
theorem at_get {v : V} {e : Bool} {Q : Value → Shared → Prop} (S : St b fs led s) (X : K.In b.heap) (kc : KC K C) (hd : (clsIn K C).any (·.hasDict) = true) (ha : findIn K (.ref C) name = some none) (nd : ns.Nodup) (h1 : (x, .inst C D) ∈ led) (h2 : (D, .idict ns vs) ∈ led)
    (hx : Lk ns vs name v) (hv : v.ok = true) (k : ∀ s', St b fs led s' → v.All fun u => Q u s') : wpAny (model prog w) A (getAttr (.ref x) name e) Q E s := by
  obtain ⟨o, ho, ds, n, rfl, hN⟩ := S.at h2
  obtain ⟨u, iu, hl⟩ := lookIn_is (n := n) hN hx nd
  obtain ⟨cd, hc, hd'⟩ := any_some hd
  refine get_value (X.keeps S.keep) (S.inst h1 ho) kc.ga (v := u) ?_ (handed_ok iu hv) ((k _ S.tok).is iu)
  simp only [findObj, hc, ha, Option.bind_some, W.ownOf, hd', if_true, hl]
/-- a method of the object's class -/
theorem at_meth {f : Addr} {pl : Sem Bool} {Q : Value × List Value → Shared → Prop} (S : St b fs led s) (X : K.In b.heap) (kc : KC K C) (ha : findIn K (.ref C) name = some (some (.ref f))) (hf : typeIn K (.ref f) = some (.type "function"))
    (h1 : (x, .inst C D) ∈ led) (h2 : (D, .idict ns vs) ∈ led) (hx : name ∉ ns) (k : Q (.ref f, [.ref x]) s) : wpAny (model prog w) A (getMethod (.ref x) name pl) Q E s := by
  obtain ⟨o, ho, ds, n, rfl, hN⟩ := S.at h2
  refine method_fn (X.keeps S.keep) (S.inst h1 ho) kc.ga kc.gat ha hf ?_ k
  simp only [shadowIn, lookIn_not hN hx, Option.map_some, Option.isSome_none]

theorem put_obj {ds ds' : List DictEntry} {n : Nat} {hs : Int} {key u : Value} {c : Bool} (e : nsPutIn name.cps.size name.cps.toList (fun | some e => { e with val := u } | none => ⟨hs, key, u⟩) ds = (ds', c)) :
    ∃ n', Obj.putName name hs key u { cls := .type "dict", data := .dict ds.toArray n } = { cls := .type "dict", data := .dict ds'.toArray n' } := by
  unfold Obj.putName
  dsimp only
  generalize hq : nsPutIn _ _ _ _ = q
  have hq' : q = (ds', c) := hq.symm.trans e
  subst hq'
  cases c
  · exact ⟨n, rfl⟩
  · exact ⟨n + 1, rfl⟩
/-- an attribute stored, over another -/
theorem at_set {u : Value} {v : V} {vs' : List (Option V)} {led' : List (Addr × O)} {Q : Unit → Shared → Prop} (S : St b fs led s) (X : K.In b.heap) (kc : KC K C) (hd : (clsIn K C).any (·.hasDict) = true) (ha : takerIn K C name = some none) (nd : ns.Nodup) (h1 : (x, .inst C D) ∈ led)
    (h2 : Upd led D (.idict ns vs) (.idict ns vs') led') (hu : Is u v) (hx : Up ns vs name v vs') (hz : ns.length ≤ 1000) (k : ∀ s', St b fs led' s' → Q () s') : wpAny (model prog w) A (setAttr (.ref x) name u) Q E s := by
  obtain ⟨o, ho, ds, n, rfl, hN⟩ := S.at h2.mem
  obtain ⟨ds', e1, e2⟩ := hN.put nd hu (PyData.keyHash w.params name) (.str name (s.toks + 1)) hx
  obtain ⟨n', e3⟩ := put_obj (n := n) e1
  have hl : (lookIn name ({ cls := .type "dict", data := .dict ds.toArray n } : Obj)).isSome = true := by
    unfold lookIn
    dsimp only
    rw [hN.noref]
    cases ds.find? (·.key.isStr name) <;> rfl
  refine set_plain (X.keeps S.keep) (S.inst h1 ho) kc.sa ?_
  refine osa_dictS (s := { s with toks := s.toks + 1 }) (X.keeps S.keep) (S.inst h1 ho) rfl kc.over ha hd hl (es := ds') (n := n') (by rw [e3]) (by rw [e2.len]; exact hz) ?_
  refine k _ (S.upd h2 (Heap.SameBut.update ..).extBut (o := { cls := .type "dict", data := .dict ds'.toArray n' }) ?_ ⟨ds', n', rfl, e2⟩)
  rw [← e3]
  exact Heap.get?_update_self _ ho (by rw [e3]; rfl)
/-- an attribute stored for the first time -/
theorem at_new {u : Value} {v : V} {led' : List (Addr × O)} {Q : Unit → Shared → Prop} (S : St b fs led s) (X : K.In b.heap) (kc : KC K C) (hd : (clsIn K C).any (·.hasDict) = true) (ha : takerIn K C name = some none) (h1 : (x, .inst C D) ∈ led)
    (hu : Is u v) (h2 : Upd led D (.idict ns vs) (.idict (ns ++ [name]) (vs ++ [some v])) led') (hx : name ∉ ns) (hz : ns.length < 1000) (k : ∀ s', St b fs led' s' → Q () s') : wpAny (model prog w) A (setAttr (.ref x) name u) Q E s := by
  obtain ⟨o, ho, ds, n, rfl, hN⟩ := S.at h2.mem
  obtain ⟨ds', e1, e2⟩ := hN.app hx hu (PyData.keyHash w.params name) (s.toks + 1)
  obtain ⟨n', e3⟩ := put_obj (n := n) e1
  have hl : (lookIn name ({ cls := .type "dict", data := .dict ds.toArray n } : Obj)).isSome = true := by rw [lookIn_not hN hx]; rfl
  refine set_plain (X.keeps S.keep) (S.inst h1 ho) kc.sa ?_
  refine osa_dictS (s := { s with toks := s.toks + 1 }) (X.keeps S.keep) (S.inst h1 ho) rfl kc.over ha hd hl (es := ds') (n := n') (by rw [e3]) (by rw [e2.len, List.length_append]; exact hz) ?_
  refine k _ (S.upd h2 (Heap.SameBut.update ..).extBut (o := { cls := .type "dict", data := .dict ds'.toArray n' }) ?_ ⟨ds', n', rfl, e2⟩)
  rw [← e3]
  exact Heap.get?_update_self _ ho (by rw [e3]; rfl)

theorem St.nodeAt (S : St b fs led s) {us : List (Option Value)} (h1 : s.heap.get? x = some { cls := .ref C, dict := some D, data := .plain, slots := us.toArray }) (h2 : (D, .idict [] []) ∈ led) :
    ∃ od, InstAt s.heap x { cls := .ref C, dict := some D, data := .plain, slots := us.toArray } C (some od) := by
  obtain ⟨o, ho, _⟩ := S.at h2
  exact ⟨o, h1, rfl, rfl, ho⟩
theorem SlotsAre.get {us vs} (h : SlotsAre us vs) : ∀ {i : Nat} {v : V}, vs[i]? = some (some v) → ∃ u, us[i]? = some (some u) ∧ Is u v := by
  induction h with
  | nil => intro i v e; simp at e
  | non _ ih =>
    intro i v e
    cases i with
    | zero => simp at e
    | succ i => simpa using ih (by simpa using e)
  | som hu _ ih =>
    intro i v e
    cases i with
    | zero => simp at e; subst e; exact ⟨_, by simp, hu⟩
    | succ i => simpa using ih (by simpa using e)
theorem SlotsAre.len {us vs} (h : SlotsAre us vs) : us.length = vs.length := by
  induction h with
  | nil => rfl
  | non _ ih => simp [ih]
  | som _ _ ih => simp [ih]
theorem SlotsAre.pad {us vs} (h : SlotsAre us vs) (n : Nat) : SlotsAre (us ++ List.replicate n none) (vs ++ List.replicate n none) := by
  induction h with
  | nil => induction n with
    | zero => exact .nil
    | succ n ih => exact .non ih
  | non _ ih => exact .non ih
  | som a _ ih => exact .som a ih
theorem SlotsAre.set {us vs} (h : SlotsAre us vs) {u : Value} {v : V} (hu : Is u v) : ∀ i, SlotsAre (us.set i (some u)) (vs.set i (some v)) := by
  induction h with
  | nil => intro i; exact .nil
  | non h ih => intro i; cases i with
    | zero => exact .som hu h
    | succ i => exact .non (ih i)
  | som a h ih => intro i; cases i with
    | zero => exact .som hu h
    | succ i => exact .som a (ih i)

/-- what a slot descriptor of a class says -/
structure KSlot (K : Frag) (C : Addr) (name : Str) (p i : Nat) : Prop where
  find : findIn K (.ref C) name = some (some (.ref p))
  get : specialIn K (.ref p) "__get__" = some (some (.builtin "member_descriptor.__get__"))
  takes : takesIn K (.ref p) = some true
  slot : slotIn K p C = some i
  type : typeIn K (.ref p) = some (.type "member_descriptor")
  taker : takerIn K C name = some (some (.ref p))
  cls : isClsIn K C = true

/-- an attribute out of a slot -/
theorem sl_get {v : V} {p i : Nat} {vs : List (Option V)} {e : Bool} {Q : Value → Shared → Prop} (S : St b fs led s) (X : K.In b.heap) (kc : KC K C) (ks : KSlot K C name p i) (h1 : (x, .node C D vs) ∈ led) (h2 : (D, .idict [] []) ∈ led)
    (hx : vs[i]? = some (some v)) (hv : v.ok = true) (k : ∀ s', St b fs led s' → v.All fun u => Q u s') : wpAny (model prog w) A (getAttr (.ref x) name e) Q E s := by
  obtain ⟨o, ho, us, rfl, hN⟩ := S.at h1
  obtain ⟨od, I⟩ := S.nodeAt ho h2
  obtain ⟨u, hu, iu⟩ := hN.get hx
  obtain ⟨cd, hc⟩ := Option.isSome_iff_exists.mp ks.cls
  refine get_bind (X.keeps S.keep) I kc.ga (g := .builtin "member_descriptor.__get__") (a := .ref p) ?_ kc.gat ?_
  · simp only [findObj, hc, ks.find, Option.bind_some, ks.get, ks.takes]
  · refine wpAny_call (slot_get (s := { s with toks := s.toks + 1 }) (X.keeps S.keep) I ks.slot (v := u) ?_ ?_)
    · show (us.toArray[i]?).join = some u
      rw [List.getElem?_toArray, hu]; rfl
    · show wpAny _ _ (handedOut u) _ _ _
      rw [handedOut_of (handed_ok iu hv)]
      exact wpAny_pure ((k _ S.tok).is iu)
theorem sl_set {u : Value} {v : V} {p i : Nat} {vs vs' : List (Option V)} {led' : List (Addr × O)} {Q : Unit → Shared → Prop} (S : St b fs led s) (X : K.In b.heap) (kc : KC K C) (ks : KSlot K C name p i) (hi : i < 1000) (hu : Is u v)
    (h1 : Upd led x (.node C D vs) (.node C D vs') led') (hv : (vs ++ List.replicate (i + 1 - vs.length) none).set i (some v) = vs') (h2 : (D, .idict [] []) ∈ led) (k : ∀ s', St b fs led' s' → Q () s') : wpAny (model prog w) A (setAttr (.ref x) name u) Q E s := by
  obtain ⟨o, ho, us, rfl, hN⟩ := S.at h1.mem
  obtain ⟨od, I⟩ := S.nodeAt ho h2
  refine set_plain (X.keeps S.keep) I kc.sa ?_
  refine osa_descr (s := { s with toks := s.toks + 1 }) KF.slot_mset (X.keeps S.keep) I kc.over ks.taker ks.type ?_
  refine slot_setS (s := { s with toks := s.toks + 1 }) (X.keeps S.keep) I ks.slot hi ?_
  have z := (hN.pad (i + 1 - vs.length)).set hu i
  rw [hv] at z
  refine k _ (S.upd h1 (Heap.SameBut.update ..).extBut (o := { cls := .ref C, dict := some D, data := .plain, slots := ((us ++ List.replicate (i + 1 - vs.length) none).set i (some u)).toArray }) ?_ ⟨_, rfl, z⟩)
  refine (Heap.get?_update_self _ ho rfl).trans ?_
  simp only [List.size_toArray, hN.len]
  congr 2
  apply Array.ext'
  simp
end
end Att
section Cal
open PySem PySem.W PyProof.Rows PySem.Calls

/-- what is asked of the surroundings: room for n more frames, nothing handled, the frames' places -/
structure Ar (A : Around) (n : Nat) (Ls : List Addr) : Prop where
  depth : A.depth + n ≤ 900
  units : A.units + 10 * n ≤ 9000
  hand : A.handled = none
  guards : A.guards = some []
  frames : ∃ envs, A.frames = some envs ∧ envs.map (·.frame) = Ls.map some ∧ ∀ e ∈ envs, e.scope.kind ≠ .module

theorem Ar.room {A n Ls} (h : Ar A n Ls) : A.depth < recursionLimit := by
  have := h.depth
  show A.depth < 1000
  omega
theorem Ar.unit {A n Ls} (h : Ar A n Ls) : A.units < cLine := by
  have := h.units
  show A.units < 9900
  omega
theorem Ar.deeper {A n Ls} (h : Ar A (n + 1) Ls) {env : Env} {L : Addr} (hk : env.scope.kind = .function) (hf : env.frame = some L) : Ar (A.deeper env) n (L :: Ls) := by
  obtain ⟨envs, he, hm, hx⟩ := h.frames
  refine ⟨by have := h.depth; show A.depth + 1 + n ≤ 900; omega, by have := h.units; show A.units + 3 + 10 * n ≤ 9000; omega, h.hand, h.guards, env :: envs, by show A.frames.map _ = _; rw [he]; rfl, by simp [hm, hf], fun e hm => ?_⟩
  rcases List.mem_cons.mp hm with rfl | hm
  · rw [hk]; decide
  · exact hx e hm
theorem Ar.in1 {A n Ls} (h : Ar A (n + 1) Ls) : Ar A.in1 n Ls :=
  ⟨by have := h.depth; show A.depth + n ≤ 900; omega, by have := h.units; show A.units + 1 + 10 * n ≤ 9000; omega, h.hand, h.guards, h.frames⟩
theorem tc_guards (args : Args) : (Code.builtin "type.__call__" args).guards = [] := by
  have : guardIds.contains "type.__call__" = false := by decide +kernel
  simp only [Code.guards, Code.isGuard, this, Bool.false_eq_true, if_false]
theorem tc_units (args : Args) : (Code.builtin "type.__call__" args).cUnits = 1 := by kernel_rfl
theorem Ar.make {A n Ls} (h : Ar A (n + 1) Ls) {C : Addr} {vals : List Value} : Ar (A.under (.builtin "type.__call__" ⟨.ref C :: vals, []⟩)) n Ls := by
  obtain ⟨envs, he, hx⟩ := h.frames
  refine ⟨by have := h.depth; show A.depth + 1 + n ≤ 900; omega, ?_, h.hand, ?_, envs, ?_, hx⟩
  · have := h.units
    simp only [Around.under, tc_units]
    omega
  · simp only [Around.under, tc_guards, pushGuards, h.guards]
  · rw [← he]; rfl
theorem Ar.le {A n m Ls} (h : Ar A n Ls) (hm : m ≤ n) : Ar A m Ls := ⟨by have := h.depth; omega, by have := h.units; omega, h.hand, h.guards, h.frames⟩

noncomputable def retv : Flow → Value
  | .ret v => v
  | _ => .none
/-- a call that comes back -/
noncomputable def Ret (Q : Value → Shared → Prop) (r : Result) (s : Shared) : Prop := match r with
  | .ok (.ret v) => Q v s
  | _ => False

section
variable {M : Model} {prog : Program} {w : World} {A : Around} {E : Value → Shared → Prop} {b s : Shared} {fs : List Frm} {led : List (Addr × O)} {env : Env} {gl bl : List (Str × V)} {K : Frag}

theorem call_ret {f : Value} {args : List Value} {kw : List (Str × Value)} {Q : Value → Shared → Prop} (h : codeAny M A (.call f ⟨args, kw⟩) (Ret Q) s) : wpAny M A (call f args kw) Q E s :=
  wpAny_call (codeAny_mono h fun r s' z => by rcases r with e | (_ | _ | _ | v) <;> first | exact z | exact z.elim)

/-- a call of a function of the program -/
theorem code_fn {oc : Value} {od : Option Addr} {osl : Array (Option Value)} {name qual : Str} {params : Arguments} {body : List Stmt} {scope : Scope} {dV kV doc pm cdv ct : Value} {an : Option Addr} {f : Addr} {args : List Value} {kw : List (Str × Value)} {binds : List (Str × Value)}
    {ns' gs' : List Str} {vs' : List (Option V)} {n : Nat} {Ls : List Addr} {Q : Value → Shared → Prop}
    (S : St b fs led s) (g : Gl gl bl b) (X : K.In b.heap) (hA : Ar A (n + 1) Ls) (ho : K.lookup f = some ⟨oc, od, .func (fnOf name qual params body scope dV kV doc pm an cdv ct), osl⟩) (hcd : codeIn K cdv qual = true)
    (hl : Loc scope ns' gs') (hbind : BindsTo s (fnOf name qual params body scope dV kV doc pm an cdv ct) ⟨args, kw⟩ binds) (hb : ∀ y ∈ binds, y.1 ∈ ns') (hv : Vars (fun y => binds.reverse.lookup y) ns' vs')
    (h : ∀ env A' L' s', Ev env L' ns' gs' → Ar A' n (L' :: Ls) → St b (⟨L', ns', vs'⟩ :: fs) led s' → wpAny (model prog w) A' (execs body env) (fun fl s'' => Q (retv fl) s'') (fun _ _ => False) s')
    (hco : scope.isCoroutine = false := by rfl) (hgen : scope.isGenerator = false := by rfl)
    (hcell : (scope.names.all fun x => x.2 != .cell) = true := by rfl) : codeAny (model prog w) A (.call (.ref f) ⟨args, kw⟩) (Ret Q) s := by
  have X' : K.In s.heap := X.keeps S.keep
  refine codeAny_call_def (fd := fnOf name qual params body scope dV kV doc pm an cdv ct) (body := body) (binds := binds) hA.room (X' _ _ ho) rfl (g.lim.keeps S.keep) (codeRec_of X' hcd) rfl hbind
    (fun x hx => by have := List.all_eq_true.mp hcell x hx; simpa using this) (fun y hy => hl.loc _ (hb y hy)) (fun h₁ hns hk₁ => ?_) hco hgen hl.kind
  refine wpAny_mono (h (envOf qual scope s.heap.objs.size f cdv) _ s.heap.objs.size _ ⟨hl, rfl, rfl, rfl⟩ (hA.deeper (env := envOf qual scope s.heap.objs.size f cdv) hl.kind rfl) (S.enter hk₁ (Nat.le_refl _) hns hv)) (fun fl s' hq => ?_) fun _ _ x => x.elim
  cases fl <;> exact hq

/-- an object of a class of the program -/
theorem code_make {C fI : Addr} {rest : List Value} {KO : Addr → O} {Q : Value → Shared → Prop} (S : St b fs led s) (X : K.In b.heap) (hm : makesIn K C = true) (hi : findIn K (.ref C) "__init__" = some (some (.ref fI))) (hf : typeIn K (.ref fI) = some (.type "function"))
    (hK : ∀ D, Sat (KO D) (instObj C D))
    (h : ∀ x D s', St b fs ((x, KO D) :: (D, .idict [] []) :: led) s' → codeAny (model prog w) (A.under (.builtin "type.__call__" ⟨.ref C :: rest, []⟩)) (.call (.ref fI) ⟨.ref x :: rest, []⟩) (Ret fun v s'' => v = .none ∧ Q (.ref x) s'') s') :
    codeAny (model prog w) A (.call (.ref C) ⟨rest, []⟩) (Ret Q) s := by
  obtain ⟨hh, g, d, t, os⟩ := s
  have X' : K.In hh := X.keeps S.keep
  refine make_core (makes_of X' hm) (looks_findIn X' hi) (fun self => bind_fn X' self hf) (.inl rfl) ?_
  have S1 := S.push (o := emptyDict) (tk := t) (K := .idict [] []) ⟨[], 0, rfl, .nil⟩
  have S2 := S1.push (o := instObj C hh.objs.size) (tk := t) (K := KO hh.objs.size) (hK _)
  have e : ({ heap := hh.push emptyDict, gens := g, drawn := d, toks := t, os := os } : Shared).heap.objs.size = hh.objs.size + 1 := Heap.size_push _ _
  rw [e] at S2
  refine codeAny_mono (h _ _ _ S2) fun r s' z => ?_
  rcases r with e | (_ | _ | _ | v) <;> first | exact z | exact z.elim

theorem cw_fn {pos : Pos} {f : Value} {first : List Value} {e : Expr} {rest : List Expr} {Q : Value → Shared → Prop} (X : K.In b.heap) (hk : keepIn K f = true)
    (h : wpAny M A (spliced (backTo pos (starEach (e :: rest) env))) (fun vs s₁ => (∀ a o, b.heap.get? a = some o → s₁.heap.get? a = some o) ∧ wpAny M A (call f (first ++ vs)) Q E s₁) E s)
    (he : starEach (e :: rest) env = (false, eval e env) :: starEach rest env := by rfl) (hplain : (backTo pos (starEach rest env)).any (·.1) = false := by rfl) :
    wpAny M A (callWith pos f first (backTo pos (starEach (e :: rest) env)) []) Q E s :=
  callWith_K X hk (wpAny_mono h (fun _ _ z => ⟨X.keeps z.1, z.2⟩) fun _ _ z => z) he hplain
theorem cw_fn0 {pos : Pos} {f : Value} {first : List Value} {Q : Value → Shared → Prop} (S : St b fs led s) (X : K.In b.heap) (hk : keepIn K f = true) (h : wpAny M A (call f (first ++ [])) Q E s) : wpAny M A (callWith pos f first (backTo pos (starEach [] env)) []) Q E s :=
  callWith_K0 (X.keeps S.keep) hk h
theorem cw_bi {pos : Pos} {id : String} {first : List Value} {e : Expr} {rest : List Expr} {Q : Value → Shared → Prop}
    (h : wpAny M A (spliced (backTo pos (starEach (e :: rest) env))) (fun vs s₁ => wpAny M A (call (.builtin id) (first ++ vs)) Q E s₁) E s)
    (he : starEach (e :: rest) env = (false, eval e env) :: starEach rest env := by rfl) (hplain : (backTo pos (starEach rest env)).any (·.1) = false := by rfl) :
    wpAny M A (callWith pos (.builtin id) first (backTo pos (starEach (e :: rest) env)) []) Q E s := by
  rw [he] at h ⊢
  exact Calls.callWith_builtin (by show (false || (backTo pos (starEach rest env)).any (·.1)) = false; rw [hplain]; rfl) (evalArgs_plain h)
theorem cw_bi0 {pos : Pos} {id : String} {first : List Value} {Q : Value → Shared → Prop} (h : wpAny M A (call (.builtin id) (first ++ [])) Q E s) : wpAny M A (callWith pos (.builtin id) first (backTo pos (starEach [] env)) []) Q E s :=
  Calls.callWith_builtin rfl (PySem.evalArgs_none h)
theorem cw_ty {pos : Pos} {T : String} {e : Expr} {rest : List Expr} {Q : Value → Shared → Prop}
    (h : wpAny M A (spliced (backTo pos (starEach (e :: rest) env))) (fun vs s₁ => wpAny M A (call (.type T) vs) Q E s₁) E s)
    (he : starEach (e :: rest) env = (false, eval e env) :: starEach rest env := by rfl) (hplain : (backTo pos (starEach rest env)).any (·.1) = false := by rfl) :
    wpAny M A (callWith pos (.type T) [] (backTo pos (starEach (e :: rest) env)) []) Q E s := by
  rw [he] at h ⊢
  exact PySem.callWith_type (by show (false || (backTo pos (starEach rest env)).any (·.1)) = false; rw [hplain]; rfl) (evalArgs_plain h)
theorem cw_ty0 {pos : Pos} {T : String} {Q : Value → Shared → Prop} (h : wpAny M A (call (.type T) []) Q E s) : wpAny M A (callWith pos (.type T) [] (backTo pos (starEach [] env)) []) Q E s :=
  PySem.callWith_type rfl (PySem.evalArgs_none h)
theorem ev_call {func : Expr} {args : List Expr} {pos : Pos} {Q : Value → Shared → Prop} (h : wpAny M A (eval func env) (fun f s₁ => wpAny M A (callWith pos f [] (backTo pos (starEach args env)) []) Q E s₁) E s)
    (he : eval (.Call func args [] pos) env = (do callWith pos (← eval func env) [] (backTo pos (starEach args env)) (backToKw pos (keywordEach [] env))) := by rfl) : wpAny M A (eval (.Call func args [] pos) env) Q E s := Call_ h he

theorem lookup_mem {l : List (Str × Value)} : ∀ {y v}, (l.map (·.1)).Nodup → (y, v) ∈ l → l.lookup y = some v := by
  induction l with
  | nil => intro y v _ h; cases h
  | cons p l ih =>
    intro y v nd h
    obtain ⟨k, u⟩ := p
    simp only [List.map_cons, List.nodup_cons] at nd
    rw [List.lookup_cons]
    rcases List.mem_cons.mp h with e | h
    · cases e; simp
    · have hne : (y == k) = false := by
        cases q : y == k with
        | false => rfl
        | true => exact absurd (by rw [← beq_iff_eq.mp q]; exact List.mem_map_of_mem (f := (·.1)) h) nd.1
      rw [hne]; exact ih nd.2 h
theorem vars_zip {m : Str → Option Value} : ∀ {pn : List Str} {args : List Value} {xs : List V} {rn : List Str}, Isl args xs → pn.length = args.length → (∀ y v, (y, v) ∈ pn.zip args → m y = some v) → Vars m (pn ++ rn) (xs.map some ++ rn.map fun _ => none)
  | [], [], [], rn, _, _, _ => by
    simp only [List.map_nil, List.nil_append]
    induction rn with
    | nil => trivial
    | cons r rn ih => exact ih
  | p :: pn, a :: args, x :: xs, rn, .cons ha hr, hl, hm => ⟨⟨a, hm _ _ (.head _), ha⟩, vars_zip hr (by simpa using hl) fun y v h => hm y v (.tail _ h)⟩
  | [], _ :: _, _, _, _, hl, _ => by simp at hl
  | _ :: _, [], _, _, _, hl, _ => by simp at hl
theorem zip_keys : ∀ {pn : List Str} {args : List Value}, pn.length = args.length → (pn.zip args).map (·.1) = pn
  | [], [], _ => rfl
  | p :: pn, a :: args, h => by simp only [List.zip_cons_cons, List.map_cons]; rw [zip_keys (by simpa using h)]
  | [], _ :: _, h => by simp at h
  | _ :: _, [], h => by simp at h
theorem nodup_reverse {l : List Str} (h : l.Nodup) : l.reverse.Nodup := (List.reverse_perm l).nodup_iff.mpr h

/-- a call of a function of the program by positional arguments -/
theorem code_pos {oc : Value} {od : Option Addr} {osl : Array (Option Value)} {name qual : Str} {params : Arguments} {body : List Stmt} {scope : Scope} {dV kV doc pm cdv ct : Value} {an : Option Addr} {f : Addr} {args : List Value}
    {pn rn gs' : List Str} {xs : List V} {n : Nat} {Ls : List Addr} {Q : Value → Shared → Prop}
    (S : St b fs led s) (g : Gl gl bl b) (X : K.In b.heap) (hA : Ar A (n + 1) Ls) (ho : K.lookup f = some ⟨oc, od, .func (fnOf name qual params body scope dV kV doc pm an cdv ct), osl⟩) (hcd : codeIn K cdv qual = true)
    (hl : Loc scope (pn ++ rn) gs') (hx : Isl args xs) (hbind : bindArgs (fnOf name qual params body scope dV kV doc pm an cdv ct) ⟨args, []⟩ = pure (pn.zip args)) (hlen : pn.length = args.length)
    (h : ∀ env A' L' s', Ev env L' (pn ++ rn) gs' → Ar A' n (L' :: Ls) → St b (⟨L', pn ++ rn, xs.map some ++ rn.map fun _ => none⟩ :: fs) led s' → wpAny (model prog w) A' (execs body env) (fun fl s'' => Q (retv fl) s'') (fun _ _ => False) s')
    (hco : scope.isCoroutine = false := by rfl) (hgen : scope.isGenerator = false := by rfl)
    (hcell : (scope.names.all fun x => x.2 != .cell) = true := by rfl) : codeAny (model prog w) A (.call (.ref f) ⟨args, []⟩) (Ret Q) s := by
  have nd : pn.Nodup := (List.nodup_append.mp hl.nd).1
  refine code_fn S g X hA ho hcd hl (binds := pn.zip args) (fun M A E Q h => by rw [hbind]; exact wpAny_pure h) (fun y hy => List.mem_append_left _ ?_) (vars_zip hx hlen fun y v hy => ?_) h hco hgen hcell
  · have := List.mem_map_of_mem (f := (·.1)) hy
    rwa [zip_keys hlen] at this
  · refine lookup_mem ?_ (List.mem_reverse.mpr hy)
    rw [List.map_reverse, zip_keys hlen]
    exact nodup_reverse nd
end

section
variable {M : Model} {A : Around} {E : Value → Shared → Prop} {b s : Shared} {fs : List Frm} {led : List (Addr × O)} {env : Env} {K : Frag} {pos : Pos} {Q : Value → Shared → Prop} {o : Value} {e e1 e2 e3 : Expr} {id T : String}
theorem sp1 {R : List Value → Shared → Prop} (h : wpAny M A (eval e env) (fun v s₁ => R [v] s₁) E s) (h1 : starEach [e] env = [(false, eval e env)] := by rfl) : wpAny M A (spliced (backTo pos (starEach [e] env))) R E s :=
  sp_cons (wpAny_mono h (fun _ _ z => sp_nil z) fun _ _ z => z) h1
theorem sp2 {R : List Value → Shared → Prop} (h : wpAny M A (eval e1 env) (fun v s₁ => wpAny M A (eval e2 env) (fun v' s₂ => R [v, v'] s₂) E s₁) E s)
    (h1 : starEach [e1, e2] env = (false, eval e1 env) :: starEach [e2] env := by rfl) (h2 : starEach [e2] env = [(false, eval e2 env)] := by rfl) : wpAny M A (spliced (backTo pos (starEach [e1, e2] env))) R E s :=
  sp_cons (wpAny_mono h (fun _ _ z => sp1 z h2) fun _ _ z => z) h1
theorem sp3 {R : List Value → Shared → Prop} (h : wpAny M A (eval e1 env) (fun v s₁ => wpAny M A (eval e2 env) (fun v' s₂ => wpAny M A (eval e3 env) (fun v'' s₃ => R [v, v', v''] s₃) E s₂) E s₁) E s)
    (h1 : starEach [e1, e2, e3] env = (false, eval e1 env) :: starEach [e2, e3] env := by rfl) (h2 : starEach [e2, e3] env = (false, eval e2 env) :: starEach [e3] env := by rfl) (h3 : starEach [e3] env = [(false, eval e3 env)] := by rfl) : wpAny M A (spliced (backTo pos (starEach [e1, e2, e3] env))) R E s :=
  sp_cons (wpAny_mono h (fun _ _ z => sp2 z h2 h3) fun _ _ z => z) h1
theorem any1 (h1 : starEach [e] env = [(false, eval e env)]) : (backTo pos (starEach [e] env)).any (·.1) = false := by rw [h1]; rfl
theorem any2 (h1 : starEach [e1, e2] env = (false, eval e1 env) :: starEach [e2] env) (h2 : starEach [e2] env = [(false, eval e2 env)]) : (backTo pos (starEach [e1, e2] env)).any (·.1) = false := by rw [h1, h2]; rfl

theorem cwm0 (h : wpAny M A (call (.builtin id) [o]) Q E s) : wpAny M A (callWith pos (.builtin id) [o] (backTo pos (starEach [] env)) []) Q E s := cw_bi0 h
theorem cwm1 (h : wpAny M A (eval e env) (fun v s₁ => wpAny M A (call (.builtin id) [o, v]) Q E s₁) E s) (h1 : starEach [e] env = [(false, eval e env)] := by rfl) :
    wpAny M A (callWith pos (.builtin id) [o] (backTo pos (starEach [e] env)) []) Q E s := cw_bi (sp1 h h1) h1 rfl
theorem cwb1 (h : wpAny M A (eval e env) (fun v s₁ => wpAny M A (call (.builtin id) [v]) Q E s₁) E s) (h1 : starEach [e] env = [(false, eval e env)] := by rfl) :
    wpAny M A (callWith pos (.builtin id) [] (backTo pos (starEach [e] env)) []) Q E s := cw_bi (sp1 h h1) h1 rfl
theorem cwb2 (h : wpAny M A (eval e1 env) (fun v s₁ => wpAny M A (eval e2 env) (fun v' s₂ => wpAny M A (call (.builtin id) [v, v']) Q E s₂) E s₁) E s)
    (h1 : starEach [e1, e2] env = (false, eval e1 env) :: starEach [e2] env := by rfl) (h2 : starEach [e2] env = [(false, eval e2 env)] := by rfl) :
    wpAny M A (callWith pos (.builtin id) [] (backTo pos (starEach [e1, e2] env)) []) Q E s := cw_bi (sp2 h h1 h2) h1 (any1 h2)
theorem cwt0 (h : wpAny M A (call (.type T) []) Q E s) : wpAny M A (callWith pos (.type T) [] (backTo pos (starEach [] env)) []) Q E s := cw_ty0 h
theorem cwt1 (h : wpAny M A (eval e env) (fun v s₁ => wpAny M A (call (.type T) [v]) Q E s₁) E s) (h1 : starEach [e] env = [(false, eval e env)] := by rfl) :
    wpAny M A (callWith pos (.type T) [] (backTo pos (starEach [e] env)) []) Q E s := cw_ty (sp1 h h1) h1 rfl
theorem cwt2 (h : wpAny M A (eval e1 env) (fun v s₁ => wpAny M A (eval e2 env) (fun v' s₂ => wpAny M A (call (.type T) [v, v']) Q E s₂) E s₁) E s)
    (h1 : starEach [e1, e2] env = (false, eval e1 env) :: starEach [e2] env := by rfl) (h2 : starEach [e2] env = [(false, eval e2 env)] := by rfl) :
    wpAny M A (callWith pos (.type T) [] (backTo pos (starEach [e1, e2] env)) []) Q E s := cw_ty (sp2 h h1 h2) h1 (any1 h2)
theorem cwt3 (h : wpAny M A (eval e1 env) (fun v s₁ => wpAny M A (eval e2 env) (fun v' s₂ => wpAny M A (eval e3 env) (fun v'' s₃ => wpAny M A (call (.type T) [v, v', v'']) Q E s₃) E s₂) E s₁) E s)
    (h1 : starEach [e1, e2, e3] env = (false, eval e1 env) :: starEach [e2, e3] env := by rfl) (h2 : starEach [e2, e3] env = (false, eval e2 env) :: starEach [e3] env := by rfl) (h3 : starEach [e3] env = [(false, eval e3 env)] := by rfl) :
    wpAny M A (callWith pos (.type T) [] (backTo pos (starEach [e1, e2, e3] env)) []) Q E s := cw_ty (sp3 h h1 h2 h3) h1 (any2 h2 h3)
/-- a call of a function, a class, a method of the program -/
theorem cwf0 {f : Value} (S : St b fs led s) (X : K.In b.heap) (hk : keepIn K f = true) (h : wpAny M A (call f []) Q E s) : wpAny M A (callWith pos f [] (backTo pos (starEach [] env)) []) Q E s := cw_fn0 S X hk h
theorem cwf1 {f : Value} (X : K.In b.heap) (hk : keepIn K f = true) (h : wpAny M A (eval e env) (fun v s₁ => (∀ a o, b.heap.get? a = some o → s₁.heap.get? a = some o) ∧ wpAny M A (call f [v]) Q E s₁) E s) (h1 : starEach [e] env = [(false, eval e env)] := by rfl) :
    wpAny M A (callWith pos f [] (backTo pos (starEach [e] env)) []) Q E s := cw_fn X hk (sp1 h h1) h1 rfl
theorem cwf2 {f : Value} (X : K.In b.heap) (hk : keepIn K f = true) (h : wpAny M A (eval e1 env) (fun v s₁ => wpAny M A (eval e2 env) (fun v' s₂ => (∀ a o, b.heap.get? a = some o → s₂.heap.get? a = some o) ∧ wpAny M A (call f [v, v']) Q E s₂) E s₁) E s)
    (h1 : starEach [e1, e2] env = (false, eval e1 env) :: starEach [e2] env := by rfl) (h2 : starEach [e2] env = [(false, eval e2 env)] := by rfl) :
    wpAny M A (callWith pos f [] (backTo pos (starEach [e1, e2] env)) []) Q E s := cw_fn X hk (sp2 h h1 h2) h1 (any1 h2)
theorem cwf3 {f : Value} (X : K.In b.heap) (hk : keepIn K f = true) (h : wpAny M A (eval e1 env) (fun v s₁ => wpAny M A (eval e2 env) (fun v' s₂ => wpAny M A (eval e3 env) (fun v'' s₃ => (∀ a o, b.heap.get? a = some o → s₃.heap.get? a = some o) ∧ wpAny M A (call f [v, v', v'']) Q E s₃) E s₂) E s₁) E s)
    (h1 : starEach [e1, e2, e3] env = (false, eval e1 env) :: starEach [e2, e3] env := by rfl) (h2 : starEach [e2, e3] env = (false, eval e2 env) :: starEach [e3] env := by rfl) (h3 : starEach [e3] env = [(false, eval e3 env)] := by rfl) :
    wpAny M A (callWith pos f [] (backTo pos (starEach [e1, e2, e3] env)) []) Q E s := cw_fn X hk (sp3 h h1 h2 h3) h1 (any2 h2 h3)
theorem cwg0 {f : Value} (S : St b fs led s) (X : K.In b.heap) (hk : keepIn K f = true) (h : wpAny M A (call f [o]) Q E s) : wpAny M A (callWith pos f [o] (backTo pos (starEach [] env)) []) Q E s := cw_fn0 S X hk h
theorem cwg1 {f : Value} (X : K.In b.heap) (hk : keepIn K f = true) (h : wpAny M A (eval e env) (fun v s₁ => (∀ a o, b.heap.get? a = some o → s₁.heap.get? a = some o) ∧ wpAny M A (call f [o, v]) Q E s₁) E s) (h1 : starEach [e] env = [(false, eval e env)] := by rfl) :
    wpAny M A (callWith pos f [o] (backTo pos (starEach [e] env)) []) Q E s := cw_fn X hk (sp1 h h1) h1 rfl
end
end Cal
section Dic
inductive KVs : List (Int × Value) → List (Int × V) → Prop where
  | nil : KVs [] []
  | cons {i u v ks es} : Is u v → KVs ks es → KVs ((i, u) :: ks) ((i, v) :: es)
theorem KVs.keys {ks es} (h : KVs ks es) : ks.map (·.1) = es.map (·.1) := by
  induction h with
  | nil => rfl
  | cons _ _ ih => simp [ih]
theorem KVs.len {ks es} (h : KVs ks es) : ks.length = es.length := by
  induction h with
  | nil => rfl
  | cons _ _ ih => simp [ih]
theorem KVs.app {ks es k u v} (h : KVs ks es) (hu : Is u v) : KVs (ks ++ [(k, u)]) (es ++ [(k, v)]) := by
  induction h with
  | nil => exact .cons hu .nil
  | cons a _ ih => exact .cons a ih
theorem KVs.filter {ks es} (h : KVs ks es) (p : Int → Bool) : KVs (ks.filter fun kv => p kv.1) (es.filter fun kv => p kv.1) := by
  induction h with
  | nil => exact .nil
  | @cons i u v ks es a _ ih =>
    simp only [List.filter_cons]
    cases p i
    · exact ih
    · exact .cons a ih
theorem KVs.get {ks es} (h : KVs ks es) : ∀ {i : Nat} {k : Int} {v : V}, es[i]? = some (k, v) → ∃ u, ks[i]? = some (k, u) ∧ Is u v := by
  induction h with
  | nil => intro i k v e; simp at e
  | cons a _ ih =>
    intro i k v e
    cases i with
    | zero => simp at e; obtain ⟨rfl, rfl⟩ := e; exact ⟨_, by simp, a⟩
    | succ i => simpa using ih (by simpa using e)
/-- the value at a key -/
noncomputable def atKey (es : List (Int × V)) (k : Int) : Option V := (es.find? fun kv => kv.1 = k).map (·.2)
theorem KVs.at {ks es} (h : KVs ks es) (k : Int) : match atKey es k with | some v => ∃ u, valueAt ks k = some u ∧ Is u v | none => valueAt ks k = none := by
  induction h with
  | nil => rfl
  | @cons i u v ks es a _ ih =>
    unfold atKey valueAt at ih ⊢
    simp only [List.find?_cons]
    by_cases q : i = k
    · simp only [q, decide_true, Option.map_some]
      exact ⟨u, rfl, a⟩
    · simp only [q, decide_false]
      exact ih

section
variable {prog : Program} {w : World}
theorem DEs.pairs {ds es} (h : DEs ds es) : ∃ ks, KVs ks es ∧ Pairs (intKind prog w) ds ks := by
  induction h with
  | nil => exact ⟨[], .nil, .nil⟩
  | @cons i t u v ds es a _ ih =>
    obtain ⟨ks, h1, h2⟩ := ih
    exact ⟨(i, u) :: ks, .cons a h1, .cons (by simp [intKind, Value.isInt]) rfl h2⟩
theorem DEs.keysOf {ds es} (h : DEs ds es) : KeysOf (intKind prog w) ds.toArray := by
  induction h with
  | nil => intro e he; simp at he
  | @cons i t u v ds es a _ ih =>
    intro e he
    rcases List.mem_cons.mp (by simpa using he) with rfl | he
    · exact ⟨i, by simp [intKind, Value.isInt], rfl⟩
    · exact ih e (by simpa using he)
theorem DEs.of {ds : List DictEntry} {ks : List (Int × Value)} (h : Pairs (intKind prog w) ds ks) : ∀ {es}, KeysOf (intKind prog w) ds.toArray → KVs ks es → DEs ds es := by
  induction h with
  | nil => intro es _ h; cases h; exact .nil
  | @cons e kv ds ks hk hv _ ih =>
    intro es hK h
    cases h with
    | cons a h =>
      obtain ⟨hash, key, val⟩ := e
      obtain ⟨t, rfl⟩ := Value.isInt_shape hk
      obtain ⟨k', hk', hh⟩ := hK ⟨hash, .int _ t, val⟩ (List.mem_toArray.mpr (.head _))
      obtain ⟨t', ht'⟩ := Value.isInt_shape (k := k') (v := .int _ t) hk'
      cases ht'
      cases (show hash = hashInt _ from hh)
      cases (show val = _ from hv)
      exact .cons a (ih (fun e he => hK e (by simp at he ⊢; exact .inr he)) h)
theorem dict_at {h : Heap} {d : Addr} {o : Obj} {es : List (Int × V)} {n : Nat} (ho : h.get? d = some o) (hs : Sat (.dict es n) o) : ∃ ks, KVs ks es ∧ h.DictAt (intKind prog w) d ks n := by
  obtain ⟨ds, rfl, hd, nd⟩ := hs
  obtain ⟨ks, h1, h2⟩ := hd.pairs (prog := prog) (w := w)
  exact ⟨ks, h1, _, ds.toArray, ho, ⟨rfl, rfl, rfl⟩, rfl, hd.keysOf, by simpa using h2, by rw [h1.keys]; exact nd⟩
theorem dict_of {h : Heap} {d : Addr} {ks : List (Int × Value)} {es : List (Int × V)} (hd : h.DictOf (intKind prog w) d ks) (hk : KVs ks es) : ∃ o n, h.get? d = some o ∧ Sat (.dict es n) o := by
  obtain ⟨o, ds, n, ho, ⟨h1, h2, h3⟩, h4, h5, h6, h7⟩ := hd
  obtain ⟨c, dd, dt, sl⟩ := o
  dsimp only at h1 h2 h3 h4
  subst h1 h2 h3 h4
  exact ⟨_, n, ho, ds.toList, by simp, DEs.of h6 (by simpa using h5) hk, by rw [← hk.keys]; exact h7⟩
end

section
variable {prog : Program} {w : World} {A : Around} {E : Value → Shared → Prop} {b s : Shared} {fs : List Frm} {led led' : List (Addr × O)} {env : Env} {d : Addr} {es : List (Int × V)} {n : Nat} {k : Int} {t : Tok}
theorem St.notSys (S : St b fs led s) {K : O} (h : (d, K) ∈ led) : (d == sysModules) = false := by
  have := (S.new d (List.mem_append_right _ (List.mem_map_of_mem (f := (·.1)) h))).2
  have h1 : d ≠ 1 := fun e => by rw [e] at this; exact absurd this (by decide)
  show decide (d = 1) = false
  exact decide_eq_false h1
theorem isKey (i : Int) (t : Tok) : (intKind prog w).is i (.int i t) = true := by simp [intKind, Value.isInt]

theorem mk_dict {pos : Pos} {Q : Value → Shared → Prop} (S : St b fs led s) (q : ∀ a s', St b fs ((a, .dict [] 0) :: led) s' → Q (.ref a) s') : wpAny (model prog w) A (eval (.Dict [] [] pos) env) Q E s :=
  wpAny_Dict_empty (q _ _ (S.push ⟨[], rfl, .nil, List.nodup_nil⟩))
theorem di_get {v : V} {Q : Value → Shared → Prop} (S : St b fs led s) (h : (d, .dict es n) ∈ led) (hv : atKey es k = some v) (q : ∀ s', St b fs led s' → v.All fun u => Q u s') : wpAny (model prog w) A (getItem (.ref d) (.int k t)) Q E s := by
  obtain ⟨o, ho, hs⟩ := S.at h
  obtain ⟨ks, h1, h2⟩ := dict_at (prog := prog) (w := w) ho hs
  have := h1.at k
  rw [hv] at this
  obtain ⟨u, e, iu⟩ := this
  exact wpAny_getItem_of (isKey k t) h2.dictOf.mapOf e ((q _ S.tok).is iu)
theorem di_in {Q : Value → Shared → Prop} (S : St b fs led s) (h : (d, .dict es n) ∈ led) (q : ∀ s', St b fs led s' → Q (.bool (atKey es k).isSome) s') : wpAny (model prog w) A (compareOp .In (.int k t) (.ref d)) Q E s := by
  obtain ⟨o, ho, hs⟩ := S.at h
  obtain ⟨ks, h1, h2⟩ := dict_at (prog := prog) (w := w) ho hs
  refine wpAny_in_of (isKey k t) (S.notSys h) h2.dictOf.mapOf ?_
  have e : (valueAt ks k).isSome = (atKey es k).isSome := by
    have := h1.at k
    cases q : atKey es k with
    | none => rw [q] at this; rw [show valueAt ks k = none from this]; rfl
    | some v => rw [q] at this; obtain ⟨u, e, _⟩ := this; rw [e]; rfl
  rw [e]
  exact q _ S.tok
theorem di_get1 {Q : Value → Shared → Prop} (S : St b fs led s) (h : (d, .dict es n) ∈ led) (q : ∀ s', St b fs led s' → V.All ((atKey es k).getD .none) fun u => Q u s') : wpAny (model prog w) A (call (.builtin "dict.get") [.ref d, .int k t]) Q E s := by
  obtain ⟨o, ho, hs⟩ := S.at h
  obtain ⟨ks, h1, h2⟩ := dict_at (prog := prog) (w := w) ho hs
  refine call_meetsIn PySem.F.slot_dict_get h2.dictOf.typeIs PySem.F.entry_dict_get (PySem.F.args_dict_get_2 _ _) (meets_dict_get (intKind prog w) d (isKey k t) (S.notSys h)) ⟨_, h2.dictOf.mapOf, ?_⟩
  have := h1.at k
  cases e : atKey es k with
  | none => rw [e] at this q; rw [show valueAt ks k = none from this]; exact q _ S.tok
  | some v => rw [e] at this q; obtain ⟨u, e', iu⟩ := this; rw [e']; exact V.All.is (v := v) (q _ S.tok) iu
theorem di_new {u : Value} {v : V} {Q : Unit → Shared → Prop} (S : St b fs led s) (hu : Is u v) (hk : k ∉ es.map (·.1)) (hz : es.length ≤ 1000) (hU : ∀ n', ∃ led', Upd led d (.dict es n) (.dict (es ++ [(k, v)]) n') led' ∧ ∀ s', St b fs led' s' → Q () s') :
    wpAny (model prog w) A (setItem (.ref d) (.int k t) u) Q E s := by
  obtain ⟨led0, hU0, _⟩ := hU 0
  obtain ⟨o, ho, hs⟩ := S.at hU0.mem
  obtain ⟨ks, h1, h2⟩ := dict_at (prog := prog) (w := w) ho hs
  refine wpAny_setItem_pairs (isKey k t) h2.dictOf (fun h' hd' hs' => ?_) (by rw [h1.len, sizeLine_eq]; omega)
  have e : stored ks k u = ks ++ [(k, u)] := by
    unfold stored
    rw [if_neg]
    intro hq
    obtain ⟨p, hp, e⟩ := List.any_eq_true.mp hq
    exact hk (by rw [← h1.keys, ← of_decide_eq_true e]; exact List.mem_map_of_mem hp)
  rw [e] at hd'
  obtain ⟨o', n', ho', hs''⟩ := dict_of hd' (h1.app hu)
  obtain ⟨led', hU', q⟩ := hU n'
  exact q _ (S.upd hU' hs'.extBut ho' hs'')
theorem di_del {Q : Unit → Shared → Prop} (S : St b fs led s) (hk : (atKey es k).isSome = true) (hz : es.length ≤ 1000) (hU : ∀ n', ∃ led', Upd led d (.dict es n) (.dict (es.filter fun kv => decide (kv.1 ≠ k)) n') led' ∧ ∀ s', St b fs led' s' → Q () s') :
    wpAny (model prog w) A (delItem (.ref d) (.int k t)) Q E s := by
  obtain ⟨led0, hU0, _⟩ := hU 0
  obtain ⟨o, ho, hs⟩ := S.at hU0.mem
  obtain ⟨ks, h1, h2⟩ := dict_at (prog := prog) (w := w) ho hs
  unfold delItem
  try with_reducible refine wpAny_holding ?_
  refine wpAny_bind (wpAny_sequenceKey h2.dictOf.typeIs (by decide) ?_)
  refine wpAny_bind (wpAny_callSpecial?_slot (name := Str.ofString "__delitem__") h2.dictOf.typeIs PySem.F.slot_dict_delitem
    (call_meetsIn PySem.F.slot_dict_delitem h2.dictOf.typeIs PySem.F.entry_dict_delitem (PySem.F.args_dict_delitem_2 _ _) (meets_dict_delitem_pairs (intKind prog w) d (isKey k t)) ⟨ks, h2.dictOf, by rw [h1.len, sizeLine_eq]; omega, ?_, fun h' hmm hs' => ?_⟩))
  · have := h1.at k
    cases e : atKey es k with
    | none => rw [e] at hk; cases hk
    | some v => rw [e] at this; obtain ⟨u, e', _⟩ := this; rw [e']; rfl
  · obtain ⟨o', n', ho', hs''⟩ := dict_of hmm (h1.filter fun i => decide (i ≠ k))
    obtain ⟨led', hU', q⟩ := hU n'
    exact wpAny_pure (q _ (S.upd hU' hs'.extBut ho' hs''))
theorem St.dictT (S : St b fs led s) (h : (d, .dict es n) ∈ led) : s.TypeIs (.ref d) "dict" := by
  obtain ⟨o, ho, ds, rfl, _⟩ := S.at h
  exact ⟨_, ho, rfl⟩
end
end Dic
section Lst
noncomputable abbrev vints (ns : List Int) : List V := ns.map V.int
theorem Isl.int {us : List Value} {ns : List Int} (h : Isl us (vints ns)) : ∀ {y}, y ∈ us → ∃ i t, y = .int i t := by
  induction ns generalizing us with
  | nil => intro y hy; cases h; cases hy
  | cons n ns ih =>
    intro y hy
    cases h with
    | cons a h =>
      rcases List.mem_cons.mp hy with rfl | hy
      · cases a; exact ⟨_, _, rfl⟩
      · exact ih h hy
theorem isInt_is (k n : Int) (t : Tok) : PyProof.Rows.isInt k (.int n t) = (k == n) := by
  show (n == k) = (k == n)
  exact BEq.comm
theorem Isl.any {us : List Value} {ns : List Int} (h : Isl us (vints ns)) (k : Int) : us.any (isInt k) = ns.contains k := by
  induction ns generalizing us with
  | nil => cases h; rfl
  | cons n ns ih =>
    cases h with
    | cons a h =>
      cases a
      rw [List.any_cons, ih h, List.contains_cons]
      rw [isInt_is]
theorem Isl.isInt {us : List Value} {ns : List Int} (h : Isl us (vints ns)) (k : Int) (j : Nat) (hj : j < us.length) : isInt k us[j] = decide ((ns[j]? : Option Int) = some k) := by
  induction ns generalizing us j with
  | nil => cases h; simp at hj
  | cons n ns ih =>
    cases h with
    | cons a h =>
      cases a
      cases j with
      | zero => rw [List.getElem_cons_zero, isInt_is]; simp only [List.getElem?_cons_zero, Option.some.injEq]; rw [Bool.eq_iff_iff, beq_iff_eq, decide_eq_true_eq]; exact ⟨fun e => e.symm, fun e => e.symm⟩
      | succ j => simpa using ih h j (by simpa using hj)
theorem Isl.erase {us vs} (h : Isl us vs) : ∀ i, Isl (us.eraseIdx i) (vs.eraseIdx i) := by
  induction h with
  | nil => intro i; exact .nil
  | cons a h ih => intro i; cases i with
    | zero => exact h
    | succ i => exact .cons a (ih i)
theorem erase_arr (us : List Value) (k : Nat) : us.toArray.eraseIdxIfInBounds k = (us.eraseIdx k).toArray := by
  unfold Array.eraseIdxIfInBounds
  split
  · apply Array.toList_inj.mp
    rw [Array.toList_eraseIdx]
  · rename_i h
    rw [List.eraseIdx_of_length_le (by simpa using h)]
theorem map_erase {α β} (f : α → β) : ∀ (l : List α) (i : Nat), (l.map f).eraseIdx i = (l.eraseIdx i).map f
  | [], _ => rfl
  | _ :: _, 0 => rfl
  | _ :: l, i + 1 => by simp [List.eraseIdx_cons_succ, map_erase f l i]

section
variable {prog : Program} {w : World} {A : Around} {E : Value → Shared → Prop} {b s : Shared} {fs : List Frm} {led led' : List (Addr × O)} {env : Env} {l : Addr} {xs : List V} {ns : List Int}

theorem map_seq {h : Heap} {us : List Value} {n : Nat} (ho : h.get? l = some { cls := .type "list", data := .seq us.toArray n }) (f : Array Value → Array Value) (us' : List Value) (e : f us.toArray = us'.toArray) :
    ∃ n', (h.update l (Obj.mapSeq f)).get? l = some { cls := .type "list", data := .seq us'.toArray n' } := by
  refine ⟨if us'.toArray.size == us.toArray.size then n else n + 1, (Heap.get?_update_self _ ho rfl).trans ?_⟩
  simp only [Obj.mapSeq, e]
theorem St.seq (S : St b fs led s) {us : List Value} {n : Nat} {xs' : List V} (hU : Upd led l (.list xs) (.list xs') led') (ho : s.heap.get? l = some { cls := .type "list", data := .seq us.toArray n }) (f : Array Value → Array Value) (us' : List Value) (e : f us.toArray = us'.toArray) (hi : Isl us' xs') {tk : Nat} :
    St b fs led' { s with heap := s.heap.update l (Obj.mapSeq f), toks := tk } := by
  obtain ⟨n', ho'⟩ := map_seq ho f us' e
  exact S.upd hU (Heap.SameBut.update ..).extBut ho' ⟨us', n', rfl, hi⟩
theorem St.listT (S : St b fs led s) (h : (l, .list xs) ∈ led) : s.TypeIs (.ref l) "list" := by
  obtain ⟨o, ho, us, n, rfl, _⟩ := S.at h
  exact ⟨_, ho, rfl⟩
theorem St.isList (S : St b fs led s) (h : (l, .list xs) ∈ led) : ∃ us, Isl us xs ∧ s.heap.IsList l us.toArray := by
  obtain ⟨o, ho, us, n, rfl, hi⟩ := S.at h
  exact ⟨us, hi, _, ho, rfl, n, rfl⟩
theorem St.isTup (S : St b fs led s) (h : (l, .tuple xs) ∈ led) : ∃ us, Isl us xs ∧ s.heap.IsTuple l us.toArray := by
  obtain ⟨o, ho, us, n, rfl, hi⟩ := S.at h
  exact ⟨us, hi, _, ho, rfl, n, rfl⟩

theorem ls_meth {name : Str} {id : String} {pl : Sem Bool} {Q : Value × List Value → Shared → Prop} (S : St b fs led s) (slot : Slot "list" name id) (hty : typeOf (.builtin id) = pure (.type "method_descriptor")) (h : (l, .list xs) ∈ led) (k : Q (.builtin id, [.ref l]) s) :
    wpAny (model prog w) A (getMethod (.ref l) name pl) Q E s := by
  obtain ⟨o, ho, us, n, rfl, _⟩ := S.at h
  exact getMethod_builtin ⟨_, ho, rfl⟩ PySem.F.plainAttrs_list slot hty (fun a e => by cases e; exact ⟨_, ho, rfl⟩) k
theorem di_meth {name : Str} {id : String} {pl : Sem Bool} {es : List (Int × V)} {n : Nat} {Q : Value × List Value → Shared → Prop} (S : St b fs led s) (slot : Slot "dict" name id) (hty : typeOf (.builtin id) = pure (.type "method_descriptor")) (h : (l, .dict es n) ∈ led) (k : Q (.builtin id, [.ref l]) s) :
    wpAny (model prog w) A (getMethod (.ref l) name pl) Q E s := by
  obtain ⟨o, ho, ds, rfl, _⟩ := S.at h
  exact getMethod_builtin ⟨_, ho, rfl⟩ PySem.F.plainAttrs_dict slot hty (fun a e => by cases e; exact ⟨_, ho, rfl⟩) k
theorem ls_append {u : Value} {v : V} {Q : Value → Shared → Prop} (S : St b fs led s) (hu : Is u v) (hU : Upd led l (.list xs) (.list (xs ++ [v])) led') (hz : xs.length ≤ 1000) (k : ∀ s', St b fs led' s' → Q .none s') : wpAny (model prog w) A (call (.builtin "list.append") [.ref l, u]) Q E s := by
  obtain ⟨o, ho, us, n, rfl, hi⟩ := S.at hU.mem
  refine wpAny_list_append_plain (l := l) (items := us.toArray) ⟨n, ho⟩ (fun h' ⟨n', hp⟩ hs => k _ (S.upd hU hs.extBut hp ⟨us ++ [u], n', by simp, hi.snoc hu⟩)) ?_
  simp only [List.size_toArray, hi.length, sizeLine_eq]; omega
theorem ls_pop {v : V} {Q : Value → Shared → Prop} (S : St b fs led s) (hU : Upd led l (.list (xs ++ [v])) (.list xs) led') (hz : xs.length < 1000) (k : ∀ s', St b fs led' s' → v.All fun u => Q u s') : wpAny (model prog w) A (call (.builtin "list.pop") [.ref l]) Q E s := by
  obtain ⟨o, ho, us, n, rfl, hi⟩ := S.at hU.mem
  have hlen := hi.length
  have hsz : us.toArray.size - 1 = xs.length := by rw [List.size_toArray, hlen]; simp
  obtain ⟨y, hy, iy⟩ := hi.get (i := xs.length) (v := v) (by simp)
  refine call_meets PySem.F.slot_list_pop ⟨_, ho, rfl⟩ PySem.F.entry_list_pop (PySem.F.args_list_pop_1 _) (PySem.MeetsSeq.list_pop_last l _ n y (by rw [hsz]; simpa using hy) (by rw [List.size_toArray, hlen, sizeLine_eq]; simp; omega)) ⟨ho, ?_⟩
  refine V.All.is (k _ (S.seq hU ho _ (us.eraseIdx xs.length) ?_ ?_)) iy
  · rw [hsz]; exact erase_arr us _
  · have := hi.erase xs.length
    rwa [show (xs ++ [v]).eraseIdx xs.length = xs by simp [List.eraseIdx_append_of_length_le]] at this
theorem ls_popAt {i : Int} {t : Tok} {v : V} {Q : Value → Shared → Prop} (S : St b fs led s) (h0 : 0 ≤ i) (hv : xs[i.toNat]? = some v) (hU : Upd led l (.list xs) (.list (xs.eraseIdx i.toNat)) led') (hz : xs.length ≤ 1000) (k : ∀ s', St b fs led' s' → v.All fun u => Q u s') :
    wpAny (model prog w) A (call (.builtin "list.pop") [.ref l, .int i t]) Q E s := by
  obtain ⟨o, ho, us, n, rfl, hi⟩ := S.at hU.mem
  obtain ⟨y, hy, iy⟩ := hi.get hv
  have hlt : i.toNat < us.length := (List.getElem?_eq_some_iff.mp hy).1
  have hlen := hi.length
  refine call_meets PySem.F.slot_list_pop ⟨_, ho, rfl⟩ PySem.F.entry_list_pop (PySem.F.args_list_pop_2 _ _) (PySem.MeetsSeq.list_pop_at l _ n i t i.toNat y ?_ ?_ (by simpa using hy) (by rw [List.size_toArray, hlen, sizeLine_eq]; omega)) ⟨ho, ?_⟩
  · have : i < 1000 := by omega
    simp only [Builtin.List.listFitsIndex, Bool.and_eq_true, decide_eq_true_eq]
    omega
  · have : (us.toArray.size : Int) = us.length := by simp
    unfold seqIndex?
    simp only [List.size_toArray]
    first
      | (rw [if_neg (by omega)]; first | (rw [if_pos (by omega)]) | simp; omega)
      | (simp; omega)
  · exact V.All.is (k _ (S.seq hU ho _ (us.eraseIdx i.toNat) (erase_arr us _) (hi.erase _))) iy
theorem ls_eq {us : List Value} (hi : Isl us (vints ns)) (k : Int) (t : Tok) : ∀ y, y ∈ us.toArray → MeetsSeq.EqGives y (.int k t) (isInt k y) := by
  intro y hy
  obtain ⟨i, t', rfl⟩ := hi.int (List.mem_toArray.mp hy)
  intro prog w A E s Q h
  refine MeetsSeq.EqGives.int i k t' t prog w A E s Q ?_
  have : (i == k) = isInt k (.int i t') := by rw [isInt_is]; exact BEq.comm
  rw [this]; exact h
theorem ls_index {k : Int} {t : Tok} {j : Nat} {Q : Value → Shared → Prop} (S : St b fs led s) (h : (l, .list (vints ns)) ∈ led) (hj : ns[j]? = some k) (hno : ∀ m, m < j → ns[m]? ≠ some k) (hz : ns.length ≤ 1000) (q : ∀ t s', St b fs led s' → Q (.int j t) s') :
    wpAny (model prog w) A (call (.builtin "list.index") [.ref l, .int k t]) Q E s := by
  obtain ⟨o, ho, us, n, rfl, hi⟩ := S.at h
  have hlen : us.length = ns.length := by rw [hi.length, List.length_map]
  have hlt : j < us.length := by rw [hlen]; exact (List.getElem?_eq_some_iff.mp hj).1
  refine call_meets PySem.F.slot_list_index ⟨_, ho, rfl⟩ PySem.F.entry_list_index (PySem.F.args_list_index_2 _ _) (PySem.MeetsSeq.list_index l _ n _ (isInt k) (ls_eq hi k t) j (by simpa using hlt) (by omega) ?_ fun m hm hmj => ?_) ⟨ho, q _ _ S.tok⟩
  · have := hi.isInt k j hlt
    simpa [hj] using this
  · have := hi.isInt k m (by simpa using hm)
    simpa [hno m hmj] using this
theorem ls_remove {k : Int} {t : Tok} {j : Nat} {Q : Value → Shared → Prop} (S : St b fs led s) (hj : ns[j]? = some k) (hno : ∀ m, m < j → ns[m]? ≠ some k) (hU : Upd led l (.list (vints ns)) (.list (vints (ns.eraseIdx j))) led') (hz : ns.length ≤ 1000) (q : ∀ s', St b fs led' s' → Q .none s') :
    wpAny (model prog w) A (call (.builtin "list.remove") [.ref l, .int k t]) Q E s := by
  obtain ⟨o, ho, us, n, rfl, hi⟩ := S.at hU.mem
  have hlen : us.length = ns.length := by rw [hi.length, List.length_map]
  have hlt : j < us.length := by rw [hlen]; exact (List.getElem?_eq_some_iff.mp hj).1
  refine call_meets PySem.F.slot_list_remove ⟨_, ho, rfl⟩ PySem.F.entry_list_remove (PySem.F.args_list_remove_2 _ _) (PySem.MeetsSeq.list_remove l _ n _ (isInt k) (ls_eq hi k t) j (by simpa using hlt) ?_ (fun m hm hmj => ?_) (by rw [List.size_toArray, hlen, sizeLine_eq]; omega)) ⟨ho, q _ (S.seq hU ho _ (us.eraseIdx j) (erase_arr us _) ?_)⟩
  · have := hi.isInt k j hlt
    simpa [hj] using this
  · have := hi.isInt k m (by simpa using hm)
    simpa [hno m hmj] using this
  · have := hi.erase j
    rwa [map_erase] at this
theorem ls_clear {Q : Value → Shared → Prop} (S : St b fs led s) (hU : Upd led l (.list xs) (.list []) led') (hz : xs.length ≤ 1000) (q : ∀ s', St b fs led' s' → Q .none s') : wpAny (model prog w) A (call (.builtin "list.clear") [.ref l]) Q E s := by
  obtain ⟨o, ho, us, n, rfl, hi⟩ := S.at hU.mem
  exact call_meets PySem.F.slot_list_clear ⟨_, ho, rfl⟩ PySem.F.entry_list_clear (PySem.F.args_list_clear_1 _) (PySem.AutoSeq1.list_clear_list_0 l _ n (by rw [List.size_toArray, hi.length, sizeLine_eq]; omega)) ⟨ho, q _ (S.seq hU ho (fun _ => #[]) [] rfl .nil)⟩
theorem ls_extend {t : Addr} {ys : List V} {Q : Value → Shared → Prop} (S : St b fs led s) (ht : (t, .tuple ys) ∈ led) (hU : Upd led l (.list xs) (.list (xs ++ ys)) led') (hz : xs.length ≤ 1000) (hz' : ys.length ≤ 1000) (q : ∀ s', St b fs led' s' → Q .none s') :
    wpAny (model prog w) A (call (.builtin "list.extend") [.ref l, .ref t]) Q E s := by
  obtain ⟨o, ho, us, n, rfl, hi⟩ := S.at hU.mem
  obtain ⟨o', ho', us', n', rfl, hi'⟩ := S.at ht
  have h1 := hi.length
  have h2 := hi'.length
  refine call_meets PySem.F.slot_list_extend ⟨_, ho, rfl⟩ PySem.F.entry_list_extend (PySem.F.args_list_extend_2 _ _) (PySem.AutoSeq1.list_extend_list_tuple_0 l _ n t _ n' ?_ ?_ ?_) ⟨ho, ho', q _ (S.seq hU ho _ (us ++ us') (by simp) (hi.append hi'))⟩
  · have : Builtin.List.listTooLong (us.toArray.size + us'.toArray.size) = false := by
      unfold Builtin.List.listTooLong
      simp only [List.size_toArray]
      have := sizeLine_eq
      first | exact decide_eq_false (by omega) | (simp; omega)
    rw [this]; simp
  · rw [List.size_toArray, sizeLine_eq]; omega
  · rw [List.size_toArray, List.size_toArray, sizeLine_eq]; omega
end
end Lst
section Ops
theorem br {c : Prop} [Decidable c] {P R : Prop} (h1 : c → P) (h2 : ¬ c → R) : bif decide c then P else R := by
  by_cases h : c
  · rw [decide_eq_true h]; exact h1 h
  · rw [decide_eq_false h]; exact h2 h
theorem brb {c : Bool} {P R : Prop} (h1 : c = true → P) (h2 : c = false → R) : bif c then P else R := by
  cases c
  · exact h2 rfl
  · exact h1 rfl
theorem br_t {c : Bool} {P R : Prop} (h : c = true) (h1 : P) : bif c then P else R := by rw [h]; exact h1
theorem br_f {c : Bool} {P R : Prop} (h : c = false) (h1 : R) : bif c then P else R := by rw [h]; exact h1

section
variable {M : Model} {prog : Program} {w : World} {A : Around} {E : Value → Shared → Prop} {b s : Shared} {fs : List Frm} {led led' : List (Addr × O)} {env : Env} {x y : Int} {t u : Tok} {Q : Value → Shared → Prop}

theorem o_add (S : St b fs led s) (k : ∀ t s', St b fs led s' → Q (.int (x + y) t) s') : wpAny (model prog w) A (binaryOp .Add (.int x t) (.int y u)) Q E s := add_int (k _ _ S.tok)
theorem o_sub (S : St b fs led s) (k : ∀ t s', St b fs led s' → Q (.int (x - y) t) s') : wpAny (model prog w) A (binaryOp .Sub (.int x t) (.int y u)) Q E s := sub_int (k _ _ S.tok)
theorem o_iadd (S : St b fs led s) (k : ∀ t s', St b fs led s' → Q (.int (x + y) t) s') : wpAny (model prog w) A (inplaceOp .Add (.int x t) (.int y u)) Q E s := PySem.P.iadd_int (k _ _ S.tok)
theorem o_isub (S : St b fs led s) (k : ∀ t s', St b fs led s' → Q (.int (x - y) t) s') : wpAny (model prog w) A (inplaceOp .Sub (.int x t) (.int y u)) Q E s := PySem.P.isub_int (k _ _ S.tok)
theorem o_mul (S : St b fs led s) (hx : -(2 ^ 63) < x) (hx' : x < 2 ^ 63) (k : ∀ t s', St b fs led s' → Q (.int (x * y) t) s') : wpAny (model prog w) A (binaryOp .Mult (.int x t) (.int y u)) Q E s := by
  refine mul_int (k _ _ S.tok) ?_
  unfold IntMulOk
  have h : Builtin.Int.intBits x ≤ 64 := intBits_le_64 (by omega) (by omega)
  have h' : decide (Builtin.Int.intBits x > shortFactorBits) = false := decide_eq_false (by show ¬ _ > 64; omega)
  rw [h']
  simp
theorem o_mod (S : St b fs led s) (hy : y ≠ 0) (k : ∀ t s', St b fs led s' → Q (.int (Int.fmod x y) t) s') : wpAny (model prog w) A (binaryOp .Mod (.int x t) (.int y u)) Q E s := mod_int' hy (k _ _ S.tok)
theorem o_pow (S : St b fs led s) (hx : -(2 ^ 63) < x) (hx' : x < 2 ^ 63) (hy : 0 ≤ y) (hy' : y ≤ 1000) (k : ∀ t s', St b fs led s' → Q (.int (x ^ y.toNat) t) s') : wpAny (model prog w) A (binaryOp .Pow (.int x t) (.int y u)) Q E s := by
  refine pow_int hy ?_ (k _ _ S.tok)
  have h : Builtin.Int.intBits x ≤ 64 := intBits_le_64 (by omega) (by omega)
  have h1 : ((Builtin.Int.intBits x : Nat) : Int) * y ≤ 64 * y := Int.mul_le_mul_of_nonneg_right (by omega) hy
  omega
theorem o_and (S : St b fs led s) (k : ∀ t s', St b fs led s' → Q (.int (Builtin.bitAnd x y) t) s') : wpAny (model prog w) A (binaryOp .BitAnd (.int x t) (.int y u)) Q E s := and_int (k _ _ S.tok)
theorem o_or (S : St b fs led s) (k : ∀ t s', St b fs led s' → Q (.int (Builtin.bitOr x y) t) s') : wpAny (model prog w) A (binaryOp .BitOr (.int x t) (.int y u)) Q E s := or_int (k _ _ S.tok)
theorem o_shl (S : St b fs led s) (hx : 0 ≤ x) (hx' : x < 2 ^ 63) (hy : 0 ≤ y) (hy' : y ≤ 1000) (k : ∀ t s', St b fs led s' → Q (.int (x * 2 ^ y.toNat) t) s') : wpAny (model prog w) A (binaryOp .LShift (.int x t) (.int y u)) Q E s :=
  lshift_int_small hy (by omega) (by omega) (k _ _ S.tok)
theorem o_shr (S : St b fs led s) (hy : 0 ≤ y) (k : ∀ t s', St b fs led s' → Q (.int (Int.fdiv x (2 ^ y.toNat)) t) s') : wpAny (model prog w) A (binaryOp .RShift (.int x t) (.int y u)) Q E s := rshift_int hy (k _ _ S.tok)
theorem c_eq (k : Q (.bool (decide (x = y))) s) : wpAny (model prog w) A (compareOp .Eq (.int x t) (.int y u)) Q E s := eq_int (by rw [show (x == y) = decide (x = y) from rfl]; exact k)
theorem c_ne (k : Q (.bool (decide (x ≠ y))) s) : wpAny (model prog w) A (compareOp .NotEq (.int x t) (.int y u)) Q E s := by
  refine ne_int ?_
  have : (x != y) = decide (x ≠ y) := by simp [bne, BEq.beq]
  rw [this]; exact k
theorem c_lt (k : Q (.bool (decide (x < y))) s) : wpAny (model prog w) A (compareOp .Lt (.int x t) (.int y u)) Q E s := lt_int k
theorem c_gt (k : Q (.bool (decide (y < x))) s) : wpAny (model prog w) A (compareOp .Gt (.int x t) (.int y u)) Q E s := gt_int k
theorem c_ge (k : Q (.bool (decide (y ≤ x))) s) : wpAny (model prog w) A (compareOp .GtE (.int x t) (.int y u)) Q E s := ge_int k
theorem c_isn {v : Value} (hv : v ≠ .none) (k : Q (.bool false) s) : wpAny M A (compareOp .Is v .none) Q E s := is_none_ne hv k
theorem c_isn0 (k : Q (.bool true) s) : wpAny M A (compareOp .Is .none .none) Q E s := is_none_gen k
theorem c_nisn {v : Value} (hv : v ≠ .none) (k : Q (.bool true) s) : wpAny M A (compareOp .IsNot v .none) Q E s := isnot_none_ne hv k
theorem c_nisn0 (k : Q (.bool false) s) : wpAny M A (compareOp .IsNot .none .none) Q E s := isnot_none_gen k
theorem t_bool {c : Bool} {Q : Bool → Shared → Prop} (k : Q c s) : wpAny M A (truthy (.bool c)) Q E s := wpAny_truthy_bool k
theorem t_none {Q : Bool → Shared → Prop} (k : Q false s) : wpAny M A (truthy .none) Q E s := PyProof.Rows.truthy_none k
theorem t_list {l : Addr} {xs : List V} {Q : Bool → Shared → Prop} (S : St b fs led s) (h : (l, .list xs) ∈ led) (hz : xs.length ≤ 1000) (k : ∀ s', St b fs led s' → Q (!xs.isEmpty) s') : wpAny (model prog w) A (truthy (.ref l)) Q E s := by
  obtain ⟨us, hi, hl⟩ := S.isList h
  refine wpAny_truthy_list hl (by rw [List.size_toArray, hi.length]; omega) ?_
  have : us.toArray.isEmpty = xs.isEmpty := by cases hi <;> rfl
  rw [this]; exact k _ S.tok
theorem l_len {l : Addr} {xs : List V} (S : St b fs led s) (h : (l, .list xs) ∈ led) (hz : xs.length ≤ 1000) (k : ∀ t s', St b fs led s' → Q (.int xs.length t) s') : wpAny (model prog w) A (call (.builtin "len") [.ref l]) Q E s := by
  obtain ⟨us, hi, hl⟩ := S.isList h
  refine Calls.call_len_list hl (by rw [List.size_toArray, hi.length]; omega) ?_
  rw [List.size_toArray, hi.length]; exact k _ _ S.tok
theorem l_lenT {l : Addr} {xs : List V} (S : St b fs led s) (h : (l, .tuple xs) ∈ led) (hz : xs.length ≤ 1000) (k : ∀ t s', St b fs led s' → Q (.int xs.length t) s') : wpAny (model prog w) A (call (.builtin "len") [.ref l]) Q E s := by
  obtain ⟨o, ho, us, n, rfl, hi⟩ := S.at h
  refine PySem.P.len_tuple (n := n) ho (by rw [List.size_toArray, hi.length]; omega) ?_
  rw [List.size_toArray, hi.length]; exact k _ _ S.tok

/-- an item by its place -/
theorem i_list {value slice : Expr} {l : Addr} {xs : List V} {v : V} (S : St b fs led s) (h : (l, .list xs) ∈ led) (h0 : 0 ≤ x) (hv : xs[x.toNat]? = some v) (hz : xs.length ≤ 1000) (k : v.All fun u => Q u s)
    (hs : subscripted slice false (.ref l) (.int x t) = operate [.ref l, .int x t] (getItem (.ref l) (.int x t)) := by rfl) : wpAny (model prog w) A (subscriptTail value slice (.ref l) (.int x t)) Q E s := by
  obtain ⟨us, hi, hl⟩ := S.isList h
  obtain ⟨u, hu, iu⟩ := hi.get hv
  have := (List.getElem?_eq_some_iff.mp hv).1
  exact tail_any hl.typeIs slot_list_getitem.lookup (wpAny_getItem_list hl h0 (by omega) (by simpa using hu) (k.is iu)) hs
theorem i_last {value slice : Expr} {l : Addr} {xs : List V} {v : V} (S : St b fs led s) (h : (l, .list (xs ++ [v])) ∈ led) (k : v.All fun u => Q u s)
    (hs : subscripted slice false (.ref l) (.int (-1) t) = operate [.ref l, .int (-1) t] (getItem (.ref l) (.int (-1) t)) := by rfl) : wpAny (model prog w) A (subscriptTail value slice (.ref l) (.int (-1) t)) Q E s := by
  obtain ⟨us, hi, hl⟩ := S.isList h
  obtain ⟨u, hu, iu⟩ := hi.get (i := xs.length) (v := v) (by simp)
  have hlen : us.length = xs.length + 1 := by rw [hi.length]; simp
  refine tail_any hl.typeIs slot_list_getitem.lookup (wpAny_getItem_list_neg hl (by decide) (by rw [List.size_toArray, hlen]; omega) (by decide) ?_ (k.is iu)) hs
  rw [List.size_toArray, hlen]
  have : ((-1 : Int) + ((xs.length + 1 : Nat) : Int)).toNat = xs.length := by omega
  rw [this]
  simpa using hu
theorem i_dict {value slice : Expr} {d : Addr} {es : List (Int × V)} {n : Nat} {v : V} (S : St b fs led s) (h : (d, .dict es n) ∈ led) (hv : atKey es x = some v) (k : ∀ s', St b fs led s' → v.All fun u => Q u s')
    (hs : subscripted slice false (.ref d) (.int x t) = operate [.ref d, .int x t] (getItem (.ref d) (.int x t)) := by rfl) : wpAny (model prog w) A (subscriptTail value slice (.ref d) (.int x t)) Q E s :=
  tail_any (S.dictT h) slot_dict_getitem.lookup (di_get S h hv k) hs
theorem c_notin {l : Addr} {ns : List Int} (S : St b fs led s) (h : (l, .list (vints ns)) ∈ led) (k : Q (.bool (!ns.contains x)) s) : wpAny (model prog w) A (compareOp .NotIn (.int x t) (.ref l)) Q E s := by
  obtain ⟨o, ho, us, n, rfl, hi⟩ := S.at h
  refine wpAny_bind (contains_slot (T := "list") (id := "list.__contains__") ⟨_, ho, rfl⟩ PySem.F.slot_list_contains ?_)
  refine call_meets PySem.F.slot_list_contains ⟨_, ho, rfl⟩ PySem.F.entry_list_contains (PySem.F.args_list_contains_2 _ _) (PySem.MeetsSeq.list_contains l us.toArray n (.int x t) (isInt x) (ls_eq hi x t)) ⟨ho, ?_⟩
  refine wpAny_truthy_bool (wpAny_pure ?_)
  rw [show us.toArray.any (isInt x) = ns.contains x by rw [← hi.any x]; simp]
  exact k

/-- statements -/
theorem x_expr {e : Expr} {pos : Pos} {L : Addr} {ns gs : List Str} {Q : Flow → Shared → Prop} (hl : Ev env L ns gs) (h : wpAny (model prog w) A (eval e env) (fun _ => Q .next) E s) (hsw : swapsWith e none pos.line env = pure false := by rfl) : wpAny (model prog w) A (exec (.Expr e pos) env) Q E s :=
  wpAny_Expr_any h hl.inter hsw
theorem ev_meth {o : Expr} {name : Str} {apos pos : Pos} {args : List Expr}
    (h : wpAny M A (eval o env) (fun ov s₁ => wpAny M A (getMethod ov name (do return (← importBound o env).getD true)) (fun fx s₂ => wpAny M A (callWith pos fx.1 fx.2 (backTo pos (starEach args env)) []) Q E s₂) E s₁) E s)
    (he : eval (.Call (.Attribute o name apos) args [] pos) env = (do
      let ov ← eval o env
      standAt apos.atName
      let (f, first) ← holding [ov] (getMethod ov name (do return (← importBound o env).getD true))
      callWith pos f first (backTo pos (starEach args env)) [])) : wpAny M A (eval (.Call (.Attribute o name apos) args [] pos) env) Q E s := MethodCall_ h he
theorem c_isr {a : Addr} (k : Q (.bool false) s) : wpAny M A (compareOp .Is (.ref a) .none) Q E s := is_ref_none k
theorem c_nisr {a : Addr} (k : Q (.bool true) s) : wpAny M A (compareOp .IsNot (.ref a) .none) Q E s := isnot_ref_none k
theorem a_sub {o i : Expr} {pos : Pos} {v : Value} {Q : Unit → Shared → Prop} (h : wpAny M A (eval o env) (fun ov s₁ => wpAny M A (eval i env) (fun iv s₂ => wpAny M A (setItem ov iv v) Q E s₂) E s₁) E s) : wpAny M A (assign (.Subscript o i pos) env v) Q E s := by
  unfold assign
  refine wpAny_bind (wpAny_holding (wpAny_mono h (fun ov s₁ h₁ => ?_) fun _ _ x => x))
  refine wpAny_bind (wpAny_holding (wpAny_mono h₁ (fun iv s₂ h₂ => ?_) fun _ _ x => x))
  refine wpAny_bind (wpAny_standAt (wpAny_bind (wpAny_holding (wpAny_mono h₂ (fun _ s₃ h₃ => ?_) fun _ _ x => x))))
  exact wpAny_release h₃
theorem x_two {t1 t2 value : Expr} {pos : Pos} {Q : Flow → Shared → Prop} (h : wpAny M A (eval value env) (fun v s₁ => wpAny M A (assign t1 env v) (fun _ s₂ => wpAny M A (assign t2 env v) (fun _ => Q .next) E s₂) E s₁) E s)
    (h1 : (assignEach [t1, t2] env).map (·.2) = [assign t1 env, assign t2 env]) (h2 : swappedStores [t1, t2] value env = pure none) : wpAny M A (exec (.Assign [t1, t2] value pos) env) Q E s := wpAny_Assign_two h h1 h2
end
end Ops
section Sor
/-- a node of the sorter: its number, the places of its info, of that one's dict and of its list, its count, its successors -/
structure Nd where
  i : Int
  N : Addr
  D : Addr
  L : Addr
  np : Int
  sc : List Int
noncomputable def Nd.obj (n : Nd) : O := .node 77 n.D [some (.int n.i), some (.int n.np), some (.ref n.L)]
noncomputable def Nd.led (n : Nd) : List (Addr × O) := [(n.N, n.obj), (n.D, .idict [] []), (n.L, .list (vints n.sc))]
noncomputable def nled : List Nd → List (Addr × O) → List (Addr × O)
  | [], rest => rest
  | n :: ns, rest => (n.N, n.obj) :: (n.D, .idict [] []) :: (n.L, .list (vints n.sc)) :: nled ns rest
noncomputable def ndict (ns : List Nd) : List (Int × V) := ns.map fun n => (n.i, .ref n.N)
noncomputable abbrev ids (ns : List Nd) : List Int := ns.map (·.i)
/-- what is told of the nodes, without their places -/
noncomputable abbrev View := List (Int × Int × List Int)
noncomputable def view (ns : List Nd) : View := ns.map fun n => (n.i, n.np, n.sc)
noncomputable def setNp (i x : Int) (ns : List Nd) : List Nd := ns.map fun m => if m.i = i then { m with np := x } else m
noncomputable def setSc (i : Int) (x : List Int) (ns : List Nd) : List Nd := ns.map fun m => if m.i = i then { m with sc := x } else m
noncomputable def vNp (i x : Int) (v : View) : View := v.map fun m => if m.1 = i then (m.1, x, m.2.2) else m
noncomputable def vSc (i : Int) (x : List Int) (v : View) : View := v.map fun m => if m.1 = i then (m.1, m.2.1, x) else m
theorem view_setNp (i x : Int) (ns : List Nd) : view (setNp i x ns) = vNp i x (view ns) := by
  simp only [view, setNp, vNp, List.map_map]
  congr 1; funext m; simp only [Function.comp]; split <;> rfl
theorem ids_setNp (i x : Int) (ns : List Nd) : ids (setNp i x ns) = ids ns := by
  simp only [ids, setNp, List.map_map]
  congr 1; funext m; simp only [Function.comp]; split <;> rfl
theorem ids_setSc (i : Int) (x : List Int) (ns : List Nd) : ids (setSc i x ns) = ids ns := by
  simp only [ids, setSc, List.map_map]
  congr 1; funext m; simp only [Function.comp]; split <;> rfl
theorem ndict_setNp (i x : Int) (ns : List Nd) : ndict (setNp i x ns) = ndict ns := by
  simp only [ndict, setNp, List.map_map]
  congr 1; funext m; simp only [Function.comp]; split <;> rfl
theorem ndict_setSc (i : Int) (x : List Int) (ns : List Nd) : ndict (setSc i x ns) = ndict ns := by
  simp only [ndict, setSc, List.map_map]
  congr 1; funext m; simp only [Function.comp]; split <;> rfl
theorem ids_view (ns : List Nd) : ids ns = (view ns).map (·.1) := by simp [ids, view]
theorem set_none {i x : Int} : ∀ {ns : List Nd}, i ∉ ids ns → setNp i x ns = ns
  | [], _ => rfl
  | n :: ns, h => by
    have h1 : n.i ≠ i := fun e => h (e ▸ .head _)
    have h2 : i ∉ ids ns := fun e => h (.tail _ e)
    show (if n.i = i then _ else n) :: setNp i x ns = n :: ns
    rw [if_neg h1, set_none h2]
theorem setS_none {i : Int} {x : List Int} : ∀ {ns : List Nd}, i ∉ ids ns → setSc i x ns = ns
  | [], _ => rfl
  | n :: ns, h => by
    have h1 : n.i ≠ i := fun e => h (e ▸ .head _)
    have h2 : i ∉ ids ns := fun e => h (.tail _ e)
    show (if n.i = i then _ else n) :: setSc i x ns = n :: ns
    rw [if_neg h1, setS_none h2]

theorem mem_nled {n : Nd} {ns : List Nd} {rest : List (Addr × O)} (h : n ∈ ns) : (n.N, n.obj) ∈ nled ns rest := by
  induction h with
  | head => exact .head _
  | tail _ _ ih => exact .tail _ (.tail _ (.tail _ ih))
theorem mem_nledD {n : Nd} {ns : List Nd} {rest : List (Addr × O)} (h : n ∈ ns) : (n.D, .idict [] []) ∈ nled ns rest := by
  induction h with
  | head => exact .tail _ (.head _)
  | tail _ _ ih => exact .tail _ (.tail _ (.tail _ ih))
theorem mem_nledL {n : Nd} {ns : List Nd} {rest : List (Addr × O)} (h : n ∈ ns) : (n.L, .list (vints n.sc)) ∈ nled ns rest := by
  induction h with
  | head => exact .tail _ (.tail _ (.head _))
  | tail _ _ ih => exact .tail _ (.tail _ (.tail _ ih))
theorem upd_np {n : Nd} {ns : List Nd} {rest : List (Addr × O)} (h : n ∈ ns) (nd : (ids ns).Nodup) (x : Int) : Upd (nled ns rest) n.N n.obj ({ n with np := x } : Nd).obj (nled (setNp n.i x ns) rest) := by
  induction h with
  | head ns =>
    have nd : _ ∉ ids ns ∧ (ids ns).Nodup := List.nodup_cons.mp nd
    show Upd _ _ _ _ (nled ((if n.i = n.i then { n with np := x } else n) :: setNp n.i x ns) rest)
    rw [if_pos rfl, set_none nd.1]
    exact .here
  | @tail m ns h ih =>
    have nd : _ ∉ ids ns ∧ (ids ns).Nodup := List.nodup_cons.mp nd
    have hne : m.i ≠ n.i := fun e => nd.1 (show m.i ∈ ids ns from e ▸ List.mem_map_of_mem (f := (·.i)) h)
    show Upd _ _ _ _ (nled ((if m.i = n.i then { m with np := x } else m) :: setNp n.i x ns) rest)
    rw [if_neg hne]
    exact .there (.there (.there (ih nd.2)))
theorem upd_sc {n : Nd} {ns : List Nd} {rest : List (Addr × O)} (h : n ∈ ns) (nd : (ids ns).Nodup) (x : List Int) : Upd (nled ns rest) n.L (.list (vints n.sc)) (.list (vints x)) (nled (setSc n.i x ns) rest) := by
  induction h with
  | head ns =>
    have nd : _ ∉ ids ns ∧ (ids ns).Nodup := List.nodup_cons.mp nd
    show Upd _ _ _ _ (nled ((if n.i = n.i then { n with sc := x } else n) :: setSc n.i x ns) rest)
    rw [if_pos rfl, setS_none nd.1]
    exact .there (.there .here)
  | @tail m ns h ih =>
    have nd : _ ∉ ids ns ∧ (ids ns).Nodup := List.nodup_cons.mp nd
    have hne : m.i ≠ n.i := fun e => nd.1 (show m.i ∈ ids ns from e ▸ List.mem_map_of_mem (f := (·.i)) h)
    show Upd _ _ _ _ (nled ((if m.i = n.i then { m with sc := x } else m) :: setSc n.i x ns) rest)
    rw [if_neg hne]
    exact .there (.there (.there (ih nd.2)))
theorem nled_app (ns : List Nd) (n : Nd) (rest : List (Addr × O)) : nled (ns ++ [n]) rest = nled ns (n.led ++ rest) := by
  induction ns with
  | nil => rfl
  | cons m ns ih => show _ :: _ :: _ :: nled (ns ++ [n]) rest = _; rw [ih]; rfl
theorem nled_perm (ns : List Nd) (xs rest : List (Addr × O)) : List.Perm (nled ns (xs ++ rest)) (xs ++ nled ns rest) := by
  induction ns with
  | nil => exact .refl _
  | cons m ns ih =>
    show List.Perm (m.led ++ nled ns (xs ++ rest)) (xs ++ (m.led ++ nled ns rest))
    refine (List.Perm.append_left _ ih).trans ?_
    rw [← List.append_assoc, ← List.append_assoc]
    exact List.Perm.append_right _ List.perm_append_comm
theorem at_ndict {n : Nd} {ns : List Nd} (h : n ∈ ns) (nd : (ids ns).Nodup) : atKey (ndict ns) n.i = some (.ref n.N) := by
  induction h with
  | head => simp [atKey, ndict]
  | @tail m ns h ih =>
    have nd : _ ∉ ids ns ∧ (ids ns).Nodup := List.nodup_cons.mp nd
    have hne : m.i ≠ n.i := fun e => nd.1 (show m.i ∈ ids ns from e ▸ List.mem_map_of_mem (f := (·.i)) h)
    have := ih nd.2
    unfold atKey ndict at this ⊢
    rw [List.map_cons, List.find?_cons_of_neg (by simpa using hne)]
    exact this
theorem not_ndict {i : Int} {ns : List Nd} (h : i ∉ ids ns) : atKey (ndict ns) i = none := by
  induction ns with
  | nil => rfl
  | cons m ns ih =>
    have h1 : m.i ≠ i := fun e => h (e ▸ .head _)
    have := ih fun q => h (.tail _ q)
    unfold atKey ndict at this ⊢
    rw [List.map_cons, List.find?_cons_of_neg (by simpa using h1)]
    exact this
theorem keys_ndict (ns : List Nd) : (ndict ns).map (·.1) = ids ns := by simp [ndict, ids]
theorem find_nd {i : Int} {ns : List Nd} (h : i ∈ ids ns) : ∃ n ∈ ns, n.i = i := by
  obtain ⟨n, hn, e⟩ := List.mem_map.mp h
  exact ⟨n, hn, e⟩

noncomputable abbrev sNs : List Str := ["_node2info", "_ready_nodes", "_npassedout", "_nfinished"]
theorem perm_new {α} (s1 s2 s3 x1 x2 x3 : α) (l : List α) : List.Perm (s1 :: s2 :: s3 :: x1 :: x2 :: x3 :: l) (x3 :: x1 :: x2 :: s1 :: s2 :: s3 :: l) := by
  have h1 : List.Perm ([s1, s2, s3] ++ ([x1, x2] ++ [x3])) (([x3] ++ [x1, x2]) ++ [s1, s2, s3]) := List.perm_append_comm.trans (List.Perm.append_right _ List.perm_append_comm)
  exact List.Perm.append_right l h1
/-- a sorter -/
noncomputable def sled (S D M : Addr) (rd : V) (po fi : Int) (ep : Nat) (ns : List Nd) (rest : List (Addr × O)) : List (Addr × O) :=
  (S, .inst 174 D) :: (D, .idict sNs [some (.ref M), some rd, some (.int po), some (.int fi)]) :: (M, .dict (ndict ns) ep) :: nled ns rest
theorem sled_new (S D M : Addr) (rd : V) (po fi : Int) (ep : Nat) (ns : List Nd) (m : Nd) (rest : List (Addr × O)) : List.Perm (sled S D M rd po fi ep (ns ++ [m]) rest)
    ((m.L, .list (vints m.sc)) :: (m.N, m.obj) :: (m.D, .idict [] []) :: (S, .inst 174 D) :: (D, .idict sNs [some (.ref M), some rd, some (.int po), some (.int fi)]) :: (M, .dict (ndict ns ++ [(m.i, .ref m.N)]) ep) :: nled ns rest) := by
  unfold sled
  rw [nled_app, show ndict (ns ++ [m]) = ndict ns ++ [(m.i, .ref m.N)] by simp [ndict]]
  refine List.Perm.trans ?_ (perm_new _ _ _ _ _ _ _)
  exact .cons _ (.cons _ (.cons _ (nled_perm ns m.led rest)))

noncomputable def vMap (i : Int) (f : Int × List Int → Int × List Int) (v : View) : View := v.map fun m => if m.1 = i then (m.1, f m.2) else m
noncomputable def vGet (i : Int) (v : View) : View := if i ∈ v.map (·.1) then v else v ++ [(i, 0, [])]
/-- what add does -/
noncomputable def vAdd (i : Int) (ps : List Int) (v : View) : View := ps.foldl (fun v p => vMap p (fun q => (q.1, q.2 ++ [i])) (vGet p v)) (vMap i (fun q => (q.1 + ps.length, q.2)) (vGet i v))
theorem same_nd {n m : Nd} : ∀ {ns : List Nd}, n ∈ ns → m ∈ ns → (ids ns).Nodup → m.i = n.i → m = n
  | a :: ns, hn, hm, nd, e => by
    have nd : a.i ∉ ids ns ∧ (ids ns).Nodup := List.nodup_cons.mp nd
    rcases List.mem_cons.mp hn with h1 | h1 <;> rcases List.mem_cons.mp hm with h2 | h2
    · rw [h1, h2]
    · exact absurd (show a.i ∈ ids ns by rw [← h1, ← e]; exact List.mem_map_of_mem (f := (·.i)) h2) nd.1
    · exact absurd (show a.i ∈ ids ns by rw [← h2, e]; exact List.mem_map_of_mem (f := (·.i)) h1) nd.1
    · exact same_nd h1 h2 nd.2 e
theorem view_np {n : Nd} {ns : List Nd} (h : n ∈ ns) (nd : (ids ns).Nodup) (f : Int → Int) : view (setNp n.i (f n.np) ns) = vMap n.i (fun p => (f p.1, p.2)) (view ns) := by
  simp only [view, setNp, vMap, List.map_map]
  refine List.map_congr_left fun m hm => ?_
  simp only [Function.comp]
  split
  · rename_i e; rw [same_nd h hm nd e]
  · rfl
theorem view_sc {n : Nd} {ns : List Nd} (h : n ∈ ns) (nd : (ids ns).Nodup) (f : List Int → List Int) : view (setSc n.i (f n.sc) ns) = vMap n.i (fun p => (p.1, f p.2)) (view ns) := by
  simp only [view, setSc, vMap, List.map_map]
  refine List.map_congr_left fun m hm => ?_
  simp only [Function.comp]
  split
  · rename_i e; rw [same_nd h hm nd e]
  · rfl
theorem view_get {i : Int} {ns ns' : List Nd} {m : Nd} (hi : m.i = i) (h : (i ∈ ids ns ∧ ns' = ns) ∨ (i ∉ ids ns ∧ ns' = ns ++ [m] ∧ m.np = 0 ∧ m.sc = [])) : view ns' = vGet i (view ns) := by
  unfold vGet
  rw [ids_view] at h
  rcases h with ⟨h, rfl⟩ | ⟨h, rfl, h1, h2⟩
  · rw [if_pos h]
  · rw [if_neg h]; simp [view, h1, h2, hi]
theorem len_get {i : Int} {ns ns' : List Nd} {m : Nd} (h : (i ∈ ids ns ∧ ns' = ns) ∨ (i ∉ ids ns ∧ ns' = ns ++ [m] ∧ m.np = 0 ∧ m.sc = [])) : ns'.length ≤ ns.length + 1 := by
  rcases h with ⟨h, rfl⟩ | ⟨h, rfl, h1, h2⟩ <;> simp
theorem len_setNp (i x : Int) (ns : List Nd) : (setNp i x ns).length = ns.length := by simp [setNp]
theorem len_setSc (i : Int) (x : List Int) (ns : List Nd) : (setSc i x ns).length = ns.length := by simp [setSc]
theorem sled_out (S D M : Addr) (rd : V) (po fi : Int) (ep : Nat) (ns : List Nd) (x : Addr × O) (rest : List (Addr × O)) : List.Perm (x :: sled S D M rd po fi ep ns rest) (sled S D M rd po fi ep ns (x :: rest)) := by
  unfold sled
  refine List.Perm.trans ?_ (.cons _ (.cons _ (.cons _ (nled_perm ns [x] rest).symm)))
  exact (List.perm_append_comm (l₁ := [x]) (l₂ := [_, _, _])).append_right _
section
variable {b s : Shared} {fs : List Frm} {S D M : Addr} {rd : V} {po fi : Int} {ep : Nat} {ns : List Nd} {x : Addr × O} {rest : List (Addr × O)}
theorem St.inn (Z : St b fs (x :: sled S D M rd po fi ep ns rest) s) : St b fs (sled S D M rd po fi ep ns (x :: rest)) s := Z.perm (sled_out ..).symm
theorem St.out (Z : St b fs (sled S D M rd po fi ep ns (x :: rest)) s) : St b fs (x :: sled S D M rd po fi ep ns rest) s := Z.perm (sled_out ..)
end
theorem upd_app {n : Nd} {ns : List Nd} {rest : List (Addr × O)} (h : n ∈ ns) (nd : (ids ns).Nodup) (x : Int) : Upd (nled ns rest) n.L (.list (vints n.sc)) (.list (vints n.sc ++ [.int x])) (nled (setSc n.i (n.sc ++ [x]) ns) rest) := by
  have := upd_sc (rest := rest) h nd (n.sc ++ [x])
  rwa [show vints (n.sc ++ [x]) = vints n.sc ++ [.int x] by simp [vints]] at this
theorem vints_get {ps : List Int} {j : Nat} {x : V} (h : (vints ps)[j]? = some x) : ∃ p, ps[j]? = some p ∧ x = .int p := by
  rw [vints, List.getElem?_map] at h
  cases q : ps[j]? with
  | none => rw [q] at h; cases h
  | some p => rw [q] at h; cases h; exact ⟨p, rfl, rfl⟩
theorem fold_step {α β} (f : β → α → β) (z : β) {l : List α} {j : Nat} {p : α} (h : l[j]? = some p) : (l.take (j + 1)).foldl f z = f ((l.take j).foldl f z) p := by
  rw [List.take_add_one, h, List.foldl_append]; rfl
theorem St.cast {b s : Shared} {fs : List Frm} {led led' : List (Addr × O)} (S : St b fs led s) (h : led' = led) : St b fs led' s := h ▸ S
/-- no list of successors is longer than c -/
noncomputable def Big (ns : List Nd) (c : Nat) : Prop := ∀ n ∈ ns, n.sc.length ≤ c
theorem Big.get {i : Int} {ns ns' : List Nd} {m : Nd} {c : Nat} (B : Big ns c) (h : (i ∈ ids ns ∧ ns' = ns) ∨ (i ∉ ids ns ∧ ns' = ns ++ [m] ∧ m.np = 0 ∧ m.sc = [])) : Big ns' c := by
  rcases h with ⟨h, rfl⟩ | ⟨h, rfl, h1, h2⟩
  · exact B
  · intro n hn
    rcases List.mem_append.mp hn with hn | hn
    · exact B n hn
    · rcases List.mem_singleton.mp hn with rfl; rw [h2]; exact Nat.zero_le _
theorem Big.np {ns : List Nd} {c : Nat} (B : Big ns c) (i x : Int) : Big (setNp i x ns) c := by
  intro n hn
  obtain ⟨m, hm, rfl⟩ := List.mem_map.mp hn
  have := B m hm
  split <;> exact this
theorem Big.app {ns : List Nd} {c : Nat} {n : Nd} (B : Big ns c) (hn : n ∈ ns) (x : Int) : Big (setSc n.i (n.sc ++ [x]) ns) (c + 1) := by
  intro k hk
  obtain ⟨m, hm, rfl⟩ := List.mem_map.mp hk
  have := B m hm
  have h2 := B n hn
  split
  · simp only [List.length_append, List.length_singleton]; omega
  · omega
end Sor
section Prg
open PySem PySem.W PyProof.Rows PySem.Calls

noncomputable def nth : List Stmt → Nat → Stmt
  | [], _ => .Pass ⟨0, 0, 0, 0⟩
  | x :: _, 0 => x
  | _ :: l, n + 1 => nth l n
noncomputable def inside : Stmt → List Stmt
  | .ClassDef _ _ _ b _ _ _ _ _ _ _ => b
  | _ => []
noncomputable def fnm : Stmt → Str
  | .FunctionDef n _ _ _ _ _ _ _ _ _ => n
  | _ => ""
noncomputable def fpar : Stmt → Arguments
  | .FunctionDef _ a _ _ _ _ _ _ _ _ => a
  | _ => ⟨[], [], none, [], [], none, []⟩
noncomputable def fbody : Stmt → List Stmt
  | .FunctionDef _ _ b _ _ _ _ _ _ _ => b
  | _ => []
noncomputable def fsco : Stmt → Scope
  | .FunctionDef _ _ _ _ _ _ s _ _ _ => s
  | _ => ⟨.function, [], false, false, []⟩
noncomputable def stAt (i : Nat) : Stmt := nth PySem.Challenge.pw_op0144_01.main.body i
noncomputable def mtAt (i j : Nat) : Stmt := nth (inside (stAt i)) j
/-- the object of a function of the text -/
noncomputable def FnAt (K : Frag) (f : Addr) (st : Stmt) (dV kV : Value) : Prop :=
  ∃ qual doc pm an cdv ct oc od osl, K.lookup f = some ⟨oc, od, .func (fnOf (fnm st) qual (fpar st) (fbody st) (fsco st) dV kV doc pm an cdv ct), osl⟩ ∧ codeIn K cdv qual = true

noncomputable abbrev meths : List (Str × Addr) := [("_get_nodeinfo", 117), ("add", 124), ("prepare", 129), ("get_ready", 136), ("is_active", 143), ("done", 157), ("_find_cycle", 164)]
noncomputable abbrev fns : List Addr := [28, 35, 42, 50, 58, 77, 174, 117, 124, 129, 136, 143, 157, 164, 183, 190, 195, 200, 207]
/-- what is asked of the written heap -/
structure KOk (K : Frag) : Prop where
  f28 : FnAt K 28 (stAt 2) .none .none
  f35 : FnAt K 35 (stAt 4) .none .none
  f42 : FnAt K 42 (stAt 5) .none .none
  f50 : FnAt K 50 (stAt 7) .none (.ref 43)
  f58 : FnAt K 58 (stAt 9) (.ref 51) .none
  f73 : FnAt K 73 (mtAt 13 1) .none .none
  f110 : FnAt K 110 (mtAt 15 0) (.ref 103) .none
  f117 : FnAt K 117 (mtAt 15 1) .none .none
  f124 : FnAt K 124 (mtAt 15 2) .none .none
  f129 : FnAt K 129 (mtAt 15 3) .none .none
  f136 : FnAt K 136 (mtAt 15 4) .none .none
  f143 : FnAt K 143 (mtAt 15 5) .none .none
  f157 : FnAt K 157 (mtAt 15 7) .none .none
  f164 : FnAt K 164 (mtAt 15 8) .none .none
  f183 : FnAt K 183 (stAt 17) .none .none
  f190 : FnAt K 190 (stAt 18) .none .none
  f195 : FnAt K 195 (stAt 19) .none .none
  f200 : FnAt K 200 (stAt 20) .none .none
  f207 : FnAt K 207 (stAt 21) .none .none
  f212 : FnAt K 212 (stAt 22) .none .none
  kc77 : KC K 77
  ks_node : KSlot K 77 "node" 78 0
  ks_npred : KSlot K 77 "npredecessors" 79 1
  ks_succ : KSlot K 77 "successors" 80 2
  kc174 : KC K 174
  hd174 : (clsIn K 174).any (·.hasDict) = true
  fi174 : ∀ x ∈ sNs, findIn K (.ref 174) x = some none
  ta174 : ∀ x ∈ sNs, takerIn K 174 x = some none
  me174 : ∀ p ∈ meths, findIn K (.ref 174) p.1 = some (some (.ref p.2)) ∧ typeIn K (.ref p.2) = some (.type "function") ∧ p.1 ∉ sNs
  keep : ∀ f ∈ fns, keepIn K (.ref f) = true
  mk77 : makesIn K 77 = true
  in77 : findIn K (.ref 77) "__init__" = some (some (.ref 73))
  ty73 : typeIn K (.ref 73) = some (.type "function")
  mk174 : makesIn K 174 = true
  in174 : findIn K (.ref 174) "__init__" = some (some (.ref 110))
  ty110 : typeIn K (.ref 110) = some (.type "function")
  d103 : ∃ o n, K.lookup 103 = some o ∧ o.data = .seq #[.none] n
  d51 : ∃ o n, K.lookup 51 = some o ∧ o.data = .seq #[.none] n
theorem sNs_nd : sNs.Nodup := by decide +kernel

noncomputable def b64L : List UInt8 := [65, 66, 67, 68, 69, 70, 71, 72, 73, 74, 75, 76, 77, 78, 79, 80, 81, 82, 83, 84, 85, 86, 87, 88, 89, 90, 97, 98, 99, 100, 101, 102, 103, 104, 105, 106, 107, 108, 109, 110, 111, 112, 113, 114, 115, 116, 117, 118, 119, 120, 121, 122, 48, 49, 50, 51, 52, 53, 54, 55, 56, 57, 43, 47]
noncomputable def b64A : Array UInt8 := b64L.toArray
noncomputable abbrev globs : List (Str × V) := [("skip_chars", .ref 28), ("_buffer", .ref 35), ("_truth", .ref 42), ("b2a_base64", .ref 50), ("b64encode", .ref 58), ("_NODE_OUT", .int (-1)), ("_NODE_DONE", .int (-2)), ("_NodeInfo", .ref 77), ("TopologicalSorter", .ref 174), ("_B64", .bytes b64A),
  ("_law_text", .ref 183), ("_law_bounds", .ref 190), ("_law_sorter", .ref 195), ("_law_ranked", .ref 200), ("_law_lets", .ref 207)]
noncomputable abbrev blts : List (Str × V) := [("len", .bi "len"), ("range", .type "range"), ("tuple", .type "tuple"), ("list", .type "list"), ("set", .type "set"), ("iter", .bi "iter"), ("bool", .type "bool"), ("bytes", .type "bytes"), ("chr", .bi "chr"), ("min", .bi "min"), ("max", .bi "max"), ("sum", .bi "sum"),
  ("enumerate", .type "enumerate"), ("sorted", .bi "sorted"), ("divmod", .bi "divmod"), ("type", .type "type"), ("IndexError", .type "IndexError"), ("StopIteration", .type "StopIteration")]
noncomputable abbrev Gd (b : Shared) : Prop := Gl globs blts b

section
variable {prog : Program} {w : World} {A : Around} {E : Value → Shared → Prop} {b s : Shared} {fs : List Frm} {led : List (Addr × O)} {K : Frag}
/-- a call of a function of the text by positional arguments -/
theorem code_at {f : Addr} {st : Stmt} {dV kV : Value} {s1 : Stmt} {rest : List Stmt} {args : List Value} {pn rn gs' : List Str} {xs : List V} {n : Nat} {Ls : List Addr} {Q : Value → Shared → Prop}
    (S : St b fs led s) (g : Gd b) (X : K.In b.heap) (hA : Ar A (n + 1) Ls) (hF : FnAt K f st dV kV) (hB : fbody st = s1 :: rest) (hl : Loc (fsco st) (pn ++ rn) gs') (hx : Isl args xs)
    (hbind : ∀ qual doc pm an cdv ct, bindArgs (fnOf (fnm st) qual (fpar st) (fbody st) (fsco st) dV kV doc pm an cdv ct) ⟨args, []⟩ = pure (pn.zip args)) (hlen : pn.length = args.length)
    (h3 : ((fsco st).isCoroutine, (fsco st).isGenerator, (fsco st).names.all fun x => x.2 != .cell) = (false, false, true))
    (h : ∀ env A' L' s', Ev env L' (pn ++ rn) gs' → Ar A' n (L' :: Ls) → St b (⟨L', pn ++ rn, xs.map some ++ rn.map fun _ => none⟩ :: fs) led s' → wpAny (model prog w) A' (execs (s1 :: rest) env) (fun fl s'' => Q (retv fl) s'') (fun _ _ => False) s') :
    codeAny (model prog w) A (.call (.ref f) ⟨args, []⟩) (Ret Q) s := by
  obtain ⟨qual, doc, pm, an, cdv, ct, oc, od, osl, ho, hc⟩ := hF
  simp only [Prod.mk.injEq] at h3
  refine code_pos S g X hA ho hc hl hx (hbind ..) hlen ?_ h3.1 h3.2.1 h3.2.2
  rw [hB]; exact h
end
end Prg
section Loo
section
variable {b s : Shared} {fs : List Frm} {led : List (Addr × O)}
/-- an object of the ledger is lost -/
theorem St.lose {a : Addr} {K : O} (S : St b fs ((a, K) :: led) s) {h' : Heap} {tk : Nat} (hk : Heap.ExtBut a s.heap h') : St b fs led { s with heap := h', toks := tk } := by
  have nd := List.nodup_append.mp S.nd
  have hn := S.new a (List.mem_append_right _ (.head _))
  refine ⟨fun x o e => hk x o (fun q => by rw [q, hn.1] at e; cases e) (S.keep x o e), fun f hf => ?_, fun p hp => ?_, S.drop.nd, S.drop.new, S.top, S.gens, S.os⟩
  · obtain ⟨m, h1, h2⟩ := S.fr f hf
    exact ⟨m, h1.extBut hk (fun e => nd.2.2 _ (List.mem_map_of_mem (f := (·.L)) hf) _ (.head _) e), h2⟩
  · obtain ⟨o, ho, hs⟩ := S.lg p (.tail _ hp)
    refine ⟨o, hk _ _ (fun e => ?_) ho, hs⟩
    have := (List.nodup_cons.mp nd.2.1).1
    exact this (e ▸ List.mem_map_of_mem (f := (·.1)) hp)
/-- a frame is lost -/
theorem St.leave {f : Frm} (S : St b (f :: fs) led s) {h' : Heap} {tk : Nat} (hk : Heap.ExtBut f.L s.heap h') : St b fs led { s with heap := h', toks := tk } := by
  have hn := S.new f.L (.head _)
  have nd : f.L ∉ fs.map (·.L) ++ led.map (·.1) ∧ _ := List.nodup_cons.mp S.nd
  refine ⟨fun x o e => hk x o (fun q => by rw [q, hn.1] at e; cases e) (S.keep x o e), fun g hg => ?_, fun p hp => ?_, S.pop.nd, S.pop.new, S.top, S.gens, S.os⟩
  · obtain ⟨m, h1, h2⟩ := S.fr g (.tail _ hg)
    exact ⟨m, h1.extBut hk (fun e => nd.1 (e ▸ List.mem_append_left _ (List.mem_map_of_mem (f := (·.L)) hg))), h2⟩
  · obtain ⟨o, ho, hs⟩ := S.lg p hp
    exact ⟨o, hk _ _ (fun e => nd.1 (e ▸ List.mem_append_right _ (List.mem_map_of_mem (f := (·.1)) hp))) ho, hs⟩
end

/-- an iterator over things that are known; C: what must stay in the ledger -/
structure Wk (prog : Program) (w : World) (b : Shared) (it : Addr) (xs : List V) (C : List (Addr × O)) (itO : Nat → O) : Prop where
  item : ∀ {A : Around} {E : Value → Shared → Prop} {fs : List Frm} {led : List (Addr × O)} {s : Shared} {i : Nat} {x : V} {Q : Option Value → Shared → Prop}, xs[i]? = some x → (∀ p ∈ C, p ∈ led) → St b fs ((it, itO i) :: led) s →
    (∀ u s', Is u x → St b fs ((it, itO (i + 1)) :: led) s' → Q (some u) s') → wpAny (model prog w) A (pyNext (.ref it)) Q E s
  stop : ∀ {A : Around} {E : Value → Shared → Prop} {fs : List Frm} {led : List (Addr × O)} {s : Shared} {Q : Option Value → Shared → Prop}, A.handled = none → (∀ p ∈ C, p ∈ led) → St b fs ((it, itO xs.length) :: led) s →
    (∀ s', St b fs led s' → Q none s') → wpAny (model prog w) A (pyNext (.ref it)) Q E s
  self : ∀ {A : Around} {E : Value → Shared → Prop} {fs : List Frm} {led : List (Addr × O)} {s : Shared} {i : Nat} {Q : Value → Shared → Prop}, St b fs ((it, itO i) :: led) s → Q (.ref it) s → wpAny (model prog w) A (pyIter (.ref it)) Q E s
  noOwn : ∀ {A : Around} {E : Value → Shared → Prop} {fs : List Frm} {led : List (Addr × O)} {s : Shared} {i : Nat} {Q : Unit → Shared → Prop} {t : Expr} {v : Value}, St b fs ((it, itO i) :: led) s → Q () s → wpAny (model prog w) A (letOwnedTupleGo t (.ref it) v) Q E s

section
variable {prog : Program} {w : World} {A : Around} {E : Value → Shared → Prop} {b s : Shared} {fs : List Frm} {led : List (Addr × O)}

theorem noOwn_of {it : Addr} {o : Obj} {n : String} {v : Value} {t : Expr} {Q : Unit → Shared → Prop} (ho : s.heap.get? it = some o) (hc : o.cls = .type n) (hn : ["enumerate", "zip", "dict_itemiterator", "dict_reverseitemiterator", "odict_iterator", "itertools.zip_longest", "itertools.pairwise"].contains n = false)
    (k : Q () s) : wpAny (model prog w) A (letOwnedTupleGo t (.ref it) v) Q E s := by
  unfold letOwnedTupleGo
  split
  · cases v <;> first | exact wpAny_pure k | skip
    refine wpAny_bind (wpAny_load ho ?_)
    rw [hc]
    cases o.data <;> first | exact wpAny_pure k | (dsimp only; rw [hn]; exact wpAny_pure k)
  · cases v <;> first | exact wpAny_pure k | skip
    refine wpAny_bind (wpAny_load ho ?_)
    rw [hc]
    cases o.data <;> first | exact wpAny_pure k | (dsimp only; rw [hn]; exact wpAny_pure k)
  · exact wpAny_pure k

noncomputable abbrev litO (l : Addr) (i : Nat) : O := .pred fun o => o.cls = .type "list_iterator" ∧ o.data = .fields #[.ref l, .int i 0]
theorem wk_list (it l : Addr) (xs : List V) : Wk prog w b it xs [(l, .list xs)] (litO l) where
  item := fun hx hC S k => by
    obtain ⟨us, hi, hl⟩ := S.isList (.tail _ (hC _ (.head _)))
    obtain ⟨o, ho, hp⟩ := S.at (.head _)
    obtain ⟨u, hu, iu⟩ := hi.get hx
    refine wpAny_pyNext_list_item ⟨o, ho, hp⟩ hl (by simpa using hu) fun h' ⟨o', ho', hp'⟩ hs => k u _ iu (S.upd .here hs.extBut ho' hp')
  stop := fun hh hC S k => by
    obtain ⟨us, hi, hl⟩ := S.isList (.tail _ (hC _ (.head _)))
    obtain ⟨o, ho, hp⟩ := S.at (.head _)
    exact wpAny_pyNext_list_end hh ⟨o, ho, hp⟩ hl (by simp [hi.length]) fun h' hs => k _ (S.lose hs)
  self := fun S k => by
    obtain ⟨o, ho, hp⟩ := S.at (.head _)
    exact wpAny_pyIter_listiter ⟨o, ho, hp⟩ k
  noOwn := fun S k => by
    obtain ⟨o, ho, hp⟩ := S.at (.head _)
    exact noOwn_of ho hp.1 (by decide +kernel) k
theorem it_list {l : Addr} {xs : List V} {Q : Value → Shared → Prop} (S : St b fs led s) (h : (l, .list xs) ∈ led) (k : ∀ it s', St b fs ((it, litO l 0) :: led) s' → Q (.ref it) s') : wpAny (model prog w) A (pyIter (.ref l)) Q E s := by
  obtain ⟨us, hi, hl⟩ := S.isList h
  exact wpAny_pyIter_list hl (k _ _ (S.push ⟨rfl, rfl⟩))

noncomputable abbrev titO (l : Addr) (i : Nat) : O := .pred fun o => o.cls = .type "tuple_iterator" ∧ o.data = .fields #[.ref l, .int i 0]
theorem wk_tup (it l : Addr) (xs : List V) : Wk prog w b it xs [(l, .tuple xs)] (titO l) where
  item := fun hx hC S k => by
    obtain ⟨us, hi, hl⟩ := S.isTup (.tail _ (hC _ (.head _)))
    obtain ⟨o, ho, hp⟩ := S.at (.head _)
    obtain ⟨u, hu, iu⟩ := hi.get hx
    refine wpAny_pyNext_tuple_item ⟨o, ho, hp⟩ hl (by simpa using hu) fun h' ⟨o', ho', hp'⟩ hs => k u _ iu (S.upd .here hs.extBut ho' hp')
  stop := fun hh hC S k => by
    obtain ⟨us, hi, hl⟩ := S.isTup (.tail _ (hC _ (.head _)))
    obtain ⟨o, ho, hp⟩ := S.at (.head _)
    exact wpAny_pyNext_tuple_end hh ⟨o, ho, hp⟩ hl (by simp [hi.length]) fun h' hs => k _ (S.lose hs)
  self := fun S k => by
    obtain ⟨o, ho, hp⟩ := S.at (.head _)
    exact wpAny_pyIter_tupleiter ⟨o, ho, hp⟩ k
  noOwn := fun S k => by
    obtain ⟨o, ho, hp⟩ := S.at (.head _)
    exact noOwn_of ho hp.1 (by decide +kernel) k
theorem it_tup {l : Addr} {xs : List V} {Q : Value → Shared → Prop} (S : St b fs led s) (h : (l, .tuple xs) ∈ led) (k : ∀ it s', St b fs ((it, titO l 0) :: led) s' → Q (.ref it) s') : wpAny (model prog w) A (pyIter (.ref l)) Q E s := by
  obtain ⟨us, hi, hl⟩ := S.isTup h
  exact wpAny_pyIter_tuple hl (k _ _ (S.push ⟨rfl, rfl⟩))

/-- the numbers of a range -/
noncomputable def span (x d : Int) : Nat → List Int
  | 0 => []
  | n + 1 => x :: span (x + d) d n
theorem span_len (x d : Int) (n : Nat) : (span x d n).length = n := by
  induction n generalizing x with
  | zero => rfl
  | succ n ih => simp [span, ih]
theorem span_get {d : Int} {n : Nat} : ∀ {x : Int} {i : Nat} {v : Int}, (span x d n)[i]? = some v → v = x + i * d ∧ i < n := by
  induction n with
  | zero => intro x i v e; simp [span] at e
  | succ n ih =>
    intro x i v e
    cases i with
    | zero => simp [span] at e; subst e; exact ⟨by simp, by omega⟩
    | succ i =>
      have := ih (show (span (x + d) d n)[i]? = some v by simpa [span] using e)
      refine ⟨?_, by omega⟩
      rw [this.1, Int.add_assoc]
      congr 1
      rw [Int.natCast_add, Int.add_mul]; omega
noncomputable abbrev ritO (x d : Int) (n i : Nat) : O := .pred fun o => o = { cls := .type "range_iterator", dict := none, data := .fields #[rawInt (x + i * d), rawInt ((n : Int) - i), rawInt d], slots := #[] }
theorem wk_range (it : Addr) (x d : Int) (n : Nat) : Wk prog w b it (vints (span x d n)) [] (ritO x d n) where
  item := fun {A E fs led s i y Q} hx hC S k => by
    obtain ⟨v, hv, rfl⟩ : ∃ v, (span x d n)[i]? = some v ∧ V.int v = y := by simpa [vints] using hx
    obtain ⟨rfl, hlt⟩ := span_get hv
    obtain ⟨o, ho, hp⟩ := S.at (.head _)
    subst hp
    refine wpAny_pyNext_range_item ho (by omega) fun h' ho' hs => k _ _ .int (S.upd .here hs.extBut ho' ?_)
    show _ = _
    congr 3
    rw [show ((i + 1 : Nat) : Int) = i + 1 from rfl, Int.add_mul, Int.one_mul, Int.add_assoc, show (n : Int) - (i + 1) = n - i - 1 by omega]
  stop := fun hh hC S k => by
    obtain ⟨o, ho, hp⟩ := S.at (.head _)
    subst hp
    refine wpAny_pyNext_range_end hh ho ?_ fun h' hs => k _ (S.lose hs)
    simp [vints, span_len]
  self := fun S k => by
    obtain ⟨o, ho, hp⟩ := S.at (.head _)
    subst hp
    exact wpAny_pyIter_rangeiter ho k
  noOwn := fun S k => by
    obtain ⟨o, ho, hp⟩ := S.at (.head _)
    subst hp
    exact noOwn_of ho rfl (by decide +kernel) k

noncomputable abbrev bitO (y : Array UInt8) (i : Nat) : O := .pred fun o => o.cls = .type "bytes_iterator" ∧ ∃ t, o.data = .fields #[.bytes y t, .int i 0]
theorem wk_bytes (it : Addr) (y : Array UInt8) : Wk prog w b it (vints (KBw.bInts y)) [] (bitO y) where
  item := fun {A E fs led s i z Q} hx hC S k => by
    obtain ⟨o, ho, hc, t, hp⟩ := S.at (.head _)
    obtain ⟨c, hc', rfl⟩ : ∃ c, y[i]? = some c ∧ V.int c.toNat = z := by simpa [vints, KBw.bInts] using hx
    exact KBw.next_item ⟨o, ho, hc, hp⟩ hc' fun h' ⟨o', ho', hc', hp'⟩ hs => k _ _ .int (S.upd .here hs.extBut ho' ⟨hc', t, hp'⟩)
  stop := fun hh hC S k => by
    obtain ⟨o, ho, hc, t, hp⟩ := S.at (.head _)
    exact KBw.next_end hh ⟨o, ho, hc, hp⟩ (by simp [vints, KBw.ints_length]) fun h' hs => k _ (S.lose hs)
  self := fun S k => by
    obtain ⟨o, ho, hc, t, hp⟩ := S.at (.head _)
    exact KBw.pyIter_self ⟨o, ho, hc, hp⟩ k
  noOwn := fun S k => by
    obtain ⟨o, ho, hp⟩ := S.at (.head _)
    exact noOwn_of ho hp.1 (by decide +kernel) k
theorem it_bytes {y : Array UInt8} {t : Tok} {Q : Value → Shared → Prop} (S : St b fs led s) (k : ∀ it s', St b fs ((it, bitO y 0) :: led) s' → Q (.ref it) s') : wpAny (model prog w) A (pyIter (.bytes y t)) Q E s :=
  KBw.pyIter_bytes (k _ _ (S.push ⟨rfl, t, rfl⟩))

noncomputable abbrev ditO (d : Addr) (n ep i : Nat) : O := .pred fun o => o.cls = .type "dict_keyiterator" ∧ o.data = .fields #[.ref d, .int i 0, .int n 0, .int ep 0]
theorem wk_dict (it d : Addr) (es : List (Int × V)) (ep : Nat) : Wk prog w b it (vints (es.map (·.1))) [(d, .dict es ep)] (ditO d es.length ep) where
  item := fun {A E fs led s i z Q} hx hC S k => by
    obtain ⟨o, ho, hp⟩ := S.at (.head _)
    obtain ⟨od, hod, hsd⟩ := S.at (.tail _ (hC _ (.head _)))
    obtain ⟨ks, hks, hd⟩ := dict_at (prog := prog) (w := w) hod hsd
    obtain ⟨⟨j, v⟩, hv, rfl⟩ : ∃ p, es[i]? = some p ∧ V.int p.1 = z := by simpa [vints] using hx
    obtain ⟨u, hu, iu⟩ := hks.get hv
    refine wpAny_pyNext_dict_item ⟨o, ho, by rw [hks.len]; exact hp⟩ hd hu fun key h' hkey ⟨o', ho', hp'⟩ hs => ?_
    obtain ⟨t, rfl⟩ := Value.isInt_shape hkey
    exact k _ _ .int (S.upd .here hs.extBut ho' (by rw [hks.len] at hp'; exact hp'))
  stop := fun hh hC S k => by
    obtain ⟨o, ho, hp⟩ := S.at (.head _)
    obtain ⟨od, hod, hsd⟩ := S.at (.tail _ (hC _ (.head _)))
    obtain ⟨ks, hks, hd⟩ := dict_at (prog := prog) (w := w) hod hsd
    exact wpAny_pyNext_dict_end hh ⟨o, ho, by rw [hks.len]; exact hp⟩ hd (by simp [vints, hks.len]) fun h' hs => k _ (S.lose hs)
  self := fun S k => by
    obtain ⟨o, ho, hp⟩ := S.at (.head _)
    exact wpAny_pyIter_keyiter ⟨o, ho, hp⟩ k
  noOwn := fun S k => by
    obtain ⟨o, ho, hp⟩ := S.at (.head _)
    exact noOwn_of ho hp.1 (by decide +kernel) k
theorem it_dict {d : Addr} {es : List (Int × V)} {ep : Nat} {Q : Value → Shared → Prop} (S : St b fs led s) (h : (d, .dict es ep) ∈ led) (k : ∀ it s', St b fs ((it, ditO d es.length ep 0) :: led) s' → Q (.ref it) s') : wpAny (model prog w) A (pyIter (.ref d)) Q E s := by
  obtain ⟨od, hod, hsd⟩ := S.at h
  obtain ⟨ks, hks, hd⟩ := dict_at (prog := prog) (w := w) hod hsd
  exact wpAny_pyIter_dict (S.notSys h) hd (k _ _ (S.push ⟨rfl, by rw [hks.len]; rfl⟩))

noncomputable abbrev vitO (d : Addr) (n ep i : Nat) : O := .pred fun o => o.cls = .type "dict_valueiterator" ∧ o.data = .fields #[.ref d, .int i 0, .int n 0, .int ep 0]
theorem wk_vals (it d : Addr) (es : List (Int × V)) (ep : Nat) : Wk prog w b it (es.map (·.2)) [(d, .dict es ep)] (vitO d es.length ep) where
  item := fun {A E fs led s i z Q} hx hC S k => by
    obtain ⟨o, ho, hp⟩ := S.at (.head _)
    obtain ⟨od, hod, hsd⟩ := S.at (.tail _ (hC _ (.head _)))
    obtain ⟨ks, hks, hd⟩ := dict_at (prog := prog) (w := w) hod hsd
    obtain ⟨⟨j, v⟩, hv, rfl⟩ : ∃ p, es[i]? = some p ∧ p.2 = z := by simpa [List.getElem?_map] using hx
    obtain ⟨u, hu, iu⟩ := hks.get hv
    refine wpAny_pyNext_values_item ⟨o, ho, by rw [hks.len]; exact hp⟩ hd hu fun h' ⟨o', ho', hp'⟩ hs => ?_
    exact k _ _ iu (S.upd .here hs.extBut ho' (by rw [hks.len] at hp'; exact hp'))
  stop := fun hh hC S k => by
    obtain ⟨o, ho, hp⟩ := S.at (.head _)
    obtain ⟨od, hod, hsd⟩ := S.at (.tail _ (hC _ (.head _)))
    obtain ⟨ks, hks, hd⟩ := dict_at (prog := prog) (w := w) hod hsd
    exact wpAny_pyNext_values_end hh ⟨o, ho, by rw [hks.len]; exact hp⟩ hd (by simp [hks.len]) fun h' hs => k _ (S.lose hs)
  self := fun S k => by
    obtain ⟨o, ho, hp⟩ := S.at (.head _)
    exact wpAny_pyIter_valiter ⟨o, ho, hp⟩ k
  noOwn := fun S k => by
    obtain ⟨o, ho, hp⟩ := S.at (.head _)
    exact noOwn_of ho hp.1 (by decide +kernel) k
end

/-- what a turn of a loop must bring about -/
noncomputable def Lp (I : Shared → Prop) (Q : Flow → Shared → Prop) : Flow → Shared → Prop
  | .next, s => I s
  | .cont, s => I s
  | .brk, s => Q .next s
  | .ret v, s => Q (.ret v) s
theorem lp_next {I Q s} (h : I s) : Lp I Q .next s := h
theorem lp_cont {I Q s} (h : I s) : Lp I Q .cont s := h
theorem lp_brk {I s} {Q : Flow → Shared → Prop} (h : Q .next s) : Lp I Q .brk s := h
theorem lp_ret {I s v} {Q : Flow → Shared → Prop} (h : Q (.ret v) s) : Lp I Q (.ret v) s := h

section
variable {prog : Program} {w : World} {A : Around} {E : Value → Shared → Prop} {b s : Shared} {fs : List Frm} {led : List (Addr × O)} {env : Env} {L : Addr} {ns : List Str} {vs : List (Option V)}

theorem x_for {target iter : Expr} {body orelse : List Stmt} {pos : Pos} {Q : Flow → Shared → Prop}
    (h : wpAny (model prog w) A (eval iter env) (fun x s₁ => wpAny (model prog w) A (pyIter x) (fun it s₂ => codeAny (model prog w) A (.forLoop target it body orelse env) (fun r s' => match r with | .ok f => Q f s' | .error e => False) s₂) E s₁) E s)
    (hs : ∀ x, foldedSetIterable iter env x = pure x := by intro _; rfl) : wpAny (model prog w) A (exec (.For target iter body orelse pos) env) Q E s :=
  wpAny_For (wpAny_mono h (fun x s₁ h₁ => wpAny_mono h₁ (fun it s₂ h₂ => codeAny_mono h₂ fun r s' h => by cases r <;> first | exact h | exact h.elim) fun _ _ z => z) fun _ _ z => z) hs

theorem fl_loop {it : Addr} {xs : List V} {C : List (Addr × O)} {itO : Nat → O} {target : Expr} {body orelse : List Stmt} {Q : Flow → Shared → Prop} (W : Wk prog w b it xs C itO) (P : Nat → List (Option V) → List (Addr × O) → Prop)
    (S : St b (⟨L, ns, vs⟩ :: fs) ((it, itO 0) :: led) s) (hP : P 0 vs led) (hC : ∀ i vs led, P i vs led → ∀ p ∈ C, p ∈ led) (hh : A.handled = none)
    (turn : ∀ i x vs led s, xs[i]? = some x → P i vs led → St b (⟨L, ns, vs⟩ :: fs) ((it, itO (i + 1)) :: led) s → ∀ u, Is u x →
      wpAny (model prog w) A (assign target env u) (fun _ s₂ => wpAny (model prog w) A (execs body env) (Lp (fun s₃ => ∃ vs' led', P (i + 1) vs' led' ∧ St b (⟨L, ns, vs'⟩ :: fs) ((it, itO (i + 1)) :: led') s₃) Q) (fun _ _ => False) s₂) (fun _ _ => False) s)
    (done : ∀ vs led s, P xs.length vs led → St b (⟨L, ns, vs⟩ :: fs) led s → wpAny (model prog w) A (execs orelse env) Q (fun _ _ => False) s) :
    codeAny (model prog w) A (.forLoop target (.ref it) body orelse env) (fun r s' => match r with | .ok f => Q f s' | .error e => False) s := by
  refine codeAny_forLoop_any (fun n s => ∃ i vs led, n + i = xs.length ∧ P i vs led ∧ St b (⟨L, ns, vs⟩ :: fs) ((it, itO i) :: led) s) ?_ xs.length ⟨0, vs, led, by omega, hP, S⟩
  rintro n s ⟨i, vs, led, hn, hP, S⟩
  cases q : xs[i]? with
  | none =>
    have hi : i = xs.length := by have := List.getElem?_eq_none_iff.mp q; omega
    subst hi
    exact W.stop hh (hC _ _ _ hP) S fun s' S' => wpAny_mono (done _ _ _ hP S') (fun _ _ z => z) fun _ _ z => z.elim
  | some x =>
    refine W.item q (hC _ _ _ hP) S fun u s' hu S' => W.noOwn S' ?_
    refine wpAny_mono (turn i x vs led s' q hP S' u hu) (fun _ s₂ h₂ => wpAny_mono h₂ (fun f s₃ h₃ => ?_) fun _ _ z => z.elim) fun _ _ z => z.elim
    have hlt : i < xs.length := (List.getElem?_eq_some_iff.mp q).1
    have nx : (∃ vs' led', P (i + 1) vs' led' ∧ St b (⟨L, ns, vs'⟩ :: fs) ((it, itO (i + 1)) :: led') s₃) → ∃ m, m < n ∧ ∃ i vs led, m + i = xs.length ∧ P i vs led ∧ St b (⟨L, ns, vs⟩ :: fs) ((it, itO i) :: led) s₃ :=
      fun ⟨vs', led', hp, hs⟩ => ⟨n - 1, by omega, i + 1, vs', led', by omega, hp, hs⟩
    cases f with
    | next => exact nx h₃
    | cont => exact nx h₃
    | brk => exact h₃
    | ret v => exact h₃

theorem x_while {test : Expr} {body orelse : List Stmt} {pos : Pos} {Q : Flow → Shared → Prop} (I : Nat → Shared → Prop) (n : Nat) (h : I n s)
    (turn : ∀ n s, I n s → wpAny (model prog w) A (isTrue test env (eval test env)) (fun c s₂ => bif c then wpAny (model prog w) A (execs body env) (Lp (fun s₃ => ∃ m, m < n ∧ I m s₃) Q) (fun _ _ => False) s₂
      else wpAny (model prog w) A (execs orelse env) Q (fun _ _ => False) s₂) (fun _ _ => False) s) : wpAny (model prog w) A (exec (.While test body orelse pos) env) Q E s := by
  refine wpAny_While (codeAny_whileLoop I (fun n s hI => ?_) n h)
  refine wpAny_mono (turn n s hI) (fun c s₂ h₂ => ?_) fun _ _ z => z.elim
  cases c with
  | false => exact wpAny_mono h₂ (fun _ _ z => z) fun _ _ z => z.elim
  | true =>
    refine wpAny_mono h₂ (fun f s₃ h₃ => ?_) fun _ _ z => z.elim
    cases f <;> exact h₃
end
end Loo
section Com
/-- names that are kept in cells -/
structure Cv (env : Env) (cs : List (Str × Addr)) : Prop where
  kind : env.scope.kind = .function
  cel : ∀ p ∈ cs, env.cells.lookup p.1 = some p.2 ∧ (env.kindOf p.1 = some .cell ∨ env.kindOf p.1 = some .free) ∧ (p.1 == ("__debug__" : Str)) = false ∧ (p.1 == ("__classdict__" : Str)) = false
theorem Cv.nil {env : Env} (h : env.scope.kind = .function) : Cv env [] := ⟨h, nofun⟩

section
variable {M : Model} {prog : Program} {w : World} {A : Around} {E : Value → Shared → Prop} {b s : Shared} {fs : List Frm} {led led' : List (Addr × O)} {env : Env} {L : Addr} {ns gs : List Str} {vs : List (Option V)} {cs : List (Str × Addr)}

theorem St.swap {f g : Frm} (S : St b (f :: g :: fs) led s) : St b (g :: f :: fs) led s :=
  ⟨S.keep, fun x hx => S.fr x (by rcases List.mem_cons.mp hx with rfl | hx; exact .tail _ (.head _); rcases List.mem_cons.mp hx with rfl | hx; exact .head _; exact .tail _ (.tail _ hx)), S.lg,
    (List.Perm.swap ..).nodup_iff.mp S.nd, fun a ha => S.new a ((List.Perm.swap ..).subset ha), S.top, S.gens, S.os⟩

/-- what is asked of the scope of a comprehension -/
structure Cmp (sc : Scope) (ln gn fn : List Str) : Prop where
  loc : Loc sc ln gn
  cell : ∀ x ∈ sc.names, x.2 ≠ .cell
  all : ∀ x ∈ sc.names, x.2 = .local → sc.names.lookup x.1 = some .local
  free : (sc.names.filter fun x => x.2 == .free).map (·.1) = fn
  nd : (sc.names.map (·.1)).Nodup
  nb : ∀ x ∈ fn, (x == ("__debug__" : Str)) = false ∧ (x == ("__classdict__" : Str)) = false
noncomputable def cmpOk (sc : Scope) (ln gn fn : List Str) : Bool :=
  locOk sc ln gn && sc.names.all (fun x => decide (x.2 ≠ .cell)) && sc.names.all (fun x => !decide (x.2 = .local) || decide (sc.names.lookup x.1 = some .local)) && decide ((sc.names.filter fun x => x.2 == .free).map (·.1) = fn) && decide ((sc.names.map (·.1)).Nodup)
    && fn.all fun x => !(x == ("__debug__" : Str)) && !(x == ("__classdict__" : Str))
theorem Cmp.of {sc : Scope} {ln gn fn : List Str} (h : cmpOk sc ln gn fn = true) : Cmp sc ln gn fn := by
  unfold cmpOk at h
  simp only [Bool.and_eq_true, decide_eq_true_eq, List.all_eq_true, Bool.or_eq_true, Bool.not_eq_true', decide_eq_false_iff_not] at h
  obtain ⟨⟨⟨⟨⟨h1, h2⟩, h3⟩, h4⟩, h5⟩, h6⟩ := h
  exact ⟨.of h1, h2, fun x hx e => (h3 x hx).resolve_left fun q => q e, h4, h5, fun x hx => h6 x hx⟩

theorem clos_go {l : List (Str × NameKind)} : ∀ {fr acc : List (Str × Addr)}, (l.filter fun x => x.2 == .free).map (·.1) = fr.map (·.1) → (∀ p ∈ fr, env.cells.lookup p.1 = some p.2) →
    (forIn l acc fun (x : Str × NameKind) (cs : List (Str × Addr)) => if (x.2 == NameKind.free) = true then do let a ← cellOf env x.1; pure (ForInStep.yield ((x.1, a) :: cs)) else pure (ForInStep.yield cs) : Sem _) = pure (fr.reverse ++ acc) := by
  induction l with
  | nil => intro fr acc h _; cases fr with | nil => rfl | cons p fr => simp at h
  | cons x l ih =>
    intro fr acc h hf
    obtain ⟨n, k⟩ := x
    rw [List.forIn_cons]
    cases q : k == NameKind.free with
    | false =>
      simp only [List.filter_cons, q, Bool.false_eq_true, if_false] at h ⊢
      exact ih h hf
    | true =>
      simp only [List.filter_cons, q, if_true, List.map_cons] at h ⊢
      cases fr with
      | nil => simp at h
      | cons p fr =>
        simp only [List.map_cons, List.cons.injEq] at h
        have hp := hf p (.head _)
        have : cellOf env n = pure p.2 := by unfold cellOf; rw [h.1, hp]
        rw [this]
        have e := ih (fr := fr) (acc := (n, p.2) :: acc) h.2 fun y hy => hf y (.tail _ hy)
        rw [show (p :: fr).reverse ++ acc = fr.reverse ++ (n, p.2) :: acc by rw [h.1]; simp]
        exact e
theorem clos_of {sc : Scope} {ln gn : List Str} {fr : List (Str × Addr)} (ok : Cmp sc ln gn (fr.map (·.1))) (hc : Cv env cs) (hf : ∀ p ∈ fr, p ∈ cs) : closureFor sc env = pure fr.reverse := by
  have := clos_go (env := env) (acc := []) ok.free fun p hp => (hc.cel p (hf p hp)).1
  rw [List.append_nil] at this
  simp only [closureFor]
  exact congrArg (· >>= pure) this
theorem look_relabel : ∀ {l : List (Str × NameKind)} {x : Str} {k : NameKind}, l.lookup x = some k → k ≠ .free → (l.map fun (y : Str × NameKind) => if (y.2 == NameKind.free && env.scope.kind == .function && env.kindOf y.1 == some .cell) then (y.1, NameKind.cell) else y).lookup x = some k
  | [], _, _, h, _ => by simp at h
  | (n, k₀) :: l, x, k, h, hk => by
    have ih := @look_relabel l x k
    rw [List.map_cons]
    cases hx : x == n with
    | true =>
      simp only [List.lookup_cons, hx] at h
      cases h
      have : (k₀ == NameKind.free) = false := by simpa using hk
      simp only [this, Bool.false_and, Bool.false_eq_true, if_false, List.lookup_cons, hx]
    | false =>
      simp only [List.lookup_cons, hx] at h
      split <;> simp only [List.lookup_cons, hx] <;> exact ih h hk
theorem look_free : ∀ {l : List (Str × NameKind)} {x : Str}, (x, NameKind.free) ∈ l → (l.map (·.1)).Nodup → (l.map fun (y : Str × NameKind) => if (y.2 == NameKind.free && env.scope.kind == .function && env.kindOf y.1 == some .cell) then (y.1, NameKind.cell) else y).lookup x = some .cell ∨
    (l.map fun (y : Str × NameKind) => if (y.2 == NameKind.free && env.scope.kind == .function && env.kindOf y.1 == some .cell) then (y.1, NameKind.cell) else y).lookup x = some .free
  | [], _, h, _ => by cases h
  | (n, k₀) :: l, x, h, nd => by
    simp only [List.map_cons, List.nodup_cons] at nd ⊢
    rcases List.mem_cons.mp h with e | h
    · cases e
      split
      · exact .inl (by simp [List.lookup_cons])
      · exact .inr (by simp [List.lookup_cons])
    · have hx : (x == n) = false := by
        cases q : x == n with
        | false => rfl
        | true => exact absurd (by rw [← beq_iff_eq.mp q]; exact List.mem_map_of_mem (f := (·.1)) h) nd.1
      split <;> simp only [List.lookup_cons, hx] <;> exact look_free h nd.2
theorem cell_at : ∀ {fr : List (Str × Addr)} {p : Str × Addr}, p ∈ fr → (fr.map (·.1)).Nodup → fr.lookup p.1 = some p.2
  | q :: fr, p, h, nd => by
    simp only [List.map_cons, List.nodup_cons] at nd
    obtain ⟨n, a⟩ := q
    rcases List.mem_cons.mp h with rfl | h
    · simp [List.lookup_cons]
    · have hx : (p.1 == n) = false := by
        cases q : p.1 == n with
        | false => rfl
        | true => exact absurd (by rw [← beq_iff_eq.mp q]; exact List.mem_map_of_mem (f := (·.1)) h) nd.1
      rw [List.lookup_cons, hx]; exact cell_at h nd.2
theorem Cmp.envs {sc : Scope} {ln gn : List Str} {fr : List (Str × Addr)} (ok : Cmp sc ln gn (fr.map (·.1))) (hl : Ev env L ns gs) (C : Addr) : Ev (compEnvC sc fr.reverse C env) C ln gn ∧ Cv (compEnvC sc fr.reverse C env) fr := by
  refine ⟨⟨⟨ok.loc.kind, fun x hx => look_relabel (ok.loc.loc x hx) (by decide), fun x hx => look_relabel (ok.loc.glo x hx) (by decide), ok.loc.nd, ok.loc.nb⟩, rfl, hl.gl, hl.bl⟩, ok.loc.kind, fun p hp => ?_⟩
  have hm : p.1 ∈ (sc.names.filter fun x => x.2 == .free).map (·.1) := by rw [ok.free]; exact List.mem_map_of_mem (f := (·.1)) hp
  have ndf : (fr.map (·.1)).Nodup := by
    rw [← ok.free]
    exact List.Nodup.sublist (List.filter_sublist.map _) ok.nd
  obtain ⟨⟨n, k⟩, hy, e⟩ := List.mem_map.mp hm
  obtain ⟨hy, hk⟩ := List.mem_filter.mp hy
  have hk : k = .free := by simpa using hk
  subst hk
  have e : n = p.1 := e
  subst e
  refine ⟨cell_at (List.mem_reverse.mpr hp) (show (fr.reverse.map (·.1)).Nodup by rw [List.map_reverse]; exact (List.reverse_perm _).nodup_iff.mpr ndf), look_free hy ok.nd, ?_⟩
  exact ok.nb _ (List.mem_map_of_mem (f := (·.1)) hp)

/-- a turn of a comprehension -/
noncomputable def Turn (prog : Program) (w : World) (A : Around) (b : Shared) (fs : List Frm) (elt target : Expr) (ifs : List Expr) (ln gn : List Str) (fr : List (Str × Addr)) (it : Addr) (itO : Nat → O) (P : Nat → List V → List (Addr × O) → Prop) (i : Nat) (x : V) : Prop :=
  ∀ cenv C acc ys led vs s u, Ev cenv C ln gn → Cv cenv fr → P i ys led → St b (⟨C, ln, vs⟩ :: fs) ((it, itO (i + 1)) :: (acc, .list ys) :: led) s → Is u x →
    wpAny (model prog w) A (assign target cenv u) (fun _ s₂ =>
      wpAny (model prog w) A (forIn ifs true fun c r => if r = true then do let ok ← isTrue c cenv (eval c cenv); pure (ForInStep.yield ok) else pure (ForInStep.yield r)) (fun ok s₃ =>
        bif ok then wpAny (model prog w) A (eval elt cenv) (fun y s₄ => ∃ v vs' led', Is y v ∧ P (i + 1) (ys ++ [v]) led' ∧ St b (⟨C, ln, vs'⟩ :: fs) ((it, itO (i + 1)) :: (acc, .list ys) :: led') s₄) (fun _ _ => False) s₃
        else ∃ vs' led', P (i + 1) ys led' ∧ St b (⟨C, ln, vs'⟩ :: fs) ((it, itO (i + 1)) :: (acc, .list ys) :: led') s₃) (fun _ _ => False) s₂) (fun _ _ => False) s

theorem cl_loop {elt target iter : Expr} {ifs : List Expr} {scope : Scope} {pos : Pos} {it acc C : Addr} {cenv : Env} {ln gn : List Str} {fr : List (Str × Addr)} {R : Result → Shared → Prop} {xs : List V} {itO : Nat → O} {CC : List (Addr × O)}
    (W : Wk prog w b it xs CC itO) (hz : xs.length ≤ 500) (P : Nat → List V → List (Addr × O) → Prop) (hC : ∀ i ys led, P i ys led → ∀ p ∈ CC, p ∈ led) (hh : A.handled = none) (he : Ev cenv C ln gn) (hv : Cv cenv fr)
    (turn : ∀ i x, xs[i]? = some x → Turn prog w A b fs elt target ifs ln gn fr it itO P i x)
    (S : St b (⟨C, ln, vs⟩ :: fs) ((it, itO 0) :: (acc, .list []) :: led) s) (hP : P 0 [] led)
    (done : ∀ vs ys led s, P xs.length ys led → St b (⟨C, ln, vs⟩ :: fs) ((acc, .list ys) :: led) s → R (.ok .next) s) :
    codeAny (model prog w) A (.compLoop (.ListComp elt [⟨target, iter, ifs, 0⟩] scope pos) 0 (.ref it) (.ref acc) cenv) R s := by
  refine codeAny_loop rfl (fun n s => ∃ i vs ys led, n + i = xs.length ∧ ys.length ≤ i ∧ P i ys led ∧ St b (⟨C, ln, vs⟩ :: fs) ((it, itO i) :: (acc, .list ys) :: led) s) ?_ xs.length ⟨0, vs, [], led, by omega, Nat.le_refl _, hP, S⟩
  rintro n s ⟨i, vs, ys, led, hn, hy, hP, S⟩
  show wpAny _ A ((compTurn (.ListComp elt [⟨target, iter, ifs, 0⟩] scope pos) 0 (.ref it) (.ref acc) cenv).onRaise (fun x => do noteFrame x cenv; theTreesLotGoes x)) _ _ s
  refine wpAny_noted ?_
  rw [compTurn_list]
  have hCm : ∀ p ∈ CC, p ∈ (acc, O.list ys) :: led := fun p hp => .tail _ (hC _ _ _ hP p hp)
  cases q : xs[i]? with
  | none =>
    have hi : i = xs.length := by have := List.getElem?_eq_none_iff.mp q; omega
    subst hi
    exact wpAny_bind (wpAny_standAt (wpAny_bind (W.stop hh hCm S fun s' S' => wpAny_pure (done _ _ _ _ hP S'))))
  | some x =>
    have hlt : i < xs.length := (List.getElem?_eq_some_iff.mp q).1
    refine wpAny_bind (wpAny_standAt (wpAny_bind (W.item q hCm S fun u s' hu S' => wpAny_bind (W.noOwn S' ?_))))
    refine wpAny_bind (wpAny_mono (turn i x q cenv C acc ys led vs s' u he hv hP S' hu) (fun _ s₂ h₂ => wpAny_bind (wpAny_mono h₂ (fun ok s₃ h₃ => ?_) fun _ _ z => z.elim)) fun _ _ z => z.elim)
    cases ok with
    | false =>
      obtain ⟨vs', led', hp, S₃⟩ := h₃
      exact wpAny_pure ⟨rfl, n - 1, by omega, i + 1, vs', ys, led', by omega, by omega, hp, S₃⟩
    | true =>
      refine wpAny_bind (wpAny_bind (wpAny_mono h₃ (fun y s₄ h₄ => ?_) fun _ _ z => z.elim))
      obtain ⟨v, vs', led', iy, hp, S₄⟩ := h₄
      exact wpAny_bind (ls_append S₄ iy (.there .here) (by omega) fun s₅ S₅ => wpAny_pure (wpAny_pure ⟨rfl, n - 1, by omega, i + 1, vs', ys ++ [v], led', by omega, by simp; omega, hp, S₅⟩))

theorem vars_none (m : Str → Option Value) : ∀ ns : List Str, Vars m ns (ns.map fun _ => none)
  | [] => trivial
  | _ :: ns => vars_none m ns
theorem comp_core {elt target iter : Expr} {ifs : List Expr} {sc : Scope} {pos : Pos} {it : Addr} {ln gn : List Str} {fr : List (Str × Addr)} {RR : Value → Addr → Result → Shared → Prop} {xs : List V} {itO : Nat → O} {CC : List (Addr × O)}
    (W : Wk prog w b it xs CC itO) (hz : xs.length ≤ 500) (P : Nat → List V → List (Addr × O) → Prop) (hC : ∀ i ys led, P i ys led → ∀ p ∈ CC, p ∈ led) (hh : A.handled = none) (hl : Ev env L ns gs) (ok : Cmp sc ln gn (fr.map (·.1)))
    (turn : ∀ i x, xs[i]? = some x → Turn prog w A b fs elt target ifs ln gn fr it itO P i x) (S : St b fs ((it, itO 0) :: led) s) (hP : P 0 [] led)
    (done : ∀ C acc vs ys led s, P xs.length ys led → St b (⟨C, ln, vs⟩ :: fs) ((acc, .list ys) :: led) s → RR (.ref acc) C (.ok .next) s) :
    wpAny (model prog w) A (newList []) (fun acc s₃ => wpAny (model prog w) A (newFunctionEnv sc env.globals fr.reverse [] env.qual none .none (some env)) (fun cenv s₄ =>
      codeAny (model prog w) A (.compStart (.ListComp elt [⟨target, iter, ifs, 0⟩] sc pos) 0 (.ref it) acc { cenv with scope := relabel sc env }) (RR acc cenv.locals) s₄) E s₃) E s := by
  refine mk_list S .nil (by decide) fun acc s₁ S₁ => ?_
  refine wpAny_newFunctionEnv ok.cell (by intro y hy; simp at hy) (fun h₁ hns hsb => ?_) ok.loc.kind
  have hk : ∀ a o, s₁.heap.get? a = some o → h₁.get? a = some o := fun a o e => hsb.extBut a o (fun q => by
    have := Heap.lt_size e
    rw [q] at this; exact Nat.lt_irrefl _ this) (Heap.get?_push_of_some _ e)
  have S₂ := S₁.enter (ns := ln) (vs := ln.map fun _ => none) (L := s₁.heap.objs.size) (tk := s₁.toks + ([] : List (Str × Value)).length) hk (Nat.le_refl _) hns (vars_none _ _)
  have S₃ := S₂.perm (List.Perm.swap ..)
  have E' := ok.envs hl s₁.heap.objs.size
  have loop := cl_loop (elt := elt) (target := target) (iter := iter) (scope := sc) (pos := pos) W hz P hC hh E'.1 E'.2 turn S₃ hP (R := RR (.ref acc) s₁.heap.objs.size) (done _ _)
  exact codeAny_compStart_list loop (W.self S₃ loop)

/-- a comprehension whose list is handed on -/
theorem ev_comp {elt target iter : Expr} {ifs : List Expr} {sc : Scope} {pos : Pos} {Q : Value → Shared → Prop} {ln gn : List Str} {fr : List (Str × Addr)} (hl : Ev env L ns gs) (hc : Cv env cs) (ok : Cmp sc ln gn (fr.map (·.1))) (hf : ∀ p ∈ fr, p ∈ cs) (hh : A.handled = none)
    (h : wpAny (model prog w) A (eval iter env) (fun x s₁ => wpAny (model prog w) A (pyIter x) (fun it s₂ => ∃ I xs CC itO P led, it = .ref I ∧ Wk prog w b I xs CC itO ∧ xs.length ≤ 500 ∧ St b fs ((I, itO 0) :: led) s₂ ∧ P 0 [] led ∧ (∀ i ys led, P i ys led → ∀ p ∈ CC, p ∈ led) ∧
      (∀ i x, xs[i]? = some x → Turn prog w A b fs elt target ifs ln gn fr I itO P i x) ∧ ∀ acc ys led s, P xs.length ys led → St b fs ((acc, .list ys) :: led) s → Q (.ref acc) s) E s₁) E s)
    (hs : ∀ x, foldedSetIterable iter env x = pure x := by intro _; rfl) : wpAny (model prog w) A (eval (.ListComp elt [⟨target, iter, ifs, 0⟩] sc pos) env) Q E s := by
  rw [eval_ListComp]
  refine wpAny_comprehension_free (use := none) rfl hs (clos_of ok hc hf) ok.loc.kind ok.all (wpAny_mono h (fun x s₁ h₁ => wpAny_mono h₁ (fun it s₂ h₂ => ?_) fun _ _ z => z) fun _ _ z => z)
  obtain ⟨I, xs, CC, itO, P, led, rfl, W, hz, S, hP, hC, turn, done⟩ := h₂
  refine comp_core (RR := fun acc C => compPost (model prog w) A E none Q acc C) W hz P hC hh hl ok turn S hP ?_
  intro C acc vs ys led s hp S
  obtain ⟨m, hn, _⟩ := S.fr _ (.head _)
  exact ⟨m, hn, fun h' hs => done _ _ _ _ hp (S.leave hs.extBut)⟩
/-- a comprehension that is stored under a local name -/
theorem as_comp {elt target iter : Expr} {ifs : List Expr} {sc : Scope} {pos spos py : Pos} {y : Str} {Q : Flow → Shared → Prop} {ln gn : List Str} {fr : List (Str × Addr)} (hl : Ev env L ns gs) (hc : Cv env cs) (ok : Cmp sc ln gn (fr.map (·.1))) (hf : ∀ p ∈ fr, p ∈ cs) (hh : A.handled = none)
    (hy : y ∈ ns) (hsw : (py.line == (Expr.ListComp elt [⟨target, iter, ifs, 0⟩] sc pos).pos.line && !(sc.names.any fun (n, k) => n == y && (k == .local || k == .cell))) = true)
    (h : wpAny (model prog w) A (eval iter env) (fun x s₁ => wpAny (model prog w) A (pyIter x) (fun it s₂ => ∃ I xs CC itO P led vs, it = .ref I ∧ Wk prog w b I xs CC itO ∧ xs.length ≤ 500 ∧ St b (⟨L, ns, vs⟩ :: fs) ((I, itO 0) :: led) s₂ ∧ P 0 [] led ∧ (∀ i ys led, P i ys led → ∀ p ∈ CC, p ∈ led) ∧
      (∀ i x, xs[i]? = some x → Turn prog w A b (⟨L, ns, vs⟩ :: fs) elt target ifs ln gn fr I itO P i x) ∧ ∀ acc ys led, P xs.length ys led → ∃ vs', Up ns vs y (.ref acc) vs' ∧ ∀ s, St b (⟨L, ns, vs'⟩ :: fs) ((acc, .list ys) :: led) s → Q .next s) E s₁) E s)
    (hs : ∀ x, foldedSetIterable iter env x = pure x := by intro _; rfl) : wpAny (model prog w) A (exec (.Assign [.Name y py] (.ListComp elt [⟨target, iter, ifs, 0⟩] sc pos) spos) env) Q E s := by
  have hsw' : swapsWith (.ListComp elt [⟨target, iter, ifs, 0⟩] sc pos) (some (.Name y py)) spos.line env = pure true := by
    have h1 : (env.blockKind == .function) = true := by unfold Env.blockKind; rw [hl.loc.kind]; rfl
    have h2 : (env.kindOf y == some .local) = true := by rw [show env.kindOf y = some .local from hl.loc.loc y hy]; rfl
    show (pure (env.blockKind == .function && env.kindOf y == some .local && py.line == (Expr.ListComp elt [⟨target, iter, ifs, 0⟩] sc pos).pos.line && !(sc.names.any fun (n, k) => n == y && (k == .local || k == .cell))) : Sem Bool) = pure true
    rw [h1, h2, Bool.true_and, Bool.true_and, hsw]
  rw [exec_Assign_Name_used _ _ _ _ hsw']
  refine wpAny_bind (wpAny_standAt (wpAny_bind ?_))
  show wpAny _ A (do let _ ← comprehension (.ListComp elt [⟨target, iter, ifs, 0⟩] sc pos) sc env _ (newList []) false (eval iter env) (some (assign (.Name y py) env))) _ _ s
  refine wpAny_bind (wpAny_mono (wpAny_comprehension_free (use := some (assign (.Name y py) env)) (Q := fun _ s' => Q .next s') rfl hs (clos_of ok hc hf) ok.loc.kind ok.all
    (wpAny_mono h (fun x s₁ h₁ => wpAny_mono h₁ (fun it s₂ h₂ => ?_) fun _ _ z => z) fun _ _ z => z)) (fun _ _ z => wpAny_pure (wpAny_pure z)) fun _ _ z => z)
  obtain ⟨I, xs, CC, itO, P, led, vs, rfl, W, hz, S, hP, hC, turn, done⟩ := h₂
  refine comp_core (RR := fun acc C => compPost (model prog w) A E (some (assign (.Name y py) env)) (fun _ s' => Q .next s') acc C) W hz P hC hh hl ok turn S hP ?_
  intro C acc vs' ys led s hp S
  obtain ⟨vs'', hU, k⟩ := done acc ys led hp
  show wpAny _ A (assign (.Name y py) env (.ref acc)) _ _ _
  refine wpAny_assign_Name (st_loc S.swap hl .ref hU fun s' S' => ?_)
  obtain ⟨m, hn, _⟩ := S'.swap.fr _ (.head _)
  refine ⟨m, hn, fun h' hs => ?_⟩
  exact k _ (S'.swap.leave hs.extBut)
end
end Com
section Var
open PySem PySem.W PyProof.Rows PySem.Calls
section
variable {prog : Program} {w : World} {A : Around} {E : Value → Shared → Prop} {b s : Shared} {fs : List Frm} {led : List (Addr × O)} {K : Frag}

/-- a call of a function of the text; what binding does is told apart -/
theorem code_any {f : Addr} {st : Stmt} {dV kV : Value} {s1 : Stmt} {rest : List Stmt} {args : Args} {ns gs : List Str} {n : Nat} {Ls : List Addr} {Q : Value → Shared → Prop}
    (S : St b fs led s) (g : Gd b) (X : K.In b.heap) (hA : Ar A (n + 1) Ls) (hF : FnAt K f st dV kV) (hB : fbody st = s1 :: rest) (hl : Loc (fsco st) ns gs)
    (h3 : ((fsco st).isCoroutine, (fsco st).isGenerator, (fsco st).names.all fun x => x.2 != .cell) = (false, false, true))
    (h : ∀ qual doc pm an cdv ct (E' : Value → Shared → Prop) (Q' : List (Str × Value) → Shared → Prop),
      (∀ binds vs led' s', (∀ y ∈ binds, y.1 ∈ ns) → Vars (fun y => binds.reverse.lookup y) ns vs → St b fs led' s' →
        (∀ env A' L' s', Ev env L' ns gs → Ar A' n (L' :: Ls) → St b (⟨L', ns, vs⟩ :: fs) led' s' → wpAny (model prog w) A' (execs (s1 :: rest) env) (fun fl s'' => Q (retv fl) s'') (fun _ _ => False) s') → Q' binds s') →
      wpAny (model prog w) A.in1 (bindArgs (fnOf (fnm st) qual (fpar st) (fbody st) (fsco st) dV kV doc pm an cdv ct) args) Q' E' s) :
    codeAny (model prog w) A (.call (.ref f) args) (Ret Q) s := by
  obtain ⟨qual, doc, pm, an, cdv, ct, oc, od, osl, ho, hc⟩ := hF
  simp only [Prod.mk.injEq] at h3
  have X' : K.In s.heap := X.keeps S.keep
  refine codeAny_call_function (fd := fnOf (fnm st) qual (fpar st) (fbody st) (fsco st) dV kV doc pm an cdv ct) (body := fbody st) hA.room (X' _ _ ho) rfl h3.1 h3.2.1 rfl (codeRec_of X' hc) ?_
  refine h _ _ _ _ _ _ _ _ fun binds vs led' s' hb hv S' hw => ?_
  refine wpAny_newFunctionEnv (fun x hx => by have := List.all_eq_true.mp h3.2.2 x hx; simpa using this) (fun y hy => hl.loc _ (hb y hy)) (fun h₁ hns hsb => ⟨(g.lim.keeps S'.keep).fresh _ hsb, codeAny_func ?_⟩) hl.kind
  have hk₁ : ∀ b o, s'.heap.get? b = some o → h₁.get? b = some o := fun b o e => hsb.extBut b o (Nat.ne_of_lt (Heap.lt_size e)) (Heap.get?_push_of_some _ e)
  rw [hB]
  refine wpAny_mono (hw (envOf qual (fsco st) s'.heap.objs.size f cdv) _ s'.heap.objs.size _ ⟨hl, rfl, rfl, rfl⟩ (hA.deeper (env := envOf qual (fsco st) s'.heap.objs.size f cdv) hl.kind rfl) (S'.enter hk₁ (Nat.le_refl _) hns hv)) (fun fl s' hq => ?_) fun _ _ x => x.elim
  cases fl <;> exact hq

theorem zip_vars {pn : List Str} {args : List Value} {xs : List V} {rn : List Str} (hx : Isl args xs) (hlen : pn.length = args.length) (nd : pn.Nodup) : (∀ y ∈ pn.zip args, y.1 ∈ pn ++ rn) ∧ Vars (fun y => (pn.zip args).reverse.lookup y) (pn ++ rn) (xs.map some ++ rn.map fun _ => none) := by
  refine ⟨fun y hy => List.mem_append_left _ ?_, vars_zip hx hlen fun y v hy => ?_⟩
  · have := List.mem_map_of_mem (f := (·.1)) hy
    rwa [zip_keys hlen] at this
  · refine lookup_mem ?_ (List.mem_reverse.mpr hy)
    rw [List.map_reverse, zip_keys hlen]
    exact nodup_reverse nd

/-- a call where a default is taken -/
theorem code_df {f : Addr} {st : Stmt} {d : Addr} {kV : Value} {s1 : Stmt} {rest : List Stmt} {args items : List Value} {it0 : Array Value} {m0 : Nat} {o : Obj} {pn rn gs : List Str} {xs : List V} {n : Nat} {Ls : List Addr} {Q : Value → Shared → Prop}
    (S : St b fs led s) (g : Gd b) (X : K.In b.heap) (hA : Ar A (n + 1) Ls) (hF : FnAt K f st (.ref d) kV) (hB : fbody st = s1 :: rest) (hl : Loc (fsco st) (pn ++ rn) gs)
    (h3 : ((fsco st).isCoroutine, (fsco st).isGenerator, (fsco st).names.all fun x => x.2 != .cell) = (false, false, true)) (hd : K.lookup d = some o) (hdd : o.data = .seq it0 m0) (hx : Isl items xs) (hlen : pn.length = items.length)
    (hbind : ∀ qual doc pm an cdv ct, ∃ k, bindArgs (fnOf (fnm st) qual (fpar st) (fbody st) (fsco st) (.ref d) kV doc pm an cdv ct) ⟨args, []⟩ = seqItems? (.ref d) >>= k ∧ k (some it0) = pure (pn.zip items))
    (h : ∀ env A' L' s', Ev env L' (pn ++ rn) gs → Ar A' n (L' :: Ls) → St b (⟨L', pn ++ rn, xs.map some ++ rn.map fun _ => none⟩ :: fs) led s' → wpAny (model prog w) A' (execs (s1 :: rest) env) (fun fl s'' => Q (retv fl) s'') (fun _ _ => False) s') :
    codeAny (model prog w) A (.call (.ref f) ⟨args, []⟩) (Ret Q) s := by
  refine code_any S g X hA hF hB hl h3 fun qual doc pm an cdv ct E' Q' k => ?_
  obtain ⟨k', e, e'⟩ := hbind qual doc pm an cdv ct
  rw [e]
  have zv := zip_vars (rn := rn) hx hlen (List.nodup_append.mp hl.nd).1
  refine wpAny_bind (wpAny_seqItems ((X.keeps S.keep) _ _ hd) hdd ?_)
  rw [e']
  exact wpAny_pure (k _ _ _ _ zv.1 zv.2 S h)

/-- a call whose last arguments go into a tuple -/
theorem code_va {f : Addr} {st : Stmt} {dV kV : Value} {s1 : Stmt} {rest : List Stmt} {a1 a2 : List Value} {pn rn gs : List Str} {va : Str} {x1 x2 : List V} {n : Nat} {Ls : List Addr} {Q : Value → Shared → Prop}
    (S : St b fs led s) (g : Gd b) (X : K.In b.heap) (hA : Ar A (n + 1) Ls) (hF : FnAt K f st dV kV) (hB : fbody st = s1 :: rest) (hl : Loc (fsco st) ((pn ++ [va]) ++ rn) gs)
    (h3 : ((fsco st).isCoroutine, (fsco st).isGenerator, (fsco st).names.all fun x => x.2 != .cell) = (false, false, true)) (h1 : Isl a1 x1) (hlen : pn.length = a1.length) (h2 : Isl a2 x2) (hz : a2.length ≤ 1000)
    (hbind : ∀ qual doc pm an cdv ct, bindArgs (fnOf (fnm st) qual (fpar st) (fbody st) (fsco st) dV kV doc pm an cdv ct) ⟨a1 ++ a2, []⟩ = newTuple a2 >>= fun t => pure ((pn ++ [va]).zip (a1 ++ [t])))
    (h : ∀ env A' L' T s', Ev env L' ((pn ++ [va]) ++ rn) gs → Ar A' n (L' :: Ls) → St b (⟨L', (pn ++ [va]) ++ rn, (x1 ++ [V.ref T]).map some ++ rn.map fun _ => none⟩ :: fs) ((T, .tuple x2) :: led) s' → wpAny (model prog w) A' (execs (s1 :: rest) env) (fun fl s'' => Q (retv fl) s'') (fun _ _ => False) s') :
    codeAny (model prog w) A (.call (.ref f) ⟨a1 ++ a2, []⟩) (Ret Q) s := by
  refine code_any S g X hA hF hB hl h3 fun qual doc pm an cdv ct E' Q' k => ?_
  rw [hbind qual doc pm an cdv ct]
  refine wpAny_bind (mk_tuple S h2 hz fun T s' S' => wpAny_pure ?_)
  have zv := zip_vars (pn := pn ++ [va]) (rn := rn) (h1.append (.cons (.ref (a := T)) .nil)) (by simp [hlen]) (List.nodup_append.mp hl.nd).1
  exact k _ _ _ _ zv.1 zv.2 S' fun env A' L' s' => h env A' L' T s'
end
end Var
section Try
open PySem PySem.W PyProof.Rows PySem.Calls

noncomputable abbrev excO (X : String) : O := .pred fun o => o.cls = .type X ∧ ∃ vs, o.data = .fields vs ∧ vs[1]? = some .none
noncomputable abbrev trO (X : String) (tb : Addr) : O := .pred fun o => o.cls = .type X ∧ ∃ vs, o.data = .fields vs ∧ vs[1]? = some (.ref tb)
noncomputable abbrev tbO (L : Addr) : O := .pred fun o => ∃ vs, o.data = .fields vs ∧ vs[3]? = some (rawInt L)
noncomputable abbrev tzO : O := .pred fun o => ∃ vs, o.data = .fields vs ∧ 3 < vs.size
/-- the frames of the run are frames of the state -/
structure Hd (A : Around) (env : Env) (L : Addr) (fs : List Frm) : Prop where
  fr : ∃ outer, A.frames = some (env :: outer) ∧ ∀ e ∈ env :: outer, e.scope.kind ≠ .module ∧ ∃ L ∈ fs.map (·.L), e.frame = some L
  here : env.frame = some L
/-- the frames of the run, seen from a caller -/
noncomputable def Frs (A : Around) (fs : List Frm) : Prop := ∃ envs, A.frames = some envs ∧ ∀ e ∈ envs, e.scope.kind ≠ .module ∧ ∃ L ∈ fs.map (·.L), e.frame = some L
theorem Hd.frs {A env L fs} (h : Hd A env L fs) : Frs A fs := let ⟨outer, h1, h2⟩ := h.fr; ⟨_, h1, h2⟩

section
variable {M : Model} {prog : Program} {w : World} {A : Around} {E : Value → Shared → Prop} {b s : Shared} {fs : List Frm} {led : List (Addr × O)} {env : Env} {L : Addr} {ns gs : List Str} {vs : List (Option V)}
theorem Frs.step (h : Frs A fs) {f : Frm} {env : Env} (hk : env.scope.kind = .function) (hf : env.frame = some f.L) : Hd (A.deeper env) env f.L (f :: fs) := by
  obtain ⟨envs, h1, h2⟩ := h
  refine ⟨⟨envs, by show A.frames.map _ = _; rw [h1]; rfl, fun e he => ?_⟩, hf⟩
  rcases List.mem_cons.mp he with rfl | he
  · exact ⟨by rw [hk]; decide, f.L, .head _, hf⟩
  · obtain ⟨a, L, b, c⟩ := h2 e he
    exact ⟨a, L, .tail _ b, c⟩
theorem Frs.mark (h : Frs A fs) {e : Option Value} : Frs (A.mark e) fs := h
theorem St.slots (S : St b fs led s) {h' : Heap} {F : List Addr} (hs : Heap.SlotsOnly F s.heap h') (hF : ∀ a ∈ F, a ∈ fs.map (·.L)) : St b fs led { s with heap := h' } := by
  have nd := List.nodup_append.mp S.nd
  refine ⟨fun x o e => ?_, fun f hf => ?_, fun p hp => ?_, S.nd, S.new, S.top, S.gens, S.os⟩
  · rw [show ({ s with heap := h' } : Shared).heap = h' from rfl, hs.2.1 x fun q => ?_]
    · exact S.keep x o e
    · have := (S.new x (List.mem_append_left _ (hF x q))).1
      rw [e] at this; cases this
  · obtain ⟨m, ⟨o, es, ep, ho, hd, hr⟩, hv⟩ := S.fr f hf
    obtain ⟨sl, hsl⟩ := hs.2.2 _ _ ho
    exact ⟨m, ⟨_, es, ep, hsl, hd, hr⟩, hv⟩
  · obtain ⟨o, ho, hk⟩ := S.lg p hp
    refine ⟨o, ?_, hk⟩
    rw [show ({ s with heap := h' } : Shared).heap = h' from rfl, hs.2.1 _ fun q => nd.2.2 _ (hF _ q) _ (List.mem_map_of_mem (f := (·.1)) hp) rfl]
    exact ho
theorem St.funs (S : St b fs led s) : ∀ {envs : List Env}, (∀ e ∈ envs, e.scope.kind ≠ .module ∧ ∃ L ∈ fs.map (·.L), e.frame = some L) → s.heap.FunFrames b.heap envs
  | [], _ => trivial
  | e :: envs, h => by
    obtain ⟨h1, L, h2, h3⟩ := h e (.head _)
    obtain ⟨f, hf, rfl⟩ := List.mem_map.mp h2
    obtain ⟨m, ⟨o, es, ep, ho, hd, hr⟩, hv⟩ := S.fr f hf
    exact ⟨h1, ⟨f.L, o, h3, (S.new _ (List.mem_append_left _ h2)).1, ho, fun vs q => by rw [hd] at q; cases q⟩, S.funs fun e he => h e (.tail _ he)⟩
theorem note0 {e : Addr} {X : String} {Q : Unit → Shared → Prop} (S : St b fs ((e, excO X) :: led) s) (H : Hd A env L fs) (k : ∀ tb s', St b fs ((e, trO X tb) :: (tb, tbO L) :: led) s' → Q () s') : wpAny M A (noteFrame (.ref e) env) Q E s := by
  obtain ⟨⟨outer, hfr, hall⟩, hf⟩ := H
  obtain ⟨o, ho, hc, vs, hd, h1⟩ := S.at (.head _)
  unfold noteFrame
  simp only [hf]
  refine wpAny_bind (wpAny_field ho hd h1 ?_)
  rw [if_neg (by decide)]
  refine wpAny_bind (wpAny_frameOf_fun hfr (S.funs hall) hf fun h₁ hs₁ => ?_)
  have S₁ := S.slots hs₁ fun a ha => by
    obtain ⟨e', he', q⟩ := List.mem_filterMap.mp ha
    obtain ⟨_, L', h2, h3⟩ := hall e' he'
    rw [h3] at q; cases q; exact h2
  refine wpAny_bind (wpAny_entryPlaceOf fun pl hpl => ?_)
  unfold EntryCells.newEntry newFields
  refine wpAny_bind (wpAny_newObj_type ?_ (hpl.sizeOk5 _ _ _ _ _))
  have S₂ := S₁.push (tk := s.toks) (K := tbO L) (o := { cls := .type "traceback", dict := none, data := .fields ([Value.none, .ref L, .none, rawInt L, .none] ++ (if pl.isEmpty then List.replicate 6 Value.none else pl)).toArray }) ⟨_, rfl, by simp⟩
  obtain ⟨o', ho', hc', vs', hd', h1'⟩ := S₂.at (.tail _ (.head _))
  have hsz := (Array.getElem?_eq_some_iff.mp h1').1
  refine wpAny_setField ho' hd' hsz ?_
  have hd₃ := Obj.data_mapFields hd' (·.setIfInBounds 1 (Value.ref h₁.objs.size))
  exact k _ _ ((S₂.upd (tk := s.toks) (K' := trO X h₁.objs.size) (.there .here) (Heap.SameBut.update ..).extBut (Heap.get?_update_self _ ho' (Obj.isFreed_of_fields hd₃)) ⟨(Obj.cls_mapFields ..).trans hc', _, hd₃, by simp [hsz]⟩).perm (List.Perm.swap ..))
theorem flight {e tb : Addr} {X : String} {Q : Unit → Shared → Prop} (S : St b fs ((e, trO X tb) :: (tb, tzO) :: led) s) (k : ∀ s', St b fs ((e, trO X tb) :: (tb, tzO) :: led) s' → Q () s') : wpAny M A (setFlight (.ref e) none) Q E s := by
  obtain ⟨o, ho, hc, vs, hd, h1⟩ := S.at (.head _)
  obtain ⟨o', ho', vs', hd', h1'⟩ := S.at (.tail _ (.head _))
  refine wpAny_setFlight_none ho hd h1 ho' hd' h1' ?_
  have hd₃ := Obj.data_mapFields hd' (·.setIfInBounds 3 Value.none)
  exact k _ (S.upd (.there .here) (Heap.SameBut.update ..).extBut (Heap.get?_update_self _ ho' (Obj.isFreed_of_fields hd₃)) ⟨_, hd₃, by simpa using h1'⟩)
theorem St.tz {e tb : Addr} {X : String} (S : St b fs ((e, trO X tb) :: (tb, tbO L) :: led) s) : St b fs ((e, trO X tb) :: (tb, tzO) :: led) s :=
  ⟨S.keep, S.fr, fun p hp => by
    rcases List.mem_cons.mp hp with rfl | hp
    · exact S.lg _ (.head _)
    · rcases List.mem_cons.mp hp with rfl | hp
      · obtain ⟨o, ho, vs, hd, h3⟩ := S.lg _ (.tail _ (.head _))
        exact ⟨o, ho, vs, hd, (Array.getElem?_eq_some_iff.mp h3).1⟩
      · exact S.lg _ (.tail _ (.tail _ hp)), S.nd, S.new, S.top, S.gens, S.os⟩

/-- what holds where a statement raises -/
noncomputable def Rs (b : Shared) (X : String) (L : Addr) (J : List Frm → List (Addr × O) → Prop) (v : Value) (s : Shared) : Prop :=
  ∃ e fs led, v = .ref e ∧ J fs led ∧ (St b fs ((e, excO X) :: led) s ∨ ∃ tb, St b fs ((e, trO X tb) :: (tb, tbO L) :: led) s)
theorem note {e : Addr} {X : String} {Q : Unit → Shared → Prop} (S : St b fs ((e, excO X) :: led) s ∨ ∃ tb, St b fs ((e, trO X tb) :: (tb, tbO L) :: led) s) (H : Hd A env L fs) (k : ∀ tb s', St b fs ((e, trO X tb) :: (tb, tbO L) :: led) s' → Q () s') :
    wpAny M A (noteFrame (.ref e) env) Q E s := by
  rcases S with S | ⟨tb, S⟩
  · exact note0 S H k
  · obtain ⟨o, ho, hc, vs, hd, h1⟩ := S.at (.head _)
    obtain ⟨o', ho', vs', hd', h1'⟩ := S.at (.tail _ (.head _))
    exact wpAny_noteFrame_inFlight H.here ho hd h1 ho' hd' h1' (k _ _ S)
theorem came {X : String} {J : List Frm → List (Addr × O) → Prop} {v : Value} (h : Rs b X L J v s) (hJ : ∀ fs led, J fs led → Hd A env L fs) : notedBy M A env (fun e s' => cameBackBy M A env (Rs b X L J) e s') v s := by
  obtain ⟨e, fs, led, rfl, j, S⟩ := h
  refine note S (hJ _ _ j) fun tb s' S' => ?_
  obtain ⟨o, ho, hc, vs, hd, h1⟩ := S'.at (.head _)
  obtain ⟨o', ho', vs', hd', h1'⟩ := S'.at (.tail _ (.head _))
  refine wpAny_bind (wpAny_field ho hd h1 ?_)
  rw [if_neg (by simp)]
  rw [(hJ _ _ j).here]
  unfold setFlight
  refine wpAny_bind (wpAny_field ho hd h1 ?_)
  rw [if_pos (show (Value.ref tb != Value.none) = true from by simp)]
  have hsz := (Array.getElem?_eq_some_iff.mp h1').1
  refine wpAny_setField ho' hd' hsz ?_
  have hd₃ := Obj.data_mapFields hd' (·.setIfInBounds 3 (rawInt L))
  exact ⟨e, fs, led, rfl, j, .inr ⟨tb, S'.upd (tk := s'.toks) (.there .here) (Heap.SameBut.update ..).extBut (Heap.get?_update_self _ ho' (Obj.isFreed_of_fields hd₃)) ⟨_, hd₃, by simp [hsz]⟩⟩⟩
/-- a loop that a raise may leave -/
theorem x_whileE {X : String} {J : List Frm → List (Addr × O) → Prop} {test : Expr} {body orelse : List Stmt} {pos : Pos} {Q : Flow → Shared → Prop} (hJ : ∀ fs led, J fs led → Hd A env L fs) (I : Nat → Shared → Prop) (n : Nat) (h : I n s)
    (turn : ∀ n s, I n s → wpAny (model prog w) A (isTrue test env (eval test env)) (fun c s₂ => bif c then wpAny (model prog w) A (execs body env) (Lp (fun s₃ => ∃ m, m < n ∧ I m s₃) Q) (Rs b X L J) s₂
      else wpAny (model prog w) A (execs orelse env) Q (Rs b X L J) s₂) (Rs b X L J) s) : wpAny (model prog w) A (exec (.While test body orelse pos) env) Q (Rs b X L J) s := by
  refine wpAny_While (codeAny_whileLoop I (fun n s hI => ?_) n h)
  refine wpAny_mono (turn n s hI) (fun c s₂ h₂ => ?_) fun _ _ z => came z hJ
  cases c with
  | false => exact wpAny_mono h₂ (fun _ _ z => z) fun _ _ z => came z hJ
  | true =>
    refine wpAny_mono h₂ (fun f s₃ h₃ => ?_) fun _ _ z => came z hJ
    cases f <;> exact h₃

structure ExcOk (X : String) : Prop where
  h1 : isSubtype (.type X) (.type "BaseException") = pure true
  h2 : isSubtype (.type ((Manifest.find? X).elim "type" fun y => y.metatype)) (.type "tuple") = pure false
  h3 : isSubtype (.type X) (.type X) = pure true
theorem exc_index : ExcOk "IndexError" := ⟨isSubtype_of_subB (by decide +kernel), isSubtype_of_subB (by decide +kernel), isSubtype_of_subB (by decide +kernel)⟩
theorem exc_stop : ExcOk "StopIteration" := ⟨isSubtype_of_subB (by decide +kernel), isSubtype_of_subB (by decide +kernel), isSubtype_of_subB (by decide +kernel)⟩

theorem x_try {gl bl : List (Str × V)} {x : Str} {X : String} {np hpos pos : Pos} {body suite : List Stmt} {b₀ : Stmt} {Q : Flow → Shared → Prop} (ok : ExcOk X) (g : Gl gl bl b) (hl : Ev env L ns gs) (hx : x ∈ gs) (hv : (x, .type X) ∈ bl)
    (h : wpAny (model prog w) A (execs body env) (fun f s₁ => Q f s₁) (Rs b X L fun fs led => Hd A env L fs ∧ ∀ e s', St b fs led s' → wpAny (model prog w) (A.mark e) (execs (b₀ :: suite) env) Q (fun _ _ => False) s') s) :
    wpAny (model prog w) A (exec (.Try body [.ExceptHandler (some (.Name x np)) none (b₀ :: suite) hpos] [] [] pos) env) Q E s := by
  refine wpAny_Try_except (wpAny_mono h (fun f s₁ h₁ => ?_) fun v s₁ h₁ => ?_)
  · cases f <;> first | exact h₁ | exact wpAny_execs_nil h₁
  · obtain ⟨e, fs, led, rfl, ⟨H, k⟩, S⟩ := h₁
    refine note S H fun tb s₂ S₂ => flight S₂.tz fun s₃ S₃ => ?_
    refine wpAny_handleBy_builtin (X := X) (T := X) (b := true) ok.h1 ok.h2 ok.h3 ?_
    refine ev_blt S₃ g hl hx hv ⟨rfl, ?_, ?_⟩
    · obtain ⟨o, ho, hc, _⟩ := S₃.at (.head _)
      exact ⟨o, ho, hc⟩
    · rw [if_pos rfl]
      exact flight S₃ fun s₄ S₄ => wpAny_mono (k _ _ S₄.drop.drop) (fun _ _ z => z) fun _ _ z => z.elim
end
section
variable {prog : Program} {w : World} {A : Around} {E : Value → Shared → Prop} {b s : Shared} {fs : List Frm} {led : List (Addr × O)} {K : Frag}
/-- a call of a function of the text by positional arguments, where its frames are asked for -/
theorem code_fr {f : Addr} {st : Stmt} {dV kV : Value} {s1 : Stmt} {rest : List Stmt} {args : List Value} {pn rn gs : List Str} {xs : List V} {n : Nat} {Ls : List Addr} {Q : Value → Shared → Prop}
    (S : St b fs led s) (g : Gd b) (X : K.In b.heap) (hA : Ar A (n + 1) Ls) (hR : Frs A fs) (hF : FnAt K f st dV kV) (hB : fbody st = s1 :: rest) (hl : Loc (fsco st) (pn ++ rn) gs) (hx : Isl args xs)
    (hbind : ∀ qual doc pm an cdv ct, bindArgs (fnOf (fnm st) qual (fpar st) (fbody st) (fsco st) dV kV doc pm an cdv ct) ⟨args, []⟩ = pure (pn.zip args)) (hlen : pn.length = args.length)
    (h3 : ((fsco st).isCoroutine, (fsco st).isGenerator, (fsco st).names.all fun x => x.2 != .cell) = (false, false, true))
    (h : ∀ env A' L' s', Ev env L' (pn ++ rn) gs → Ar A' n (L' :: Ls) → (∀ vs, Hd A' env L' (⟨L', pn ++ rn, vs⟩ :: fs)) → St b (⟨L', pn ++ rn, xs.map some ++ rn.map fun _ => none⟩ :: fs) led s' → wpAny (model prog w) A' (execs (s1 :: rest) env) (fun fl s'' => Q (retv fl) s'') (fun _ _ => False) s') :
    codeAny (model prog w) A (.call (.ref f) ⟨args, []⟩) (Ret Q) s := by
  obtain ⟨qual, doc, pm, an, cdv, ct, oc, od, osl, ho, hc⟩ := hF
  simp only [Prod.mk.injEq] at h3
  have X' : K.In s.heap := X.keeps S.keep
  refine codeAny_call_function (fd := fnOf (fnm st) qual (fpar st) (fbody st) (fsco st) dV kV doc pm an cdv ct) (body := fbody st) hA.room (X' _ _ ho) rfl h3.1 h3.2.1 rfl (codeRec_of X' hc) ?_
  have zv := zip_vars (rn := rn) hx hlen (List.nodup_append.mp hl.nd).1
  rw [hbind]
  refine wpAny_pure (wpAny_newFunctionEnv (fun x hx => by have := List.all_eq_true.mp h3.2.2 x hx; simpa using this) (fun y hy => hl.loc _ (zv.1 y hy)) (fun h₁ hns hsb => ⟨(g.lim.keeps S.keep).fresh _ hsb, codeAny_func ?_⟩) hl.kind)
  have hk₁ : ∀ b o, s.heap.get? b = some o → h₁.get? b = some o := fun b o e => hsb.extBut b o (Nat.ne_of_lt (Heap.lt_size e)) (Heap.get?_push_of_some _ e)
  rw [hB]
  refine wpAny_mono (h (envOf qual (fsco st) s.heap.objs.size f cdv) _ s.heap.objs.size _ ⟨hl, rfl, rfl, rfl⟩ (hA.deeper (env := envOf qual (fsco st) s.heap.objs.size f cdv) hl.kind rfl)
    (fun vs => hR.step (f := ⟨s.heap.objs.size, pn ++ rn, vs⟩) (env := envOf qual (fsco st) s.heap.objs.size f cdv) hl.kind rfl) (S.enter hk₁ (Nat.le_refl _) hns zv.2)) (fun fl s' hq => ?_) fun _ _ x => x.elim
  cases fl <;> exact hq
end
end Try
section Tex
open PySem PySem.W PyProof.Rows PySem.Calls Builtin Builtin.Str

section
variable {M : Model} {prog : Program} {w : World} {A : Around} {E : Value → Shared → Prop} {b s : Shared} {fs : List Frm} {led led' : List (Addr × O)} {env : Env} {x y : PySem.Str} {t u : Tok} {Q : Value → Shared → Prop} {value slice : PySem.Expr}

/-- the sign at a place -/
theorem i_str {i : Int} {c : Nat} (S : St b fs led s) (h0 : 0 ≤ i) (hc : x.cps.toList[i.toNat]? = some c) (hz : x.length ≤ 1000) (k : ∀ t s', St b fs led s' → Q (.str ⟨#[c]⟩ t) s')
    (hs : subscripted slice false (.str x t) (.int i u) = operate [.str x t, .int i u] (getItem (.str x t) (.int i u)) := by rfl) : wpAny (model prog w) A (subscriptTail value slice (.str x t) (.int i u)) Q E s := by
  have hlt : i.toNat < x.length := by have := (List.getElem?_eq_some_iff.mp hc).1; simpa [Str.length] using this
  refine tail_any (typeIs_str s x t) PySem.F.slot_str_getitem.lookup (PySem.P.getItem_str (c := c) ?_ ?_ (k _ _ S.tok)) hs
  · simp only [Bool.or_eq_false_iff, decide_eq_false_iff_not]; omega
  · unfold seqIndex?
    have : (seqIndex? i x.length) = some i.toNat := by
      unfold seqIndex?
      first
        | (rw [if_neg (by omega)]; first | (rw [if_pos (by omega)]) | simp; omega)
        | (simp; omega)
    unfold seqIndex? at this
    rw [this]
    simpa using hc
/-- beyond the text's end -/
theorem i_strE {i : Int} (S : St b fs led s) (hh : A.handled = none) (h0 : (x.length : Int) ≤ i) (hi : i ≤ 1000) (k : ∀ e s', St b fs ((e, excO "IndexError") :: led) s' → E (.ref e) s')
    (hs : subscripted slice false (.str x t) (.int i u) = operate [.str x t, .int i u] (getItem (.str x t) (.int i u)) := by rfl) : wpAny (model prog w) A (subscriptTail value slice (.str x t) (.int i u)) Q E s := by
  refine tail_any (typeIs_str s x t) PySem.F.slot_str_getitem.lookup ?_ hs
  refine getItem_meets (typeIs_str s x t) (by decide) PySem.F.slot_str_getitem PySem.F.entry_str_getitem (PySem.F.args_str_getitem_2 _ _) (raises_str_getitem x i t u ?_ ?_) ⟨hh, fun h' tk e hx => ?_⟩
  · simp only [Bool.or_eq_false_iff, decide_eq_false_iff_not]; omega
  · have : (seqIndex? i x.length) = none := by
      unfold seqIndex?
      first
        | (rw [if_neg (by omega)]; first | (rw [if_neg (by omega)]) | simp; omega)
        | (simp; omega)
    rw [this]; rfl
  · obtain ⟨ob, t', he, hc, hd⟩ := hx.there
    exact k e _ (S.addN hx.keeps hx.new he ⟨hc, _, hd, rfl⟩)
theorem c_inS {c : Nat} (k : Q (.bool (decide (c ∈ x.cps.toList))) s) : wpAny (model prog w) A (compareOp .In (.str ⟨#[c]⟩ u) (.str x t)) Q E s :=
  PySem.P.in_str (by rw [StrLaws.found_one]; exact k)
end
end Tex
section Mor
open PySem PySem.W PyProof.Rows PySem.Calls

theorem meets_bool_list (l : Addr) (items : Array Value) : Meets (Builtin.«bool.__new__» ⟨[.type "bool", .ref l], []⟩) (fun _ R s => s.heap.IsList l items ∧ (items.size : Int) < 2 ^ 63 ∧ R (.ok (.ret (.bool (!items.isEmpty)))) { s with toks := s.toks + 1 + 1 }) :=
  Meets.of_wp fun prog w A R s hs => by
    obtain ⟨hp, g, d, tk, os⟩ := s
    obtain ⟨h1, h2, h3⟩ := hs
    have f1 := F.conv_sub_bool
    repeat (any_goals (first | assumption | (with_reducible refine wpAny_truthy_list h1 h2 ?_) | wp_step))
    all_goals first | exact ⟨_, rfl, h3⟩ | exact h3 | skip
section
variable {M : Model} {prog : Program} {w : World} {A : Around} {E : Value → Shared → Prop} {b s : Shared} {fs : List Frm} {led led' : List (Addr × O)} {env : Env} {Q : Value → Shared → Prop}
theorem m_tuple {l : Addr} {xs : List V} (S : St b fs led s) (h : (l, .list xs) ∈ led) (hz : xs.length ≤ 1000) (k : ∀ a s', St b fs ((a, .tuple xs) :: led) s' → Q (.ref a) s') : wpAny (model prog w) A (call (.type "tuple") [.ref l]) Q E s := by
  obtain ⟨us, hi, hl⟩ := S.isList h
  exact call_tuple_list hl (fun h' hk => k _ _ ((S.grow (tk := s.toks) hk).push ⟨us, 0, rfl, hi⟩)) (by rw [List.size_toArray, hi.length, sizeLine_eq]; omega)
theorem m_bool {l : Addr} {xs : List V} (S : St b fs led s) (h : (l, .list xs) ∈ led) (hz : xs.length ≤ 1000) (k : ∀ s', St b fs led s' → Q (.bool (!xs.isEmpty)) s') : wpAny (model prog w) A (call (.type "bool") [.ref l]) Q E s := by
  obtain ⟨us, hi, hl⟩ := S.isList h
  have : us.toArray.isEmpty = xs.isEmpty := by cases hi <;> rfl
  exact call_bool_1 (meets_bool_list l us.toArray) ⟨hl, by rw [List.size_toArray, hi.length]; omega, rfl, by rw [this]; exact k _ S.tok⟩
theorem t_or {e₁ e₂ : Expr} {pos : Pos} (h : wpAny M A (eval e₁ env) (fun v s₁ => wpAny M A (truthy v) (fun c s₂ => bif c then Q v s₂ else wpAny M A (eval e₂ env) Q E s₂) E s₁) E s) :
    wpAny M A (eval (.BoolOp .Or [e₁, e₂] pos) env) Q E s :=
  BoolOp_or (wpAny_mono h (fun v s₁ h₁ => wpAny_mono h₁ (fun c s₂ h₂ => by cases c <;> exact h₂) fun _ _ x => x) fun _ _ x => x)
theorem tr_or {x : Expr} {rest : List Expr} {pos : Pos} {whole : Sem Value} {Q : Bool → Shared → Prop}
    (h : wpAny M A (isTrue x env (eval x env)) (fun c s' => bif c then Q true s' else wpAny M A (isTrue (.BoolOp .Or rest pos) env whole) Q E s') E s) : wpAny M A (isTrue (.BoolOp .Or (x :: rest) pos) env whole) Q E s :=
  isTrue_or (wpAny_mono h (fun c s' h' => by cases c <;> exact h') fun _ _ x => x)
theorem e_if {test body orelse : Expr} {pos : Pos} (h : wpAny M A (isTrue test env (eval test env)) (fun c s₂ => bif c then wpAny M A (eval body env) Q E s₂ else wpAny M A (eval orelse env) Q E s₂) E s) : wpAny M A (eval (.IfExp test body orelse pos) env) Q E s :=
  IfExp_ (wpAny_mono h (fun c s' h' => by cases c <;> exact h') fun _ _ x => x)
theorem c_isty {x y : String} (k : Q (.bool (Value.type x == Value.type y)) s) : wpAny M A (compareOp .Is (.type x) (.type y)) Q E s := wpAny_is_plain rfl k
theorem c_isb {x : Bool} (k : Q (.bool false) s) : wpAny M A (compareOp .Is (.bool x) .none) Q E s := is_bool_none k
theorem c_isi {x : Int} {t : Tok} (k : Q (.bool false) s) : wpAny M A (compareOp .Is (.int x t) .none) Q E s := is_int_none k
theorem m_type_bytes {y : Array UInt8} {t : Tok} (k : Q (.type "bytes") s) : wpAny (model prog w) A (call (.type "type") [.bytes y t]) Q E s := call_type_of (PySem.W.typeIs_bytes _ _ _) (by decide +kernel) k
theorem m_type_bool {c : Bool} (k : Q (.type "bool") s) : wpAny (model prog w) A (call (.type "type") [.bool c]) Q E s := call_type_of rfl (by decide +kernel) k
theorem Isl.ints {us : List Value} : ∀ {ns : List Int}, Isl us (vints ns) → IntsAre us ns := by
  induction us with
  | nil => intro ns h; cases ns with | nil => exact .nil | cons => cases h
  | cons u us ih =>
    intro ns h
    cases ns with
    | nil => cases h
    | cons n ns =>
      cases h with
      | cons a h => cases a; exact .cons _ _ (ih h)
theorem m_bytes {l : Addr} {ns : List Int} (S : St b fs led s) (h : (l, .list (vints ns)) ∈ led) (hh : A.handled = none) (hr : ∀ n ∈ ns, 0 ≤ n ∧ n < 256) (hz : ns.length ≤ 1000) (k : ∀ t s', St b fs led s' → Q (.bytes (byteArr ns) t) s') : wpAny (model prog w) A (call (.type "bytes") [.ref l]) Q E s := by
  obtain ⟨us, hi, hl⟩ := S.isList h
  refine call_bytes_ints hl hi.ints hr ?_ hh fun h' t k' hk => k _ _ (S.grow hk)
  have := hi.length
  simp only [vints, List.length_map] at this
  rw [this, sizeLine_eq]; omega
theorem i_bytes {value slice : Expr} {l : List UInt8} {i : Int} {t u : Tok} (S : St b fs led s) (hfit : l.length ≤ 1000) (h0 : 0 ≤ i) (h1 : i < l.length) (k : ∀ t s', St b fs led s' → Q (.int (l.getD i.toNat 0).toNat t) s')
    (hs : subscripted slice false (.bytes l.toArray t) (.int i u) = operate [.bytes l.toArray t, .int i u] (getItem (.bytes l.toArray t) (.int i u)) := by rfl) : wpAny (model prog w) A (subscriptTail value slice (.bytes l.toArray t) (.int i u)) Q E s :=
  tail_any (PySem.W.typeIs_bytes s _ t) PySem.W.FB.slot_bytes_getitem.lookup (PySem.W.getItem_bytes (by omega) h0 h1 (k _ _ S.tok)) hs
theorem m_chr {i : Int} {t : Tok} (S : St b fs led s) (h0 : 0 ≤ i) (h1 : i ≤ 1114111) (k : ∀ t s', St b fs led s' → Q (.str ⟨#[i.toNat]⟩ t) s') : wpAny (model prog w) A (call (.builtin "chr") [.int i t]) Q E s := chr_of_range h0 h1 (k _ _ S.tok)
theorem s_join {x : Str} {t : Tok} {pl : Sem Bool} {Q : Value × List Value → Shared → Prop} (k : Q (.builtin "str.join", [.str x t]) s) : wpAny M A (getMethod (.str x t) "join" pl) Q E s := GM.join k
theorem Isl.strs {us : List Value} : ∀ {ys : List Str}, Isl us (ys.map V.str) → StrsAre us ys := by
  induction us with
  | nil => intro ns h; cases ns with | nil => exact .nil | cons => cases h
  | cons u us ih =>
    intro ns h
    cases ns with
    | nil => cases h
    | cons n ns =>
      cases h with
      | cons a h => cases a; exact .cons _ _ (ih h)
theorem m_join {l : Addr} {ys : List Str} {x : Str} {t : Tok} (S : St b fs led s) (h : (l, .list (ys.map V.str)) ∈ led) (hok : (ys.map (·.length)).sum + ys.length * x.length ≤ 16777216) (k : ∀ t s', St b fs led s' → Q (.str (Txt.join x ys) t) s') :
    wpAny (model prog w) A (call (.builtin "str.join") [.str x t, .ref l]) Q E s := by
  obtain ⟨us, hi, hl⟩ := S.isList h
  exact join_list hl (by simpa using hi.strs) hok fun t' k' => k _ _ S.tok
theorem ev_callk {func : Expr} {args : List Expr} {kws : List Keyword} {pos : Pos} (h : wpAny M A (eval func env) (fun f s₁ => wpAny M A (callWith pos f [] (backTo pos (starEach args env)) (backToKw pos (keywordEach kws env))) Q E s₁) E s)
    (he : eval (.Call func args kws pos) env = (do callWith pos (← eval func env) [] (backTo pos (starEach args env)) (backToKw pos (keywordEach kws env))) := by rfl) : wpAny M A (eval (.Call func args kws pos) env) Q E s := by
  rw [he]
  exact wpAny_bind h
theorem cwk1 {K : Frag} {f : Value} {e ek : Expr} {nm : Str} {kp pos : Pos} (X : K.In b.heap) (hk : keepIn K f = true)
    (h : wpAny M A (eval e env) (fun v s₁ => wpAny M A (eval ek env) (fun kv s₂ => (∀ a o, b.heap.get? a = some o → s₂.heap.get? a = some o) ∧ wpAny M A (call f [v] [(nm, kv)]) Q E s₂) E s₁) E s)
    (hkw : keywordEach [⟨some nm, ek, kp⟩] env = [(some nm, eval ek env)]) (h1 : starEach [e] env = [(false, eval e env)]) : wpAny M A (callWith pos f [] (backTo pos (starEach [e] env)) (backToKw pos (keywordEach [⟨some nm, ek, kp⟩] env))) Q E s := by
  refine callWith_of (by rw [any1 h1, hkw]; rfl) (keeps_K hk) (evalArgs_kw2 (he := h1) (by rw [hkw]; rfl) ?_)
  refine sp1 (wpAny_mono h (fun v s₁ h₁ => ?_) fun _ _ x => x) h1
  rw [hkw]
  refine wpAny_evalAll_cons (wpAny_bind (wpAny_mono h₁ (fun kv s₂ h₂ => wpAny_bind (wpAny_standAt (wpAny_pure (wpAny_evalAll_nil ⟨X.keeps h₂.1, h₂.2⟩)))) fun _ _ x => x))
theorem cf_nil {cenv : Env} {Q : Bool → Shared → Prop} (k : Q true s) :
    wpAny M A (forIn ([] : List Expr) true fun c r => if r = true then do let ok ← isTrue c cenv (eval c cenv); pure (ForInStep.yield ok) else pure (ForInStep.yield r)) Q E s := wpAny_pure k
theorem cf_one {c : Expr} {cenv : Env} {Q : Bool → Shared → Prop} (k : wpAny M A (isTrue c cenv (eval c cenv)) Q E s) :
    wpAny M A (forIn [c] true fun c r => if r = true then do let ok ← isTrue c cenv (eval c cenv); pure (ForInStep.yield ok) else pure (ForInStep.yield r)) Q E s := by
  rw [List.forIn_cons]
  refine wpAny_bind ?_
  rw [if_pos rfl]
  exact wpAny_bind (wpAny_mono k (fun ok s' h => wpAny_pure (wpAny_pure h)) fun _ _ x => x)
theorem vars_len {m : Str → Option Value} : ∀ {ns : List Str} {vs : List (Option V)}, Vars m ns vs → vs.length = ns.length
  | _ :: ns, some _ :: vs, h => by rw [List.length_cons, List.length_cons, vars_len (ns := ns) (vs := vs) h.2]
  | _ :: ns, none :: vs, h => by rw [List.length_cons, List.length_cons, vars_len (ns := ns) (vs := vs) h]
  | [], [], _ => rfl
  | [], _ :: _, h => h.elim
  | _ :: _, [], h => by simp [Vars] at h
theorem St.len {L : Addr} {ns : List Str} {vs : List (Option V)} (S : St b (⟨L, ns, vs⟩ :: fs) led s) : vs.length = ns.length :=
  let ⟨_, _, h⟩ := S.fr _ (.head _); vars_len h
theorem St.two {L : Addr} {n1 n2 : Str} {vs : List (Option V)} (S : St b (⟨L, [n1, n2], vs⟩ :: fs) led s) : ∃ x y, vs = [x, y] := by
  have := S.len
  rcases vs with _ | ⟨x, _ | ⟨y, _ | _⟩⟩ <;> simp at this
  exact ⟨x, y, rfl⟩
theorem St.three {L : Addr} {n1 n2 n3 : Str} {vs : List (Option V)} (S : St b (⟨L, [n1, n2, n3], vs⟩ :: fs) led s) : ∃ x y z, vs = [x, y, z] := by
  have := S.len
  rcases vs with _ | ⟨x, _ | ⟨y, _ | ⟨z, _ | _⟩⟩⟩ <;> simp at this
  exact ⟨x, y, z, rfl⟩
theorem ones_len : ∀ l : List Int, ((l.map fun c => (⟨#[c.toNat]⟩ : Str)).map (·.length)).sum = l.length
  | [] => rfl
  | c :: l => by
    simp only [List.map_cons, List.sum_cons, List.length_cons]
    rw [ones_len l]
    show 1 + _ = _
    omega
theorem join_cps : ∀ l : List Int, (Txt.join "" (l.map fun c => (⟨#[c.toNat]⟩ : Str))).cps.toList = l.map (·.toNat) := by
  have h : ∀ l : List Int, (Str.join "" (l.map fun c => (⟨#[c.toNat]⟩ : Str))).cps.toList = l.map (·.toNat) := by
    intro l
    induction l with
    | nil => rfl
    | cons c l ih =>
      cases l with
      | nil => rfl
      | cons d l =>
        show ((⟨#[c.toNat]⟩ : Str) ++ "" ++ Str.join "" ((d :: l).map fun c => (⟨#[c.toNat]⟩ : Str))).cps.toList = _
        rw [Str.cps_append, Array.toList_append, ih]
        rfl
  intro l
  show (Builtin.Str.glued "" _).cps.toList = _
  rw [StrLaws.glued_eq_join]
  exact h l
end
end Mor
section Bit
/-- the number that the octets write -/
noncomputable def num (ks : List Int) : Int := ks.foldl (fun n k => 256 * n + k) 0
/-- the figure at a place of the text -/
noncomputable def fig (N : Int) (i : Nat) : Int := N / 64 ^ (7 - i) % 64
/-- the sign of a figure -/
noncomputable def sgn (v : Int) : Nat := (b64L.getD v.toNat 0).toNat
noncomputable def signs (N : Int) (i : Nat) : List Int := (List.range i).map fun m => (sgn (fig N m) : Int)
theorem fig_in (N : Int) (i : Nat) : 0 ≤ fig N i ∧ fig N i < 64 := ⟨Int.emod_nonneg _ (by decide), Int.emod_lt_of_pos _ (by decide)⟩
theorem signs_len (N : Int) (i : Nat) : (signs N i).length = i := by simp [signs]
theorem sgn_in (v : Int) : (sgn v : Int) < 256 := by
  have := (b64L.getD v.toNat 0).toNat_lt
  unfold sgn; omega
theorem signs_in {N : Int} {i : Nat} : ∀ n ∈ signs N i, 0 ≤ n ∧ n < 256 := by
  intro n hn
  obtain ⟨m, _, rfl⟩ := List.mem_map.mp hn
  exact ⟨by omega, sgn_in _⟩

theorem and_low : ∀ (n : Nat) (a k : Int), 0 ≤ k → k < 2 ^ n → Builtin.bitAnd (a * 2 ^ n) k = 0
  | 0, a, k, h0, h1 => by
    have hk : k = 2 ^ 0 - 1 := by simp at h1 ⊢; omega
    rw [hk, kbt_mask]; simp [Int.emod_one]
  | n + 1, a, k, h0, h1 => by
    have e : a * 2 ^ (n + 1) = 2 * (a * 2 ^ n) := by rw [Int.pow_succ, ← Int.mul_assoc, Int.mul_comm]
    rw [kbt_halves, e, Int.mul_ediv_cancel_left _ (by decide), and_low n a (k / 2) (by omega) (by rw [Int.pow_succ] at h1; omega), Int.mul_emod_right]
    simp
theorem or_low (a k : Int) (h0 : 0 ≤ k) (h1 : k < 256) : Builtin.bitOr (a * 256) k = a * 256 + k := by
  rw [bitOr_and, show (256 : Int) = 2 ^ 8 by decide, and_low 8 a k h0 (by simpa using h1)]; omega

theorem num_go (ys : List Int) : ∀ n : Int, ys.foldl (fun n k => 256 * n + k) n = n * 256 ^ ys.length + num ys := by
  induction ys with
  | nil => intro n; simp [num]
  | cons y ys ih =>
    intro n
    have h0 : num (y :: ys) = y * 256 ^ ys.length + num ys := by
      show ys.foldl _ (256 * 0 + y) = _
      rw [Int.mul_zero, Int.zero_add, ih]
    rw [List.foldl_cons, ih, h0, List.length_cons, Int.pow_succ, Int.add_mul, Int.add_assoc, Int.mul_comm 256 n, Int.mul_assoc, Int.mul_comm 256]
theorem num_app (xs ys : List Int) : num (xs ++ ys) = num xs * 256 ^ ys.length + num ys := by
  unfold num
  rw [List.foldl_append, num_go]
  rfl
theorem num_snoc (xs : List Int) (y : Int) : num (xs ++ [y]) = 256 * num xs + y := by simp [num]
theorem num_in {ys : List Int} (hr : ∀ k ∈ ys, 0 ≤ k ∧ k < 256) : 0 ≤ num ys ∧ num ys < 256 ^ ys.length := by
  induction ys with
  | nil => simp [num]
  | cons y ys ih =>
    have h1 := ih fun k hk => hr k (.tail _ hk)
    have h2 := hr y (.head _)
    have e := num_app [y] ys
    rw [List.singleton_append, show num [y] = y by simp [num]] at e
    have h3 : y * 256 ^ ys.length ≤ 255 * 256 ^ ys.length := Int.mul_le_mul_of_nonneg_right (by omega) (by omega)
    have h4 : 0 ≤ y * 256 ^ ys.length := Int.mul_nonneg h2.1 (by omega)
    rw [e, List.length_cons, Int.pow_succ]
    omega
theorem pre_eq {ks : List Int} (h : ks.length = 6) (hr : ∀ k ∈ ks, 0 ≤ k ∧ k < 256) {j : Nat} (hj : j ≤ 6) : num (ks.take j) = num ks / 256 ^ (6 - j) := by
  have e := num_app (ks.take j) (ks.drop j)
  have hd := num_in (ys := ks.drop j) fun k hk => hr k (List.mem_of_mem_drop hk)
  rw [List.take_append_drop, List.length_drop, h] at e
  rw [List.length_drop, h] at hd
  rw [e, Int.add_comm, Int.add_mul_ediv_right _ _ (by omega), Int.ediv_eq_zero_of_lt hd.1 hd.2, Int.zero_add]
theorem md (P A D : Int) (hA : 0 < A) : P % (A * D) / A = P / A % D := by
  rw [Int.emod_def P (A * D), Int.mul_assoc, ← Int.ediv_ediv_of_nonneg (Int.le_of_lt hA), Int.sub_eq_add_neg, ← Int.mul_neg, Int.add_mul_ediv_left _ _ (by omega), ← Int.sub_eq_add_neg, ← Int.emod_def]
theorem pre_step {ks : List Int} {j : Nat} {k : Int} (h : ks[j]? = some k) : num (ks.take (j + 1)) = 256 * num (ks.take j) + k := by
  rw [List.take_add_one, h]; simp [num]
theorem bit_out (N : Int) {j i : Nat} (hj : j < 6) (h1 : 4 * j / 3 ≤ i) (h2 : 6 * i + 6 ≤ 8 * (j + 1)) {e : Int} (he : e = 8 * (j + 1) - 6 * i - 6) : Builtin.bitAnd (Int.fdiv (N / 256 ^ (6 - (j + 1)) % 65536) (2 ^ e.toNat)) 63 = fig N i := by
  rw [bitAnd_m6, Int.fdiv_eq_ediv_of_nonneg _ (Int.le_of_lt (Int.pow_pos (by decide)))]
  have p2 : ∀ n : Nat, (0 : Int) < 2 ^ n := fun n => Int.pow_pos (by decide)
  have e1 : (65536 : Int) = 2 ^ e.toNat * (64 * 2 ^ (10 - e.toNat)) := by
    rw [show (64 : Int) = 2 ^ 6 by decide, ← Int.pow_add, ← Int.pow_add, show e.toNat + (6 + (10 - e.toNat)) = 16 by omega]; decide
  have e2 : (256 : Int) ^ (6 - (j + 1)) * 2 ^ e.toNat = 64 ^ (7 - i) := by
    rw [show (256 : Int) = 2 ^ 8 by decide, show (64 : Int) = 2 ^ 6 by decide, ← Int.pow_mul, ← Int.pow_mul, ← Int.pow_add]
    congr 1; omega
  rw [e1, md _ _ _ (p2 _), Int.emod_emod_of_dvd _ (Int.dvd_mul_right ..), Int.ediv_ediv_of_nonneg (Int.le_of_lt (Int.pow_pos (by decide))), e2]
  rfl
theorem signs_snoc (N : Int) (i : Nat) : signs N (i + 1) = signs N i ++ [(sgn (fig N i) : Int)] := by
  simp [signs, List.range_succ]
end Bit
section Slc
open PySem PySem.W PyProof.Rows PySem.Calls Builtin Builtin.Str

section
variable {M : Model} {prog : Program} {w : World} {A : Around} {E : Value → Shared → Prop} {b s : Shared} {fs : List Frm} {led led' : List (Addr × O)} {env : Env} {Q : Value → Shared → Prop}

noncomputable abbrev rngO (x y d : Int) : O := .pred fun o => ∃ t u v, o = { cls := .type "range", data := .fields #[.int x t, .int y u, .int d v] }
theorem m_range {n : Int} {t : Tok} (S : St b fs led s) (k : ∀ a s', St b fs ((a, rngO 0 n 1) :: led) s' → Q (.ref a) s') : wpAny (model prog w) A (call (.type "range") [.int n t]) Q E s :=
  call_range_1 (k _ _ (S.push ⟨_, _, _, rfl⟩))
theorem m_range3 {x y d : Int} {t u v : Tok} (S : St b fs led s) (hd : d ≠ 0) (hp : Builtin.divisionGoesByPylong (y - x) d = false) (k : ∀ a s', St b fs ((a, rngO x y d) :: led) s' → Q (.ref a) s') : wpAny (model prog w) A (call (.type "range") [.int x t, .int y u, .int d v]) Q E s :=
  call_range_3 hd (k _ _ (S.push ⟨_, _, _, rfl⟩)) (.inl hp)
theorem it_range {r : Addr} {x y d : Int} {n : Nat} (S : St b fs led s) (h : (r, rngO x y d) ∈ led) (hs : Builtin.Range.small x y d = true) (hn : Builtin.Range.rangeSize x y d = n) (k : ∀ it s', St b fs ((it, ritO x d n 0) :: led) s' → Q (.ref it) s') :
    wpAny (model prog w) A (pyIter (.ref r)) Q E s := by
  obtain ⟨o, ho, t, u, v, rfl⟩ := S.at h
  refine wpAny_pyIter_range (a := x) (b := y) (c := d) (t := t) (u := u) (v := v) ho hs (k _ _ (S.push ?_))
  show _ = _
  rw [hn]; simp

theorem drop_pick {x : Str} {a : Nat} (ha : a ≤ x.length) : (strSliceIndices (some (a : Int)) none 1 x.length).filterMap (x.cps[·]?) = x.cps.toList.drop a := by
  have e : strSliceIndices (some (a : Int)) none 1 x.length = strSliceIndices (some (a : Int)) (some (x.length : Int)) 1 x.length := by
    have h2 : ¬ ((x.length : Int) < 0) := by omega
    simp only [strSliceIndices, h2, if_false, show ((1 : Int) > 0) = True from by simp, if_true]
    congr 1; omega
  rw [e, StrLaws.sliced_plain x ha (Nat.le_refl _), List.take_of_length_le]
  simp [Str.length]

theorem s_from {value lo : Expr} {p : Pos} {x : Str} {t : Tok} {Q : Value → Shared → Prop}
    (h : wpAny (model prog w) A (eval lo env) (fun vl s₂ => ∃ (a : Nat) (u : Tok) (fs : List Frm) (led : List (Addr × O)), vl = .int (a : Int) u ∧ a ≤ x.length ∧ x.length ≤ 1000 ∧ St b fs led s₂ ∧
      ∀ y t' s', y.cps.toList = x.cps.toList.drop a → St b fs led s' → Q (.str y t') s') E s) (ht : ∀ r, letTemporaryGo value (.str x t) r = pure () := by intro _; rfl) :
    wpAny (model prog w) A (eval (.Slice (some lo) none none p) env) (fun i s₂ => wpAny (model prog w) A (subscriptTail value (.Slice (some lo) none none p) (.str x t) i) Q E s₂) E s := by
  refine wpAny_Slice (wpAny_mono h (fun vl s₂ h₂ => wpAny_pure (wpAny_pure ?_)) fun _ _ z => z)
  obtain ⟨a, u, fs, led, rfl, ha, hx, S, k⟩ := h₂
  refine tail_of_ItemOn ⟨"str", _, F.slot_str_getitem.lookup, typeIs_str _ _ _, wpAny_getItem_str_slice (l := some ((a : Int), u)) (u := none) (st := none) ⟨_, Heap.get?_push_size _ rfl, rfl, rfl⟩ rfl ?_⟩ (by rfl) ht
  have S' : ∀ tk, St b fs led { s₂ with heap := s₂.heap.push { cls := .type "slice", data := .fields #[.int a u, .none, .none] }, toks := tk } := fun tk => S.grow fun _ _ e => Heap.get?_push_of_some _ e
  have e : slicePicked x (some ((a : Int), u)) none none = strSliceIndices (some (a : Int)) none 1 x.length := rfl
  unfold sliceMade
  by_cases hc : ((((none : Option (Int × Tok)).map (·.1)).getD 1 == 1 && (slicePicked x (some ((a : Int), u)) none none).length == x.length) = true)
  · rw [if_pos hc]
    refine k x t _ ?_ (S' _)
    simp only [Bool.and_eq_true, beq_iff_eq] at hc
    have h2 := congrArg List.length (drop_pick ha)
    rw [← e] at h2
    have h3 : ∀ (l : List Nat), (∀ i ∈ l, i < x.length) → (l.filterMap (x.cps[·]?)).length = l.length := by
      intro l hl
      induction l with
      | nil => rfl
      | cons i l ih =>
        have hi : i < x.cps.size := hl i (.head _)
        rw [List.filterMap_cons, Array.getElem?_eq_getElem hi]
        simp only [List.length_cons]
        rw [ih fun j hj => hl j (.tail _ hj)]
    have h4 : ∀ i ∈ slicePicked x (some ((a : Int), u)) none none, i < x.length := by
      have e2 : slicePicked x (some ((a : Int), u)) none none = (List.range (x.length - a)).map (fun k => a + k) := by
        rw [e, ← StrLaws.strSliceIndices_plain ha (Nat.le_refl _)]
        have h2 : ¬ ((x.length : Int) < 0) := by omega
        simp only [strSliceIndices, h2, if_false, show ((1 : Int) > 0) = True from by simp, if_true]
        congr 1; omega
      rw [e2]
      intro i hi
      obtain ⟨j, hj, rfl⟩ := List.mem_map.mp hi
      have := List.mem_range.mp hj
      omega
    rw [h3 _ h4, hc.2, List.length_drop] at h2
    have h5 : x.length = x.cps.toList.length := by simp [Str.length]
    have ha' : a = 0 ∨ x.cps.toList = [] := by
      by_cases hz : x.cps.toList = []
      · exact .inr hz
      · have := List.length_pos_iff.mpr hz
        left; omega
    rcases ha' with rfl | hz
    · rfl
    · rw [hz]; simp
  · rw [if_neg hc]
    refine ⟨?_, k _ _ _ ?_ (S' _)⟩
    · rw [e, drop_pick ha]
      simp only [Str.length, List.size_toArray, List.length_drop]
      have : x.cps.toList.length = x.length := by simp [Str.length]
      rw [sizeLine_eq]; omega
    · rw [e, drop_pick ha]

theorem s_rev {value st : Expr} {p : Pos} {x : Str} {t : Tok} {Q : Value → Shared → Prop}
    (h : wpAny (model prog w) A (eval st env) (fun vs s₂ => ∃ (u : Tok) (fs : List Frm) (led : List (Addr × O)), vs = .int (-1) u ∧ x.cps.toList.length = 8 ∧ St b fs led s₂ ∧
      ∀ y t' s', y.cps.toList = x.cps.toList.reverse → St b fs led s' → Q (.str y t') s') E s) (ht : ∀ r, letTemporaryGo value (.str x t) r = pure () := by intro _; rfl) :
    wpAny (model prog w) A (eval (.Slice none none (some st) p) env) (fun i s₂ => wpAny (model prog w) A (subscriptTail value (.Slice none none (some st) p) (.str x t) i) Q E s₂) E s := by
  refine wpAny_Slice (wpAny_pure (wpAny_pure (wpAny_mono h (fun vs s₂ h₂ => ?_) fun _ _ z => z)))
  obtain ⟨u, fs, led, rfl, hx, S, k⟩ := h₂
  have S' : ∀ tk, St b fs led { s₂ with heap := s₂.heap.push { cls := .type "slice", data := .fields #[.none, .none, .int (-1) u] }, toks := tk } := fun tk => S.grow fun _ _ e => Heap.get?_push_of_some _ e
  obtain ⟨xs⟩ := x
  obtain ⟨xs⟩ := xs
  simp only at hx
  rcases xs with _ | ⟨a, _ | ⟨b, _ | ⟨c, _ | ⟨d, _ | ⟨e, _ | ⟨f, _ | ⟨g, _ | ⟨i, _ | _⟩⟩⟩⟩⟩⟩⟩⟩ <;> simp at hx
  refine tail_of_ItemOn ⟨"str", _, F.slot_str_getitem.lookup, typeIs_str _ _ _, wpAny_getItem_str_slice (l := none) (u := none) (st := some (-1, u)) ⟨_, Heap.get?_push_size _ rfl, rfl, rfl⟩ rfl ?_⟩ (by rfl) ht
  have e : slicePicked ⟨⟨[a, b, c, d, e, f, g, i]⟩⟩ none none (some ((-1 : Int), u)) = [7, 6, 5, 4, 3, 2, 1, 0] := by
    show strSliceIndices none none (-1) 8 = _
    decide
  unfold sliceMade
  rw [if_neg (by simp), e]
  exact ⟨by show 8 ≤ sizeLine; rw [sizeLine_eq]; decide, k _ _ _ rfl (S' _)⟩

theorem Isl.drop {us vs} (h : Isl us vs) (n : Nat) : Isl (us.drop n) (vs.drop n) := by
  induction h generalizing n with
  | nil => simp; exact .nil
  | cons a h ih => cases n with
    | zero => exact .cons a h
    | succ n => exact ih n
theorem Isl.take {us vs} (h : Isl us vs) (n : Nat) : Isl (us.take n) (vs.take n) := by
  induction h generalizing n with
  | nil => simp; exact .nil
  | cons a h ih => cases n with
    | zero => exact .nil
    | succ n => exact .cons a (ih n)
theorem l_core {value slice : Expr} {l : Addr} {ys : List V} {vl vu vs : Value} {lo hi st : Option Int} {us : List Value} (S : St b fs led s) (hL : s.heap.IsList l us.toArray) (hz : us.length ≤ 1000) (pl : IsPart vl lo) (pu : IsPart vu hi) (ps : IsPart vs st) (h0 : st ≠ some 0)
    (hp : Isl (slicePick us.toArray lo hi st).toList ys) (k : ∀ c s', St b fs ((c, .list ys) :: led) s' → Q (.ref c) s') {ops : List Value}
    (hs : subscripted slice false (.ref l) (.ref s.heap.objs.size) = operate ops (getItem (.ref l) (.ref s.heap.objs.size))) (ht : ∀ r, letTemporaryGo value (.ref l) r = pure ()) :
    wpAny (model prog w) A (subscriptTail value slice (.ref l) (.ref s.heap.objs.size)) Q E { s with heap := s.heap.push { cls := .type "slice", data := .fields #[vl, vu, vs] } } := by
  refine tail_of_ItemOn ⟨"list", _, slot_list_getitem.lookup, (hL.push _).typeIs, wpAny_getItem_list_slice (hL.push _) (Heap.IsSliceOf.new ..) pl pu ps h0 ?_ (by rw [List.size_toArray, sizeLine_eq]; omega)⟩ hs ht
  exact k _ _ ((S.grow (tk := s.toks) fun _ _ e => Heap.get?_push_of_some _ e).push ⟨(slicePick us.toArray lo hi st).toList, 0, rfl, hp⟩)
theorem l_ab {value lo hi : Expr} {p : Pos} {l : Addr}
    (h : wpAny (model prog w) A (eval lo env) (fun vl s₂ => wpAny (model prog w) A (eval hi env) (fun vu s₃ => ∃ (xs : List V) (i : Nat) (t : Tok) (j : Nat) (u : Tok) (fs : List Frm) (led : List (Addr × O)), vl = .int (i : Int) t ∧ vu = .int (j : Int) u ∧ i ≤ j ∧ j ≤ xs.length ∧ xs.length ≤ 1000 ∧
      St b fs led s₃ ∧ (l, .list xs) ∈ led ∧ ∀ c s', St b fs ((c, .list ((xs.drop i).take (j - i))) :: led) s' → Q (.ref c) s') E s₂) E s) (ht : ∀ r, letTemporaryGo value (.ref l) r = pure () := by intro _; rfl) :
    wpAny (model prog w) A (eval (.Slice (some lo) (some hi) none p) env) (fun i s₂ => wpAny (model prog w) A (subscriptTail value (.Slice (some lo) (some hi) none p) (.ref l) i) Q E s₂) E s := by
  refine wpAny_Slice (wpAny_mono h (fun vl s₂ h₂ => wpAny_mono h₂ (fun vu s₃ h₃ => wpAny_pure ?_) fun _ _ z => z) fun _ _ z => z)
  obtain ⟨xs, i, t, j, u, fs, led, rfl, rfl, hij, hj, hz, S, hl, k⟩ := h₃
  obtain ⟨us, hi, hL⟩ := S.isList hl
  have hlen := hi.length
  refine l_core S hL (by omega) (.int _ _) (.int _ _) .none (by simp) ?_ k (by rfl) ht
  rw [slicePick_run _ i j (by rw [List.size_toArray, hlen]; exact hj) hij]
  exact (hi.drop i).take (j - i)
theorem l_a {value lo : Expr} {p : Pos} {l : Addr}
    (h : wpAny (model prog w) A (eval lo env) (fun vl s₂ => ∃ (xs : List V) (i : Nat) (t : Tok) (fs : List Frm) (led : List (Addr × O)), vl = .int (i : Int) t ∧ i ≤ xs.length ∧ xs.length ≤ 1000 ∧
      St b fs led s₂ ∧ (l, .list xs) ∈ led ∧ ∀ c s', St b fs ((c, .list (xs.drop i)) :: led) s' → Q (.ref c) s') E s) (ht : ∀ r, letTemporaryGo value (.ref l) r = pure () := by intro _; rfl) :
    wpAny (model prog w) A (eval (.Slice (some lo) none none p) env) (fun i s₂ => wpAny (model prog w) A (subscriptTail value (.Slice (some lo) none none p) (.ref l) i) Q E s₂) E s := by
  refine wpAny_Slice (wpAny_mono h (fun vl s₂ h₂ => wpAny_pure (wpAny_pure ?_)) fun _ _ z => z)
  obtain ⟨xs, i, t, fs, led, rfl, hj, hz, S, hl, k⟩ := h₂
  obtain ⟨us, hi, hL⟩ := S.isList hl
  have hlen := hi.length
  refine l_core S hL (by omega) (.int _ _) .none .none (by simp) ?_ k (by rfl) ht
  rw [slicePick_from _ i (by rw [List.size_toArray, hlen]; exact hj)]
  exact hi.drop i
theorem l_b {value hi : Expr} {p : Pos} {l : Addr}
    (h : wpAny (model prog w) A (eval hi env) (fun vl s₂ => ∃ (xs : List V) (i : Nat) (t : Tok) (fs : List Frm) (led : List (Addr × O)), vl = .int (i : Int) t ∧ i ≤ xs.length ∧ xs.length ≤ 1000 ∧
      St b fs led s₂ ∧ (l, .list xs) ∈ led ∧ ∀ c s', St b fs ((c, .list (xs.take i)) :: led) s' → Q (.ref c) s') E s) (ht : ∀ r, letTemporaryGo value (.ref l) r = pure () := by intro _; rfl) :
    wpAny (model prog w) A (eval (.Slice none (some hi) none p) env) (fun i s₂ => wpAny (model prog w) A (subscriptTail value (.Slice none (some hi) none p) (.ref l) i) Q E s₂) E s := by
  refine wpAny_Slice (wpAny_pure (wpAny_mono h (fun vl s₂ h₂ => wpAny_pure ?_) fun _ _ z => z))
  obtain ⟨xs, i, t, fs, led, rfl, hj, hz, S, hl, k⟩ := h₂
  obtain ⟨us, hi, hL⟩ := S.isList hl
  have hlen := hi.length
  refine l_core S hL (by omega) .none (.int _ _) .none (by simp) ?_ k (by rfl) ht
  rw [slicePick_upto _ i (by rw [List.size_toArray, hlen]; exact hj)]
  exact hi.take i
end
end Slc
section Mwr
open PySem PySem.W PyProof.Rows PySem.Calls Builtin

theorem mw_slot_get : Slot "wrapper_descriptor" "__get__" "wrapper_descriptor.__get__" :=
  .of (owner := "wrapper_descriptor") (n := "__get__") (by rw [typeLookup_type, builtinLookup_eq_fast]; kernel_rfl) (by decide +kernel) (by decide +kernel) (by decide +kernel)
    (by first | exact .inl (by decide +kernel) | exact .inr (by decide +kernel)) (by rw [isSubtype_type]; kernel_rfl)
theorem mw_set : typeLookup (.type "wrapper_descriptor") "__set__" = pure none := by rw [typeLookup_type, builtinLookup_eq_fast]; kernel_rfl
theorem mw_del : typeLookup (.type "wrapper_descriptor") "__delete__" = pure none := by rw [typeLookup_type, builtinLookup_eq_fast]; kernel_rfl
theorem mw_entry_get : entryFor table "wrapper_descriptor.__get__" = some Builtin.«wrapper_descriptor.__get__» := entryFor_of_tree (by kernel_rfl)
theorem mw_args_get (a b c : Value) : argsOk "wrapper_descriptor.__get__" ⟨[a, b, c], []⟩ := by unfold argsOk; kernel_rfl
theorem mw_type : typeOf (.builtin "list_iterator.__next__") = pure (.type "wrapper_descriptor") := by show builtinType _ = _; rw [builtinType_eq_fast]; kernel_rfl
theorem mw_lookga : typeLookup (.type "list_iterator") "__getattribute__" = pure (some (.builtin "object.__getattribute__")) := by rw [typeLookup_type, builtinLookup_eq_fast]; kernel_rfl
theorem mw_slot_ga : Slot "list_iterator" "__getattribute__" "object.__getattribute__" :=
  .of (owner := "object") (n := "__getattribute__") (by rw [typeLookup_type, builtinLookup_eq_fast]; kernel_rfl) (by decide +kernel) (by decide +kernel) (by decide +kernel)
    (by first | exact .inl (by decide +kernel) | exact .inr (by decide +kernel)) (by rw [isSubtype_type]; kernel_rfl)
theorem mw_sub : isSubtype (.type "list_iterator") (.type (".".intercalate ("list_iterator.__next__".cutAt '.').dropLast)) = pure true := by
  rw [show ".".intercalate ("list_iterator.__next__".cutAt '.').dropLast = "list_iterator" by decide +kernel, isSubtype_type]; kernel_rfl
noncomputable def mwObj (it : Addr) : Obj := { cls := .type "method-wrapper", data := .fields #[.builtin "list_iterator.__next__", .ref it] }
section
variable {prog : Program} {w : World} {A : Around} {E : Value → Shared → Prop} {it : Addr} {o : Obj} {h : Heap} {g : Array GenState} {d : Drawn} {t : Nat} {os : OsState}
theorem mw_get {R : Result → Shared → Prop} (hx : h.get? it = some o) (hc : o.cls = .type "list_iterator") (hq : R (.ok (.ret (.ref h.objs.size))) ⟨h.push (mwObj it), g, d, t, os⟩) :
    codeAny (model prog w) A (.call (.builtin "wrapper_descriptor.__get__") ⟨[.builtin "list_iterator.__next__", .ref it, .type "list_iterator"], []⟩) R ⟨h, g, d, t, os⟩ := by
  have hT : (⟨h, g, d, t, os⟩ : Shared).TypeIs (.ref it) "list_iterator" := ⟨_, hx, hc⟩
  have hT5 : (⟨h, g, d, t, os⟩ : Shared).TypeIs (.builtin "list_iterator.__next__") "wrapper_descriptor" := mw_type
  have f8 := mw_sub
  refine codeAny_call_builtin mw_slot_get.plain mw_entry_get (mw_slot_get.check _ _ _ _ _ _ _ _ hT5 (mw_args_get _ _ _) ?_)
  repeat (any_goals (first | assumption | wp_step))
theorem mw_entry {l : Addr} {k : Tok} {i : Int} {tk : Tok} {Q : Fin → Shared → Prop} (hx : h.get? it = some { cls := .type "list_iterator", data := .fields #[.ref l, .int i k] }) (hq : Q (.done (.ret (.ref h.objs.size))) ⟨h.push (mwObj it), g, d, t, os⟩) :
    wpAny (model prog w) A (Builtin.«object.__getattribute__» ⟨[.ref it, .str "__next__" tk], []⟩) Q E ⟨h, g, d, t, os⟩ := by
  have hT : (⟨h, g, d, t, os⟩ : Shared).TypeIs (.ref it) "list_iterator" := ⟨_, hx, rfl⟩
  have hT5 : (⟨h, g, d, t, os⟩ : Shared).TypeIs (.builtin "list_iterator.__next__") "wrapper_descriptor" := mw_type
  have f4 := slot_listiter_next.lookup
  have f5 := mw_type
  have f6 := mw_slot_get.lookup
  have f7 := mw_set
  have f8 := mw_del
  repeat (any_goals (first | assumption | wp_step))
  refine mw_get hx rfl ?_
  repeat (any_goals (first | assumption | wp_step))
theorem mw_entry_ga : entryFor table "object.__getattribute__" = some Builtin.«object.__getattribute__» := entryFor_of_tree (by kernel_rfl)
theorem mw_args_ga (a b : Value) : argsOk "object.__getattribute__" ⟨[a, b], []⟩ := by unfold argsOk; kernel_rfl
theorem mw_attr {l : Addr} {k : Tok} {i : Int} {e : Bool} {Q : Value → Shared → Prop} (hx : h.get? it = some { cls := .type "list_iterator", data := .fields #[.ref l, .int i k] }) (hq : Q (.ref h.objs.size) ⟨h.push (mwObj it), g, d, t + 1, os⟩) :
    wpAny (model prog w) A (getAttr (.ref it) "__next__" e) Q E ⟨h, g, d, t, os⟩ := by
  have hT : ∀ t', (⟨h, g, d, t', os⟩ : Shared).TypeIs (.ref it) "list_iterator" := fun _ => ⟨_, hx, rfl⟩
  have f3 := mw_slot_ga.lookup
  have f4 := mw_slot_ga.bind (.ref it)
  unfold getAttr getAttrBy
  repeat (any_goals (first | assumption | exact hT _ | wp_step))
  rw [if_neg (by rw [show onTheHeap (Value.builtin "object.__getattribute__") = false from rfl, Bool.and_false]; exact Bool.false_ne_true)]
  unfold boundAndCalled
  repeat (any_goals (first | assumption | exact hT _ | wp_step))
  refine codeAny_call_builtin mw_slot_ga.plain mw_entry_ga (mw_slot_ga.check _ _ _ _ _ _ _ _ (hT _) (mw_args_ga _ _) (mw_entry hx ?_))
  show wpAny _ _ (handedOut _) _ _ _
  rw [handedOut_of rfl]
  exact wpAny_pure hq
end
section
variable {M : Model} {prog : Program} {w : World} {A : Around} {E : Value → Shared → Prop} {b s : Shared} {fs : List Frm} {led led' : List (Addr × O)} {env : Env} {Q : Value → Shared → Prop}
noncomputable abbrev lit0 (l : Addr) : O := .pred fun o => o = { cls := .type "list_iterator", data := .fields #[.ref l, .int 0 0] }
noncomputable abbrev mwO (it : Addr) : O := .pred fun o => o = mwObj it
theorem it_list0 {l : Addr} {xs : List V} (S : St b fs led s) (h : (l, .list xs) ∈ led) (k : ∀ it s', St b fs ((it, lit0 l) :: led) s' → Q (.ref it) s') : wpAny (model prog w) A (pyIter (.ref l)) Q E s := by
  obtain ⟨us, hi, hl⟩ := S.isList h
  exact wpAny_pyIter_list hl (k _ _ (S.push rfl))
theorem mw_next {it l : Addr} {e : Bool} (S : St b fs ((it, lit0 l) :: led) s) (k : ∀ m s', St b fs ((m, mwO it) :: (it, litO l 0) :: led) s' → Q (.ref m) s') : wpAny (model prog w) A (getAttr (.ref it) "__next__" e) Q E s := by
  obtain ⟨o, ho, rfl⟩ := S.at (.head _)
  obtain ⟨h, g, d, t, os⟩ := s
  refine mw_attr ho (k _ _ ?_)
  have S1 : St b fs ((it, litO l 0) :: led) ⟨h, g, d, t, os⟩ := ⟨S.keep, S.fr, fun p hp => by
    rcases List.mem_cons.mp hp with rfl | hp
    · exact ⟨_, ho, rfl, rfl⟩
    · exact S.lg p (.tail _ hp), S.nd, S.new, S.top, S.gens, S.os⟩
  exact S1.push (tk := t + 1) rfl
/-- iter of a list -/
theorem m_iter {l : Addr} {xs : List V} (S : St b fs led s) (h : (l, .list xs) ∈ led) (k : ∀ it s', St b fs ((it, lit0 l) :: led) s' → Q (.ref it) s') : wpAny (model prog w) A (call (.builtin "iter") [.ref l]) Q E s := by
  refine call_function_entry (by decide +kernel) (by decide +kernel) kdk_entry_iter (kdk_args_iter _) ?_
  unfold Builtin.«iter»
  refine wpAny_bind (m := someArgs "iter" 1 2 _) (wpAny_of_eq (a := [Value.ref l]) (by first | rfl | kernel_rfl!) ?_)
  show wpAny _ _ (pyIter (.ref l) >>= _) _ _ _
  exact wpAny_bind (it_list0 S h fun it s' S' => wpAny_pure ⟨_, rfl, k it s' S'⟩)
theorem mw_check (it : Addr) : checkBoundCall "list_iterator.__next__" ⟨[.ref it], []⟩ = pure () := by first | kernel_rfl | rfl
theorem mw_open {m it : Addr} (S : St b fs led s) (h : (m, mwO it) ∈ led) (k : ∀ A' : Around, A'.handled = A.handled → wpAny (model prog w) A' (Builtin.«list_iterator.__next__» ⟨[.ref it], []⟩) (fun fin s' => ∃ v, fin = .done (.ret v) ∧ Q v s') E s) : wpAny (model prog w) A (call (.ref m) []) Q E s := by
  obtain ⟨o, ho, rfl⟩ := S.at h
  refine wpAny_call (codeAny_of_tree ?_)
  show wpAny _ A.in1 (callAny (.ref m) ⟨[], []⟩) _ _ s
  simp only [callAny]
  refine wpAny_bind (wpAny_load ho ?_)
  simp only [mwObj, show (Value.type "method-wrapper" == Value.type "method" || Value.type "method-wrapper" == Value.type "builtin_function_or_method" || Value.type "method-wrapper" == Value.type "method-wrapper") = true by decide, if_true]
  refine PySem.W.KFB.if_so (by decide) ?_
  refine wpAny_bind (wpAny_of_eq (a := ()) (mw_check it) ?_)
  refine wpAny_bind (wpAny_pure (wpAny_pure ?_))
  refine ⟨Code.quiet_builtin _ (by decide +kernel), codeAny_builtin entry_listiter_next (wpAny_mono (k _ rfl) (fun fin s' z => ?_) fun _ _ z => z)⟩
  obtain ⟨v, rfl, hv⟩ := z; exact hv
/-- a call of a bound next: an item -/
theorem mw_item {m it l : Addr} {xs : List V} {i : Nat} {x : V} (S : St b fs led s) (h : (m, mwO it) ∈ led) (hU : Upd led it (litO l i) (litO l (i + 1)) led') (hl : (l, .list xs) ∈ led) (hx : xs[i]? = some x) (k : ∀ u s', Is u x → St b fs led' s' → Q u s') :
    wpAny (model prog w) A (call (.ref m) []) Q E s := by
  refine mw_open S h fun A' hA' => ?_
  obtain ⟨us, hi, hL⟩ := S.isList hl
  obtain ⟨ol, hol, _, nl, hdl⟩ := hL
  obtain ⟨o, ho, hc, hd⟩ := S.at hU.mem
  obtain ⟨u, hu, iu⟩ := hi.get hx
  show wpAny _ _ (field (.ref it) 0 >>= _) _ _ s
  refine wpAny_bind (wpAny_field ho hd (x := .ref l) rfl ?_)
  show wpAny _ _ (if (Value.ref l == Value.none) = true then _ else _) _ _ s
  rw [if_neg (show ¬ ((Value.ref l == Value.none) = true) from Bool.false_ne_true)]
  show wpAny _ _ (field (.ref it) 1 >>= _) _ _ s
  refine wpAny_bind (wpAny_field ho hd (x := .int i 0) rfl ?_)
  show wpAny _ _ (seqItems? (.ref l) >>= _) _ _ s
  refine wpAny_bind (wpAny_seqItems hol hdl ?_)
  simp only [Int.toNat_natCast, List.getElem?_toArray, hu]
  refine wpAny_bind (wpAny_setField ho hd (by simp) (wpAny_pure ⟨u, rfl, k _ _ iu ?_⟩))
  exact S.upd hU (Heap.SameBut.update ..).extBut (Heap.get?_update_self _ ho (Obj.isFreed_of_fields (Obj.data_mapFields hd _))) ⟨(Obj.cls_mapFields ..).trans hc, by rw [Obj.data_mapFields hd]; simp [rawInt]⟩
/-- a call of a bound next: no item -/
theorem mw_stop {m it l : Addr} {xs : List V} (S : St b fs ((it, litO l xs.length) :: led) s) (hh : A.handled = none) (h : (m, mwO it) ∈ led) (hl : (l, .list xs) ∈ led) (k : ∀ e s', St b fs ((e, excO "StopIteration") :: led) s' → E (.ref e) s') :
    wpAny (model prog w) A (call (.ref m) []) Q E s := by
  refine mw_open S (.tail _ h) fun A' hA' => ?_
  obtain ⟨us, hi, hL⟩ := S.isList (.tail _ hl)
  obtain ⟨ol, hol, _, nl, hdl⟩ := hL
  obtain ⟨o, ho, hc, hd⟩ := S.at (.head _)
  have hx : us.toArray[xs.length]? = none := by simp [hi.length]
  show wpAny _ _ (field (.ref it) 0 >>= _) _ _ s
  refine wpAny_bind (wpAny_field ho hd (x := .ref l) rfl ?_)
  show wpAny _ _ (if (Value.ref l == Value.none) = true then _ else _) _ _ s
  rw [if_neg (show ¬ ((Value.ref l == Value.none) = true) from Bool.false_ne_true)]
  show wpAny _ _ (field (.ref it) 1 >>= _) _ _ s
  refine wpAny_bind (wpAny_field ho hd (x := .int xs.length 0) rfl ?_)
  show wpAny _ _ (seqItems? (.ref l) >>= _) _ _ s
  refine wpAny_bind (wpAny_seqItems hol hdl ?_)
  simp only [Int.toNat_natCast, hx]
  refine wpAny_bind (wpAny_rule (wpAny_bind (wpAny_setField ho hd (by simp) ?_)))
  have S1 := S.lose (tk := s.toks) (Heap.SameBut.update (h := s.heap) (a := it) (f := (Obj.mapFields (·.setIfInBounds 0 Value.none)))).extBut
  show wpAny _ _ (newExc (.type "StopIteration") [] >>= _) _ _ _
  refine wpAny_bind ?_
  simp only [newExc, newTuple]
  refine wpAny_bind (wpAny_newObj_type ?_ (by size_fits))
  refine wpAny_bind (m := firstArgMember _ _) (wpAny_of_eq (a := Value.none) (by first | rfl | (simp only [firstArgMember]; rfl)) ?_)
  refine wpAny_newObj_type ?_ (by size_fits)
  simp only [raiseNew]
  refine wpAny_bind (wpAny_handled ?_)
  rw [hA', hh]
  refine wpAny_bind (wpAny_pure (wpAny_throw ?_))
  exact k _ _ ((S1.grow (tk := s.toks) fun _ _ e => Heap.get?_push_of_some _ e).push ⟨rfl, _, rfl, rfl⟩)
end
end Mwr
section Bnd
open PySem PySem.W PyProof.Rows Builtin Builtin.Str
theorem tw_len {P : Nat → Bool} : ∀ {m : List Nat} {d : Nat}, d ≤ m.length → (∀ j c, j < d → m[j]? = some c → P c = true) → (∀ c, m[d]? = some c → P c = false) → (m.takeWhile P).length = d
  | [], d, h, _, _ => by simp at h; simp [h]
  | a :: m, 0, _, _, h => by simp [List.takeWhile_cons, h a rfl]
  | a :: m, d + 1, h, h1, h2 => by
    rw [List.takeWhile_cons, h1 0 a (by omega) rfl]
    simp only [if_true, List.length_cons]
    rw [tw_len (d := d) (by simpa using h) (fun j c hj e => h1 (j + 1) c (by omega) (by simpa using e)) (fun c e => h2 c (by simpa using e))]
/-- where skip_chars ends -/
noncomputable def skp (l y : List Nat) (p : Nat) : Nat := p + ((l.drop p).takeWhile fun c => decide (c ∈ y)).length
theorem skp_eq {l y : List Nat} {p i : Nat} (h1 : p ≤ i) (h2 : i ≤ l.length) (h3 : ∀ j c, p ≤ j → j < i → l[j]? = some c → c ∈ y) (h4 : ∀ c, l[i]? = some c → c ∉ y) : (i : Int) = skp l y p := by
  unfold skp
  rw [tw_len (d := i - p) (by rw [List.length_drop]; omega) (fun j c hj e => ?_) (fun c e => ?_)]
  · omega
  · rw [List.getElem?_drop] at e
    exact decide_eq_true (h3 _ c (by omega) (by omega) e)
  · rw [List.getElem?_drop, show p + (i - p) = i by omega] at e
    exact decide_eq_false (h4 c e)
noncomputable def alph : Str := "ABCDEFGHIJKLMNOPQRSTUVWXYZabcdefghijklmnopqrstuvwxyz0123456789+/"
theorem alph_len : alph.length = 64 := by decide +kernel
theorem alph_at : ∀ v, v < 64 → (occurrences alph ⟨#[sgn (v : Nat)]⟩ 0 64 1).head? = some v := by
  have h : ((List.range 64).all fun v => decide ((occurrences alph ⟨#[sgn (v : Nat)]⟩ 0 64 1).head? = some v)) = true := by decide +kernel
  intro v hv
  simpa using List.all_eq_true.mp h v (List.mem_range.mpr hv)
theorem alph_in : ∀ a, a < 65 → ∀ v, v < 64 → (sgn (v : Nat) ∈ alph.cps.toList.drop a ↔ a ≤ v) := by
  have h : ((List.range 65).all fun a => (List.range 64).all fun v => decide (sgn (v : Nat) ∈ alph.cps.toList.drop a ↔ a ≤ v)) = true := by decide +kernel
  intro a ha v hv
  simpa using List.all_eq_true.mp (List.all_eq_true.mp h a (List.mem_range.mpr ha)) v (List.mem_range.mpr hv)
theorem alph_mem {v : Int} (h0 : 0 ≤ v) (h1 : v < 64) {a : Nat} (ha : a ≤ 64) : sgn v ∈ alph.cps.toList.drop a ↔ (a : Int) ≤ v := by
  have := alph_in a (by omega) v.toNat (by omega)
  rw [show ((v.toNat : Nat) : Int) = v by omega] at this
  rw [this]; omega
noncomputable def skp' (f : Nat → Int) (l : List Nat) (a : Int) (p : Nat) : Nat := p + ((l.drop p).takeWhile fun q => decide (a ≤ f q)).length
/-- the place behind, the place ahead -/
noncomputable def beh (f : Nat → Int) (p : Nat) : Nat := skp' f (List.range 8) (f p) (p + 1)
noncomputable def ahd (f : Nat → Int) (p : Nat) : Int := 7 - skp' f (List.range 8).reverse (f p + 1) (8 - p)
noncomputable def bnds (f : Nat → Int) : List (Int × Int) := (List.range 8).map fun p => (ahd f p, (beh f p : Int))
noncomputable def bled (ts : List (Addr × Int × Int)) (rest : List (Addr × O)) : List (Addr × O) := ts.map (fun t => (t.1, O.tuple [.int t.2.1, .int t.2.2])) ++ rest
theorem bled_perm (ts : List (Addr × Int × Int)) (x rest : List (Addr × O)) : List.Perm (bled ts (x ++ rest)) (x ++ bled ts rest) := by
  unfold bled
  rw [← List.append_assoc, ← List.append_assoc]
  exact List.Perm.append_right _ List.perm_append_comm
theorem bled_snoc (ts : List (Addr × Int × Int)) (t : Addr × Int × Int) (rest : List (Addr × O)) : bled (ts ++ [t]) rest = bled ts ((t.1, O.tuple [.int t.2.1, .int t.2.2]) :: rest) := by simp [bled]
theorem skp_map {f : Nat → Int} (hf : ∀ m, 0 ≤ f m ∧ f m < 64) {l : List Nat} {a p : Nat} (ha : a ≤ 64) : skp (l.map fun m => sgn (f m)) (alph.cps.toList.drop a) p = skp' f l a p := by
  unfold skp skp'
  rw [← List.map_drop, List.takeWhile_map, List.length_map]
  congr 3
  funext q
  simp only [Function.comp]
  rw [Bool.eq_iff_iff, decide_eq_true_eq, decide_eq_true_eq]
  exact alph_mem (hf q).1 (hf q).2 ha
section
variable {prog : Program} {w : World} {A : Around} {E : Value → Shared → Prop} {b s : Shared} {fs : List Frm} {led : List (Addr × O)} {Q : Value → Shared → Prop}
theorem s_index {v : Int} {t u : Tok} (S : St b fs led s) (h0 : 0 ≤ v) (h1 : v < 64) (k : ∀ t s', St b fs led s' → Q (.int v t) s') : wpAny (model prog w) A (call (.builtin "str.index") [.str alph t, .str ⟨#[sgn v]⟩ u]) Q E s := by
  have h := alph_at v.toNat (by omega)
  rw [show ((v.toNat : Nat) : Int) = v by omega] at h
  cases q : occurrences alph ⟨#[sgn v]⟩ 0 64 1 with
  | nil => rw [q] at h; cases h
  | cons i rest =>
    rw [q] at h
    have hi : i = v.toNat := by simpa using h
    refine SC.index (i := v.toNat) (rest := rest) (by rw [alph_len, q, hi]) ?_
    rw [show ((v.toNat : Nat) : Int) = v by omega]
    exact k _ _ S.tok
theorem s_indexM {x : Str} {t : Tok} {pl : Sem Bool} {Q : Value × List Value → Shared → Prop} (k : Q (.builtin "str.index", [.str x t]) s) : wpAny (model prog w) A (getMethod (.str x t) "index" pl) Q E s := GM.index k
end
end Bnd
section Set
open PySem PySem.W PyProof.Rows PySem.Calls Builtin
section
variable {M : Model} {prog : Program} {w : World} {A : Around} {E : Value → Shared → Prop} {b s : Shared} {fs : List Frm} {led led' : List (Addr × O)} {env : Env} {Q : Value → Shared → Prop}
theorem Upd.swap {x : Addr} {K K' : O} {l l' : List (Addr × O)} (h : Upd l x K K' l') : (x, K) ∈ l := h.mem
noncomputable abbrev setO (prog : Program) (w : World) (xs : List Int) : O := .pred fun o => ∃ n, n ≤ xs.length ∧ o.SetObjOf (intKind prog w) (fun k => xs.contains k) n
theorem m_set (S : St b fs led s) (k : ∀ a s', St b fs ((a, setO prog w []) :: led) s' → Q (.ref a) s') : wpAny (model prog w) A (call (.type "set") []) Q E s :=
  call_set_0 fun l => k _ _ (S.push ⟨0, Nat.le_refl _, setObjOf_fresh l⟩)
theorem se_meth {a : Addr} {xs : List Int} {pl : Sem Bool} {Q : Value × List Value → Shared → Prop} (S : St b fs led s) (h : (a, setO prog w xs) ∈ led) (hz : xs.length ≤ 100) (k : Q (.builtin "set.add", [.ref a]) s) : wpAny (model prog w) A (getMethod (.ref a) "add" pl) Q E s := by
  obtain ⟨o, ho, n, hn, hs⟩ := S.at h
  exact getMethod_set_add (hs.setOf ho (by unfold scanBound; omega)) k
theorem se_in {a : Addr} {xs : List Int} {x : Int} {t : Tok} (S : St b fs led s) (h : (a, setO prog w xs) ∈ led) (hz : xs.length ≤ 100) (k : ∀ s', St b fs led s' → Q (.bool (xs.contains x)) s') : wpAny (model prog w) A (compareOp .In (.int x t) (.ref a)) Q E s := by
  obtain ⟨o, ho, n, hn, hs⟩ := S.at h
  exact wpAny_inSet_of (isKey x t) rfl (hs.setOf ho (by unfold scanBound; omega)) (k _ S.tok)
theorem se_add {a : Addr} {xs : List Int} {x : Int} {t : Tok} (S : St b fs led s) (hU : Upd led a (setO prog w xs) (setO prog w (x :: xs)) led') (hz : xs.length ≤ 100) (k : ∀ s', St b fs led' s' → Q .none s') : wpAny (model prog w) A (call (.builtin "set.add") [.ref a, .int x t]) Q E s := by
  obtain ⟨o, ho, n, hn, hs⟩ := S.at hU.mem
  refine call_set_add (isKey x t) rfl (hs.setOf ho (by unfold scanBound; omega)) (by unfold scanBound; omega) fun h' hsb hS' => ?_
  obtain ⟨o', ho', hs'⟩ := hS'.objOf
  refine k _ (S.upd (tk := s.toks + 1) hU hsb.extBut ho' ⟨if xs.contains x then n else n + 1, ?_, ?_⟩)
  · split <;> simp <;> omega
  · have e : (fun k => (x :: xs).contains k) = (fun k => xs.contains k || decide (k = x)) := by
      funext k
      rw [List.contains_cons, Bool.or_comm]
      congr 1
    rw [e]; exact hs'
/-- a call of a bound next, seen from its caller -/
theorem cw_mw {m it : Addr} {pos : Pos} (S : St b fs led s) (h : (m, mwO it) ∈ led) (k : wpAny M A (call (.ref m) []) Q E s) : wpAny M A (callWith pos (.ref m) [] (backTo pos (starEach [] env)) []) Q E s := by
  obtain ⟨o, ho, rfl⟩ := S.at h
  unfold callWith
  refine wpAny_bind (wpAny_holding (PySem.evalArgs_none (wpAny_bind (wpAny_standAt ?_))))
  refine wpAny_bind (m := keeperOf (.ref m)) ?_
  unfold keeperOf
  refine wpAny_bind (wpAny_load ho ?_)
  simp only [mwObj, show (Value.type "method-wrapper" != Value.type "method") = true by decide, show (Value.type "method-wrapper" == Value.type "builtin_function_or_method" || Value.type "method-wrapper" == Value.type "method-wrapper") = true by decide, if_true]
  refine wpAny_pure ?_
  exact wpAny_bind (wpAny_mono k (fun r s₂ hr => wpAny_bind (wpAny_holding (wpAny_point (wpAny_pure hr)))) fun _ _ x => x)
end
end Set
section Cyc
/-- a step of the way down: the node, its bound next, its iterator, how far that is -/
structure Fk where
  n : Nd
  m : Addr
  it : Addr
  c : Nat
noncomputable def fled : List Fk → List (Addr × O) → List (Addr × O)
  | [], r => r
  | k :: ks, r => (k.m, mwO k.it) :: (k.it, litO k.n.L k.c) :: fled ks r
theorem mem_fled {p : Addr × O} {r : List (Addr × O)} (h : p ∈ r) : ∀ ks : List Fk, p ∈ fled ks r
  | [] => h
  | _ :: ks => .tail _ (.tail _ (mem_fled h ks))
/-- what is left to see -/
noncomputable def un (sn : List Int) (ns : List Nd) : Nat := (ns.map fun n => if n.i ∈ sn then 0 else n.sc.length + 1).sum
noncomputable def rm (ks : List Fk) : Nat := (ks.map fun k => k.n.sc.length - k.c).sum
theorem un_same {sn : List Int} {i : Int} : ∀ {ns : List Nd}, i ∉ ids ns → un (i :: sn) ns = un sn ns
  | [], _ => rfl
  | n :: ns, h => by
    have h1 : n.i ≠ i := fun e => h (e ▸ .head _)
    have := un_same (sn := sn) (i := i) (ns := ns) fun e => h (.tail _ e)
    unfold un at this ⊢
    simp only [List.mem_cons] at this
    simp only [List.map_cons, List.sum_cons, List.mem_cons, h1, false_or, this]
theorem un_add {sn : List Int} {n : Nd} : ∀ {ns : List Nd}, n ∈ ns → (ids ns).Nodup → n.i ∉ sn → un (n.i :: sn) ns + (n.sc.length + 1) = un sn ns
  | m :: ns, hn, nd, hs => by
    have nd : m.i ∉ ids ns ∧ (ids ns).Nodup := List.nodup_cons.mp nd
    rcases List.mem_cons.mp hn with rfl | hn
    · have := un_same (sn := sn) nd.1
      unfold un at this ⊢
      simp only [List.mem_cons] at this
      simp only [List.map_cons, List.sum_cons, List.mem_cons, true_or, if_true, hs, if_false, this]
      omega
    · have hne : m.i ≠ n.i := fun e => nd.1 (show m.i ∈ ids ns from e ▸ List.mem_map_of_mem (f := (·.i)) hn)
      have := un_add hn nd.2 hs
      unfold un at this ⊢
      simp only [List.mem_cons] at this
      simp only [List.map_cons, List.sum_cons, List.mem_cons, hne, false_or]
      omega
noncomputable def Chn (r : Int → Int) : List Fk → Prop
  | [] => True
  | k :: ks => (∀ k' ∈ ks, r k'.n.i < r k.n.i) ∧ Chn r ks
structure Cok (r : Int → Int) (ns : List Nd) (ks : List Fk) (sn : List Int) (es : List (Int × V)) : Prop where
  ch : Chn r ks
  at_ : ∀ k ∈ ks, k.n ∈ ns ∧ k.c ≤ k.n.sc.length
  ky : es.map (·.1) = ks.reverse.map (·.n.i)
  len : ks.length ≤ sn.length
  sz : sn.length + un sn ns ≤ un [] ns
  sub : ∀ i ∈ es.map (·.1), i ∈ sn
noncomputable def cled (prog : Program) (w : World) (SK IS SE ND : Addr) (ks : List Fk) (sn : List Int) (es : List (Int × V)) (ep : Nat) (base : List (Addr × O)) : List (Addr × O) :=
  (SK, .list (vints (ks.reverse.map (·.n.i)))) :: (IS, .list (ks.reverse.map fun k => .ref k.m)) :: (SE, setO prog w sn) :: (ND, .dict es ep) :: fled ks base
section
variable {r : Int → Int} {ns : List Nd} {ks : List Fk} {k : Fk} {sn : List Int} {es : List (Int × V)} {p : Int}
theorem Cok.not_key (C : Cok r ns ks sn es) (h : ∀ k ∈ ks, r k.n.i < r p) : (atKey es p).isSome = false := by
  have hn : p ∉ es.map (·.1) := by
    rw [C.ky]
    intro hp
    obtain ⟨k, hk, rfl⟩ := List.mem_map.mp hp
    exact absurd (h k (by simpa using hk)) (Int.lt_irrefl _)
  unfold atKey
  cases q : es.find? fun kv => kv.1 = p with
  | none => rfl
  | some kv =>
    have h1 := List.find?_some q
    exact absurd (List.mem_map_of_mem (f := (·.1)) (List.mem_of_find?_eq_some q)) (by simp only [decide_eq_true_eq] at h1; rw [h1]; exact hn)
theorem Cok.push {n : Nd} {m it : Addr} {v : V} (C : Cok r ns ks sn es) (nd : (ids ns).Nodup) (hn : n ∈ ns) (hs : n.i ∉ sn) (h : ∀ k ∈ ks, r k.n.i < r n.i) : Cok r ns (⟨n, m, it, 0⟩ :: ks) (n.i :: sn) (es ++ [(n.i, v)]) := by
  have hu := un_add hn nd hs
  refine ⟨⟨h, C.ch⟩, fun k hk => ?_, ?_, ?_, ?_, fun i hi => ?_⟩
  · rcases List.mem_cons.mp hk with rfl | hk
    · exact ⟨hn, Nat.zero_le _⟩
    · exact C.at_ k hk
  · simp [C.ky]
  · have := C.len; simp; omega
  · have := C.sz; simp only [List.length_cons]; omega
  · rw [List.map_append] at hi
    rcases List.mem_append.mp hi with hi | hi
    · exact .tail _ (C.sub i hi)
    · simp at hi; subst hi; exact .head _
theorem Cok.step (C : Cok r ns (k :: ks) sn es) (h : k.c < k.n.sc.length) : Cok r ns ({ k with c := k.c + 1 } :: ks) sn es := by
  refine ⟨C.ch, fun k' hk => ?_, by rw [C.ky]; simp, C.len, C.sz, C.sub⟩
  rcases List.mem_cons.mp hk with rfl | hk
  · exact ⟨(C.at_ k (.head _)).1, h⟩
  · exact C.at_ k' (.tail _ hk)
theorem Cok.pop (C : Cok r ns (k :: ks) sn es) : Cok r ns ks sn (es.filter fun kv => decide (kv.1 ≠ k.n.i)) := by
  have hk : es.map (·.1) = ks.reverse.map (·.n.i) ++ [k.n.i] := by rw [C.ky]; simp
  have hf : (es.filter fun kv => decide (kv.1 ≠ k.n.i)).map (·.1) = (es.map (·.1)).filter fun i => decide (i ≠ k.n.i) := by
    rw [List.filter_map]; rfl
  refine ⟨C.ch.2, fun k' h => C.at_ k' (.tail _ h), ?_, by have := C.len; simp at this; omega, C.sz, fun i hi => C.sub i ?_⟩
  · rw [hf, hk, List.filter_append, List.filter_eq_self.mpr fun i hi => ?_]
    · simp
    · obtain ⟨k', hk', rfl⟩ := List.mem_map.mp hi
      have := C.ch.1 k' (by simpa using hk')
      exact decide_eq_true fun e => by rw [e] at this; exact absurd this (Int.lt_irrefl _)
  · rw [hf] at hi
    exact (List.mem_filter.mp hi).1
theorem Cok.has (C : Cok r ns (k :: ks) sn es) : (atKey es k.n.i).isSome = true := by
  have : k.n.i ∈ es.map (·.1) := by rw [C.ky]; simp
  obtain ⟨kv, h1, h2⟩ := List.mem_map.mp this
  unfold atKey
  rw [Option.isSome_map, List.find?_isSome]
  exact ⟨kv, h1, decide_eq_true h2⟩
theorem Cok.elen (C : Cok r ns ks sn es) : es.length = ks.length := by
  have := congrArg List.length C.ky
  simpa using this
end
section
variable {M : Model} {A : Around} {E : Value → Shared → Prop} {s : Shared} {env : Env}
theorem x_del {o i : Expr} {pos dpos : Pos} {Q : Flow → Shared → Prop} (h : wpAny M A (eval o env) (fun ov s₁ => wpAny M A (eval i env) (fun iv s₂ => wpAny M A (delItem ov iv) (fun _ => Q .next) E s₂) E s₁) E s) : wpAny M A (exec (.Delete [.Subscript o i pos] dpos) env) Q E s := by
  refine wpAny_Delete (wpAny_deleteEach_cons ?_)
  unfold delete
  refine wpAny_bind (wpAny_mono h (fun ov s₁ h₁ => ?_) fun _ _ x => x)
  refine wpAny_bind (wpAny_holding (wpAny_mono h₁ (fun iv s₂ h₂ => ?_) fun _ _ x => x))
  refine wpAny_bind (wpAny_standAt (wpAny_bind (wpAny_holding (wpAny_mono h₂ (fun _ s₃ h₃ => ?_) fun _ _ x => x))))
  exact wpAny_release (wpAny_deleteEach_nil h₃)
end
end Cyc
section Val
section
variable {M : Model} {prog : Program} {w : World} {A : Around} {E : Value → Shared → Prop} {b s : Shared} {fs : List Frm} {led led' : List (Addr × O)} {env : Env} {Q : Value → Shared → Prop}
noncomputable abbrev viewO (d : Addr) : O := .pred fun o => o = { cls := .type "dict_values", data := .fields #[.ref d] }
theorem di_values {d : Addr} {es : List (Int × V)} {n : Nat} (S : St b fs led s) (h : (d, .dict es n) ∈ led) (k : ∀ v s', St b fs ((v, viewO d) :: led) s' → Q (.ref v) s') : wpAny (model prog w) A (call (.builtin "dict.values") [.ref d]) Q E s := by
  obtain ⟨o, ho, hs⟩ := S.at h
  obtain ⟨ks, h1, h2⟩ := dict_at (prog := prog) (w := w) ho hs
  exact call_meetsIn PySem.F.slot_dict_values h2.dictOf.typeIs PySem.F.entry_dict_values (PySem.F.args_dict_values_1 _) (meets_dict_values (intKind prog w) d (S.notSys h)) ⟨⟨_, h2.dictOf⟩, k _ _ (S.push rfl)⟩
theorem it_values {v d : Addr} {es : List (Int × V)} {n : Nat} (S : St b fs led s) (hv : (v, viewO d) ∈ led) (h : (d, .dict es n) ∈ led) (k : ∀ it s', St b fs ((it, vitO d es.length n 0) :: led) s' → Q (.ref it) s') : wpAny (model prog w) A (pyIter (.ref v)) Q E s := by
  obtain ⟨o, ho, hs⟩ := S.at h
  obtain ⟨ks, h1, h2⟩ := dict_at (prog := prog) (w := w) ho hs
  obtain ⟨ov, hov, rfl⟩ := S.at hv
  exact wpAny_pyIter_values (knd := intKind prog w) ⟨_, hov, rfl, rfl⟩ h2 (k _ _ (S.push ⟨rfl, by rw [h1.len]; rfl⟩))
end
/-- what may be handed out -/
noncomputable def rdy (v : View) : List Int := (v.filter fun m => decide (m.2.1 = 0)).map (·.1)
theorem rdy_snoc (v : View) (m : Int × Int × List Int) : rdy (v ++ [m]) = if m.2.1 = 0 then rdy v ++ [m.1] else rdy v := by
  unfold rdy
  rw [List.filter_append]
  by_cases h : m.2.1 = 0 <;> simp [h]
theorem vals_ndict (ns : List Nd) : (ndict ns).map (·.2) = ns.map fun n => V.ref n.N := by simp [ndict, Function.comp]
end Val
section Sta
open PySem PySem.W PyProof.Rows PySem.Calls
section
variable {M : Model} {prog : Program} {w : World} {A : Around} {E : Value → Shared → Prop} {b s : Shared} {fs : List Frm} {led led' : List (Addr × O)} {env : Env} {K : Frag}
theorem star_l {a : Addr} {xs : List V} {Q : List Value → Shared → Prop} (S : St b fs led s) (h : (a, .list xs) ∈ led) (hz : xs.length ≤ 1000) (k : ∀ us s', Isl us xs → St b fs led s' → Q us s') : StarOf (model prog w) A E (.ref a) Q s := by
  obtain ⟨o, ho, us, n, rfl, hi⟩ := S.at h
  have hT' : s.TypeIs (.ref a) "list" := ⟨_, ho, rfl⟩
  have z : wpAny (model prog w) A (collect (.ref a)) Q E s := by
    refine wpAny_collect_seq a (.inl rfl) ho rfl rfl (fun h' hk => ?_) (by rw [List.size_toArray, hi.length, sizeLine_eq]; omega)
    exact k _ _ hi (S.grow (tk := s.toks) hk)
  unfold StarOf notIterableAtAll
  exact wpAny_bind (wpAny_specialOf hT' PySem.F.slot_list_iter.lookup (wpAny_pure ⟨rfl, z⟩))
noncomputable abbrev mthO (f x : Addr) : O := .pred fun o => o = methodObj (.ref f) (.ref x)
/-- what is asked of a method that is bound apart from its call -/
structure KBd (K : Frag) (C : Addr) (name : Str) (f : Addr) : Prop where
  hd : hasDictIn K C = true
  get : specialIn K (.ref f) "__get__" = some (some (.builtin "function.__get__"))
  takes : takesIn K (.ref f) = some false
  fn : fnIn K f = true
  copied : copiedNames.contains name = false
theorem at_bound {x C D f : Addr} {name : Str} {ns : List Str} {vs : List (Option V)} {e : Bool} {Q : Value → Shared → Prop} (S : St b fs led s) (X : K.In b.heap) (kc : KC K C) (kb : KBd K C name f) (ha : findIn K (.ref C) name = some (some (.ref f))) (hf : typeIn K (.ref f) = some (.type "function"))
    (h1 : (x, .inst C D) ∈ led) (h2 : (D, .idict ns vs) ∈ led) (hx : name ∉ ns) (k : ∀ q s', St b fs ((q, mthO f x) :: led) s' → Q (.ref q) s') : wpAny (model prog w) A (getAttr (.ref x) name e) Q E s := by
  obtain ⟨o, ho, ds, n, rfl, hN⟩ := S.at h2
  refine get_bind (X.keeps S.keep) (S.inst h1 ho) kc.ga (findObj_fn kb.hd ha kb.get kb.takes kb.copied (lookIn_not hN hx)) kc.gat ?_
  refine wpAny_call (fn_get (s := { s with toks := s.toks + 1 }) (X.keeps S.keep) hf ?_)
  show wpAny _ _ (handedOut _) _ _ _
  rw [handedOut_of rfl]
  exact wpAny_pure (k _ _ (S.push (tk := s.toks + 1) rfl))
theorem ev_smeth {o : Expr} {name : Str} {apos pos : Pos} {args : List Expr} {Q : Value → Shared → Prop}
    (h : wpAny M A (eval o env) (fun ov s₁ => wpAny M A (getAttr ov name true) (fun f s₂ => wpAny M A (callWith pos f [] (backTo pos (starEach args env)) []) Q E s₂) E s₁) E s)
    (he : eval (.Call (.Attribute o name apos) args [] pos) env = (do
      let ov ← eval o env
      standAt apos.atName
      let (f, first) ← holding [ov] (do pure (← getAttr ov name true, []))
      let p ← pure pos
      callWith p f first (backTo pos (starEach args env)) [])) : wpAny M A (eval (.Call (.Attribute o name apos) args [] pos) env) Q E s := by
  rw [he]
  refine wpAny_bind (wpAny_mono h (fun ov s₁ h₁ => wpAny_bind (wpAny_standAt (wpAny_bind (wpAny_holding (wpAny_bind (wpAny_mono h₁ (fun f s₂ h₂ => wpAny_pure ?_) fun _ _ x => x)))))) fun _ _ x => x)
  exact wpAny_bind (wpAny_pure h₂)
theorem cw_star {q f x : Addr} {e e2 : Expr} {p pos : Pos} {Q : Value → Shared → Prop} (X : K.In b.heap) (hf : fnIn K f = true)
    (h : wpAny (model prog w) A (eval e env) (fun v s₁ => wpAny (model prog w) A (eval e2 env) (fun l s₂ => StarOf (model prog w) A E l (fun us s₃ => (∃ fs led, St b fs led s₃ ∧ (q, mthO f x) ∈ led) ∧
      codeAny (model prog w) A (.call (.ref f) ⟨.ref x :: v :: us, []⟩) (Ret Q) s₃) s₂) E s₁) E s)
    (h1 : starEach [e, .Starred e2 p] env = (false, eval e env) :: starEach [.Starred e2 p] env) (h2 : (backTo pos (starEach [.Starred e2 p] env)).any (·.1) = true) :
    wpAny (model prog w) A (callWith pos (.ref q) [] (backTo pos (starEach [e, .Starred e2 p] env)) []) Q E s := by
  have z : wpAny (model prog w) A (spliced (backTo pos (starEach [e, .Starred e2 p] env))) (fun vs s₁ => MethP K q f (.ref x) s₁.heap ∧ wpAny (model prog w) A (call (.ref q) ([] ++ vs)) Q E s₁) E s := by
    refine sp_cons (wpAny_mono h (fun v s₁ h₁ => ?_) fun _ _ x => x) h1
    refine items_star (wpAny_mono h₁ (fun l s₂ h₂ => ?_) fun _ _ x => x)
    unfold StarOf at h₂ ⊢
    refine wpAny_mono h₂ (fun c s₃ h₃ => ⟨h₃.1, wpAny_mono h₃.2 (fun us s₄ h₄ => wpAny_pure ?_) fun _ _ x => x⟩) fun _ _ x => x
    rw [List.append_nil]
    obtain ⟨⟨fs, led, S, hm⟩, hc⟩ := h₄
    obtain ⟨o, ho, rfl⟩ := S.at hm
    exact ⟨⟨ho, X.keeps S.keep⟩, wpAny_call (method_call ho (codeAny_mono hc fun r s' z => by rcases r with e | (_ | _ | _ | v) <;> first | exact z | exact z.elim))⟩
  rw [h1] at z ⊢
  exact ks_call (by show (false || (backTo pos (starEach [.Starred e2 p] env)).any (·.1)) = true; rw [h2]; rfl) (keeps_M hf) (evalArgs_plain z)
theorem tr_chain {l r1 r2 : Expr} {o1 o2 : CmpOp} {pos : Pos} {whole : Sem Value} {Q : Bool → Shared → Prop}
    (h : wpAny M A (eval l env) (fun a s₁ => wpAny M A (eval r1 env) (fun v s₂ => wpAny M A (compareOp o1 a v) (fun c s₃ => wpAny M A (truthy c) (fun t s₄ => bif t then wpAny M A (eval r2 env) (fun d s₅ => wpAny M A (compareOp o2 v d) (fun c s₆ => wpAny M A (truthy c) Q E s₆) E s₅) E s₄ else Q false s₄) E s₃) E s₂) E s₁) E s)
    (hm : lastMarks [o1, o2] [r1, r2] = false := by with_unfolding_all rfl) : wpAny M A (isTrue (.Compare l [o1, o2] [r1, r2] pos) env whole) Q E s := by
  refine isTrue_chain (wpAny_mono h (fun a s₁ h₁ => test_link (wpAny_mono h₁ (fun v s₂ h₂ => wpAny_mono h₂ (fun c s₃ h₃ => wpAny_mono h₃ (fun t s₄ h₄ => ?_) fun _ _ x => x) fun _ _ x => x) fun _ _ x => x)) fun _ _ x => x) hm
  cases t with
  | false => exact h₄
  | true => exact test_last h₄
end
structure KOk' (K : Frag) : Prop where
  ok : KOk K
  add : KBd K 174 "add" 124
/-- who waits for whom, by two bounds -/
noncomputable def prs (t : Int × Int) : List Int := [t.1, t.2].filter fun x => decide (-1 < x) && decide (x < 8)
noncomputable def vAll (bs : List (Int × Int)) (n : Nat) : View := (List.range n).foldl (fun v (p : Nat) => vAdd (p : Int) (prs (bs.getD p (0, 0))) v) []
noncomputable def vun (v : View) : Nat := (v.map fun m => m.2.2.length + 1).sum
theorem un_view (ns : List Nd) : un [] ns = vun (view ns) := by
  unfold un vun view
  rw [List.map_map]
  congr 1
theorem vAll_succ (bs : List (Int × Int)) (n : Nat) : vAll bs (n + 1) = vAdd (n : Int) (prs (bs.getD n (0, 0))) (vAll bs n) := by
  simp [vAll, List.range_succ]
theorem mem_bled {t : Addr × Int × Int} {ts : List (Addr × Int × Int)} {rest : List (Addr × O)} (h : t ∈ ts) : (t.1, O.tuple [.int t.2.1, .int t.2.2]) ∈ bled ts rest :=
  List.mem_append_left _ (List.mem_map_of_mem (f := fun t : Addr × Int × Int => (t.1, O.tuple [.int t.2.1, .int t.2.2])) h)
theorem mem_nled' {x : Addr × O} {ns : List Nd} {rest : List (Addr × O)} (h : x ∈ rest) : x ∈ nled ns rest := by
  induction ns with
  | nil => exact h
  | cons n ns ih => exact .tail _ (.tail _ (.tail _ ih))
end Sta
section Cel
open PySem PySem.W PyProof.Rows PySem.Calls
section
variable {M : Model} {prog : Program} {w : World} {A : Around} {E : Value → Shared → Prop} {b s : Shared} {fs : List Frm} {led led' : List (Addr × O)} {env : Env} {K : Frag} {cs : List (Str × Addr)}
noncomputable abbrev celO (v : Option V) : O := .pred fun o => ∃ u, o.data = .cell u ∧ SlotsAre [u] [v]
theorem ld_cel {x : Str} {c : Addr} {v : V} {Q : Value → Shared → Prop} (S : St b fs led s) (C : Cv env cs) (hx : (x, c) ∈ cs) (hc : (c, celO (some v)) ∈ led) (k : v.All fun u => Q u s) : wpAny M A (loadName env x) Q E s := by
  obtain ⟨o, ho, u, hd, hu⟩ := S.at hc
  cases hu with
  | som iu _ =>
    obtain ⟨h1, h2, _, h4⟩ := C.cel _ hx
    rcases h2 with h2 | h2
    · exact wpAny_loadName_cell C.kind h2 h1 ⟨_, ho, hd⟩ (k.is iu)
    · exact wpAny_loadName_free C.kind h2 h1 ⟨_, ho, hd⟩ (k.is iu) h4
theorem ev_cel {x : Str} {pos : Pos} {c : Addr} {v : V} {Q : Value → Shared → Prop} (S : St b fs led s) (C : Cv env cs) (hx : (x, c) ∈ cs) (hc : (c, celO (some v)) ∈ led) (k : v.All fun u => Q u s) : wpAny M A (eval (.Name x pos) env) Q E s :=
  wpAny_Name (ld_cel S C hx hc k) (C.cel _ hx).2.2.1
/-- the names that a block keeps in cells of its own -/
structure Own (env : Env) (cs : List (Str × Addr)) : Prop where
  cv : Cv env cs
  own : ∀ p ∈ cs, env.kindOf p.1 = some .cell
theorem st_cel {x : Str} {c : Addr} {v : V} {v₀ : Option V} {u : Value} {Q : Unit → Shared → Prop} (S : St b fs led s) (C : Own env cs) (hx : (x, c) ∈ cs) (hu : Is u v) (hU : Upd led c (celO v₀) (celO (some v)) led') (k : ∀ s', St b fs led' s' → Q () s') :
    wpAny M A (storeName env x u) Q E s := by
  obtain ⟨o, ho, u₀, hd, _⟩ := S.at hU.mem
  refine wpAny_storeName_cell C.cv.kind (C.own _ hx) (C.cv.cel _ hx).1 ⟨_, ho, hd⟩ fun h' ⟨o', ho', hd'⟩ hs => ?_
  exact k _ (S.upd (tk := s.toks) hU hs.extBut ho' ⟨some u, hd', .som hu .nil⟩)

theorem bindL_of {kindOf : Str → Option NameKind} : ∀ {binds : List (Str × Value)} {m : Str → Option Value}, (∀ x ∈ binds, kindOf x.1 = some .local) → (binds.map (·.1)).Nodup →
    (∀ y v, (y, v) ∈ binds → bindL kindOf binds m y = some v) ∧ ∀ y, y ∉ binds.map (·.1) → bindL kindOf binds m y = m y
  | [], m, _, _ => ⟨nofun, fun _ _ => rfl⟩
  | (n, v) :: r, m, hl, nd => by
    simp only [List.map_cons, List.nodup_cons] at nd
    unfold bindL
    rw [if_pos (hl _ (.head _))]
    have ih := bindL_of (kindOf := kindOf) (binds := r) (m := fun y => if y = n then some v else m y) (fun x hx => hl x (.tail _ hx)) nd.2
    refine ⟨fun y u hy => ?_, fun y hy => ?_⟩
    · rcases List.mem_cons.mp hy with e | hy
      · cases e; rw [ih.2 _ nd.1, if_pos rfl]
      · exact ih.1 y u hy
    · rw [List.map_cons] at hy
      have hne : y ≠ n := fun q => hy (by rw [q]; exact .head _)
      rw [ih.2 y fun q => hy (.tail _ q), if_neg hne]
theorem bindC_of {kindOf : Str → Option NameKind} : ∀ {binds : List (Str × Value)} {m : Str → Option Value}, (∀ x ∈ binds, kindOf x.1 = some .local) → bindC kindOf binds m = m
  | [], m, _ => rfl
  | (n, v) :: r, m, hl => by
    unfold bindC
    rw [if_pos (hl _ (.head _)), bindC_of fun x hx => hl x (.tail _ hx)]

/-- a call of a function of the text that keeps names in cells -/
theorem code_cel {f : Addr} {st : Stmt} {dV kV : Value} {s1 : Stmt} {rest : List Stmt} {args : List Value} {pn rn gs cn : List Str} {cf : Addr → List (Str × Addr)} {xs : List V} {n : Nat} {Ls : List Addr} {Q : Value → Shared → Prop}
    (S : St b fs led s) (g : Gd b) (X : K.In b.heap) (hA : Ar A (n + 1) Ls) (hR : Frs A fs) (hF : FnAt K f st dV kV) (hB : fbody st = s1 :: rest) (hl : Loc (fsco st) (pn ++ rn) gs) (hx : Isl args xs)
    (hbind : ∀ qual doc pm an cdv ct, bindArgs (fnOf (fnm st) qual (fpar st) (fbody st) (fsco st) dV kV doc pm an cdv ct) ⟨args, []⟩ = pure (pn.zip args)) (hlen : pn.length = args.length)
    (h3 : ((fsco st).isCoroutine, (fsco st).isGenerator) = (false, false)) (hcf : ∀ N, cellsFrom N (fsco st).names [] = cf N) (hcn : ∀ N, (cf N).map (·.1) = cn) (hnd : cn.Nodup)
    (hck : (cn.all fun x => decide ((fsco st).names.lookup x = some .cell) && !(x == ("__debug__" : Str)) && !(x == ("__classdict__" : Str))) = true)
    (h : ∀ env A' L' s', Ev env L' (pn ++ rn) gs → Own env (cf (L' + 1)) → Ar A' n (L' :: Ls) → (∀ vs, Hd A' env L' (⟨L', pn ++ rn, vs⟩ :: fs)) → St b (⟨L', pn ++ rn, xs.map some ++ rn.map fun _ => none⟩ :: fs) ((cf (L' + 1)).map (fun p => (p.2, celO none)) ++ led) s' →
      wpAny (model prog w) A' (execs (s1 :: rest) env) (fun fl s'' => Q (retv fl) s'') (fun _ _ => False) s') :
    codeAny (model prog w) A (.call (.ref f) ⟨args, []⟩) (Ret Q) s := by
  obtain ⟨qual, doc, pm, an, cdv, ct, oc, od, osl, ho, hc⟩ := hF
  simp only [Prod.mk.injEq] at h3
  have X' : K.In s.heap := X.keeps S.keep
  have ndp : pn.Nodup := (List.nodup_append.mp hl.nd).1
  have zk := zip_keys hlen
  have hloc : ∀ y ∈ pn.zip args, (fsco st).names.lookup y.1 = some .local := fun y hy => hl.loc _ (List.mem_append_left _ (by rw [← zk]; exact List.mem_map_of_mem hy))
  refine codeAny_call_cells (fd := fnOf (fnm st) qual (fpar st) (fbody st) (fsco st) dV kV doc pm an cdv ct) (body := fbody st) (binds := pn.zip args) hA.room (X' _ _ ho) rfl (g.lim.keeps S.keep) (codeRec_of X' hc) rfl (hbind ..) rfl
    (fun x hx => .inl (hloc x hx)) (fun s₁ x => ?_) h3.1 h3.2 hl.kind
  have hkl : ∀ y ∈ pn.zip args, (callEnvC (fnOf (fnm st) qual (fpar st) (fbody st) (fsco st) dV kV doc pm an cdv ct) s.heap.objs.size f).kindOf y.1 = some .local := hloc
  have bl := bindL_of (m := fun _ => none) hkl (by rw [zk]; exact ndp)
  rw [bindC_of hkl] at x
  have hcs : (callEnvC (fnOf (fnm st) qual (fpar st) (fbody st) (fsco st) dV kV doc pm an cdv ct) s.heap.objs.size f).cells = cf (s.heap.objs.size + 1) := hcf _
  have hat : ∀ p ∈ cf (s.heap.objs.size + 1), (cf (s.heap.objs.size + 1)).lookup p.1 = some p.2 := fun p hp => cell_at hp (by rw [hcn]; exact hnd)
  obtain ⟨h', tk, rfl⟩ := x.toInCall.same
  have hns : h'.Ns s.heap.objs.size _ := x.toInCall.ns
  have S1 := S.enter (ns := pn ++ rn) (vs := xs.map some ++ rn.map fun _ => none) (tk := tk) x.toInCall.keep (Nat.le_refl _) hns (vars_zip hx hlen bl.1)
  have hcell : ∀ p ∈ cf (s.heap.objs.size + 1), h'.IsCell p.2 none ∧ s.heap.objs.size < p.2 := fun p hp => ⟨x.cell p.1 p.2 (by rw [hcs]; exact hat p hp), x.above p.1 p.2 (by rw [hcs]; exact hp)⟩
  have hap : (cf (s.heap.objs.size + 1)).Pairwise fun x y => x.2 ≠ y.2 := by have := x.apart; rw [hcs] at this; exact this
  have S2 : St b (⟨s.heap.objs.size, pn ++ rn, xs.map some ++ rn.map fun _ => none⟩ :: fs) ((cf (s.heap.objs.size + 1)).map (fun p => (p.2, celO none)) ++ led) { s with heap := h', toks := tk } := by
    have hnew : ∀ p ∈ cf (s.heap.objs.size + 1), s.heap.get? p.2 = none := fun p hp => ge_none (Nat.le_of_lt (hcell p hp).2)
    refine ⟨S1.keep, S1.fr, fun p hp => ?_, ?_, fun a ha => ?_, S1.top, S1.gens, S1.os⟩
    · rcases List.mem_append.mp hp with hp | hp
      · obtain ⟨q, hq, rfl⟩ := List.mem_map.mp hp
        obtain ⟨o, ho, hd⟩ := (hcell q hq).1
        exact ⟨o, ho, none, hd, .non .nil⟩
      · exact S1.lg p hp
    · have nd := List.nodup_append.mp S1.nd
      have e : ((cf (s.heap.objs.size + 1)).map fun p => (p.2, celO none)).map (·.1) = (cf (s.heap.objs.size + 1)).map (·.2) := by rw [List.map_map]; rfl
      rw [List.map_append, e]
      refine List.nodup_append.mpr ⟨nd.1, List.nodup_append.mpr ⟨List.pairwise_map.mpr hap, nd.2.1, fun a ha c hc e => ?_⟩, fun a ha c hc e => ?_⟩
      · obtain ⟨p, hp, rfl⟩ := List.mem_map.mp ha
        have := S.fresh (hnew p hp)
        exact this (List.mem_append_right _ (e ▸ hc))
      · rcases List.mem_append.mp hc with hc | hc
        · obtain ⟨p, hp, rfl⟩ := List.mem_map.mp hc
          rcases List.mem_cons.mp ha with ha | ha
          · have := (hcell p hp).2
            exact absurd (e.symm.trans ha) (Nat.ne_of_gt this)
          · exact S.fresh (hnew p hp) (List.mem_append_left _ (e ▸ ha))
        · exact nd.2.2 a ha c hc e
    · rcases List.mem_append.mp ha with ha | ha
      · exact S1.new a (List.mem_append_left _ ha)
      · rw [List.map_append] at ha
        rcases List.mem_append.mp ha with ha | ha
        · rw [List.map_map] at ha
          obtain ⟨p, hp, rfl⟩ := List.mem_map.mp ha
          exact S.isNew (Nat.le_of_lt (hcell p hp).2)
        · exact S1.new a (List.mem_append_right _ ha)
  have hOwn : Own (callEnvC (fnOf (fnm st) qual (fpar st) (fbody st) (fsco st) dV kV doc pm an cdv ct) s.heap.objs.size f) (cf (s.heap.objs.size + 1)) := by
    have hc' : ∀ p ∈ cf (s.heap.objs.size + 1), (fsco st).names.lookup p.1 = some .cell ∧ (p.1 == ("__debug__" : Str)) = false ∧ (p.1 == ("__classdict__" : Str)) = false := fun p hp => by
      have := List.all_eq_true.mp hck p.1 (by rw [← hcn (s.heap.objs.size + 1)]; exact List.mem_map_of_mem (f := (·.1)) hp)
      simp only [Bool.and_eq_true, decide_eq_true_eq, Bool.not_eq_true'] at this
      exact ⟨this.1.1, this.1.2, this.2⟩
    exact ⟨⟨hl.kind, fun p hp => ⟨by rw [hcs]; exact hat p hp, .inl (hc' p hp).1, (hc' p hp).2.1, (hc' p hp).2.2⟩⟩, fun p hp => (hc' p hp).1⟩
  rw [hB]
  refine wpAny_mono (h _ _ s.heap.objs.size _ ⟨hl, rfl, rfl, rfl⟩ hOwn (hA.deeper hl.kind rfl) (fun vs => hR.step (f := ⟨s.heap.objs.size, pn ++ rn, vs⟩) hl.kind rfl) S2) (fun fl s' hq => ?_) fun _ _ x => x.elim
  cases fl <;> exact hq
end
end Cel
section Num
section
variable {M : Model} {prog : Program} {w : World} {A : Around} {E : Value → Shared → Prop} {b s : Shared} {fs : List Frm} {led led' : List (Addr × O)} {env : Env} {x y : Int} {t u : Tok} {Q : Value → Shared → Prop}
theorem o_fdiv (S : St b fs led s) (hy : y ≠ 0) (hp : Builtin.divisionGoesByPylong x y = false) (k : ∀ t s', St b fs led s' → Q (.int (Int.fdiv x y) t) s') : wpAny (model prog w) A (binaryOp .FloorDiv (.int x t) (.int y u)) Q E s := floordiv_int hy (k _ _ S.tok) (.inl hp)
end
/-- the figures of a number of eight -/
noncomputable def n64 (g : Nat → Int) (n : Nat) : Int := (List.range n).foldl (fun z m => 64 * z + g m) 0
theorem n64_succ (g : Nat → Int) (n : Nat) : n64 g (n + 1) = 64 * n64 g n + g n := by simp [n64, List.range_succ]
theorem n64_in {g : Nat → Int} (hg : ∀ m, m < 8 → 0 ≤ g m ∧ g m < 64) : ∀ {n : Nat}, n ≤ 8 → 0 ≤ n64 g n ∧ n64 g n < 64 ^ n
  | 0, _ => by simp [n64]
  | n + 1, h => by
    have ih := n64_in hg (n := n) (by omega)
    have hn := hg n (by omega)
    rw [n64_succ, Int.pow_succ]
    omega
theorem n64_div {g : Nat → Int} (hg : ∀ m, m < 8 → 0 ≤ g m ∧ g m < 64) : ∀ {d n : Nat}, n + d ≤ 8 → n64 g (n + d) / 64 ^ d = n64 g n
  | 0, n, _ => by simp
  | d + 1, n, h => by
    have ih := n64_div hg (d := d) (n := n) (by omega)
    have hn := hg (n + d) (by omega)
    rw [show n + (d + 1) = (n + d) + 1 by omega, n64_succ, show (64 : Int) ^ (d + 1) = 64 * 64 ^ d by rw [Int.pow_succ, Int.mul_comm], ← Int.ediv_ediv_of_nonneg (by decide)]
    rw [show (64 * n64 g (n + d) + g (n + d)) / 64 = n64 g (n + d) by omega, ih]
theorem fig_n64 {g : Nat → Int} (hg : ∀ m, m < 8 → 0 ≤ g m ∧ g m < 64) {m : Nat} (hm : m < 8) : fig (n64 g 8) m = g m := by
  unfold fig
  have e := n64_div hg (d := 7 - m) (n := m + 1) (by omega)
  rw [show m + 1 + (7 - m) = 8 by omega] at e
  have hb := hg m hm
  rw [e, n64_succ]
  omega
theorem tw_congr {α} {p q : α → Bool} : ∀ {l : List α}, (∀ x ∈ l, p x = q x) → l.takeWhile p = l.takeWhile q
  | [], _ => rfl
  | a :: l, h => by
    have h1 := h a (.head _)
    have ih := tw_congr (l := l) fun x hx => h x (.tail _ hx)
    rw [List.takeWhile_cons, List.takeWhile_cons, h1, ih]
theorem skp'_congr {f g : Nat → Int} {l : List Nat} {a : Int} {p : Nat} (h : ∀ x ∈ l, f x = g x) : skp' f l a p = skp' g l a p := by
  unfold skp'
  rw [tw_congr fun x hx => by rw [h x (List.mem_of_mem_drop hx)]]
theorem bnds_congr {f g : Nat → Int} (h : ∀ m, m < 8 → f m = g m) : bnds f = bnds g := by
  unfold bnds
  refine List.map_congr_left fun p hp => ?_
  have hp := List.mem_range.mp hp
  have h1 : ∀ x ∈ List.range 8, f x = g x := fun x hx => h x (List.mem_range.mp hx)
  have h2 : ∀ x ∈ (List.range 8).reverse, f x = g x := fun x hx => h1 x (by simpa using hx)
  unfold ahd beh
  rw [h p hp, skp'_congr h1, skp'_congr h2]
/-- the octets of a number -/
noncomputable def octs (N : Int) (n : Nat) : List Int := (List.range n).map fun i => Int.fmod (Int.fdiv N (256 ^ (5 - i))) 256
theorem octs_eq (N : Int) (n : Nat) : octs N n = (List.range n).map fun i => N / 256 ^ (5 - i) % 256 := by
  refine List.map_congr_left fun i _ => ?_
  rw [Int.fdiv_eq_ediv_of_nonneg _ (Int.le_of_lt (Int.pow_pos (by decide))), Int.fmod_eq_emod_of_nonneg _ (by decide)]
theorem octs_len (N : Int) (n : Nat) : (octs N n).length = n := by simp [octs]
theorem octs_in {N : Int} {n : Nat} : ∀ k ∈ octs N n, 0 ≤ k ∧ k < 256 := by
  intro k hk
  rw [octs_eq] at hk
  obtain ⟨i, _, rfl⟩ := List.mem_map.mp hk
  exact ⟨Int.emod_nonneg _ (by decide), Int.emod_lt_of_pos _ (by decide)⟩
theorem octs_snoc (N : Int) (n : Nat) : octs N (n + 1) = octs N n ++ [Int.fmod (Int.fdiv N (256 ^ (5 - n))) 256] := by simp [octs, List.range_succ]
theorem num_octs_go {N : Int} (h0 : 0 ≤ N) (h1 : N < 256 ^ 6) : ∀ {n : Nat}, n ≤ 6 → num (octs N n) = N / 256 ^ (6 - n)
  | 0, _ => by rw [Int.ediv_eq_zero_of_lt h0 h1]; rfl
  | n + 1, h => by
    have ih := num_octs_go h0 h1 (n := n) (by omega)
    rw [octs_snoc, num_snoc, ih, Int.fdiv_eq_ediv_of_nonneg _ (Int.le_of_lt (Int.pow_pos (by decide))), Int.fmod_eq_emod_of_nonneg _ (by decide), show 6 - n = (5 - n) + 1 by omega, show 6 - (n + 1) = 5 - n by omega,
      Int.pow_succ, ← Int.ediv_ediv_of_nonneg (Int.le_of_lt (Int.pow_pos (by decide)))]
    omega
theorem num_octs {N : Int} (h0 : 0 ≤ N) (h1 : N < 256 ^ 6) : num (octs N 6) = N := by
  have := num_octs_go h0 h1 (n := 6) (Nat.le_refl _)
  simpa using this
theorem noPy {N : Int} {i : Nat} (hi : i < 6) : Builtin.divisionGoesByPylong N (256 ^ (5 - i)) = false := by
  rcases (by omega : i = 0 ∨ i = 1 ∨ i = 2 ∨ i = 3 ∨ i = 4 ∨ i = 5) with rfl | rfl | rfl | rfl | rfl | rfl <;> exact PyProof.noPylong_of_log2 (by decide +kernel)
/-- the figures that an order is written with -/
noncomputable def gfig (os : List Int) (low : Int) (m : Nat) : Int := 8 * (os.idxOf (m : Int) : Int) + Int.fmod (low + (os.idxOf (m : Int) : Int)) 8
theorem gfig_in {os : List Int} {low : Int} {m : Nat} (h : os.length = 8) (hm : (m : Int) ∈ os) : 0 ≤ gfig os low m ∧ gfig os low m < 64 := by
  have h1 := List.idxOf_lt_length_of_mem hm
  unfold gfig
  rw [Int.fmod_eq_emod_of_nonneg _ (by decide)]
  omega
end Num
section Dst
/-- what a successor hears -/
noncomputable def vNpOf (i : Int) (v : View) : Int := ((v.find? fun m => m.1 = i).map (·.2.1)).getD 0
noncomputable def dStep (z : View × List Int) (j : Int) : View × List Int := (vMap j (fun p => (p.1 - 1, p.2)) z.1, if vNpOf j z.1 - 1 = 0 then z.2 ++ [j] else z.2)
end Dst
section Srt
/-- a view told by functions -/
noncomputable def mkV (K : List Int) (f : Int → Int) (g : Int → List Int) : View := K.map fun i => (i, f i, g i)
noncomputable def upd {α} (f : Int → α) (i : Int) (x : α) : Int → α := fun j => if j = i then x else f j
theorem mkV_keys (K f g) : (mkV K f g).map (·.1) = K := by
  unfold mkV
  rw [List.map_map]
  exact List.map_id _
theorem mkV_congr {K f g f' g'} (h : ∀ i ∈ K, f i = f' i ∧ g i = g' i) : mkV K f g = mkV K f' g' :=
  List.map_congr_left fun i hi => by rw [(h i hi).1, (h i hi).2]
theorem mkV_np (K f g) (i x : Int) : vNp i x (mkV K f g) = mkV K (upd f i x) g := by
  simp only [vNp, mkV, List.map_map]
  refine List.map_congr_left fun j _ => ?_
  simp only [Function.comp, upd]
  split <;> rfl
theorem mkV_map (K f g) (i : Int) (F : Int × List Int → Int × List Int) : vMap i F (mkV K f g) = mkV K (upd f i (F (f i, g i)).1) (upd g i (F (f i, g i)).2) := by
  simp only [vMap, mkV, List.map_map]
  refine List.map_congr_left fun j _ => ?_
  simp only [Function.comp, upd]
  by_cases e : j = i
  · subst e; simp
  · simp [e]
theorem mkV_npOf {K f g} {i : Int} (h : i ∈ K) : vNpOf i (mkV K f g) = f i := by
  induction K with
  | nil => cases h
  | cons j K ih =>
    unfold vNpOf mkV at ih ⊢
    rw [List.map_cons]
    by_cases e : j = i
    · subst e; rw [List.find?_cons_of_pos (by simp)]; rfl
    · rw [List.find?_cons_of_neg (by simpa using e)]
      rcases List.mem_cons.mp h with e' | h
      · exact absurd e'.symm e
      · exact ih h
theorem upd_same {α} (f : Int → α) (i : Int) : upd f i (f i) = f := by
  funext j; unfold upd; split
  · rename_i e; rw [e]
  · rfl
theorem mkV_step {K f g rd} {j : Int} (h : j ∈ K) : dStep (mkV K f g, rd) j = (mkV K (upd f j (f j - 1)) g, if f j - 1 = 0 then rd ++ [j] else rd) := by
  unfold dStep
  simp only
  rw [mkV_map, mkV_npOf h]
  simp only [upd_same]
theorem mkV_steps {K g} : ∀ {sc : List Int} {f : Int → Int} {rd : List Int}, sc.Nodup → (∀ j ∈ sc, j ∈ K) →
    sc.foldl dStep (mkV K f g, rd) = (mkV K (fun j => if j ∈ sc then f j - 1 else f j) g, rd ++ sc.filter fun j => decide (f j = 1))
  | [], f, rd, _, _ => by simp
  | j :: sc, f, rd, nd, hk => by
    have nd := List.nodup_cons.mp nd
    rw [List.foldl_cons, mkV_step (hk j (.head _)), mkV_steps nd.2 fun x hx => hk x (.tail _ hx)]
    congr 1
    · refine mkV_congr fun i _ => ⟨?_, rfl⟩
      unfold upd
      by_cases e : i = j
      · subst e; simp [nd.1]
      · simp [e]
    · have hf : sc.filter (fun i => decide (upd f j (f j - 1) i = 1)) = sc.filter fun i => decide (f i = 1) := by
        refine List.filter_congr fun i hi => ?_
        unfold upd
        have hne : i ≠ j := fun e => nd.1 (by rw [← e]; exact hi)
        rw [if_neg hne]
      rw [hf, List.filter_cons]
      by_cases h1 : f j = 1
      · rw [if_pos (by omega), if_pos (by simpa using h1), List.append_assoc]; rfl
      · rw [if_neg (by omega), if_neg (by simpa using h1)]
theorem mkV_outs {K g} : ∀ {rd : List Int} {f : Int → Int}, rd.foldl (fun v i => vNp i (-1) v) (mkV K f g) = mkV K (fun j => if j ∈ rd then -1 else f j) g
  | [], f => by simp
  | i :: rd, f => by
    rw [List.foldl_cons, mkV_np, mkV_outs]
    refine mkV_congr fun j _ => ⟨?_, rfl⟩
    unfold upd
    by_cases e : j = i <;> simp [e]
theorem mkV_rdy (K f g) : rdy (mkV K f g) = K.filter fun i => decide (f i = 0) := by
  simp only [rdy, mkV, List.filter_map, List.map_map]
  have : ((fun m : Int × Int × List Int => decide (m.2.1 = 0)) ∘ fun i => (i, f i, g i)) = fun i => decide (f i = 0) := rfl
  rw [this]
  exact List.map_id _

/-- what is told of a sorter between its steps -/
structure Sok (P : Int → List Int) (K : List Int) (f : Int → Int) (g : Int → List Int) (dn out : List Int) : Prop where
  nd : K.Nodup
  ky : ∀ i, i ∈ K ↔ 0 ≤ i ∧ i < 8
  gn : ∀ i, (g i).Nodup
  gm : ∀ i j, j ∈ g i ↔ j ∈ K ∧ i ∈ P j
  pn : ∀ j, (P j).Nodup
  pk : ∀ j ∈ K, ∀ p ∈ P j, p ∈ K
  np : ∀ j ∈ K, f j = if j ∈ dn then -2 else if j ∈ out then -1 else (((P j).filter fun p => decide (p ∉ dn)).length : Int)
  on : out.Nodup
  om : ∀ j, j ∈ out ↔ j ∈ K ∧ j ∉ dn ∧ ∀ p ∈ P j, p ∈ dn
  cl : ∀ j ∈ dn, ∀ p ∈ P j, p ∈ dn
  dk : ∀ j ∈ dn, j ∈ K
theorem cnt_del {l dn dn' : List Int} {i : Int} (nd : l.Nodup) (hi : i ∈ l) (h : i ∉ dn) (hd : ∀ x, x ∈ dn' ↔ x = i ∨ x ∈ dn) : (l.filter fun p => decide (p ∉ dn)).length = (l.filter fun p => decide (p ∉ dn')).length + 1 := by
  induction l with
  | nil => cases hi
  | cons a l ih =>
    have nd := List.nodup_cons.mp nd
    by_cases e : a = i
    · subst e
      have : l.filter (fun p => decide (p ∉ dn)) = l.filter fun p => decide (p ∉ dn') := by
        refine List.filter_congr fun x hx => ?_
        have hxa : x ≠ a := fun e => nd.1 (e ▸ hx)
        simp [hd, hxa]
      rw [List.filter_cons, List.filter_cons, if_pos (by simpa using h), if_neg (by simp [hd]), this]
      rfl
    · have ih := ih nd.2 ((List.mem_cons.mp hi).resolve_left fun q => e q.symm)
      rw [List.filter_cons, List.filter_cons]
      by_cases hd1 : a ∈ dn
      · rw [if_neg (by simpa using hd1), if_neg (by simp [hd, hd1])]; exact ih
      · rw [if_pos (by simpa using hd1), if_pos (by simp [hd, hd1, e]), List.length_cons, List.length_cons, ih]
theorem cnt_same {l dn dn' : List Int} {i : Int} (hi : i ∉ l) (hd : ∀ x, x ∈ dn' ↔ x = i ∨ x ∈ dn) : l.filter (fun p => decide (p ∉ dn)) = l.filter fun p => decide (p ∉ dn') :=
  List.filter_congr fun x hx => by
    have hxa : x ≠ i := fun e => hi (e ▸ hx)
    simp [hd, hxa]
theorem cnt_zero {l dn : List Int} : (l.filter fun p => decide (p ∉ dn)).length = 0 ↔ ∀ p ∈ l, p ∈ dn := by
  rw [List.length_eq_zero_iff, List.filter_eq_nil_iff]
  simp
section
variable {P : Int → List Int} {K : List Int} {f : Int → Int} {g : Int → List Int} {dn out dn' out1 : List Int} {i : Int}
theorem Sok.fresh (S : Sok P K f g dn out) (hi : i ∈ out) {j : Int} (hj : j ∈ g i) : j ∈ K ∧ j ∉ dn ∧ j ∉ out ∧ j ≠ i ∧ i ∈ P j := by
  obtain ⟨hK, hp⟩ := (S.gm i j).mp hj
  have ho := (S.om i).mp hi
  refine ⟨hK, fun q => ho.2.1 (S.cl j q i hp), fun q => ho.2.1 (((S.om j).mp q).2.2 i hp), fun e => ?_, hp⟩
  subst e
  exact ho.2.1 (ho.2.2 j hp)
/-- what is handed out behind a step -/
noncomputable def nextR (P : Int → List Int) (f : Int → Int) (g : Int → List Int) (i : Int) : List Int := (g i).filter fun j => decide (upd f i (-2) j = 1)
noncomputable def nextF (f : Int → Int) (g : Int → List Int) (i : Int) : Int → Int := fun j => if j ∈ g i then upd f i (-2) j - 1 else upd f i (-2) j
theorem Sok.step (S : Sok P K f g dn out) (hi : i ∈ out) (hd : ∀ x, x ∈ dn' ↔ x = i ∨ x ∈ dn) (h1 : out1.Nodup) (h2 : ∀ x, x ∈ out1 ↔ x ∈ out ∧ x ≠ i) :
    Sok P K (fun j => if j ∈ nextR P f g i then -1 else nextF f g i j) g dn' (out1 ++ nextR P f g i) := by
  have ho := (S.om i).mp hi
  have hr : ∀ j, j ∈ nextR P f g i ↔ j ∈ g i ∧ ∀ p ∈ P j, p ∈ dn' := fun j => by
    unfold nextR
    rw [List.mem_filter, decide_eq_true_eq]
    refine and_congr_right fun hj => ?_
    obtain ⟨hK, hnd, hno, hne, hp⟩ := S.fresh hi hj
    unfold upd
    rw [if_neg hne, S.np j hK, if_neg hnd, if_neg hno, cnt_del (S.pn j) hp ho.2.1 hd, ← cnt_zero]
    omega
  refine ⟨S.nd, S.ky, S.gn, S.gm, S.pn, S.pk, fun j hK => ?_, ?_, fun j => ?_, fun j hj p hp => ?_, fun j hj => ?_⟩
  · by_cases hjg : j ∈ g i
    · obtain ⟨_, hnd, hno, hne, hp⟩ := S.fresh hi hjg
      have hnd' : j ∉ dn' := fun q => ((hd j).mp q).elim hne hnd
      have hno1 : j ∉ out1 := fun q => hno ((h2 j).mp q).1
      rw [if_neg hnd']
      by_cases hjr : j ∈ nextR P f g i
      · rw [if_pos hjr, if_pos (List.mem_append_right _ hjr)]
      · rw [if_neg hjr, if_neg (fun q => (List.mem_append.mp q).elim hno1 hjr)]
        unfold nextF upd
        rw [if_pos hjg, if_neg hne, S.np j hK, if_neg hnd, if_neg hno, cnt_del (S.pn j) hp ho.2.1 hd]
        omega
    · have hjr : j ∉ nextR P f g i := fun q => hjg ((hr j).mp q).1
      have hpn : i ∉ P j := fun q => hjg ((S.gm i j).mpr ⟨hK, q⟩)
      rw [if_neg hjr]
      unfold nextF upd
      rw [if_neg hjg]
      by_cases e : j = i
      · subst e
        rw [if_pos rfl, if_pos ((hd j).mpr (.inl rfl))]
      · rw [if_neg e, S.np j hK]
        by_cases hjd : j ∈ dn
        · rw [if_pos hjd, if_pos ((hd j).mpr (.inr hjd))]
        · have hjd' : j ∉ dn' := fun q => ((hd j).mp q).elim e hjd
          rw [if_neg hjd, if_neg hjd']
          by_cases hjo : j ∈ out
          · rw [if_pos hjo, if_pos (List.mem_append_left _ ((h2 j).mpr ⟨hjo, e⟩))]
          · rw [if_neg hjo, if_neg (fun q => (List.mem_append.mp q).elim (fun q => hjo ((h2 j).mp q).1) hjr), cnt_same hpn hd]
  · refine List.nodup_append.mpr ⟨h1, (S.gn i).filter _, fun x hx y hy e => ?_⟩
    subst e
    exact (S.fresh hi ((hr x).mp hy).1).2.2.1 ((h2 x).mp hx).1
  · rw [List.mem_append, h2, hr, S.om, S.gm]
    constructor
    · rintro (⟨⟨hK, hnd, hp⟩, hne⟩ | ⟨⟨hK, hp⟩, hpd⟩)
      · exact ⟨hK, fun q => ((hd j).mp q).elim hne hnd, fun p hq => (hd p).mpr (.inr (hp p hq))⟩
      · have := S.fresh hi ((S.gm i j).mpr ⟨hK, hp⟩)
        exact ⟨hK, fun q => ((hd j).mp q).elim this.2.2.2.1 this.2.1, hpd⟩
    · rintro ⟨hK, hnd, hp⟩
      have hne : j ≠ i := fun e => hnd ((hd j).mpr (.inl e))
      have hnd0 : j ∉ dn := fun q => hnd ((hd j).mpr (.inr q))
      by_cases hpi : i ∈ P j
      · exact .inr ⟨⟨hK, hpi⟩, hp⟩
      · exact .inl ⟨⟨hK, hnd0, fun p hq => ((hd p).mp (hp p hq)).resolve_left fun e => hpi (e ▸ hq)⟩, hne⟩
  · rcases (hd j).mp hj with rfl | hj
    · exact (hd p).mpr (.inr (ho.2.2 p hp))
    · exact (hd p).mpr (.inr (S.cl j hj p hp))
  · rcases (hd j).mp hj with rfl | hj
    · exact ho.1
    · exact S.dk j hj
end
end Srt
section Ini
theorem nodup_len : ∀ (n : Nat) {l : List Int}, l.Nodup → (∀ x ∈ l, 0 ≤ x ∧ x < n) → l.length ≤ n
  | 0, l, _, h => by
    cases l with
    | nil => exact Nat.le_refl 0
    | cons a l => have := h a (.head _); omega
  | n + 1, l, nd, h => by
    have h1 : (l.filter fun x => decide (x ≠ (n : Int))).length ≤ n := nodup_len n (nd.filter _) fun x hx => by
      have h2 := List.mem_filter.mp hx
      have := h x h2.1
      have := of_decide_eq_true h2.2
      omega
    have h3 : ∀ l : List Int, l.Nodup → l.length ≤ (l.filter fun x => decide (x ≠ (n : Int))).length + 1 := by
      intro l
      induction l with
      | nil => intro _; simp
      | cons a l ih =>
        intro nd
        have nd := List.nodup_cons.mp nd
        rw [List.filter_cons]
        by_cases e : a = (n : Int)
        · rw [if_neg (by simp [e])]
          have : l.filter (fun x => decide (x ≠ (n : Int))) = l := List.filter_eq_self.mpr fun x hx => decide_eq_true fun q => nd.1 (by rw [e, ← q]; exact hx)
          rw [this, List.length_cons]
          omega
        · rw [if_pos (by simpa using e), List.length_cons, List.length_cons]
          have := ih nd.2
          omega
    have := h3 l nd
    omega
noncomputable def ins (i : Int) (K : List Int) : List Int := if i ∈ K then K else K ++ [i]
theorem mem_ins {i x : Int} {K : List Int} : x ∈ ins i K ↔ x ∈ K ∨ x = i := by
  unfold ins
  split
  · rename_i h
    exact ⟨.inl, fun q => q.elim id fun e => e ▸ h⟩
  · simp
theorem nodup_ins {i : Int} {K : List Int} (h : K.Nodup) : (ins i K).Nodup := by
  unfold ins
  split
  · exact h
  · rename_i hi
    exact List.nodup_append.mpr ⟨h, by simp, fun x hx y hy e => by rw [List.mem_singleton.mp hy] at e; exact hi (e ▸ hx)⟩
theorem vGet_mk {K f g} {i : Int} (h : i ∉ K → f i = 0 ∧ g i = []) : vGet i (mkV K f g) = mkV (ins i K) f g := by
  unfold vGet ins
  rw [mkV_keys]
  by_cases hi : i ∈ K
  · rw [if_pos hi, if_pos hi]
  · rw [if_neg hi, if_neg hi]
    obtain ⟨h1, h2⟩ := h hi
    simp [mkV, h1, h2]
theorem fold_mk {i : Int} : ∀ {ps : List Int} {K : List Int} {f : Int → Int} {g : Int → List Int}, ps.Nodup → (∀ p, p ∉ K → f p = 0 ∧ g p = []) →
    ps.foldl (fun v p => vMap p (fun q => (q.1, q.2 ++ [i])) (vGet p v)) (mkV K f g) = mkV (ps.foldl (fun K p => ins p K) K) f (fun p => if p ∈ ps then g p ++ [i] else g p)
  | [], K, f, g, _, _ => by simp
  | p :: ps, K, f, g, nd, h => by
    have nd := List.nodup_cons.mp nd
    rw [List.foldl_cons, vGet_mk (h p), mkV_map]
    simp only [upd_same]
    rw [fold_mk nd.2 fun x hx => ?_]
    · refine mkV_congr fun x _ => ⟨rfl, ?_⟩
      unfold upd
      by_cases e : x = p
      · subst e; simp [nd.1]
      · simp [e]
    · have hx' : x ∉ K ∧ x ≠ p := ⟨fun q => hx (mem_ins.mpr (.inl q)), fun q => hx (mem_ins.mpr (.inr q))⟩
      have := h x hx'.1
      unfold upd
      rw [if_neg hx'.2]
      exact this
theorem mem_fold {x : Int} : ∀ {ps K : List Int}, x ∈ ps.foldl (fun K p => ins p K) K ↔ x ∈ K ∨ x ∈ ps
  | [], K => by simp
  | p :: ps, K => by
    rw [List.foldl_cons, mem_fold, mem_ins, List.mem_cons, or_assoc]
theorem nodup_fold : ∀ {ps K : List Int}, K.Nodup → (ps.foldl (fun K p => ins p K) K).Nodup
  | [], _, h => h
  | p :: ps, _, h => by rw [List.foldl_cons]; exact nodup_fold (nodup_ins h)

/-- who waits for whom -/
noncomputable def Pof (bs : List (Int × Int)) (i : Int) : List Int := if 0 ≤ i ∧ i < 8 then prs (bs.getD i.toNat (0, 0)) else []
noncomputable def gof (bs : List (Int × Int)) (n : Nat) (p : Int) : List Int := ((List.range n).map fun (j : Nat) => (j : Int)).filter fun j => decide (p ∈ Pof bs j)
noncomputable def fof (bs : List (Int × Int)) (n : Nat) (i : Int) : Int := if 0 ≤ i ∧ i < n then (Pof bs i).length else 0
theorem prs_in {t : Int × Int} : ∀ p ∈ prs t, 0 ≤ p ∧ p < 8 := by
  intro p hp
  have := (List.mem_filter.mp hp).2
  simp only [Bool.and_eq_true, decide_eq_true_eq] at this
  omega
theorem prs_nodup {t : Int × Int} (h : t.1 ≠ t.2) : (prs t).Nodup := by
  unfold prs
  exact List.Pairwise.filter _ (by simpa using h)
theorem Pof_nodup {bs : List (Int × Int)} (h8 : bs.length = 8) (hne : ∀ t ∈ bs, t.1 ≠ t.2) (i : Int) : (Pof bs i).Nodup := by
  unfold Pof
  split
  · rename_i h
    have hl : i.toNat < bs.length := by omega
    rw [List.getD_eq_getElem?_getD, List.getElem?_eq_getElem hl]
    exact prs_nodup (hne _ (List.getElem_mem hl))
  · exact List.nodup_nil
theorem Pof_in {bs : List (Int × Int)} {i : Int} : ∀ p ∈ Pof bs i, 0 ≤ p ∧ p < 8 := by
  unfold Pof
  split
  · exact prs_in
  · exact nofun
theorem gof_succ (bs : List (Int × Int)) (n : Nat) (p : Int) : gof bs (n + 1) p = if p ∈ Pof bs n then gof bs n p ++ [(n : Int)] else gof bs n p := by
  unfold gof
  rw [List.range_succ, List.map_append, List.filter_append]
  by_cases h : p ∈ Pof bs n <;> simp [h]
theorem gof_mem {bs : List (Int × Int)} {n : Nat} {p j : Int} : j ∈ gof bs n p ↔ (0 ≤ j ∧ j < n) ∧ p ∈ Pof bs j := by
  unfold gof
  rw [List.mem_filter, decide_eq_true_eq]
  refine and_congr_left fun _ => ?_
  rw [List.mem_map]
  constructor
  · rintro ⟨k, hk, rfl⟩
    have := List.mem_range.mp hk
    omega
  · intro h
    exact ⟨j.toNat, List.mem_range.mpr (by omega), by omega⟩
theorem gof_nodup (bs : List (Int × Int)) (n : Nat) (p : Int) : (gof bs n p).Nodup := by
  unfold gof
  refine List.Pairwise.filter _ ?_
  show List.Nodup _
  induction n with
  | zero => simp
  | succ n ih =>
    rw [List.range_succ, List.map_append]
    refine List.nodup_append.mpr ⟨ih, by simp, fun x hx y hy e => ?_⟩
    obtain ⟨k, hk, rfl⟩ := List.mem_map.mp hx
    have := List.mem_range.mp hk
    simp at hy
    omega
theorem vAll_mk {bs : List (Int × Int)} (h8 : bs.length = 8) (hne : ∀ t ∈ bs, t.1 ≠ t.2) : ∀ {n : Nat}, n ≤ 8 →
    ∃ K, vAll bs n = mkV K (fof bs n) (gof bs n) ∧ K.Nodup ∧ (∀ i ∈ K, 0 ≤ i ∧ i < 8) ∧ (∀ i : Int, 0 ≤ i → i < n → i ∈ K) ∧ ∀ p, p ∉ K → fof bs n p = 0 ∧ gof bs n p = []
  | 0, _ => ⟨[], rfl, List.nodup_nil, nofun, fun i h1 h2 => by omega, fun p _ => ⟨by unfold fof; rw [if_neg (by omega)], rfl⟩⟩
  | n + 1, h => by
    obtain ⟨K, e, nd, hr, hk, hz⟩ := vAll_mk h8 hne (n := n) (by omega)
    have hP : prs (bs.getD n (0, 0)) = Pof bs n := by unfold Pof; rw [if_pos (by omega)]; rfl
    have hfn : fof bs n n = 0 := by unfold fof; rw [if_neg (by omega)]
    refine ⟨(Pof bs n).foldl (fun K p => ins p K) (ins n K), ?_, nodup_fold (nodup_ins nd), fun i hi => ?_, fun i h1 h2 => ?_, fun p hp => ?_⟩
    · rw [vAll_succ, e, hP]
      unfold vAdd
      rw [vGet_mk fun q => hz _ q, mkV_map]
      simp only [upd_same]
      rw [fold_mk (Pof_nodup h8 hne _) fun x hx => ?_]
      · refine mkV_congr fun x _ => ⟨?_, (gof_succ ..).symm⟩
        unfold upd fof
        by_cases q : x = n
        · subst q; rw [if_pos rfl, if_neg (by omega), if_pos (by omega)]; simp
        · rw [if_neg q]
          by_cases q2 : 0 ≤ x ∧ x < n
          · rw [if_pos q2, if_pos (by omega)]
          · rw [if_neg q2, if_neg (by omega)]
      · have hx' : x ∉ K ∧ x ≠ n := ⟨fun q => hx (mem_ins.mpr (.inl q)), fun q => hx (mem_ins.mpr (.inr q))⟩
        have := hz x hx'.1
        unfold upd
        rw [if_neg hx'.2]
        exact this
    · rcases mem_fold.mp hi with hi | hi
      · rcases mem_ins.mp hi with hi | rfl
        · exact hr i hi
        · omega
      · exact Pof_in i hi
    · refine mem_fold.mpr (.inl (mem_ins.mpr ?_))
      by_cases q : i = n
      · exact .inr q
      · exact .inl (hk i h1 (by omega))
    · have hp' : p ∉ K ∧ p ≠ n ∧ p ∉ Pof bs n := ⟨fun q => hp (mem_fold.mpr (.inl (mem_ins.mpr (.inl q)))), fun q => hp (mem_fold.mpr (.inl (mem_ins.mpr (.inr q)))), fun q => hp (mem_fold.mpr (.inr q))⟩
      have := hz p hp'.1
      refine ⟨?_, by rw [gof_succ, if_neg hp'.2.2]; exact this.2⟩
      have h0 := this.1
      unfold fof at h0 ⊢
      by_cases q2 : 0 ≤ p ∧ p < n
      · rw [if_pos q2] at h0; rw [if_pos (by omega)]; exact h0
      · rw [if_neg (by omega)]
/-- the sorter when all is told and the first are handed out -/
theorem sok_init {bs : List (Int × Int)} (h8 : bs.length = 8) (hne : ∀ t ∈ bs, t.1 ≠ t.2) :
    ∃ K f0, vAll bs 8 = mkV K f0 (gof bs 8) ∧ K.length ≤ 8 ∧ Sok (Pof bs) K (fun j => if j ∈ rdy (vAll bs 8) then -1 else f0 j) (gof bs 8) [] (rdy (vAll bs 8)) := by
  obtain ⟨K, e, nd, hr, hk, hz⟩ := vAll_mk h8 hne (n := 8) (Nat.le_refl _)
  have hK : ∀ i, i ∈ K ↔ 0 ≤ i ∧ i < 8 := fun i => ⟨hr i, fun h => hk i h.1 h.2⟩
  have hm : ∀ j, j ∈ rdy (vAll bs 8) ↔ j ∈ K ∧ Pof bs j = [] := fun j => by
    rw [e, mkV_rdy, List.mem_filter, decide_eq_true_eq]
    refine and_congr_right fun hj => ?_
    have := (hK j).mp hj
    unfold fof
    rw [if_pos (by omega)]
    constructor
    · intro h
      exact List.eq_nil_of_length_eq_zero (by omega)
    · intro h
      rw [h]; rfl
  refine ⟨K, fof bs 8, e, nodup_len 8 nd hr, nd, hK, gof_nodup bs 8, fun i j => by rw [gof_mem, hK]; rfl, Pof_nodup h8 hne, fun j _ p hp => (hK p).mpr (Pof_in p hp), fun j hj => ?_, ?_, fun j => ?_, nofun, nofun⟩
  · by_cases h : j ∈ rdy (vAll bs 8)
    · simp only [h, if_true, List.not_mem_nil, if_false]
    · simp only [h, if_false, List.not_mem_nil]
      have := (hK j).mp hj
      unfold fof
      rw [if_pos (by omega), List.filter_eq_self.mpr fun p _ => by simp]
  · rw [e, mkV_rdy]
    exact nd.filter _
  · rw [hm]
    refine and_congr_right fun _ => ?_
    constructor
    · intro h
      exact ⟨by simp, fun p hp => by rw [h] at hp; cases hp⟩
    · rintro ⟨_, h⟩
      exact List.eq_nil_iff_forall_not_mem.mpr fun p hp => absurd (h p hp) (by simp)
theorem gof_len (bs : List (Int × Int)) (n : Nat) (p : Int) : (gof bs n p).length ≤ n := by
  unfold gof
  exact Nat.le_trans (List.length_filter_le _ _) (by simp)
theorem vun_mk : ∀ {K : List Int} {f : Int → Int} {g : Int → List Int}, (∀ i, (g i).length ≤ 8) → vun (mkV K f g) ≤ 9 * K.length
  | [], _, _, _ => Nat.le_refl _
  | k :: K, f, g, h => by
    have ih := vun_mk (K := K) (f := f) h
    have := h k
    unfold vun mkV at ih ⊢
    simp only [List.map_cons, List.sum_cons, List.length_cons]
    omega
end Ini
section Lis
section
variable {M : Model} {prog : Program} {w : World} {A : Around} {E : Value → Shared → Prop} {b s : Shared} {fs : List Frm} {led led' : List (Addr × O)} {env : Env} {Q : Value → Shared → Prop}
theorem m_list {T : Addr} {xs : List V} (S : St b fs led s) (h : (T, .tuple xs) ∈ led) (hz : xs.length ≤ 1000) (k : ∀ a s', St b fs ((a, .list xs) :: led) s' → Q (.ref a) s') : wpAny (model prog w) A (call (.type "list") [.ref T]) Q E s := by
  obtain ⟨o, ho, us, n, rfl, hi⟩ := S.at h
  refine call_list_seq T (.inr rfl) ho rfl rfl (fun h' c' hk he => ?_) (by rw [List.size_toArray, hi.length, sizeLine_eq]; omega)
  exact k _ _ (S.addN (tk := s.toks) hk (size_none _) he ⟨us, c', rfl, hi⟩)
end
/-- every place comes behind those that it waits for -/
noncomputable def Lin (P : Int → List Int) (os : List Int) : Prop := ∀ j i, os[j]? = some i → ∀ p ∈ P i, p ∈ os.take j
theorem idx_at {l : List Int} {x : Int} (h : x ∈ l) : l[l.idxOf x]? = some x ∧ ∀ m, m < l.idxOf x → l[m]? ≠ some x := by
  have hlt := List.idxOf_lt_length_of_mem h
  refine ⟨by rw [List.getElem?_eq_getElem hlt, List.getElem_idxOf], fun m hm e => ?_⟩
  have hl : m < l.length := Nat.lt_trans hm hlt
  rw [List.getElem?_eq_getElem hl, Option.some.injEq] at e
  have := List.not_of_lt_findIdx (p := (· == x)) (xs := l) hm
  simp [e] at this
theorem erase_at {p : Int} : ∀ {l : List Int} {i : Nat}, l.Nodup → l[i]? = some p → (l.eraseIdx i).Nodup ∧ ∀ x, x ∈ l.eraseIdx i ↔ x ∈ l ∧ x ≠ p
  | [], i, _, h => by simp at h
  | a :: l, 0, nd, h => by
    have nd := List.nodup_cons.mp nd
    simp at h
    subst h
    refine ⟨nd.2, fun x => ?_⟩
    rw [List.eraseIdx_cons_zero, List.mem_cons]
    constructor
    · intro hx
      exact ⟨.inr hx, fun e => nd.1 (e ▸ hx)⟩
    · rintro ⟨hx | hx, hne⟩
      · exact absurd hx hne
      · exact hx
  | a :: l, i + 1, nd, h => by
    have nd := List.nodup_cons.mp nd
    have h' : l[i]? = some p := by simpa using h
    have ih := erase_at nd.2 h'
    have hpa : a ≠ p := fun e => nd.1 (e ▸ List.mem_of_getElem? h')
    rw [List.eraseIdx_cons_succ]
    refine ⟨List.nodup_cons.mpr ⟨fun q => nd.1 ((ih.2 a).mp q).1, ih.1⟩, fun x => ?_⟩
    rw [List.mem_cons, List.mem_cons, ih.2]
    constructor
    · rintro (rfl | ⟨h1, h2⟩)
      · exact ⟨.inl rfl, hpa⟩
      · exact ⟨.inr h1, h2⟩
    · rintro ⟨rfl | h1, h2⟩
      · exact .inl rfl
      · exact .inr ⟨h1, h2⟩
theorem sled_outs (S D M : Addr) (rd : V) (po fi : Int) (ep : Nat) (ns : List Nd) (xs rest : List (Addr × O)) : List.Perm (xs ++ sled S D M rd po fi ep ns rest) (sled S D M rd po fi ep ns (xs ++ rest)) := by
  unfold sled
  refine List.Perm.trans ?_ (.cons _ (.cons _ (.cons _ (nled_perm ns xs rest).symm)))
  have h := (List.perm_append_comm (l₁ := xs) (l₂ := [(S, O.inst 174 D), (D, .idict sNs [some (.ref M), some rd, some (.int po), some (.int fi)]), (M, .dict (ndict ns) ep)])).append_right (nled ns rest)
  rw [List.append_assoc, List.append_assoc] at h
  exact h
theorem sub_nled (ns : List Nd) (rest : List (Addr × O)) : List.Sublist rest (nled ns rest) := by
  induction ns with
  | nil => exact .refl _
  | cons n ns ih => exact .cons _ (.cons _ (.cons _ ih))
theorem take_snoc {l : List Int} {j : Nat} {p : Int} (h : l[j]? = some p) (x : Int) : x ∈ l.take (j + 1) ↔ x = p ∨ x ∈ l.take j := by
  rw [List.take_add_one, h, List.mem_append]
  simp [or_comm]
theorem not_take {p : Int} : ∀ {l : List Int} {j : Nat}, l.Nodup → l[j]? = some p → p ∉ l.take j
  | [], _, _, h => by simp at h
  | a :: l, 0, _, _ => by simp
  | a :: l, j + 1, nd, h => by
    have nd := List.nodup_cons.mp nd
    have h' : l[j]? = some p := by simpa using h
    rw [List.take_succ_cons, List.mem_cons]
    rintro (rfl | q)
    · exact nd.1 (List.mem_of_getElem? h')
    · exact not_take nd.2 h' q
end Lis
section Equ
noncomputable def pdI (ns : List Int) : PyData := .list (ns.map .int)
noncomputable def pdB (bs : List (Int × Int)) : PyData := .list (bs.map fun t => .tuple [.int t.1, .int t.2])
theorem ints_all (h : Heap) : ∀ {us : List Value} {ns : List Int}, Isl us (vints ns) → ReadsAll h us (ns.map .int) []
  | [], [], _ => .nil
  | u :: us, n :: ns, .cons a r => by
    cases a
    exact (ReadsAll.cons (as := []) (bs := []) (.int _ _) (ints_all h r))
  | [], _ :: _, h => by cases h
  | _ :: _, [], h => by cases h
theorem lay_ints : ∀ ns : List Int, PyData.canLayAll0 (ns.map .int) = true
  | [] => rfl
  | n :: ns => by simp [PyData.canLayAll0, PyData.canLay0, lay_ints ns]
theorem depth_ints : ∀ ns : List Int, PyData.depthAll (ns.map .int) = 0
  | [] => rfl
  | n :: ns => by simp [PyData.depthAll, PyData.depth, depth_ints ns]
theorem eqv_ints : ∀ ns ms : List Int, PyData.eqvAll (ns.map .int) (ms.map .int) = decide (ns = ms)
  | [], [] => rfl
  | [], _ :: _ => rfl
  | _ :: _, [] => rfl
  | n :: ns, m :: ms => by
    simp only [List.map_cons, PyData.eqvAll, PyData.eqv, eqv_ints ns ms, List.cons.injEq]
    rw [Bool.eq_iff_iff]
    simp
theorem lay_pairs : ∀ bs : List (Int × Int), PyData.canLayAll0 (bs.map fun t => .tuple [.int t.1, .int t.2]) = true
  | [] => rfl
  | b :: bs => by simp [PyData.canLayAll0, PyData.canLay0, lay_pairs bs]
theorem depth_pairs : ∀ bs : List (Int × Int), PyData.depthAll (bs.map fun t => .tuple [.int t.1, .int t.2]) ≤ 1
  | [] => by simp [PyData.depthAll]
  | b :: bs => by
    have := depth_pairs bs
    simp only [List.map_cons, PyData.depthAll, PyData.depth]
    omega
theorem eqv_pairs : ∀ bs cs : List (Int × Int), PyData.eqvAll (bs.map fun t => .tuple [.int t.1, .int t.2]) (cs.map fun t => .tuple [.int t.1, .int t.2]) = decide (bs = cs)
  | [], [] => rfl
  | [], _ :: _ => rfl
  | _ :: _, [] => rfl
  | (a, b) :: bs, (c, d) :: cs => by
    simp only [List.map_cons, PyData.eqvAll, PyData.eqv, eqv_pairs bs cs, List.cons.injEq, Prod.mk.injEq]
    rw [Bool.eq_iff_iff]
    simp
section
variable {M : Model} {prog : Program} {w : World} {A : Around} {E : Value → Shared → Prop} {b s : Shared} {fs : List Frm} {led led' : List (Addr × O)} {env : Env} {Q : Value → Shared → Prop}
theorem St.readsI {l : Addr} {ns : List Int} (S : St b fs led s) (h : (l, .list (vints ns)) ∈ led) : Reads s.heap (.ref l) (pdI ns) [l] := by
  obtain ⟨o, ho, us, n, rfl, hi⟩ := S.at h
  exact .list ho rfl rfl (by simpa using ints_all s.heap hi)
theorem pairs_all (S : St b fs led s) : ∀ {ts : List (Addr × Int × Int)} {us : List Value}, Isl us (ts.map fun t => .ref t.1) → (∀ t ∈ ts, (t.1, O.tuple [.int t.2.1, .int t.2.2]) ∈ led) → ReadsAll s.heap us ((ts.map (·.2)).map fun t => .tuple [.int t.1, .int t.2]) []
  | [], [], _, _ => .nil
  | t :: ts, u :: us, .cons a r, hm => by
    cases a
    obtain ⟨o, ho, vs, n, rfl, hi⟩ := S.at (hm t (.head _))
    have h1 : Reads s.heap (.ref t.1) (.tuple [.int t.2.1, .int t.2.2]) [] := .tuple ho rfl rfl (by simpa using ints_all s.heap (ns := [t.2.1, t.2.2]) hi)
    exact (ReadsAll.cons (as := []) (bs := []) h1 (pairs_all S r fun t h => hm t (.tail _ h)))
  | [], _ :: _, h, _ => by cases h
  | _ :: _, [], h, _ => by cases h
theorem St.readsB {l : Addr} {ts : List (Addr × Int × Int)} (S : St b fs led s) (h : (l, .list (ts.map fun t => .ref t.1)) ∈ led) (hm : ∀ t ∈ ts, (t.1, O.tuple [.int t.2.1, .int t.2.2]) ∈ led) : Reads s.heap (.ref l) (pdB (ts.map (·.2))) [l] := by
  obtain ⟨o, ho, us, n, rfl, hi⟩ := S.at h
  exact .list ho rfl rfl (by simpa using pairs_all S hi hm)
theorem c_eqI {l m : Addr} {ns ms : List Int} (S : St b fs led s) (hl : (l, .list (vints ns)) ∈ led) (hm : (m, .list (vints ms)) ∈ led) (hu : A.units ≤ 9000) (k : Q (.bool (decide (ns = ms))) s) : wpAny (model prog w) A (compareOp .Eq (.ref l) (.ref m)) Q E s := by
  refine SeqAt.compareEq_reads (S.readsI hl) (S.readsI hm) (lay_ints ns) (lay_ints ms) ?_ ?_
  · unfold pdI; rw [PyData.depth, PyData.depth, depth_ints, depth_ints]; show _ < 9900; omega
  · rw [show PyData.eqv (pdI ns) (pdI ms) = decide (ns = ms) from eqv_ints ns ms]; exact k
theorem c_neI {l m : Addr} {ns ms : List Int} (S : St b fs led s) (hl : (l, .list (vints ns)) ∈ led) (hm : (m, .list (vints ms)) ∈ led) (hu : A.units ≤ 9000) (k : Q (.bool (!decide (ns = ms))) s) : wpAny (model prog w) A (compareOp .NotEq (.ref l) (.ref m)) Q E s := by
  refine SeqAt.compareNe_reads (S.readsI hl) (S.readsI hm) (lay_ints ns) (lay_ints ms) ?_ ?_
  · unfold pdI; rw [PyData.depth, PyData.depth, depth_ints, depth_ints]; show _ < 9900; omega
  · rw [show PyData.eqv (pdI ns) (pdI ms) = decide (ns = ms) from eqv_ints ns ms]; exact k
theorem c_eqB {l m : Addr} {ts us : List (Addr × Int × Int)} (S : St b fs led s) (hl : (l, .list (ts.map fun t => .ref t.1)) ∈ led) (hlt : ∀ t ∈ ts, (t.1, O.tuple [.int t.2.1, .int t.2.2]) ∈ led) (hm : (m, .list (us.map fun t => .ref t.1)) ∈ led)
    (hmt : ∀ t ∈ us, (t.1, O.tuple [.int t.2.1, .int t.2.2]) ∈ led) (hu : A.units ≤ 9000) (k : Q (.bool (decide (ts.map (·.2) = us.map (·.2)))) s) : wpAny (model prog w) A (compareOp .Eq (.ref l) (.ref m)) Q E s := by
  have h1 := depth_pairs (ts.map (·.2))
  refine SeqAt.compareEq_reads (S.readsB hl hlt) (S.readsB hm hmt) (lay_pairs _) (lay_pairs _) ?_ ?_
  · unfold pdB; rw [PyData.depth, PyData.depth]; show _ < 9900; omega
  · rw [show PyData.eqv (pdB _) (pdB _) = _ from eqv_pairs (ts.map (·.2)) (us.map (·.2))]; exact k
theorem c_neB {l m : Addr} {ts us : List (Addr × Int × Int)} (S : St b fs led s) (hl : (l, .list (ts.map fun t => .ref t.1)) ∈ led) (hlt : ∀ t ∈ ts, (t.1, O.tuple [.int t.2.1, .int t.2.2]) ∈ led) (hm : (m, .list (us.map fun t => .ref t.1)) ∈ led)
    (hmt : ∀ t ∈ us, (t.1, O.tuple [.int t.2.1, .int t.2.2]) ∈ led) (hu : A.units ≤ 9000) (k : Q (.bool (!decide (ts.map (·.2) = us.map (·.2)))) s) : wpAny (model prog w) A (compareOp .NotEq (.ref l) (.ref m)) Q E s := by
  have h1 := depth_pairs (ts.map (·.2))
  refine SeqAt.compareNe_reads (S.readsB hl hlt) (S.readsB hm hmt) (lay_pairs _) (lay_pairs _) ?_ ?_
  · unfold pdB; rw [PyData.depth, PyData.depth]; show _ < 9900; omega
  · rw [show PyData.eqv (pdB _) (pdB _) = _ from eqv_pairs (ts.map (·.2)) (us.map (·.2))]; exact k
end
end Equ
section Enu
section
variable {M : Model} {prog : Program} {w : World} {A : Around} {E : Value → Shared → Prop} {b s : Shared} {fs : List Frm} {led led' : List (Addr × O)} {env : Env} {Q : Value → Shared → Prop}
theorem none_empty (a : Addr) : ({} : Heap).get? a = none := ge_none (Nat.zero_le a)
/-- the library's frames and ledgers over a state -/
theorem St.via {L : Addr} {ns : List Str} {vs : List (Option V)} (S : St b (⟨L, ns, vs⟩ :: fs) led s) :
    ∃ m news, Fr {} L s.heap m ∧ News {} L s.heap news ∧ ∀ h' tk, Fr {} L h' m → News {} L h' news → St b (⟨L, ns, vs⟩ :: fs) led { s with heap := h', toks := tk } := by
  obtain ⟨m, hn, hv⟩ := S.fr _ (.head _)
  have hmem : ∀ a o, a ≠ L → s.heap.get? a = some o → (a, o) ∈ (List.range s.heap.objs.size).filterMap fun a => if a = L then none else (s.heap.get? a).map fun o => (a, o) := fun a o hne e => by
    refine List.mem_filterMap.mpr ⟨a, List.mem_range.mpr (Heap.lt_size e), ?_⟩
    rw [if_neg hne, e]; rfl
  refine ⟨m, (List.range s.heap.objs.size).filterMap fun a => if a = L then none else (s.heap.get? a).map fun o => (a, o), ⟨hn, fun a o e => absurd ((none_empty a).symm.trans e) (by simp), Nat.zero_le _⟩, fun p hp => ?_, fun h' tk F N => ?_⟩
  · obtain ⟨a, _, e⟩ := List.mem_filterMap.mp hp
    by_cases hne : a = L
    · rw [if_pos hne] at e; cases e
    · rw [if_neg hne] at e
      obtain ⟨o, ho, rfl⟩ := Option.map_eq_some_iff.mp e
      exact ⟨ho, hne, none_empty _⟩
  · exact S.set (x := "") (v := .none) (u := .none) (fun a o hne e => (N _ (hmem a o hne e)).1) F.ns hv
theorem St.also {s' : Shared} {a : Addr} {o : Obj} {K : O} (S : St b fs led s) (S' : St b fs led s') (hn : s.heap.get? a = none) (ho : s'.heap.get? a = some o) (hs : Sat K o) : St b fs ((a, K) :: led) s' := by
  have hf := S.fresh hn
  have nd := List.nodup_append.mp S'.nd
  refine ⟨S'.keep, S'.fr, fun p hp => ?_, ?_, fun x hx => ?_, S'.top, S'.gens, S'.os⟩
  · rcases List.mem_cons.mp hp with rfl | hp
    · exact ⟨o, ho, hs⟩
    · exact S'.lg p hp
  · rw [List.map_cons, List.nodup_append]
    refine ⟨nd.1, List.nodup_cons.mpr ⟨fun q => hf (List.mem_append_right _ q), nd.2.1⟩, fun x hx y hy => ?_⟩
    rcases List.mem_cons.mp hy with rfl | hy
    · exact fun e => hf (List.mem_append_left _ (e ▸ hx))
    · exact nd.2.2 x hx y hy
  · rcases List.mem_append.mp hx with hx | hx
    · exact S'.new x (List.mem_append_left _ hx)
    · rcases List.mem_cons.mp hx with rfl | hx
      · exact S.isNew' hn
      · exact S'.new x (List.mem_append_right _ hx)
/-- two objects of the ledger changed -/
theorem St.re {e it : Addr} {K1 K2 K1' K2' : O} {o1 o2 : Obj} {h' : Heap} {tk : Nat} (S : St b fs ((e, K1) :: (it, K2) :: led) s) (hk : ∀ x o, x ≠ e → x ≠ it → s.heap.get? x = some o → h'.get? x = some o)
    (h1 : h'.get? e = some o1) (s1 : Sat K1' o1) (h2 : h'.get? it = some o2) (s2 : Sat K2' o2) : St b fs ((e, K1') :: (it, K2') :: led) { s with heap := h', toks := tk } := by
  have nd := List.nodup_append.mp S.nd
  have ne := S.new e (List.mem_append_right _ (.head _))
  have ni := S.new it (List.mem_append_right _ (.tail _ (.head _)))
  refine ⟨fun x o q => hk x o (fun h => by rw [h, ne.1] at q; cases q) (fun h => by rw [h, ni.1] at q; cases q) (S.keep x o q), fun f hf => ?_, fun p hp => ?_, S.nd, S.new, S.top, S.gens, S.os⟩
  · obtain ⟨m, ⟨o, es, ep, ho, hr⟩, hv⟩ := S.fr f hf
    have hfm : f.L ∈ fs.map (·.L) := List.mem_map_of_mem hf
    exact ⟨m, ⟨o, es, ep, hk _ _ (nd.2.2 _ hfm _ (.head _)) (nd.2.2 _ hfm _ (.tail _ (.head _))) ho, hr⟩, hv⟩
  · rcases List.mem_cons.mp hp with rfl | hp
    · exact ⟨o1, h1, s1⟩
    · rcases List.mem_cons.mp hp with rfl | hp
      · exact ⟨o2, h2, s2⟩
      · obtain ⟨o, ho, hs⟩ := S.lg p (.tail _ (.tail _ hp))
        have n1 := List.nodup_cons.mp nd.2.1
        have n2 := List.nodup_cons.mp n1.2
        have hpm : p.1 ∈ led.map (·.1) := List.mem_map_of_mem (f := (·.1)) hp
        exact ⟨o, hk _ _ (fun q => n1.1 (q ▸ .tail _ hpm)) (fun q => n2.1 (q ▸ hpm)) ho, hs⟩
/-- a pair of names -/
theorem a_pair {T : Addr} {v1 v2 : V} {t1 t2 : Expr} {x1 : Nat} {pos : Pos} {Q : Unit → Shared → Prop} (S : St b fs led s) (hh : A.handled = none) (h : (T, .tuple [v1, v2]) ∈ led)
    (k : ∀ u1 u2 s', Is u1 v1 → Is u2 v2 → St b fs led s' → wpAny (model prog w) A (assign t1 env u1) (fun _ s₂ => wpAny (model prog w) A (assign t2 env u2) Q E s₂) E s')
    (h1 : assignEach [t1, t2] env = [(false, assign t1 env), (false, assign t2 env)]) : wpAny (model prog w) A (assign (.Tuple [t1, t2] x1 pos) env (.ref T)) Q E s := by
  obtain ⟨o, ho, us, n, rfl, hi⟩ := S.at h
  cases hi with
  | cons a r => cases r with
    | cons a2 r => cases r
                   refine wpAny_assign_Tuple hh ⟨_, ho, rfl, n, rfl⟩ (by rw [h1]; rfl) (by rw [h1]; rfl) fun h' he => ?_
                   rw [h1]
                   have hk : ∀ x o, s.heap.get? x = some o → h'.get? x = some o := fun x o e => he x o (Nat.ne_of_lt (Heap.lt_size e)) e
                   refine assignInOrder_cons (wpAny_mono (k _ _ _ a a2 (S.grow (tk := s.toks) hk)) (fun _ s₂ h₂ => ?_) fun _ _ z => z)
                   exact assignInOrder_cons (wpAny_mono h₂ (fun _ s₃ h₃ => assignInOrder_nil h₃) fun _ _ z => z)

theorem m_sum {L : Addr} {nn : List Str} {vs : List (Option V)} {l : Addr} {ns : List Int} (S : St b (⟨L, nn, vs⟩ :: fs) led s) (hh : A.handled = none) (h : (l, .list (vints ns)) ∈ led) (k : ∀ t s', St b (⟨L, nn, vs⟩ :: fs) led s' → Q (.int ns.sum t) s') :
    wpAny (model prog w) A (call (.builtin "sum") [.ref l]) Q E s := by
  obtain ⟨us, hi, hl⟩ := S.isList h
  obtain ⟨m, news, F, N, c⟩ := S.via
  exact LSm.sum_ints F N hh hl hi.ints fun h' tk t' F' N' => k _ _ (c h' tk F' N')
theorem m_min {L : Addr} {nn : List Str} {vs : List (Option V)} {l : Addr} {ns : List Int} (S : St b (⟨L, nn, vs⟩ :: fs) led s) (hh : A.handled = none) (h : (l, .list (vints ns)) ∈ led) (hne : 0 < ns.length) (k : ∀ M t s', M ∈ ns → (∀ a ∈ ns, M ≤ a) → St b (⟨L, nn, vs⟩ :: fs) led s' → Q (.int M t) s') :
    wpAny (model prog w) A (call (.builtin "min") [.ref l]) Q E s := by
  obtain ⟨us, hi, hl⟩ := S.isList h
  obtain ⟨m, news, F, N, c⟩ := S.via
  exact min_list_N hh F N hl hi.ints hne fun h' M t tk F' N' h1 h2 => k M t _ h1 h2 (c h' tk F' N')
theorem m_min2 {x y : Int} {t u : Tok} (S : St b fs led s) (hh : A.handled = none) (k : ∀ t s', St b fs led s' → Q (.int (min x y) t) s') : wpAny (model prog w) A (call (.builtin "min") [.int x t, .int y u]) Q E s := by
  refine min_two_ints hh fun h' tk hk => ?_
  by_cases h : y < x
  · rw [if_pos h]
    have := k u _ (S.grow (tk := tk) hk)
    rwa [show min x y = y by omega] at this
  · rw [if_neg h]
    have := k t _ (S.grow (tk := tk) hk)
    rwa [show min x y = x by omega] at this
theorem m_max2 {x y : Int} {t u : Tok} (S : St b fs led s) (hh : A.handled = none) (k : ∀ t s', St b fs led s' → Q (.int (max x y) t) s') : wpAny (model prog w) A (call (.builtin "max") [.int x t, .int y u]) Q E s := by
  refine max_two_ints hh fun h' tk hk => ?_
  by_cases h : y > x
  · rw [if_pos h]
    have := k u _ (S.grow (tk := tk) hk)
    rwa [show max x y = y by omega] at this
  · rw [if_neg h]
    have := k t _ (S.grow (tk := tk) hk)
    rwa [show max x y = x by omega] at this
theorem m_sorted {L : Addr} {nn : List Str} {vs : List (Option V)} {l : Addr} {ns : List Int} (S : St b (⟨L, nn, vs⟩ :: fs) led s) (h : (l, .list (vints ns)) ∈ led) (hz : ns.length < 64)
    (k : ∀ a ms s', ms.Perm ns → ms.Pairwise (· ≤ ·) → St b (⟨L, nn, vs⟩ :: fs) ((a, .list (vints ms)) :: led) s' → Q (.ref a) s') : wpAny (model prog w) A (call (.builtin "sorted") [.ref l]) Q E s := by
  obtain ⟨us, hi, hl⟩ := S.isList h
  obtain ⟨m, news, F, N, c⟩ := S.via
  have hlen := hi.length
  simp only [vints, List.length_map] at hlen
  refine sorted_N F N hl hi.ints (by omega) fun h' vs' ns' e F' N' hI' hp hs => ?_
  have S' := c h' s.toks F' fun p hp => N' p (.tail _ hp)
  refine k _ ns' _ hp hs (S.also S' (ge_none (Nat.le_succ _)) (N' _ (.head _)).1 ⟨vs', e, rfl, ?_⟩)
  have : ∀ {us : List Value} {ns : List Int}, IntsAre us ns → Isl us (vints ns) := by
    intro us ns hi
    induction hi with
    | nil => exact .nil
    | cons n t _ ih => exact .cons .int ih
  exact this hI'
theorem o_ladd {L : Addr} {nn : List Str} {vs : List (Option V)} {l m : Addr} {ns ms : List Int} (S : St b (⟨L, nn, vs⟩ :: fs) led s) (hl : (l, .list (vints ns)) ∈ led) (hm : (m, .list (vints ms)) ∈ led) (hz : ns.length + ms.length ≤ 1000)
    (k : ∀ a s', St b (⟨L, nn, vs⟩ :: fs) ((a, .list (vints (ns ++ ms))) :: led) s' → Q (.ref a) s') : wpAny (model prog w) A (binaryOp .Add (.ref l) (.ref m)) Q E s := by
  obtain ⟨us, hi, hL⟩ := S.isList hl
  obtain ⟨us', hi', hL'⟩ := S.isList hm
  obtain ⟨mm, news, F, N, c⟩ := S.via
  have h1 := hi.length
  have h2 := hi'.length
  simp only [vints, List.length_map] at h1 h2
  refine add_lists F N hL hL' (fun h' F' N' => ?_) (by rw [sizeLine_eq]; omega)
  have S' := c h' s.toks F' fun p hp => N' p (.tail _ hp)
  refine k _ _ (S.also S' (size_none _) (N' _ (.head _)).1 ⟨us ++ us', 0, rfl, ?_⟩)
  rw [show vints (ns ++ ms) = vints ns ++ vints ms by simp [vints]]
  exact hi.append hi'
theorem m_divmod {x y : Int} {t u : Tok} (S : St b fs led s) (hy : y ≠ 0) (hp : Builtin.divisionGoesByPylong x y = false) (k : ∀ a s', St b fs ((a, .tuple [.int (Int.fdiv x y), .int (Int.fmod x y)]) :: led) s' → Q (.ref a) s') : wpAny (model prog w) A (call (.builtin "divmod") [.int x t, .int y u]) Q E s :=
  divmod_int hy (k _ _ (S.push (tk := s.toks + 1 + 1) ⟨[.int (Int.fdiv x y) s.toks, .int (Int.fmod x y) (s.toks + 1)], 0, rfl, .cons .int (.cons .int .nil)⟩)) (.inl hp)

/-- an enumeration of a list -/
noncomputable abbrev enO (it : Addr) (i : Nat) : O := .pred fun o => ∃ old, o = { cls := .type "enumerate", dict := none, data := .fields #[.none, .bool false, .ref it, rawInt i, .none, old], slots := #[] }
theorem m_enum {l : Addr} {xs : List V} (S : St b fs led s) (h : (l, .list xs) ∈ led) (k : ∀ e it s', St b fs ((e, enO it 0) :: (it, litO l 0) :: led) s' → Q (.ref e) s') : wpAny (model prog w) A (call (.type "enumerate") [.ref l]) Q E s := by
  obtain ⟨us, hi, hl⟩ := S.isList h
  refine call_enumerate_list hl fun h' he hit hsz hk => ?_
  obtain ⟨o, ho, hp⟩ := hit
  have S0 := S.grow (tk := s.toks) hk
  have S1 := S.also S0 (size_none _) ho (K := litO l 0) hp
  refine k (s.heap.objs.size + 1) s.heap.objs.size _ ⟨S1.keep, S1.fr, fun p hp => ?_, ?_, fun x hx => ?_, S1.top, S1.gens, S1.os⟩
  · rcases List.mem_cons.mp hp with rfl | hp
    · exact ⟨_, he, _, rfl⟩
    · exact S1.lg p hp
  · have nd := List.nodup_append.mp S1.nd
    have hf := S.fresh (ge_none (Nat.le_succ s.heap.objs.size))
    rw [List.map_cons, List.nodup_append]
    refine ⟨nd.1, List.nodup_cons.mpr ⟨fun q => ?_, nd.2.1⟩, fun x hx y hy => ?_⟩
    · rcases List.mem_cons.mp q with q | q
      · exact absurd q (Nat.succ_ne_self _)
      · exact hf (List.mem_append_right _ q)
    · rcases List.mem_cons.mp hy with rfl | hy
      · intro e
        have e : x = s.heap.objs.size.succ := e
        exact hf (List.mem_append_left _ (by rw [← e]; exact hx))
      · exact nd.2.2 x hx y hy
  · rcases List.mem_append.mp hx with hx | hx
    · exact S1.new x (List.mem_append_left _ hx)
    · rcases List.mem_cons.mp hx with rfl | hx
      · exact S.isNew (Nat.le_succ _)
      · exact S1.new x (List.mem_append_right _ hx)
theorem it_enum {e it : Addr} {i : Nat} (S : St b fs led s) (h : (e, enO it i) ∈ led) (k : Q (.ref e) s) : wpAny (model prog w) A (pyIter (.ref e)) Q E s := by
  obtain ⟨o, ho, old, rfl⟩ := S.at h
  exact wpAny_pyIter_enum ho k
theorem en_loop {e it l L : Addr} {nn : List Str} {vs : List (Option V)} {xs : List V} {t1 t2 : Expr} {x1 : Nat} {pos : Pos} {body orelse : List Stmt} {Q : Flow → Shared → Prop} (P : Nat → List (Option V) → List (Addr × O) → Prop)
    (S : St b (⟨L, nn, vs⟩ :: fs) ((e, enO it 0) :: (it, litO l 0) :: led) s) (hP : P 0 vs led) (hC : ∀ i vs led, P i vs led → (l, .list xs) ∈ led) (hh : A.handled = none)
    (turn : ∀ i x vs led s T, xs[i]? = some x → P i vs led → St b (⟨L, nn, vs⟩ :: fs) ((T, .tuple [.int i, x]) :: (e, enO it (i + 1)) :: (it, litO l (i + 1)) :: led) s →
      wpAny (model prog w) A (assign (.Tuple [t1, t2] x1 pos) env (.ref T)) (fun _ s₂ => wpAny (model prog w) A (execs body env) (Lp (fun s₃ => ∃ vs' led', P (i + 1) vs' led' ∧ St b (⟨L, nn, vs'⟩ :: fs) ((e, enO it (i + 1)) :: (it, litO l (i + 1)) :: led') s₃) Q) (fun _ _ => False) s₂) (fun _ _ => False) s)
    (done : ∀ vs led s, P xs.length vs led → St b (⟨L, nn, vs⟩ :: fs) led s → wpAny (model prog w) A (execs orelse env) Q (fun _ _ => False) s) :
    codeAny (model prog w) A (.forLoop (.Tuple [t1, t2] x1 pos) (.ref e) body orelse env) (fun r s' => match r with | .ok f => Q f s' | .error e => False) s := by
  refine codeAny_forLoop_any (fun n s => ∃ i vs led, n + i = xs.length ∧ P i vs led ∧ St b (⟨L, nn, vs⟩ :: fs) ((e, enO it i) :: (it, litO l i) :: led) s) ?_ xs.length ⟨0, vs, led, by omega, hP, S⟩
  rintro n s ⟨i, vs, led, hn, hP, S⟩
  have nd := List.nodup_append.mp S.nd
  have hne : e ≠ it := fun q => (List.nodup_cons.mp nd.2.1).1 (q ▸ .head _)
  obtain ⟨oe, hoe, old, rfl⟩ := S.at (.head _)
  obtain ⟨oi, hoi, hpi⟩ := S.at (.tail _ (.head _))
  obtain ⟨us, hi, hl⟩ := S.isList (.tail _ (.tail _ (hC _ _ _ hP)))
  cases q : xs[i]? with
  | none =>
    have hi' : i = xs.length := by have := List.getElem?_eq_none_iff.mp q; omega
    subst hi'
    refine wpAny_pyNext_enum_end hh hoe ⟨oi, hoi, hpi⟩ hl (by simp [hi.length]) fun h' hk => ?_
    have S' := S.perm (List.Perm.swap ..)
    exact wpAny_mono (done _ _ _ hP (S'.lose (tk := s.toks) hk).drop) (fun _ _ z => z) fun _ _ z => z.elim
  | some x =>
    have hlt : i < xs.length := (List.getElem?_eq_some_iff.mp q).1
    obtain ⟨u, hu, iu⟩ := hi.get q
    refine wpAny_pyNext_enum_item hoe ⟨oi, hoi, hpi⟩ hl (by simpa using hu) hne fun h' ho ⟨oi', hoi', hpi'⟩ hT hsz hk => ?_
    refine wpAny_letOwnedTupleGo_enum ho fun h'' he'' hs'' => ?_
    have hTe : s.heap.objs.size ≠ e := Nat.ne_of_gt (Heap.lt_size hoe)
    have hk'' : ∀ a o, a ≠ e → h'.get? a = some o → h''.get? a = some o := fun a o ha h => hs''.extBut a o ha h
    have S1 : St b (⟨L, nn, vs⟩ :: fs) ((e, enO it (i + 1)) :: (it, litO l (i + 1)) :: led) { s with heap := h'', toks := s.toks + 1 } :=
      S.re (fun a o h1 h2 h3 => hk'' a o h1 (hk a o h1 h2 h3)) he'' ⟨_, rfl⟩ (hk'' it oi' (Ne.symm hne) hoi') hpi'
    have S2 : St b (⟨L, nn, vs⟩ :: fs) ((s.heap.objs.size, .tuple [.int i, x]) :: (e, enO it (i + 1)) :: (it, litO l (i + 1)) :: led) { s with heap := h'', toks := s.toks + 1 } := by
      have hn : s.heap.get? s.heap.objs.size = none := size_none _
      have hf := S.fresh hn
      have nd1 := List.nodup_append.mp S1.nd
      refine ⟨S1.keep, S1.fr, fun p hp => ?_, ?_, fun a ha => ?_, S1.top, S1.gens, S1.os⟩
      · rcases List.mem_cons.mp hp with rfl | hp
        · exact ⟨_, hk'' _ _ hTe hT, [.int i s.toks, u], 0, rfl, .cons .int (.cons iu .nil)⟩
        · exact S1.lg p hp
      · rw [List.map_cons, List.nodup_append]
        refine ⟨nd1.1, List.nodup_cons.mpr ⟨fun z => hf (List.mem_append_right _ z), nd1.2.1⟩, fun a ha y hy => ?_⟩
        rcases List.mem_cons.mp hy with rfl | hy
        · intro z
          have z : a = s.heap.objs.size := z
          exact hf (List.mem_append_left _ (by rw [← z]; exact ha))
        · exact nd1.2.2 a ha y hy
      · rcases List.mem_append.mp ha with ha | ha
        · exact S1.new a (List.mem_append_left _ ha)
        · rcases List.mem_cons.mp ha with rfl | ha
          · exact S.isNew (Nat.le_refl _)
          · exact S1.new a (List.mem_append_right _ ha)
    refine wpAny_mono (turn i x vs led _ _ q hP S2) (fun _ s₂ h₂ => wpAny_mono h₂ (fun f s₃ h₃ => ?_) fun _ _ z => z.elim) fun _ _ z => z.elim
    have nx : (∃ vs' led', P (i + 1) vs' led' ∧ St b (⟨L, nn, vs'⟩ :: fs) ((e, enO it (i + 1)) :: (it, litO l (i + 1)) :: led') s₃) → ∃ m, m < n ∧ ∃ i vs led, m + i = xs.length ∧ P i vs led ∧ St b (⟨L, nn, vs⟩ :: fs) ((e, enO it i) :: (it, litO l i) :: led) s₃ :=
      fun ⟨vs', led', hp, hs⟩ => ⟨n - 1, by omega, i + 1, vs', led', by omega, hp, hs⟩
    cases f with
    | next => exact nx h₃
    | cont => exact nx h₃
    | brk => exact h₃
    | ret v => exact h₃
end
end Enu
section Pla
/-- the keys -/
noncomputable def rk (f : Nat → Int) (x : Int) : Int := 8 * f x.toNat + x
/-- the bounds of a place -/
structure Bd (r : Int → Int) (p a q : Int) : Prop where
  a0 : -1 ≤ a
  ap : a < p
  pq : p < q
  q8 : q ≤ 8
  hi : ∀ x, a < x → x < q → x ≠ p → r p < r x
  la : 0 ≤ a → r a < r p
  lq : q < 8 → r q < r p
theorem Bd.uniq {r : Int → Int} {p a q a' q' : Int} (h : Bd r p a q) (h' : Bd r p a' q') : a = a' ∧ q = q' := by
  constructor
  · rcases Int.lt_trichotomy a a' with l | e | l
    · have h1 := h.hi a' l (Int.lt_trans h'.ap h.pq) (Int.ne_of_lt h'.ap)
      have h2 := h'.la (by have := h.a0; omega)
      omega
    · exact e
    · have h1 := h'.hi a l (Int.lt_trans h.ap h'.pq) (Int.ne_of_lt h.ap)
      have h2 := h.la (by have := h'.a0; omega)
      omega
  · rcases Int.lt_trichotomy q q' with l | e | l
    · have h1 := h'.hi q (Int.lt_trans h'.ap h.pq) l (Int.ne_of_gt h.pq)
      have h2 := h.lq (by have := h'.q8; omega)
      omega
    · exact e
    · have h1 := h.hi q' (Int.lt_trans h.ap h'.pq) l (Int.ne_of_gt h'.pq)
      have h2 := h'.lq (by have := h.q8; omega)
      omega
theorem tw_spec {P : Nat → Bool} : ∀ {l : List Nat}, (∀ j c, j < (l.takeWhile P).length → l[j]? = some c → P c = true) ∧ (∀ c, l[(l.takeWhile P).length]? = some c → P c = false) ∧ (l.takeWhile P).length ≤ l.length
  | [] => ⟨nofun, nofun, Nat.le_refl _⟩
  | a :: l => by
    have ih := tw_spec (P := P) (l := l)
    rw [List.takeWhile_cons]
    cases h : P a with
    | false => exact ⟨nofun, fun c e => by simp at e; rw [← e]; exact h, Nat.zero_le _⟩
    | true =>
      simp only [if_true, List.length_cons]
      refine ⟨fun j c hj e => ?_, fun c e => ih.2.1 c (by simpa using e), by omega⟩
      cases j with
      | zero => simp at e; rw [← e]; exact h
      | succ j => exact ih.1 j c (by omega) (by simpa using e)
theorem range_get {n i c : Nat} (h : (List.range n)[i]? = some c) : c = i ∧ i < n := by
  rw [List.getElem?_eq_some_iff] at h
  obtain ⟨h1, h2⟩ := h
  simp at h1 h2
  exact ⟨h2.symm, h1⟩
theorem beh_bd {f : Nat → Int} {p : Nat} (hp : p < 8) : p < beh f p ∧ beh f p ≤ 8 ∧ (∀ x : Nat, p < x → x < beh f p → f p ≤ f x) ∧ (beh f p < 8 → f (beh f p) < f p) := by
  unfold beh skp'
  obtain ⟨h1, h2, h3⟩ := tw_spec (P := fun q => decide (f p ≤ f q)) (l := (List.range 8).drop (p + 1))
  generalize (((List.range 8).drop (p + 1)).takeWhile fun q => decide (f p ≤ f q)).length = n at *
  rw [List.length_drop, List.length_range] at h3
  refine ⟨by omega, by omega, fun x hx hxn => ?_, fun hn => ?_⟩
  · have := h1 (x - (p + 1)) x (by omega) (by rw [List.getElem?_drop, show p + 1 + (x - (p + 1)) = x by omega, List.getElem?_range (by omega)])
    exact of_decide_eq_true this
  · have := h2 (p + 1 + n) (by rw [List.getElem?_drop, List.getElem?_range hn])
    have := of_decide_eq_false this
    omega
theorem ahd_bd {f : Nat → Int} {p : Nat} (hp : p < 8) : -1 ≤ ahd f p ∧ ahd f p < p ∧ (∀ x : Nat, ahd f p < x → x < p → f p < f x) ∧ (0 ≤ ahd f p → f (ahd f p).toNat ≤ f p) := by
  unfold ahd skp'
  obtain ⟨h1, h2, h3⟩ := tw_spec (P := fun q => decide (f p + 1 ≤ f q)) (l := (List.range 8).reverse.drop (8 - p))
  generalize (((List.range 8).reverse.drop (8 - p)).takeWhile fun q => decide (f p + 1 ≤ f q)).length = n at *
  rw [List.length_drop, List.length_reverse, List.length_range] at h3
  have hat : ∀ j, j < p → ((List.range 8).reverse.drop (8 - p))[j]? = some (p - 1 - j) := fun j hj => by
    rw [List.getElem?_drop, List.getElem?_reverse (by simp; omega), List.length_range, List.getElem?_range (by omega)]
    congr 1
    omega
  refine ⟨by omega, by omega, fun x hx hxp => ?_, fun hn => ?_⟩
  · have := h1 (p - 1 - x) x (by omega) (by rw [hat _ (by omega)]; congr 1; omega)
    have := of_decide_eq_true this
    omega
  · have := h2 (p - 1 - n) (hat n (by omega))
    have := of_decide_eq_false this
    rw [show (7 - ((8 - p + n : Nat) : Int)).toNat = p - 1 - n by omega]
    omega
theorem bd_of {f : Nat → Int} {p : Nat} (hp : p < 8) : Bd (rk f) p (ahd f p) (beh f p) := by
  obtain ⟨a1, a2, a3, a4⟩ := ahd_bd (f := f) hp
  obtain ⟨b1, b2, b3, b4⟩ := beh_bd (f := f) hp
  refine ⟨a1, a2, by omega, by omega, fun x h1 h2 h3 => ?_, fun h => ?_, fun h => ?_⟩
  · unfold rk
    rw [show ((p : Nat) : Int).toNat = p by omega]
    rcases Int.lt_or_gt_of_ne h3 with l | l
    · have := a3 x.toNat (by omega) (by omega)
      omega
    · have := b3 x.toNat (by omega) (by omega)
      omega
  · have := a4 h
    unfold rk
    rw [show ((p : Nat) : Int).toNat = p by omega]
    omega
  · have := b4 (by omega)
    unfold rk
    rw [show ((p : Nat) : Int).toNat = p by omega, show ((beh f p : Nat) : Int).toNat = beh f p by omega]
    omega
theorem bnds_at {f : Nat → Int} {p : Nat} (hp : p < 8) : (bnds f).getD p (0, 0) = (ahd f p, (beh f p : Int)) := by
  rw [List.getD_eq_getElem?_getD]
  unfold bnds
  rw [List.getElem?_map, List.getElem?_range hp]
  rfl
theorem bnds_len (f : Nat → Int) : (bnds f).length = 8 := by simp [bnds]
theorem bnds_ne {f : Nat → Int} : ∀ t ∈ bnds f, t.1 ≠ t.2 := by
  intro t ht
  obtain ⟨p, hp, rfl⟩ := List.mem_map.mp ht
  have h := bd_of (f := f) (List.mem_range.mp hp)
  have h1 := h.ap
  have h2 := h.pq
  intro e
  simp only at e
  omega
theorem Pof_mem {f : Nat → Int} {i x : Int} : x ∈ Pof (bnds f) i ↔ (0 ≤ i ∧ i < 8) ∧ (x = ahd f i.toNat ∨ x = (beh f i.toNat : Int)) ∧ 0 ≤ x ∧ x < 8 := by
  unfold Pof
  by_cases h : 0 ≤ i ∧ i < 8
  · rw [if_pos h, bnds_at (by omega)]
    unfold prs
    rw [List.mem_filter]
    simp only [List.mem_cons, List.not_mem_nil, or_false, Bool.and_eq_true, decide_eq_true_eq]
    constructor
    · rintro ⟨h1, h2, h3⟩
      exact ⟨h, h1, by omega, h3⟩
    · rintro ⟨_, h1, h2, h3⟩
      exact ⟨h1, by omega, h3⟩
  · rw [if_neg h]
    exact ⟨nofun, fun q => absurd q.1 h⟩
theorem bd_at {f : Nat → Int} {i : Int} (h : 0 ≤ i ∧ i < 8) : Bd (rk f) i (ahd f i.toNat) (beh f i.toNat) := by
  have := bd_of (f := f) (p := i.toNat) (by omega)
  rwa [show ((i.toNat : Nat) : Int) = i by omega] at this
theorem Pof_lt {f : Nat → Int} {j p : Int} (h : p ∈ Pof (bnds f) j) : rk f p < rk f j := by
  obtain ⟨hj, hp, h0, h8⟩ := Pof_mem.mp h
  have b := bd_at (f := f) hj
  rcases hp with rfl | rfl
  · exact b.la h0
  · exact b.lq h8
/-- o is lower than x and than all between the two -/
noncomputable def Low (r : Int → Int) (o x : Int) : Prop := o ≠ x ∧ ∀ y, min o x ≤ y → y ≤ max o x → y ≠ o → r o < r y
/-- what is closed under the bounds is closed under the lower ones -/
theorem low_in {f : Nat → Int} {D : Int → Prop} (hD : ∀ x, D x → ∀ p ∈ Pof (bnds f) x, D p) : ∀ (n : Nat) {o x : Int}, (x - o).natAbs ≤ n → 0 ≤ o → o < 8 → 0 ≤ x → x < 8 → Low (rk f) o x → (∀ p ∈ Pof (bnds f) x, D p) → D o
  | 0, o, x, hn, _, _, _, _, hl, _ => absurd (by omega : o = x) hl.1
  | n + 1, o, x, hn, h0, h8, x0, x8, hl, hp => by
    have b := bd_at (f := f) (i := x) ⟨x0, x8⟩
    have hox := hl.2 x (by omega) (by omega) (Ne.symm hl.1)
    rcases Int.lt_or_gt_of_ne hl.1 with l | l
    · have ha : o ≤ ahd f x.toNat := Int.not_lt.mp fun q => by
        have := b.hi o q (Int.lt_trans l b.pq) (Int.ne_of_lt l)
        omega
      have hm : ahd f x.toNat ∈ Pof (bnds f) x := Pof_mem.mpr ⟨⟨x0, x8⟩, .inl rfl, by omega, by have := b.ap; omega⟩
      have hd := hp _ hm
      by_cases e : o = ahd f x.toNat
      · rw [e]; exact hd
      · have hap := b.ap
        exact low_in hD n (x := ahd f x.toNat) (by omega) h0 h8 (by omega) (by omega) ⟨e, fun y h1 h2 h3 => hl.2 y (by omega) (by omega) h3⟩ (hD _ hd)
    · have hq : (beh f x.toNat : Int) ≤ o := Int.not_lt.mp fun q => by
        have := b.hi o (Int.lt_trans b.ap l) q (Int.ne_of_gt l)
        omega
      have hm : (beh f x.toNat : Int) ∈ Pof (bnds f) x := Pof_mem.mpr ⟨⟨x0, x8⟩, .inr rfl, by omega, by omega⟩
      have hd := hp _ hm
      by_cases e : o = (beh f x.toNat : Int)
      · rw [e]; exact hd
      · have hap := b.pq
        exact low_in hD n (x := (beh f x.toNat : Int)) (by omega) h0 h8 (by omega) (by omega) ⟨e, fun y h1 h2 h3 => hl.2 y (by omega) (by omega) h3⟩ (hD _ hd)
theorem Pof_low {f : Nat → Int} {x p : Int} (h : p ∈ Pof (bnds f) x) : Low (rk f) p x := by
  obtain ⟨hx, hp, h0, h8⟩ := Pof_mem.mp h
  have b := bd_at (f := f) hx
  have hlt := Pof_lt h
  have h1 := b.ap
  have h2 := b.pq
  rcases hp with rfl | rfl
  · refine ⟨Int.ne_of_lt h1, fun y hy1 hy2 hy3 => ?_⟩
    by_cases e : y = x
    · rw [e]; exact hlt
    · exact Int.lt_trans hlt (b.hi y (by omega) (by omega) e)
  · refine ⟨Int.ne_of_gt h2, fun y hy1 hy2 hy3 => ?_⟩
    by_cases e : y = x
    · rw [e]; exact hlt
    · exact Int.lt_trans hlt (b.hi y (by omega) (by omega) e)
/-- the lower ones of a place, all of them done or not -/
theorem low_iff {f : Nat → Int} {dn : List Int} (hD : ∀ x ∈ dn, ∀ p ∈ Pof (bnds f) x, p ∈ dn) {x : Int} (hx : 0 ≤ x ∧ x < 8) :
    (∀ o, 0 ≤ o → o < 8 → Low (rk f) o x → o ∈ dn) ↔ ∀ p ∈ Pof (bnds f) x, p ∈ dn := by
  constructor
  · intro h p hp
    have := Pof_in p hp
    exact h p this.1 this.2 (Pof_low hp)
  · intro h o h0 h8 hl
    exact low_in (D := fun y => y ∈ dn) hD 8 (by omega) h0 h8 hx.1 hx.2 hl h
section
variable {os : List Int}
theorem idx_take (hn : os.Nodup) {p : Int} (hp : p ∈ os) {j : Nat} : p ∈ os.take j ↔ os.idxOf p < j := by
  have h := idx_at hp
  constructor
  · intro q
    obtain ⟨i, hi⟩ := List.mem_iff_getElem?.mp q
    rw [List.getElem?_take] at hi
    by_cases hij : i < j
    · rw [if_pos hij] at hi
      have : os.idxOf p ≤ i := Nat.not_lt.mp fun l => h.2 i l hi
      omega
    · rw [if_neg hij] at hi; cases hi
  · intro q
    refine List.mem_iff_getElem?.mpr ⟨os.idxOf p, ?_⟩
    rw [List.getElem?_take, if_pos q]
    exact h.1
theorem idx_inj {p q : Int} (hp : p ∈ os) (hq : q ∈ os) (e : os.idxOf p = os.idxOf q) : p = q := by
  have h1 := (idx_at hp).1
  have h2 := (idx_at hq).1
  rw [e, h2] at h1
  exact (Option.some.inj h1).symm
/-- an order, by places -/
theorem lin_iff {P : Int → List Int} (hn : os.Nodup) (hk : ∀ i, 0 ≤ i → i < 8 → i ∈ os) (hP : ∀ i, ∀ p ∈ P i, 0 ≤ p ∧ p < 8) (hio : ∀ i ∈ os, 0 ≤ i ∧ i < 8) : Lin P os ↔ ∀ i ∈ os, ∀ p ∈ P i, os.idxOf p < os.idxOf i := by
  constructor
  · intro h i hi p hp
    have hb := hP i p hp
    exact (idx_take hn (hk p hb.1 hb.2)).mp (h _ i (idx_at hi).1 p hp)
  · intro h j i hj p hp
    have hi := List.mem_of_getElem? hj
    have hb := hP i p hp
    have hij : os.idxOf i ≤ j := Nat.not_lt.mp fun l => (idx_at hi).2 j l hj
    exact (idx_take hn (hk p hb.1 hb.2)).mpr (Nat.lt_of_lt_of_le (h i hi p hp) hij)
theorem gf_lt {low : Int} {x y : Int} (hx : 0 ≤ x ∧ x < 8) (hy : 0 ≤ y ∧ y < 8) (h : os.idxOf x < os.idxOf y) : rk (gfig os low) x < rk (gfig os low) y := by
  unfold rk gfig
  rw [show ((x.toNat : Nat) : Int) = x by omega, show ((y.toNat : Nat) : Int) = y by omega, Int.fmod_eq_emod_of_nonneg _ (by decide), Int.fmod_eq_emod_of_nonneg _ (by decide)]
  omega
/-- the order's own text has the bounds iff the order lets through -/
theorem ranked_iff {f : Nat → Int} {low : Int} (hn : os.Nodup) (hio : ∀ i ∈ os, 0 ≤ i ∧ i < 8) (hk : ∀ i, 0 ≤ i → i < 8 → i ∈ os) : bnds (gfig os low) = bnds f ↔ Lin (Pof (bnds f)) os := by
  rw [lin_iff hn hk (fun i p hp => Pof_in p hp) hio]
  have hgt : ∀ {x y : Int}, 0 ≤ x ∧ x < 8 → 0 ≤ y ∧ y < 8 → rk (gfig os low) x < rk (gfig os low) y → os.idxOf x < os.idxOf y := fun {x y} hx hy h => by
    rcases Nat.lt_trichotomy (os.idxOf x) (os.idxOf y) with l | e | l
    · exact l
    · have := idx_inj (hk x hx.1 hx.2) (hk y hy.1 hy.2) e
      rw [this] at h
      exact absurd h (Int.lt_irrefl _)
    · exact absurd h (Int.not_lt.mpr (Int.le_of_lt (gf_lt hy hx l)))
  constructor
  · intro h i hi p hp
    have hb := hio i hi
    rw [← h] at hp
    exact hgt (Pof_in p hp) hb (Pof_lt hp)
  · intro h
    refine List.map_congr_left fun p hp => ?_
    have hp := List.mem_range.mp hp
    have b := bd_of (f := f) hp
    have bg := bd_of (f := gfig os low) hp
    have hb : Bd (rk (gfig os low)) p (ahd f p) (beh f p) := by
      have hp' : (0 : Int) ≤ (p : Int) ∧ (p : Int) < 8 := by omega
      have hpo := hk p hp'.1 hp'.2
      refine ⟨b.a0, b.ap, b.pq, b.q8, fun x h1 h2 h3 => ?_, fun h1 => ?_, fun h1 => ?_⟩
      · have ha0 := b.a0
        have hq8 := b.q8
        have hx : 0 ≤ x ∧ x < 8 := by omega
        have hxo := hk x hx.1 hx.2
        refine gf_lt hp' hx ?_
        refine low_in (f := f) (D := fun y => y ∈ os ∧ os.idxOf y < os.idxOf x) (fun y hy q hq => ?_) 8 (o := p) (x := x) (by omega) hp'.1 hp'.2 hx.1 hx.2 ⟨Ne.symm h3, fun y hy1 hy2 hy3 => b.hi y ?_ ?_ hy3⟩ (fun q hq => ?_) |>.2
        · have hqb := Pof_in q hq
          exact ⟨hk q hqb.1 hqb.2, Nat.lt_trans (h y hy.1 q hq) hy.2⟩
        · have := b.ap; omega
        · have := b.pq; omega
        · have hqb := Pof_in q hq
          exact ⟨hk q hqb.1 hqb.2, h x hxo q hq⟩
      · have := b.ap
        refine gf_lt ⟨h1, by omega⟩ hp' (h p hpo _ (Pof_mem.mpr ⟨hp', .inl ?_, h1, by omega⟩))
        rw [show ((p : Nat) : Int).toNat = p by omega]
      · have := b.pq
        refine gf_lt ⟨by omega, h1⟩ hp' (h p hpo _ (Pof_mem.mpr ⟨hp', .inr ?_, by omega, h1⟩))
        rw [show ((p : Nat) : Int).toNat = p by omega]
    obtain ⟨e1, e2⟩ := bg.uniq hb
    rw [e1, e2]
end
end Pla
section Lwr
open PySem PySem.W PyProof.Rows PySem.Calls
section
variable {M : Model} {prog : Program} {w : World} {A : Around} {E : Value → Shared → Prop} {b s : Shared} {fs : List Frm} {led led' : List (Addr × O)} {env : Env}
theorem isl_ints : ∀ {us : List Value} {ns : List Int}, IntsAre us ns → Isl us (vints ns) := by
  intro us ns hi
  induction hi with
  | nil => exact .nil
  | cons n t _ ih => exact .cons .int ih
/-- every k-th of a list that was there before -/
theorem l_step {value lo st : Expr} {p : Pos} {l : Addr} {us : List Value} {ns : List Int} {Q : Value → Shared → Prop} (hL : b.heap.IsList l us.toArray) (hI : IntsAre us ns) (hz : ns.length ≤ 1000)
    (h : wpAny (model prog w) A (eval lo env) (fun vl s₂ => wpAny (model prog w) A (eval st env) (fun vs s₃ => ∃ (i : Int) (t : Tok) (j : Int) (u : Tok) (fs : List Frm) (led : List (Addr × O)), vl = .int i t ∧ vs = .int j u ∧ j ≠ 0 ∧ St b fs led s₃ ∧
      ∀ c ys s', ys.length ≤ ns.length → St b fs ((c, .list (vints ys)) :: led) s' → Q (.ref c) s') E s₂) E s) (ht : ∀ r, letTemporaryGo value (.ref l) r = pure () := by intro _; rfl) :
    wpAny (model prog w) A (eval (.Slice (some lo) none (some st) p) env) (fun i s₂ => wpAny (model prog w) A (subscriptTail value (.Slice (some lo) none (some st) p) (.ref l) i) Q E s₂) E s := by
  refine wpAny_Slice (wpAny_mono h (fun vl s₂ h₂ => wpAny_pure (wpAny_mono h₂ (fun vs s₃ h₃ => ?_) fun _ _ z => z)) fun _ _ z => z)
  obtain ⟨i, t, j, u, fs, led, rfl, rfl, hj, S, k⟩ := h₃
  have hp := hI.pick (some i) none (some j)
  have hle := slicePick_size_le us.toArray (some i) none (some j)
  have h1 := hp.length
  have h2 := hI.length
  have h3 : (slicePick us.toArray (some i) none (some j)).toList.length = (slicePick us.toArray (some i) none (some j)).size := Array.length_toList
  have h4 : us.toArray.size = us.length := List.size_toArray
  have hL' : s₃.heap.IsList l us.toArray := by obtain ⟨n, hn, r⟩ := hL; exact ⟨n, S.keep _ _ hn, r⟩
  exact l_core S hL' (by omega) (.int _ _) .none (.int _ _) (by simpa using hj) (isl_ints hp) (fun c s' S' => k c _ s' (by omega) S') (by rfl) ht
theorem as_celc {elt : Expr} {gens : List Comprehension} {sc : Scope} {pos spos py : Pos} {y : Str} {c : Addr} {cs : List (Str × Addr)} {Q : Flow → Shared → Prop} (C : Own env cs) (hx : (y, c) ∈ cs)
    (h : wpAny M A (eval (.ListComp elt gens sc pos) env) (fun v s₁ => wpAny M A (storeName env y v) (fun _ => Q .next) E s₁) E s) :
    wpAny M A (exec (.Assign [.Name y py] (.ListComp elt gens sc pos) spos) env) Q E s := by
  refine wpAny_Assign_Name h ?_
  have h2 : (env.kindOf y == some .local) = false := by rw [C.own _ hx]; rfl
  show (pure (env.blockKind == .function && env.kindOf y == some .local && py.line == (Expr.ListComp elt gens sc pos).pos.line && !(sc.names.any fun (n, k) => n == y && (k == .local || k == .cell))) : Sem Bool) = pure false
  rw [h2, Bool.and_false, Bool.false_and, Bool.false_and]
/-- the code from a statement on -/
theorem x_from {l : List Stmt} {s1 : Stmt} {rest : List Stmt} {Q : Flow → Shared → Prop} (e : l = s1 :: rest) (h : wpAny M A (execs (s1 :: rest) env) Q E s) : wpAny M A (execs l env) Q E s := by rw [e]; exact h
end
/-- the sizes of the numbers drawn -/
theorem noPy64 {N : Int} {i : Nat} (hi : i < 8) : Builtin.divisionGoesByPylong N (64 ^ (7 - i)) = false := by
  rcases (by omega : i = 0 ∨ i = 1 ∨ i = 2 ∨ i = 3 ∨ i = 4 ∨ i = 5 ∨ i = 6 ∨ i = 7) with rfl | rfl | rfl | rfl | rfl | rfl | rfl | rfl <;> exact PyProof.noPylong_of_log2 (by decide +kernel)
noncomputable def siz (i : Nat) : Int := if i < 6 then 256 else if i = 6 then 40320 else 56
theorem span_at {i : Nat} (h : i < 8) : (span 0 1 8)[i]? = some (i : Int) := by
  match i, h with
  | 0, _ | 1, _ | 2, _ | 3, _ | 4, _ | 5, _ | 6, _ | 7, _ => rfl
  | i + 8, h => omega
/-- the keys between two places -/
noncomputable def sgm (r : Int → Int) (o x : Nat) : List Int := (((span 0 1 8).map r).drop (min o x)).take (max o x + 1 - min o x)
theorem sgm_mem {r : Int → Int} {o x : Nat} (ho : o < 8) (hx : x < 8) {y : Int} : y ∈ sgm r o x ↔ ∃ z : Nat, min o x ≤ z ∧ z ≤ max o x ∧ y = r z := by
  unfold sgm
  constructor
  · intro h
    obtain ⟨i, hi⟩ := List.mem_iff_getElem?.mp h
    rw [List.getElem?_take] at hi
    by_cases hl : i < max o x + 1 - min o x
    · rw [if_pos hl, List.getElem?_drop, List.getElem?_map, span_at (by omega)] at hi
      exact ⟨min o x + i, by omega, by omega, (Option.some.inj hi).symm⟩
    · rw [if_neg hl] at hi; cases hi
  · rintro ⟨z, h1, h2, rfl⟩
    refine List.mem_iff_getElem?.mpr ⟨z - min o x, ?_⟩
    rw [List.getElem?_take, if_pos (by omega), List.getElem?_drop, List.getElem?_map, show min o x + (z - min o x) = z by omega, span_at (by omega)]
    rfl
theorem sgm_pos {r : Int → Int} {o x : Nat} (ho : o < 8) (hx : x < 8) : 0 < (sgm r o x).length := List.length_pos_of_mem ((sgm_mem ho hx).mpr ⟨o, by omega, by omega, rfl⟩)
noncomputable def spn (r : Int → Int) (x i : Nat) : List (Nat × List Int) := ((List.range i).filter fun o => decide (o ≠ x)).map fun o => (o, sgm r o x)
theorem spn_snoc (r : Int → Int) (x i : Nat) : spn r x (i + 1) = spn r x i ++ if i ≠ x then [(i, sgm r i x)] else [] := by
  unfold spn
  rw [List.range_succ, List.filter_append, List.map_append]
  congr 1
  by_cases h : i = x
  · simp [h]
  · simp [h]
theorem spn_mem {r : Int → Int} {x i : Nat} {t : Nat × List Int} (h : t ∈ spn r x i) : t.1 < i ∧ t.1 ≠ x ∧ t.2 = sgm r t.1 x := by
  unfold spn at h
  obtain ⟨o, ho, rfl⟩ := List.mem_map.mp h
  obtain ⟨h1, h2⟩ := List.mem_filter.mp ho
  exact ⟨List.mem_range.mp h1, of_decide_eq_true h2, rfl⟩
/-- the lower ones of a place -/
noncomputable def lwf (r : Int → Int) (l : List (Nat × List Int)) : List Int := (l.filter fun t => decide (∀ y ∈ t.2, r (t.1 : Nat) ≤ y)).map fun t => (t.1 : Int)
theorem lwf_snoc (r : Int → Int) (l : List (Nat × List Int)) (t : Nat × List Int) : lwf r (l ++ [t]) = lwf r l ++ if ∀ y ∈ t.2, r (t.1 : Nat) ≤ y then [(t.1 : Int)] else [] := by
  unfold lwf
  rw [List.filter_append, List.map_append]
  congr 1
  by_cases h : ∀ y ∈ t.2, r (t.1 : Nat) ≤ y
  · rw [if_pos h, List.filter_cons, decide_eq_true h]; rfl
  · rw [if_neg h, List.filter_cons, decide_eq_false h]; rfl
theorem rk_inj {f : Nat → Int} {x y : Int} (hx : 0 ≤ x ∧ x < 8) (hy : 0 ≤ y ∧ y < 8) (h : rk f x = rk f y) : x = y := by
  unfold rk at h
  omega
theorem lwf_mem {f : Nat → Int} {x : Nat} (hx : x < 8) {o : Int} : o ∈ lwf (rk f) (spn (rk f) x 8) ↔ (0 ≤ o ∧ o < 8) ∧ Low (rk f) o x := by
  unfold lwf
  constructor
  · intro h
    obtain ⟨t, ht, rfl⟩ := List.mem_map.mp h
    obtain ⟨h1, h2⟩ := List.mem_filter.mp ht
    obtain ⟨m1, m2, m3⟩ := spn_mem h1
    have h2 := of_decide_eq_true h2
    rw [m3] at h2
    refine ⟨by omega, by omega, fun y hy1 hy2 hy3 => ?_⟩
    have := h2 (rk f y) ((sgm_mem m1 hx).mpr ⟨y.toNat, by omega, by omega, by rw [show ((y.toNat : Nat) : Int) = y by omega]⟩)
    have hne : rk f (t.1 : Nat) ≠ rk f y := fun e => hy3 (rk_inj (by omega) (by omega) e).symm
    omega
  · rintro ⟨h8, hne, hl⟩
    refine List.mem_map.mpr ⟨(o.toNat, sgm (rk f) o.toNat x), List.mem_filter.mpr ⟨?_, ?_⟩, by show ((o.toNat : Nat) : Int) = o; omega⟩
    · exact List.mem_map.mpr ⟨o.toNat, List.mem_filter.mpr ⟨List.mem_range.mpr (by omega), decide_eq_true (by omega)⟩, rfl⟩
    · refine decide_eq_true fun y hy => ?_
      obtain ⟨z, z1, z2, rfl⟩ := (sgm_mem (by omega) hx).mp hy
      show rk f ((o.toNat : Nat) : Int) ≤ _
      rw [show ((o.toNat : Nat) : Int) = o by omega]
      by_cases e : (z : Int) = o
      · rw [e]; exact Int.le_refl _
      · exact Int.le_of_lt (hl z (by omega) (by omega) e)
noncomputable abbrev lled (lows : List (Addr × List Int)) (rest : List (Addr × O)) : List (Addr × O) := (lows.map fun t => (t.1, O.list (vints t.2))).reverse ++ rest
theorem lled_snoc (lows : List (Addr × List Int)) (t : Addr × List Int) (rest : List (Addr × O)) : lled (lows ++ [t]) rest = (t.1, .list (vints t.2)) :: lled lows rest := by simp [lled]
/-- a span: its pair, its place, its list -/
noncomputable abbrev spl : List (Addr × Addr × Nat × List Int) → List (Addr × O) → List (Addr × O)
  | [], rest => rest
  | t :: r, rest => (t.1, .tuple [.int (t.2.2.1 : Nat), .ref t.2.1]) :: (t.2.1, .list (vints t.2.2.2)) :: spl r rest
theorem mem_spl {rest : List (Addr × O)} : ∀ {sp : List (Addr × Addr × Nat × List Int)} {t}, t ∈ sp → (t.1, O.tuple [.int (t.2.2.1 : Nat), .ref t.2.1]) ∈ spl sp rest ∧ (t.2.1, O.list (vints t.2.2.2)) ∈ spl sp rest
  | a :: sp, t, h => by
    rcases List.mem_cons.mp h with rfl | h
    · exact ⟨.head _, .tail _ (.head _)⟩
    · have := mem_spl (rest := rest) h
      exact ⟨.tail _ (.tail _ this.1), .tail _ (.tail _ this.2)⟩
theorem mem_spl' {rest : List (Addr × O)} {p : Addr × O} (h : p ∈ rest) : ∀ {sp : List (Addr × Addr × Nat × List Int)}, p ∈ spl sp rest
  | [] => h
  | a :: sp => .tail _ (.tail _ (mem_spl' h))
theorem sub_spl (rest : List (Addr × O)) : ∀ sp : List (Addr × Addr × Nat × List Int), rest.Sublist (spl sp rest)
  | [] => .refl _
  | a :: sp => .cons _ (.cons _ (sub_spl rest sp))
end Lwr
section Lwp
/-- those not done yet of a place's lower ones -/
noncomputable def lft (l dn : List Int) : List Int := l.filter fun o => !dn.contains o
/-- the free places -/
noncomputable def fre (r : Int → Int) (dn : List Int) (i : Nat) : List Int := ((span 0 1 8).take i).filter fun x => decide (lft (lwf r (spn r x.toNat 8)) dn = [])
noncomputable def frd (l dn : List Int) : List Int := l.filter fun x => !dn.contains x
theorem lft_nil {l dn : List Int} : lft l dn = [] ↔ ∀ o ∈ l, o ∈ dn := by
  unfold lft
  rw [List.filter_eq_nil_iff]
  simp
theorem lft_snoc (l dn : List Int) (x : Int) : lft (l ++ [x]) dn = lft l dn ++ if dn.contains x then [] else [x] := by
  unfold lft
  rw [List.filter_append]
  congr 1
  rw [List.filter_cons]
  cases h : dn.contains x <;> rfl
theorem frd_snoc (l dn : List Int) (x : Int) : frd (l ++ [x]) dn = frd l dn ++ if dn.contains x then [] else [x] := lft_snoc l dn x
theorem fre_succ {r : Int → Int} {dn : List Int} {i : Nat} (hi : i < 8) : fre r dn (i + 1) = fre r dn i ++ if lft (lwf r (spn r i 8)) dn = [] then [(i : Int)] else [] := by
  unfold fre
  rw [List.take_add_one, span_at hi, Option.toList_some, List.filter_append]
  congr 1
  by_cases h : lft (lwf r (spn r i 8)) dn = [] <;> simp [h]
theorem fre_len (r : Int → Int) (dn : List Int) (i : Nat) : (fre r dn i).length ≤ 8 := by
  unfold fre
  refine Nat.le_trans (List.length_filter_le _ _) ?_
  rw [List.length_take, span_len]; omega
theorem span_mem {x : Int} : x ∈ span 0 1 8 ↔ 0 ≤ x ∧ x < 8 := by
  constructor
  · intro h
    obtain ⟨i, hi⟩ := List.mem_iff_getElem?.mp h
    obtain ⟨e, hl⟩ := span_get hi
    omega
  · intro h
    refine List.mem_iff_getElem?.mpr ⟨x.toNat, ?_⟩
    rw [span_at (by omega)]
    congr 1; omega
theorem fre_mem {r : Int → Int} {dn : List Int} {x : Int} : x ∈ fre r dn 8 ↔ (0 ≤ x ∧ x < 8) ∧ ∀ o ∈ lwf r (spn r x.toNat 8), o ∈ dn := by
  unfold fre
  rw [show (span 0 1 8).take 8 = span 0 1 8 from rfl, List.mem_filter, span_mem, decide_eq_true_eq, lft_nil]
theorem sort_eq : ∀ {a b : List Int}, a.Pairwise (· ≤ ·) → a.Nodup → b.Pairwise (· < ·) → (∀ x, x ∈ a ↔ x ∈ b) → a = b
  | [], [], _, _, _, _ => rfl
  | [], y :: b, _, _, _, h => absurd ((h y).mpr (.head _)) List.not_mem_nil
  | x :: a, [], _, _, _, h => absurd ((h x).mp (.head _)) List.not_mem_nil
  | x :: a, y :: b, h1, h2, h3, h => by
    have p1 := List.pairwise_cons.mp h1
    have p2 := List.nodup_cons.mp h2
    have p3 := List.pairwise_cons.mp h3
    have e : x = y := by
      rcases List.mem_cons.mp ((h x).mp (.head _)) with q | q
      · exact q
      · rcases List.mem_cons.mp ((h y).mpr (.head _)) with q' | q'
        · exact q'.symm
        · have := p1.1 y q'
          have := p3.1 x q
          omega
    subst e
    congr 1
    refine sort_eq p1.2 p2.2 p3.2 fun z => ?_
    constructor
    · intro hz
      rcases List.mem_cons.mp ((h z).mp (.tail _ hz)) with q | q
      · exact absurd (q ▸ hz) p2.1
      · exact q
    · intro hz
      rcases List.mem_cons.mp ((h z).mpr (.tail _ hz)) with q | q
      · have := p3.1 z hz
        omega
      · exact q
/-- those that are out are the free places not done -/
theorem out_eq {f : Nat → Int} {K : List Int} {ff : Int → Int} {g : Int → List Int} {dn out ms : List Int} (S : Sok (Pof (bnds f)) K ff g dn out) (hp : ms.Perm out) (hs : ms.Pairwise (· ≤ ·)) : ms = frd (fre (rk f) dn 8) dn := by
  refine sort_eq hs (hp.nodup_iff.mpr S.on) ?_ fun x => ?_
  · unfold frd fre
    rw [show (span 0 1 8).take 8 = span 0 1 8 from rfl]
    exact (show (span 0 1 8).Pairwise (· < ·) by decide).filter _ |>.filter _
  · unfold frd
    rw [hp.mem_iff, S.om, List.mem_filter, fre_mem, S.ky]
    have hc : (!dn.contains x) = true ↔ x ∉ dn := by simp
    rw [hc]
    constructor
    · rintro ⟨h8, hx, h⟩
      refine ⟨⟨h8, fun o ho => ?_⟩, hx⟩
      have := (lwf_mem (x := x.toNat) (by omega)).mp ho
      rw [show ((x.toNat : Nat) : Int) = x by omega] at this
      exact (low_iff S.cl h8).mpr h o this.1.1 this.1.2 this.2
    · rintro ⟨⟨h8, h⟩, hx⟩
      refine ⟨h8, hx, (low_iff S.cl h8).mp fun o h1 h2 h3 => h o ((lwf_mem (by omega)).mpr ⟨⟨h1, h2⟩, by rwa [show ((x.toNat : Nat) : Int) = x by omega]⟩)⟩
theorem all_le : ∀ {n : Nat} {l : List Int}, (∀ i : Nat, i < n → (i : Int) ∈ l) → n ≤ l.length
  | 0, _, _ => Nat.zero_le _
  | n + 1, l, h => by
    have hn := h n (Nat.lt_succ_self n)
    have ih := all_le (n := n) (l := l.erase (n : Int)) fun i hi => (List.mem_erase_of_ne (by omega)).mpr (h i (by omega))
    rw [List.length_erase_of_mem hn] at ih
    have := List.length_pos_of_mem hn
    omega
theorem min_ex {r : Int → Int} : ∀ {l : List Int}, l ≠ [] → ∃ x ∈ l, ∀ y ∈ l, r x ≤ r y
  | [], h => absurd rfl h
  | [x], _ => ⟨x, .head _, fun y hy => by rcases List.mem_singleton.mp hy with rfl; exact Int.le_refl _⟩
  | x :: y :: l, _ => by
    obtain ⟨z, hz, h⟩ := min_ex (r := r) (l := y :: l) (by simp)
    by_cases hx : r x ≤ r z
    · exact ⟨x, .head _, fun q hq => by
        rcases List.mem_cons.mp hq with rfl | hq
        · exact Int.le_refl _
        · exact Int.le_trans hx (h q hq)⟩
    · exact ⟨z, .tail _ hz, fun q hq => by
        rcases List.mem_cons.mp hq with rfl | hq
        · omega
        · exact h q hq⟩
/-- something is out as long as not all is done -/
theorem out_ne {f : Nat → Int} {K : List Int} {ff : Int → Int} {g : Int → List Int} {dn out : List Int} (S : Sok (Pof (bnds f)) K ff g dn out) (hl : dn.length < 8) : out ≠ [] := by
  have hne : (span 0 1 8).filter (fun x => !dn.contains x) ≠ [] := fun e => by
    have : 8 ≤ dn.length := all_le fun i hi => by
      have := List.filter_eq_nil_iff.mp e (i : Int) (span_mem.mpr ⟨by omega, by omega⟩)
      simpa using this
    omega
  obtain ⟨x, hx, hm⟩ := min_ex (r := rk f) hne
  obtain ⟨hx8, hxd⟩ := List.mem_filter.mp hx
  have hx8 := span_mem.mp hx8
  have : x ∈ out := (S.om x).mpr ⟨(S.ky x).mpr hx8, by simpa using hxd, fun p hp => by
    refine Classical.byContradiction fun hpd => ?_
    have hp8 := Pof_in p hp
    have := hm p (List.mem_filter.mpr ⟨span_mem.mpr hp8, by simpa using hpd⟩)
    have := Pof_lt hp
    omega⟩
  intro e
  rw [e] at this
  cases this
theorem vints_erase : ∀ {l : List Int} {i : Nat}, (vints l).eraseIdx i = vints (l.eraseIdx i)
  | [], _ => rfl
  | a :: l, 0 => rfl
  | a :: l, i + 1 => congrArg (V.int a :: ·) (vints_erase (l := l) (i := i))
/-- an order of eight places has them all -/
theorem all_in {os : List Int} (hn : os.Nodup) (h8 : os.length = 8) (hi : ∀ i ∈ os, 0 ≤ i ∧ i < 8) {i : Int} (h0 : 0 ≤ i) (h1 : i < 8) : i ∈ os := by
  refine Classical.byContradiction fun h => ?_
  have := nodup_len 8 (List.nodup_cons.mpr ⟨h, hn⟩) fun x hx => by
    rcases List.mem_cons.mp hx with rfl | hx
    · exact ⟨h0, h1⟩
    · exact hi x hx
  rw [List.length_cons] at this
  omega
end Lwp
local macro_rules | `(tactic| walk_at "ok") => `(tactic| with_reducible first | exact ok_ref | exact ok_int | exact ok_none | assumption)
local macro_rules | `(tactic| walk_at "lk") => `(tactic| with_reducible ((repeat (first | exact Lk.here | apply Lk.there)); done))
local macro_rules | `(tactic| walk_at "up") => `(tactic| with_reducible ((repeat (first | exact Up.here | apply Up.there)); done))
local macro_rules | `(tactic| walk_at "mem") => `(tactic| with_reducible first | assumption | ((repeat (first | exact List.mem_cons_self | apply List.mem_cons_of_mem)); done))
local macro_rules | `(tactic| walk_at "upd") => `(tactic| with_reducible ((repeat (first | exact Upd.here | apply Upd.there)); done))
local macro_rules | `(tactic| walk_at "is") => `(tactic| with_reducible first | exact Is.int | exact Is.ref | exact Is.str | exact Is.none | exact Is.bool | exact Is.bytes | exact Is.type | assumption)
local macro_rules | `(tactic| walk_at "isl") => `(tactic| with_reducible ((repeat (first | exact Isl.nil | (apply Isl.cons; walk_at "is"))); done))
local macro_rules | `(tactic| walk_at "all") => `(tactic| with_reducible first | refine all_ref ?_ | (refine all_int ?_; intro _) | (refine all_str ?_; intro _) | refine all_none ?_ | refine all_bool ?_ | (refine all_bytes ?_; intro _) | refine all_type ?_ | refine all_bi ?_)
local macro_rules | `(tactic| walk_at "st") => `(tactic| with_reducible first
  | refine' then_next ?_
  | refine' then_ret ?_
  | refine' then_brk ?_
  | refine' then_cont ?_
  | refine' x_break ?_
  | refine' x_continue ?_
  | refine' lp_ret ?_
  | refine' lp_brk ?_
  | (refine' x_for ?_ ?a1; (case a1 => intro _; kernel_rfl))
  | refine' x_cons ?_
  | refine' x_nil ?_
  | ((first | refine' ev_loc ?a1 ?a2 ?a3 ?_ | refine' ld_loc ?a1 ?a2 ?a3 ?_); (case a1 => assumption); (case a2 => assumption); (case a3 => walk_at "lk"); walk_at "all")
  | (refine' st_loc ?a1 ?a2 ?a3 ?a4 ?_; (case a1 => assumption); (case a2 => assumption); (case a3 => walk_at "is"); (case a4 => walk_at "up"); intro _ _)
  | (refine' ev_cel ?a1 ?a2 ?a3 ?a4 ?_; (case a1 => assumption); (case a2 => assumption); (case a3 => walk_at "mem"); (case a4 => walk_at "mem"); walk_at "all")
  | (refine' st_cel ?a1 ?a2 ?a3 ?a4 ?a5 ?_; (case a1 => assumption); (case a2 => assumption); (case a3 => walk_at "mem"); (case a4 => walk_at "is"); (case a5 => walk_at "upd"); intro _ _)
  | ((first | refine' ev_int ?a1 ?_ | refine' ev_str ?a1 ?_ | refine' ev_neg ?a1 ?_ | refine' o_add ?a1 ?_ | refine' o_sub ?a1 ?_ | refine' o_iadd ?a1 ?_ | refine' o_isub ?a1 ?_ | refine' m_range ?a1 ?_ | refine' m_set ?a1 ?_ | refine' o_and ?a1 ?_ | refine' o_or ?a1 ?_ | refine' mk_dict ?a1 ?_); (case a1 => assumption); intro _ _ _)
  | (refine' ev_glb ?a1 ?a2 ?a3 ?a4 ?a5 ?_; (case a1 => assumption); (case a2 => assumption); (case a3 => assumption); (case a4 => walk_at "mem"); (case a5 => walk_at "mem"); walk_at "all")
  | (refine' ev_blt ?a1 ?a2 ?a3 ?a4 ?a5 ?_; (case a1 => assumption); (case a2 => assumption); (case a3 => assumption); (case a4 => walk_at "mem"); (case a5 => walk_at "mem"); walk_at "all")
  | refine' ev_none ?_
  | refine' ev_bool ?_
  | refine' x_return ?_
  | refine' x_if ?_
  | refine' x_pass ?_
  | (refine' x_expr ?a1 ?_ ?a2; (case a1 => assumption); (case a2 => kernel_rfl))
  | ((first | refine' tr_chain ?_ ?a1 | refine' wpAny_isTrue_Compare1 ?_ ?a1 | refine' wpAny_Compare1 ?_ ?a1 | refine' wpAny_Assign_Name ?_ ?a1 | refine' plainObj_wpAny_Assign_Attribute ?_ ?a1 | refine' Attribute_Name_ ?_ ?a1 | refine' Attribute_any_ ?_ ?a1 | refine' ev_meth ?_ ?a1 | refine' ev_call ?_ ?a1 | refine' wpAny_Assign_Subscript ?_ ?a1); (case a1 => kernel_rfl))
  | refine' wpAny_BinOp ?_
  | refine' wpAny_NamedExpr ?_
  | refine' wpAny_assign_Name ?_
  | refine' a_sub ?_
  | (refine' x_two ?_ ?a1 ?a2; (case a1 => kernel_rfl); (case a2 => kernel_rfl))
  | refine' wpAny_AugAssign_Name ?_
  | refine' wpAny_AugAssign_AttributeAny ?_
  | refine' Subscript_ ?_
  | refine' t_bool ?_
  | refine' t_none ?_
  | refine' c_isn0 ?_
  | refine' c_nisn0 ?_
  | refine' c_isr ?_
  | refine' c_nisr ?_
  | refine' c_eq ?_
  | refine' c_ne ?_
  | refine' c_lt ?_
  | refine' c_gt ?_
  | refine' c_ge ?_
  | refine' x_del ?_
  | refine' cf_nil ?_
  | refine' cf_one ?_
  | refine' tr_or ?_
  | ((first | refine' wpAny_isTrue_value ?_ ?a1 | refine' sp_cons ?_ ?a1 | refine' cwm1 ?_ ?a1 | refine' cwb1 ?_ ?a1 | refine' cwt1 ?_ ?a1); (case a1 => kernel_rfl))
  | refine' e_if ?_
  | refine' c_isty ?_
  | refine' c_isb ?_
  | refine' c_isi ?_
  | refine' m_type_bytes ?_
  | refine' m_type_bool ?_
  | refine' List_ ?_
  | refine' Tuple_ ?_
  | refine' sp_nil ?_
  | ((first | refine' mk_list ?a1 ?a2 ?a3 ?_ | refine' mk_tuple ?a1 ?a2 ?a3 ?_); (case a1 => assumption); (case a2 => walk_at "isl"); (case a3 => exact Nat.le_of_ble_eq_true rfl); intro _ _ _)
  | refine' cwm0 ?_
  | (refine' cwb2 ?_ ?a1 ?a2; (case a1 => kernel_rfl); (case a2 => kernel_rfl))
  | refine' cwt0 ?_
  | (refine' cwt2 ?_ ?a1 ?a2; (case a1 => kernel_rfl); (case a2 => kernel_rfl))
  | (refine' cwt3 ?_ ?a1 ?a2 ?a3; (case a1 => kernel_rfl); (case a2 => kernel_rfl); (case a3 => kernel_rfl))
  | (refine' cwf0 ?a1 ?a2 (KOk.keep ?a3 _ ?a4) ?_; (case a1 => assumption); (case a2 => assumption); (case a3 => assumption); (case a4 => walk_at "mem"))
  | (refine' cwf1 ?a1 (KOk.keep ?a2 _ ?a3) ?_ ?a4; (case a1 => assumption); (case a2 => assumption); (case a3 => walk_at "mem"); (case a4 => kernel_rfl))
  | (refine' cwf2 ?a1 (KOk.keep ?a2 _ ?a3) ?_ ?a4 ?a5; (case a1 => assumption); (case a2 => assumption); (case a3 => walk_at "mem"); (case a4 => kernel_rfl); (case a5 => kernel_rfl))
  | (refine' cwf3 ?a1 (KOk.keep ?a2 _ ?a3) ?_ ?a4 ?a5 ?a6; (case a1 => assumption); (case a2 => assumption); (case a3 => walk_at "mem"); (case a4 => kernel_rfl); (case a5 => kernel_rfl); (case a6 => kernel_rfl))
  | (refine' cwg0 ?a1 ?a2 (KOk.keep ?a3 _ ?a4) ?_; (case a1 => assumption); (case a2 => assumption); (case a3 => assumption); (case a4 => walk_at "mem"))
  | (refine' cwg1 ?a1 (KOk.keep ?a2 _ ?a3) ?_ ?a4; (case a1 => assumption); (case a2 => assumption); (case a3 => walk_at "mem"); (case a4 => kernel_rfl))
  | (refine' And.intro (St.keep ?a1) ?_; (case a1 => assumption))
  | (refine' at_get ?a1 ?a2 (KOk.kc174 ?a3) (KOk.hd174 ?a4) (KOk.fi174 ?a5 _ ?a6) sNs_nd ?a7 ?a8 ?a9 ?a10 ?_; (case a1 => assumption); (case a2 => assumption); (case a3 => assumption); (case a4 => assumption); (case a5 => assumption); (case a6 => walk_at "mem"); (case a7 => walk_at "mem"); (case a8 => walk_at "mem"); (case a9 => walk_at "lk"); (case a10 => walk_at "ok"); intro _ _; walk_at "all")
  | (refine' at_set ?a1 ?a2 (KOk.kc174 ?a3) (KOk.hd174 ?a4) (KOk.ta174 ?a5 _ ?a6) sNs_nd ?a7 ?a8 ?a9 ?a10 ?a11 ?_; (case a1 => assumption); (case a2 => assumption); (case a3 => assumption); (case a4 => assumption); (case a5 => assumption); (case a6 => walk_at "mem"); (case a7 => walk_at "mem"); (case a8 => walk_at "upd"); (case a9 => walk_at "is"); (case a10 => walk_at "up"); (case a11 => decide); intro _ _)
  | (refine' at_meth ?a1 ?a2 (KOk.kc174 ?a3) (KOk.me174 ?a4 (_, _) ?a5).1 (KOk.me174 ?a6 (_, _) ?a7).2.1 ?a8 ?a9 (KOk.me174 ?a10 (_, _) ?a11).2.2 ?_; (case a1 => assumption); (case a2 => assumption); (case a3 => assumption); (case a4 => assumption); (case a5 => walk_at "mem"); (case a6 => assumption); (case a7 => walk_at "mem"); (case a8 => walk_at "mem"); (case a9 => walk_at "mem"); (case a10 => assumption); (case a11 => walk_at "mem"))
  | ((first | refine' ls_meth ?a1 PySem.F.slot_list_append PySem.F.type_list_append ?a2 ?_ | refine' ls_meth ?a1 PySem.F.slot_list_pop PySem.F.type_list_pop ?a2 ?_ | refine' ls_meth ?a1 PySem.F.slot_list_clear PySem.F.type_list_clear ?a2 ?_ | refine' ls_meth ?a1 PySem.F.slot_list_extend PySem.F.type_list_extend ?a2 ?_ | refine' ls_meth ?a1 PySem.F.slot_list_remove PySem.F.type_list_remove ?a2 ?_ | refine' ls_meth ?a1 PySem.F.slot_list_index PySem.F.type_list_index ?a2 ?_ | refine' di_meth ?a1 PySem.F.slot_dict_get PySem.F.type_dict_get ?a2 ?_); (case a1 => assumption); (case a2 => walk_at "mem")))
section P1
variable {K : Frag} {prog : Program} {w : World} {A : Around} {E : Value → Shared → Prop} {b s : Shared} {fs : List Frm} {led : List (Addr × O)}
set_option maxHeartbeats 400000
theorem init77 {x D : Addr} {i : Int} {t : Tok} {n : Nat} {Ls : List Addr} {Q : Value → Shared → Prop} (g : Gd b) (X : K.In b.heap) (hK : KOk K) (hA : Ar A (n + 1) Ls)
    (S : St b fs ((x, .node 77 D []) :: (D, .idict [] []) :: led) s)
    (k : ∀ a s', St b fs ((a, .list []) :: (x, .node 77 D [some (.int i), some (.int 0), some (.ref a)]) :: (D, .idict [] []) :: led) s' → Q .none s') :
    codeAny (model prog w) A (.call (.ref 73) ⟨[.ref x, .int i t], []⟩) (Ret Q) s := by
  refine code_at S g X hA hK.f73 (hB := rfl) (pn := ["self", "node"]) (rn := []) (gs' := []) (xs := [.ref x, .int i]) (Loc.of (by decide +kernel)) (.cons .ref (.cons .int .nil)) (by intros; kernel_rfl) rfl (by kernel_rfl) ?_
  clear S hA
  intro env A L s hl hA S
  simp only [List.cons_append, List.nil_append, List.map_cons, List.map_nil] at S hl
  repeat walk_at "st"
  refine sl_set (by assumption) X hK.kc77 hK.ks_node (by decide) (by walk_at "is") (by walk_at "upd") rfl (by walk_at "mem") ?_
  intro _ _
  repeat walk_at "st"
  refine sl_set (by assumption) X hK.kc77 hK.ks_npred (by decide) (by walk_at "is") (by walk_at "upd") rfl (by walk_at "mem") ?_
  intro _ _
  repeat walk_at "st"
  refine sl_set (by assumption) X hK.kc77 hK.ks_succ (by decide) (by walk_at "is") (by walk_at "upd") rfl (by walk_at "mem") ?_
  intro _ S
  repeat walk_at "st"
  exact k _ _ S.pop
theorem make77 {i : Int} {t : Tok} {n : Nat} {Ls : List Addr} {Q : Value → Shared → Prop} (g : Gd b) (X : K.In b.heap) (hK : KOk K) (hA : Ar A (n + 2) Ls) (S : St b fs led s)
    (k : ∀ a x D s', St b fs ((a, .list []) :: (x, .node 77 D [some (.int i), some (.int 0), some (.ref a)]) :: (D, .idict [] []) :: led) s' → Q (.ref x) s') :
    wpAny (model prog w) A (call (.ref 77) [.int i t]) Q E s :=
  call_ret (code_make S X hK.mk77 (fI := 73) hK.in77 hK.ty73 (KO := fun D => .node 77 D []) (fun D => ⟨[], rfl, .nil⟩) fun x D s' S' => init77 g X hK hA.make S' fun a s'' S'' => ⟨rfl, k a x D s'' S''⟩)

theorem getinfo {S D M : Addr} {rd : V} {po fi : Int} {ep : Nat} {ns : List Nd} {rest : List (Addr × O)} {i : Int} {t : Tok} {n : Nat} {Ls : List Addr} {Q : Value → Shared → Prop} (g : Gd b) (X : K.In b.heap) (hK : KOk K) (hA : Ar A (n + 3) Ls)
    (nd : (ids ns).Nodup) (hz : ns.length ≤ 100) (Z : St b fs (sled S D M rd po fi ep ns rest) s)
    (k : ∀ m ns' ep' s', (ids ns').Nodup → m ∈ ns' → m.i = i → ((i ∈ ids ns ∧ ns' = ns) ∨ (i ∉ ids ns ∧ ns' = ns ++ [m] ∧ m.np = 0 ∧ m.sc = [])) → St b fs (sled S D M rd po fi ep' ns' rest) s' → Q (.ref m.N) s') :
    wpAny (model prog w) A (call (.ref 117) [.ref S, .int i t]) Q E s := by
  refine call_ret (code_at Z g X hA hK.f117 (hB := rfl) (pn := ["self", "node"]) (rn := ["result"]) (gs' := ["_NodeInfo"]) (xs := [.ref S, .int i]) (Loc.of (by decide +kernel)) (.cons .ref (.cons .int .nil)) (by intros; kernel_rfl) rfl (by kernel_rfl) ?_)
  clear Z hA
  intro env A L s hl hA Z
  simp only [List.cons_append, List.nil_append, List.map_cons, List.map_nil] at Z hl
  unfold sled at Z
  repeat walk_at "st"
  refine di_get1 (by assumption) (by walk_at "mem") ?_
  intro s Z
  by_cases hi : i ∈ ids ns
  · obtain ⟨m, hm, rfl⟩ := find_nd hi
    rw [at_ndict hm nd]
    refine all_ref ?_
    repeat walk_at "st"
    refine br_f rfl ?_
    repeat walk_at "st"
    exact k m ns ep _ nd hm rfl (.inl ⟨hi, rfl⟩) (St.pop (by assumption))
  · rw [not_ndict hi]
    refine all_none ?_
    repeat walk_at "st"
    refine br_t rfl ?_
    repeat walk_at "st"
    refine make77 g X hK hA (by assumption) ?_
    intro a x D' s Z
    repeat walk_at "st"
    refine di_new (by assumption) .ref (by rw [keys_ndict]; exact hi) (by simp [ndict]; omega) fun ep' => ⟨_, by walk_at "upd", ?_⟩
    intro s Z
    repeat walk_at "st"
    refine k ⟨i, x, D', a, 0, []⟩ (ns ++ [⟨i, x, D', a, 0, []⟩]) ep' _ ?_ (by simp) rfl (.inr ⟨hi, rfl, rfl, rfl⟩) ((St.pop (by assumption)).perm (sled_new S D M rd po fi ep' ns ⟨i, x, D', a, 0, []⟩ rest))
    simp only [ids, List.map_append, List.map_cons, List.map_nil]
    exact List.nodup_append.mpr ⟨nd, by simp, fun y hy z hz => by simp at hz; subst hz; exact fun e => hi (e ▸ hy)⟩
end P1
section P2
variable {K : Frag} {prog : Program} {w : World} {A : Around} {E : Value → Shared → Prop} {b s : Shared} {fs : List Frm} {led : List (Addr × O)}
set_option maxHeartbeats 400000
theorem init110 {x D : Addr} {n : Nat} {Ls : List Addr} {Q : Value → Shared → Prop} (g : Gd b) (X : K.In b.heap) (hK : KOk K) (hA : Ar A (n + 1) Ls)
    (S : St b fs ((x, .inst 174 D) :: (D, .idict [] []) :: led) s)
    (k : ∀ M s', St b fs (sled x D M .none 0 0 0 [] led) s' → Q .none s') :
    codeAny (model prog w) A (.call (.ref 110) ⟨[.ref x], []⟩) (Ret Q) s := by
  obtain ⟨o, m, hd, hdd⟩ := hK.d103
  refine code_df S g X hA hK.f110 (hB := rfl) (pn := ["self", "graph"]) (rn := ["node", "predecessors"]) (gs := []) (items := [.ref x, .none]) (xs := [.ref x, .none]) (Loc.of (by decide +kernel)) (by kernel_rfl) hd hdd (.cons .ref (.cons .none .nil)) rfl (fun _ _ _ _ _ _ => ⟨_, rfl, by kernel_rfl⟩) ?_
  clear S hA
  intro env A L s hl hA S
  simp only [List.cons_append, List.nil_append, List.map_cons, List.map_nil] at S hl
  repeat walk_at "st"
  refine at_new (by assumption) X hK.kc174 hK.hd174 (hK.ta174 _ (by walk_at "mem")) (by walk_at "mem") (by walk_at "is") (by walk_at "upd") (by decide +kernel) (by decide) ?_
  intro _ _
  repeat walk_at "st"
  refine at_new (by assumption) X hK.kc174 hK.hd174 (hK.ta174 _ (by walk_at "mem")) (by walk_at "mem") (by walk_at "is") (by walk_at "upd") (by decide +kernel) (by decide) ?_
  intro _ _
  repeat walk_at "st"
  refine at_new (by assumption) X hK.kc174 hK.hd174 (hK.ta174 _ (by walk_at "mem")) (by walk_at "mem") (by walk_at "is") (by walk_at "upd") (by decide +kernel) (by decide) ?_
  intro _ _
  repeat walk_at "st"
  refine at_new (by assumption) X hK.kc174 hK.hd174 (hK.ta174 _ (by walk_at "mem")) (by walk_at "mem") (by walk_at "is") (by walk_at "upd") (by decide +kernel) (by decide) ?_
  intro _ Z
  repeat walk_at "st"
  refine br_f rfl ?_
  repeat walk_at "st"
  exact k _ _ (Z.pop.perm (List.perm_append_comm (l₁ := [_, _]) (l₂ := [_]) |>.append_right led))
theorem make174 {n : Nat} {Ls : List Addr} {Q : Value → Shared → Prop} (g : Gd b) (X : K.In b.heap) (hK : KOk K) (hA : Ar A (n + 2) Ls) (S : St b fs led s)
    (k : ∀ x D M s', St b fs (sled x D M .none 0 0 0 [] led) s' → Q (.ref x) s') : wpAny (model prog w) A (call (.ref 174) []) Q E s :=
  call_ret (code_make S X hK.mk174 (fI := 110) hK.in174 hK.ty110 (KO := fun D => .inst 174 D) (fun D => rfl) fun x D s' S' => init110 g X hK hA.make S' fun M s'' S'' => ⟨rfl, k x D M s'' S''⟩)

theorem add124 {S D M : Addr} {po fi : Int} {ep : Nat} {ns : List Nd} {rest : List (Addr × O)} {i : Int} {t : Tok} {us : List Value} {ps : List Int} {n : Nat} {Ls : List Addr} {Q : Value → Shared → Prop} (g : Gd b) (X : K.In b.heap) (hK : KOk K) (hA : Ar A (n + 4) Ls)
    (nd : (ids ns).Nodup) (hz : ns.length ≤ 50) {c : Nat} (hc : Big ns c) (hc' : c ≤ 500) (hps : ps.length ≤ 2) (hu : Isl us (vints ps)) (Z : St b fs (sled S D M .none po fi ep ns rest) s)
    (k : ∀ ns' ep' s', (ids ns').Nodup → ns'.length ≤ ns.length + 3 → Big ns' (c + 2) → view ns' = vAdd i ps (view ns) → St b fs (sled S D M .none po fi ep' ns' rest) s' → Q .none s') :
    codeAny (model prog w) A (.call (.ref 124) ⟨.ref S :: .int i t :: us, []⟩) (Ret Q) s := by
  refine (code_va (a1 := [.ref S, .int i t]) (a2 := us) Z g X hA hK.f124 (hB := rfl) (pn := ["self", "node"]) (va := "predecessors") (rn := ["nodeinfo", "pred", "pred_info"]) (gs := ["ValueError", "len"]) (x1 := [.ref S, .int i]) (Loc.of (by decide +kernel)) (by kernel_rfl) (.cons .ref (.cons .int .nil)) rfl hu (by rw [hu.length]; simp; omega) ?_ ?_)
  · have hl : us.length ≤ 2 := by rw [hu.length]; simpa using hps
    intro _ _ _ _ _ _
    rcases us with _ | ⟨u1, _ | ⟨u2, _ | _⟩⟩
    · kernel_rfl
    · kernel_rfl
    · kernel_rfl
    · simp at hl
  clear Z hA hu
  intro env A L T s hl hA Z
  simp only [List.cons_append, List.nil_append, List.map_cons, List.map_nil] at Z hl
  replace Z := Z.inn
  unfold sled at Z
  repeat walk_at "st"
  refine br_f rfl ?_
  repeat walk_at "st"
  refine getinfo g X hK hA nd (by omega) (by assumption) ?_
  intro m ns1 ep1 s nd1 hm hi hor Z
  have hv1 := view_get hi hor
  have hl1 := len_get hor
  unfold sled at Z
  repeat walk_at "st"
  refine sl_get (by assumption) X hK.kc77 hK.ks_npred (.tail _ (.tail _ (.tail _ (mem_nled hm)))) (.tail _ (.tail _ (.tail _ (mem_nledD hm)))) rfl rfl ?_
  intro s Z
  walk_at "all"
  repeat walk_at "st"
  refine l_lenT (by assumption) (.tail _ (.tail _ (.tail _ (nled_perm ns1 [_] rest |>.symm.subset (.head _))))) (by simp; omega) ?_
  intro t s Z
  repeat walk_at "st"
  refine sl_set (by assumption) X hK.kc77 hK.ks_npred (by decide) .int (.there (.there (.there (upd_np hm nd1 (m.np + (vints ps).length))))) rfl (.tail _ (.tail _ (.tail _ (mem_nledD hm)))) ?_
  intro s Z
  repeat walk_at "st"
  replace Z := Z.cast (led' := sled S D M .none po fi ep1 (setNp m.i (m.np + (vints ps).length) ns1) ((T, .tuple (vints ps)) :: rest)) (by unfold sled; rw [ndict_setNp]; rfl)
  refine it_tup Z (.tail _ (.tail _ (.tail _ (nled_perm _ [_] rest |>.symm.subset (.head _))))) ?_
  intro it s Z
  refine fl_loop (wk_tup it T (vints ps)) (fun j vs led => ∃ ns2 ep2 x y, vs = [some (.ref S), some (.int i), some (.ref T), some (.ref m.N), x, y] ∧ led = sled S D M .none po fi ep2 ns2 ((T, .tuple (vints ps)) :: rest) ∧ (ids ns2).Nodup ∧ ns2.length ≤ ns1.length + j ∧ Big ns2 (c + j) ∧
      view ns2 = (ps.take j).foldl (fun v p => vMap p (fun q => (q.1, q.2 ++ [i])) (vGet p v)) (vMap i (fun q => (q.1 + ps.length, q.2)) (vGet i (view ns)))) Z
    ⟨_, _, _, _, rfl, rfl, by rw [ids_setNp]; exact nd1, by rw [len_setNp]; omega, (hc.get hor).np _ _, by
      subst hi; rw [view_np hm nd1 (· + ((vints ps).length : Int)), hv1]; simp⟩ ?_ hA.hand ?_ ?_
  · rintro j vs led ⟨ns2, ep2, x, y, -, rfl, -⟩ p hp
    rcases List.mem_singleton.mp hp with rfl
    exact .tail _ (.tail _ (.tail _ (nled_perm _ [_] rest |>.symm.subset (.head _))))
  · rintro j x vs led s hx ⟨ns2, ep2, y1, y2, rfl, rfl, nd2, hl2, hb2, hv2⟩ Z u hu
    obtain ⟨p, hp, rfl⟩ := vints_get hx
    cases hu
    have hj : j < ps.length := (List.getElem?_eq_some_iff.mp hp).1
    unfold sled at Z
    repeat walk_at "st"
    refine getinfo g X hK hA nd2 (by omega) (St.inn (S := S) (D := D) (M := M) (rd := .none) (po := po) (fi := fi) (ep := ep2) (ns := ns2) (rest := (T, .tuple (vints ps)) :: rest) (by assumption)) ?_
    intro m3 ns3 ep3 s nd3 hm3 hi3 hor3 Z
    have hv3 := view_get hi3 hor3
    have hl3 := len_get hor3
    unfold sled at Z
    repeat walk_at "st"
    refine sl_get (by assumption) X hK.kc77 hK.ks_succ (.tail _ (.tail _ (.tail _ (mem_nled hm3)))) (.tail _ (.tail _ (.tail _ (mem_nledD hm3)))) rfl rfl ?_
    intro s Z
    walk_at "all"
    repeat walk_at "st"
    refine ls_meth (by assumption) PySem.F.slot_list_append PySem.F.type_list_append (.tail _ (.tail _ (.tail _ (mem_nledL hm3)))) ?_
    repeat walk_at "st"
    refine ls_append (by assumption) .int (.there (.there (.there (upd_app hm3 nd3 i)))) (by have := (hb2.get hor3) m3 hm3; simp only [vints, List.length_map]; omega) ?_
    intro s Z
    repeat walk_at "st"
    refine lp_next ⟨_, _, ⟨setSc m3.i (m3.sc ++ [i]) ns3, ep3, _, _, rfl, rfl, by rw [ids_setSc]; exact nd3, by rw [len_setSc]; omega, (hb2.get hor3).app hm3 i, ?_⟩, St.out (Z.cast (by unfold sled; rw [ndict_setSc]))⟩
    rw [view_sc hm3 nd3 (· ++ [i]), hv3, hv2, fold_step _ _ hp, hi3]
  · rintro vs led s ⟨ns2, ep2, y1, y2, rfl, rfl, nd2, hl2, hb2, hv2⟩ Z
    repeat walk_at "st"
    simp only [vints, List.length_map] at hl2 hb2 hv2
    rw [List.take_length] at hv2
    refine k ns2 ep2 _ nd2 (by omega) (fun n hn => Nat.le_trans (hb2 n hn) (by omega)) hv2 (St.out Z.pop).drop
end P2
section P3
variable {K : Frag} {prog : Program} {w : World} {A : Around} {E : Value → Shared → Prop} {b s : Shared} {fs : List Frm} {led : List (Addr × O)}
set_option maxHeartbeats 400000
theorem skip28 {x y : Str} {p : Nat} {t1 t2 t3 : Tok} {n : Nat} {Ls : List Addr} {Q : Value → Shared → Prop} (g : Gd b) (X : K.In b.heap) (hK : KOk K) (hA : Ar A (n + 1) Ls) (hR : Frs A fs) (hp : p ≤ x.cps.toList.length) (hz : x.cps.toList.length ≤ 500)
    (S : St b fs led s) (k : ∀ t s', St b fs led s' → Q (.int (skp x.cps.toList y.cps.toList p) t) s') :
    wpAny (model prog w) A (call (.ref 28) [.str x t1, .int p t2, .str y t3]) Q E s := by
  refine call_ret (code_fr S g X hA hR hK.f28 (hB := rfl) (pn := ["src", "pos", "chars"]) (rn := []) (gs := ["IndexError"]) (xs := [.str x, .int p, .str y]) (Loc.of (by decide +kernel)) (.cons .str (.cons .int (.cons .str .nil))) (by intros; kernel_rfl) rfl (by kernel_rfl) ?_)
  clear S hA hR
  intro env A L s hl hA hH S
  simp only [List.cons_append, List.nil_append, List.map_cons, List.map_nil] at S hl hH
  refine x_cons ?_
  refine x_try exc_index g hl (by walk_at "mem") (by walk_at "mem") ?_
  refine x_cons ?_
  refine x_whileE (fun _ _ j => j.1) (fun n s => ∃ i : Nat, n + i = x.cps.toList.length ∧ p ≤ i ∧ (∀ j c, p ≤ j → j < i → x.cps.toList[j]? = some c → c ∈ y.cps.toList) ∧ St b (⟨L, ["src", "pos", "chars"], [some (.str x), some (.int i), some (.str y)]⟩ :: fs) led s) (x.cps.toList.length - p) ⟨p, by omega, Nat.le_refl _, fun j c h1 h2 => by omega, S⟩ ?_
  clear S
  rintro m s ⟨i, hm, hi, hall, S⟩
  cases hc : x.cps.toList[i]? with
  | none =>
    have hie : i = x.cps.toList.length := by have := List.getElem?_eq_none_iff.mp hc; omega
    repeat walk_at "st"
    refine i_strE S hA.hand (by simp [Str.length] at hie ⊢; omega) (by omega) (fun e s' S' => ?_) (by kernel_rfl)
    refine ⟨e, _, led, rfl, ⟨hH _, fun e s S => ?_⟩, .inl S'⟩
    repeat walk_at "st"
    rw [retv, skp_eq hi (by omega) hall (fun c e => by rw [hc] at e; cases e)]
    exact k _ _ S.pop
  | some c =>
    have hlt : i < x.cps.toList.length := (List.getElem?_eq_some_iff.mp hc).1
    repeat walk_at "st"
    refine i_str S (by omega) (by simpa using hc) (by simp [Str.length] at hz ⊢; omega) (fun t s S => ?_) (by kernel_rfl)
    repeat walk_at "st"
    refine c_inS ?_
    repeat walk_at "st"
    refine br (fun h => ?_) fun h => ?_
    · repeat walk_at "st"
      refine lp_next ⟨m - 1, by omega, i + 1, by omega, by omega, fun j c' h1 h2 e => ?_, by assumption⟩
      by_cases q : j = i
      · subst q; rw [hc] at e; cases e; exact h
      · exact hall j c' h1 (by omega) e
    · repeat walk_at "st"
      rw [retv, skp_eq hi (by omega) hall (fun c' e => by rw [hc] at e; cases e; exact h)]
      exact k _ _ (St.pop (by assumption))
end P3
section P4
variable {K : Frag} {prog : Program} {w : World} {A : Around} {E : Value → Shared → Prop} {b s : Shared} {fs : List Frm} {led : List (Addr × O)}
set_option maxHeartbeats 400000
theorem ready136 {S D M R : Addr} {po fi : Int} {ep : Nat} {ns : List Nd} {rest : List (Addr × O)} {rd : List Int} {n : Nat} {Ls : List Addr} {Q : Value → Shared → Prop} (g : Gd b) (X : K.In b.heap) (hK : KOk K) (hA : Ar A (n + 1) Ls)
    (nd : (ids ns).Nodup) (hin : ∀ i ∈ rd, i ∈ ids ns) (hz : rd.length ≤ 500) (Z : St b fs ((R, .list (vints rd)) :: sled S D M (.ref R) po fi ep ns rest) s)
    (k : ∀ T ns' s', ndict ns' = ndict ns → view ns' = rd.foldl (fun v i => vNp i (-1) v) (view ns) → St b fs ((T, .tuple (vints rd)) :: (R, .list []) :: sled S D M (.ref R) (po + rd.length) fi ep ns' rest) s' → Q (.ref T) s') :
    wpAny (model prog w) A (call (.ref 136) [.ref S]) Q E s := by
  refine call_ret (code_at Z g X hA hK.f136 (hB := rfl) (pn := ["self"]) (rn := ["result", "n2i", "node"]) (gs' := ["ValueError", "tuple", "_NODE_OUT", "len"]) (xs := [.ref S]) (Loc.of (by decide +kernel)) (.cons .ref .nil) (by intros; kernel_rfl) rfl (by kernel_rfl) ?_)
  clear Z hA
  intro env A L s hl hA Z
  simp only [List.cons_append, List.nil_append, List.map_cons, List.map_nil] at Z hl
  unfold sled at Z
  repeat walk_at "st"
  refine br_f rfl ?_
  repeat walk_at "st"
  refine m_tuple (by assumption) (by walk_at "mem") (by simp; omega) ?_
  intro T s Z
  repeat walk_at "st"
  refine it_tup (by assumption) (by walk_at "mem") ?_
  intro it s Z
  refine fl_loop (wk_tup it T (vints rd)) (fun j vs led => ∃ ns2 y, vs = [some (.ref S), some (.ref T), some (.ref M), y] ∧ led = (T, .tuple (vints rd)) :: (R, .list (vints rd)) :: sled S D M (.ref R) po fi ep ns2 rest ∧ ndict ns2 = ndict ns ∧
      view ns2 = (rd.take j).foldl (fun v i => vNp i (-1) v) (view ns)) Z ⟨ns, _, rfl, rfl, rfl, rfl⟩ ?_ hA.hand ?_ ?_
  · rintro j vs led ⟨ns2, y, -, rfl, -⟩ p hp
    rcases List.mem_singleton.mp hp with rfl
    exact .head _
  · rintro j x vs led s hx ⟨ns2, y, rfl, rfl, hd, hv⟩ Z u hu
    obtain ⟨p, hp, rfl⟩ := vints_get hx
    cases hu
    have hi2 : ids ns2 = ids ns := by rw [← keys_ndict, hd, keys_ndict]
    have hpi : p ∈ ids ns2 := by rw [hi2]; exact hin p (List.mem_of_getElem? hp)
    obtain ⟨m, hm, rfl⟩ := find_nd hpi
    have nd2 : (ids ns2).Nodup := by rw [hi2]; exact nd
    unfold sled at Z
    repeat walk_at "st"
    refine i_dict (by assumption) (by walk_at "mem") (at_ndict hm nd2) ?_ (by kernel_rfl)
    intro s Z
    refine all_ref ?_
    repeat walk_at "st"
    refine sl_set (by assumption) X hK.kc77 hK.ks_npred (by decide) .int (.there (.there (.there (.there (.there (.there (upd_np hm nd2 (-1)))))))) rfl (.tail _ (.tail _ (.tail _ (.tail _ (.tail _ (.tail _ (mem_nledD hm))))))) ?_
    intro s Z
    repeat walk_at "st"
    refine lp_next ⟨_, _, ⟨setNp m.i (-1) ns2, _, rfl, rfl, by rw [ndict_setNp]; exact hd, ?_⟩, Z.cast (by unfold sled; rw [ndict_setNp])⟩
    rw [view_setNp, hv, fold_step _ _ hp]
  · rintro vs led s ⟨ns2, y, rfl, rfl, hd, hv⟩ Z
    unfold sled at Z
    repeat walk_at "st"
    refine ls_clear (by assumption) (by walk_at "upd") (by simp; omega) ?_
    intro s Z
    repeat walk_at "st"
    refine l_lenT (by assumption) (by walk_at "mem") (by simp; omega) ?_
    intro t s Z
    repeat walk_at "st"
    simp only [vints, List.length_map] at *
    rw [List.take_length] at hv
    exact k T ns2 _ hd hv (St.pop (by assumption))
end P4
section P5
variable {K : Frag} {prog : Program} {w : World} {A : Around} {E : Value → Shared → Prop} {b s : Shared} {fs : List Frm} {led : List (Addr × O)}
set_option maxHeartbeats 2000000


theorem active143 {S D M R : Addr} {po fi : Int} {ep : Nat} {ns : List Nd} {rest : List (Addr × O)} {rd : List Int} {n : Nat} {Ls : List Addr} {Q : Value → Shared → Prop} (g : Gd b) (X : K.In b.heap) (hK : KOk K) (hA : Ar A (n + 1) Ls)
    (hz : rd.length ≤ 500) (Z : St b fs ((R, .list (vints rd)) :: sled S D M (.ref R) po fi ep ns rest) s)
    (k : ∀ s', St b fs ((R, .list (vints rd)) :: sled S D M (.ref R) po fi ep ns rest) s' → Q (.bool (decide (fi < po) || !rd.isEmpty)) s') :
    wpAny (model prog w) A (call (.ref 143) [.ref S]) Q E s := by
  refine call_ret (code_at Z g X hA hK.f143 (hB := rfl) (pn := ["self"]) (rn := []) (gs' := ["ValueError", "bool"]) (xs := [.ref S]) (Loc.of (by decide +kernel)) (.cons .ref .nil) (by intros; kernel_rfl) rfl (by kernel_rfl) ?_)
  clear Z hA
  intro env A L s hl hA Z
  simp only [List.cons_append, List.nil_append, List.map_cons, List.map_nil] at Z hl
  unfold sled at Z
  repeat walk_at "st"
  refine br_f rfl ?_
  repeat walk_at "st"
  refine t_or ?_
  repeat walk_at "st"
  refine brb (fun h => ?_) fun h => ?_
  · have Z : St b fs _ _ := St.pop (by assumption)
    have := k _ Z
    rw [h] at this ⊢
    exact this
  · repeat walk_at "st"
    refine m_bool (by assumption) (by walk_at "mem") (by simp; omega) ?_
    intro s Z
    have := k _ (St.pop Z)
    rw [h] at this
    repeat walk_at "st"
    simpa [vints, retv] using this

theorem npOf {n : Nd} {ns : List Nd} (h : n ∈ ns) (nd : (ids ns).Nodup) : vNpOf n.i (view ns) = n.np := by
  induction h with
  | head => simp [vNpOf, view]
  | @tail m ns h ih =>
    have nd : _ ∉ ids ns ∧ (ids ns).Nodup := List.nodup_cons.mp nd
    have hne : m.i ≠ n.i := fun e => nd.1 (show m.i ∈ ids ns from e ▸ List.mem_map_of_mem (f := (·.i)) h)
    have := ih nd.2
    unfold vNpOf view at this ⊢
    rw [List.map_cons, List.find?_cons_of_neg (by simpa using hne)]
    exact this
theorem mem_np {n : Nd} {ns : List Nd} (h : n ∈ ns) (x : Int) : ({ n with np := x } : Nd) ∈ setNp n.i x ns := by
  have := List.mem_map_of_mem (f := fun m => if m.i = n.i then ({ m with np := x } : Nd) else m) h
  rwa [if_pos rfl] at this
theorem keepL {n : Nd} {ns : List Nd} {i x : Int} (hm : n ∈ ns) : ∃ n' ∈ setNp i x ns, n'.L = n.L ∧ n'.sc = n.sc := by
  refine ⟨_, List.mem_map_of_mem hm, ?_⟩
  split <;> exact ⟨rfl, rfl⟩
theorem done157 {S D M R : Addr} {po fi : Int} {ep : Nat} {ns : List Nd} {rest : List (Addr × O)} {rd : List Int} {m : Nd} {t : Tok} {n : Nat} {Ls : List Addr} {Q : Value → Shared → Prop} (g : Gd b) (X : K.In b.heap) (hK : KOk K) (hA : Ar A (n + 1) Ls)
    (nd : (ids ns).Nodup) (hm : m ∈ ns) (h1 : m.np = -1) (hsc : ∀ j ∈ m.sc, j ∈ ids ns) (hz : m.sc.length ≤ 300) (hr : rd.length ≤ 300) (Z : St b fs ((R, .list (vints rd)) :: sled S D M (.ref R) po fi ep ns rest) s)
    (k : ∀ ns' rd' s', ndict ns' = ndict ns → (view ns', rd') = m.sc.foldl dStep (vNp m.i (-2) (view ns), rd) → St b fs ((R, .list (vints rd')) :: sled S D M (.ref R) po (fi + 1) ep ns' rest) s' → Q .none s') :
    wpAny (model prog w) A (call (.ref 157) [.ref S, .int m.i t]) Q E s := by
  refine call_ret (code_va (a1 := [.ref S]) (a2 := [.int m.i t]) Z g X hA hK.f157 (hB := rfl) (pn := ["self"]) (va := "nodes") (rn := ["n2i", "node", "nodeinfo", "stat", "successor", "successor_info"]) (gs := ["ValueError", "_NODE_OUT", "_NODE_DONE"]) (x1 := [.ref S]) (x2 := vints [m.i]) (Loc.of (by decide +kernel)) (by kernel_rfl) (.cons .ref .nil) rfl (.cons .int .nil) (by simp) (by intros; kernel_rfl) ?_)
  clear Z hA
  intro env A L T s hl hA Z
  simp only [List.cons_append, List.nil_append, List.map_cons, List.map_nil] at Z hl
  unfold sled at Z
  repeat walk_at "st"
  refine br_f rfl ?_
  repeat walk_at "st"
  rename_i Z
  replace Z := Z.perm (List.Perm.swap ..)
  refine it_tup Z (.tail _ (.head _)) ?_
  intro it s Z
  replace Z := Z.cast (led' := (it, titO T 0) :: (R, .list (vints rd)) :: (T, .tuple (vints [m.i])) :: (S, .inst 174 D) :: (D, .idict sNs [some (.ref M), some (.ref R), some (.int po), some (.int fi)]) :: (M, .dict (ndict ns) ep) :: nled ns rest) rfl
  refine fl_loop (wk_tup it T (vints [m.i])) (fun j vs led => ∃ ns2 rd2 x1 x2 x3 x4 x5, vs = [some (.ref S), some (.ref T), some (.ref M), x1, x2, x3, x4, x5] ∧
    led = (R, .list (vints rd2)) :: (T, .tuple (vints [m.i])) :: (S, .inst 174 D) :: (D, .idict sNs [some (.ref M), some (.ref R), some (.int po), some (.int (fi + j))]) :: (M, .dict (ndict ns) ep) :: nled ns2 rest ∧
      (j = 0 → ns2 = ns ∧ rd2 = rd) ∧ (j = 1 → ndict ns2 = ndict ns ∧ (view ns2, rd2) = m.sc.foldl dStep (vNp m.i (-2) (view ns), rd))) Z ⟨ns, rd, _, _, _, _, _, rfl, by simp, fun _ => ⟨rfl, rfl⟩, nofun⟩ ?_ hA.hand ?_ ?_
  · rintro j vs led ⟨ns2, rd2, _, _, _, _, _, -, rfl, -⟩ p hp
    rcases List.mem_singleton.mp hp with rfl
    exact .tail _ (.head _)
  · rintro j x vs led s hx ⟨ns2, rd2, x1, x2, x3, x4, x5, rfl, rfl, hj, -⟩ Z u hu
    obtain ⟨p, hp, rfl⟩ := vints_get hx
    cases hu
    have hj0 : j = 0 := by have := (List.getElem?_eq_some_iff.mp hp).1; simpa using this
    subst hj0
    cases (show m.i = p by simpa using hp)
    obtain ⟨e1, e2⟩ := hj rfl
    replace e1 := e1.symm
    replace e2 := e2.symm
    subst e1 e2
    clear hj
    repeat walk_at "st"
    refine di_get1 (by assumption) (by walk_at "mem") ?_
    intro s Z
    rw [at_ndict hm nd]
    refine all_ref ?_
    repeat walk_at "st"
    refine br_f rfl ?_
    repeat walk_at "st"
    refine sl_get (by assumption) X hK.kc77 hK.ks_npred (.tail _ (.tail _ (.tail _ (.tail _ (.tail _ (.tail _ (mem_nled hm))))))) (.tail _ (.tail _ (.tail _ (.tail _ (.tail _ (.tail _ (mem_nledD hm))))))) rfl rfl ?_
    intro s Z
    walk_at "all"
    repeat walk_at "st"
    refine br_f (by rw [h1]; rfl) ?_
    repeat walk_at "st"
    refine sl_set (by assumption) X hK.kc77 hK.ks_npred (by decide) .int (.there (.there (.there (.there (.there (.there (upd_np hm nd (-2)))))))) rfl (.tail _ (.tail _ (.tail _ (.tail _ (.tail _ (.tail _ (mem_nledD hm))))))) ?_
    intro s Z
    repeat walk_at "st"
    refine sl_get (by assumption) X hK.kc77 hK.ks_succ (.tail _ (.tail _ (.tail _ (.tail _ (.tail _ (.tail _ (mem_nled (n := { m with np := -2 }) (mem_np hm (-2))))))))) (.tail _ (.tail _ (.tail _ (.tail _ (.tail _ (.tail _ (mem_nledD (n := { m with np := -2 }) (mem_np hm (-2))))))))) rfl rfl ?_
    intro s Z
    walk_at "all"
    refine it_list Z (.tail _ (.tail _ (.tail _ (.tail _ (.tail _ (.tail _ (mem_nledL (n := { m with np := -2 }) (mem_np hm (-2))))))))) ?_
    intro it2 s Z
    simp only [Int.natCast_zero, Int.add_zero] at Z
    refine fl_loop (wk_list it2 m.L (vints m.sc)) (fun j vs led => ∃ ns3 rd3 x1 x2, vs = [some (.ref S), some (.ref T), some (.ref M), some (.int m.i), some (.ref m.N), some (.int m.np), x1, x2] ∧
      led = (it, titO T (0 + 1)) :: (R, .list (vints rd3)) :: (T, .tuple (vints [m.i])) :: (S, .inst 174 D) :: (D, .idict sNs [some (.ref M), some (.ref R), some (.int po), some (.int fi)]) :: (M, .dict (ndict ns) ep) :: nled ns3 rest ∧
      ndict ns3 = ndict ns ∧ (∃ m' ∈ ns3, m'.L = m.L ∧ m'.sc = m.sc) ∧ rd3.length ≤ 300 + j ∧ (view ns3, rd3) = (m.sc.take j).foldl dStep (vNp m.i (-2) (view ns), rd)) Z
      ⟨_, _, _, _, rfl, rfl, ndict_setNp .., ⟨_, mem_np hm (-2), rfl, rfl⟩, by omega, by rw [view_setNp]; rfl⟩ ?_ hA.hand ?_ ?_
    · rintro j vs led ⟨ns3, rd3, x1, x2, -, rfl, -, ⟨m', hm', hL, hS⟩, -⟩ p hp
      rcases List.mem_singleton.mp hp with rfl
      rw [← hL, ← hS]
      exact .tail _ (.tail _ (.tail _ (.tail _ (.tail _ (.tail _ (mem_nledL hm'))))))
    · rintro j x vs led s hx ⟨ns3, rd3, x1, x2, rfl, rfl, hd3, ⟨m', hm', hL, hS⟩, hr3, hv3⟩ Z u hu
      obtain ⟨p, hp, rfl⟩ := vints_get hx
      cases hu
      have hjl : j < m.sc.length := (List.getElem?_eq_some_iff.mp hp).1
      have hi3 : ids ns3 = ids ns := by rw [← keys_ndict, hd3, keys_ndict]
      have hpi : p ∈ ids ns3 := by rw [hi3]; exact hsc p (List.mem_of_getElem? hp)
      obtain ⟨q, hq, rfl⟩ := find_nd hpi
      have nd3 : (ids ns3).Nodup := by rw [hi3]; exact nd
      have hstep : (m.sc.take (j + 1)).foldl dStep (vNp m.i (-2) (view ns), rd) = (vMap q.i (fun p => (p.1 - 1, p.2)) (view ns3), if q.np - 1 = 0 then rd3 ++ [q.i] else rd3) := by
        rw [fold_step _ _ hp, ← hv3, dStep, npOf hq nd3]
      repeat walk_at "st"
      refine i_dict (by assumption) (by walk_at "mem") (by rw [← hd3]; exact at_ndict hq nd3) ?_ (by kernel_rfl)
      intro s Z
      refine all_ref ?_
      repeat walk_at "st"
      refine sl_get (by assumption) X hK.kc77 hK.ks_npred (.tail _ (.tail _ (.tail _ (.tail _ (.tail _ (.tail _ (.tail _ (mem_nled hq)))))))) (.tail _ (.tail _ (.tail _ (.tail _ (.tail _ (.tail _ (.tail _ (mem_nledD hq)))))))) rfl rfl ?_
      intro s Z
      walk_at "all"
      repeat walk_at "st"
      refine sl_set (by assumption) X hK.kc77 hK.ks_npred (by decide) .int (.there (.there (.there (.there (.there (.there (.there (upd_np hq nd3 (q.np - 1))))))))) rfl (.tail _ (.tail _ (.tail _ (.tail _ (.tail _ (.tail _ (.tail _ (mem_nledD hq)))))))) ?_
      intro s Z
      repeat walk_at "st"
      have hq' := mem_np hq (q.np - 1)
      refine sl_get (by assumption) X hK.kc77 hK.ks_npred (.tail _ (.tail _ (.tail _ (.tail _ (.tail _ (.tail _ (.tail _ (mem_nled (n := { q with np := q.np - 1 }) hq')))))))) (.tail _ (.tail _ (.tail _ (.tail _ (.tail _ (.tail _ (.tail _ (mem_nledD (n := { q with np := q.np - 1 }) hq')))))))) rfl rfl ?_
      intro s Z
      walk_at "all"
      repeat walk_at "st"
      refine br (fun h => ?_) fun h => ?_
      · repeat walk_at "st"
        refine ls_append (by assumption) .int (by walk_at "upd") (by simp; omega) ?_
        intro s Z
        repeat walk_at "st"
        refine lp_next ⟨_, _, ⟨setNp q.i (q.np - 1) ns3, rd3 ++ [q.i], _, _, rfl, rfl, by rw [ndict_setNp]; exact hd3, ?_, by simp; omega, ?_⟩, Z.cast (by simp)⟩
        · obtain ⟨m2, h2, h3, h4⟩ := keepL (i := q.i) (x := q.np - 1) hm'
          exact ⟨m2, h2, h3.trans hL, h4.trans hS⟩
        · rw [hstep, view_np hq nd3 (· - 1), if_pos h]
      · repeat walk_at "st"
        refine lp_next ⟨_, _, ⟨setNp q.i (q.np - 1) ns3, rd3, _, _, rfl, rfl, by rw [ndict_setNp]; exact hd3, ?_, by omega, ?_⟩, by assumption⟩
        · obtain ⟨m2, h2, h3, h4⟩ := keepL (i := q.i) (x := q.np - 1) hm'
          exact ⟨m2, h2, h3.trans hL, h4.trans hS⟩
        · rw [hstep, view_np hq nd3 (· - 1), if_neg h]
    · rintro vs led s ⟨ns3, rd3, x1, x2, rfl, rfl, hd3, -, hr3, hv3⟩ Z
      simp only [vints, List.length_map, List.take_length] at hv3
      repeat walk_at "st"
      refine lp_next ⟨_, _, ⟨ns3, rd3, _, _, _, _, _, rfl, rfl, nofun, fun _ => ⟨hd3, hv3⟩⟩, by assumption⟩
  · rintro vs led s ⟨ns2, rd2, x1, x2, x3, x4, x5, rfl, rfl, -, hj⟩ Z
    repeat walk_at "st"
    obtain ⟨hd, hv⟩ := hj rfl
    refine k ns2 rd2 _ hd hv ((Z.pop.sub (led' := (R, .list (vints rd2)) :: sled S D M (.ref R) po (fi + 1) ep ns2 rest) ?_))
    unfold sled
    rw [hd]
    exact .cons_cons _ (.cons _ (.refl _))
end P5
section Stp
variable {K : Frag} {prog : Program} {w : World} {A : Around} {E : Value → Shared → Prop} {b s : Shared} {fs : List Frm} {led : List (Addr × O)}
theorem view_ids {ns : List Nd} {Ks : List Int} {f : Int → Int} {g : Int → List Int} (h : view ns = mkV Ks f g) : ids ns = Ks := by rw [ids_view, h, mkV_keys]
theorem view_at {ns : List Nd} {Ks : List Int} {f : Int → Int} {g : Int → List Int} (h : view ns = mkV Ks f g) {m : Nd} (hm : m ∈ ns) : m.np = f m.i ∧ m.sc = g m.i := by
  have h1 : (m.i, m.np, m.sc) ∈ mkV Ks f g := by rw [← h]; exact List.mem_map_of_mem (f := fun n : Nd => (n.i, n.np, n.sc)) hm
  obtain ⟨k, _, e⟩ := List.mem_map.mp h1
  simp only [Prod.mk.injEq] at e
  obtain ⟨e1, e2, e3⟩ := e
  subst e1
  exact ⟨e2.symm, e3.symm⟩
theorem doneK {S D M R : Addr} {po fi : Int} {ep : Nat} {ns : List Nd} {rest : List (Addr × O)} {P : Int → List Int} {Ks : List Int} {f : Int → Int} {gg : Int → List Int} {dn out : List Int} {i : Int} {t : Tok} {n : Nat} {Ls : List Addr} {Q : Value → Shared → Prop} (g : Gd b) (X : K.In b.heap) (hK : KOk K) (hA : Ar A (n + 1) Ls)
    (hS : Sok P Ks f gg dn out) (hi : i ∈ out) (hg : (gg i).length ≤ 300) (hv : view ns = mkV Ks f gg) (Z : St b fs ((R, .list []) :: sled S D M (.ref R) po fi ep ns rest) s)
    (k : ∀ ns' s', view ns' = mkV Ks (nextF f gg i) gg → St b fs ((R, .list (vints (nextR P f gg i))) :: sled S D M (.ref R) po (fi + 1) ep ns' rest) s' → Q .none s') :
    wpAny (model prog w) A (call (.ref 157) [.ref S, .int i t]) Q E s := by
  have hid := view_ids hv
  have ho := (hS.om i).mp hi
  obtain ⟨m, hm, rfl⟩ := find_nd (ns := ns) (i := i) (by rw [hid]; exact ho.1)
  obtain ⟨h1, h2⟩ := view_at hv hm
  rw [hS.np _ ho.1, if_neg ho.2.1, if_pos hi] at h1
  refine done157 (rd := []) g X hK hA (by rw [hid]; exact hS.nd) hm h1 (fun j hj => ?_) (by rw [h2]; exact hg) (by simp) Z fun ns' rd' s' _ hvr Z' => ?_
  · rw [h2] at hj
    rw [hid]
    exact ((hS.gm _ _).mp hj).1
  · rw [hv, h2, mkV_np, mkV_steps (hS.gn _) fun j hj => ((hS.gm _ _).mp hj).1, List.nil_append] at hvr
    simp only [Prod.mk.injEq] at hvr
    obtain ⟨e1, e2⟩ := hvr
    subst e2
    exact k ns' s' e1 Z'
theorem readyK {S D M R : Addr} {po fi : Int} {ep : Nat} {ns : List Nd} {rest : List (Addr × O)} {Ks rd : List Int} {f : Int → Int} {gg : Int → List Int} {n : Nat} {Ls : List Addr} {Q : Value → Shared → Prop} (g : Gd b) (X : K.In b.heap) (hK : KOk K) (hA : Ar A (n + 1) Ls)
    (nd : Ks.Nodup) (hr : ∀ i ∈ rd, i ∈ Ks) (hz : rd.length ≤ 500) (hv : view ns = mkV Ks f gg) (Z : St b fs ((R, .list (vints rd)) :: sled S D M (.ref R) po fi ep ns rest) s)
    (k : ∀ T ns' s', view ns' = mkV Ks (fun j => if j ∈ rd then -1 else f j) gg → St b fs ((T, .tuple (vints rd)) :: (R, .list []) :: sled S D M (.ref R) (po + rd.length) fi ep ns' rest) s' → Q (.ref T) s') :
    wpAny (model prog w) A (call (.ref 136) [.ref S]) Q E s := by
  have hid := view_ids hv
  refine ready136 g X hK hA (by rw [hid]; exact nd) (fun i hi => by rw [hid]; exact hr i hi) hz Z fun T ns' s' hn hv' Z' => ?_
  rw [hv, mkV_outs] at hv'
  exact k T ns' s' hv' Z'
end Stp
section P6
variable {K : Frag} {prog : Program} {w : World} {A : Around} {E : Value → Shared → Prop} {b s : Shared} {fs : List Frm} {led : List (Addr × O)}
set_option maxHeartbeats 400000
theorem buffer35 {y : Array UInt8} {t : Tok} {n : Nat} {Ls : List Addr} {Q : Value → Shared → Prop} (g : Gd b) (X : K.In b.heap) (hK : KOk K) (hA : Ar A (n + 1) Ls) (S : St b fs led s)
    (k : ∀ t s', St b fs led s' → Q (.bytes y t) s') : wpAny (model prog w) A (call (.ref 35) [.bytes y t]) Q E s := by
  refine call_ret (code_at S g X hA hK.f35 (hB := rfl) (pn := ["data"]) (rn := ["t"]) (gs' := ["type", "bytes", "bytearray"]) (xs := [.bytes y]) (Loc.of (by decide +kernel)) (.cons .bytes .nil) (by intros; kernel_rfl) rfl (by kernel_rfl) ?_)
  clear S hA
  intro env A L s hl hA S
  simp only [List.cons_append, List.nil_append, List.map_cons, List.map_nil] at S hl
  repeat walk_at "st"
  refine br_t (by decide +kernel) ?_
  repeat walk_at "st"
  exact k _ _ (St.pop (by assumption))
theorem truth42 {c : Bool} {n : Nat} {Ls : List Addr} {Q : Value → Shared → Prop} (g : Gd b) (X : K.In b.heap) (hK : KOk K) (hA : Ar A (n + 1) Ls) (S : St b fs led s)
    (k : ∀ s', St b fs led s' → Q (.bool c) s') : wpAny (model prog w) A (call (.ref 42) [.bool c]) Q E s := by
  refine call_ret (code_at S g X hA hK.f42 (hB := rfl) (pn := ["x"]) (rn := ["t"]) (gs' := ["type", "bool"]) (xs := [.bool c]) (Loc.of (by decide +kernel)) (.cons .bool .nil) (by intros; kernel_rfl) rfl (by kernel_rfl) ?_)
  clear S hA
  intro env A L s hl hA S
  simp only [List.cons_append, List.nil_append, List.map_cons, List.map_nil] at S hl
  repeat walk_at "st"
  refine br_f rfl ?_
  repeat walk_at "st"
  refine br_t (by decide +kernel) ?_
  repeat walk_at "st"
  refine br_t rfl ?_
  repeat walk_at "st"
  cases c
  · refine br_f rfl ?_
    repeat walk_at "st"
    exact k _ (St.pop (by assumption))
  · refine br_t rfl ?_
    repeat walk_at "st"
    exact k _ (St.pop (by assumption))
theorem b2a50 {y : Array UInt8} {t : Tok} {n : Nat} {Ls : List Addr} {Q : Value → Shared → Prop} (g : Gd b) (X : K.In b.heap) (hK : KOk K) (hA : Ar A (n + 2) Ls) (S : St b fs led s) (hy : y.size = 6)
    (k : ∀ t s', St b fs led s' → Q (.bytes (byteArr (signs (num (KBw.bInts y)) 8)) t) s') : wpAny (model prog w) A (call (.ref 50) [.bytes y t] [("newline", .bool false)]) Q E s := by
  refine call_ret (code_any S g X hA hK.f50 (hB := rfl) (ns := ["data", "newline", "bin_data", "out", "leftbits", "leftchar", "b"]) (gs := ["_buffer", "_truth", "_B64", "bytes"]) (Loc.of (by decide +kernel)) (by kernel_rfl) ?_)
  intro qual doc pm an cdv ct E' Q' h
  have e : bindArgs (fnOf (fnm (stAt 7)) qual (fpar (stAt 7)) (fbody (stAt 7)) (fsco (stAt 7)) .none (.ref 43) doc pm an cdv ct) ⟨[.bytes y t], [("newline", .bool false)]⟩ = pure ((["data", "newline"] : List Str).zip [Value.bytes y t, Value.bool false]) := by kernel_rfl
  rw [e]
  have zv := zip_vars (pn := ["data", "newline"]) (rn := ["bin_data", "out", "leftbits", "leftchar", "b"]) (args := [Value.bytes y t, Value.bool false]) (xs := [V.bytes y, V.bool false]) (.cons .bytes (.cons .bool .nil)) rfl (by decide +kernel)
  refine wpAny_pure (h _ _ _ _ zv.1 zv.2 S ?_)
  clear S hA h zv e
  intro env A L s hl hA S
  simp only [List.cons_append, List.nil_append, List.map_cons, List.map_nil] at S hl
  repeat walk_at "st"
  refine buffer35 g X hK hA (by assumption) ?_
  intro t s S
  repeat walk_at "st"
  refine truth42 g X hK hA (by assumption) ?_
  intro s S
  repeat walk_at "st"
  have hl6 : (KBw.bInts y).length = 6 := by rw [KBw.ints_length, hy]
  have hr6 : ∀ k ∈ KBw.bInts y, 0 ≤ k ∧ k < 256 := fun k => KBw.ints_in
  rename_i O _ _ _ _ _ _ _ _ _ _ _ _ _ S _
  refine it_bytes S ?_
  intro it s S
  have W := wk_bytes (prog := prog) (w := w) (b := b) it y
  generalize KBw.bInts y = ks at *
  refine fl_loop W (fun j vs led' => ∃ (i : Nat) (x : Option V), vs = [some (.bytes y), some (.bool false), some (.bytes y), some (.ref O), some (.int (8 * j - 6 * i : Int)), some (.int (num (ks.take j) % 65536)), x] ∧
    led' = (O, .list (vints (signs (num ks) i))) :: led ∧ i = 4 * j / 3) S ⟨0, _, rfl, rfl, rfl⟩ (fun _ _ _ _ _ h => by cases h) hA.hand ?_ ?_
  · rintro j x vs led' s hx ⟨i, x', rfl, rfl, hi⟩ S u hu
    obtain ⟨p, hp, rfl⟩ := vints_get hx
    cases hu
    have hj : j < 6 := by rw [← hl6]; exact (List.getElem?_eq_some_iff.mp hp).1
    have hp' := hr6 p (List.mem_of_getElem? hp)
    have hm := Int.emod_nonneg (num (ks.take j)) (show (65536 : Int) ≠ 0 by decide)
    have hm' := Int.emod_lt_of_pos (num (ks.take j)) (show (0 : Int) < 65536 by decide)
    repeat walk_at "st"
    refine o_shl (by assumption) (by omega) (by omega) (by decide) (by decide) ?_
    intro t s S
    repeat walk_at "st"
    rename_i S
    have e1 : Builtin.bitAnd (Builtin.bitOr (num (List.take j ks) % 65536 * 2 ^ Int.toNat 8) p) 65535 = num (ks.take (j + 1)) % 65536 := by
      rw [show (2 : Int) ^ Int.toNat 8 = 256 from rfl, or_low _ _ hp'.1 hp'.2, bitAnd_m16, pre_step hp]; omega
    rw [e1] at S
    refine x_while (fun n s => ∃ i : Nat, n = 8 * (j + 1) - 6 * i ∧ 6 * i ≤ 8 * (j + 1) ∧ 4 * j / 3 ≤ i ∧ St b (⟨L, ["data", "newline", "bin_data", "out", "leftbits", "leftchar", "b"],
      [some (.bytes y), some (.bool false), some (.bytes y), some (.ref O), some (.int (8 * (j + 1 : Nat) - 6 * i)), some (.int (num (ks.take (j + 1)) % 65536)), some (.int p)]⟩ :: fs) ((it, bitO y (j + 1)) :: (O, .list (vints (signs (num ks) i))) :: led) s) _
      ⟨i, rfl, by omega, by omega, by have e : (8 * ((j + 1 : Nat) : Int) - 6 * i) = 8 * j - 6 * i + 8 := by omega
                                      rw [e]; exact S⟩ ?_
    clear S hi
    rintro n s ⟨i, rfl, h1, h2, S⟩
    repeat walk_at "st"
    refine br (fun h => ?_) fun h => ?_
    · repeat walk_at "st"
      refine o_shr (by assumption) (by omega) ?_
      intro t s S
      repeat walk_at "st"
      have e3 : Builtin.bitAnd (Int.fdiv (num (ks.take (j + 1)) % 65536) (2 ^ (8 * ((j + 1 : Nat) : Int) - 6 * i - 6).toNat)) 63 = fig (num ks) i := by
        rw [pre_eq hl6 hr6 (by omega), bit_out (num ks) hj h2 (by omega) (by omega)]
      rw [e3]
      have hfi := fig_in (num ks) i
      refine i_bytes (l := b64L) (by assumption) (by decide) hfi.1 (by rw [show b64L.length = 64 from rfl]; exact hfi.2) ?_ (by kernel_rfl)
      intro t s S
      repeat walk_at "st"
      refine ls_append (by assumption) .int (by walk_at "upd") (by simp [signs_len]; omega) ?_
      intro s S
      repeat walk_at "st"
      refine lp_next ⟨8 * (j + 1) - 6 * (i + 1), by omega, i + 1, rfl, by omega, by omega, ?_⟩
      rename_i S
      have e2 : (8 * ((j + 1 : Nat) : Int) - 6 * i) - 6 = 8 * ((j + 1 : Nat) : Int) - 6 * (i + 1 : Nat) := by omega
      rw [e2] at S
      rw [signs_snoc]
      simpa [vints, sgn] using S
    · repeat walk_at "st"
      exact lp_next ⟨_, _, ⟨i, _, rfl, rfl, by omega⟩, by assumption⟩
  · rintro vs led' s ⟨i, x, rfl, rfl, hi⟩ S
    rw [show (vints ks).length = 6 by simp [hl6]] at *
    subst hi
    repeat walk_at "st"
    refine br_f (by decide) ?_
    repeat walk_at "st"
    refine br_f (by decide) ?_
    repeat walk_at "st"
    refine br_f rfl ?_
    repeat walk_at "st"
    refine m_bytes (by assumption) (by walk_at "mem") hA.hand signs_in (by rw [signs_len]; omega) ?_
    intro t s S
    repeat walk_at "st"
    exact k _ _ S.pop.drop
end P6
section P7
variable {K : Frag} {prog : Program} {w : World} {A : Around} {E : Value → Shared → Prop} {b s : Shared} {fs : List Frm} {led : List (Addr × O)}
set_option maxHeartbeats 400000
theorem enc58 {y : Array UInt8} {t : Tok} {n : Nat} {Ls : List Addr} {Q : Value → Shared → Prop} (g : Gd b) (X : K.In b.heap) (hK : KOk K) (hA : Ar A (n + 3) Ls) (S : St b fs led s) (hy : y.size = 6)
    (k : ∀ t s', St b fs led s' → Q (.bytes (byteArr (signs (num (KBw.bInts y)) 8)) t) s') : wpAny (model prog w) A (call (.ref 58) [.bytes y t]) Q E s := by
  obtain ⟨o, m, hd, hdd⟩ := hK.d51
  refine call_ret (code_df S g X hA hK.f58 (hB := rfl) (pn := ["s", "altchars"]) (rn := ["encoded"]) (gs := ["b2a_base64"]) (items := [.bytes y t, .none]) (xs := [.bytes y, .none]) (Loc.of (by decide +kernel)) (by kernel_rfl) hd hdd (.cons .bytes (.cons .none .nil)) rfl (fun _ _ _ _ _ _ => ⟨_, rfl, by kernel_rfl⟩) ?_)
  clear S hA
  intro env A L s hl hA S
  simp only [List.cons_append, List.nil_append, List.map_cons, List.map_nil] at S hl
  repeat walk_at "st"
  refine ev_callk ?_ (by kernel_rfl)
  repeat walk_at "st"
  refine cwk1 X (hK.keep _ (by walk_at "mem")) ?_ (by kernel_rfl) (by kernel_rfl)
  repeat walk_at "st"
  refine b2a50 g X hK hA (by assumption) hy ?_
  intro t s S
  repeat walk_at "st"
  refine br_f rfl ?_
  repeat walk_at "st"
  exact k _ _ (St.pop (by assumption))
theorem text183 {o : Addr} {ks : List Int} {n : Nat} {Ls : List Addr} {Q : Value → Shared → Prop} (g : Gd b) (X : K.In b.heap) (hK : KOk K) (hA : Ar A (n + 4) Ls) (S : St b fs ((o, .list (vints ks)) :: led) s) (hk6 : ks.length = 6) (hr : ∀ k ∈ ks, 0 ≤ k ∧ k < 256)
    (k : ∀ x t s', x.cps.toList = (List.range 8).map (fun m => sgn (fig (num ks) m)) → St b fs ((o, .list (vints ks)) :: led) s' → Q (.str x t) s') : wpAny (model prog w) A (call (.ref 183) [.ref o]) Q E s := by
  refine call_ret (code_at S g X hA hK.f183 (hB := rfl) (pn := ["octets"]) (rn := []) (gs' := ["b64encode", "bytes"]) (xs := [.ref o]) (Loc.of (by decide +kernel)) (.cons .ref .nil) (by intros; kernel_rfl) rfl (by kernel_rfl) ?_)
  clear S hA
  intro env A L s hl hA S
  simp only [List.cons_append, List.nil_append, List.map_cons, List.map_nil] at S hl
  repeat walk_at "st"
  refine s_join ?_
  repeat walk_at "st"
  refine ev_comp (b := b) (fs := ⟨L, ["octets"], [some (.ref o)]⟩ :: fs) (fr := []) (gn := ["chr"]) (ln := [".0", "sign"]) hl (Cv.nil hl.loc.kind) (Cmp.of (by decide +kernel)) nofun hA.hand ?_ (by intro _; kernel_rfl)
  repeat walk_at "st"
  refine m_bytes (by assumption) (by walk_at "mem") hA.hand hr (by omega) ?_
  intro t s S
  repeat walk_at "st"
  refine enc58 g X hK hA S (by rw [byteArr_size, hk6]) ?_
  intro t s S
  rw [KBa.ints_make hr]
  refine it_bytes S ?_
  intro it s S
  have W := wk_bytes (prog := prog) (w := w) (b := b) it (byteArr (signs (num ks) 8))
  rw [KBa.ints_make signs_in] at W
  refine ⟨it, _, _, _, fun i ys led' => ys = ((signs (num ks) 8).take i).map (fun c => V.str ⟨#[c.toNat]⟩) ∧ led' = (o, .list (vints ks)) :: led, _, rfl, W, by simp [signs_len], S, ⟨rfl, rfl⟩, fun _ _ _ _ _ h => absurd h List.not_mem_nil, ?_, ?_⟩
  · rintro i x hx cenv C acc ys led' vs s u hl hv ⟨rfl, rfl⟩ S hu
    obtain ⟨p, hp, rfl⟩ := vints_get hx
    cases hu
    have hp' := signs_in p (List.mem_of_getElem? hp)
    obtain ⟨v1, v2, rfl⟩ := S.two
    repeat walk_at "st"
    refine br_t rfl ?_
    repeat walk_at "st"
    refine m_chr (by assumption) (by omega) (by omega) ?_
    intro t s S
    refine ⟨_, _, _, .str, ⟨?_, rfl⟩, S⟩
    rw [List.take_add_one, hp]
    simp
  · rintro acc ys led' s ⟨rfl, rfl⟩ S
    rw [show (vints (signs (num ks) 8)).length = 8 by simp [signs_len], List.take_of_length_le (by simp [signs_len])] at S
    refine m_join (ys := (signs (num ks) 8).map fun c => ⟨#[c.toNat]⟩) S (by simp [Function.comp]) (by rw [ones_len, List.length_map, signs_len]; decide) ?_
    intro t s S
    repeat walk_at "st"
    refine k _ _ _ ?_ S.pop.drop
    rw [join_cps]
    simp [signs, Function.comp]
end P7
section P8
variable {K : Frag} {prog : Program} {w : World} {A : Around} {E : Value → Shared → Prop} {b s : Shared} {fs : List Frm} {led : List (Addr × O)}
set_option maxHeartbeats 400000
theorem bounds190 {x : Str} {t : Tok} {f : Nat → Int} {n : Nat} {Ls : List Addr} {Q : Value → Shared → Prop} (g : Gd b) (X : K.In b.heap) (hK : KOk K) (hA : Ar A (n + 2) Ls) (hR : Frs A fs) (S : St b fs led s)
    (hx : x.cps.toList = (List.range 8).map fun m => sgn (f m)) (hf : ∀ m, 0 ≤ f m ∧ f m < 64)
    (k : ∀ B ts s', ts.map (·.2) = bnds f → St b fs ((B, .list (ts.map fun t => .ref t.1)) :: bled ts led) s' → Q (.ref B) s') : wpAny (model prog w) A (call (.ref 190) [.str x t]) Q E s := by
  refine call_ret (code_fr S g X hA hR hK.f190 (hB := rfl) (pn := ["text"]) (rn := ["alphabet", "back", "bounds", "place", "figure", "ahead", "behind"]) (gs := ["range", "skip_chars"]) (xs := [.str x]) (Loc.of (by decide +kernel)) (.cons .str .nil) (by intros; kernel_rfl) rfl (by kernel_rfl) ?_)
  clear S hA hR
  intro env A L s hl hA hH S
  simp only [List.cons_append, List.nil_append, List.map_cons, List.map_nil] at S hl hH
  repeat walk_at "st"
  refine s_rev (b := b) ?_ (by intro _; kernel_rfl)
  repeat walk_at "st"
  refine ⟨_, _, _, rfl, by simp [hx], by assumption, ?_⟩
  intro y t s hy S
  repeat walk_at "st"
  rename_i B _ _ _ _ _ _ _ _ _ S
  refine it_range S (.head _) (by decide) (n := 8) (by decide) ?_
  intro it s S
  replace S := S.sub (.cons_cons _ (.cons _ (.refl _)))
  refine fl_loop (wk_range it 0 1 8) (fun j vs led' => ∃ (ts : List (Addr × Int × Int)) (x1 x2 x3 x4 : Option V), vs = [some (.str x), some (.str alph), some (.str y), some (.ref B), x1, x2, x3, x4] ∧
    led' = (B, .list (ts.map fun t => .ref t.1)) :: bled ts led ∧ ts.map (·.2) = (bnds f).take j) S ⟨[], _, _, _, _, rfl, rfl, rfl⟩ (fun _ _ _ _ _ h => absurd h List.not_mem_nil) hA.hand ?_ ?_
  · rintro j z vs led' s hz ⟨ts, x1, x2, x3, x4, rfl, rfl, hts⟩ S u hu
    obtain ⟨p, hp, rfl⟩ := vints_get hz
    cases hu
    obtain ⟨rfl, hj⟩ := span_get hp
    rw [show (0 : Int) + j * 1 = j by omega]
    obtain ⟨v, hv⟩ : ∃ v : Nat, f j = v := ⟨(f j).toNat, by have := hf j; omega⟩
    have hv1 := hf j
    have hlen : ts.length = j := by have := congrArg List.length hts; simpa [bnds, Nat.min_eq_left (Nat.le_of_lt hj)] using this
    have hxl : x.length = 8 := by have := congrArg List.length hx; simpa [Str.length] using this
    have hc : x.cps.toList[j]? = some (sgn v) := by rw [hx, List.getElem?_map, List.getElem?_range hj]; simp [hv]
    repeat walk_at "st"
    refine s_indexM ?_
    repeat walk_at "st"
    refine i_str (by assumption) (by omega) (by simpa using hc) (by omega) ?_ (by kernel_rfl)
    intro t s S
    repeat walk_at "st"
    refine s_index S (by omega) (by omega) ?_
    intro t s S
    repeat walk_at "st"
    refine s_from (b := b) ?_ (by intro _; kernel_rfl)
    repeat walk_at "st"
    refine ⟨v + 1, _, _, _, by rw [Int.natCast_add]; rfl, by show v + 1 ≤ alph.length; rw [alph_len]; omega, by show alph.length ≤ 1000; rw [alph_len]; omega, by assumption, ?_⟩
    intro y1 t s hy1 S
    repeat walk_at "st"
    rw [show (8 : Int) - j = ((8 - j : Nat) : Int) by omega]
    refine skip28 g X hK hA (hH _).frs (by simp [hy, hx]) (by simp [hy, hx]) (by assumption) ?_
    intro t s S
    have e1 : (7 : Int) - (skp y.cps.toList y1.cps.toList (8 - j) : Nat) = ahd f j := by
      rw [hy, hy1, hx, ← List.map_reverse]
      show (7 : Int) - (skp _ (alph.cps.toList.drop (v + 1)) _ : Nat) = _
      rw [skp_map hf (by omega), ahd, hv, Int.natCast_add]; rfl
    refine o_sub S ?_
    intro t s S
    rw [e1]
    repeat walk_at "st"
    refine s_from (b := b) ?_ (by intro _; kernel_rfl)
    repeat walk_at "st"
    refine ⟨v, _, _, _, rfl, by show v ≤ alph.length; rw [alph_len]; omega, by show alph.length ≤ 1000; rw [alph_len]; omega, by assumption, ?_⟩
    intro y2 t s hy2 S
    repeat walk_at "st"
    rw [show (j : Int) + 1 = ((j + 1 : Nat) : Int) by omega]
    refine skip28 g X hK hA (hH _).frs (by simp [hx]; omega) (by simp [hx]) (by assumption) ?_
    intro t s S
    have e2 : skp x.cps.toList y2.cps.toList (j + 1) = beh f j := by
      rw [hy2, hx]
      show skp _ (alph.cps.toList.drop v) _ = _
      rw [skp_map hf (by omega), beh, hv]
    rw [e2]
    repeat walk_at "st"
    refine ls_append (by assumption) .ref (by walk_at "upd") (by simp; omega) ?_
    intro s S
    repeat walk_at "st"
    rename_i T _ _
    have hp : List.Perm ((it, ritO 0 1 8 (j + 1)) :: (B, O.list ((ts ++ [(T, ahd f j, (beh f j : Int))]).map fun t => .ref t.1)) :: bled (ts ++ [(T, ahd f j, (beh f j : Int))]) led)
        ((T, O.tuple [V.int (ahd f j), V.int (beh f j)]) :: (it, ritO 0 1 8 (j + 1)) :: (B, O.list (ts.map (fun t => V.ref t.1) ++ [V.ref T])) :: bled ts led) := by
      rw [bled_snoc, List.map_append]
      exact (List.Perm.cons _ (List.Perm.cons _ (bled_perm ts [_] led))).trans ((List.perm_append_comm (l₁ := [_, _]) (l₂ := [_])).append_right _)
    refine lp_next ⟨_, _, ⟨ts ++ [(T, ahd f j, (beh f j : Int))], _, _, _, _, rfl, rfl, ?_⟩, S.perm hp⟩
    rw [List.map_append, hts, List.take_add_one]
    simp [bnds, List.getElem?_range hj]
  · rintro vs led' s ⟨ts, x1, x2, x3, x4, rfl, rfl, hts⟩ S
    repeat walk_at "st"
    exact k _ _ _ (by rw [hts, List.take_of_length_le (by simp [bnds, vints, span_len])]) (St.pop (by assumption))
end P8
section P9
variable {K : Frag} {prog : Program} {w : World} {A : Around} {E : Value → Shared → Prop} {b s : Shared} {fs : List Frm} {led : List (Addr × O)}
set_option maxHeartbeats 800000
theorem cycle164 {S D M : Addr} {rd : V} {po fi : Int} {ep : Nat} {ns : List Nd} {rest : List (Addr × O)} {r : Int → Int} {n : Nat} {Ls : List Addr} {Q : Value → Shared → Prop} (g : Gd b) (X : K.In b.heap) (hK : KOk K) (hA : Ar A (n + 1) Ls) (hR : Frs A fs)
    (nd : (ids ns).Nodup) (hsc : ∀ n ∈ ns, ∀ j ∈ n.sc, j ∈ ids ns ∧ r n.i < r j) (hz : un [] ns ≤ 100) (Z : St b fs (sled S D M rd po fi ep ns rest) s)
    (k : ∀ s', St b fs (sled S D M rd po fi ep ns rest) s' → Q .none s') : wpAny (model prog w) A (call (.ref 164) [.ref S]) Q E s := by
  refine call_ret (code_fr Z g X hA hR hK.f164 (hB := rfl) (pn := ["self"]) (rn := ["n2i", "stack", "itstack", "seen", "node2stacki", "node"]) (gs := ["set", "iter", "len", "StopIteration"]) (xs := [.ref S]) (Loc.of (by decide +kernel)) (.cons .ref .nil) (by intros; kernel_rfl) rfl (by kernel_rfl) ?_)
  clear Z hA hR
  intro env A L s hl hA hH Z
  simp only [List.cons_append, List.nil_append, List.map_cons, List.map_nil] at Z hl hH
  have hbase : sled S D M rd po fi ep ns rest = (S, .inst 174 D) :: (D, .idict sNs [some (.ref M), some rd, some (.int po), some (.int fi)]) :: (M, .dict (ndict ns) ep) :: nled ns rest := rfl
  have hM : (M, O.dict (ndict ns) ep) ∈ sled S D M rd po fi ep ns rest := .tail _ (.tail _ (.head _))
  have hN : ∀ n ∈ ns, (n.N, n.obj) ∈ sled S D M rd po fi ep ns rest := fun n h => .tail _ (.tail _ (.tail _ (mem_nled h)))
  have hD : ∀ n ∈ ns, (n.D, O.idict [] []) ∈ sled S D M rd po fi ep ns rest := fun n h => .tail _ (.tail _ (.tail _ (mem_nledD h)))
  have hL : ∀ n ∈ ns, (n.L, O.list (vints n.sc)) ∈ sled S D M rd po fi ep ns rest := fun n h => .tail _ (.tail _ (.tail _ (mem_nledL h)))
  rw [hbase] at Z
  repeat walk_at "st"
  rename_i SK _ _ _ _ IS _ _ _ _ SE _ _ _ _ ND _ _ _ Z
  refine it_dict Z (.tail _ (.tail _ (.tail _ (.tail _ (.tail _ (.tail _ (.head _))))))) ?_
  intro it s Z
  rw [← hbase] at Z
  clear hbase
  generalize hb : sled S D M rd po fi ep ns rest = base at *
  have hp0 : List.Perm ((it, ditO M (ndict ns).length ep 0) :: cled prog w SK IS SE ND [] [] [] 0 base) ((it, ditO M (ndict ns).length ep 0) :: (ND, .dict [] 0) :: (SE, setO prog w []) :: (IS, .list []) :: (SK, .list []) :: base) :=
    .cons _ ((List.reverse_perm [(ND, O.dict [] 0), (SE, setO prog w []), (IS, O.list []), (SK, O.list [])]).append_right base)
  replace Z := Z.perm hp0
  refine fl_loop (wk_dict it M (ndict ns) ep) (fun j vs led => ∃ (sn : List Int) (epd : Nat) (x : Option V), vs = [some (.ref S), some (.ref M), some (.ref SK), some (.ref IS), some (.ref SE), some (.ref ND), x] ∧ led = cled prog w SK IS SE ND [] sn [] epd base ∧ Cok r ns [] sn []) Z
    ⟨[], 0, _, rfl, rfl, ⟨trivial, nofun, rfl, Nat.le_refl _, by simp, nofun⟩⟩ ?_ hA.hand ?_ ?_
  · rintro j vs led ⟨sn, epd, x, -, rfl, -⟩ p hp
    rcases List.mem_singleton.mp hp with rfl
    exact .tail _ (.tail _ (.tail _ (.tail _ hM)))
  · rintro j x vs led s hx ⟨sn, epd, x', rfl, rfl, hC⟩ Z u hu
    obtain ⟨p, hp, rfl⟩ := vints_get hx
    cases hu
    have hpi : p ∈ ids ns := by rw [← keys_ndict]; exact List.mem_of_getElem? hp
    have hsn : ∀ {ks sn es}, Cok r ns ks sn es → sn.length ≤ 100 := fun C => by have := C.sz; omega
    have hkl : ∀ {ks sn es}, Cok r ns ks sn es → ks.length ≤ 100 := fun C => by have := C.len; have := hsn C; omega
    unfold cled at Z
    repeat walk_at "st"
    refine se_in (by assumption) (by walk_at "mem") (hsn hC) ?_
    intro s Z
    repeat walk_at "st"
    refine brb (fun h => ?_) fun h => ?_
    · repeat walk_at "st"
      exact lp_cont ⟨_, _, ⟨sn, epd, _, rfl, rfl, hC⟩, Z⟩
    · repeat walk_at "st"
      refine x_while (fun n s => ∃ ks sn es epd p, n = un sn ns + rm ks ∧ Cok r ns ks sn es ∧ p ∈ ids ns ∧ (∀ k ∈ ks, r k.n.i < r p) ∧ St b (⟨L, ["self", "n2i", "stack", "itstack", "seen", "node2stacki", "node"], [some (.ref S), some (.ref M), some (.ref SK), some (.ref IS), some (.ref SE), some (.ref ND), some (.int p)]⟩ :: fs)
        ((it, ditO M (ndict ns).length ep (j + 1)) :: cled prog w SK IS SE ND ks sn es epd base) s) _ ⟨[], sn, [], epd, p, rfl, hC, hpi, nofun, Z⟩ ?_
      clear hpi h Z hC
      rintro n0 s ⟨ks, sn, es, epd, p, rfl, hC, hpi, hlt, Z⟩
      unfold cled at Z
      repeat walk_at "st"
      refine br_t rfl ?_
      refine x_cons (wpAny_mono (Q := fun f s' => f = Flow.next ∧ ∃ ks' sn' es' epd', un sn' ns + rm ks' ≤ un sn ns + rm ks ∧ Cok r ns ks' sn' es' ∧ St b (⟨L, ["self", "n2i", "stack", "itstack", "seen", "node2stacki", "node"], [some (.ref S), some (.ref M), some (.ref SK), some (.ref IS), some (.ref SE), some (.ref ND), some (.int p)]⟩ :: fs)
        ((it, ditO M (ndict ns).length ep (j + 1)) :: cled prog w SK IS SE ND ks' sn' es' epd' base) s') ?_ ?_ fun _ _ z => z)
      · repeat walk_at "st"
        refine se_in (by assumption) (by walk_at "mem") (hsn hC) ?_
        intro s Z
        repeat walk_at "st"
        refine brb (fun h => ?_) fun h => ?_
        · repeat walk_at "st"
          refine di_in (by assumption) (by walk_at "mem") ?_
          intro s Z
          repeat walk_at "st"
          refine br_f (hC.not_key hlt) ?_
          repeat walk_at "st"
          exact ⟨rfl, ks, sn, es, epd, Nat.le_refl _, hC, Z⟩
        · have hps : p ∉ sn := fun q => by rw [List.contains_iff_mem.mpr q] at h; cases h
          obtain ⟨m, hm, rfl⟩ := find_nd hpi
          repeat walk_at "st"
          refine se_meth (by assumption) (by walk_at "mem") (hsn hC) ?_
          repeat walk_at "st"
          refine se_add (by assumption) (by walk_at "upd") (hsn hC) ?_
          intro s Z
          repeat walk_at "st"
          refine i_dict (by assumption) (.tail _ (.tail _ (.tail _ (.tail _ (.tail _ (mem_fled hM _)))))) (at_ndict hm nd) ?_ (by kernel_rfl)
          intro s Z
          refine all_ref ?_
          repeat walk_at "st"
          refine sl_get (by assumption) X hK.kc77 hK.ks_succ (.tail _ (.tail _ (.tail _ (.tail _ (.tail _ (mem_fled (hN m hm) _)))))) (.tail _ (.tail _ (.tail _ (.tail _ (.tail _ (mem_fled (hD m hm) _)))))) rfl rfl ?_
          intro s Z
          walk_at "all"
          refine m_iter Z (.tail _ (.tail _ (.tail _ (.tail _ (.tail _ (mem_fled (hL m hm) _)))))) ?_
          intro I1 s Z
          repeat walk_at "st"
          refine mw_next Z ?_
          intro I2 s Z
          refine ls_append Z .ref (by walk_at "upd") (by have := hkl hC; simp; omega) ?_
          intro s Z
          repeat walk_at "st"
          refine l_len Z (by walk_at "mem") (by have := hkl hC; simp; omega) ?_
          intro t s Z
          repeat walk_at "st"
          refine di_new (by assumption) .int (fun q => hps (hC.sub _ q)) (by have := hC.elen; have := hkl hC; omega) fun ep' => ⟨_, by walk_at "upd", ?_⟩
          intro s Z
          repeat walk_at "st"
          refine ls_append (by assumption) .int (by walk_at "upd") (by have := hkl hC; simp; omega) ?_
          intro s Z
          repeat walk_at "st"
          have hun := un_add hm nd hps
          have hC' := hC.push (m := I2) (it := I1) (v := V.int (vints (ks.reverse.map (·.n.i))).length) nd hm hps hlt
          refine ⟨rfl, _, _, _, ep', ?_, hC', Z.perm ?_⟩
          · simp only [rm, List.map_cons, List.sum_cons]; omega
          · have e1 : vints ((⟨m, I2, I1, 0⟩ :: ks : List Fk).reverse.map (·.n.i)) = vints (ks.reverse.map (·.n.i)) ++ [.int m.i] := by simp [vints]
            have e2 : ((⟨m, I2, I1, 0⟩ :: ks : List Fk).reverse.map fun k => V.ref k.m) = (ks.reverse.map fun k => V.ref k.m) ++ [.ref I2] := by simp
            unfold cled
            rw [e1, e2]
            exact (List.perm_append_comm (l₁ := [_, _, _, _, _]) (l₂ := [_, _])).append_right _
      · rintro f s ⟨rfl, ks', sn', es', epd', hle, hC', Z⟩
        clear hC hlt
        repeat walk_at "st"
        refine x_while (fun n s => ∃ ks2 sn2 es2 epd2 p2, n = ks2.length ∧ un sn2 ns + rm ks2 ≤ un sn ns + rm ks ∧ Cok r ns ks2 sn2 es2 ∧ St b (⟨L, ["self", "n2i", "stack", "itstack", "seen", "node2stacki", "node"], [some (.ref S), some (.ref M), some (.ref SK), some (.ref IS), some (.ref SE), some (.ref ND), some (.int p2)]⟩ :: fs)
          ((it, ditO M (ndict ns).length ep (j + 1)) :: cled prog w SK IS SE ND ks2 sn2 es2 epd2 base) s) _ ⟨ks', sn', es', epd', p, rfl, hle, hC', Z⟩ ?_
        clear Z hC' hle
        rintro n1 s ⟨ks2, sn2, es2, epd2, p2, rfl, hle, hC, Z⟩
        unfold cled at Z
        repeat walk_at "st"
        refine t_list Z (.tail _ (.head _)) (by have := hkl hC; simp; omega) ?_
        intro s Z
        repeat walk_at "st"
        cases ks2 with
        | nil =>
          refine br_f rfl ?_
          repeat walk_at "st"
          have he : es2 = [] := List.eq_nil_of_length_eq_zero hC.elen
          subst he
          exact lp_next ⟨_, _, ⟨sn2, epd2, _, rfl, rfl, hC⟩, Z⟩
        | cons kk ks2 =>
          have hk := hC.at_ kk (.head _)
          have hk2 := hkl hC
          rw [List.length_cons] at hk2
          have hpop := hC.pop
          have e1 : vints ((kk :: ks2).reverse.map (·.n.i)) = vints (ks2.reverse.map (·.n.i)) ++ [.int kk.n.i] := by simp [vints]
          have e2 : ((kk :: ks2).reverse.map fun k => V.ref k.m) = (ks2.reverse.map fun k => V.ref k.m) ++ [.ref kk.m] := by simp
          rw [e1, e2] at Z
          refine br_t (by simp) ?_
          repeat walk_at "st"
          refine x_try exc_stop g hl (by walk_at "mem") (by walk_at "mem") ?_
          repeat walk_at "st"
          refine i_last (by assumption) (by walk_at "mem") ?_ (by kernel_rfl)
          refine all_ref ?_
          rename_i Z
          have hm : (kk.m, mwO kk.it) ∈ (it, ditO M (ndict ns).length ep (j + 1)) :: (SK, O.list (vints (ks2.reverse.map (·.n.i)) ++ [.int kk.n.i])) :: (IS, O.list ((ks2.reverse.map fun k => V.ref k.m) ++ [.ref kk.m])) :: (SE, setO prog w sn2) :: (ND, .dict es2 epd2) :: fled (kk :: ks2) base := .tail _ (.tail _ (.tail _ (.tail _ (.tail _ (.head _)))))
          refine cw_mw Z hm ?_
          by_cases hc : kk.c < kk.n.sc.length
          · have hx : (vints kk.n.sc)[kk.c]? = some (.int kk.n.sc[kk.c]) := by simp [vints, List.getElem?_eq_getElem hc]
            have hj := hsc kk.n hk.1 _ (List.getElem_mem hc)
            generalize kk.n.sc[kk.c] = q at *
            refine mw_item (l := kk.n.L) (i := kk.c) Z hm (.there (.there (.there (.there (.there (.there .here)))))) (.tail _ (.tail _ (.tail _ (.tail _ (.tail _ (mem_fled (hL kk.n hk.1) (kk :: ks2))))))) hx ?_
            intro u s hu Z
            cases hu
            repeat walk_at "st"
            refine lp_next ⟨_, ?_, { kk with c := kk.c + 1 } :: ks2, sn2, es2, epd2, q, rfl, hC.step hc, hj.1, fun k' h => ?_, ?_⟩
            · simp only [rm, List.map_cons, List.sum_cons] at hle ⊢; omega
            · rcases List.mem_cons.mp h with rfl | h
              · exact hj.2
              · have := hC.ch.1 k' h
                exact Int.lt_trans this hj.2
            · have e3 : vints (({ kk with c := kk.c + 1 } :: ks2 : List Fk).reverse.map (·.n.i)) = vints (ks2.reverse.map (·.n.i)) ++ [.int kk.n.i] := by simp [vints]
              have e4 : (({ kk with c := kk.c + 1 } :: ks2 : List Fk).reverse.map fun k => V.ref k.m) = (ks2.reverse.map fun k => V.ref k.m) ++ [.ref kk.m] := by simp
              unfold cled
              rw [e3, e4]
              assumption
          · have hc : kk.c = (vints kk.n.sc).length := by simp [vints]; omega
            have hp2 : List.Perm ((kk.it, litO kk.n.L (vints kk.n.sc).length) :: (it, ditO M (ndict ns).length ep (j + 1)) :: (SK, O.list (vints (ks2.reverse.map (·.n.i)) ++ [.int kk.n.i])) :: (IS, O.list ((ks2.reverse.map fun k => V.ref k.m) ++ [.ref kk.m])) :: (SE, setO prog w sn2) :: (ND, .dict es2 epd2) :: (kk.m, mwO kk.it) :: fled ks2 base)
              ((it, ditO M (ndict ns).length ep (j + 1)) :: (SK, O.list (vints (ks2.reverse.map (·.n.i)) ++ [.int kk.n.i])) :: (IS, O.list ((ks2.reverse.map fun k => V.ref k.m) ++ [.ref kk.m])) :: (SE, setO prog w sn2) :: (ND, .dict es2 epd2) :: fled (kk :: ks2) base) := by
              rw [← hc]
              exact (List.perm_append_comm (l₁ := [_]) (l₂ := [_, _, _, _, _, _])).append_right _
            replace Z := Z.perm hp2
            refine mw_stop Z hA.hand (.tail _ (.tail _ (.tail _ (.tail _ (.tail _ (.head _)))))) (.tail _ (.tail _ (.tail _ (.tail _ (.tail _ (.tail _ (mem_fled (hL kk.n hk.1) ks2))))))) ?_
            intro e s Z
            refine ⟨e, _, _, rfl, ⟨hH _, ?_⟩, .inl Z⟩
            clear Z
            intro e s Z
            repeat walk_at "st"
            refine ls_pop (by assumption) (by walk_at "upd") (by simp; omega) ?_
            intro s Z
            refine all_int fun t => ?_
            repeat walk_at "st"
            refine di_del (by assumption) hC.has (by have := hC.elen; rw [List.length_cons] at this; omega) fun ep' => ⟨_, by walk_at "upd", ?_⟩
            intro s Z
            repeat walk_at "st"
            refine ls_pop (by assumption) (by walk_at "upd") (by simp; omega) ?_
            intro s Z
            refine all_ref ?_
            repeat walk_at "st"
            refine lp_next ⟨ks2.length, by simp, ks2, sn2, _, ep', p2, rfl, ?_, hpop, Z.sub ?_⟩
            · simp only [rm, List.map_cons, List.sum_cons] at hle ⊢; omega
            · exact .cons_cons _ (.cons_cons _ (.cons_cons _ (.cons_cons _ (.cons_cons _ (.cons _ (.refl _))))))
  · rintro vs led s ⟨sn, epd, x, rfl, rfl, hC⟩ Z
    repeat walk_at "st"
    refine k _ (Z.pop.sub (.cons _ (.cons _ (.cons _ (.cons _ (.refl _))))))
end P9
section P10
variable {K : Frag} {prog : Program} {w : World} {A : Around} {E : Value → Shared → Prop} {b s : Shared} {fs : List Frm} {led : List (Addr × O)}
set_option maxHeartbeats 800000
theorem prep129 {S D M : Addr} {po fi : Int} {ep : Nat} {ns : List Nd} {rest : List (Addr × O)} {r : Int → Int} {n : Nat} {Ls : List Addr} {Q : Value → Shared → Prop} (g : Gd b) (X : K.In b.heap) (hK : KOk K) (hA : Ar A (n + 2) Ls) (hR : Frs A fs)
    (nd : (ids ns).Nodup) (hsc : ∀ n ∈ ns, ∀ j ∈ n.sc, j ∈ ids ns ∧ r n.i < r j) (hz : un [] ns ≤ 100) (hl : ns.length ≤ 100) (Z : St b fs (sled S D M .none po fi ep ns rest) s)
    (k : ∀ R s', St b fs ((R, .list (vints (rdy (view ns)))) :: sled S D M (.ref R) po fi ep ns rest) s' → Q .none s') : wpAny (model prog w) A (call (.ref 129) [.ref S]) Q E s := by
  refine call_ret (code_fr Z g X hA hR hK.f129 (hB := rfl) (pn := ["self"]) (rn := ["cycle"]) (gs := ["ValueError"]) (xs := [.ref S]) (Loc.of (by decide +kernel)) (.cons .ref .nil) (by intros; kernel_rfl) rfl (by kernel_rfl) ?_)
  clear Z hA hR
  intro env A L s he hA hH Z
  simp only [List.cons_append, List.nil_append, List.map_cons, List.map_nil] at Z he hH
  have hN : ∀ n ∈ ns, (n.N, n.obj) ∈ sled S D M .none po fi ep ns rest := fun n h => .tail _ (.tail _ (.tail _ (mem_nled h)))
  have hD : ∀ n ∈ ns, (n.D, O.idict [] []) ∈ sled S D M .none po fi ep ns rest := fun n h => .tail _ (.tail _ (.tail _ (mem_nledD h)))
  unfold sled at Z
  repeat walk_at "st"
  refine br_f rfl ?_
  repeat walk_at "st"
  refine ev_comp (b := b) (fs := ⟨L, ["self", "cycle"], [some (.ref S), none]⟩ :: fs) (fr := []) (gn := []) (ln := [".0", "i"]) he (Cv.nil he.loc.kind) (Cmp.of (by decide +kernel)) nofun hA.hand ?_ (by intro _; kernel_rfl)
  repeat walk_at "st"
  refine di_meth (by assumption) PySem.F.slot_dict_values PySem.F.type_dict_values (by walk_at "mem") ?_
  repeat walk_at "st"
  refine di_values (by assumption) (by walk_at "mem") ?_
  intro v s Z
  refine it_values Z (.head _) (by walk_at "mem") ?_
  intro it s Z
  have W := wk_vals (prog := prog) (w := w) (b := b) it M (ndict ns) ep
  rw [vals_ndict] at W
  refine ⟨it, _, _, _, fun i ys led' => ys = vints (rdy ((view ns).take i)) ∧ led' = sled S D M .none po fi ep ns rest, _, rfl, W, by simp; omega, Z.sub (.cons_cons _ (.cons _ (.refl _))), ⟨rfl, rfl⟩, ?_, ?_, ?_⟩
  · rintro i ys led ⟨-, rfl⟩ p hp
    rcases List.mem_singleton.mp hp with rfl
    exact .tail _ (.tail _ (.head _))
  · rintro i x hx cenv C acc ys led' vs s u he' hv ⟨rfl, rfl⟩ Z hu
    obtain ⟨m, hm', rfl⟩ : ∃ m, ns[i]? = some m ∧ V.ref m.N = x := by simpa [List.getElem?_map] using hx
    have hm := List.mem_of_getElem? hm'
    cases hu
    obtain ⟨v1, v2, rfl⟩ := Z.two
    have hv' : (view ns)[i]? = some (m.i, m.np, m.sc) := by simp [view, List.getElem?_map, hm']
    have hr : rdy ((view ns).take (i + 1)) = if m.np = 0 then rdy ((view ns).take i) ++ [m.i] else rdy ((view ns).take i) := by rw [List.take_add_one, hv']; exact rdy_snoc _ _
    repeat walk_at "st"
    refine sl_get (by assumption) X hK.kc77 hK.ks_npred (.tail _ (.tail _ (hN m hm))) (.tail _ (.tail _ (hD m hm))) rfl rfl ?_
    intro s Z
    walk_at "all"
    repeat walk_at "st"
    refine br (fun h => ?_) fun h => ?_
    · repeat walk_at "st"
      refine sl_get (by assumption) X hK.kc77 hK.ks_node (.tail _ (.tail _ (hN m hm))) (.tail _ (.tail _ (hD m hm))) rfl rfl ?_
      intro s Z
      walk_at "all"
      refine ⟨_, _, _, .int, ⟨?_, rfl⟩, Z⟩
      rw [hr, if_pos h]; simp [vints]
    · refine ⟨_, _, ⟨?_, rfl⟩, by assumption⟩
      rw [hr, if_neg h]
  · rintro acc ys led' s ⟨rfl, rfl⟩ Z
    rw [List.take_of_length_le (by simp [view])] at Z
    unfold sled at Z
    repeat walk_at "st"
    rename_i Z
    have Z' : St b _ (sled S D M (.ref acc) po fi ep ns ((acc, .list (vints (rdy (view ns)))) :: rest)) _ := St.inn Z
    refine cycle164 g X hK hA (hH _).frs nd hsc hz Z' ?_
    intro s Z
    replace Z := Z.out
    repeat walk_at "st"
    refine br_f rfl ?_
    repeat walk_at "st"
    exact k _ _ (St.pop (by assumption))
end P10
section P11
variable {K : Frag} {prog : Program} {w : World} {A : Around} {E : Value → Shared → Prop} {b s : Shared} {fs : List Frm} {led : List (Addr × O)}
set_option maxHeartbeats 800000
theorem sorter195 {B : Addr} {ts : List (Addr × Int × Int)} {r : Int → Int} {n : Nat} {Ls : List Addr} {Q : Value → Shared → Prop} (g : Gd b) (X : K.In b.heap) (hK' : KOk' K) (hA : Ar A (n + 5) Ls) (hR : Frs A fs)
    (h8 : ts.length = 8) (hv : ∀ m ∈ vAll (ts.map (·.2)) 8, ∀ j ∈ m.2.2, j ∈ (vAll (ts.map (·.2)) 8).map (·.1) ∧ r m.1 < r j) (hz : vun (vAll (ts.map (·.2)) 8) ≤ 100)
    (Z : St b fs ((B, .list (ts.map fun t => .ref t.1)) :: bled ts led) s)
    (k : ∀ S D M R ep ns s', (ids ns).Nodup → view ns = vAll (ts.map (·.2)) 8 → St b fs ((R, .list (vints (rdy (view ns)))) :: sled S D M (.ref R) 0 0 ep ns ((B, .list (ts.map fun t => .ref t.1)) :: bled ts led)) s' → Q (.ref S) s') :
    wpAny (model prog w) A (call (.ref 195) [.ref B]) Q E s := by
  have hK := hK'.ok
  refine call_ret (code_fr Z g X hA hR hK.f195 (hB := rfl) (pn := ["bounds"]) (rn := ["sorter", "place"]) (gs := ["TopologicalSorter", "range"]) (xs := [.ref B]) (Loc.of (by decide +kernel)) (.cons .ref .nil) (by intros; kernel_rfl) rfl (by kernel_rfl) ?_)
  clear Z hA hR
  intro env A L s he hA hH Z
  simp only [List.cons_append, List.nil_append, List.map_cons, List.map_nil] at Z he hH
  repeat walk_at "st"
  refine make174 g X hK hA (by assumption) ?_
  intro S D M s Z
  repeat walk_at "st"
  rename_i Z
  refine it_range Z (.head _) (by decide) (n := 8) (by decide) ?_
  intro it s Z
  replace Z := Z.sub (.cons_cons _ (.cons _ (.refl _)))
  generalize hbase : (B, O.list (ts.map fun t => V.ref t.1)) :: bled ts led = base at *
  have hB : (B, O.list (ts.map fun t => V.ref t.1)) ∈ base := by rw [← hbase]; exact .head _
  have hT : ∀ t ∈ ts, (t.1, O.tuple [.int t.2.1, .int t.2.2]) ∈ base := fun t h => by rw [← hbase]; exact .tail _ (mem_bled h)
  refine fl_loop (wk_range it 0 1 8) (fun j vs led' => ∃ (ep : Nat) (ns : List Nd) (x : Option V), vs = [some (.ref B), some (.ref S), x] ∧ led' = sled S D M .none 0 0 ep ns base ∧ (ids ns).Nodup ∧ ns.length ≤ 3 * j ∧ Big ns (2 * j) ∧ view ns = vAll (ts.map (·.2)) j) Z
    ⟨0, [], _, rfl, rfl, List.nodup_nil, Nat.le_refl _, nofun, rfl⟩ (fun _ _ _ _ _ h => absurd h List.not_mem_nil) hA.hand ?_ ?_
  · rintro j z vs led' s hz ⟨ep, ns, x, rfl, rfl, nd, hl, hb, hvw⟩ Z u hu
    obtain ⟨p, hp, rfl⟩ := vints_get hz
    cases hu
    obtain ⟨rfl, hj⟩ := span_get hp
    rw [show (0 : Int) + j * 1 = j by omega]
    have hj' : j < ts.length := by omega
    obtain ⟨t, ht⟩ : ∃ t, ts[j]? = some t := ⟨_, List.getElem?_eq_getElem hj'⟩
    have htm := List.mem_of_getElem? ht
    unfold sled at Z
    walk_at "st"
    walk_at "st"
    walk_at "st"
    walk_at "st"
    refine ev_smeth ?_ (by kernel_rfl)
    have hme := hK.me174 ("add", 124) (by walk_at "mem")
    repeat walk_at "st"
    refine at_bound (by assumption) X hK.kc174 hK'.add hme.1 hme.2.1 (by walk_at "mem") (by walk_at "mem") hme.2.2 ?_
    intro q s Z
    refine cw_star (x := S) X hK'.add.fn ?_ (by kernel_rfl) (by kernel_rfl)
    repeat walk_at "st"
    refine ev_comp (b := b) (fs := ⟨L, ["bounds", "sorter", "place"], [some (.ref B), some (.ref S), some (.int j)]⟩ :: fs) (fr := []) (gn := []) (ln := [".0", "bound"]) he (Cv.nil he.loc.kind) (Cmp.of (by decide +kernel)) nofun hA.hand ?_ (by intro _; kernel_rfl)
    repeat walk_at "st"
    refine i_list Z (.tail _ (.tail _ (.tail _ (.tail _ (.tail _ (mem_nled' hB)))))) (by omega) (v := .ref t.1) (by simp [List.getElem?_map, ht]) (by simp; omega) ?_ (by kernel_rfl)
    refine all_ref ?_
    refine it_tup Z (.tail _ (.tail _ (.tail _ (.tail _ (.tail _ (mem_nled' (hT t htm))))))) ?_
    intro it2 s Z
    refine ⟨it2, _, _, _, fun i ys led' => ys = vints ((([t.2.1, t.2.2] : List Int).take i).filter fun x => decide (-1 < x) && decide (x < 8)) ∧ led' = (q, mthO 124 S) :: (it, ritO 0 1 8 (j + 1)) :: sled S D M .none 0 0 ep ns base, _, rfl, wk_tup it2 t.1 [.int t.2.1, .int t.2.2], by simp, Z, ⟨rfl, rfl⟩, ?_, ?_, ?_⟩
    · rintro i ys led' ⟨-, rfl⟩ p hp
      rcases List.mem_singleton.mp hp with rfl
      exact .tail _ (.tail _ (.tail _ (.tail _ (.tail _ (mem_nled' (hT t htm))))))
    · rintro i x hx cenv C acc ys led' vs s u he' hv' ⟨rfl, rfl⟩ Z hu
      obtain ⟨v1, v2, rfl⟩ := Z.two
      obtain ⟨y, hy, rfl⟩ := vints_get (ps := [t.2.1, t.2.2]) hx
      cases hu
      have hst : (([t.2.1, t.2.2] : List Int).take (i + 1)).filter (fun x => decide (-1 < x) && decide (x < 8)) = (([t.2.1, t.2.2] : List Int).take i).filter (fun x => decide (-1 < x) && decide (x < 8)) ++ (if decide (-1 < y) && decide (y < 8) then [y] else []) := by
        rw [List.take_add_one, hy, List.filter_append]
        congr 1
        exact List.filter_cons
      repeat walk_at "st"
      refine br (fun h1 => ?_) fun h1 => ?_
      · repeat walk_at "st"
        refine br (fun h2 => ?_) fun h2 => ?_
        · repeat walk_at "st"
          refine ⟨_, _, _, .int, ⟨?_, rfl⟩, by assumption⟩
          rw [hst, decide_eq_true h1, decide_eq_true h2]; simp [vints]
        · refine ⟨_, _, ⟨?_, rfl⟩, by assumption⟩
          rw [hst, decide_eq_true h1, decide_eq_false h2]; simp [vints]
      · refine br_f rfl ⟨_, _, ⟨?_, rfl⟩, by assumption⟩
        rw [hst, decide_eq_false h1]; simp [vints]
    · rintro acc ys led' s ⟨rfl, rfl⟩ Z
      have hps : prs (((ts.map (·.2)).getD j (0, 0))) = (([t.2.1, t.2.2] : List Int).take [V.int t.2.1, V.int t.2.2].length).filter fun x => decide (-1 < x) && decide (x < 8) := by
        rw [List.getD_eq_getElem?_getD, List.getElem?_map, ht]; rfl
      rw [← hps] at Z
      have hpl : (prs ((ts.map (·.2)).getD j (0, 0))).length ≤ 2 := List.length_filter_le _ _
      refine star_l Z (.head _) (by rw [List.length_map]; omega) ?_
      intro us s hus Z
      refine ⟨⟨_, _, Z, .tail _ (.head _)⟩, ?_⟩
      refine add124 g X hK hA nd (by omega) hb (by omega) hpl hus (St.inn Z.drop.drop) ?_
      intro ns' ep' s nd' hl' hb' hv' Z
      repeat walk_at "st"
      refine lp_next ⟨_, _, ⟨ep', ns', _, rfl, rfl, nd', by omega, fun n hn => Nat.le_trans (hb' n hn) (by omega), ?_⟩, Z.out⟩
      rw [hv', hvw, ← vAll_succ]
  · rintro vs led' s ⟨ep, ns, x, rfl, rfl, nd, hl, hb, hvw⟩ Z
    rw [show (vints (span 0 1 8)).length = 8 from rfl] at *
    have hsc : ∀ n ∈ ns, ∀ j ∈ n.sc, j ∈ ids ns ∧ r n.i < r j := fun n hn j hj => by
      have := hv (n.i, n.np, n.sc) (by rw [← hvw]; exact List.mem_map_of_mem (f := fun n : Nd => (n.i, n.np, n.sc)) hn) j hj
      rw [← hvw, ← ids_view] at this
      exact this
    unfold sled at Z
    repeat walk_at "st"
    refine prep129 (r := r) g X hK hA (hH _).frs nd hsc (by rw [un_view, hvw]; exact hz) (by omega) (show St b _ (sled S D M .none 0 0 ep ns base) _ by assumption) ?_
    intro R s Z
    repeat walk_at "st"
    exact k _ _ _ _ _ _ _ nd hvw Z.pop
end P11
section P12
variable {K : Frag} {prog : Program} {w : World} {A : Around} {E : Value → Shared → Prop} {b s : Shared} {fs : List Frm} {led : List (Addr × O)}
set_option maxHeartbeats 800000
theorem ranked200 {Oa : Addr} {os : List Int} {low : Int} {t : Tok} {n : Nat} {Ls : List Addr} {Q : Value → Shared → Prop} (g : Gd b) (X : K.In b.heap) (hK : KOk K) (hA : Ar A (n + 5) Ls) (hR : Frs A fs)
    (h8 : os.length = 8) (hos : ∀ m, m < 8 → ((m : Nat) : Int) ∈ os) (hlo : 0 ≤ low ∧ low < 100) (S : St b fs ((Oa, .list (vints os)) :: led) s)
    (k : ∀ B ts s', ts.map (·.2) = bnds (gfig os low) → St b fs ((B, .list (ts.map fun t => .ref t.1)) :: bled ts ((Oa, .list (vints os)) :: led)) s' → Q (.ref B) s') :
    wpAny (model prog w) A (call (.ref 200) [.ref Oa, .int low t]) Q E s := by
  refine call_ret (code_cel S g X hA hR hK.f200 (hB := rfl) (pn := ["order", "low"]) (rn := ["place", "rank"]) (gs := ["range", "_law_bounds", "_law_text"]) (cn := ["number"]) (cf := fun N => [("number", N)]) (xs := [.ref Oa, .int low]) (Loc.of (by decide +kernel)) (.cons .ref (.cons .int .nil)) (by intros; kernel_rfl) rfl (by kernel_rfl)
    (by intro _; kernel_rfl) (by intro _; rfl) (by decide +kernel) (by decide +kernel) ?_)
  clear S hA hR
  intro env A L s he hC hA hH S
  simp only [List.cons_append, List.nil_append, List.map_cons, List.map_nil] at S he hH hC
  have hcv := hC.cv
  have hg : ∀ m, m < 8 → 0 ≤ gfig os low m ∧ gfig os low m < 64 := fun m hm => gfig_in h8 (hos m hm)
  generalize L + 1 = c at *
  repeat walk_at "st"
  rename_i S
  refine it_range S (.head _) (by decide) (n := 8) (by decide) ?_
  intro it s S
  replace S := S.sub (.cons_cons _ (.cons _ (.refl _)))
  refine fl_loop (wk_range it 0 1 8) (fun j vs led' => ∃ x1 x2 : Option V, vs = [some (.ref Oa), some (.int low), x1, x2] ∧ led' = (c, celO (some (.int (n64 (gfig os low) j)))) :: (Oa, .list (vints os)) :: led) S ⟨_, _, rfl, rfl⟩ (fun _ _ _ _ _ h => absurd h List.not_mem_nil) hA.hand ?_ ?_
  · rintro j z vs led' s hz ⟨x1, x2, rfl, rfl⟩ S u hu
    obtain ⟨p, hp, rfl⟩ := vints_get hz
    cases hu
    obtain ⟨rfl, hj⟩ := span_get hp
    rw [show (0 : Int) + j * 1 = j by omega]
    have hm := hos j hj
    have hlt := List.idxOf_lt_length_of_mem hm
    have hat : os[os.idxOf (j : Int)]? = some (j : Int) := by rw [List.getElem?_eq_getElem hlt, List.getElem_idxOf]
    have hno : ∀ m, m < os.idxOf (j : Int) → os[m]? ≠ some (j : Int) := fun m hm e => by
      have hl : m < os.length := Nat.lt_trans hm hlt
      rw [List.getElem?_eq_getElem hl, Option.some.injEq] at e
      have := List.not_of_lt_findIdx (p := (· == (j : Int))) (xs := os) hm
      simp [e] at this
    repeat walk_at "st"
    refine ls_index (by assumption) (by walk_at "mem") hat hno (by omega) ?_
    intro t s S
    repeat walk_at "st"
    refine o_mul (by assumption) (by decide) (by decide) ?_
    intro t s S
    repeat walk_at "st"
    refine o_mul (by assumption) (by decide) (by decide) ?_
    intro t s S
    repeat walk_at "st"
    refine o_mod (by assumption) (by decide) ?_
    intro t s S
    rw [show (low + (os.idxOf (j : Int) : Int)).fmod 8 = gfig os low j - 8 * (os.idxOf (j : Int) : Int) by unfold gfig; omega]
    repeat walk_at "st"
    rename_i S
    rw [show 64 * n64 (gfig os low) j + 8 * (os.idxOf (j : Int) : Int) + (gfig os low j - 8 * (os.idxOf (j : Int) : Int)) = n64 (gfig os low) (j + 1) by rw [n64_succ]; omega] at S
    exact lp_next ⟨_, _, ⟨_, _, rfl, rfl⟩, S⟩
  · rintro vs led' s ⟨x1, x2, rfl, rfl⟩ S
    rw [show (vints (span 0 1 8)).length = 8 from rfl] at S
    have hN := n64_in hg (n := 8) (Nat.le_refl _)
    have hfg : bnds (fig (n64 (gfig os low) 8)) = bnds (gfig os low) := bnds_congr fun m hm => fig_n64 hg hm
    generalize n64 (gfig os low) 8 = N at *
    have hN6 : N < 256 ^ 6 := by rw [show (256 : Int) ^ 6 = 64 ^ 8 by decide]; exact hN.2
    repeat walk_at "st"
    refine ev_comp (b := b) (fs := ⟨L, ["order", "low", "place", "rank"], [some (.ref Oa), some (.int low), x1, x2]⟩ :: fs) (fr := [("number", c)]) (gn := []) (ln := [".0", "k"]) he hcv (Cmp.of (by show cmpOk _ _ _ ["number"] = true; decide +kernel)) (fun p h => h) hA.hand ?_ (by intro _; kernel_rfl)
    repeat walk_at "st"
    refine m_range3 (by assumption) (by decide) (PyProof.noPylong_small (by decide)) ?_
    intro r s S
    refine it_range S (.head _) (by decide) (n := 6) (by decide) ?_
    intro it s S
    replace S := S.sub (.cons_cons _ (.cons _ (.refl _)))
    refine ⟨it, _, _, _, fun i ys led' => ys = vints (octs N i) ∧ led' = (c, celO (some (.int N))) :: (Oa, .list (vints os)) :: led, _, rfl, wk_range it 5 (-1) 6, by simp [span_len], S, ⟨rfl, rfl⟩, fun _ _ _ _ _ h => absurd h List.not_mem_nil, ?_, ?_⟩
    · rintro i z hz cenv C acc ys led' vs s u he' hv ⟨rfl, rfl⟩ S hu
      obtain ⟨p, hp, rfl⟩ := vints_get hz
      cases hu
      obtain ⟨rfl, hi⟩ := span_get hp
      rw [show (5 : Int) + i * -1 = ((5 - i : Nat) : Int) by omega]
      obtain ⟨v1, v2, rfl⟩ := S.two
      repeat walk_at "st"
      refine br_t rfl ?_
      repeat walk_at "st"
      refine o_pow (by assumption) (by decide) (by decide) (by omega) (by omega) ?_
      intro t s S
      rw [Int.toNat_natCast]
      repeat walk_at "st"
      refine o_fdiv S (Int.ne_of_gt (Int.pow_pos (by decide))) (noPy hi) ?_
      intro t s S
      repeat walk_at "st"
      refine o_mod (by assumption) (by decide) ?_
      intro t s S
      refine ⟨_, _, _, .int, ⟨?_, rfl⟩, S⟩
      rw [octs_snoc]; simp [vints]
    · rintro acc ys led' s ⟨rfl, rfl⟩ S
      rw [show (vints (span 5 (-1) 6)).length = 6 from rfl] at S
      repeat walk_at "st"
      refine text183 g X hK hA S (octs_len _ _) octs_in ?_
      intro x t s hx S
      repeat walk_at "st"
      refine bounds190 g X hK hA (hH _).frs (by assumption) hx (fig_in _) ?_
      intro B ts s hts S
      rw [num_octs hN.1 hN6, hfg] at hts
      repeat walk_at "st"
      exact k B ts _ hts (S.pop.sub (.cons_cons _ ((List.Sublist.refl _).append (.cons _ (.cons _ (.refl _))))))
end P12
section P13
variable {K : Frag} {prog : Program} {w : World} {A : Around} {E : Value → Shared → Prop} {b s : Shared} {fs : List Frm} {led : List (Addr × O)}
/-- a sorter that was told bounds, from its making on -/
theorem sorterK {B : Addr} {ts : List (Addr × Int × Int)} {r : Int → Int} {n : Nat} {Ls : List Addr} {Q : Value → Shared → Prop} (g : Gd b) (X : K.In b.heap) (hK' : KOk' K) (hA : Ar A (n + 5) Ls) (hR : Frs A fs)
    (h8 : ts.length = 8) (hne : ∀ t ∈ ts.map (·.2), t.1 ≠ t.2) (hr : ∀ j p, p ∈ Pof (ts.map (·.2)) j → r p < r j)
    (Z : St b fs ((B, .list (ts.map fun t => .ref t.1)) :: bled ts led) s)
    (k : ∀ S D M R ep ns s' Ks f0, Ks.length ≤ 8 → view ns = mkV Ks f0 (gof (ts.map (·.2)) 8) → Sok (Pof (ts.map (·.2))) Ks (fun j => if j ∈ rdy (view ns) then -1 else f0 j) (gof (ts.map (·.2)) 8) [] (rdy (view ns)) → St b fs ((R, .list (vints (rdy (view ns)))) :: sled S D M (.ref R) 0 0 ep ns ((B, .list (ts.map fun t => .ref t.1)) :: bled ts led)) s' → Q (.ref S) s') :
    wpAny (model prog w) A (call (.ref 195) [.ref B]) Q E s := by
  obtain ⟨Ks, f0, e, hl, hS⟩ := sok_init (bs := ts.map (·.2)) (by simpa using h8) hne
  refine sorter195 (r := r) g X hK' hA hR h8 (fun m hm j hj => ?_) ?_ Z fun S D M R ep ns s' nd hv Z' => ?_
  · rw [e] at hm ⊢
    obtain ⟨i, hi, rfl⟩ := List.mem_map.mp hm
    rw [mkV_keys]
    have := (hS.gm i j).mp hj
    exact ⟨this.1, hr j i this.2⟩
  · rw [e]
    have := vun_mk (K := Ks) (f := f0) (g := gof (ts.map (·.2)) 8) (gof_len _ 8)
    omega
  · rw [← hv] at hS e
    exact k S D M R ep ns s' Ks f0 hl e hS Z'
set_option maxHeartbeats 800000
theorem lets207 {B Oa : Addr} {ts : List (Addr × Int × Int)} {os : List Int} {r : Int → Int} {n : Nat} {Ls : List Addr} {Q : Value → Shared → Prop} (g : Gd b) (X : K.In b.heap) (hK' : KOk' K) (hA : Ar A (n + 6) Ls) (hR : Frs A fs)
    (h8 : ts.length = 8) (hne : ∀ t ∈ ts.map (·.2), t.1 ≠ t.2) (hr : ∀ j p, p ∈ Pof (ts.map (·.2)) j → r p < r j) (hon : os.Nodup) (hoi : ∀ i ∈ os, 0 ≤ i ∧ i < 8)
    (Z : St b fs ((B, .list (ts.map fun t => .ref t.1)) :: bled ts ((Oa, .list (vints os)) :: led)) s)
    (k : ∀ c s', (c = true ↔ Lin (Pof (ts.map (·.2))) os) → St b fs ((B, .list (ts.map fun t => .ref t.1)) :: bled ts ((Oa, .list (vints os)) :: led)) s' → Q (.bool c) s') :
    wpAny (model prog w) A (call (.ref 207) [.ref B, .ref Oa]) Q E s := by
  have hK := hK'.ok
  refine call_ret (code_fr Z g X hA hR hK.f207 (hB := rfl) (pn := ["bounds", "order"]) (rn := ["sorter", "out", "place"]) (gs := ["_law_sorter", "list"]) (xs := [.ref B, .ref Oa]) (Loc.of (by decide +kernel)) (.cons .ref (.cons .ref .nil)) (by intros; kernel_rfl) rfl (by kernel_rfl) ?_)
  clear Z hA hR
  intro env A L s he hA hH Z
  simp only [List.cons_append, List.nil_append, List.map_cons, List.map_nil] at Z he hH
  repeat walk_at "st"
  refine sorterK (r := r) g X hK' hA (hH _).frs h8 hne hr (by assumption) ?_
  intro S D M R ep ns s Ks f0 hKl hvw hS Z
  have hbase : ∀ p ∈ [(B, O.list (ts.map fun t => V.ref t.1)), (Oa, .list (vints os))], p ∈ (B, O.list (ts.map fun t => V.ref t.1)) :: bled ts ((Oa, .list (vints os)) :: led) := by
    intro p hp
    simp only [List.mem_cons, List.not_mem_nil, or_false] at hp
    rcases hp with rfl | rfl
    · exact .head _
    · exact .tail _ (List.mem_append_right _ (.head _))
  generalize hbs : (B, O.list (ts.map fun t => V.ref t.1)) :: bled ts ((Oa, .list (vints os)) :: led) = base at *
  generalize hP : Pof (ts.map (·.2)) = P at *
  generalize hgg : gof (ts.map (·.2)) 8 = gg at *
  unfold sled at Z
  repeat walk_at "st"
  have hlen : ∀ {f : Int → Int} {dn out : List Int}, Sok P Ks f gg dn out → out.length ≤ 8 := fun S => nodup_len 8 S.on fun x hx => (S.ky x).mp ((S.om x).mp hx).1
  have hglen : ∀ i, (gg i).length ≤ 8 := fun i => by rw [← hgg]; exact gof_len _ 8 i
  refine readyK (rd := rdy (view ns)) (ns := ns) g X hK hA hS.nd (fun i hi => ((hS.om i).mp hi).1) (by have := hlen hS; omega) hvw (by assumption) ?_
  intro T ns1 s hv1 Z
  refine m_list Z (.head _) (by have := hlen hS; simp; omega) ?_
  intro ot s Z
  repeat walk_at "st"
  rename_i Z
  refine it_list (xs := vints os) Z (.tail _ (.tail _ (.tail _ (.tail _ (.tail _ (.tail _ (mem_nled' (hbase _ (by simp))))))))) ?_
  intro it s Z
  replace Z := Z.sub (.cons_cons _ (.cons_cons _ (.cons _ (.refl _))))
  refine fl_loop (wk_list it Oa (vints os)) (fun j vs led' => ∃ (po fi : Int) (ns : List Nd) (f : Int → Int) (out : List Int) (x : Option V), vs = [some (.ref B), some (.ref Oa), some (.ref S), some (.ref ot), x] ∧ led' = (ot, .list (vints out)) :: (R, .list []) :: sled S D M (.ref R) po fi ep ns base ∧
    view ns = mkV Ks f gg ∧ Sok P Ks f gg (os.take j) out ∧ ∀ i j', i < j → os[i]? = some j' → ∀ p ∈ P j', p ∈ os.take i) Z ⟨_, _, ns1, _, _, _, rfl, rfl, hv1, hS, fun i j' h => by omega⟩ ?_ hA.hand ?_ ?_
  · rintro j vs led' ⟨po, fi, ns, f, out, x, -, rfl, -⟩ p hp
    rcases List.mem_singleton.mp hp with rfl
    exact .tail _ (.tail _ (.tail _ (.tail _ (.tail _ (mem_nled' (hbase _ (by simp)))))))
  · clear Z hS hv1 hvw
    rintro j x vs led' s hx ⟨po, fi, ns, f, out, x', rfl, rfl, hv, hS, hlin⟩ Z u hu
    obtain ⟨p, hp, rfl⟩ := vints_get hx
    cases hu
    have hpr := hoi p (List.mem_of_getElem? hp)
    have hpt := not_take hon hp
    have hol := hlen hS
    unfold sled at Z
    repeat walk_at "st"
    refine c_notin (ns := out) (by assumption) (by walk_at "mem") ?_
    repeat walk_at "st"
    refine brb (fun h => ?_) fun h => ?_
    · repeat walk_at "st"
      have hpo : p ∉ out := fun q => by rw [List.contains_iff_mem.mpr q] at h; cases h
      refine k false _ ⟨nofun, fun hL => ?_⟩ (St.sub (St.pop (by assumption)) (.cons _ (.cons _ (.cons _ (.cons _ (.cons _ (.cons _ (sub_nled _ _))))))))
      exact absurd ((hS.om p).mpr ⟨(hS.ky p).mpr hpr, hpt, hL j p hp⟩) hpo
    · have hpo : p ∈ out := List.contains_iff_mem.mp (by simpa using h)
      have hpp := ((hS.om p).mp hpo).2.2
      obtain ⟨hi1, hi2⟩ := idx_at hpo
      obtain ⟨he1, he2⟩ := erase_at hS.on hi1
      have hS' := hS.step hpo (take_snoc hp) he1 he2
      have hol' := hlen hS'
      rw [List.length_append] at hol'
      repeat walk_at "st"
      refine ls_remove (by assumption) hi1 hi2 (by walk_at "upd") (by omega) ?_
      intro s Z
      repeat walk_at "st"
      have hpm : ∀ {xs : List V} {po fi : Int} {ns : List Nd} {out : List V}, List.Perm ((R, O.list xs) :: sled S D M (.ref R) po fi ep ns ((it, litO Oa (j + 1)) :: (ot, .list out) :: base)) ((it, litO Oa (j + 1)) :: (ot, .list out) :: (R, .list xs) :: sled S D M (.ref R) po fi ep ns base) :=
        (List.Perm.cons _ (sled_outs _ _ _ _ _ _ _ _ [_, _] base).symm).trans ((List.perm_append_comm (l₁ := [_]) (l₂ := [_, _])).append_right _)
      refine doneK g X hK hA hS hpo (by have := hglen p; omega) hv (St.perm (by assumption) hpm) ?_
      intro ns' s hv' Z
      replace Z := Z.perm hpm.symm
      unfold sled at Z
      repeat walk_at "st"
      refine readyK g X hK hA hS.nd (fun i hi => ((hS'.om i).mp (List.mem_append_right _ hi)).1) (by omega) hv' (St.perm (by assumption) hpm) ?_
      intro T2 ns2 s hv2 Z
      replace Z := Z.perm (List.Perm.cons _ hpm.symm)
      unfold sled at Z
      repeat walk_at "st"
      refine ls_extend Z (.head _) (by walk_at "upd") (by simp; omega) (by simp; omega) ?_
      intro s Z
      repeat walk_at "st"
      refine lp_next ⟨_, _, ⟨po + (nextR P f gg p).length, fi + 1, ns2, _, out.eraseIdx (out.idxOf p) ++ nextR P f gg p, some (.int p), rfl, rfl, hv2, hS', fun i j' h1 h2 => ?_⟩, ?_⟩
      · by_cases e : i = j
        · subst e
          rw [hp, Option.some.injEq] at h2
          subst h2
          exact hpp
        · exact hlin i j' (by omega) h2
      · rw [show vints (out.eraseIdx (out.idxOf p) ++ nextR P f gg p) = vints (out.eraseIdx (out.idxOf p)) ++ vints (nextR P f gg p) by simp [vints]]
        exact Z.drop
  · clear Z hS hv1 hvw
    rintro vs led' s ⟨po, fi, ns, f, out, x, rfl, rfl, hv, hS, hlin⟩ Z
    unfold sled at Z
    repeat walk_at "st"
    refine k true _ ⟨fun _ => ?_, fun _ => rfl⟩ (St.sub (St.pop (by assumption)) (.cons _ (.cons _ (.cons _ (.cons _ (.cons _ (sub_nled _ _)))))))
    intro j i hj
    exact hlin j i (by have := (List.getElem?_eq_some_iff.mp hj).1; simpa [vints] using this) hj
end P13
section Q1
variable {K : Frag} {prog : Program} {w : World} {A : Around} {b s : Shared} {fs : List Frm} {led : List (Addr × O)} {env : Env} {L cO cL cK cP cN cS a : Addr}
set_option maxHeartbeats 800000
theorem siz_at {i : Nat} {x : V} (h : ([V.int 256, V.int 256, V.int 256, V.int 256, V.int 256, V.int 256, V.int 40320, V.int 56] : List V)[i]? = some x) : x = .int (siz i) ∧ i < 8 := by
  match i, h with
  | 0, h | 1, h | 2, h | 3, h | 4, h | 5, h | 6, h | 7, h => cases h; exact ⟨rfl, by decide⟩
  | i + 8, h => simp at h
theorem siz_get {i : Nat} (h : i < 8) : ([V.int 256, V.int 256, V.int 256, V.int 256, V.int 256, V.int 256, V.int 40320, V.int 56] : List V)[i]? = some (.int (siz i)) := by
  match i, h with
  | 0, _ | 1, _ | 2, _ | 3, _ | 4, _ | 5, _ | 6, _ | 7, _ => rfl
  | i + 8, h => omega
theorem siz_pos (i : Nat) : 0 < siz i := by unfold siz; split; decide; split <;> decide
theorem law_a {us : List Value} {ns : List Int} {Q : Flow → Shared → Prop} (hL : b.heap.IsList a us.toArray) (hI : IntsAre us ns) (hn : ns.length ≤ 63) (g : Gd b) (hh : A.handled = none)
    (he : Ev env L (["script", "cells", "k", "start", "octet", "spans", "bounds", "sorter", "out", "draw", "step", "free", "pick", "swap", "low", "changed"] : List Str) (["enumerate", "sum", "range", "_law_bounds", "_law_text", "_law_sorter", "list", "sorted", "divmod", "len", "_law_ranked", "_law_lets"] : List Str)) (hC : Own env [("order", cO), ("lower", cL), ("keys", cK), ("place", cP), ("number", cN), ("size", cS)])
    (Z : St b (⟨L, (["script", "cells", "k", "start", "octet", "spans", "bounds", "sorter", "out", "draw", "step", "free", "pick", "swap", "low", "changed"] : List Str), [some (.ref a), none, none, none, none, none, none, none, none, none, none, none, none, none, none, none]⟩ :: fs) ((cO, celO none) :: (cL, celO none) :: (cK, celO none) :: (cP, celO none) :: (cN, celO none) :: (cS, celO none) :: led) s)
    (k : ∀ ce cs x1 x2 sz s', cs.length = 8 → (∀ j c, cs[j]? = some c → 0 ≤ c ∧ c < siz j) →
      St b (⟨L, (["script", "cells", "k", "start", "octet", "spans", "bounds", "sorter", "out", "draw", "step", "free", "pick", "swap", "low", "changed"] : List Str), [some (.ref a), some (.ref ce), x1, x2, none, none, none, none, none, none, none, none, none, none, none, none]⟩ :: fs) ((ce, .list (vints cs)) :: (cO, celO none) :: (cL, celO none) :: (cK, celO none) :: (cP, celO none) :: (cN, celO none) :: (cS, celO sz) :: led) s' →
      wpAny (model prog w) A (execs ((fbody (stAt 22)).drop 2) env) Q (fun _ _ => False) s') :
    wpAny (model prog w) A (execs (fbody (stAt 22)) env) Q (fun _ _ => False) s := by
  refine x_from (by rfl) ?_
  have hcv := hC.cv
  repeat walk_at "st"
  rename_i l s Z
  refine m_enum Z (.head _) ?_
  intro e it s Z
  refine it_enum Z (.head _) ?_
  refine en_loop (l := l) (xs := [.int 82, .int 17, .int 104, .int 23, .int 227, .int 63, .int 4321, .int 38]) (fun i vs led' => ∃ (cs : List Int) (x1 x2 sz : Option V) (ce : Addr), vs = [some (.ref a), some (.ref ce), x1, x2, none, none, none, none, none, none, none, none, none, none, none, none] ∧
    led' = (l, .list [.int 82, .int 17, .int 104, .int 23, .int 227, .int 63, .int 4321, .int 38]) :: (ce, .list (vints cs)) :: (cO, celO none) :: (cL, celO none) :: (cK, celO none) :: (cP, celO none) :: (cN, celO none) :: (cS, celO sz) :: led ∧ cs.length = i ∧ ∀ j c, cs[j]? = some c → 0 ≤ c ∧ c < siz j) Z ?_ ?_ hh ?_ ?_
  · exact ⟨[], _, _, _, _, rfl, rfl, rfl, nofun⟩
  · rintro i vs led' ⟨cs, x1, x2, sz, ce, rfl, rfl, -⟩
    exact .head _
  · clear Z
    rintro i x vs led' s T hx ⟨cs, x1, x2, sz, ce, rfl, rfl, hcl, hcr⟩ Z
    refine a_pair Z hh (.head _) (fun u1 u2 s i1 i2 Z => ?_) (by kernel_rfl)
    replace Z := Z.drop
    cases i1
    have hi8 : i < 8 := by have := (List.getElem?_eq_some_iff.mp hx).1; simpa using this
    obtain ⟨st, rfl⟩ : ∃ st : Int, x = .int st := by
      match i, hx with
      | 0, hx | 1, hx | 2, hx | 3, hx | 4, hx | 5, hx | 6, hx | 7, hx => cases hx; exact ⟨_, rfl⟩
      | i + 8, hx => omega
    cases i2
    clear hx
    repeat walk_at "st"
    rename_i Z _
    refine i_list Z (.head _) (by omega) (by rw [Int.toNat_natCast]; exact siz_get hi8) (by decide) ?_ (by kernel_rfl)
    refine all_int ?_
    intro t
    replace Z := Z.drop
    repeat walk_at "st"
    refine ev_comp (b := b) (fs := ⟨L, (["script", "cells", "k", "start", "octet", "spans", "bounds", "sorter", "out", "draw", "step", "free", "pick", "swap", "low", "changed"] : List Str), [some (.ref a), some (.ref ce), some (.int i), some (.int st), none, none, none, none, none, none, none, none, none, none, none, none]⟩ :: fs) (fr := [("size", cS)]) (gn := []) (ln := [".0", "x"]) he hcv (Cmp.of (by show cmpOk _ _ _ ["size"] = true; decide +kernel)) (fun p h => by rcases List.mem_singleton.mp h with rfl; walk_at "mem") hh ?_ (by intro _; kernel_rfl)
    repeat walk_at "st"
    refine l_step hL hI (by omega) ?_ (by intro _; kernel_rfl)
    repeat walk_at "st"
    refine ⟨_, _, _, _, _, _, rfl, rfl, by decide, by assumption, fun c ys s hys Z => ?_⟩
    refine it_list Z (.head _) ?_
    intro it2 s Z
    refine ⟨it2, _, _, _, fun j zs led' => (∃ ms : List Int, zs = vints ms) ∧ led' = (c, .list (vints ys)) :: (e, enO it (i + 1)) :: (it, litO l (i + 1)) :: (l, .list [.int 82, .int 17, .int 104, .int 23, .int 227, .int 63, .int 4321, .int 38]) :: (ce, .list (vints cs)) :: (cO, celO none) :: (cL, celO none) :: (cK, celO none) :: (cP, celO none) :: (cN, celO none) :: (cS, celO (some (.int (siz i)))) :: led, _, rfl, wk_list it2 c (vints ys), by simp [vints]; omega, Z, ⟨⟨[], rfl⟩, rfl⟩, ?_, ?_, ?_⟩
    · rintro j zs led' ⟨-, rfl⟩ p hp
      rcases List.mem_singleton.mp hp with rfl
      exact .head _
    · rintro j z hz cenv C acc zs led' vs s u he' hv ⟨⟨ms, rfl⟩, rfl⟩ Z hu
      obtain ⟨v1, v2, rfl⟩ := Z.two
      obtain ⟨y, hy, rfl⟩ := vints_get hz
      cases hu
      repeat walk_at "st"
      refine br_t rfl ?_
      repeat walk_at "st"
      refine o_mod (by assumption) (Int.ne_of_gt (siz_pos i)) ?_
      intro t s Z
      refine ⟨_, _, _, .int, ⟨⟨ms ++ [y.fmod (siz i)], by simp [vints]⟩, rfl⟩, Z⟩
    · rintro acc zs led' s ⟨⟨ms, rfl⟩, rfl⟩ Z
      refine m_sum Z hh (.head _) ?_
      intro t s Z
      replace Z := Z.drop.drop
      repeat walk_at "st"
      refine o_mod (by assumption) (Int.ne_of_gt (siz_pos i)) ?_
      intro t s Z
      refine ls_append Z .int (by walk_at "upd") (by simp [vints]; omega) ?_
      intro s Z
      repeat walk_at "st"
      refine lp_next ⟨_, _, ⟨cs ++ [Int.fmod (st + ms.sum) (siz i)], some (.int i), some (.int st), some (.int (siz i)), ce, rfl, rfl, by simp [hcl], fun j c hj => ?_⟩, ?_⟩
      · by_cases hj' : j < cs.length
        · rw [List.getElem?_append_left hj'] at hj
          exact hcr j c hj
        · have hj2 := (List.getElem?_eq_some_iff.mp hj).1
          rw [List.length_append] at hj2
          have : j = i := by simp at hj2; omega
          subst this
          rw [List.getElem?_append_right (by omega), hcl, Nat.sub_self] at hj
          cases hj
          exact ⟨Int.fmod_nonneg_of_pos _ (siz_pos _), Int.fmod_lt_of_pos _ (siz_pos _)⟩
      · rw [show vints (cs ++ [Int.fmod (st + ms.sum) (siz i)]) = vints cs ++ [V.int (Int.fmod (st + ms.sum) (siz i))] by simp [vints]]
        exact Z
  · rintro vs led' s ⟨cs, x1, x2, sz, ce, rfl, rfl, hcl, hcr⟩ Z
    walk_at "st"
    walk_at "st"
    exact k ce cs x1 x2 sz _ hcl hcr Z.drop
end Q1
section Q2
variable {K : Frag} {prog : Program} {w : World} {A : Around} {b s : Shared} {fs : List Frm} {led : List (Addr × O)} {env : Env} {L cO cL cK cP cN cS a : Addr}
set_option maxHeartbeats 800000
theorem law_b {ce : Addr} {cs : List Int} {x1 x2 sz : Option V} {Q : Flow → Shared → Prop} (hcl : cs.length = 8) (hcr : ∀ j c, cs[j]? = some c → 0 ≤ c ∧ c < siz j) (g : Gd b) (hh : A.handled = none)
    (he : Ev env L (["script", "cells", "k", "start", "octet", "spans", "bounds", "sorter", "out", "draw", "step", "free", "pick", "swap", "low", "changed"] : List Str) (["enumerate", "sum", "range", "_law_bounds", "_law_text", "_law_sorter", "list", "sorted", "divmod", "len", "_law_ranked", "_law_lets"] : List Str)) (hC : Own env [("order", cO), ("lower", cL), ("keys", cK), ("place", cP), ("number", cN), ("size", cS)])
    (Z : St b (⟨L, (["script", "cells", "k", "start", "octet", "spans", "bounds", "sorter", "out", "draw", "step", "free", "pick", "swap", "low", "changed"] : List Str), [some (.ref a), some (.ref ce), x1, x2, none, none, none, none, none, none, none, none, none, none, none, none]⟩ :: fs) ((ce, .list (vints cs)) :: (cO, celO none) :: (cL, celO none) :: (cK, celO none) :: (cP, celO none) :: (cN, celO none) :: (cS, celO sz) :: led) s)
    (k : ∀ ka x3 s', St b (⟨L, (["script", "cells", "k", "start", "octet", "spans", "bounds", "sorter", "out", "draw", "step", "free", "pick", "swap", "low", "changed"] : List Str), [some (.ref a), some (.ref ce), x1, x2, x3, none, none, none, none, none, none, none, none, none, none, none]⟩ :: fs) ((ka, .list (vints ((span 0 1 8).map (rk (fig (num (cs.take 6))))))) :: (ce, .list (vints cs)) :: (cO, celO none) :: (cL, celO none) :: (cK, celO (some (.ref ka))) :: (cP, celO none) :: (cN, celO (some (.int (num (cs.take 6))))) :: (cS, celO sz) :: led) s' →
      wpAny (model prog w) A (execs ((fbody (stAt 22)).drop 5) env) Q (fun _ _ => False) s') :
    wpAny (model prog w) A (execs ((fbody (stAt 22)).drop 2) env) Q (fun _ _ => False) s := by
  refine x_from (by rfl) ?_
  have hcv := hC.cv
  repeat walk_at "st"
  refine l_b (b := b) ?_ (by intro _; kernel_rfl)
  repeat walk_at "st"
  refine ⟨vints cs, 6, _, _, _, rfl, by simp [vints, hcl], by simp [vints, hcl], by assumption, by walk_at "mem", fun c s Z => ?_⟩
  rw [show (vints cs).take 6 = vints (cs.take 6) by simp [vints]] at Z
  refine it_list Z (.head _) ?_
  intro it s Z
  refine fl_loop (wk_list it c (vints (cs.take 6))) (fun j vs led' => ∃ x3 : Option V, vs = [some (.ref a), some (.ref ce), x1, x2, x3, none, none, none, none, none, none, none, none, none, none, none] ∧
    led' = (c, .list (vints (cs.take 6))) :: (ce, .list (vints cs)) :: (cO, celO none) :: (cL, celO none) :: (cK, celO none) :: (cP, celO none) :: (cN, celO (some (.int (num (cs.take j))))) :: (cS, celO sz) :: led) Z ⟨none, rfl, rfl⟩ ?_ hh ?_ ?_
  · rintro j vs led' ⟨x3, -, rfl⟩ p hp
    rcases List.mem_singleton.mp hp with rfl
    exact .head _
  · rintro j x vs led' s hx ⟨x3, rfl, rfl⟩ Z u hu
    obtain ⟨p, hp, rfl⟩ := vints_get hx
    cases hu
    have hj6 : j < 6 := by have := (List.getElem?_eq_some_iff.mp hp).1; rw [List.length_take] at this; omega
    have hpc : cs[j]? = some p := by rw [List.getElem?_take, if_pos hj6] at hp; exact hp
    repeat walk_at "st"
    refine o_mul (by assumption) (by decide) (by decide) ?_
    intro t s Z
    repeat walk_at "st"
    refine lp_next ⟨_, _, ⟨some (.int p), rfl, rfl⟩, ?_⟩
    rename_i Z
    rw [show num (cs.take (j + 1)) = 256 * num (cs.take j) + p by rw [List.take_add_one, hpc, Option.toList_some, num_snoc]]
    exact Z
  · rintro vs led' s ⟨x3, rfl, rfl⟩ Z
    rw [show (vints (cs.take 6)).length = 6 by simp [vints, hcl]] at Z
    replace Z := Z.drop
    generalize num (cs.take 6) = N at *
    walk_at "st"
    walk_at "st"
    walk_at "st"
    refine as_celc hC (by walk_at "mem") ?_
    refine ev_comp (b := b) (fs := ⟨L, (["script", "cells", "k", "start", "octet", "spans", "bounds", "sorter", "out", "draw", "step", "free", "pick", "swap", "low", "changed"] : List Str), [some (.ref a), some (.ref ce), x1, x2, x3, none, none, none, none, none, none, none, none, none, none, none]⟩ :: fs) (fr := [("number", cN)]) (gn := []) (ln := [".0", "place"]) he hcv (Cmp.of (by show cmpOk _ _ _ ["number"] = true; decide +kernel)) (fun p h => by rcases List.mem_singleton.mp h with rfl; walk_at "mem") hh ?_ (by intro _; kernel_rfl)
    repeat walk_at "st"
    rename_i r s Z
    refine it_range Z (.head _) (by decide) (n := 8) (by decide) ?_
    intro it s Z
    replace Z := Z.sub (.cons_cons _ (.cons _ (.refl _)))
    refine ⟨it, _, _, _, fun i ys led' => ys = vints (((span 0 1 8).take i).map (rk (fig N))) ∧ led' = (ce, .list (vints cs)) :: (cO, celO none) :: (cL, celO none) :: (cK, celO none) :: (cP, celO none) :: (cN, celO (some (.int N))) :: (cS, celO sz) :: led, _, rfl, wk_range it 0 1 8, by simp [span_len], Z, ⟨rfl, rfl⟩, fun _ _ _ _ _ h => absurd h List.not_mem_nil, ?_, ?_⟩
    · rintro i z hz cenv C acc ys led' vs s u he' hv ⟨rfl, rfl⟩ Z hu
      obtain ⟨p, hp, rfl⟩ := vints_get hz
      cases hu
      obtain ⟨rfl, hi⟩ := span_get hp
      have he2 : vints (((span 0 1 8).take (i + 1)).map (rk (fig N))) = vints (((span 0 1 8).take i).map (rk (fig N))) ++ [.int (8 * Int.fmod (Int.fdiv N (64 ^ (7 - i))) 64 + i)] := by
        rw [List.take_add_one, hp, Option.toList_some, List.map_append]
        simp only [vints, List.map_append, List.map_cons, List.map_nil, rk, fig]
        rw [Int.fdiv_eq_ediv_of_nonneg _ (Int.le_of_lt (Int.pow_pos (by decide))), Int.fmod_eq_emod_of_nonneg _ (by decide), show ((0 : Int) + i * 1).toNat = i by omega, show (0 : Int) + i * 1 = i by omega]
      rw [show (0 : Int) + i * 1 = i by omega]
      clear hp hz
      obtain ⟨v1, v2, rfl⟩ := Z.two
      repeat walk_at "st"
      refine br_t rfl ?_
      repeat walk_at "st"
      refine o_pow (by assumption) (by decide) (by decide) (by omega) (by omega) ?_
      intro t s Z
      rw [show (7 - (i : Int)).toNat = 7 - i by omega]
      repeat walk_at "st"
      refine o_fdiv Z (Int.ne_of_gt (Int.pow_pos (by decide))) (noPy64 hi) ?_
      intro t s Z
      repeat walk_at "st"
      refine o_mod (by assumption) (by decide) ?_
      intro t s Z
      refine o_mul (by assumption) (by decide) (by decide) ?_
      intro t s Z
      repeat walk_at "st"
      exact ⟨_, _, _, .int, ⟨he2.symm, rfl⟩, by assumption⟩
    · rintro acc ys led' s ⟨rfl, rfl⟩ Z
      rw [show (vints (span 0 1 8)).length = 8 from rfl, show (span 0 1 8).take 8 = span 0 1 8 from rfl] at Z
      refine st_cel Z hC (by walk_at "mem") .ref (by walk_at "upd") ?_
      intro s Z
      walk_at "st"
      exact k acc x3 _ Z
end Q2
section Q3
variable {K : Frag} {prog : Program} {w : World} {A : Around} {b s : Shared} {fs : List Frm} {led : List (Addr × O)} {env : Env} {L cO cL cK cP cN cS a : Addr}
set_option maxHeartbeats 1000000
theorem law_c {ka : Addr} {r : Int → Int} {x0 x1 x2 x3 x4 oO oN oS : Option V} {Q : Flow → Shared → Prop} (g : Gd b) (hh : A.handled = none)
    (he : Ev env L (["script", "cells", "k", "start", "octet", "spans", "bounds", "sorter", "out", "draw", "step", "free", "pick", "swap", "low", "changed"] : List Str) (["enumerate", "sum", "range", "_law_bounds", "_law_text", "_law_sorter", "list", "sorted", "divmod", "len", "_law_ranked", "_law_lets"] : List Str)) (hC : Own env [("order", cO), ("lower", cL), ("keys", cK), ("place", cP), ("number", cN), ("size", cS)])
    (Z : St b (⟨L, (["script", "cells", "k", "start", "octet", "spans", "bounds", "sorter", "out", "draw", "step", "free", "pick", "swap", "low", "changed"] : List Str), [x0, x1, x2, x3, x4, none, none, none, none, none, none, none, none, none, none, none]⟩ :: fs) ((ka, .list (vints ((span 0 1 8).map r))) :: (cO, celO oO) :: (cL, celO none) :: (cK, celO (some (.ref ka))) :: (cP, celO none) :: (cN, celO oN) :: (cS, celO oS) :: led) s)
    (k : ∀ lo lows x5 pv s', lows.length = 8 → (∀ j t, lows[j]? = some t → t.2 = lwf r (spn r j 8)) →
      St b (⟨L, (["script", "cells", "k", "start", "octet", "spans", "bounds", "sorter", "out", "draw", "step", "free", "pick", "swap", "low", "changed"] : List Str), [x0, x1, x2, x3, x4, x5, none, none, none, none, none, none, none, none, none, none]⟩ :: fs) ((lo, .list (lows.map fun t => .ref t.1)) :: (ka, .list (vints ((span 0 1 8).map r))) :: (cO, celO oO) :: (cL, celO (some (.ref lo))) :: (cK, celO (some (.ref ka))) :: (cP, celO pv) :: (cN, celO oN) :: (cS, celO oS) :: lled lows led) s' →
      wpAny (model prog w) A (execs ((fbody (stAt 22)).drop 7) env) Q (fun _ _ => False) s') :
    wpAny (model prog w) A (execs ((fbody (stAt 22)).drop 5) env) Q (fun _ _ => False) s := by
  refine x_from (by rfl) ?_
  have hcv := hC.cv
  walk_at "st"
  walk_at "st"
  walk_at "st"
  walk_at "st"
  walk_at "st"
  rename_i lo s Z
  refine st_cel Z hC (by walk_at "mem") .ref (by walk_at "upd") ?_
  intro s Z
  repeat walk_at "st"
  rename_i Z
  refine it_range Z (.head _) (by decide) (n := 8) (by decide) ?_
  intro it s Z
  replace Z := Z.sub (.cons_cons _ (.cons _ (.refl _)))
  refine fl_loop (wk_range it 0 1 8) (fun j vs led' => ∃ (lows : List (Addr × List Int)) (x5 pv : Option V), vs = [x0, x1, x2, x3, x4, x5, none, none, none, none, none, none, none, none, none, none] ∧
    led' = (lo, .list (lows.map fun t => .ref t.1)) :: (ka, .list (vints ((span 0 1 8).map r))) :: (cO, celO oO) :: (cL, celO (some (.ref lo))) :: (cK, celO (some (.ref ka))) :: (cP, celO pv) :: (cN, celO oN) :: (cS, celO oS) :: lled lows led ∧ lows.length = j ∧ ∀ j t, lows[j]? = some t → t.2 = lwf r (spn r j 8)) Z ⟨[], _, _, rfl, rfl, rfl, nofun⟩ (fun _ _ _ _ _ h => absurd h List.not_mem_nil) hh ?_ ?_
  · rintro j z vs led' s hz ⟨lows, x5, pv, rfl, rfl, hll, hlw⟩ Z u hu
    obtain ⟨p, hp, rfl⟩ := vints_get hz
    cases hu
    obtain ⟨rfl, hj⟩ := span_get hp
    rw [show (0 : Int) + j * 1 = j by omega]
    clear hz hp
    walk_at "st"
    walk_at "st"
    walk_at "st"
    rename_i Z
    refine as_comp (b := b) (fs := fs) (fr := [("keys", cK), ("place", cP)]) (gn := ["min", "max"]) (ln := [".0", "other"]) he hcv (Cmp.of (by show cmpOk _ _ _ ["keys", "place"] = true; decide +kernel)) (fun p h => by simp only [List.mem_cons, List.not_mem_nil, or_false] at h; rcases h with rfl | rfl <;> walk_at "mem") hh (by walk_at "mem") (by kernel_rfl) ?_ (by intro _; kernel_rfl)
    repeat walk_at "st"
    rename_i Z
    refine it_range Z (.head _) (by decide) (n := 8) (by decide) ?_
    intro it2 s Z
    replace Z := Z.sub (.cons_cons _ (.cons _ (.refl _)))
    refine ⟨it2, _, _, _, fun i ys led' => ∃ sp : List (Addr × Addr × Nat × List Int), ys = (sp.map fun t => V.ref t.1).reverse ∧ (sp.map (·.2.2)).reverse = spn r j i ∧ led' = (it, ritO 0 1 8 (j + 1)) :: (lo, .list (lows.map fun t => .ref t.1)) :: (ka, .list (vints ((span 0 1 8).map r))) :: (cO, celO oO) :: (cL, celO (some (.ref lo))) :: (cK, celO (some (.ref ka))) :: (cP, celO (some (.int j))) :: (cN, celO oN) :: (cS, celO oS) :: spl sp (lled lows led), _, _, rfl, wk_range it2 0 1 8, by simp [span_len], Z, ⟨[], rfl, rfl, rfl⟩, fun _ _ _ _ _ h => absurd h List.not_mem_nil, ?_, ?_⟩
    · rintro i z hz cenv C acc ys led' vs s u he' hv ⟨sp, rfl, hsp, rfl⟩ Z hu
      obtain ⟨p, hp, rfl⟩ := vints_get hz
      cases hu
      obtain ⟨rfl, hi⟩ := span_get hp
      rw [show (0 : Int) + i * 1 = i by omega]
      clear hz hp
      obtain ⟨v1, v2, rfl⟩ := Z.two
      repeat walk_at "st"
      refine brb (fun h => ?_) fun h => ?_
      · have hij : i ≠ j := fun e => by rw [e] at h; simp at h
        repeat walk_at "st"
        refine l_ab (b := b) ?_ (by intro _; kernel_rfl)
        repeat walk_at "st"
        refine m_min2 (by assumption) hh ?_
        intro t s Z
        rw [show min (i : Int) (j : Int) = ((min i j : Nat) : Int) by omega]
        repeat walk_at "st"
        refine m_max2 (by assumption) hh ?_
        intro t s Z
        repeat walk_at "st"
        rw [show max (i : Int) (j : Int) + 1 = ((max i j + 1 : Nat) : Int) by omega]
        refine ⟨vints ((span 0 1 8).map r), min i j, _, max i j + 1, _, _, _, rfl, rfl, by omega, ?_, by simp [vints, span_len], by assumption, by walk_at "mem", fun c s Z => ?_⟩
        · simp [vints, span_len]; omega
        rw [show ((vints ((span 0 1 8).map r)).drop (min i j)).take (max i j + 1 - min i j) = vints (sgm r i j) by simp [vints, sgm]] at Z
        repeat walk_at "st"
        rename_i T s Z
        refine ⟨_, _, _, .ref, ⟨(T, c, i, sgm r i j) :: sp, ?_, ?_, rfl⟩, St.perm Z (List.perm_append_comm_assoc [_, _] [_, _, _, _, _, _, _, _, _, _, _] _).symm⟩
        · simp
        · rw [spn_snoc, if_pos hij, List.map_cons, List.reverse_cons, hsp]
      · have hij : i = j := Int.ofNat_inj.mp (by simpa using h)
        refine ⟨_, _, ⟨sp, rfl, ?_, rfl⟩, by assumption⟩
        rw [spn_snoc, hsp, if_neg (by omega), List.append_nil]
    · rintro acc ys led' ⟨sp, rfl, hsp, rfl⟩
      refine ⟨_, by walk_at "up", fun s Z => ?_⟩
      rw [show (vints (span 0 1 8)).length = 8 from rfl] at hsp
      generalize hspn : spn r j 8 = sn at *
      have hsn : sn.length ≤ 8 := by rw [← hspn]; unfold spn; rw [List.length_map]; exact Nat.le_trans (List.length_filter_le _ _) (by simp)
      have hsm : ∀ t ∈ sn, t.1 < 8 ∧ t.2 = sgm r t.1 j := fun t ht => by rw [← hspn] at ht; have := spn_mem ht; exact ⟨this.1, this.2.2⟩
      repeat walk_at "st"
      refine ev_comp (b := b) (fs := ⟨L, (["script", "cells", "k", "start", "octet", "spans", "bounds", "sorter", "out", "draw", "step", "free", "pick", "swap", "low", "changed"] : List Str), [x0, x1, x2, x3, x4, some (.ref acc), none, none, none, none, none, none, none, none, none, none]⟩ :: fs) (fr := [("keys", cK)]) (gn := ["min"]) (ln := [".0", "other", "span"]) he hcv (Cmp.of (by show cmpOk _ _ _ ["keys"] = true; decide +kernel)) (fun p h => by rcases List.mem_singleton.mp h with rfl; walk_at "mem") hh ?_ (by intro _; kernel_rfl)
      repeat walk_at "st"
      refine it_list (xs := (sp.map fun t => V.ref t.1).reverse) (by assumption) (.head _) ?_
      intro it3 s Z
      refine ⟨it3, _, _, _, fun i ys led' => ys = vints (lwf r (sn.take i)) ∧ led' = (acc, .list (sp.map fun t => V.ref t.1).reverse) :: (it, ritO 0 1 8 (j + 1)) :: (lo, .list (lows.map fun t => .ref t.1)) :: (ka, .list (vints ((span 0 1 8).map r))) :: (cO, celO oO) :: (cL, celO (some (.ref lo))) :: (cK, celO (some (.ref ka))) :: (cP, celO (some (.int j))) :: (cN, celO oN) :: (cS, celO oS) :: spl sp (lled lows led), _, rfl, wk_list it3 acc (sp.map fun t => V.ref t.1).reverse, ?_, Z, ⟨rfl, rfl⟩, ?_, ?_, ?_⟩
      · have := congrArg List.length hsp
        simp at this
        simp; omega
      · rintro i ys led' ⟨-, rfl⟩ p hp
        rcases List.mem_singleton.mp hp with rfl
        exact .head _
      · rintro i z hz cenv C acc2 ys led' vs s u he' hv ⟨rfl, rfl⟩ Z hu
        obtain ⟨t, ht, rfl⟩ : ∃ t, sp.reverse[i]? = some t ∧ z = .ref t.1 := by
          rw [← List.map_reverse, List.getElem?_map] at hz
          obtain ⟨t, ht, e⟩ := Option.map_eq_some_iff.mp hz
          exact ⟨t, ht, e.symm⟩
        have htm : t ∈ sp := List.mem_reverse.mp (List.mem_of_getElem? ht)
        have hti : sn[i]? = some t.2.2 := by rw [← hsp, ← List.map_reverse, List.getElem?_map, ht]; rfl
        have htn := hsm _ (List.mem_of_getElem? hti)
        have hlst : lwf r (sn.take (i + 1)) = lwf r (sn.take i) ++ if ∀ y ∈ t.2.2.2, r (t.2.2.1 : Nat) ≤ y then [(t.2.2.1 : Int)] else [] := by rw [List.take_add_one, hti, Option.toList_some, lwf_snoc]
        cases hu
        clear hz
        obtain ⟨v1, v2, v3, rfl⟩ := Z.three
        refine a_pair Z hh (.tail _ (.tail _ (.tail _ (.tail _ (.tail _ (.tail _ (.tail _ (.tail _ (.tail _ (.tail _ (.tail _ (.tail _ (mem_spl htm).1)))))))))))) (fun u1 u2 s i1 i2 Z => ?_) (by kernel_rfl)
        cases i1
        cases i2
        repeat walk_at "st"
        refine i_list (by assumption) (xs := vints ((span 0 1 8).map r)) (by walk_at "mem") (by omega) (v := .int (r (t.2.2.1 : Nat))) (by rw [Int.toNat_natCast]; simp only [vints, List.getElem?_map, span_at htn.1]; rfl) (by simp [vints, span_len]) ?_ (by kernel_rfl)
        refine all_int ?_
        intro _
        repeat walk_at "st"
        refine m_min (ns := t.2.2.2) (by assumption) hh (.tail _ (.tail _ (.tail _ (.tail _ (.tail _ (.tail _ (.tail _ (.tail _ (.tail _ (.tail _ (.tail _ (.tail _ (mem_spl htm).2)))))))))))) (by rw [htn.2]; exact sgm_pos htn.1 hj) ?_
        intro M t' s hM hMa Z
        have hre : r (t.2.2.1 : Nat) ∈ t.2.2.2 := by rw [htn.2]; exact (sgm_mem htn.1 hj).mpr ⟨_, by omega, by omega, rfl⟩
        repeat walk_at "st"
        refine br (fun h => ?_) fun h => ?_
        · repeat walk_at "st"
          refine ⟨_, _, _, .int, ⟨?_, rfl⟩, Z⟩
          rw [hlst, if_pos (by rw [h]; exact hMa)]
          simp [vints]
        · refine ⟨_, _, ⟨?_, rfl⟩, Z⟩
          rw [hlst, if_neg fun q => h (Int.le_antisymm (q M hM) (hMa _ hre)), List.append_nil]
      · rintro acc2 ys led' s ⟨rfl, rfl⟩ Z
        have hxl : (sp.map fun t => V.ref t.1).reverse.length = sn.length := by rw [← hsp]; simp
        rw [hxl, List.take_length] at Z
        replace Z := Z.sub (.cons_cons _ (.cons _ (.refl _)))
        refine ls_append Z .ref (by walk_at "upd") (by simp; omega) ?_
        intro s Z
        repeat walk_at "st"
        refine lp_next ⟨_, _, ⟨lows ++ [(acc2, lwf r sn)], some (.ref acc), some (.int j), rfl, rfl, by simp [hll], fun j' t ht => ?_⟩, ?_⟩
        · by_cases hlt : j' < lows.length
          · rw [List.getElem?_append_left hlt] at ht
            exact hlw j' t ht
          · have h2 := (List.getElem?_eq_some_iff.mp ht).1
            rw [List.length_append] at h2
            have : j' = j := by simp at h2; omega
            subst this
            rw [List.getElem?_append_right (by omega), hll, Nat.sub_self] at ht
            cases ht
            rw [hspn]
        · rw [lled_snoc, show (lows ++ [(acc2, lwf r sn)]).map (fun t => V.ref t.1) = lows.map (fun t => V.ref t.1) ++ [.ref acc2] by simp]
          exact St.perm (Z.sub (.cons_cons _ (.cons_cons _ (.cons_cons _ (.cons_cons _ (.cons_cons _ (.cons_cons _ (.cons_cons _ (.cons_cons _ (.cons_cons _ (.cons_cons _ (sub_spl _ _)))))))))))) (List.perm_append_comm_assoc [_] [_, _, _, _, _, _, _, _, _] _).symm
  · rintro vs led' s ⟨lows, x5, pv, rfl, rfl, hll, hlw⟩ Z
    walk_at "st"
    walk_at "st"
    exact k lo lows x5 pv _ hll hlw Z
end Q3
section Q4
variable {K : Frag} {prog : Program} {w : World} {A : Around} {b s : Shared} {fs : List Frm} {led : List (Addr × O)} {env : Env} {L cO cL cK cP cN cS a : Addr}
theorem nled_congr {r r' : List (Addr × O)} (h : r.Perm r') : ∀ ns : List Nd, (nled ns r).Perm (nled ns r')
  | [] => h
  | n :: ns => .cons _ (.cons _ (.cons _ (nled_congr h ns)))
theorem sled_congr {S D M : Addr} {rd : V} {po fi : Int} {ep : Nat} {ns : List Nd} {r r' : List (Addr × O)} (h : r.Perm r') : (sled S D M rd po fi ep ns r).Perm (sled S D M rd po fi ep ns r') := .cons _ (.cons _ (.cons _ (nled_congr h ns)))
set_option maxHeartbeats 1000000
theorem law_d {ce : Addr} {cs : List Int} {x0 x2 x3 x4 x5 : Option V} {n : Nat} {Ls : List Addr} {Q : Flow → Shared → Prop} (hcl : cs.length = 8) (hcr : ∀ j c, cs[j]? = some c → 0 ≤ c ∧ c < siz j) (g : Gd b) (X : K.In b.heap) (hK' : KOk' K) (hA : Ar A (n + 6) Ls)
    (hH : ∀ vs, Hd A env L (⟨L, (["script", "cells", "k", "start", "octet", "spans", "bounds", "sorter", "out", "draw", "step", "free", "pick", "swap", "low", "changed"] : List Str), vs⟩ :: fs)) (he : Ev env L (["script", "cells", "k", "start", "octet", "spans", "bounds", "sorter", "out", "draw", "step", "free", "pick", "swap", "low", "changed"] : List Str) (["enumerate", "sum", "range", "_law_bounds", "_law_text", "_law_sorter", "list", "sorted", "divmod", "len", "_law_ranked", "_law_lets"] : List Str)) (hC : Own env [("order", cO), ("lower", cL), ("keys", cK), ("place", cP), ("number", cN), ("size", cS)])
    (Z : St b (⟨L, (["script", "cells", "k", "start", "octet", "spans", "bounds", "sorter", "out", "draw", "step", "free", "pick", "swap", "low", "changed"] : List Str), [x0, some (.ref ce), x2, x3, x4, x5, none, none, none, none, none, none, none, none, none, none]⟩ :: fs) ((ce, .list (vints cs)) :: (cO, celO none) :: led) s)
    (k : ∀ B ts S D M R ot oo po ep ns dr s' Ks f0 rd gg, ts.map (·.2) = bnds (fig (num (cs.take 6))) → view ns = mkV Ks f0 gg → (∀ i, (gg i).length ≤ 8) → Sok (Pof (bnds (fig (num (cs.take 6))))) Ks f0 gg [] rd → po = rd.length → cs[6]? = some dr →
      St b (⟨L, (["script", "cells", "k", "start", "octet", "spans", "bounds", "sorter", "out", "draw", "step", "free", "pick", "swap", "low", "changed"] : List Str), [x0, some (.ref ce), x2, x3, x4, x5, some (.ref B), some (.ref S), some (.ref ot), some (.int dr), none, none, none, none, none, none]⟩ :: fs)
        ((oo, .list []) :: (cO, celO (some (.ref oo))) :: (ot, .list (vints rd)) :: (R, .list []) :: sled S D M (.ref R) po 0 ep ns ((ce, .list (vints cs)) :: (B, .list (ts.map fun t => .ref t.1)) :: bled ts led)) s' →
      wpAny (model prog w) A (execs ((fbody (stAt 22)).drop 12) env) Q (fun _ _ => False) s') :
    wpAny (model prog w) A (execs ((fbody (stAt 22)).drop 7) env) Q (fun _ _ => False) s := by
  refine x_from (by rfl) ?_
  have hK := hK'.ok
  have hcv := hC.cv
  repeat walk_at "st"
  refine l_b (b := b) ?_ (by intro _; kernel_rfl)
  repeat walk_at "st"
  refine ⟨vints cs, 6, _, _, _, rfl, by simp [vints, hcl], by simp [vints, hcl], by assumption, by walk_at "mem", fun c s Z => ?_⟩
  rw [show (vints cs).take 6 = vints (cs.take 6) by simp [vints]] at Z
  repeat walk_at "st"
  refine text183 g X hK hA Z (by simp [hcl]) (fun k hk => ?_) ?_
  · obtain ⟨j, hj⟩ := List.mem_iff_getElem?.mp hk
    rw [List.getElem?_take] at hj
    by_cases h6 : j < 6
    · rw [if_pos h6] at hj
      have := hcr j k hj
      rw [siz, if_pos h6] at this
      exact this
    · rw [if_neg h6] at hj; cases hj
  intro x t s hx Z
  repeat walk_at "st"
  generalize num (cs.take 6) = N at *
  refine bounds190 g X hK hA (hH _).frs Z.drop hx (fig_in _) ?_
  intro B ts s hts Z
  have h8 : ts.length = 8 := by have := congrArg List.length hts; rw [bnds_len] at this; simpa using this
  repeat walk_at "st"
  refine sorterK (r := rk (fig N)) g X hK' hA (hH _).frs h8 (by rw [hts]; exact bnds_ne) (by rw [hts]; exact fun j p h => Pof_lt h) (by assumption) ?_
  intro S D M R ep ns s Ks f0 hKl hvw hS Z
  rw [hts] at hS hvw
  have hglen : ∀ i, (gof (bnds (fig N)) 8 i).length ≤ 8 := fun i => gof_len _ 8 i
  generalize gof (bnds (fig N)) 8 = gg at *
  have hlen : (rdy (view ns)).length ≤ 8 := nodup_len 8 hS.on fun x hx => (hS.ky x).mp ((hS.om x).mp hx).1
  have hpm : List.Perm ((cO, celO none) :: (ce, O.list (vints cs)) :: (B, .list (ts.map fun t => V.ref t.1)) :: bled ts led) ((B, .list (ts.map fun t => V.ref t.1)) :: bled ts ((ce, O.list (vints cs)) :: (cO, celO none) :: led)) :=
    (List.Perm.swap ..).trans ((List.perm_append_comm_assoc [_, _] [_] _).trans (.cons _ (bled_perm ts [_, _] led).symm))
  generalize hbs : (B, O.list (ts.map fun t => V.ref t.1)) :: bled ts ((ce, O.list (vints cs)) :: (cO, celO none) :: led) = base at *
  unfold sled at Z
  repeat walk_at "st"
  refine readyK (rd := rdy (view ns)) (ns := ns) g X hK hA hS.nd (fun i hi => ((hS.om i).mp hi).1) (by omega) hvw (by assumption) ?_
  intro T ns1 s hv1 Z
  refine m_list Z (.head _) (by simp; omega) ?_
  intro ot s Z
  generalize rdy (view ns) = rd at *
  replace Z := Z.sub (.cons_cons _ (.cons _ (.refl _)))
  replace Z := Z.perm (((List.perm_append_comm_assoc [_] [_, _] _).trans (.cons _ (.cons _ ((sled_outs S D M (.ref R) (0 + rd.length) 0 ep ns1 [(cO, celO none)] ((ce, O.list (vints cs)) :: (B, .list (ts.map fun t : Addr × Int × Int => V.ref t.1)) :: bled ts led)).trans (sled_congr hpm))))))
  simp only [List.cons_append, List.nil_append] at Z
  obtain ⟨dr, hdr⟩ : ∃ dr, cs[6]? = some dr := ⟨_, List.getElem?_eq_getElem (by omega)⟩
  unfold sled at Z
  repeat walk_at "st"
  refine i_list (by assumption) (xs := vints cs) (.tail _ (.tail _ (.tail _ (.tail _ (.tail _ (.tail _ (.tail _ (mem_nled' (.head _))))))))) (by decide) (v := .int dr) (by show (vints cs)[6]? = _; simp [vints, hdr]) (by simp [vints]; omega) ?_ (by kernel_rfl)
  refine all_int ?_
  intro _
  walk_at "st"
  walk_at "st"
  exact k B ts S D M R ot _ (0 + rd.length) ep ns1 dr _ Ks _ rd gg hts hv1 hglen hS (by omega) hdr (by assumption)
end Q4
section Q5
variable {K : Frag} {prog : Program} {w : World} {A : Around} {b s : Shared} {fs : List Frm} {led : List (Addr × O)} {env : Env} {L cO cL cK cP cN cS a : Addr}
set_option maxHeartbeats 1600000
theorem law_e {f : Nat → Int} {lo oo ot S D M R : Addr} {lows : List (Addr × List Int)} {po dr : Int} {ep : Nat} {ns : List Nd} {Ks rd : List Int} {f0 : Int → Int} {gg : Int → List Int} {x0 x1 x2 x3 x4 x5 x6 : Option V} {rest : List (Addr × O)} {n : Nat} {Ls : List Addr} {Q : Flow → Shared → Prop}
    (g : Gd b) (X : K.In b.heap) (hK' : KOk' K) (hA : Ar A (n + 6) Ls)
    (hcL : (cL, celO (some (.ref lo))) ∈ rest) (hlo : (lo, O.list (lows.map fun t => .ref t.1)) ∈ rest) (hlw : ∀ t ∈ lows, (t.1, O.list (vints t.2)) ∈ rest) (hll : lows.length = 8) (hlv : ∀ j t, lows[j]? = some t → t.2 = lwf (rk f) (spn (rk f) j 8))
    (hv : view ns = mkV Ks f0 gg) (hglen : ∀ i, (gg i).length ≤ 8) (hS : Sok (Pof (bnds f)) Ks f0 gg [] rd) (hpo : po = rd.length) (hdr : 0 ≤ dr)
    (hH : ∀ vs, Hd A env L (⟨L, (["script", "cells", "k", "start", "octet", "spans", "bounds", "sorter", "out", "draw", "step", "free", "pick", "swap", "low", "changed"] : List Str), vs⟩ :: fs)) (he : Ev env L (["script", "cells", "k", "start", "octet", "spans", "bounds", "sorter", "out", "draw", "step", "free", "pick", "swap", "low", "changed"] : List Str) (["enumerate", "sum", "range", "_law_bounds", "_law_text", "_law_sorter", "list", "sorted", "divmod", "len", "_law_ranked", "_law_lets"] : List Str)) (hC : Own env [("order", cO), ("lower", cL), ("keys", cK), ("place", cP), ("number", cN), ("size", cS)])
    (Z : St b (⟨L, (["script", "cells", "k", "start", "octet", "spans", "bounds", "sorter", "out", "draw", "step", "free", "pick", "swap", "low", "changed"] : List Str), [x0, x1, x2, x3, x4, x5, x6, some (.ref S), some (.ref ot), some (.int dr), none, none, none, none, none, none]⟩ :: fs)
        ((oo, .list []) :: (cO, celO (some (.ref oo))) :: (ot, .list (vints rd)) :: (R, .list []) :: sled S D M (.ref R) po 0 ep ns rest) s)
    (k : ∀ po fi ns dn x9 x10 x11 x12 s', fi = po → dn.length = 8 → dn.Nodup → (∀ i ∈ dn, 0 ≤ i ∧ i < 8) → Lin (Pof (bnds f)) dn →
      St b (⟨L, (["script", "cells", "k", "start", "octet", "spans", "bounds", "sorter", "out", "draw", "step", "free", "pick", "swap", "low", "changed"] : List Str), [x0, x1, x2, x3, x4, x5, x6, some (.ref S), some (.ref ot), x9, x10, x11, x12, none, none, none]⟩ :: fs)
        ((oo, .list (vints dn)) :: (cO, celO (some (.ref oo))) :: (ot, .list []) :: (R, .list []) :: sled S D M (.ref R) po fi ep ns rest) s' →
      wpAny (model prog w) A (execs ((fbody (stAt 22)).drop 13) env) Q (fun _ _ => False) s') :
    wpAny (model prog w) A (execs ((fbody (stAt 22)).drop 12) env) Q (fun _ _ => False) s := by
  refine x_from (by rfl) ?_
  have hK := hK'.ok
  have hcv := hC.cv
  have hh := hA.hand
  have hlen : ∀ {f' : Int → Int} {dn out : List Int}, Sok (Pof (bnds f)) Ks f' gg dn out → out.length ≤ 8 := fun S => nodup_len 8 S.on fun x hx => (S.ky x).mp ((S.om x).mp hx).1
  repeat walk_at "st"
  rename_i Z
  refine it_range Z (.head _) (by decide) (n := 8) (by decide) ?_
  intro it s Z
  replace Z := Z.sub (.cons_cons _ (.cons _ (.refl _)))
  refine fl_loop (wk_range it 0 1 8) (fun j vs led' => ∃ (po fi : Int) (ns : List Nd) (ff : Int → Int) (out dn : List Int) (draw : Int) (x10 x11 x12 : Option V), vs = [x0, x1, x2, x3, x4, x5, x6, some (.ref S), some (.ref ot), some (.int draw), x10, x11, x12, none, none, none] ∧
    led' = (oo, .list (vints dn)) :: (cO, celO (some (.ref oo))) :: (ot, .list (vints out)) :: (R, .list []) :: sled S D M (.ref R) po fi ep ns rest ∧ view ns = mkV Ks ff gg ∧ Sok (Pof (bnds f)) Ks ff gg dn out ∧ dn.length = j ∧ dn.Nodup ∧ Lin (Pof (bnds f)) dn ∧ po = fi + out.length ∧ 0 ≤ draw) Z
    ⟨po, 0, ns, f0, rd, [], dr, none, none, none, rfl, rfl, hv, hS, rfl, List.nodup_nil, nofun, by omega, hdr⟩ (fun _ _ _ _ _ h => absurd h List.not_mem_nil) hh ?_ ?_
  · clear Z hv hS hpo hdr
    rintro j z vs led' s hz ⟨po, fi, ns, ff, out, dn, draw, x10, x11, x12, rfl, rfl, hv, hS, hdl, hdn, hlin, hpo, hdr⟩ Z u hu
    obtain ⟨p, hp, rfl⟩ := vints_get hz
    cases hu
    obtain ⟨rfl, hj⟩ := span_get hp
    rw [show (0 : Int) + j * 1 = j by omega]
    clear hz hp
    have hol := hlen hS
    have hone := out_ne hS (by omega)
    walk_at "st"
    walk_at "st"
    walk_at "st"
    rename_i Z
    generalize hbig : (it, ritO 0 1 8 (j + 1)) :: (oo, O.list (vints dn)) :: (cO, celO (some (.ref oo))) :: (ot, .list (vints out)) :: (R, .list []) :: sled S D M (.ref R) po fi ep ns rest = big at Z
    have hmr : ∀ {p : Addr × O}, p ∈ rest → p ∈ big := fun {p} h => by rw [← hbig]; exact .tail _ (.tail _ (.tail _ (.tail _ (.tail _ (.tail _ (.tail _ (.tail _ (mem_nled' h))))))))
    have hmL := hmr hcL
    have hmO : (cO, celO (some (.ref oo))) ∈ big := by rw [← hbig]; exact .tail _ (.tail _ (.head _))
    have hmo : (oo, O.list (vints dn)) ∈ big := by rw [← hbig]; exact .tail _ (.head _)
    have hmt : (ot, O.list (vints out)) ∈ big := by rw [← hbig]; exact .tail _ (.tail _ (.tail _ (.head _)))
    refine as_comp (b := b) (fs := fs) (fr := [("lower", cL), ("order", cO)]) (gn := []) (ln := [".0", "place"]) he hcv (Cmp.of (by show cmpOk _ _ _ ["lower", "order"] = true; decide +kernel)) (fun p h => by simp only [List.mem_cons, List.not_mem_nil, or_false] at h; rcases h with rfl | rfl <;> walk_at "mem") hh (by walk_at "mem") (by kernel_rfl) ?_ (by intro _; kernel_rfl)
    repeat walk_at "st"
    rename_i Z
    refine it_range Z (.head _) (by decide) (n := 8) (by decide) ?_
    intro it2 s Z
    replace Z := Z.sub (.cons_cons _ (.cons _ (.refl _)))
    refine ⟨it2, _, _, _, fun i ys led' => ys = vints (fre (rk f) dn i) ∧ led' = big, _, _, rfl, wk_range it2 0 1 8, by simp [span_len], Z, ⟨rfl, rfl⟩, fun _ _ _ _ _ h => absurd h List.not_mem_nil, ?_, ?_⟩
    · rintro i z hz cenv C acc ys big vs s u he' hv' ⟨rfl, rfl⟩ Z hu
      obtain ⟨p, hp, rfl⟩ := vints_get hz
      cases hu
      obtain ⟨rfl, hi⟩ := span_get hp
      rw [show (0 : Int) + i * 1 = i by omega]
      clear hz hp
      obtain ⟨v1, v2, rfl⟩ := Z.two
      obtain ⟨t, ht⟩ : ∃ t, lows[i]? = some t := ⟨_, List.getElem?_eq_getElem (by omega)⟩
      have htv := hlv i t ht
      have htm := hmr (hlw t (List.mem_of_getElem? ht))
      have hfs := fre_succ (r := rk f) (dn := dn) hi
      rw [← htv] at hfs
      have htl : t.2.length ≤ 8 := by
        rw [htv, lwf, List.length_map]
        refine Nat.le_trans (List.length_filter_le _ _) ?_
        rw [spn, List.length_map]
        exact Nat.le_trans (List.length_filter_le _ _) (by simp)
      have hmLo := hmr hlo
      clear hbig
      have hmL' := List.mem_cons_of_mem (it2, ritO 0 1 8 (i + 1)) (List.mem_cons_of_mem (acc, O.list (vints (fre (rk f) dn i))) hmL)
      repeat walk_at "st"
      refine ev_comp (b := b) (fs := ⟨C, [".0", "place"], [v1, some (.int i)]⟩ :: ⟨L, (["script", "cells", "k", "start", "octet", "spans", "bounds", "sorter", "out", "draw", "step", "free", "pick", "swap", "low", "changed"] : List Str), [x0, x1, x2, x3, x4, x5, x6, some (.ref S), some (.ref ot), some (.int draw), some (.int j), x11, x12, none, none, none]⟩ :: fs) (fr := [("order", cO)]) (gn := []) (ln := [".0", "other"]) he' hv' (Cmp.of (by show cmpOk _ _ _ ["order"] = true; decide +kernel)) (fun p h => by rcases List.mem_singleton.mp h with rfl; walk_at "mem") hh ?_ (by intro _; kernel_rfl)
      repeat walk_at "st"
      refine i_list (by assumption) (xs := lows.map fun t => .ref t.1) (.tail _ (.tail _ hmLo)) (by omega) (v := .ref t.1) (by rw [Int.toNat_natCast, List.getElem?_map, ht]; rfl) (by simp; omega) ?_ (by kernel_rfl)
      refine all_ref ?_
      refine it_list (xs := vints t.2) (by assumption) (.tail _ (.tail _ htm)) ?_
      intro it3 s Z
      refine ⟨it3, _, _, _, fun i' ys' led' => ys' = vints (lft (t.2.take i') dn) ∧ led' = (it2, ritO 0 1 8 (i + 1)) :: (acc, .list (vints (fre (rk f) dn i))) :: big, _, rfl, wk_list it3 t.1 (vints t.2), by simp [vints]; omega, Z, ⟨rfl, rfl⟩, ?_, ?_, ?_⟩
      · rintro i' ys' led' ⟨-, rfl⟩ p hp
        rcases List.mem_singleton.mp hp with rfl
        exact .tail _ (.tail _ htm)
      · rintro i' z hz cenv2 C2 acc2 ys' led' vs2 s u he2 hv2 ⟨rfl, rfl⟩ Z hu
        obtain ⟨o, ho, rfl⟩ := vints_get hz
        cases hu
        obtain ⟨v3, v4, rfl⟩ := Z.two
        have hmO' := List.mem_cons_of_mem (it3, litO t.1 (i' + 1)) (List.mem_cons_of_mem (acc2, O.list (vints (lft (t.2.take i') dn))) (List.mem_cons_of_mem (it2, ritO 0 1 8 (i + 1)) (List.mem_cons_of_mem (acc, O.list (vints (fre (rk f) dn i))) hmO)))
        have hst : lft (t.2.take (i' + 1)) dn = lft (t.2.take i') dn ++ if dn.contains o then [] else [o] := by rw [List.take_add_one, ho, Option.toList_some, lft_snoc]
        repeat walk_at "st"
        refine c_notin (ns := dn) (by assumption) (.tail _ (.tail _ (.tail _ (.tail _ hmo)))) ?_
        repeat walk_at "st"
        refine brb (fun h => ?_) fun h => ?_
        · repeat walk_at "st"
          refine ⟨_, _, _, .int, ⟨?_, rfl⟩, by assumption⟩
          rw [hst, show dn.contains o = false by simpa using h]; simp [vints]
        · refine ⟨_, _, ⟨?_, rfl⟩, by assumption⟩
          rw [hst, show dn.contains o = true by simpa using h]; simp
      · rintro acc2 ys' led' s ⟨rfl, rfl⟩ Z
        rw [show (vints t.2).length = t.2.length by simp [vints], List.take_length] at Z
        repeat walk_at "st"
        refine c_eqI (ns := lft t.2 dn) (ms := []) (by assumption) (.tail _ (.head _)) (.head _) (by have := hA.units; omega) ?_
        repeat walk_at "st"
        refine br (fun h => ?_) fun h => ?_
        · repeat walk_at "st"
          refine ⟨_, _, _, .int, ⟨?_, rfl⟩, St.sub (by assumption) (.cons _ (.cons _ (.refl _)))⟩
          rw [hfs, if_pos h]; simp [vints]
        · refine ⟨_, _, ⟨?_, rfl⟩, St.sub (by assumption) (.cons _ (.cons _ (.refl _)))⟩
          rw [hfs, if_neg h]; simp
    · rintro acc ys big ⟨rfl, rfl⟩
      refine ⟨_, by walk_at "up", fun s Z => ?_⟩
      rw [show (vints (span 0 1 8)).length = 8 from rfl] at Z
      repeat walk_at "st"
      refine m_sorted (ns := out) (by assumption) (.tail _ hmt) (by omega) ?_
      intro sa ms s hms hso Z
      have hflen := fre_len (rk f) dn 8
      have heq := out_eq hS hms hso
      generalize fre (rk f) dn 8 = fr at *
      repeat walk_at "st"
      refine ev_comp (b := b) (fs := ⟨L, (["script", "cells", "k", "start", "octet", "spans", "bounds", "sorter", "out", "draw", "step", "free", "pick", "swap", "low", "changed"] : List Str), [x0, x1, x2, x3, x4, x5, x6, some (.ref S), some (.ref ot), some (.int draw), some (.int j), some (.ref acc), x12, none, none, none]⟩ :: fs) (fr := [("order", cO)]) (gn := []) (ln := [".0", "place"]) he hcv (Cmp.of (by show cmpOk _ _ _ ["order"] = true; decide +kernel)) (fun p h => by rcases List.mem_singleton.mp h with rfl; walk_at "mem") hh ?_ (by intro _; kernel_rfl)
      repeat walk_at "st"
      refine it_list (xs := vints fr) (by assumption) (.tail _ (.head _)) ?_
      intro it3 s Z
      refine ⟨it3, _, _, _, fun i' ys' led' => ys' = vints (frd (fr.take i') dn) ∧ led' = (sa, .list (vints ms)) :: (acc, .list (vints fr)) :: big, _, rfl, wk_list it3 acc (vints fr), by simp [vints]; omega, Z, ⟨rfl, rfl⟩, ?_, ?_, ?_⟩
      · rintro i' ys' led' ⟨-, rfl⟩ p hp
        rcases List.mem_singleton.mp hp with rfl
        exact .tail _ (.head _)
      · rintro i' z hz cenv2 C2 acc2 ys' led' vs2 s u he2 hv2 ⟨rfl, rfl⟩ Z hu
        obtain ⟨o, ho, rfl⟩ := vints_get hz
        cases hu
        obtain ⟨v3, v4, rfl⟩ := Z.two
        have hmO' := List.mem_cons_of_mem (it3, litO acc (i' + 1)) (List.mem_cons_of_mem (acc2, O.list (vints (frd (fr.take i') dn))) (List.mem_cons_of_mem (sa, O.list (vints ms)) (List.mem_cons_of_mem (acc, O.list (vints fr)) hmO)))
        have hst : frd (fr.take (i' + 1)) dn = frd (fr.take i') dn ++ if dn.contains o then [] else [o] := by rw [List.take_add_one, ho, Option.toList_some, frd_snoc]
        repeat walk_at "st"
        refine c_notin (ns := dn) (by assumption) (.tail _ (.tail _ (.tail _ (.tail _ hmo)))) ?_
        repeat walk_at "st"
        refine brb (fun h => ?_) fun h => ?_
        · repeat walk_at "st"
          refine ⟨_, _, _, .int, ⟨?_, rfl⟩, by assumption⟩
          rw [hst, show dn.contains o = false by simpa using h]; simp [vints]
        · refine ⟨_, _, ⟨?_, rfl⟩, by assumption⟩
          rw [hst, show dn.contains o = true by simpa using h]; simp
      · rintro acc2 ys' led' s ⟨rfl, rfl⟩ Z
        rw [show (vints fr).length = fr.length by simp [vints], List.take_length, ← heq] at Z
        repeat walk_at "st"
        refine c_neI (ns := ms) (ms := ms) Z (.tail _ (.head _)) (.head _) (by have := hA.units; omega) ?_
        repeat walk_at "st"
        refine br_f (by simp) ?_
        replace Z := Z.drop.drop.drop
        subst hbig
        unfold sled at Z
        walk_at "st"
        walk_at "st"
        walk_at "st"
        have hol0 : 0 < out.length := List.length_pos_iff.mpr hone
        refine Assign_Tuple ?_ (by kernel_rfl) (by kernel_rfl)
        repeat walk_at "st"
        refine l_len (xs := vints out) (by assumption) (by walk_at "mem") (by simp [vints]; omega) ?_
        intro t s Z
        rw [show (vints out).length = out.length by simp [vints]]
        refine m_divmod Z (by omega) (PyProof.noPylong_small (by omega)) ?_
        intro Td s Z
        refine a_pair Z hh (.head _) (fun u1 u2 s i1 i2 Z => ?_) (by kernel_rfl)
        cases i1
        cases i2
        replace Z := Z.drop
        have hpk0 : 0 ≤ Int.fmod draw out.length := Int.fmod_nonneg_of_pos _ (by omega)
        have hpk1 : Int.fmod draw out.length < out.length := Int.fmod_lt_of_pos _ (by omega)
        have hdr' : 0 ≤ Int.fdiv draw out.length := by rw [Int.fdiv_eq_ediv_of_nonneg _ (by omega)]; exact Int.ediv_nonneg hdr (by omega)
        generalize Int.fmod draw out.length = pk at *
        generalize Int.fdiv draw out.length = draw' at *
        obtain ⟨p, hp⟩ : ∃ p, out[pk.toNat]? = some p := ⟨_, List.getElem?_eq_getElem (by omega)⟩
        have hpo' : p ∈ out := List.mem_of_getElem? hp
        have hpd := (hS.om p).mp hpo'
        obtain ⟨he1, he2⟩ := erase_at hS.on hp
        have hS' := hS.step (dn' := dn ++ [p]) hpo' (fun x => by rw [List.mem_append, List.mem_singleton, or_comm]) he1 he2
        have hol' := hlen hS'
        rw [List.length_append] at hol'
        have hel : (out.eraseIdx pk.toNat).length = out.length - 1 := by rw [List.length_eraseIdx_of_lt (by omega)]
        repeat walk_at "st"
        refine ls_popAt (xs := vints out) (by assumption) hpk0 (v := .int p) (by simp [vints, hp]) (by walk_at "upd") (by simp [vints]; omega) ?_
        intro s Z
        rw [vints_erase] at Z
        refine all_int ?_
        intro t
        refine ls_append Z .int (by walk_at "upd") (by simp [vints]; omega) ?_
        intro s Z
        repeat walk_at "st"
        refine i_last (xs := vints dn) (v := .int p) (by assumption) (by walk_at "mem") ?_ (by kernel_rfl)
        refine all_int ?_
        intro _
        have hpm : ∀ {xs : List V} {po fi : Int} {ns : List Nd} {out' dn' : List V}, List.Perm ((R, O.list xs) :: sled S D M (.ref R) po fi ep ns ((it, ritO 0 1 8 (j + 1)) :: (oo, .list dn') :: (cO, celO (some (.ref oo))) :: (ot, .list out') :: rest)) ((it, ritO 0 1 8 (j + 1)) :: (oo, .list dn') :: (cO, celO (some (.ref oo))) :: (ot, .list out') :: (R, O.list xs) :: sled S D M (.ref R) po fi ep ns rest) :=
          (List.Perm.cons _ (sled_outs _ _ _ _ _ _ _ _ [_, _, _, _] rest).symm).trans ((List.perm_append_comm (l₁ := [_]) (l₂ := [_, _, _, _])).append_right _)
        walk_at "st"
        refine doneK g X hK hA hS hpo' (by have := hglen p; omega) hv (St.perm (by assumption) hpm) ?_
        intro ns' s hv' Z
        replace Z := Z.perm hpm.symm
        unfold sled at Z
        repeat walk_at "st"
        refine readyK g X hK hA hS.nd (fun i hi => ((hS'.om i).mp (List.mem_append_right _ hi)).1) (by omega) hv' (St.perm (by assumption) hpm) ?_
        intro T2 ns2 s hv2 Z
        replace Z := Z.perm (List.Perm.cons _ hpm.symm)
        unfold sled at Z
        repeat walk_at "st"
        refine ls_extend Z (.head _) (by walk_at "upd") (by simp [vints]; omega) (by simp; omega) ?_
        intro s Z
        repeat walk_at "st"
        refine lp_next ⟨_, _, ⟨po + (nextR (Pof (bnds f)) ff gg p).length, fi + 1, ns2, _, out.eraseIdx pk.toNat ++ nextR (Pof (bnds f)) ff gg p, dn ++ [p], draw', some (.int j), some (.ref acc), some (.int pk), rfl, rfl, hv2, hS', by simp [hdl], ?_, ?_, ?_, hdr'⟩, ?_⟩
        · exact List.nodup_append.mpr ⟨hdn, List.nodup_cons.mpr ⟨List.not_mem_nil, List.nodup_nil⟩, fun x hx y hy e => by rw [List.mem_singleton.mp hy] at e; exact hpd.2.1 (e ▸ hx)⟩
        · intro j' i' hj' q hq
          by_cases hlt : j' < dn.length
          · rw [List.getElem?_append_left hlt] at hj'
            rw [List.take_append_of_le_length (by omega)]
            exact hlin j' i' hj' q hq
          · have h2 := (List.getElem?_eq_some_iff.mp hj').1
            rw [List.length_append] at h2
            have : j' = dn.length := by simp at h2; omega
            subst this
            rw [List.getElem?_append_right (Nat.le_refl _), Nat.sub_self] at hj'
            cases hj'
            rw [List.take_append_of_le_length (Nat.le_refl _), List.take_length]
            exact hpd.2.2 q hq
        · rw [List.length_append, hel]; omega
        · rw [show vints (out.eraseIdx pk.toNat ++ nextR (Pof (bnds f)) ff gg p) = vints (out.eraseIdx pk.toNat) ++ vints (nextR (Pof (bnds f)) ff gg p) by simp [vints], show vints (dn ++ [p]) = vints dn ++ [V.int p] by simp [vints]]
          exact Z.drop
  · clear Z hv hS hpo hdr
    rintro vs led' s ⟨po, fi, ns, ff, out, dn, draw, x10, x11, x12, rfl, rfl, hv, hS, hdl, hdn, hlin, hpo, hdr⟩ Z
    walk_at "st"
    walk_at "st"
    have hdl : dn.length = 8 := hdl
    have hd8 : ∀ i ∈ dn, 0 ≤ i ∧ i < 8 := fun i hi => (hS.ky i).mp (hS.dk i hi)
    have hoe : out = [] := List.eq_nil_iff_forall_not_mem.mpr fun x hx => by
      have := (hS.om x).mp hx
      have h8 := (hS.ky x).mp this.1
      exact this.2.1 (all_in hdn hdl hd8 h8.1 h8.2)
    subst hoe
    exact k po fi ns dn _ _ _ _ _ (by simpa using hpo.symm) hdl hdn hd8 hlin Z
end Q5
section Q6
variable {K : Frag} {prog : Program} {w : World} {A : Around} {b s : Shared} {fs : List Frm} {led : List (Addr × O)} {env : Env} {L cO cL cK cP cN cS a : Addr}
set_option maxHeartbeats 1600000
/-- the order with two exchanged -/
noncomputable def chg (os : List Int) (m : Nat) : List Int := os.take m ++ [os.getD (m + 1) 0, os.getD m 0] ++ os.drop (m + 2)
theorem law_f {ce oo ot S D M R : Addr} {cs dn : List Int} {po fi c7 : Int} {ep : Nat} {ns : List Nd} {x0 x2 x3 x4 x5 x6 x9 x10 x11 x12 : Option V} {rest : List (Addr × O)} {n : Nat} {Ls : List Addr} {Q : Flow → Shared → Prop}
    (g : Gd b) (X : K.In b.heap) (hK' : KOk' K) (hA : Ar A (n + 6) Ls) (hcl : cs.length = 8) (hc7 : cs[7]? = some c7) (h70 : 0 ≤ c7) (h71 : c7 < 56) (hfp : fi = po) (hdl : dn.length = 8)
    (hH : ∀ vs, Hd A env L (⟨L, (["script", "cells", "k", "start", "octet", "spans", "bounds", "sorter", "out", "draw", "step", "free", "pick", "swap", "low", "changed"] : List Str), vs⟩ :: fs)) (he : Ev env L (["script", "cells", "k", "start", "octet", "spans", "bounds", "sorter", "out", "draw", "step", "free", "pick", "swap", "low", "changed"] : List Str) (["enumerate", "sum", "range", "_law_bounds", "_law_text", "_law_sorter", "list", "sorted", "divmod", "len", "_law_ranked", "_law_lets"] : List Str)) (hC : Own env [("order", cO), ("lower", cL), ("keys", cK), ("place", cP), ("number", cN), ("size", cS)])
    (Z : St b (⟨L, (["script", "cells", "k", "start", "octet", "spans", "bounds", "sorter", "out", "draw", "step", "free", "pick", "swap", "low", "changed"] : List Str), [x0, some (.ref ce), x2, x3, x4, x5, x6, some (.ref S), some (.ref ot), x9, x10, x11, x12, none, none, none]⟩ :: fs)
        ((oo, .list (vints dn)) :: (cO, celO (some (.ref oo))) :: (ot, .list []) :: (R, .list []) :: sled S D M (.ref R) po fi ep ns ((ce, .list (vints cs)) :: rest)) s)
    (k : ∀ cg s', St b (⟨L, (["script", "cells", "k", "start", "octet", "spans", "bounds", "sorter", "out", "draw", "step", "free", "pick", "swap", "low", "changed"] : List Str), [x0, some (.ref ce), x2, x3, x4, x5, x6, some (.ref S), some (.ref ot), x9, x10, x11, x12, some (.int (c7 % 7)), some (.int (c7 / 7)), some (.ref cg)]⟩ :: fs)
        ((cg, .list (vints (chg dn (c7 % 7).toNat))) :: (oo, .list (vints dn)) :: (cO, celO (some (.ref oo))) :: rest) s' →
      wpAny (model prog w) A (execs ((fbody (stAt 22)).drop 17) env) Q (fun _ _ => False) s') :
    wpAny (model prog w) A (execs ((fbody (stAt 22)).drop 13) env) Q (fun _ _ => False) s := by
  refine x_from (by rfl) ?_
  have hK := hK'.ok
  have hcv := hC.cv
  have hh := hA.hand
  unfold sled at Z
  repeat walk_at "st"
  refine c_neI (ns := []) (ms := []) (by assumption) (.tail _ (.tail _ (.tail _ (.head _)))) (.head _) (by have := hA.units; omega) ?_
  repeat walk_at "st"
  refine br_f rfl ?_
  repeat walk_at "st"
  have hpm : List.Perm ((R, O.list (vints [])) :: sled S D M (.ref R) po fi ep ns ((oo, .list (vints dn)) :: (cO, celO (some (.ref oo))) :: (ot, .list []) :: (ce, .list (vints cs)) :: rest)) ((oo, .list (vints dn)) :: (cO, celO (some (.ref oo))) :: (ot, .list []) :: (R, O.list (vints [])) :: sled S D M (.ref R) po fi ep ns ((ce, .list (vints cs)) :: rest)) :=
    (List.Perm.cons _ (sled_outs _ _ _ _ _ _ _ _ [_, _, _] _).symm).trans ((List.perm_append_comm (l₁ := [_]) (l₂ := [_, _, _])).append_right _)
  refine active143 (rd := []) g X hK hA (by simp) (St.perm (St.drop (by assumption)) hpm) ?_
  intro s Z
  replace Z := Z.perm hpm.symm
  unfold sled at Z
  replace Z := Z.sub (.cons_cons _ (.cons_cons _ (.cons _ (.cons _ (.cons _ (.cons _ (.cons _ (sub_nled _ _))))))))
  refine t_bool ?_
  rw [show (decide (fi < po) || !([] : List Int).isEmpty) = false by rw [hfp]; simp]
  refine br_f rfl ?_
  refine isTrue_or_nil ?_
  refine br_f rfl ?_
  repeat walk_at "st"
  have hi7 : (vints cs)[7]? = some (V.int c7) := by simp [vints, hc7]
  refine i_list (xs := vints cs) (by assumption) (by walk_at "mem") (by decide) (v := .int c7) (by exact hi7) (by simp [vints]; omega) ?_ (by kernel_rfl)
  refine all_int ?_
  intro _
  repeat walk_at "st"
  refine o_mod (by assumption) (by decide) ?_
  intro t s Z
  repeat walk_at "st"
  refine i_list (xs := vints cs) (by assumption) (by walk_at "mem") (by decide) (v := .int c7) (by exact hi7) (by simp [vints]; omega) ?_ (by kernel_rfl)
  refine all_int ?_
  intro _
  repeat walk_at "st"
  refine o_fdiv (by assumption) (by decide) (PyProof.noPylong_small (by decide)) ?_
  intro t s Z
  rw [Int.fmod_eq_emod_of_nonneg _ (by decide)] at Z
  rw [Int.fdiv_eq_ediv_of_nonneg _ (by decide)]
  obtain ⟨m, hm⟩ : ∃ m : Nat, c7 % 7 = (m : Int) := ⟨(c7 % 7).toNat, by omega⟩
  have hm7 : m < 7 := by omega
  rw [hm] at Z k
  rw [Int.toNat_natCast] at k
  generalize c7 / 7 = low at *
  repeat walk_at "st"
  have hat : ∀ i, i < 8 → (vints dn)[i]? = some (V.int (dn.getD i 0)) := fun i hi => by
    have hl : i < dn.length := by omega
    simp only [vints, List.getElem?_map, List.getElem?_eq_getElem hl, List.getD_eq_getElem?_getD, Option.map_some, Option.getD_some]
  have hvl : (vints dn).length = 8 := by simp [vints, hdl]
  refine l_b (b := b) ?_ (by intro _; kernel_rfl)
  repeat walk_at "st"
  refine ⟨vints dn, m, _, _, _, rfl, by omega, by omega, by assumption, by walk_at "mem", fun c s Z => ?_⟩
  rw [show (vints dn).take m = vints (dn.take m) by simp [vints]] at Z
  repeat walk_at "st"
  refine i_list (xs := vints dn) (by assumption) (by walk_at "mem") (by omega) (v := .int (dn.getD (m + 1) 0)) (by rw [show ((m : Int) + 1).toNat = m + 1 by omega]; exact hat _ (by omega)) (by omega) ?_ (by kernel_rfl)
  refine all_int ?_
  intro _
  repeat walk_at "st"
  refine i_list (xs := vints dn) (by assumption) (by walk_at "mem") (by omega) (v := .int (dn.getD m 0)) (by rw [Int.toNat_natCast]; exact hat _ (by omega)) (by omega) ?_ (by kernel_rfl)
  refine all_int ?_
  intro _
  repeat walk_at "st"
  refine o_ladd (ns := dn.take m) (ms := [dn.getD (m + 1) 0, dn.getD m 0]) (by assumption) (.tail _ (.head _)) (.head _) (by simp; omega) ?_
  intro c2 s Z
  repeat walk_at "st"
  refine l_a (b := b) ?_ (by intro _; kernel_rfl)
  repeat walk_at "st"
  rw [show (m : Int) + 2 = ((m + 2 : Nat) : Int) by omega]
  refine ⟨vints dn, m + 2, _, _, _, rfl, by omega, by omega, by assumption, by walk_at "mem", fun c3 s Z => ?_⟩
  rw [show (vints dn).drop (m + 2) = vints (dn.drop (m + 2)) by simp [vints]] at Z
  refine o_ladd (ns := dn.take m ++ [dn.getD (m + 1) 0, dn.getD m 0]) (ms := dn.drop (m + 2)) Z (.tail _ (.head _)) (.head _) (by simp; omega) ?_
  intro cg s Z
  replace Z := Z.sub (.cons_cons _ (.cons _ (.cons _ (.cons _ (.cons _ (.cons_cons _ (.cons_cons _ (.cons _ (.refl _)))))))))
  walk_at "st"
  walk_at "st"
  exact k cg _ (by assumption)
end Q6
section Q7
variable {K : Frag} {prog : Program} {w : World} {A : Around} {E : Value → Shared → Prop} {b s : Shared} {fs : List Frm} {led : List (Addr × O)} {env : Env} {L cO cL cK cP cN cS a : Addr}
theorem eq_bb {p q : Bool} {Q : Value → Shared → Prop} (h : Q (.bool (p == q)) s) : wpAny (model prog w) A (compareOp .Eq (.bool p) (.bool q)) Q E s := PySem.EqBoolInt.of_rc (SeqAt.RcAt.bool_bool p q) h
theorem chg_perm {os : List Int} {m : Nat} (h : m + 1 < os.length) : (chg os m).Perm os := by
  unfold chg
  have h0 : os[m]? = some (os.getD m 0) := by rw [List.getElem?_eq_getElem (by omega)]; simp [List.getD_eq_getElem?_getD, List.getElem?_eq_getElem (show m < os.length by omega)]
  have e : os = os.take m ++ (os.getD m 0 :: os.getD (m + 1) 0 :: os.drop (m + 2)) := by
    have h1 : os.drop m = os.getD m 0 :: os.drop (m + 1) := by
      rw [List.drop_eq_getElem_cons (by omega)]
      simp [List.getD_eq_getElem?_getD, List.getElem?_eq_getElem (show m < os.length by omega)]
    have h2 : os.drop (m + 1) = os.getD (m + 1) 0 :: os.drop (m + 2) := by
      rw [List.drop_eq_getElem_cons (by omega)]
      simp [List.getD_eq_getElem?_getD, List.getElem?_eq_getElem h]
    rw [← h2, ← h1, List.take_append_drop]
  conv => rhs; rw [e]
  rw [List.append_assoc]
  exact List.Perm.append_left _ (List.Perm.swap ..)
set_option maxHeartbeats 1600000
theorem law_g {f : Nat → Int} {B cg oo : Addr} {ts : List (Addr × Int × Int)} {dn : List Int} {low : Int} {m : Nat} {x0 x1 x2 x3 x4 x5 x7 x8 x9 x10 x11 x12 x13 : Option V} {n : Nat} {Ls : List Addr} {Q : Flow → Shared → Prop}
    (g : Gd b) (X : K.In b.heap) (hK' : KOk' K) (hA : Ar A (n + 6) Ls) (hts : ts.map (·.2) = bnds f) (hdl : dn.length = 8) (hdn : dn.Nodup) (hd8 : ∀ i ∈ dn, 0 ≤ i ∧ i < 8) (hlin : Lin (Pof (bnds f)) dn) (hlow : 0 ≤ low ∧ low < 100) (hm : m < 7)
    (hH : ∀ vs, Hd A env L (⟨L, (["script", "cells", "k", "start", "octet", "spans", "bounds", "sorter", "out", "draw", "step", "free", "pick", "swap", "low", "changed"] : List Str), vs⟩ :: fs)) (he : Ev env L (["script", "cells", "k", "start", "octet", "spans", "bounds", "sorter", "out", "draw", "step", "free", "pick", "swap", "low", "changed"] : List Str) (["enumerate", "sum", "range", "_law_bounds", "_law_text", "_law_sorter", "list", "sorted", "divmod", "len", "_law_ranked", "_law_lets"] : List Str)) (hC : Own env [("order", cO), ("lower", cL), ("keys", cK), ("place", cP), ("number", cN), ("size", cS)])
    (Z : St b (⟨L, (["script", "cells", "k", "start", "octet", "spans", "bounds", "sorter", "out", "draw", "step", "free", "pick", "swap", "low", "changed"] : List Str), [x0, x1, x2, x3, x4, x5, some (.ref B), x7, x8, x9, x10, x11, x12, x13, some (.int low), some (.ref cg)]⟩ :: fs)
        ((cg, .list (vints (chg dn m))) :: (oo, .list (vints dn)) :: (cO, celO (some (.ref oo))) :: (B, .list (ts.map fun t => .ref t.1)) :: bled ts led) s)
    (k : ∀ vs led' s', St b (⟨L, (["script", "cells", "k", "start", "octet", "spans", "bounds", "sorter", "out", "draw", "step", "free", "pick", "swap", "low", "changed"] : List Str), vs⟩ :: fs) led' s' → Q (.ret (.bool true)) s') :
    wpAny (model prog w) A (execs ((fbody (stAt 22)).drop 17) env) Q (fun _ _ => False) s := by
  refine x_from (by rfl) ?_
  have hK := hK'.ok
  have hcv := hC.cv
  have hh := hA.hand
  have hu : A.units ≤ 9000 := by have := hA.units; omega
  have h8 : ts.length = 8 := by have := congrArg List.length hts; rw [bnds_len] at this; simpa using this
  have hpm := chg_perm (os := dn) (m := m) (by omega)
  generalize chg dn m = ch at *
  have hcl : ch.length = 8 := by rw [hpm.length_eq, hdl]
  have hcn : ch.Nodup := hpm.nodup_iff.mpr hdn
  have hc8 : ∀ i ∈ ch, 0 ≤ i ∧ i < 8 := fun i hi => hd8 i (hpm.mem_iff.mp hi)
  have hdi : ∀ i, 0 ≤ i → i < 8 → i ∈ dn := fun i h0 h1 => all_in hdn hdl hd8 h0 h1
  have hci : ∀ i, 0 ≤ i → i < 8 → i ∈ ch := fun i h0 h1 => hpm.mem_iff.mpr (hdi i h0 h1)
  repeat walk_at "st"
  refine ranked200 (os := dn) g X hK hA (hH _).frs hdl (fun m hm => hdi m (by omega) (by omega)) hlow (St.perm (by assumption) (List.Perm.swap ..)) ?_
  intro B2 ts2 s hts2 Z
  repeat walk_at "st"
  refine c_neB (ts := ts2) (us := ts) Z (.head _) (fun t h => .tail _ (mem_bled h)) (.tail _ (List.mem_append_right _ (.tail _ (.tail _ (.tail _ (.head _)))))) (fun t h => .tail _ (List.mem_append_right _ (.tail _ (.tail _ (.tail _ (.tail _ (mem_bled h))))))) hu ?_
  refine t_bool ?_
  rw [hts2, hts, (ranked_iff hdn hd8 hdi).mpr hlin]
  refine br_f (by simp) ?_
  replace Z := Z.drop.sub (List.sublist_append_right _ _)
  replace Z := Z.drop
  repeat walk_at "st"
  refine ranked200 (os := ch) g X hK hA (hH _).frs hcl (fun m hm => hci m (by omega) (by omega)) hlow (by assumption) ?_
  intro B3 ts3 s hts3 Z
  repeat walk_at "st"
  refine c_eqB (ts := ts3) (us := ts) Z (.head _) (fun t h => .tail _ (mem_bled h)) (.tail _ (List.mem_append_right _ (.tail _ (.tail _ (.head _))))) (fun t h => .tail _ (List.mem_append_right _ (.tail _ (.tail _ (.tail _ (mem_bled h)))))) hu ?_
  rw [hts3]
  replace Z := Z.drop.sub (List.sublist_append_right _ _)
  replace Z := Z.sub (.cons_cons _ (.cons _ (.refl _)))
  replace Z := Z.perm ((List.Perm.cons _ (bled_perm ts [_] led)).trans (List.Perm.swap ..))
  repeat walk_at "st"
  refine lets207 (r := rk f) g X hK' hA (hH _).frs h8 (by rw [hts]; exact bnds_ne) (by rw [hts]; exact fun j p h => Pof_lt h) hcn hc8 (by assumption) ?_
  intro c s hc Z
  repeat walk_at "st"
  refine eq_bb ?_
  repeat walk_at "st"
  have hfin : (decide (bnds (gfig ch low) = ts.map (·.2)) == c) = true := by
    rw [hts, beq_iff_eq]
    rw [hts] at hc
    have := ranked_iff (f := f) (low := low) hcn hc8 hci
    cases c with
    | true => exact decide_eq_true (this.mpr (hc.mp rfl))
    | false => exact decide_eq_false fun q => by have := hc.mpr (this.mp q); cases this
  rw [hfin]
  exact k _ _ _ Z
end Q7
section Q8
variable {K : Frag} {prog : Program} {w : World} {A : Around} {E : Value → Shared → Prop} {b s : Shared} {fs : List Frm} {led : List (Addr × O)} {a : Addr}
set_option maxHeartbeats 1600000
theorem law212 {us : List Value} {ns : List Int} {n : Nat} {Ls : List Addr} {Q : Value → Shared → Prop} (g : Gd b) (X : K.In b.heap) (hK' : KOk' K) (hA : Ar A (n + 7) Ls) (hR : Frs A fs) (hL : b.heap.IsList a us.toArray) (hI : IntsAre us ns) (hn : ns.length ≤ 63) (S : St b fs led s)
    (k : ∀ led' s', St b fs led' s' → Q (.bool true) s') : wpAny (model prog w) A (call (.ref 212) [.ref a]) Q E s := by
  refine call_ret (code_cel S g X hA hR hK'.ok.f212 (hB := rfl) (pn := ["script"]) (rn := ["cells", "k", "start", "octet", "spans", "bounds", "sorter", "out", "draw", "step", "free", "pick", "swap", "low", "changed"])
    (gs := ["enumerate", "sum", "range", "_law_bounds", "_law_text", "_law_sorter", "list", "sorted", "divmod", "len", "_law_ranked", "_law_lets"]) (cn := ["order", "lower", "keys", "place", "number", "size"])
    (cf := fun N => [("order", N + 5), ("lower", N + 4), ("keys", N + 3), ("place", N + 2), ("number", N + 1), ("size", N)]) (xs := [.ref a]) (Loc.of (by decide +kernel)) (.cons .ref .nil) (by intros; kernel_rfl) rfl (by kernel_rfl)
    (by intro _; kernel_rfl) (by intro _; rfl) (by decide +kernel) (by decide +kernel) ?_)
  clear S hA hR
  intro env A L s he hC hA hH S
  simp only [List.cons_append, List.nil_append, List.map_cons, List.map_nil] at S he hH hC
  generalize L + 1 + 5 = cO at *
  generalize L + 1 + 4 = cL at *
  generalize L + 1 + 3 = cK at *
  generalize L + 1 + 2 = cP at *
  generalize L + 1 + 1 = cN at *
  generalize L + 1 = cS at *
  have hh := hA.hand
  refine law_a hL hI hn g hh he hC S ?_
  clear S hL hI hn
  intro ce cs x1 x2 sz s hcl hcr Z
  refine law_b hcl hcr g hh he hC Z ?_
  clear Z
  intro ka x3 s Z
  refine law_c g hh he hC (Z.perm (.cons _ (List.perm_middle (l₁ := [_, _, _, _, _, _])))) ?_
  clear Z
  intro lo lows x5 pv s hll hlv Z
  refine law_d hcl hcr g X hK' hA hH he hC (Z.perm ((List.perm_middle (l₁ := _ :: _ :: _ :: _ :: _ :: _ :: _ :: _ :: (lows.map fun t => (t.1, O.list (vints t.2))).reverse)).symm.trans (List.perm_append_comm_assoc [_] [_, _] _))) ?_
  clear Z
  intro B ts S D M R ot oo po ep nd dr s Ks f0 rd gg hts hv hgl hS hpo hdr Z
  generalize hf : fig (num (cs.take 6)) = f at *
  obtain ⟨c7, hc7⟩ : ∃ c, cs[7]? = some c := ⟨_, List.getElem?_eq_getElem (by omega)⟩
  have h6 := hcr 6 dr hdr
  have h7 := hcr 7 c7 hc7
  rw [show siz 7 = 56 from rfl] at h7
  refine law_e (lo := lo) (lows := lows) g X hK' hA ?_ ?_ ?_ hll hlv hv hgl hS (by omega) h6.1 hH he hC Z ?_
  · exact .tail _ (.tail _ (List.mem_append_right _ (.tail _ (.tail _ (.head _)))))
  · exact .tail _ (.tail _ (List.mem_append_right _ (.head _)))
  · intro t ht
    exact .tail _ (.tail _ (List.mem_append_right _ (.tail _ (.tail _ (.tail _ (.tail _ (.tail _ (.tail _ (.tail _ (List.mem_append_left _ (List.mem_reverse.mpr (List.mem_map_of_mem (f := fun t : Addr × List Int => (t.1, O.list (vints t.2))) ht))))))))))))
  clear Z hv hS hpo
  intro po fi nd dn x9 x10 x11 x12 s hfp hdl hdn hd8 hlin Z
  refine law_f g X hK' hA hcl hc7 h7.1 h7.2 hfp hdl hH he hC Z ?_
  clear Z
  intro cg s Z
  refine law_g (f := f) g X hK' hA hts hdl hdn hd8 hlin (by omega) (by omega) hH he hC Z ?_
  intro vs led' s Z
  exact k led' s Z.pop
end Q8
section KK
open PySem PySem.W PyProof.Rows PySem.Calls
/-- the written heap -/
noncomputable def hp (p : Params) : Frag := [
(1, { cls := .type "dict", data := .dict #[{ hash := PyData.keyHash p "builtins", key := .str "builtins" 162, val := .ref 4 }, { hash := PyData.keyHash p "__main__", key := .str "__main__" 163, val := .ref 5 }] 2 }),
(2, { cls := .none, data := .dict #[] }),
(3, { cls := .type "dict", data := .dict #[{ hash := PyData.keyHash p "__name__", key := .str "__name__" 165, val := .str "law_op0144_01" 432 }, { hash := PyData.keyHash p "__doc__", key := .str "__doc__" 166, val := .none }, { hash := PyData.keyHash p "__package__", key := .str "__package__" 167, val := .none }, { hash := PyData.keyHash p "__loader__", key := .str "__loader__" 168, val := .builtin "__main__.__loader__#opaque" }, { hash := PyData.keyHash p "__spec__", key := .str "__spec__" 169, val := .none }, { hash := PyData.keyHash p "__annotations__", key := .str "__annotations__" 170, val := .ref 6 }, { hash := PyData.keyHash p "__builtins__", key := .str "__builtins__" 171, val := .ref 4 }, { hash := PyData.keyHash p "__file__", key := .str "__file__" 173, val := .str "/claim/cut.py" 172 }, { hash := PyData.keyHash p "__cached__", key := .str "__cached__" 174, val := .none }, { hash := PyData.keyHash p "_wall", key := .str "_wall" 193, val := .ref 21 }, { hash := PyData.keyHash p "skip_chars", key := .str "skip_chars" 204, val := .ref 28 }, { hash := PyData.keyHash p "_buffer", key := .str "_buffer" 214, val := .ref 35 }, { hash := PyData.keyHash p "_truth", key := .str "_truth" 222, val := .ref 42 }, { hash := PyData.keyHash p "_B64", key := .str "_B64" 224, val := .bytes #[65, 66, 67, 68, 69, 70, 71, 72, 73, 74, 75, 76, 77, 78, 79, 80, 81, 82, 83, 84, 85, 86, 87, 88, 89, 90, 97, 98, 99, 100, 101, 102, 103, 104, 105, 106, 107, 108, 109, 110, 111, 112, 113, 114, 115, 116, 117, 118, 119, 120, 121, 122, 48, 49, 50, 51, 52, 53, 54, 55, 56, 57, 43, 47] 223 }, { hash := PyData.keyHash p "b2a_base64", key := .str "b2a_base64" 238, val := .ref 50 }, { hash := PyData.keyHash p "b64encode", key := .str "b64encode" 249, val := .ref 58 }, { hash := PyData.keyHash p "_NODE_OUT", key := .str "_NODE_OUT" 254, val := .int (-1) 253 }, { hash := PyData.keyHash p "_NODE_DONE", key := .str "_NODE_DONE" 257, val := .int (-2) 256 }, { hash := PyData.keyHash p "_NodeInfo", key := .str "_NodeInfo" 294, val := .ref 77 }, { hash := PyData.keyHash p "CycleError", key := .str "CycleError" 312, val := .ref 92 }, { hash := PyData.keyHash p "TopologicalSorter", key := .str "TopologicalSorter" 431, val := .ref 174 }, { hash := PyData.keyHash p "_law_text", key := .str "_law_text" 439, val := .ref 183 }, { hash := PyData.keyHash p "_law_bounds", key := .str "_law_bounds" 453, val := .ref 190 }, { hash := PyData.keyHash p "_law_sorter", key := .str "_law_sorter" 459, val := .ref 195 }, { hash := PyData.keyHash p "_law_ranked", key := .str "_law_ranked" 465, val := .ref 200 }, { hash := PyData.keyHash p "_law_lets", key := .str "_law_lets" 476, val := .ref 207 }, { hash := PyData.keyHash p "law", key := .str "law" 482, val := .ref 212 }] 27 }),
(26, { cls := .none, data := .func { name := fnm (stAt 2), qualname := "skip_chars", params := fpar (stAt 2), body := .stmts (fbody (stAt 2)), scope := fsco (stAt 2), globals := 0, closure := [], defaults := .none, kwdefaults := .none } }),
(27, { cls := .type "code", data := .fields #[.str "skip_chars" 196, .str "skip_chars" 197, .str "/claim/cut.py" 198, .int 5 0, .int 3 0, .int 0 0, .int 0 0, .int 3 0, .ref 22, .bool true, .int 181 0, .ref 23, .none, .ref 24, .ref 25, .ref 26, .int 202 0, .int 5 0, .str "/claim/cut.py" 203] }),
(28, { cls := .type "function", data := .func { name := fnm (stAt 2), qualname := "skip_chars", params := fpar (stAt 2), body := .stmts (fbody (stAt 2)), scope := fsco (stAt 2), globals := 3, closure := [], defaults := .none, kwdefaults := .none, pyModule := .str "cpy313.tomllib._parser" 194, code := .ref 27 } }),
(33, { cls := .none, data := .func { name := fnm (stAt 4), qualname := "_buffer", params := fpar (stAt 4), body := .stmts (fbody (stAt 4)), scope := fsco (stAt 4), globals := 0, closure := [], defaults := .none, kwdefaults := .none } }),
(34, { cls := .type "code", data := .fields #[.str "_buffer" 207, .str "_buffer" 208, .str "/claim/cut.py" 209, .int 13 0, .int 1 0, .int 0 0, .int 0 0, .int 3 0, .ref 29, .bool true, .int 181 0, .ref 30, .none, .ref 31, .ref 32, .ref 33, .int 212 0, .int 13 0, .str "/claim/cut.py" 213] }),
(35, { cls := .type "function", data := .func { name := fnm (stAt 4), qualname := "_buffer", params := fpar (stAt 4), body := .stmts (fbody (stAt 4)), scope := fsco (stAt 4), globals := 3, closure := [], defaults := .none, kwdefaults := .none, pyModule := .str "binascii" 205, code := .ref 34 } }),
(40, { cls := .none, data := .func { name := fnm (stAt 5), qualname := "_truth", params := fpar (stAt 5), body := .stmts (fbody (stAt 5)), scope := fsco (stAt 5), globals := 0, closure := [], defaults := .none, kwdefaults := .none } }),
(41, { cls := .type "code", data := .fields #[.str "_truth" 215, .str "_truth" 216, .str "/claim/cut.py" 217, .int 20 0, .int 1 0, .int 0 0, .int 0 0, .int 3 0, .ref 36, .bool true, .int 181 0, .ref 37, .none, .ref 38, .ref 39, .ref 40, .int 220 0, .int 20 0, .str "/claim/cut.py" 221] }),
(42, { cls := .type "function", data := .func { name := fnm (stAt 5), qualname := "_truth", params := fpar (stAt 5), body := .stmts (fbody (stAt 5)), scope := fsco (stAt 5), globals := 3, closure := [], defaults := .none, kwdefaults := .none, pyModule := .str "binascii" 205, code := .ref 41 } }),
(43, { cls := .type "dict", data := .dict #[{ hash := PyData.keyHash p "newline", key := .str "newline" 225, val := .bool true }] 1 }),
(48, { cls := .none, data := .func { name := fnm (stAt 7), qualname := "b2a_base64", params := fpar (stAt 7), body := .stmts (fbody (stAt 7)), scope := fsco (stAt 7), globals := 0, closure := [], defaults := .none, kwdefaults := .none } }),
(49, { cls := .type "code", data := .fields #[.str "b2a_base64" 226, .str "b2a_base64" 227, .str "/claim/cut.py" 228, .int 26 0, .int 1 0, .int 1 0, .int 1 0, .int 3 0, .ref 44, .bool true, .int 181 0, .ref 45, .none, .ref 46, .ref 47, .ref 48, .int 236 0, .int 26 0, .str "/claim/cut.py" 237] }),
(50, { cls := .type "function", data := .func { name := fnm (stAt 7), qualname := "b2a_base64", params := fpar (stAt 7), body := .stmts (fbody (stAt 7)), scope := fsco (stAt 7), globals := 3, closure := [], defaults := .none, kwdefaults := .ref 43, pyModule := .str "binascii" 205, code := .ref 49 } }),
(51, { cls := .type "tuple", data := .seq #[.none] }),
(56, { cls := .none, data := .func { name := fnm (stAt 9), qualname := "b64encode", params := fpar (stAt 9), body := .stmts (fbody (stAt 9)), scope := fsco (stAt 9), globals := 0, closure := [], defaults := .none, kwdefaults := .none } }),
(57, { cls := .type "code", data := .fields #[.str "b64encode" 241, .str "b64encode" 242, .str "/claim/cut.py" 243, .int 49 0, .int 2 0, .int 0 0, .int 0 0, .int 3 0, .ref 52, .bool true, .int 181 0, .ref 53, .none, .ref 54, .ref 55, .ref 56, .int 247 0, .int 49 0, .str "/claim/cut.py" 248] }),
(58, { cls := .type "function", data := .func { name := fnm (stAt 9), qualname := "b64encode", params := fpar (stAt 9), body := .stmts (fbody (stAt 9)), scope := fsco (stAt 9), globals := 3, closure := [], defaults := .ref 51, kwdefaults := .none, pyModule := .str "cpy313.base64" 239, code := .ref 57 } }),
(66, { cls := .type "tuple", data := .seq #[.str "node" 270, .str "npredecessors" 271, .str "successors" 272] }),
(71, { cls := .none, data := .func { name := fnm (mtAt 13 1), qualname := "_NodeInfo.__init__", params := fpar (mtAt 13 1), body := .stmts (fbody (mtAt 13 1)), scope := fsco (mtAt 13 1), globals := 0, closure := [], defaults := .none, kwdefaults := .none } }),
(72, { cls := .type "code", data := .fields #[.str "__init__" 274, .str "_NodeInfo.__init__" 275, .str "/claim/cut.py" 276, .int 61 0, .int 2 0, .int 0 0, .int 0 0, .int 3 0, .ref 67, .bool true, .int 181 0, .ref 68, .none, .ref 69, .ref 70, .ref 71, .int 279 0, .int 61 0, .str "/claim/cut.py" 280] }),
(73, { cls := .type "function", data := .func { name := fnm (mtAt 13 1), qualname := "_NodeInfo.__init__", params := fpar (mtAt 13 1), body := .stmts (fbody (mtAt 13 1)), scope := fsco (mtAt 13 1), globals := 3, closure := [], defaults := .none, kwdefaults := .none, pyModule := .str "cpy313.graphlib" 250, code := .ref 72 } }),
(74, { cls := .type "tuple", data := .seq #[.str "node" 282, .str "npredecessors" 283, .str "successors" 284] }),
(76, { cls := .type "dict", data := .dict #[{ hash := PyData.keyHash p "__module__", key := .str "__module__" 265, val := .str "cpy313.graphlib" 250 }, { hash := PyData.keyHash p "__firstlineno__", key := .str "__firstlineno__" 269, val := .int 58 268 }, { hash := PyData.keyHash p "__slots__", key := .str "__slots__" 273, val := .ref 66 }, { hash := PyData.keyHash p "__init__", key := .str "__init__" 281, val := .ref 73 }, { hash := PyData.keyHash p "__static_attributes__", key := .str "__static_attributes__" 285, val := .ref 74 }, { hash := PyData.keyHash p "node", key := .str "node" 287, val := .ref 78 }, { hash := PyData.keyHash p "npredecessors", key := .str "npredecessors" 289, val := .ref 79 }, { hash := PyData.keyHash p "successors", key := .str "successors" 291, val := .ref 80 }, { hash := PyData.keyHash p "__doc__", key := .str "__doc__" 292, val := .none }] 5 }),
(77, { cls := .type "type", data := .cls { name := "_NodeInfo", bases := [.type "object"], mro := [.ref 77, .type "object"], ns := 76, qualname := "_NodeInfo", hasDict := false, slotNames := ["node", "npredecessors", "successors"] }, slots := #[none, none, some (.str "_NodeInfo" 258), some (.str "_NodeInfo" 266), some (.builtin "object.__new__"), some (.bool false)] }),
(78, { cls := .type "member_descriptor", data := .fields #[.str "node" 286, .ref 77, .builtin "proto.slot", .builtin "proto.slot#set", .int 2 0] }),
(79, { cls := .type "member_descriptor", data := .fields #[.str "npredecessors" 288, .ref 77, .builtin "proto.slot", .builtin "proto.slot#set", .int 1 0] }),
(80, { cls := .type "member_descriptor", data := .fields #[.str "successors" 290, .ref 77, .builtin "proto.slot", .builtin "proto.slot#set", .int 0 0] }),
(103, { cls := .type "tuple", data := .seq #[.none] }),
(108, { cls := .none, data := .func { name := fnm (mtAt 15 0), qualname := "TopologicalSorter.__init__", params := fpar (mtAt 15 0), body := .stmts (fbody (mtAt 15 0)), scope := fsco (mtAt 15 0), globals := 0, closure := [], defaults := .none, kwdefaults := .none } }),
(109, { cls := .type "code", data := .fields #[.str "__init__" 325, .str "TopologicalSorter.__init__" 326, .str "/claim/cut.py" 327, .int 69 0, .int 2 0, .int 0 0, .int 0 0, .int 3 0, .ref 104, .bool true, .int 181 0, .ref 105, .none, .ref 106, .ref 107, .ref 108, .int 332 0, .int 69 0, .str "/claim/cut.py" 333] }),
(110, { cls := .type "function", data := .func { name := fnm (mtAt 15 0), qualname := "TopologicalSorter.__init__", params := fpar (mtAt 15 0), body := .stmts (fbody (mtAt 15 0)), scope := fsco (mtAt 15 0), globals := 3, closure := [], defaults := .ref 103, kwdefaults := .none, pyModule := .str "cpy313.graphlib" 250, code := .ref 109 } }),
(115, { cls := .none, data := .func { name := fnm (mtAt 15 1), qualname := "TopologicalSorter._get_nodeinfo", params := fpar (mtAt 15 1), body := .stmts (fbody (mtAt 15 1)), scope := fsco (mtAt 15 1), globals := 0, closure := [], defaults := .none, kwdefaults := .none } }),
(116, { cls := .type "code", data := .fields #[.str "_get_nodeinfo" 335, .str "TopologicalSorter._get_nodeinfo" 336, .str "/claim/cut.py" 337, .int 78 0, .int 2 0, .int 0 0, .int 0 0, .int 3 0, .ref 111, .bool true, .int 181 0, .ref 112, .none, .ref 113, .ref 114, .ref 115, .int 341 0, .int 78 0, .str "/claim/cut.py" 342] }),
(117, { cls := .type "function", data := .func { name := fnm (mtAt 15 1), qualname := "TopologicalSorter._get_nodeinfo", params := fpar (mtAt 15 1), body := .stmts (fbody (mtAt 15 1)), scope := fsco (mtAt 15 1), globals := 3, closure := [], defaults := .none, kwdefaults := .none, pyModule := .str "cpy313.graphlib" 250, code := .ref 116 } }),
(122, { cls := .none, data := .func { name := fnm (mtAt 15 2), qualname := "TopologicalSorter.add", params := fpar (mtAt 15 2), body := .stmts (fbody (mtAt 15 2)), scope := fsco (mtAt 15 2), globals := 0, closure := [], defaults := .none, kwdefaults := .none } }),
(123, { cls := .type "code", data := .fields #[.str "add" 344, .str "TopologicalSorter.add" 345, .str "/claim/cut.py" 346, .int 83 0, .int 2 0, .int 0 0, .int 0 0, .int 7 0, .ref 118, .bool true, .int 181 0, .ref 119, .none, .ref 120, .ref 121, .ref 122, .int 353 0, .int 83 0, .str "/claim/cut.py" 354] }),
(124, { cls := .type "function", data := .func { name := fnm (mtAt 15 2), qualname := "TopologicalSorter.add", params := fpar (mtAt 15 2), body := .stmts (fbody (mtAt 15 2)), scope := fsco (mtAt 15 2), globals := 3, closure := [], defaults := .none, kwdefaults := .none, pyModule := .str "cpy313.graphlib" 250, code := .ref 123 } }),
(127, { cls := .none, data := .func { name := fnm (mtAt 15 3), qualname := "TopologicalSorter.prepare", params := fpar (mtAt 15 3), body := .stmts (fbody (mtAt 15 3)), scope := fsco (mtAt 15 3), globals := 0, closure := [], defaults := .none, kwdefaults := .none } }),
(128, { cls := .type "code", data := .fields #[.str "prepare" 356, .str "TopologicalSorter.prepare" 357, .str "/claim/cut.py" 358, .int 92 0, .int 1 0, .int 0 0, .int 0 0, .int 3 0, .ref 125, .bool true, .int 181 0, .ref 126, .none, .none, .none, .ref 127, .int 359 0, .int 92 0, .str "/claim/cut.py" 360] }),
(129, { cls := .type "function", data := .func { name := fnm (mtAt 15 3), qualname := "TopologicalSorter.prepare", params := fpar (mtAt 15 3), body := .stmts (fbody (mtAt 15 3)), scope := fsco (mtAt 15 3), globals := 3, closure := [], defaults := .none, kwdefaults := .none, pyModule := .str "cpy313.graphlib" 250, code := .ref 128 } }),
(134, { cls := .none, data := .func { name := fnm (mtAt 15 4), qualname := "TopologicalSorter.get_ready", params := fpar (mtAt 15 4), body := .stmts (fbody (mtAt 15 4)), scope := fsco (mtAt 15 4), globals := 0, closure := [], defaults := .none, kwdefaults := .none } }),
(135, { cls := .type "code", data := .fields #[.str "get_ready" 362, .str "TopologicalSorter.get_ready" 363, .str "/claim/cut.py" 364, .int 100 0, .int 1 0, .int 0 0, .int 0 0, .int 3 0, .ref 130, .bool true, .int 181 0, .ref 131, .none, .ref 132, .ref 133, .ref 134, .int 369 0, .int 100 0, .str "/claim/cut.py" 370] }),
(136, { cls := .type "function", data := .func { name := fnm (mtAt 15 4), qualname := "TopologicalSorter.get_ready", params := fpar (mtAt 15 4), body := .stmts (fbody (mtAt 15 4)), scope := fsco (mtAt 15 4), globals := 3, closure := [], defaults := .none, kwdefaults := .none, pyModule := .str "cpy313.graphlib" 250, code := .ref 135 } }),
(141, { cls := .none, data := .func { name := fnm (mtAt 15 5), qualname := "TopologicalSorter.is_active", params := fpar (mtAt 15 5), body := .stmts (fbody (mtAt 15 5)), scope := fsco (mtAt 15 5), globals := 0, closure := [], defaults := .none, kwdefaults := .none } }),
(142, { cls := .type "code", data := .fields #[.str "is_active" 372, .str "TopologicalSorter.is_active" 373, .str "/claim/cut.py" 374, .int 111 0, .int 1 0, .int 0 0, .int 0 0, .int 3 0, .ref 137, .bool true, .int 181 0, .ref 138, .none, .ref 139, .ref 140, .ref 141, .int 376 0, .int 111 0, .str "/claim/cut.py" 377] }),
(143, { cls := .type "function", data := .func { name := fnm (mtAt 15 5), qualname := "TopologicalSorter.is_active", params := fpar (mtAt 15 5), body := .stmts (fbody (mtAt 15 5)), scope := fsco (mtAt 15 5), globals := 3, closure := [], defaults := .none, kwdefaults := .none, pyModule := .str "cpy313.graphlib" 250, code := .ref 142 } }),
(155, { cls := .none, data := .func { name := fnm (mtAt 15 7), qualname := "TopologicalSorter.done", params := fpar (mtAt 15 7), body := .stmts (fbody (mtAt 15 7)), scope := fsco (mtAt 15 7), globals := 0, closure := [], defaults := .none, kwdefaults := .none } }),
(156, { cls := .type "code", data := .fields #[.str "done" 386, .str "TopologicalSorter.done" 387, .str "/claim/cut.py" 388, .int 119 0, .int 1 0, .int 0 0, .int 0 0, .int 7 0, .ref 151, .bool true, .int 181 0, .ref 152, .none, .ref 153, .ref 154, .ref 155, .int 397 0, .int 119 0, .str "/claim/cut.py" 398] }),
(157, { cls := .type "function", data := .func { name := fnm (mtAt 15 7), qualname := "TopologicalSorter.done", params := fpar (mtAt 15 7), body := .stmts (fbody (mtAt 15 7)), scope := fsco (mtAt 15 7), globals := 3, closure := [], defaults := .none, kwdefaults := .none, pyModule := .str "cpy313.graphlib" 250, code := .ref 156 } }),
(162, { cls := .none, data := .func { name := fnm (mtAt 15 8), qualname := "TopologicalSorter._find_cycle", params := fpar (mtAt 15 8), body := .stmts (fbody (mtAt 15 8)), scope := fsco (mtAt 15 8), globals := 0, closure := [], defaults := .none, kwdefaults := .none } }),
(163, { cls := .type "code", data := .fields #[.str "_find_cycle" 400, .str "TopologicalSorter._find_cycle" 401, .str "/claim/cut.py" 402, .int 142 0, .int 1 0, .int 0 0, .int 0 0, .int 3 0, .ref 158, .bool true, .int 181 0, .ref 159, .none, .ref 160, .ref 161, .ref 162, .int 410 0, .int 142 0, .str "/claim/cut.py" 411] }),
(164, { cls := .type "function", data := .func { name := fnm (mtAt 15 8), qualname := "TopologicalSorter._find_cycle", params := fpar (mtAt 15 8), body := .stmts (fbody (mtAt 15 8)), scope := fsco (mtAt 15 8), globals := 3, closure := [], defaults := .none, kwdefaults := .none, pyModule := .str "cpy313.graphlib" 250, code := .ref 163 } }),
(172, { cls := .type "tuple", data := .seq #[.str "_nfinished" 420, .str "_node2info" 421, .str "_npassedout" 422, .str "_ready_nodes" 423] }),
(173, { cls := .type "dict", data := .dict #[{ hash := PyData.keyHash p "__module__", key := .str "__module__" 320, val := .str "cpy313.graphlib" 250 }, { hash := PyData.keyHash p "__firstlineno__", key := .str "__firstlineno__" 324, val := .int 67 323 }, { hash := PyData.keyHash p "__init__", key := .str "__init__" 334, val := .ref 110 }, { hash := PyData.keyHash p "_get_nodeinfo", key := .str "_get_nodeinfo" 343, val := .ref 117 }, { hash := PyData.keyHash p "add", key := .str "add" 355, val := .ref 124 }, { hash := PyData.keyHash p "prepare", key := .str "prepare" 361, val := .ref 129 }, { hash := PyData.keyHash p "get_ready", key := .str "get_ready" 371, val := .ref 136 }, { hash := PyData.keyHash p "is_active", key := .str "is_active" 378, val := .ref 143 }, { hash := PyData.keyHash p "__bool__", key := .str "__bool__" 385, val := .ref 150 }, { hash := PyData.keyHash p "done", key := .str "done" 399, val := .ref 157 }, { hash := PyData.keyHash p "_find_cycle", key := .str "_find_cycle" 412, val := .ref 164 }, { hash := PyData.keyHash p "static_order", key := .str "static_order" 419, val := .ref 171 }, { hash := PyData.keyHash p "__static_attributes__", key := .str "__static_attributes__" 424, val := .ref 172 }, { hash := PyData.keyHash p "__dict__", key := .str "__dict__" 426, val := .ref 175 }, { hash := PyData.keyHash p "__weakref__", key := .str "__weakref__" 428, val := .ref 176 }, { hash := PyData.keyHash p "__doc__", key := .str "__doc__" 429, val := .none }] 4 }),
(174, { cls := .type "type", data := .cls { name := "TopologicalSorter", bases := [.type "object"], mro := [.ref 174, .type "object"], ns := 173, qualname := "TopologicalSorter" }, slots := #[none, none, some (.str "TopologicalSorter" 313), some (.str "TopologicalSorter" 321), some (.builtin "object.__new__"), some (.bool true)] }),
(175, { cls := .type "getset_descriptor", data := .fields #[.str "__dict__" 425, .ref 174, .builtin "function.__dict__", .builtin "function.__dict__#set"] }),
(176, { cls := .type "getset_descriptor", data := .fields #[.str "__weakref__" 427, .ref 174, .builtin "ExceptionGroup.__weakref__", .none] }),
(181, { cls := .none, data := .func { name := fnm (stAt 17), qualname := "_law_text", params := fpar (stAt 17), body := .stmts (fbody (stAt 17)), scope := fsco (stAt 17), globals := 0, closure := [], defaults := .none, kwdefaults := .none } }),
(182, { cls := .type "code", data := .fields #[.str "_law_text" 434, .str "_law_text" 435, .str "/claim/cut.py" 436, .int 174 0, .int 1 0, .int 0 0, .int 0 0, .int 3 0, .ref 179, .bool true, .int 181 0, .ref 180, .none, .none, .none, .ref 181, .int 437 0, .int 174 0, .str "/claim/cut.py" 438] }),
(183, { cls := .type "function", data := .func { name := fnm (stAt 17), qualname := "_law_text", params := fpar (stAt 17), body := .stmts (fbody (stAt 17)), scope := fsco (stAt 17), globals := 3, closure := [], defaults := .none, kwdefaults := .none, pyModule := .str "law_op0144_01" 432, code := .ref 182 } }),
(188, { cls := .none, data := .func { name := fnm (stAt 18), qualname := "_law_bounds", params := fpar (stAt 18), body := .stmts (fbody (stAt 18)), scope := fsco (stAt 18), globals := 0, closure := [], defaults := .none, kwdefaults := .none } }),
(189, { cls := .type "code", data := .fields #[.str "_law_bounds" 440, .str "_law_bounds" 441, .str "/claim/cut.py" 442, .int 176 0, .int 1 0, .int 0 0, .int 0 0, .int 3 0, .ref 184, .bool true, .int 181 0, .ref 185, .none, .ref 186, .ref 187, .ref 188, .int 451 0, .int 176 0, .str "/claim/cut.py" 452] }),
(190, { cls := .type "function", data := .func { name := fnm (stAt 18), qualname := "_law_bounds", params := fpar (stAt 18), body := .stmts (fbody (stAt 18)), scope := fsco (stAt 18), globals := 3, closure := [], defaults := .none, kwdefaults := .none, pyModule := .str "law_op0144_01" 432, code := .ref 189 } }),
(193, { cls := .none, data := .func { name := fnm (stAt 19), qualname := "_law_sorter", params := fpar (stAt 19), body := .stmts (fbody (stAt 19)), scope := fsco (stAt 19), globals := 0, closure := [], defaults := .none, kwdefaults := .none } }),
(194, { cls := .type "code", data := .fields #[.str "_law_sorter" 454, .str "_law_sorter" 455, .str "/claim/cut.py" 456, .int 186 0, .int 1 0, .int 0 0, .int 0 0, .int 3 0, .ref 191, .bool true, .int 181 0, .ref 192, .none, .none, .none, .ref 193, .int 457 0, .int 186 0, .str "/claim/cut.py" 458] }),
(195, { cls := .type "function", data := .func { name := fnm (stAt 19), qualname := "_law_sorter", params := fpar (stAt 19), body := .stmts (fbody (stAt 19)), scope := fsco (stAt 19), globals := 3, closure := [], defaults := .none, kwdefaults := .none, pyModule := .str "law_op0144_01" 432, code := .ref 194 } }),
(198, { cls := .none, data := .func { name := fnm (stAt 20), qualname := "_law_ranked", params := fpar (stAt 20), body := .stmts (fbody (stAt 20)), scope := fsco (stAt 20), globals := 0, closure := [], defaults := .none, kwdefaults := .none } }),
(199, { cls := .type "code", data := .fields #[.str "_law_ranked" 460, .str "_law_ranked" 461, .str "/claim/cut.py" 462, .int 192 0, .int 2 0, .int 0 0, .int 0 0, .int 3 0, .ref 196, .bool true, .int 181 0, .ref 197, .none, .none, .none, .ref 198, .int 463 0, .int 192 0, .str "/claim/cut.py" 464] }),
(200, { cls := .type "function", data := .func { name := fnm (stAt 20), qualname := "_law_ranked", params := fpar (stAt 20), body := .stmts (fbody (stAt 20)), scope := fsco (stAt 20), globals := 3, closure := [], defaults := .none, kwdefaults := .none, pyModule := .str "law_op0144_01" 432, code := .ref 199 } }),
(205, { cls := .none, data := .func { name := fnm (stAt 21), qualname := "_law_lets", params := fpar (stAt 21), body := .stmts (fbody (stAt 21)), scope := fsco (stAt 21), globals := 0, closure := [], defaults := .none, kwdefaults := .none } }),
(206, { cls := .type "code", data := .fields #[.str "_law_lets" 466, .str "_law_lets" 467, .str "/claim/cut.py" 468, .int 198 0, .int 2 0, .int 0 0, .int 0 0, .int 3 0, .ref 201, .bool true, .int 181 0, .ref 202, .none, .ref 203, .ref 204, .ref 205, .int 474 0, .int 198 0, .str "/claim/cut.py" 475] }),
(207, { cls := .type "function", data := .func { name := fnm (stAt 21), qualname := "_law_lets", params := fpar (stAt 21), body := .stmts (fbody (stAt 21)), scope := fsco (stAt 21), globals := 3, closure := [], defaults := .none, kwdefaults := .none, pyModule := .str "law_op0144_01" 432, code := .ref 206 } }),
(210, { cls := .none, data := .func { name := fnm (stAt 22), qualname := "law", params := fpar (stAt 22), body := .stmts (fbody (stAt 22)), scope := fsco (stAt 22), globals := 0, closure := [], defaults := .none, kwdefaults := .none } }),
(211, { cls := .type "code", data := .fields #[.str "law" 477, .str "law" 478, .str "/claim/cut.py" 479, .int 208 0, .int 1 0, .int 0 0, .int 0 0, .int 3 0, .ref 208, .bool true, .int 181 0, .ref 209, .none, .none, .none, .ref 210, .int 480 0, .int 208 0, .str "/claim/cut.py" 481] }),
(212, { cls := .type "function", data := .func { name := fnm (stAt 22), qualname := "law", params := fpar (stAt 22), body := .stmts (fbody (stAt 22)), scope := fsco (stAt 22), globals := 3, closure := [], defaults := .none, kwdefaults := .none, pyModule := .str "law_op0144_01" 432, code := .ref 211 } })]
noncomputable abbrev hpA : List Addr := [1, 2, 3, 26, 27, 28, 33, 34, 35, 40, 41, 42, 43, 48, 49, 50, 51, 56, 57, 58, 66, 71, 72, 73, 74, 76, 77, 78, 79, 80, 103, 108, 109, 110, 115, 116, 117, 122, 123, 124, 127, 128, 129, 134, 135, 136, 141, 142, 143, 155, 156, 157, 162, 163, 164, 172, 173, 174, 175, 176, 181, 182, 183, 188, 189, 190, 193, 194, 195, 198, 199, 200, 205, 206, 207, 210, 211, 212]
end KK
section KT
open PySem PySem.W PyProof.Rows PySem.Calls
theorem hp_ok (p : Params) : KOk' (hp p) := by
  refine ⟨?_, ⟨by kernel_rfl, by kernel_rfl, by kernel_rfl, by kernel_rfl, by decide +kernel⟩⟩
  constructor
  case kc77 | kc174 => exact ⟨by kernel_rfl, by kernel_rfl, by kernel_rfl, by kernel_rfl⟩
  case ks_node | ks_npred | ks_succ => exact ⟨by kernel_rfl, by kernel_rfl, by kernel_rfl, by kernel_rfl, by kernel_rfl, by kernel_rfl, by kernel_rfl⟩
  case hd174 | mk77 | in77 | ty73 | mk174 | in174 | ty110 => kernel_rfl
  case fi174 | ta174 =>
    intro x hx
    simp only [sNs, List.mem_cons, List.not_mem_nil, or_false] at hx
    rcases hx with rfl | rfl | rfl | rfl <;> kernel_rfl
  case me174 =>
    intro x hx
    simp only [meths, List.mem_cons, List.not_mem_nil, or_false] at hx
    rcases hx with rfl | rfl | rfl | rfl | rfl | rfl | rfl <;> exact ⟨by kernel_rfl, by kernel_rfl, by decide +kernel⟩
  case keep =>
    intro f hf
    simp only [fns, List.mem_cons, List.not_mem_nil, or_false] at hf
    rcases hf with rfl | rfl | rfl | rfl | rfl | rfl | rfl | rfl | rfl | rfl | rfl | rfl | rfl | rfl | rfl | rfl | rfl | rfl | rfl <;> kernel_rfl
  case d103 | d51 => exact ⟨_, _, rfl, rfl⟩
  all_goals exact ⟨_, _, _, _, _, _, _, _, _, rfl, by kernel_rfl⟩
end KT
section ZH
set_option Elab.async false
open PySem PySem.W PySem.W.X PyProof.Rows
noncomputable def qv : Program := { PySem.Challenge.pw_op0144_01 with main := { PySem.Challenge.pw_op0144_01.main with body := [stAt 0, stAt 2, stAt 4, stAt 5, stAt 6, stAt 11, stAt 12, stAt 13, stAt 14, stAt 15, stAt 17, stAt 18, stAt 19, stAt 20, stAt 21, stAt 22] } }
noncomputable abbrev qL : List Str := ["b2a_base64", "b64encode", "_NodeInfo"]
noncomputable def hpY (s : Shared) : List (Option Obj) := hpA.map s.heap.get?
noncomputable def hpV (w : World) : List (Option Obj) := (hp w.params).map fun p => some p.2
set_option maxHeartbeats 0 in
theorem head_ok : LeftO PySem.Challenge.rw_op0144_01.row.prog qv qL (fun s => xlAt qv [] s && recOk (RowW.records (OpenRow.toRowW PySem.Challenge.rw_op0144_01.row)) s) hpY hpV 2972 := fun w => by kernel_rfl
end ZH
section ZB
set_option Elab.async false
open PySem PySem.W PySem.W.X PyProof.Rows
noncomputable def Done (b : Shared) (v : Value) (s' : Shared) : Prop := v = .bool true ∧ (∀ x o, b.heap.get? x = some o → s'.heap.get? x = some o) ∧ s'.gens = #[] ∧ s'.os = b.os
theorem St.start {b : Shared} (ht : ∀ a ≤ 3, ∃ o, b.heap.get? a = some o) (hg : b.gens = #[]) : St b [] [] b := ⟨fun _ _ h => h, fun _ h => absurd h List.not_mem_nil, fun _ h => absurd h List.not_mem_nil, List.nodup_nil, fun _ h => absurd h List.not_mem_nil, ht, hg, rfl⟩
theorem Ar.top {A : Around} (h : A.frames = some []) (h1 : A.depth + 7 ≤ 900) (h2 : A.units + 10 * 7 ≤ 9000) (h3 : A.handled = none) (h4 : A.guards = some []) : Ar A 7 [] := ⟨h1, h2, h3, h4, [], h, rfl, fun _ h => absurd h List.not_mem_nil⟩
theorem Frs.top {A : Around} (h : A.frames = some []) : Frs A [] := ⟨[], h, fun _ h => absurd h List.not_mem_nil⟩
theorem law_ok {K : Frag} {w : World} {b : Shared} {a : Addr} {us : List Value} {ns : List Int} (hK : KOk' K) (X : K.In b.heap) (g : Gd b) (ht : ∀ a ≤ 3, ∃ o, b.heap.get? a = some o) (hg : b.gens = #[]) (hL : b.heap.IsList a us.toArray) (hI : IntsAre us ns) (hn : ¬ (63 : Int) < ns.length) :
  wpAny (model PySem.Challenge.rw_op0144_01.row.prog w) callerA (call (.ref 212) [.ref a]) (Done b) (fun _ _ => False) b :=
  law212 (n := 0) (Ls := []) g X hK (Ar.top rfl (by decide) (by decide) rfl rfl) (Frs.top rfl) hL hI (by omega) (St.start ht hg) (fun led' s' S => ⟨rfl, S.keep, S.gens, S.os⟩)
noncomputable def nrm : Value → Option V
  | .none => some .none
  | .bool b => some (.bool b)
  | .int i _ => some (.int i)
  | .str s _ => some (.str s)
  | .bytes x _ => some (.bytes x)
  | .ref a => some (.ref a)
  | .type n => some (.type n)
  | .builtin n => some (.bi n)
  | _ => none
theorem is_of {u : Value} {v : V} (h : nrm u = some v) : Is u v := by
  cases u <;> cases h <;> constructor
theorem bind_of {α β : Type} {o : Option α} {f : α → Option β} {b : β} (h : o.bind f = some b) : ∃ a, o = some a ∧ f a = some b := by
  cases o with
  | none => cases h
  | some a => exact ⟨a, rfl, h⟩
theorem gd_of {K : Frag} {b : Shared} {mg mb : Str → Option Value} (X : K.In b.heap) (G : b.heap.Ns mainGlobals mg) (B : b.heap.Ns builtinsNs mb) (hb : ∀ x : Str, x ≠ "__name__" → mb x = bootBuiltins x) (hl : b.heap.NoLimit)
   (h1 : (globs.map fun p => (nsIn K mainGlobals p.1).bind (·.bind nrm)) = globs.map fun p => some p.2) (h2 : (blts.map fun p => nsIn K mainGlobals p.1) = blts.map fun _ => some none)
   (h3 : (blts.map fun p => (bootBuiltins p.1).bind nrm) = blts.map fun p => some p.2) (h4 : (blts.all fun p => p.1 != "__name__") = true) : Gd b := by
  refine ⟨⟨mg, mb, G, B, fun p hp => ?_, fun p hp => ?_⟩, hl⟩
  · obtain ⟨o, e, h⟩ := bind_of (List.map_inj_left.1 h1 p hp)
    obtain ⟨u, rfl, h⟩ := bind_of h
    exact ⟨u, mg_of X G e, is_of h⟩
  · obtain ⟨u, e, h⟩ := bind_of (List.map_inj_left.1 h3 p hp)
    exact ⟨mg_none_of X G (List.map_inj_left.1 h2 p hp), u, (hb _ (bne_iff_ne.1 (List.all_eq_true.1 h4 p hp))).trans e, is_of h⟩
theorem tab_ok {p : Params} : (globs.map fun q => (nsIn (hp p) mainGlobals q.1).bind (·.bind nrm)) = globs.map fun q => some q.2 := by kernel_rfl
theorem low3 {p : Params} {b : Shared} {mb : Str → Option Value} (KX : (hp p).In b.heap) (B : b.heap.Ns builtinsNs mb) {a : Addr} (ha : a ≤ 3) : ∃ o, b.heap.get? a = some o := by
  match a, ha with
  | 0, _ => obtain ⟨o, _, _, ho, _⟩ := B; exact ⟨o, ho⟩
  | 1, _ => exact ⟨_, KX 1 _ rfl⟩
  | 2, _ => exact ⟨_, KX 2 _ rfl⟩
  | 3, _ => exact ⟨_, KX 3 _ rfl⟩
theorem and_ok {a b : Bool} (h : a = true) (k : b = true) : (a && b) = true := by rw [h, k]; rfl
set_option maxHeartbeats 0 in
theorem looks_ok : looksOpen PySem.Challenge.rw_op0144_01.row.prog = true := by
  delta looksOpen
  repeat' with_reducible refine and_ok ?_ ?_
  all_goals decide +kernel
theorem row_ok : PySem.Challenge.rw_op0144_01.row.wellSaid = true := by
  delta OpenRow.wellSaid OpenRow.partSaid
  repeat' with_reducible refine and_ok ?_ ?_
  · with_reducible exact looks_ok
  all_goals decide +kernel
set_option maxHeartbeats 0 in
theorem said_ok : PySem.Challenge.rw_op0144_01.wellSaid = true := by
  delta OpenLaw.wellSaid
  repeat' with_reducible refine and_ok ?_ ?_
  · with_reducible exact row_ok
  all_goals decide +kernel
end ZB
end Mine
open PySem PySem.W PySem.W.X PyProof.Rows Mine
set_option maxHeartbeats 0 in
theorem PySem.Challenge.cw_op0144_01_holds : PySem.Challenge.rw_op0144_01.Holds := by
  w_on
  refine holds_law said_ok fun said => ?_
  refine holds_openX (q := qv) (loose := qL) (Xt := fun s => xlAt qv [] s && recOk (RowW.records (OpenRow.toRowW PySem.Challenge.rw_op0144_01.row)) s) (XP := XL qv []) (Yf := hpY) (Ya := hpV) (N := 2972) head_ok (fun s e => xl_of s (Bool.and_eq_true_iff.mp e).1) XL.keeps (by rfl) (by rfl) (by rfl) (fun s e => recFacts_of (Bool.and_eq_true_iff.mp e).2) (by rfl) (by first | assumption | decide +kernel) (by decide +kernel) ⟨rfl, rfl, rfl, rfl, rfl, by decide +kernel⟩ ?hw ?hc
  case hw => w_witness2
  intro w s₀ s₁ mg mb G y fa o pm cd doc dV kV ho hd hcd hD hmg hg args vals as L hpre hlay hrd hwl hlo
  have KX : Frag.In (hp w.params) s₁.heap := InK.keeps w s₀.heap s₁.heap (InK.of (K := hp) (as := hpA) (fun _ => rfl) w s₀ y) L.keeps
  clear y
  refine Ground.open G ?_
  intro T B D TE TW
  wrow_args hpre hlay hrd hwl hlo
  x_fa T KX hmg
  clear G hd hcd hD ho L hmg B D TE TW
  refine wpAny_mono (law_ok (hp_ok _) KX (gd_of KX T.g T.b T.builtins T.nolimit tab_ok ?_ ?_ ?_) (fun a ha => low3 KX T.b ha) hg (by assumption) (by assumption) (by assumption)) ?_ ?_
  · kernel_rfl
  · kernel_rfl
  · decide +kernel
  · rintro v s' ⟨rfl, hk, hg, ho⟩
    exact GoodW.toG ⟨.inl ⟨_, .bool true, [], rfl, fun _ => by kernel_rfl, .bool true, by kernel_rfl, unshared_nil⟩, hk, ho, hg⟩
  · exact fun _ _ h => h.elim
