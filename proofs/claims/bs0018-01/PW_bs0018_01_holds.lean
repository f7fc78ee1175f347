import PyProof.Rows.All
import Wide.All
import OpenK.AllK
import Wide.FinOn
import KE.KSuper
import PyProof.IsiNone
import KE.KCallOwn
import Flt.Str
import KE.KDictList
import KE.KLam
import KE.KDictIter
import PyProof.GenCompD
import PyProof.Rows.GenRows
import KE.KOwnIter
import PyProof.Rows.ListMul
import PyProof.Rows.SeqSlice
import PySem.Challenge.RW_bs0018_01
set_option Elab.async false
set_option maxRecDepth 100000
set_option linter.unusedVariables false

-- MB1
namespace Mine
open PySem PySem.W PySem.Calls PyProof.Rows

abbrev NoE : Value → Shared → Prop := fun _ _ => False
abbrev WP (prog : Program) (w : World) (A : Around) {α : Type} (t : Sem α) (Q : α → Shared → Prop) (s : Shared) : Prop := wpAny (model prog w) A t Q NoE s

/-- what a call comes back with -/
def Back (Q : Value → Shared → Prop) (r : Result) (s : Shared) : Prop := match r with
  | .ok (.ret v) => Q v s
  | _ => False
abbrev WC (prog : Program) (w : World) (A : Around) (f : Value) (pos : List Value) (kw : List (Str × Value)) (Q : Value → Shared → Prop) (s : Shared) : Prop := codeAny (model prog w) A (.call f ⟨pos, kw⟩) (Back Q) s
theorem call_of {prog : Program} {w : World} {A : Around} {f : Value} {pos : List Value} {kw : List (Str × Value)} {Q : Value → Shared → Prop} {s : Shared} (h : WC prog w A f pos kw Q s) : WP prog w A (call f pos kw) Q s :=
  wpAny_call (codeAny_mono h fun r s' q => by rcases r with e | (v | _ | _ | _) <;> first | exact q | exact q.elim)

/-- what an object is, as far as the walk asks -/
inductive SO where
  | raw (o : Obj)
  | ns (kvs : List (Str × Option Value))
  | dI (kvs : List (Int × Value))
  | dE (kvs : List (Int × Value)) (ep : Nat)
  | dS (kvs : List (Str × Value))
  | ls (vs : List Value)
  | lw (vs : List Value)
  | tp (vs : List Value)
  | cell (v : Option Value)
  | pr (p : Obj → Prop)

def SO.on (prog : Program) (w : World) : SO → Obj → Prop
  | .raw o, o' => o' = o ∧ o.isFreed = false
  | .ns kvs, o => (kvs.map (·.1)).Nodup ∧ ∃ es ep, o.data = .dict es ep ∧ StrKeys es ∧ ∀ n, nsFind es n = (kvs.lookup n).join
  | .dI kvs, o => o.IsDictOf (intKind prog w) kvs
  | .dE kvs ep, o => ∃ es, o.ExactDict ∧ o.data = .dict es ep ∧ KeysOf (intKind prog w) es ∧ Pairs (intKind prog w) es.toList kvs ∧ (kvs.map (·.1)).Nodup
  | .dS kvs, o => o.IsDictOf (strKind prog w) kvs
  | .ls vs, o => ∃ n, o = { cls := .type "list", dict := none, data := .seq vs.toArray n, slots := #[] }
  | .lw vs, o => o.cls = .type "list" ∧ ∃ n, o.data = .seq vs.toArray n
  | .tp vs, o => ∃ n, o = { cls := .type "tuple", dict := none, data := .seq vs.toArray n, slots := #[] }
  | .cell v, o => o.data = .cell v
  | .pr p, o => p o

abbrev Ledger := List (Addr × SO)

structure Bs where
  h : Heap
  os : OsState
  big : ∃ b o, 1 < b ∧ h.get? b = some o
def Bs.free (B : Bs) (a : Addr) : Prop := B.h.get? a = none ∧ a ≠ 1
theorem Bs.free_of {B : Bs} {h : Heap} (hk : ∀ b o, B.h.get? b = some o → h.get? b = some o) {a : Addr} (ha : h.objs.size ≤ a) : B.free a := by
  refine ⟨?_, ?_⟩
  · cases q : B.h.get? a with
    | none => rfl
    | some o => exact absurd (Heap.lt_size (hk _ _ q)) (Nat.not_lt.mpr ha)
  · rintro rfl
    obtain ⟨b, o, hb, ho⟩ := B.big
    exact absurd (Nat.lt_of_lt_of_le (Heap.lt_size (hk _ _ ho)) ha) (Nat.not_lt.mpr (Nat.le_of_lt hb))

structure St (prog : Program) (w : World) (B : Bs) (l : Ledger) (s : Shared) : Prop where
  keep : ∀ b o, B.h.get? b = some o → s.heap.get? b = some o
  own : ∀ p ∈ l, (∃ o, s.heap.get? p.1 = some o ∧ p.2.on prog w o) ∧ B.free p.1
  nd : (l.map (·.1)).Nodup
  os : s.os = B.os
  gens : AllBare s.gens

/-- the entry at an address replaced -/
inductive Upd1 (a : Addr) (x y : SO) : Ledger → Ledger → Prop
  | head {r} : Upd1 a x y ((a, x) :: r) ((a, y) :: r)
  | tail {p r r'} : Upd1 a x y r r' → Upd1 a x y (p :: r) (p :: r')

theorem Upd1.keys {a : Addr} {x y : SO} {l l' : Ledger} (u : Upd1 a x y l l') : l'.map (·.1) = l.map (·.1) := by
  induction u with
  | head => rfl
  | tail _ ih => simp only [List.map_cons, ih]
theorem Upd1.mem {a : Addr} {x y : SO} {l l' : Ledger} (u : Upd1 a x y l l') : (a, x) ∈ l := by
  induction u with
  | head => exact .head _
  | tail _ ih => exact .tail _ ih
theorem Upd1.mem' {a : Addr} {x y : SO} {l l' : Ledger} (u : Upd1 a x y l l') : (a, y) ∈ l' := by
  induction u with
  | head => exact .head _
  | tail _ ih => exact .tail _ ih
theorem Upd1.split {a : Addr} {x y : SO} {l l' : Ledger} (u : Upd1 a x y l l') : ∃ p q, l = p ++ (a, x) :: q ∧ l' = p ++ (a, y) :: q := by
  induction u with
  | @head r => exact ⟨[], r, rfl, rfl⟩
  | @tail p r r' _ ih => obtain ⟨P, q, rfl, rfl⟩ := ih; exact ⟨p :: P, q, rfl, rfl⟩
theorem Upd1.append {a : Addr} {x y : SO} {l l' : Ledger} (u : Upd1 a x y l l') (r : Ledger) : Upd1 a x y (l ++ r) (l' ++ r) := by
  induction u with
  | head => exact .head
  | tail _ ih => exact .tail ih
theorem Upd1.right {a : Addr} {x y : SO} {l l' : Ledger} (u : Upd1 a x y l l') : ∀ r : Ledger, Upd1 a x y (r ++ l) (r ++ l')
  | [] => u
  | _ :: r => .tail (u.right r)
theorem Upd1.intro {a : Addr} {x y : SO} (p q : Ledger) : Upd1 a x y (p ++ (a, x) :: q) (p ++ (a, y) :: q) := Upd1.head.right p

section
variable {prog : Program} {w : World} {B : Bs} {l l' : Ledger} {s s' : Shared} {a : Addr} {x y : SO}

theorem St.get (H : St prog w B l s) (hm : (a, x) ∈ l) : ∃ o, s.heap.get? a = some o ∧ x.on prog w o := (H.own _ hm).1
theorem St.no (H : St prog w B l s) (hm : (a, x) ∈ l) : B.h.get? a = none := (H.own _ hm).2.1
theorem St.lo (H : St prog w B l s) (hm : (a, x) ∈ l) : (a == sysModules) = false := beq_eq_false_iff_ne.mpr (H.own _ hm).2.2
theorem St.lt (H : St prog w B l s) (hm : (a, x) ∈ l) : a < s.heap.objs.size := let ⟨_, h, _⟩ := H.get hm; Heap.lt_size h
theorem St.mono (H : St prog w B l s) (hs : ∀ p ∈ l', p ∈ l) (hn : (l'.map (·.1)).Nodup) : St prog w B l' s := ⟨H.keep, fun p hp => H.own p (hs p hp), hn, H.os, H.gens⟩
theorem St.drop (H : St prog w B (p :: l) s) : St prog w B l s := H.mono (fun _ h => .tail _ h) (List.nodup_cons.mp (show (List.map (·.1) (p :: l)).Nodup from H.nd)).2
theorem St.dropL {r : Ledger} (H : St prog w B (r ++ l) s) : St prog w B l s := H.mono (fun _ h => List.mem_append_right _ h) (by have := H.nd; rw [List.map_append] at this; exact (List.nodup_append.mp this).2.1)
theorem St.perm (H : St prog w B l s) (hp : l.Perm l') : St prog w B l' s := H.mono (fun _ h => hp.mem_iff.mpr h) ((hp.map _).nodup_iff.mp H.nd)
theorem St.tok (H : St prog w B l s) (t : Nat) : St prog w B l { s with toks := t } := ⟨H.keep, H.own, H.nd, H.os, H.gens⟩
/-- a step that keeps all -/
theorem St.grow (H : St prog w B l s) {h' : Heap} {t : Nat} (hk : ∀ b o, s.heap.get? b = some o → h'.get? b = some o) : St prog w B l { s with heap := h', toks := t } :=
  ⟨fun b o e => hk _ _ (H.keep b o e), fun p hp => let ⟨⟨o, ho, hx⟩, hn⟩ := H.own p hp; ⟨⟨o, hk _ _ ho, hx⟩, hn⟩, H.nd, H.os, H.gens⟩
/-- a new object -/
theorem St.fresh (H : St prog w B l s) {h' : Heap} {t : Nat} (hk : ∀ b o, s.heap.get? b = some o → h'.get? b = some o) (ha : s.heap.objs.size ≤ a) (hx : ∃ o, h'.get? a = some o ∧ x.on prog w o) :
    St prog w B ((a, x) :: l) { s with heap := h', toks := t } := by
  have G := H.grow (t := t) hk
  refine ⟨G.keep, fun p hp => ?_, ?_, G.os, G.gens⟩
  · cases hp with
    | head =>
      refine ⟨hx, ?_⟩
      exact Bs.free_of H.keep ha
    | tail _ hp => exact G.own p hp
  · rw [List.map_cons, List.nodup_cons]
    refine ⟨fun hm => ?_, H.nd⟩
    obtain ⟨p, hp, e⟩ := List.mem_map.mp hm
    obtain ⟨⟨o, ho, _⟩, _⟩ := H.own p hp
    have e' : p.1 = a := e
    rw [e'] at ho
    exact absurd (Heap.lt_size ho) (Nat.not_lt.mpr ha)
theorem St.push (H : St prog w B l s) {o : Obj} {t : Nat} (hf : o.isFreed = false) (hx : x.on prog w o) : St prog w B ((s.heap.objs.size, x) :: l) { s with heap := s.heap.push o, toks := t } :=
  H.fresh (fun _ _ e => Heap.get?_push_of_some _ e) (Nat.le_refl _) ⟨o, Heap.get?_push_size _ hf, hx⟩
/-- an object changed -/
theorem St.upd (H : St prog w B l s) {h' : Heap} {t : Nat} (u : Upd1 a x y l l') (hk : ∀ b o, b ≠ a → s.heap.get? b = some o → h'.get? b = some o) (hx : ∃ o, h'.get? a = some o ∧ y.on prog w o) :
    St prog w B l' { s with heap := h', toks := t } := by
  have hno := (H.own _ u.mem).2
  refine ⟨fun b o e => hk b o (fun q => ?_) (H.keep b o e), fun p hp => ?_, ?_, H.os, H.gens⟩
  · rw [q, hno.1] at e; cases e
  · obtain ⟨P, q, e1, e2⟩ := u.split
    subst e1 e2
    have nd := H.nd
    rw [List.map_append, List.map_cons, List.nodup_append] at nd
    obtain ⟨n1, n2, n3⟩ := nd
    rcases List.mem_append.mp hp with h | h
    · obtain ⟨⟨o, ho, hx⟩, hn⟩ := H.own p (List.mem_append_left _ h)
      exact ⟨⟨o, hk _ _ (n3 _ (List.mem_map_of_mem h) _ (.head _)) ho, hx⟩, hn⟩
    · cases h with
      | head => exact ⟨hx, hno⟩
      | tail _ h =>
        obtain ⟨⟨o, ho, hx⟩, hn⟩ := H.own p (List.mem_append_right _ (.tail _ h))
        exact ⟨⟨o, hk _ _ (fun e => (List.nodup_cons.mp n2).1 (List.mem_map.mpr ⟨_, h, e⟩)) ho, hx⟩, hn⟩
  · rw [u.keys]; exact H.nd
theorem St.same (H : St prog w B l s) {h' : Heap} {t : Nat} (u : Upd1 a x y l l') (hs : Heap.SameBut a s.heap h') (hx : ∃ o, h'.get? a = some o ∧ y.on prog w o) :
    St prog w B l' { s with heap := h', toks := t } := H.upd u (fun b o hb e => (hs.2 b hb).trans e) hx
theorem St.ne (H : St prog w B l s) (hm : (a, x) ∈ l) {b : Addr} {y : SO} (hm' : (b, y) ∈ l) (hxy : x ≠ y) : a ≠ b := by
  intro e
  subst e
  have := H.nd
  have key : ∀ {l : Ledger}, (l.map (·.1)).Nodup → (a, x) ∈ l → (a, y) ∈ l → x = y := by
    intro l
    induction l with
    | nil => intro _ h; cases h
    | cons p l ih =>
      intro nd h1 h2
      rw [List.map_cons, List.nodup_cons] at nd
      cases h1 with
      | head =>
        cases h2 with
        | head => rfl
        | tail _ h2 => exact absurd (List.mem_map_of_mem h2) nd.1
      | tail _ h1 =>
        cases h2 with
        | head => exact absurd (List.mem_map_of_mem h1) nd.1
        | tail _ h2 => exact ih nd.2 h1 h2
  exact hxy (key this hm hm')
end

/-- a name's value replaced in a frame -/
inductive Put (x : Str) (v : Option Value) : List (Str × Option Value) → List (Str × Option Value) → Prop
  | head {u r} : Put x v ((x, u) :: r) ((x, v) :: r)
  | tail {p r r'} : Put x v r r' → Put x v (p :: r) (p :: r')
theorem Put.keys {x : Str} {v : Option Value} {k k' : List (Str × Option Value)} (p : Put x v k k') : k'.map (·.1) = k.map (·.1) := by
  induction p with
  | head => rfl
  | tail _ ih => simp only [List.map_cons, ih]
theorem Put.mem {x : Str} {v : Option Value} {k k' : List (Str × Option Value)} (p : Put x v k k') : x ∈ k.map (·.1) := by
  induction p with
  | head => exact .head _
  | tail _ ih => exact .tail _ ih
theorem Put.look {x : Str} {v : Option Value} {k k' : List (Str × Option Value)} (p : Put x v k k') (nd : (k.map (·.1)).Nodup) (n : Str) : (k'.lookup n).join = if n = x then v else (k.lookup n).join := by
  induction p with
  | @head u r =>
    simp only [List.lookup_cons]
    by_cases h : n = x
    · subst h; simp
    · have : (n == x) = false := beq_eq_false_iff_ne.mpr h
      rw [this, if_neg h]
  | @tail q r r' t ih =>
    rw [List.map_cons, List.nodup_cons] at nd
    obtain ⟨y, u⟩ := q
    simp only [List.lookup_cons]
    cases h : n == y with
    | false => exact ih nd.2
    | true =>
      have e := beq_iff_eq.mp h
      subst e
      have hx : n ≠ x := fun e => nd.1 (e ▸ t.mem)
      rw [if_neg hx]
theorem look_of_mem {x : Str} {v : Option Value} : ∀ {k : List (Str × Option Value)}, (k.map (·.1)).Nodup → (x, v) ∈ k → (k.lookup x).join = v
  | (y, u) :: r, nd, h => by
    rw [List.map_cons, List.nodup_cons] at nd
    simp only [List.lookup_cons]
    cases h with
    | head => simp
    | tail _ h =>
      have : (x == y) = false := beq_eq_false_iff_ne.mpr fun e => nd.1 (List.mem_map.mpr ⟨_, h, e⟩)
      rw [this]; exact look_of_mem nd.2 h

/-- what a frame's environment says of names -/
structure Fm (env : Env) (L : Addr) (ns : List Str) (cs : List (Str × Addr)) (gs : List Str) : Prop where
  kind : env.scope.kind = .function
  locals : env.locals = L
  globals : env.globals = mainGlobals
  builtins : env.builtins = builtinsNs
  loc : ∀ x ∈ ns, env.kindOf x = some .local ∧ (x == ("__debug__" : Str)) = false
  cel : ∀ p ∈ cs, (env.kindOf p.1 = some .cell ∨ env.kindOf p.1 = some .free ∧ (p.1 == ("__classdict__" : Str)) = false) ∧ env.cells.lookup p.1 = some p.2 ∧ (p.1 == ("__debug__" : Str)) = false
  glo : ∀ x ∈ gs, env.kindOf x = some .globalImplicit ∧ (x == ("__debug__" : Str)) = false

structure Tp (mg mb : Str → Option Value) (K : Frag) (h : Heap) : Prop where
  g : h.Ns mainGlobals mg
  b : h.Ns builtinsNs mb
  nolimit : h.NoLimit
  builtins : ∀ x : Str, x ≠ "__name__" → mb x = bootBuiltins x
  X : K.In h

section
variable {prog : Program} {w : World} {A : Around} {B : Bs} {l l' : Ledger} {s : Shared} {env : Env} {L : Addr} {ns : List Str} {cs : List (Str × Addr)} {gs : List Str} {kvs kvs' : List (Str × Option Value)}
  {x : Str} {v : Value} {pos : Pos} {mg mb : Str → Option Value} {K : Frag}

theorem St.ns_ (H : St prog w B l s) (hL : (L, .ns kvs) ∈ l) : s.heap.Ns L (fun n => (kvs.lookup n).join) ∧ (kvs.map (·.1)).Nodup := by
  obtain ⟨o, ho, nd, es, ep, hd, hk, hf⟩ := H.get hL
  exact ⟨⟨o, es, ep, ho, hd, hk, hf⟩, nd⟩

theorem ev_loc {Q : Value → Shared → Prop} (F : Fm env L ns cs gs) (H : St prog w B l s) (hL : (L, .ns kvs) ∈ l) (hx : (x, some v) ∈ kvs) (hn : x ∈ ns) (h : Q v s) : WP prog w A (eval (.Name x pos) env) Q s := by
  obtain ⟨N, nd⟩ := H.ns_ hL
  obtain ⟨k1, k2⟩ := F.loc x hn
  exact wpAny_Name (wpAny_loadName_local F.kind k1 (F.locals ▸ N) (look_of_mem nd hx) h) k2
theorem ld_loc {Q : Value → Shared → Prop} (F : Fm env L ns cs gs) (H : St prog w B l s) (hL : (L, .ns kvs) ∈ l) (hx : (x, some v) ∈ kvs) (hn : x ∈ ns) (h : Q v s) : WP prog w A (loadName env x) Q s := by
  obtain ⟨N, nd⟩ := H.ns_ hL
  obtain ⟨k1, k2⟩ := F.loc x hn
  exact wpAny_loadName_local F.kind k1 (F.locals ▸ N) (look_of_mem nd hx) h
theorem ld_cel {c : Addr} {Q : Value → Shared → Prop} (F : Fm env L ns cs gs) (H : St prog w B l s) (hc : (x, c) ∈ cs) (hv : (c, .cell (some v)) ∈ l) (h : Q v s) : WP prog w A (loadName env x) Q s := by
  obtain ⟨o, ho, hd⟩ := H.get hv
  obtain ⟨k1, k2, k3⟩ := F.cel _ hc
  rcases k1 with k1 | ⟨k1, k4⟩
  · exact wpAny_loadName_cell F.kind k1 k2 ⟨o, ho, hd⟩ h
  · exact wpAny_loadName_free F.kind k1 k2 ⟨o, ho, hd⟩ h k4
theorem ev_cel {c : Addr} {Q : Value → Shared → Prop} (F : Fm env L ns cs gs) (H : St prog w B l s) (hc : (x, c) ∈ cs) (hv : (c, .cell (some v)) ∈ l) (h : Q v s) : WP prog w A (eval (.Name x pos) env) Q s :=
  wpAny_Name (ld_cel F H hc hv h) (F.cel _ hc).2.2
theorem ev_glo {Q : Value → Shared → Prop} (F : Fm env L ns cs gs) (H : St prog w B l s) (T : Tp mg mb K B.h) (hx : x ∈ gs) (hv : mg x = some v) (h : Q v s) : WP prog w A (eval (.Name x pos) env) Q s := by
  obtain ⟨k1, k2⟩ := F.glo x hx
  exact Name_function_global F.kind k1 (loadGlobal_global (F.globals ▸ T.g.keeps H.keep) hv h) k2
theorem ev_blt {Q : Value → Shared → Prop} (F : Fm env L ns cs gs) (H : St prog w B l s) (T : Tp mg mb K B.h) (hx : x ∈ gs) (hv : mg x = none) (hb : bootBuiltins x = some v) (hn : x ≠ "__name__") (h : Q v s) : WP prog w A (eval (.Name x pos) env) Q s := by
  obtain ⟨k1, k2⟩ := F.glo x hx
  exact Name_function_global F.kind k1 (loadGlobal_builtin (F.globals ▸ T.g.keeps H.keep) hv (F.builtins ▸ T.b.keeps H.keep) ((T.builtins x hn).trans hb) h) k2

theorem st_loc {Q : Unit → Shared → Prop} (F : Fm env L ns cs gs) (H : St prog w B l s) (hx : x ∈ ns) (p : Put x (some v) kvs kvs') (u : Upd1 L (.ns kvs) (.ns kvs') l l')
    (h : ∀ s', St prog w B l' s' → Q () s') : WP prog w A (storeName env x v) Q s := by
  obtain ⟨N, nd⟩ := H.ns_ u.mem
  refine wpAny_storeName_local (F.loc x hx).1 (F.locals ▸ N) (fun h' hn hs => h _ ?_) (by rw [F.kind]; rfl)
  rw [F.locals] at hs hn
  refine H.same u hs ?_
  obtain ⟨o, es, ep, ho, hd, hk, hf⟩ := hn
  exact ⟨o, ho, p.keys ▸ nd, es, ep, hd, hk, fun n => (hf n).trans (p.look nd n).symm⟩
theorem st_cel {c : Addr} {v₀ : Option Value} {Q : Unit → Shared → Prop} (F : Fm env L ns cs gs) (H : St prog w B l s) (hc : (x, c) ∈ cs) (hk : env.kindOf x = some .cell) (u : Upd1 c (.cell v₀) (.cell (some v)) l l')
    (h : ∀ s', St prog w B l' s' → Q () s') : WP prog w A (storeName env x v) Q s := by
  obtain ⟨o, ho, hd⟩ := H.get u.mem
  obtain ⟨_, k2, k3⟩ := F.cel _ hc
  refine wpAny_storeName_cell F.kind hk k2 ⟨o, ho, hd⟩ fun h' hv hs => h _ (H.same (t := s.toks) u hs ?_)
  obtain ⟨o', ho', hd'⟩ := hv
  exact ⟨o', ho', hd'⟩

theorem ev_int {i : Int} {k : Nat} {Q : Value → Shared → Prop} (H : St prog w B l s) (h : ∀ t s', St prog w B l s' → Q (.int i t) s') : WP prog w A (eval (.Constant (.int i) k pos) env) Q s :=
  wpAny_Constant_int (h _ _ (H.tok _))
theorem ev_str {i : Str} {k : Nat} {Q : Value → Shared → Prop} (H : St prog w B l s) (h : ∀ t s', St prog w B l s' → Q (.str i t) s') : WP prog w A (eval (.Constant (.str i) k pos) env) Q s :=
  Calls.Constant_str (h _ _ (H.tok _))
theorem ev_none {k : Nat} {Q : Value → Shared → Prop} (h : Q .none s) : WP prog w A (eval (.Constant .none k pos) env) Q s := wpAny_Constant_none h
theorem ev_bool {b : Bool} {k : Nat} {Q : Value → Shared → Prop} (h : Q (.bool b) s) : WP prog w A (eval (.Constant (.bool b) k pos) env) Q s := wpAny_Constant_bool h
end
end Mine

-- MB2
namespace Mine
open PySem PySem.W PySem.Calls PyProof.Rows

def Nx (K : Shared → Prop) (Q : Flow → Shared → Prop) (f : Flow) (s : Shared) : Prop := match f with | .next => K s | f => Q f s
def retv (f : Flow) : Value := match f with | .ret v => v | _ => .none

structure Room (A : Around) (n : Nat) : Prop where
  hd : A.handled = none
  dp : A.depth + n < recursionLimit
  un : A.units + 8 * n < cLine
theorem Room.less {A : Around} {n m : Nat} (R : Room A n) (h : m ≤ n) : Room A m := ⟨R.hd, by have := R.dp; omega, by have := R.un; omega⟩
theorem Room.in1 {A : Around} {n : Nat} (R : Room A (n + 1)) : Room A.in1 n := ⟨R.hd, by have := R.dp; show A.depth + n < _; omega, by have := R.un; show A.units + 1 + 8 * n < _; omega⟩
theorem Room.deeper {A : Around} {n : Nat} {env : Env} (R : Room A (n + 1)) : Room (A.deeper env) n := ⟨R.hd, by have := R.dp; show A.depth + 1 + n < _; omega, by have := R.un; show A.units + 3 + 8 * n < _; omega⟩
theorem Room.depth {A : Around} {n : Nat} (R : Room A n) : A.depth < recursionLimit := by have := R.dp; omega
theorem Room.units {A : Around} {n : Nat} (R : Room A n) : A.units < cLine := by have := R.un; omega
theorem Room.none {A : Around} {n : Nat} (R : Room A n) : A.handled = none := R.hd

section
variable {prog : Program} {w : World} {A : Around} {B : Bs} {l l' : Ledger} {s : Shared} {env : Env} {a : Addr} {vs : List Value} {v : Value}

theorem WP.mono {α : Type} {t : Sem α} {Q Q' : α → Shared → Prop} (h : WP prog w A t Q s) (hq : ∀ a s', Q a s' → Q' a s') : WP prog w A t Q' s := wpAny_mono h hq fun _ _ e => e
theorem WP.toE {α : Type} {t : Sem α} {Q : α → Shared → Prop} {E : Value → Shared → Prop} (h : WP prog w A t Q s) : wpAny (model prog w) A t Q E s := wpAny_mono h (fun _ _ q => q) fun _ _ e => e.elim

theorem x_nil {Q : Flow → Shared → Prop} (h : Q .next s) : WP prog w A (execs [] env) Q s := wpAny_execs_nil h
theorem x_cons {st : Stmt} {rest : List Stmt} {Q : Flow → Shared → Prop} (h : WP prog w A (exec st env) (Nx (fun s' => WP prog w A (execs rest env) Q s') Q) s) : WP prog w A (execs (st :: rest) env) Q s :=
  wpAny_execs_cons (WP.mono h fun f s' q => by cases f <;> exact q)
theorem x_one {st : Stmt} {Q : Flow → Shared → Prop} (h : WP prog w A (exec st env) Q s) : WP prog w A (execs [st] env) Q s :=
  x_cons (WP.mono h fun f s' q => by cases f <;> first | exact x_nil q | exact q)

theorem St.isl (H : St prog w B l s) (hm : (a, .ls vs) ∈ l) : s.heap.IsList a vs.toArray := by
  obtain ⟨o, ho, n, rfl⟩ := H.get hm
  exact ⟨_, ho, rfl, n, rfl⟩
theorem St.islw (H : St prog w B l s) (hm : (a, .lw vs) ∈ l) : s.heap.IsList a vs.toArray := by
  obtain ⟨o, ho, hc, n, hd⟩ := H.get hm
  exact ⟨_, ho, hc, n, hd⟩
theorem St.lsx (H : St prog w B l s) (hm : (a, .ls vs) ∈ l) : ∃ n, IsL s.heap a vs.toArray n := by
  obtain ⟨o, ho, n, rfl⟩ := H.get hm
  exact ⟨n, ho⟩
theorem St.weak (H : St prog w B l s) (u : Upd1 a (.ls vs) (.lw vs) l l') : St prog w B l' s := by
  have := H.upd (t := s.toks) (h' := s.heap) u (fun _ _ _ e => e) (by
    obtain ⟨o, ho, n, rfl⟩ := H.get u.mem
    exact ⟨_, ho, rfl, n, rfl⟩)
  exact this
theorem St.dE {kvs : List (Int × Value)} {ep : Nat} (H : St prog w B l s) (hm : (a, .dE kvs ep) ∈ l) : s.heap.DictAt (intKind prog w) a kvs ep := by
  obtain ⟨o, ho, es, r⟩ := H.get hm
  exact ⟨o, es, ho, r⟩
theorem St.dI {kvs : List (Int × Value)} (H : St prog w B l s) (hm : (a, .dI kvs) ∈ l) : s.heap.DictOf (intKind prog w) a kvs := Heap.dictOf_iff.mpr (H.get hm)
theorem St.dEI {kvs : List (Int × Value)} {ep : Nat} (H : St prog w B l s) (hm : (a, .dE kvs ep) ∈ l) : s.heap.DictOf (intKind prog w) a kvs := (H.dE hm).dictOf
/-- an epoch named -/
theorem St.open_dI {kvs : List (Int × Value)} {lf : SO → Ledger} (H : St prog w B l s) (u : ∀ so, Upd1 a (.dI kvs) so l (lf so)) : ∃ ep, St prog w B (lf (.dE kvs ep)) s := by
  obtain ⟨ep, o, es, ho, r⟩ := (H.dI (u (.dI kvs)).mem).dictAt
  have := H.upd (t := s.toks) (h' := s.heap) (u (.dE kvs ep)) (fun _ _ _ e => e) ⟨o, ho, es, r⟩
  exact ⟨ep, this⟩
theorem St.shut_dI {kvs : List (Int × Value)} {ep : Nat} (H : St prog w B l s) (u : Upd1 a (.dE kvs ep) (.dI kvs) l l') : St prog w B l' s := by
  have := H.upd (t := s.toks) (h' := s.heap) u (fun _ _ _ e => e) (Heap.dictOf_iff.mp (H.dEI u.mem))
  exact this
theorem St.dS {kvs : List (Str × Value)} (H : St prog w B l s) (hm : (a, .dS kvs) ∈ l) : s.heap.DictOf (strKind prog w) a kvs := Heap.dictOf_iff.mpr (H.get hm)
theorem St.tp (H : St prog w B l s) (hm : (a, .tp vs) ∈ l) : IsTup s.heap a vs.toArray := by
  obtain ⟨o, ho, n, rfl⟩ := H.get hm
  exact ⟨_, ho, rfl, n, rfl⟩
theorem on_dI {kvs : List (Int × Value)} {h : Heap} (x : h.DictOf (intKind prog w) a kvs) : ∃ o, h.get? a = some o ∧ (SO.dI kvs).on prog w o := Heap.dictOf_iff.mp x
theorem on_dS {kvs : List (Str × Value)} {h : Heap} (x : h.DictOf (strKind prog w) a kvs) : ∃ o, h.get? a = some o ∧ (SO.dS kvs).on prog w o := Heap.dictOf_iff.mp x

/-! ints -/
section
variable {i j : Int} {t u : Tok} {Q : Value → Shared → Prop}
theorem op_add (H : St prog w B l s) (h : ∀ t s', St prog w B l s' → Q (.int (i + j) t) s') : WP prog w A (binaryOp .Add (.int i t) (.int j u)) Q s := PyProof.Rows.add_int (h _ _ (H.tok _))
theorem op_sub (H : St prog w B l s) (h : ∀ t s', St prog w B l s' → Q (.int (i - j) t) s') : WP prog w A (binaryOp .Sub (.int i t) (.int j u)) Q s := PyProof.Rows.sub_int (h _ _ (H.tok _))
theorem op_mul (H : St prog w B l s) (h : ∀ t s', St prog w B l s' → Q (.int (i * j) t) s') (hm : IntMulOk i j := by mul_fits) : WP prog w A (binaryOp .Mult (.int i t) (.int j u)) Q s := PyProof.Rows.mul_int (h _ _ (H.tok _)) hm
theorem op_mod (H : St prog w B l s) (hb : j ≠ 0) (h : ∀ t s', St prog w B l s' → Q (.int (i.fmod j) t) s') : WP prog w A (binaryOp .Mod (.int i t) (.int j u)) Q s := PyProof.Rows.mod_int hb (h _ _ (H.tok _))
theorem op_iadd (H : St prog w B l s) (h : ∀ t s', St prog w B l s' → Q (.int (i + j) t) s') : WP prog w A (inplaceOp .Add (.int i t) (.int j u)) Q s := PyProof.Rows.iadd_int (h _ _ (H.tok _))
theorem op_isub (H : St prog w B l s) (h : ∀ t s', St prog w B l s' → Q (.int (i - j) t) s') : WP prog w A (inplaceOp .Sub (.int i t) (.int j u)) Q s := PyProof.Rows.isub_int (h _ _ (H.tok _))
end

/-! lists -/
theorem sub_list {value slice : Expr} {k : Int} {t : Tok} {Q : Value → Shared → Prop} (hl : s.heap.IsList a vs.toArray) (h0 : 0 ≤ k) (hx : vs[k.toNat]? = some v) (hn : vs.length < 2 ^ 62) (h : Q v s)
    (hs : subscripted slice false (.ref a) (.int k t) = operate [.ref a, .int k t] (getItem (.ref a) (.int k t)) := by with_unfolding_all rfl) : WP prog w A (subscriptTail value slice (.ref a) (.int k t)) Q s := by
  have hlt : k.toNat < vs.length := (List.getElem?_eq_some_iff.mp hx).1
  exact tail_any hl.typeIs slot_list_getitem.lookup (wpAny_getItem_list hl h0 (by omega) (by simpa using hx) h) hs
theorem get_list {k : Int} {t : Tok} {Q : Value → Shared → Prop} (hl : s.heap.IsList a vs.toArray) (h0 : 0 ≤ k) (hx : vs[k.toNat]? = some v) (hn : vs.length < 2 ^ 62) (h : Q v s) : WP prog w A (getItem (.ref a) (.int k t)) Q s := by
  have hlt : k.toNat < vs.length := (List.getElem?_eq_some_iff.mp hx).1
  exact wpAny_getItem_list hl h0 (by omega) (by simpa using hx) h
theorem set_lw {k : Int} {t : Tok} {Q : Unit → Shared → Prop} (H : St prog w B l s) (h0 : 0 ≤ k) (hk : k < vs.length) (hn : vs.length < 2 ^ 62) (u : Upd1 a (.lw vs) (.lw (vs.set k.toNat v)) l l') (h : ∀ s', St prog w B l' s' → Q () s') :
    WP prog w A (setItem (.ref a) (.int k t) v) Q s := by
  refine wpAny_setItem_list (H.islw u.mem) h0 (by omega) (by simpa using hk) fun h' hl hs => h _ (H.same (t := s.toks) u hs ?_)
  obtain ⟨o, ho, hc, n, hd⟩ := hl
  exact ⟨o, ho, hc, n, by rw [hd]; simp⟩
theorem new_list {Q : Value → Shared → Prop} (H : St prog w B l s) (hsz : vs.length ≤ sizeLine) (h : ∀ a s', St prog w B ((a, .ls vs) :: l) s' → Q (.ref a) s') : WP prog w A (newList vs) Q s :=
  wpAny_newObj_type (h _ _ (H.push (t := s.toks) rfl ⟨0, rfl⟩)) (by show vs.toArray.size ≤ sizeLine; rw [List.size_toArray]; exact hsz)
theorem new_tuple {Q : Value → Shared → Prop} (H : St prog w B l s) (hsz : vs.length ≤ sizeLine) (h : ∀ a s', St prog w B ((a, .tp vs) :: l) s' → Q (.ref a) s') : WP prog w A (newTuple vs) Q s :=
  wpAny_newObj_type (h _ _ (H.push (t := s.toks) rfl ⟨0, rfl⟩)) (by show vs.toArray.size ≤ sizeLine; rw [List.size_toArray]; exact hsz)
theorem ev_List {elts : List Expr} {pos : Pos} {Q : Value → Shared → Prop} (h : WP prog w A (spliced (backTo pos (starEach elts env))) (fun vs s₁ => WP prog w A (newList vs) Q s₁) s) : WP prog w A (eval (.List elts pos) env) Q s := List_ h
theorem ev_Tuple {elts : List Expr} {k : Nat} {pos : Pos} {Q : Value → Shared → Prop} (h : WP prog w A (spliced (backTo pos (starEach elts env))) (fun vs s₁ => WP prog w A (newTuple vs) Q s₁) s) : WP prog w A (eval (.Tuple elts k pos) env) Q s := Tuple_ h
theorem sp_nil {pos : Pos} {Q : List Value → Shared → Prop} (h : Q [] s) : WP prog w A (spliced (backTo pos (starEach [] env))) Q s := wpAny_items_nil h
theorem sp_cons {pos : Pos} {e : Expr} {rest : List Expr} {Q : List Value → Shared → Prop} (h : WP prog w A (eval e env) (fun v s₁ => WP prog w A (spliced (backTo pos (starEach rest env))) (fun vs s₂ => Q (v :: vs) s₂) s₁) s)
    (hs : starEach (e :: rest) env = (false, eval e env) :: starEach rest env := by rfl) : WP prog w A (spliced (backTo pos (starEach (e :: rest) env))) Q s := by
  rw [hs]
  exact spliced_cons (x := eval e env) h
theorem len_ {Q : Value → Shared → Prop} (H : St prog w B l s) (hl : s.heap.IsList a vs.toArray) (hn : vs.length < 2 ^ 62) (h : ∀ t s', St prog w B l s' → Q (.int vs.length t) s') : WP prog w A (call (.builtin "len") [.ref a]) Q s := by
  have := h (s.toks + 1) _ (H.tok (s.toks + 1 + 1))
  refine call_len_list hl (by simp; omega) ?_
  simpa using this

/-! calls -/
def Keeps1 (M : Model) (f : Value) (h : Heap) : Prop := ∃ k, (k = Keeper.frame ∨ k = Keeper.machine ∨ k = Keeper.boundFrame) ∧ Looks M h (keeperOf f) k
theorem keeps_blt {id : String} {h : Heap} : Keeps1 (model prog w) (.builtin id) h := ⟨.machine, .inr (.inl rfl), Looks.of_pure rfl⟩
theorem keeps_type {id : String} {h : Heap} : Keeps1 (model prog w) (.type id) h := ⟨.machine, .inr (.inl rfl), Looks.of_pure rfl⟩

theorem call_with {pos : Pos} {f : Value} {first : List Value} {args : List (Bool × Sem Value)} {kws : List (Option Str × Sem Value)} {Q : Value → Shared → Prop} (hplain : (args.any (·.1) || kws.any (·.1.isNone)) = false)
    (h : WP prog w A (evalArgs f true args kws) (fun x s₁ => Keeps1 (model prog w) f s₁.heap ∧ WP prog w A (call f (first ++ x.pos) x.kw) Q s₁) s) : WP prog w A (callWith pos f first args kws) Q s :=
  callWith_of (P := Keeps1 (model prog w) f) hplain (fun _ h => h) h
/-- positional arguments alone -/
theorem call_pos {pos : Pos} {f : Value} {first : List Value} {e : Expr} {r : List Expr} {Q : Value → Shared → Prop}
    (h : WP prog w A (spliced (backTo pos (starEach (e :: r) env))) (fun vs s₁ => Keeps1 (model prog w) f s₁.heap ∧ WP prog w A (call f (first ++ vs)) Q s₁) s) (hplain : ((backTo pos (starEach (e :: r) env)).any (·.1)) = false := by rfl) :
    WP prog w A (callWith pos f first (backTo pos (starEach (e :: r) env)) (backToKw pos (keywordEach [] env))) Q s := by
  refine call_with (by rw [hplain]; rfl) ?_
  have hx : ∃ t r', backTo pos (starEach (e :: r) env) = (false, t) :: r' := by
    cases hq : backTo pos (starEach (e :: r) env) with
    | nil => cases e <;> simp [starEach, backTo] at hq
    | cons x r' =>
      rw [hq] at hplain
      obtain ⟨b, t⟩ := x
      simp only [List.any_cons, Bool.or_eq_false_iff] at hplain
      exact ⟨t, r', by rw [hplain.1]⟩
  obtain ⟨t, r', hx⟩ := hx
  rw [hx] at h ⊢
  exact Calls.evalArgs_plain h
theorem call_pos0 {pos : Pos} {f : Value} {first : List Value} {Q : Value → Shared → Prop} (hk : Keeps1 (model prog w) f s.heap) (h : WP prog w A (call f (first ++ [])) Q s) :
    WP prog w A (callWith pos f first (backTo pos (starEach [] env)) (backToKw pos (keywordEach [] env))) Q s :=
  call_with rfl (evalArgs_nil3 ⟨hk, h⟩)
theorem ev_call_name {id : Str} {p pos : Pos} {args : List Expr} {kws : List Keyword} {Q : Value → Shared → Prop}
    (h : WP prog w A (eval (.Name id p) env) (fun f s₁ => WP prog w A (callWith pos f [] (backTo pos (starEach args env)) (backToKw pos (keywordEach kws env))) Q s₁) s) : WP prog w A (eval (.Call (.Name id p) args kws pos) env) Q s := wpAny_Call_Name_kw h
end

/-! a def of the text -/
structure FnAt (h : Heap) (f : Addr) (qual : Str) (params : Arguments) (body : List Stmt) (scope : Scope) (cl : List (Str × Addr)) (dV kV cdv : Value) : Prop where
  ex : ∃ o name doc pm an ct, h.get? f = some o ∧ o.data = .func (fnX name qual params body scope cl dV kV doc pm an cdv ct)
  code : h.CodeRec cdv qual
theorem FnAt.keeps {h h' : Heap} {f : Addr} {qual : Str} {params : Arguments} {body : List Stmt} {scope : Scope} {cl : List (Str × Addr)} {dV kV cdv : Value} (x : FnAt h f qual params body scope cl dV kV cdv) (hk : ∀ b o, h.get? b = some o → h'.get? b = some o) :
    FnAt h' f qual params body scope cl dV kV cdv := ⟨let ⟨o, n, d, p, an, ct, ho, r⟩ := x.ex; ⟨o, n, d, p, an, ct, hk _ _ ho, r⟩, x.code.keeps hk⟩
theorem FnAt.keeper {prog : Program} {w : World} {h : Heap} {f : Addr} {qual : Str} {params : Arguments} {body : List Stmt} {scope : Scope} {cl : List (Str × Addr)} {dV kV cdv : Value} (x : FnAt h f qual params body scope cl dV kV cdv) : Keeps1 (model prog w) (.ref f) h := by
  obtain ⟨o, n, d, p, an, ct, ho, hd⟩ := x.ex
  exact ⟨.frame, .inl rfl, (Looks.ld (part := none) ho).andThen (by rw [hd]; exact .now)⟩

section
variable {prog : Program} {w : World} {A : Around} {B : Bs} {l l' : Ledger} {s : Shared} {f : Addr} {qual : Str} {params : Arguments} {body : List Stmt} {scope : Scope} {cl : List (Str × Addr)} {dV kV cdv : Value}

/-- a frame's names: the bound ones first -/
def frameOf (binds : List (Str × Value)) (rest : List Str) : List (Str × Option Value) := binds.map (fun p => (p.1, some p.2)) ++ rest.map fun n => (n, none)
theorem frame_keys (binds : List (Str × Value)) (rest : List Str) : (frameOf binds rest).map (·.1) = binds.map (·.1) ++ rest := by
  unfold frameOf
  rw [List.map_append, List.map_map, List.map_map]
  congr 1
  induction rest with
  | nil => rfl
  | cons a r ih => simp only [List.map_cons, ih]; rfl
theorem lookup_none' {α : Type} {x : Str} : ∀ {k : List (Str × α)}, x ∉ k.map (·.1) → k.lookup x = none
  | [], _ => rfl
  | (y, u) :: r, h => by
    simp only [List.map_cons, List.mem_cons, not_or] at h
    have : (x == y) = false := beq_eq_false_iff_ne.mpr h.1
    rw [List.lookup_cons, this]; exact lookup_none' h.2
theorem lookup_mem' {α : Type} {x : Str} {v : α} : ∀ {k : List (Str × α)}, (k.map (·.1)).Nodup → (x, v) ∈ k → k.lookup x = some v
  | (y, u) :: r, nd, h => by
    rw [List.map_cons, List.nodup_cons] at nd
    simp only [List.lookup_cons]
    cases h with
    | head => simp
    | tail _ h =>
      have : (x == y) = false := beq_eq_false_iff_ne.mpr fun e => nd.1 (List.mem_map.mpr ⟨_, h, e⟩)
      rw [this]; exact lookup_mem' nd.2 h
theorem frame_look {binds : List (Str × Value)} {rest : List Str} (nd : (binds.map (·.1) ++ rest).Nodup) (x : Str) : binds.reverse.lookup x = ((frameOf binds rest).lookup x).join := by
  have nb : (binds.map (·.1)).Nodup := (List.nodup_append.mp nd).1
  have nf : ((frameOf binds rest).map (·.1)).Nodup := by rw [frame_keys]; exact nd
  by_cases h : x ∈ binds.map (·.1)
  · obtain ⟨⟨y, v⟩, hp, rfl⟩ := List.mem_map.mp h
    have h1 : binds.reverse.lookup y = some v := lookup_mem' (by rw [List.map_reverse]; exact ((List.reverse_perm _).nodup_iff).mpr nb) (List.mem_reverse.mpr hp)
    have h2 : (frameOf binds rest).lookup y = some (some v) := lookup_mem' nf (List.mem_append_left _ (List.mem_map.mpr ⟨_, hp, rfl⟩))
    show binds.reverse.lookup y = _
    rw [h1]
    show _ = ((frameOf binds rest).lookup y).join
    rw [h2]; rfl
  · have h1 : binds.reverse.lookup x = none := lookup_none' (by rw [List.map_reverse, List.mem_reverse]; exact h)
    rw [h1]
    by_cases h' : x ∈ rest
    · have h2 : (frameOf binds rest).lookup x = some none := lookup_mem' nf (List.mem_append_right _ (List.mem_map.mpr ⟨x, h', rfl⟩))
      rw [h2]; rfl
    · have h2 : (frameOf binds rest).lookup x = none := lookup_none' (by rw [frame_keys]; simp only [List.mem_append, not_or]; exact ⟨h, h'⟩)
      rw [h2]; rfl

def okDef (scope : Scope) (pn rest : List Str) : Bool := pn.all (fun x => decide (scope.names.lookup x = some .local)) && decide (pn ++ rest).Nodup && scope.names.all (fun x => decide (x.2 ≠ .cell)) && decide (scope.kind = .function) && !scope.isCoroutine && !scope.isGenerator
theorem okDef_of {scope : Scope} {pn rest : List Str} (h : okDef scope pn rest = true) : (∀ x ∈ pn, scope.names.lookup x = some .local) ∧ (pn ++ rest).Nodup ∧ (∀ x ∈ scope.names, x.2 ≠ .cell) ∧ scope.kind = .function ∧ scope.isCoroutine = false ∧ scope.isGenerator = false := by
  unfold okDef at h
  simp only [Bool.and_eq_true, List.all_eq_true, decide_eq_true_eq, Bool.not_eq_true'] at h
  obtain ⟨⟨⟨⟨⟨h1, h2⟩, h3⟩, h4⟩, h5⟩, h6⟩ := h
  exact ⟨h1, h2, h3, h4, h5, h6⟩

/-- a call of a def without cells -/
theorem call_def {n : Nat} {pos : List Value} {kw : List (Str × Value)} {Q : Value → Shared → Prop} (pn rest : List Str) (R : Room A (n + 1)) (hlim : B.h.NoLimit) (F : FnAt s.heap f qual params body scope cl dV kV cdv)
    (ok : okDef scope pn rest = true)
    (hb : ∀ name doc pm an ct, WP prog w A.in1 (bindArgs (fnX name qual params body scope cl dV kV doc pm an cdv ct) ⟨pos, kw⟩) (fun binds s₁ => ∃ l₁, St prog w B l₁ s₁ ∧ binds.map (·.1) = pn ∧
      ∀ L s₂, St prog w B ((L, .ns (frameOf binds rest)) :: l₁) s₂ → WP prog w (A.deeper (envX qual scope L f cdv cl)) (execs body (envX qual scope L f cdv cl)) (fun fl s' => Q (retv fl) s') s₂) s) :
    WC prog w A (.ref f) pos kw Q s := by
  obtain ⟨⟨o, name, doc, pm, an, ct, ho, hd⟩, hc⟩ := F
  obtain ⟨hloc, nd, hcell, hk, hco, hgen⟩ := okDef_of ok
  refine codeAny_call_function R.depth ho hd hco hgen rfl hc ?_
  refine wpAny_mono (hb name doc pm an ct) (fun binds s₁ h₁ => ?_) fun _ _ e => e.elim
  obtain ⟨l₁, H₁, hpn, hbody⟩ := h₁
  subst hpn
  refine wpAny_newFunctionEnv hcell (fun x hx => hloc _ (List.mem_map_of_mem hx)) (fun h₂ hns hsb => ?_) hk
  have hk₁ : ∀ b o, s₁.heap.get? b = some o → h₂.get? b = some o := fun b o e => hsb.extBut b o (Nat.ne_of_lt (Heap.lt_size e)) (Heap.get?_push_of_some _ e)
  have H₂ : St prog w B ((s₁.heap.objs.size, .ns (frameOf binds rest)) :: l₁) { s₁ with heap := h₂, toks := s₁.toks + binds.length } := by
    refine H₁.fresh hk₁ (Nat.le_refl _) ?_
    obtain ⟨o, es, ep, ho, hd, hk, hf⟩ := hns
    exact ⟨o, ho, by rw [frame_keys]; exact nd, es, ep, hd, hk, fun n => (hf n).trans (frame_look nd n)⟩
  refine ⟨hlim.keeps H₂.keep, codeAny_func ?_⟩
  refine wpAny_mono (hbody _ _ H₂) (fun fl s' q => ?_) fun _ _ e => e.elim
  cases fl <;> exact q
end

def scopeOk (scope : Scope) (ns csn gs : List Str) : Bool := decide (scope.kind = .function) && ns.all (fun x => decide (scope.names.lookup x = some .local) && !(x == ("__debug__" : Str))) &&
  csn.all (fun x => (decide (scope.names.lookup x = some .cell) || (decide (scope.names.lookup x = some .free) && !(x == ("__classdict__" : Str)))) && !(x == ("__debug__" : Str))) &&
  gs.all (fun x => decide (scope.names.lookup x = some .globalImplicit) && !(x == ("__debug__" : Str))) && decide csn.Nodup
theorem lookup_of_mem {α : Type} {x : Str} {v : α} : ∀ {k : List (Str × α)}, (k.map (·.1)).Nodup → (x, v) ∈ k → k.lookup x = some v
  | (y, u) :: r, nd, h => by
    rw [List.map_cons, List.nodup_cons] at nd
    simp only [List.lookup_cons]
    cases h with
    | head => simp
    | tail _ h =>
      have : (x == y) = false := beq_eq_false_iff_ne.mpr fun e => nd.1 (List.mem_map.mpr ⟨_, h, e⟩)
      rw [this]; exact lookup_of_mem nd.2 h
theorem fm_of {qual : Str} {scope : Scope} {L f : Addr} {cdv : Value} {cl : List (Str × Addr)} {ns csn gs : List Str} (h : scopeOk scope ns csn gs = true) (hc : cl.map (·.1) = csn) : Fm (envX qual scope L f cdv cl) L ns cl gs := by
  unfold scopeOk at h
  simp only [Bool.and_eq_true, List.all_eq_true, decide_eq_true_eq, Bool.or_eq_true, Bool.not_eq_true'] at h
  obtain ⟨⟨⟨⟨h1, h2⟩, h3⟩, h4⟩, h5⟩ := h
  exact ⟨h1, rfl, rfl, rfl, fun x hx => ⟨(h2 x hx).1, (h2 x hx).2⟩, fun p hp => ⟨(h3 p.1 (hc ▸ List.mem_map_of_mem hp)).1, lookup_of_mem (hc ▸ h5) hp, (h3 p.1 (hc ▸ List.mem_map_of_mem hp)).2⟩,
    fun x hx => ⟨(h4 x hx).1, (h4 x hx).2⟩⟩
end Mine

-- MB3
namespace Mine
open PySem PySem.W PySem.Calls PyProof.Rows

theorem stored_new {K : Type} [DecidableEq K] {kvs : List (K × Value)} {k : K} {v : Value} (h : k ∉ kvs.map (·.1)) : stored kvs k v = kvs ++ [(k, v)] := by
  unfold stored
  rw [if_neg]
  simp only [List.any_eq_true, decide_eq_true_eq, not_exists, not_and]
  exact fun p hp e => h (List.mem_map.mpr ⟨p, hp, e⟩)
theorem valueAt_none {K : Type} [DecidableEq K] {kvs : List (K × Value)} {k : K} (h : k ∉ kvs.map (·.1)) : valueAt kvs k = none := by
  unfold valueAt
  have : (kvs.find? fun kv => kv.1 = k) = none := by
    rw [List.find?_eq_none]
    intro p hp
    simp only [decide_eq_true_eq]
    exact fun e => h (List.mem_map.mpr ⟨p, hp, e⟩)
  rw [this]; rfl
theorem valueAt_mem {K : Type} [DecidableEq K] : ∀ {kvs : List (K × Value)} {k : K} {v : Value}, (kvs.map (·.1)).Nodup → (k, v) ∈ kvs → valueAt kvs k = some v
  | p :: r, k, v, nd, h => by
    rw [List.map_cons, List.nodup_cons] at nd
    unfold valueAt
    rw [List.find?_cons]
    cases h with
    | head => simp
    | tail _ h =>
      have : p.1 ≠ k := fun e => nd.1 (List.mem_map.mpr ⟨_, h, e.symm⟩)
      simp only [this, decide_false]
      exact valueAt_mem nd.2 h
theorem mem_of_valueAt {K : Type} [DecidableEq K] {kvs : List (K × Value)} {k : K} {v : Value} (h : valueAt kvs k = some v) : (k, v) ∈ kvs := by
  unfold valueAt at h
  obtain ⟨p, hp, rfl⟩ := Option.map_eq_some_iff.mp h
  have h1 := List.mem_of_find?_eq_some hp
  have h2 := List.find?_some hp
  simp only [decide_eq_true_eq] at h2
  rw [← h2]; exact h1

section
variable {prog : Program} {w : World} {A : Around} {B : Bs} {l l' : Ledger} {s : Shared} {env : Env} {a : Addr} {v : Value}

/-! dicts by int keys -/
section
variable {kvs : List (Int × Value)} {k : Int} {t : Tok}
theorem isI (k : Int) (t : Tok) : (intKind prog w).is k (.int k t) = true := intKind_is prog w k t
theorem isS (k : Str) (t : Tok) : (strKind prog w).is k (.str k t) = true := strKind_is prog w k t
theorem sub_dI {value slice : Expr} {Q : Value → Shared → Prop} (H : St prog w B l s) (hd : s.heap.DictOf (intKind prog w) a kvs) (hv : valueAt kvs k = some v) (h : ∀ s', St prog w B l s' → Q v s')
    (hs : subscripted slice false (.ref a) (.int k t) = operate [.ref a, .int k t] (getItem (.ref a) (.int k t)) := by with_unfolding_all rfl) : WP prog w A (subscriptTail value slice (.ref a) (.int k t)) Q s :=
  tail_any hd.typeIs slot_dict_getitem.lookup (wpAny_getItem_of (isI k t) hd.mapOf hv (h _ (H.tok _))) hs
theorem get_dI {Q : Value → Shared → Prop} (H : St prog w B l s) (hd : s.heap.DictOf (intKind prog w) a kvs) (hv : valueAt kvs k = some v) (h : ∀ s', St prog w B l s' → Q v s') : WP prog w A (getItem (.ref a) (.int k t)) Q s :=
  wpAny_getItem_of (isI k t) hd.mapOf hv (h _ (H.tok _))
theorem in_dI {Q : Value → Shared → Prop} (H : St prog w B l s) (lo : (a == sysModules) = false) (hd : s.heap.DictOf (intKind prog w) a kvs) (h : ∀ s', St prog w B l s' → Q (.bool (valueAt kvs k).isSome) s') : WP prog w A (compareOp .In (.int k t) (.ref a)) Q s :=
  wpAny_in_of (isI k t) lo hd.mapOf (h _ (H.tok _))
theorem notIn_dI {Q : Value → Shared → Prop} (H : St prog w B l s) (lo : (a == sysModules) = false) (hd : s.heap.DictOf (intKind prog w) a kvs) (h : ∀ s', St prog w B l s' → Q (.bool (!(valueAt kvs k).isSome)) s') : WP prog w A (compareOp .NotIn (.int k t) (.ref a)) Q s :=
  wpAny_notIn_of (isI k t) lo hd.mapOf (h _ (H.tok _))
theorem set_dI {Q : Unit → Shared → Prop} (H : St prog w B l s) (hsz : kvs.length ≤ sizeLine) (u : Upd1 a (.dI kvs) (.dI (stored kvs k v)) l l') (h : ∀ s', St prog w B l' s' → Q () s') : WP prog w A (setItem (.ref a) (.int k t) v) Q s :=
  wpAny_setItem_pairs (hsz := hsz) (isI k t) (H.dI u.mem) fun _ hd hs => h _ (H.same u hs (on_dI hd))
end
/-! dicts by str keys -/
section
variable {kvs : List (Str × Value)} {k : Str} {t : Tok}
theorem sub_dS {value slice : Expr} {Q : Value → Shared → Prop} (H : St prog w B l s) (hd : (a, .dS kvs) ∈ l) (hv : valueAt kvs k = some v) (h : ∀ s', St prog w B l s' → Q v s')
    (hs : subscripted slice false (.ref a) (.str k t) = operate [.ref a, .str k t] (getItem (.ref a) (.str k t)) := by with_unfolding_all rfl) : WP prog w A (subscriptTail value slice (.ref a) (.str k t)) Q s :=
  tail_any (H.dS hd).typeIs slot_dict_getitem.lookup (wpAny_getItem_of (isS k t) (H.dS hd).mapOf hv (h _ (H.tok _))) hs
theorem get_dS {Q : Value → Shared → Prop} (H : St prog w B l s) (hd : (a, .dS kvs) ∈ l) (hv : valueAt kvs k = some v) (h : ∀ s', St prog w B l s' → Q v s') : WP prog w A (getItem (.ref a) (.str k t)) Q s :=
  wpAny_getItem_of (isS k t) (H.dS hd).mapOf hv (h _ (H.tok _))
theorem set_dS {Q : Unit → Shared → Prop} (H : St prog w B l s) (hsz : kvs.length ≤ sizeLine) (u : Upd1 a (.dS kvs) (.dS (stored kvs k v)) l l') (h : ∀ s', St prog w B l' s' → Q () s') : WP prog w A (setItem (.ref a) (.str k t) v) Q s :=
  wpAny_setItem_pairs (hsz := hsz) (isS k t) (H.dS u.mem) fun _ hd hs => h _ (H.same u hs (on_dS hd))
end
theorem ev_dictI {pos : Pos} {Q : Value → Shared → Prop} (H : St prog w B l s) (h : ∀ a s', St prog w B ((a, .dI []) :: l) s' → Q (.ref a) s') : WP prog w A (eval (.Dict [] [] pos) env) Q s :=
  wpAny_Dict_empty (h _ _ (H.fresh (t := s.toks) (fun _ _ e => Heap.get?_push_of_some _ e) (Nat.le_refl _) (on_dI (Heap.DictOf.new _))))
theorem ev_dictS {pos : Pos} {Q : Value → Shared → Prop} (H : St prog w B l s) (h : ∀ a s', St prog w B ((a, .dS []) :: l) s' → Q (.ref a) s') : WP prog w A (eval (.Dict [] [] pos) env) Q s :=
  wpAny_Dict_empty (h _ _ (H.fresh (t := s.toks) (fun _ _ e => Heap.get?_push_of_some _ e) (Nat.le_refl _) (on_dS (Heap.DictOf.new _))))

/-! method calls -/
theorem ev_meth {o : Expr} {name : Str} {apos pos : Pos} {args : List Expr} {kws : List Keyword} {Q : Value → Shared → Prop}
    (h : WP prog w A (eval o env) (fun ov s₁ => ∀ pl, WP prog w A (getMethod ov name pl) (fun p s₂ => WP prog w A (callWith pos p.1 p.2 (backTo pos (starEach args env)) (backToKw pos (keywordEach kws env))) Q s₂) s₁) s)
    (hbase : attributeBase o name env (eval o env) = eval o env := by rfl)
    (hform : methodCallForm (args.length + kws.length) (backTo pos (starEach args env)) (backToKw pos (keywordEach kws env)) = true := by rfl)
    (hline : (apos.endLine == pos.line) = true := by rfl) : WP prog w A (eval (.Call (.Attribute o name apos) args kws pos) env) Q s := by
  rw [arm_eval_Call, hbase]
  refine wpAny_bind (WP.mono h fun ov s₁ h₁ => ?_)
  refine wpAny_bind (wpAny_standAt ?_)
  have hpos : methodCallPos true o env apos pos = pure pos := by unfold methodCallPos; simp [hline]
  unfold methodCall
  rw [hform]
  refine wpAny_bind (wpAny_holding (WP.mono (h₁ _) fun p s₂ h₂ => ?_))
  exact wpAny_bind (wpAny_of_eq hpos h₂)

theorem gm_blt {T id : String} {name : Str} {pl : Sem Bool} {ov : Value} {Q : Value × List Value → Shared → Prop} (hT : s.TypeIs ov T) (pa : PlainAttrs T) (slot : Slot T name id) (hty : typeOf (.builtin id) = pure (.type "method_descriptor"))
    (hd : ∀ a, ov = .ref a → ∃ o, s.heap.get? a = some o ∧ o.dict = none) (h : Q (.builtin id, [ov]) s) : WP prog w A (getMethod ov name pl) Q s := getMethod_builtin hT pa slot hty hd h
theorem St.nodict_ls {vs : List Value} (H : St prog w B l s) (hm : (a, .ls vs) ∈ l) : ∀ b, Value.ref a = .ref b → ∃ o, s.heap.get? b = some o ∧ o.dict = none := by
  intro b e; cases e
  obtain ⟨n, ho⟩ := H.lsx hm
  exact ⟨_, ho, rfl⟩

/-! instances -/
theorem look_dS {kvs : List (Str × Value)} {o : Obj} (h : (SO.dS kvs).on prog w o) (name : Str) : lookIn name o = some (valueAt kvs name) := by
  obtain ⟨es, ep, hx, hd, hk, hp, hn⟩ := h
  have hf := hp.find name
  unfold lookIn
  rw [hd]
  dsimp only
  have e : (fun x : DictEntry => (strKind prog w).is name x.key) = fun x => x.key.isStr name := funext fun x => (isStr_of name x.key).symm
  rw [e] at hf
  cases q : es.toList.find? (fun x => x.key.isStr name) with
  | some en => rw [q] at hf; simp at hf ⊢; exact hf
  | none =>
    rw [q] at hf
    have : es.toList.any (fun x => x.refKey) = false := by
      rw [List.any_eq_false]
      intro x hx'
      obtain ⟨k, hk', _⟩ := hk x (Array.mem_toList_iff.mp hx')
      obtain ⟨t, ht⟩ := Value.isStrOf_shape (show Value.isStrOf k x.key = true from hk')
      simp [DictEntry.refKey, ht]
    simp only [this]
    simpa using hf

structure Inst (prog : Program) (w : World) (h : Heap) (x C dx : Addr) (kvs : List (Str × Value)) : Prop where
  at_ : h.get? x = some (instObj C dx)
  od : ∃ o, h.get? dx = some o ∧ (SO.dS kvs).on prog w o
theorem Inst.look {h : Heap} {x C dx : Addr} {kvs : List (Str × Value)} (I : Inst prog w h x C dx kvs) : ∃ o, InstAt h x (instObj C dx) C (some o) ∧ ∀ name, lookIn name o = some (valueAt kvs name) := by
  obtain ⟨o, ho, hs⟩ := I.od
  exact ⟨o, ⟨I.at_, rfl, rfl, ho⟩, look_dS hs⟩
theorem St.inst {x C dx : Addr} {kvs : List (Str × Value)} (H : St prog w B l s) (hx : (x, .raw (instObj C dx)) ∈ l) (hd : (dx, .dS kvs) ∈ l) : Inst prog w s.heap x C dx kvs := by
  obtain ⟨o, ho, e⟩ := H.get hx
  obtain ⟨rfl, _⟩ := e
  exact ⟨ho, H.get hd⟩

section
variable {K : Frag} {x C dx : Addr} {kvs : List (Str × Value)} {name : Str}
/-- what a class says of a name that its instances hold -/
def ownName (K : Frag) (C : Addr) (name : Str) : Bool := plainGet K C name && hasDictIn K C && (match findIn K (.ref C) name with | some attr => noGet K attr | none => false)
theorem at_own {expr : Bool} {Q : Value → Shared → Prop} (H : St prog w B l s) (X : K.In B.h) (I : Inst prog w s.heap x C dx kvs) (hk : ownName K C name = true) (hv : valueAt kvs name = some v) (hh : handedIn v = true) (h : ∀ s', St prog w B l s' → Q v s') :
    WP prog w A (getAttr (.ref x) name expr) Q s := by
  obtain ⟨o, I', hl⟩ := I.look
  unfold ownName at hk
  simp only [Bool.and_eq_true] at hk
  obtain ⟨⟨h1, h2⟩, h3⟩ := hk
  split at h3
  · rename_i attr ha
    exact get_value (X.keeps H.keep) I' (plainGet_of h1).1 (findObj_own h2 ha h3 ((hl name).trans (by rw [hv]))) hh (h _ (H.tok _))
  · cases h3
/-- a property's read: the getter called -/
def propName (K : Frag) (C : Addr) (name : Str) (fget : Addr) : Bool := plainGet K C name && hasDictIn K C && (match findIn K (.ref C) name with
  | some (some (.ref p)) => specialIn K (.ref p) "__get__" == some (some (.builtin "property.__get__")) && takesIn K (.ref p) == some true && (match recIn K p "property" with | some (.ref g :: _) => g == fget | _ => false)
  | _ => false)
theorem at_prop {expr : Bool} {fget : Addr} {Q : Value → Shared → Prop} (H : St prog w B l s) (X : K.In B.h) (I : Inst prog w s.heap x C dx kvs) (hk : propName K C name fget = true)
    (h : ∀ s', St prog w B l s' → WC prog w A.in1 (.ref fget) [.ref x] [] (fun v s₁ => handedIn v = true ∧ Q v s₁) s') : WP prog w A (getAttr (.ref x) name expr) Q s := by
  obtain ⟨o, I', hl⟩ := I.look
  unfold propName at hk
  simp only [Bool.and_eq_true] at hk
  obtain ⟨⟨h1, h2⟩, h3⟩ := hk
  split at h3
  · rename_i p ha
    simp only [Bool.and_eq_true, beq_iff_eq] at h3
    obtain ⟨⟨h3, h4⟩, h5⟩ := h3
    split at h5
    · rename_i g r hp
      have e := beq_iff_eq.mp h5
      subst e
      have X' := X.keeps H.keep
      refine get_bind X' I' (plainGet_of h1).1 (findObj_data (by obtain ⟨cd, hc, _⟩ := any_some h2; rw [hc]; rfl) ha h3 h4) (plainGet_of h1).2 ?_
      refine wpAny_call (prop_get (s := { s with toks := s.toks + 1 }) X' hp ?_)
      have hc := h _ (H.tok (s.toks + 1))
      refine codeAny_mono hc fun r s' q => ?_
      rcases r with e | (u | _ | _ | _) <;> first | exact q.elim | skip
      obtain ⟨q1, q2⟩ := q
      show wpAny _ _ (handedOut _) _ _ _
      rw [handedOut_of q1]; exact wpAny_pure q2
    · cases h5
  · cases h3
end
end
end Mine

-- MB4
namespace Mine
open PySem PySem.W PySem.Calls PyProof.Rows

def soList (a : Addr) (i : Nat) : SO := .pr fun o => o.cls = .type "list_iterator" ∧ o.data = .fields #[.ref a, .int i 0]
def soTup (a : Addr) (i : Nat) : SO := .pr fun o => o.cls = .type "tuple_iterator" ∧ o.data = .fields #[.ref a, .int i 0]
def soRange (n i : Nat) : SO := .raw { cls := .type "range_iterator", dict := none, data := .fields #[rawInt (0 + (i : Nat) * 1), rawInt ((n : Int) - (i : Nat)), rawInt 1], slots := #[] }
def soKeys (d n ep i : Nat) : SO := .pr fun o => o.cls = .type "dict_keyiterator" ∧ o.data = .fields #[.ref d, .int i 0, .int n 0, .int ep 0]
def soVals (d n ep i : Nat) : SO := .pr fun o => o.cls = .type "dict_valueiterator" ∧ o.data = .fields #[.ref d, .int i 0, .int n 0, .int ep 0]
def soItems (d n ep i : Nat) : SO := .pr fun o => ∃ ok ov, o = { cls := .type "dict_itemiterator", dict := none, data := .fields #[.none, .bool false, .ref d, .int i 0, .int n 0, .int ep 0, ok, ov], slots := #[] }

/-- an iterator, as the ledger bears it -/
structure It (prog : Program) (w : World) (A : Around) (B : Bs) (target : Expr) (it : Addr) (n : Nat) (so : Nat → SO) (ok : Ledger → Prop) (P : Nat → Value → Ledger → Prop) : Prop where
  item : ∀ i l s (Q : Value → Shared → Prop), i < n → ok l → St prog w B ((it, so i) :: l) s → (∀ v ex s', P i v ex → St prog w B (ex ++ (it, so (i + 1)) :: l) s' → Q v s') →
    WP prog w A (pyNext (.ref it)) (fun r s₁ => ∃ v, r = some v ∧ WP prog w A (letOwnedTupleGo target (.ref it) v) (fun _ s₂ => Q v s₂) s₁) s
  done : ∀ l s (Q : Shared → Prop), ok l → St prog w B ((it, so n) :: l) s → (∀ s', St prog w B l s' → Q s') → WP prog w A (pyNext (.ref it)) (fun r s₁ => r = none ∧ Q s₁) s

section
variable {prog : Program} {w : World} {A : Around} {B : Bs} {l l' : Ledger} {s : Shared} {env : Env} {a : Addr} {v : Value}

theorem upd_at {it : Addr} {x y : SO} (H : St prog w B ((it, x) :: l) s) {h' : Heap} {t : Nat} (hk : ∀ b o, b ∉ [it] → s.heap.get? b = some o → h'.get? b = some o) (hx : ∃ o, h'.get? it = some o ∧ y.on prog w o) :
    St prog w B ((it, y) :: l) { s with heap := h', toks := t } := H.upd .head (fun b o hb e => hk b o (by simpa using hb) e) hx
theorem gone_at {it : Addr} {x : SO} (H : St prog w B ((it, x) :: l) s) {h' : Heap} {t : Nat} (hk : ∀ b o, b ∉ [it] → s.heap.get? b = some o → h'.get? b = some o) : St prog w B l { s with heap := h', toks := t } := by
  have hnd := H.nd
  rw [List.map_cons, List.nodup_cons] at hnd
  refine ⟨fun b o e => hk b o (fun hb => ?_) (H.keep b o e), fun p hp => ?_, hnd.2, H.os, H.gens⟩
  · have := List.mem_singleton.mp hb
    subst this
    rw [H.no (.head _)] at e; cases e
  · obtain ⟨⟨o, ho, hx⟩, hn⟩ := H.own p (.tail _ hp)
    exact ⟨⟨o, hk _ _ (fun hb => hnd.1 ((List.mem_singleton.mp hb) ▸ List.mem_map.mpr ⟨p, hp, rfl⟩)) ho, hx⟩, hn⟩

theorem It.of {target : Expr} {it : Addr} {fp : List Addr} {n : Nat} {P : Nat → Value → Prop} {S : Nat → Heap → Prop} (W : Walks prog w A it fp [it] n P S) (so : Nat → SO) (ok : Ledger → Prop)
    (h1 : ∀ i l s, ok l → St prog w B ((it, so i) :: l) s → S i s.heap) (h2 : ∀ i h, S i h → ∃ o, h.get? it = some o ∧ (so i).on prog w o)
    (hgo : ∀ i l s v (Q : Unit → Shared → Prop), St prog w B ((it, so i) :: l) s → Q () s → WP prog w A (letOwnedTupleGo target (.ref it) v) Q s) :
    It prog w A B target it n so ok (fun i v ex => P i v ∧ ex = []) where
  item := fun i l s Q hi hok H hQ => by
    refine W.item i s _ _ hi (h1 i l s hok H) fun v h' tk hp hs hk => ⟨v, rfl, ?_⟩
    have H' : St prog w B ((it, so (i + 1)) :: l) { s with heap := h', toks := tk } := upd_at H hk (h2 _ _ hs)
    exact hgo _ _ _ _ _ H' (hQ v [] _ ⟨hp, rfl⟩ H')
  done := fun l s Q hok H hQ => W.done s _ _ (h1 n l s hok H) fun h' tk hk => ⟨rfl, hQ _ (gone_at H hk)⟩

/-- no tuple is let go by these -/
theorem go_pr {target : Expr} {it : Addr} {T : String} {Q : Unit → Shared → Prop} (hT : s.TypeIs (.ref it) T) (hn : (["enumerate", "zip", "dict_itemiterator", "dict_reverseitemiterator", "odict_iterator", "itertools.zip_longest", "itertools.pairwise"].contains T) = false) (h : Q () s) :
    WP prog w A (letOwnedTupleGo target (.ref it) v) Q s := by
  obtain ⟨o, ho, hc⟩ := hT
  unfold letOwnedTupleGo
  split
  · cases v with
    | ref a =>
      refine wpAny_bind (wpAny_load ho ?_)
      rw [hc]
      split
      · rename_i n vs e1 e2
        cases e1
        rw [hn, Bool.false_and]
        exact wpAny_pure h
      · exact wpAny_pure h
    | _ => exact wpAny_pure h
  · cases v with
    | ref a =>
      refine wpAny_bind (wpAny_load ho ?_)
      rw [hc]
      split
      · rename_i n vs e1 e2
        cases e1
        rw [hn, Bool.false_and]
        exact wpAny_pure h
      · exact wpAny_pure h
    | _ => exact wpAny_pure h
  · exact wpAny_pure h

theorem it_list {target : Expr} {it : Addr} {vs : List Value} (hh : A.handled = none) (hne : a ≠ it) (ok : Ledger → Prop) (hok : ∀ l s, ok l → St prog w B l s → s.heap.IsList a vs.toArray) :
    It prog w A B target it vs.length (soList a) ok (fun i v ex => vs[i]? = some v ∧ ex = []) := by
  have W := Walks.list (prog := prog) (w := w) hh it a hne vs.toArray
  have := It.of (B := B) (target := target) W (soList a) ok (fun i l s h H => ⟨let ⟨o, ho, h1, h2⟩ := H.get (.head _); ⟨o, ho, h1, h2⟩, hok l s h H.drop⟩) (fun i h x => let ⟨o, ho, h1, h2⟩ := x.1; ⟨o, ho, h1, h2⟩)
    (fun i l s v Q H q => go_pr (let ⟨o, ho, h1, _⟩ := H.get (.head _); ⟨o, ho, h1⟩) (by decide +kernel) q)
  simpa using this
theorem it_tup {target : Expr} {it : Addr} {vs : List Value} (hh : A.handled = none) (hne : a ≠ it) (ok : Ledger → Prop) (hok : ∀ l s, ok l → St prog w B l s → s.heap.IsTuple a vs.toArray) :
    It prog w A B target it vs.length (soTup a) ok (fun i v ex => vs[i]? = some v ∧ ex = []) := by
  have W := Walks.tuple (prog := prog) (w := w) hh it a hne vs.toArray
  have := It.of (B := B) (target := target) W (soTup a) ok (fun i l s h H => ⟨let ⟨o, ho, h1, h2⟩ := H.get (.head _); ⟨o, ho, h1, h2⟩, hok l s h H.drop⟩) (fun i h x => let ⟨o, ho, h1, h2⟩ := x.1; ⟨o, ho, h1, h2⟩)
    (fun i l s v Q H q => go_pr (let ⟨o, ho, h1, _⟩ := H.get (.head _); ⟨o, ho, h1⟩) (by decide +kernel) q)
  simpa using this
theorem it_range {target : Expr} {it : Addr} {n : Nat} (hh : A.handled = none) : It prog w A B target it n (soRange n) (fun _ => True) (fun i v ex => (∃ t, v = .int i t) ∧ ex = []) := by
  have W := Walks.range (prog := prog) (w := w) hh it 0 1 n
  have := It.of (B := B) (target := target) W (soRange n) (fun _ => True) (fun i l s _ H => by obtain ⟨o, ho, rfl, _⟩ := H.get (.head _); exact ho) (fun i h x => ⟨_, x, rfl, rfl⟩)
    (fun i l s v Q H q => go_pr (by obtain ⟨o, ho, rfl, _⟩ := H.get (.head _); exact ⟨_, ho, rfl⟩) (by decide +kernel) q)
  simpa using this
theorem it_keys {target : Expr} {it : Addr} {kvs : List (Int × Value)} {ep : Nat} (hh : A.handled = none) (hne : a ≠ it) (ok : Ledger → Prop) (hok : ∀ l s, ok l → St prog w B l s → s.heap.DictAt (intKind prog w) a kvs ep) :
    It prog w A B target it kvs.length (soKeys a kvs.length ep) ok (fun i v ex => (∃ k x t, kvs[i]? = some (k, x) ∧ v = .int k t) ∧ ex = []) := by
  have W := Walks.dictKeys (prog := prog) (w := w) (knd := intKind prog w) hh it a hne kvs ep
  have := It.of (B := B) (target := target) W (soKeys a kvs.length ep) ok (fun i l s h H => ⟨let ⟨o, ho, h1, h2⟩ := H.get (.head _); ⟨o, ho, h1, h2⟩, hok l s h H.drop⟩) (fun i h x => let ⟨o, ho, h1, h2⟩ := x.1; ⟨o, ho, h1, h2⟩)
    (fun i l s v Q H q => go_pr (let ⟨o, ho, h1, _⟩ := H.get (.head _); ⟨o, ho, h1⟩) (by decide +kernel) q)
  exact ⟨fun i l s Q hi ho H hQ => this.item i l s Q hi ho H fun v ex s' hp => hQ v ex s' ⟨by
    obtain ⟨⟨k, x, h1, h2⟩, _⟩ := hp
    obtain ⟨t, rfl⟩ := Value.isInt_shape (show Value.isInt k v = true from h2)
    exact ⟨k, x, t, h1, rfl⟩, hp.2⟩, this.done⟩
theorem it_vals {target : Expr} {it : Addr} {kvs : List (Int × Value)} {ep : Nat} (hh : A.handled = none) (hne : a ≠ it) (ok : Ledger → Prop) (hok : ∀ l s, ok l → St prog w B l s → s.heap.DictAt (intKind prog w) a kvs ep) :
    It prog w A B target it kvs.length (soVals a kvs.length ep) ok (fun i v ex => (∃ k, kvs[i]? = some (k, v)) ∧ ex = []) := by
  have W := Walks.dictValues (prog := prog) (w := w) (knd := intKind prog w) hh it a hne kvs ep
  exact It.of (B := B) (target := target) W (soVals a kvs.length ep) ok (fun i l s h H => ⟨let ⟨o, ho, h1, h2⟩ := H.get (.head _); ⟨o, ho, h1, h2⟩, hok l s h H.drop⟩) (fun i h x => let ⟨o, ho, h1, h2⟩ := x.1; ⟨o, ho, h1, h2⟩)
    (fun i l s v Q H q => go_pr (let ⟨o, ho, h1, _⟩ := H.get (.head _); ⟨o, ho, h1⟩) (by decide +kernel) q)
theorem it_items {elts : List Expr} {x1 : Nat} {pos : Pos} {it : Addr} {kvs : List (Int × Value)} {ep : Nat} (hh : A.handled = none) (ok : Ledger → Prop) (hok : ∀ l s, ok l → St prog w B l s → s.heap.DictAt (intKind prog w) a kvs ep) :
    It prog w A B (.Tuple elts x1 pos) it kvs.length (soItems a kvs.length ep) ok (fun i v ex => ∃ k x t q, kvs[i]? = some (k, x) ∧ v = .ref q ∧ ex = [(q, .tp [.int k t, x])]) where
  item := fun i l s Q hi ho H hQ => by
    obtain ⟨o, hit, okk, ov, rfl⟩ := H.get (.head _)
    obtain ⟨⟨k, x⟩, hx⟩ : ∃ p, kvs[i]? = some p := ⟨kvs[i], by simp [hi]⟩
    refine wpAny_pyNext_items_item (knd := intKind prog w) hit (hok l s ho H.drop) hx fun key h' hkey hout htup hsz hk => ⟨_, rfl, ?_⟩
    obtain ⟨t, rfl⟩ := Value.isInt_shape (show Value.isInt k key = true from hkey)
    refine wpAny_letOwnedTupleGo_items hout fun h'' hin hs => ?_
    have hne : s.heap.objs.size ≠ it := Nat.ne_of_gt (H.lt (.head _))
    have H1 : St prog w B ((it, soItems a kvs.length ep (i + 1)) :: l) { s with heap := h'', toks := s.toks } :=
      H.upd .head (fun b o hb e => (hs.2 b hb).trans (hk b o hb e)) ⟨_, hin, _, _, rfl⟩
    refine hQ (.ref s.heap.objs.size) [(s.heap.objs.size, .tp [.int k t, x])] _ ⟨k, x, t, _, hx, rfl, rfl⟩ ?_
    refine ⟨H1.keep, fun p hp => ?_, ?_, H1.os, H1.gens⟩
    · cases hp with
      | head =>
        refine ⟨⟨_, (hs.2 _ hne).trans htup, 0, rfl⟩, ?_⟩
        exact Bs.free_of H.keep (Nat.le_refl _)
      | tail _ hp => exact H1.own p hp
    · show (s.heap.objs.size :: List.map (·.1) ((it, soItems a kvs.length ep (i + 1)) :: l)).Nodup
      rw [List.nodup_cons]
      refine ⟨fun hm => ?_, H1.nd⟩
      obtain ⟨p, hp, e⟩ := List.mem_map.mp hm
      cases hp with
      | head => exact hne e.symm
      | tail _ hp =>
        have := H.lt (x := p.2) (a := p.1) (.tail _ hp)
        rw [e] at this; exact Nat.lt_irrefl _ this
  done := fun l s Q ho H hQ => by
    obtain ⟨o, hit, okk, ov, rfl⟩ := H.get (.head _)
    exact wpAny_pyNext_items_end (knd := intKind prog w) hh hit (hok l s ho H.drop) (by simp) fun h' he => ⟨rfl, hQ _ (gone_at (t := s.toks) H fun b o hb e => he b o (by simpa using hb) e)⟩

/-- a for over an iterator -/
def Turn (J : Nat → Ledger → Prop) (prog : Program) (w : World) (B : Bs) (it : Addr) (so : SO) (i : Nat) (Q : Flow → Shared → Prop) (f : Flow) (s : Shared) : Prop := match f with
  | .next | .cont => ∃ l, J i l ∧ St prog w B ((it, so) :: l) s
  | .brk => Q .next s
  | .ret v => Q (.ret v) s
theorem for_it {target : Expr} {body orelse : List Stmt} {it : Addr} {n : Nat} {so : Nat → SO} {ok : Ledger → Prop} {P : Nat → Value → Ledger → Prop} {Q : Flow → Shared → Prop} (I : It prog w A B target it n so ok P) (J : Nat → Ledger → Prop)
    (hok : ∀ i l, J i l → ok l) (H : St prog w B ((it, so 0) :: l) s) (h0 : J 0 l)
    (turn : ∀ i v ex l s, i < n → P i v ex → J i l → St prog w B (ex ++ (it, so (i + 1)) :: l) s → WP prog w A (assign target env v) (fun _ s₁ => WP prog w A (execs body env) (Turn J prog w B it (so (i + 1)) (i + 1) Q) s₁) s)
    (fin : ∀ l s, J n l → St prog w B l s → WP prog w A (execs orelse env) Q s) :
    codeAny (model prog w) A (.forLoop target (.ref it) body orelse env) (fun r s' => match r with | .ok f => Q f s' | .error e => cameBackBy (model prog w) A env NoE e s') s := by
  refine codeAny_forLoop_any (fun k s => ∃ i l, k = n - i ∧ i ≤ n ∧ J i l ∧ St prog w B ((it, so i) :: l) s) ?_ n ⟨0, l, rfl, Nat.zero_le _, h0, H⟩
  rintro k s ⟨i, l, rfl, hi, hJ, H⟩
  rcases Nat.lt_or_eq_of_le hi with hlt | rfl
  · refine wpAny_mono (I.item i l s (fun v s' => WP prog w A (assign target env v) (fun _ s₁ => WP prog w A (execs body env) (Turn J prog w B it (so (i + 1)) (i + 1) Q) s₁) s') hlt (hok i l hJ) H fun v ex s' hp H' => turn i v ex l s' hlt hp hJ H') (fun r s₁ h => ?_) fun _ _ e => e.elim
    obtain ⟨v, rfl, h⟩ := h
    refine wpAny_mono h (fun _ s₂ h₂ => ?_) fun _ _ e => e.elim
    refine wpAny_mono h₂ (fun _ s₃ h₃ => ?_) fun _ _ e => e.elim
    refine wpAny_mono h₃ (fun f s₄ h₄ => ?_) fun _ _ e => e.elim
    cases f with
    | next => obtain ⟨l', hJ', H'⟩ := h₄; exact ⟨n - (i + 1), by omega, i + 1, l', rfl, hlt, hJ', H'⟩
    | cont => obtain ⟨l', hJ', H'⟩ := h₄; exact ⟨n - (i + 1), by omega, i + 1, l', rfl, hlt, hJ', H'⟩
    | brk => exact h₄
    | ret v => exact h₄
  · refine wpAny_mono (I.done l s (fun s' => WP prog w A (execs orelse env) Q s') (hok _ l hJ) H fun s' H' => fin l s' hJ H') (fun r s₁ h => ?_) fun _ _ e => e.elim
    obtain ⟨rfl, h⟩ := h
    exact wpAny_mono h (fun _ _ q => q) fun _ _ e => e.elim

/-! iterators made -/
theorem iter_list {vs : List Value} {Q : Value → Shared → Prop} (H : St prog w B l s) (hl : s.heap.IsList a vs.toArray) (h : ∀ it s', a ≠ it → St prog w B ((it, soList a 0) :: l) s' → Q (.ref it) s') : WP prog w A (pyIter (.ref a)) Q s := by
  refine wpAny_pyIter_list hl (h _ _ ?_ (H.push (t := s.toks) rfl ⟨rfl, rfl⟩))
  obtain ⟨o, ho, _⟩ := hl
  exact Nat.ne_of_lt (Heap.lt_size ho)
theorem iter_keys {kvs : List (Int × Value)} {ep : Nat} {Q : Value → Shared → Prop} (H : St prog w B l s) (lo : (a == sysModules) = false) (hd : s.heap.DictAt (intKind prog w) a kvs ep) (h : ∀ it s', a ≠ it → St prog w B ((it, soKeys a kvs.length ep 0) :: l) s' → Q (.ref it) s') : WP prog w A (pyIter (.ref a)) Q s :=
  wpAny_pyIter_dict lo hd (h _ _ (Nat.ne_of_lt hd.lt_size) (H.push (t := s.toks) rfl ⟨rfl, rfl⟩))
end
end Mine

-- MB5
namespace Mine
open PySem PySem.W PySem.Calls PyProof.Rows Builtin Builtin.ObjectAttr

section
variable {prog : Program} {w : World} {A : Around} {B : Bs} {l l' : Ledger} {s : Shared} {env : Env} {a : Addr} {v : Value} {K : Frag} {x C dx f : Addr} {kvs : List (Str × Value)} {name : Str}

def methName (K : Frag) (C : Addr) (name : Str) (f : Addr) : Bool := plainGet K C name && findIn K (.ref C) name == some (some (.ref f)) && isFn K (.ref f)
theorem methName_of (h : methName K C name f = true) : plainGet K C name = true ∧ findIn K (.ref C) name = some (some (.ref f)) ∧ isFn K (.ref f) = true := by
  unfold methName at h
  simp only [Bool.and_eq_true, beq_iff_eq] at h
  exact ⟨h.1.1, h.1.2, h.2⟩
theorem gm_inst {pl : Sem Bool} {Q : Value × List Value → Shared → Prop} (X : K.In s.heap) (I : Inst prog w s.heap x C dx kvs) (hk : methName K C name f = true) (hv : valueAt kvs name = none) (h : Q (.ref f, [.ref x]) s) : WP prog w A (getMethod (.ref x) name pl) Q s := by
  obtain ⟨o, I', hl⟩ := I.look
  obtain ⟨h1, h2, h3⟩ := methName_of hk
  exact method_fn X I' (plainGet_of h1).1 (plainGet_of h1).2 h2 (beq_iff_eq.mp h3) (by show (lookIn name o).map _ = _; rw [hl, hv]; rfl) h

/-- a method's object, bound: where the call bears a star -/
theorem at_bound {expr : Bool} {Q : Value → Shared → Prop} (H : St prog w B l s) (X : K.In B.h) (I : Inst prog w s.heap x C dx kvs) (hk : methName K C name f = true) (hv : valueAt kvs name = none)
    (ht : specialIn K (.ref f) "__get__" = some (some (.builtin "function.__get__"))) (htk : takesIn K (.ref f) = some false) (hh : hasDictIn K C = true) (hc : copiedNames.contains name = false)
    (h : ∀ q s', St prog w B ((q, .raw (methodObj (.ref f) (.ref x))) :: l) s' → Q (.ref q) s') : WP prog w A (getAttr (.ref x) name expr) Q s := by
  obtain ⟨o, I', hl⟩ := I.look
  obtain ⟨h1, h2, h3⟩ := methName_of hk
  have X' := X.keeps H.keep
  have hf : findObj K C (some o) name = some (.bind (.builtin "function.__get__") (.ref f)) := by
    obtain ⟨cd, hcd, hd⟩ := any_some hh
    have ho : PySem.W.ownOf cd (some o) name = some none := by unfold PySem.W.ownOf; rw [if_pos hd]; exact (hl name).trans (by rw [hv])
    unfold findObj
    rw [hcd, Option.bind_some, h2, Option.bind_some]
    simp only [ht, Option.bind_some, htk, ho, hc, Bool.false_and, Bool.false_eq_true, if_false]
  refine get_bind X' I' (plainGet_of h1).1 hf (plainGet_of h1).2 ?_
  refine wpAny_call (fn_get (s := { s with toks := s.toks + 1 }) X' (beq_iff_eq.mp h3) ?_)
  show wpAny _ _ (handedOut _) _ _ _
  exact wpAny_pure (h _ _ (H.push (t := s.toks + 1) rfl ⟨rfl, rfl⟩))
theorem call_bound {q : Addr} {self : Value} {pos : List Value} {kw : List (Str × Value)} {Q : Value → Shared → Prop} (hq : s.heap.get? q = some (methodObj (.ref f) self)) (h : WC prog w A (.ref f) (self :: pos) kw Q s) : WC prog w A (.ref q) pos kw Q s :=
  method_call hq h
theorem St.raw {o : Obj} (H : St prog w B l s) (hm : (a, .raw o) ∈ l) : s.heap.get? a = some o := by
  obtain ⟨o', ho, rfl, _⟩ := H.get hm
  exact ho

/-- an own class called -/
theorem Room.make {n : Nat} (R : Room A (n + 1)) {C : Addr} {pos : List Value} {kw : List (Str × Value)} : Room (A.under (.builtin "type.__call__" ⟨.ref C :: pos, kw⟩)) n := by
  refine ⟨R.hd, ?_, ?_⟩
  · have := R.dp
    show A.depth + 1 + n < _
    omega
  · have := R.un
    show A.units + (1 + 3 * 0) + 8 * n < _
    omega
theorem call_cls {fI : Addr} {pos : List Value} {kw : List (Str × Value)} {Q : Value → Shared → Prop} (H : St prog w B l s) (X : K.In B.h) (hm : makesIn K C = true) (hi : findIn K (.ref C) "__init__" = some (some (.ref fI))) (hf : isFn K (.ref fI) = true)
    (h : ∀ x dx s', St prog w B ((x, .raw (instObj C dx)) :: (dx, .dS []) :: l) s' → WC prog w (A.under (.builtin "type.__call__" ⟨.ref C :: pos, kw⟩)) (.ref fI) (.ref x :: pos) kw (fun v s'' => v = .none ∧ Q (.ref x) s'') s') : WC prog w A (.ref C) pos kw Q s := by
  have X' := X.keeps H.keep
  obtain ⟨hh, g, d, t, os⟩ := s
  refine make_core (makes_of X' hm) (looks_findIn X' hi) (fun self => bind_fn X' self (beq_iff_eq.mp hf)) (.inl rfl) ?_
  have H1 : St prog w B ((hh.objs.size, .dS []) :: l) ⟨hh.push emptyDict, g, d, t, os⟩ := H.fresh (t := t) (fun _ _ e => Heap.get?_push_of_some _ e) (Nat.le_refl _) (on_dS (Heap.DictOf.new _))
  have H2 := H1.push (o := instObj C hh.objs.size) (t := t) (x := .raw (instObj C hh.objs.size)) rfl ⟨rfl, rfl⟩
  have e : (hh.push emptyDict).objs.size = hh.objs.size + 1 := Heap.size_push ..
  have H3 : St prog w B ((hh.objs.size + 1, .raw (instObj C hh.objs.size)) :: (hh.objs.size, .dS []) :: l) ⟨(hh.push emptyDict).push (instObj C hh.objs.size), g, d, t, os⟩ := e ▸ H2
  refine codeAny_mono (h _ _ _ H3) fun r s' q => ?_
  rcases r with e | (u | _ | _ | _) <;> first | exact q.elim | exact q

/-- a field of an object stored, the first time -/
theorem putName_new {o : Obj} {t : Tok} (h : (SO.dS kvs).on prog w o) (hn : name ∉ kvs.map (·.1)) : (SO.dS (kvs ++ [(name, v)])).on prog w (Obj.putName name (PyData.keyHash w.params name) (.str name t) v o) ∧ ∃ es n, o = dictOf es n ∧ es.length = kvs.length := by
  obtain ⟨es, ep, hx, hd, hk, hp, nd⟩ := h
  obtain ⟨oc, od, oda, osl⟩ := o
  obtain ⟨h1, h2, h3⟩ := hx
  dsimp only at h1 h2 h3 hd
  subst h1 h2 h3 hd
  have e : (⟨.type "dict", none, .dict es ep, #[]⟩ : Obj) = dictOf es.toList ep := rfl
  refine ⟨?_, es.toList, ep, rfl, hp.length⟩
  have hno : ∀ e ∈ es.toList, e.key.isStr name = false := by
    intro e he
    have hf := hp.find name
    have hnone := valueAt_none hn
    cases q : e.key.isStr name with
    | false => rfl
    | true =>
      have : (es.toList.find? fun e => (strKind prog w).is name e.key) ≠ none := by
        intro hh
        rw [List.find?_eq_none] at hh
        exact hh e he (by show Value.isStrOf name e.key = true; rw [← isStr_of]; exact q)
      rw [hnone] at hf
      cases z : es.toList.find? fun e => (strKind prog w).is name e.key with
      | none => exact absurd z this
      | some e' => rw [z] at hf; cases hf
  have put : ∀ es : List DictEntry, (∀ e ∈ es, e.key.isStr name = false) → putL name (PyData.keyHash w.params name) (.str name t) v es = es ++ [⟨PyData.keyHash w.params name, .str name t, v⟩] := by
    intro es
    induction es with
    | nil => intro _; rfl
    | cons e r ih =>
      intro h
      unfold putL
      rw [h e (.head _), ih fun e he => h e (.tail _ he)]
      rfl
  rw [e, putName_dict, put _ hno]
  refine ⟨_, _, ⟨rfl, rfl, rfl⟩, rfl, ?_, ?_, ?_⟩
  · intro e he
    simp only [List.mem_toArray, List.mem_append, List.mem_singleton] at he
    rcases he with he | rfl
    · exact hk e (Array.mem_toList_iff.mp he)
    · exact ⟨name, isS name t, rfl⟩
  · exact hp.append (isS name t) _ v
  · rw [List.map_append, List.nodup_append]
    exact ⟨nd, by simp, fun a ha b hb => by simp at hb; subst hb; exact fun e => hn (e ▸ ha)⟩

theorem putL_len (name : Str) (hsh : Int) (key v : Value) : ∀ es : List DictEntry, (putL name hsh key v es).length ≤ es.length + 1
  | [] => by simp [putL]
  | e :: r => by
    have := putL_len name hsh key v r
    unfold putL; split <;> simp <;> omega

def storeName_ok (K : Frag) (C : Addr) (name : Str) : Bool := findIn K (.ref C) "__setattr__" == some (some (.builtin "object.__setattr__")) && plainOver K C && takerIn K C name == some none && hasDictIn K C
theorem set_attr {Q : Unit → Shared → Prop} (H : St prog w B l s) (X : K.In B.h) (hx : (x, .raw (instObj C dx)) ∈ l) (hk : storeName_ok K C name = true) (hn : name ∉ kvs.map (·.1)) (hz : kvs.length ≤ 100) (u : Upd1 dx (.dS kvs) (.dS (kvs ++ [(name, v)])) l l')
    (h : ∀ s', St prog w B l' s' → Q () s') : WP prog w A (setAttr (.ref x) name v) Q s := by
  unfold storeName_ok at hk
  simp only [Bool.and_eq_true, beq_iff_eq] at hk
  obtain ⟨⟨⟨hs, hp⟩, ht⟩, hh⟩ := hk
  have X' := X.keeps H.keep
  have I := H.inst hx u.mem
  obtain ⟨od, hod, hon⟩ := I.od
  have I' : InstAt s.heap x (instObj C dx) C (some od) := ⟨I.at_, rfl, rfl, hod⟩
  refine set_plain X' I' hs ?_
  refine osa_open (s := { s with toks := s.toks + 1 }) X' I' hp ht fun b => ?_
  obtain ⟨cd, hc, hd'⟩ := any_some hh
  have D : s.heap.get? dx = some od := hod
  refine wpAny_bind (wpAny_pure (wpAny_bind (wpAny_bind (wpAny_loadPart I.at_ (wpAny_bind (Looks.here (s := { s with toks := s.toks + 1 }) (looks_clsIn X' hc) ?_))))))
  rw [hd']
  refine wpAny_pure (a := some dx) (wpAny_bind (wpAny_pure (wpAny_bind ?_)))
  unfold nsSet
  refine wpAny_bind (wpAny_bind (wpAny_askSetting (wpAny_pure (wpAny_bind (wpAny_mkText (wpAny_bind (wpAny_loadPart D ?_)))))))
  obtain ⟨P1, es, n, rfl, hlen⟩ := putName_new (t := s.toks + 1) (v := v) hon hn
  dsimp only
  have c : (!es.toArray.any (·.key.isStr name) && es.toArray.any (·.refKey)) = false := by
    have hl := look_dS hon name
    rw [lookIn_dict] at hl
    unfold getL at hl
    rw [← Array.any_toList, ← Array.any_toList]
    show (!es.any (·.key.isStr name) && es.any (·.refKey)) = false
    split at hl
    · rename_i en he
      rw [List.any_eq_true.mpr ⟨en, List.mem_of_find?_eq_some he, List.find?_some he⟩]; rfl
    · split at hl
      · cases hl
      · rename_i z; rw [Bool.not_eq_true] at z; rw [z, Bool.and_false]
  rw [aRefKeyMayBeTheName_at, c]
  refine wpAny_updatePart D ?_
  have hfree : (Obj.putName name (PyData.keyHash w.params name) (.str name (s.toks + 1)) v (dictOf es n)).isFreed = false := by rw [putName_dict]; rfl
  have D' : (s.heap.update dx (Obj.putName name (PyData.keyHash w.params name) (.str name (s.toks + 1)) v)).get? dx = some (Obj.putName name (PyData.keyHash w.params name) (.str name (s.toks + 1)) v (dictOf es n)) := Heap.get?_update_self _ D hfree
  refine wpAny_bind (wpAny_lookBehind D' (by
    rw [putName_dict]
    refine pastItsLine_dict ?_
    rw [List.size_toArray, sizeLine_eq]
    have := putL_len name (PyData.keyHash w.params name) (Value.str name (s.toks + 1)) v es
    omega) ?_)
  exact wpAny_pure (h _ (H.same (t := s.toks + 1 + 1) u (Heap.SameBut.update ..) ⟨_, D', P1⟩))
end
end Mine

-- MB6
namespace Mine
open PySem PySem.W PySem.Calls PyProof.Rows Builtin Builtin.ObjectAttr

def clsOk (K : Frag) (C : Addr) : Bool := (clsIn K C).isSome && typeIn K (.ref C) == some (.type "type")
section
variable {prog : Program} {w : World} {A : Around} {B : Bs} {l l' : Ledger} {s : Shared} {env : Env} {a : Addr} {v : Value} {K : Frag} {x C dx f : Addr} {kvs : List (Str × Value)} {name : Str}

theorem isType_cls {h : Heap} {M : Model} (X : K.In h) (hc : clsOk K C = true) : Looks M h (isType (.ref C)) true := by
  unfold clsOk at hc
  obtain ⟨e1, _⟩ := Bool.and_eq_true_iff.mp hc
  unfold clsIn at e1
  split at e1
  · rename_i c' d' cd' sl' ho
    intro A' Q' E' s' k q
    unfold isType loadHead
    exact wpAny_bind (wpAny_loadPart (k _ _ (X _ _ ho)) (wpAny_pure q))
  · cases e1
theorem none_nested {dep : Int} {tk : Tok} {h : Heap} {g : Array GenState} {d : Drawn} {t : Nat} {os : OsState} {E : Value → Shared → Prop} {Q : Fin → Shared → Prop} (X : K.In h) (hc : clsOk K C = true) (hs : subIn K (.type "NoneType") (.ref C) = some false)
    (q : Q (.done (.ret (.bool false))) ⟨h, g, d, t + 1, os⟩) : wpAny (model prog w) A (Builtin.«isinstance.nested» ⟨[.none, .ref C, .int dep tk], []⟩) Q E ⟨h, g, d, t, os⟩ := by
  have L1 : Looks (model prog w) h (typeOf (.ref C)) (.type "type") := looks_typeIn X (beq_iff_eq.mp (Bool.and_eq_true_iff.mp hc).2)
  have L2 : Looks (model prog w) h (isSubtype (.type "NoneType") (.ref C)) false := looks_subIn X hs
  have L3 : Looks (model prog w) h (isInstance .none (.ref C)) false := (Looks.of_pure (r := Value.type "NoneType") rfl).andThen L2
  unfold Builtin.«isinstance.nested»
  refine wpAny_bind (wpAny_of_eq (a := Value.type "NoneType") rfl ?_)
  rw [if_neg (by simp)]
  refine wpAny_bind (L1.at ?_)
  rw [if_pos (by decide)]
  k_delta "plainIsInstance"
  refine wpAny_bind (wpAny_bind ((isType_cls X hc).at ?_))
  simp only [Bool.not_true, Bool.false_eq_true, if_false]
  refine wpAny_bind (L3.at ?_)
  simp only [Bool.false_eq_true, if_false]
  refine wpAny_bind (class_attr_none ?_)
  refine wpAny_bind (wpAny_of_eq (a := true) rfl ?_)
  simp only [Bool.not_true, Bool.false_eq_true, if_false]
  refine wpAny_bind (wpAny_rule ?_)
  refine L2.at ?_
  first
    | exact wpAny_pure q
    | exact wpAny_pure (wpAny_pure q)
    | exact wpAny_bind (wpAny_pure (wpAny_pure q))
theorem isi_none {Q : Value → Shared → Prop} (H : St prog w B l s) (X : K.In B.h) (hc : clsOk K C = true) (hs : subIn K (.type "NoneType") (.ref C) = some false) (h : ∀ s', St prog w B l s' → Q (.bool false) s') :
    WP prog w A (call (.builtin "isinstance") [.none, .ref C]) Q s :=
  call_isinstance (S := fun _ R s => K.In s.heap ∧ R (.ok (.ret (.bool false))) { s with toks := s.toks + 1 }) (fun _ _ _ _ _ hs' => isinstance_outer (none_nested hs'.1 hc hs hs'.2) (by intro q; cases q)) ⟨X.keeps H.keep, h _ (H.tok _)⟩
theorem isi_bool {b : Bool} {Q : Value → Shared → Prop} (h : Q (.bool true) s) : WP prog w A (call (.builtin "isinstance") [.bool b, .type "bool"]) Q s :=
  call_isinstance_yes (Tx := "bool") rfl F.isi_meta_bool F.isi_self_bool h

/-- `in` upon an own object -/
theorem contains_inst {Q : Bool → Shared → Prop} (X : K.In s.heap) (I : Inst prog w s.heap x C dx kvs) (hs : findIn K (.ref C) "__contains__" = some (some (.ref f))) (hf : isFn K (.ref f) = true)
    (h : WP prog w A (call (.ref f) [.ref x, v]) (fun r s' => WP prog w A (truthy r) Q s') s) : WP prog w A (contains (.ref x) v) Q s := by
  obtain ⟨o, I', _⟩ := I.look
  unfold contains
  refine wpAny_holding (wpAny_bind (wpAny_bind (I'.type.here ((looks_findIn X hs).here ?_))))
  rw [if_neg (by simp)]
  exact wpAny_bind (unlessNone_K X I' hs hf h)
theorem in_inst {Q : Value → Shared → Prop} (X : K.In s.heap) (I : Inst prog w s.heap x C dx kvs) (hs : findIn K (.ref C) "__contains__" = some (some (.ref f))) (hf : isFn K (.ref f) = true)
    (h : WP prog w A (call (.ref f) [.ref x, v]) (fun r s' => WP prog w A (truthy r) (fun b => Q (.bool b)) s') s) : WP prog w A (compareOp .In v (.ref x)) Q s :=
  wpAny_bind (contains_inst X I hs hf (WP.mono h fun _ _ z => WP.mono z fun _ _ z => wpAny_pure z))
theorem notIn_inst {Q : Value → Shared → Prop} (X : K.In s.heap) (I : Inst prog w s.heap x C dx kvs) (hs : findIn K (.ref C) "__contains__" = some (some (.ref f))) (hf : isFn K (.ref f) = true)
    (h : WP prog w A (call (.ref f) [.ref x, v]) (fun r s' => WP prog w A (truthy r) (fun b => Q (.bool (!b))) s') s) : WP prog w A (compareOp .NotIn v (.ref x)) Q s :=
  wpAny_bind (contains_inst X I hs hf (WP.mono h fun _ _ z => WP.mono z fun _ _ z => wpAny_pure z))
/-- `x[i]` upon an own object -/
theorem sub_inst {value slice : Expr} {i : Value} {Q : Value → Shared → Prop} (X : K.In s.heap) (I : Inst prog w s.heap x C dx kvs) (hs : findIn K (.ref C) "__getitem__" = some (some (.ref f))) (hf : fnIn K f = true) (hfn : isFn K (.ref f) = true)
    (h : WP prog w A.in1 (call (.ref f) [.ref x, i]) Q s)
    (hsl : subscripted slice true (.ref x) i = runValue (.builtin "lifetime.subscript" ⟨[.ref x, i], []⟩) := by with_unfolding_all rfl) : WP prog w A (subscriptTail value slice (.ref x) i) Q s := by
  obtain ⟨o, I', _⟩ := I.look
  unfold fnIn at hf
  split at hf
  · rename_i e
    unfold subscriptTail getitemInPython
    refine wpAny_bind (wpAny_bind (wpAny_bind (I'.type.here ((looks_findIn X hs).here ?_))))
    dsimp only
    refine wpAny_bind (wpAny_load (X _ _ e) (wpAny_pure ?_))
    dsimp only
    rw [hsl]
    refine wpAny_bind (wpAny_runValue (codeAny_builtin entry_sub ?_))
    unfold Builtin.«lifetime.subscript»
    refine wpAny_bind (special_fn X I' hs (beq_iff_eq.mp hfn) (WP.mono h fun v s' z => ?_))
    refine wpAny_pure ?_
    show wpAny (model prog w) A (letTemporaryGo value (.ref x) v >>= fun _ => pure v) Q NoE s'
    exact wpAny_bind (wpAny_letTemporaryGo (wpAny_pure z))
  · cases hf

/-! `**attr` of an empty dict -/
theorem keywordsIn_nil {d : Addr} {fv : Value} {Q : List (Str × Value) → Shared → Prop} (hd : s.heap.DictOf (strKind prog w) d []) (h : Q [] s) : WP prog w A (keywordsIn fv d) Q s := by
  obtain ⟨o, es, ep, ho, hc, hda, hk, hp, hn⟩ := hd
  have he : es = #[] := by have := hp.length; exact Array.eq_empty_of_size_eq_zero (by simpa using this)
  subst he
  unfold keywordsIn
  refine wpAny_bind (wpAny_dictEntries ho hda ?_)
  exact wpAny_bind (wpAny_pure (wpAny_pure h))
theorem merge_nil {d m : Addr} {uniq : Bool} {Q : Unit → Shared → Prop} (hd : s.heap.DictOf (strKind prog w) d []) (hm : s.heap.DictOf (strKind prog w) m []) (lo : (m == sysModules) = false) (h : Q () s) : WP prog w A (mergeMapping d (.ref m) uniq) Q s := by
  obtain ⟨o, es, ep, ho, hc, hda, hk, hp, hn⟩ := id hm
  have he : es = #[] := by have := hp.length; exact Array.eq_empty_of_size_eq_zero (by simpa using this)
  subst he
  obtain ⟨o2, es2, ep2, ho2, hc2, hda2, hk2, hp2, hn2⟩ := id hd
  have he2 : es2 = #[] := by have := hp2.length; exact Array.eq_empty_of_size_eq_zero (by simpa using this)
  subst he2
  unfold mergeMapping
  have hT : s.TypeIs (.ref m) "dict" := ⟨_, ho, hc.1⟩
  refine wpAny_bind (wpAny_isInstance (T := "dict") (b := true) hT (by rw [isSubtype_type]; kernel_rfl) ?_)
  dsimp only
  rw [if_pos rfl]
  refine wpAny_bind (wpAny_specialOf hT F.slot_dict_iter.lookup ?_)
  refine wpAny_bind (wpAny_pure ?_)
  simp only [beq_self_eq_true]
  rw [lo]
  simp only [Bool.false_eq_true, if_false]
  refine wpAny_bind (wpAny_dictEntries ho2 hda2 ?_)
  simp only [Array.isEmpty_empty, if_true]
  refine wpAny_bind (wpAny_dictEntries ho hda ?_)
  refine wpAny_bind (wpAny_pure ?_)
  refine wpAny_bind (wpAny_dictEntries ho hda ?_)
  refine wpAny_bind (wpAny_dictEpoch ho hda ?_)
  exact wpAny_pure h
end
end Mine

-- MB7
namespace Mine
open PySem PySem.W PySem.Calls PyProof.Rows Builtin Builtin.ObjectAttr

section
variable {prog : Program} {w : World} {A : Around} {B : Bs} {l l' : Ledger} {s : Shared} {env : Env} {a : Addr} {v : Value} {K : Frag} {x C dx f : Addr} {kvs : List (Str × Value)} {name : Str}

theorem merged_star {fv : Value} {t : Sem Value} {Q : Addr → Shared → Prop} (H : St prog w B l s)
    (h : ∀ d s₁, St prog w B ((d, .dS []) :: l) s₁ → WP prog w A t (fun mv s₂ => ∃ m l₂, mv = .ref m ∧ (m == sysModules) = false ∧ St prog w B l₂ s₂ ∧ (m, .dS []) ∈ l₂ ∧ (d, .dS []) ∈ l₂ ∧ Q d s₂) s₁) :
    WP prog w A (mergedKeywords fv [(none, t)]) Q s := by
  unfold mergedKeywords
  refine wpAny_bind (wpAny_alloc ?_)
  have H1 : St prog w B ((s.heap.objs.size, .dS []) :: l) { s with heap := s.heap.push { cls := .type "dict", data := .dict #[] } } := H.fresh (t := s.toks) (fun _ _ e => Heap.get?_push_of_some _ e) (Nat.le_refl _) (on_dS (Heap.DictOf.new _))
  refine wpAny_bind (wpAny_holding ?_)
  dsimp only
  rw [List.forIn_cons]
  refine wpAny_bind (wpAny_bind ?_)
  dsimp only
  refine wpAny_bind ?_
  rw [if_pos (show ([] : List (Str × Sem Value)).isEmpty = true from rfl)]
  refine wpAny_pure ?_
  refine wpAny_bind (WP.mono (h _ _ H1) fun mv s₂ h₂ => ?_)
  obtain ⟨m, l₂, rfl, lo, H₂, hm, hd, hq⟩ := h₂
  refine wpAny_bind (wpAny_onRaise (wpAny_holding (wpAny_tryCatch (wpAny_onRaise (WP.toE (merge_nil (H₂.dS hd) (H₂.dS hm) lo ?_))))))
  refine wpAny_pure ?_
  dsimp only
  rw [List.forIn_nil]
  refine wpAny_pure ?_
  rw [if_pos (show ([] : List (Str × Sem Value)).isEmpty = true from rfl)]
  exact wpAny_pure (wpAny_pure hq)

/-- one argument and `**attr`, the dict empty -/
theorem call_star1 {pos kp : Pos} {e ke : Expr} {fv : Value} {first : List Value} {Q : Value → Shared → Prop}
    (h : WP prog w A (eval e env) (fun v s₁ => ∃ l₁, St prog w B l₁ s₁ ∧ ∀ d s₂, St prog w B ((d, .dS []) :: l₁) s₂ → WP prog w A (eval ke env) (fun mv s₃ => ∃ m l₃, mv = .ref m ∧ (m == sysModules) = false ∧ St prog w B l₃ s₃ ∧ (m, .dS []) ∈ l₃ ∧ (d, .dS []) ∈ l₃ ∧
      Keeps1 (model prog w) fv s₃.heap ∧ WP prog w A (call fv (first ++ [v]) []) Q s₃) s₂) s) (he : starEach [e] env = [(false, eval e env)] := by rfl) :
    WP prog w A (callWith pos fv first (backTo pos (starEach [e] env)) (backToKw pos (keywordEach [⟨none, ke, kp⟩] env))) Q s := by
  rw [he]
  show WP prog w A (callWith pos fv first [(false, eval e env)] [(none, do let v ← eval ke env; standAt pos; pure v)]) Q s
  unfold callWith
  refine wpAny_bind (wpAny_holding ?_)
  unfold evalArgs
  show wpAny (model prog w) A (spliced [(false, eval e env)] >>= _) _ _ s
  refine wpAny_bind (spliced_cons (WP.mono h fun v s₁ h₁ => ?_))
  obtain ⟨l₁, H₁, h₂⟩ := h₁
  refine spliced_nil (wpAny_bind (wpAny_pure (wpAny_holding ?_)))
  dsimp only
  rw [if_neg (by simp)]
  refine wpAny_bind (WP.mono (merged_star (Q := fun d s₃ => ∃ l₃, St prog w B l₃ s₃ ∧ (d, .dS []) ∈ l₃ ∧ Keeps1 (model prog w) fv s₃.heap ∧ WP prog w A (call fv (first ++ [v]) []) Q s₃) H₁ fun d s₂ H₂ => ?_) fun d s₃ q => ?_)
  · refine wpAny_bind (WP.mono (h₂ d s₂ H₂) fun mv s₃ q => wpAny_bind (wpAny_standAt (wpAny_pure ?_)))
    obtain ⟨m, l₃, e1, lo, H₃, hm, hd, hk, hc⟩ := q
    exact ⟨m, l₃, e1, lo, H₃, hm, hd, l₃, H₃, hd, hk, hc⟩
  · obtain ⟨l₃, H₃, hd, ⟨k, hk', L⟩, hc⟩ := q
    refine wpAny_bind (wpAny_pure (wpAny_bind (wpAny_holding (WP.toE (keywordsIn_nil (H₃.dS hd) (wpAny_pure ?_))))))
    refine wpAny_bind (wpAny_standAt (wpAny_bind (L.here ?_)))
    have tail : ∀ {t : Sem Value}, wpAny (model prog w) A t Q NoE s₃ → wpAny (model prog w) A (t >>= fun r => holding [r] point >>= fun _ => pure r) Q NoE s₃ :=
      fun ht => wpAny_bind (wpAny_mono ht (fun r s₂ hr => wpAny_bind (wpAny_holding (wpAny_point (wpAny_pure hr)))) fun _ _ x => x)
    rcases hk' with rfl | rfl | rfl
    · refine tail ?_
      unfold callMarked
      exact Calls.wpAny_keep hc
    · exact tail (wpAny_operateT hc)
    · exact tail (wpAny_operateT hc)

theorem ev_meth_star {o : Expr} {nm : Str} {apos pos : Pos} {args : List Expr} {kws : List Keyword} {Q : Value → Shared → Prop}
    (h : WP prog w A (eval o env) (fun ov s₁ => WP prog w A (getAttr ov nm true) (fun fv s₂ => WP prog w A (callWith pos fv [] (backTo pos (starEach args env)) (backToKw pos (keywordEach kws env))) Q s₂) s₁) s)
    (hbase : attributeBase o nm env (eval o env) = eval o env := by rfl)
    (hform : methodCallForm (args.length + kws.length) (backTo pos (starEach args env)) (backToKw pos (keywordEach kws env)) = false := by rfl) : WP prog w A (eval (.Call (.Attribute o nm apos) args kws pos) env) Q s := by
  rw [arm_eval_Call, hbase]
  refine wpAny_bind (WP.mono h fun ov s₁ h₁ => ?_)
  refine wpAny_bind (wpAny_standAt ?_)
  have hpos : methodCallPos false o env apos pos = pure pos := rfl
  unfold methodCall
  rw [hform]
  refine wpAny_bind (wpAny_holding ?_)
  show wpAny _ _ (getAttr ov nm true >>= fun f => pure (f, [])) _ _ _
  refine wpAny_bind (WP.mono h₁ fun fv s₂ h₂ => wpAny_pure ?_)
  exact wpAny_bind (wpAny_of_eq hpos h₂)
theorem keeps_bound {q : Addr} {self : Value} {h : Heap} (X : K.In h) (hq : h.get? q = some (methodObj (.ref f) self)) (hf : fnIn K f = true) : Keeps1 (model prog w) (.ref q) h := by
  unfold fnIn at hf
  split at hf
  · rename_i e
    exact ⟨.boundFrame, .inr (.inr rfl), (Looks.ld (part := none) hq).andThen ((Looks.ld (part := none) (X _ _ e)).andThen .now)⟩
  · cases hf
end
end Mine

-- MB8
namespace Mine
open PySem PySem.W PySem.Calls PyProof.Rows Builtin Builtin.ObjectAttr

section
variable {prog : Program} {w : World} {A : Around} {B : Bs} {l l' : Ledger} {s : Shared} {env : Env} {a : Addr} {v : Value} {K : Frag} {x C D dx f f2 so : Addr} {kvs : List (Str × Value)} {name : Str} {mg mb : Str → Option Value}

abbrev WA (prog : Program) (w : World) (A : Around) (c : Code) {α : Type} (t : Sem α) (Q : α → Shared → Prop) (s : Shared) : Prop := _root_.PySem.wpAt (model prog w) A c t Q NoE s
theorem WA.of {c : Code} {α : Type} {t : Sem α} {Q : α → Shared → Prop} (h : WP prog w A t Q s) : WA prog w A c t Q s := wpAt_of_wpAny h

def CodeFile (h : Heap) (cdv : Value) (file : Str) : Prop := ∃ c o vs t, cdv = .ref c ∧ h.get? c = some o ∧ o.data = .fields vs ∧ vs[2]? = some (.str file t)
def superOk (K : Frag) (C D : Addr) : Bool := (clsIn K D).isSome && mroIn K C (.ref D) == some true
theorem super_base {body : List Stmt} {qual : Str} {params : Arguments} {scope : Scope} {cl : List (Str × Addr)} {dV kV cdv : Value} {p0 p1 : Pos} {attr : Str} {whole : Sem Value} {ar : Arg} {L cc : Addr} {ns : List Str} {cs : List (Str × Addr)} {gs : List Str} {kv : List (Str × Option Value)} {Q : Value → Shared → Prop}
    (H : St prog w B l s) (T : Tp mg mb K B.h) (F : FnAt B.h f qual params body scope cl dV kV cdv) (Fe : Fm (envX qual scope L f cdv cl) L ns cs gs) (hL : (L, .ns kv) ∈ l) (hself : (ar.arg, some (.ref x)) ∈ kv) (hns : ar.arg ∈ ns) (hgs : Str.ofString "super" ∈ gs) (hcs : (Str.ofString "__class__", cc) ∈ cs)
    (hp : (params.posonlyargs ++ params.args).head? = some ar) (hcode : CodeFile B.h cdv prog.main.file) (hcell : ∃ o, B.h.get? cc = some o ∧ o.data = .cell (some (.ref D))) (I : Inst prog w s.heap x C dx kvs) (hD : superOk K C D = true)
    (hmg : mg "super" = none) (hat : (attr == ("__class__" : Str)) = false) (htop : (prog.main.scope.names.lookup ("super" : Str)).isSome = false) (hfree : (envX qual scope L f cdv cl).kindOf "__class__" = some .free)
    (h : ∀ so s', St prog w B ((so, .raw (ks_superObj D x C)) :: l) s' → Q (.ref so) s') :
    WA prog w A (.func body (envX qual scope L f cdv cl)) (attributeBase (.Call (.Name "super" p0) [] [] p1) attr (envX qual scope L f cdv cl) whole) Q s := by
  have X := T.X.keeps H.keep
  obtain ⟨o, nm, doc, pm, an, ct, ho, hd⟩ := F.ex
  obtain ⟨c, oc, vs, tf, rfl, hoc, hvs, hf⟩ := hcode
  obtain ⟨oc', hcc, hcd⟩ := hcell
  obtain ⟨od, I', _⟩ := I.look
  unfold superOk at hD
  obtain ⟨hD1, hD2⟩ := Bool.and_eq_true_iff.mp hD
  obtain ⟨cdD, hcD⟩ := Option.isSome_iff_exists.mp hD1
  obtain ⟨oD, hoD, hdD⟩ : ∃ oD, s.heap.get? D = some oD ∧ oD.data = .cls cdD := by
    unfold clsIn at hcD
    split at hcD
    · rename_i ho; cases hcD; exact ⟨_, X _ _ ho, rfl⟩
    · cases hcD
  obtain ⟨k1, k2⟩ := Fe.glo _ hgs
  obtain ⟨c1, c2, c3⟩ := Fe.cel _ hcs
  refine ks_wpAt_super_base k1 hfree hat rfl (H.keep _ _ ho) hd hp rfl (H.keep _ _ hoc) hvs hf (by simp) htop ?_
  refine ks_loadName_global Fe.kind k1 (loadGlobal_builtin (Fe.globals ▸ T.g.keeps H.keep) hmg (Fe.builtins ▸ T.b.keeps H.keep) ((T.builtins "super" (by decide)).trans rfl) ⟨rfl, ?_⟩)
  refine wpAny_loadName_free Fe.kind hfree c2 ⟨oc', H.keep _ _ hcc, hcd⟩ ?_
  refine ld_loc Fe H hL hself hns ?_
  obtain ⟨hh, g, d, t, os⟩ := s
  refine ks_wpAny_isType_cls hoD hdD ⟨rfl, ?_⟩
  refine ks_wpAny_call_super hoD hdD I'.at_ I'.cls (fun c e => by cases e) (looks_mroIn X (beq_iff_eq.mp hD2)) (fun h' e k => ?_)
  exact h _ _ (H.fresh (t := t) k (Nat.le_refl _) ⟨_, e, rfl, rfl⟩)

def superMeth (K : Frag) (C D : Addr) (name : Str) (f2 : Addr) : Bool := ks_superIn K C D name == some (some (.ref f2)) && typeIn K (.ref f2) == some (.type "function") && nsIn K cStatics "thirdparty.any" == some none
theorem at_super {expr : Bool} {Q : Value → Shared → Prop} (H : St prog w B l s) (X₀ : K.In B.h) (hso : (so, .raw (ks_superObj D x C)) ∈ l) (I : Inst prog w s.heap x C dx kvs) (hm : superMeth K C D name f2 = true) (hn : (name == ("__class__" : Str)) = false)
    (h : ∀ q s', St prog w B ((q, .raw (methodObj (.ref f2) (.ref x))) :: l) s' → Q (.ref q) s') : WP prog w A (getAttr (.ref so) name expr) Q s := by
  have X := X₀.keeps H.keep
  obtain ⟨od, I', _⟩ := I.look
  unfold superMeth at hm
  simp only [Bool.and_eq_true, beq_iff_eq] at hm
  obtain ⟨⟨hm, ht⟩, ho⟩ := hm
  have hso' := H.raw hso
  obtain ⟨hh, g, d, t, os⟩ := s
  cases hc : clsIn K C with
  | none => unfold ks_superIn at hm; rw [hc] at hm; cases hm
  | some cd =>
    unfold ks_superIn at hm
    rw [hc] at hm
    obtain ⟨of, hof, hofc⟩ : ∃ of, hh.get? f2 = some of ∧ of.cls = .type "function" := by
      have ht' : (K.lookup f2).map (·.cls) = some (.type "function") := ht
      cases z : K.lookup f2 with
      | none => rw [z] at ht'; cases ht'
      | some of => rw [z] at ht'; exact ⟨of, X _ _ z, Option.some.inj ht'⟩
    have hlk := F.ks_slot_super_ga.lookup
    have hT : ∀ t', (⟨hh, g, d, t', os⟩ : Shared).TypeIs (.ref so) "super" := fun _ => ⟨_, hso', rfl⟩
    unfold getAttr getAttrBy
    refine wpAny_bind (wpAny_mkText (wpAny_holding (wpAny_bind (wpAny_typeOf (hT _) (wpAny_bind (wpAny_of_eq hlk ?_))))))
    show wpAny _ _ (getAttrByItsOwn (.ref so) (.str name t) (.type "super") (.builtin "super.__getattribute__") true expr) _ _ _
    unfold getAttrByItsOwn hookBefore callGetattribute boundAndCalled
    refine wpAny_bind (wpAny_of_eq (show (if onTheHeap (.type "super") then typeLookup (.type "super") "__getattr__" else pure none) = pure none from rfl) ?_)
    refine wpAny_bind (wpAny_attempt (wpAny_holding ?_))
    have e1 : (if (expr && onTheHeap (.builtin "super.__getattribute__")) = true then runValue (.builtin "lifetime.attribute" ⟨[.ref so, .str name t, .builtin "super.__getattribute__"], []⟩)
      else (do let (g, first) ← bindSpecial (.builtin "super.__getattribute__") (.ref so); call g (first ++ [.str name t]))) = (do let (g, first) ← bindSpecial (.builtin "super.__getattribute__") (.ref so); call g (first ++ [.str name t])) := by cases expr <;> rfl
    rw [e1]
    refine wpAny_bind (wpAny_of_eq (F.ks_slot_super_ga.bind _) ?_)
    refine wpAny_mono (Q := fun v s' => v = .ref hh.objs.size ∧ s' = ⟨hh.push { cls := .type "method", data := .fields #[.ref f2, .ref x] }, g, d, t + 1, os⟩) (E := fun _ _ => False)
      (wpAny_call_entry F.ks_slot_super_ga (hT _) F.ks_entry_super_ga (ks_wpAny_super_ga hso' (looks_opaque X ho) (l₀ := cd.mro) (fun A Q E s k q => wpAny_bind ((looks_clsIn X hc) A _ E s k (wpAny_pure q))) rfl X hm hof hofc (ks_ne X I' hc) hn ⟨_, rfl, rfl, rfl⟩) (F.ks_gaArgs_super _ _)) (fun v s' hv => ?_) fun _ _ z => z.elim
    obtain ⟨rfl, rfl⟩ := hv
    exact wpAny_pure (h _ _ (H.push (t := t + 1) rfl ⟨rfl, rfl⟩))
end
end Mine

-- MB9
namespace Mine
open PySem PySem.W PySem.Calls PyProof.Rows Builtin Builtin.ObjectAttr

section
variable {prog : Program} {w : World} {A : Around} {B : Bs} {l l' : Ledger} {s : Shared} {f : Addr} {qual : Str} {params : Arguments} {body : List Stmt} {scope : Scope} {cl : List (Str × Addr)} {dV kV cdv : Value}

/-- a call of a def without cells whose body asks for its own activation -/
theorem call_def_at {n : Nat} {pos : List Value} {kw : List (Str × Value)} {Q : Value → Shared → Prop} (pn rest : List Str) (R : Room A (n + 1)) (hlim : B.h.NoLimit) (F : FnAt s.heap f qual params body scope cl dV kV cdv)
    (ok : okDef scope pn rest = true)
    (hb : ∀ name doc pm an ct, WP prog w A.in1 (bindArgs (fnX name qual params body scope cl dV kV doc pm an cdv ct) ⟨pos, kw⟩) (fun binds s₁ => ∃ l₁, St prog w B l₁ s₁ ∧ binds.map (·.1) = pn ∧
      ∀ L s₂, St prog w B ((L, .ns (frameOf binds rest)) :: l₁) s₂ → WA prog w (A.deeper (envX qual scope L f cdv cl)) (.func body (envX qual scope L f cdv cl)) (execs body (envX qual scope L f cdv cl)) (fun fl s' => Q (retv fl) s') s₂) s) :
    WC prog w A (.ref f) pos kw Q s := by
  obtain ⟨⟨o, name, doc, pm, an, ct, ho, hd⟩, hc⟩ := F
  obtain ⟨hloc, nd, hcell, hk, hco, hgen⟩ := okDef_of ok
  refine codeAny_call_function R.depth ho hd hco hgen rfl hc ?_
  refine wpAny_mono (hb name doc pm an ct) (fun binds s₁ h₁ => ?_) fun _ _ e => e.elim
  obtain ⟨l₁, H₁, hpn, hbody⟩ := h₁
  subst hpn
  refine wpAny_newFunctionEnv hcell (fun x hx => hloc _ (List.mem_map_of_mem hx)) (fun h₂ hns hsb => ?_) hk
  have hk₁ : ∀ b o, s₁.heap.get? b = some o → h₂.get? b = some o := fun b o e => hsb.extBut b o (Nat.ne_of_lt (Heap.lt_size e)) (Heap.get?_push_of_some _ e)
  have H₂ : St prog w B ((s₁.heap.objs.size, .ns (frameOf binds rest)) :: l₁) { s₁ with heap := h₂, toks := s₁.toks + binds.length } := by
    refine H₁.fresh hk₁ (Nat.le_refl _) ?_
    obtain ⟨o, es, ep, ho, hd, hk, hf⟩ := hns
    exact ⟨o, ho, by rw [frame_keys]; exact nd, es, ep, hd, hk, fun n => (hf n).trans (frame_look nd n)⟩
  refine ⟨hlim.keeps H₂.keep, ks_codeAny_funcAt ?_⟩
  refine ks_wpAt_mono (hbody _ _ H₂) (fun fl s' q => ?_) fun _ _ e => e.elim
  cases fl <;> exact q

theorem bindL_eq (kf : Str → Option NameKind) : ∀ (binds : List (Str × Value)) (m : Str → Option Value) (x : Str), bindL kf binds m x = ((binds.filter fun y => kf y.1 == some .local).reverse.lookup x).or (m x)
  | [], m, x => by simp [bindL]
  | (n, v) :: r, m, x => by
    unfold bindL
    rw [bindL_eq kf r]
    by_cases h : kf n = some .local
    · rw [if_pos h, List.filter_cons_of_pos (by simp [h]), List.reverse_cons, List.lookup_append, Option.or_assoc]
      congr 1
      simp only [List.lookup_cons, List.lookup_nil]
      by_cases hx : x = n
      · subst hx; simp
      · have : (x == n) = false := beq_eq_false_iff_ne.mpr hx
        rw [this, if_neg hx]; rfl
    · rw [if_neg h, List.filter_cons_of_neg (by simp [h])]
theorem bindC_eq (kf : Str → Option NameKind) : ∀ (binds : List (Str × Value)) (m : Str → Option Value) (x : Str), bindC kf binds m x = ((binds.filter fun y => !(kf y.1 == some .local)).reverse.lookup x).or (m x)
  | [], m, x => by simp [bindC]
  | (n, v) :: r, m, x => by
    unfold bindC
    rw [bindC_eq kf r]
    by_cases h : kf n = some .local
    · rw [if_pos h, List.filter_cons_of_neg (by simp [h])]
    · rw [if_neg h, List.filter_cons_of_pos (by simp [h]), List.reverse_cons, List.lookup_append, Option.or_assoc]
      congr 1
      simp only [List.lookup_cons, List.lookup_nil]
      by_cases hx : x = n
      · subst hx; simp
      · have : (x == n) = false := beq_eq_false_iff_ne.mpr hx
        rw [this, if_neg hx]; rfl

def okDefC (scope : Scope) (pl pc rest csn : List Str) : Bool := pl.all (fun x => decide (scope.names.lookup x = some .local)) && pc.all (fun x => decide (scope.names.lookup x = some .cell) && csn.contains x) && decide (pl ++ rest).Nodup && decide pc.Nodup && decide csn.Nodup &&
  decide ((cellsFrom 0 scope.names []).map (·.1) = csn) && decide (scope.kind = .function) && !scope.isCoroutine && !scope.isGenerator
theorem okDefC_of {scope : Scope} {pl pc rest csn : List Str} (h : okDefC scope pl pc rest csn = true) : (∀ x ∈ pl, scope.names.lookup x = some .local) ∧ (∀ x ∈ pc, scope.names.lookup x = some .cell ∧ x ∈ csn) ∧ (pl ++ rest).Nodup ∧ pc.Nodup ∧ csn.Nodup ∧
    (cellsFrom 0 scope.names []).map (·.1) = csn ∧ scope.kind = .function ∧ scope.isCoroutine = false ∧ scope.isGenerator = false := by
  unfold okDefC at h
  simp only [Bool.and_eq_true, List.all_eq_true, decide_eq_true_eq, Bool.not_eq_true', List.contains_iff_mem] at h
  obtain ⟨⟨⟨⟨⟨⟨⟨⟨h1, h2⟩, h3⟩, h4⟩, h5⟩, h6⟩, h7⟩, h8⟩, h9⟩ := h
  exact ⟨h1, h2, h3, h4, h5, h6, h7, h8, h9⟩
/-- the cells of a frame -/
def cellsOf : List (Str × Addr) → List (Option Value) → Ledger
  | p :: cs, v :: vs => (p.2, .cell v) :: cellsOf cs vs
  | _, _ => []
theorem filter_names {kf : Str → Bool} (binds : List (Str × Value)) : (binds.filter fun y => kf y.1).map (·.1) = (binds.map (·.1)).filter kf := by
  induction binds with
  | nil => rfl
  | cons p r ih => simp only [List.filter_cons, List.map_cons]; split <;> simp [ih]

theorem cells_led {cm : Str → Option Value} : ∀ (cs : List (Str × Addr)) (l : Ledger) (s : Shared), St prog w B l s → (∀ p ∈ cs, s.heap.IsCell p.2 (cm p.1) ∧ B.free p.2 ∧ ∀ q ∈ l, q.1 ≠ p.2) → (cs.Pairwise fun x y => x.2 ≠ y.2) →
    St prog w B (cellsOf cs (cs.map fun p => cm p.1) ++ l) s
  | [], l, s, H, _, _ => H
  | p :: cs, l, s, H, h, hp => by
    have ih := cells_led cs l s H (fun q hq => h q (.tail _ hq)) (List.pairwise_cons.mp hp).2
    obtain ⟨h1, h2, h3⟩ := h p (.head _)
    show St prog w B ((p.2, .cell (cm p.1)) :: (cellsOf cs (cs.map fun p => cm p.1) ++ l)) s
    refine ⟨ih.keep, fun q hq => ?_, ?_, ih.os, ih.gens⟩
    · cases hq with
      | head => exact ⟨h1, h2⟩
      | tail _ hq => exact ih.own q hq
    · rw [List.map_cons, List.nodup_cons]
      refine ⟨fun hm => ?_, ih.nd⟩
      obtain ⟨q, hq, e⟩ := List.mem_map.mp hm
      rcases List.mem_append.mp hq with hq | hq
      · have : ∀ (cs : List (Str × Addr)) (vs : List (Option Value)) (q : Addr × SO), q ∈ cellsOf cs vs → ∃ p ∈ cs, p.2 = q.1 := by
          intro cs
          induction cs with
          | nil => intro vs q hq; cases hq
          | cons c cs ih =>
            intro vs q hq
            cases vs with
            | nil => cases hq
            | cons v vs =>
              cases hq with
              | head => exact ⟨c, .head _, rfl⟩
              | tail _ hq => obtain ⟨p, hp, e⟩ := ih vs q hq; exact ⟨p, .tail _ hp, e⟩
        obtain ⟨p', hp', e'⟩ := this _ _ _ hq
        exact (List.pairwise_cons.mp hp).1 p' hp' (e'.trans e).symm
      · exact h3 q hq e

/-- a call of a def with cells of its own and no closure -/
theorem call_cells {n : Nat} {pos : List Value} {kw : List (Str × Value)} {Q : Value → Shared → Prop} (pl pc rest csn : List Str) (R : Room A (n + 1)) (hlim : B.h.NoLimit) (F : FnAt s.heap f qual params body scope [] dV kV cdv)
    (ok : okDefC scope pl pc rest csn = true)
    (hb : ∀ name doc pm an ct, WP prog w A.in1 (bindArgs (fnX name qual params body scope [] dV kV doc pm an cdv ct) ⟨pos, kw⟩) (fun binds s₁ => ∃ l₁ bl bc cvs, St prog w B l₁ s₁ ∧
      binds.filter (fun y => scope.names.lookup y.1 == some .local) = bl ∧ binds.filter (fun y => !(scope.names.lookup y.1 == some .local)) = bc ∧ bl.map (·.1) = pl ∧ bc.map (·.1) = pc ∧ csn.map (fun x => bc.reverse.lookup x) = cvs ∧
      ∀ L cs s₂, cs.map (·.1) = csn → St prog w B ((L, .ns (frameOf bl rest)) :: (cellsOf cs cvs ++ l₁)) s₂ →
        WP prog w (A.deeper (envX qual scope L f cdv cs)) (execs body (envX qual scope L f cdv cs)) (fun fl s' => Q (retv fl) s') s₂) s) :
    WC prog w A (.ref f) pos kw Q s := by
  obtain ⟨⟨o, name, doc, pm, an, ct, ho, hd⟩, hc⟩ := F
  obtain ⟨h1, h2, nd, npc, ncs, hcs, hk, hco, hgen⟩ := okDefC_of ok
  refine codeAny_call_function R.depth ho hd hco hgen rfl hc ?_
  refine wpAny_mono (hb name doc pm an ct) (fun binds s₁ h₁ => ?_) fun _ _ e => e.elim
  obtain ⟨l₁, bl, bc, cvs, H₁, hbl, hbc, rfl, rfl, rfl, hbody⟩ := h₁
  have hall : (binds.all fun y => scope.names.lookup y.1 == some .local || scope.names.lookup y.1 == some .cell) = true := by
    rw [List.all_eq_true]
    intro y hy
    cases hq : scope.names.lookup y.1 == some .local with
    | true => rfl
    | false =>
      have : y ∈ bc := by rw [← hbc]; exact List.mem_filter.mpr ⟨hy, by rw [hq]; rfl⟩
      rw [(h2 _ (List.mem_map_of_mem this)).1]; rfl
  refine wpAny_newFunctionEnv_cells hk (kindsX hall _) fun env he s' x => ?_
  subst he
  obtain ⟨h₂, tk, rfl, _⟩ := x.done
  have hk₁ := x.toInCall.keep
  have hnames : (cellsFrom (s₁.heap.objs.size + 1) scope.names []).map (·.1) = csn := (cellsFrom_names scope.names _ _ [] [] rfl).trans hcs
  have H₂ : St prog w B ((s₁.heap.objs.size, .ns (frameOf bl rest)) :: l₁) { s₁ with heap := h₂, toks := tk } := by
    refine H₁.fresh hk₁ (Nat.le_refl _) ?_
    obtain ⟨o, es, ep, ho, hd, hk, hf⟩ := x.toInCall.ns
    refine ⟨o, ho, by rw [frame_keys]; exact nd, es, ep, hd, hk, fun n => (hf n).trans ?_⟩
    rw [bindL_eq]
    show ((binds.filter fun y => scope.names.lookup y.1 == some .local).reverse.lookup n).or none = _
    rw [hbl, Option.or_none]
    exact frame_look nd n
  have H₃ : St prog w B (cellsOf (cellsFrom (s₁.heap.objs.size + 1) scope.names []) ((cellsFrom (s₁.heap.objs.size + 1) scope.names []).map fun p => bc.reverse.lookup p.1) ++ ((s₁.heap.objs.size, .ns (frameOf bl rest)) :: l₁)) { s₁ with heap := h₂, toks := tk } := by
    refine cells_led (cm := fun n => bc.reverse.lookup n) _ _ _ H₂ (fun p hp => ?_) x.apart
    have hmem : (p.1, p.2) ∈ cellsFrom (s₁.heap.objs.size + 1) scope.names [] := hp
    have hlk : (cellsFrom (s₁.heap.objs.size + 1) scope.names []).lookup p.1 = some p.2 := lookup_mem' (by rw [hnames]; exact ncs) hmem
    have hc := x.cell p.1 p.2 hlk
    rw [bindC_eq] at hc
    have ec : binds.filter (fun y => !(scope.names.lookup y.1 == some .local)) = bc := hbc
    have hc' : h₂.IsCell p.2 (bc.reverse.lookup p.1) := by
      have e2 : ((binds.filter fun y => !((newEnv scope s₁.heap.objs.size mainGlobals (cellsFrom (s₁.heap.objs.size + 1) scope.names []) (qual ++ ".<locals>.") (some f) cdv none builtinsNs).kindOf y.1 == some .local)).reverse.lookup p.1).or none = bc.reverse.lookup p.1 := by
        show ((binds.filter fun y => !(scope.names.lookup y.1 == some .local)).reverse.lookup p.1).or none = _
        rw [ec, Option.or_none]
      rw [← e2]; exact hc
    have habove : s₁.heap.objs.size < p.2 := x.above p.1 p.2 hmem
    refine ⟨hc', ?_, fun q hq e => ?_⟩
    · exact Bs.free_of H₁.keep (Nat.le_of_lt habove)
    · cases hq with
      | head => exact absurd e (Nat.ne_of_lt habove)
      | tail _ hq =>
        have hlt := H₁.lt (a := q.1) (x := q.2) hq
        rw [e] at hlt
        exact absurd hlt (Nat.not_lt.mpr (Nat.le_of_lt habove))
  have emap : ((cellsFrom (s₁.heap.objs.size + 1) scope.names []).map fun p => bc.reverse.lookup p.1) = csn.map fun x => bc.reverse.lookup x := by
    rw [← hnames, List.map_map]; rfl
  rw [emap] at H₃
  have H₄ : St prog w B ((s₁.heap.objs.size, .ns (frameOf bl rest)) :: (cellsOf (cellsFrom (s₁.heap.objs.size + 1) scope.names []) (csn.map fun x => bc.reverse.lookup x) ++ l₁)) { s₁ with heap := h₂, toks := tk } :=
    H₃.perm List.perm_middle
  refine ⟨hlim.keeps H₄.keep, codeAny_func ?_⟩
  refine wpAny_mono (hbody _ _ _ hnames H₄) (fun fl s' q => ?_) fun _ _ e => e.elim
  cases fl <;> exact q
end
end Mine

-- MB10
namespace Mine
open PySem PySem.W PySem.Calls PyProof.Rows Builtin Builtin.ObjectAttr

section
variable {prog : Program} {w : World} {A : Around} {B : Bs} {l l' : Ledger} {s : Shared} {env : Env} {a : Addr} {v x : Value} {vs : List Value}

/-! ranges -/
def soRg (n : Int) : SO := .pr fun o => ∃ t u v, o = { cls := .type "range", dict := none, data := .fields #[.int 0 t, .int n u, .int 1 v], slots := #[] }
theorem range1 {n : Int} {t : Tok} {Q : Value → Shared → Prop} (H : St prog w B l s) (h : ∀ r s', St prog w B ((r, soRg n) :: l) s' → Q (.ref r) s') : WP prog w A (call (.type "range") [.int n t]) Q s :=
  call_range_1 (h _ _ (H.push (t := s.toks + 1 + 1) rfl ⟨_, _, _, rfl⟩))
theorem iter_range {r : Addr} {n : Nat} {Q : Value → Shared → Prop} (H : St prog w B l s) (hm : (r, soRg n) ∈ l) (hn : n < 2 ^ 62) (h : ∀ it s', St prog w B ((it, soRange n 0) :: l) s' → Q (.ref it) s') : WP prog w A (pyIter (.ref r)) Q s := by
  obtain ⟨o, ho, t, u, v, rfl⟩ := H.get hm
  refine wpAny_pyIter_range (a := 0) (b := n) (c := 1) ho (small_one (by omega) (by omega) (by omega) (by omega)) (h _ _ (H.push (t := s.toks) rfl ⟨?_, rfl⟩))
  rw [rangeSize_one]
  simp only [rawInt, Obj.mk.injEq, Data.fields.injEq, true_and, and_true]
  have : (if (0 : Int) < (n : Int) then (n : Int) - 0 else 0) = n := by split <;> omega
  rw [this]
  simp
theorem iter_tup {Q : Value → Shared → Prop} (H : St prog w B l s) (hl : s.heap.IsTuple a vs.toArray) (h : ∀ it s', a ≠ it → St prog w B ((it, soTup a 0) :: l) s' → Q (.ref it) s') : WP prog w A (pyIter (.ref a)) Q s := by
  refine wpAny_pyIter_tuple hl (h _ _ ?_ (H.push (t := s.toks) rfl ⟨rfl, rfl⟩))
  obtain ⟨o, ho, _⟩ := hl
  exact Nat.ne_of_lt (Heap.lt_size ho)
theorem St.tpI (H : St prog w B l s) (hm : (a, .tp vs) ∈ l) : s.heap.IsTuple a vs.toArray := by
  obtain ⟨o, ho, n, rfl⟩ := H.get hm
  exact ⟨_, ho, rfl, n, rfl⟩
theorem call_keep {Q : Value → Shared → Prop} (H : St prog w B l s) {h' : Heap} {tk : Nat} (hk : ∀ b o, s.heap.get? b = some o → h'.get? b = some o) : St prog w B l { s with heap := h', toks := tk } := H.grow hk

/-! list methods -/
theorem call_append {Q : Value → Shared → Prop} (H : St prog w B l s) (hsz : vs.length ≤ sizeLine) (u : Upd1 a (.ls vs) (.ls (vs ++ [x])) l l') (h : ∀ s', St prog w B l' s' → Q .none s') :
    WP prog w A (call (.builtin "list.append") [.ref a, x]) Q s := by
  obtain ⟨n, hl⟩ := H.lsx u.mem
  refine wpAny_call_entry slot_list_append (H.isl u.mem).typeIs entry_list_append ?_ (args_list_append _ _)
  show wpAny _ _ (updateSeq a (·.push x) >>= fun _ => ret .none) _ _ s
  refine wpAny_bind ?_
  refine wpAny_updateSeq hl rfl (wpAny_pure ⟨.none, rfl, h _ (H.upd (t := s.toks) u (fun b o hb e => (Heap.get?_update_other _ _ (Ne.symm hb)).trans e) ?_)⟩) (hz := by rw [List.size_toArray]; exact hsz) (_hz' := by rw [Array.size_push, List.size_toArray]; omega)
  exact ⟨_, hl.update _, _, by simp only [List.push_toArray]; rfl⟩
theorem gm_append {pl : Sem Bool} {Q : Value × List Value → Shared → Prop} (H : St prog w B l s) (hm : (a, .ls vs) ∈ l) (h : Q (.builtin "list.append", [.ref a]) s) : WP prog w A (getMethod (.ref a) "append" pl) Q s :=
  gm_blt (H.isl hm).typeIs PySem.F.plainAttrs_list slot_list_append (by kernel_rfl) (H.nodict_ls hm) h
theorem gm_reverse {pl : Sem Bool} {Q : Value × List Value → Shared → Prop} (H : St prog w B l s) (hm : (a, .ls vs) ∈ l) (h : Q (.builtin "list.reverse", [.ref a]) s) : WP prog w A (getMethod (.ref a) "reverse" pl) Q s :=
  gm_blt (H.isl hm).typeIs PySem.F.plainAttrs_list F.slot_list_reverse (by kernel_rfl) (H.nodict_ls hm) h
theorem gm_index {pl : Sem Bool} {Q : Value × List Value → Shared → Prop} (H : St prog w B l s) (hm : (a, .ls vs) ∈ l) (h : Q (.builtin "list.index", [.ref a]) s) : WP prog w A (getMethod (.ref a) "index" pl) Q s :=
  gm_blt (H.isl hm).typeIs PySem.F.plainAttrs_list F.slot_list_index (by kernel_rfl) (H.nodict_ls hm) h
theorem cw_reverse {pos : Pos} {Q : Value → Shared → Prop} (H : St prog w B l s) (hsz : vs.length ≤ sizeLine) (u : Upd1 a (.ls vs) (.ls vs.reverse) l l') (h : ∀ s', St prog w B l' s' → Q .none s') :
    WP prog w A (callWith pos (.builtin "list.reverse") [.ref a] (backTo pos (starEach [] env)) (backToKw pos (keywordEach [] env))) Q s := by
  obtain ⟨n, hl⟩ := H.lsx u.mem
  refine P.reverse_list hl (h _ (H.upd (t := s.toks) u (fun b o hb e => (Heap.get?_update_other _ _ (Ne.symm hb)).trans e) ?_)) (hsz := by rw [List.size_toArray]; exact hsz)
  exact ⟨_, hl.update _, _, by simp only [List.reverse_toArray]; rfl⟩

/-! sums, greatest and least -/
theorem sum_ls {ns : List Int} {Q : Value → Shared → Prop} (hh : A.handled = none) (H : St prog w B l s) (hl : s.heap.IsList a vs.toArray) (hi : IntsAre vs ns) (hb : ∀ n ∈ ns, 0 ≤ n ∧ n ≤ 2 ^ 40) (hn : ns.length ≤ 2 ^ 20) (h : ∀ t s', St prog w B l s' → Q (.int ns.sum t) s') :
    WP prog w A (call (.builtin "sum") [.ref a]) Q s := by
  have hlt : a < s.heap.objs.size := by obtain ⟨_, e, _⟩ := hl; exact Heap.lt_size e
  have hlen := hi.length
  refine call_sum_walk (wpAny_pyIter_list hl ⟨_, [_, a], [_], _, _, _, fun i => ns.getD i 0, rfl, Walks.list (A := A.in1) hh _ a (Nat.ne_of_lt hlt) vs.toArray, ⟨⟨_, Heap.get?_push_size _ rfl, rfl, rfl⟩, hl.push _⟩, fun b hb => ?_, fun i v hv => ?_, fun j hj => ?_, fun h' tk t' hk => ?_⟩)
  · show b < (s.heap.push _).objs.size
    rw [Heap.size_push]
    simp only [List.mem_cons, List.not_mem_nil, or_false] at hb
    rcases hb with rfl | rfl
    · exact Nat.lt_succ_self _
    · exact Nat.lt_succ_of_lt hlt
  · have hv' : vs[i]? = some v := by simpa using hv
    have hlt := (List.getElem?_eq_some_iff.mp hv').1
    obtain ⟨t, ht⟩ := hi.get i (ns.getD i 0) (by simp [List.getD, hlen ▸ hlt])
    rw [hv'] at ht
    exact ⟨t, Option.some.inj ht⟩
  · have hj' : j < ns.length := by simpa [hlen] using hj
    have bound : ∀ (k : Nat) (m : List Int), m.length ≤ k → (∀ n ∈ m, 0 ≤ n ∧ n ≤ 2 ^ 40) → 0 ≤ m.sum ∧ m.sum ≤ k * 2 ^ 40 := by
      intro k m
      induction m generalizing k with
      | nil => intro _ _; exact ⟨by simp, by simp; omega⟩
      | cons y m ih =>
        intro hk hm
        obtain ⟨k, rfl⟩ : ∃ k', k = k' + 1 := ⟨k - 1, by simp at hk; omega⟩
        have := ih k (by simpa using hk) fun n hn => hm n (.tail _ hn)
        have := hm y (.head _)
        simp only [List.sum_cons]
        omega
    rw [preSum_getD]
    refine ⟨?_, ?_⟩
    · have := hb (ns.getD j 0) (by simp [List.getD, hj'])
      show InLong (ns.getD j 0)
      exact ⟨by omega, by omega⟩
    · have := bound (2 ^ 20) (ns.take (j + 1)) (by simp; omega) fun n hn => hb n (List.mem_of_mem_take hn)
      exact ⟨by omega, by omega⟩
  · rw [preSum_getD, List.size_toArray, hlen, List.take_length]
    exact h t' _ (H.grow fun b o e => hk b o (by simp only [List.mem_singleton]; exact fun e1 => Nat.lt_irrefl _ (e1 ▸ Heap.lt_size e)) (Heap.get?_push_of_some _ e))
theorem max_ls {ns : List Int} {Q : Value → Shared → Prop} (hh : A.handled = none) (H : St prog w B l s) (hl : s.heap.IsList a vs.toArray) (hi : IntsAre vs ns) (h0 : ns ≠ [])
    (h : ∀ m t s', m ∈ ns → (∀ n ∈ ns, n ≤ m) → St prog w B l s' → Q (.int m t) s') : WP prog w A (call (.builtin "max") [.ref a]) Q s := by
  have hlt : a < s.heap.objs.size := by obtain ⟨_, e, _⟩ := hl; exact Heap.lt_size e
  have hlen := hi.length
  have hpos : 0 < ns.length := List.length_pos_iff.mpr h0
  have hval : ∀ i v, vs.toArray[i]? = some v → ∃ t, v = Value.int (ns.getD i 0) t := fun i v hv => by
    have hv' : vs[i]? = some v := by simpa using hv
    have hlt := (List.getElem?_eq_some_iff.mp hv').1
    obtain ⟨t, ht⟩ := hi.get i (ns.getD i 0) (by simp [List.getD, hlen ▸ hlt])
    rw [hv'] at ht
    exact ⟨t, Option.some.inj ht⟩
  refine call_max_walk (wpAny_pyIter_list hl ⟨_, [_, a], [_], _, _, _, _, rfl, Walks.list (A := A.in1) hh _ a (Nat.ne_of_lt hlt) vs.toArray, ⟨⟨_, Heap.get?_push_size _ rfl, rfl, rfl⟩, hl.push _⟩, fun b hb => ?_, by simp; omega, CmpOf.ints_gt (fun i => ns.getD i 0) hval, fun v h' tk hP hk => ?_⟩)
  · show b < (s.heap.push _).objs.size
    rw [Heap.size_push]
    simp only [List.mem_cons, List.not_mem_nil, or_false] at hb
    rcases hb with rfl | rfl
    · exact Nat.lt_succ_self _
    · exact Nat.lt_succ_of_lt hlt
  · obtain ⟨t, rfl⟩ := hval _ v hP
    obtain ⟨q1, q2⟩ := argBest_gt (fun i => ns.getD i 0) (vs.toArray.size - 1)
    have hsz : vs.toArray.size = ns.length := by simp [hlen]
    refine h _ t _ ?_ ?_ (H.grow fun b o e => hk b o (by simp only [List.mem_singleton]; exact fun e1 => Nat.lt_irrefl _ (e1 ▸ Heap.lt_size e)) (Heap.get?_push_of_some _ e))
    · have : argBest (fun i j => decide (ns.getD i 0 > ns.getD j 0)) (vs.toArray.size - 1) < ns.length := by omega
      rw [List.getD_eq_getElem?_getD, List.getElem?_eq_getElem this]
      exact List.getElem_mem _
    · intro n hn
      obtain ⟨j, hj, rfl⟩ := List.getElem_of_mem hn
      have := q2 j (by omega)
      simpa [List.getD, hj] using this
theorem min2 {i j : Int} {t u : Tok} {Q : Value → Shared → Prop} (hh : A.handled = none) (H : St prog w B l s) (h : ∀ t' s', St prog w B l s' → Q (.int (min i j) t') s') : WP prog w A (call (.builtin "min") [.int i t, .int j u]) Q s := by
  refine min_two_ints hh fun h' tk hk => ?_
  by_cases hb : j < i
  · rw [if_pos hb]; have := h u _ (H.grow (t := tk) hk); rwa [Int.min_eq_right (Int.le_of_lt hb)] at this
  · rw [if_neg hb]; have := h t _ (H.grow (t := tk) hk); rwa [Int.min_eq_left (Int.not_lt.mp hb)] at this
theorem sorted_ls {ns : List Int} {Q : Value → Shared → Prop} (H : St prog w B l s) (hl : s.heap.IsList a vs.toArray) (hi : IntsAre vs ns) (h64 : vs.length < 64)
    (h : ∀ a' vs' ns' s', IntsAre vs' ns' → ns'.Perm ns → ns'.Pairwise (· ≤ ·) → St prog w B ((a', .ls vs') :: l) s' → Q (.ref a') s') : WP prog w A (call (.builtin "sorted") [.ref a]) Q s := by
  refine sorted_ints hl hi h64 fun out ns' a1 a2 a3 => ?_
  obtain ⟨e, he⟩ := sortedAll_at s.heap vs out
  exact h _ out.toList ns' _ a1 a2 a3 (H.fresh (t := s.toks) (fun _ _ => sortedAll_old) (Nat.le_succ _) ⟨_, he, e, rfl⟩)

/-! loops -/
theorem x_for {target iter : Expr} {body orelse : List Stmt} {pos : Pos} {Q : Flow → Shared → Prop}
    (h : WP prog w A (eval iter env) (fun xv s₁ => WP prog w A (pyIter xv) (fun it s₂ => codeAny (model prog w) A (.forLoop target it body orelse env) (fun r s' => match r with | .ok f => Q f s' | .error e => cameBackBy (model prog w) A env NoE e s') s₂) s₁) s)
    (hs : ∀ x, foldedSetIterable iter env x = pure x := by intro _; rfl) : WP prog w A (exec (.For target iter body orelse pos) env) Q s := wpAny_For h hs
theorem x_while {test : Expr} {body orelse : List Stmt} {pos : Pos} {Q : Flow → Shared → Prop} (J : Nat → Ledger → Prop) (n : Nat) (h0 : J n l) (H : St prog w B l s)
    (turn : ∀ n l s, J n l → St prog w B l s → WP prog w A (isTrue test env (eval test env)) (fun b s₂ =>
      if b then WP prog w A (execs body env) (fun f s₃ => match f with
        | .next | .cont => ∃ m l', m < n ∧ J m l' ∧ St prog w B l' s₃
        | .brk => Q .next s₃
        | .ret v => Q (.ret v) s₃) s₂
      else WP prog w A (execs orelse env) Q s₂) s) : WP prog w A (exec (.While test body orelse pos) env) Q s := by
  refine wpAny_While (codeAny_whileLoop (fun k s => ∃ l, J k l ∧ St prog w B l s) ?_ n ⟨l, h0, H⟩)
  rintro k s ⟨l, hJ, H⟩
  refine wpAny_mono (turn k l s hJ H) (fun b s₂ h₂ => ?_) fun _ _ e => e.elim
  cases b with
  | true =>
    rw [if_pos rfl] at h₂ ⊢
    refine wpAny_mono h₂ (fun f s₃ h₃ => ?_) fun _ _ e => e.elim
    cases f with
    | next => obtain ⟨m, l', hm, hJ', H'⟩ := h₃; exact ⟨m, hm, l', hJ', H'⟩
    | cont => obtain ⟨m, l', hm, hJ', H'⟩ := h₃; exact ⟨m, hm, l', hJ', H'⟩
    | brk => exact h₃
    | ret v => exact h₃
  | false =>
    rw [if_neg (by simp)] at h₂ ⊢
    exact wpAny_mono h₂ (fun _ _ q => q) fun _ _ e => e.elim
end
end Mine

-- MB11
namespace Mine
open PySem PySem.W PySem.Calls PyProof.Rows Builtin Builtin.ObjectAttr

section
variable {prog : Program} {w : World} {A : Around} {B : Bs} {l l' : Ledger} {s : Shared} {env : Env} {a : Addr} {v x : Value} {vs : List Value}

/-- one turn of a clause, its body named -/
abbrev turnOf (e : Expr) (d : Nat) (target : Expr) (p : Pos) (body : Sem Unit) (it acc : Value) (env : Env) : Sem Fin :=
  standAt p >>= fun _ => pyNext it >>= fun r => match r with
    | none => pure (.done .next)
    | some v => letOwnedTupleGo target it v >>= fun _ => assign target env v >>= fun _ => body >>= fun _ => again (.compLoop e d it acc env)
abbrev emitL (elt : Expr) (acc : Value) (env : Env) : Sem Unit := eval elt env >>= fun x => call (.builtin "list.append") [acc, x] >>= fun _ => pure ()

theorem comp_loop {elt : Expr} {gens : List Comprehension} {scope : Scope} {pos : Pos} {d : Nat} {target : Expr} {p : Pos} {body : Sem Unit} {acc : Value} {it : Addr} {n : Nat} {so : Nat → SO} {ok : Ledger → Prop} {P : Nat → Value → Ledger → Prop} {R : Result → Shared → Prop}
    (hT : compTurn (.ListComp elt gens scope pos) d (.ref it) acc env = turnOf (.ListComp elt gens scope pos) d target p body (.ref it) acc env)
    (I : It prog w A B target it n so ok P) (J : Nat → Ledger → Prop) (hok : ∀ i l, J i l → ok l) (H : St prog w B ((it, so 0) :: l) s) (h0 : J 0 l)
    (turn : ∀ i v ex l s, i < n → P i v ex → J i l → St prog w B (ex ++ (it, so (i + 1)) :: l) s → WP prog w A (assign target env v) (fun _ s₁ => WP prog w A body (fun _ s₂ => ∃ l', J (i + 1) l' ∧ St prog w B ((it, so (i + 1)) :: l') s₂) s₁) s)
    (fin : ∀ l s, J n l → St prog w B l s → R (.ok .next) s) : codeAny (model prog w) A (.compLoop (.ListComp elt gens scope pos) d (.ref it) acc env) R s := by
  refine codeAny_loop rfl (fun k s => ∃ i l, k = n - i ∧ i ≤ n ∧ J i l ∧ St prog w B ((it, so i) :: l) s) ?_ n ⟨0, l, rfl, Nat.zero_le _, h0, H⟩
  rintro k s ⟨i, l, rfl, hi, hJ, H⟩
  show wpAny _ A ((compTurn (.ListComp elt gens scope pos) d (.ref it) acc env).onRaise (fun x => do noteFrame x env; theTreesLotGoes x)) _ _ s
  refine wpAny_noted ?_
  rw [hT]
  refine wpAny_bind (wpAny_standAt (wpAny_bind ?_))
  rcases Nat.lt_or_eq_of_le hi with hlt | rfl
  · refine wpAny_mono (I.item i l s (fun v s' => WP prog w A (assign target env v) (fun _ s₁ => WP prog w A body (fun _ s₂ => ∃ l', J (i + 1) l' ∧ St prog w B ((it, so (i + 1)) :: l') s₂) s₁) s') hlt (hok i l hJ) H fun v ex s' hp H' => turn i v ex l s' hlt hp hJ H') (fun r s₁ h => ?_) fun _ _ e => e.elim
    obtain ⟨v, rfl, h⟩ := h
    refine wpAny_bind (wpAny_mono h (fun _ s₂ h₂ => wpAny_bind ?_) fun _ _ e => e.elim)
    refine wpAny_mono h₂ (fun _ s₃ h₃ => wpAny_bind ?_) fun _ _ e => e.elim
    refine wpAny_mono h₃ (fun f s₄ h₄ => ?_) fun _ _ e => e.elim
    obtain ⟨l', hJ', H'⟩ := h₄
    exact wpAny_pure ⟨rfl, n - (i + 1), by omega, i + 1, l', rfl, hlt, hJ', H'⟩
  · refine wpAny_mono (I.done l s (fun s' => R (.ok .next) s') (hok _ l hJ) H fun s' H' => fin l s' hJ H') (fun r s₁ h => ?_) fun _ _ e => e.elim
    obtain ⟨rfl, h⟩ := h
    exact wpAny_pure h

/-- a clause's start: its iterator is asked for itself, or not -/
theorem comp_start {elt : Expr} {gens : List Comprehension} {scope : Scope} {pos : Pos} {d : Nat} {g : Comprehension} {acc it : Value} {R : Result → Shared → Prop} (hg : gens[d]? = some g) (hga : g.is_async = 0)
    (hself : ∀ Q : Value → Shared → Prop, Q it s → WP prog w A (pyIter it) Q s)
    (h : codeAny (model prog w) A (.compLoop (.ListComp elt gens scope pos) d it acc env) R s) : codeAny (model prog w) A (.compStart (.ListComp elt gens scope pos) d it acc env) R s := by
  refine codeAny_of_tree ?_
  show wpAny _ _ ((compStart (.ListComp elt gens scope pos) d it acc env).onRaise (fun x => do noteFrame x env; standAt theWindowsPlace)) _ _ s
  refine wpAny_notedAt ?_
  unfold compStart
  have e1 : (clausesOf (.ListComp elt gens scope pos))[d]? = some g := hg
  rw [e1]
  obtain ⟨g1, g2, g3, g4⟩ := g
  cases hga
  show wpAny _ _ (ask >>= _) _ _ s
  refine wpAny_bind (wpAny_askSetting (wpAny_ite ?_))
  split
  · first
      | exact wpAny_bind (wpAny_pure (wpAny_pure (And.intro rfl h)))
      | exact wpAny_pure (And.intro rfl h)
  · have key : ∀ {E : Value → Shared → Prop}, wpAny (model prog w) A (pyIter it) (fun it' s' => wpAny (model prog w) A (again (.compLoop (.ListComp elt gens scope pos) d it' acc env)) (fun fin s' => match fin with | .done f => R (.ok f) s' | .again c' => c'.quiet = true ∧ codeAny (model prog w) A c' R s') E s') E s :=
      wpAny_mono (hself (fun v s' => v = it ∧ s' = s) ⟨rfl, rfl⟩) (fun v s' hq => by obtain ⟨rfl, rfl⟩ := hq; exact wpAny_pure (And.intro rfl h)) fun _ _ e => e.elim
    first
      | exact wpAny_bind (wpAny_rule (wpAny_bind (wpAny_standAt (wpAny_bind key))))
      | (refine wpAny_bind (wpAny_rule ?_); show wpAny _ _ (standAt g2.pos >>= _) _ _ s; exact wpAny_bind (wpAny_standAt (wpAny_bind key)))

/-- a comprehension's end: its own names let go -/
def CompFin (prog : Program) (w : World) (B : Bs) (C : Addr) (Q : Shared → Prop) (s : Shared) : Prop := ∃ kvs l, St prog w B ((C, .ns kvs) :: l) s ∧ ∀ s', St prog w B l s' → Q s'
theorem CompFin.here {C : Addr} {Q : Shared → Prop} (h : CompFin prog w B C Q s) : ∃ m, s.heap.Ns C m ∧ ∀ h', Heap.SameBut C s.heap h' → Q { s with heap := h' } := by
  obtain ⟨kvs, l, H, hQ⟩ := h
  refine ⟨_, (H.ns_ (.head _)).1, fun h' hs => hQ _ ?_⟩
  exact gone_at (t := s.toks) H fun b o hb e => (hs.2 b (by simpa using hb)).trans e
def compOk (scope : Scope) (nms : List Str) : Bool := scope.names.all (fun x => decide (x.2 ≠ .cell)) && decide (scope.kind = .function) && scope.names.all (fun x => !(decide (x.2 = .local)) || decide (scope.names.lookup x.1 = some .local)) && decide nms.Nodup
theorem compOk_of {scope : Scope} {nms : List Str} (h : compOk scope nms = true) : (∀ x ∈ scope.names, x.2 ≠ .cell) ∧ scope.kind = .function ∧ (∀ x ∈ scope.names, x.2 = .local → scope.names.lookup x.1 = some .local) ∧ nms.Nodup := by
  unfold compOk at h
  simp only [Bool.and_eq_true, List.all_eq_true, decide_eq_true_eq, Bool.or_eq_true, Bool.not_eq_true', decide_eq_false_iff_not] at h
  obtain ⟨⟨⟨h1, h2⟩, h3⟩, h4⟩ := h
  exact ⟨h1, h2, fun x hx e => (h3 x hx).resolve_left fun q => q e, h4⟩

theorem comp_block {e : Expr} {scope : Scope} {cl : List (Str × Addr)} {itv : Value} {nms : List Str} {RR : Value → Addr → Result → Shared → Prop} {E : Value → Shared → Prop} (ok : compOk scope nms = true) (H : St prog w B l s)
    (h : ∀ D C s₃, St prog w B ((C, .ns (frameOf [] nms)) :: (D, .ls []) :: l) s₃ → codeAny (model prog w) A (.compStart e 0 itv (.ref D) (compEnvC scope cl C env)) (RR (.ref D) C) s₃) :
    wpAny (model prog w) A (newList []) (fun acc s₃ => wpAny (model prog w) A (newFunctionEnv scope env.globals cl [] env.qual none .none (some env)) (fun cenv s₄ =>
      codeAny (model prog w) A (.compStart e 0 itv acc { cenv with scope := relabel scope env }) (RR acc cenv.locals) s₄) E s₃) E s := by
  obtain ⟨hcell, hkind, _, nd⟩ := compOk_of ok
  refine wpAny_newObj_type (wpAny_newFunctionEnv hcell (by intro y hy; simp at hy) (fun h₁ hns₁ hsb₁ => ?_) hkind)
  have H₁ : St prog w B ((s.heap.objs.size, .ls []) :: l) { s with heap := s.heap.push { cls := .type "list", dict := none, data := .seq ([] : List Value).toArray } } := H.push (t := s.toks) rfl ⟨0, rfl⟩
  have H₂ := H₁.fresh (a := (s.heap.push { cls := .type "list", dict := none, data := .seq ([] : List Value).toArray }).objs.size) (x := .ns (frameOf [] nms)) (h' := h₁) (t := s.toks + ([] : List (Str × Value)).length)
    (fun b o e => hsb₁.extBut b o (Nat.ne_of_lt (Heap.lt_size e)) (Heap.get?_push_of_some _ e)) (Nat.le_refl _) (by
      obtain ⟨o, es, ep, ho, hd, hk, hf⟩ := hns₁
      refine ⟨o, ho, by rw [frame_keys]; exact nd, es, ep, hd, hk, fun n => (hf n).trans ?_⟩
      exact frame_look (binds := []) nd n)
  exact h _ _ _ H₂

theorem ev_comp {elt target iter : Expr} {ifs : List Expr} {rest : List Comprehension} {scope : Scope} {cl : List (Str × Addr)} {pos : Pos} (nms : List Str) {Q : Value → Shared → Prop} (ok : compOk scope nms = true) (hclos : closureFor scope env = pure cl)
    (h : WP prog w A (eval iter env) (fun xv s₁ => WP prog w A (pyIter xv) (fun itv s₂ => ∃ l₂, St prog w B l₂ s₂ ∧ ∀ D C s₃, St prog w B ((C, .ns (frameOf [] nms)) :: (D, .ls []) :: l₂) s₃ →
      codeAny (model prog w) A (.compStart (.ListComp elt (⟨target, iter, ifs, 0⟩ :: rest) scope pos) 0 itv (.ref D) (compEnvC scope cl C env)) (fun r s' => match r with
        | .ok _ => CompFin prog w B C (Q (.ref D)) s'
        | .error _ => False) s₃) s₁) s)
    (hs : ∀ x, foldedSetIterable iter env x = pure x := by intro _; rfl) : WP prog w A (eval (.ListComp elt (⟨target, iter, ifs, 0⟩ :: rest) scope pos) env) Q s := by
  rw [eval_ListComp]
  obtain ⟨_, hkind, hnames, _⟩ := compOk_of ok
  refine wpAny_comprehension_free (use := none) rfl hs hclos hkind hnames (wpAny_mono h (fun xv s₁ h₁ => wpAny_mono h₁ (fun it s₂ h₂ => ?_) fun _ _ e => e) fun _ _ e => e)
  obtain ⟨l₂, H₂, h₃⟩ := h₂
  refine comp_block (nms := nms) (RR := fun acc C => compPost (model prog w) A NoE none Q acc C) ok H₂ fun D C s₃ H₃ => codeAny_mono (h₃ D C s₃ H₃) fun r s' hr => ?_
  cases r with
  | ok f => exact CompFin.here hr
  | error e => exact hr.elim

theorem x_assign_comp {elt target iter : Expr} {ifs : List Expr} {rest : List Comprehension} {scope : Scope} {cl : List (Str × Addr)} {pos spos py : Pos} {y : Str} (nms : List Str) {Q : Flow → Shared → Prop}
    (hsw : swapsWith (.ListComp elt (⟨target, iter, ifs, 0⟩ :: rest) scope pos) (some (.Name y py)) spos.line env = pure true) (ok : compOk scope nms = true) (hclos : closureFor scope env = pure cl)
    (h : WP prog w A (eval iter env) (fun xv s₁ => WP prog w A (pyIter xv) (fun itv s₂ => ∃ l₂, St prog w B l₂ s₂ ∧ ∀ D C s₃, St prog w B ((C, .ns (frameOf [] nms)) :: (D, .ls []) :: l₂) s₃ →
      codeAny (model prog w) A (.compStart (.ListComp elt (⟨target, iter, ifs, 0⟩ :: rest) scope pos) 0 itv (.ref D) (compEnvC scope cl C env)) (fun r s' => match r with
        | .ok _ => WP prog w A (storeName env y (.ref D)) (fun _ s'' => CompFin prog w B C (Q .next) s'') s'
        | .error _ => False) s₃) s₁) s)
    (hs : ∀ x, foldedSetIterable iter env x = pure x := by intro _; rfl) : WP prog w A (exec (.Assign [.Name y py] (.ListComp elt (⟨target, iter, ifs, 0⟩ :: rest) scope pos) spos) env) Q s := by
  obtain ⟨_, hkind, hnames, _⟩ := compOk_of ok
  rw [exec_Assign_Name_used _ _ _ _ hsw]
  refine wpAny_bind (wpAny_standAt (wpAny_bind ?_))
  show wpAny _ A (do let _ ← comprehension (.ListComp elt (⟨target, iter, ifs, 0⟩ :: rest) scope pos) scope env _ (newList []) false (eval iter env) (some (assign (.Name y py) env))) _ _ s
  refine wpAny_bind (wpAny_mono (wpAny_comprehension_free (use := some (assign (.Name y py) env)) (Q := fun _ s' => Q .next s') rfl hs hclos hkind hnames
    (wpAny_mono h (fun xv s₁ h₁ => wpAny_mono h₁ (fun it s₂ h₂ => ?_) fun _ _ e => e) fun _ _ e => e)) (fun _ s' hq => wpAny_pure (wpAny_pure hq)) fun _ _ e => e)
  obtain ⟨l₂, H₂, h₃⟩ := h₂
  refine comp_block (nms := nms) (RR := fun acc C => compPost (model prog w) A NoE (some (assign (.Name y py) env)) (fun _ s' => Q .next s') acc C) ok H₂ fun D C s₃ H₃ => codeAny_mono (h₃ D C s₃ H₃) fun r s' hr => ?_
  cases r with
  | ok f => exact wpAny_assign_Name (wpAny_mono hr (fun _ s'' q => CompFin.here q) fun _ _ e => e)
  | error e => exact hr.elim

def relS (scope osc : Scope) : Scope := { scope with names := scope.names.map fun (n, k) => if (k == .free && osc.kind == .function && osc.names.lookup n == some .cell) then (n, .cell) else (n, k) }
theorem fm_comp {qual : Str} {scope osc : Scope} {L f C : Addr} {cdv : Value} {cl cl0 : List (Str × Addr)} {ns csn gs : List Str} (h : scopeOk (relS scope osc) ns csn gs = true) (hc : cl.map (·.1) = csn) : Fm (compEnvC scope cl C (envX qual osc L f cdv cl0)) C ns cl gs := by
  unfold scopeOk at h
  simp only [Bool.and_eq_true, List.all_eq_true, decide_eq_true_eq, Bool.or_eq_true, Bool.not_eq_true'] at h
  obtain ⟨⟨⟨⟨h1, h2⟩, h3⟩, h4⟩, h5⟩ := h
  exact ⟨h1, rfl, rfl, rfl, fun x hx => ⟨(h2 x hx).1, (h2 x hx).2⟩, fun p hp => ⟨(h3 p.1 (hc ▸ List.mem_map_of_mem hp)).1, lookup_of_mem (hc ▸ h5) hp, (h3 p.1 (hc ▸ List.mem_map_of_mem hp)).2⟩,
    fun x hx => ⟨(h4 x hx).1, (h4 x hx).2⟩⟩
/-- the cells that a text takes along -/
theorem closure_fold {env : Env} {f : Str → Option Addr} : ∀ (names : List (Str × NameKind)) (cs : List (Str × Addr)), (∀ p ∈ names, p.2 = .free → env.cells.lookup p.1 = f p.1 ∧ (f p.1).isSome = true) →
    (forIn names cs (fun (x : Str × NameKind) (cs : List (Str × Addr)) => if (x.2 == NameKind.free) = true then (cellOf env x.1 >>= fun c => (pure (ForInStep.yield ((x.1, c) :: cs)) : Sem _)) else pure (ForInStep.yield cs)) : Sem (List (Str × Addr))) =
    pure (names.foldl (fun cs x => if (x.2 == NameKind.free) = true then (x.1, (f x.1).getD 0) :: cs else cs) cs)
  | [], cs, _ => rfl
  | (n, k) :: r, cs, h => by
    rw [List.forIn_cons]
    have ih := fun cs => closure_fold (env := env) (f := f) r cs fun p hp => h p (.tail _ hp)
    by_cases hk : k = .free
    · subst hk
      obtain ⟨h1, h2⟩ := h (n, .free) (.head _) rfl
      obtain ⟨c, hc⟩ := Option.isSome_iff_exists.mp h2
      have h1' : env.cells.lookup n = f n := h1
      have hc' : f n = some c := hc
      simp only [beq_self_eq_true, if_true, List.foldl_cons]
      have e : cellOf env n = pure c := by unfold cellOf; rw [h1', hc']
      rw [e, hc']
      exact ih _
    · have hb : (k == NameKind.free) = false := by simpa using hk
      simp only [hb, Bool.false_eq_true, if_false, List.foldl_cons]
      exact ih _
end
end Mine

-- MA
namespace Mine
open PySem PySem.W PySem.Calls PyProof.Rows
def pb : List Stmt := PySem.Challenge.pw_bs0018_01.main.body
def nthS : List Stmt → Nat → Stmt
  | s :: _, 0 => s
  | _ :: r, n + 1 => nthS r n
  | [], _ => .Pass ⟨0, 0, 0, 0⟩
def bodyS : Stmt → List Stmt
  | .FunctionDef _ _ b _ _ _ _ _ _ _ => b
  | .ClassDef _ _ _ b _ _ _ _ _ _ _ => b
  | .For _ _ b _ _ => b
  | .While _ b _ _ => b
  | .If _ b _ _ => b
  | _ => []
def elseS : Stmt → List Stmt
  | .If _ _ b _ => b
  | _ => []
def scopeS : Stmt → Scope
  | .FunctionDef _ _ _ _ _ _ sc _ _ _ => sc
  | _ => ⟨.module, [], false, false, []⟩
def argsS : Stmt → Arguments
  | .FunctionDef _ a _ _ _ _ _ _ _ _ => a
  | _ => ⟨[], [], none, [], [], none, []⟩
abbrev prog : Program := PySem.Challenge.pw_bs0018_01
def dLawNext : Stmt := nthS pb 18
def dLaw : Stmt := nthS pb 19
def dEk : Stmt := nthS pb 16
def dImpl : Stmt := nthS pb 15
def dCore : Stmt := nthS pb 14
def dCapFn : Stmt := nthS pb 12
def dBuild : Stmt := nthS pb 11
def cEdgeView : Stmt := nthS pb 7
def cGraph : Stmt := nthS pb 8
def cDi : Stmt := nthS pb 9
end Mine

-- MC1
namespace Mine
open PySem PySem.W PySem.Calls PyProof.Rows Builtin Builtin.ObjectAttr

section
variable {prog : Program} {w : World} {A : Around} {B : Bs} {l l' : Ledger} {s : Shared} {env : Env} {a : Addr} {v x : Value} {vs : List Value} {name : Str} {dx : Addr} {kvs : List (Str × Value)}

theorem set_ns {Q : Unit → Shared → Prop} (H : St prog w B l s) (hn : name ∉ kvs.map (·.1)) (hz : kvs.length ≤ 100) (u : Upd1 dx (.dS kvs) (.dS (kvs ++ [(name, v)])) l l')
    (h : ∀ s', St prog w B l' s' → Q () s') : WP prog w A (nsSet dx name v) Q s := by
  obtain ⟨od, hod, hon⟩ := H.get u.mem
  have D : s.heap.get? dx = some od := hod
  unfold nsSet
  refine wpAny_bind (wpAny_bind (wpAny_askSetting (wpAny_pure (wpAny_bind (wpAny_mkText (wpAny_bind (wpAny_loadPart D ?_)))))))
  obtain ⟨P1, es, n, rfl, hlen⟩ := putName_new (t := s.toks) (v := v) hon hn
  dsimp only
  have c : (!es.toArray.any (·.key.isStr name) && es.toArray.any (·.refKey)) = false := by
    have hl := look_dS hon name
    rw [lookIn_dict] at hl
    unfold getL at hl
    rw [← Array.any_toList, ← Array.any_toList]
    show (!es.any (·.key.isStr name) && es.any (·.refKey)) = false
    split at hl
    · rename_i en he
      rw [List.any_eq_true.mpr ⟨en, List.mem_of_find?_eq_some he, List.find?_some he⟩]; rfl
    · split at hl
      · cases hl
      · rename_i z; rw [Bool.not_eq_true] at z; rw [z, Bool.and_false]
  rw [aRefKeyMayBeTheName_at, c]
  refine wpAny_updatePart D ?_
  have hfree : (Obj.putName name (PyData.keyHash w.params name) (.str name s.toks) v (dictOf es n)).isFreed = false := by rw [putName_dict]; rfl
  have D' : (s.heap.update dx (Obj.putName name (PyData.keyHash w.params name) (.str name s.toks) v)).get? dx = some (Obj.putName name (PyData.keyHash w.params name) (.str name s.toks) v (dictOf es n)) := Heap.get?_update_self _ D hfree
  exact h _ (H.same (t := s.toks + 1) u (Heap.SameBut.update ..) ⟨_, D', P1⟩)

theorem alloc_d {Q : Addr → Shared → Prop} (H : St prog w B l s) (h : ∀ d s', St prog w B ((d, .dS []) :: l) s' → Q d s') : WP prog w A (alloc { cls := .type "dict", data := .dict #[] }) Q s :=
  wpAny_alloc (h _ _ (H.fresh (t := s.toks) (fun _ _ e => Heap.get?_push_of_some _ e) (Nat.le_refl _) (on_dS (Heap.DictOf.new _))))

/-- `super().name(x, **attr)` -/
theorem ev_super_star {c : Code} {p0 p1 : Pos} {nm : Str} {apos pos : Pos} {args : List Expr} {kws : List Keyword} {Q : Value → Shared → Prop}
    (h : WA prog w A c (attributeBase (.Call (.Name "super" p0) [] [] p1) nm env (eval (.Call (.Name "super" p0) [] [] p1) env)) (fun ov s₁ => WP prog w A (getAttr ov nm true) (fun fv s₂ => WP prog w A (callWith pos fv [] (backTo pos (starEach args env)) (backToKw pos (keywordEach kws env))) Q s₂) s₁) s)
    (hform : methodCallForm (args.length + kws.length) (backTo pos (starEach args env)) (backToKw pos (keywordEach kws env)) = false := by rfl) :
    WA prog w A c (eval (.Call (.Attribute (.Call (.Name "super" p0) [] [] p1) nm apos) args kws pos) env) Q s := by
  rw [arm_eval_Call]
  refine PySem.wpAt_bind (ks_wpAt_mono h (fun ov s₁ h₁ => ?_) fun _ _ e => e)
  refine PySem.wpAt_of_wpAny ?_
  refine wpAny_bind (wpAny_standAt ?_)
  unfold methodCall
  rw [hform]
  refine wpAny_bind (wpAny_holding ?_)
  show wpAny _ _ (getAttr ov nm true >>= fun f => pure (f, [])) _ _ _
  refine wpAny_bind (WP.mono h₁ fun fv s₂ h₂ => wpAny_pure ?_)
  exact wpAny_bind (wpAny_of_eq (a := pos) rfl h₂)
end
end Mine

-- MB12
namespace Mine
open PySem PySem.W PySem.Calls PyProof.Rows Builtin Builtin.ObjectAttr

section
variable {prog : Program} {w : World} {A : Around} {B : Bs} {l l' : Ledger} {s : Shared} {env : Env} {a d o : Addr} {v x : Value} {kvs more : List (Str × Value)} {kvi : List (Int × Value)} {ep : Nat}

inductive Apart (a b : Addr) : Ledger → Prop
  | head {x y r} : (b, y) ∈ r → Apart a b ((a, x) :: r)
  | head' {x y r} : (a, x) ∈ r → Apart a b ((b, y) :: r)
  | tail {p r} : Apart a b r → Apart a b (p :: r)
theorem Apart.ne {a b : Addr} {l : Ledger} (h : Apart a b l) (nd : (l.map (·.1)).Nodup) : a ≠ b := by
  induction h with
  | head hm => rw [List.map_cons, List.nodup_cons] at nd; rintro rfl; exact nd.1 (List.mem_map.mpr ⟨_, hm, rfl⟩)
  | head' hm => rw [List.map_cons, List.nodup_cons] at nd; rintro rfl; exact nd.1 (List.mem_map.mpr ⟨_, hm, rfl⟩)
  | tail _ ih => rw [List.map_cons, List.nodup_cons] at nd; exact ih nd.2
theorem St.apart (H : St prog w B l s) {a b : Addr} (h : Apart a b l) : a ≠ b := h.ne H.nd
/-- one entry, or one run of them, taken out -/
inductive Split (p : Addr × SO) : Ledger → Ledger → Prop
  | head {r} : Split p (p :: r) r
  | tail {q k r} : Split p k r → Split p (q :: k) (q :: r)
  | skip {z k r} : Split p k r → Split p (z ++ k) (z ++ r)
inductive SplitL (g : Ledger) : Ledger → Ledger → Prop
  | head {r} : SplitL g (g ++ r) r
  | last : SplitL g g []
  | tail {q k r} : SplitL g k r → SplitL g (q :: k) (q :: r)
  | skip {z k r} : SplitL g k r → SplitL g (z ++ k) (z ++ r)
theorem Split.perm {p : Addr × SO} {l r : Ledger} (h : Split p l r) : (p :: r).Perm l := by
  induction h with
  | head => exact .refl _
  | tail _ ih => exact (List.Perm.swap _ _ _).trans (ih.cons _)
  | skip _ ih => exact (List.perm_middle.symm).trans (ih.append_left _)
theorem SplitL.perm {g l r : Ledger} (h : SplitL g l r) : (g ++ r).Perm l := by
  induction h with
  | head => exact .refl _
  | last => rw [List.append_nil]
  | tail _ ih => exact List.perm_middle.trans (ih.cons _)
  | @skip z l r _ ih =>
    rw [← List.append_assoc]
    refine (List.perm_append_comm.append_right _).trans ?_
    rw [List.append_assoc]; exact ih.append_left _
/-- what is kept, in the order wished -/
inductive Sel : Ledger → Ledger → Prop
  | nil {q : Ledger} : Sel [] q
  | all {q : Ledger} : Sel q q
  | cons {p q k r} : Split p q r → Sel k r → Sel (p :: k) q
  | app {g q k r} : SplitL g q r → Sel k r → Sel (g ++ k) q
  | one {g q r} : SplitL g q r → Sel g q
theorem Sel.perm {l' l : Ledger} (h : Sel l' l) : ∃ d, (l' ++ d).Perm l := by
  induction h with
  | @nil q => exact ⟨q, .refl _⟩
  | all => exact ⟨[], by rw [List.append_nil]⟩
  | cons sp _ ih => obtain ⟨d, hd⟩ := ih; exact ⟨d, (hd.cons _).trans sp.perm⟩
  | app sp _ ih => obtain ⟨d, hd⟩ := ih; exact ⟨d, by rw [List.append_assoc]; exact (hd.append_left _).trans sp.perm⟩
  | one sp => exact ⟨_, sp.perm⟩
theorem St.sel (H : St prog w B l s) (h : Sel l' l) : St prog w B l' s := by
  obtain ⟨d, hd⟩ := h.perm
  have H1 := H.perm hd.symm
  exact H1.mono (fun _ h => List.mem_append_left _ h) (by have := H1.nd; rw [List.map_append] at this; exact (List.nodup_append.mp this).1)
theorem nodict_dS (H : St prog w B l s) (hm : (a, .dS kvs) ∈ l) : ∀ b, Value.ref a = .ref b → ∃ o, s.heap.get? b = some o ∧ o.dict = none := by
  intro b e; cases e
  obtain ⟨o, ho, es, ep, hx, _⟩ := H.get hm
  exact ⟨o, ho, hx.2.1⟩
theorem nodict_dI (H : St prog w B l s) (hm : (a, .dI kvi) ∈ l) : ∀ b, Value.ref a = .ref b → ∃ o, s.heap.get? b = some o ∧ o.dict = none := by
  intro b e; cases e
  obtain ⟨o, ho, es, ep, hx, _⟩ := H.get hm
  exact ⟨o, ho, hx.2.1⟩
theorem nodict_dE (H : St prog w B l s) (hm : (a, .dE kvi ep) ∈ l) : ∀ b, Value.ref a = .ref b → ∃ o, s.heap.get? b = some o ∧ o.dict = none := by
  intro b e; cases e
  obtain ⟨o, ho, es, hx, _⟩ := H.get hm
  exact ⟨o, ho, hx.2.1⟩
section
variable {pl : Sem Bool} {Q : Value × List Value → Shared → Prop}
theorem gm_update (H : St prog w B l s) (hm : (a, .dS kvs) ∈ l) (h : Q (.builtin "dict.update", [.ref a]) s) : WP prog w A (getMethod (.ref a) "update" pl) Q s :=
  gm_blt (H.dS hm).typeIs PySem.F.plainAttrs_dict F.slot_dict_update (by kernel_rfl) (nodict_dS H hm) h
theorem gm_getS (H : St prog w B l s) (hm : (a, .dS kvs) ∈ l) (h : Q (.builtin "dict.get", [.ref a]) s) : WP prog w A (getMethod (.ref a) "get" pl) Q s :=
  gm_blt (H.dS hm).typeIs PySem.F.plainAttrs_dict F.slot_dict_get (by kernel_rfl) (nodict_dS H hm) h
theorem gm_getI (H : St prog w B l s) (hm : (a, .dI kvi) ∈ l) (h : Q (.builtin "dict.get", [.ref a]) s) : WP prog w A (getMethod (.ref a) "get" pl) Q s :=
  gm_blt (H.dI hm).typeIs PySem.F.plainAttrs_dict F.slot_dict_get (by kernel_rfl) (nodict_dI H hm) h
theorem gm_itemsE (H : St prog w B l s) (hm : (a, .dE kvi ep) ∈ l) (h : Q (.builtin "dict.items", [.ref a]) s) : WP prog w A (getMethod (.ref a) "items" pl) Q s :=
  gm_blt (H.dEI hm).typeIs PySem.F.plainAttrs_dict F.slot_dict_items (by kernel_rfl) (nodict_dE H hm) h
theorem gm_valuesE (H : St prog w B l s) (hm : (a, .dE kvi ep) ∈ l) (h : Q (.builtin "dict.values", [.ref a]) s) : WP prog w A (getMethod (.ref a) "values" pl) Q s :=
  gm_blt (H.dEI hm).typeIs PySem.F.plainAttrs_dict F.slot_dict_values (by kernel_rfl) (nodict_dE H hm) h
end
section
variable {Q : Value → Shared → Prop}
theorem c_update (H : St prog w B l s) (hne : d ≠ o) (ho : (o, .dS more) ∈ l) {kvs' : List (Str × Value)} (hm : merged kvs more = kvs') (hsz : kvs.length + more.length ≤ sizeLine) (u : Upd1 d (.dS kvs) (.dS kvs') l l') (h : ∀ s', St prog w B l' s' → Q .none s') :
    WP prog w A (call (.builtin "dict.update") [.ref d, .ref o]) Q s :=
  call_meetsIn F.slot_dict_update (H.dS u.mem).typeIs F.entry_dict_update (F.args_dict_update_2 _ _) (meets_dict_update (strKind prog w) d o hne (H.lo ho))
    ⟨kvs, more, H.dS u.mem, H.dS ho, hsz, fun h' hd _ hs => h _ (H.same (t := s.toks) u hs (on_dS (hm ▸ hd)))⟩
theorem c_get2I {k : Int} {t : Tok} {dflt : Value} (H : St prog w B l s) (hm : (d, .dI kvi) ∈ l) (h : ∀ s', St prog w B l s' → Q ((valueAt kvi k).getD dflt) s') : WP prog w A (call (.builtin "dict.get") [.ref d, .int k t, dflt]) Q s :=
  call_meetsIn F.slot_dict_get (H.dI hm).typeIs F.entry_dict_get (F.args_dict_get_3 _ _ _) (meets_dict_get_default (intKind prog w) d (isI k t) (H.lo hm) dflt) ⟨_, (H.dI hm).mapOf, h _ (H.tok _)⟩
theorem c_get2S {k : Str} {t : Tok} {dflt : Value} (H : St prog w B l s) (hm : (d, .dS kvs) ∈ l) (h : ∀ s', St prog w B l s' → Q ((valueAt kvs k).getD dflt) s') : WP prog w A (call (.builtin "dict.get") [.ref d, .str k t, dflt]) Q s :=
  call_meetsIn F.slot_dict_get (H.dS hm).typeIs F.entry_dict_get (F.args_dict_get_3 _ _ _) (meets_dict_get_default (strKind prog w) d (isS k t) (H.lo hm) dflt) ⟨_, (H.dS hm).mapOf, h _ (H.tok _)⟩
def soView (T : String) (d : Addr) : SO := .raw { cls := .type T, data := .fields #[.ref d] }
theorem c_items (H : St prog w B l s) (hm : (d, .dE kvi ep) ∈ l) (h : ∀ v s', St prog w B ((v, soView "dict_items" d) :: l) s' → Q (.ref v) s') : WP prog w A (call (.builtin "dict.items") [.ref d]) Q s :=
  call_meetsIn F.slot_dict_items (H.dEI hm).typeIs F.entry_dict_items (F.args_dict_items_1 _) (meets_dict_items (intKind prog w) d (H.lo hm)) ⟨⟨_, H.dEI hm⟩, h _ _ (H.push (t := s.toks) rfl ⟨rfl, rfl⟩)⟩
theorem c_values (H : St prog w B l s) (hm : (d, .dE kvi ep) ∈ l) (h : ∀ v s', St prog w B ((v, soView "dict_values" d) :: l) s' → Q (.ref v) s') : WP prog w A (call (.builtin "dict.values") [.ref d]) Q s :=
  call_meetsIn F.slot_dict_values (H.dEI hm).typeIs F.entry_dict_values (F.args_dict_values_1 _) (meets_dict_values (intKind prog w) d (H.lo hm)) ⟨⟨_, H.dEI hm⟩, h _ _ (H.push (t := s.toks) rfl ⟨rfl, rfl⟩)⟩
theorem iter_items (H : St prog w B ((a, soView "dict_items" d) :: l) s) (hm : (d, .dE kvi ep) ∈ l) (h : ∀ it s', St prog w B ((it, soItems d kvi.length ep 0) :: l) s' → Q (.ref it) s') : WP prog w A (pyIter (.ref a)) Q s := by
  refine wpAny_pyIter_items (knd := intKind prog w) ⟨_, H.raw (.head _), rfl, rfl⟩ (H.drop.dE hm) (h _ _ (H.drop.push (t := s.toks) rfl ⟨_, _, rfl⟩))
theorem iter_values (H : St prog w B ((a, soView "dict_values" d) :: l) s) (hm : (d, .dE kvi ep) ∈ l) (h : ∀ it s', St prog w B ((it, soVals d kvi.length ep 0) :: l) s' → Q (.ref it) s') : WP prog w A (pyIter (.ref a)) Q s := by
  refine wpAny_pyIter_values (knd := intKind prog w) ⟨_, H.raw (.head _), rfl, rfl⟩ (H.drop.dE hm) (h _ _ (H.drop.push (t := s.toks) rfl ⟨rfl, rfl⟩))
end
end
end Mine

-- MB13
namespace Mine
open PySem PySem.W PySem.Calls PyProof.Rows Builtin Builtin.ObjectAttr

section
variable {prog : Program} {w : World} {A : Around} {B : Bs} {l l' : Ledger} {s : Shared} {env : Env} {a t : Addr} {v x : Value} {vs : List Value}
theorem unpack_tup {n : Nat} {Q : List Value → Shared → Prop} (hh : A.handled = none) (H : St prog w B l s) (hm : (t, .tp vs) ∈ l) (hn : n = vs.length) (h : ∀ s', St prog w B l s' → Q vs s') : WP prog w A (unpackItems (.ref t) n none) Q s := by
  have ht := H.tpI hm
  have hn' : n = vs.toArray.size := by rw [List.size_toArray]; exact hn
  subst hn'
  exact wpAny_unpackItems_tuple hh ht fun h' he => h _ (H.grow (t := s.toks) fun b o e => he b o (Nat.ne_of_lt (Heap.lt_size e)) e)
theorem assign_tup {elts : List Expr} {x1 : Nat} {pos : Pos} {Q : Unit → Shared → Prop} (hh : A.handled = none) (H : St prog w B l s) (hm : (t, .tp vs) ∈ l) (h : ∀ s', St prog w B l s' → WP prog w A (assignInOrder ((assignEach elts env).map (·.2)) vs) Q s')
    (hn : (assignEach elts env).length = vs.length := by rfl) (hstar : (assignEach elts env).findIdx? (·.1) = none := by rfl) : WP prog w A (assign (.Tuple elts x1 pos) env (.ref t)) Q s :=
  wpAny_assign_Tuple hh (H.tpI hm) (by rw [List.size_toArray]; exact hn) hstar fun h' he => h _ (H.grow (t := s.toks) fun b o e => he b o (Nat.ne_of_lt (Heap.lt_size e)) e)
theorem x_assign_swap {elts : List Expr} {k : Nat} {tpos pos : Pos} {value : Expr} (names : List Str) {Q : Flow → Shared → Prop} (hh : A.handled = none)
    (h : WP prog w A (eval value env) (fun v s₁ => ∃ t vs l, v = .ref t ∧ St prog w B l s₁ ∧ (t, .tp vs) ∈ l ∧ names.length = vs.length ∧ ∀ s₂, St prog w B l s₂ → WP prog w A (assignInOrder (names.reverse.map fun n => bindName env n) vs.reverse) (fun _ => Q .next) s₂) s)
    (hs : swapsWithSole [.Tuple elts k tpos] value pos.line env = pure false := by rfl) (hw : swappedStores [.Tuple elts k tpos] value env = pure (some names) := by rfl) : WP prog w A (exec (.Assign [.Tuple elts k tpos] value pos) env) Q s :=
  Assign_Tuple_swapped (WP.mono h fun v s₁ h₁ => by
    obtain ⟨t, vs, l, rfl, H, hm, hn, hq⟩ := h₁
    exact unpack_tup hh H hm hn fun s' H' => hq s' H') hs hw
theorem ao_nil {xs : List Value} {Q : Unit → Shared → Prop} (h : Q () s) : WP prog w A (assignInOrder [] xs) Q s := assignInOrder_nil h
theorem ao_cons {t : Value → Sem Unit} {ts : List (Value → Sem Unit)} {x : Value} {xs : List Value} {Q : Unit → Shared → Prop} (h : WP prog w A (t x) (fun _ s₁ => WP prog w A (assignInOrder ts xs) Q s₁) s) : WP prog w A (assignInOrder (t :: ts) (x :: xs)) Q s := assignInOrder_cons h
theorem st_loc2 {x : Str} {L : Addr} {ns gs : List Str} {cs : List (Str × Addr)} {kvs kvs' : List (Str × Option Value)} {Q : Unit → Shared → Prop} (F : Fm env L ns cs gs) (H : St prog w B l s) (hx : x ∈ ns) (hL : (L, .ns kvs) ∈ l) (p : Put x (some v) kvs kvs') (u : Upd1 L (.ns kvs) (.ns kvs') l l')
    (h : ∀ s', St prog w B l' s' → Q () s') : WP prog w A (storeName env x v) Q s := st_loc F H hx p u h
end
end Mine

-- MB14
namespace Mine
open PySem PySem.W PySem.Calls PyProof.Rows Builtin Builtin.ObjectAttr

section
variable {prog : Program} {w : World} {A : Around} {B : Bs} {l l' : Ledger} {s : Shared} {env : Env} {a t : Addr} {v : Value} {vs : List Value} {K : Frag} {x C dx f : Addr} {kvs : List (Str × Value)} {name : Str}

/-! keyword arguments -/
theorem call_kwP {pos : Pos} {f : Value} {first : List Value} {e : Expr} {r : List Expr} {kws : List Keyword} {Q : Value → Shared → Prop}
    (h : WP prog w A (spliced (backTo pos (starEach (e :: r) env))) (fun vs s₁ => WP prog w A (evalAll ((backToKw pos (keywordEach kws env)).map (·.2))) (fun ks s₂ => Keeps1 (model prog w) f s₂.heap ∧ WP prog w A (call f (first ++ vs) (((backToKw pos (keywordEach kws env)).filterMap (·.1)).zip ks)) Q s₂) s₁) s)
    (hall : (backToKw pos (keywordEach kws env)).all (·.1.isSome) = true := by rfl) (hplain : ((backTo pos (starEach (e :: r) env)).any (·.1) || (backToKw pos (keywordEach kws env)).any (·.1.isNone)) = false := by rfl) (he : starEach (e :: r) env = (false, eval e env) :: starEach r env := by rfl) :
    WP prog w A (callWith pos f first (backTo pos (starEach (e :: r) env)) (backToKw pos (keywordEach kws env))) Q s :=
  call_with hplain (evalArgs_kw2 hall h he)
theorem kw_nil {pos : Pos} {Q : List Value → Shared → Prop} (h : Q [] s) : WP prog w A (evalAll ((backToKw pos (keywordEach [] env)).map (·.2))) Q s := kwAll_nil h
theorem kw_cons {pos p : Pos} {name : Str} {value : Expr} {rest : List Keyword} {Q : List Value → Shared → Prop}
    (h : WP prog w A (eval value env) (fun v s₁ => WP prog w A (evalAll ((backToKw pos (keywordEach rest env)).map (·.2))) (fun vs s₂ => Q (v :: vs) s₂) s₁) s) :
    WP prog w A (evalAll ((backToKw pos (keywordEach (⟨some name, value, p⟩ :: rest) env)).map (·.2))) Q s := kwAll_cons h

/-! a property asked for as a method is -/
def propMeth (K : Frag) (C : Addr) (name : Str) : Bool := plainGet K C name && (match findIn K (.ref C) name with
  | some r => r.all (fun a => (typeIn K a).any fun t => t != .type "function" && t != .type "method_descriptor" && t != .type "wrapper_descriptor")
  | none => false)
theorem gm_prop {fget : Addr} {pl : Sem Bool} {Q : Value × List Value → Shared → Prop} (H : St prog w B l s) (X : K.In B.h) (I : Inst prog w s.heap x C dx kvs) (hm : propMeth K C name = true) (hk : propName K C name fget = true)
    (h : ∀ s', St prog w B l s' → WC prog w A.in1 (.ref fget) [.ref x] [] (fun v s₁ => handedIn v = true ∧ Q (v, []) s₁) s') : WP prog w A (getMethod (.ref x) name pl) Q s := by
  obtain ⟨o, I', hl⟩ := I.look
  unfold propMeth at hm
  obtain ⟨h1, h2⟩ := Bool.and_eq_true_iff.mp hm
  split at h2
  · rename_i r hr
    exact method_usual (X.keeps H.keep) I' (plainGet_of h1).1 (plainGet_of h1).2 hr h2 (at_prop H X I hk h)
  · cases h2

/-- an own object called, keyword arguments alone -/
theorem call_inst_kw {pos : Pos} {kws : List Keyword} {Q : Value → Shared → Prop} (X : K.In B.h)
    (hs : findIn K (.ref C) "__call__" = some (some (.ref f))) (hf : isFn K (.ref f) = true) (hfn : fnIn K f = true)
    (h : WP prog w A (evalAll ((backToKw pos (keywordEach kws env)).map (·.2))) (fun ks s₂ => ∃ l kvs, St prog w B l s₂ ∧ Inst prog w s₂.heap x C dx kvs ∧ WC prog w A (.ref f) [.ref x] (((backToKw pos (keywordEach kws env)).filterMap (·.1)).zip ks) Q s₂) s)
    (hall : (backToKw pos (keywordEach kws env)).all (·.1.isSome) = true := by rfl) (hplain : ((backTo pos (starEach [] env)).any (·.1) || (backToKw pos (keywordEach kws env)).any (·.1.isNone)) = false := by rfl) :
    WP prog w A (callWith pos (.ref x) [] (backTo pos (starEach [] env)) (backToKw pos (keywordEach kws env))) Q s := by
  unfold callWith
  refine wpAny_bind (wpAny_holding (WP.mono (Q := fun a s₂ => ∃ l kvs, St prog w B l s₂ ∧ Inst prog w s₂.heap x C dx kvs ∧ WP prog w A (call (.ref x) ([] ++ a.pos) a.kw) Q s₂) (evalArgs_kw2_nil hall (WP.mono h fun ks s₂ h₂ => ?_)) fun a s₁ h₁ => wpAny_bind (wpAny_standAt ?_)))
  · obtain ⟨l, kvs, H, I, hc⟩ := h₂
    obtain ⟨o, I', _⟩ := I.look
    exact ⟨l, kvs, H, I, call_of (kco_code (X.keeps H.keep) I' rfl hs hf hfn hc)⟩
  · obtain ⟨l, kvs, H, I, hc⟩ := h₁
    obtain ⟨o, I', _⟩ := I.look
    have L := kco_keeper (M := model prog w) I' rfl
    rw [hplain]
    refine wpAny_bind (L.here ?_)
    have tail : ∀ {t : Sem Value}, wpAny (model prog w) A t Q NoE s₁ → wpAny (model prog w) A (t >>= fun r => holding [r] point >>= fun _ => pure r) Q NoE s₁ :=
      fun ht => wpAny_bind (wpAny_mono ht (fun r s₂ hr => wpAny_bind (wpAny_holding (wpAny_point (wpAny_pure hr)))) fun _ _ y => y)
    exact tail (wpAny_operateT hc)

/-! floats -/
def infBits : UInt64 := (Num.parseText? (Str.ofString "inf")).getD 0
theorem parse_inf : Num.parseText? (Str.ofString "inf") = some infBits := by
  have h : (Num.parseText? (Str.ofString "inf")).isSome = true := by decide +kernel
  unfold infBits
  obtain ⟨b, hb⟩ := Option.isSome_iff_exists.mp h
  rw [hb]; rfl
theorem dec_inf : Float64.decode infBits = .inf false := by
  have : (match Float64.decode infBits with | .inf false => true | _ => false) = true := by decide +kernel
  revert this
  cases Float64.decode infBits with
  | inf b => cases b <;> simp
  | _ => simp
theorem cmp_inf (n : Int) : Float64.cmpInt infBits n = some .gt := by unfold Float64.cmpInt; rw [dec_inf]; rfl
theorem float_inf {t : Tok} {Q : Value → Shared → Prop} (H : St prog w B l s) (h : ∀ t s', St prog w B l s' → Q (.float infBits t) s') : WP prog w A (call (.type "float") [.str (Str.ofString "inf") t]) Q s :=
  call_float_1 (PySem.Flt.meets_float_new_str _ t parse_inf) (show (Made.float infBits).post _ s from ⟨rfl, h _ _ (H.tok _)⟩)
theorem lt_inf {n : Int} {t u : Tok} {Q : Value → Shared → Prop} (h : Q (.bool true) s) : WP prog w A (compareOp .Lt (.int n u) (.float infBits t)) Q s :=
  lt_if (by rw [cmp_inf]; exact h)
theorem ne_inf {n : Int} {t u : Tok} {Q : Value → Shared → Prop} (h : Q (.bool true) s) : WP prog w A (compareOp .NotEq (.int n u) (.float infBits t)) Q s :=
  ne_if (by rw [cmp_inf]; exact h)

/-! callable of a str -/
theorem str_no_call : typeLookup (.type "str") "__call__" = pure none := by rw [typeLookup_type, builtinLookup_eq_fast]; kernel_rfl
theorem entry_callable : entryFor table "callable" = some Builtin.«callable» := entryFor_of_fast (by kernel_rfl)
theorem args_callable (a : Value) : argsOk "callable" ⟨[a], []⟩ := by unfold argsOk; kernel_rfl
theorem callable_str {k : Str} {t : Tok} {Q : Value → Shared → Prop} (h : Q (.bool false) s) : WP prog w A (call (.builtin "callable") [.str k t]) Q s := by
  refine Calls.call_function_entry (by decide +kernel) (by decide +kernel) entry_callable (args_callable _) ?_
  unfold Builtin.«callable»
  refine wpAny_bind (m := oneArg "callable" _) (wpAny_pure ?_)
  refine wpAny_bind (wpAny_specialOf (T := "str") (typeIs_str _ _ _) str_no_call ?_)
  exact wpAny_pure ⟨_, rfl, h⟩
end
end Mine

-- MB15
namespace Mine
open PySem PySem.W PySem.Calls PyProof.Rows Builtin Builtin.ObjectAttr

section
variable {prog : Program} {w : World} {A : Around} {B : Bs} {l l' : Ledger} {s : Shared} {env : Env} {d : Addr} {v : Value} {kvs : List (Int × Value)}
theorem list_dict {Q : Value → Shared → Prop} (hh : A.handled = none) (H : St prog w B l s) (hm : (d, .dI kvs) ∈ l) (hn : kvs.length ≤ 1000)
    (h : ∀ D (vs : List Value) s', vs.length = kvs.length → (∀ (j : Nat) v, vs[j]? = some v → ∃ k x t, kvs[j]? = some (k, x) ∧ v = Value.int k t) → St prog w B ((D, .ls vs) :: l) s' → Q (.ref D) s') : WP prog w A (call (.type "list") [.ref d]) Q s := by
  obtain ⟨ep, hd⟩ := (H.dI hm).dictAt
  refine kdl_call (kdl_dict (knd := intKind prog w) (kvs := kvs) (ep := ep) (H.lo hm)) hh hd (Nat.le_trans hn (by rw [sizeLine_eq]; decide)) fun h' tk acc' c' hk hD hacc => ?_
  refine h _ acc'.toList _ (by rw [Array.length_toList]; exact hacc.1) (fun j v e => ?_) (H.fresh (t := tk) hk (Nat.le_refl _) ⟨_, hD, c', by simp⟩)
  obtain ⟨k, x, h1, h2⟩ := hacc.2 j v (by rw [← Array.getElem?_toList]; exact e)
  obtain ⟨t, rfl⟩ := Value.isInt_shape (show Value.isInt k v = true from h2)
  exact ⟨k, x, t, h1, rfl⟩
theorem keeps_cls {K : Frag} {C : Addr} {h : Heap} (X : K.In h) (hc : (clsIn K C).isSome = true) (hs : specialIn K (.ref C) "__call__" = some (some (.builtin "type.__call__"))) : Keeps1 (model prog w) (.ref C) h := by
  unfold clsIn at hc
  split at hc
  · rename_i e
    refine ⟨.machine, .inr (.inl rfl), (Looks.ld (part := none) (X _ _ e)).andThen ?_⟩
    exact (looks_specialIn X hs).andThen (by simp only [beq_self_eq_true, if_true]; exact .now)
  · cases hc
theorem iter_self_list {a it : Addr} {i : Nat} {Q : Value → Shared → Prop} (H : St prog w B l s) (hm : (it, soList a i) ∈ l) (h : Q (.ref it) s) : WP prog w A (pyIter (.ref it)) Q s := by
  obtain ⟨o, ho, h1, h2⟩ := H.get hm
  exact wpAny_pyIter_listiter ⟨o, ho, h1, h2⟩ h
theorem iter_self_range {it : Addr} {n i : Nat} {Q : Value → Shared → Prop} (hh : A.handled = none) (H : St prog w B l s) (hm : (it, soRange n i) ∈ l) (h : Q (.ref it) s) : WP prog w A (pyIter (.ref it)) Q s := by
  have W := Walks.range (prog := prog) (w := w) hh it 0 1 n
  obtain ⟨o, ho, rfl, _⟩ := H.get hm
  exact W.self i s _ _ ho h
theorem iter_self_tup {a it : Addr} {i : Nat} {vs : List Value} {Q : Value → Shared → Prop} (hh : A.handled = none) (hne : a ≠ it) (ha : s.heap.IsTuple a vs.toArray) (H : St prog w B l s) (hm : (it, soTup a i) ∈ l) (h : Q (.ref it) s) : WP prog w A (pyIter (.ref it)) Q s := by
  have W := Walks.tuple (prog := prog) (w := w) hh it a hne vs.toArray
  obtain ⟨o, ho, h1, h2⟩ := H.get hm
  exact W.self i s _ _ ⟨⟨o, ho, h1, h2⟩, ha⟩ h
end
end Mine

-- MC0
namespace Mine
open PySem PySem.W PySem.Calls PyProof.Rows Builtin Builtin.ObjectAttr

def mDi (i : Nat) : Stmt := nthS (bodyS cDi) i
def mG (i : Nat) : Stmt := nthS (bodyS cGraph) i
def mE (i : Nat) : Stmt := nthS (bodyS cEdgeView) i

structure KP (mg mb : Str → Option Value) (K : Frag) (h : Heap) : Prop extends Tp mg mb K h where
  f_init : FnAt h 320 "DiGraph.__init__" (argsS (mDi 0)) (bodyS (mDi 0)) (scopeS (mDi 0)) [("__class__", 307)] (.ref 312) .none (.ref 319)
  f_succ_ : FnAt h 327 "DiGraph._succ" (argsS (mDi 1)) (bodyS (mDi 1)) (scopeS (mDi 1)) [] .none .none (.ref 326)
  f_succ : FnAt h 335 "DiGraph.succ" (argsS (mDi 2)) (bodyS (mDi 2)) (scopeS (mDi 2)) [] .none .none (.ref 334)
  f_pred : FnAt h 343 "DiGraph.pred" (argsS (mDi 3)) (bodyS (mDi 3)) (scopeS (mDi 3)) [] .none .none (.ref 342)
  f_add_node : FnAt h 352 "DiGraph.add_node" (argsS (mDi 4)) (bodyS (mDi 4)) (scopeS (mDi 4)) [("__class__", 307)] .none .none (.ref 351)
  f_add_edge : FnAt h 359 "DiGraph.add_edge" (argsS (mDi 5)) (bodyS (mDi 5)) (scopeS (mDi 5)) [] .none .none (.ref 358)
  f_is_directed : FnAt h 387 "DiGraph.is_directed" (argsS (mDi 9)) (bodyS (mDi 9)) (scopeS (mDi 9)) [] .none .none (.ref 386)
  f_edge_rows : FnAt h 392 "DiGraph.edge_rows" (argsS (mDi 10)) (bodyS (mDi 10)) (scopeS (mDi 10)) [] .none .none (.ref 391)
  g_init : FnAt h 140 "Graph.__init__" (argsS (mG 0)) (bodyS (mG 0)) (scopeS (mG 0)) [] (.ref 133) .none (.ref 139)
  g_nodes : FnAt h 155 "Graph.nodes" (argsS (mG 2)) (bodyS (mG 2)) (scopeS (mG 2)) [] .none .none (.ref 154)
  g_edges : FnAt h 163 "Graph.edges" (argsS (mG 3)) (bodyS (mG 3)) (scopeS (mG 3)) [] .none .none (.ref 162)
  g_iter : FnAt h 171 "Graph.__iter__" (argsS (mG 4)) (bodyS (mG 4)) (scopeS (mG 4)) [] .none .none (.ref 170)
  g_contains : FnAt h 178 "Graph.__contains__" (argsS (mG 5)) (bodyS (mG 5)) (scopeS (mG 5)) [] .none .none (.ref 177)
  g_getitem : FnAt h 192 "Graph.__getitem__" (argsS (mG 7)) (bodyS (mG 7)) (scopeS (mG 7)) [] .none .none (.ref 191)
  g_add_node : FnAt h 199 "Graph.add_node" (argsS (mG 8)) (bodyS (mG 8)) (scopeS (mG 8)) [] .none .none (.ref 198)
  g_add_nodes_from : FnAt h 206 "Graph.add_nodes_from" (argsS (mG 9)) (bodyS (mG 9)) (scopeS (mG 9)) [] .none .none (.ref 205)
  g_has_edge : FnAt h 249 "Graph.has_edge" (argsS (mG 15)) (bodyS (mG 15)) (scopeS (mG 15)) [] .none .none (.ref 248)
  g_is_multigraph : FnAt h 284 "Graph.is_multigraph" (argsS (mG 20)) (bodyS (mG 20)) (scopeS (mG 20)) [] .none .none (.ref 283)
  e_init : FnAt h 84 "EdgeView.__init__" (argsS (mE 0)) (bodyS (mE 0)) (scopeS (mE 0)) [] .none .none (.ref 83)
  e_call : FnAt h 118 "EdgeView.__call__" (argsS (mE 5)) (bodyS (mE 5)) (scopeS (mE 5)) [] (.ref 113) .none (.ref 117)
  p_build : FnAt h 402 "build_residual_network" (argsS (dBuild)) (bodyS (dBuild)) (scopeS (dBuild)) [] .none .none (.ref 401)
  p_cap : FnAt h 409 "_capacity_function" (argsS (dCapFn)) (bodyS (dCapFn)) (scopeS (dCapFn)) [] .none .none (.ref 408)
  p_core : FnAt h 416 "edmonds_karp_core" (argsS (dCore)) (bodyS (dCore)) (scopeS (dCore)) [] .none .none (.ref 415)
  p_impl : FnAt h 423 "edmonds_karp_impl" (argsS (dImpl)) (bodyS (dImpl)) (scopeS (dImpl)) [] .none .none (.ref 422)
  p_ek : FnAt h 431 "edmonds_karp" (argsS (dEk)) (bodyS (dEk)) (scopeS (dEk)) [] (.ref 424) .none (.ref 430)
  p_next : FnAt h 438 "_law_next" (argsS (dLawNext)) (bodyS (dLawNext)) (scopeS (dLawNext)) [] .none .none (.ref 437)
  cell307 : ∃ o, h.get? 307 = some o ∧ o.data = .cell (some (.ref 395))
  file319 : CodeFile h (.ref 319) prog.main.file
  file351 : CodeFile h (.ref 351) prog.main.file
  t133 : ∃ o n, h.get? 133 = some o ∧ o.data = .seq #[Value.none] n
  t312 : ∃ o n, h.get? 312 = some o ∧ o.data = .seq #[Value.none] n
  t113 : ∃ o n, h.get? 113 = some o ∧ o.data = .seq #[Value.none, Value.bool false, Value.none] n
  t424 : ∃ o n t, h.get? 424 = some o ∧ o.data = .seq #[Value.str "capacity" t, Value.none, Value.bool false, Value.none] n
  o__adj_395 : ownName K 395 "_adj" = true
  o__node_395 : ownName K 395 "_node" = true
  o__pred_395 : ownName K 395 "_pred" = true
  o_graph_395 : ownName K 395 "graph" = true
  o__graph_121 : ownName K 121 "_graph" = true
  q__succ : propName K 395 "_succ" 327 = true
  q_succ : propName K 395 "succ" 335 = true
  q_pred : propName K 395 "pred" 343 = true
  q_nodes : propName K 395 "nodes" 155 = true
  q_edges : propName K 395 "edges" 163 = true
  m_add_node : methName K 395 "add_node" 352 = true
  m_add_edge : methName K 395 "add_edge" 359 = true
  m_is_directed : methName K 395 "is_directed" 387 = true
  m_edge_rows : methName K 395 "edge_rows" 392 = true
  m_add_nodes_from : methName K 395 "add_nodes_from" 206 = true
  m_has_edge : methName K 395 "has_edge" 249 = true
  m_is_multigraph : methName K 395 "is_multigraph" 284 = true
  s__adj_395 : storeName_ok K 395 "_adj" = true
  s__node_395 : storeName_ok K 395 "_node" = true
  s__pred_395 : storeName_ok K 395 "_pred" = true
  s_graph_395 : storeName_ok K 395 "graph" = true
  s__graph_121 : storeName_ok K 121 "_graph" = true
  sp_contains : findIn K (.ref 395) "__contains__" = some (some (.ref 178))
  sp_getitem : findIn K (.ref 395) "__getitem__" = some (some (.ref 192))
  sp_iter : findIn K (.ref 395) "__iter__" = some (some (.ref 171))
  sp_call : findIn K (.ref 121) "__call__" = some (some (.ref 118))
  sp_init : findIn K (.ref 395) "__init__" = some (some (.ref 320))
  sp_einit : findIn K (.ref 121) "__init__" = some (some (.ref 84))
  su_ok : superOk K 395 395 = true
  su_init : superMeth K 395 395 "__init__" 140 = true
  su_add : superMeth K 395 395 "add_node" 199 = true
  cls299 : clsOk K 299 = true
  sub299 : subIn K (.type "NoneType") (.ref 299) = some false
  clsC121 : specialIn K (.ref 121) "__call__" = some (some (.builtin "type.__call__"))
  clsC395 : specialIn K (.ref 395) "__call__" = some (some (.builtin "type.__call__"))
  clsD121 : (clsIn K 121).isSome = true
  clsD395 : (clsIn K 395).isSome = true
  pm_edges : propMeth K 395 "edges" = true
  bmain : ∃ bm ob, mg "__builtins__" = some (.ref bm) ∧ bm ≠ builtinsNs ∧ h.get? bm = some ob ∧ ob.cls = .type "module" ∧ ob.dict = some builtinsNs ∧ ob.data = .plain
  hd415 : CodeHd h 415 411
  hd408 : CodeHd h 408 404
  hd401 : CodeHd h 401 399
  hd395 : hasDictIn K 395 = true
  mk395 : makesIn K 395 = true
  mk121 : makesIn K 121 = true
  fn84 : isFn K (.ref 84) = true
  fi84 : fnIn K 84 = true
  fn118 : isFn K (.ref 118) = true
  fi118 : fnIn K 118 = true
  fn140 : isFn K (.ref 140) = true
  fi140 : fnIn K 140 = true
  fn155 : isFn K (.ref 155) = true
  fi155 : fnIn K 155 = true
  fn163 : isFn K (.ref 163) = true
  fi163 : fnIn K 163 = true
  fn171 : isFn K (.ref 171) = true
  fi171 : fnIn K 171 = true
  fn178 : isFn K (.ref 178) = true
  fi178 : fnIn K 178 = true
  fn192 : isFn K (.ref 192) = true
  fi192 : fnIn K 192 = true
  fn199 : isFn K (.ref 199) = true
  fi199 : fnIn K 199 = true
  fn206 : isFn K (.ref 206) = true
  fi206 : fnIn K 206 = true
  fn249 : isFn K (.ref 249) = true
  fi249 : fnIn K 249 = true
  fn284 : isFn K (.ref 284) = true
  fi284 : fnIn K 284 = true
  fn320 : isFn K (.ref 320) = true
  fi320 : fnIn K 320 = true
  fn327 : isFn K (.ref 327) = true
  fi327 : fnIn K 327 = true
  fn335 : isFn K (.ref 335) = true
  fi335 : fnIn K 335 = true
  fn343 : isFn K (.ref 343) = true
  fi343 : fnIn K 343 = true
  fn352 : isFn K (.ref 352) = true
  fi352 : fnIn K 352 = true
  fn359 : isFn K (.ref 359) = true
  fi359 : fnIn K 359 = true
  fn387 : isFn K (.ref 387) = true
  fi387 : fnIn K 387 = true
  fn392 : isFn K (.ref 392) = true
  fi392 : fnIn K 392 = true
  fn402 : isFn K (.ref 402) = true
  fi402 : fnIn K 402 = true
  fn409 : isFn K (.ref 409) = true
  fi409 : fnIn K 409 = true
  fn416 : isFn K (.ref 416) = true
  fi416 : fnIn K 416 = true
  fn423 : isFn K (.ref 423) = true
  fi423 : fnIn K 423 = true
  fn431 : isFn K (.ref 431) = true
  fi431 : fnIn K 431 = true
  fn438 : isFn K (.ref 438) = true
  fi438 : fnIn K 438 = true
  bg352 : specialIn K (.ref 352) "__get__" = some (some (.builtin "function.__get__"))
  bt352 : takesIn K (.ref 352) = some false
  bg206 : specialIn K (.ref 206) "__get__" = some (some (.builtin "function.__get__"))
  bt206 : takesIn K (.ref 206) = some false
  bg199 : specialIn K (.ref 199) "__get__" = some (some (.builtin "function.__get__"))
  bt199 : takesIn K (.ref 199) = some false
  bg140 : specialIn K (.ref 140) "__get__" = some (some (.builtin "function.__get__"))
  bt140 : takesIn K (.ref 140) = some false
  bg320 : specialIn K (.ref 320) "__get__" = some (some (.builtin "function.__get__"))
  bt320 : takesIn K (.ref 320) = some false
  gl_DiGraph : mg "DiGraph" = some (.ref 395)
  gl_Graph : mg "Graph" = some (.ref 299)
  gl_EdgeView : mg "EdgeView" = some (.ref 121)
  gl_build_residual_network : mg "build_residual_network" = some (.ref 402)
  gl__capacity_function : mg "_capacity_function" = some (.ref 409)
  gl_edmonds_karp_core : mg "edmonds_karp_core" = some (.ref 416)
  gl_edmonds_karp_impl : mg "edmonds_karp_impl" = some (.ref 423)
  gl_edmonds_karp : mg "edmonds_karp" = some (.ref 431)
  gl__law_next : mg "_law_next" = some (.ref 438)
  gb_len : mg "len" = none
  gb_range : mg "range" = none
  gb_min : mg "min" = none
  gb_max : mg "max" = none
  gb_sum : mg "sum" = none
  gb_sorted : mg "sorted" = none
  gb_list : mg "list" = none
  gb_iter : mg "iter" = none
  gb_next : mg "next" = none
  gb_float : mg "float" = none
  gb_callable : mg "callable" = none
  gb_isinstance : mg "isinstance" = none
  gb_super : mg "super" = none
  gb_bool : mg "bool" = none
end Mine

-- HeadT
namespace Mine
open PySem PySem.W PyProof.Rows
set_option maxRecDepth 100000 in
set_option maxHeartbeats 8000000 in
open_top topHd for PySem.Challenge.rw_bs0018_01
end Mine

-- HF
namespace Mine
open PySem PySem.W PySem.Calls PyProof.Rows

def objOf (K : Frag) (a : Addr) : Obj := (K.lookup a).getD default
def fdOf (o : Obj) : FuncData := match o.data with | .func fd => fd | _ => default
def seqN (o : Obj) : Nat := match o.data with | .seq _ n => n | _ => 0
def tokAt (o : Obj) (i : Nat) : Tok := match o.data with | .fields vs => (match vs[i]? with | some (.str _ t) => t | _ => 0) | .seq vs _ => (match vs[i]? with | some (.str _ t) => t | _ => 0) | _ => 0
def fieldsOfO (o : Obj) : Array Value := match o.data with | .fields vs => vs | _ => #[]
theorem objOf_get {K : Frag} {h : Heap} (X : K.In h) {a : Addr} (e : (K.lookup a).isSome = true) : h.get? a = some (objOf K a) := by
  obtain ⟨o, ho⟩ := Option.isSome_iff_exists.mp e
  refine X a _ ?_
  unfold objOf; rw [ho]; rfl
theorem fnAt_mk {K : Frag} {h : Heap} (X : K.In h) {f c : Addr} {qual : Str} {params : Arguments} {body : List Stmt} {scope : Scope} {cl : List (Str × Addr)} {dV kV : Value} (e : (K.lookup f).isSome = true) (ec : (K.lookup c).isSome = true)
    (hd : (objOf K f).data = .func (fnX (fdOf (objOf K f)).name qual params body scope cl dV kV (fdOf (objOf K f)).doc (fdOf (objOf K f)).pyModule (fdOf (objOf K f)).annotations (.ref c) (fdOf (objOf K f)).closureTuple))
    (hc : (objOf K c).data = .fields (fieldsOfO (objOf K c))) (hq : (fieldsOfO (objOf K c))[1]? = some (.str qual (tokAt (objOf K c) 1))) : FnAt h f qual params body scope cl dV kV (.ref c) :=
  ⟨⟨_, _, _, _, _, _, objOf_get X e, hd⟩, ⟨_, _, _, _, rfl, objOf_get X ec, hc, hq⟩⟩

theorem kp_inst (p : Params) (mg mb : Str → Option Value) (h : Heap) (T : Tp mg mb (topHd.heap_39 p) h)
    (h_DiGraph : mg "DiGraph" = some (.ref 395))
    (h_Graph : mg "Graph" = some (.ref 299))
    (h_EdgeView : mg "EdgeView" = some (.ref 121))
    (h_build_residual_network : mg "build_residual_network" = some (.ref 402))
    (h__capacity_function : mg "_capacity_function" = some (.ref 409))
    (h_edmonds_karp_core : mg "edmonds_karp_core" = some (.ref 416))
    (h_edmonds_karp_impl : mg "edmonds_karp_impl" = some (.ref 423))
    (h_edmonds_karp : mg "edmonds_karp" = some (.ref 431))
    (h__law_next : mg "_law_next" = some (.ref 438))
    (hb_len : mg "len" = none)
    (hb_range : mg "range" = none)
    (hb_min : mg "min" = none)
    (hb_max : mg "max" = none)
    (hb_sum : mg "sum" = none)
    (hb_sorted : mg "sorted" = none)
    (hb_list : mg "list" = none)
    (hb_iter : mg "iter" = none)
    (hb_next : mg "next" = none)
    (hb_float : mg "float" = none)
    (hb_callable : mg "callable" = none)
    (hb_isinstance : mg "isinstance" = none)
    (hb_super : mg "super" = none)
    (hb_bool : mg "bool" = none)
    (hbm : ∃ bm ob, mg "__builtins__" = some (.ref bm) ∧ bm ≠ builtinsNs ∧ h.get? bm = some ob ∧ ob.cls = .type "module" ∧ ob.dict = some builtinsNs ∧ ob.data = .plain) (hc415 : CodeHd h 415 411) (hc408 : CodeHd h 408 404) (hc401 : CodeHd h 401 399)
    : KP mg mb (topHd.heap_39 p) h where
  toTp := T
  bmain := hbm
  hd415 := hc415
  hd408 := hc408
  hd401 := hc401
  f_init := fnAt_mk T.X (by kernel_rfl) (by kernel_rfl) (by kernel_rfl) (by kernel_rfl) (by kernel_rfl)
  f_succ_ := fnAt_mk T.X (by kernel_rfl) (by kernel_rfl) (by kernel_rfl) (by kernel_rfl) (by kernel_rfl)
  f_succ := fnAt_mk T.X (by kernel_rfl) (by kernel_rfl) (by kernel_rfl) (by kernel_rfl) (by kernel_rfl)
  f_pred := fnAt_mk T.X (by kernel_rfl) (by kernel_rfl) (by kernel_rfl) (by kernel_rfl) (by kernel_rfl)
  f_add_node := fnAt_mk T.X (by kernel_rfl) (by kernel_rfl) (by kernel_rfl) (by kernel_rfl) (by kernel_rfl)
  f_add_edge := fnAt_mk T.X (by kernel_rfl) (by kernel_rfl) (by kernel_rfl) (by kernel_rfl) (by kernel_rfl)
  f_is_directed := fnAt_mk T.X (by kernel_rfl) (by kernel_rfl) (by kernel_rfl) (by kernel_rfl) (by kernel_rfl)
  f_edge_rows := fnAt_mk T.X (by kernel_rfl) (by kernel_rfl) (by kernel_rfl) (by kernel_rfl) (by kernel_rfl)
  g_init := fnAt_mk T.X (by kernel_rfl) (by kernel_rfl) (by kernel_rfl) (by kernel_rfl) (by kernel_rfl)
  g_nodes := fnAt_mk T.X (by kernel_rfl) (by kernel_rfl) (by kernel_rfl) (by kernel_rfl) (by kernel_rfl)
  g_edges := fnAt_mk T.X (by kernel_rfl) (by kernel_rfl) (by kernel_rfl) (by kernel_rfl) (by kernel_rfl)
  g_iter := fnAt_mk T.X (by kernel_rfl) (by kernel_rfl) (by kernel_rfl) (by kernel_rfl) (by kernel_rfl)
  g_contains := fnAt_mk T.X (by kernel_rfl) (by kernel_rfl) (by kernel_rfl) (by kernel_rfl) (by kernel_rfl)
  g_getitem := fnAt_mk T.X (by kernel_rfl) (by kernel_rfl) (by kernel_rfl) (by kernel_rfl) (by kernel_rfl)
  g_add_node := fnAt_mk T.X (by kernel_rfl) (by kernel_rfl) (by kernel_rfl) (by kernel_rfl) (by kernel_rfl)
  g_add_nodes_from := fnAt_mk T.X (by kernel_rfl) (by kernel_rfl) (by kernel_rfl) (by kernel_rfl) (by kernel_rfl)
  g_has_edge := fnAt_mk T.X (by kernel_rfl) (by kernel_rfl) (by kernel_rfl) (by kernel_rfl) (by kernel_rfl)
  g_is_multigraph := fnAt_mk T.X (by kernel_rfl) (by kernel_rfl) (by kernel_rfl) (by kernel_rfl) (by kernel_rfl)
  e_init := fnAt_mk T.X (by kernel_rfl) (by kernel_rfl) (by kernel_rfl) (by kernel_rfl) (by kernel_rfl)
  e_call := fnAt_mk T.X (by kernel_rfl) (by kernel_rfl) (by kernel_rfl) (by kernel_rfl) (by kernel_rfl)
  p_build := fnAt_mk T.X (by kernel_rfl) (by kernel_rfl) (by kernel_rfl) (by kernel_rfl) (by kernel_rfl)
  p_cap := fnAt_mk T.X (by kernel_rfl) (by kernel_rfl) (by kernel_rfl) (by kernel_rfl) (by kernel_rfl)
  p_core := fnAt_mk T.X (by kernel_rfl) (by kernel_rfl) (by kernel_rfl) (by kernel_rfl) (by kernel_rfl)
  p_impl := fnAt_mk T.X (by kernel_rfl) (by kernel_rfl) (by kernel_rfl) (by kernel_rfl) (by kernel_rfl)
  p_ek := fnAt_mk T.X (by kernel_rfl) (by kernel_rfl) (by kernel_rfl) (by kernel_rfl) (by kernel_rfl)
  p_next := fnAt_mk T.X (by kernel_rfl) (by kernel_rfl) (by kernel_rfl) (by kernel_rfl) (by kernel_rfl)
  cell307 := ⟨_, objOf_get T.X (by kernel_rfl), by kernel_rfl⟩
  file319 := ⟨319, objOf (topHd.heap_39 p) 319, fieldsOfO (objOf (topHd.heap_39 p) 319), tokAt (objOf (topHd.heap_39 p) 319) 2, rfl, objOf_get T.X (by kernel_rfl), by kernel_rfl, by kernel_rfl⟩
  file351 := ⟨351, objOf (topHd.heap_39 p) 351, fieldsOfO (objOf (topHd.heap_39 p) 351), tokAt (objOf (topHd.heap_39 p) 351) 2, rfl, objOf_get T.X (by kernel_rfl), by kernel_rfl, by kernel_rfl⟩
  t133 := ⟨objOf (topHd.heap_39 p) 133, seqN (objOf (topHd.heap_39 p) 133), objOf_get T.X (by kernel_rfl), by kernel_rfl⟩
  t312 := ⟨objOf (topHd.heap_39 p) 312, seqN (objOf (topHd.heap_39 p) 312), objOf_get T.X (by kernel_rfl), by kernel_rfl⟩
  t113 := ⟨objOf (topHd.heap_39 p) 113, seqN (objOf (topHd.heap_39 p) 113), objOf_get T.X (by kernel_rfl), by kernel_rfl⟩
  t424 := ⟨objOf (topHd.heap_39 p) 424, seqN (objOf (topHd.heap_39 p) 424), tokAt (objOf (topHd.heap_39 p) 424) 0, objOf_get T.X (by kernel_rfl), by kernel_rfl⟩
  o__adj_395 := by kernel_rfl
  o__node_395 := by kernel_rfl
  o__pred_395 := by kernel_rfl
  o_graph_395 := by kernel_rfl
  o__graph_121 := by kernel_rfl
  q__succ := by kernel_rfl
  q_succ := by kernel_rfl
  q_pred := by kernel_rfl
  q_nodes := by kernel_rfl
  q_edges := by kernel_rfl
  m_add_node := by kernel_rfl
  m_add_edge := by kernel_rfl
  m_is_directed := by kernel_rfl
  m_edge_rows := by kernel_rfl
  m_add_nodes_from := by kernel_rfl
  m_has_edge := by kernel_rfl
  m_is_multigraph := by kernel_rfl
  s__adj_395 := by kernel_rfl
  s__node_395 := by kernel_rfl
  s__pred_395 := by kernel_rfl
  s_graph_395 := by kernel_rfl
  s__graph_121 := by kernel_rfl
  sp_contains := by kernel_rfl
  sp_getitem := by kernel_rfl
  sp_iter := by kernel_rfl
  sp_call := by kernel_rfl
  sp_init := by kernel_rfl
  sp_einit := by kernel_rfl
  su_ok := by kernel_rfl
  su_init := by kernel_rfl
  su_add := by kernel_rfl
  cls299 := by kernel_rfl
  sub299 := by kernel_rfl
  hd395 := by kernel_rfl
  clsC121 := by kernel_rfl
  clsC395 := by kernel_rfl
  clsD121 := by kernel_rfl
  clsD395 := by kernel_rfl
  pm_edges := by kernel_rfl
  mk395 := by kernel_rfl
  mk121 := by kernel_rfl
  fn84 := by kernel_rfl
  fi84 := by kernel_rfl
  fn118 := by kernel_rfl
  fi118 := by kernel_rfl
  fn140 := by kernel_rfl
  fi140 := by kernel_rfl
  fn155 := by kernel_rfl
  fi155 := by kernel_rfl
  fn163 := by kernel_rfl
  fi163 := by kernel_rfl
  fn171 := by kernel_rfl
  fi171 := by kernel_rfl
  fn178 := by kernel_rfl
  fi178 := by kernel_rfl
  fn192 := by kernel_rfl
  fi192 := by kernel_rfl
  fn199 := by kernel_rfl
  fi199 := by kernel_rfl
  fn206 := by kernel_rfl
  fi206 := by kernel_rfl
  fn249 := by kernel_rfl
  fi249 := by kernel_rfl
  fn284 := by kernel_rfl
  fi284 := by kernel_rfl
  fn320 := by kernel_rfl
  fi320 := by kernel_rfl
  fn327 := by kernel_rfl
  fi327 := by kernel_rfl
  fn335 := by kernel_rfl
  fi335 := by kernel_rfl
  fn343 := by kernel_rfl
  fi343 := by kernel_rfl
  fn352 := by kernel_rfl
  fi352 := by kernel_rfl
  fn359 := by kernel_rfl
  fi359 := by kernel_rfl
  fn387 := by kernel_rfl
  fi387 := by kernel_rfl
  fn392 := by kernel_rfl
  fi392 := by kernel_rfl
  fn402 := by kernel_rfl
  fi402 := by kernel_rfl
  fn409 := by kernel_rfl
  fi409 := by kernel_rfl
  fn416 := by kernel_rfl
  fi416 := by kernel_rfl
  fn423 := by kernel_rfl
  fi423 := by kernel_rfl
  fn431 := by kernel_rfl
  fi431 := by kernel_rfl
  fn438 := by kernel_rfl
  fi438 := by kernel_rfl
  bg352 := by kernel_rfl
  bt352 := by kernel_rfl
  bg206 := by kernel_rfl
  bt206 := by kernel_rfl
  bg199 := by kernel_rfl
  bt199 := by kernel_rfl
  bg140 := by kernel_rfl
  bt140 := by kernel_rfl
  bg320 := by kernel_rfl
  bt320 := by kernel_rfl
  gl_DiGraph := h_DiGraph
  gl_Graph := h_Graph
  gl_EdgeView := h_EdgeView
  gl_build_residual_network := h_build_residual_network
  gl__capacity_function := h__capacity_function
  gl_edmonds_karp_core := h_edmonds_karp_core
  gl_edmonds_karp_impl := h_edmonds_karp_impl
  gl_edmonds_karp := h_edmonds_karp
  gl__law_next := h__law_next
  gb_len := hb_len
  gb_range := hb_range
  gb_min := hb_min
  gb_max := hb_max
  gb_sum := hb_sum
  gb_sorted := hb_sorted
  gb_list := hb_list
  gb_iter := hb_iter
  gb_next := hb_next
  gb_float := hb_float
  gb_callable := hb_callable
  gb_isinstance := hb_isinstance
  gb_super := hb_super
  gb_bool := hb_bool
end Mine

-- MC2
namespace Mine
open PySem PySem.W PySem.Calls PyProof.Rows Builtin Builtin.ObjectAttr

/-! lists of like entries -/
theorem Upd1.mapL {ι : Type} [DecidableEq ι] {k : ι → Addr} {f f' : ι → SO} {i : ι} : ∀ {I : List ι}, I.Nodup → i ∈ I → (∀ j ∈ I, j ≠ i → f' j = f j) → Upd1 (k i) (f i) (f' i) (I.map fun j => (k j, f j)) (I.map fun j => (k j, f' j))
  | j :: r, nd, hm, hf => by
    rw [List.nodup_cons] at nd
    by_cases e : j = i
    · subst e
      have : (r.map fun j => (k j, f' j)) = r.map fun j => (k j, f j) := List.map_congr_left fun q hq => by rw [hf q (.tail _ hq) fun e => nd.1 (e ▸ hq)]
      simp only [List.map_cons, this]
      exact .head
    · simp only [List.map_cons, hf j (.head _) e]
      exact .tail (Upd1.mapL nd.2 ((List.mem_cons.mp hm).resolve_left fun q => e q.symm) fun q hq => hf q (.tail _ hq))
def rowL (k : Nat → Addr) (f : Nat → SO) (N : Nat) : Ledger := (List.range N).map fun i => (k i, f i)
theorem rowL_mem {k : Nat → Addr} {f : Nat → SO} {N i : Nat} (h : i < N) : (k i, f i) ∈ rowL k f N := List.mem_map.mpr ⟨i, List.mem_range.mpr h, rfl⟩
theorem rowL_upd {k : Nat → Addr} {f f' : Nat → SO} {N i : Nat} (h : i < N) (hf : ∀ j, j ≠ i → f' j = f j) : Upd1 (k i) (f i) (f' i) (rowL k f N) (rowL k f' N) := Upd1.mapL List.nodup_range (List.mem_range.mpr h) fun j _ => hf j
theorem rowL_succ {k : Nat → Addr} {f : Nat → SO} {N : Nat} : rowL k f (N + 1) = rowL k f N ++ [(k N, f N)] := by unfold rowL; rw [List.range_succ, List.map_append]; rfl
theorem rowL_congr {k k' : Nat → Addr} {f f' : Nat → SO} {N : Nat} (h : ∀ i, i < N → k i = k' i ∧ f i = f' i) : rowL k f N = rowL k' f' N := List.map_congr_left fun i hi => by rw [(h i (List.mem_range.mp hi)).1, (h i (List.mem_range.mp hi)).2]

/-- the addresses of a graph -/
structure GA where
  x : Addr
  dx : Addr
  gr : Addr
  nd : Addr
  ad : Addr
  pr : Addr
/-- what a graph holds -/
structure GS where
  N : Nat
  nA : Nat → Addr
  aA : Nat → Addr
  pA : Nat → Addr
  nd : SO
  ad : SO
  sc : Nat → SO
  pd : Nat → SO
  at_ : List (Addr × List (Str × Value))
def rows (f : Nat → Addr) (N : Nat) : List (Int × Value) := (List.range N).map fun (i : Nat) => ((i : Int), Value.ref (f i))
def gdict (a : GA) : List (Str × Value) := [("_pred", .ref a.pr), ("graph", .ref a.gr), ("_node", .ref a.nd), ("_adj", .ref a.ad)]
def atL (l : List (Addr × List (Str × Value))) : Ledger := l.map fun p => (p.1, .dS p.2)
def ghd (a : GA) (nd ad pr : SO) (ga : List (Str × Value)) : Ledger := [(a.x, .raw (instObj 395 a.dx)), (a.dx, .dS (gdict a)), (a.gr, .dS ga), (a.nd, nd), (a.ad, ad), (a.pr, pr)]
def gl (a : GA) (S : GS) (ga : List (Str × Value)) : Ledger :=
  ghd a S.nd S.ad (.dI (rows S.pA S.N)) ga ++ (rowL S.nA (fun _ => .dS []) S.N ++ (rowL S.aA S.sc S.N ++ (rowL S.pA S.pd S.N ++ atL S.at_)))

section
variable {a : GA} {S : GS} {ga ga' : List (Str × Value)} {nd ad pr : SO}
theorem g_x : (a.x, .raw (instObj 395 a.dx)) ∈ gl a S ga := .head _
theorem g_dx : (a.dx, .dS (gdict a)) ∈ gl a S ga := .tail _ (.head _)
theorem g_gr : (a.gr, .dS ga) ∈ gl a S ga := .tail _ (.tail _ (.head _))
theorem g_nd : (a.nd, S.nd) ∈ gl a S ga := .tail _ (.tail _ (.tail _ (.head _)))
theorem g_ad : (a.ad, S.ad) ∈ gl a S ga := .tail _ (.tail _ (.tail _ (.tail _ (.head _))))
theorem g_pr : (a.pr, .dI (rows S.pA S.N)) ∈ gl a S ga := .tail _ (.tail _ (.tail _ (.tail _ (.tail _ (.head _)))))
theorem g_nA {i : Nat} (h : i < S.N) : (S.nA i, .dS []) ∈ gl a S ga := List.mem_append_right _ (List.mem_append_left _ (rowL_mem h))
theorem g_aA {i : Nat} (h : i < S.N) : (S.aA i, S.sc i) ∈ gl a S ga := List.mem_append_right _ (List.mem_append_right _ (List.mem_append_left _ (rowL_mem h)))
theorem g_pA {i : Nat} (h : i < S.N) : (S.pA i, S.pd i) ∈ gl a S ga := List.mem_append_right _ (List.mem_append_right _ (List.mem_append_right _ (List.mem_append_left _ (rowL_mem h))))
theorem g_at {p : Addr × List (Str × Value)} (h : p ∈ S.at_) : (p.1, .dS p.2) ∈ gl a S ga := List.mem_append_right _ (List.mem_append_right _ (List.mem_append_right _ (List.mem_append_right _ (List.mem_map.mpr ⟨p, h, rfl⟩))))
theorem u_gr : Upd1 a.gr (.dS ga) (.dS ga') (gl a S ga) (gl a S ga') := .tail (.tail .head)
theorem u_nd {y : SO} : Upd1 a.nd S.nd y (gl a S ga) (gl a { S with nd := y } ga) := .tail (.tail (.tail .head))
theorem u_ad {y : SO} : Upd1 a.ad S.ad y (gl a S ga) (gl a { S with ad := y } ga) := .tail (.tail (.tail (.tail .head)))
def updN (f : Nat → SO) (i : Nat) (y : SO) : Nat → SO := fun j => if j = i then y else f j
theorem updN_self (f : Nat → SO) (i : Nat) (y : SO) : updN f i y i = y := if_pos rfl
theorem updN_ne (f : Nat → SO) {i j : Nat} (y : SO) (h : j ≠ i) : updN f i y j = f j := if_neg h
theorem u_aA {i : Nat} {y : SO} (h : i < S.N) : Upd1 (S.aA i) (S.sc i) y (gl a S ga) (gl a { S with sc := updN S.sc i y } ga) := by
  have := rowL_upd (k := S.aA) (f := S.sc) (f' := updN S.sc i y) h fun j hj => updN_ne _ _ hj
  rw [updN_self] at this
  exact ((this.append _).right _).right _
theorem u_pA {i : Nat} {y : SO} (h : i < S.N) : Upd1 (S.pA i) (S.pd i) y (gl a S ga) (gl a { S with pd := updN S.pd i y } ga) := by
  have := rowL_upd (k := S.pA) (f := S.pd) (f' := updN S.pd i y) h fun j hj => updN_ne _ _ hj
  rw [updN_self] at this
  exact (((this.append _).right _).right _).right _
theorem u_at {p q : List (Addr × List (Str × Value))} {b : Addr} {kv kv' : List (Str × Value)} (h : S.at_ = p ++ (b, kv) :: q) : Upd1 b (.dS kv) (.dS kv') (gl a S ga) (gl a { S with at_ := p ++ (b, kv') :: q } ga) := by
  have : Upd1 b (.dS kv) (.dS kv') (atL S.at_) (atL (p ++ (b, kv') :: q)) := by
    rw [h]; unfold atL; simp only [List.map_append, List.map_cons]
    exact Upd1.intro _ _
  exact (((this.right _).right _).right _).right _
end

section
variable {w : World} {A : Around} {B : Bs} {l l' : Ledger} {s : Shared} {mg mb : Str → Option Value} {K : Frag} {v : Value}

theorem call_pure {n : Nat} {f : Addr} {qual : Str} {params : Arguments} {body : List Stmt} {scope : Scope} {cl : List (Str × Addr)} {dV kV cdv : Value} {pos : List Value} {kw : List (Str × Value)} {Q : Value → Shared → Prop} (binds : List (Str × Value)) (rest : List Str) (R : Room A (n + 1)) (T : KP mg mb K B.h)
    (F : FnAt B.h f qual params body scope cl dV kV cdv) (ok : okDef scope (binds.map (·.1)) rest = true) (hb : ∀ name doc pm an ct, bindArgs (fnX name qual params body scope cl dV kV doc pm an cdv ct) ⟨pos, kw⟩ = pure binds) (H : St prog w B l s)
    (h : ∀ L s₂, St prog w B ((L, .ns (frameOf binds rest)) :: l) s₂ → WP prog w (A.deeper (envX qual scope L f cdv cl)) (execs body (envX qual scope L f cdv cl)) (fun fl s' => Q (retv fl) s') s₂) : WC prog w A (.ref f) pos kw Q s := by
  refine call_def _ rest R T.nolimit (F.keeps H.keep) ok fun name doc pm an ct => ?_
  rw [hb]
  exact wpAny_pure ⟨l, H, rfl, h⟩

theorem c_is_multigraph {Q : Value → Shared → Prop} (R : Room A 1) (T : KP mg mb K B.h) (H : St prog w B l s) (h : ∀ s', St prog w B l s' → Q (.bool false) s') : WC prog w A (.ref 284) [v] [] Q s := by
  refine call_pure [("self", v)] [] R T T.g_is_multigraph (by kernel_rfl) (fun _ _ _ _ _ => by kernel_rfl) H fun L s H => ?_
  refine x_one (st := .Return _ _) (wpAny_Return_some ?_)
  exact ev_bool (h _ H.drop)
theorem c_is_directed {Q : Value → Shared → Prop} (R : Room A 1) (T : KP mg mb K B.h) (H : St prog w B l s) (h : ∀ s', St prog w B l s' → Q (.bool true) s') : WC prog w A (.ref 387) [v] [] Q s := by
  refine call_pure [("self", v)] [] R T T.f_is_directed (by kernel_rfl) (fun _ _ _ _ _ => by kernel_rfl) H fun L s H => ?_
  refine x_one (st := .Return _ _) (wpAny_Return_some ?_)
  exact ev_bool (h _ H.drop)

end
end Mine

-- MC3
namespace Mine
open PySem PySem.W PySem.Calls PyProof.Rows Builtin Builtin.ObjectAttr

local macro_rules | `(tactic| tb_start) => `(tactic| first | with_reducible exact List.mem_cons_self | with_reducible assumption | (with_reducible refine List.mem_cons_of_mem _ ?_; tb_start) | (with_reducible refine List.mem_append_left _ ?_; tb_start) | (with_reducible refine List.mem_append_right _ ?_; tb_start) | with_reducible exact g_x | with_reducible exact g_dx | with_reducible exact g_gr | with_reducible exact g_nd | with_reducible exact g_ad | with_reducible exact g_pr)
local macro_rules | `(tactic| tb_rel) => `(tactic| first | with_reducible exact Upd1.head | with_reducible exact Put.head | (with_reducible refine Upd1.tail ?_; tb_rel) | (with_reducible refine Put.tail ?_; tb_rel))
set_option hygiene false in
local macro_rules | `(tactic| k_flat) => `(tactic| simp only [frameOf, List.map_cons, List.map_nil, List.cons_append, List.nil_append, List.append_nil] at H)
set_option hygiene false in
local macro_rules | `(tactic| tb_lt) => `(tactic| first
  | (with_reducible refine ev_loc F H (by tb_start) (by tb_start) (by tb_start) ?_)
  | (with_reducible refine ev_int H ?_; clear H; intro _ s H)
  | (with_reducible refine ev_str H ?_; clear H; intro _ s H)
  | (with_reducible refine ev_none ?_)
  | (with_reducible refine ev_bool ?_)
  | (with_reducible refine ev_cel F H (by tb_start) (by tb_start) ?_)
  | (with_reducible refine Attribute_any_ ?_)
  | (with_reducible refine Subscript_ ?_)
  | (with_reducible refine wpAny_BinOp ?_)
  | (with_reducible refine wpAny_Compare1 ?_)
  | ((with_reducible show wpAny _ _ (getAttr _ _ _) _ _ _); refine at_own H T.X (H.inst (by tb_start) (by tb_start)) T.o__adj_395 (by rfl) (by rfl) ?_; clear H; intro s H)
  | ((with_reducible show wpAny _ _ (getAttr _ _ _) _ _ _); refine at_own H T.X (H.inst (by tb_start) (by tb_start)) T.o__node_395 (by rfl) (by rfl) ?_; clear H; intro s H)
  | ((with_reducible show wpAny _ _ (getAttr _ _ _) _ _ _); refine at_own H T.X (H.inst (by tb_start) (by tb_start)) T.o__pred_395 (by rfl) (by rfl) ?_; clear H; intro s H)
  | ((with_reducible show wpAny _ _ (getAttr _ _ _) _ _ _); refine at_own H T.X (H.inst (by tb_start) (by tb_start)) T.o_graph_395 (by rfl) (by rfl) ?_; clear H; intro s H))
set_option hygiene false in
local macro_rules | `(tactic| k_fold) => `(tactic| (repeat tb_lt))

section
variable {w : World} {A : Around} {B : Bs} {l l' : Ledger} {s : Shared} {mg mb : Str → Option Value} {K : Frag} {v : Value} {a : GA}

theorem c_succ {Q : Value → Shared → Prop} (R : Room A 1) (T : KP mg mb K B.h) (H : St prog w B l s) (hx : (a.x, .raw (instObj 395 a.dx)) ∈ l) (hd : (a.dx, .dS (gdict a)) ∈ l) (h : ∀ s', St prog w B l s' → Q (.ref a.ad) s') : WC prog w A (.ref 335) [.ref a.x] [] Q s := by
  refine call_pure [("self", .ref a.x)] [] R T T.f_succ (by kernel_rfl) (fun _ _ _ _ _ => by kernel_rfl) H fun L s H => ?_
  have F := fm_of (scope := scopeS (mDi 2)) (qual := "DiGraph.succ") (L := L) (f := 335) (cdv := .ref 334) (cl := []) (ns := ["self"]) (csn := []) (gs := []) (by kernel_rfl) rfl
  k_flat
  refine x_one (st := .Return _ _) (wpAny_Return_some ?_)
  k_fold
  exact h s H.drop

theorem c_succ_ {Q : Value → Shared → Prop} (R : Room A 1) (T : KP mg mb K B.h) (H : St prog w B l s) (hx : (a.x, .raw (instObj 395 a.dx)) ∈ l) (hd : (a.dx, .dS (gdict a)) ∈ l) (h : ∀ s', St prog w B l s' → Q (.ref a.ad) s') : WC prog w A (.ref 327) [.ref a.x] [] Q s := by
  refine call_pure [("self", .ref a.x)] [] R T T.f_succ_ (by kernel_rfl) (fun _ _ _ _ _ => by kernel_rfl) H fun L s H => ?_
  have F := fm_of (scope := scopeS (mDi 1)) (qual := "DiGraph._succ") (L := L) (f := 327) (cdv := .ref 326) (cl := []) (ns := ["self"]) (csn := []) (gs := []) (by kernel_rfl) rfl
  k_flat
  refine x_one (st := .Return _ _) (wpAny_Return_some ?_)
  k_fold
  exact h s H.drop

theorem c_pred {Q : Value → Shared → Prop} (R : Room A 1) (T : KP mg mb K B.h) (H : St prog w B l s) (hx : (a.x, .raw (instObj 395 a.dx)) ∈ l) (hd : (a.dx, .dS (gdict a)) ∈ l) (h : ∀ s', St prog w B l s' → Q (.ref a.pr) s') : WC prog w A (.ref 343) [.ref a.x] [] Q s := by
  refine call_pure [("self", .ref a.x)] [] R T T.f_pred (by kernel_rfl) (fun _ _ _ _ _ => by kernel_rfl) H fun L s H => ?_
  have F := fm_of (scope := scopeS (mDi 3)) (qual := "DiGraph.pred") (L := L) (f := 343) (cdv := .ref 342) (cl := []) (ns := ["self"]) (csn := []) (gs := []) (by kernel_rfl) rfl
  k_flat
  refine x_one (st := .Return _ _) (wpAny_Return_some ?_)
  k_fold
  exact h s H.drop

theorem c_nodes {Q : Value → Shared → Prop} (R : Room A 1) (T : KP mg mb K B.h) (H : St prog w B l s) (hx : (a.x, .raw (instObj 395 a.dx)) ∈ l) (hd : (a.dx, .dS (gdict a)) ∈ l) (h : ∀ s', St prog w B l s' → Q (.ref a.nd) s') : WC prog w A (.ref 155) [.ref a.x] [] Q s := by
  refine call_pure [("self", .ref a.x)] [] R T T.g_nodes (by kernel_rfl) (fun _ _ _ _ _ => by kernel_rfl) H fun L s H => ?_
  have F := fm_of (scope := scopeS (mG 2)) (qual := "Graph.nodes") (L := L) (f := 155) (cdv := .ref 154) (cl := []) (ns := ["self"]) (csn := []) (gs := []) (by kernel_rfl) rfl
  k_flat
  refine x_one (st := .Return _ _) (wpAny_Return_some ?_)
  k_fold
  exact h s H.drop

theorem c_contains {kvs : List (Int × Value)} {n : Int} {t : Tok} {Q : Value → Shared → Prop} (R : Room A 1) (T : KP mg mb K B.h) (H : St prog w B l s) (hx : (a.x, .raw (instObj 395 a.dx)) ∈ l) (hd : (a.dx, .dS (gdict a)) ∈ l) (hn : (a.nd, .dI kvs) ∈ l) (hlo : (a.nd == sysModules) = false)
    (h : ∀ s', St prog w B l s' → Q (.bool (valueAt kvs n).isSome) s') : WC prog w A (.ref 178) [.ref a.x, .int n t] [] Q s := by
  refine call_pure [("self", .ref a.x), ("n", .int n t)] [] R T T.g_contains (by kernel_rfl) (fun _ _ _ _ _ => by kernel_rfl) H fun L s H => ?_
  have F := fm_of (scope := scopeS (mG 5)) (qual := "Graph.__contains__") (L := L) (f := 178) (cdv := .ref 177) (cl := []) (ns := ["self", "n"]) (csn := []) (gs := []) (by kernel_rfl) rfl
  k_flat
  refine x_one (st := .Return _ _) (wpAny_Return_some ?_)
  k_fold
  exact in_dI H hlo (H.dI (.tail _ hn)) fun s H => h s H.drop
theorem c_getitem {kvs : List (Int × Value)} {n : Int} {t : Tok} {v : Value} {Q : Value → Shared → Prop} (R : Room A 1) (T : KP mg mb K B.h) (H : St prog w B l s) (hx : (a.x, .raw (instObj 395 a.dx)) ∈ l) (hd : (a.dx, .dS (gdict a)) ∈ l) (hn : (a.ad, .dI kvs) ∈ l) (hv : valueAt kvs n = some v)
    (h : ∀ s', St prog w B l s' → Q v s') : WC prog w A (.ref 192) [.ref a.x, .int n t] [] Q s := by
  refine call_pure [("self", .ref a.x), ("n", .int n t)] [] R T T.g_getitem (by kernel_rfl) (fun _ _ _ _ _ => by kernel_rfl) H fun L s H => ?_
  have F := fm_of (scope := scopeS (mG 7)) (qual := "Graph.__getitem__") (L := L) (f := 192) (cdv := .ref 191) (cl := []) (ns := ["self", "n"]) (csn := []) (gs := []) (by kernel_rfl) rfl
  k_flat
  refine x_one (st := .Return _ _) (wpAny_Return_some ?_)
  k_fold
  exact sub_dI H (H.dI (.tail _ hn)) hv fun s H => h s H.drop
end
end Mine

-- MC4
namespace Mine
open PySem PySem.W PySem.Calls PyProof.Rows Builtin Builtin.ObjectAttr

local macro_rules | `(tactic| tb_start) => `(tactic| first | with_reducible exact List.mem_cons_self | with_reducible assumption | (with_reducible apply List.mem_cons_of_mem; tb_start) | (with_reducible apply List.mem_append_left; tb_start) | (with_reducible apply List.mem_append_right; tb_start) | with_reducible exact g_x | with_reducible exact g_dx | with_reducible exact g_gr | with_reducible exact g_nd | with_reducible exact g_ad | with_reducible exact g_pr)
local macro_rules | `(tactic| tb_rel) => `(tactic| first | with_reducible exact Upd1.head | with_reducible exact Put.head | (with_reducible apply Upd1.tail; tb_rel) | (with_reducible apply Put.tail; tb_rel))
local macro_rules | `(tactic| k_ne) => `(tactic| first | (with_reducible apply Apart.head; tb_start) | (with_reducible apply Apart.head'; tb_start) | (with_reducible apply Apart.tail; k_ne))
local macro_rules | `(tactic| k_same) => `(tactic| first | with_reducible exact Split.head | (with_reducible apply Split.tail; k_same) | (with_reducible apply Split.skip; k_same))
local macro_rules | `(tactic| k_same2) => `(tactic| first | with_reducible exact SplitL.head | with_reducible exact SplitL.last | (with_reducible apply SplitL.tail; k_same2) | (with_reducible apply SplitL.skip; k_same2))
local macro_rules | `(tactic| k_sub) => `(tactic| first | with_reducible exact Sel.nil | with_reducible exact Sel.all | (with_reducible refine Sel.cons (by k_same) ?_; k_sub) | (with_reducible refine Sel.app (by k_same2) ?_; k_sub) | (with_reducible exact Sel.one (by k_same2)))
set_option hygiene false in
local macro_rules | `(tactic| k_flat) => `(tactic| simp only [frameOf, List.map_cons, List.map_nil, List.cons_append, List.nil_append, List.append_nil] at H)
set_option hygiene false in
local macro_rules | `(tactic| tb_lt) => `(tactic| first
  | (with_reducible refine ev_loc F H (by tb_start) (by tb_start) (by tb_start) ?_)
  | (with_reducible refine ev_int H ?_; clear H; intro _ s H)
  | (with_reducible refine ev_str H ?_; clear H; intro _ s H)
  | (with_reducible refine ev_none ?_)
  | (with_reducible refine ev_bool ?_)
  | (with_reducible refine ev_cel F H (by tb_start) (by tb_start) ?_)
  | (with_reducible refine Attribute_any_ ?_)
  | (with_reducible refine Subscript_ ?_)
  | (with_reducible refine wpAny_BinOp ?_)
  | (with_reducible refine wpAny_Compare1 ?_)
  | ((with_reducible show wpAny _ _ (getAttr _ _ _) _ _ _); refine at_own H T.X (H.inst (by tb_start) (by tb_start)) T.o__adj_395 (by rfl) (by rfl) ?_; clear H; intro s H)
  | ((with_reducible show wpAny _ _ (getAttr _ _ _) _ _ _); refine at_own H T.X (H.inst (by tb_start) (by tb_start)) T.o__node_395 (by rfl) (by rfl) ?_; clear H; intro s H)
  | ((with_reducible show wpAny _ _ (getAttr _ _ _) _ _ _); refine at_own H T.X (H.inst (by tb_start) (by tb_start)) T.o__pred_395 (by rfl) (by rfl) ?_; clear H; intro s H)
  | ((with_reducible show wpAny _ _ (getAttr _ _ _) _ _ _); refine at_own H T.X (H.inst (by tb_start) (by tb_start)) T.o_graph_395 (by rfl) (by rfl) ?_; clear H; intro s H))
set_option hygiene false in
local macro_rules | `(tactic| k_fold) => `(tactic| (repeat tb_lt))

section
variable {w : World} {A : Around} {B : Bs} {l l' : Ledger} {s : Shared} {mg mb : Str → Option Value} {K : Frag} {v : Value} {a : GA}

theorem b_ginit (T : KP mg mb K B.h) {x : Value} {doc pm ct : Value} {an : Option Addr} {nm : Str} {Q : List (Str × Value) → Shared → Prop} (H : St prog w B l s)
    (h : ∀ d s', St prog w B ((d, .dS []) :: l) s' → Q [("self", x), ("incoming_graph_data", .none), ("attr", .ref d)] s') :
    WP prog w A (bindArgs (fnX nm "Graph.__init__" (argsS (mG 0)) (bodyS (mG 0)) (scopeS (mG 0)) [] (.ref 133) .none doc pm an (.ref 139) ct) ⟨[x, .none], []⟩) Q s := by
  obtain ⟨o, n, ho, hd⟩ := T.t133
  show wpAny _ _ (seqItems? (.ref 133) >>= _) _ _ _
  refine wpAny_bind (wpAny_seqItems (H.keep _ _ ho) hd ?_)
  show wpAny _ _ (alloc _ >>= _) _ _ _
  refine wpAny_bind (alloc_d H fun d s' H => ?_)
  have h := h d s' H
  refine wpAny_of_eq (Q := Q) (a := ([("self", x), ("incoming_graph_data", .none), ("attr", .ref d)] : List (Str × Value))) ?_ h
  kernel_rfl
theorem b_dinit (T : KP mg mb K B.h) {x : Value} {doc pm ct : Value} {an : Option Addr} {nm : Str} {Q : List (Str × Value) → Shared → Prop} (H : St prog w B l s)
    (h : ∀ d s', St prog w B ((d, .dS []) :: l) s' → Q [("self", x), ("incoming_graph_data", .none), ("attr", .ref d)] s') :
    WP prog w A (bindArgs (fnX nm "DiGraph.__init__" (argsS (mDi 0)) (bodyS (mDi 0)) (scopeS (mDi 0)) [("__class__", 307)] (.ref 312) .none doc pm an (.ref 319) ct) ⟨[x], []⟩) Q s := by
  obtain ⟨o, n, ho, hd⟩ := T.t312
  show wpAny _ _ (seqItems? (.ref 312) >>= _) _ _ _
  refine wpAny_bind (wpAny_seqItems (H.keep _ _ ho) hd ?_)
  show wpAny _ _ (alloc _ >>= _) _ _ _
  refine wpAny_bind (alloc_d H fun d s' H => ?_)
  have h := h d s' H
  refine wpAny_of_eq (Q := Q) (a := ([("self", x), ("incoming_graph_data", .none), ("attr", .ref d)] : List (Str × Value))) ?_ h
  kernel_rfl


def d0 (pr : Addr) : List (Str × Value) := [("_pred", .ref pr)]
theorem c_ginit {x dx pr : Addr} {Q : Value → Shared → Prop} {lf : SO → Ledger} (R : Room A 2) (T : KP mg mb K B.h) (H : St prog w B (lf (.dS (d0 pr))) s) (hx : ∀ y, (x, .raw (instObj 395 dx)) ∈ lf y) (u : ∀ y z, Upd1 dx y z (lf y) (lf z))
    (h : ∀ gr nd ad s', St prog w B ((ad, .dI []) :: (nd, .dI []) :: (gr, .dS []) :: lf (.dS (gdict ⟨x, dx, gr, nd, ad, pr⟩))) s' → Q .none s') : WC prog w A (.ref 140) [.ref x, .none] [] Q s := by
  refine call_def ["self", "incoming_graph_data", "attr"] ["n", "d", "u", "nbrs", "v"] R T.nolimit (T.g_init.keeps H.keep) (by kernel_rfl) fun name doc pm an ct => ?_
  refine b_ginit T H fun dk s H => ⟨_, H, rfl, fun L s H => ?_⟩
  have F := fm_of (scope := scopeS (mG 0)) (qual := "Graph.__init__") (L := L) (f := 140) (cdv := .ref 139) (cl := []) (ns := ["self", "incoming_graph_data", "attr"]) (csn := []) (gs := ["isinstance", "Graph"]) (by kernel_rfl) rfl
  k_flat
  refine x_cons (st := .Assign [.Attribute _ _ _] _ _) ?_
  refine plainObj_wpAny_Assign_Attribute ?_
  refine ev_dictS H ?_
  clear H; intro gr s H
  k_fold
  refine set_attr (kvs := d0 pr) H T.X (.tail _ (.tail _ (.tail _ (hx _)))) T.s_graph_395 (by show ("graph" : Str) ∉ (["_pred"] : List Str); decide) (by show 1 ≤ 100; decide) (.tail (.tail (.tail (u _ _)))) ?_
  clear H; intro s H
  refine x_cons (st := .Assign [.Attribute _ _ _] _ _) ?_
  refine plainObj_wpAny_Assign_Attribute ?_
  refine ev_dictI H ?_
  clear H; intro nd s H
  k_fold
  refine set_attr H T.X (.tail _ (.tail _ (.tail _ (.tail _ (hx _))))) T.s__node_395 (by show ("_node" : Str) ∉ (["_pred", "graph"] : List Str); decide) (by show 2 ≤ 100; decide) (.tail (.tail (.tail (.tail (u _ _))))) ?_
  clear H; intro s H
  refine x_cons (st := .Assign [.Attribute _ _ _] _ _) ?_
  refine plainObj_wpAny_Assign_Attribute ?_
  refine ev_dictI H ?_
  clear H; intro ad s H
  k_fold
  refine set_attr H T.X (.tail _ (.tail _ (.tail _ (.tail _ (.tail _ (hx _)))))) T.s__adj_395 (by show ("_adj" : Str) ∉ (["_pred", "graph", "_node"] : List Str); decide) (by show 3 ≤ 100; decide) (.tail (.tail (.tail (.tail (.tail (u _ _)))))) ?_
  clear H; intro s H
  replace H : St prog w B ((ad, .dI []) :: (nd, .dI []) :: (gr, .dS []) :: (L, .ns [("self", some (.ref x)), ("incoming_graph_data", some .none), ("attr", some (.ref dk)), ("n", none), ("d", none), ("u", none), ("nbrs", none), ("v", none)]) :: (dk, .dS []) :: lf (.dS (gdict ⟨x, dx, gr, nd, ad, pr⟩))) s := H
  -- if isinstance(incoming_graph_data, Graph)
  refine x_cons (st := .If _ _ _ _) (wpAny_If ?_)
  refine wpAny_isTrue_value ?_
  refine ev_call_name ?_
  refine ev_blt F H T.toTp (by tb_start) T.gb_isinstance rfl (by decide) ?_
  refine call_pos ?_
  refine sp_cons ?_
  k_fold
  refine sp_cons ?_
  refine ev_glo F H T.toTp (by tb_start) T.gl_Graph ?_
  refine sp_nil ⟨keeps_blt, ?_⟩
  refine isi_none H T.X T.cls299 T.sub299 ?_
  clear H; intro s H
  refine wpAny_truthy_bool ?_
  rw [if_neg (by decide)]
  refine x_one (st := .If _ _ _ _) (wpAny_If ?_)
  refine wpAny_isTrue_Compare1 ?_
  k_fold
  refine isNot_none ?_
  refine wpAny_truthy_bool ?_
  rw [if_neg (by decide)]
  refine x_nil ?_
  refine x_one (st := .Expr _ _) (wpAny_Expr_any ?_)
  refine ev_meth ?_
  have hx1 := hx (.dS (gdict ⟨x, dx, gr, nd, ad, pr⟩))
  have hd1 : (dx, .dS (gdict ⟨x, dx, gr, nd, ad, pr⟩)) ∈ lf (.dS (gdict ⟨x, dx, gr, nd, ad, pr⟩)) := (u (.dS []) _).mem'
  k_fold
  intro pl
  dsimp only
  refine gm_update H (by tb_start) ?_
  refine call_pos ?_
  refine sp_cons ?_
  k_fold
  refine sp_nil ⟨keeps_blt, ?_⟩
  refine c_update H (H.apart (by k_ne)) (kvs := []) (more := []) (kvs' := []) (by tb_start) (by rfl) (by decide) (by tb_rel) ?_
  clear H; intro s H
  refine h gr nd ad s ?_
  exact (H.perm (l' := (L, .ns [("self", some (.ref x)), ("incoming_graph_data", some .none), ("attr", some (.ref dk)), ("n", none), ("d", none), ("u", none), ("nbrs", none), ("v", none)]) :: (dk, .dS []) :: (ad, .dI []) :: (nd, .dI []) :: (gr, .dS []) :: lf (.dS (gdict ⟨x, dx, gr, nd, ad, pr⟩)))
    (by
      have := List.perm_append_comm (l₁ := [(ad, SO.dI []), (nd, SO.dI []), (gr, SO.dS [])]) (l₂ := [(L, SO.ns [("self", some (.ref x)), ("incoming_graph_data", some .none), ("attr", some (.ref dk)), ("n", none), ("d", none), ("u", none), ("nbrs", none), ("v", none)]), (dk, SO.dS [])])
      exact this.append_right (lf (.dS (gdict ⟨x, dx, gr, nd, ad, pr⟩))))).drop.drop
end
end Mine

-- MC5
namespace Mine
open PySem PySem.W PySem.Calls PyProof.Rows Builtin Builtin.ObjectAttr

local macro_rules | `(tactic| tb_start) => `(tactic| first | with_reducible exact List.mem_cons_self | with_reducible assumption | (with_reducible apply List.mem_cons_of_mem; tb_start) | (with_reducible apply List.mem_append_left; tb_start) | (with_reducible apply List.mem_append_right; tb_start) | with_reducible exact g_x | with_reducible exact g_dx | with_reducible exact g_gr | with_reducible exact g_nd | with_reducible exact g_ad | with_reducible exact g_pr)
local macro_rules | `(tactic| tb_rel) => `(tactic| first | with_reducible exact Upd1.head | with_reducible exact Put.head | (with_reducible apply Upd1.tail; tb_rel) | (with_reducible apply Put.tail; tb_rel))
local macro_rules | `(tactic| k_ne) => `(tactic| first | (with_reducible apply Apart.head; tb_start) | (with_reducible apply Apart.head'; tb_start) | (with_reducible apply Apart.tail; k_ne))
local macro_rules | `(tactic| k_same) => `(tactic| first | with_reducible exact Split.head | (with_reducible apply Split.tail; k_same) | (with_reducible apply Split.skip; k_same))
local macro_rules | `(tactic| k_same2) => `(tactic| first | with_reducible exact SplitL.head | with_reducible exact SplitL.last | (with_reducible apply SplitL.tail; k_same2) | (with_reducible apply SplitL.skip; k_same2))
local macro_rules | `(tactic| k_sub) => `(tactic| first | with_reducible exact Sel.nil | with_reducible exact Sel.all | (with_reducible refine Sel.cons (by k_same) ?_; k_sub) | (with_reducible refine Sel.app (by k_same2) ?_; k_sub) | (with_reducible exact Sel.one (by k_same2)))
set_option hygiene false in
local macro_rules | `(tactic| k_flat) => `(tactic| simp only [frameOf, List.map_cons, List.map_nil, List.cons_append, List.nil_append, List.append_nil] at H)
set_option hygiene false in
local macro_rules | `(tactic| tb_lt) => `(tactic| first
  | (with_reducible refine ev_loc F H (by tb_start) (by tb_start) (by tb_start) ?_)
  | (with_reducible refine ev_int H ?_; clear H; intro _ s H)
  | (with_reducible refine ev_str H ?_; clear H; intro _ s H)
  | (with_reducible refine ev_none ?_)
  | (with_reducible refine ev_bool ?_)
  | (with_reducible refine ev_cel F H (by tb_start) (by tb_start) ?_)
  | (with_reducible refine Attribute_any_ ?_)
  | (with_reducible refine Subscript_ ?_)
  | (with_reducible refine wpAny_BinOp ?_)
  | (with_reducible refine wpAny_Compare1 ?_)
  | ((with_reducible show wpAny _ _ (getAttr _ _ _) _ _ _); refine at_own H T.X (H.inst (by tb_start) (by tb_start)) T.o__adj_395 (by rfl) (by rfl) ?_; clear H; intro s H)
  | ((with_reducible show wpAny _ _ (getAttr _ _ _) _ _ _); refine at_own H T.X (H.inst (by tb_start) (by tb_start)) T.o__node_395 (by rfl) (by rfl) ?_; clear H; intro s H)
  | ((with_reducible show wpAny _ _ (getAttr _ _ _) _ _ _); refine at_own H T.X (H.inst (by tb_start) (by tb_start)) T.o__pred_395 (by rfl) (by rfl) ?_; clear H; intro s H)
  | ((with_reducible show wpAny _ _ (getAttr _ _ _) _ _ _); refine at_own H T.X (H.inst (by tb_start) (by tb_start)) T.o_graph_395 (by rfl) (by rfl) ?_; clear H; intro s H))
set_option hygiene false in
local macro_rules | `(tactic| k_fold) => `(tactic| (repeat tb_lt))

section
variable {w : World} {A : Around} {B : Bs} {l l' : Ledger} {s : Shared} {mg mb : Str → Option Value} {K : Frag} {v : Value} {a : GA}

theorem xa_cons {c : Code} {env : Env} {st : Stmt} {rest : List Stmt} {Q : Flow → Shared → Prop} (h : WP prog w A (exec st env) (Nx (fun s' => WA prog w A c (execs rest env) Q s') Q) s) : WA prog w A c (execs (st :: rest) env) Q s :=
  ks_wpAt_execs_cons (ks_wpAt_mono (WA.of h) (fun f s' q => by cases f <;> exact q) fun _ _ e => e)
theorem xa_expr {c : Code} {env : Env} {e : Expr} {pos : Pos} {rest : List Stmt} {Q : Flow → Shared → Prop} (h : WA prog w A c (eval e env) (fun _ s' => WP prog w A (execs rest env) Q s') s)
    (hi : interactive env = false := by rfl) (hs : swapsWith e none pos.line env = pure false := by rfl) : WA prog w A c (execs (.Expr e pos :: rest) env) Q s :=
  ks_wpAt_execs_cons (ks_wpAt_mono (ks_wpAt_Expr_any (Q := fun f s' => f = .next ∧ WP prog w A (execs rest env) Q s') (ks_wpAt_mono h (fun _ _ q => ⟨rfl, q⟩) fun _ _ e => e) hi hs) (fun f s' q => by obtain ⟨rfl, q⟩ := q; exact WA.of q) fun _ _ e => e)

theorem c_dinit {x dx : Addr} {Q : Value → Shared → Prop} (R : Room A 6) (T : KP mg mb K B.h) (H : St prog w B ((x, .raw (instObj 395 dx)) :: (dx, .dS []) :: l) s)
    (h : ∀ gr nd ad pr s', St prog w B (ghd ⟨x, dx, gr, nd, ad, pr⟩ (.dI []) (.dI []) (.dI []) [] ++ l) s' → Q .none s') : WC prog w A (.ref 320) [.ref x] [] Q s := by
  refine call_def_at ["self", "incoming_graph_data", "attr"] [] R T.nolimit (T.f_init.keeps H.keep) (by kernel_rfl) fun name doc pm an ct => ?_
  refine b_dinit T H fun dk s H => ⟨_, H, rfl, fun L s H => ?_⟩
  have F := fm_of (scope := scopeS (mDi 0)) (qual := "DiGraph.__init__") (L := L) (f := 320) (cdv := .ref 319) (cl := [("__class__", 307)]) (ns := ["self", "incoming_graph_data", "attr"]) (csn := ["__class__"]) (gs := ["super"]) (by kernel_rfl) rfl
  have R1 := Room.deeper (env := envX "DiGraph.__init__" (scopeS (mDi 0)) L 320 (.ref 319) [("__class__", 307)]) (n := 5) R
  k_flat
  refine xa_cons (st := .Assign [.Attribute _ _ _] _ _) ?_
  refine plainObj_wpAny_Assign_Attribute ?_
  refine ev_dictI H ?_
  clear H; intro pr s H
  k_fold
  refine set_attr (kvs := []) H T.X (by tb_start) T.s__pred_395 (by decide) (by decide) (by tb_rel) ?_
  clear H; intro s H
  k_flat
  refine xa_expr (e := .Call (.Attribute (.Call (.Name "super" _) [] [] _) _ _) _ _ _) ?_
  refine ev_super_star ?_
  refine super_base (D := 395) (C := 395) (dx := dx) (kvs := [("_pred", .ref pr)]) (ar := ⟨"self", none, _⟩) (ns := ["self", "incoming_graph_data", "attr"]) (gs := ["super"]) H T.toTp T.f_init F (by tb_start) (by tb_start) (by tb_start) (by tb_start) (cc := 307) (by tb_start) rfl T.file319 T.cell307 (H.inst (by tb_start) (by tb_start)) T.su_ok T.gb_super (by decide) (by kernel_rfl) (by kernel_rfl) ?_
  clear H; intro so s H
  refine at_super H T.X (by tb_start) (H.inst (by tb_start) (by tb_start)) T.su_init (by decide) ?_
  clear H; intro q s H
  refine call_star1 (B := B) (e := .Name _ _) (ke := .Name _ _) ?_
  k_fold
  refine ⟨_, H, fun d s H => ?_⟩
  k_fold
  refine ⟨dk, _, rfl, H.lo (x := .dS []) (by tb_start), H, by tb_start, by tb_start, keeps_bound (T.X.keeps H.keep) (H.raw (by tb_start)) T.fi140, ?_⟩
  refine call_of (call_bound (H.raw (by tb_start)) ?_)
  refine c_ginit (pr := pr) (x := x) (dx := dx) (lf := fun y => _ :: _ :: _ :: _ :: _ :: _ :: _ :: (dx, y) :: l) (R1.less (by decide)) T H (fun _ => by tb_start) (fun _ _ => by tb_rel) ?_
  clear H; intro gr nd ad s H
  refine x_nil ?_
  refine h gr nd ad pr s (H.sel ?_)
  show Sel ((x, _) :: (dx, _) :: (gr, _) :: (nd, _) :: (ad, _) :: (pr, _) :: l) _
  k_sub
end
end Mine

-- MC6
namespace Mine
open PySem PySem.W PySem.Calls PyProof.Rows Builtin Builtin.ObjectAttr

local macro_rules | `(tactic| tb_start) => `(tactic| first | with_reducible exact List.mem_cons_self | with_reducible assumption | (with_reducible apply List.mem_cons_of_mem; tb_start) | (with_reducible apply List.mem_append_left; tb_start) | (with_reducible apply List.mem_append_right; tb_start) | with_reducible exact g_x | with_reducible exact g_dx | with_reducible exact g_gr | with_reducible exact g_nd | with_reducible exact g_ad | with_reducible exact g_pr)
local macro_rules | `(tactic| tb_rel) => `(tactic| first | with_reducible exact Upd1.head | with_reducible exact Put.head | (with_reducible apply Upd1.tail; tb_rel) | (with_reducible apply Put.tail; tb_rel))
local macro_rules | `(tactic| k_ne) => `(tactic| first | (with_reducible apply Apart.head; tb_start) | (with_reducible apply Apart.head'; tb_start) | (with_reducible apply Apart.tail; k_ne))
local macro_rules | `(tactic| k_same) => `(tactic| first | with_reducible exact Split.head | (with_reducible apply Split.tail; k_same) | (with_reducible apply Split.skip; k_same))
local macro_rules | `(tactic| k_same2) => `(tactic| first | with_reducible exact SplitL.head | with_reducible exact SplitL.last | (with_reducible apply SplitL.tail; k_same2) | (with_reducible apply SplitL.skip; k_same2))
local macro_rules | `(tactic| k_sub) => `(tactic| first | with_reducible exact Sel.nil | with_reducible exact Sel.all | (with_reducible refine Sel.cons (by k_same) ?_; k_sub) | (with_reducible refine Sel.app (by k_same2) ?_; k_sub) | (with_reducible exact Sel.one (by k_same2)))
set_option hygiene false in
local macro_rules | `(tactic| k_flat) => `(tactic| simp only [frameOf, List.map_cons, List.map_nil, List.cons_append, List.nil_append, List.append_nil] at H)
set_option hygiene false in
local macro_rules | `(tactic| tb_lt) => `(tactic| first
  | (with_reducible refine ev_loc F H (by tb_start) (by tb_start) (by tb_start) ?_)
  | (with_reducible refine ev_int H ?_; clear H; intro _ s H)
  | (with_reducible refine ev_str H ?_; clear H; intro _ s H)
  | (with_reducible refine ev_none ?_)
  | (with_reducible refine ev_bool ?_)
  | (with_reducible refine ev_cel F H (by tb_start) (by tb_start) ?_)
  | (with_reducible refine Attribute_any_ ?_)
  | (with_reducible refine Subscript_ ?_)
  | (with_reducible refine wpAny_BinOp ?_)
  | (with_reducible refine wpAny_Compare1 ?_)
  | ((with_reducible show wpAny _ _ (getAttr _ _ _) _ _ _); refine at_own H T.X (H.inst (by tb_start) (by tb_start)) T.o__adj_395 (by rfl) (by rfl) ?_; clear H; intro s H)
  | ((with_reducible show wpAny _ _ (getAttr _ _ _) _ _ _); refine at_own H T.X (H.inst (by tb_start) (by tb_start)) T.o__node_395 (by rfl) (by rfl) ?_; clear H; intro s H)
  | ((with_reducible show wpAny _ _ (getAttr _ _ _) _ _ _); refine at_own H T.X (H.inst (by tb_start) (by tb_start)) T.o__pred_395 (by rfl) (by rfl) ?_; clear H; intro s H)
  | ((with_reducible show wpAny _ _ (getAttr _ _ _) _ _ _); refine at_own H T.X (H.inst (by tb_start) (by tb_start)) T.o_graph_395 (by rfl) (by rfl) ?_; clear H; intro s H))
set_option hygiene false in
local macro_rules | `(tactic| k_upd) => `(tactic| (refine st_loc2 F H (by tb_start) (by tb_start) (by tb_rel) (by tb_rel) ?_; clear H; intro s H))
set_option hygiene false in
local macro_rules | `(tactic| k_fold) => `(tactic| (repeat tb_lt))

section
variable {w : World} {A : Around} {B : Bs} {l l' : Ledger} {s : Shared} {mg mb : Str → Option Value} {K : Frag} {v : Value} {a : GA} {ga : List (Str × Value)}

/-- a def that bears `**attr`, nothing for it given -/
theorem call_kw0 {n : Nat} {f : Addr} {qual : Str} {params : Arguments} {body : List Stmt} {scope : Scope} {cl : List (Str × Addr)} {dV kV cdv : Value} {pos : List Value} {kw : List (Str × Value)} {Q : Value → Shared → Prop} (binds : List (Str × Value)) (pn rest : List Str) (R : Room A (n + 1)) (T : KP mg mb K B.h)
    (F : FnAt B.h f qual params body scope cl dV kV cdv) (ok : okDef scope pn rest = true) (hpn : binds.map (·.1) ++ [Str.ofString "attr"] = pn)
    (hb : ∀ name doc pm an ct, bindArgs (fnX name qual params body scope cl dV kV doc pm an cdv ct) ⟨pos, kw⟩ = (alloc { cls := .type "dict", data := .dict #[] } >>= fun d => pure (binds ++ [(Str.ofString "attr", Value.ref d)]))) (H : St prog w B l s)
    (h : ∀ d L s₂, St prog w B ((L, .ns (frameOf (binds ++ [(Str.ofString "attr", Value.ref d)]) rest)) :: (d, .dS []) :: l) s₂ → WP prog w (A.deeper (envX qual scope L f cdv cl)) (execs body (envX qual scope L f cdv cl)) (fun fl s' => Q (retv fl) s') s₂) : WC prog w A (.ref f) pos kw Q s := by
  refine call_def pn rest R T.nolimit (F.keeps H.keep) ok fun name doc pm an ct => ?_
  rw [hb]
  refine wpAny_bind (alloc_d H fun d s H => ?_)
  exact wpAny_pure ⟨_, H, by rw [List.map_append]; exact hpn, h d⟩
theorem call_kw1 {n : Nat} {f : Addr} {qual : Str} {params : Arguments} {body : List Stmt} {scope : Scope} {cl : List (Str × Addr)} {dV kV cdv : Value} {pos : List Value} {kw : List (Str × Value)} {Q : Value → Shared → Prop} (binds : List (Str × Value)) (pn rest : List Str) (k : Str) (v : Value) (R : Room A (n + 1)) (T : KP mg mb K B.h)
    (F : FnAt B.h f qual params body scope cl dV kV cdv) (ok : okDef scope pn rest = true) (hpn : binds.map (·.1) ++ [Str.ofString "attr"] = pn)
    (hb : ∀ name doc pm an ct, bindArgs (fnX name qual params body scope cl dV kV doc pm an cdv ct) ⟨pos, kw⟩ = (alloc { cls := .type "dict", data := .dict #[] } >>= fun d => (forIn [(k, v)] PUnit.unit fun x _ => nsSet d x.1 x.2 >>= fun _ => pure (ForInStep.yield PUnit.unit)) >>= fun _ => pure (binds ++ [(Str.ofString "attr", Value.ref d)]))) (H : St prog w B l s)
    (h : ∀ d L s₂, St prog w B ((L, .ns (frameOf (binds ++ [(Str.ofString "attr", Value.ref d)]) rest)) :: (d, .dS [(k, v)]) :: l) s₂ → WP prog w (A.deeper (envX qual scope L f cdv cl)) (execs body (envX qual scope L f cdv cl)) (fun fl s' => Q (retv fl) s') s₂) : WC prog w A (.ref f) pos kw Q s := by
  refine call_def pn rest R T.nolimit (F.keeps H.keep) ok fun name doc pm an ct => ?_
  rw [hb]
  refine wpAny_bind (alloc_d H fun d s H => ?_)
  refine wpAny_bind ?_
  rw [List.forIn_cons]
  refine wpAny_bind (wpAny_bind (set_ns (kvs := []) H (by simp) (by decide) .head fun s H => wpAny_pure ?_))
  show wpAny _ _ (forIn [] _ _) _ _ _
  rw [List.forIn_nil]
  refine wpAny_pure ?_
  exact wpAny_pure ⟨_, H, by rw [List.map_append]; exact hpn, h d⟩
theorem call_def_at_kw0 {n : Nat} {f : Addr} {qual : Str} {params : Arguments} {body : List Stmt} {scope : Scope} {cl : List (Str × Addr)} {dV kV cdv : Value} {pos : List Value} {kw : List (Str × Value)} {Q : Value → Shared → Prop} (binds : List (Str × Value)) (pn rest : List Str) (R : Room A (n + 1)) (T : KP mg mb K B.h)
    (F : FnAt B.h f qual params body scope cl dV kV cdv) (ok : okDef scope pn rest = true) (hpn : binds.map (·.1) ++ [Str.ofString "attr"] = pn)
    (hb : ∀ name doc pm an ct, bindArgs (fnX name qual params body scope cl dV kV doc pm an cdv ct) ⟨pos, kw⟩ = (alloc { cls := .type "dict", data := .dict #[] } >>= fun d => pure (binds ++ [(Str.ofString "attr", Value.ref d)]))) (H : St prog w B l s)
    (h : ∀ d L s₂, St prog w B ((L, .ns (frameOf (binds ++ [(Str.ofString "attr", Value.ref d)]) rest)) :: (d, .dS []) :: l) s₂ → WA prog w (A.deeper (envX qual scope L f cdv cl)) (.func body (envX qual scope L f cdv cl)) (execs body (envX qual scope L f cdv cl)) (fun fl s' => Q (retv fl) s') s₂) : WC prog w A (.ref f) pos kw Q s := by
  refine call_def_at pn rest R T.nolimit (F.keeps H.keep) ok fun name doc pm an ct => ?_
  rw [hb]
  refine wpAny_bind (alloc_d H fun d s H => ?_)
  exact wpAny_pure ⟨_, H, by rw [List.map_append]; exact hpn, h d⟩
theorem set_dI_new {a : Addr} {kvs : List (Int × Value)} {k : Int} {t : Tok} {Q : Unit → Shared → Prop} (H : St prog w B l s) (hn : k ∉ kvs.map (·.1)) (hsz : kvs.length ≤ 1000) (u : Upd1 a (.dI kvs) (.dI (kvs ++ [(k, v)])) l l') (h : ∀ s', St prog w B l' s' → Q () s') : WP prog w A (setItem (.ref a) (.int k t) v) Q s := by
  rw [← stored_new hn] at u
  exact set_dI H (Nat.le_trans hsz (by rw [sizeLine_eq]; decide)) u h

theorem nodI {a : Addr} {kvs : List (Int × Value)} (H : St prog w B l s) (hm : (a, .dI kvs) ∈ l) : (kvs.map (·.1)).Nodup := by
  obtain ⟨o, es, ep, _, _, _, _, _, h⟩ := H.dI hm
  exact h
theorem c_gadd_new {rn ra : List (Int × Value)} {pr : SO} {n : Int} {t : Tok} {Q : Value → Shared → Prop} (R : Room A 2) (T : KP mg mb K B.h) (H : St prog w B (ghd a (.dI rn) (.dI ra) pr ga ++ l) s) (h1 : n ∉ rn.map (·.1)) (h2 : n ∉ ra.map (·.1)) (l1 : rn.length ≤ 1000) (l2 : ra.length ≤ 1000)
    (h : ∀ n1 a1 s', St prog w B (ghd a (.dI (rn ++ [(n, Value.ref n1)])) (.dI (ra ++ [(n, Value.ref a1)])) pr ga ++ (n1, .dS []) :: (a1, .dI []) :: l) s' → Q .none s') : WC prog w A (.ref 199) [.ref a.x, .int n t] [] Q s := by
  refine call_kw0 [("self", .ref a.x), ("node_for_adding", .int n t)] _ [] R T T.g_add_node (by kernel_rfl) rfl (fun _ _ _ _ _ => by kernel_rfl) H fun dk L s H => ?_
  have F := fm_of (scope := scopeS (mG 8)) (qual := "Graph.add_node") (L := L) (f := 199) (cdv := .ref 198) (cl := []) (ns := ["self", "node_for_adding", "attr"]) (csn := []) (gs := []) (by kernel_rfl) rfl
  k_flat
  unfold ghd at H
  k_flat
  refine x_cons (st := .If _ _ _ _) (wpAny_If ?_)
  refine wpAny_isTrue_Compare1 ?_
  k_fold
  refine notIn_dI H (H.lo (x := .dI rn) (by tb_start)) (H.dI (kvs := rn) (by tb_start)) ?_
  clear H; intro s H
  rw [valueAt_none h1]
  refine wpAny_truthy_bool ?_
  rw [if_pos (by rfl)]
  refine x_cons (st := .If _ _ _ _) (wpAny_If ?_)
  refine wpAny_isTrue_Compare1 ?_
  k_fold
  refine is_none ?_
  refine wpAny_truthy_bool ?_
  rw [if_neg (by show ¬ (false = true); decide)]
  refine x_nil ?_
  refine x_cons (st := .Assign [.Subscript _ _ _] _ _) (wpAny_Assign_Subscript ?_)
  refine ev_dictI H ?_
  clear H; intro a1 s H
  k_fold
  refine set_dI_new H h2 l2 (by tb_rel) ?_
  clear H; intro s H
  refine x_one (st := .Assign [.Subscript _ _ _] _ _) (wpAny_Assign_Subscript ?_)
  refine ev_dictS H ?_
  clear H; intro n1 s H
  k_fold
  refine set_dI_new H h1 l1 (by tb_rel) ?_
  clear H; intro s H
  refine x_one (st := .Expr _ _) (wpAny_Expr_any ?_)
  refine ev_meth ?_
  k_fold
  refine sub_dI H (H.dI (kvs := rn ++ [(n, Value.ref n1)]) (by tb_start)) (v := .ref n1) (valueAt_mem (nodI H (by tb_start)) (by simp)) ?_
  clear H; intro s H
  intro pl
  refine gm_update H (kvs := []) (by tb_start) ?_
  refine call_pos ?_
  refine sp_cons ?_
  k_fold
  refine sp_nil ⟨keeps_blt, ?_⟩
  refine c_update H (H.apart (by k_ne)) (kvs := []) (more := []) (kvs' := []) (by tb_start) (by rfl) (by decide) (by tb_rel) ?_
  clear H; intro s H
  refine h n1 a1 s (H.sel ?_)
  show Sel ((a.x, _) :: (a.dx, _) :: (a.gr, _) :: (a.nd, _) :: (a.ad, _) :: (a.pr, _) :: (n1, _) :: (a1, _) :: l) _
  k_sub

theorem c_gadd_old {nd ad pr : SO} {rn : List (Int × Value)} {n : Int} {t : Tok} {n1 : Addr} {Q : Value → Shared → Prop} (R : Room A 2) (T : KP mg mb K B.h) (H : St prog w B l s) (hx : (a.x, .raw (instObj 395 a.dx)) ∈ l) (hd : (a.dx, .dS (gdict a)) ∈ l) (hn : (a.nd, .dI rn) ∈ l) (hv : valueAt rn n = some (.ref n1)) (hn1 : Upd1 n1 (.dS []) (.dS []) l l)
    (h : ∀ s', St prog w B l s' → Q .none s') : WC prog w A (.ref 199) [.ref a.x, .int n t] [] Q s := by
  refine call_kw0 [("self", .ref a.x), ("node_for_adding", .int n t)] _ [] R T T.g_add_node (by kernel_rfl) rfl (fun _ _ _ _ _ => by kernel_rfl) H fun dk L s H => ?_
  have F := fm_of (scope := scopeS (mG 8)) (qual := "Graph.add_node") (L := L) (f := 199) (cdv := .ref 198) (cl := []) (ns := ["self", "node_for_adding", "attr"]) (csn := []) (gs := []) (by kernel_rfl) rfl
  k_flat
  refine x_cons (st := .If _ _ _ _) (wpAny_If ?_)
  refine wpAny_isTrue_Compare1 ?_
  k_fold
  refine notIn_dI H (H.lo (x := .dI rn) (by tb_start)) (H.dI (kvs := rn) (by tb_start)) ?_
  clear H; intro s H
  rw [hv]
  refine wpAny_truthy_bool ?_
  rw [if_neg (by show ¬ (false = true); decide)]
  refine x_nil ?_
  refine x_one (st := .Expr _ _) (wpAny_Expr_any ?_)
  refine ev_meth ?_
  k_fold
  refine sub_dI H (H.dI (kvs := rn) (by tb_start)) hv ?_
  clear H; intro s H
  intro pl
  refine gm_update H (kvs := []) (.tail _ (.tail _ hn1.mem)) ?_
  refine call_pos ?_
  refine sp_cons ?_
  k_fold
  refine sp_nil ⟨keeps_blt, ?_⟩
  refine c_update H (H.apart (.tail (.head' hn1.mem))) (kvs := []) (more := []) (kvs' := []) (by tb_start) (by rfl) (by decide) (.tail (.tail hn1)) ?_
  clear H; intro s H
  exact h s H.drop.drop

theorem c_add_new {rn ra rp : List (Int × Value)} {n : Int} {t : Tok} {Q : Value → Shared → Prop} (R : Room A 8) (T : KP mg mb K B.h) (H : St prog w B (ghd a (.dI rn) (.dI ra) (.dI rp) ga ++ l) s) (h1 : n ∉ rn.map (·.1)) (h2 : n ∉ ra.map (·.1)) (h3 : n ∉ rp.map (·.1)) (l1 : rn.length ≤ 1000) (l2 : ra.length ≤ 1000) (l3 : rp.length ≤ 1000)
    (h : ∀ n1 a1 p1 s', St prog w B (ghd a (.dI (rn ++ [(n, Value.ref n1)])) (.dI (ra ++ [(n, Value.ref a1)])) (.dI (rp ++ [(n, Value.ref p1)])) ga ++ (n1, .dS []) :: (a1, .dI []) :: (p1, .dI []) :: l) s' → Q .none s') : WC prog w A (.ref 352) [.ref a.x, .int n t] [] Q s := by
  refine call_def_at_kw0 [("self", .ref a.x), ("node_for_adding", .int n t)] _ [] R T T.f_add_node (by kernel_rfl) rfl (fun _ _ _ _ _ => by kernel_rfl) H fun dk L s H => ?_
  have F := fm_of (scope := scopeS (mDi 4)) (qual := "DiGraph.add_node") (L := L) (f := 352) (cdv := .ref 351) (cl := [("__class__", 307)]) (ns := ["self", "node_for_adding", "attr"]) (csn := ["__class__"]) (gs := ["super"]) (by kernel_rfl) rfl
  have R1 := Room.deeper (env := envX "DiGraph.add_node" (scopeS (mDi 4)) L 352 (.ref 351) [("__class__", 307)]) (n := 7) R
  k_flat
  have g1 : (a.x, .raw (instObj 395 a.dx)) ∈ ghd a (.dI rn) (.dI ra) (.dI rp) ga ++ l := .head _
  have g2 : (a.dx, .dS (gdict a)) ∈ ghd a (.dI rn) (.dI ra) (.dI rp) ga ++ l := .tail _ (.head _)
  refine xa_expr (e := .Call (.Attribute (.Call (.Name "super" _) [] [] _) _ _) _ _ _) ?_
  refine ev_super_star ?_
  refine super_base (D := 395) (C := 395) (dx := a.dx) (kvs := gdict a) (ar := ⟨"self", none, _⟩) (ns := ["self", "node_for_adding", "attr"]) (gs := ["super"]) H T.toTp T.f_add_node F (by tb_start) (by tb_start) (by tb_start) (by tb_start) (cc := 307) (by tb_start) rfl T.file351 T.cell307 (H.inst (by tb_start) (by tb_start)) T.su_ok T.gb_super (by decide) (by kernel_rfl) (by kernel_rfl) ?_
  clear H; intro so s H
  refine at_super H T.X (by tb_start) (H.inst (by tb_start) (by tb_start)) T.su_add (by decide) ?_
  clear H; intro q s H
  refine call_star1 (B := B) (e := .Name _ _) (ke := .Name _ _) ?_
  k_fold
  refine ⟨_, H, fun d s H => ?_⟩
  k_fold
  refine ⟨dk, _, rfl, H.lo (x := .dS []) (by tb_start), H, by tb_start, by tb_start, keeps_bound (T.X.keeps H.keep) (H.raw (by tb_start)) T.fi199, ?_⟩
  refine call_of (call_bound (H.raw (by tb_start)) ?_)
  refine c_gadd_new (rn := rn) (ra := ra) (pr := .dI rp) (ga := ga) (l := (L, .ns [("self", some (.ref a.x)), ("node_for_adding", some (.int n t)), ("attr", some (.ref dk))]) :: l) (R1.less (by decide)) T (H.sel ?_) h1 h2 l1 l2 ?_
  · k_sub
  clear H; intro n1 a1 s H
  unfold ghd at H
  k_flat
  refine x_one (st := .If _ _ _ _) (wpAny_If ?_)
  refine wpAny_isTrue_Compare1 ?_
  k_fold
  refine notIn_dI H (H.lo (x := .dI rp) (by tb_start)) (H.dI (kvs := rp) (by tb_start)) ?_
  clear H; intro s H
  rw [valueAt_none h3]
  refine wpAny_truthy_bool ?_
  rw [if_pos (by rfl)]
  refine x_one (st := .Assign [.Subscript _ _ _] _ _) (wpAny_Assign_Subscript ?_)
  refine ev_dictI H ?_
  clear H; intro p1 s H
  k_fold
  refine set_dI_new H h3 l3 (by tb_rel) ?_
  clear H; intro s H
  refine h n1 a1 p1 s (H.sel ?_)
  show Sel ((a.x, _) :: (a.dx, _) :: (a.gr, _) :: (a.nd, _) :: (a.ad, _) :: (a.pr, _) :: (n1, _) :: (a1, _) :: (p1, _) :: l) _
  k_sub

theorem c_add_old {ad : SO} {rn rp : List (Int × Value)} {n : Int} {t : Tok} {n1 : Addr} {vp : Value} {Q : Value → Shared → Prop} (R : Room A 8) (T : KP mg mb K B.h) (H : St prog w B l s) (hx : (a.x, .raw (instObj 395 a.dx)) ∈ l) (hd : (a.dx, .dS (gdict a)) ∈ l) (hn : (a.nd, .dI rn) ∈ l) (hv : valueAt rn n = some (.ref n1)) (hn1 : Upd1 n1 (.dS []) (.dS []) l l)
    (hp : (a.pr, .dI rp) ∈ l) (hvp : valueAt rp n = some vp) (h : ∀ s', St prog w B l s' → Q .none s') : WC prog w A (.ref 352) [.ref a.x, .int n t] [] Q s := by
  refine call_def_at_kw0 [("self", .ref a.x), ("node_for_adding", .int n t)] _ [] R T T.f_add_node (by kernel_rfl) rfl (fun _ _ _ _ _ => by kernel_rfl) H fun dk L s H => ?_
  have F := fm_of (scope := scopeS (mDi 4)) (qual := "DiGraph.add_node") (L := L) (f := 352) (cdv := .ref 351) (cl := [("__class__", 307)]) (ns := ["self", "node_for_adding", "attr"]) (csn := ["__class__"]) (gs := ["super"]) (by kernel_rfl) rfl
  have R1 := Room.deeper (env := envX "DiGraph.add_node" (scopeS (mDi 4)) L 352 (.ref 351) [("__class__", 307)]) (n := 7) R
  k_flat
  refine xa_expr (e := .Call (.Attribute (.Call (.Name "super" _) [] [] _) _ _) _ _ _) ?_
  refine ev_super_star ?_
  refine super_base (D := 395) (C := 395) (dx := a.dx) (kvs := gdict a) (ar := ⟨"self", none, _⟩) (ns := ["self", "node_for_adding", "attr"]) (gs := ["super"]) H T.toTp T.f_add_node F (by tb_start) (by tb_start) (by tb_start) (by tb_start) (cc := 307) (by tb_start) rfl T.file351 T.cell307 (H.inst (by tb_start) (by tb_start)) T.su_ok T.gb_super (by decide) (by kernel_rfl) (by kernel_rfl) ?_
  clear H; intro so s H
  refine at_super H T.X (by tb_start) (H.inst (by tb_start) (by tb_start)) T.su_add (by decide) ?_
  clear H; intro q s H
  refine call_star1 (B := B) (e := .Name _ _) (ke := .Name _ _) ?_
  k_fold
  refine ⟨_, H, fun d s H => ?_⟩
  k_fold
  refine ⟨dk, _, rfl, H.lo (x := .dS []) (by tb_start), H, by tb_start, by tb_start, keeps_bound (T.X.keeps H.keep) (H.raw (by tb_start)) T.fi199, ?_⟩
  refine call_of (call_bound (H.raw (by tb_start)) ?_)
  refine c_gadd_old (nd := .dI rn) (ad := ad) (pr := .dI rp) (R1.less (by decide)) T H (by tb_start) (by tb_start) (rn := rn) (by tb_start) hv (n1 := n1) (.tail (.tail (.tail (.tail (.tail hn1))))) ?_
  clear H; intro s H
  refine x_one (st := .If _ _ _ _) (wpAny_If ?_)
  refine wpAny_isTrue_Compare1 ?_
  k_fold
  refine notIn_dI H (H.lo (x := .dI rp) (by tb_start)) (H.dI (kvs := rp) (by tb_start)) ?_
  clear H; intro s H
  rw [hvp]
  refine wpAny_truthy_bool ?_
  rw [if_neg (by show ¬ (false = true); decide)]
  refine x_nil ?_
  exact h s (H.sel (by k_sub))
end
end Mine

-- MC7
namespace Mine
open PySem PySem.W PySem.Calls PyProof.Rows Builtin Builtin.ObjectAttr

local macro_rules | `(tactic| tb_start) => `(tactic| first | with_reducible exact List.mem_cons_self | with_reducible assumption | (with_reducible apply List.mem_cons_of_mem; tb_start) | (with_reducible apply List.mem_append_left; tb_start) | (with_reducible apply List.mem_append_right; tb_start) | with_reducible exact g_x | with_reducible exact g_dx | with_reducible exact g_gr | with_reducible exact g_nd | with_reducible exact g_ad | with_reducible exact g_pr)
local macro_rules | `(tactic| tb_rel) => `(tactic| first | with_reducible exact Upd1.head | with_reducible exact Put.head | (with_reducible apply Upd1.tail; tb_rel) | (with_reducible apply Put.tail; tb_rel))
local macro_rules | `(tactic| k_ne) => `(tactic| first | (with_reducible apply Apart.head; tb_start) | (with_reducible apply Apart.head'; tb_start) | (with_reducible apply Apart.tail; k_ne))
local macro_rules | `(tactic| k_same) => `(tactic| first | with_reducible exact Split.head | (with_reducible apply Split.tail; k_same) | (with_reducible apply Split.skip; k_same))
local macro_rules | `(tactic| k_same2) => `(tactic| first | with_reducible exact SplitL.head | with_reducible exact SplitL.last | (with_reducible apply SplitL.tail; k_same2) | (with_reducible apply SplitL.skip; k_same2))
local macro_rules | `(tactic| k_sub) => `(tactic| first | with_reducible exact Sel.nil | with_reducible exact Sel.all | (with_reducible refine Sel.cons (by k_same) ?_; k_sub) | (with_reducible refine Sel.app (by k_same2) ?_; k_sub) | (with_reducible exact Sel.one (by k_same2)))
set_option hygiene false in
local macro_rules | `(tactic| k_flat) => `(tactic| simp only [frameOf, List.map_cons, List.map_nil, List.cons_append, List.nil_append, List.append_nil] at H)
set_option hygiene false in
local macro_rules | `(tactic| tb_lt) => `(tactic| first
  | (with_reducible refine ev_loc F H (by tb_start) (by tb_start) (by tb_start) ?_)
  | (with_reducible refine ev_int H ?_; clear H; intro _ s H)
  | (with_reducible refine ev_str H ?_; clear H; intro _ s H)
  | (with_reducible refine ev_none ?_)
  | (with_reducible refine ev_bool ?_)
  | (with_reducible refine ev_cel F H (by tb_start) (by tb_start) ?_)
  | (with_reducible refine Attribute_any_ ?_)
  | (with_reducible refine Subscript_ ?_)
  | (with_reducible refine wpAny_BinOp ?_)
  | (with_reducible refine wpAny_Compare1 ?_)
  | ((with_reducible show wpAny _ _ (getAttr _ _ _) _ _ _); refine at_own H T.X (H.inst (by tb_start) (by tb_start)) T.o__adj_395 (by rfl) (by rfl) ?_; clear H; intro s H)
  | ((with_reducible show wpAny _ _ (getAttr _ _ _) _ _ _); refine at_own H T.X (H.inst (by tb_start) (by tb_start)) T.o__node_395 (by rfl) (by rfl) ?_; clear H; intro s H)
  | ((with_reducible show wpAny _ _ (getAttr _ _ _) _ _ _); refine at_own H T.X (H.inst (by tb_start) (by tb_start)) T.o__pred_395 (by rfl) (by rfl) ?_; clear H; intro s H)
  | ((with_reducible show wpAny _ _ (getAttr _ _ _) _ _ _); refine at_own H T.X (H.inst (by tb_start) (by tb_start)) T.o_graph_395 (by rfl) (by rfl) ?_; clear H; intro s H))
set_option hygiene false in
local macro_rules | `(tactic| k_upd) => `(tactic| (refine st_loc2 F H (by tb_start) (by tb_start) (by tb_rel) (by tb_rel) ?_; clear H; intro s H))
set_option hygiene false in
local macro_rules | `(tactic| k_fold) => `(tactic| (repeat tb_lt))

/-- an edge laid -/
structure Ed where
  u : Nat
  v : Nat
  at_ : Addr
  kv : List (Str × Value)
def scOf (es : List Ed) (i : Nat) : List (Int × Value) := (es.filter (fun e => e.u == i)).map fun e => ((e.v : Int), Value.ref e.at_)
def pdOf (es : List Ed) (i : Nat) : List (Int × Value) := (es.filter (fun e => e.v == i)).map fun e => ((e.u : Int), Value.ref e.at_)
def mkG (N : Nat) (nA aA pA : Nat → Addr) (es : List Ed) : GS := ⟨N, nA, aA, pA, .dI (rows nA N), .dI (rows aA N), fun i => .dI (scOf es i), fun i => .dI (pdOf es i), es.map fun e => (e.at_, e.kv)⟩
theorem rows_mem {f : Nat → Addr} {N i : Nat} (h : i < N) : ((i : Int), Value.ref (f i)) ∈ rows f N := List.mem_map.mpr ⟨i, List.mem_range.mpr h, rfl⟩
theorem rows_keys (f : Nat → Addr) (N : Nat) : ((rows f N).map (·.1)).Nodup := by
  unfold rows
  rw [List.map_map]
  exact List.Pairwise.map _ (fun a b h q => h (by have q : (a : Int) = (b : Int) := q; omega)) List.nodup_range
theorem rows_at {f : Nat → Addr} {N i : Nat} (h : i < N) : valueAt (rows f N) (i : Int) = some (.ref (f i)) := valueAt_mem (rows_keys f N) (rows_mem h)
theorem rows_no {f : Nat → Addr} {N : Nat} : (N : Int) ∉ (rows f N).map (·.1) := by
  unfold rows
  simp only [List.map_map, List.mem_map, List.mem_range, Function.comp]
  rintro ⟨i, hi, e⟩
  omega
theorem rows_len (f : Nat → Addr) (N : Nat) : (rows f N).length = N := by simp [rows]
theorem rows_succ {f : Nat → Addr} {N : Nat} {b : Addr} (hb : f N = b) : rows f N ++ [((N : Int), Value.ref b)] = rows f (N + 1) := by unfold rows; rw [List.range_succ, List.map_append]; subst hb; rfl
theorem scOf_app (es : List Ed) (e : Ed) (i : Nat) : scOf (es ++ [e]) i = if i = e.u then scOf es i ++ [((e.v : Int), .ref e.at_)] else scOf es i := by
  unfold scOf
  rw [List.filter_append, List.map_append]
  by_cases h : i = e.u
  · subst h; simp
  · have : (e.u == i) = false := beq_eq_false_iff_ne.mpr fun q => h q.symm
    simp [this, h]
theorem pdOf_app (es : List Ed) (e : Ed) (i : Nat) : pdOf (es ++ [e]) i = if i = e.v then pdOf es i ++ [((e.u : Int), .ref e.at_)] else pdOf es i := by
  unfold pdOf
  rw [List.filter_append, List.map_append]
  by_cases h : i = e.v
  · subst h; simp
  · have : (e.v == i) = false := beq_eq_false_iff_ne.mpr fun q => h q.symm
    simp [this, h]
theorem scOf_no {es : List Ed} {u v : Nat} (h : ∀ e ∈ es, ¬(e.u = u ∧ e.v = v)) : (v : Int) ∉ (scOf es u).map (·.1) := by
  unfold scOf
  simp only [List.map_map, List.mem_map, List.mem_filter, Function.comp, beq_iff_eq]
  rintro ⟨e, ⟨he, hu⟩, hv⟩
  exact h e he ⟨hu, by omega⟩
theorem pdOf_no {es : List Ed} {u v : Nat} (h : ∀ e ∈ es, ¬(e.u = u ∧ e.v = v)) : (u : Int) ∉ (pdOf es v).map (·.1) := by
  unfold pdOf
  simp only [List.map_map, List.mem_map, List.mem_filter, Function.comp, beq_iff_eq]
  rintro ⟨e, ⟨he, hu⟩, hv⟩
  exact h e he ⟨by omega, hu⟩

section
variable {w : World} {A : Around} {B : Bs} {l l' : Ledger} {s : Shared} {mg mb : Str → Option Value} {K : Frag} {v : Value} {a : GA} {ga : List (Str × Value)}

theorem gl_self {S : GS} {i : Nat} (h : i < S.N) : Upd1 (S.nA i) (.dS []) (.dS []) (gl a S ga) (gl a S ga) :=
  (((rowL_upd (k := S.nA) (f := fun _ => .dS []) (f' := fun _ => .dS []) h fun _ _ => rfl).append _).right _)

theorem gl_at {S : GS} {d : Addr} {kv : List (Str × Value)} : ((d, .dS kv) :: gl a S ga).Perm (gl a { S with at_ := S.at_ ++ [(d, kv)] } ga) := by
  have e : gl a { S with at_ := S.at_ ++ [(d, kv)] } ga = gl a S ga ++ [(d, .dS kv)] := by
    unfold gl atL
    simp only [List.map_append, List.map_cons, List.map_nil, List.append_assoc]
  rw [e]
  exact (List.perm_append_comm (l₁ := [(d, SO.dS kv)]))
theorem mkG_app {N : Nat} {nA aA pA : Nat → Addr} {es : List Ed} {u v : Nat} {d : Addr} {kv : List (Str × Value)} :
    (⟨N, nA, aA, pA, .dI (rows nA N), .dI (rows aA N), updN (fun i => .dI (scOf es i)) u (.dI (scOf es u ++ [((v : Int), .ref d)])), updN (fun i => .dI (pdOf es i)) v (.dI (pdOf es v ++ [((u : Int), .ref d)])), (es.map fun e => (e.at_, e.kv)) ++ [(d, kv)]⟩ : GS) = mkG N nA aA pA (es ++ [⟨u, v, d, kv⟩]) := by
  unfold mkG
  congr 1
  · funext i
    rw [scOf_app]
    by_cases h : i = u
    · subst h; rw [updN_self, if_pos rfl]
    · rw [updN_ne _ _ h, if_neg h]
  · funext i
    rw [pdOf_app]
    by_cases h : i = v
    · subst h; rw [updN_self, if_pos rfl]
    · rw [updN_ne _ _ h, if_neg h]
  · simp
theorem add_edge_body {N : Nat} {nA aA pA : Nat → Addr} {es : List Ed} {u v : Nat} {tu tv : Tok} {kv : List (Str × Value)} {L dk : Addr} {Q : Value → Shared → Prop} (R : Room A 9) (T : KP mg mb K B.h) (hu : u < N) (hv : v < N) (hN : N ≤ 100) (hes : es.length ≤ 200) (hnew : ∀ e ∈ es, ¬(e.u = u ∧ e.v = v)) (hkv : merged [] kv = kv) (hkl : kv.length ≤ 5)
    (H : St prog w B ((L, .ns [("self", some (.ref a.x)), ("u_of_edge", some (.int u tu)), ("v_of_edge", some (.int v tv)), ("attr", some (.ref dk)), ("u", none), ("v", none), ("datadict", none)]) :: (dk, .dS kv) :: (gl a (mkG N nA aA pA es) ga ++ l)) s)
    (h : ∀ d s', St prog w B (gl a (mkG N nA aA pA (es ++ [⟨u, v, d, kv⟩])) ga ++ l) s' → Q .none s') :
    WP prog w A (execs (bodyS (mDi 5)) (envX "DiGraph.add_edge" (scopeS (mDi 5)) L 359 (.ref 358) [])) (fun fl s' => Q (retv fl) s') s := by
  have F := fm_of (scope := scopeS (mDi 5)) (qual := "DiGraph.add_edge") (L := L) (f := 359) (cdv := .ref 358) (cl := []) (ns := ["self", "u_of_edge", "v_of_edge", "attr", "u", "v", "datadict"]) (csn := []) (gs := []) (by kernel_rfl) rfl
  have nu := rows_at (f := nA) hu
  have nv := rows_at (f := nA) hv
  refine x_cons (st := .Assign [.Tuple _ _ _] _ _) ?_
  refine x_assign_swap (B := B) ["u", "v"] R.none ?_
  refine ev_Tuple ?_
  refine sp_cons ?_
  k_fold
  refine sp_cons ?_
  k_fold
  refine sp_nil ?_
  refine new_tuple H (by show 2 ≤ sizeLine; decide) ?_
  clear H; intro tp s H
  refine ⟨tp, _, _, rfl, H, by tb_start, rfl, ?_⟩
  clear H; intro s H
  refine ao_cons (bindName_ ?_)
  k_upd
  refine ao_cons (bindName_ ?_)
  k_upd
  refine ao_nil ?_
  -- self.add_node(u); self.add_node(v)
  refine x_cons (st := .Expr _ _) (wpAny_Expr_any ?_)
  refine ev_meth ?_
  k_fold
  intro pl
  refine gm_inst (T.X.keeps H.keep) (H.inst (kvs := gdict a) (by tb_start) (by tb_start)) T.m_add_node (by rfl) ?_
  refine call_pos ?_
  refine sp_cons ?_
  k_fold
  refine sp_nil ⟨(T.f_add_node.keeps H.keep).keeper, call_of ?_⟩
  refine c_add_old (ad := .dI (rows aA N)) (rp := rows pA N) (vp := .ref (pA u)) (R.less (by decide)) T H (by tb_start) (by tb_start) (rn := rows nA N) (.tail _ (.tail _ (.tail _ (List.mem_append_left _ g_nd)))) nu (.tail (.tail (.tail ((gl_self (S := mkG N nA aA pA es) hu).append _)))) (.tail _ (.tail _ (.tail _ (List.mem_append_left _ g_pr)))) (rows_at hu) ?_
  clear H; intro s H
  refine x_cons (st := .Expr _ _) (wpAny_Expr_any ?_)
  refine ev_meth ?_
  k_fold
  intro pl
  refine gm_inst (T.X.keeps H.keep) (H.inst (kvs := gdict a) (by tb_start) (by tb_start)) T.m_add_node (by rfl) ?_
  refine call_pos ?_
  refine sp_cons ?_
  k_fold
  refine sp_nil ⟨(T.f_add_node.keeps H.keep).keeper, call_of ?_⟩
  refine c_add_old (ad := .dI (rows aA N)) (rp := rows pA N) (vp := .ref (pA v)) (R.less (by decide)) T H (by tb_start) (by tb_start) (rn := rows nA N) (.tail _ (.tail _ (.tail _ (List.mem_append_left _ g_nd)))) nv (.tail (.tail (.tail ((gl_self (S := mkG N nA aA pA es) hv).append _)))) (.tail _ (.tail _ (.tail _ (List.mem_append_left _ g_pr)))) (rows_at hv) ?_
  clear H; intro s H
  replace H := H.drop
  -- datadict = self._adj[u].get(v, {})
  refine x_cons (st := .Assign [.Name _ _] _ _) (wpAny_Assign_Name ?_)
  refine ev_meth ?_
  k_fold
  refine sub_dI H (H.dI (kvs := rows aA N) (.tail _ (.tail _ (List.mem_append_left _ g_ad)))) (rows_at hu) ?_
  clear H; intro s H
  intro pl
  refine gm_getI (kvi := scOf es u) H (.tail _ (.tail _ (List.mem_append_left _ (g_aA (S := mkG N nA aA pA es) hu)))) ?_
  refine call_pos ?_
  refine sp_cons ?_
  k_fold
  refine sp_cons ?_
  refine ev_dictS H ?_
  clear H; intro d s H
  refine sp_nil ⟨keeps_blt, ?_⟩
  refine c_get2I (kvi := scOf es u) H (.tail _ (.tail _ (.tail _ (List.mem_append_left _ (g_aA (S := mkG N nA aA pA es) hu))))) ?_
  clear H; intro s H
  rw [valueAt_none (scOf_no hnew)]
  show WP _ _ _ _ _ _
  k_upd
  -- datadict.update(attr)
  refine x_cons (st := .Expr _ _) (wpAny_Expr_any ?_)
  refine ev_meth ?_
  k_fold
  intro pl
  refine gm_update H (kvs := []) (by tb_start) ?_
  refine call_pos ?_
  refine sp_cons ?_
  k_fold
  refine sp_nil ⟨keeps_blt, ?_⟩
  refine c_update H (H.apart (by k_ne)) (kvs := []) (more := kv) (kvs' := kv) (by tb_start) hkv (by show 0 + kv.length ≤ sizeLine; rw [sizeLine_eq]; omega) (by tb_rel) ?_
  clear H; intro s H
  -- self._adj[u][v] = datadict
  refine x_cons (st := .Assign [.Subscript _ _ _] _ _) (wpAny_Assign_Subscript ?_)
  k_fold
  refine sub_dI H (H.dI (kvs := rows aA N) (.tail _ (.tail _ (.tail _ (List.mem_append_left _ g_ad))))) (rows_at hu) ?_
  clear H; intro s H
  k_fold
  refine set_dI_new H (scOf_no hnew) (by unfold scOf; rw [List.length_map]; exact Nat.le_trans (List.length_filter_le _ _) (by omega)) (.tail (.tail (.tail ((u_aA (S := mkG N nA aA pA es) hu).append _)))) ?_
  clear H; intro s H
  refine x_one (st := .Assign [.Subscript _ _ _] _ _) (wpAny_Assign_Subscript ?_)
  k_fold
  refine sub_dI H (H.dI (kvs := rows pA N) (.tail _ (.tail _ (.tail _ (List.mem_append_left _ g_pr))))) (rows_at hv) ?_
  clear H; intro s H
  k_fold
  refine set_dI_new H (pdOf_no hnew) (by unfold pdOf; rw [List.length_map]; exact Nat.le_trans (List.length_filter_le _ _) (by omega)) (.tail (.tail (.tail ((u_pA (S := { mkG N nA aA pA es with sc := _ }) hv).append _)))) ?_
  clear H; intro s H
  refine h d s ?_
  have H2 : St prog w B ((d, .dS kv) :: (gl a ⟨N, nA, aA, pA, .dI (rows nA N), .dI (rows aA N), updN (fun i => .dI (scOf es i)) u (.dI (scOf es u ++ [((v : Int), .ref d)])), updN (fun i => .dI (pdOf es i)) v (.dI (pdOf es v ++ [((u : Int), .ref d)])), (es.map fun e => (e.at_, e.kv))⟩ ga ++ l)) s := H.sel (.cons .head (.app (.tail (.tail .head)) (.one (.tail (.tail .last)))))
  have H3 := H2.perm ((gl_at (kv := kv)).append_right l)
  rw [mkG_app] at H3
  exact H3
theorem c_add_edge0 {N : Nat} {nA aA pA : Nat → Addr} {es : List Ed} {u v : Nat} {tu tv : Tok} {Q : Value → Shared → Prop} (R : Room A 10) (T : KP mg mb K B.h) (hu : u < N) (hv : v < N) (hN : N ≤ 100) (hes : es.length ≤ 200) (hnew : ∀ e ∈ es, ¬(e.u = u ∧ e.v = v))
    (H : St prog w B (gl a (mkG N nA aA pA es) ga ++ l) s) (h : ∀ d s', St prog w B (gl a (mkG N nA aA pA (es ++ [⟨u, v, d, []⟩])) ga ++ l) s' → Q .none s') : WC prog w A (.ref 359) [.ref a.x, .int u tu, .int v tv] [] Q s := by
  refine call_kw0 [("self", .ref a.x), ("u_of_edge", .int u tu), ("v_of_edge", .int v tv)] _ ["u", "v", "datadict"] R T T.f_add_edge (by kernel_rfl) rfl (fun _ _ _ _ _ => by kernel_rfl) H fun dk L s H => ?_
  k_flat
  exact add_edge_body R.deeper T hu hv hN hes hnew rfl (by decide) H h
theorem c_add_edge1 {N : Nat} {nA aA pA : Nat → Addr} {es : List Ed} {u v : Nat} {tu tv : Tok} {c : Value} {Q : Value → Shared → Prop} (R : Room A 10) (T : KP mg mb K B.h) (hu : u < N) (hv : v < N) (hN : N ≤ 100) (hes : es.length ≤ 200) (hnew : ∀ e ∈ es, ¬(e.u = u ∧ e.v = v))
    (H : St prog w B (gl a (mkG N nA aA pA es) ga ++ l) s) (h : ∀ d s', St prog w B (gl a (mkG N nA aA pA (es ++ [⟨u, v, d, [("capacity", c)]⟩])) ga ++ l) s' → Q .none s') : WC prog w A (.ref 359) [.ref a.x, .int u tu, .int v tv] [("capacity", c)] Q s := by
  refine call_kw1 [("self", .ref a.x), ("u_of_edge", .int u tu), ("v_of_edge", .int v tv)] _ ["u", "v", "datadict"] "capacity" c R T T.f_add_edge (by kernel_rfl) rfl (fun _ _ _ _ _ => by kernel_rfl) H fun dk L s H => ?_
  k_flat
  exact add_edge_body R.deeper T hu hv hN hes hnew rfl (by show 1 ≤ 5; decide) H h
end
end Mine

-- MC8
namespace Mine
open PySem PySem.W PySem.Calls PyProof.Rows Builtin Builtin.ObjectAttr

local macro_rules | `(tactic| tb_start) => `(tactic| first | with_reducible exact List.mem_cons_self | with_reducible assumption | (with_reducible apply List.mem_cons_of_mem; tb_start) | (with_reducible apply List.mem_append_left; tb_start) | (with_reducible apply List.mem_append_right; tb_start) | with_reducible exact g_x | with_reducible exact g_dx | with_reducible exact g_gr | with_reducible exact g_nd | with_reducible exact g_ad | with_reducible exact g_pr)
local macro_rules | `(tactic| tb_rel) => `(tactic| first | with_reducible exact Upd1.head | with_reducible exact Put.head | (with_reducible apply Upd1.tail; tb_rel) | (with_reducible apply Put.tail; tb_rel))
local macro_rules | `(tactic| k_ne) => `(tactic| first | (with_reducible apply Apart.head; tb_start) | (with_reducible apply Apart.head'; tb_start) | (with_reducible apply Apart.tail; k_ne))
local macro_rules | `(tactic| k_same) => `(tactic| first | with_reducible exact Split.head | (with_reducible apply Split.tail; k_same) | (with_reducible apply Split.skip; k_same))
local macro_rules | `(tactic| k_same2) => `(tactic| first | with_reducible exact SplitL.head | with_reducible exact SplitL.last | (with_reducible apply SplitL.tail; k_same2) | (with_reducible apply SplitL.skip; k_same2))
local macro_rules | `(tactic| k_sub) => `(tactic| first | with_reducible exact Sel.nil | with_reducible exact Sel.all | (with_reducible refine Sel.cons (by k_same) ?_; k_sub) | (with_reducible refine Sel.app (by k_same2) ?_; k_sub) | (with_reducible exact Sel.one (by k_same2)))
set_option hygiene false in
local macro_rules | `(tactic| k_flat) => `(tactic| simp only [frameOf, List.map_cons, List.map_nil, List.cons_append, List.nil_append, List.append_nil] at H)
set_option hygiene false in
local macro_rules | `(tactic| tb_lt) => `(tactic| first
  | (with_reducible refine ev_loc F H (by tb_start) (by tb_start) (by tb_start) ?_)
  | (with_reducible refine ev_int H ?_; clear H; intro _ s H)
  | (with_reducible refine ev_str H ?_; clear H; intro _ s H)
  | (with_reducible refine ev_none ?_)
  | (with_reducible refine ev_bool ?_)
  | (with_reducible refine ev_cel F H (by tb_start) (by tb_start) ?_)
  | (with_reducible refine Attribute_any_ ?_)
  | (with_reducible refine Subscript_ ?_)
  | (with_reducible refine wpAny_BinOp ?_)
  | (with_reducible refine wpAny_Compare1 ?_)
  | ((with_reducible show wpAny _ _ (getAttr _ _ _) _ _ _); refine at_own H T.X (H.inst (by tb_start) (by tb_start)) T.o__adj_395 (by rfl) (by rfl) ?_; clear H; intro s H)
  | ((with_reducible show wpAny _ _ (getAttr _ _ _) _ _ _); refine at_own H T.X (H.inst (by tb_start) (by tb_start)) T.o__node_395 (by rfl) (by rfl) ?_; clear H; intro s H)
  | ((with_reducible show wpAny _ _ (getAttr _ _ _) _ _ _); refine at_own H T.X (H.inst (by tb_start) (by tb_start)) T.o__pred_395 (by rfl) (by rfl) ?_; clear H; intro s H)
  | ((with_reducible show wpAny _ _ (getAttr _ _ _) _ _ _); refine at_own H T.X (H.inst (by tb_start) (by tb_start)) T.o_graph_395 (by rfl) (by rfl) ?_; clear H; intro s H))
set_option hygiene false in
local macro_rules | `(tactic| k_upd) => `(tactic| (refine st_loc2 F H (by tb_start) (by tb_start) (by tb_rel) (by tb_rel) ?_; clear H; intro s H))
set_option hygiene false in
local macro_rules | `(tactic| k_fold) => `(tactic| (repeat tb_lt))

section
variable {w : World} {A : Around} {B : Bs} {l l' : Ledger} {s : Shared} {mg mb : Str → Option Value} {K : Frag} {v : Value} {a : GA} {ga : List (Str × Value)}

/-- a graph of nodes alone -/
def nodesG (N : Nat) (nA aA pA : Nat → Addr) : GS := mkG N nA aA pA []
theorem nodes_more {N : Nat} {nA aA pA : Nat → Addr} {n1 a1 p1 : Addr}
    (H : St prog w B (ghd a (.dI (rows nA N ++ [((N : Int), Value.ref n1)])) (.dI (rows aA N ++ [((N : Int), Value.ref a1)])) (.dI (rows pA N ++ [((N : Int), Value.ref p1)])) ga ++ (n1, .dS []) :: (a1, .dI []) :: (p1, .dI []) :: (rowL nA (fun _ => .dS []) N ++ (rowL aA (fun _ => .dI []) N ++ (rowL pA (fun _ => .dI []) N ++ l)))) s) :
    ∃ nA' aA' pA', St prog w B (gl a (mkG (N + 1) nA' aA' pA' []) ga ++ l) s := by
  refine ⟨fun i => if i = N then n1 else nA i, fun i => if i = N then a1 else aA i, fun i => if i = N then p1 else pA i, ?_⟩
  have e1 : ∀ (f : Nat → Addr) (b : Addr), rows (fun i => if i = N then b else f i) (N + 1) = rows f N ++ [((N : Int), Value.ref b)] := fun f b => by
    rw [← rows_succ (f := fun i => if i = N then b else f i) (N := N) (b := b) (by simp)]
    congr 1
    exact List.map_congr_left fun i hi => by simp [Nat.ne_of_lt (List.mem_range.mp hi)]
  have e2 : ∀ (f : Nat → Addr) (b : Addr) (x : SO), rowL (fun i => if i = N then b else f i) (fun _ => x) (N + 1) = rowL f (fun _ => x) N ++ [(b, x)] := fun f b x => by
    rw [rowL_succ]
    simp only [if_pos]
    congr 1
    exact rowL_congr fun i hi => ⟨by simp [Nat.ne_of_lt hi], rfl⟩
  have e3 : gl a (mkG (N + 1) (fun i => if i = N then n1 else nA i) (fun i => if i = N then a1 else aA i) (fun i => if i = N then p1 else pA i) []) ga =
      ghd a (.dI (rows nA N ++ [((N : Int), Value.ref n1)])) (.dI (rows aA N ++ [((N : Int), Value.ref a1)])) (.dI (rows pA N ++ [((N : Int), Value.ref p1)])) ga ++ (rowL nA (fun _ => .dS []) N ++ [(n1, .dS [])] ++ (rowL aA (fun _ => .dI []) N ++ [(a1, .dI [])] ++ (rowL pA (fun _ => .dI []) N ++ [(p1, .dI [])] ++ []))) := by
    unfold gl mkG
    simp only [e1]
    show ghd _ _ _ _ _ ++ (rowL _ (fun _ => .dS []) _ ++ (rowL _ (fun _ => .dI []) _ ++ (rowL _ (fun _ => .dI []) _ ++ []))) = _
    rw [e2, e2, e2]
  rw [e3]
  simp only [List.append_assoc, List.cons_append, List.nil_append, List.append_nil]
  refine H.sel ?_
  refine .app .head ?_
  refine .app (.tail (.tail (.tail .head))) ?_
  refine .cons .head ?_
  refine .app (.tail (.tail .head)) ?_
  refine .cons .head ?_
  refine .app (.tail .head) ?_
  exact .all
theorem nodes_less {N : Nat} {nA aA pA : Nat → Addr} : gl a (mkG N nA aA pA []) ga ++ l = ghd a (.dI (rows nA N)) (.dI (rows aA N)) (.dI (rows pA N)) ga ++ (rowL nA (fun _ => .dS []) N ++ (rowL aA (fun _ => .dI []) N ++ (rowL pA (fun _ => .dI []) N ++ l))) := by
  unfold gl mkG
  simp only [List.append_assoc]
  rfl
theorem nodes_none : gl a (mkG 0 (fun _ => 0) (fun _ => 0) (fun _ => 0) []) ga ++ l = ghd a (.dI []) (.dI []) (.dI []) ga ++ l := rfl

/-- a node more -/
theorem c_add_next {N : Nat} {nA aA pA : Nat → Addr} {t : Tok} {Q : Value → Shared → Prop} (R : Room A 8) (T : KP mg mb K B.h) (hN : N ≤ 100) (H : St prog w B (gl a (mkG N nA aA pA []) ga ++ l) s)
    (h : ∀ nA' aA' pA' s', St prog w B (gl a (mkG (N + 1) nA' aA' pA' []) ga ++ l) s' → Q .none s') : WC prog w A (.ref 352) [.ref a.x, .int N t] [] Q s := by
  rw [nodes_less] at H
  refine c_add_new R T H rows_no rows_no rows_no (by rw [rows_len]; omega) (by rw [rows_len]; omega) (by rw [rows_len]; omega) fun n1 a1 p1 s H => ?_
  obtain ⟨nA', aA', pA', H⟩ := nodes_more H
  exact h nA' aA' pA' s H

/-- `DiGraph()` -/
theorem c_digraph {Q : Value → Shared → Prop} (R : Room A 7) (T : KP mg mb K B.h) (H : St prog w B l s) (h : ∀ a s', St prog w B (gl a (mkG 0 (fun _ => 0) (fun _ => 0) (fun _ => 0) []) [] ++ l) s' → Q (.ref a.x) s') : WC prog w A (.ref 395) [] [] Q s := by
  refine call_cls H T.X T.mk395 T.sp_init T.fn320 fun x dx s H => ?_
  refine c_dinit R.make T H fun gr nd ad pr s H => ⟨rfl, ?_⟩
  exact h ⟨x, dx, gr, nd, ad, pr⟩ s H

/-- `add_nodes_from` over an iterator that shows 0, 1, … -/
theorem c_add_nodes {N : Nat} {ri : Value} {so : Nat → SO} {ok : Ledger → Prop} {P : Nat → Value → Ledger → Prop} {Q : Value → Shared → Prop} (R : Room A 10) (T : KP mg mb K B.h) (hN : N ≤ 100) (H : St prog w B (gl a (mkG 0 (fun _ => 0) (fun _ => 0) (fun _ => 0) []) ga ++ l) s)
    (hiter : ∀ (A' : Around) (l' : Ledger) (s' : Shared) (Q' : Value → Shared → Prop), Room A' 9 → St prog w B (l' ++ l) s' → (∀ it s'', (∀ t, It prog w A' B t it N so ok P) → St prog w B ((it, so 0) :: (l' ++ l)) s'' → Q' (.ref it) s'') → WP prog w A' (pyIter ri) Q' s')
    (hok : ∀ l', ok (l' ++ l)) (hP : ∀ i v ex, P i v ex → ∃ t, v = .int i t ∧ ex = [])
    (h : ∀ nA aA pA s', St prog w B (gl a (mkG N nA aA pA []) ga ++ l) s' → Q .none s') : WC prog w A (.ref 206) [.ref a.x, ri] [] Q s := by
  refine call_kw0 [("self", .ref a.x), ("nodes_for_adding", ri)] _ ["n"] R T T.g_add_nodes_from (by kernel_rfl) rfl (fun _ _ _ _ _ => by kernel_rfl) H fun dk L s H => ?_
  have F := fm_of (scope := scopeS (mG 9)) (qual := "Graph.add_nodes_from") (L := L) (f := 206) (cdv := .ref 205) (cl := []) (ns := ["self", "nodes_for_adding", "attr", "n"]) (csn := []) (gs := []) (by kernel_rfl) rfl
  have R1 := Room.deeper (env := envX "Graph.add_nodes_from" (scopeS (mG 9)) L 206 (.ref 205) []) (n := 9) R
  k_flat
  refine x_one (st := .For (.Name _ _) (.Name _ _) _ _ _) (x_for ?_)
  k_fold
  have H' : St prog w B (((L, .ns [("self", some (.ref a.x)), ("nodes_for_adding", some ri), ("attr", some (.ref dk)), ("n", none)]) :: (dk, .dS []) :: gl a (mkG 0 (fun _ => 0) (fun _ => 0) (fun _ => 0) []) ga) ++ l) s := H
  refine hiter _ _ s _ R1 H' fun it s I H => ?_
  clear H'
  refine for_it (I _) (fun i l' => ∃ nA aA pA nv, l' = ((L, .ns [("self", some (.ref a.x)), ("nodes_for_adding", some ri), ("attr", some (.ref dk)), ("n", nv)]) :: (dk, .dS []) :: gl a (mkG i nA aA pA []) ga) ++ l) ?_ H ⟨_, _, _, _, rfl⟩ ?_ ?_
  · rintro i l' ⟨nA, aA, pA, nv, rfl⟩; exact hok _
  · rintro i v ex l' s hi hp ⟨nA, aA, pA, nv, rfl⟩ H
    obtain ⟨t, rfl, rfl⟩ := hP i v ex hp
    simp only [List.nil_append, List.cons_append] at H
    refine wpAny_assign_Name ?_
    k_upd
    refine x_one (st := .Expr _ _) (wpAny_Expr_any ?_)
    refine ev_meth_star ?_
    k_fold
    refine at_bound H T.X (H.inst (kvs := gdict a) (by tb_start) (by tb_start)) T.m_add_node (by rfl) T.bg352 T.bt352 T.hd395 (by decide +kernel) ?_
    clear H; intro q s H
    refine call_star1 (B := B) (e := .Name _ _) (ke := .Name _ _) ?_
    k_fold
    refine ⟨_, H, fun d s H => ?_⟩
    k_fold
    refine ⟨dk, _, rfl, H.lo (x := .dS []) (by tb_start), H, by tb_start, by tb_start, keeps_bound (T.X.keeps H.keep) (H.raw (by tb_start)) T.fi352, ?_⟩
    refine call_of (call_bound (H.raw (by tb_start)) ?_)
    refine c_add_next (N := i) (nA := nA) (aA := aA) (pA := pA) (ga := ga) (l := (it, so (i + 1)) :: (L, .ns [("self", some (.ref a.x)), ("nodes_for_adding", some ri), ("attr", some (.ref dk)), ("n", some (.int i t))]) :: (dk, .dS []) :: l) (R1.less (by decide)) T (by omega) (H.sel ?_) fun nA' aA' pA' s H => ?_
    · k_sub
    · refine ⟨_, ⟨nA', aA', pA', some (.int i t), rfl⟩, H.sel ?_⟩
      simp only [List.cons_append]
      k_sub
  · rintro l' s ⟨nA, aA, pA, nv, rfl⟩ H
    refine x_nil (h nA aA pA s (H.sel ?_))
    simp only [List.cons_append]
    k_sub
end
end Mine

-- MC9
namespace Mine
open PySem PySem.W PySem.Calls PyProof.Rows Builtin Builtin.ObjectAttr

local macro_rules | `(tactic| tb_start) => `(tactic| first | with_reducible exact List.mem_cons_self | with_reducible assumption | (with_reducible apply List.mem_cons_of_mem; tb_start) | (with_reducible apply List.mem_append_left; tb_start) | (with_reducible apply List.mem_append_right; tb_start) | with_reducible exact g_x | with_reducible exact g_dx | with_reducible exact g_gr | with_reducible exact g_nd | with_reducible exact g_ad | with_reducible exact g_pr)
local macro_rules | `(tactic| tb_rel) => `(tactic| first | with_reducible exact Upd1.head | with_reducible exact Put.head | (with_reducible apply Upd1.tail; tb_rel) | (with_reducible apply Put.tail; tb_rel))
local macro_rules | `(tactic| k_ne) => `(tactic| first | (with_reducible apply Apart.head; tb_start) | (with_reducible apply Apart.head'; tb_start) | (with_reducible apply Apart.tail; k_ne))
local macro_rules | `(tactic| k_same) => `(tactic| first | with_reducible exact Split.head | (with_reducible apply Split.tail; k_same) | (with_reducible apply Split.skip; k_same))
local macro_rules | `(tactic| k_same2) => `(tactic| first | with_reducible exact SplitL.head | with_reducible exact SplitL.last | (with_reducible apply SplitL.tail; k_same2) | (with_reducible apply SplitL.skip; k_same2))
local macro_rules | `(tactic| k_sub) => `(tactic| first | with_reducible exact Sel.nil | with_reducible exact Sel.all | (with_reducible refine Sel.cons (by k_same) ?_; k_sub) | (with_reducible refine Sel.app (by k_same2) ?_; k_sub) | (with_reducible exact Sel.one (by k_same2)))
set_option hygiene false in
local macro_rules | `(tactic| k_flat) => `(tactic| simp only [frameOf, List.map_cons, List.map_nil, List.cons_append, List.nil_append, List.append_nil] at H)
set_option hygiene false in
local macro_rules | `(tactic| tb_lt) => `(tactic| first
  | (with_reducible refine ev_loc F H (by tb_start) (by tb_start) (by tb_start) ?_)
  | (with_reducible refine ev_int H ?_; clear H; intro _ s H)
  | (with_reducible refine ev_str H ?_; clear H; intro _ s H)
  | (with_reducible refine ev_none ?_)
  | (with_reducible refine ev_bool ?_)
  | (with_reducible refine ev_cel F H (by tb_start) (by tb_start) ?_)
  | (with_reducible refine Attribute_any_ ?_)
  | (with_reducible refine Subscript_ ?_)
  | (with_reducible refine wpAny_BinOp ?_)
  | (with_reducible refine wpAny_Compare1 ?_)
  | ((with_reducible show wpAny _ _ (getAttr _ _ _) _ _ _); refine at_own H T.X (H.inst (by tb_start) (by tb_start)) T.o__adj_395 (by rfl) (by rfl) ?_; clear H; intro s H)
  | ((with_reducible show wpAny _ _ (getAttr _ _ _) _ _ _); refine at_own H T.X (H.inst (by tb_start) (by tb_start)) T.o__node_395 (by rfl) (by rfl) ?_; clear H; intro s H)
  | ((with_reducible show wpAny _ _ (getAttr _ _ _) _ _ _); refine at_own H T.X (H.inst (by tb_start) (by tb_start)) T.o__pred_395 (by rfl) (by rfl) ?_; clear H; intro s H)
  | ((with_reducible show wpAny _ _ (getAttr _ _ _) _ _ _); refine at_own H T.X (H.inst (by tb_start) (by tb_start)) T.o_graph_395 (by rfl) (by rfl) ?_; clear H; intro s H))
set_option hygiene false in
local macro_rules | `(tactic| k_upd) => `(tactic| (refine st_loc2 F H (by tb_start) (by tb_start) (by tb_rel) (by tb_rel) ?_; clear H; intro s H))
set_option hygiene false in
local macro_rules | `(tactic| k_fold) => `(tactic| (repeat tb_lt))

section
variable {w : World} {A : Around} {B : Bs} {l l' : Ledger} {s : Shared} {mg mb : Str → Option Value} {K : Frag} {v : Value} {a : GA} {ga : List (Str × Value)}

/-- `u in self._adj and v in self._adj[u]` -/
theorem c_has_edge {ra sc : List (Int × Value)} {u n : Int} {tu tn : Tok} {aU : Addr} {Q : Value → Shared → Prop} (R : Room A 1) (T : KP mg mb K B.h) (H : St prog w B l s) (hx : (a.x, .raw (instObj 395 a.dx)) ∈ l) (hd : (a.dx, .dS (gdict a)) ∈ l) (hn : (a.ad, .dI ra) ∈ l) (hv : valueAt ra u = some (.ref aU)) (hs : (aU, .dI sc) ∈ l)
    (h : ∀ s', St prog w B l s' → Q (.bool (valueAt sc n).isSome) s') : WC prog w A (.ref 249) [.ref a.x, .int u tu, .int n tn] [] Q s := by
  refine call_pure [("self", .ref a.x), ("u", .int u tu), ("v", .int n tn)] [] R T T.g_has_edge (by kernel_rfl) (fun _ _ _ _ _ => by kernel_rfl) H fun L s H => ?_
  have F := fm_of (scope := scopeS (mG 15)) (qual := "Graph.has_edge") (L := L) (f := 249) (cdv := .ref 248) (cl := []) (ns := ["self", "u", "v"]) (csn := []) (gs := []) (by kernel_rfl) rfl
  k_flat
  refine x_one (st := .Return _ _) (wpAny_Return_some ?_)
  refine BoolOp_and ?_
  k_fold
  refine in_dI H (H.lo (x := .dI ra) (by tb_start)) (H.dI (kvs := ra) (by tb_start)) ?_
  clear H; intro s H
  rw [hv]
  refine wpAny_truthy_bool ?_
  rw [if_pos (by rfl)]
  refine BoolOp_one ?_
  k_fold
  refine sub_dI H (H.dI (kvs := ra) (by tb_start)) hv ?_
  clear H; intro s H
  exact in_dI H (H.lo (x := .dI sc) (by tb_start)) (H.dI (kvs := sc) (by tb_start)) fun s H => h s H.drop

/-- `iter(self._node)` -/
theorem c_iter {kvs : List (Int × Value)} {ep : Nat} {Q : Value → Shared → Prop} (R : Room A 1) (T : KP mg mb K B.h) (H : St prog w B l s) (hx : (a.x, .raw (instObj 395 a.dx)) ∈ l) (hd : (a.dx, .dS (gdict a)) ∈ l) (hn : (a.nd, .dE kvs ep) ∈ l)
    (h : ∀ it s', St prog w B ((it, soKeys a.nd kvs.length ep 0) :: l) s' → Q (.ref it) s') : WC prog w A (.ref 171) [.ref a.x] [] Q s := by
  refine call_pure [("self", .ref a.x)] [] R T T.g_iter (by kernel_rfl) (fun _ _ _ _ _ => by kernel_rfl) H fun L s H => ?_
  have F := fm_of (scope := scopeS (mG 4)) (qual := "Graph.__iter__") (L := L) (f := 171) (cdv := .ref 170) (cl := []) (ns := ["self"]) (csn := []) (gs := ["iter"]) (by kernel_rfl) rfl
  k_flat
  refine x_one (st := .Return _ _) (wpAny_Return_some ?_)
  refine ev_call_name ?_
  refine ev_blt F H T.toTp (by tb_start) T.gb_iter rfl (by decide) ?_
  refine call_pos ?_
  refine sp_cons ?_
  k_fold
  refine sp_nil ⟨keeps_blt, ?_⟩
  refine Calls.call_function_entry (by decide +kernel) (by decide +kernel) kdk_entry_iter (kdk_args_iter _) ?_
  unfold Builtin.«iter»
  refine wpAny_bind (m := someArgs "iter" 1 2 _) (wpAny_of_eq (a := [Value.ref a.nd]) (by first | rfl | kernel_rfl!) ?_)
  show wpAny _ _ (pyIter (.ref a.nd) >>= _) _ _ _
  refine wpAny_bind (iter_keys H (H.lo (x := .dE kvs ep) (by tb_start)) (H.dE (by tb_start)) fun it s hne H => ?_)
  exact wpAny_pure ⟨_, rfl, h it s (H.sel (by k_sub))⟩

/-- `EdgeView(self)` -/
theorem c_edges {Q : Value → Shared → Prop} (R : Room A 8) (T : KP mg mb K B.h) (H : St prog w B l s)
    (h : ∀ e de s', St prog w B ((e, .raw (instObj 121 de)) :: (de, .dS [("_graph", v)]) :: l) s' → Q (.ref e) s') : WC prog w A (.ref 163) [v] [] Q s := by
  refine call_pure [("self", v)] [] R T T.g_edges (by kernel_rfl) (fun _ _ _ _ _ => by kernel_rfl) H fun L s H => ?_
  have F := fm_of (scope := scopeS (mG 3)) (qual := "Graph.edges") (L := L) (f := 163) (cdv := .ref 162) (cl := []) (ns := ["self"]) (csn := []) (gs := ["EdgeView"]) (by kernel_rfl) rfl
  have R1 := Room.deeper (env := envX "Graph.edges" (scopeS (mG 3)) L 163 (.ref 162) []) (n := 7) R
  k_flat
  refine x_one (st := .Return _ _) (wpAny_Return_some ?_)
  refine ev_call_name ?_
  refine ev_glo F H T.toTp (by tb_start) T.gl_EdgeView ?_
  refine call_pos ?_
  refine sp_cons ?_
  k_fold
  refine sp_nil ⟨keeps_cls (T.X.keeps H.keep) T.clsD121 T.clsC121, call_of ?_⟩
  refine call_cls H T.X T.mk121 T.sp_einit T.fn84 fun e de s H => ?_
  refine call_pure [("self", .ref e), ("G", v)] [] (Room.make R1) T T.e_init (by kernel_rfl) (fun _ _ _ _ _ => by kernel_rfl) H fun L2 s H => ?_
  have F2 := fm_of (scope := scopeS (mE 0)) (qual := "EdgeView.__init__") (L := L2) (f := 84) (cdv := .ref 83) (cl := []) (ns := ["self", "G"]) (csn := []) (gs := []) (by kernel_rfl) rfl
  clear F
  have F := F2
  k_flat
  refine x_one (st := .Assign [.Attribute _ _ _] _ _) ?_
  refine plainObj_wpAny_Assign_Attribute ?_
  k_fold
  refine set_attr (kvs := []) H T.X (by tb_start) T.s__graph_121 (by decide) (by decide) (by tb_rel) ?_
  clear H; intro s H
  k_flat
  exact ⟨rfl, h e de s (H.sel (by k_sub))⟩

theorem cs1 {cs : List (Str × Addr)} {x : Str} (h : cs.map (·.1) = [x]) : ∃ c, cs = [(x, c)] := by
  match cs, h with
  | [(y, c)], h => simp only [List.map_cons, List.map_nil, List.cons.injEq, and_true] at h; exact ⟨c, by rw [h]⟩

/-- a row of the edges -/
structure Row where
  q : Addr
  e : Ed
  t : Tok
  t' : Tok
def rowsT (rs : List Row) : Ledger := rs.map fun r => (r.q, .tp [.int r.e.u r.t, .int r.e.v r.t', .ref r.e.at_])
def rowsV (rs : List Row) : List Value := rs.map fun r => .ref r.q
def outs (es : List Ed) (i : Nat) : List Ed := es.filter fun e => e.u == i
def flat (es : List Ed) (N : Nat) : List Ed := (List.range N).flatMap (outs es)
theorem flat_succ (es : List Ed) (N : Nat) : flat es (N + 1) = flat es N ++ outs es N := by unfold flat; rw [List.range_succ, List.flatMap_append]; simp
theorem scOf_at {es : List Ed} {i j : Nat} {k : Int} {x : Value} (h : (scOf es i)[j]? = some (k, x)) : ∃ e, (outs es i)[j]? = some e ∧ k = e.v ∧ x = .ref e.at_ ∧ e.u = i := by
  unfold scOf at h
  rw [List.getElem?_map, Option.map_eq_some_iff] at h
  obtain ⟨e, he, h2⟩ := h
  have hm := List.mem_of_getElem? he
  rw [List.mem_filter, beq_iff_eq] at hm
  cases h2
  exact ⟨e, he, rfl, rfl, hm.2⟩
theorem outs_le (es : List Ed) (i : Nat) : (outs es i).length ≤ es.length := List.length_filter_le _ _
theorem flat_le (es : List Ed) : ∀ N, (flat es N).length ≤ es.length * N
  | 0 => by simp [flat]
  | N + 1 => by
    rw [flat_succ, List.length_append]
    have := flat_le es N
    have := outs_le es N
    rw [Nat.mul_succ]; omega

def GS.ssc (S : GS) (i : Nat) (y : SO) : GS := ⟨S.N, S.nA, S.aA, S.pA, S.nd, S.ad, updN S.sc i y, S.pd, S.at_⟩
theorem ssc_self (S : GS) (i : Nat) : S.ssc i (S.sc i) = S := by
  unfold GS.ssc
  have : updN S.sc i (S.sc i) = S.sc := by funext j; unfold updN; split <;> simp_all
  rw [this]
theorem u_ssc {S : GS} {i : Nat} {y z : SO} (h : i < S.N) : Upd1 (S.aA i) y z (gl a (S.ssc i y) ga) (gl a (S.ssc i z) ga) := by
  have := u_aA (a := a) (ga := ga) (S := S.ssc i y) (y := z) h
  have e1 : (S.ssc i y).sc i = y := updN_self _ _ _
  rw [e1] at this
  have e2 : updN (S.ssc i y).sc i z = updN S.sc i z := by funext j; unfold GS.ssc updN; dsimp only; split <;> rfl
  rw [e2] at this
  exact this
theorem g_ssc {S : GS} {i : Nat} {y : SO} (h : i < S.N) : (S.aA i, y) ∈ gl a (S.ssc i y) ga := (u_ssc (z := y) h).mem
abbrev erF (nodes rows : Addr) (n nbr d : Option Value) : List (Str × Option Value) := [("nbunch", some .none), ("n", n), ("nodes", some (.ref nodes)), ("rows", some (.ref rows)), ("nbr", nbr), ("d", d)]
theorem c_edge_rows {N : Nat} {nA aA pA : Nat → Addr} {es : List Ed} {Q : Value → Shared → Prop} (R : Room A 4) (T : KP mg mb K B.h) (hN : N ≤ 100) (hes : es.length ≤ 200) (H : St prog w B (gl a (mkG N nA aA pA es) ga ++ l) s)
    (h : ∀ D rs s', rs.map (·.e) = flat es N → St prog w B ((D, .ls (rowsV rs)) :: (rowsT rs ++ (gl a (mkG N nA aA pA es) ga ++ l))) s' → Q (.ref D) s') : WC prog w A (.ref 392) [.ref a.x, .none] [] Q s := by
  refine call_cells ["nbunch"] ["self"] ["n", "nodes", "rows", "nbr", "d"] ["self"] R T.nolimit (T.f_edge_rows.keeps H.keep) (by kernel_rfl) fun name doc pm an ct => ?_
  refine wpAny_of_eq (a := ([("self", .ref a.x), ("nbunch", .none)] : List (Str × Value))) (by kernel_rfl) ?_
  refine ⟨_, [("nbunch", .none)], [("self", .ref a.x)], [some (.ref a.x)], H, by kernel_rfl, by kernel_rfl, rfl, rfl, by kernel_rfl, fun L cs s hcs H => ?_⟩
  obtain ⟨c, rfl⟩ := cs1 hcs
  have F := fm_of (scope := scopeS (mDi 10)) (qual := "DiGraph.edge_rows") (L := L) (f := 392) (cdv := .ref 391) (cl := [("self", c)]) (ns := ["nbunch", "n", "nodes", "rows", "nbr", "d"]) (csn := ["self"]) (gs := ["list"]) (by kernel_rfl) rfl
  have R1 := Room.deeper (env := envX "DiGraph.edge_rows" (scopeS (mDi 10)) L 392 (.ref 391) [("self", c)]) (n := 3) R
  unfold cellsOf cellsOf at H
  k_flat
  refine x_cons (st := .Assign [.Name _ _] _ _) (wpAny_Assign_Name ?_)
  refine wpAny_IfExp ?_
  refine wpAny_isTrue_Compare1 ?_
  k_fold
  refine is_none ?_
  refine wpAny_truthy_bool ?_
  rw [if_pos (by rfl)]
  refine ev_call_name ?_
  refine ev_blt F H T.toTp (by tb_start) T.gb_list rfl (by decide) ?_
  refine call_pos ?_
  refine sp_cons ?_
  k_fold
  refine sp_nil ⟨keeps_type, ?_⟩
  refine list_dict R1.none H (kvs := rows aA N) (.tail _ (.tail _ (List.mem_append_left _ g_ad))) (by rw [rows_len]; omega) ?_
  clear H; intro nodes vs s hlen hvs H
  k_upd
  refine x_cons (st := .Assign [.Name _ _] _ _) (wpAny_Assign_Name ?_)
  refine ev_List (sp_nil ?_)
  refine new_list H (by show 0 ≤ sizeLine; decide) ?_
  clear H; intro D s H
  k_upd
  refine x_cons (st := .For (.Name _ _) (.Name _ _) _ _ _) (x_for ?_)
  k_fold
  refine iter_list H (H.isl (vs := vs) (by tb_start)) ?_
  clear H; intro it s hne H
  have hvl : vs.length = N := by rw [hlen, rows_len]
  refine for_it (it_list R1.none hne (fun l' => (nodes, .ls vs) ∈ l') fun l' s hm H => H.isl hm) (fun i l' => ∃ rs nv nb dv, rs.map (·.e) = flat es i ∧ l' = (D, .ls (rowsV rs)) :: (nodes, .ls vs) :: (L, .ns (erF nodes D nv nb dv)) :: (c, .cell (some (.ref a.x))) :: (rowsT rs ++ (gl a (mkG N nA aA pA es) ga ++ l))) ?_ H ⟨[], _, _, _, rfl, rfl⟩ ?_ ?_
  · rintro i l' ⟨rs, nv, nb, dv, _, rfl⟩; exact .tail _ (.head _)
  · rintro i v ex l' s hi ⟨hv, rfl⟩ ⟨rs, nv, nb, dv, hrs, rfl⟩ H
    obtain ⟨k, x, t, hk, rfl⟩ := hvs i v hv
    have hi' : i < N := by omega
    have hk' : k = i := by
      unfold rows at hk
      rw [List.getElem?_map, Option.map_eq_some_iff] at hk
      obtain ⟨j, hj, e⟩ := hk
      rw [List.getElem?_range hi'] at hj
      cases hj; cases e; rfl
    subst hk'
    simp only [List.nil_append] at H
    refine wpAny_assign_Name ?_
    k_upd
    refine x_one (st := .For (.Tuple _ _ _) _ _ _ _) (x_for ?_)
    refine ev_meth ?_
    k_fold
    refine sub_dI H (H.dI (kvs := rows aA N) (.tail _ (.tail _ (.tail _ (.tail _ (.tail _ (List.mem_append_right _ (List.mem_append_left _ g_ad)))))))) (rows_at hi') ?_
    clear H; intro s H
    rw [← ssc_self (mkG N nA aA pA es) i] at H
    obtain ⟨ep, H⟩ := H.open_dI (a := aA i) (kvs := scOf es i) (lf := fun y => (it, soList nodes (i + 1)) :: (D, .ls (rowsV rs)) :: (nodes, .ls vs) :: (L, .ns (erF nodes D (some (.int i t)) nb dv)) :: (c, .cell (some (.ref a.x))) :: (rowsT rs ++ (gl a ((mkG N nA aA pA es).ssc i y) ga ++ l)))
      fun y => .tail (.tail (.tail (.tail (.tail (((u_ssc (S := mkG N nA aA pA es) hi').append _).right _)))))
    have g1 : (aA i, .dE (scOf es i) ep) ∈ gl a ((mkG N nA aA pA es).ssc i (.dE (scOf es i) ep)) ga := g_ssc (S := mkG N nA aA pA es) hi'
    intro pl
    refine gm_itemsE (kvi := scOf es i) (ep := ep) H (by tb_start) ?_
    refine call_pos0 keeps_blt ?_
    refine c_items (kvi := scOf es i) (ep := ep) H (by tb_start) ?_
    clear H; intro vw s H
    refine iter_items (kvi := scOf es i) (ep := ep) H (by tb_start) ?_
    clear H; intro it2 s H
    have hsl : (scOf es i).length = (outs es i).length := by unfold scOf outs; rw [List.length_map]
    refine for_it (it_items R1.none (fun l' => (aA i, .dE (scOf es i) ep) ∈ l') fun l' s hm H => H.dE hm) (fun j l' => ∃ rs nb dv, rs.map (·.e) = flat es i ++ (outs es i).take j ∧ l' = (it, soList nodes (i + 1)) :: (D, .ls (rowsV rs)) :: (nodes, .ls vs) :: (L, .ns (erF nodes D (some (.int i t)) nb dv)) :: (c, .cell (some (.ref a.x))) :: (rowsT rs ++ (gl a ((mkG N nA aA pA es).ssc i (.dE (scOf es i) ep)) ga ++ l))) ?_ H ⟨rs, nb, dv, by simp [hrs], rfl⟩ ?_ ?_
    · rintro j l' ⟨rs, nb, dv, _, rfl⟩; tb_start
    · rintro j v ex l' s hj ⟨k2, x2, t2, q2, hk2, rfl, rfl⟩ ⟨rs, nb, dv, hrs, rfl⟩ H
      obtain ⟨e, he, rfl, rfl, heu⟩ := scOf_at hk2
      simp only [List.cons_append, List.nil_append] at H
      refine assign_tup R1.none H (t := q2) (by tb_start) ?_
      clear H; intro s H
      refine ao_cons (wpAny_assign_Name ?_)
      k_upd
      refine ao_cons (wpAny_assign_Name ?_)
      k_upd
      refine ao_nil ?_
      refine x_one (st := .Expr _ _) (wpAny_Expr_any ?_)
      refine ev_meth ?_
      k_fold
      intro pl
      refine gm_append H (vs := rowsV rs) (by tb_start) ?_
      refine call_pos ?_
      refine sp_cons ?_
      refine ev_Tuple ?_
      refine sp_cons ?_
      k_fold
      refine sp_cons ?_
      k_fold
      refine sp_cons ?_
      k_fold
      refine sp_nil ?_
      refine new_tuple H (by show 3 ≤ sizeLine; decide) ?_
      clear H; intro tp s H
      refine sp_nil ⟨keeps_blt, ?_⟩
      have hrl : rs.length ≤ 20000 + 200 := by
        have h1 : rs.length = (rs.map (·.e)).length := by rw [List.length_map]
        rw [h1, hrs, List.length_append, List.length_take]
        have := flat_le es i
        have := outs_le es i
        have : es.length * i ≤ 200 * 100 := Nat.mul_le_mul hes (by omega)
        omega
      refine call_append (vs := rowsV rs) H (by unfold rowsV; rw [List.length_map, sizeLine_eq]; omega) (by tb_rel) ?_
      clear H; intro s H
      refine ⟨_, ⟨rs ++ [⟨tp, e, t, t2⟩], some (.int e.v t2), some (.ref e.at_), ?_, rfl⟩, ?_⟩
      · rw [List.map_append, hrs, List.append_assoc]
        congr 1
        have hlt := (List.getElem?_eq_some_iff.mp he).1
        rw [List.take_add_one, he]; rfl
      · refine H.sel ?_
        have e1 : rowsV (rs ++ [⟨tp, e, t, t2⟩]) = rowsV rs ++ [.ref tp] := by simp [rowsV]
        have e2 : rowsT (rs ++ [⟨tp, e, t, t2⟩]) = rowsT rs ++ [(tp, .tp [.int i t, .int e.v t2, .ref e.at_])] := by simp [rowsT, heu]
        rw [e1, e2]
        simp only [List.append_assoc, List.cons_append, List.nil_append]
        k_sub
    · rintro l' s ⟨rs, nb, dv, hrs, rfl⟩ H
      refine x_nil ?_
      rw [hsl, List.take_length, ← flat_succ] at hrs
      have H2 := H.shut_dI (a := aA i) (kvs := scOf es i) (ep := ep) (.tail (.tail (.tail (.tail (.tail (((u_ssc (z := .dI (scOf es i)) (S := mkG N nA aA pA es) hi').append _).right _))))))
      have e3 : (mkG N nA aA pA es).ssc i (.dI (scOf es i)) = mkG N nA aA pA es := ssc_self (mkG N nA aA pA es) i
      rw [e3] at H2
      exact ⟨_, ⟨rs, _, nb, dv, hrs, rfl⟩, H2⟩
  · rintro l' s ⟨rs, nv, nb, dv, hrs, rfl⟩ H
    rw [hvl] at hrs
    refine x_nil ?_
    refine x_one (st := .Return _ _) (wpAny_Return_some ?_)
    k_fold
    exact h D rs s hrs (H.sel (by k_sub))
end
end Mine

-- MC10
namespace Mine
open PySem PySem.W PySem.Calls PyProof.Rows Builtin Builtin.ObjectAttr

local macro_rules | `(tactic| tb_start) => `(tactic| first | with_reducible exact List.mem_cons_self | with_reducible assumption | (with_reducible apply List.mem_cons_of_mem; tb_start) | (with_reducible apply List.mem_append_left; tb_start) | (with_reducible apply List.mem_append_right; tb_start) | with_reducible exact g_x | with_reducible exact g_dx | with_reducible exact g_gr | with_reducible exact g_nd | with_reducible exact g_ad | with_reducible exact g_pr)
local macro_rules | `(tactic| tb_rel) => `(tactic| first | with_reducible exact Upd1.head | with_reducible exact Put.head | (with_reducible apply Upd1.tail; tb_rel) | (with_reducible apply Put.tail; tb_rel) | (with_reducible apply Upd1.right; tb_rel) | (with_reducible apply Upd1.append; tb_rel))
local macro_rules | `(tactic| k_ne) => `(tactic| first | (with_reducible apply Apart.head; tb_start) | (with_reducible apply Apart.head'; tb_start) | (with_reducible apply Apart.tail; k_ne))
local macro_rules | `(tactic| k_same) => `(tactic| first | with_reducible exact Split.head | (with_reducible apply Split.tail; k_same) | (with_reducible apply Split.skip; k_same))
local macro_rules | `(tactic| k_same2) => `(tactic| first | with_reducible exact SplitL.head | with_reducible exact SplitL.last | (with_reducible apply SplitL.tail; k_same2) | (with_reducible apply SplitL.skip; k_same2))
local macro_rules | `(tactic| k_sub) => `(tactic| first | with_reducible exact Sel.nil | with_reducible exact Sel.all | (with_reducible refine Sel.cons (by k_same) ?_; k_sub) | (with_reducible refine Sel.app (by k_same2) ?_; k_sub) | (with_reducible exact Sel.one (by k_same2)))
set_option hygiene false in
local macro_rules | `(tactic| k_flat) => `(tactic| simp only [frameOf, List.map_cons, List.map_nil, List.cons_append, List.nil_append, List.append_nil] at H)
set_option hygiene false in
local macro_rules | `(tactic| tb_lt) => `(tactic| first
  | (with_reducible refine ev_loc F H (by tb_start) (by tb_start) (by tb_start) ?_)
  | (with_reducible refine ev_int H ?_; clear H; intro _ s H)
  | (with_reducible refine ev_str H ?_; clear H; intro _ s H)
  | (with_reducible refine ev_none ?_)
  | (with_reducible refine ev_bool ?_)
  | (with_reducible refine ev_cel F H (by tb_start) (by tb_start) ?_)
  | (with_reducible refine Attribute_any_ ?_)
  | (with_reducible refine Subscript_ ?_)
  | (with_reducible refine wpAny_BinOp ?_)
  | (with_reducible refine wpAny_Compare1 ?_)
  | ((with_reducible show wpAny _ _ (getAttr _ _ _) _ _ _); refine at_own H T.X (H.inst (by tb_start) (by tb_start)) T.o__adj_395 (by rfl) (by rfl) ?_; clear H; intro s H)
  | ((with_reducible show wpAny _ _ (getAttr _ _ _) _ _ _); refine at_own H T.X (H.inst (by tb_start) (by tb_start)) T.o__node_395 (by rfl) (by rfl) ?_; clear H; intro s H)
  | ((with_reducible show wpAny _ _ (getAttr _ _ _) _ _ _); refine at_own H T.X (H.inst (by tb_start) (by tb_start)) T.o__pred_395 (by rfl) (by rfl) ?_; clear H; intro s H)
  | ((with_reducible show wpAny _ _ (getAttr _ _ _) _ _ _); refine at_own H T.X (H.inst (by tb_start) (by tb_start)) T.o_graph_395 (by rfl) (by rfl) ?_; clear H; intro s H))
set_option hygiene false in
local macro_rules | `(tactic| k_upd) => `(tactic| (refine st_loc2 F H (by tb_start) (by tb_start) (by tb_rel) (by tb_rel) ?_; clear H; intro s H))
set_option hygiene false in
local macro_rules | `(tactic| k_fold) => `(tactic| (repeat tb_lt))

section
variable {w : World} {A : Around} {B : Bs} {l l' : Ledger} {s : Shared} {mg mb : Str → Option Value} {K : Frag} {v : Value} {a : GA} {ga : List (Str × Value)} {env : Env}

theorem b_ecall (T : KP mg mb K B.h) {x : Value} {doc pm ct : Value} {an : Option Addr} {nm : Str} {Q : List (Str × Value) → Shared → Prop} (H : St prog w B l s)
    (h : Q [("self", x), ("nbunch", .none), ("data", .bool true), ("default", .none)] s) :
    WP prog w A (bindArgs (fnX nm "EdgeView.__call__" (argsS (mE 5)) (bodyS (mE 5)) (scopeS (mE 5)) [] (.ref 113) .none doc pm an (.ref 117) ct) ⟨[x], [("data", .bool true)]⟩) Q s := by
  obtain ⟨o, n, ho, hd⟩ := T.t113
  show wpAny _ _ (seqItems? (.ref 113) >>= _) _ _ _
  refine wpAny_bind (wpAny_seqItems (H.keep _ _ ho) hd ?_)
  refine wpAny_of_eq (Q := Q) (a := ([("self", x), ("nbunch", .none), ("data", .bool true), ("default", .none)] : List (Str × Value))) ?_ h
  kernel_rfl

theorem cs2 {cs : List (Str × Addr)} {x y : Str} (h : cs.map (·.1) = [x, y]) : ∃ c d, cs = [(x, c), (y, d)] := by
  match cs, h with
  | [(x', c), (y', d)], h => simp only [List.map_cons, List.map_nil, List.cons.injEq, and_true] at h; exact ⟨c, d, by rw [h.1, h.2]⟩
theorem c_ecall {N : Nat} {nA aA pA : Nat → Addr} {es : List Ed} {e de : Addr} {Q : Value → Shared → Prop} (R : Room A 6) (T : KP mg mb K B.h) (hN : N ≤ 100) (hes : es.length ≤ 200) (H : St prog w B ((e, .raw (instObj 121 de)) :: (de, .dS [("_graph", .ref a.x)]) :: (gl a (mkG N nA aA pA es) ga ++ l)) s)
    (h : ∀ D rs s', rs.map (·.e) = flat es N → St prog w B ((D, .ls (rowsV rs)) :: (rowsT rs ++ (gl a (mkG N nA aA pA es) ga ++ l))) s' → Q (.ref D) s') : WC prog w A (.ref 118) [.ref e] [("data", .bool true)] Q s := by
  refine call_cells ["self", "nbunch"] ["data", "default"] ["rows"] ["default", "data"] R T.nolimit (T.e_call.keeps H.keep) (by kernel_rfl) fun name doc pm an ct => ?_
  refine b_ecall T H ?_
  refine ⟨_, [("self", .ref e), ("nbunch", .none)], [("data", .bool true), ("default", .none)], [some .none, some (.bool true)], H, by kernel_rfl, by kernel_rfl, rfl, rfl, by kernel_rfl, fun L cs s hcs H => ?_⟩
  obtain ⟨c1, c2, rfl⟩ := cs2 hcs
  unfold cellsOf cellsOf cellsOf at H
  have F := fm_of (scope := scopeS (mE 5)) (qual := "EdgeView.__call__") (L := L) (f := 118) (cdv := .ref 117) (cl := [("default", c1), ("data", c2)]) (ns := ["self", "nbunch", "rows"]) (csn := ["default", "data"]) (gs := ["isinstance", "bool"]) (by kernel_rfl) rfl
  have R1 := Room.deeper (env := envX "EdgeView.__call__" (scopeS (mE 5)) L 118 (.ref 117) [("default", c1), ("data", c2)]) (n := 5) R
  k_flat
  refine x_cons (st := .Assign [.Name _ _] _ _) (wpAny_Assign_Name ?_)
  refine ev_meth ?_
  k_fold
  refine at_own H T.X (H.inst (by tb_start) (by tb_start)) T.o__graph_121 (v := .ref a.x) (by rfl) (by rfl) ?_
  clear H; intro s H
  intro pl
  refine gm_inst (T.X.keeps H.keep) (H.inst (kvs := gdict a) (by tb_start) (by tb_start)) T.m_edge_rows (by rfl) ?_
  refine call_pos ?_
  refine sp_cons ?_
  k_fold
  refine sp_nil ⟨(T.f_edge_rows.keeps H.keep).keeper, call_of ?_⟩
  refine c_edge_rows (N := N) (nA := nA) (aA := aA) (pA := pA) (es := es) (ga := ga) (a := a) (l := (L, .ns [("self", some (.ref e)), ("nbunch", some .none), ("rows", none)]) :: (c2, .cell (some (.bool true))) :: l) (R1.less (by decide)) T hN hes (H.sel (by k_sub)) ?_
  clear H; intro D rs s hrs H
  k_upd
  refine x_cons (st := .If _ _ _ _) (wpAny_If ?_)
  refine wpAny_isTrue_Not ?_
  refine wpAny_isTrue_value ?_
  refine ev_call_name ?_
  refine ev_blt F H T.toTp (by tb_start) T.gb_isinstance rfl (by decide) ?_
  refine call_pos ?_
  refine sp_cons ?_
  k_fold
  refine sp_cons ?_
  refine ev_blt F H T.toTp (by tb_start) T.gb_bool rfl (by decide) ?_
  refine sp_nil ⟨keeps_blt, ?_⟩
  refine isi_bool ?_
  refine wpAny_truthy_bool ?_
  rw [if_neg (by decide)]
  refine x_nil ?_
  refine x_cons (st := .If _ _ _ _) (wpAny_If ?_)
  refine wpAny_isTrue_value ?_
  k_fold
  refine wpAny_truthy_bool ?_
  rw [if_pos (by rfl)]
  refine x_one (st := .Return _ _) (wpAny_Return_some ?_)
  k_fold
  exact h D rs s hrs (H.sel (by k_sub))

/-- `G.edges(data=True)`, G's value at hand -/
theorem ev_edges {N : Nat} {nA aA pA : Nat → Addr} {es : List Ed} {o : Expr} {apos pos : Pos} {kp : Pos} {k : Nat} {cp : Pos} {Q : Value → Shared → Prop} (R : Room A 9) (T : KP mg mb K B.h) (hN : N ≤ 100) (hes : es.length ≤ 200) (H : St prog w B (gl a (mkG N nA aA pA es) ga ++ l) s)
    (ho : ∀ Q' : Value → Shared → Prop, Q' (.ref a.x) s → WP prog w A (eval o env) Q' s) (hbase : attributeBase o "edges" env (eval o env) = eval o env := by rfl) (hline : (apos.endLine == pos.line) = true := by rfl)
    (h : ∀ D rs s', rs.map (·.e) = flat es N → St prog w B ((D, .ls (rowsV rs)) :: (rowsT rs ++ (gl a (mkG N nA aA pA es) ga ++ l))) s' → Q (.ref D) s') :
    WP prog w A (eval (.Call (.Attribute o "edges" apos) [] [⟨some "data", .Constant (.bool true) k cp, kp⟩] pos) env) Q s := by
  refine ev_meth (ho _ fun pl => ?_) hbase (by rfl) hline
  refine gm_prop (C := 395) (kvs := gdict a) (name := "edges") (fget := 163) H T.X (H.inst (List.mem_append_left _ g_x) (List.mem_append_left _ g_dx)) T.pm_edges T.q_edges ?_
  clear H; intro s H
  refine c_edges (Room.in1 R) T H ?_
  clear H; intro e de s H
  refine ⟨rfl, ?_⟩
  refine call_inst_kw (C := 121) (dx := de) (f := 118) T.X T.sp_call T.fn118 T.fi118 ?_
  refine kw_cons ?_
  refine ev_bool ?_
  refine kw_nil ?_
  refine ⟨_, _, H, H.inst (kvs := [("_graph", .ref a.x)]) (.head _) (.tail _ (.head _)), ?_⟩
  exact c_ecall (R.less (by decide)) T hN hes H h
end
end Mine

-- MC11
namespace Mine
open PySem PySem.W PySem.Calls PyProof.Rows Builtin Builtin.ObjectAttr

local macro_rules | `(tactic| tb_start) => `(tactic| first | with_reducible exact List.mem_cons_self | with_reducible assumption | (with_reducible apply List.mem_cons_of_mem; tb_start) | (with_reducible apply List.mem_append_left; tb_start) | (with_reducible apply List.mem_append_right; tb_start) | with_reducible exact g_x | with_reducible exact g_dx | with_reducible exact g_gr | with_reducible exact g_nd | with_reducible exact g_ad | with_reducible exact g_pr)
local macro_rules | `(tactic| tb_rel) => `(tactic| first | with_reducible exact Upd1.head | with_reducible exact Put.head | (with_reducible apply Upd1.tail; tb_rel) | (with_reducible apply Put.tail; tb_rel) | (with_reducible apply Upd1.right; tb_rel) | (with_reducible apply Upd1.append; tb_rel))
local macro_rules | `(tactic| k_ne) => `(tactic| first | (with_reducible apply Apart.head; tb_start) | (with_reducible apply Apart.head'; tb_start) | (with_reducible apply Apart.tail; k_ne))
local macro_rules | `(tactic| k_same) => `(tactic| first | with_reducible exact Split.head | (with_reducible apply Split.tail; k_same) | (with_reducible apply Split.skip; k_same))
local macro_rules | `(tactic| k_same2) => `(tactic| first | with_reducible exact SplitL.head | with_reducible exact SplitL.last | (with_reducible apply SplitL.tail; k_same2) | (with_reducible apply SplitL.skip; k_same2))
local macro_rules | `(tactic| k_sub) => `(tactic| first | with_reducible exact Sel.nil | with_reducible exact Sel.all | (with_reducible refine Sel.cons (by k_same) ?_; k_sub) | (with_reducible refine Sel.app (by k_same2) ?_; k_sub) | (with_reducible exact Sel.one (by k_same2)))
set_option hygiene false in
local macro_rules | `(tactic| k_flat) => `(tactic| simp only [frameOf, List.map_cons, List.map_nil, List.cons_append, List.nil_append, List.append_nil] at H)
set_option hygiene false in
local macro_rules | `(tactic| tb_lt) => `(tactic| first
  | (with_reducible refine ev_loc F H (by tb_start) (by tb_start) (by tb_start) ?_)
  | (with_reducible refine ev_int H ?_; clear H; intro _ s H)
  | (with_reducible refine ev_str H ?_; clear H; intro _ s H)
  | (with_reducible refine ev_none ?_)
  | (with_reducible refine ev_bool ?_)
  | (with_reducible refine ev_cel F H (by tb_start) (by tb_start) ?_)
  | (with_reducible refine Attribute_any_ ?_)
  | (with_reducible refine Subscript_ ?_)
  | (with_reducible refine wpAny_BinOp ?_)
  | (with_reducible refine wpAny_Compare1 ?_)
  | ((with_reducible show wpAny _ _ (getAttr _ _ _) _ _ _); refine at_own H T.X (H.inst (by tb_start) (by tb_start)) T.o__adj_395 (by rfl) (by rfl) ?_; clear H; intro s H)
  | ((with_reducible show wpAny _ _ (getAttr _ _ _) _ _ _); refine at_own H T.X (H.inst (by tb_start) (by tb_start)) T.o__node_395 (by rfl) (by rfl) ?_; clear H; intro s H)
  | ((with_reducible show wpAny _ _ (getAttr _ _ _) _ _ _); refine at_own H T.X (H.inst (by tb_start) (by tb_start)) T.o__pred_395 (by rfl) (by rfl) ?_; clear H; intro s H)
  | ((with_reducible show wpAny _ _ (getAttr _ _ _) _ _ _); refine at_own H T.X (H.inst (by tb_start) (by tb_start)) T.o_graph_395 (by rfl) (by rfl) ?_; clear H; intro s H))
set_option hygiene false in
local macro_rules | `(tactic| k_upd) => `(tactic| (refine st_loc2 F H (by tb_start) (by tb_start) (by tb_rel) (by tb_rel) ?_; clear H; intro s H))
set_option hygiene false in
local macro_rules | `(tactic| k_fold) => `(tactic| (repeat tb_lt))

def soCode (qual : Str) : SO := .pr fun o => ∃ vs t, o.data = .fields vs ∧ vs[1]? = some (.str qual t)
def soFn (qual : Str) (params : Arguments) (body : List Stmt) (scope : Scope) (cl : List (Str × Addr)) (c' : Addr) : SO := .pr fun o => ∃ name doc pm an ct, o.data = .func (fnX name qual params body scope cl .none .none doc pm an (.ref c') ct)
def soLam (qual : Str) (params : Arguments) (body : Expr) (scope : Scope) (cl : List (Str × Addr)) (c' : Addr) : SO := .pr fun o => ∃ name pm ct, o.data = .func (kla_fn name qual params body scope cl pm (.ref c') ct)

section
variable {w : World} {A : Around} {B : Bs} {l l' : Ledger} {s : Shared} {mg mb : Str → Option Value} {K : Frag} {env : Env} {name qual : Str} {params : Arguments} {body : List Stmt} {ebody : Expr} {scope : Scope} {c c' P f : Addr} {ps : Array Value} {pos : Pos} {firstLine : Nat} {clos cl : List (Str × Addr)}

theorem St.code (H : St prog w B l s) (hc : (c', soCode qual) ∈ l) : s.heap.CodeRec (.ref c') qual := by
  obtain ⟨o, ho, vs, t, h1, h2⟩ := H.get hc
  exact ⟨c', o, vs, t, rfl, ho, h1, h2⟩
theorem St.fnAt (H : St prog w B l s) (hf : (f, soFn qual params body scope cl c') ∈ l) (hc : (c', soCode qual) ∈ l) : FnAt s.heap f qual params body scope cl .none .none (.ref c') := by
  obtain ⟨o, ho, name, doc, pm, an, ct, hd⟩ := H.get hf
  exact ⟨⟨o, name, doc, pm, an, ct, ho, hd⟩, H.code hc⟩
theorem St.adopt {a : Addr} {x : SO} (H : St prog w B l s) (hn : ∀ p ∈ l, p.1 ≠ a) (hb : B.free a) (hx : ∃ o, s.heap.get? a = some o ∧ x.on prog w o) : St prog w B ((a, x) :: l) s := by
  refine ⟨H.keep, fun p hp => ?_, ?_, H.os, H.gens⟩
  · cases hp with
    | head => exact ⟨hx, hb⟩
    | tail _ hp => exact H.own p hp
  · rw [List.map_cons, List.nodup_cons]
    exact ⟨fun hm => by obtain ⟨p, hp, e⟩ := List.mem_map.mp hm; exact hn p hp e, H.nd⟩
theorem made_at {fo : Obj} {x : SO} {lf : Ledger} {h' : Heap} {tk : Nat} {y : SO} (H : St prog w B l s) (u : Upd1 P y (.raw (tabObj (ps ++ #[rawInt pos.line, rawInt pos.col, .ref c']))) l lf) (hx : Heap.ExtBut P s.heap h') (hge : s.heap.objs.size ≤ c') (hrec : h'.CodeRec (.ref c') qual)
    (htb : h'.get? P = some (tabObj (ps ++ #[rawInt pos.line, rawInt pos.col, .ref c']))) (hfr : fo.isFreed = false) (hfo : x.on prog w fo) : St prog w B ((h'.objs.size, x) :: (c', soCode qual) :: lf) { s with heap := h'.push fo, toks := tk } := by
  have H1 : St prog w B lf { s with heap := h', toks := tk } := H.upd u (fun b o hb e => hx b o hb e) ⟨_, htb, rfl, rfl⟩
  obtain ⟨c₂, oc, vs, t, e2, hoc, hd, hv⟩ := hrec
  cases e2
  have H2 : St prog w B ((c', soCode qual) :: lf) { s with heap := h', toks := tk } := H1.adopt (fun p hp e => by
    have hk : p.1 ∈ l.map (·.1) := by rw [← u.keys]; exact List.mem_map_of_mem hp
    obtain ⟨q, hq, e'⟩ := List.mem_map.mp hk
    have := H.lt (a := q.1) (x := q.2) hq
    rw [e', e] at this
    exact absurd this (Nat.not_lt.mpr hge)) (Bs.free_of H.keep hge) ⟨oc, hoc, vs, t, hd, hv⟩
  exact H2.push (t := tk) hfr hfo
theorem bmP (T : KP mg mb K B.h) (H : St prog w B l s) {y : SO} (hP : (P, y) ∈ l) : s.heap.BuiltinsAt mg P := by
  obtain ⟨bm, ob, b1, b2, b3, b4, b5, b6⟩ := T.bmain
  have hno := H.no hP
  refine ⟨bm, ob, b1, b2, fun q => ?_, fun q => ?_, H.keep _ _ b3, b4, b5, b6⟩
  · obtain ⟨o, es, ep, e, hd, _⟩ := T.g
    rw [q, e] at b3; cases b3; rw [hd] at b6; cases b6
  · rw [q, hno] at b3; cases b3
theorem mgP (T : KP mg mb K B.h) (H : St prog w B l s) {y : SO} (hP : (P, y) ∈ l) : mainGlobals ≠ P := fun q => by
  obtain ⟨o, es, ep, e, hd, _⟩ := T.g
  have hno := H.no hP
  rw [q, hno] at e; cases e
/-- a def of a def, made the first time -/
theorem mk_new {lf : Addr → Ledger} {Q : Value → Shared → Prop} (T : KP mg mb K B.h) (H : St prog w B l s) (hcl : closureFor scope env = pure clos) (hge0 : env.globals = mainGlobals) (hcode : env.code = .ref c) (C : CodeHd B.h c P) (ht : TriplesOk ps.toList) (hnf : codeAmong pos ps.toList = none)
    (u : ∀ c', Upd1 P (.raw (tabObj ps)) (.raw (tabObj (ps ++ #[rawInt pos.line, rawInt pos.col, .ref c']))) l (lf c'))
    (h : ∀ f c' s', St prog w B ((f, soFn qual params body scope clos c') :: (c', soCode qual) :: lf c') s' → Q (.ref f) s') : WP prog w A (makeFunction name qual params (.stmts body) scope env [] [] [] pos firstLine) Q s := by
  have hm := (u 0).mem
  refine makeFunction_K (mg := mg) hcl hge0 (T.g.keeps H.keep) hcode (C.keeps H.keep) (H.raw hm) ht hnf (mgP T H hm) (bmP T H hm) fun c' ctv doc h' tk hx hge hlt hrec htb => ?_
  exact h _ c' _ (made_at H (u c') hx hge hrec htb rfl ⟨_, _, _, _, _, rfl⟩)
theorem mk_hit {Q : Value → Shared → Prop} (T : KP mg mb K B.h) (H : St prog w B l s) (hcl : closureFor scope env = pure clos) (hge0 : env.globals = mainGlobals) (hcode : env.code = .ref c) (C : CodeHd B.h c P) (ht : TriplesOk ps.toList) (hf : codeAmong pos ps.toList = some (.ref c'))
    (hm : (P, .raw (tabObj ps)) ∈ l) (h : ∀ f s', St prog w B ((f, soFn qual params body scope clos c') :: l) s' → Q (.ref f) s') : WP prog w A (makeFunction name qual params (.stmts body) scope env [] [] [] pos firstLine) Q s := by
  refine makeFunction_hit (mg := mg) hcl hge0 (T.g.keeps H.keep) hcode (C.keeps H.keep) (H.raw hm) ht hf (bmP T H hm) fun ctv doc h' tk hk hsz => ?_
  exact h _ _ ((H.grow (t := tk) hk).push (t := tk) rfl ⟨_, _, _, _, _, rfl⟩)
theorem mk_lam {lf : Addr → Ledger} {Q : Value → Shared → Prop} (T : KP mg mb K B.h) (H : St prog w B l s) (hcl : closureFor scope env = pure clos) (hge0 : env.globals = mainGlobals) (hcode : env.code = .ref c) (C : CodeHd B.h c P) (ht : TriplesOk ps.toList) (hnf : codeAmong pos ps.toList = none)
    (u : ∀ c', Upd1 P (.raw (tabObj ps)) (.raw (tabObj (ps ++ #[rawInt pos.line, rawInt pos.col, .ref c']))) l (lf c'))
    (h : ∀ f c' s', St prog w B ((f, soLam qual params ebody scope clos c') :: (c', soCode qual) :: lf c') s' → Q (.ref f) s') : WP prog w A (makeFunction name qual params (.expr ebody) scope env [] [] [] pos firstLine) Q s := by
  have hm := (u 0).mem
  refine kla_makeFunction (mg := mg) hcl hge0 (T.g.keeps H.keep) hcode (C.keeps H.keep) (H.raw hm) ht hnf (mgP T H hm) (bmP T H hm) fun c' ctv h' tk hx hge hlt hrec htb => ?_
  exact h _ c' _ (made_at H (u c') hx hge hrec htb rfl ⟨_, _, _, rfl⟩)
/-- a lambda called -/
theorem call_lam {n : Nat} {pos : List Value} {kw : List (Str × Value)} {Q : Value → Shared → Prop} (binds : List (Str × Value)) (rest : List Str) (R : Room A (n + 1)) (T : KP mg mb K B.h) (H : St prog w B l s) (hf : (f, soLam qual params ebody scope cl c') ∈ l) (hc : (c', soCode qual) ∈ l)
    (ok : okDef scope (binds.map (·.1)) rest = true) (hb : ∀ name pm ct, bindArgs (kla_fn name qual params ebody scope cl pm (.ref c') ct) ⟨pos, kw⟩ = pure binds)
    (h : ∀ L s₂, St prog w B ((L, .ns (frameOf binds rest)) :: l) s₂ → WP prog w (A.deeper (envX qual scope L f (.ref c') cl)) (eval ebody (envX qual scope L f (.ref c') cl)) Q s₂) : WC prog w A (.ref f) pos kw Q s := by
  obtain ⟨o, ho, name, pm, ct, hd⟩ := H.get hf
  obtain ⟨hloc, nd, hcell, hk, hco, hgen⟩ := okDef_of ok
  refine kla_callFunE R.depth ho hd hco hgen rfl (H.code hc) ?_
  rw [hb]
  refine wpAny_pure ?_
  refine wpAny_newFunctionEnv hcell (fun x hx => hloc _ (List.mem_map_of_mem hx)) (fun h₂ hns hsb => ?_) hk
  have hk₁ : ∀ b o, s.heap.get? b = some o → h₂.get? b = some o := fun b o e => hsb.extBut b o (Nat.ne_of_lt (Heap.lt_size e)) (Heap.get?_push_of_some _ e)
  have H₂ : St prog w B ((s.heap.objs.size, .ns (frameOf binds rest)) :: l) { s with heap := h₂, toks := s.toks + binds.length } := by
    refine H.fresh hk₁ (Nat.le_refl _) ?_
    obtain ⟨o, es, ep, ho, hd, hk, hf⟩ := hns
    exact ⟨o, ho, by rw [frame_keys]; exact nd, es, ep, hd, hk, fun n => (hf n).trans (frame_look nd n)⟩
  refine ⟨T.nolimit.keeps H₂.keep, kla_codeExpr ?_⟩
  exact wpAny_mono (h _ _ H₂) (fun _ _ q => q) fun _ _ e => e.elim
theorem x_def {Q : Flow → Shared → Prop} (hd0 : params.defaults = []) (hk0 : params.kw_defaults = []) (ha : annTrees params none env = [])
    (h : WP prog w A (makeFunction name (qualnameIn env name name) params (.stmts body) scope env [] [] [] pos pos.line) (fun v s' => WP prog w A (storeName env name v) (fun _ s'' => Q .next s'') s') s) :
    WP prog w A (exec (.FunctionDef name params body [] none [] scope none name pos) env) Q s := nestDef_K hd0 hk0 ha h
theorem ev_lambda {Q : Value → Shared → Prop} (hdef : defaultsOf params env = ([], [])) (h : WP prog w A (makeFunction "<lambda>" (env.qual ++ "<lambda>") params (.expr ebody) scope env [] [] [] pos pos.line) Q s) : WP prog w A (eval (.Lambda params ebody scope pos) env) Q s := kla_eval hdef h
theorem keeps_fn (H : St prog w B l s) (hf : (f, soFn qual params body scope cl c') ∈ l) : Keeps1 (model prog w) (.ref f) s.heap := by
  obtain ⟨o, ho, name, doc, pm, an, ct, hd⟩ := H.get hf
  exact ⟨.frame, .inl rfl, (Looks.ld (part := none) ho).andThen (by rw [hd]; exact .now)⟩
theorem keeps_lam (H : St prog w B l s) (hf : (f, soLam qual params ebody scope cl c') ∈ l) : Keeps1 (model prog w) (.ref f) s.heap := by
  obtain ⟨o, ho, name, pm, ct, hd⟩ := H.get hf
  exact ⟨.frame, .inl rfl, (Looks.ld (part := none) ho).andThen (by rw [hd]; exact .now)⟩
end
end Mine

-- MB16
namespace Mine
open PySem PySem.W PySem.Calls PyProof.Rows Builtin Builtin.ObjectAttr

/-! a generator expression of one clause, whatever its target: the library's rules serve one name or two -/

/-- a step that touches the generator's own names alone -/
def OwnStep (C : Addr) (s s' : Shared) : Prop := ∃ h tk m, s' = { s with heap := h, toks := tk } ∧ (∀ b o, b ≠ C → s.heap.get? b = some o → h.get? b = some o) ∧ h.Ns C m

/-- the tests of a clause -/
abbrev TestsG (ifs : List Expr) (env : Env) : Sem Bool := forIn ifs true fun c r => if r = true then do let ok ← isTrue c env (eval c env); pure (ForInStep.yield ok) else pure (ForInStep.yield r)

/-- what one turn does: it binds its own names, tests, and gives its element -/
structure QuietG (prog : Program) (w : World) (cenv : Env) (target : Expr) (I : Addr) (ifs : List Expr) (elt : Expr) (fp wr : List Addr) (P : Nat → Value → Prop) (pz : Nat → Bool) (F : Nat → Value → Prop) (href : Heap) : Prop where
  go : ∀ v, letOwnedTupleGo target (.ref I) v = letOwnedTupleGo target (.ref I) v
  step : ∀ (A' : Around) (E' : Value → Shared → Prop) i v (s₂ : Shared) m₂, A'.handled = none → P i v → s₂.heap.Ns cenv.locals m₂ → (∀ b ∈ fp, b ∉ wr → ∀ o, href.get? b = some o → s₂.heap.get? b = some o) →
    wpAny (model prog w) A' (assign target cenv v) (fun _ s₃ => OwnStep cenv.locals s₂ s₃ ∧ ∀ E₄ : Value → Shared → Prop, wpAny (model prog w) A' (TestsG ifs cenv) (fun ok s₄ => ok = pz i ∧ Keeps s₃ s₄ ∧
        (pz i = true → ∀ E₅ : Value → Shared → Prop, wpAny (model prog w) A' (eval elt cenv) (fun y s₅ => F i y ∧ Keeps s₄ s₅) E₅ s₄)) E₄ s₃) E' s₂

/-- where a turn begins: the source at its place, the generator's own names, all else as it was -/
structure Spot (C : Addr) (fp wr : List Addr) (Src : Nat → Heap → Prop) (ref : Heap) (start : Shared) (i : Nat) (s : Shared) : Prop where
  src : Src i s.heap
  names : ∃ m, s.heap.Ns C m
  since : GenSince C wr start s
  old : ∀ b ∈ fp, b ∉ wr → ∀ o, ref.get? b = some o → s.heap.get? b = some o
section
variable {C : Addr} {fp wr : List Addr} {Src : Nat → Heap → Prop} {ref : Heap} {start s s' : Shared} {i j : Nat}
theorem Spot.go (x : Spot C fp wr Src ref start i s) (hC : C ∉ fp) {h : Heap} {tk : Nat} (hk : ∀ b o, b ≠ C → b ∉ wr → s.heap.get? b = some o → h.get? b = some o) (hs : Src j h) (hn : ∃ m, h.Ns C m) : Spot C fp wr Src ref start j { s with heap := h, toks := tk } where
  src := hs
  names := hn
  since := x.since.step hk
  old b hb hw o e := hk b o (fun q => hC (q ▸ hb)) hw (x.old b hb hw o e)
/-- a step that keeps every object -/
theorem Spot.keep (x : Spot C fp wr Src ref start i s) (hC : C ∉ fp) (fr : ∀ h h', Src i h → (∀ b ∈ fp, ∀ o, h.get? b = some o → h'.get? b = some o) → Src i h') (k : Keeps s s') : Spot C fp wr Src ref start i s' := by
  obtain ⟨h, tk, rfl, hk⟩ := k
  exact x.go hC (fun b o _ _ e => hk b o e) (fr _ _ x.src fun b _ o e => hk b o e) (x.names.imp fun _ n => n.keeps hk)
/-- woken again, maybe in another state -/
theorem Spot.wake (x : Spot C fp wr Src ref start i s) (fr : ∀ h h', Src i h → (∀ b ∈ fp, ∀ o, h.get? b = some o → h'.get? b = some o) → Src i h') (al : ∀ b ∈ C :: fp, ∀ o, s.heap.get? b = some o → s'.heap.get? b = some o) : Spot C fp wr Src ref s' i s' where
  src := fr _ _ x.src fun b hb o e => al b (.tail _ hb) o e
  names := x.names.imp fun _ n => n.at' fun o e => al _ (.head _) o e
  since := .refl ..
  old b hb hw o e := al b (.tail _ hb) o (x.old b hb hw o e)
end

section
variable {prog : Program} {w : World} {A : Around} {elt target iter : Expr} {ifs : List Expr} {scope : Scope} {pos : Pos} {I : Addr} {fp wr : List Addr} {N i : Nat} {P : Nat → Value → Prop} {Src : Nat → Heap → Prop} {cenv : Env} {pz : Nat → Bool} {F : Nat → Value → Prop} {ref : Heap}
abbrev codeL (elt target iter : Expr) (ifs : List Expr) (scope : Scope) (pos : Pos) (I : Addr) (cenv : Env) : Code := .compLoop (.GeneratorExp elt [⟨target, iter, ifs, 0⟩] scope pos) 0 (.ref I) .none cenv
abbrev codeS (elt target iter : Expr) (ifs : List Expr) (scope : Scope) (pos : Pos) (I : Addr) (cenv : Env) : Code := .compStart (.GeneratorExp elt [⟨target, iter, ifs, 0⟩] scope pos) 0 (.ref I) .none cenv
/-- from here on the generator gives what is left -/
abbrev Gives (prog : Program) (w : World) (A : Around) (cenv : Env) (fp wr : List Addr) (pz : Nat → Bool) (N : Nat) (F : Nat → Value → Prop) (left : Nat) (start : Shared) (c : Code) (t : Sem Fin) (s : Shared) : Prop :=
  Seg (model prog w) A (fun n s₀ r s₁ => r = .ok .next ∧ (n = 0 ∧ GenSince cenv.locals wr s₀ s₁)) (genProto cenv.locals fp wr pz N F) left start c t [] s
/-- what the rules below ask of source and turn -/
structure Sound (prog : Program) (w : World) (elt target : Expr) (ifs : List Expr) (I : Addr) (fp wr : List Addr) (N : Nat) (P : Nat → Value → Prop) (Src : Nat → Heap → Prop) (cenv : Env) (pz : Nat → Bool) (F : Nat → Value → Prop) (ref : Heap) : Prop where
  walks : ∀ A' : Around, A'.handled = none → Walks prog w A' I fp wr N P Src
  tuple : ∀ (A' : Around) (E' : Value → Shared → Prop) i v (s : Shared) (Q : Unit → Shared → Prop), Src i s.heap → Q () s → wpAny (model prog w) A' (letOwnedTupleGo target (.ref I) v) Q E' s
  plain : cenv.scope.isCoroutine = false
  apart : cenv.locals ∉ fp
  turn : QuietG prog w cenv target I ifs elt fp wr P pz F ref

/-- the source is at its end -/
theorem gives_none (hh : A.handled = none) (S : Sound prog w elt target ifs I fp wr N P Src cenv pz F ref) {start s : Shared} (x : Spot cenv.locals fp wr Src ref start N s) :
    Gives prog w A cenv fp wr pz N F (passing pz N N).length start (codeL elt target iter ifs scope pos I cenv) ((model prog w).den (codeL elt target iter ifs scope pos I cenv)) s := by
  have W := S.walks (A.over (codeL elt target iter ifs scope pos I cenv) []) hh
  show Seg _ _ _ _ _ _ _ ((compTurn _ 0 _ _ cenv).onRaise (leaving cenv)) _ _
  rw [compTurn_gen, Sem.onRaise_eq_wrap, passing_end]
  refine seg_bind_wrap (wpAny_standAt (seg_bind_wrap (W.done s _ _ x.src fun h tk hk => ?_)))
  exact seg_end (.ok .next) ⟨rfl, rfl, x.since.step fun b o _ hw => hk b o hw⟩

/-- one turn, what comes behind it given -/
theorem gives_turn (hh : A.handled = none) (S : Sound prog w elt target ifs I fp wr N P Src cenv pz F ref) (hi : i < N)
    (next : ∀ start s, Spot cenv.locals fp wr Src ref start (i + 1) s → Gives prog w A cenv fp wr pz N F (passing pz N (i + 1)).length start (codeL elt target iter ifs scope pos I cenv) ((model prog w).den (codeL elt target iter ifs scope pos I cenv)) s)
    {start s : Shared} (x : Spot cenv.locals fp wr Src ref start i s) :
    Gives prog w A cenv fp wr pz N F (passing pz N i).length start (codeL elt target iter ifs scope pos I cenv) ((model prog w).den (codeL elt target iter ifs scope pos I cenv)) s := by
  have hh' : (A.over (codeL elt target iter ifs scope pos I cenv) []).handled = none := hh
  have W := S.walks _ hh'
  have fr := W.frame (i + 1)
  have nw : cenv.locals ∉ wr := fun q => S.apart (W.sub _ q)
  show Seg _ _ _ _ _ _ _ ((compTurn _ 0 _ _ cenv).onRaise (leaving cenv)) _ _
  rw [compTurn_gen, Sem.onRaise_eq_wrap]
  refine seg_bind_wrap (wpAny_standAt (seg_bind_wrap (W.item i s _ _ hi x.src fun v h tk hP hs hk => ?_)))
  have y : Spot cenv.locals fp wr Src ref start (i + 1) { s with heap := h, toks := tk } := x.go S.apart (fun b o _ hw => hk b o hw) hs (x.names.imp fun _ n => n.at' fun o => hk _ o nw)
  obtain ⟨m, hm⟩ := y.names
  refine seg_bind_wrap (S.tuple _ _ (i + 1) v _ _ hs (seg_bind_wrap (wpAny_mono (S.turn.step _ _ i v _ m hh' hP hm y.old) (fun _ s₃ own => ?_) fun _ _ q => q)))
  obtain ⟨⟨h₂, tk₂, m₂, rfl, up, hm₂⟩, rest⟩ := own
  have z := y.go (tk := tk₂) S.apart (fun b o hC _ => up b o hC) (fr _ _ y.src fun b hb o => up b o fun q => S.apart (q ▸ hb)) ⟨m₂, hm₂⟩
  refine seg_bind_wrap (wpAny_mono (rest _) (fun ok s₄ t => ?_) fun _ _ q => q)
  obtain ⟨rfl, k₄, give⟩ := t
  have z₄ := z.keep S.apart fr k₄
  by_cases hp : pz i = true
  · -- the element goes out, and the loop goes on when it is woken
    rw [hp, if_pos rfl, passing_true hi hp]
    have out : yieldOut cenv = yieldValue := by funext v; simp [yieldOut, S.plain]
    rw [out]
    simp only [Sem.bind_eq_wrap', Sem.wrap_wrap]
    refine seg_wrap (wpAny_mono (give hp _) (fun u s₅ g => ?_) fun _ _ q => q)
    have z₅ := z₄.keep S.apart fr g.2
    exact seg_at (seg_yield rfl rfl rfl ⟨⟨i, passing_here hi hp, g.1⟩, z₅.since, fun s₆ al => seg_again rfl (next s₆ s₆ (z₅.wake fr al))⟩)
  · have hp' : pz i = false := by simpa using hp
    rw [hp', if_neg (by decide), passing_false hi hp']
    exact seg_again rfl (next start s₄ z₄)

/-- from any place on -/
theorem gives_from (hh : A.handled = none) (S : Sound prog w elt target ifs I fp wr N P Src cenv pz F ref) : ∀ (left i : Nat), i + left = N → ∀ {start s : Shared}, Spot cenv.locals fp wr Src ref start i s →
    Gives prog w A cenv fp wr pz N F (passing pz N i).length start (codeL elt target iter ifs scope pos I cenv) ((model prog w).den (codeL elt target iter ifs scope pos I cenv)) s
  | 0, i, e, _, _, x => by
    obtain rfl : i = N := e
    exact gives_none hh S x
  | left + 1, i, e, _, _, x => gives_turn hh S (by omega) (fun _ _ y => gives_from hh S left (i + 1) (by omega) y) x

/-- the start: the source's iterator is asked for itself, or not, as the setting says -/
theorem gives_start (hh : A.handled = none) (S : Sound prog w elt target ifs I fp wr N P Src cenv pz F ref) {start s : Shared} (x : Spot cenv.locals fp wr Src ref start 0 s) :
    Gives prog w A cenv fp wr pz N F (passing pz N 0).length start (codeS elt target iter ifs scope pos I cenv) ((model prog w).den (codeS elt target iter ifs scope pos I cenv)) s := by
  have on : Gives prog w A cenv fp wr pz N F (passing pz N 0).length start (codeS elt target iter ifs scope pos I cenv) (.pure (.again (codeL elt target iter ifs scope pos I cenv))) s := seg_again rfl (gives_from hh S N 0 (Nat.zero_add _) x)
  have W := S.walks (A.over (codeS elt target iter ifs scope pos I cenv) []) hh
  show Seg _ _ _ _ _ _ _ ((compStart _ 0 _ _ cenv).onRaise (leaving cenv)) _ _
  unfold compStart
  rw [Sem.onRaise_eq_wrap]
  refine seg_bind_wrap (m := ask) (wpAny_askSetting ?_)
  split
  · exact on
  · refine seg_bind_wrap (wpAny_rule ?_)
    refine seg_bind_wrap (m := standAt iter.pos) (wpAny_standAt ?_)
    exact seg_bind_wrap (W.self 0 s _ _ x.src on)

theorem GenAt.freshG {a : Addr} {g : Nat} (hh : A.handled = none) (W₀ : ∀ A' : Around, A'.handled = none → Walks prog w A' I fp wr N P Src) (pz : Nat → Bool) (F : Nat → Value → Prop)
    (hgo : ∀ (A' : Around) (E' : Value → Shared → Prop) i v (s : Shared) (Q : Unit → Shared → Prop), Src i s.heap → Q () s → wpAny (model prog w) A' (letOwnedTupleGo target (.ref I) v) Q E' s)
    (hco : cenv.scope.isCoroutine = false) (hCf : cenv.locals ∉ fp) {s : Shared} {m : Str → Option Value} (hq : QuietG prog w cenv target I ifs elt fp wr P pz F s.heap)
    (hg : s.heap.IsGen a g) (hgs : s.gens[g]? = some (.fresh (codeS elt target iter ifs scope pos I cenv))) (hst : Src 0 s.heap) (hn : s.heap.Ns cenv.locals m) (hl : s.heap.NoLimit) : GenAt prog w A a g cenv.locals fp wr pz N F 0 s := by
  have S : Sound prog w elt target ifs I fp wr N P Src cenv pz F s.heap := ⟨W₀, hgo, hco, hCf, hq⟩
  have x : Spot cenv.locals fp wr Src s.heap s 0 s := ⟨hst, ⟨m, hn⟩, .refl .., fun _ _ _ _ e => e⟩
  exact ⟨hg, hl, _, hgs, fun s' al => ⟨rfl, gives_start (A := A.in1) hh S (x.wake ((W₀ A hh).frame 0) al)⟩⟩
end
end Mine

-- MC12
namespace Mine
open PySem PySem.W PySem.Calls PyProof.Rows Builtin Builtin.ObjectAttr

local macro_rules | `(tactic| tb_start) => `(tactic| first | with_reducible exact List.mem_cons_self | with_reducible assumption | (with_reducible apply List.mem_cons_of_mem; tb_start) | (with_reducible apply List.mem_append_left; tb_start) | (with_reducible apply List.mem_append_right; tb_start) | with_reducible exact g_x | with_reducible exact g_dx | with_reducible exact g_gr | with_reducible exact g_nd | with_reducible exact g_ad | with_reducible exact g_pr)
local macro_rules | `(tactic| tb_rel) => `(tactic| first | with_reducible exact Upd1.head | with_reducible exact Put.head | (with_reducible apply Upd1.tail; tb_rel) | (with_reducible apply Put.tail; tb_rel) | (with_reducible apply Upd1.right; tb_rel) | (with_reducible apply Upd1.append; tb_rel))
local macro_rules | `(tactic| k_ne) => `(tactic| first | (with_reducible apply Apart.head; tb_start) | (with_reducible apply Apart.head'; tb_start) | (with_reducible apply Apart.tail; k_ne))
local macro_rules | `(tactic| k_same) => `(tactic| first | with_reducible exact Split.head | (with_reducible apply Split.tail; k_same) | (with_reducible apply Split.skip; k_same))
local macro_rules | `(tactic| k_same2) => `(tactic| first | with_reducible exact SplitL.head | with_reducible exact SplitL.last | (with_reducible apply SplitL.tail; k_same2) | (with_reducible apply SplitL.skip; k_same2))
local macro_rules | `(tactic| k_sub) => `(tactic| first | with_reducible exact Sel.nil | with_reducible exact Sel.all | (with_reducible refine Sel.cons (by k_same) ?_; k_sub) | (with_reducible refine Sel.app (by k_same2) ?_; k_sub) | (with_reducible exact Sel.one (by k_same2)))
set_option hygiene false in
local macro_rules | `(tactic| k_flat) => `(tactic| simp only [frameOf, List.map_cons, List.map_nil, List.cons_append, List.nil_append, List.append_nil] at H)
set_option hygiene false in
local macro_rules | `(tactic| tb_lt) => `(tactic| first
  | (with_reducible refine ev_loc F H (by tb_start) (by tb_start) (by tb_start) ?_)
  | (with_reducible refine ev_int H ?_; clear H; intro _ s H)
  | (with_reducible refine ev_str H ?_; clear H; intro _ s H)
  | (with_reducible refine ev_none ?_)
  | (with_reducible refine ev_bool ?_)
  | (with_reducible refine ev_cel F H (by tb_start) (by tb_start) ?_)
  | (with_reducible refine Attribute_any_ ?_)
  | (with_reducible refine Subscript_ ?_)
  | (with_reducible refine wpAny_BinOp ?_)
  | (with_reducible refine wpAny_Compare1 ?_)
  | ((with_reducible show wpAny _ _ (getAttr _ _ _) _ _ _); refine at_own H T.X (H.inst (by tb_start) (by tb_start)) T.o__adj_395 (by rfl) (by rfl) ?_; clear H; intro s H)
  | ((with_reducible show wpAny _ _ (getAttr _ _ _) _ _ _); refine at_own H T.X (H.inst (by tb_start) (by tb_start)) T.o__node_395 (by rfl) (by rfl) ?_; clear H; intro s H)
  | ((with_reducible show wpAny _ _ (getAttr _ _ _) _ _ _); refine at_own H T.X (H.inst (by tb_start) (by tb_start)) T.o__pred_395 (by rfl) (by rfl) ?_; clear H; intro s H)
  | ((with_reducible show wpAny _ _ (getAttr _ _ _) _ _ _); refine at_own H T.X (H.inst (by tb_start) (by tb_start)) T.o_graph_395 (by rfl) (by rfl) ?_; clear H; intro s H))
set_option hygiene false in
local macro_rules | `(tactic| k_upd) => `(tactic| (refine st_loc2 F H (by tb_start) (by tb_start) (by tb_rel) (by tb_rel) ?_; clear H; intro s H))
set_option hygiene false in
local macro_rules | `(tactic| k_fold) => `(tactic| (repeat tb_lt))

section
variable {w : World} {A : Around} {B : Bs} {l l' : Ledger} {s : Shared} {mg mb : Str → Option Value} {K : Frag} {env : Env} {c P : Addr} {ps : Array Value}

/-- a generator at its start -/
def GenK (w : World) (A : Around) (a N n : Nat) (F : Nat → Value → Prop) (s : Shared) : Prop :=
  ∃ fp wr g S, WalksS prog w A.in4 a fp wr (GenOnlyQ g) n F S ∧ S 0 s ∧ (∀ b ∈ fp, b < s.heap.objs.size) ∧ ∀ b ∈ wr, N ≤ b

theorem St.moved {wr : List Addr} {g N : Nat} {s' : Shared} (H : St prog w B l s) (hm : Moved wr (GenOnlyQ g) s s') (hw : ∀ b ∈ wr, N ≤ b) (hN : ∀ p ∈ l, p.1 < N) (hB : ∀ b o, B.h.get? b = some o → b < N) : St prog w B l s' := by
  have hk : ∀ b o, b < N → s.heap.get? b = some o → s'.heap.get? b = some o := fun b o hb e => hm.heap b o (fun hm => absurd (hw b hm) (Nat.not_le.mpr hb)) e
  refine ⟨fun b o e => hk b o (hB b o e) (H.keep b o e), fun p hp => ?_, H.nd, hm.os.trans H.os, GenOnlyQ.bare hm.gens H.gens⟩
  obtain ⟨⟨o, ho, hx⟩, hn⟩ := H.own p hp
  exact ⟨⟨o, hk _ _ (hN p hp) ho, hx⟩, hn⟩

theorem sum_gen {a N n : Nat} {F : Nat → Value → Prop} {Q : Value → Shared → Prop} (H : St prog w B l s) (X : GenK w A a N n F s) (hN : ∀ p ∈ l, p.1 < N) (hB : ∀ b o, B.h.get? b = some o → b < N) (val : Nat → Int) (hval : ∀ i v, F i v → ∃ t, v = .int (val i) t)
    (hfit : ∀ j, j < n → InLong (val j) ∧ InLong (preSum val (j + 1))) (h : ∀ t s', St prog w B l s' → Q (.int (preSum val n) t) s') : WP prog w A (call (.builtin "sum") [.ref a]) Q s := by
  obtain ⟨fp, wr, g, S, W, hst, hfp, hwr⟩ := X
  have W := W.in4_1
  exact call_sum_walkS (W.self 0 _ _ _ hst ⟨a, _, _, _, _, _, _, val, rfl, W, hst, hfp, hval, hfit, fun s' t' hm => h t' s' (H.moved hm hwr hN hB)⟩)

theorem ev_gen {elt iter target : Expr} {ifs : List Expr} {scope : Scope} {cl : List (Str × Addr)} {pos : Pos} {Q : Value → Shared → Prop} (R : Room A 1) (T : KP mg mb K B.h) (hge0 : env.globals = mainGlobals) (hbi0 : env.builtins = builtinsNs) (hcode : env.code = .ref c) (C : CodeHd B.h c P) (ht : TriplesOk ps.toList) (hnf : codeAmong pos ps.toList = none)
    (hco : scope.isCoroutine = false) (hclos : closureFor scope env = pure cl) (hcell : ∀ y ∈ scope.names, y.2 ≠ .cell) (h0 : scope.names.lookup (".0" : Str) = some NameKind.local) (hkind : scope.kind = .function)
    (htup : ∃ elts k p, target = .Tuple elts k p)
    (h : WP prog w A (eval iter env) (fun xv s₁ => ∃ (x : Addr) (vs : List Value) (l : Ledger) (lf : Addr → Ledger) (pz : Nat → Bool) (F : Nat → Value → Prop), xv = .ref x ∧ St prog w B l s₁ ∧ (x, .ls vs) ∈ l ∧ (∀ c', Upd1 P (.raw (tabObj ps)) (.raw (tabObj (ps ++ #[rawInt pos.line, rawInt pos.col, .ref c']))) l (lf c')) ∧
      (∀ (A' : Around) (E' : Value → Shared → Prop) i v (s₂ : Shared) m₂ C code, A'.handled = none → vs[i]? = some v → s₂.heap.Ns C m₂ → (∀ b o, b ≠ P → s₁.heap.get? b = some o → s₂.heap.get? b = some o) → s₁.heap.objs.size < C →
        wpAny (model prog w) A' (assign target (genEnv scope cl C code builtinsNs env) v) (fun _ s₃ => OwnStep C s₂ s₃ ∧ ∀ E₄ : Value → Shared → Prop,
          wpAny (model prog w) A' (forIn ifs true fun c r => if r = true then do let ok ← isTrue c (genEnv scope cl C code builtinsNs env) (eval c (genEnv scope cl C code builtinsNs env)); pure (ForInStep.yield ok) else pure (ForInStep.yield r)) (fun ok s₄ => ok = pz i ∧ Keeps s₃ s₄ ∧
            (pz i = true → ∀ E₅ : Value → Shared → Prop, wpAny (model prog w) A' (eval elt (genEnv scope cl C code builtinsNs env)) (fun y s₅ => F i y ∧ Keeps s₄ s₅) E₅ s₄)) E₄ s₃) E' s₂) ∧
      ∀ a c' s', St prog w B (lf c') s' → GenK w A a s₁.heap.objs.size (passing pz vs.length 0).length (fun j y => ∃ i, (passing pz vs.length 0)[j]? = some i ∧ F i y) s' → (∀ p ∈ lf c', p.1 < s₁.heap.objs.size) → (∀ b o, B.h.get? b = some o → b < s₁.heap.objs.size) → Q (.ref a) s') s)
    (hs : ∀ x, genFold iter env x = pure x) : WP prog w A (eval (.GeneratorExp elt [⟨target, iter, ifs, 0⟩] scope pos) env) Q s := by
  obtain ⟨elts, kk, tp, rfl⟩ := htup
  refine wpAny_GeneratorExp_make hco hclos hcell h0 hkind R.depth (WP.mono h fun xv s₁ h₁ => ?_) hs
  obtain ⟨x, vs, l, lf, pz, F, rfl, H, hx, u, hq, hQ⟩ := h₁
  have hl := H.isl hx
  have hlt : x < s₁.heap.objs.size := H.lt hx
  have hm := (u 0).mem
  refine wpAny_pyIter_list hl ?_
  have H2 : St prog w B ((s₁.heap.objs.size, soList x 0) :: l) { s₁ with heap := s₁.heap.push { cls := .type "list_iterator", data := .fields #[.ref x, .int 0 0] } } := H.push (t := s₁.toks) rfl ⟨rfl, rfl⟩
  refine ⟨T.nolimit.keeps H2.keep, ?_⟩
  have hP2 := H2.raw (.tail _ hm)
  refine wpAny_genexprCodeX hcode ((C.keeps H2.keep).code hP2 ht) ((C.keeps H2.keep).tab hP2) hnf fun c' h₃ tk₃ hx₃ hge hlt' _ hrec₃ htab₃ _ => ?_
  obtain ⟨bm, ob, b1, b2, b3, b4, b5, b6, b7, b8⟩ := bmP T H2 (.tail _ hm)
  have hg' := (T.g.keeps H2.keep).extBut hx₃ (mgP T H2 (.tail _ hm))
  rw [hge0, hbi0]
  refine wpAny_builtinsFor hg' b1 b2 (hx₃ _ _ b4 b5) b6 b7 b8 ?_
  intro h' hn' hs'
  have hsz2 : (s₁.heap.push { cls := .type "list_iterator", data := .fields #[.ref x, .int 0 0] }).objs.size = s₁.heap.objs.size + 1 := Heap.size_push ..
  have hge1 : s₁.heap.objs.size + 1 ≤ c' := by rw [← hsz2]; exact hge
  have hC : s₁.heap.objs.size < h₃.objs.size := by omega
  have H3 : St prog w B ((s₁.heap.objs.size, soList x 0) :: lf c') { s₁ with heap := h₃, toks := tk₃ } := H2.upd (t := tk₃) (.tail (u c')) (fun b o hb e => hx₃ b o hb e) ⟨_, htab₃.2, rfl, rfl⟩
  have keep' : ∀ b o, h₃.get? b = some o → h'.get? b = some o := fun b o e => hs'.extBut b o (Nat.ne_of_lt (Heap.lt_size e)) (Heap.get?_push_of_some _ e)
  have hszc : h'.objs.size = h₃.objs.size + 1 := by rw [hs'.1, Heap.size_push]
  have keep₅ : ∀ b o, h₃.get? b = some o → (h'.push { cls := .type "generator", data := .fields #[.int s₁.gens.size 0, .str "<genexpr>" (tk₃ + 1), .str (env.qual ++ "<genexpr>") (tk₃ + 1 + 1)] }).get? b = some o := fun b o e => Heap.get?_push_of_some _ (keep' b o e)
  have hkeys : ∀ p ∈ lf c', p.1 < s₁.heap.objs.size := fun p hp => by
    have hk : p.1 ∈ l.map (·.1) := by rw [← (u c').keys]; exact List.mem_map_of_mem hp
    obtain ⟨q, hq', e'⟩ := List.mem_map.mp hk
    have := H.lt (a := q.1) (x := q.2) hq'
    rwa [e'] at this
  have W₀ : ∀ A' : Around, A'.handled = none → Walks prog w A' s₁.heap.objs.size (List.range h₃.objs.size) [s₁.heap.objs.size] vs.length (fun i v => vs[i]? = some v) (fun i h => h.IsListIter s₁.heap.objs.size x i ∧ h.IsList x vs.toArray) := fun A' hA => by
    have W := (Walks.list (prog := prog) (w := w) hA s₁.heap.objs.size x (Nat.ne_of_lt hlt) vs.toArray).mono_fp (fp' := List.range h₃.objs.size) fun b hb => by
      simp only [List.mem_cons, List.not_mem_nil, or_false] at hb
      rw [List.mem_range]
      rcases hb with rfl | rfl
      · exact hC
      · exact Nat.lt_trans hlt hC
    simpa using W
  have hit₃ : h₃.IsListIter s₁.heap.objs.size x 0 := by obtain ⟨o, ho, h1, h2⟩ := H3.get (.head _); exact ⟨o, ho, h1, h2⟩
  have hxne : x ≠ P := H.ne hx hm (by intro h; cases h)
  have hl₃ : h₃.IsList x vs.toArray := (hl.push _).extBut hx₃ hxne
  have hcsP : cStatics ≠ P := fun e => by
    obtain ⟨_, hns, _⟩ := T.nolimit.keeps H2.keep
    obtain ⟨o, es, ep, ho, hd, _⟩ := hns
    rw [e, hP2] at ho; cases ho; cases hd
  have hnl₃ : h₃.NoLimit := (T.nolimit.keeps H2.keep).extBut hx₃ hcsP
  have hclt : cStatics < h₃.objs.size := let ⟨_, hn, _⟩ := hnl₃; hn.lt
  have hcN : cStatics ≠ s₁.heap.objs.size := by
    obtain ⟨_, hns, _⟩ := T.nolimit.keeps H.keep
    exact Nat.ne_of_lt hns.lt
  have hgo : ∀ (A' : Around) (E' : Value → Shared → Prop) i v (s : Shared) (Q : Unit → Shared → Prop), (s.heap.IsListIter s₁.heap.objs.size x i ∧ s.heap.IsList x vs.toArray) → Q () s → wpAny (model prog w) A' (letOwnedTupleGo (.Tuple elts kk tp) (.ref s₁.heap.objs.size) v) Q E' s := by
    intro A' E' i v s Q hst hq
    exact WP.toE (go_pr (T := "list_iterator") (let ⟨o, ho, h1, h2⟩ := hst.1; ⟨o, ho, h1⟩) (by decide +kernel) hq)
  have hC2 : h₃.objs.size ∉ List.range h₃.objs.size := fun hm => Nat.lt_irrefl _ (List.mem_range.mp hm)
  have W := WalksS.genexpQ (prog := prog) (w := w) (A := A.in4) R.none h'.objs.size s₁.gens.size h₃.objs.size (List.range h₃.objs.size) [s₁.heap.objs.size] pz vs.length F (by rw [hszc]; exact Nat.succ_ne_self _) (fun hm => by have := List.mem_range.mp hm; rw [hszc] at this; exact absurd this (by omega))
    (fun b hb => by rw [List.mem_singleton] at hb; subst hb; exact List.mem_range.mpr hC) R.depth (List.mem_range.mpr hclt) (Nat.ne_of_lt hclt) (by rw [List.mem_singleton]; exact hcN)
  refine hQ _ c' _ ?_ ⟨_, _, _, _, W, ?_, fun b hb => ?_, fun b hb => ?_⟩ hkeys fun b o e => Heap.lt_size (H.keep b o e)
  · refine ⟨fun b o e => keep₅ b o (H3.keep b o e), fun p hp => ?_, H3.drop.nd, H.os, ?_⟩
    · obtain ⟨⟨o, ho, hx⟩, hn⟩ := H3.own p (.tail _ hp)
      exact ⟨⟨o, keep₅ _ _ ho, hx⟩, hn⟩
    · intro x hx
      rcases Array.mem_push.mp hx with hx | rfl
      · exact H.gens x hx
      · rfl
  · refine GenAt.freshG (elt := elt) (iter := iter) (ifs := ifs) (scope := scope) (pos := pos) (target := .Tuple elts kk tp) (A := A.in4) (cenv := genEnv scope cl h₃.objs.size (.ref c') builtinsNs env) (m := fun y => if y = ".0" then some (.ref s₁.heap.objs.size) else none) R.none W₀ pz F hgo hco hC2 ⟨fun _ => rfl, fun A' E' i v s₂ m₂ hA hv hn hk => ?_⟩
      ⟨_, _, _, Heap.get?_push_size _ rfl, rfl, rfl, rfl⟩ ?_ ⟨?_, ?_⟩ (hn'.push _) (hnl₃.keeps keep₅)
    · refine hq A' E' i v s₂ m₂ _ _ hA hv hn (fun b o hb e => ?_) hC
      have hb3 : h₃.get? b = some o := hx₃ b o hb (Heap.get?_push_of_some _ e)
      exact hk b (List.mem_range.mpr (Heap.lt_size hb3)) (by rw [List.mem_singleton]; exact Nat.ne_of_lt (Heap.lt_size e)) o (keep₅ _ _ hb3)
    · exact Array.getElem?_push_size ..
    · obtain ⟨o, ho, h1, h2⟩ := hit₃; exact ⟨o, keep₅ _ _ ho, h1, h2⟩
    · obtain ⟨o, ho, h1⟩ := hl₃; exact ⟨o, keep₅ _ _ ho, h1⟩
  · show b < (h'.push _).objs.size
    rw [Heap.size_push]
    rcases List.mem_cons.mp hb with rfl | hb
    · exact Nat.lt_succ_self _
    · rcases List.mem_cons.mp hb with rfl | hb
      · exact Nat.lt_succ_of_lt (by rw [hszc]; exact Nat.lt_succ_self _)
      · exact Nat.lt_succ_of_lt (Nat.lt_trans (List.mem_range.mp hb) (by rw [hszc]; exact Nat.lt_succ_self _))
  · rcases List.mem_cons.mp hb with rfl | hb
    · exact Nat.le_of_lt hC
    · rw [List.mem_singleton] at hb; exact Nat.le_of_eq hb.symm
end
end Mine

-- MC13
namespace Mine
open PySem PySem.W PySem.Calls PyProof.Rows Builtin Builtin.ObjectAttr

local macro_rules | `(tactic| tb_start) => `(tactic| first | with_reducible exact List.mem_cons_self | with_reducible assumption | (with_reducible apply List.mem_cons_of_mem; tb_start) | (with_reducible apply List.mem_append_left; tb_start) | (with_reducible apply List.mem_append_right; tb_start) | with_reducible exact g_x | with_reducible exact g_dx | with_reducible exact g_gr | with_reducible exact g_nd | with_reducible exact g_ad | with_reducible exact g_pr)
local macro_rules | `(tactic| tb_rel) => `(tactic| first | with_reducible exact Upd1.head | with_reducible exact Put.head | (with_reducible apply Upd1.tail; tb_rel) | (with_reducible apply Put.tail; tb_rel) | (with_reducible apply Upd1.right; tb_rel) | (with_reducible apply Upd1.append; tb_rel))
local macro_rules | `(tactic| k_ne) => `(tactic| first | (with_reducible apply Apart.head; tb_start) | (with_reducible apply Apart.head'; tb_start) | (with_reducible apply Apart.tail; k_ne))
local macro_rules | `(tactic| k_same) => `(tactic| first | with_reducible exact Split.head | (with_reducible apply Split.tail; k_same) | (with_reducible apply Split.skip; k_same))
local macro_rules | `(tactic| k_same2) => `(tactic| first | with_reducible exact SplitL.head | with_reducible exact SplitL.last | (with_reducible apply SplitL.tail; k_same2) | (with_reducible apply SplitL.skip; k_same2))
local macro_rules | `(tactic| k_sub) => `(tactic| first | with_reducible exact Sel.nil | with_reducible exact Sel.all | (with_reducible refine Sel.cons (by k_same) ?_; k_sub) | (with_reducible refine Sel.app (by k_same2) ?_; k_sub) | (with_reducible exact Sel.one (by k_same2)))
set_option hygiene false in
local macro_rules | `(tactic| k_flat) => `(tactic| simp only [frameOf, List.map_cons, List.map_nil, List.cons_append, List.nil_append, List.append_nil] at H)
set_option hygiene false in
local macro_rules | `(tactic| tb_lt) => `(tactic| first
  | (with_reducible refine ev_loc F H (by tb_start) (by tb_start) (by tb_start) ?_)
  | (with_reducible refine ev_int H ?_; clear H; intro _ s H)
  | (with_reducible refine ev_str H ?_; clear H; intro _ s H)
  | (with_reducible refine ev_none ?_)
  | (with_reducible refine ev_bool ?_)
  | (with_reducible refine ev_cel F H (by tb_start) (by tb_start) ?_)
  | (with_reducible refine Attribute_any_ ?_)
  | (with_reducible refine Subscript_ ?_)
  | (with_reducible refine wpAny_BinOp ?_)
  | (with_reducible refine wpAny_Compare1 ?_)
  | ((with_reducible show wpAny _ _ (getAttr _ _ _) _ _ _); refine at_own H T.X (H.inst (by tb_start) (by tb_start)) T.o__adj_395 (by rfl) (by rfl) ?_; clear H; intro s H)
  | ((with_reducible show wpAny _ _ (getAttr _ _ _) _ _ _); refine at_own H T.X (H.inst (by tb_start) (by tb_start)) T.o__node_395 (by rfl) (by rfl) ?_; clear H; intro s H)
  | ((with_reducible show wpAny _ _ (getAttr _ _ _) _ _ _); refine at_own H T.X (H.inst (by tb_start) (by tb_start)) T.o__pred_395 (by rfl) (by rfl) ?_; clear H; intro s H)
  | ((with_reducible show wpAny _ _ (getAttr _ _ _) _ _ _); refine at_own H T.X (H.inst (by tb_start) (by tb_start)) T.o_graph_395 (by rfl) (by rfl) ?_; clear H; intro s H))
set_option hygiene false in
local macro_rules | `(tactic| k_upd) => `(tactic| (refine st_loc2 F H (by tb_start) (by tb_start) (by tb_rel) (by tb_rel) ?_; clear H; intro s H))
set_option hygiene false in
local macro_rules | `(tactic| k_fold) => `(tactic| (repeat tb_lt))

def retE : Stmt → Expr
  | .Return (some e) _ => e
  | _ => .Constant .none 0 ⟨0, 0, 0, 0⟩
def lamP : Expr → Arguments
  | .Lambda p _ _ _ => p
  | _ => ⟨[], [], none, [], [], none, []⟩
def lamB : Expr → Expr
  | .Lambda _ b _ _ => b
  | e => e
def lamS : Expr → Scope
  | .Lambda _ _ s _ => s
  | _ => ⟨.module, [], false, false, []⟩
def posE : Expr → Pos
  | .Lambda _ _ _ p => p
  | _ => ⟨0, 0, 0, 0⟩
def capLam : Expr := retE (nthS (bodyS dCapFn) 2)
def capQ : Str := "_capacity_function.<locals>.<lambda>"
abbrev soCapLam (ccap cinf c' : Addr) : SO := soLam capQ (lamP capLam) (lamB capLam) (lamS capLam) [("inf", cinf), ("capacity", ccap)] c'
def capPs (c' : Addr) : Array Value := #[rawInt (posE capLam).line, rawInt (posE capLam).col, .ref c']

section
variable {w : World} {A : Around} {B : Bs} {l l' : Ledger} {s : Shared} {mg mb : Str → Option Value} {K : Frag} {v : Value}

theorem c_capfn {lf : SO → Ledger} {tc : Tok} {Q : Value → Shared → Prop} (R : Room A 2) (T : KP mg mb K B.h) (u : ∀ y z, Upd1 404 y z (lf y) (lf z)) (H : St prog w B (lf (.raw (tabObj #[]))) s)
    (h : ∀ f ccap cinf c' t s', St prog w B ((f, soCapLam ccap cinf c') :: (c', soCode capQ) :: (cinf, .cell (some (.float infBits t))) :: (ccap, .cell (some (.str "capacity" tc))) :: lf (.raw (tabObj (capPs c')))) s' → Q (.ref f) s') :
    WC prog w A (.ref 409) [v, .str "capacity" tc] [] Q s := by
  refine call_cells ["G"] ["capacity"] [] ["inf", "capacity"] R T.nolimit (T.p_cap.keeps H.keep) (by kernel_rfl) fun name doc pm an ct => ?_
  refine wpAny_of_eq (a := ([("G", v), ("capacity", .str "capacity" tc)] : List (Str × Value))) (by kernel_rfl) ?_
  refine ⟨_, [("G", v)], [("capacity", .str "capacity" tc)], [none, some (.str "capacity" tc)], H, by kernel_rfl, by kernel_rfl, rfl, rfl, by kernel_rfl, fun L cs s hcs H => ?_⟩
  obtain ⟨cinf, ccap, rfl⟩ := cs2 hcs
  have F := fm_of (scope := scopeS dCapFn) (qual := "_capacity_function") (L := L) (f := 409) (cdv := .ref 408) (cl := [("inf", cinf), ("capacity", ccap)]) (ns := ["G"]) (csn := ["inf", "capacity"]) (gs := ["float", "callable"]) (by kernel_rfl) rfl
  unfold cellsOf cellsOf cellsOf at H
  k_flat
  refine x_cons (st := .Assign [.Name _ _] _ _) (wpAny_Assign_Name ?_)
  refine ev_call_name ?_
  refine ev_blt F H T.toTp (by tb_start) T.gb_float rfl (by decide) ?_
  refine call_pos ?_
  refine sp_cons ?_
  k_fold
  refine sp_nil ⟨keeps_type, ?_⟩
  refine float_inf H ?_
  clear H; intro t s H
  refine st_cel F H (c := cinf) (by tb_start) (by kernel_rfl) (by tb_rel) ?_
  clear H; intro s H
  refine x_cons (st := .If _ _ _ _) (wpAny_If ?_)
  refine wpAny_isTrue_value ?_
  refine ev_call_name ?_
  refine ev_blt F H T.toTp (by tb_start) T.gb_callable rfl (by decide) ?_
  refine call_pos ?_
  refine sp_cons ?_
  k_fold
  refine sp_nil ⟨keeps_blt, ?_⟩
  refine callable_str ?_
  refine wpAny_truthy_bool ?_
  rw [if_neg (by decide)]
  refine x_nil ?_
  refine x_one (st := .Return _ _) (wpAny_Return_some ?_)
  refine ev_lambda (by rfl) ?_
  refine mk_lam (P := 404) (c := 408) (ps := #[]) (lf := fun c' => _ :: _ :: _ :: lf (.raw (tabObj (capPs c')))) T H (clos := [("inf", cinf), ("capacity", ccap)]) (by kernel_rfl) rfl rfl T.hd408 trivial (by kernel_rfl) (fun c' => .tail (.tail (.tail (u _ _)))) ?_
  clear H; intro f c' s H
  rw [show (envX "_capacity_function" (scopeS dCapFn) L 409 (.ref 408) [("inf", cinf), ("capacity", ccap)]).qual ++ Str.ofString "<lambda>" = capQ from by kernel_rfl] at H
  have H2 : St prog w B ((f, soCapLam ccap cinf c') :: (c', soCode capQ) :: (L, .ns [("G", some v)]) :: (cinf, .cell (some (.float infBits t))) :: (ccap, .cell (some (.str "capacity" tc))) :: lf (.raw (tabObj (capPs c')))) s := H
  exact h f ccap cinf c' t s (H2.sel (by k_sub))

theorem c_lam {f ccap cinf c' d : Addr} {a1 a2 : Value} {kv : List (Str × Value)} {t tc : Tok} {Q : Value → Shared → Prop} (R : Room A 2) (T : KP mg mb K B.h) (H : St prog w B l s) (hf : (f, soCapLam ccap cinf c') ∈ l) (hc : (c', soCode capQ) ∈ l) (h1 : (cinf, .cell (some (.float infBits t))) ∈ l) (h2 : (ccap, .cell (some (.str "capacity" tc))) ∈ l) (hd : (d, .dS kv) ∈ l)
    (h : ∀ s', St prog w B l s' → Q ((valueAt kv "capacity").getD (.float infBits t)) s') : WC prog w A (.ref f) [a1, a2, .ref d] [] Q s := by
  refine call_lam [("u", a1), ("v", a2), ("data", .ref d)] [] R T H hf hc (by kernel_rfl) (fun _ _ _ => by kernel_rfl) fun L s H => ?_
  have F := fm_of (scope := lamS capLam) (qual := capQ) (L := L) (f := f) (cdv := .ref c') (cl := [("inf", cinf), ("capacity", ccap)]) (ns := ["u", "v", "data"]) (csn := ["inf", "capacity"]) (gs := []) (by kernel_rfl) rfl
  k_flat
  show WP _ _ _ (eval (.Call (.Attribute _ _ _) _ _ _) _) _ _
  refine ev_meth ?_
  k_fold
  intro pl
  refine gm_getS H (kvs := kv) (by tb_start) ?_
  refine call_pos ?_
  refine sp_cons ?_
  k_fold
  refine sp_cons ?_
  k_fold
  refine sp_nil ⟨keeps_blt, ?_⟩
  exact c_get2S (kvs := kv) H (by tb_start) fun s H => h s H.drop
end
end Mine

-- MB17
namespace Mine
open PySem PySem.W PySem.Calls PyProof.Rows Builtin Builtin.ObjectAttr

section
variable {prog : Program} {w : World} {A : Around} {B : Bs} {l l' : Ledger} {s : Shared} {env : Env} {K : Frag} {x C dx f : Addr} {kvs : List (Str × Value)}

/-- an own object asked for its iterator -/
theorem iter_inst {Q : Value → Shared → Prop} (X : K.In s.heap) (I : Inst prog w s.heap x C dx kvs) (hs : findIn K (.ref C) "__iter__" = some (some (.ref f))) (hf : isFn K (.ref f) = true)
    (h : WP prog w A (call (.ref f) [.ref x]) (fun it s' => ∃ T r, s'.TypeIs it T ∧ typeLookup (.type T) "__next__" = pure (some r) ∧ Q it s') s) : WP prog w A (pyIter (.ref x)) Q s := by
  obtain ⟨o, I', _⟩ := I.look
  have one : ∀ refuse : Sem Value, WP prog w A (callSpecialIfBoundUnlessNone? (.ref x) "__iter__" refuse) (fun r s' => ∃ v T q, r = some v ∧ s'.TypeIs v T ∧ typeLookup (.type T) "__next__" = pure (some q) ∧ Q v s') s := by
    intro refuse
    have fin : ∀ {E : Value → Shared → Prop}, wpAny (model prog w) A (if (Value.ref f == Value.none) = true then (refuse >>= fun v => pure (some v)) else (call (.ref f) [.ref x] >>= fun v => pure (some v))) (fun r s' => ∃ v T q, r = some v ∧ s'.TypeIs v T ∧ typeLookup (.type T) "__next__" = pure (some q) ∧ Q v s') E s := by
      intro E
      rw [if_neg (show ¬ ((Value.ref f == Value.none) = true) from Bool.false_ne_true)]
      exact wpAny_bind (wpAny_mono h (fun v s' ⟨T, q, h1, h2, h3⟩ => wpAny_pure ⟨v, T, q, rfl, h1, h2, h3⟩) fun _ _ e => e.elim)
    simp only [callSpecialIfBoundUnlessNone?, bindSpecialIfBound?]
    refine wpAny_holding (wpAny_bind (wpAny_bind (wpAny_bind (I'.type.here ((looks_findIn X hs).here ?_)))))
    refine wpAny_bind (wpAny_askSetting (wpAny_ite ?_))
    split
    · exact wpAny_bind ((bind_fn X _ (beq_iff_eq.mp hf)).here (wpAny_pure (by exact fin)))
    · exact wpAny_tryCatch (wpAny_bind ((bind_fn X _ (beq_iff_eq.mp hf)).here (wpAny_pure (by exact fin))))
  unfold pyIter
  refine wpAny_bind (wpAny_bind (I'.type.here ((looks_findIn X hs).here ?_)))
  dsimp only
  refine wpAny_bind (WP.mono (one _) fun r s' hr => ?_)
  obtain ⟨v, T, q, rfl, h1, h2, h3⟩ := hr
  exact wpAny_bind (wpAny_specialOf h1 h2 (wpAny_pure h3))

/-- a comprehension's loop, its turn under tests -/
abbrev testsOf (ifs : List Expr) (env : Env) : Sem Bool := forIn ifs true fun c r => if r = true then do let ok ← isTrue c env (eval c env); pure (ForInStep.yield ok) else pure (ForInStep.yield r)
theorem comp_loopI {elt iter : Expr} {ifs : List Expr} {scope : Scope} {pos : Pos} {target : Expr} {acc : Value} {it : Addr} {n : Nat} {so : Nat → SO} {ok : Ledger → Prop} {P : Nat → Value → Ledger → Prop} {R : Result → Shared → Prop}
    (I : It prog w A B target it n so ok P) (J : Nat → Ledger → Prop) (hok : ∀ i l, J i l → ok l) (H : St prog w B ((it, so 0) :: l) s) (h0 : J 0 l)
    (turn : ∀ i v ex l s, i < n → P i v ex → J i l → St prog w B (ex ++ (it, so (i + 1)) :: l) s → WP prog w A (assign target env v) (fun _ s₁ => WP prog w A (testsOf ifs env) (fun b s₂ =>
      if b then WP prog w A (emitL elt acc env) (fun _ s₃ => ∃ l', J (i + 1) l' ∧ St prog w B ((it, so (i + 1)) :: l') s₃) s₂ else ∃ l', J (i + 1) l' ∧ St prog w B ((it, so (i + 1)) :: l') s₂) s₁) s)
    (fin : ∀ l s, J n l → St prog w B l s → R (.ok .next) s) : codeAny (model prog w) A (.compLoop (.ListComp elt [⟨target, iter, ifs, 0⟩] scope pos) 0 (.ref it) acc env) R s := by
  refine codeAny_loop rfl (fun k s => ∃ i l, k = n - i ∧ i ≤ n ∧ J i l ∧ St prog w B ((it, so i) :: l) s) ?_ n ⟨0, l, rfl, Nat.zero_le _, h0, H⟩
  rintro k s ⟨i, l, rfl, hi, hJ, H⟩
  show wpAny _ A ((compTurn (.ListComp elt [⟨target, iter, ifs, 0⟩] scope pos) 0 (.ref it) acc env).onRaise (fun x => do noteFrame x env; theTreesLotGoes x)) _ _ s
  refine wpAny_noted ?_
  rw [compTurn_list]
  refine wpAny_bind (wpAny_standAt (wpAny_bind ?_))
  rcases Nat.lt_or_eq_of_le hi with hlt | rfl
  · refine wpAny_mono (I.item i l s (fun v s' => WP prog w A (assign target env v) (fun _ s₁ => WP prog w A (testsOf ifs env) (fun b s₂ =>
      if b then WP prog w A (emitL elt acc env) (fun _ s₃ => ∃ l', J (i + 1) l' ∧ St prog w B ((it, so (i + 1)) :: l') s₃) s₂ else ∃ l', J (i + 1) l' ∧ St prog w B ((it, so (i + 1)) :: l') s₂) s₁) s') hlt (hok i l hJ) H fun v ex s' hp H' => turn i v ex l s' hlt hp hJ H') (fun r s₁ h => ?_) fun _ _ e => e.elim
    obtain ⟨v, rfl, h⟩ := h
    refine wpAny_bind (wpAny_mono h (fun _ s₂ h₂ => wpAny_bind ?_) fun _ _ e => e.elim)
    refine wpAny_mono h₂ (fun _ s₃ h₃ => wpAny_bind ?_) fun _ _ e => e.elim
    refine wpAny_mono h₃ (fun b s₄ h₄ => ?_) fun _ _ e => e.elim
    cases b with
    | false =>
      rw [if_neg (by simp)] at h₄
      obtain ⟨l', hJ', H'⟩ := h₄
      exact wpAny_pure ⟨rfl, n - (i + 1), by omega, i + 1, l', rfl, hlt, hJ', H'⟩
    | true =>
      rw [if_pos rfl] at h₄
      refine wpAny_bind (wpAny_mono h₄ (fun _ s₅ h₅ => ?_) fun _ _ e => e.elim)
      obtain ⟨l', hJ', H'⟩ := h₅
      exact wpAny_pure ⟨rfl, n - (i + 1), by omega, i + 1, l', rfl, hlt, hJ', H'⟩
  · refine wpAny_mono (I.done l s (fun s' => R (.ok .next) s') (hok _ l hJ) H fun s' H' => fin l s' hJ H') (fun r s₁ h => ?_) fun _ _ e => e.elim
    obtain ⟨rfl, h⟩ := h
    exact wpAny_pure h
theorem tests_one {c : Expr} {Q : Bool → Shared → Prop} (h : WP prog w A (isTrue c env (eval c env)) Q s) : WP prog w A (testsOf [c] env) Q s := wpAny_tests_one h
/-- the lesser of the endless float and an int -/
theorem min_fi {i : Int} {t u : Tok} {Q : Value → Shared → Prop} (hh : A.handled = none) (H : St prog w B l s) (h : ∀ u s', St prog w B l s' → Q (.int i u) s') : WP prog w A (call (.builtin "min") [.float infBits t, .int i u]) Q s := by
  have hT : (s.heap.push { cls := .type "tuple", data := .seq #[.float infBits t, .int i u] }).IsTuple s.heap.objs.size #[.float infBits t, .int i u] := ⟨_, Heap.get?_push_size _ rfl, rfl, 0, rfl⟩
  refine call_min_two (wpAny_pyIter_tuple hT ?_)
  have hsz : (s.heap.push { cls := .type "tuple", data := .seq #[.float infBits t, .int i u] }).objs.size = s.heap.objs.size + 1 := Heap.size_push ..
  have hcmp : CmpOf prog w A.in1 .Lt (fun (k : Nat) (v : Value) => (#[.float infBits t, .int i u] : Array Value)[k]? = some v) (fun a b => decide (a = 1 ∧ b = 0)) := by
    intro a b va vb s Q E ha hb hq
    have case : ∀ (k : Nat) (v : Value), (#[.float infBits t, .int i u] : Array Value)[k]? = some v → (k = 0 ∧ v = .float infBits t) ∨ (k = 1 ∧ v = .int i u) := by
      intro k v hk
      match k, hk with
      | 0, hk => exact .inl ⟨rfl, (Option.some.inj hk).symm⟩
      | 1, hk => exact .inr ⟨rfl, (Option.some.inj hk).symm⟩
      | n + 2, hk => simp at hk
    show wpAny _ _ (compareOp .Lt va vb) Q E s
    rcases case a va ha with ⟨rfl, rfl⟩ | ⟨rfl, rfl⟩ <;> rcases case b vb hb with ⟨rfl, rfl⟩ | ⟨rfl, rfl⟩
    · refine AutoFloatOps.lt_0 ?_
      have : (Float64.cmp infBits infBits == some Ordering.lt) = false := by unfold Float64.cmp; rw [dec_inf]; rfl
      rw [this]; exact hq
    · refine lt_fi ?_
      rw [cmp_inf]; exact hq
    · refine lt_if ?_
      rw [cmp_inf]; exact hq
    · refine PyProof.Rows.lt_int ?_
      simpa using hq
  refine ⟨_, [_, s.heap.objs.size], [_], _, _, _, _, rfl, Walks.tuple (A := A.in1) hh _ s.heap.objs.size (by rw [hsz]; exact Nat.ne_of_lt (Nat.lt_succ_self _)) #[.float infBits t, .int i u],
    ⟨⟨_, Heap.get?_push_size _ rfl, rfl, rfl⟩, hT.push _⟩, fun c hc => ?_, Nat.zero_lt_two, hcmp, fun v h' tk hP hk => ?_⟩
  · show c < ((s.heap.push _).push _).objs.size
    rw [Heap.size_push, hsz]
    rcases List.mem_cons.mp hc with rfl | hc
    · rw [hsz]; exact Nat.lt_succ_self _
    · rcases List.mem_cons.mp hc with rfl | hc
      · exact Nat.lt_succ_of_lt (Nat.lt_succ_self _)
      · cases hc
  · have hold : ∀ c o, s.heap.get? c = some o → h'.get? c = some o := fun c o e => by
      refine hk c o (fun hm => ?_) (Heap.get?_push_of_some _ (Heap.get?_push_of_some _ e))
      rcases List.mem_cons.mp hm with e1 | hm
      · have := Heap.lt_size e; rw [e1, hsz] at this; exact Nat.lt_irrefl _ (Nat.lt_of_succ_lt this)
      · cases hm
    have e : argBest (fun a b => decide (a = 1 ∧ b = 0)) 1 = 1 := by decide
    have hP' : (#[.float infBits t, .int i u] : Array Value)[argBest (fun a b => decide (a = 1 ∧ b = 0)) 1]? = some v := hP
    rw [e] at hP'
    cases (Option.some.inj hP' : Value.int i u = v)
    exact h u _ (H.grow (t := tk) hold)
end
end Mine

-- MC14
namespace Mine
open PySem PySem.W PySem.Calls PyProof.Rows Builtin Builtin.ObjectAttr

local macro_rules | `(tactic| tb_start) => `(tactic| first | with_reducible exact List.mem_cons_self | with_reducible assumption | (with_reducible apply List.mem_cons_of_mem; tb_start) | (with_reducible apply List.mem_append_left; tb_start) | (with_reducible apply List.mem_append_right; tb_start) | with_reducible exact g_x | with_reducible exact g_dx | with_reducible exact g_gr | with_reducible exact g_nd | with_reducible exact g_ad | with_reducible exact g_pr)
local macro_rules | `(tactic| tb_rel) => `(tactic| first | with_reducible exact Upd1.head | with_reducible exact Put.head | (with_reducible apply Upd1.tail; tb_rel) | (with_reducible apply Put.tail; tb_rel) | (with_reducible apply Upd1.right; tb_rel) | (with_reducible apply Upd1.append; tb_rel))
local macro_rules | `(tactic| k_ne) => `(tactic| first | (with_reducible apply Apart.head; tb_start) | (with_reducible apply Apart.head'; tb_start) | (with_reducible apply Apart.tail; k_ne))
local macro_rules | `(tactic| k_same) => `(tactic| first | with_reducible exact Split.head | (with_reducible apply Split.tail; k_same) | (with_reducible apply Split.skip; k_same))
local macro_rules | `(tactic| k_same2) => `(tactic| first | with_reducible exact SplitL.head | with_reducible exact SplitL.last | (with_reducible apply SplitL.tail; k_same2) | (with_reducible apply SplitL.skip; k_same2))
local macro_rules | `(tactic| k_sub) => `(tactic| first | with_reducible exact Sel.nil | with_reducible exact Sel.all | (with_reducible refine Sel.cons (by k_same) ?_; k_sub) | (with_reducible refine Sel.app (by k_same2) ?_; k_sub) | (with_reducible exact Sel.one (by k_same2)))
set_option hygiene false in
local macro_rules | `(tactic| k_flat) => `(tactic| simp only [frameOf, List.map_cons, List.map_nil, List.cons_append, List.nil_append, List.append_nil] at H)
set_option hygiene false in
local macro_rules | `(tactic| tb_lt) => `(tactic| first
  | (with_reducible refine ev_loc F H (by tb_start) (by tb_start) (by tb_start) ?_)
  | (with_reducible refine ev_int H ?_; clear H; intro _ s H)
  | (with_reducible refine ev_str H ?_; clear H; intro _ s H)
  | (with_reducible refine ev_none ?_)
  | (with_reducible refine ev_bool ?_)
  | (with_reducible refine ev_cel F H (by tb_start) (by tb_start) ?_)
  | (with_reducible refine Attribute_any_ ?_)
  | (with_reducible refine Subscript_ ?_)
  | (with_reducible refine wpAny_BinOp ?_)
  | (with_reducible refine wpAny_Compare1 ?_)
  | ((with_reducible show wpAny _ _ (getAttr _ _ _) _ _ _); refine at_own H T.X (H.inst (by tb_start) (by tb_start)) T.o__adj_395 (by rfl) (by rfl) ?_; clear H; intro s H)
  | ((with_reducible show wpAny _ _ (getAttr _ _ _) _ _ _); refine at_own H T.X (H.inst (by tb_start) (by tb_start)) T.o__node_395 (by rfl) (by rfl) ?_; clear H; intro s H)
  | ((with_reducible show wpAny _ _ (getAttr _ _ _) _ _ _); refine at_own H T.X (H.inst (by tb_start) (by tb_start)) T.o__pred_395 (by rfl) (by rfl) ?_; clear H; intro s H)
  | ((with_reducible show wpAny _ _ (getAttr _ _ _) _ _ _); refine at_own H T.X (H.inst (by tb_start) (by tb_start)) T.o_graph_395 (by rfl) (by rfl) ?_; clear H; intro s H))
set_option hygiene false in
local macro_rules | `(tactic| k_upd) => `(tactic| (refine st_loc2 F H (by tb_start) (by tb_start) (by tb_rel) (by tb_rel) ?_; clear H; intro s H))
set_option hygiene false in
local macro_rules | `(tactic| k_fold) => `(tactic| (repeat tb_lt))

def cvOf (ti : Tok) (e : Ed) : Value := (valueAt e.kv "capacity").getD (.float infBits ti)
def capO (e : Ed) : Option Int := match e.kv with
  | [(_, .int c _)] => some c
  | _ => none
def posC (e : Ed) : Bool := match capO e with
  | some c => decide (0 < c)
  | none => true
def KvOk (e : Ed) : Prop := e.kv = [] ∨ ∃ c t, e.kv = [(Str.ofString "capacity", Value.int c t)] ∧ 0 ≤ c ∧ c ≤ 1000
def edgeT (ti : Tok) (ts : List Row) : Ledger := ts.map fun r => (r.q, .tp [.int r.e.u r.t, .int r.e.v r.t', cvOf ti r.e])
def eComp : Expr := match nthS (bodyS dBuild) 4 with | .Assign _ e _ => e | _ => .Constant .none 0 ⟨0, 0, 0, 0⟩
def scE : Expr → Scope
  | .ListComp _ _ s _ => s
  | .GeneratorExp _ _ s _ => s
  | _ => ⟨.module, [], false, false, []⟩
abbrev bEnv (L ci ck cc : Addr) : Env := envX "build_residual_network" (scopeS dBuild) L 402 (.ref 401) [("inf", ci), ("cap", ck), ("capacity", cc)]
abbrev bF (g r : Addr) (u v el rr : Option Value) : List (Str × Option Value) := [("G", some (.ref g)), ("R", some (.ref r)), ("u", u), ("v", v), ("edge_list", el), ("r", rr)]

section
variable {w : World} {A : Around} {B : Bs} {l l' : Ledger} {s : Shared} {mg mb : Str → Option Value} {K : Frag} {v : Value} {g : GA}

theorem fm_b (L ci ck cc : Addr) : Fm (bEnv L ci ck cc) L ["G", "R", "u", "v", "edge_list", "r"] [("inf", ci), ("cap", ck), ("capacity", cc)] ["DiGraph", "_capacity_function", "float", "sum", "min"] := fm_of (by kernel_rfl) rfl

theorem cv_cases {e : Ed} (h : KvOk e) (ti : Tok) : (cvOf ti e = .float infBits ti ∧ posC e = true ∧ capO e = none) ∨ ∃ c t, cvOf ti e = .int c t ∧ posC e = decide (0 < c) ∧ capO e = some c ∧ 0 ≤ c ∧ c ≤ 1000 := by
  rcases h with h | ⟨c, t, h, h0, h1⟩
  · refine .inl ?_
    unfold cvOf posC capO; rw [h]; exact ⟨rfl, rfl, rfl⟩
  · refine .inr ⟨c, t, ?_⟩
    unfold cvOf posC capO; rw [h]
    exact ⟨by simp [valueAt], rfl, rfl, h0, h1⟩
theorem gt_cv {e : Ed} (h : KvOk e) {ti t : Tok} {Q : Value → Shared → Prop} (hq : Q (.bool (posC e)) s) : WP prog w A (compareOp .Gt (cvOf ti e) (.int 0 t)) Q s := by
  rcases cv_cases h ti with ⟨h1, h2, _⟩ | ⟨c, u, h1, h2, _⟩
  · rw [h1]; refine gt_fi ?_; rw [cmp_inf]; rw [h2] at hq; exact hq
  · rw [h1]; refine PyProof.Rows.gt_int ?_; rw [h2] at hq; exact hq
theorem cv_some {e : Ed} (h : KvOk e) (ti : Tok) : (cvOf ti e == .none) = false := by
  rcases cv_cases h ti with ⟨h1, _⟩ | ⟨c, u, h1, _⟩ <;> rw [h1] <;> rfl
theorem b_comp {N : Nat} {nA aA pA : Nat → Addr} {es : List Ed} {L ci ck cc f cp cn c' rx : Addr} {ti tc : Tok} {cv0 : Option Value} {u0 v0 r0 : Option Value} {Q : Flow → Shared → Prop} (R : Room A 10) (T : KP mg mb K B.h) (hN : N ≤ 100) (hes : es.length ≤ 200) (hkv : ∀ e ∈ es, KvOk e) (huv : ∀ e ∈ es, e.u ≠ e.v)
    (hcc : (cc, .cell (some (.ref f))) ∈ l) (hf : (f, soCapLam cp cn c') ∈ l) (hc : (c', soCode capQ) ∈ l) (h1 : (cn, .cell (some (.float infBits ti))) ∈ l) (h2 : (cp, .cell (some (.str "capacity" tc))) ∈ l)
    (H : St prog w B ((L, .ns (bF g.x rx u0 v0 none r0)) :: (ck, .cell cv0) :: (gl g (mkG N nA aA pA es) [] ++ l)) s)
    (h : ∀ El ts cv1 s', ts.map (·.e) = (flat es N).filter posC → St prog w B ((L, .ns (bF g.x rx u0 v0 (some (.ref El)) r0)) :: (ck, .cell cv1) :: (El, .ls (rowsV ts)) :: (edgeT ti ts ++ (gl g (mkG N nA aA pA es) [] ++ l))) s' → Q .next s') :
    WP prog w A (exec (nthS (bodyS dBuild) 4) (bEnv L ci ck cc)) Q s := by
  have F := fm_b L ci ck cc
  refine x_assign_comp (B := B) [".0", "u", "v", "attr"] (by kernel_rfl) (by kernel_rfl) (cl := [("capacity", cc), ("cap", ck)]) (by kernel_rfl) ?_
  have Hg : St prog w B (gl g (mkG N nA aA pA es) [] ++ ((L, .ns (bF g.x rx u0 v0 none r0)) :: (ck, .cell cv0) :: l)) s := H.sel (by k_sub)
  show WP _ _ _ (eval (.Call (.Attribute (.Name _ _) _ _) [] [⟨_, _, _⟩] _) _) _ _
  refine ev_edges (a := g) (R.less (by decide)) T hN hes Hg (fun Q' hq => ?_) (h := ?_)
  · exact ev_loc F H (by tb_start) (by tb_start) (by tb_start) hq
  clear H Hg; intro D rs s hrs H
  refine iter_list H (H.isl (vs := rowsV rs) (by tb_start)) ?_
  clear H; intro it s hne H
  refine ⟨_, H, fun El C s H => ?_⟩
  show codeAny (model prog w) A (.compStart _ 0 _ _ (compEnvC (scE eComp) [("capacity", cc), ("cap", ck)] C (bEnv L ci ck cc))) _ _
  refine comp_start (g := ⟨_, _, _, _⟩) rfl rfl (fun Q hq => iter_self_list H (i := 0) (a := D) (by tb_start) hq) ?_
  have FC := fm_comp (scope := scE eComp) (osc := scopeS dBuild) (qual := "build_residual_network") (L := L) (f := 402) (C := C) (cdv := .ref 401) (cl := [("capacity", cc), ("cap", ck)]) (cl0 := [("inf", ci), ("cap", ck), ("capacity", cc)]) (ns := [".0", "u", "v", "attr"]) (csn := ["capacity", "cap"]) (gs := []) (by kernel_rfl) rfl
  k_flat
  have H1 : St prog w B ((it, soList D 0) :: (C, .ns [(".0", none), ("u", none), ("v", none), ("attr", none)]) :: (El, .ls []) :: (D, .ls (rowsV rs)) :: (L, .ns (bF g.x rx u0 v0 none r0)) :: (ck, .cell cv0) :: (rowsT rs ++ (gl g (mkG N nA aA pA es) [] ++ l))) s := H.sel (by k_sub)
  clear H
  have hrl : (rowsV rs).length = (flat es N).length := by rw [← hrs]; simp [rowsV]
  refine comp_loopI (it_list R.none hne (fun l' => (D, .ls (rowsV rs)) ∈ l') fun l' s hm H => H.isl hm) (fun i l' => ∃ ts x0 x1 x2 x3 cv1, ts.map (·.e) = ((flat es N).take i).filter posC ∧ l' = (C, .ns [(".0", x0), ("u", x1), ("v", x2), ("attr", x3)]) :: (El, .ls (rowsV ts)) :: (D, .ls (rowsV rs)) :: (L, .ns (bF g.x rx u0 v0 none r0)) :: (ck, .cell cv1) :: (edgeT ti ts ++ (rowsT rs ++ (gl g (mkG N nA aA pA es) [] ++ l)))) ?_ H1 ⟨[], _, _, _, _, _, rfl, rfl⟩ ?_ ?_
  · rintro i l' ⟨ts, x0, x1, x2, x3, cv1, _, rfl⟩; tb_start
  · rintro i v ex l' s hi ⟨hv, rfl⟩ ⟨ts, x0, x1, x2, x3, cv1, hts, rfl⟩ H
    simp only [List.nil_append] at H
    obtain ⟨r, hr, rfl⟩ : ∃ r, rs[i]? = some r ∧ v = .ref r.q := by
      unfold rowsV at hv
      rw [List.getElem?_map, Option.map_eq_some_iff] at hv
      obtain ⟨r, hr, e⟩ := hv
      exact ⟨r, hr, e.symm⟩
    have hre : (flat es N)[i]? = some r.e := by rw [← hrs, List.getElem?_map, hr]; rfl
    have hein : r.e ∈ es := by
      have := List.mem_of_getElem? hre
      unfold flat outs at this
      obtain ⟨j, _, hj⟩ := List.mem_flatMap.mp this
      exact (List.mem_filter.mp hj).1
    have hq : (r.q, .tp [.int r.e.u r.t, .int r.e.v r.t', .ref r.e.at_]) ∈ rowsT rs := List.mem_map.mpr ⟨r, List.mem_of_getElem? hr, rfl⟩
    have hat : (r.e.at_, .dS r.e.kv) ∈ gl g (mkG N nA aA pA es) [] := g_at (S := mkG N nA aA pA es) (p := (r.e.at_, r.e.kv)) (List.mem_map.mpr ⟨r.e, hein, rfl⟩)
    have htk : (flat es N).take (i + 1) = (flat es N).take i ++ [r.e] := by rw [List.take_add_one, hre]; rfl
    refine assign_tup R.none H (t := r.q) (by tb_start) ?_
    clear H; intro s H
    clear F; have F := FC
    refine ao_cons (wpAny_assign_Name ?_)
    k_upd
    refine ao_cons (wpAny_assign_Name ?_)
    k_upd
    refine ao_cons (wpAny_assign_Name ?_)
    k_upd
    refine ao_nil ?_
    refine tests_one ?_
    refine wpAny_isTrue_BoolOp ?_
    refine wpAny_allTrue_And_cons ?_
    refine wpAny_isTrue_Compare1 ?_
    k_fold
    refine PyProof.Rows.ne_int ?_
    have hne2 : ((r.e.u : Int) != (r.e.v : Int)) = true := by have := huv _ hein; simp; omega
    rw [hne2]
    refine wpAny_truthy_bool ?_
    rw [if_pos (by rfl)]
    refine wpAny_allTrue_And_cons ?_
    refine wpAny_isTrue_Compare1 ?_
    refine wpAny_NamedExpr ?_
    refine ev_call_name ?_
    refine ev_cel F H (c := cc) (by tb_start) (by tb_start) ?_
    refine call_pos ?_
    refine sp_cons ?_
    k_fold
    refine sp_cons ?_
    k_fold
    refine sp_cons ?_
    k_fold
    refine sp_nil ⟨keeps_lam H (f := f) (by tb_start), call_of ?_⟩
    refine c_lam (R.less (by decide)) T H (f := f) (ccap := cp) (cinf := cn) (c' := c') (d := r.e.at_) (kv := r.e.kv) (t := ti) (tc := tc) (by tb_start) (by tb_start) (by tb_start) (by tb_start) (by tb_start) ?_
    clear H; intro s H
    refine wpAny_assign_Name ?_
    refine st_cel F H (c := ck) (by tb_start) (by kernel_rfl) (by tb_rel) ?_
    clear H; intro s H
    k_fold
    refine isNot_none ?_
    show WP prog w A (truthy (.bool (!(cvOf ti r.e == .none)))) _ _
    rw [cv_some (hkv _ hein)]
    refine wpAny_truthy_bool ?_
    rw [if_pos (by rfl)]
    refine wpAny_allTrue_And_cons ?_
    refine wpAny_isTrue_Compare1 ?_
    k_fold
    refine gt_cv (e := r.e) (hkv _ hein) ?_
    refine wpAny_truthy_bool ?_
    have hrl2 : ts.length ≤ 20000 := by
      have h1 : ts.length = (ts.map (·.e)).length := by rw [List.length_map]
      rw [h1, hts]
      refine Nat.le_trans (List.length_filter_le _ _) ?_
      rw [List.length_take]
      have := flat_le es N
      have : es.length * N ≤ 200 * 100 := Nat.mul_le_mul hes hN
      omega
    cases hpos : posC r.e with
    | true =>
      rw [if_pos rfl]
      refine wpAny_allTrue_And_nil ?_
      rw [if_pos rfl]
      refine wpAny_bind ?_
      refine ev_Tuple ?_
      refine sp_cons ?_
      k_fold
      refine sp_cons ?_
      k_fold
      refine sp_cons ?_
      k_fold
      refine sp_nil ?_
      refine new_tuple H (by show 3 ≤ sizeLine; decide) ?_
      clear H; intro tp s H
      refine wpAny_bind ?_
      refine call_append (vs := rowsV ts) H (by unfold rowsV; rw [List.length_map, sizeLine_eq]; omega) (by tb_rel) ?_
      clear H; intro s H
      refine wpAny_pure ⟨_, ⟨ts ++ [⟨tp, r.e, r.t, r.t'⟩], x0, some (.int r.e.u r.t), some (.int r.e.v r.t'), some (.ref r.e.at_), some ((valueAt r.e.kv (Str.ofString "capacity")).getD (.float infBits ti)), ?_, rfl⟩, H.sel ?_⟩
      · rw [htk, List.filter_append, List.map_append, hts]
        simp [hpos]
      · have e1 : rowsV (ts ++ [⟨tp, r.e, r.t, r.t'⟩]) = rowsV ts ++ [.ref tp] := by simp [rowsV]
        have e2 : edgeT ti (ts ++ [⟨tp, r.e, r.t, r.t'⟩]) = edgeT ti ts ++ [(tp, .tp [.int r.e.u r.t, .int r.e.v r.t', (valueAt r.e.kv (Str.ofString "capacity")).getD (.float infBits ti)])] := by simp [edgeT, cvOf]
        rw [e1, e2]
        simp only [List.append_assoc, List.cons_append, List.nil_append]
        k_sub
    | false =>
      rw [if_neg (by simp)]
      show if false = true then _ else _
      rw [if_neg (by simp)]
      refine ⟨_, ⟨ts, _, _, _, _, _, ?_, rfl⟩, H⟩
      rw [htk, List.filter_append, hts]
      simp [hpos]
  · rintro l' s ⟨ts, x0, x1, x2, x3, cv1, hts, rfl⟩ H
    rw [hrl, List.take_length] at hts
    show WP prog w A (storeName _ _ _) _ _
    refine st_loc2 F H (by tb_start) (by tb_start) (by tb_rel) (by tb_rel) ?_
    clear H; intro s H
    refine ⟨_, _, H, fun s' H => h El ts cv1 s' hts (H.sel (by k_sub))⟩
end
end Mine

-- MC15
namespace Mine
open PySem PySem.W PySem.Calls PyProof.Rows Builtin Builtin.ObjectAttr

local macro_rules | `(tactic| tb_start) => `(tactic| first | with_reducible exact List.mem_cons_self | with_reducible assumption | (with_reducible apply List.mem_cons_of_mem; tb_start) | (with_reducible apply List.mem_append_left; tb_start) | (with_reducible apply List.mem_append_right; tb_start) | with_reducible exact g_x | with_reducible exact g_dx | with_reducible exact g_gr | with_reducible exact g_nd | with_reducible exact g_ad | with_reducible exact g_pr)
local macro_rules | `(tactic| tb_rel) => `(tactic| first | with_reducible exact Upd1.head | with_reducible exact Put.head | (with_reducible apply Upd1.tail; tb_rel) | (with_reducible apply Put.tail; tb_rel) | (with_reducible apply Upd1.right; tb_rel) | (with_reducible apply Upd1.append; tb_rel))
local macro_rules | `(tactic| k_ne) => `(tactic| first | (with_reducible apply Apart.head; tb_start) | (with_reducible apply Apart.head'; tb_start) | (with_reducible apply Apart.tail; k_ne))
local macro_rules | `(tactic| k_same) => `(tactic| first | with_reducible exact Split.head | (with_reducible apply Split.tail; k_same) | (with_reducible apply Split.skip; k_same))
local macro_rules | `(tactic| k_same2) => `(tactic| first | with_reducible exact SplitL.head | with_reducible exact SplitL.last | (with_reducible apply SplitL.tail; k_same2) | (with_reducible apply SplitL.skip; k_same2))
local macro_rules | `(tactic| k_sub) => `(tactic| first | with_reducible exact Sel.nil | with_reducible exact Sel.all | (with_reducible refine Sel.cons (by k_same) ?_; k_sub) | (with_reducible refine Sel.app (by k_same2) ?_; k_sub) | (with_reducible exact Sel.one (by k_same2)))
set_option hygiene false in
local macro_rules | `(tactic| k_flat) => `(tactic| simp only [frameOf, List.map_cons, List.map_nil, List.cons_append, List.nil_append, List.append_nil] at H)
set_option hygiene false in
local macro_rules | `(tactic| tb_lt) => `(tactic| first
  | (with_reducible refine ev_loc F H (by tb_start) (by tb_start) (by tb_start) ?_)
  | (with_reducible refine ev_int H ?_; clear H; intro _ s H)
  | (with_reducible refine ev_str H ?_; clear H; intro _ s H)
  | (with_reducible refine ev_none ?_)
  | (with_reducible refine ev_bool ?_)
  | (with_reducible refine ev_cel F H (by tb_start) (by tb_start) ?_)
  | (with_reducible refine Attribute_any_ ?_)
  | (with_reducible refine Subscript_ ?_)
  | (with_reducible refine wpAny_BinOp ?_)
  | (with_reducible refine wpAny_Compare1 ?_)
  | ((with_reducible show wpAny _ _ (getAttr _ _ _) _ _ _); refine at_own H T.X (H.inst (by tb_start) (by tb_start)) T.o__adj_395 (by rfl) (by rfl) ?_; clear H; intro s H)
  | ((with_reducible show wpAny _ _ (getAttr _ _ _) _ _ _); refine at_own H T.X (H.inst (by tb_start) (by tb_start)) T.o__node_395 (by rfl) (by rfl) ?_; clear H; intro s H)
  | ((with_reducible show wpAny _ _ (getAttr _ _ _) _ _ _); refine at_own H T.X (H.inst (by tb_start) (by tb_start)) T.o__pred_395 (by rfl) (by rfl) ?_; clear H; intro s H)
  | ((with_reducible show wpAny _ _ (getAttr _ _ _) _ _ _); refine at_own H T.X (H.inst (by tb_start) (by tb_start)) T.o_graph_395 (by rfl) (by rfl) ?_; clear H; intro s H))
set_option hygiene false in
local macro_rules | `(tactic| k_upd) => `(tactic| (refine st_loc2 F H (by tb_start) (by tb_start) (by tb_rel) (by tb_rel) ?_; clear H; intro s H))
set_option hygiene false in
local macro_rules | `(tactic| k_fold) => `(tactic| (repeat tb_lt))

def gComp : Expr := match nthS (bodyS dBuild) 6 with
  | .Assign _ (.BoolOp _ (.BinOp _ _ (.Call _ (g :: _) _ _) _ :: _) _) _ => g
  | _ => .Constant .none 0 ⟨0, 0, 0, 0⟩
def posG : Expr → Pos
  | .GeneratorExp _ _ _ p => p
  | _ => ⟨0, 0, 0, 0⟩
def genPs (c' : Addr) : Array Value := #[rawInt (posG gComp).line, rawInt (posG gComp).col, .ref c']
def finS (es : List Ed) : Int := (es.filterMap capO).sum
def infOf (es : List Ed) : Int := if 3 * finS es = 0 then 1 else 3 * finS es

section
variable {w : World} {A : Around} {B : Bs} {l l' : Ledger} {s : Shared} {mg mb : Str → Option Value} {K : Frag} {v : Value} {g : GA}

theorem Keeps.rfl' (s : Shared) : Keeps s s := ⟨s.heap, s.toks, rfl, fun _ _ e => e⟩

/-- the value in the i-th of the tuples -/
def isFin (ts : List Row) (i : Nat) : Bool := match ts[i]? with
  | some r => (capO r.e).isSome
  | none => false
def finV (ts : List Row) (i : Nat) : Int := match ts[i]? with
  | some r => (capO r.e).getD 0
  | none => 0

theorem passing_sum (ts : List Row) : ∀ (n i : Nat), ts.length - i = n → i ≤ ts.length → ((passing (isFin ts) ts.length i).map (finV ts)).sum = (((ts.drop i).map (·.e)).filterMap capO).sum ∧ (passing (isFin ts) ts.length i).length ≤ ts.length - i ∧ ∀ j ∈ passing (isFin ts) ts.length i, j < ts.length
  | 0, i, hn, hi => by
    have : i = ts.length := by omega
    subst this
    rw [passing_end, List.drop_length]
    exact ⟨rfl, Nat.zero_le _, fun j hj => by cases hj⟩
  | n + 1, i, hn, hi => by
    have hlt : i < ts.length := by omega
    obtain ⟨h1, h2, h3⟩ := passing_sum ts n (i + 1) (by omega) hlt
    have hd : ts.drop i = ts[i] :: ts.drop (i + 1) := List.drop_eq_getElem_cons hlt
    have hg : ts[i]? = some ts[i] := List.getElem?_eq_getElem hlt
    cases hp : isFin ts i with
    | false =>
      rw [passing_false hlt hp, hd, List.map_cons]
      have hc : capO ts[i].e = none := by
        unfold isFin at hp; rw [hg] at hp
        have hp : (capO ts[i].e).isSome = false := hp
        cases q : capO ts[i].e with
        | none => rfl
        | some c => rw [q] at hp; cases hp
      rw [List.filterMap_cons_none hc]
      exact ⟨h1, by omega, h3⟩
    | true =>
      rw [passing_true hlt hp, hd, List.map_cons]
      obtain ⟨c, hc⟩ : ∃ c, capO ts[i].e = some c := by
        unfold isFin at hp; rw [hg] at hp
        exact Option.isSome_iff_exists.mp hp
      rw [List.map_cons, List.filterMap_cons_some hc, List.sum_cons, List.sum_cons, h1]
      refine ⟨?_, by rw [List.length_cons]; omega, fun j hj => ?_⟩
      · congr 1
        unfold finV; rw [hg]; show (capO ts[i].e).getD 0 = c; rw [hc]; rfl
      · rcases List.mem_cons.mp hj with rfl | hj
        · exact hlt
        · exact h3 j hj

theorem b_gen {L ci ck cc El : Addr} {ti tj : Tok} {ts : List Row} {lf : SO → Ledger} {Q : Value → Shared → Prop} (R : Room A 4) (T : KP mg mb K B.h) (hts : ts.length ≤ 20000) (hkv : ∀ r ∈ ts, KvOk r.e) {F0 : Ledger} {fr : List (Str × Option Value)} (hfr : (Str.ofString "edge_list", some (Value.ref El)) ∈ fr)
    (u : ∀ y z, Upd1 399 y z (lf y) (lf z)) (hL : ∀ y, (L, .ns fr) ∈ lf y) (hi : ∀ y, (ci, .cell (some (.float infBits tj))) ∈ lf y) (hE : ∀ y, (El, .ls (rowsV ts)) ∈ lf y) (htt : ∀ y, ∀ p ∈ edgeT ti ts, p ∈ lf y)
    (H : St prog w B (lf (.raw (tabObj #[]))) s)
    (h : ∀ t c' s', St prog w B (lf (.raw (tabObj (genPs c')))) s' → Q (.int (finS (ts.map (·.e))) t) s') :
    WP prog w A (eval (match nthS (bodyS dBuild) 6 with | .Assign _ (.BoolOp _ (.BinOp _ _ c _ :: _) _) _ => c | _ => .Constant .none 0 ⟨0, 0, 0, 0⟩) (bEnv L ci ck cc)) Q s := by
  have F := fm_b L ci ck cc
  show WP _ _ _ (eval (.Call (.Name _ _) _ _ _) _) _ _
  refine ev_call_name ?_
  refine ev_blt F H T.toTp (by tb_start) T.gb_sum rfl (by decide) ?_
  refine call_pos ?_
  refine sp_cons ?_
  refine ev_gen (c := 401) (P := 399) (ps := #[]) (cl := [("inf", ci)]) (R.less (by decide)) T rfl rfl rfl T.hd401 trivial (by kernel_rfl) (by kernel_rfl) (by kernel_rfl) (by decide +kernel) (by kernel_rfl) (by kernel_rfl) ⟨_, _, _, rfl⟩ ?_ (fun _ => rfl)
  refine ev_loc F H (hL _) hfr (by tb_start) ?_
  refine ⟨El, rowsV ts, _, fun c' => lf (.raw (tabObj (genPs c'))), isFin ts, fun i v => ∃ t, v = .int (finV ts i) t, rfl, H, hE _, fun c' => u _ _, ?_, ?_⟩
  · intro A' E' i v s₂ m₂ C code hA hv hn hk hC
    obtain ⟨r, hr, rfl⟩ : ∃ r, ts[i]? = some r ∧ v = .ref r.q := by
      unfold rowsV at hv
      rw [List.getElem?_map, Option.map_eq_some_iff] at hv
      obtain ⟨r, hr, e⟩ := hv
      exact ⟨r, hr, e.symm⟩
    have hrm := List.mem_of_getElem? hr
    have hmem : (r.q, .tp [.int r.e.u r.t, .int r.e.v r.t', cvOf ti r.e]) ∈ lf (.raw (tabObj #[])) := htt _ _ (List.mem_map.mpr ⟨r, hrm, rfl⟩)
    have hqP : r.q ≠ 399 := H.ne hmem (u (.raw (tabObj #[])) (.raw (tabObj #[]))).mem (by intro h; cases h)
    have hiP : ci ≠ 399 := H.ne (hi _) (u (.raw (tabObj #[])) (.raw (tabObj #[]))).mem (by intro h; cases h)
    have htup : s₂.heap.IsTuple r.q #[.int r.e.u r.t, .int r.e.v r.t', cvOf ti r.e] := by
      obtain ⟨o, ho, h1⟩ := H.tpI hmem
      exact ⟨o, hk _ _ hqP ho, h1⟩
    have hcell : s₂.heap.IsCell ci (some (.float infBits tj)) := by
      obtain ⟨o, ho, h1⟩ := H.get (hi _)
      exact ⟨o, hk _ _ hiP ho, h1⟩
    have hCi : ci < s.heap.objs.size := H.lt (hi (.raw (tabObj #[])))
    refine wpAny_assign_Tuple hA htup rfl rfl fun h₁ he₁ => ?_
    have k₁ : ∀ b o, s₂.heap.get? b = some o → h₁.get? b = some o := fun b o e => he₁ b o (Nat.ne_of_lt (Heap.lt_size e)) e
    refine assignInOrder_cons (wpAny_assign_Name (wpAny_storeName_local (by kernel_rfl) (hn.keeps k₁) (fun h₂ hn₂ hs₂ => ?_) (by kernel_rfl)))
    refine assignInOrder_cons (wpAny_assign_Name (wpAny_storeName_local (by kernel_rfl) hn₂ (fun h₃ hn₃ hs₃ => ?_) (by kernel_rfl)))
    refine assignInOrder_cons (wpAny_assign_Name (wpAny_storeName_local (by kernel_rfl) hn₃ (fun h₄ hn₄ hs₄ => ?_) (by kernel_rfl)))
    refine assignInOrder_nil ?_
    have o₄ : ∀ b o, b ≠ C → s₂.heap.get? b = some o → h₄.get? b = some o := fun b o hb e => hs₄.extBut b o hb (hs₃.extBut b o hb (hs₂.extBut b o hb (k₁ b o e)))
    have hCne : ci ≠ C := Nat.ne_of_lt (Nat.lt_trans hCi hC)
    have hcell₄ : h₄.IsCell ci (some (.float infBits tj)) := by obtain ⟨o, ho, h1⟩ := hcell; exact ⟨o, o₄ _ _ hCne ho, h1⟩
    refine ⟨⟨h₄, _, _, rfl, o₄, hn₄⟩, fun E₄ => ?_⟩
    refine wpAny_tests_one ?_
    refine wpAny_isTrue_Compare1 ?_
    refine wpAny_Name (wpAny_loadName_local (by kernel_rfl) (by kernel_rfl) hn₄ (v := cvOf ti r.e) (by rfl) ?_) (by kernel_rfl)
    refine wpAny_Name (wpAny_loadName_free (by kernel_rfl) (by kernel_rfl) (c := ci) (by kernel_rfl) hcell₄ ?_) (by kernel_rfl)
    have fin : isFin ts i = true → ∃ t, cvOf ti r.e = .int (finV ts i) t := by
      intro hfin
      rcases cv_cases (hkv r hrm) ti with ⟨_, _, h3⟩ | ⟨c, t, h1, _, h3, _⟩
      · unfold isFin at hfin; rw [hr] at hfin
        have hfin : (capO r.e).isSome = true := hfin
        rw [h3] at hfin; cases hfin
      · refine ⟨t, ?_⟩
        rw [h1]
        unfold finV; rw [hr]; show Value.int c t = .int ((capO r.e).getD 0) t; rw [h3]; rfl
    have elt : ∀ {env : Env} {p : Pos} {s₄ : Shared}, env.scope.kind = .function → env.kindOf "cap" = some .local → env.locals = C → s₄.heap = h₄ → isFin ts i = true → ∀ E₅ : Value → Shared → Prop, wpAny (model prog w) A' (eval (.Name (Str.ofString "cap") p) env) (fun y s₅ => (∃ t, y = .int (finV ts i) t) ∧ Keeps s₄ s₅) E₅ s₄ := by
      intro env p s₄ e1 e2 e3 e4 hfin E₅
      subst e3
      have hn5 := hn₄
      rw [← e4] at hn5
      exact wpAny_Name (wpAny_loadName_local e1 e2 hn5 (v := cvOf ti r.e) (by rfl) ⟨fin hfin, Keeps.rfl' _⟩) (by kernel_rfl)
    rcases cv_cases (hkv r hrm) ti with ⟨h1, _, h3⟩ | ⟨c, t, h1, _, h3, _⟩
    · rw [h1]
      refine AutoFloatOps.ne_0 ?_
      have : (Float64.cmp infBits infBits != some Ordering.eq) = false := by unfold Float64.cmp; rw [dec_inf]; rfl
      rw [this]
      refine wpAny_truthy_bool ⟨?_, Keeps.rfl' _, fun hf => by refine elt ?_ ?_ ?_ ?_ hf <;> first | rfl | kernel_rfl⟩
      unfold isFin; rw [hr]; show false = (capO r.e).isSome; rw [h3]; rfl
    · rw [h1]
      refine ne_if ?_
      rw [cmp_inf]
      refine wpAny_truthy_bool ⟨?_, Keeps.rfl' _, fun hf => by refine elt ?_ ?_ ?_ ?_ hf <;> first | rfl | kernel_rfl⟩
      unfold isFin; rw [hr]; show true = (capO r.e).isSome; rw [h3]; rfl
  · intro a c' s' H' X hN hB
    have hrl : (rowsV ts).length = ts.length := by simp [rowsV]
    rw [hrl] at X
    refine sp_nil ⟨keeps_blt, ?_⟩
    obtain ⟨p1, p2, p3⟩ := passing_sum ts ts.length 0 (Nat.sub_zero _) (Nat.zero_le _)
    have hb : ∀ n ∈ (passing (isFin ts) ts.length 0).map (finV ts), 0 ≤ n ∧ n ≤ 1000 := by
      intro n hn
      obtain ⟨j, hj, rfl⟩ := List.mem_map.mp hn
      have hjl := p3 j hj
      unfold finV
      rw [List.getElem?_eq_getElem hjl]
      show 0 ≤ (capO ts[j].e).getD 0 ∧ (capO ts[j].e).getD 0 ≤ 1000
      rcases cv_cases (hkv ts[j] (List.getElem_mem hjl)) ti with ⟨_, _, h3⟩ | ⟨c, t, _, _, h3, h4, h5⟩
      · rw [h3]; exact ⟨by decide, by decide⟩
      · rw [h3]; exact ⟨h4, h5⟩
    have bound : ∀ (k : Nat) (m : List Int), m.length ≤ k → (∀ n ∈ m, 0 ≤ n ∧ n ≤ 1000) → 0 ≤ m.sum ∧ m.sum ≤ k * 1000 := by
      intro k m
      induction m generalizing k with
      | nil => intro _ _; exact ⟨by simp, by simp; omega⟩
      | cons y m ih =>
        intro hk hm
        obtain ⟨k, rfl⟩ : ∃ k', k = k' + 1 := ⟨k - 1, by simp at hk; omega⟩
        have := ih k (by simpa using hk) fun n hn => hm n (.tail _ hn)
        have := hm y (.head _)
        simp only [List.sum_cons]
        omega
    refine sum_gen H' X hN hB (fun j => ((passing (isFin ts) ts.length 0).map (finV ts)).getD j 0) (fun j v hv => ?_) (fun j hj => ?_) (fun t s'' H'' => ?_)
    · obtain ⟨i, hi, t, rfl⟩ := hv
      refine ⟨t, ?_⟩
      rw [List.getD_eq_getElem?_getD, List.getElem?_map, hi]; rfl
    · have hjl : j < ((passing (isFin ts) ts.length 0).map (finV ts)).length := by rw [List.length_map]; exact hj
      refine ⟨?_, ?_⟩
      · have := hb _ (List.getElem_mem hjl)
        show InLong (((passing (isFin ts) ts.length 0).map (finV ts)).getD j 0)
        rw [List.getD_eq_getElem?_getD, List.getElem?_eq_getElem hjl]
        exact ⟨by show -(2 ^ 63) ≤ ((passing (isFin ts) ts.length 0).map (finV ts))[j]; omega, by show ((passing (isFin ts) ts.length 0).map (finV ts))[j] < 2 ^ 63; omega⟩
      · rw [preSum_getD]
        have := bound 20000 (((passing (isFin ts) ts.length 0).map (finV ts)).take (j + 1)) (by rw [List.length_take, List.length_map]; omega) fun n hn => hb n (List.mem_of_mem_take hn)
        exact ⟨by omega, by omega⟩
    · have e : preSum (fun j => ((passing (isFin ts) ts.length 0).map (finV ts)).getD j 0) (passing (isFin ts) ts.length 0).length = finS (ts.map (·.e)) := by
        rw [preSum_getD]
        have : (passing (isFin ts) ts.length 0).length = ((passing (isFin ts) ts.length 0).map (finV ts)).length := by rw [List.length_map]
        rw [this, List.take_length, p1, List.drop_zero]; rfl
      rw [e]
      exact h t c' s'' H''
end
end Mine

-- MC16
namespace Mine
open PySem PySem.W PySem.Calls PyProof.Rows Builtin Builtin.ObjectAttr

local macro_rules | `(tactic| tb_start) => `(tactic| first | with_reducible exact List.mem_cons_self | with_reducible assumption | (with_reducible apply List.mem_cons_of_mem; tb_start) | (with_reducible apply List.mem_append_left; tb_start) | (with_reducible apply List.mem_append_right; tb_start) | with_reducible exact g_x | with_reducible exact g_dx | with_reducible exact g_gr | with_reducible exact g_nd | with_reducible exact g_ad | with_reducible exact g_pr)
local macro_rules | `(tactic| tb_rel) => `(tactic| first | with_reducible exact Upd1.head | with_reducible exact Put.head | (with_reducible apply Upd1.tail; tb_rel) | (with_reducible apply Put.tail; tb_rel) | (with_reducible apply Upd1.right; tb_rel) | (with_reducible apply Upd1.append; tb_rel))
local macro_rules | `(tactic| k_ne) => `(tactic| first | (with_reducible apply Apart.head; tb_start) | (with_reducible apply Apart.head'; tb_start) | (with_reducible apply Apart.tail; k_ne))
local macro_rules | `(tactic| k_same) => `(tactic| first | with_reducible exact Split.head | (with_reducible apply Split.tail; k_same) | (with_reducible apply Split.skip; k_same))
local macro_rules | `(tactic| k_same2) => `(tactic| first | with_reducible exact SplitL.head | with_reducible exact SplitL.last | (with_reducible apply SplitL.tail; k_same2) | (with_reducible apply SplitL.skip; k_same2))
local macro_rules | `(tactic| k_sub) => `(tactic| first | with_reducible exact Sel.nil | with_reducible exact Sel.all | (with_reducible refine Sel.cons (by k_same) ?_; k_sub) | (with_reducible refine Sel.app (by k_same2) ?_; k_sub) | (with_reducible exact Sel.one (by k_same2)))
set_option hygiene false in
local macro_rules | `(tactic| k_flat) => `(tactic| simp only [frameOf, List.map_cons, List.map_nil, List.cons_append, List.nil_append, List.append_nil] at H)
set_option hygiene false in
local macro_rules | `(tactic| tb_lt) => `(tactic| first
  | (with_reducible refine ev_loc F H (by tb_start) (by tb_start) (by tb_start) ?_)
  | (with_reducible refine ev_int H ?_; clear H; intro _ s H)
  | (with_reducible refine ev_str H ?_; clear H; intro _ s H)
  | (with_reducible refine ev_none ?_)
  | (with_reducible refine ev_bool ?_)
  | (with_reducible refine ev_cel F H (by tb_start) (by tb_start) ?_)
  | (with_reducible refine Attribute_any_ ?_)
  | (with_reducible refine Subscript_ ?_)
  | (with_reducible refine wpAny_BinOp ?_)
  | (with_reducible refine wpAny_Compare1 ?_)
  | ((with_reducible show wpAny _ _ (getAttr _ _ _) _ _ _); refine at_own H T.X (H.inst (by tb_start) (by tb_start)) T.o__adj_395 (by rfl) (by rfl) ?_; clear H; intro s H)
  | ((with_reducible show wpAny _ _ (getAttr _ _ _) _ _ _); refine at_own H T.X (H.inst (by tb_start) (by tb_start)) T.o__node_395 (by rfl) (by rfl) ?_; clear H; intro s H)
  | ((with_reducible show wpAny _ _ (getAttr _ _ _) _ _ _); refine at_own H T.X (H.inst (by tb_start) (by tb_start)) T.o__pred_395 (by rfl) (by rfl) ?_; clear H; intro s H)
  | ((with_reducible show wpAny _ _ (getAttr _ _ _) _ _ _); refine at_own H T.X (H.inst (by tb_start) (by tb_start)) T.o_graph_395 (by rfl) (by rfl) ?_; clear H; intro s H))
set_option hygiene false in
local macro_rules | `(tactic| k_upd) => `(tactic| (refine st_loc2 F H (by tb_start) (by tb_start) (by tb_rel) (by tb_rel) ?_; clear H; intro s H))
set_option hygiene false in
local macro_rules | `(tactic| k_fold) => `(tactic| (repeat tb_lt))

theorem outs_u {es : List Ed} {i : Nat} {e : Ed} (h : e ∈ outs es i) : e ∈ es ∧ e.u = i := by
  unfold outs at h
  rw [List.mem_filter, beq_iff_eq] at h
  exact h
theorem flat_mem {es : List Ed} {N : Nat} {e : Ed} (h : e ∈ flat es N) : e ∈ es ∧ e.u < N := by
  unfold flat at h
  obtain ⟨i, hi, he⟩ := List.mem_flatMap.mp h
  obtain ⟨h1, h2⟩ := outs_u he
  exact ⟨h1, h2 ▸ List.mem_range.mp hi⟩
theorem flat_nodup {es : List Ed} (h : (es.map fun e => (e.u, e.v)).Nodup) : ∀ N, ((flat es N).map fun e => (e.u, e.v)).Nodup
  | 0 => by simp [flat]
  | N + 1 => by
    rw [flat_succ, List.map_append, List.nodup_append]
    refine ⟨flat_nodup h N, ?_, ?_⟩
    · exact (List.Sublist.map _ (List.filter_sublist)).nodup h
    · intro a ha b hb e
      obtain ⟨x, hx, rfl⟩ := List.mem_map.mp ha
      obtain ⟨y, hy, rfl⟩ := List.mem_map.mp hb
      have h1 := (flat_mem hx).2
      have h2 := (outs_u hy).2
      have : x.u = y.u := congrArg (·.1) e
      omega
/-- the residual edges -/
def rOf (I : Int) (e : Ed) : Int := match capO e with
  | some c => min c I
  | none => I
def k3 (e : Ed) : Nat × Nat × Option Int := (e.u, e.v, capO e)
def res3 (I : Int) (fl : List Ed) : List (Nat × Nat × Option Int) := fl.flatMap fun e => [(e.u, e.v, some (rOf I e)), (e.v, e.u, some 0)]
def KvC (e : Ed) : Prop := ∃ c t, e.kv = [(Str.ofString "capacity", Value.int c t)]
theorem res3_len (I : Int) : ∀ fl : List Ed, (res3 I fl).length = 2 * fl.length
  | [] => rfl
  | x :: fl => by
    have := res3_len I fl
    unfold res3 at this ⊢
    rw [List.flatMap_cons, List.length_append, this]
    simp only [List.length_cons, List.length_nil]
    omega
def ResOk (I : Int) (fl res : List Ed) : Prop := res.map k3 = res3 I fl ∧ ∀ e ∈ res, KvC e
theorem res_no {I : Int} {fl res : List Ed} (h : ResOk I fl res) {u v : Nat} (h1 : ∀ e ∈ fl, ¬(e.u = u ∧ e.v = v)) (h2 : ∀ e ∈ fl, ¬(e.v = u ∧ e.u = v)) : ∀ e ∈ res, ¬(e.u = u ∧ e.v = v) := by
  rintro e he ⟨rfl, rfl⟩
  have : k3 e ∈ res3 I fl := by rw [← h.1]; exact List.mem_map_of_mem he
  unfold res3 at this
  obtain ⟨x, hx, hm⟩ := List.mem_flatMap.mp this
  rcases List.mem_cons.mp hm with e1 | hm
  · have a1 : e.u = x.u := congrArg (·.1) e1
    have a2 : e.v = x.v := congrArg (·.2.1) e1
    exact h1 x hx ⟨a1.symm, a2.symm⟩
  · rcases List.mem_cons.mp hm with e1 | hm
    · have a1 : e.u = x.v := congrArg (·.1) e1
      have a2 : e.v = x.u := congrArg (·.2.1) e1
      exact h2 x hx ⟨a1.symm, a2.symm⟩
    · cases hm

section
variable {w : World} {A : Around} {B : Bs} {l l' : Ledger} {s : Shared} {mg mb : Str → Option Value} {K : Frag} {v : Value} {g rg : GA}

theorem min_cv {e : Ed} (h : KvOk e) {ti u : Tok} {I : Int} {Q : Value → Shared → Prop} (hh : A.handled = none) (H : St prog w B l s) (hq : ∀ t s', St prog w B l s' → Q (.int (rOf I e) t) s') : WP prog w A (call (.builtin "min") [cvOf ti e, .int I u]) Q s := by
  rcases cv_cases h ti with ⟨h1, _, h3⟩ | ⟨c, t, h1, _, h3, _⟩
  · rw [h1]
    refine min_fi hh H fun t s' H' => ?_
    have := hq t s' H'
    unfold rOf at this; rw [h3] at this; exact this
  · rw [h1]
    refine min2 hh H fun t s' H' => ?_
    have := hq t s' H'
    unfold rOf at this; rw [h3] at this; exact this

theorem b_loop {N : Nat} {nR aR pR : Nat → Addr} {L ci ck cc El : Addr} {ti tI : Tok} {I : Int} {ts : List Row} {u0 v0 r0 cv0 : Option Value} {Q : Flow → Shared → Prop} (R : Room A 12) (T : KP mg mb K B.h) (hN : N ≤ 100) (hts : ts.length ≤ 80) (hkv : ∀ r ∈ ts, KvOk r.e)
    (hlt : ∀ r ∈ ts, r.e.u < N ∧ r.e.v < N) (huv : ∀ r ∈ ts, r.e.u ≠ r.e.v) (hnd : (ts.map fun r => (r.e.u, r.e.v)).Nodup) (hanti : ∀ r ∈ ts, ∀ r' ∈ ts, ¬(r.e.u = r'.e.v ∧ r.e.v = r'.e.u))
    (H : St prog w B ((L, .ns (bF g.x rg.x u0 v0 (some (.ref El)) r0)) :: (ci, .cell (some (.int I tI))) :: (ck, .cell cv0) :: (El, .ls (rowsV ts)) :: (edgeT ti ts ++ (gl rg (mkG N nR aR pR []) [] ++ l))) s)
    (h : ∀ res u1 v1 r1 cv1 s', ResOk I (ts.map (·.e)) res → St prog w B ((L, .ns (bF g.x rg.x u1 v1 (some (.ref El)) r1)) :: (ci, .cell (some (.int I tI))) :: (ck, .cell cv1) :: (gl rg (mkG N nR aR pR res) [] ++ l)) s' → Q .next s') :
    WP prog w A (execs (match nthS (bodyS dBuild) 7 with | .If _ b _ _ => b | _ => []) (bEnv L ci ck cc)) Q s := by
  have F := fm_b L ci ck cc
  refine x_one (st := .For (.Tuple _ _ _) (.Name _ _) _ _ _) (x_for ?_)
  k_fold
  refine iter_list H (H.isl (vs := rowsV ts) (by tb_start)) ?_
  clear H; intro it s hne H
  have hrl : (rowsV ts).length = ts.length := by simp [rowsV]
  refine for_it (it_list R.none hne (fun l' => (El, .ls (rowsV ts)) ∈ l') fun l' s hm H => H.isl hm) (fun i l' => ∃ res u1 v1 r1 cv0, ResOk I ((ts.take i).map (·.e)) res ∧ l' = (L, .ns (bF g.x rg.x u1 v1 (some (.ref El)) r1)) :: (ci, .cell (some (.int I tI))) :: (ck, .cell cv0) :: (El, .ls (rowsV ts)) :: (edgeT ti ts ++ (gl rg (mkG N nR aR pR res) [] ++ l))) ?_ H ⟨[], _, _, _, _, ⟨rfl, fun e he => by cases he⟩, rfl⟩ ?_ ?_
  · rintro i l' ⟨res, u1, v1, r1, cv0, _, rfl⟩; tb_start
  · rintro i v ex l' s hi ⟨hv, rfl⟩ ⟨res, u1, v1, r1, cv0, hres, rfl⟩ H
    simp only [List.nil_append] at H
    rw [hrl] at hi
    obtain ⟨r, hr, rfl⟩ : ∃ r, ts[i]? = some r ∧ v = .ref r.q := by
      unfold rowsV at hv
      rw [List.getElem?_map, Option.map_eq_some_iff] at hv
      obtain ⟨r, hr, e⟩ := hv
      exact ⟨r, hr, e.symm⟩
    have hrm := List.mem_of_getElem? hr
    have hq : (r.q, .tp [.int r.e.u r.t, .int r.e.v r.t', cvOf ti r.e]) ∈ edgeT ti ts := List.mem_map.mpr ⟨r, hrm, rfl⟩
    have htk : ts.take (i + 1) = ts.take i ++ [r] := by rw [List.take_add_one, hr]; rfl
    have hlen : res.length ≤ 160 := by
      have h1 : res.length = (res.map k3).length := by rw [List.length_map]
      rw [h1, hres.1, res3_len, List.length_map, List.length_take]
      omega
    have hearl : ∀ e ∈ (ts.take i).map (·.e), ¬(e.u = r.e.u ∧ e.v = r.e.v) ∧ ¬(e.v = r.e.u ∧ e.u = r.e.v) := by
      intro e he
      obtain ⟨x, hx, rfl⟩ := List.mem_map.mp he
      obtain ⟨j, hj, hxj⟩ := List.getElem_of_mem hx
      rw [List.length_take] at hj
      rw [List.getElem_take] at hxj
      have hxm : x ∈ ts := List.mem_of_mem_take hx
      refine ⟨fun q => ?_, fun q => hanti r hrm x hxm ⟨q.1.symm, q.2.symm⟩⟩
      have hri := (List.getElem?_eq_some_iff.mp hr)
      obtain ⟨hil, hri⟩ := hri
      have n1 := List.pairwise_iff_getElem.mp hnd j i (by rw [List.length_map]; omega) (by rw [List.length_map]; exact hil) (by omega)
      apply n1
      rw [List.getElem_map, List.getElem_map, hri, hxj, q.1, q.2]
    refine assign_tup R.none H (t := r.q) (by tb_start) ?_
    clear H; intro s H
    refine ao_cons (wpAny_assign_Name ?_)
    k_upd
    refine ao_cons (wpAny_assign_Name ?_)
    k_upd
    refine ao_cons (wpAny_assign_Name ?_)
    refine st_cel F H (c := ck) (by tb_start) (by kernel_rfl) (by tb_rel) ?_
    clear H; intro s H
    refine ao_nil ?_
    refine x_cons (st := .Assign [.Name _ _] _ _) (wpAny_Assign_Name ?_)
    refine ev_call_name ?_
    refine ev_blt F H T.toTp (by tb_start) T.gb_min rfl (by decide) ?_
    refine call_pos ?_
    refine sp_cons ?_
    k_fold
    refine sp_cons ?_
    k_fold
    refine sp_nil ⟨keeps_blt, ?_⟩
    refine min_cv (hkv r hrm) R.none H ?_
    clear H; intro tr s H
    k_upd
    have hub := (hlt r hrm).1
    have hvb := (hlt r hrm).2
    have hno := res_no hres (u := r.e.u) (v := r.e.v) (fun e he => (hearl e he).1) (fun e he => (hearl e he).2)
    have hno2 := res_no hres (u := r.e.v) (v := r.e.u) (fun e he q => (hearl e he).2 ⟨q.2, q.1⟩) (fun e he q => (hearl e he).1 ⟨q.2, q.1⟩)
    refine x_one (st := .If _ _ _ _) (wpAny_If ?_)
    refine wpAny_isTrue_Not ?_
    refine wpAny_isTrue_value ?_
    refine ev_meth ?_
    k_fold
    intro pl
    refine gm_inst (T.X.keeps H.keep) (H.inst (kvs := gdict rg) (by tb_start) (by tb_start)) T.m_has_edge (by rfl) ?_
    refine call_pos ?_
    refine sp_cons ?_
    k_fold
    refine sp_cons ?_
    k_fold
    refine sp_nil ⟨(T.g_has_edge.keeps H.keep).keeper, call_of ?_⟩
    have m1 : (rg.ad, .dI (rows aR N)) ∈ gl rg (mkG N nR aR pR res) [] := g_ad
    have m2 : (aR r.e.u, .dI (scOf res r.e.u)) ∈ gl rg (mkG N nR aR pR res) [] := g_aA (S := mkG N nR aR pR res) hub
    refine c_has_edge (a := rg) (R.less (by decide)) T H (by tb_start) (by tb_start) (ra := rows aR N) (by tb_start) (rows_at hub) (sc := scOf res r.e.u) (by tb_start) ?_
    clear H; intro s H
    rw [valueAt_none (scOf_no hno)]
    refine wpAny_truthy_bool ?_
    rw [if_pos (by rfl)]
    refine x_cons (st := .Expr _ _) (wpAny_Expr_any ?_)
    refine ev_meth ?_
    k_fold
    intro pl
    refine gm_inst (T.X.keeps H.keep) (H.inst (kvs := gdict rg) (by tb_start) (by tb_start)) T.m_add_edge (by rfl) ?_
    refine call_kwP ?_
    refine sp_cons ?_
    k_fold
    refine sp_cons ?_
    k_fold
    refine sp_nil ?_
    refine kw_cons ?_
    k_fold
    refine kw_nil ⟨(T.f_add_edge.keeps H.keep).keeper, call_of ?_⟩
    refine c_add_edge1 (a := rg) (c := .int (rOf I r.e) tr) (N := N) (nA := nR) (aA := aR) (pA := pR) (es := res) (ga := []) (l := (it, soList El (i + 1)) :: (L, .ns (bF g.x rg.x (some (.int r.e.u r.t)) (some (.int r.e.v r.t')) (some (.ref El)) (some (.int (rOf I r.e) tr)))) :: (ci, .cell (some (.int I tI))) :: (ck, .cell (some (cvOf ti r.e))) :: (El, .ls (rowsV ts)) :: (edgeT ti ts ++ l)) (R.less (by decide)) T hub hvb hN (by omega) hno (H.sel (by k_sub)) ?_
    clear H; intro d1 s H
    refine x_one (st := .Expr _ _) (wpAny_Expr_any ?_)
    refine ev_meth ?_
    k_fold
    intro pl
    refine gm_inst (T.X.keeps H.keep) (H.inst (kvs := gdict rg) (by tb_start) (by tb_start)) T.m_add_edge (by rfl) ?_
    refine call_kwP ?_
    refine sp_cons ?_
    k_fold
    refine sp_cons ?_
    k_fold
    refine sp_nil ?_
    refine kw_cons ?_
    refine ev_int H ?_
    clear H; intro t0 s H
    refine kw_nil ⟨(T.f_add_edge.keeps H.keep).keeper, call_of ?_⟩
    have hno3 : ∀ e ∈ res ++ [⟨r.e.u, r.e.v, d1, [(Str.ofString "capacity", .int (rOf I r.e) tr)]⟩], ¬(e.u = r.e.v ∧ e.v = r.e.u) := by
      intro e he
      rcases List.mem_append.mp he with he | he
      · exact hno2 e he
      · rw [List.mem_singleton] at he
        subst he
        intro q
        exact huv r hrm q.1
    refine c_add_edge1 (a := rg) (c := .int 0 t0) (N := N) (nA := nR) (aA := aR) (pA := pR) (ga := []) (l := (it, soList El (i + 1)) :: (L, .ns (bF g.x rg.x (some (.int r.e.u r.t)) (some (.int r.e.v r.t')) (some (.ref El)) (some (.int (rOf I r.e) tr)))) :: (ci, .cell (some (.int I tI))) :: (ck, .cell (some (cvOf ti r.e))) :: (El, .ls (rowsV ts)) :: (edgeT ti ts ++ l)) (R.less (by decide)) T hvb hub hN (by rw [List.length_append]; simp; omega) hno3 H ?_
    clear H; intro d2 s H
    refine ⟨_, ⟨res ++ [⟨r.e.u, r.e.v, d1, [(Str.ofString "capacity", .int (rOf I r.e) tr)]⟩] ++ [⟨r.e.v, r.e.u, d2, [(Str.ofString "capacity", .int 0 t0)]⟩], some (.int r.e.u r.t), some (.int r.e.v r.t'), some (.int (rOf I r.e) tr), some (cvOf ti r.e), ?_, rfl⟩, H.sel ?_⟩
    rotate_left
    · k_sub
    · refine ⟨?_, fun e he => ?_⟩
      · rw [List.map_append, List.map_append, hres.1, htk, List.map_append]
        unfold res3
        rw [List.flatMap_append]
        simp [k3, capO]
      · rcases List.mem_append.mp he with he | he
        · rcases List.mem_append.mp he with he | he
          · exact hres.2 e he
          · rw [List.mem_singleton] at he; subst he; exact ⟨_, _, rfl⟩
        · rw [List.mem_singleton] at he; subst he; exact ⟨_, _, rfl⟩
  · rintro l' s ⟨res, u1, v1, r1, cv1, hres, rfl⟩ H
    rw [hrl, List.take_length] at hres
    refine x_nil (h res u1 v1 r1 cv1 s hres (H.sel (by k_sub)))
end
end Mine

-- MC17
namespace Mine
open PySem PySem.W PySem.Calls PyProof.Rows Builtin Builtin.ObjectAttr

local macro_rules | `(tactic| tb_start) => `(tactic| first | with_reducible exact List.mem_cons_self | with_reducible assumption | (with_reducible apply List.mem_cons_of_mem; tb_start) | (with_reducible apply List.mem_append_left; tb_start) | (with_reducible apply List.mem_append_right; tb_start) | with_reducible exact g_x | with_reducible exact g_dx | with_reducible exact g_gr | with_reducible exact g_nd | with_reducible exact g_ad | with_reducible exact g_pr)
local macro_rules | `(tactic| tb_rel) => `(tactic| first | with_reducible exact Upd1.head | with_reducible exact Put.head | (with_reducible apply Upd1.tail; tb_rel) | (with_reducible apply Put.tail; tb_rel) | (with_reducible apply Upd1.right; tb_rel) | (with_reducible apply Upd1.append; tb_rel))
local macro_rules | `(tactic| k_ne) => `(tactic| first | (with_reducible apply Apart.head; tb_start) | (with_reducible apply Apart.head'; tb_start) | (with_reducible apply Apart.tail; k_ne))
local macro_rules | `(tactic| k_same) => `(tactic| first | with_reducible exact Split.head | (with_reducible apply Split.tail; k_same) | (with_reducible apply Split.skip; k_same))
local macro_rules | `(tactic| k_same2) => `(tactic| first | with_reducible exact SplitL.head | with_reducible exact SplitL.last | (with_reducible apply SplitL.tail; k_same2) | (with_reducible apply SplitL.skip; k_same2))
local macro_rules | `(tactic| k_sub) => `(tactic| first | with_reducible exact Sel.nil | with_reducible exact Sel.all | (with_reducible refine Sel.cons (by k_same) ?_; k_sub) | (with_reducible refine Sel.app (by k_same2) ?_; k_sub) | (with_reducible exact Sel.one (by k_same2)))
set_option hygiene false in
local macro_rules | `(tactic| k_flat) => `(tactic| simp only [frameOf, List.map_cons, List.map_nil, List.cons_append, List.nil_append, List.append_nil] at H)
set_option hygiene false in
local macro_rules | `(tactic| tb_lt) => `(tactic| first
  | (with_reducible refine ev_loc F H (by tb_start) (by tb_start) (by tb_start) ?_)
  | (with_reducible refine ev_int H ?_; clear H; intro _ s H)
  | (with_reducible refine ev_str H ?_; clear H; intro _ s H)
  | (with_reducible refine ev_none ?_)
  | (with_reducible refine ev_bool ?_)
  | (with_reducible refine ev_cel F H (by tb_start) (by tb_start) ?_)
  | (with_reducible refine Attribute_any_ ?_)
  | (with_reducible refine Subscript_ ?_)
  | (with_reducible refine wpAny_BinOp ?_)
  | (with_reducible refine wpAny_Compare1 ?_)
  | ((with_reducible show wpAny _ _ (getAttr _ _ _) _ _ _); refine at_own H T.X (H.inst (by tb_start) (by tb_start)) T.o__adj_395 (by rfl) (by rfl) ?_; clear H; intro s H)
  | ((with_reducible show wpAny _ _ (getAttr _ _ _) _ _ _); refine at_own H T.X (H.inst (by tb_start) (by tb_start)) T.o__node_395 (by rfl) (by rfl) ?_; clear H; intro s H)
  | ((with_reducible show wpAny _ _ (getAttr _ _ _) _ _ _); refine at_own H T.X (H.inst (by tb_start) (by tb_start)) T.o__pred_395 (by rfl) (by rfl) ?_; clear H; intro s H)
  | ((with_reducible show wpAny _ _ (getAttr _ _ _) _ _ _); refine at_own H T.X (H.inst (by tb_start) (by tb_start)) T.o_graph_395 (by rfl) (by rfl) ?_; clear H; intro s H))
set_option hygiene false in
local macro_rules | `(tactic| k_upd) => `(tactic| (refine st_loc2 F H (by tb_start) (by tb_start) (by tb_rel) (by tb_rel) ?_; clear H; intro s H))
set_option hygiene false in
local macro_rules | `(tactic| k_fold) => `(tactic| (repeat tb_lt))

theorem cs3 {cs : List (Str × Addr)} {x y z : Str} (h : cs.map (·.1) = [x, y, z]) : ∃ c d e, cs = [(x, c), (y, d), (z, e)] := by
  match cs, h with
  | [(x', c), (y', d), (z', e)], h => simp only [List.map_cons, List.map_nil, List.cons.injEq, and_true] at h; exact ⟨c, d, e, by rw [h.1, h.2.1, h.2.2]⟩
section
variable {w : World} {A : Around} {B : Bs} {l l' : Ledger} {s : Shared} {mg mb : Str → Option Value} {K : Frag} {v : Value} {g rg : GA}

/-- what the walks ask of the given graph's edges -/
structure EsOk (N : Nat) (es : List Ed) : Prop where
  n : N ≤ 40
  len : es.length ≤ 80
  kv : ∀ e ∈ es, KvOk e
  uv : ∀ e ∈ es, e.u ≠ e.v
  lt : ∀ e ∈ es, e.u < N ∧ e.v < N
  nd : (es.map fun e => (e.u, e.v)).Nodup
  anti : ∀ e ∈ es, ∀ e' ∈ es, ¬(e.u = e'.v ∧ e.v = e'.u)
theorem flat_len {N : Nat} {es : List Ed} : ∀ N, (flat es N).length ≤ es.length := by
  intro N
  have key : ∀ N, (flat es N).length = (es.filter fun e => decide (e.u < N)).length := by
    intro N
    induction N with
    | zero =>
      have : (es.filter fun e => decide (e.u < 0)) = [] := List.filter_eq_nil_iff.mpr fun e _ => by simp
      rw [this]; rfl
    | succ N ih =>
      rw [flat_succ, List.length_append, ih]
      unfold outs
      clear ih
      induction es with
      | nil => rfl
      | cons x es ih =>
        by_cases h1 : x.u < N
        · have h2 : (x.u == N) = false := beq_eq_false_iff_ne.mpr (by omega)
          have h3 : x.u < N + 1 := by omega
          simp only [List.filter_cons, h1, h2, h3, decide_true, if_true, List.length_cons, Bool.false_eq_true, if_false]
          omega
        · by_cases h2 : x.u = N
          · have h3 : x.u < N + 1 := by omega
            simp only [List.filter_cons, h1, h2, h3, decide_true, decide_false, if_true, List.length_cons, Bool.false_eq_true, if_false, beq_self_eq_true]
            simp only [Nat.lt_irrefl, decide_false, Bool.false_eq_true, if_false, Nat.lt_succ_self, decide_true, if_true, List.length_cons]
            omega
          · have h3 : ¬ x.u < N + 1 := by omega
            have h4 : (x.u == N) = false := beq_eq_false_iff_ne.mpr h2
            simp only [List.filter_cons, h1, h3, h4, decide_false, Bool.false_eq_true, if_false]
            exact ih
  rw [key]
  exact List.length_filter_le _ _
def GS.snd (S : GS) (y : SO) : GS := ⟨S.N, S.nA, S.aA, S.pA, y, S.ad, S.sc, S.pd, S.at_⟩
def GS.sad (S : GS) (y : SO) : GS := ⟨S.N, S.nA, S.aA, S.pA, S.nd, y, S.sc, S.pd, S.at_⟩
theorem u_snd {S : GS} {a : GA} {ga : List (Str × Value)} {y z : SO} : Upd1 a.nd y z (gl a (S.snd y) ga) (gl a (S.snd z) ga) := .tail (.tail (.tail .head))
theorem u_sad {S : GS} {a : GA} {ga : List (Str × Value)} {y z : SO} : Upd1 a.ad y z (gl a (S.sad y) ga) (gl a (S.sad z) ga) := .tail (.tail (.tail (.tail .head)))
def capE (es : List Ed) (N : Nat) : List Ed := (flat es N).filter posC

theorem c_build {N : Nat} {nA aA pA : Nat → Addr} {es : List Ed} {tc : Tok} {Q : Value → Shared → Prop} (R : Room A 24) (T : KP mg mb K B.h) (E : EsOk N es)
    (H : St prog w B ((404, .raw (tabObj #[])) :: (399, .raw (tabObj #[])) :: (gl g (mkG N nA aA pA es) [] ++ l)) s)
    (h : ∀ rg nR aR pR res c1 c2 t s', ResOk (infOf (capE es N)) (capE es N) res → St prog w B ((404, .raw (tabObj (capPs c1))) :: (399, .raw (tabObj (genPs c2))) :: (gl rg (mkG N nR aR pR res) [("inf", .int (infOf (capE es N)) t)] ++ (gl g (mkG N nA aA pA es) [] ++ l))) s' → Q (.ref rg.x) s') :
    WC prog w A (.ref 402) [.ref g.x, .str "capacity" tc] [] Q s := by
  refine call_cells ["G"] ["capacity"] ["R", "u", "v", "edge_list", "r"] ["inf", "cap", "capacity"] R T.nolimit (T.p_build.keeps H.keep) (by kernel_rfl) fun name doc pm an ct => ?_
  refine wpAny_of_eq (a := ([("G", .ref g.x), ("capacity", .str "capacity" tc)] : List (Str × Value))) (by kernel_rfl) ?_
  refine ⟨_, [("G", .ref g.x)], [("capacity", .str "capacity" tc)], [none, none, some (.str "capacity" tc)], H, by kernel_rfl, by kernel_rfl, rfl, rfl, by kernel_rfl, fun L cs s hcs H => ?_⟩
  obtain ⟨ci, ck, cc, rfl⟩ := cs3 hcs
  have F := fm_b L ci ck cc
  have R1 := Room.deeper (env := bEnv L ci ck cc) (n := 23) R
  unfold cellsOf cellsOf cellsOf cellsOf at H
  k_flat
  show WP prog w (A.deeper (bEnv L ci ck cc)) (execs (bodyS dBuild) (bEnv L ci ck cc)) _ s
  -- if G.is_multigraph()
  refine x_cons (st := .If _ _ _ _) (wpAny_If ?_)
  refine wpAny_isTrue_value ?_
  refine ev_meth ?_
  k_fold
  intro pl
  refine gm_inst (T.X.keeps H.keep) (H.inst (kvs := gdict g) (by tb_start) (by tb_start)) T.m_is_multigraph (by rfl) ?_
  refine call_pos0 (T.g_is_multigraph.keeps H.keep).keeper (call_of ?_)
  refine c_is_multigraph (R1.less (by decide)) T H ?_
  clear H; intro s H
  refine wpAny_truthy_bool ?_
  rw [if_neg (by decide)]
  refine x_nil ?_
  -- R = DiGraph()
  refine x_cons (st := .Assign [.Name _ _] _ _) (wpAny_Assign_Name ?_)
  refine ev_call_name ?_
  refine ev_glo F H T.toTp (by tb_start) T.gl_DiGraph ?_
  refine call_pos0 (keeps_cls (T.X.keeps H.keep) T.clsD395 T.clsC395) (call_of ?_)
  refine c_digraph (R1.less (by decide)) T H ?_
  clear H; intro rg s H
  k_upd
  -- R.add_nodes_from(G)
  refine x_cons (st := .Expr _ _) (wpAny_Expr_any ?_)
  refine ev_meth ?_
  k_fold
  intro pl
  refine gm_inst (T.X.keeps H.keep) (H.inst (kvs := gdict rg) (by tb_start) (by tb_start)) T.m_add_nodes_from (by rfl) ?_
  refine call_pos ?_
  refine sp_cons ?_
  k_fold
  refine sp_nil ⟨(T.g_add_nodes_from.keeps H.keep).keeper, call_of ?_⟩
  let fr : List (Str × Option Value) := bF g.x rg.x none none none none
  have H1 : St prog w B (gl rg (mkG 0 (fun _ => 0) (fun _ => 0) (fun _ => 0) []) [] ++ ((L, .ns (bF g.x rg.x none none none none)) :: (ci, .cell none) :: (ck, .cell none) :: (cc, .cell (some (.str "capacity" tc))) :: (404, .raw (tabObj #[])) :: (399, .raw (tabObj #[])) :: (gl g ((mkG N nA aA pA es).snd (.dI (rows nA N))) [] ++ l))) s := H
  clear H
  obtain ⟨ep, H⟩ := H1.open_dI (a := g.nd) (kvs := rows nA N) (lf := fun y => gl rg (mkG 0 (fun _ => 0) (fun _ => 0) (fun _ => 0) []) [] ++ ((L, .ns (bF g.x rg.x none none none none)) :: (ci, .cell none) :: (ck, .cell none) :: (cc, .cell (some (.str "capacity" tc))) :: (404, .raw (tabObj #[])) :: (399, .raw (tabObj #[])) :: (gl g ((mkG N nA aA pA es).snd y) [] ++ l))) fun y => by
    refine Upd1.right ?_ _
    exact .tail (.tail (.tail (.tail (.tail (.tail (u_snd.append _))))))
  clear H1
  refine c_add_nodes (a := rg) (ga := []) (N := N) (ri := .ref g.x) (so := soKeys g.nd N ep) (ok := fun l' => (g.nd, .dE (rows nA N) ep) ∈ l') (P := fun i v ex => (∃ k x t, (rows nA N)[i]? = some (k, x) ∧ v = .int k t) ∧ ex = []) (R1.less (by decide)) T (Nat.le_trans E.n (by decide)) H ?_ ?_ ?_ ?_
  · intro A' l1 s1 Q1 R' H1 hQ
    have e1 : (g.x, .raw (instObj 395 g.dx)) ∈ gl g ((mkG N nA aA pA es).snd (.dE (rows nA N) ep)) [] := g_x
    have e2 : (g.dx, .dS (gdict g)) ∈ gl g ((mkG N nA aA pA es).snd (.dE (rows nA N) ep)) [] := g_dx
    have e3 : (g.nd, .dE (rows nA N) ep) ∈ gl g ((mkG N nA aA pA es).snd (.dE (rows nA N) ep)) [] := g_nd (S := (mkG N nA aA pA es).snd (.dE (rows nA N) ep))
    refine iter_inst (C := 395) (kvs := gdict g) (f := 171) (T.X.keeps H1.keep) (H1.inst (by tb_start) (by tb_start)) T.sp_iter T.fn171 ?_
    refine call_of ?_
    refine c_iter (a := g) (kvs := rows nA N) (ep := ep) (R'.less (by decide)) T H1 (by tb_start) (by tb_start) (by tb_start) ?_
    clear H1; intro it s2 H2
    refine ⟨"dict_keyiterator", _, ?_, PySem.F.slot_dict_keyiterator_next.lookup, ?_⟩
    · obtain ⟨o, ho, h1, _⟩ := H2.get (.head _)
      exact ⟨o, ho, h1⟩
    · rw [rows_len] at H2
      refine hQ it s2 (fun t => ?_) H2
      have hne : g.nd ≠ it := (H2.apart (.head' (by tb_start : (g.nd, SO.dE (rows nA N) ep) ∈ _)))
      have I := it_keys (prog := prog) (w := w) (B := B) (target := t) (it := it) (kvs := rows nA N) (ep := ep) R'.none hne (fun l' => (g.nd, .dE (rows nA N) ep) ∈ l') fun l s hm H => H.dE hm
      rw [rows_len] at I
      exact I
  · intro l'
    have e3 : (g.nd, .dE (rows nA N) ep) ∈ gl g ((mkG N nA aA pA es).snd (.dE (rows nA N) ep)) [] := g_nd (S := (mkG N nA aA pA es).snd (.dE (rows nA N) ep))
    show (g.nd, SO.dE (rows nA N) ep) ∈ _
    tb_start
  · rintro i v ex ⟨⟨k, x, t, hk, rfl⟩, rfl⟩
    refine ⟨t, ?_, rfl⟩
    unfold rows at hk
    rw [List.getElem?_map, Option.map_eq_some_iff] at hk
    obtain ⟨j, hj, e⟩ := hk
    have hlt := (List.getElem?_eq_some_iff.mp hj).1
    rw [List.length_range] at hlt
    rw [List.getElem?_range hlt] at hj
    cases hj; cases e; rfl
  clear H; intro nR aR pR s H
  have H2 := H.shut_dI (a := g.nd) (kvs := rows nA N) (ep := ep) (l' := gl rg (mkG N nR aR pR []) [] ++ ((L, .ns (bF g.x rg.x none none none none)) :: (ci, .cell none) :: (ck, .cell none) :: (cc, .cell (some (.str "capacity" tc))) :: (404, .raw (tabObj #[])) :: (399, .raw (tabObj #[])) :: (gl g ((mkG N nA aA pA es).snd (.dI (rows nA N))) [] ++ l))) (by
    refine Upd1.right ?_ _
    exact .tail (.tail (.tail (.tail (.tail (.tail (u_snd.append _)))))))
  clear H
  have H : St prog w B (gl rg (mkG N nR aR pR []) [] ++ ((L, .ns (bF g.x rg.x none none none none)) :: (ci, .cell none) :: (ck, .cell none) :: (cc, .cell (some (.str "capacity" tc))) :: (404, .raw (tabObj #[])) :: (399, .raw (tabObj #[])) :: (gl g (mkG N nA aA pA es) [] ++ l))) s := H2
  clear H2
  -- capacity = _capacity_function(G, capacity)
  refine x_cons (st := .Assign [.Name _ _] _ _) (wpAny_Assign_Name ?_)
  refine ev_call_name ?_
  refine ev_glo F H T.toTp (by tb_start) T.gl__capacity_function ?_
  refine call_pos ?_
  refine sp_cons ?_
  k_fold
  refine sp_cons ?_
  k_fold
  refine sp_nil ⟨(T.p_cap.keeps H.keep).keeper, call_of ?_⟩
  refine c_capfn (lf := fun y => gl rg (mkG N nR aR pR []) [] ++ ((L, .ns (bF g.x rg.x none none none none)) :: (ci, .cell none) :: (ck, .cell none) :: (cc, .cell (some (.str "capacity" tc))) :: (404, y) :: (399, .raw (tabObj #[])) :: (gl g (mkG N nA aA pA es) [] ++ l))) (R1.less (by decide)) T (fun y z => Upd1.right (.tail (.tail (.tail (.tail .head)))) _) H ?_
  clear H; intro f cp cn c1 tn s H
  refine st_cel F H (c := cc) (by tb_start) (by kernel_rfl) (by tb_rel) ?_
  clear H; intro s H
  -- edge_list
  have H : St prog w B ((L, .ns (bF g.x rg.x none none none none)) :: (ck, .cell none) :: (gl g (mkG N nA aA pA es) [] ++ ((ci, .cell none) :: (cc, .cell (some (.ref f))) :: (f, soCapLam cp cn c1) :: (c1, soCode capQ) :: (cn, .cell (some (.float infBits tn))) :: (cp, .cell (some (.str "capacity" tc))) :: (404, .raw (tabObj (capPs c1))) :: (399, .raw (tabObj #[])) :: (gl rg (mkG N nR aR pR []) [] ++ l)))) s := H.sel (by k_sub)
  refine x_cons (st := nthS (bodyS dBuild) 4) ?_
  refine b_comp (g := g) (cp := cp) (cn := cn) (c' := c1) (f := f) (tc := tc) (ti := tn) (R1.less (by decide)) T (Nat.le_trans E.n (by decide)) (Nat.le_trans E.len (by decide)) E.kv E.uv (by tb_start) (by tb_start) (by tb_start) (by tb_start) (by tb_start) H ?_
  clear H; intro El ts cv1 s hts H
  -- inf = float('inf')
  refine x_cons (st := .Assign [.Name _ _] _ _) (wpAny_Assign_Name ?_)
  refine ev_call_name ?_
  refine ev_blt F H T.toTp (by tb_start) T.gb_float rfl (by decide) ?_
  refine call_pos ?_
  refine sp_cons ?_
  k_fold
  refine sp_nil ⟨keeps_type, ?_⟩
  refine float_inf H ?_
  clear H; intro tj s H
  refine st_cel F H (c := ci) (by tb_start) (by kernel_rfl) (by tb_rel) ?_
  clear H; intro s H
  -- inf = 3 * sum(..) or 1
  have htm : ∀ r ∈ ts, r.e ∈ capE es N := fun r hr => by unfold capE; rw [← hts]; exact List.mem_map_of_mem hr
  have htes : ∀ r ∈ ts, r.e ∈ es := fun r hr => (flat_mem (List.mem_filter.mp (htm r hr)).1).1
  have htl : ts.length ≤ 80 := by
    have h1 : ts.length = (ts.map (·.e)).length := by rw [List.length_map]
    rw [h1, hts]
    exact Nat.le_trans (List.length_filter_le _ _) (Nat.le_trans (flat_len (N := N) N) E.len)
  refine x_cons (st := .Assign [.Name _ _] _ _) (wpAny_Assign_Name ?_)
  refine BoolOp_or ?_
  refine wpAny_BinOp ?_
  refine ev_int H ?_
  clear H; intro t3 s H
  have H : St prog w B ((L, .ns (bF g.x rg.x none none (some (.ref El)) none)) :: (ci, .cell (some (.float infBits tj))) :: (El, .ls (rowsV ts)) :: (399, .raw (tabObj #[])) :: (edgeT tn ts ++ ((ck, .cell cv1) :: (404, .raw (tabObj (capPs c1))) :: (gl g (mkG N nA aA pA es) [] ++ (gl rg (mkG N nR aR pR []) [] ++ l))))) s := H.sel (by k_sub)
  refine b_gen (ts := ts) (El := El) (ti := tn) (tj := tj) (fr := bF g.x rg.x none none (some (.ref El)) none) (F0 := []) (lf := fun y => (L, .ns (bF g.x rg.x none none (some (.ref El)) none)) :: (ci, .cell (some (.float infBits tj))) :: (El, .ls (rowsV ts)) :: (399, y) :: (edgeT tn ts ++ ((ck, .cell cv1) :: (404, .raw (tabObj (capPs c1))) :: (gl g (mkG N nA aA pA es) [] ++ (gl rg (mkG N nR aR pR []) [] ++ l))))) (R1.less (by decide)) T (by omega) (fun r hr => E.kv _ (htes r hr)) (by tb_start) (fun y z => by tb_rel) (fun y => by tb_start) (fun y => by tb_start) (fun y => by tb_start) (fun y p hp => by tb_start) H ?_
  clear H; intro tS c2 s H
  rw [hts]
  refine op_mul H ?_ (hm := IntMulOk.of_left (by decide))
  clear H; intro tm s H
  refine PyProof.Rows.truthy_int ?_
  suffices fin : ∀ tI s, St prog w B ((L, .ns (bF g.x rg.x none none (some (.ref El)) none)) :: (ci, .cell (some (.float infBits tj))) :: (El, .ls (rowsV ts)) :: (399, .raw (tabObj (genPs c2))) :: (edgeT tn ts ++ ((ck, .cell cv1) :: (404, .raw (tabObj (capPs c1))) :: (gl g (mkG N nA aA pA es) [] ++ (gl rg (mkG N nR aR pR []) [] ++ l))))) s →
      WP prog w (A.deeper (bEnv L ci ck cc)) (storeName (bEnv L ci ck cc) (Str.ofString "inf") (.int (infOf (capE es N)) tI)) (fun _ => Nx (fun s' => WP prog w (A.deeper (bEnv L ci ck cc)) (execs ((bodyS dBuild).drop 7) (bEnv L ci ck cc)) (fun fl s' => Q (retv fl) s') s') (fun fl s' => Q (retv fl) s') .next) s by
    by_cases hz : 3 * finS (capE es N) = 0
    · have e1 : (3 * finS (List.filter posC (flat es N)) != 0) = false := by simpa [capE] using hz
      rw [e1, if_neg (by decide)]
      refine BoolOp_one ?_
      refine ev_int H ?_
      clear H; intro t1 s H
      have := fin t1 s H
      unfold infOf at this
      rw [if_pos hz] at this
      exact this
    · have e1 : (3 * finS (List.filter posC (flat es N)) != 0) = true := by simpa [capE] using hz
      rw [e1, if_pos rfl]
      have := fin tm s H
      unfold infOf at this
      rw [if_neg hz] at this
      exact this
  clear H
  intro tI s H
  refine st_cel F H (c := ci) (by tb_start) (by kernel_rfl) (by tb_rel) ?_
  clear H; intro s H
  -- the loop
  show WP _ _ _ (execs ((bodyS dBuild).drop 7) (bEnv L ci ck cc)) _ _
  refine x_cons (st := .If _ _ _ _) (wpAny_If ?_)
  refine wpAny_isTrue_value ?_
  refine ev_meth ?_
  k_fold
  intro pl
  refine gm_inst (T.X.keeps H.keep) (H.inst (kvs := gdict g) (by tb_start) (by tb_start)) T.m_is_directed (by rfl) ?_
  refine call_pos0 (T.f_is_directed.keeps H.keep).keeper (call_of ?_)
  refine c_is_directed (R1.less (by decide)) T H ?_
  clear H; intro s H
  refine wpAny_truthy_bool ?_
  rw [if_pos (by rfl)]
  have hnd : (ts.map fun r => (r.e.u, r.e.v)).Nodup := by
    have h1 : (ts.map fun r => (r.e.u, r.e.v)) = (ts.map (·.e)).map fun e => (e.u, e.v) := by rw [List.map_map]; rfl
    rw [h1, hts]
    exact (List.Sublist.map _ List.filter_sublist).nodup (flat_nodup E.nd N)
  refine b_loop (g := g) (rg := rg) (N := N) (nR := nR) (aR := aR) (pR := pR) (ts := ts) (El := El) (ti := tn) (tI := tI) (I := infOf (capE es N)) (ck := ck) (cv0 := cv1) (l := (399, .raw (tabObj (genPs c2))) :: (404, .raw (tabObj (capPs c1))) :: (gl g (mkG N nA aA pA es) [] ++ l)) (R1.less (by decide)) T (Nat.le_trans E.n (by decide)) htl (fun r hr => E.kv _ (htes r hr)) (fun r hr => E.lt _ (htes r hr)) (fun r hr => E.uv _ (htes r hr)) hnd (fun r hr r' hr' => E.anti _ (htes r hr) _ (htes r' hr')) (H.sel (by k_sub)) ?_
  clear H; intro res u1 v1 r1 cv2 s hres H
  -- R.graph['inf'] = inf; return R
  refine x_cons (st := .Assign [.Subscript _ _ _] _ _) (wpAny_Assign_Subscript ?_)
  k_fold
  refine set_dS (kvs := []) H (by decide) (.tail (.tail (.tail (u_gr.append _)))) ?_
  clear H; intro s H
  refine x_one (st := .Return _ _) (wpAny_Return_some ?_)
  k_fold
  refine h rg nR aR pR res c1 c2 tI s (by rw [hts] at hres; exact hres) ?_
  have H : St prog w B ((L, .ns (bF g.x rg.x u1 v1 (some (.ref El)) r1)) :: (ci, .cell (some (.int (infOf (capE es N)) tI))) :: (ck, .cell cv2) :: (gl rg (mkG N nR aR pR res) [("inf", .int (infOf (capE es N)) tI)] ++ ((399, .raw (tabObj (genPs c2))) :: (404, .raw (tabObj (capPs c1))) :: (gl g (mkG N nA aA pA es) [] ++ l)))) s := H
  exact H.sel (by k_sub)
end
end Mine

-- MB18
namespace Mine
open PySem PySem.W PySem.Calls PyProof.Rows Builtin Builtin.ObjectAttr

section
variable {prog : Program} {w : World} {A : Around} {B : Bs} {l l' : Ledger} {s : Shared} {env : Env} {a it : Addr} {v : Value} {vs : List Value} {i : Nat}

theorem call_iter_list {Q : Value → Shared → Prop} (H : St prog w B l s) (hm : (a, .ls vs) ∈ l) (h : ∀ it s', a ≠ it → St prog w B ((it, soList a 0) :: l) s' → Q (.ref it) s') : WP prog w A (call (.builtin "iter") [.ref a]) Q s := by
  refine Calls.call_function_entry (by decide +kernel) (by decide +kernel) kdk_entry_iter (kdk_args_iter _) ?_
  unfold Builtin.«iter»
  refine wpAny_bind (m := someArgs "iter" 1 2 _) (wpAny_of_eq (a := [Value.ref a]) (by first | rfl | kernel_rfl!) ?_)
  show wpAny _ _ (pyIter (.ref a) >>= _) _ _ _
  refine wpAny_bind (iter_list H (H.isl hm) fun it s hne H => ?_)
  exact wpAny_pure ⟨_, rfl, h it s hne H⟩
theorem call_next_list {Q : Value → Shared → Prop} (H : St prog w B ((it, soList a i) :: l) s) (hm : (a, .ls vs) ∈ l) (hv : vs[i]? = some v) (h : ∀ s', St prog w B ((it, soList a (i + 1)) :: l) s' → Q v s') : WP prog w A (call (.builtin "next") [.ref it]) Q s := by
  obtain ⟨o, ho, hc, hd⟩ := H.get (.head _)
  have hit : s.heap.IsListIter it a i := ⟨o, ho, hc, hd⟩
  obtain ⟨ol, hol, hcl, nl, hdl⟩ := H.isl (.tail _ hm)
  refine Calls.call_function_entry (by decide +kernel) (by decide +kernel) kdk_entry_next (kdk_args_next _) ?_
  unfold Builtin.«next»
  refine wpAny_bind (m := someArgs "next" 1 2 _) (wpAny_of_eq (a := [Value.ref it]) (by first | rfl | kernel_rfl!) ?_)
  dsimp only
  refine wpAny_bind (wpAny_specialOf (name := Str.ofString "__next__") hit.typeIs slot_listiter_next.lookup ?_)
  refine wpAny_ite_split (fun hab => absurd hab (by decide)) (fun _ => ?_)
  refine wpAny_bind (wpAny_callSpecial?_slot (name := Str.ofString "__next__") hit.typeIs slot_listiter_next (wpAny_call_entry slot_listiter_next hit.typeIs entry_listiter_next ?_ (args_listiter_next _)))
  show wpAny _ _ (field (.ref it) 0 >>= _) _ _ s
  refine wpAny_bind (wpAny_field ho hd (x := .ref a) rfl ?_)
  show wpAny _ _ (if (Value.ref a == Value.none) = true then _ else _) _ _ s
  rw [if_neg (show ¬ ((Value.ref a == Value.none) = true) from Bool.false_ne_true)]
  show wpAny _ _ (field (.ref it) 1 >>= _) _ _ s
  refine wpAny_bind (wpAny_field ho hd (x := .int i 0) rfl ?_)
  show wpAny _ _ (seqItems? (.ref a) >>= _) _ _ s
  refine wpAny_bind (wpAny_seqItems hol hdl ?_)
  have hx : vs.toArray[i]? = some v := by simpa using hv
  simp only [Int.toNat_natCast, hx]
  refine wpAny_bind (wpAny_setField ho hd (by simp) (wpAny_pure ⟨v, rfl, ?_⟩))
  refine wpAny_pure ⟨_, rfl, h _ (H.same (t := s.toks) .head (Heap.SameBut.update ..) ?_)⟩
  exact ⟨_, Heap.get?_update_self _ ho (Obj.isFreed_of_fields (Obj.data_mapFields hd _)), (Obj.cls_mapFields ..).trans hc, by
    rw [Obj.data_mapFields hd]; simp [rawInt]⟩
/-- an iterator already under way -/
theorem It.shift {target : Expr} {n : Nat} {so : Nat → SO} {ok : Ledger → Prop} {P : Nat → Value → Ledger → Prop} (I : It prog w A B target it (n + 1) so ok P) : It prog w A B target it n (fun i => so (i + 1)) ok (fun i v ex => P (i + 1) v ex) where
  item := fun i l s Q hi ho H hQ => I.item (i + 1) l s Q (by omega) ho H hQ
  done := fun l s Q ho H hQ => I.done l s Q ho H hQ
end
end Mine

-- MD1
namespace Mine
open PySem PySem.W PySem.Calls PyProof.Rows Builtin Builtin.ObjectAttr

local macro_rules | `(tactic| tb_start) => `(tactic| first | with_reducible exact List.mem_cons_self | with_reducible assumption | (with_reducible apply List.mem_cons_of_mem; tb_start) | (with_reducible apply List.mem_append_left; tb_start) | (with_reducible apply List.mem_append_right; tb_start) | with_reducible exact g_x | with_reducible exact g_dx | with_reducible exact g_gr | with_reducible exact g_nd | with_reducible exact g_ad | with_reducible exact g_pr)
local macro_rules | `(tactic| tb_rel) => `(tactic| first | with_reducible exact Upd1.head | with_reducible exact Put.head | (with_reducible apply Upd1.tail; tb_rel) | (with_reducible apply Put.tail; tb_rel) | (with_reducible apply Upd1.right; tb_rel) | (with_reducible apply Upd1.append; tb_rel))
local macro_rules | `(tactic| k_ne) => `(tactic| first | (with_reducible apply Apart.head; tb_start) | (with_reducible apply Apart.head'; tb_start) | (with_reducible apply Apart.tail; k_ne))
local macro_rules | `(tactic| k_same) => `(tactic| first | with_reducible exact Split.head | (with_reducible apply Split.tail; k_same) | (with_reducible apply Split.skip; k_same))
local macro_rules | `(tactic| k_same2) => `(tactic| first | with_reducible exact SplitL.head | with_reducible exact SplitL.last | (with_reducible apply SplitL.tail; k_same2) | (with_reducible apply SplitL.skip; k_same2))
local macro_rules | `(tactic| k_sub) => `(tactic| first | with_reducible exact Sel.nil | with_reducible exact Sel.all | (with_reducible refine Sel.cons (by k_same) ?_; k_sub) | (with_reducible refine Sel.app (by k_same2) ?_; k_sub) | (with_reducible exact Sel.one (by k_same2)))
set_option hygiene false in
local macro_rules | `(tactic| k_flat) => `(tactic| simp only [frameOf, List.map_cons, List.map_nil, List.cons_append, List.nil_append, List.append_nil] at H)
set_option hygiene false in
local macro_rules | `(tactic| tb_lt) => `(tactic| first
  | (with_reducible refine ev_loc F H (by tb_start) (by tb_start) (by tb_start) ?_)
  | (with_reducible refine ev_int H ?_; clear H; intro _ s H)
  | (with_reducible refine ev_str H ?_; clear H; intro _ s H)
  | (with_reducible refine ev_none ?_)
  | (with_reducible refine ev_bool ?_)
  | (with_reducible refine ev_cel F H (by tb_start) (by tb_start) ?_)
  | (with_reducible refine Attribute_any_ ?_)
  | (with_reducible refine Subscript_ ?_)
  | (with_reducible refine wpAny_BinOp ?_)
  | (with_reducible refine wpAny_Compare1 ?_)
  | ((with_reducible show wpAny _ _ (getAttr _ _ _) _ _ _); refine at_own H T.X (H.inst (by tb_start) (by tb_start)) T.o__adj_395 (by rfl) (by rfl) ?_; clear H; intro s H)
  | ((with_reducible show wpAny _ _ (getAttr _ _ _) _ _ _); refine at_own H T.X (H.inst (by tb_start) (by tb_start)) T.o__node_395 (by rfl) (by rfl) ?_; clear H; intro s H)
  | ((with_reducible show wpAny _ _ (getAttr _ _ _) _ _ _); refine at_own H T.X (H.inst (by tb_start) (by tb_start)) T.o__pred_395 (by rfl) (by rfl) ?_; clear H; intro s H)
  | ((with_reducible show wpAny _ _ (getAttr _ _ _) _ _ _); refine at_own H T.X (H.inst (by tb_start) (by tb_start)) T.o_graph_395 (by rfl) (by rfl) ?_; clear H; intro s H))
set_option hygiene false in
local macro_rules | `(tactic| k_upd) => `(tactic| (refine st_loc2 F H (by tb_start) (by tb_start) (by tb_rel) (by tb_rel) ?_; clear H; intro s H))
set_option hygiene false in
local macro_rules | `(tactic| k_fold) => `(tactic| (repeat tb_lt))

/-! edges changed -/
def updE (u v : Nat) (kv : List (Str × Value)) (e : Ed) : Ed := if e.u = u ∧ e.v = v then ⟨e.u, e.v, e.at_, kv⟩ else e
def setE (es : List Ed) (u v : Nat) (kv : List (Str × Value)) : List Ed := es.map (updE u v kv)
theorem updE_u (u v : Nat) (kv : List (Str × Value)) (e : Ed) : (updE u v kv e).u = e.u := by unfold updE; split <;> rfl
theorem updE_v (u v : Nat) (kv : List (Str × Value)) (e : Ed) : (updE u v kv e).v = e.v := by unfold updE; split <;> rfl
theorem updE_at (u v : Nat) (kv : List (Str × Value)) (e : Ed) : (updE u v kv e).at_ = e.at_ := by unfold updE; split <;> rfl
theorem setE_uv (es : List Ed) (u v : Nat) (kv : List (Str × Value)) : (setE es u v kv).map (fun e => (e.u, e.v)) = es.map fun e => (e.u, e.v) := by
  unfold setE; rw [List.map_map]
  exact List.map_congr_left fun e _ => by simp only [Function.comp, updE_u, updE_v]
theorem setE_len (es : List Ed) (u v : Nat) (kv : List (Str × Value)) : (setE es u v kv).length = es.length := by unfold setE; rw [List.length_map]
theorem outs_set (es : List Ed) (u v i : Nat) (kv : List (Str × Value)) : outs (setE es u v kv) i = (outs es i).map (updE u v kv) := by
  unfold outs setE
  rw [List.filter_map]
  congr 1
  exact List.filter_congr fun e _ => by simp only [Function.comp, updE_u]
theorem scOf_set (es : List Ed) (u v i : Nat) (kv : List (Str × Value)) : scOf (setE es u v kv) i = scOf es i := by
  unfold scOf
  have := outs_set es u v i kv
  unfold outs at this
  rw [this, List.map_map]
  exact List.map_congr_left fun e _ => by simp only [Function.comp, updE_v, updE_at]
theorem pdOf_set (es : List Ed) (u v i : Nat) (kv : List (Str × Value)) : pdOf (setE es u v kv) i = pdOf es i := by
  unfold pdOf setE
  rw [List.filter_map, List.map_map]
  have : (List.filter ((fun e => e.v == i) ∘ updE u v kv) es) = List.filter (fun e => e.v == i) es := List.filter_congr fun e _ => by simp only [Function.comp, updE_v]
  rw [this]
  exact List.map_congr_left fun e _ => by simp only [Function.comp, updE_u, updE_at]
theorem setE_split {es : List Ed} {e : Ed} (he : e ∈ es) (nd : (es.map fun e => (e.u, e.v)).Nodup) (kv : List (Str × Value)) : ∃ p q, es = p ++ e :: q ∧ setE es e.u e.v kv = p ++ ⟨e.u, e.v, e.at_, kv⟩ :: q := by
  obtain ⟨p, q, rfl⟩ := List.append_of_mem he
  refine ⟨p, q, rfl, ?_⟩
  rw [List.map_append, List.map_cons, List.nodup_append, List.nodup_cons] at nd
  obtain ⟨_, ⟨n2, _⟩, n3⟩ := nd
  have h1 : p.map (updE e.u e.v kv) = p := by
    conv => rhs; rw [← List.map_id p]
    refine List.map_congr_left fun x hx => ?_
    unfold updE
    rw [if_neg]
    · rfl
    · rintro ⟨a, b⟩
      exact n3 _ (List.mem_map_of_mem hx) (e.u, e.v) (.head _) (by rw [a, b])
  have h2 : q.map (updE e.u e.v kv) = q := by
    conv => rhs; rw [← List.map_id q]
    refine List.map_congr_left fun x hx => ?_
    unfold updE
    rw [if_neg]
    · rfl
    · rintro ⟨a, b⟩
      exact n2 (List.mem_map.mpr ⟨x, hx, by rw [a, b]⟩)
  unfold setE
  rw [List.map_append, List.map_cons, h1, h2]
  unfold updE
  rw [if_pos ⟨rfl, rfl⟩]
theorem mem_set {es : List Ed} {u v : Nat} {kv : List (Str × Value)} {x : Ed} (h : x ∈ setE es u v kv) : ∃ e ∈ es, x = updE u v kv e := by
  obtain ⟨e, he, q⟩ := List.mem_map.mp h
  exact ⟨e, he, q.symm⟩
def GS.spd (S : GS) (i : Nat) (y : SO) : GS := ⟨S.N, S.nA, S.aA, S.pA, S.nd, S.ad, S.sc, updN S.pd i y, S.at_⟩
theorem spd_self (S : GS) (i : Nat) : S.spd i (S.pd i) = S := by
  unfold GS.spd
  have : updN S.pd i (S.pd i) = S.pd := by funext j; unfold updN; split <;> simp_all
  rw [this]
section
variable {a : GA} {ga : List (Str × Value)} {N : Nat} {nA aA pA : Nat → Addr} {es : List Ed}
theorem u_spd {S : GS} {i : Nat} {y z : SO} (h : i < S.N) : Upd1 (S.pA i) y z (gl a (S.spd i y) ga) (gl a (S.spd i z) ga) := by
  have := u_pA (a := a) (ga := ga) (S := S.spd i y) (y := z) h
  have e1 : (S.spd i y).pd i = y := updN_self _ _ _
  rw [e1] at this
  have e2 : updN (S.spd i y).pd i z = updN S.pd i z := by funext j; unfold GS.spd updN; dsimp only; split <;> rfl
  rw [e2] at this
  exact this
theorem g_spd {S : GS} {i : Nat} {y : SO} (h : i < S.N) : (S.pA i, y) ∈ gl a (S.spd i y) ga := (u_spd (z := y) h).mem
theorem u_ed {e : Ed} (he : e ∈ es) (nd : (es.map fun e => (e.u, e.v)).Nodup) (kv : List (Str × Value)) : Upd1 e.at_ (.dS e.kv) (.dS kv) (gl a (mkG N nA aA pA es) ga) (gl a (mkG N nA aA pA (setE es e.u e.v kv)) ga) := by
  obtain ⟨p, q, h1, h2⟩ := setE_split he nd kv
  have u := u_at (a := a) (ga := ga) (S := mkG N nA aA pA es) (p := p.map fun e => (e.at_, e.kv)) (q := q.map fun e => (e.at_, e.kv)) (b := e.at_) (kv := e.kv) (kv' := kv) (by show es.map _ = _; rw [h1, List.map_append, List.map_cons])
  have e1 : ({ mkG N nA aA pA es with at_ := (p.map fun e => (e.at_, e.kv)) ++ (e.at_, kv) :: q.map fun e => (e.at_, e.kv) } : GS) = mkG N nA aA pA (setE es e.u e.v kv) := by
    unfold mkG
    simp only [scOf_set, pdOf_set]
    rw [h2, List.map_append, List.map_cons]
  rw [e1] at u
  exact u
theorem u_edX {e : Ed} (he : e ∈ es) (nd : (es.map fun e => (e.u, e.v)).Nodup) (kv : List (Str × Value)) (y z : SO) (i : Nat) : Upd1 e.at_ (.dS e.kv) (.dS kv) (gl a (((mkG N nA aA pA es).sad y).ssc i z) ga) (gl a (((mkG N nA aA pA (setE es e.u e.v kv)).sad y).ssc i z) ga) := by
  obtain ⟨p, q, h1, h2⟩ := setE_split he nd kv
  have u := u_at (a := a) (ga := ga) (S := ((mkG N nA aA pA es).sad y).ssc i z) (p := p.map fun e => (e.at_, e.kv)) (q := q.map fun e => (e.at_, e.kv)) (b := e.at_) (kv := e.kv) (kv' := kv) (by show es.map _ = _; rw [h1, List.map_append, List.map_cons])
  have e1 : ({ ((mkG N nA aA pA es).sad y).ssc i z with at_ := (p.map fun e => (e.at_, e.kv)) ++ (e.at_, kv) :: q.map fun e => (e.at_, e.kv) } : GS) = ((mkG N nA aA pA (setE es e.u e.v kv)).sad y).ssc i z := by
    unfold mkG GS.sad GS.ssc
    simp only [scOf_set, pdOf_set]
    rw [h2, List.map_append, List.map_cons]
  rw [e1] at u
  exact u
theorem g_ed {e : Ed} (he : e ∈ es) : (e.at_, SO.dS e.kv) ∈ gl a (mkG N nA aA pA es) ga := g_at (S := mkG N nA aA pA es) (p := (e.at_, e.kv)) (List.mem_map.mpr ⟨e, he, rfl⟩)
end
/-- an edge with its flow -/
def EdF (c f : Nat → Nat → Int) (es : List Ed) : Prop := ∀ e ∈ es, ∃ t t', e.kv = [(Str.ofString "capacity", Value.int (c e.u e.v) t), (Str.ofString "flow", Value.int (f e.u e.v) t')]
/-- an edge before the flow is laid -/
def EdC (c : Nat → Nat → Int) (e : Ed) : Prop := (∃ t, e.kv = [(Str.ofString "capacity", Value.int (c e.u e.v) t)]) ∨ ∃ t x, e.kv = [(Str.ofString "capacity", Value.int (c e.u e.v) t), (Str.ofString "flow", x)]
def EdZ (c : Nat → Nat → Int) (e : Ed) : Prop := ∃ t t', e.kv = [(Str.ofString "capacity", Value.int (c e.u e.v) t), (Str.ofString "flow", Value.int 0 t')]
theorem EdC.len {c : Nat → Nat → Int} {e : Ed} (h : EdC c e) : e.kv.length ≤ 2 := by
  rcases h with ⟨t, h⟩ | ⟨t, x, h⟩ <;> rw [h] <;> simp
theorem EdC.zero {c : Nat → Nat → Int} {e : Ed} (h : EdC c e) (t' : Tok) : ∃ t, stored e.kv (Str.ofString "flow") (.int 0 t') = [(Str.ofString "capacity", Value.int (c e.u e.v) t), (Str.ofString "flow", Value.int 0 t')] := by
  rcases h with ⟨t, h⟩ | ⟨t, x, h⟩
  · exact ⟨t, by rw [h]; rfl⟩
  · exact ⟨t, by rw [h]; rfl⟩
theorem EdZ.c {c : Nat → Nat → Int} {e : Ed} (h : EdZ c e) : EdC c e := let ⟨t, t', h⟩ := h; .inr ⟨t, _, h⟩
/-- the same edges by ends and addresses -/
def Skel (es es' : List Ed) : Prop := es'.map (fun e => (e.u, e.v, e.at_)) = es.map fun e => (e.u, e.v, e.at_)
theorem Skel.refl (es : List Ed) : Skel es es := rfl
theorem Skel.trans {a b c : List Ed} (h : Skel a b) (h' : Skel b c) : Skel a c := Eq.trans h' h
theorem Skel.set (es : List Ed) (u v : Nat) (kv : List (Str × Value)) : Skel es (setE es u v kv) := by
  unfold Skel setE; rw [List.map_map]
  exact List.map_congr_left fun e _ => by simp only [Function.comp, updE_u, updE_v, updE_at]
theorem Skel.uv {es es' : List Ed} (h : Skel es es') : es'.map (fun e => (e.u, e.v)) = es.map fun e => (e.u, e.v) := by
  have := congrArg (List.map fun (p : Nat × Nat × Addr) => (p.1, p.2.1)) h
  rw [List.map_map, List.map_map] at this
  exact this
theorem Skel.len {es es' : List Ed} (h : Skel es es') : es'.length = es.length := by
  have := congrArg List.length h
  rwa [List.length_map, List.length_map] at this
theorem Skel.sc : ∀ {es es' : List Ed} (h : Skel es es') (i : Nat), scOf es' i = scOf es i
  | [], [], _, _ => rfl
  | [], _ :: _, h, _ => by simp [Skel] at h
  | _ :: _, [], h, _ => by simp [Skel] at h
  | e :: es, e' :: es', h, i => by
    unfold Skel at h
    rw [List.map_cons, List.map_cons, List.cons.injEq] at h
    obtain ⟨h1, h2⟩ := h
    have a1 : e'.u = e.u := congrArg (·.1) h1
    have a2 : e'.v = e.v := congrArg (·.2.1) h1
    have a3 : e'.at_ = e.at_ := congrArg (·.2.2) h1
    have ih : scOf es' i = scOf es i := Skel.sc (show Skel es es' from h2) i
    unfold scOf at ih ⊢
    simp only [List.filter_cons, a1]
    split
    · rw [List.map_cons, List.map_cons, ih, a2, a3]
    · exact ih

section
variable {w : World} {A : Around} {B : Bs} {l l' : Ledger} {s : Shared} {mg mb : Str → Option Value} {K : Frag} {v : Value} {g rg : GA}
theorem at_rows {f : Nat → Addr} {N i : Nat} {k : Int} {x : Value} (h : (rows f N)[i]? = some (k, x)) : i < N ∧ k = i ∧ x = .ref (f i) := by
  unfold rows at h
  rw [List.getElem?_map, Option.map_eq_some_iff] at h
  obtain ⟨j, hj, e⟩ := h
  have hlt := (List.getElem?_eq_some_iff.mp hj).1
  rw [List.length_range] at hlt
  rw [List.getElem?_range hlt] at hj
  cases hj; cases e; exact ⟨hlt, rfl, rfl⟩
abbrev zeroLoop : Stmt := nthS (bodyS dImpl) 4
abbrev imEnv (L : Addr) : Env := envX "edmonds_karp_impl" (scopeS dImpl) L 423 (.ref 422) []
theorem fm_im (L : Addr) : Fm (imEnv L) L ["G", "s", "t", "capacity", "residual", "cutoff", "R", "nbrs", "e"] [] ["NetworkXError", "str", "build_residual_network", "float", "edmonds_karp_core"] := fm_of (by kernel_rfl) rfl
abbrev imF (G s t cp rs ct R nb e : Option Value) : List (Str × Option Value) := [("G", G), ("s", s), ("t", t), ("capacity", cp), ("residual", rs), ("cutoff", ct), ("R", R), ("nbrs", nb), ("e", e)]
theorem b_zero {N : Nat} {nR aR pR : Nat → Addr} {es : List Ed} {c : Nat → Nat → Int} {L : Addr} {G s0 t0 cp rs ct nb0 e0 : Option Value} {gr : List (Str × Value)} {Q : Flow → Shared → Prop} (R : Room A 4) (T : KP mg mb K B.h) (hN : N ≤ 100) (hes : es.length ≤ 200)
    (nd : (es.map fun e => (e.u, e.v)).Nodup) (hlt : ∀ e ∈ es, e.u < N) (hc : ∀ e ∈ es, EdC c e)
    (H : St prog w B ((L, .ns (imF G s0 t0 cp rs ct (some (.ref rg.x)) nb0 e0)) :: (gl rg (mkG N nR aR pR es) gr ++ l)) s)
    (h : ∀ es' nb e s', Skel es es' → EdF c (fun _ _ => 0) es' → St prog w B ((L, .ns (imF G s0 t0 cp rs ct (some (.ref rg.x)) nb e)) :: (gl rg (mkG N nR aR pR es') gr ++ l)) s' → Q .next s') :
    WP prog w A (exec zeroLoop (imEnv L)) Q s := by
  have F := fm_im L
  show WP prog w A (exec (.For (.Name _ _) _ _ _ _) (imEnv L)) Q s
  refine x_for ?_
  refine ev_meth ?_
  k_fold
  show WP prog w A (getAttr (.ref rg.x) _ _) _ _
  refine at_prop H T.X (H.inst (kvs := gdict rg) (by tb_start) (by tb_start)) T.q__succ fun s H => ?_
  refine c_succ_ ((R.less (by decide : 2 ≤ 4)).in1) T H (by tb_start) (by tb_start) fun s H => ⟨rfl, ?_⟩
  intro pl
  replace H : St prog w B ((L, .ns (imF G s0 t0 cp rs ct (some (.ref rg.x)) nb0 e0)) :: (gl rg ((mkG N nR aR pR es).sad (.dI (rows aR N))) gr ++ l)) s := H
  obtain ⟨ep, H⟩ := H.open_dI (a := rg.ad) (kvs := rows aR N) (lf := fun y => (L, .ns (imF G s0 t0 cp rs ct (some (.ref rg.x)) nb0 e0)) :: (gl rg ((mkG N nR aR pR es).sad y) gr ++ l)) fun y => .tail (u_sad.append _)
  refine gm_valuesE (kvi := rows aR N) (ep := ep) H (.tail _ (List.mem_append_left _ (g_ad (S := (mkG N nR aR pR es).sad (.dE (rows aR N) ep))))) ?_
  refine call_pos0 keeps_blt ?_
  refine c_values (kvi := rows aR N) (ep := ep) H (.tail _ (List.mem_append_left _ (g_ad (S := (mkG N nR aR pR es).sad (.dE (rows aR N) ep))))) ?_
  clear H; intro vw s H
  refine iter_values (kvi := rows aR N) (ep := ep) H (.tail _ (List.mem_append_left _ (g_ad (S := (mkG N nR aR pR es).sad (.dE (rows aR N) ep))))) ?_
  clear H; intro it s H
  have hne : rg.ad ≠ it := H.apart (.head' (.tail _ (List.mem_append_left _ (g_ad (S := (mkG N nR aR pR es).sad (.dE (rows aR N) ep))))))
  refine for_it (it_vals R.none hne (fun l' => (rg.ad, .dE (rows aR N) ep) ∈ l') fun l' s hm H => H.dE hm) (fun i l' => ∃ es' nb e, Skel es es' ∧ (∀ e ∈ es', EdC c e ∧ (e.u < i → EdZ c e)) ∧ l' = (L, .ns (imF G s0 t0 cp rs ct (some (.ref rg.x)) nb e)) :: (gl rg ((mkG N nR aR pR es').sad (.dE (rows aR N) ep)) gr ++ l)) ?_ H ⟨es, _, _, .refl _, fun e he => ⟨hc e he, fun q => absurd q (Nat.not_lt_zero _)⟩, rfl⟩ ?_ ?_
  · rintro i l' ⟨es', nb, e, _, _, rfl⟩
    exact .tail _ (List.mem_append_left _ (g_ad (S := (mkG N nR aR pR es').sad (.dE (rows aR N) ep))))
  · rintro i v ex l' s hi ⟨⟨k, hk⟩, rfl⟩ ⟨es', nb, e1, hsk, hz, rfl⟩ H
    obtain ⟨hiN, rfl, rfl⟩ := at_rows hk
    simp only [List.nil_append] at H
    refine wpAny_assign_Name ?_
    k_upd
    refine x_one (st := .For (.Name _ _) _ _ _ _) (x_for ?_)
    refine ev_meth ?_
    k_fold
    rw [← ssc_self ((mkG N nR aR pR es').sad (.dE (rows aR N) ep)) i] at H
    obtain ⟨ep2, H⟩ := H.open_dI (a := aR i) (kvs := scOf es' i) (lf := fun y => (it, soVals rg.ad (rows aR N).length ep (i + 1)) :: (L, .ns (imF G s0 t0 cp rs ct (some (.ref rg.x)) (some (.ref (aR i))) e1)) :: (gl rg (((mkG N nR aR pR es').sad (.dE (rows aR N) ep)).ssc i y) gr ++ l))
      fun y => .tail (.tail ((u_ssc (S := (mkG N nR aR pR es').sad (.dE (rows aR N) ep)) hiN).append _))
    have g1 : ∀ {es'}, (aR i, .dE (scOf es' i) ep2) ∈ gl rg (((mkG N nR aR pR es').sad (.dE (rows aR N) ep)).ssc i (.dE (scOf es' i) ep2)) gr := fun {es'} => g_ssc (S := (mkG N nR aR pR es').sad (.dE (rows aR N) ep)) hiN
    intro pl
    refine gm_valuesE (kvi := scOf es' i) (ep := ep2) H (.tail _ (.tail _ (List.mem_append_left _ g1))) ?_
    refine call_pos0 keeps_blt ?_
    refine c_values (kvi := scOf es' i) (ep := ep2) H (.tail _ (.tail _ (List.mem_append_left _ g1))) ?_
    clear H; intro vw s H
    refine iter_values (kvi := scOf es' i) (ep := ep2) H (.tail _ (.tail _ (List.mem_append_left _ g1))) ?_
    clear H; intro it2 s H
    have hne2 : aR i ≠ it2 := H.apart (.head' (.tail _ (.tail _ (List.mem_append_left _ g1))))
    have hsl : (scOf es' i).length = (outs es' i).length := by unfold scOf outs; rw [List.length_map]
    refine for_it (it_vals R.none hne2 (fun l' => (aR i, .dE (scOf es' i) ep2) ∈ l') fun l' s hm H => H.dE hm) (fun j l' => ∃ es2 e, Skel es' es2 ∧ (∀ e ∈ es2, EdC c e ∧ (e.u < i → EdZ c e)) ∧ (∀ k e, k < j → (outs es2 i)[k]? = some e → EdZ c e) ∧ l' = (it, soVals rg.ad (rows aR N).length ep (i + 1)) :: (L, .ns (imF G s0 t0 cp rs ct (some (.ref rg.x)) (some (.ref (aR i))) e)) :: (gl rg (((mkG N nR aR pR es2).sad (.dE (rows aR N) ep)).ssc i (.dE (scOf es2 i) ep2)) gr ++ l)) ?_ H ⟨es', _, .refl _, hz, fun k e hk => absurd hk (Nat.not_lt_zero _), rfl⟩ ?_ ?_
    · rintro j l' ⟨es2, e, hs2, _, _, rfl⟩
      have := g1 (es' := es2)
      rw [hs2.sc] at this ⊢
      exact .tail _ (.tail _ (List.mem_append_left _ this))
    · rintro j v ex l' s hj ⟨⟨k2, hk2⟩, rfl⟩ ⟨es2, e2, hs2, hz2, hzo, rfl⟩ H
      rw [← hs2.sc i] at hk2
      obtain ⟨e, he, rfl, rfl, heu⟩ := scOf_at hk2
      have hes2 : e ∈ es2 := (outs_u (List.mem_of_getElem? he)).1
      have nd2 : (es2.map fun e => (e.u, e.v)).Nodup := by rw [hs2.uv, hsk.uv]; exact nd
      simp only [List.nil_append] at H
      refine wpAny_assign_Name ?_
      k_upd
      refine x_one (st := .Assign [.Subscript _ _ _] _ _) (wpAny_Assign_Subscript ?_)
      refine ev_int H ?_
      clear H; intro tz s H
      k_fold
      obtain ⟨tc, hst⟩ := (hz2 e hes2).1.zero tz
      refine set_dS (kvs := e.kv) H (Nat.le_trans (hz2 e hes2).1.len (by decide)) (.tail (.tail (.tail ((u_edX hes2 nd2 _ _ _ i).append _)))) ?_
      clear H; intro s H
      rw [hst] at H
      refine ⟨_, ⟨setE es2 e.u e.v [(Str.ofString "capacity", Value.int (c e.u e.v) tc), (Str.ofString "flow", Value.int 0 tz)], some (.ref e.at_), hs2.trans (.set _ _ _ _), ?_, ?_, rfl⟩, ?_⟩
      · intro x hx
        obtain ⟨y, hy, rfl⟩ := mem_set hx
        unfold updE
        by_cases hq : y.u = e.u ∧ y.v = e.v
        · rw [if_pos hq]
          have z : EdZ c ⟨y.u, y.v, y.at_, [(Str.ofString "capacity", Value.int (c e.u e.v) tc), (Str.ofString "flow", Value.int 0 tz)]⟩ := ⟨tc, tz, by show _ = [(_, Value.int (c y.u y.v) tc), _]; rw [hq.1, hq.2]⟩
          exact ⟨z.c, fun _ => z⟩
        · rw [if_neg hq]; exact hz2 y hy
      · intro k x hk hx
        rw [outs_set, List.getElem?_map, Option.map_eq_some_iff] at hx
        obtain ⟨y, hy, rfl⟩ := hx
        unfold updE
        by_cases hq : y.u = e.u ∧ y.v = e.v
        · rw [if_pos hq]
          exact ⟨tc, tz, by show _ = [(_, Value.int (c y.u y.v) tc), _]; rw [hq.1, hq.2]⟩
        · rw [if_neg hq]
          rcases Nat.lt_or_eq_of_le (Nat.le_of_lt_succ hk) with hlt' | rfl
          · exact hzo k y hlt' hy
          · rw [he] at hy; cases hy; exact absurd ⟨rfl, rfl⟩ hq
      · rw [scOf_set]
        exact H
    · rintro l' s ⟨es2, e, hs2, hz2, hzo, rfl⟩ H
      refine x_nil ?_
      have H2 := H.shut_dI (a := aR i) (kvs := scOf es2 i) (ep := ep2) (.tail (.tail ((u_ssc (z := .dI (scOf es2 i)) (S := (mkG N nR aR pR es2).sad (.dE (rows aR N) ep)) hiN).append _)))
      have e3 : ((mkG N nR aR pR es2).sad (.dE (rows aR N) ep)).ssc i (.dI (scOf es2 i)) = (mkG N nR aR pR es2).sad (.dE (rows aR N) ep) := ssc_self ((mkG N nR aR pR es2).sad (.dE (rows aR N) ep)) i
      rw [e3] at H2
      refine ⟨_, ⟨es2, _, e, hsk.trans hs2, fun x hx => ⟨(hz2 x hx).1, fun hq => ?_⟩, rfl⟩, H2⟩
      rcases Nat.lt_or_eq_of_le (Nat.le_of_lt_succ hq) with hlt' | he
      · exact (hz2 x hx).2 hlt'
      · have hm : x ∈ outs es2 i := by unfold outs; rw [List.mem_filter]; exact ⟨hx, by simp [he]⟩
        obtain ⟨k, hk⟩ := List.getElem?_of_mem hm
        have hkl := (List.getElem?_eq_some_iff.mp hk).1
        refine hzo k x ?_ hk
        have : (outs es2 i).length = (scOf es' i).length := by rw [← hs2.sc i]; unfold scOf outs; rw [List.length_map]
        omega
  · rintro l' s ⟨es', nb, e, hsk, hz, rfl⟩ H
    refine x_nil ?_
    rw [rows_len] at hz
    have H2 := H.shut_dI (a := rg.ad) (kvs := rows aR N) (ep := ep) (.tail ((u_sad (z := .dI (rows aR N)) (S := mkG N nR aR pR es')).append _))
    refine h es' nb e s hsk (fun x hx => ?_) H2
    refine (hz x hx).2 ?_
    have : (x.u, x.v) ∈ es'.map fun e => (e.u, e.v) := List.mem_map_of_mem hx
    rw [hsk.uv] at this
    obtain ⟨y, hy, q⟩ := List.mem_map.mp this
    have q1 : y.u = x.u := congrArg (·.1) q
    rw [← q1]; exact hlt y hy
end
end Mine

-- MD2
namespace Mine
open PySem PySem.W PySem.Calls PyProof.Rows Builtin Builtin.ObjectAttr

local macro_rules | `(tactic| tb_start) => `(tactic| first | with_reducible exact List.mem_cons_self | with_reducible assumption | (with_reducible apply List.mem_cons_of_mem; tb_start) | (with_reducible apply List.mem_append_left; tb_start) | (with_reducible apply List.mem_append_right; tb_start) | with_reducible exact g_x | with_reducible exact g_dx | with_reducible exact g_gr | with_reducible exact g_nd | with_reducible exact g_ad | with_reducible exact g_pr)
local macro_rules | `(tactic| tb_rel) => `(tactic| first | with_reducible exact Upd1.head | with_reducible exact Put.head | (with_reducible apply Upd1.tail; tb_rel) | (with_reducible apply Put.tail; tb_rel) | (with_reducible apply Upd1.right; tb_rel) | (with_reducible apply Upd1.append; tb_rel))
local macro_rules | `(tactic| k_ne) => `(tactic| first | (with_reducible apply Apart.head; tb_start) | (with_reducible apply Apart.head'; tb_start) | (with_reducible apply Apart.tail; k_ne))
local macro_rules | `(tactic| k_same) => `(tactic| first | with_reducible exact Split.head | (with_reducible apply Split.tail; k_same) | (with_reducible apply Split.skip; k_same))
local macro_rules | `(tactic| k_same2) => `(tactic| first | with_reducible exact SplitL.head | with_reducible exact SplitL.last | (with_reducible apply SplitL.tail; k_same2) | (with_reducible apply SplitL.skip; k_same2))
local macro_rules | `(tactic| k_sub) => `(tactic| first | with_reducible exact Sel.nil | with_reducible exact Sel.all | (with_reducible refine Sel.cons (by k_same) ?_; k_sub) | (with_reducible refine Sel.app (by k_same2) ?_; k_sub) | (with_reducible exact Sel.one (by k_same2)))
set_option hygiene false in
local macro_rules | `(tactic| k_flat) => `(tactic| simp only [frameOf, List.map_cons, List.map_nil, List.cons_append, List.nil_append, List.append_nil] at H)
set_option hygiene false in
local macro_rules | `(tactic| tb_lt) => `(tactic| first
  | (with_reducible refine ev_loc F H (by tb_start) (by tb_start) (by tb_start) ?_)
  | (with_reducible refine ev_int H ?_; clear H; intro _ s H)
  | (with_reducible refine ev_str H ?_; clear H; intro _ s H)
  | (with_reducible refine ev_none ?_)
  | (with_reducible refine ev_bool ?_)
  | (with_reducible refine ev_cel F H (by tb_start) (by tb_start) ?_)
  | (with_reducible refine Attribute_any_ ?_)
  | (with_reducible refine Subscript_ ?_)
  | (with_reducible refine wpAny_BinOp ?_)
  | (with_reducible refine wpAny_Compare1 ?_)
  | ((with_reducible show wpAny _ _ (getAttr _ _ _) _ _ _); refine at_own H T.X (H.inst (by tb_start) (by tb_start)) T.o__adj_395 (by rfl) (by rfl) ?_; clear H; intro s H)
  | ((with_reducible show wpAny _ _ (getAttr _ _ _) _ _ _); refine at_own H T.X (H.inst (by tb_start) (by tb_start)) T.o__node_395 (by rfl) (by rfl) ?_; clear H; intro s H)
  | ((with_reducible show wpAny _ _ (getAttr _ _ _) _ _ _); refine at_own H T.X (H.inst (by tb_start) (by tb_start)) T.o__pred_395 (by rfl) (by rfl) ?_; clear H; intro s H)
  | ((with_reducible show wpAny _ _ (getAttr _ _ _) _ _ _); refine at_own H T.X (H.inst (by tb_start) (by tb_start)) T.o_graph_395 (by rfl) (by rfl) ?_; clear H; intro s H))
set_option hygiene false in
local macro_rules | `(tactic| k_upd) => `(tactic| (refine st_loc2 F H (by tb_start) (by tb_start) (by tb_rel) (by tb_rel) ?_; clear H; intro s H))
set_option hygiene false in
local macro_rules | `(tactic| k_fold) => `(tactic| (repeat tb_lt))

/-! paths -/
def pv (ts : List (Nat × Tok)) : List Value := ts.map fun q => Value.int (q.1 : Int) q.2
def Chn (r : Nat → Nat → Prop) : List Nat → Prop
  | a :: b :: t => r a b ∧ Chn r (b :: t)
  | _ => True
def mnA (c f : Nat → Nat → Int) : Int → List Nat → Int
  | x, a :: b :: t => mnA c f (min x (c a b - f a b)) (b :: t)
  | x, _ => x
def bump (f : Nat → Nat → Int) (u v : Nat) (d : Int) : Nat → Nat → Int := fun a b => if a = u ∧ b = v then f a b + d else if a = v ∧ b = u then f a b - d else f a b
def augF (d : Int) : (Nat → Nat → Int) → List Nat → Nat → Nat → Int
  | f, a :: b :: t => augF d (bump f a b d) (b :: t)
  | f, _ => f
theorem drop_two {α : Type} {l : List α} {i : Nat} {a b : α} (ha : l[i]? = some a) (hb : l[i + 1]? = some b) : l.drop i = a :: b :: l.drop (i + 2) := by
  obtain ⟨h1, e1⟩ := List.getElem?_eq_some_iff.mp ha
  obtain ⟨h2, e2⟩ := List.getElem?_eq_some_iff.mp hb
  rw [List.drop_eq_getElem_cons h1, List.drop_eq_getElem_cons h2, e1, e2]
theorem drop_one' {α : Type} {l : List α} {i : Nat} {b : α} (hb : l[i + 1]? = some b) : l.drop (i + 1) = b :: l.drop (i + 2) := by
  obtain ⟨h2, e2⟩ := List.getElem?_eq_some_iff.mp hb
  rw [List.drop_eq_getElem_cons h2, e2]
theorem Chn.at : ∀ {r : Nat → Nat → Prop} {p : List Nat} {i a b : Nat}, Chn r p → p[i]? = some a → p[i + 1]? = some b → r a b
  | r, x :: y :: t, 0, a, b, h, h1, h2 => by simp at h1 h2; subst h1 h2; exact h.1
  | r, x :: y :: t, i + 1, a, b, h, h1, h2 => Chn.at (p := y :: t) h.2 (by simpa using h1) (by simpa using h2)
  | r, [x], 0, a, b, h, h1, h2 => by simp at h2
  | r, [x], i + 1, a, b, h, h1, h2 => by simp at h2
  | r, [], i, a, b, h, h1, h2 => by simp at h1
theorem scOf_keys {es : List Ed} (nd : (es.map fun e => (e.u, e.v)).Nodup) (u : Nat) : ((scOf es u).map (·.1)).Nodup := by
  unfold scOf
  rw [List.map_map]
  have h1 : ((es.filter fun e => e.u == u).map fun e => (e.u, e.v)).Nodup := (List.Sublist.map _ List.filter_sublist).nodup nd
  rw [List.Nodup, List.pairwise_map] at h1 ⊢
  refine List.Pairwise.imp_of_mem (fun {a b} ha hb h q => h ?_) h1
  rw [List.mem_filter, beq_iff_eq] at ha hb
  have q' : (a.v : Int) = (b.v : Int) := q
  have : a.v = b.v := by omega
  rw [this, ha.2, hb.2]
theorem sc_val {es : List Ed} (nd : (es.map fun e => (e.u, e.v)).Nodup) {e : Ed} (he : e ∈ es) : valueAt (scOf es e.u) (e.v : Int) = some (.ref e.at_) := by
  refine valueAt_mem (scOf_keys nd _) ?_
  unfold scOf
  exact List.mem_map.mpr ⟨e, List.mem_filter.mpr ⟨he, by simp⟩, rfl⟩
def HasE (es : List Ed) (a b : Nat) : Prop := (a, b) ∈ es.map fun e => (e.u, e.v)
theorem HasE.get {es : List Ed} {a b : Nat} (h : HasE es a b) : ∃ e ∈ es, e.u = a ∧ e.v = b := by
  obtain ⟨e, he, q⟩ := List.mem_map.mp h
  exact ⟨e, he, congrArg (·.1) q, congrArg (·.2) q⟩
def dAug : Stmt := nthS (bodyS dCore) 4
def dBfs : Stmt := nthS (bodyS dCore) 5
def augQ : Str := "edmonds_karp_core.<locals>.augment"
def bfsQ : Str := "edmonds_karp_core.<locals>.bidirectional_bfs"
abbrev soAug (cR cI c' : Addr) : SO := soFn augQ (argsS dAug) (bodyS dAug) (scopeS dAug) [("inf", cI), ("R_succ", cR)] c'
abbrev agEnv (L fa ca cR cI : Addr) : Env := envX augQ (scopeS dAug) L fa (.ref ca) [("inf", cI), ("R_succ", cR)]
theorem fm_ag (L fa ca cR cI : Addr) : Fm (agEnv L fa ca cR cI) L ["path", "flow", "it", "u", "v", "attr"] [("inf", cI), ("R_succ", cR)] ["iter", "next", "min", "NetworkXUnbounded"] := fm_of (by kernel_rfl) rfl
abbrev agF (p f i u v a : Option Value) : List (Str × Option Value) := [("path", p), ("flow", f), ("it", i), ("u", u), ("v", v), ("attr", a)]
theorem edF_set2 {c f : Nat → Nat → Int} {es : List Ed} {u v : Nat} {d : Int} {t1 t2 t3 t4 : Tok} (huv : u ≠ v) (h : EdF c f es) :
    EdF c (bump f u v d) (setE (setE es u v [(Str.ofString "capacity", Value.int (c u v) t1), (Str.ofString "flow", Value.int (f u v + d) t2)]) v u [(Str.ofString "capacity", Value.int (c v u) t3), (Str.ofString "flow", Value.int (f v u - d) t4)]) := by
  intro x hx
  obtain ⟨y, hy, rfl⟩ := mem_set hx
  obtain ⟨z, hz, rfl⟩ := mem_set hy
  rw [updE_u, updE_v, updE_u, updE_v]
  unfold updE bump
  by_cases h1 : z.u = u ∧ z.v = v
  · rw [if_pos h1, if_pos h1]
    have : ¬(z.u = v ∧ z.v = u) := fun q => huv (h1.1.symm.trans q.1)
    rw [if_neg this, h1.1, h1.2]
    exact ⟨_, _, rfl⟩
  · rw [if_neg h1, if_neg h1]
    by_cases h2 : z.u = v ∧ z.v = u
    · rw [if_pos h2, if_pos h2, h2.1, h2.2]
      exact ⟨_, _, rfl⟩
    · rw [if_neg h2, if_neg h2]
      exact h z hz

section
variable {w : World} {A : Around} {B : Bs} {l l' : Ledger} {s : Shared} {mg mb : Str → Option Value} {K : Frag} {v : Value} {g rg : GA}
theorem c_augment {N : Nat} {nR aR pR : Nat → Addr} {es : List Ed} {c f : Nat → Nat → Int} {I δ : Int} {tI : Tok} {pl cR cI fa ca : Addr} {q0 : Nat × Tok} {ts : List (Nat × Tok)} {gr : List (Str × Value)} {Q : Value → Shared → Prop} (R : Room A 3) (T : KP mg mb K B.h)
    (nd : (es.map fun e => (e.u, e.v)).Nodup) (hlt : ∀ e ∈ es, e.u < N) (hEd : EdF c f es) (hsm : ts.length ≤ 1000) (hts : (q0 :: ts).map (·.1) = p) (hch : Chn (fun a b => HasE es a b ∧ HasE es b a ∧ a ≠ b) p) (hmn : mnA c f I p = δ) (hδ : δ * 2 ≤ I)
    (hfa : (fa, soAug cR cI ca) ∈ l) (hca : (ca, soCode augQ) ∈ l) (hcR : (cR, .cell (some (.ref rg.ad))) ∈ l) (hcI : (cI, .cell (some (.int I tI))) ∈ l) (hpl : (pl, .ls (pv (q0 :: ts))) ∈ l)
    (H : St prog w B (gl rg (mkG N nR aR pR es) gr ++ l) s)
    (h : ∀ es' t s', Skel es es' → EdF c (augF δ f p) es' → St prog w B (gl rg (mkG N nR aR pR es') gr ++ l) s' → Q (.int δ t) s') :
    WC prog w A (.ref fa) [.ref pl] [] Q s := by
  refine call_def ["path"] ["flow", "it", "u", "v", "attr"] R T.nolimit (H.fnAt (List.mem_append_right _ hfa) (List.mem_append_right _ hca)) (by kernel_rfl) fun name doc pm an ct => ?_
  refine wpAny_of_eq (a := ([("path", .ref pl)] : List (Str × Value))) (by kernel_rfl) ?_
  refine ⟨_, H, rfl, fun L s H => ?_⟩
  have R1 := Room.deeper (env := agEnv L fa ca cR cI) (n := 2) R
  have F := fm_ag L fa ca cR cI
  k_flat
  show WP prog w (A.deeper (agEnv L fa ca cR cI)) (execs (bodyS dAug) (agEnv L fa ca cR cI)) _ s
  have hpi : ∀ (i : Nat) (x : Nat × Tok), (q0 :: ts)[i]? = some x → p[i]? = some x.1 := fun i x e => by rw [← hts, List.getElem?_map, e]; rfl
  have hplen : p.length = ts.length + 1 := by rw [← hts]; simp
  -- flow = inf
  refine x_cons (st := .Assign [.Name _ _] _ _) (wpAny_Assign_Name ?_)
  k_fold
  k_upd
  -- it = iter(path); u = next(it)
  refine x_cons (st := .Assign [.Name _ _] _ _) (wpAny_Assign_Name ?_)
  refine ev_call_name ?_
  refine ev_blt F H T.toTp (by tb_start) T.gb_iter rfl (by decide) ?_
  refine call_pos ?_
  refine sp_cons ?_
  k_fold
  refine sp_nil ⟨keeps_blt, ?_⟩
  refine call_iter_list (vs := pv (q0 :: ts)) H (by tb_start) ?_
  clear H; intro it s hne H
  k_upd
  refine x_cons (st := .Assign [.Name _ _] _ _) (wpAny_Assign_Name ?_)
  refine ev_call_name ?_
  refine ev_blt F H T.toTp (by tb_start) T.gb_next rfl (by decide) ?_
  refine call_pos ?_
  refine sp_cons ?_
  k_fold
  refine sp_nil ⟨keeps_blt, ?_⟩
  refine call_next_list (a := pl) (i := 0) (vs := pv (q0 :: ts)) H (by tb_start) rfl ?_
  clear H; intro s H
  k_upd
  -- the residual
  refine x_cons (st := .For (.Name _ _) (.Name _ _) _ _ _) (x_for ?_)
  k_fold
  refine iter_self_list (a := pl) (i := 1) H (by tb_start) ?_
  have Ig : ∀ target it, pl ≠ it → It prog w (A.deeper (agEnv L fa ca cR cI)) B target it ((pv ts).length + 1) (soList pl) (fun l' => (pl, .ls (pv (q0 :: ts))) ∈ l') (fun i v ex => (pv (q0 :: ts))[i]? = some v ∧ ex = []) := fun target it hne => it_list (vs := pv (q0 :: ts)) R1.none hne _ fun l' s hm H => H.isl hm
  have hpl2 : (pv ts).length = ts.length := by simp [pv]
  have hpv : ∀ (i : Nat) (v : Value), (pv (q0 :: ts))[i]? = some v → ∃ x, (q0 :: ts)[i]? = some x ∧ v = .int x.1 x.2 := fun i v e => by
    unfold pv at e
    rw [List.getElem?_map, Option.map_eq_some_iff] at e
    obtain ⟨x, h1, h2⟩ := e
    exact ⟨x, h1, h2.symm⟩
  refine for_it ((Ig _ it hne).shift) (fun i l' => ∃ fl u tu tf vv av, p[i]? = some u ∧ mnA c f fl (p.drop i) = δ ∧ l' = (L, .ns (agF (some (.ref pl)) (some (.int fl tf)) (some (.ref it)) (some (.int (u : Nat) tu)) vv av)) :: (gl rg (mkG N nR aR pR es) gr ++ l)) ?_ H ⟨I, q0.1, q0.2, tI, none, none, hpi 0 q0 rfl, hmn, rfl⟩ ?_ ?_
  · rintro i l' ⟨fl, u, tu, tf, vv, av, _, _, rfl⟩; tb_start
  · rintro i v ex l' s hi ⟨hv, rfl⟩ ⟨fl, u, tu, tf, vv, av, hu, hm, rfl⟩ H
    obtain ⟨x, hx, rfl⟩ := hpv _ _ hv
    have hx' := hpi _ _ hx
    obtain ⟨hE, _, _⟩ := hch.at hu hx'
    obtain ⟨e, he, rfl, he2⟩ := hE.get
    have hcv := hEd e he
    obtain ⟨t1, t2, hkv⟩ := hcv
    have hval := sc_val nd he
    rw [he2] at hval
    simp only [List.nil_append] at H
    refine wpAny_assign_Name ?_
    k_upd
    refine x_cons (st := .Assign [.Name _ _] _ _) (wpAny_Assign_Name ?_)
    k_fold
    refine sub_dI H (H.dI (kvs := rows aR N) (.tail _ (.tail _ (List.mem_append_left _ g_ad)))) (rows_at (hlt e he)) ?_
    clear H; intro s H
    k_fold
    refine sub_dI H (H.dI (kvs := scOf es e.u) (.tail _ (.tail _ (List.mem_append_left _ (g_aA (S := mkG N nR aR pR es) (hlt e he)))))) hval ?_
    clear H; intro s H
    k_upd
    refine x_cons (st := .Assign [.Name _ _] _ _) (wpAny_Assign_Name ?_)
    refine ev_call_name ?_
    refine ev_blt F H T.toTp (by tb_start) T.gb_min rfl (by decide) ?_
    refine call_pos ?_
    refine sp_cons ?_
    k_fold
    refine sp_cons ?_
    k_fold
    refine sub_dS H (.tail _ (.tail _ (List.mem_append_left _ (g_ed he)))) (by rw [hkv]; rfl) ?_
    clear H; intro s H
    k_fold
    refine sub_dS H (.tail _ (.tail _ (List.mem_append_left _ (g_ed he)))) (by rw [hkv]; rfl) ?_
    clear H; intro s H
    refine op_sub H ?_
    clear H; intro td s H
    refine sp_nil ⟨keeps_blt, ?_⟩
    refine min2 R1.none H ?_
    clear H; intro tm s H
    k_upd
    refine x_one (st := .Assign [.Name _ _] _ _) (wpAny_Assign_Name ?_)
    k_fold
    k_upd
    refine ⟨_, ⟨_, x.1, x.2, tm, _, _, hx', ?_, rfl⟩, H⟩
    rw [drop_two hu hx'] at hm
    rw [drop_one' hx', ← he2]
    rw [← he2] at hm
    exact hm
  · rintro l' s ⟨fl, u, tu, tf, vv, av, hu, hm, rfl⟩ H
    refine x_nil ?_
    have hfl : fl = δ := by
      rw [hpl2] at hm hu
      have : p.drop ts.length = [u] := by
        obtain ⟨h1, e1⟩ := List.getElem?_eq_some_iff.mp hu
        rw [List.drop_eq_getElem_cons h1, e1, List.drop_eq_nil_of_le (by omega)]
      rw [this] at hm
      exact hm
    subst hfl
    clear hm
    -- if flow * 2 > inf
    refine x_cons (st := .If _ _ _ _) (wpAny_If ?_)
    refine wpAny_isTrue_Compare1 ?_
    k_fold
    refine op_mul H ?_ (hm := IntMulOk.of_right (by decide))
    clear H; intro tm s H
    k_fold
    refine gt_int ?_
    refine wpAny_truthy_bool ?_
    rw [if_neg (by simp only [decide_eq_true_eq]; omega)]
    refine x_nil ?_
    -- again
    refine x_cons (st := .Assign [.Name _ _] _ _) (wpAny_Assign_Name ?_)
    refine ev_call_name ?_
    refine ev_blt F H T.toTp (by tb_start) T.gb_iter rfl (by decide) ?_
    refine call_pos ?_
    refine sp_cons ?_
    k_fold
    refine sp_nil ⟨keeps_blt, ?_⟩
    refine call_iter_list (vs := pv (q0 :: ts)) H (by tb_start) ?_
    clear H; intro it2 s hne2 H
    k_upd
    refine x_cons (st := .Assign [.Name _ _] _ _) (wpAny_Assign_Name ?_)
    refine ev_call_name ?_
    refine ev_blt F H T.toTp (by tb_start) T.gb_next rfl (by decide) ?_
    refine call_pos ?_
    refine sp_cons ?_
    k_fold
    refine sp_nil ⟨keeps_blt, ?_⟩
    refine call_next_list (a := pl) (i := 0) (vs := pv (q0 :: ts)) H (by tb_start) rfl ?_
    clear H; intro s H
    k_upd
    refine x_cons (st := .For (.Name _ _) (.Name _ _) _ _ _) (x_for ?_)
    k_fold
    refine iter_self_list (a := pl) (i := 1) H (by tb_start) ?_
    refine for_it ((Ig _ it2 hne2).shift) (fun i l' => ∃ es' f' u tu vv, Skel es es' ∧ EdF c f' es' ∧ p[i]? = some u ∧ augF fl f' (p.drop i) = augF fl f p ∧ l' = (L, .ns (agF (some (.ref pl)) (some (.int fl tf)) (some (.ref it2)) (some (.int (u : Nat) tu)) vv av)) :: (gl rg (mkG N nR aR pR es') gr ++ l)) ?_ H ⟨es, f, q0.1, q0.2, vv, .refl _, hEd, hpi 0 q0 rfl, rfl, rfl⟩ ?_ ?_
    · rintro i l' ⟨es', f', u, tu, vv, _, _, _, _, rfl⟩; tb_start
    · rintro i v ex l' s hi ⟨hv, rfl⟩ ⟨es', f', u, tu, vv, hsk, hEd', hu, hm, rfl⟩ H
      obtain ⟨x, hx, rfl⟩ := hpv _ _ hv
      have hx' := hpi _ _ hx
      obtain ⟨hE1, hE2, huv⟩ := hch.at hu hx'
      have nd' : (es'.map fun e => (e.u, e.v)).Nodup := by rw [hsk.uv]; exact nd
      have hE1' : HasE es' u x.1 := by unfold HasE; rw [hsk.uv]; exact hE1
      have hlt' : ∀ {a b}, HasE es a b → a < N := fun hh => by obtain ⟨e, he, rfl, _⟩ := hh.get; exact hlt e he
      obtain ⟨e, he, heu, hev⟩ := hE1'.get
      obtain ⟨t1, t2, hkv⟩ := hEd' e he
      have hval := sc_val nd' he
      rw [heu, hev] at hval
      rw [heu, hev] at hkv
      simp only [List.nil_append] at H
      refine wpAny_assign_Name ?_
      k_upd
      refine x_cons (st := .AugAssign (.Subscript _ _ _) _ _ _) (wpAny_AugAssign_SubscriptAny ?_)
      k_fold
      refine sub_dI H (H.dI (kvs := rows aR N) (.tail _ (.tail _ (List.mem_append_left _ g_ad)))) (rows_at (hlt' hE1)) ?_
      clear H; intro s H
      k_fold
      refine sub_dI H (H.dI (kvs := scOf es' u) (.tail _ (.tail _ (List.mem_append_left _ (g_aA (S := mkG N nR aR pR es') (hlt' hE1)))))) hval ?_
      clear H; intro s H
      k_fold
      refine get_dS H (.tail _ (.tail _ (List.mem_append_left _ (g_ed he)))) (by rw [hkv]; rfl) ?_
      clear H; intro s H
      k_fold
      refine op_iadd H ?_
      clear H; intro ta s H
      have u1 := u_ed (a := rg) (ga := gr) (N := N) (nA := nR) (aA := aR) (pA := pR) he nd' [(Str.ofString "capacity", Value.int (c u x.1) t1), (Str.ofString "flow", Value.int (f' u x.1 + fl) ta)]
      refine set_dS (kvs := e.kv) H (by rw [hkv]; show 2 ≤ sizeLine; decide) (.tail (.tail ((by rw [hkv]; rw [hkv] at u1; exact u1 : Upd1 e.at_ (.dS e.kv) (.dS (stored e.kv (Str.ofString "flow") (.int (f' u x.1 + fl) ta))) _ _).append _))) ?_
      clear H u1; intro s H
      rw [heu, hev] at H
      have hE2' : HasE (setE es' u x.1 [(Str.ofString "capacity", Value.int (c u x.1) t1), (Str.ofString "flow", Value.int (f' u x.1 + fl) ta)]) x.1 u := by unfold HasE; rw [setE_uv, hsk.uv]; exact hE2
      obtain ⟨e2, he2, heu2, hev2⟩ := hE2'.get
      have nd2 : ((setE es' u x.1 [(Str.ofString "capacity", Value.int (c u x.1) t1), (Str.ofString "flow", Value.int (f' u x.1 + fl) ta)]).map fun e => (e.u, e.v)).Nodup := by rw [setE_uv]; exact nd'
      obtain ⟨t3, t4, hkv2⟩ : ∃ t3 t4, e2.kv = [(Str.ofString "capacity", Value.int (c x.1 u) t3), (Str.ofString "flow", Value.int (f' x.1 u) t4)] := by
        obtain ⟨y, hy, e3⟩ := mem_set he2
        have a1 : y.u = x.1 := by rw [← heu2, e3, updE_u]
        have a2 : y.v = u := by rw [← hev2, e3, updE_v]
        have : e2 = y := by rw [e3]; unfold updE; rw [if_neg]; rintro ⟨b1, b2⟩; exact huv (b1.symm.trans a1)
        rw [this, ← a1, ← a2]
        exact hEd' y hy
      have hval2 := sc_val nd2 he2
      rw [heu2, hev2] at hval2
      generalize hes2 : setE es' u x.1 [(Str.ofString "capacity", Value.int (c u x.1) t1), (Str.ofString "flow", Value.int (f' u x.1 + fl) ta)] = es2 at *
      refine x_cons (st := .AugAssign (.Subscript _ _ _) _ _ _) (wpAny_AugAssign_SubscriptAny ?_)
      k_fold
      refine sub_dI H (H.dI (kvs := rows aR N) (.tail _ (.tail _ (List.mem_append_left _ g_ad)))) (rows_at (hlt' hE2)) ?_
      clear H; intro s H
      k_fold
      refine sub_dI H (H.dI (kvs := scOf es2 x.1) (.tail _ (.tail _ (List.mem_append_left _ (g_aA (S := mkG N nR aR pR es2) (hlt' hE2)))))) hval2 ?_
      clear H; intro s H
      k_fold
      refine get_dS H (.tail _ (.tail _ (List.mem_append_left _ (g_ed he2)))) (by rw [hkv2]; rfl) ?_
      clear H; intro s H
      k_fold
      refine op_isub H ?_
      clear H; intro tb s H
      have u1 := u_ed (a := rg) (ga := gr) (N := N) (nA := nR) (aA := aR) (pA := pR) he2 nd2 [(Str.ofString "capacity", Value.int (c x.1 u) t3), (Str.ofString "flow", Value.int (f' x.1 u - fl) tb)]
      refine set_dS (kvs := e2.kv) H (by rw [hkv2]; show 2 ≤ sizeLine; decide) (.tail (.tail ((by rw [hkv2]; rw [hkv2] at u1; exact u1 : Upd1 e2.at_ (.dS e2.kv) (.dS (stored e2.kv (Str.ofString "flow") (.int (f' x.1 u - fl) tb))) _ _).append _))) ?_
      clear H u1; intro s H
      rw [heu2, hev2] at H
      refine x_one (st := .Assign [.Name _ _] _ _) (wpAny_Assign_Name ?_)
      k_fold
      k_upd
      have hEd2 : EdF c (bump f' u x.1 fl) (setE es2 x.1 u [(Str.ofString "capacity", Value.int (c x.1 u) t3), (Str.ofString "flow", Value.int (f' x.1 u - fl) tb)]) := by
        rw [← hes2]; exact edF_set2 huv hEd'
      refine ⟨_, ⟨_, bump f' u x.1 fl, x.1, x.2, _, ?_, hEd2, hx', ?_, rfl⟩, H⟩
      · refine hsk.trans (Skel.trans ?_ (.set _ _ _ _))
        rw [← hes2]; exact .set _ _ _ _
      · rw [drop_two hu hx'] at hm
        rw [drop_one' hx']
        exact hm
    · rintro l' s ⟨es', f', u, tu, vv, hsk, hEd', hu, hm, rfl⟩ H
      refine x_nil ?_
      have hfl : f' = augF fl f p := by
        rw [hpl2] at hm hu
        have : p.drop ts.length = [u] := by
          obtain ⟨h1, e1⟩ := List.getElem?_eq_some_iff.mp hu
          rw [List.drop_eq_getElem_cons h1, e1, List.drop_eq_nil_of_le (by omega)]
        rw [this] at hm
        exact hm
      subst hfl
      refine x_one (st := .Return _ _) (wpAny_Return_some ?_)
      k_fold
      exact h es' tf s hsk hEd' H.drop
end
end Mine

-- MB19
namespace Mine
open PySem PySem.W PySem.Calls PyProof.Rows Builtin Builtin.ObjectAttr

section
variable {prog : Program} {w : World} {A : Around} {B : Bs} {l l' : Ledger} {s : Shared} {env : Env} {a it : Addr} {v : Value} {vs : List Value} {i : Nat}

/-- `{k: v}` -/
theorem ev_dict1I {ke ve : Expr} {pos : Pos} {Q : Value → Shared → Prop} (H : St prog w B l s) (h : ∀ a s₁, St prog w B ((a, .dI []) :: l) s₁ → WP prog w A (eval ke env) (fun kv s₂ => WP prog w A (eval ve env) (fun v s₃ => ∃ k t l', kv = .int k t ∧ St prog w B ((a, .dI []) :: l') s₃ ∧
    ∀ s', St prog w B ((a, .dI [(k, v)]) :: l') s' → Q (.ref a) s') s₂) s₁) : WP prog w A (eval (.Dict [some ke] [ve] pos) env) Q s := by
  refine wpAny_Dict_walk (knd := intKind prog w) rfl rfl (by simp) (by show 1 ≤ 15; decide) ?_
  have H1 : St prog w B ((s.heap.objs.size, .dI []) :: l) { s with heap := s.heap.push { cls := .type "dict", data := .dict #[] } } := H.fresh (t := s.toks) (fun _ _ e => Heap.get?_push_of_some _ e) (Nat.le_refl _) (on_dI (Heap.DictOf.new _))
  refine pairTrees_cons_walk ?_
  refine wpAny_mono (h _ _ H1) (fun kv s₂ h₂ => ?_) fun _ _ e => e
  refine wpAny_mono h₂ (fun v s₃ h₃ => ?_) fun _ _ e => e
  refine pairTrees_nil_walk ?_
  obtain ⟨k, t, l', rfl, H3, hq⟩ := h₃
  refine display_done_int (vs := [(.int k t, v)]) rfl (by simp [intKeyPairs]) (H3.dI (.head _)) fun h' hm hs => ?_
  exact hq _ (H3.same .head hs (on_dI hm))
/-- a list asked whether it is empty -/
theorem truthy_ls {Q : Bool → Shared → Prop} (H : St prog w B l s) (hl : s.heap.IsList a vs.toArray) (hn : vs.length < 2 ^ 62) (h : ∀ s', St prog w B l s' → Q (!vs.isEmpty) s') : WP prog w A (truthy (.ref a)) Q s := by
  refine wpAny_truthy_list hl (by simp only [List.size_toArray]; omega) ?_
  have e : vs.toArray.isEmpty = vs.isEmpty := by cases vs <;> rfl
  rw [e]
  exact h _ (H.tok _)
end
end Mine

-- MD3
namespace Mine
open PySem PySem.W PySem.Calls PyProof.Rows Builtin Builtin.ObjectAttr

local macro_rules | `(tactic| tb_start) => `(tactic| first | with_reducible exact List.mem_cons_self | with_reducible assumption | (with_reducible apply List.mem_cons_of_mem; tb_start) | (with_reducible apply List.mem_append_left; tb_start) | (with_reducible apply List.mem_append_right; tb_start) | with_reducible exact g_x | with_reducible exact g_dx | with_reducible exact g_gr | with_reducible exact g_nd | with_reducible exact g_ad | with_reducible exact g_pr)
local macro_rules | `(tactic| tb_rel) => `(tactic| first | with_reducible exact Upd1.head | with_reducible exact Put.head | (with_reducible apply Upd1.tail; tb_rel) | (with_reducible apply Put.tail; tb_rel) | (with_reducible apply Upd1.right; tb_rel) | (with_reducible apply Upd1.append; tb_rel))
local macro_rules | `(tactic| k_ne) => `(tactic| first | (with_reducible apply Apart.head; tb_start) | (with_reducible apply Apart.head'; tb_start) | (with_reducible apply Apart.tail; k_ne))
local macro_rules | `(tactic| k_same) => `(tactic| first | with_reducible exact Split.head | (with_reducible apply Split.tail; k_same) | (with_reducible apply Split.skip; k_same))
local macro_rules | `(tactic| k_same2) => `(tactic| first | with_reducible exact SplitL.head | with_reducible exact SplitL.last | (with_reducible apply SplitL.tail; k_same2) | (with_reducible apply SplitL.skip; k_same2))
local macro_rules | `(tactic| k_sub) => `(tactic| first | with_reducible exact Sel.nil | with_reducible exact Sel.all | (with_reducible refine Sel.cons (by k_same) ?_; k_sub) | (with_reducible refine Sel.app (by k_same2) ?_; k_sub) | (with_reducible exact Sel.one (by k_same2)))
set_option hygiene false in
local macro_rules | `(tactic| k_flat) => `(tactic| simp only [frameOf, List.map_cons, List.map_nil, List.cons_append, List.nil_append, List.append_nil] at H)
set_option hygiene false in
local macro_rules | `(tactic| tb_lt) => `(tactic| first
  | (with_reducible refine ev_loc F H (by tb_start) (by tb_start) (by tb_start) ?_)
  | (with_reducible refine ev_int H ?_; clear H; intro _ s H)
  | (with_reducible refine ev_str H ?_; clear H; intro _ s H)
  | (with_reducible refine ev_none ?_)
  | (with_reducible refine ev_bool ?_)
  | (with_reducible refine ev_cel F H (by tb_start) (by tb_start) ?_)
  | (with_reducible refine Attribute_any_ ?_)
  | (with_reducible refine Subscript_ ?_)
  | (with_reducible refine wpAny_BinOp ?_)
  | (with_reducible refine wpAny_Compare1 ?_)
  | ((with_reducible show wpAny _ _ (getAttr _ _ _) _ _ _); refine at_own H T.X (H.inst (by tb_start) (by tb_start)) T.o__adj_395 (by rfl) (by rfl) ?_; clear H; intro s H)
  | ((with_reducible show wpAny _ _ (getAttr _ _ _) _ _ _); refine at_own H T.X (H.inst (by tb_start) (by tb_start)) T.o__node_395 (by rfl) (by rfl) ?_; clear H; intro s H)
  | ((with_reducible show wpAny _ _ (getAttr _ _ _) _ _ _); refine at_own H T.X (H.inst (by tb_start) (by tb_start)) T.o__pred_395 (by rfl) (by rfl) ?_; clear H; intro s H)
  | ((with_reducible show wpAny _ _ (getAttr _ _ _) _ _ _); refine at_own H T.X (H.inst (by tb_start) (by tb_start)) T.o_graph_395 (by rfl) (by rfl) ?_; clear H; intro s H))
set_option hygiene false in
local macro_rules | `(tactic| k_upd) => `(tactic| (refine st_loc2 F H (by tb_start) (by tb_start) (by tb_rel) (by tb_rel) ?_; clear H; intro s H))
set_option hygiene false in
local macro_rules | `(tactic| k_fold) => `(tactic| (repeat tb_lt))

/-! search trees, in the order of their making -/
abbrev ks (P : List (Int × Value)) : List Int := P.map (·.1)
inductive Tr (r : Nat → Nat → Prop) (root : Nat) : List (Int × Value) → Prop
  | root : Tr r root [((root : Int), .none)]
  | snoc {P : List (Int × Value)} {u v : Nat} {t : Tok} : Tr r root P → (u : Int) ∈ ks P → (v : Int) ∉ ks P → r u v → Tr r root (P ++ [((v : Int), .int (u : Nat) t)])
theorem Tr.nd {r : Nat → Nat → Prop} {root : Nat} {P : List (Int × Value)} (h : Tr r root P) : (ks P).Nodup := by
  induction h with
  | root => simp [ks]
  | snoc _ _ hn _ ih =>
    unfold ks at *
    rw [List.map_append, List.map_cons, List.map_nil, List.nodup_append]
    refine ⟨ih, by simp, fun a ha b hb e => ?_⟩
    rw [List.mem_singleton] at hb
    subst hb; subst e
    exact hn ha
theorem Tr.lt {r : Nat → Nat → Prop} {root N : Nat} {P : List (Int × Value)} (h : Tr r root P) (hr : ∀ u v, r u v → v < N) (h0 : root < N) : ∀ k ∈ ks P, ∃ i, i < N ∧ k = (i : Nat) := by
  induction h with
  | root => intro k hk; rw [show k = (root : Int) from by simpa [ks] using hk]; exact ⟨root, h0, rfl⟩
  | snoc _ _ _ hruv ih =>
    intro k hk
    unfold ks at hk
    rw [List.map_append] at hk
    rcases List.mem_append.mp hk with hk | hk
    · exact ih k hk
    · rw [List.map_cons, List.map_nil, List.mem_singleton] at hk
      exact ⟨_, hr _ _ hruv, hk⟩
theorem Tr.root_mem {r : Nat → Nat → Prop} {root : Nat} {P : List (Int × Value)} (h : Tr r root P) : (root : Int) ∈ ks P := by
  induction h with
  | root => simp [ks]
  | snoc _ _ _ _ ih => unfold ks at *; rw [List.map_append]; exact List.mem_append_left _ ih
theorem len_below : ∀ (N : Nat) (l : List Int), l.Nodup → (∀ k ∈ l, ∃ i, i < N ∧ k = (i : Nat)) → l.length ≤ N
  | 0, l, _, h => by
    match l, h with
    | [], _ => exact Nat.le_refl _
    | k :: _, h => obtain ⟨i, hi, _⟩ := h k (.head _); exact absurd hi (Nat.not_lt_zero _)
  | N + 1, l, nd, h => by
    by_cases hm : (N : Int) ∈ l
    · have h1 := len_below N (l.erase (N : Int)) (nd.erase _) (fun k hk => by
        rw [nd.mem_erase_iff] at hk
        obtain ⟨i, hi, rfl⟩ := h k hk.2
        have : i ≠ N := fun e => hk.1 (by rw [e])
        exact ⟨i, by omega, rfl⟩)
      rw [List.length_erase_of_mem hm] at h1
      omega
    · have := len_below N l nd (fun k hk => by
        obtain ⟨i, hi, rfl⟩ := h k hk
        have : i ≠ N := fun e => hm (by rw [← e]; exact hk)
        exact ⟨i, by omega, rfl⟩)
      omega
theorem Tr.len {r : Nat → Nat → Prop} {root N : Nat} {P : List (Int × Value)} (h : Tr r root P) (hr : ∀ u v, r u v → v < N) (h0 : root < N) : P.length ≤ N := by
  have := len_below N (ks P) h.nd (h.lt hr h0)
  rwa [List.length_map] at this
/-- one side of the search under way: fr is the front still to be asked, q the front to come, D what was asked -/
structure HB (r : Nat → Nat → Prop) (root N n0 : Nat) (S : List (Int × Value)) (fr : List (Nat × Tok)) (P : List (Int × Value)) (q : List (Nat × Tok)) (D : Nat → Nat → Prop) : Prop where
  t : Tr r root P
  dis : ∀ k ∈ ks P, k ∉ ks S
  cl : ∀ u : Nat, (u : Int) ∈ ks P → u ∉ fr.map (·.1) → u ∉ q.map (·.1) → ∀ v : Nat, r u v → D u v → (v : Int) ∈ ks P
  fo : ∀ x ∈ fr, (x.1 : Int) ∈ ks P ∧ x.1 < N
  qo : ∀ x ∈ q, (x.1 : Int) ∈ ks P ∧ x.1 < N
  len : P.length = n0 + q.length
section
variable {r : Nat → Nat → Prop} {root N n0 : Nat} {S P : List (Int × Value)} {fr q : List (Nat × Tok)} {D D' : Nat → Nat → Prop}
theorem HB.scan {u v : Nat} (h : HB r root N n0 S fr P q D) (hD : ∀ a b, D' a b → D a b ∨ a = u ∧ b = v) (hv : r u v → (v : Int) ∈ ks P) : HB r root N n0 S fr P q D' :=
  ⟨h.t, h.dis, fun a ha h1 h2 b hr hd => by
    rcases hD a b hd with hd | ⟨rfl, rfl⟩
    · exact h.cl a ha h1 h2 b hr hd
    · exact hv hr, h.fo, h.qo, h.len⟩
theorem HB.add {u v : Nat} {t t' : Tok} (h : HB r root N n0 S fr P q D) (hD : ∀ a b, D' a b → D a b ∨ a = u ∧ b = v) (hu : (u : Int) ∈ ks P) (hv : (v : Int) ∉ ks P) (hs : (v : Int) ∉ ks S) (hr : r u v) (hN : v < N) :
    HB r root N n0 S fr (P ++ [((v : Int), .int (u : Nat) t)]) (q ++ [(v, t')]) D' := by
  have hk : ks (P ++ [((v : Int), .int (u : Nat) t)]) = ks P ++ [(v : Int)] := by unfold ks; rw [List.map_append]; rfl
  refine ⟨.snoc h.t hu hv hr, ?_, ?_, ?_, ?_, ?_⟩
  · rw [hk]
    intro k hk
    rcases List.mem_append.mp hk with hk | hk
    · exact h.dis k hk
    · rw [List.mem_singleton] at hk; subst hk; exact hs
  · rw [hk]
    intro a ha h1 h2 b hab hd
    rw [List.map_append] at h2
    have h3 : a ≠ v := fun e => h2 (List.mem_append_right _ (by rw [e]; exact .head _))
    have ha' : (a : Int) ∈ ks P := by
      rcases List.mem_append.mp ha with ha | ha
      · exact ha
      · rw [List.mem_singleton] at ha; exact absurd (by omega) h3
    rcases hD a b hd with hd | ⟨rfl, rfl⟩
    · exact List.mem_append_left _ (h.cl a ha' h1 (fun q => h2 (List.mem_append_left _ q)) b hab hd)
    · exact List.mem_append_right _ (.head _)
  · rw [hk]; exact fun x hx => ⟨List.mem_append_left _ (h.fo x hx).1, (h.fo x hx).2⟩
  · rw [hk]
    intro x hx
    rcases List.mem_append.mp hx with hx | hx
    · exact ⟨List.mem_append_left _ (h.qo x hx).1, (h.qo x hx).2⟩
    · rw [List.mem_singleton] at hx; subst hx; exact ⟨List.mem_append_right _ (.head _), hN⟩
  · rw [List.length_append, List.length_append, h.len]; simp [Nat.add_assoc]
/-- the next of the front is taken up -/
theorem HB.take {x : Nat × Tok} (h : HB r root N n0 S (x :: fr) P q fun _ _ => True) (hD : ∀ a b, D a b → a ≠ x.1) : HB r root N n0 S fr P q D :=
  ⟨h.t, h.dis, fun a ha h1 h2 b hr hd => h.cl a ha (by rw [List.map_cons, List.mem_cons]; intro e; rcases e with e | e; exact hD a b hd e; exact h1 e) h2 b hr trivial, fun y hy => h.fo y (.tail _ hy), h.qo, h.len⟩
theorem HB.full (h : HB r root N n0 S fr P q D) (hD : ∀ a b, r a b → D a b) : HB r root N n0 S fr P q fun _ _ => True :=
  ⟨h.t, h.dis, fun a ha h1 h2 b hr _ => h.cl a ha h1 h2 b hr (hD a b hr), h.fo, h.qo, h.len⟩
/-- the front to come becomes the front -/
theorem HB.turn (h : HB r root N n0 S [] P q fun _ _ => True) : HB r root N P.length S q P [] fun _ _ => True :=
  ⟨h.t, h.dis, fun a ha h1 _ b hr _ => h.cl a ha (by simp) h1 b hr trivial, h.qo, (fun x hx => by cases hx), rfl⟩
end
def rF (es : List Ed) (c f : Nat → Nat → Int) (u v : Nat) : Prop := HasE es u v ∧ f u v < c u v
def rB (es : List Ed) (c f : Nat → Nat → Int) (u v : Nat) : Prop := HasE es v u ∧ f v u < c v u
def ins (es : List Ed) (i : Nat) : List Ed := es.filter fun e => e.v == i
theorem ins_v {es : List Ed} {i : Nat} {e : Ed} (h : e ∈ ins es i) : e ∈ es ∧ e.v = i := by
  unfold ins at h
  rw [List.mem_filter, beq_iff_eq] at h
  exact h
theorem pdOf_at {es : List Ed} {i j : Nat} {k : Int} {x : Value} (h : (pdOf es i)[j]? = some (k, x)) : ∃ e, (ins es i)[j]? = some e ∧ k = e.u ∧ x = .ref e.at_ ∧ e.v = i := by
  unfold pdOf at h
  rw [List.getElem?_map, Option.map_eq_some_iff] at h
  obtain ⟨e, he, h2⟩ := h
  have hm := List.mem_of_getElem? he
  rw [List.mem_filter, beq_iff_eq] at hm
  cases h2
  exact ⟨e, he, rfl, rfl, hm.2⟩
theorem g_edS {a : GA} {ga : List (Str × Value)} {N : Nat} {nA aA pA : Nat → Addr} {es : List Ed} {i : Nat} {y : SO} {e : Ed} (he : e ∈ es) : (e.at_, SO.dS e.kv) ∈ gl a ((mkG N nA aA pA es).ssc i y) ga := g_at (S := (mkG N nA aA pA es).ssc i y) (p := (e.at_, e.kv)) (List.mem_map.mpr ⟨e, he, rfl⟩)
theorem g_edP {a : GA} {ga : List (Str × Value)} {N : Nat} {nA aA pA : Nat → Addr} {es : List Ed} {i : Nat} {y : SO} {e : Ed} (he : e ∈ es) : (e.at_, SO.dS e.kv) ∈ gl a ((mkG N nA aA pA es).spd i y) ga := g_at (S := (mkG N nA aA pA es).spd i y) (p := (e.at_, e.kv)) (List.mem_map.mpr ⟨e, he, rfl⟩)
abbrev bfEnv (L fb cb ct cs cR cP : Addr) : Env := envX bfsQ (scopeS dBfs) L fb (.ref cb) [("t", ct), ("s", cs), ("R_succ", cR), ("R_pred", cP)]
theorem fm_bf (L fb cb ct cs cR cP : Addr) : Fm (bfEnv L fb cb ct cs cR cP) L ["pred", "q_s", "succ", "q_t", "q", "u", "v", "attr"] [("t", ct), ("s", cs), ("R_succ", cR), ("R_pred", cP)] ["len"] := fm_of (by kernel_rfl) rfl
abbrev bfF (pr qs su qt q u v a : Option Value) : List (Str × Option Value) := [("pred", pr), ("q_s", qs), ("succ", su), ("q_t", qt), ("q", q), ("u", u), ("v", v), ("attr", a)]
def bfIf : Stmt := nthS (bodyS (nthS (bodyS dBfs) 4)) 1
theorem pv_at {ts : List (Nat × Tok)} {i : Nat} {v : Value} (h : (pv ts)[i]? = some v) : ∃ x, ts[i]? = some x ∧ v = .int x.1 x.2 := by
  unfold pv at h
  rw [List.getElem?_map, Option.map_eq_some_iff] at h
  obtain ⟨x, h1, h2⟩ := h
  exact ⟨x, h1, h2.symm⟩
theorem pv_app (a b : List (Nat × Tok)) : pv (a ++ b) = pv a ++ pv b := by unfold pv; rw [List.map_append]
theorem pv_len (a : List (Nat × Tok)) : (pv a).length = a.length := by unfold pv; rw [List.length_map]
theorem valueAt_isSome {P : List (Int × Value)} {k : Int} : (valueAt P k).isSome = true ↔ k ∈ ks P := by
  constructor
  · intro h
    obtain ⟨v, hv⟩ := Option.isSome_iff_exists.mp h
    exact List.mem_map.mpr ⟨_, mem_of_valueAt hv, rfl⟩
  · intro h
    cases q : valueAt P k with
    | some v => rfl
    | none =>
      obtain ⟨p, hp, rfl⟩ := List.mem_map.mp h
      unfold valueAt at q
      rw [Option.map_eq_none_iff, List.find?_eq_none] at q
      exact absurd (q p hp) (by simp)

section
variable {w : World} {A : Around} {B : Bs} {l l' : Ledger} {s : Shared} {mg mb : Str → Option Value} {K : Frag} {v : Value} {g rg : GA}

theorem b_fwd {N sN : Nat} {nR aR pR : Nat → Addr} {es : List Ed} {c f : Nat → Nat → Int} {L fb cb ct cs cR cP pa sa qsa qta qa : Addr} {P S : List (Int × Value)} {qs : List (Nat × Tok)} {qtv : List Value} {uv vv av : Option Value} {gr : List (Str × Value)} {Q : Flow → Shared → Prop} (R : Room A 2) (T : KP mg mb K B.h) (hN : N ≤ 100)
    (hlt : ∀ e ∈ es, e.u < N ∧ e.v < N) (hs : sN < N) (hEd : EdF c f es)
    (hcR : (cR, .cell (some (.ref rg.ad))) ∈ l) (hcP : (cP, .cell (some (.ref rg.pr))) ∈ l)
    (HH : HB (rF es c f) sN N n0 S qs P [] fun _ _ => True)
    (H : St prog w B ((qa, .ls []) :: (pa, .dI P) :: (sa, .dI S) :: (qsa, .ls (pv qs)) :: (qta, .ls qtv) :: (L, .ns (bfF (some (.ref pa)) (some (.ref qsa)) (some (.ref sa)) (some (.ref qta)) (some (.ref qa)) uv vv av)) :: (gl rg (mkG N nR aR pR es) gr ++ l)) s)
    (hfound : ∀ v t tp P' s', Tr (rF es c f) sN P' → ((v : Nat) : Int) ∈ ks P' → (v : Int) ∈ ks S → (∀ k ∈ ks P', k ∈ ks S → k = v) → St prog w B ((tp, .tp [.int (v : Nat) t, .ref pa, .ref sa]) :: (pa, .dI P') :: (sa, .dI S) :: (gl rg (mkG N nR aR pR es) gr ++ l)) s' → Q (.ret (.ref tp)) s')
    (hnone : ∀ P' tp s', HB (rF es c f) sN N n0 S [] P' [] (fun _ _ => True) → St prog w B ((tp, .tp [.none, .none, .none]) :: (gl rg (mkG N nR aR pR es) gr ++ l)) s' → Q (.ret (.ref tp)) s')
    (hnext : ∀ P' q uv vv av s', HB (rF es c f) sN N n0 S [] P' q (fun _ _ => True) → q ≠ [] → St prog w B ((qa, .ls (pv q)) :: (pa, .dI P') :: (sa, .dI S) :: (qta, .ls qtv) :: (L, .ns (bfF (some (.ref pa)) (some (.ref qa)) (some (.ref sa)) (some (.ref qta)) (some (.ref qa)) uv vv av)) :: (gl rg (mkG N nR aR pR es) gr ++ l)) s' → Q .next s') :
    WP prog w A (execs (bodyS bfIf) (bfEnv L fb cb ct cs cR cP)) Q s := by
  have F := fm_bf L fb cb ct cs cR cP
  have hrN : ∀ u v, rF es c f u v → v < N := fun u v h => by
    obtain ⟨e, he, h1, h2⟩ := h.1.get
    have := hlt e he
    omega
  refine x_cons (st := .For (.Name _ _) (.Name _ _) _ _ _) (x_for ?_)
  k_fold
  refine iter_list H (H.isl (vs := pv qs) (by tb_start)) ?_
  clear H; intro it s hne H
  refine for_it (it_list (vs := pv qs) R.none hne (fun l' => (qsa, .ls (pv qs)) ∈ l') fun l' s hm H => H.isl hm) (fun i l' => ∃ P' q uv vv av, HB (rF es c f) sN N n0 S (qs.drop i) P' q (fun _ _ => True) ∧ l' = (qa, .ls (pv q)) :: (pa, .dI P') :: (sa, .dI S) :: (qsa, .ls (pv qs)) :: (qta, .ls qtv) :: (L, .ns (bfF (some (.ref pa)) (some (.ref qsa)) (some (.ref sa)) (some (.ref qta)) (some (.ref qa)) uv vv av)) :: (gl rg (mkG N nR aR pR es) gr ++ l)) ?_ H ⟨P, [], _, _, _, HH, rfl⟩ ?_ ?_
  · rintro i l' ⟨P', q, uv, vv, av, _, rfl⟩; tb_start
  · rintro i v ex l' s hi ⟨hv, rfl⟩ ⟨P', q, uv, vv, av, hB, rfl⟩ H
    obtain ⟨⟨u, tu⟩, hx, rfl⟩ := pv_at hv
    have hdr : qs.drop i = (u, tu) :: qs.drop (i + 1) := by
      obtain ⟨h1, e1⟩ := List.getElem?_eq_some_iff.mp hx
      rw [List.drop_eq_getElem_cons h1, e1]
    rw [hdr] at hB
    obtain ⟨huP, hui⟩ := hB.fo (u, tu) (.head _)
    replace huP : (u : Int) ∈ ks P' := huP
    replace hui : u < N := hui
    simp only [List.nil_append] at H
    refine wpAny_assign_Name ?_
    k_upd
    refine x_one (st := .For (.Tuple _ _ _) _ _ _ _) (x_for ?_)
    refine ev_meth ?_
    k_fold
    have ga0 : (rg.ad, SO.dI (rows aR N)) ∈ gl rg (mkG N nR aR pR es) gr := g_ad
    refine sub_dI (kvs := rows aR N) (v := .ref (aR u)) H (H.dI (by tb_start)) (rows_at hui) ?_
    clear H; intro s H
    rw [← ssc_self (mkG N nR aR pR es) u] at H
    obtain ⟨ep, H⟩ := H.open_dI (a := aR u) (kvs := scOf es u) (lf := fun y => (it, soList qsa (i + 1)) :: (qa, .ls (pv q)) :: (pa, .dI P') :: (sa, .dI S) :: (qsa, .ls (pv qs)) :: (qta, .ls qtv) :: (L, .ns (bfF (some (.ref pa)) (some (.ref qsa)) (some (.ref sa)) (some (.ref qta)) (some (.ref qa)) (some (.int (u : Nat) tu)) vv av)) :: (gl rg ((mkG N nR aR pR es).ssc u y) gr ++ l))
      fun y => .tail (.tail (.tail (.tail (.tail (.tail (.tail ((u_ssc (S := mkG N nR aR pR es) hui).append _)))))))
    have g1 : (aR u, .dE (scOf es u) ep) ∈ gl rg ((mkG N nR aR pR es).ssc u (.dE (scOf es u) ep)) gr := g_ssc (S := mkG N nR aR pR es) hui
    intro pl
    refine gm_itemsE (kvi := scOf es u) (ep := ep) H (by tb_start) ?_
    refine call_pos0 keeps_blt ?_
    refine c_items (kvi := scOf es u) (ep := ep) H (by tb_start) ?_
    clear H; intro vw s H
    refine iter_items (kvi := scOf es u) (ep := ep) H (by tb_start) ?_
    clear H; intro it2 s H
    have hsl : (scOf es u).length = (outs es u).length := by unfold scOf outs; rw [List.length_map]
    refine for_it (it_items R.none (fun l' => (aR u, .dE (scOf es u) ep) ∈ l') fun l' s hm H => H.dE hm) (fun j l' => ∃ P' q vv av, HB (rF es c f) sN N n0 S (qs.drop (i + 1)) P' q (fun a b => a ≠ u ∨ ∃ k e, k < j ∧ (outs es u)[k]? = some e ∧ e.v = b) ∧ (u : Int) ∈ ks P' ∧ l' = (it, soList qsa (i + 1)) :: (qa, .ls (pv q)) :: (pa, .dI P') :: (sa, .dI S) :: (qsa, .ls (pv qs)) :: (qta, .ls qtv) :: (L, .ns (bfF (some (.ref pa)) (some (.ref qsa)) (some (.ref sa)) (some (.ref qta)) (some (.ref qa)) (some (.int (u : Nat) tu)) vv av)) :: (gl rg ((mkG N nR aR pR es).ssc u (.dE (scOf es u) ep)) gr ++ l)) ?_ H ⟨P', q, _, _, ?_, huP, rfl⟩ ?_ ?_
    · rintro j l' ⟨P', q, vv, av, _, _, rfl⟩; tb_start
    · refine hB.take fun a b hd => ?_
      rcases hd with hd | ⟨k, e, hk, _⟩
      · exact hd
      · exact absurd hk (Nat.not_lt_zero _)
    · rintro j v ex l' s hj ⟨k2, x2, t2, q2, hk2, rfl, rfl⟩ ⟨P', q, vv, av, hB, huP, rfl⟩ H
      obtain ⟨e, he, rfl, rfl, heu⟩ := scOf_at hk2
      have hes : e ∈ es := (outs_u (List.mem_of_getElem? he)).1
      obtain ⟨t3, t4, hkv⟩ := hEd e hes
      have hrel : rF es c f u e.v ↔ f e.u e.v < c e.u e.v := by
        unfold rF
        rw [heu]
        exact ⟨fun h => h.2, fun h => ⟨List.mem_map.mpr ⟨e, hes, by rw [heu]⟩, h⟩⟩
      have hDn : ∀ a b, (a ≠ u ∨ ∃ k e, k < j + 1 ∧ (outs es u)[k]? = some e ∧ e.v = b) → (a ≠ u ∨ ∃ k e, k < j ∧ (outs es u)[k]? = some e ∧ e.v = b) ∨ a = u ∧ b = e.v := by
        rintro a b (h | ⟨k, e', hk, h1, h2⟩)
        · exact .inl (.inl h)
        · rcases Nat.lt_or_eq_of_le (Nat.le_of_lt_succ hk) with hk | rfl
          · exact .inl (.inr ⟨k, e', hk, h1, h2⟩)
          · rw [he] at h1
            cases h1
            by_cases hau : a = u
            · exact .inr ⟨hau, h2.symm⟩
            · exact .inl (.inl hau)
      have hPl : P'.length ≤ 100 := Nat.le_trans (hB.t.len hrN hs) hN
      simp only [List.cons_append, List.nil_append] at H
      refine assign_tup R.none H (t := q2) (by tb_start) ?_
      clear H; intro s H
      refine ao_cons (wpAny_assign_Name ?_)
      k_upd
      refine ao_cons (wpAny_assign_Name ?_)
      k_upd
      refine ao_nil ?_
      have ge : (e.at_, SO.dS e.kv) ∈ gl rg ((mkG N nR aR pR es).ssc u (.dE (scOf es u) ep)) gr := g_edS hes
      refine x_one (st := .If _ _ _ _) (wpAny_If ?_)
      refine isTrue_and ?_
      refine wpAny_isTrue_Compare1 ?_
      k_fold
      refine notIn_dI H (H.lo (x := .dI P') (by tb_start)) (H.dI (kvs := P') (by tb_start)) ?_
      clear H; intro s H
      refine wpAny_truthy_bool ?_
      by_cases hin : (e.v : Int) ∈ ks P'
      · rw [valueAt_isSome.mpr hin, if_neg (by decide), if_neg (by decide)]
        refine x_nil ?_
        exact ⟨_, ⟨P', q, _, _, hB.scan hDn fun _ => hin, huP, rfl⟩, H.sel (by k_sub)⟩
      · have hin' : (valueAt P' (e.v : Int)).isSome = false := by
          cases hq : (valueAt P' (e.v : Int)).isSome with
          | false => rfl
          | true => exact absurd (valueAt_isSome.mp hq) hin
        rw [hin', if_pos (by decide)]
        refine isTrue_and ?_
        refine wpAny_isTrue_Compare1 ?_
        k_fold
        refine sub_dS H (by tb_start) (by rw [hkv]; rfl) ?_
        clear H; intro s H
        k_fold
        refine sub_dS H (by tb_start) (by rw [hkv]; rfl) ?_
        clear H; intro s H
        refine lt_int ?_
        refine wpAny_truthy_bool ?_
        by_cases hres : f e.u e.v < c e.u e.v
        · rw [if_pos (by simpa using hres)]
          refine isTrue_and_nil ?_
          rw [if_pos rfl]
          -- own[v] = u
          refine x_cons (st := .Assign [.Subscript _ _ _] _ _) (wpAny_Assign_Subscript ?_)
          k_fold
          refine set_dI_new (kvs := P') H hin (by omega) (by tb_rel) ?_
          clear H; intro s H
          refine x_cons (st := .If _ _ _ _) (wpAny_If ?_)
          refine wpAny_isTrue_Compare1 ?_
          k_fold
          refine in_dI H (H.lo (x := .dI S) (by tb_start)) (H.dI (kvs := S) (by tb_start)) ?_
          clear H; intro s H
          refine wpAny_truthy_bool ?_
          have hNv : e.v < N := (hlt e hes).2
          have hks : ks (P' ++ [((e.v : Int), Value.int (u : Nat) tu)]) = ks P' ++ [(e.v : Int)] := by unfold ks; rw [List.map_append]; rfl
          by_cases hS : (e.v : Int) ∈ ks S
          · rw [valueAt_isSome.mpr hS, if_pos rfl]
            refine x_one (st := .Return _ _) (wpAny_Return_some ?_)
            refine ev_Tuple ?_
            refine sp_cons ?_
            k_fold
            refine sp_cons ?_
            k_fold
            refine sp_cons ?_
            k_fold
            refine sp_nil ?_
            refine new_tuple H (by show 3 ≤ sizeLine; decide) ?_
            clear H; intro tp s H
            have H2 := H.shut_dI (a := aR u) (kvs := scOf es u) (ep := ep) (l' := (tp, .tp [.int (e.v : Nat) t2, .ref pa, .ref sa]) :: (q2, .tp [.int (e.v : Nat) t2, .ref e.at_]) :: (it2, soItems (aR u) (scOf es u).length ep (j + 1)) :: (it, soList qsa (i + 1)) :: (qa, .ls (pv q)) :: (pa, .dI (P' ++ [((e.v : Int), Value.int (u : Nat) tu)])) :: (sa, .dI S) :: (qsa, .ls (pv qs)) :: (qta, .ls qtv) :: (L, .ns (bfF (some (.ref pa)) (some (.ref qsa)) (some (.ref sa)) (some (.ref qta)) (some (.ref qa)) (some (.int (u : Nat) tu)) (some (.int (e.v : Nat) t2)) (some (.ref e.at_)))) :: (gl rg ((mkG N nR aR pR es).ssc u (.dI (scOf es u))) gr ++ l))
              (.tail (.tail (.tail (.tail (.tail (.tail (.tail (.tail (.tail (.tail ((u_ssc (S := mkG N nR aR pR es) hui).append _)))))))))))
            have e3 : (mkG N nR aR pR es).ssc u (.dI (scOf es u)) = mkG N nR aR pR es := ssc_self (mkG N nR aR pR es) u
            rw [e3] at H2
            refine hfound e.v t2 tp _ s (.snoc hB.t huP hin (hrel.mpr hres)) (by rw [hks]; exact List.mem_append_right _ (.head _)) hS (fun k hk hk2 => ?_) (H2.sel (by k_sub))
            rw [hks] at hk
            rcases List.mem_append.mp hk with hk | hk
            · exact absurd hk2 (hB.dis k hk)
            · exact List.mem_singleton.mp hk
          · have hS' : (valueAt S (e.v : Int)).isSome = false := by
              cases hq : (valueAt S (e.v : Int)).isSome with
              | false => rfl
              | true => exact absurd (valueAt_isSome.mp hq) hS
            rw [hS', if_neg (by decide)]
            refine x_nil ?_
            refine x_one (st := .Expr _ _) (wpAny_Expr_any ?_)
            refine ev_meth ?_
            k_fold
            intro pl
            refine gm_append H (vs := pv q) (by tb_start) ?_
            refine call_pos ?_
            refine sp_cons ?_
            k_fold
            refine sp_nil ⟨keeps_blt, ?_⟩
            have hql : q.length ≤ 100 := by have := hB.len; omega
            refine call_append (vs := pv q) H (by rw [pv_len, sizeLine_eq]; omega) (by tb_rel) ?_
            clear H; intro s H
            refine ⟨_, ⟨_, _, some (.int (e.v : Nat) t2), some (.ref e.at_), hB.add (t := tu) (t' := t2) hDn huP hin hS (hrel.mpr hres) hNv, by rw [hks]; exact List.mem_append_left _ huP, rfl⟩, ?_⟩
            have e5 : pv (q ++ [(e.v, t2)]) = pv q ++ [Value.int (e.v : Nat) t2] := pv_app _ _
            rw [e5]
            exact H.sel (by k_sub)
        · rw [if_neg (by simpa using hres), if_neg (by decide)]
          refine x_nil ?_
          exact ⟨_, ⟨P', q, _, _, hB.scan hDn fun h => absurd (hrel.mp h) hres, huP, rfl⟩, H.sel (by k_sub)⟩
    · rintro l' s ⟨P', q, vv, av, hB, huP, rfl⟩ H
      refine x_nil ?_
      have H2 := H.shut_dI (a := aR u) (kvs := scOf es u) (ep := ep) (.tail (.tail (.tail (.tail (.tail (.tail (.tail ((u_ssc (z := .dI (scOf es u)) (S := mkG N nR aR pR es) hui).append _))))))))
      have e3 : (mkG N nR aR pR es).ssc u (.dI (scOf es u)) = mkG N nR aR pR es := ssc_self (mkG N nR aR pR es) u
      rw [e3] at H2
      refine ⟨_, ⟨P', q, _, _, _, hB.full fun a b hr => ?_, rfl⟩, H2⟩
      by_cases hau : a = u
      · subst hau
        obtain ⟨e, he, h1, h2⟩ := hr.1.get
        have hm : e ∈ outs es a := by unfold outs; rw [List.mem_filter]; exact ⟨he, by simp [h1]⟩
        obtain ⟨k, hk⟩ := List.getElem?_of_mem hm
        have hkl := (List.getElem?_eq_some_iff.mp hk).1
        exact .inr ⟨k, e, by omega, hk, h2⟩
      · exact .inl hau
  · rintro l' s ⟨P', q, uv, vv, av, hB, rfl⟩ H
    rw [pv_len, List.drop_length] at hB
    refine x_nil ?_
    have hPl : P'.length ≤ 100 := Nat.le_trans (hB.t.len hrN hs) hN
    have hql : q.length ≤ 100 := by have := hB.len; omega
    refine x_cons (st := .If _ _ _ _) (wpAny_If ?_)
    refine isTrue_not ?_
    refine isTrue_plain ?_
    k_fold
    refine truthy_ls H (H.isl (vs := pv q) (by tb_start)) (by rw [pv_len]; omega) ?_
    clear H; intro s H
    cases q with
    | nil =>
      rw [if_pos (by rfl)]
      refine x_one (st := .Return _ _) (wpAny_Return_some ?_)
      refine ev_Tuple ?_
      refine sp_cons ?_
      k_fold
      refine sp_cons ?_
      k_fold
      refine sp_cons ?_
      k_fold
      refine sp_nil ?_
      refine new_tuple H (by show 3 ≤ sizeLine; decide) ?_
      clear H; intro tp s H
      exact hnone P' tp s hB (H.sel (by k_sub))
    | cons x q =>
      rw [if_neg (by simp [pv])]
      refine x_nil ?_
      refine x_one (st := .Assign [.Name _ _] _ _) (wpAny_Assign_Name ?_)
      k_fold
      k_upd
      exact hnext P' (x :: q) uv vv av s hB (by simp) (H.sel (by k_sub))

theorem b_bwd {N sN : Nat} {nR aR pR : Nat → Addr} {es : List Ed} {c f : Nat → Nat → Int} {L fb cb ct cs cR cP pa sa qsa qta qa : Addr} {P S : List (Int × Value)} {qs : List (Nat × Tok)} {qtv : List Value} {uv vv av : Option Value} {gr : List (Str × Value)} {Q : Flow → Shared → Prop} (R : Room A 2) (T : KP mg mb K B.h) (hN : N ≤ 100)
    (hlt : ∀ e ∈ es, e.u < N ∧ e.v < N) (hs : sN < N) (hEd : EdF c f es)
    (hcR : (cR, .cell (some (.ref rg.ad))) ∈ l) (hcP : (cP, .cell (some (.ref rg.pr))) ∈ l)
    (HH : HB (rB es c f) sN N n0 S qs P [] fun _ _ => True)
    (H : St prog w B ((qa, .ls []) :: (pa, .dI P) :: (sa, .dI S) :: (qsa, .ls (pv qs)) :: (qta, .ls qtv) :: (L, .ns (bfF (some (.ref sa)) (some (.ref qta)) (some (.ref pa)) (some (.ref qsa)) (some (.ref qa)) uv vv av)) :: (gl rg (mkG N nR aR pR es) gr ++ l)) s)
    (hfound : ∀ v t tp P' s', Tr (rB es c f) sN P' → ((v : Nat) : Int) ∈ ks P' → (v : Int) ∈ ks S → (∀ k ∈ ks P', k ∈ ks S → k = v) → St prog w B ((tp, .tp [.int (v : Nat) t, .ref sa, .ref pa]) :: (pa, .dI P') :: (sa, .dI S) :: (gl rg (mkG N nR aR pR es) gr ++ l)) s' → Q (.ret (.ref tp)) s')
    (hnone : ∀ P' tp s', HB (rB es c f) sN N n0 S [] P' [] (fun _ _ => True) → St prog w B ((tp, .tp [.none, .none, .none]) :: (gl rg (mkG N nR aR pR es) gr ++ l)) s' → Q (.ret (.ref tp)) s')
    (hnext : ∀ P' q uv vv av s', HB (rB es c f) sN N n0 S [] P' q (fun _ _ => True) → q ≠ [] → St prog w B ((qa, .ls (pv q)) :: (pa, .dI P') :: (sa, .dI S) :: (qta, .ls qtv) :: (L, .ns (bfF (some (.ref sa)) (some (.ref qta)) (some (.ref pa)) (some (.ref qa)) (some (.ref qa)) uv vv av)) :: (gl rg (mkG N nR aR pR es) gr ++ l)) s' → Q .next s') :
    WP prog w A (execs (elseS bfIf) (bfEnv L fb cb ct cs cR cP)) Q s := by
  have F := fm_bf L fb cb ct cs cR cP
  have hrN : ∀ u v, rB es c f u v → v < N := fun u v h => by
    obtain ⟨e, he, h1, h2⟩ := h.1.get
    have := hlt e he
    omega
  refine x_cons (st := .For (.Name _ _) (.Name _ _) _ _ _) (x_for ?_)
  k_fold
  refine iter_list H (H.isl (vs := pv qs) (by tb_start)) ?_
  clear H; intro it s hne H
  refine for_it (it_list (vs := pv qs) R.none hne (fun l' => (qsa, .ls (pv qs)) ∈ l') fun l' s hm H => H.isl hm) (fun i l' => ∃ P' q uv vv av, HB (rB es c f) sN N n0 S (qs.drop i) P' q (fun _ _ => True) ∧ l' = (qa, .ls (pv q)) :: (pa, .dI P') :: (sa, .dI S) :: (qsa, .ls (pv qs)) :: (qta, .ls qtv) :: (L, .ns (bfF (some (.ref sa)) (some (.ref qta)) (some (.ref pa)) (some (.ref qsa)) (some (.ref qa)) uv vv av)) :: (gl rg (mkG N nR aR pR es) gr ++ l)) ?_ H ⟨P, [], _, _, _, HH, rfl⟩ ?_ ?_
  · rintro i l' ⟨P', q, uv, vv, av, _, rfl⟩; tb_start
  · rintro i v ex l' s hi ⟨hv, rfl⟩ ⟨P', q, uv, vv, av, hB, rfl⟩ H
    obtain ⟨⟨u, tu⟩, hx, rfl⟩ := pv_at hv
    have hdr : qs.drop i = (u, tu) :: qs.drop (i + 1) := by
      obtain ⟨h1, e1⟩ := List.getElem?_eq_some_iff.mp hx
      rw [List.drop_eq_getElem_cons h1, e1]
    rw [hdr] at hB
    obtain ⟨huP, hui⟩ := hB.fo (u, tu) (.head _)
    replace huP : (u : Int) ∈ ks P' := huP
    replace hui : u < N := hui
    simp only [List.nil_append] at H
    refine wpAny_assign_Name ?_
    k_upd
    refine x_one (st := .For (.Tuple _ _ _) _ _ _ _) (x_for ?_)
    refine ev_meth ?_
    k_fold
    have ga0 : (rg.pr, SO.dI (rows pR N)) ∈ gl rg (mkG N nR aR pR es) gr := g_pr
    refine sub_dI (kvs := rows pR N) (v := .ref (pR u)) H (H.dI (by tb_start)) (rows_at hui) ?_
    clear H; intro s H
    rw [← spd_self (mkG N nR aR pR es) u] at H
    obtain ⟨ep, H⟩ := H.open_dI (a := pR u) (kvs := pdOf es u) (lf := fun y => (it, soList qsa (i + 1)) :: (qa, .ls (pv q)) :: (pa, .dI P') :: (sa, .dI S) :: (qsa, .ls (pv qs)) :: (qta, .ls qtv) :: (L, .ns (bfF (some (.ref sa)) (some (.ref qta)) (some (.ref pa)) (some (.ref qsa)) (some (.ref qa)) (some (.int (u : Nat) tu)) vv av)) :: (gl rg ((mkG N nR aR pR es).spd u y) gr ++ l))
      fun y => .tail (.tail (.tail (.tail (.tail (.tail (.tail ((u_spd (S := mkG N nR aR pR es) hui).append _)))))))
    have g1 : (pR u, .dE (pdOf es u) ep) ∈ gl rg ((mkG N nR aR pR es).spd u (.dE (pdOf es u) ep)) gr := g_spd (S := mkG N nR aR pR es) hui
    intro pl
    refine gm_itemsE (kvi := pdOf es u) (ep := ep) H (by tb_start) ?_
    refine call_pos0 keeps_blt ?_
    refine c_items (kvi := pdOf es u) (ep := ep) H (by tb_start) ?_
    clear H; intro vw s H
    refine iter_items (kvi := pdOf es u) (ep := ep) H (by tb_start) ?_
    clear H; intro it2 s H
    have hsl : (pdOf es u).length = (ins es u).length := by unfold pdOf ins; rw [List.length_map]
    refine for_it (it_items R.none (fun l' => (pR u, .dE (pdOf es u) ep) ∈ l') fun l' s hm H => H.dE hm) (fun j l' => ∃ P' q vv av, HB (rB es c f) sN N n0 S (qs.drop (i + 1)) P' q (fun a b => a ≠ u ∨ ∃ k e, k < j ∧ (ins es u)[k]? = some e ∧ e.u = b) ∧ (u : Int) ∈ ks P' ∧ l' = (it, soList qsa (i + 1)) :: (qa, .ls (pv q)) :: (pa, .dI P') :: (sa, .dI S) :: (qsa, .ls (pv qs)) :: (qta, .ls qtv) :: (L, .ns (bfF (some (.ref sa)) (some (.ref qta)) (some (.ref pa)) (some (.ref qsa)) (some (.ref qa)) (some (.int (u : Nat) tu)) vv av)) :: (gl rg ((mkG N nR aR pR es).spd u (.dE (pdOf es u) ep)) gr ++ l)) ?_ H ⟨P', q, _, _, ?_, huP, rfl⟩ ?_ ?_
    · rintro j l' ⟨P', q, vv, av, _, _, rfl⟩; tb_start
    · refine hB.take fun a b hd => ?_
      rcases hd with hd | ⟨k, e, hk, _⟩
      · exact hd
      · exact absurd hk (Nat.not_lt_zero _)
    · rintro j v ex l' s hj ⟨k2, x2, t2, q2, hk2, rfl, rfl⟩ ⟨P', q, vv, av, hB, huP, rfl⟩ H
      obtain ⟨e, he, rfl, rfl, heu⟩ := pdOf_at hk2
      have hes : e ∈ es := (ins_v (List.mem_of_getElem? he)).1
      obtain ⟨t3, t4, hkv⟩ := hEd e hes
      have hrel : rB es c f u e.u ↔ f e.u e.v < c e.u e.v := by
        unfold rB
        rw [heu]
        exact ⟨fun h => h.2, fun h => ⟨List.mem_map.mpr ⟨e, hes, by rw [heu]⟩, h⟩⟩
      have hDn : ∀ a b, (a ≠ u ∨ ∃ k e, k < j + 1 ∧ (ins es u)[k]? = some e ∧ e.u = b) → (a ≠ u ∨ ∃ k e, k < j ∧ (ins es u)[k]? = some e ∧ e.u = b) ∨ a = u ∧ b = e.u := by
        rintro a b (h | ⟨k, e', hk, h1, h2⟩)
        · exact .inl (.inl h)
        · rcases Nat.lt_or_eq_of_le (Nat.le_of_lt_succ hk) with hk | rfl
          · exact .inl (.inr ⟨k, e', hk, h1, h2⟩)
          · rw [he] at h1
            cases h1
            by_cases hau : a = u
            · exact .inr ⟨hau, h2.symm⟩
            · exact .inl (.inl hau)
      have hPl : P'.length ≤ 100 := Nat.le_trans (hB.t.len hrN hs) hN
      simp only [List.cons_append, List.nil_append] at H
      refine assign_tup R.none H (t := q2) (by tb_start) ?_
      clear H; intro s H
      refine ao_cons (wpAny_assign_Name ?_)
      k_upd
      refine ao_cons (wpAny_assign_Name ?_)
      k_upd
      refine ao_nil ?_
      have ge : (e.at_, SO.dS e.kv) ∈ gl rg ((mkG N nR aR pR es).spd u (.dE (pdOf es u) ep)) gr := g_edP hes
      refine x_one (st := .If _ _ _ _) (wpAny_If ?_)
      refine isTrue_and ?_
      refine wpAny_isTrue_Compare1 ?_
      k_fold
      refine notIn_dI H (H.lo (x := .dI P') (by tb_start)) (H.dI (kvs := P') (by tb_start)) ?_
      clear H; intro s H
      refine wpAny_truthy_bool ?_
      by_cases hin : (e.u : Int) ∈ ks P'
      · rw [valueAt_isSome.mpr hin, if_neg (by decide), if_neg (by decide)]
        refine x_nil ?_
        exact ⟨_, ⟨P', q, _, _, hB.scan hDn fun _ => hin, huP, rfl⟩, H.sel (by k_sub)⟩
      · have hin' : (valueAt P' (e.u : Int)).isSome = false := by
          cases hq : (valueAt P' (e.u : Int)).isSome with
          | false => rfl
          | true => exact absurd (valueAt_isSome.mp hq) hin
        rw [hin', if_pos (by decide)]
        refine isTrue_and ?_
        refine wpAny_isTrue_Compare1 ?_
        k_fold
        refine sub_dS H (by tb_start) (by rw [hkv]; rfl) ?_
        clear H; intro s H
        k_fold
        refine sub_dS H (by tb_start) (by rw [hkv]; rfl) ?_
        clear H; intro s H
        refine lt_int ?_
        refine wpAny_truthy_bool ?_
        by_cases hres : f e.u e.v < c e.u e.v
        · rw [if_pos (by simpa using hres)]
          refine isTrue_and_nil ?_
          rw [if_pos rfl]
          -- own[v] = u
          refine x_cons (st := .Assign [.Subscript _ _ _] _ _) (wpAny_Assign_Subscript ?_)
          k_fold
          refine set_dI_new (kvs := P') H hin (by omega) (by tb_rel) ?_
          clear H; intro s H
          refine x_cons (st := .If _ _ _ _) (wpAny_If ?_)
          refine wpAny_isTrue_Compare1 ?_
          k_fold
          refine in_dI H (H.lo (x := .dI S) (by tb_start)) (H.dI (kvs := S) (by tb_start)) ?_
          clear H; intro s H
          refine wpAny_truthy_bool ?_
          have hNv : e.u < N := (hlt e hes).1
          have hks : ks (P' ++ [((e.u : Int), Value.int (u : Nat) tu)]) = ks P' ++ [(e.u : Int)] := by unfold ks; rw [List.map_append]; rfl
          by_cases hS : (e.u : Int) ∈ ks S
          · rw [valueAt_isSome.mpr hS, if_pos rfl]
            refine x_one (st := .Return _ _) (wpAny_Return_some ?_)
            refine ev_Tuple ?_
            refine sp_cons ?_
            k_fold
            refine sp_cons ?_
            k_fold
            refine sp_cons ?_
            k_fold
            refine sp_nil ?_
            refine new_tuple H (by show 3 ≤ sizeLine; decide) ?_
            clear H; intro tp s H
            have H2 := H.shut_dI (a := pR u) (kvs := pdOf es u) (ep := ep) (l' := (tp, .tp [.int (e.u : Nat) t2, .ref sa, .ref pa]) :: (q2, .tp [.int (e.u : Nat) t2, .ref e.at_]) :: (it2, soItems (pR u) (pdOf es u).length ep (j + 1)) :: (it, soList qsa (i + 1)) :: (qa, .ls (pv q)) :: (pa, .dI (P' ++ [((e.u : Int), Value.int (u : Nat) tu)])) :: (sa, .dI S) :: (qsa, .ls (pv qs)) :: (qta, .ls qtv) :: (L, .ns (bfF (some (.ref sa)) (some (.ref qta)) (some (.ref pa)) (some (.ref qsa)) (some (.ref qa)) (some (.int (u : Nat) tu)) (some (.int (e.u : Nat) t2)) (some (.ref e.at_)))) :: (gl rg ((mkG N nR aR pR es).spd u (.dI (pdOf es u))) gr ++ l))
              (.tail (.tail (.tail (.tail (.tail (.tail (.tail (.tail (.tail (.tail ((u_spd (S := mkG N nR aR pR es) hui).append _)))))))))))
            have e3 : (mkG N nR aR pR es).spd u (.dI (pdOf es u)) = mkG N nR aR pR es := spd_self (mkG N nR aR pR es) u
            rw [e3] at H2
            refine hfound e.u t2 tp _ s (.snoc hB.t huP hin (hrel.mpr hres)) (by rw [hks]; exact List.mem_append_right _ (.head _)) hS (fun k hk hk2 => ?_) (H2.sel (by k_sub))
            rw [hks] at hk
            rcases List.mem_append.mp hk with hk | hk
            · exact absurd hk2 (hB.dis k hk)
            · exact List.mem_singleton.mp hk
          · have hS' : (valueAt S (e.u : Int)).isSome = false := by
              cases hq : (valueAt S (e.u : Int)).isSome with
              | false => rfl
              | true => exact absurd (valueAt_isSome.mp hq) hS
            rw [hS', if_neg (by decide)]
            refine x_nil ?_
            refine x_one (st := .Expr _ _) (wpAny_Expr_any ?_)
            refine ev_meth ?_
            k_fold
            intro pl
            refine gm_append H (vs := pv q) (by tb_start) ?_
            refine call_pos ?_
            refine sp_cons ?_
            k_fold
            refine sp_nil ⟨keeps_blt, ?_⟩
            have hql : q.length ≤ 100 := by have := hB.len; omega
            refine call_append (vs := pv q) H (by rw [pv_len, sizeLine_eq]; omega) (by tb_rel) ?_
            clear H; intro s H
            refine ⟨_, ⟨_, _, some (.int (e.u : Nat) t2), some (.ref e.at_), hB.add (t := tu) (t' := t2) hDn huP hin hS (hrel.mpr hres) hNv, by rw [hks]; exact List.mem_append_left _ huP, rfl⟩, ?_⟩
            have e5 : pv (q ++ [(e.u, t2)]) = pv q ++ [Value.int (e.u : Nat) t2] := pv_app _ _
            rw [e5]
            exact H.sel (by k_sub)
        · rw [if_neg (by simpa using hres), if_neg (by decide)]
          refine x_nil ?_
          exact ⟨_, ⟨P', q, _, _, hB.scan hDn fun h => absurd (hrel.mp h) hres, huP, rfl⟩, H.sel (by k_sub)⟩
    · rintro l' s ⟨P', q, vv, av, hB, huP, rfl⟩ H
      refine x_nil ?_
      have H2 := H.shut_dI (a := pR u) (kvs := pdOf es u) (ep := ep) (.tail (.tail (.tail (.tail (.tail (.tail (.tail ((u_spd (z := .dI (pdOf es u)) (S := mkG N nR aR pR es) hui).append _))))))))
      have e3 : (mkG N nR aR pR es).spd u (.dI (pdOf es u)) = mkG N nR aR pR es := spd_self (mkG N nR aR pR es) u
      rw [e3] at H2
      refine ⟨_, ⟨P', q, _, _, _, hB.full fun a b hr => ?_, rfl⟩, H2⟩
      by_cases hau : a = u
      · subst hau
        obtain ⟨e, he, h1, h2⟩ := hr.1.get
        have hm : e ∈ ins es a := by unfold ins; rw [List.mem_filter]; exact ⟨he, by simp [h2]⟩
        obtain ⟨k, hk⟩ := List.getElem?_of_mem hm
        have hkl := (List.getElem?_eq_some_iff.mp hk).1
        exact .inr ⟨k, e, by omega, hk, h1⟩
      · exact .inl hau
  · rintro l' s ⟨P', q, uv, vv, av, hB, rfl⟩ H
    rw [pv_len, List.drop_length] at hB
    refine x_nil ?_
    have hPl : P'.length ≤ 100 := Nat.le_trans (hB.t.len hrN hs) hN
    have hql : q.length ≤ 100 := by have := hB.len; omega
    refine x_cons (st := .If _ _ _ _) (wpAny_If ?_)
    refine isTrue_not ?_
    refine isTrue_plain ?_
    k_fold
    refine truthy_ls H (H.isl (vs := pv q) (by tb_start)) (by rw [pv_len]; omega) ?_
    clear H; intro s H
    cases q with
    | nil =>
      rw [if_pos (by rfl)]
      refine x_one (st := .Return _ _) (wpAny_Return_some ?_)
      refine ev_Tuple ?_
      refine sp_cons ?_
      k_fold
      refine sp_cons ?_
      k_fold
      refine sp_cons ?_
      k_fold
      refine sp_nil ?_
      refine new_tuple H (by show 3 ≤ sizeLine; decide) ?_
      clear H; intro tp s H
      exact hnone P' tp s hB (H.sel (by k_sub))
    | cons x q =>
      rw [if_neg (by simp [pv])]
      refine x_nil ?_
      refine x_one (st := .Assign [.Name _ _] _ _) (wpAny_Assign_Name ?_)
      k_fold
      k_upd
      exact hnext P' (x :: q) uv vv av s hB (by simp) (H.sel (by k_sub))

end
end Mine

-- MD4
namespace Mine
open PySem PySem.W PySem.Calls PyProof.Rows Builtin Builtin.ObjectAttr

local macro_rules | `(tactic| tb_start) => `(tactic| first | with_reducible exact List.mem_cons_self | with_reducible assumption | (with_reducible apply List.mem_cons_of_mem; tb_start) | (with_reducible apply List.mem_append_left; tb_start) | (with_reducible apply List.mem_append_right; tb_start) | with_reducible exact g_x | with_reducible exact g_dx | with_reducible exact g_gr | with_reducible exact g_nd | with_reducible exact g_ad | with_reducible exact g_pr)
local macro_rules | `(tactic| tb_rel) => `(tactic| first | with_reducible exact Upd1.head | with_reducible exact Put.head | (with_reducible apply Upd1.tail; tb_rel) | (with_reducible apply Put.tail; tb_rel) | (with_reducible apply Upd1.right; tb_rel) | (with_reducible apply Upd1.append; tb_rel))
local macro_rules | `(tactic| k_ne) => `(tactic| first | (with_reducible apply Apart.head; tb_start) | (with_reducible apply Apart.head'; tb_start) | (with_reducible apply Apart.tail; k_ne))
local macro_rules | `(tactic| k_same) => `(tactic| first | with_reducible exact Split.head | (with_reducible apply Split.tail; k_same) | (with_reducible apply Split.skip; k_same))
local macro_rules | `(tactic| k_same2) => `(tactic| first | with_reducible exact SplitL.head | with_reducible exact SplitL.last | (with_reducible apply SplitL.tail; k_same2) | (with_reducible apply SplitL.skip; k_same2))
local macro_rules | `(tactic| k_sub) => `(tactic| first | with_reducible exact Sel.nil | with_reducible exact Sel.all | (with_reducible refine Sel.cons (by k_same) ?_; k_sub) | (with_reducible refine Sel.app (by k_same2) ?_; k_sub) | (with_reducible exact Sel.one (by k_same2)))
set_option hygiene false in
local macro_rules | `(tactic| k_flat) => `(tactic| simp only [frameOf, List.map_cons, List.map_nil, List.cons_append, List.nil_append, List.append_nil] at H)
set_option hygiene false in
local macro_rules | `(tactic| tb_lt) => `(tactic| first
  | (with_reducible refine ev_loc F H (by tb_start) (by tb_start) (by tb_start) ?_)
  | (with_reducible refine ev_int H ?_; clear H; intro _ s H)
  | (with_reducible refine ev_str H ?_; clear H; intro _ s H)
  | (with_reducible refine ev_none ?_)
  | (with_reducible refine ev_bool ?_)
  | (with_reducible refine ev_cel F H (by tb_start) (by tb_start) ?_)
  | (with_reducible refine Attribute_any_ ?_)
  | (with_reducible refine Subscript_ ?_)
  | (with_reducible refine wpAny_BinOp ?_)
  | (with_reducible refine wpAny_Compare1 ?_)
  | ((with_reducible show wpAny _ _ (getAttr _ _ _) _ _ _); refine at_own H T.X (H.inst (by tb_start) (by tb_start)) T.o__adj_395 (by rfl) (by rfl) ?_; clear H; intro s H)
  | ((with_reducible show wpAny _ _ (getAttr _ _ _) _ _ _); refine at_own H T.X (H.inst (by tb_start) (by tb_start)) T.o__node_395 (by rfl) (by rfl) ?_; clear H; intro s H)
  | ((with_reducible show wpAny _ _ (getAttr _ _ _) _ _ _); refine at_own H T.X (H.inst (by tb_start) (by tb_start)) T.o__pred_395 (by rfl) (by rfl) ?_; clear H; intro s H)
  | ((with_reducible show wpAny _ _ (getAttr _ _ _) _ _ _); refine at_own H T.X (H.inst (by tb_start) (by tb_start)) T.o_graph_395 (by rfl) (by rfl) ?_; clear H; intro s H))
set_option hygiene false in
local macro_rules | `(tactic| k_upd) => `(tactic| (refine st_loc2 F H (by tb_start) (by tb_start) (by tb_rel) (by tb_rel) ?_; clear H; intro s H))
set_option hygiene false in
local macro_rules | `(tactic| k_fold) => `(tactic| (repeat tb_lt))

section
variable {w : World} {A : Around} {B : Bs} {l l' : Ledger} {s : Shared} {mg mb : Str → Option Value} {K : Frag} {v : Value} {g rg : GA}
abbrev soBfs (cs ct cR cP c' : Addr) : SO := soFn bfsQ (argsS dBfs) (bodyS dBfs) (scopeS dBfs) [("t", ct), ("s", cs), ("R_succ", cR), ("R_pred", cP)] c'
theorem HB.other {r : Nat → Nat → Prop} {root N n0 : Nat} {S S' P : List (Int × Value)} {fr q : List (Nat × Tok)} {D : Nat → Nat → Prop} (h : HB r root N n0 S fr P q D) (hd : ∀ k ∈ ks S', k ∉ ks P) : HB r root N n0 S' fr P q D :=
  ⟨h.t, fun k hk hk' => hd k hk' hk, h.cl, h.fo, h.qo, h.len⟩
def bfJ (B : Bs) (es : List Ed) (c f : Nat → Nat → Int) (N sN tN : Nat) (L : Addr) (G : Ledger) (m : Nat) (l' : Ledger) : Prop :=
  ∃ P S qs qt pa sa qsa qta q uv vv av n1 n2, HB (rF es c f) sN N n1 S qs P [] (fun _ _ => True) ∧ HB (rB es c f) tN N n2 P qt S [] (fun _ _ => True) ∧ m = (N - P.length) + (N - S.length) ∧ qs.length ≤ 100 ∧ qt.length ≤ 100 ∧
    l' = (pa, .dI P) :: (sa, .dI S) :: (qsa, .ls (pv qs)) :: (qta, .ls (pv qt)) :: (L, .ns (bfF (some (.ref pa)) (some (.ref qsa)) (some (.ref sa)) (some (.ref qta)) q uv vv av)) :: G
theorem c_bfs {N sN tN : Nat} {nR aR pR : Nat → Addr} {es : List Ed} {c f : Nat → Nat → Int} {ts tt : Tok} {fb cb cs ct cR cP : Addr} {gr : List (Str × Value)} {Q : Value → Shared → Prop} (R : Room A 3) (T : KP mg mb K B.h) (hN : N ≤ 100)
    (hlt : ∀ e ∈ es, e.u < N ∧ e.v < N) (hs : sN < N) (ht : tN < N) (hst : sN ≠ tN) (hEd : EdF c f es)
    (hfb : (fb, soBfs cs ct cR cP cb) ∈ l) (hcb : (cb, soCode bfsQ) ∈ l) (hcs : (cs, .cell (some (.int (sN : Nat) ts))) ∈ l) (hct : (ct, .cell (some (.int (tN : Nat) tt))) ∈ l) (hcR : (cR, .cell (some (.ref rg.ad))) ∈ l) (hcP : (cP, .cell (some (.ref rg.pr))) ∈ l)
    (H : St prog w B (gl rg (mkG N nR aR pR es) gr ++ l) s)
    (hfound : ∀ v t tp pa sa P S s', Tr (rF es c f) sN P → Tr (rB es c f) tN S → ((v : Nat) : Int) ∈ ks P → (v : Int) ∈ ks S → (∀ k ∈ ks P, k ∈ ks S → k = v) → St prog w B ((tp, .tp [.int (v : Nat) t, .ref pa, .ref sa]) :: (pa, .dI P) :: (sa, .dI S) :: (gl rg (mkG N nR aR pR es) gr ++ l)) s' → Q (.ref tp) s')
    (hnone : ∀ (X : Nat → Prop) tp s', X sN → ¬ X tN → (∀ u v, X u → ¬ X v → HasE es u v → c u v ≤ f u v) → St prog w B ((tp, .tp [.none, .none, .none]) :: (gl rg (mkG N nR aR pR es) gr ++ l)) s' → Q (.ref tp) s') :
    WC prog w A (.ref fb) [] [] Q s := by
  refine call_def [] ["pred", "q_s", "succ", "q_t", "q", "u", "v", "attr"] R T.nolimit (H.fnAt (List.mem_append_right _ hfb) (List.mem_append_right _ hcb)) (by kernel_rfl) fun name doc pm an ct' => ?_
  refine wpAny_of_eq (a := ([] : List (Str × Value))) (by kernel_rfl) ?_
  refine ⟨_, H, rfl, fun L s H => ?_⟩
  have R1 := Room.deeper (env := bfEnv L fb cb ct cs cR cP) (n := 2) R
  have F := fm_bf L fb cb ct cs cR cP
  k_flat
  show WP prog w (A.deeper (bfEnv L fb cb ct cs cR cP)) (execs (bodyS dBfs) (bfEnv L fb cb ct cs cR cP)) _ s
  have hrF : ∀ u v, rF es c f u v → v < N := fun u v h => by
    obtain ⟨e, he, h1, h2⟩ := h.1.get
    have := hlt e he
    omega
  have hrB : ∀ u v, rB es c f u v → v < N := fun u v h => by
    obtain ⟨e, he, h1, h2⟩ := h.1.get
    have := hlt e he
    omega
  -- pred = {s: None}; q_s = [s]; succ = {t: None}; q_t = [t]
  refine x_cons (st := .Assign [.Name _ _] _ _) (wpAny_Assign_Name ?_)
  refine ev_dict1I H fun pa s H => ?_
  k_fold
  refine ⟨_, _, _, rfl, H, ?_⟩
  clear H; intro s H
  k_upd
  refine x_cons (st := .Assign [.Name _ _] _ _) (wpAny_Assign_Name ?_)
  refine ev_List ?_
  refine sp_cons ?_
  k_fold
  refine sp_nil ?_
  refine new_list H (by show 1 ≤ sizeLine; decide) ?_
  clear H; intro qsa s H
  k_upd
  refine x_cons (st := .Assign [.Name _ _] _ _) (wpAny_Assign_Name ?_)
  refine ev_dict1I H fun sa s H => ?_
  k_fold
  refine ⟨_, _, _, rfl, H, ?_⟩
  clear H; intro s H
  k_upd
  refine x_cons (st := .Assign [.Name _ _] _ _) (wpAny_Assign_Name ?_)
  refine ev_List ?_
  refine sp_cons ?_
  k_fold
  refine sp_nil ?_
  refine new_list H (by show 1 ≤ sizeLine; decide) ?_
  clear H; intro qta s H
  k_upd
  have H2 : St prog w B ((qta, .ls (pv [(tN, tt)])) :: (sa, .dI [((tN : Int), .none)]) :: (qsa, .ls (pv [(sN, ts)])) :: (pa, .dI [((sN : Int), .none)]) :: (L, .ns (bfF (some (.ref pa)) (some (.ref qsa)) (some (.ref sa)) (some (.ref qta)) none none none none)) :: (gl rg (mkG N nR aR pR es) gr ++ l)) s := H
  clear H
  have H : St prog w B ((pa, .dI [((sN : Int), .none)]) :: (sa, .dI [((tN : Int), .none)]) :: (qsa, .ls (pv [(sN, ts)])) :: (qta, .ls (pv [(tN, tt)])) :: (L, .ns (bfF (some (.ref pa)) (some (.ref qsa)) (some (.ref sa)) (some (.ref qta)) none none none none)) :: (gl rg (mkG N nR aR pR es) gr ++ l)) s := H2.sel (by k_sub)
  clear H2
  refine x_one (st := .While _ _ _ _) (x_while (bfJ B es c f N sN tN L (gl rg (mkG N nR aR pR es) gr ++ l)) _ ⟨_, _, _, _, _, _, _, _, _, _, _, _, 1, 1, ?_, ?_, rfl, (by show 1 ≤ 100; decide), (by show 1 ≤ 100; decide), rfl⟩ H ?_)
  · refine ⟨.root, fun k hk hk' => ?_, fun u hu h1 _ => ?_, fun x hx => ?_, (fun x hx => by cases hx), rfl⟩
    · have e1 : k = (sN : Int) := by simpa [ks] using hk
      have e2 : k = (tN : Int) := by simpa [ks] using hk'
      omega
    · have e1 : (u : Int) = (sN : Int) := by simpa [ks] using hu
      exact absurd (show u ∈ [(sN, ts)].map (·.1) from by rw [show u = sN from by omega]; exact .head _) h1
    · rw [List.mem_singleton] at hx; subst hx; exact ⟨by simp [ks], hs⟩
  · refine ⟨.root, fun k hk hk' => ?_, fun u hu h1 _ => ?_, fun x hx => ?_, (fun x hx => by cases hx), rfl⟩
    · have e1 : k = (tN : Int) := by simpa [ks] using hk
      have e2 : k = (sN : Int) := by simpa [ks] using hk'
      omega
    · have e1 : (u : Int) = (tN : Int) := by simpa [ks] using hu
      exact absurd (show u ∈ [(tN, tt)].map (·.1) from by rw [show u = tN from by omega]; exact .head _) h1
    · rw [List.mem_singleton] at hx; subst hx; exact ⟨by simp [ks], ht⟩
  clear H
  rintro m l' s ⟨P, S, qs, qt, pa, sa, qsa, qta, q, uv, vv, av, n1, n2, hP, hS, rfl, hlq, hlt2, rfl⟩ H
  refine isTrue_plain ?_
  k_fold
  refine wpAny_truthy_bool ?_
  rw [if_pos rfl]
  have hqs : qs.length < 2 ^ 62 ∨ True := .inr trivial
  -- q = []
  refine x_cons (st := .Assign [.Name _ _] _ _) (wpAny_Assign_Name ?_)
  refine ev_List ?_
  refine sp_nil ?_
  refine new_list H (by show 0 ≤ sizeLine; decide) ?_
  clear H; intro qa s H
  k_upd
  refine x_one (st := .If _ _ _ _) (wpAny_If ?_)
  refine wpAny_isTrue_Compare1 ?_
  refine ev_call_name ?_
  refine ev_blt F H T.toTp (by tb_start) T.gb_len rfl (by decide) ?_
  refine call_pos ?_
  refine sp_cons ?_
  k_fold
  refine sp_nil ⟨keeps_blt, ?_⟩
  refine len_ H (H.isl (vs := pv qs) (by tb_start)) (by rw [pv_len]; omega) ?_
  clear H; intro t1 s H
  refine ev_call_name ?_
  refine ev_blt F H T.toTp (by tb_start) T.gb_len rfl (by decide) ?_
  refine call_pos ?_
  refine sp_cons ?_
  k_fold
  refine sp_nil ⟨keeps_blt, ?_⟩
  refine len_ H (H.isl (vs := pv qt) (by tb_start)) (by rw [pv_len]; omega) ?_
  clear H; intro t2 s H
  refine le_int ?_
  refine wpAny_truthy_bool ?_
  by_cases hle : ((pv qs).length : Int) ≤ ((pv qt).length : Int)
  · rw [if_pos (by simpa using hle)]
    refine b_fwd (N := N) (sN := sN) (n0 := n1) (es := es) (c := c) (f := f) (L := L) (pa := pa) (sa := sa) (qsa := qsa) (qta := qta) (qa := qa) (P := P) (S := S) (qs := qs) (qtv := pv qt) (R1.less (by decide)) T hN hlt hs hEd hcR hcP hP H ?_ ?_ ?_
    · intro v t tp P' s' h1 h2 h3 h4 H'
      exact hfound v t tp pa sa P' S s' h1 hS.t h2 h3 h4 H'
    · intro P' tp s' h1 H'
      refine hnone (fun u => (u : Int) ∈ ks P') tp s' h1.t.root_mem (fun h => h1.dis _ h hS.t.root_mem) (fun u v hu hv hE => ?_) H'
      exact Int.not_lt.mp fun hlt' => hv (h1.cl u hu (by simp) (by simp) v ⟨hE, hlt'⟩ trivial)
    · intro P' q' uv' vv' av' s' h1 h2 H'
      refine ⟨_, _, ?_, ⟨P', S, q', qt, pa, sa, qa, qta, some (.ref qa), uv', vv', av', P'.length, n2, h1.turn, hS.other h1.dis, rfl, (by have e1 := h1.len; have e3 := h1.t.len hrF hs; omega), hlt2, rfl⟩, H'.sel (by k_sub)⟩
      have e1 := h1.len
      have e2 := hP.len
      have e3 := h1.t.len hrF hs
      have e4 : 0 < q'.length := List.length_pos_iff.mpr h2
      simp only [List.length_nil] at e2
      omega
  · rw [if_neg (by simpa using hle)]
    refine b_bwd (N := N) (sN := tN) (n0 := n2) (es := es) (c := c) (f := f) (L := L) (pa := sa) (sa := pa) (qsa := qta) (qta := qsa) (qa := qa) (P := S) (S := P) (qs := qt) (qtv := pv qs) (R1.less (by decide)) T hN hlt ht hEd hcR hcP hS (H.sel (by k_sub)) ?_ ?_ ?_
    · intro v t tp S' s' h1 h2 h3 h4 H'
      exact hfound v t tp pa sa P S' s' hP.t h1 h3 h2 (fun k hk hk' => h4 k hk' hk) (H'.sel (by k_sub))
    · intro S' tp s' h1 H'
      refine hnone (fun u => (u : Int) ∉ ks S') tp s' (fun h => h1.dis _ h hP.t.root_mem) (fun h => h h1.t.root_mem) (fun u v hu hv hE => ?_) H'
      refine Int.not_lt.mp fun hlt' => hv fun hv' => hu (h1.cl v hv' (by simp) (by simp) u ⟨hE, hlt'⟩ trivial)
    · intro S' q' uv' vv' av' s' h1 h2 H'
      refine ⟨_, _, ?_, ⟨P, S', qs, q', pa, sa, qsa, qa, some (.ref qa), uv', vv', av', n1, S'.length, hP.other h1.dis, h1.turn, rfl, hlq, (by have e1 := h1.len; have e3 := h1.t.len hrB ht; omega), rfl⟩, H'.sel (by k_sub)⟩
      have e1 := h1.len
      have e2 := hS.len
      have e3 := h1.t.len hrB ht
      have e4 : 0 < q'.length := List.length_pos_iff.mpr h2
      simp only [List.length_nil] at e2
      omega
end
end Mine

-- MD5
namespace Mine
open PySem PySem.W PySem.Calls PyProof.Rows Builtin Builtin.ObjectAttr

local macro_rules | `(tactic| tb_start) => `(tactic| first | with_reducible exact List.mem_cons_self | with_reducible assumption | (with_reducible apply List.mem_cons_of_mem; tb_start) | (with_reducible apply List.mem_append_left; tb_start) | (with_reducible apply List.mem_append_right; tb_start) | with_reducible exact g_x | with_reducible exact g_dx | with_reducible exact g_gr | with_reducible exact g_nd | with_reducible exact g_ad | with_reducible exact g_pr)
local macro_rules | `(tactic| tb_rel) => `(tactic| first | with_reducible exact Upd1.head | with_reducible exact Put.head | (with_reducible apply Upd1.tail; tb_rel) | (with_reducible apply Put.tail; tb_rel) | (with_reducible apply Upd1.right; tb_rel) | (with_reducible apply Upd1.append; tb_rel))
local macro_rules | `(tactic| k_ne) => `(tactic| first | (with_reducible apply Apart.head; tb_start) | (with_reducible apply Apart.head'; tb_start) | (with_reducible apply Apart.tail; k_ne))
local macro_rules | `(tactic| k_same) => `(tactic| first | with_reducible exact Split.head | (with_reducible apply Split.tail; k_same) | (with_reducible apply Split.skip; k_same))
local macro_rules | `(tactic| k_same2) => `(tactic| first | with_reducible exact SplitL.head | with_reducible exact SplitL.last | (with_reducible apply SplitL.tail; k_same2) | (with_reducible apply SplitL.skip; k_same2))
local macro_rules | `(tactic| k_sub) => `(tactic| first | with_reducible exact Sel.nil | with_reducible exact Sel.all | (with_reducible refine Sel.cons (by k_same) ?_; k_sub) | (with_reducible refine Sel.app (by k_same2) ?_; k_sub) | (with_reducible exact Sel.one (by k_same2)))
set_option hygiene false in
local macro_rules | `(tactic| k_flat) => `(tactic| simp only [frameOf, List.map_cons, List.map_nil, List.cons_append, List.nil_append, List.append_nil] at H)
set_option hygiene false in
local macro_rules | `(tactic| tb_lt) => `(tactic| first
  | (with_reducible refine ev_loc F H (by tb_start) (by tb_start) (by tb_start) ?_)
  | (with_reducible refine ev_int H ?_; clear H; intro _ s H)
  | (with_reducible refine ev_str H ?_; clear H; intro _ s H)
  | (with_reducible refine ev_none ?_)
  | (with_reducible refine ev_bool ?_)
  | (with_reducible refine ev_cel F H (by tb_start) (by tb_start) ?_)
  | (with_reducible refine Attribute_any_ ?_)
  | (with_reducible refine Subscript_ ?_)
  | (with_reducible refine wpAny_BinOp ?_)
  | (with_reducible refine wpAny_Compare1 ?_)
  | ((with_reducible show wpAny _ _ (getAttr _ _ _) _ _ _); refine at_own H T.X (H.inst (by tb_start) (by tb_start)) T.o__adj_395 (by rfl) (by rfl) ?_; clear H; intro s H)
  | ((with_reducible show wpAny _ _ (getAttr _ _ _) _ _ _); refine at_own H T.X (H.inst (by tb_start) (by tb_start)) T.o__node_395 (by rfl) (by rfl) ?_; clear H; intro s H)
  | ((with_reducible show wpAny _ _ (getAttr _ _ _) _ _ _); refine at_own H T.X (H.inst (by tb_start) (by tb_start)) T.o__pred_395 (by rfl) (by rfl) ?_; clear H; intro s H)
  | ((with_reducible show wpAny _ _ (getAttr _ _ _) _ _ _); refine at_own H T.X (H.inst (by tb_start) (by tb_start)) T.o_graph_395 (by rfl) (by rfl) ?_; clear H; intro s H))
set_option hygiene false in
local macro_rules | `(tactic| k_upd) => `(tactic| (refine st_loc2 F H (by tb_start) (by tb_start) (by tb_rel) (by tb_rel) ?_; clear H; intro s H))
set_option hygiene false in
local macro_rules | `(tactic| k_fold) => `(tactic| (repeat tb_lt))

/-! paths traced back -/
inductive TP (P : List (Int × Value)) (root : Nat) : Nat → List Nat → Prop
  | root : TP P root root []
  | step {v u : Nat} {t : Tok} {p : List Nat} : v ≠ root → valueAt P (v : Int) = some (.int (u : Nat) t) → TP P root u p → TP P root v (u :: p)
theorem valueAt_app {P : List (Int × Value)} {k : Int} {x : Int × Value} (h : k ≠ x.1) : valueAt (P ++ [x]) k = valueAt P k := by
  unfold valueAt
  rw [List.find?_append]
  have : List.find? (fun kv => decide (kv.1 = k)) [x] = none := by
    rw [List.find?_cons]
    have : decide (x.1 = k) = false := by simpa using fun e => h e.symm
    rw [this]; rfl
  rw [this, Option.or_none]
theorem TP.app {P : List (Int × Value)} {root v : Nat} {p : List Nat} {x : Int × Value} (h : TP P root v p) (hv : (v : Int) ∈ ks P) (hp : ∀ y ∈ p, (y : Int) ∈ ks P) (hx : x.1 ∉ ks P) : TP (P ++ [x]) root v p := by
  induction h with
  | root => exact .root
  | @step v u t p h1 h2 h3 ih =>
    refine .step (t := t) h1 ?_ (ih (hp _ (.head _)) fun y hy => hp y (.tail _ hy))
    rw [valueAt_app (fun e => hx (e ▸ hv)), h2]
theorem Chn.cons2 {r : Nat → Nat → Prop} {a b : Nat} {t : List Nat} (h : r a b) (h' : Chn r (b :: t)) : Chn r (a :: b :: t) := ⟨h, h'⟩
theorem Tr.trace {r : Nat → Nat → Prop} {root : Nat} {P : List (Int × Value)} (h : Tr r root P) : ∀ v : Nat, (v : Int) ∈ ks P → ∃ p, TP P root v p ∧ (∀ x ∈ v :: p, (x : Int) ∈ ks P) ∧ (v :: p).Nodup ∧ Chn (fun a b => r b a) (v :: p) ∧ (v :: p).getLast? = some root := by
  induction h with
  | root =>
    intro v hv
    have : v = root := by have : (v : Int) = root := by simpa [ks] using hv
                          omega
    subst this
    exact ⟨[], .root, fun x hx => by rw [List.mem_singleton] at hx; subst hx; exact hv, by simp, trivial, rfl⟩
  | @snoc P u v t hT hu hn hr ih =>
    have hks : ks (P ++ [((v : Int), Value.int (u : Nat) t)]) = ks P ++ [(v : Int)] := by unfold ks; rw [List.map_append]; rfl
    intro w hw
    rw [hks] at hw
    by_cases hwP : (w : Int) ∈ ks P
    · obtain ⟨p, h1, h2, h3, h4, h5⟩ := ih w hwP
      exact ⟨p, h1.app hwP (fun y hy => h2 y (.tail _ hy)) hn, fun x hx => by rw [hks]; exact List.mem_append_left _ (h2 x hx), h3, h4, h5⟩
    · have hwv : w = v := by
        rcases List.mem_append.mp hw with h | h
        · exact absurd h hwP
        · rw [List.mem_singleton] at h; omega
      subst hwv
      obtain ⟨p, h1, h2, h3, h4, h5⟩ := ih u hu
      refine ⟨u :: p, ?_, ?_, ?_, ?_, ?_⟩
      · refine .step (t := t) (fun e => hn (e ▸ hT.root_mem)) ?_ (h1.app hu (fun y hy => h2 y (.tail _ hy)) hn)
        have nd : (ks (P ++ [((w : Int), Value.int (u : Nat) t)])).Nodup := (Tr.snoc hT hu hn hr).nd
        exact valueAt_mem nd (List.mem_append_right _ (.head _))
      · intro x hx
        rw [hks]
        cases hx with
        | head => exact List.mem_append_right _ (.head _)
        | tail _ hx => exact List.mem_append_left _ (h2 x hx)
      · exact List.nodup_cons.mpr ⟨fun hm => hn (h2 _ hm), h3⟩
      · exact ⟨hr, h4⟩
      · rw [List.getLast?_cons_cons]; exact h5
theorem Chn.join {r : Nat → Nat → Prop} {v : Nat} {b : List Nat} : ∀ {a : List Nat}, Chn r (a ++ [v]) → Chn r (v :: b) → Chn r (a ++ v :: b)
  | [], _, h => h
  | [x], h, h' => ⟨h.1, h'⟩
  | x :: y :: a, h, h' => ⟨h.1, Chn.join (a := y :: a) h.2 h'⟩
theorem Chn.rev {r : Nat → Nat → Prop} : ∀ {p : List Nat}, Chn (fun a b => r b a) p → Chn r p.reverse
  | [], _ => trivial
  | [_], _ => trivial
  | a :: b :: t, h => by
    have ih := Chn.rev (p := b :: t) h.2
    rw [List.reverse_cons, List.reverse_cons, List.append_assoc]
    rw [List.reverse_cons] at ih
    exact Chn.join ih ⟨h.1, trivial⟩
theorem Chn.imp {r r' : Nat → Nat → Prop} (hr : ∀ a b, r a b → r' a b) : ∀ {p : List Nat}, Chn r p → Chn r' p
  | [], _ => trivial
  | [_], _ => trivial
  | a :: b :: t, h => ⟨hr _ _ h.1, Chn.imp hr (p := b :: t) h.2⟩
theorem path_of {es : List Ed} {c f : Nat → Nat → Int} {sN tN v : Nat} {P S : List (Int × Value)} (hP : Tr (rF es c f) sN P) (hS : Tr (rB es c f) tN S) (h1 : (v : Int) ∈ ks P) (h2 : (v : Int) ∈ ks S) (h3 : ∀ k ∈ ks P, k ∈ ks S → k = v) :
    ∃ p1 p2, TP P sN v p1 ∧ TP S tN v p2 ∧ p1.length ≤ P.length ∧ p2.length ≤ S.length ∧ (p1.reverse ++ v :: p2).Nodup ∧ Chn (rF es c f) (p1.reverse ++ v :: p2) ∧ (p1.reverse ++ v :: p2).head? = some sN ∧ (p1.reverse ++ v :: p2).getLast? = some tN := by
  obtain ⟨p1, a1, a2, a3, a4, a5⟩ := hP.trace v h1
  obtain ⟨p2, b1, b2, b3, b4, b5⟩ := hS.trace v h2
  have inj : ∀ l : List Nat, l.Nodup → (l.map fun (x : Nat) => (x : Int)).Nodup := fun l nd => List.Pairwise.map _ (fun a b h q => h (by have q : (a : Int) = (b : Int) := q; omega)) nd
  have len : ∀ (l : List Nat) (P : List (Int × Value)), l.Nodup → (∀ x ∈ l, (x : Int) ∈ ks P) → l.length ≤ P.length := by
    intro l P nd hm
    have := (inj l nd).length_le_of_subset (l₂ := ks P) (fun k hk => by obtain ⟨x, hx, rfl⟩ := List.mem_map.mp hk; exact hm x hx)
    simpa [ks] using this
  refine ⟨p1, p2, a1, b1, ?_, ?_, ?_, ?_, ?_, ?_⟩
  · have := len (v :: p1) P a3 a2; rw [List.length_cons] at this; omega
  · have := len (v :: p2) S b3 b2; rw [List.length_cons] at this; omega
  · rw [List.nodup_append]
    refine ⟨(List.reverse_perm p1).nodup_iff.mpr (List.nodup_cons.mp a3).2, b3, fun x hx y hy e => ?_⟩
    subst e
    rw [List.mem_reverse] at hx
    have := h3 x (a2 x (.tail _ hx)) (b2 x hy)
    have e : x = v := by omega
    subst e
    exact (List.nodup_cons.mp a3).1 hx
  · refine Chn.join ?_ (Chn.imp (fun a b h => h) b4)
    have := Chn.rev a4
    rwa [List.reverse_cons] at this
  · have : (p1.reverse ++ v :: p2).head? = (v :: p1).getLast? := by
      cases p1 with
      | nil => rfl
      | cons x t =>
        rw [List.getLast?_cons_cons]
        rw [List.head?_append, List.head?_reverse]
        cases hq : (x :: t).getLast? with
        | none => simp at hq
        | some y => rfl
    rw [this]; exact a5
  · rw [List.getLast?_append]
    rw [b5]; rfl

def coWhile : Stmt := nthS (bodyS dCore) 7
abbrev coEnv (L cI cR cP ct cs : Addr) : Env := envX "edmonds_karp_core" (scopeS dCore) L 416 (.ref 415) [("inf", cI), ("R_succ", cR), ("R_pred", cP), ("t", ct), ("s", cs)]
theorem fm_co (L cI cR cP ct cs : Addr) : Fm (coEnv L cI cR cP ct cs) L ["R", "cutoff", "R_nodes", "augment", "bidirectional_bfs", "flow_value", "v", "pred", "succ", "path", "u"] [("inf", cI), ("R_succ", cR), ("R_pred", cP), ("t", ct), ("s", cs)] [] := fm_of (by kernel_rfl) rfl
abbrev coF (r cu no au bf fv v pr su pa u : Option Value) : List (Str × Option Value) := [("R", r), ("cutoff", cu), ("R_nodes", no), ("augment", au), ("bidirectional_bfs", bf), ("flow_value", fv), ("v", v), ("pred", pr), ("succ", su), ("path", pa), ("u", u)]
section
variable {w : World} {A : Around} {B : Bs} {l l' : Ledger} {s : Shared} {mg mb : Str → Option Value} {K : Frag} {v : Value} {g rg : GA}

theorem b_trace4 {root u : Nat} {tu tr : Tok} {p : List Nat} {q : List (Nat × Tok)} {P : List (Int × Value)} {L cI cR cP ct cs pth da : Addr} {r cu no au bf fv vv ov : Option Value} {Q : Flow → Shared → Prop} (T : KP mg mb K B.h) (hc : (cs, .cell (some (.int (root : Nat) tr))) ∈ l) (hda : (da, .dI P) ∈ l)
    (hT : TP P root u p) (hl : q.length + p.length ≤ 1000)
    (H : St prog w B ((pth, .ls (pv q)) :: (L, .ns (coF r cu no au bf fv vv (some (.ref da)) ov (some (.ref pth)) (some (.int (u : Nat) tu)))) :: l) s)
    (h : ∀ q' uv s', q'.map (·.1) = q.map (·.1) ++ p → St prog w B ((pth, .ls (pv q')) :: (L, .ns (coF r cu no au bf fv vv (some (.ref da)) ov (some (.ref pth)) uv)) :: l) s' → Q .next s') :
    WP prog w A (exec (nthS (bodyS coWhile) 4) (coEnv L cI cR cP ct cs)) Q s := by
  have F := fm_co L cI cR cP ct cs
  show WP prog w A (exec (.While _ _ _ _) _) Q s
  refine x_while (fun m l' => ∃ q' u tu p', TP P root u p' ∧ q'.map (·.1) ++ p' = q.map (·.1) ++ p ∧ m = p'.length ∧ q'.length + p'.length ≤ 1000 ∧ l' = (pth, .ls (pv q')) :: (L, .ns (coF r cu no au bf fv vv (some (.ref da)) ov (some (.ref pth)) (some (.int (u : Nat) tu)))) :: l) _ ⟨q, u, tu, p, hT, rfl, rfl, hl, rfl⟩ H ?_
  clear H
  rintro m l' s ⟨q', u, tu, p', hT, hq, rfl, hl, rfl⟩ H
  refine wpAny_isTrue_Compare1 ?_
  k_fold
  refine ne_int ?_
  refine wpAny_truthy_bool ?_
  cases hT with
  | root =>
    rw [if_neg (by simp)]
    refine x_nil ?_
    rw [List.append_nil] at hq
    exact h q' _ s hq H
  | @step _ u' t' p' h1 h2 h3 =>
    rw [if_pos (by simp only [bne_iff_ne, ne_eq]; omega)]
    refine x_cons (st := .Assign [.Name _ _] _ _) (wpAny_Assign_Name ?_)
    k_fold
    refine sub_dI H (H.dI (kvs := P) (by tb_start)) h2 ?_
    clear H; intro s H
    k_upd
    refine x_one (st := .Expr _ _) (wpAny_Expr_any ?_)
    refine ev_meth ?_
    k_fold
    intro pl
    refine gm_append H (vs := pv q') (by tb_start) ?_
    refine call_pos ?_
    refine sp_cons ?_
    k_fold
    refine sp_nil ⟨keeps_blt, ?_⟩
    rw [List.length_cons] at hl
    refine call_append (vs := pv q') H (by rw [pv_len, sizeLine_eq]; omega) (by tb_rel) ?_
    clear H; intro s H
    refine ⟨p'.length, _, by simp, ⟨q' ++ [(u', t')], u', t', p', h3, ?_, rfl, ?_, rfl⟩, ?_⟩
    · rw [List.map_append, List.append_assoc]; exact hq
    · rw [List.length_append]; simp only [List.length_cons, List.length_nil]; omega
    · rw [pv_app]; exact H

theorem b_trace7 {root u : Nat} {tu tr : Tok} {p : List Nat} {q : List (Nat × Tok)} {P : List (Int × Value)} {L cI cR cP ct cs pth da : Addr} {r cu no au bf fv vv ov : Option Value} {Q : Flow → Shared → Prop} (T : KP mg mb K B.h) (hc : (ct, .cell (some (.int (root : Nat) tr))) ∈ l) (hda : (da, .dI P) ∈ l)
    (hT : TP P root u p) (hl : q.length + p.length ≤ 1000)
    (H : St prog w B ((pth, .ls (pv q)) :: (L, .ns (coF r cu no au bf fv vv ov (some (.ref da)) (some (.ref pth)) (some (.int (u : Nat) tu)))) :: l) s)
    (h : ∀ q' uv s', q'.map (·.1) = q.map (·.1) ++ p → St prog w B ((pth, .ls (pv q')) :: (L, .ns (coF r cu no au bf fv vv ov (some (.ref da)) (some (.ref pth)) uv)) :: l) s' → Q .next s') :
    WP prog w A (exec (nthS (bodyS coWhile) 7) (coEnv L cI cR cP ct cs)) Q s := by
  have F := fm_co L cI cR cP ct cs
  show WP prog w A (exec (.While _ _ _ _) _) Q s
  refine x_while (fun m l' => ∃ q' u tu p', TP P root u p' ∧ q'.map (·.1) ++ p' = q.map (·.1) ++ p ∧ m = p'.length ∧ q'.length + p'.length ≤ 1000 ∧ l' = (pth, .ls (pv q')) :: (L, .ns (coF r cu no au bf fv vv ov (some (.ref da)) (some (.ref pth)) (some (.int (u : Nat) tu)))) :: l) _ ⟨q, u, tu, p, hT, rfl, rfl, hl, rfl⟩ H ?_
  clear H
  rintro m l' s ⟨q', u, tu, p', hT, hq, rfl, hl, rfl⟩ H
  refine wpAny_isTrue_Compare1 ?_
  k_fold
  refine ne_int ?_
  refine wpAny_truthy_bool ?_
  cases hT with
  | root =>
    rw [if_neg (by simp)]
    refine x_nil ?_
    rw [List.append_nil] at hq
    exact h q' _ s hq H
  | @step _ u' t' p' h1 h2 h3 =>
    rw [if_pos (by simp only [bne_iff_ne, ne_eq]; omega)]
    refine x_cons (st := .Assign [.Name _ _] _ _) (wpAny_Assign_Name ?_)
    k_fold
    refine sub_dI H (H.dI (kvs := P) (by tb_start)) h2 ?_
    clear H; intro s H
    k_upd
    refine x_one (st := .Expr _ _) (wpAny_Expr_any ?_)
    refine ev_meth ?_
    k_fold
    intro pl
    refine gm_append H (vs := pv q') (by tb_start) ?_
    refine call_pos ?_
    refine sp_cons ?_
    k_fold
    refine sp_nil ⟨keeps_blt, ?_⟩
    rw [List.length_cons] at hl
    refine call_append (vs := pv q') H (by rw [pv_len, sizeLine_eq]; omega) (by tb_rel) ?_
    clear H; intro s H
    refine ⟨p'.length, _, by simp, ⟨q' ++ [(u', t')], u', t', p', h3, ?_, rfl, ?_, rfl⟩, ?_⟩
    · rw [List.map_append, List.append_assoc]; exact hq
    · rw [List.length_append]; simp only [List.length_cons, List.length_nil]; omega
    · rw [pv_app]; exact H

end
end Mine

-- MD6
namespace Mine
open PySem PySem.W PySem.Calls PyProof.Rows Builtin Builtin.ObjectAttr

local macro_rules | `(tactic| tb_start) => `(tactic| first | with_reducible exact List.mem_cons_self | with_reducible assumption | (with_reducible apply List.mem_cons_of_mem; tb_start) | (with_reducible apply List.mem_append_left; tb_start) | (with_reducible apply List.mem_append_right; tb_start) | with_reducible exact g_x | with_reducible exact g_dx | with_reducible exact g_gr | with_reducible exact g_nd | with_reducible exact g_ad | with_reducible exact g_pr)
local macro_rules | `(tactic| tb_rel) => `(tactic| first | with_reducible exact Upd1.head | with_reducible exact Put.head | (with_reducible apply Upd1.tail; tb_rel) | (with_reducible apply Put.tail; tb_rel) | (with_reducible apply Upd1.right; tb_rel) | (with_reducible apply Upd1.append; tb_rel))
local macro_rules | `(tactic| k_ne) => `(tactic| first | (with_reducible apply Apart.head; tb_start) | (with_reducible apply Apart.head'; tb_start) | (with_reducible apply Apart.tail; k_ne))
local macro_rules | `(tactic| k_same) => `(tactic| first | with_reducible exact Split.head | (with_reducible apply Split.tail; k_same) | (with_reducible apply Split.skip; k_same))
local macro_rules | `(tactic| k_same2) => `(tactic| first | with_reducible exact SplitL.head | with_reducible exact SplitL.last | (with_reducible apply SplitL.tail; k_same2) | (with_reducible apply SplitL.skip; k_same2))
local macro_rules | `(tactic| k_sub) => `(tactic| first | with_reducible exact Sel.nil | with_reducible exact Sel.all | (with_reducible refine Sel.cons (by k_same) ?_; k_sub) | (with_reducible refine Sel.app (by k_same2) ?_; k_sub) | (with_reducible exact Sel.one (by k_same2)))
set_option hygiene false in
local macro_rules | `(tactic| k_flat) => `(tactic| simp only [frameOf, List.map_cons, List.map_nil, List.cons_append, List.nil_append, List.append_nil] at H)
set_option hygiene false in
local macro_rules | `(tactic| tb_lt) => `(tactic| first
  | (with_reducible refine ev_loc F H (by tb_start) (by tb_start) (by tb_start) ?_)
  | (with_reducible refine ev_int H ?_; clear H; intro _ s H)
  | (with_reducible refine ev_str H ?_; clear H; intro _ s H)
  | (with_reducible refine ev_none ?_)
  | (with_reducible refine ev_bool ?_)
  | (with_reducible refine ev_cel F H (by tb_start) (by tb_start) ?_)
  | (with_reducible refine Attribute_any_ ?_)
  | (with_reducible refine Subscript_ ?_)
  | (with_reducible refine wpAny_BinOp ?_)
  | (with_reducible refine wpAny_Compare1 ?_)
  | ((with_reducible show wpAny _ _ (getAttr _ _ _) _ _ _); refine at_own H T.X (H.inst (by tb_start) (by tb_start)) T.o__adj_395 (by rfl) (by rfl) ?_; clear H; intro s H)
  | ((with_reducible show wpAny _ _ (getAttr _ _ _) _ _ _); refine at_own H T.X (H.inst (by tb_start) (by tb_start)) T.o__node_395 (by rfl) (by rfl) ?_; clear H; intro s H)
  | ((with_reducible show wpAny _ _ (getAttr _ _ _) _ _ _); refine at_own H T.X (H.inst (by tb_start) (by tb_start)) T.o__pred_395 (by rfl) (by rfl) ?_; clear H; intro s H)
  | ((with_reducible show wpAny _ _ (getAttr _ _ _) _ _ _); refine at_own H T.X (H.inst (by tb_start) (by tb_start)) T.o_graph_395 (by rfl) (by rfl) ?_; clear H; intro s H))
set_option hygiene false in
local macro_rules | `(tactic| k_upd) => `(tactic| (refine st_loc2 F H (by tb_start) (by tb_start) (by tb_rel) (by tb_rel) ?_; clear H; intro s H))
set_option hygiene false in
local macro_rules | `(tactic| k_fold) => `(tactic| (repeat tb_lt))

theorem Skel.hasE {es es' : List Ed} (h : Skel es es') : HasE es' = HasE es := by funext a b; unfold HasE; rw [h.uv]
theorem Skel.lt {es es' : List Ed} {N : Nat} (h : Skel es es') (hl : ∀ e ∈ es, e.u < N ∧ e.v < N) : ∀ e ∈ es', e.u < N ∧ e.v < N := by
  intro x hx
  have : HasE es' x.u x.v := List.mem_map_of_mem hx
  rw [h.hasE] at this
  obtain ⟨e, he, h1, h2⟩ := this.get
  have := hl e he
  omega
/-- no way on from X -/
def Shut (es : List Ed) (c f : Nat → Nat → Int) (sN tN : Nat) : Prop := ∃ X : Nat → Prop, X sN ∧ ¬ X tN ∧ ∀ u v, X u → ¬ X v → HasE es u v → c u v ≤ f u v
/-- why the search came to an end -/
def Stop (lt : Nat → Bool) (es : List Ed) (c f : Nat → Nat → Int) (sN tN k : Nat) : Prop := (∀ j, j < k → lt j = true) ∧ (lt k = false ∨ Shut es c f sN tN)
/-- what the plain law gives the search -/
structure CoreLaw (es : List Ed) (c : Nat → Nat → Int) (I : Int) (sN tN D : Nat) (Inv : Nat → (Nat → Nat → Int) → Prop) : Prop where
  le : ∀ k f, Inv k f → k ≤ D
  step : ∀ k f p, Inv k f → p.Nodup → p.head? = some sN → p.getLast? = some tN → Chn (rF es c f) p → mnA c f I p = 1 ∧ 2 ≤ I ∧ Inv (k + 1) (augF 1 f p)
section
variable {w : World} {A : Around} {B : Bs} {l l' : Ledger} {s : Shared} {mg mb : Str → Option Value} {K : Frag} {v : Value} {g rg : GA}
/-- an int below the bound -/
def Below (cv : Value) (lt : Nat → Bool) : Prop := ∀ (w : World) (A : Around) (k : Nat) (t : Tok) (Q : Value → Shared → Prop) (s : Shared), Q (.bool (lt k)) s → WP prog w A (compareOp .Lt (.int (k : Nat) t) cv) Q s
theorem b_core {N sN tN D : Nat} {nR aR pR : Nat → Addr} {es : List Ed} {c f0 : Nat → Nat → Int} {I : Int} {lt : Nat → Bool} {tI ts tt : Tok} {L fa ca fb cb cI cR cP ct cs : Addr} {r no v0 pr0 su0 pa0 u0 fv0 : Option Value} {cv : Value} {gr : List (Str × Value)} {Inv : Nat → (Nat → Nat → Int) → Prop} {Q : Flow → Shared → Prop} (R : Room A 4) (T : KP mg mb K B.h) (hN : N ≤ 100)
    (nd : (es.map fun e => (e.u, e.v)).Nodup) (hlt : ∀ e ∈ es, e.u < N ∧ e.v < N) (hsym : ∀ a b, HasE es a b → HasE es b a ∧ a ≠ b) (hs : sN < N) (ht : tN < N) (hst : sN ≠ tN) (CL : CoreLaw es c I sN tN D Inv) (hcv : Below cv lt) (hi0 : Inv 0 f0) (hEd : EdF c f0 es)
    (hfa : (fa, soAug cR cI ca) ∈ l) (hca : (ca, soCode augQ) ∈ l) (hfb : (fb, soBfs cs ct cR cP cb) ∈ l) (hcb : (cb, soCode bfsQ) ∈ l) (hcs : (cs, .cell (some (.int (sN : Nat) ts))) ∈ l) (hct : (ct, .cell (some (.int (tN : Nat) tt))) ∈ l) (hcR : (cR, .cell (some (.ref rg.ad))) ∈ l) (hcP : (cP, .cell (some (.ref rg.pr))) ∈ l) (hcI : (cI, .cell (some (.int I tI))) ∈ l)
    (H : St prog w B (gl rg (mkG N nR aR pR es) gr ++ ((L, .ns (coF r (some cv) no (some (.ref fa)) (some (.ref fb)) fv0 v0 pr0 su0 pa0 u0)) :: l)) s)
    (h : ∀ k f es' t fr s', Inv k f → EdF c f es' → Skel es es' → Stop lt es c f sN tN k → St prog w B (gl rg (mkG N nR aR pR es') gr ++ ((L, .ns fr) :: l)) s' → Q (.ret (.int (k : Nat) t)) s') :
    WP prog w A (execs ((bodyS dCore).drop 6) (coEnv L cI cR cP ct cs)) Q s := by
  have F := fm_co L cI cR cP ct cs
  refine x_cons (st := .Assign [.Name _ _] _ _) (wpAny_Assign_Name ?_)
  k_fold
  k_upd
  have fin : ∀ k f es' tk v0 pr0 su0 pa0 u0 s, Inv k f → EdF c f es' → Skel es es' → Stop lt es c f sN tN k → St prog w B (gl rg (mkG N nR aR pR es') gr ++ ((L, .ns (coF r (some cv) no (some (.ref fa)) (some (.ref fb)) (some (.int (k : Nat) tk)) v0 pr0 su0 pa0 u0)) :: l)) s →
      WP prog w A (execs ((bodyS dCore).drop 8) (coEnv L cI cR cP ct cs)) Q s := by
    intro k f es' tk v0 pr0 su0 pa0 u0 s h1 h2 h3 h4 H
    refine x_one (st := .Return _ _) (wpAny_Return_some ?_)
    k_fold
    exact h k f es' tk _ s h1 h2 h3 h4 H
  refine x_cons (st := .While _ _ _ _) (x_while (fun m l' => ∃ k f es' tk v0 pr0 su0 pa0 u0, Inv k f ∧ EdF c f es' ∧ Skel es es' ∧ (∀ j, j < k → lt j = true) ∧ m = D - k ∧ l' = gl rg (mkG N nR aR pR es') gr ++ ((L, .ns (coF r (some cv) no (some (.ref fa)) (some (.ref fb)) (some (.int (k : Nat) tk)) v0 pr0 su0 pa0 u0)) :: l)) (D - 0) ⟨0, f0, es, _, _, _, _, _, _, hi0, hEd, .refl _, (fun j hj => absurd hj (Nat.not_lt_zero _)), rfl, rfl⟩ H ?_)
  clear H
  rintro m l' s ⟨k, f, es', tk, v0, pr0, su0, pa0, u0, hk, hEd', hsk, hbe, rfl, rfl⟩ H
  refine wpAny_isTrue_Compare1 ?_
  k_fold
  refine hcv _ _ _ _ _ _ ?_
  refine wpAny_truthy_bool ?_
  cases hb : lt k with
  | false =>
    rw [if_neg (by decide)]
    refine x_nil ?_
    exact fin k f es' tk v0 pr0 su0 pa0 u0 s hk hEd' hsk ⟨hbe, .inl hb⟩ H
  | true =>
    rw [if_pos rfl]
    have hlt' := hsk.lt hlt
    have nd' : (es'.map fun e => (e.u, e.v)).Nodup := by rw [hsk.uv]; exact nd
    refine x_cons (st := .Assign [.Tuple _ _ _] _ _) (Assign_Tuple ?_)
    refine ev_call_name ?_
    k_fold
    refine call_pos0 (keeps_fn H (by tb_start : (fb, soBfs cs ct cR cP cb) ∈ _)) (call_of ?_)
    refine c_bfs (N := N) (sN := sN) (tN := tN) (es := es') (c := c) (f := f) (ts := ts) (tt := tt) (fb := fb) (cb := cb) (cs := cs) (ct := ct) (cR := cR) (cP := cP) (gr := gr) (R.less (by decide)) T hN hlt' hs ht hst hEd' (.tail _ hfb) (.tail _ hcb) (.tail _ hcs) (.tail _ hct) (.tail _ hcR) (.tail _ hcP) H ?_ ?_
    · -- found
      clear H
      intro v tv tp pa sa P S s hP hS h1 h2 h3 H
      obtain ⟨p1, p2, a1, a2, a3, a4, a5, a6, a7, a8⟩ := path_of hP hS h1 h2 h3
      have hPl : P.length ≤ 100 := Nat.le_trans (hP.len (fun u v h => by obtain ⟨e, he, h1, h2⟩ := h.1.get; have := hlt' e he; omega) hs) hN
      have hSl : S.length ≤ 100 := Nat.le_trans (hS.len (fun u v h => by obtain ⟨e, he, h1, h2⟩ := h.1.get; have := hlt' e he; omega) ht) hN
      refine assign_tup R.none H (t := tp) (by tb_start) ?_
      clear H; intro s H
      refine ao_cons (wpAny_assign_Name ?_)
      k_upd
      refine ao_cons (wpAny_assign_Name ?_)
      k_upd
      refine ao_cons (wpAny_assign_Name ?_)
      k_upd
      refine ao_nil ?_
      refine x_cons (st := .If _ _ _ _) (wpAny_If ?_)
      refine wpAny_isTrue_Compare1 ?_
      k_fold
      refine is_none_ne (by simp) ?_
      refine wpAny_truthy_bool ?_
      rw [if_neg (by decide)]
      refine x_nil ?_
      -- path = [v]; u = v
      refine x_cons (st := .Assign [.Name _ _] _ _) (wpAny_Assign_Name ?_)
      refine ev_List ?_
      refine sp_cons ?_
      k_fold
      refine sp_nil ?_
      refine new_list H (by show 1 ≤ sizeLine; decide) ?_
      clear H; intro pth s H
      k_upd
      refine x_cons (st := .Assign [.Name _ _] _ _) (wpAny_Assign_Name ?_)
      k_fold
      k_upd
      have H2 : St prog w B ((pth, .ls (pv [(v, tv)])) :: (tp, .tp [.int (v : Nat) tv, .ref pa, .ref sa]) :: (pa, .dI P) :: (sa, .dI S) :: (gl rg (mkG N nR aR pR es') gr ++ ((L, .ns (coF r (some cv) no (some (.ref fa)) (some (.ref fb)) (some (.int (k : Nat) tk)) (some (.int (v : Nat) tv)) (some (.ref pa)) (some (.ref sa)) (some (.ref pth)) (some (.int (v : Nat) tv)))) :: l))) s := H
      clear H
      have H : St prog w B ((pth, .ls (pv [(v, tv)])) :: (L, .ns (coF r (some cv) no (some (.ref fa)) (some (.ref fb)) (some (.int (k : Nat) tk)) (some (.int (v : Nat) tv)) (some (.ref pa)) (some (.ref sa)) (some (.ref pth)) (some (.int (v : Nat) tv)))) :: ((pa, .dI P) :: (sa, .dI S) :: (gl rg (mkG N nR aR pR es') gr ++ l))) s := H2.sel (by k_sub)
      clear H2
      refine x_cons ?_
      refine b_trace4 (root := sN) (u := v) (tu := tv) (tr := ts) (p := p1) (q := [(v, tv)]) (P := P) T (by tb_start) (by tb_start) a1 (by simp only [List.length_cons, List.length_nil]; omega) H ?_
      clear H; intro q1 uv s hq1 H
      have hq1' : q1.map (·.1) = v :: p1 := hq1
      have hq1l : q1.length = p1.length + 1 := by rw [← List.length_map (f := (·.1)) (as := q1), hq1', List.length_cons]
      -- path.reverse(); u = v
      refine x_cons (st := .Expr _ _) (wpAny_Expr_any ?_)
      refine ev_meth ?_
      k_fold
      intro pl
      refine gm_reverse H (vs := pv q1) (by tb_start) ?_
      refine cw_reverse (vs := pv q1) H (by rw [pv_len, sizeLine_eq]; omega) (by tb_rel) ?_
      clear H; intro s H
      rw [show (pv q1).reverse = pv q1.reverse from by unfold pv; rw [List.map_reverse]] at H
      refine x_cons (st := .Assign [.Name _ _] _ _) (wpAny_Assign_Name ?_)
      k_fold
      k_upd
      refine x_cons ?_
      refine b_trace7 (root := tN) (u := v) (tu := tv) (tr := tt) (p := p2) (q := q1.reverse) (P := S) T (by tb_start) (by tb_start) a2 (by rw [List.length_reverse]; omega) H ?_
      clear H; intro q2 uv s hq2 H
      have hpath : q2.map (·.1) = p1.reverse ++ v :: p2 := by
        rw [hq2, List.map_reverse, hq1', List.reverse_cons, List.append_assoc]; rfl
      have hq2l : q2.length ≤ 300 := by
        rw [← List.length_map (f := (·.1)) (as := q2), hpath, List.length_append, List.length_reverse, List.length_cons]; omega
      have hsr : rF es' c f = rF es c f := by unfold rF; rw [hsk.hasE]
      rw [hsr] at a6
      obtain ⟨hmn, hI, hk1⟩ := CL.step k f _ hk a5 a7 a8 a6
      -- flow_value += augment(path)
      refine x_one (st := .AugAssign (.Name _ _) _ _ _) (wpAny_AugAssign_Name ?_)
      refine ld_loc F H (by tb_start) (by tb_start) (by tb_start) ?_
      refine ev_call_name ?_
      k_fold
      refine call_pos ?_
      refine sp_cons ?_
      k_fold
      refine sp_nil ⟨keeps_fn H (by tb_start : (fa, soAug cR cI ca) ∈ _), call_of ?_⟩
      obtain ⟨q0, q2t, rfl⟩ : ∃ a b, q2 = a :: b := by
        cases q2 with
        | nil => exact absurd hpath (by simp)
        | cons a b => exact ⟨a, b, rfl⟩
      have H2 : St prog w B (gl rg (mkG N nR aR pR es') gr ++ ((pth, .ls (pv (q0 :: q2t))) :: (L, .ns (coF r (some cv) no (some (.ref fa)) (some (.ref fb)) (some (.int (k : Nat) tk)) (some (.int (v : Nat) tv)) (some (.ref pa)) (some (.ref sa)) (some (.ref pth)) uv)) :: l)) s := H.sel (by k_sub)
      clear H
      refine c_augment (N := N) (es := es') (c := c) (f := f) (I := I) (δ := 1) (tI := tI) (pl := pth) (cR := cR) (cI := cI) (fa := fa) (ca := ca) (q0 := q0) (ts := q2t) (gr := gr) (R.less (by decide)) T nd' (fun e he => (hlt' e he).1) hEd' (by simp only [List.length_cons] at hq2l; omega) hpath (Chn.imp (fun a b hab => ?_) a6) hmn (by omega) (.tail _ (.tail _ hfa)) (.tail _ (.tail _ hca)) (.tail _ (.tail _ hcR)) (.tail _ (.tail _ hcI)) (.head _) H2 ?_
      · rw [hsk.hasE]
        exact ⟨hab.1, (hsym a b hab.1).1, (hsym a b hab.1).2⟩
      clear H2
      intro es2 t2 s hsk2 hEd2 H
      refine op_iadd H ?_
      clear H; intro t3 s H
      k_upd
      refine ⟨D - (k + 1), _, ?_, ⟨k + 1, augF 1 f (p1.reverse ++ v :: p2), es2, t3, some (.int (v : Nat) tv), some (.ref pa), some (.ref sa), some (.ref pth), uv, hk1, hEd2, hsk.trans hsk2, (fun j hj => by rcases Nat.lt_or_eq_of_le (Nat.le_of_lt_succ hj) with h | rfl; exact hbe j h; exact hb), rfl, rfl⟩, ?_⟩
      · have := CL.le _ _ hk1; omega
      · refine H.sel ?_
        rw [show ((k + 1 : Nat) : Int) = (k : Int) + 1 from by omega]
        k_sub
    · -- none
      clear H
      intro X tp s h1 h2 h3 H
      refine assign_tup R.none H (t := tp) (by tb_start) ?_
      clear H; intro s H
      refine ao_cons (wpAny_assign_Name ?_)
      k_upd
      refine ao_cons (wpAny_assign_Name ?_)
      k_upd
      refine ao_cons (wpAny_assign_Name ?_)
      k_upd
      refine ao_nil ?_
      refine x_cons (st := .If _ _ _ _) (wpAny_If ?_)
      refine wpAny_isTrue_Compare1 ?_
      k_fold
      refine is_none ?_
      refine wpAny_truthy_bool ?_
      rw [if_pos (by rfl)]
      refine x_one (st := .Break _) (wpAny_Break ?_)
      rw [hsk.hasE] at h3
      exact fin k f es' tk _ _ _ _ _ s hk hEd' hsk ⟨hbe, .inr ⟨X, h1, h2, h3⟩⟩ (H.sel (by k_sub))
end
end Mine

-- MD7
namespace Mine
open PySem PySem.W PySem.Calls PyProof.Rows Builtin Builtin.ObjectAttr

local macro_rules | `(tactic| tb_start) => `(tactic| first | with_reducible exact List.mem_cons_self | with_reducible assumption | (with_reducible apply List.mem_cons_of_mem; tb_start) | (with_reducible apply List.mem_append_left; tb_start) | (with_reducible apply List.mem_append_right; tb_start) | with_reducible exact g_x | with_reducible exact g_dx | with_reducible exact g_gr | with_reducible exact g_nd | with_reducible exact g_ad | with_reducible exact g_pr)
local macro_rules | `(tactic| tb_rel) => `(tactic| first | with_reducible exact Upd1.head | with_reducible exact Put.head | (with_reducible apply Upd1.tail; tb_rel) | (with_reducible apply Put.tail; tb_rel) | (with_reducible apply Upd1.right; tb_rel) | (with_reducible apply Upd1.append; tb_rel))
local macro_rules | `(tactic| k_ne) => `(tactic| first | (with_reducible apply Apart.head; tb_start) | (with_reducible apply Apart.head'; tb_start) | (with_reducible apply Apart.tail; k_ne))
local macro_rules | `(tactic| k_same) => `(tactic| first | with_reducible exact Split.head | (with_reducible apply Split.tail; k_same) | (with_reducible apply Split.skip; k_same))
local macro_rules | `(tactic| k_same2) => `(tactic| first | with_reducible exact SplitL.head | with_reducible exact SplitL.last | (with_reducible apply SplitL.tail; k_same2) | (with_reducible apply SplitL.skip; k_same2))
local macro_rules | `(tactic| k_sub) => `(tactic| first | with_reducible exact Sel.nil | with_reducible exact Sel.all | (with_reducible refine Sel.cons (by k_same) ?_; k_sub) | (with_reducible refine Sel.app (by k_same2) ?_; k_sub) | (with_reducible exact Sel.one (by k_same2)))
set_option hygiene false in
local macro_rules | `(tactic| k_flat) => `(tactic| simp only [frameOf, List.map_cons, List.map_nil, List.cons_append, List.nil_append, List.append_nil] at H)
set_option hygiene false in
local macro_rules | `(tactic| tb_lt) => `(tactic| first
  | (with_reducible refine ev_loc F H (by tb_start) (by tb_start) (by tb_start) ?_)
  | (with_reducible refine ev_int H ?_; clear H; intro _ s H)
  | (with_reducible refine ev_str H ?_; clear H; intro _ s H)
  | (with_reducible refine ev_none ?_)
  | (with_reducible refine ev_bool ?_)
  | (with_reducible refine ev_cel F H (by tb_start) (by tb_start) ?_)
  | (with_reducible refine Attribute_any_ ?_)
  | (with_reducible refine Subscript_ ?_)
  | (with_reducible refine wpAny_BinOp ?_)
  | (with_reducible refine wpAny_Compare1 ?_)
  | ((with_reducible show wpAny _ _ (getAttr _ _ _) _ _ _); refine at_own H T.X (H.inst (by tb_start) (by tb_start)) T.o__adj_395 (by rfl) (by rfl) ?_; clear H; intro s H)
  | ((with_reducible show wpAny _ _ (getAttr _ _ _) _ _ _); refine at_own H T.X (H.inst (by tb_start) (by tb_start)) T.o__node_395 (by rfl) (by rfl) ?_; clear H; intro s H)
  | ((with_reducible show wpAny _ _ (getAttr _ _ _) _ _ _); refine at_own H T.X (H.inst (by tb_start) (by tb_start)) T.o__pred_395 (by rfl) (by rfl) ?_; clear H; intro s H)
  | ((with_reducible show wpAny _ _ (getAttr _ _ _) _ _ _); refine at_own H T.X (H.inst (by tb_start) (by tb_start)) T.o_graph_395 (by rfl) (by rfl) ?_; clear H; intro s H))
set_option hygiene false in
local macro_rules | `(tactic| k_upd) => `(tactic| (refine st_loc2 F H (by tb_start) (by tb_start) (by tb_rel) (by tb_rel) ?_; clear H; intro s H))
set_option hygiene false in
local macro_rules | `(tactic| k_fold) => `(tactic| (repeat tb_lt))

def posS : Stmt → Pos
  | .FunctionDef _ _ _ _ _ _ _ _ _ p => p
  | _ => ⟨0, 0, 0, 0⟩
def augPs (ca : Addr) : Array Value := #[rawInt (posS dAug).line, rawInt (posS dAug).col, .ref ca]
def corePs (ca cb : Addr) : Array Value := #[rawInt (posS dAug).line, rawInt (posS dAug).col, .ref ca, rawInt (posS dBfs).line, rawInt (posS dBfs).col, .ref cb]
theorem cs5 {cs : List (Str × Addr)} {x y z p q : Str} (h : cs.map (·.1) = [x, y, z, p, q]) : ∃ c d e f g, cs = [(x, c), (y, d), (z, e), (p, f), (q, g)] := by
  match cs, h with
  | [(x', c), (y', d), (z', e), (p', f), (q', g)], h =>
    simp only [List.map_cons, List.map_nil, List.cons.injEq, and_true] at h
    exact ⟨c, d, e, f, g, by rw [h.1, h.2.1, h.2.2.1, h.2.2.2.1, h.2.2.2.2]⟩
section
variable {w : World} {A : Around} {B : Bs} {l l' : Ledger} {s : Shared} {mg mb : Str → Option Value} {K : Frag} {v : Value} {g rg : GA}

theorem c_core_new {N sN tN D : Nat} {nR aR pR : Nat → Addr} {es : List Ed} {c f0 : Nat → Nat → Int} {I : Int} {lt : Nat → Bool} {tI ts tt : Tok} {cv : Value} {gr : List (Str × Value)} {Inv : Nat → (Nat → Nat → Int) → Prop} {Q : Value → Shared → Prop} (R : Room A 6) (T : KP mg mb K B.h) (hN : N ≤ 100)
    (nd : (es.map fun e => (e.u, e.v)).Nodup) (hlt : ∀ e ∈ es, e.u < N ∧ e.v < N) (hsym : ∀ a b, HasE es a b → HasE es b a ∧ a ≠ b) (hs : sN < N) (ht : tN < N) (hst : sN ≠ tN) (CL : CoreLaw es c I sN tN D Inv) (hcv : Below cv lt) (hi0 : Inv 0 f0) (hEd : EdF c f0 es) (hgr : valueAt gr (Str.ofString "inf") = some (.int I tI))
    (H : St prog w B ((411, .raw (tabObj #[])) :: (gl rg (mkG N nR aR pR es) gr ++ l)) s)
    (h : ∀ k f es' ca cb t s', Inv k f → EdF c f es' → Skel es es' → Stop lt es c f sN tN k → St prog w B ((411, .raw (tabObj (corePs ca cb))) :: (ca, soCode augQ) :: (cb, soCode bfsQ) :: (gl rg (mkG N nR aR pR es') gr ++ l)) s' → Q (.int (k : Nat) t) s') :
    WC prog w A (.ref 416) [.ref rg.x, .int (sN : Nat) ts, .int (tN : Nat) tt, cv] [] Q s := by
  refine call_cells ["R", "cutoff"] ["s", "t"] ["R_nodes", "augment", "bidirectional_bfs", "flow_value", "v", "pred", "succ", "path", "u"] ["inf", "R_succ", "R_pred", "t", "s"] R T.nolimit (T.p_core.keeps H.keep) (by kernel_rfl) fun name doc pm an ct' => ?_
  refine wpAny_of_eq (a := ([("R", .ref rg.x), ("s", .int (sN : Nat) ts), ("t", .int (tN : Nat) tt), ("cutoff", cv)] : List (Str × Value))) (by kernel_rfl) ?_
  refine ⟨_, [("R", .ref rg.x), ("cutoff", cv)], [("s", .int (sN : Nat) ts), ("t", .int (tN : Nat) tt)], [none, none, none, some (.int (tN : Nat) tt), some (.int (sN : Nat) ts)], H, by kernel_rfl, by kernel_rfl, rfl, rfl, by kernel_rfl, fun L cs s hcs H => ?_⟩
  obtain ⟨cI, cR, cP, ct, cs, rfl⟩ := cs5 hcs
  have F := fm_co L cI cR cP ct cs
  have R1 := Room.deeper (env := coEnv L cI cR cP ct cs) (n := 5) R
  unfold cellsOf cellsOf cellsOf cellsOf cellsOf cellsOf at H
  k_flat
  show WP prog w (A.deeper (coEnv L cI cR cP ct cs)) (execs (bodyS dCore) (coEnv L cI cR cP ct cs)) _ s
  -- R_nodes = R.nodes; R_pred = R.pred; R_succ = R.succ; inf = R.graph["inf"]
  refine x_cons (st := .Assign [.Name _ _] _ _) (wpAny_Assign_Name ?_)
  k_fold
  show WP prog w _ (getAttr (.ref rg.x) _ _) _ _
  refine at_prop H T.X (H.inst (kvs := gdict rg) (by tb_start) (by tb_start)) T.q_nodes fun s H => ?_
  refine c_nodes ((R1.less (by decide : 2 ≤ 5)).in1) T H (by tb_start) (by tb_start) fun s H => ⟨rfl, ?_⟩
  k_upd
  refine x_cons (st := .Assign [.Name _ _] _ _) (wpAny_Assign_Name ?_)
  k_fold
  show WP prog w _ (getAttr (.ref rg.x) _ _) _ _
  refine at_prop H T.X (H.inst (kvs := gdict rg) (by tb_start) (by tb_start)) T.q_pred fun s H => ?_
  refine c_pred ((R1.less (by decide : 2 ≤ 5)).in1) T H (by tb_start) (by tb_start) fun s H => ⟨rfl, ?_⟩
  refine st_cel F H (c := cP) (by tb_start) (by kernel_rfl) (by tb_rel) ?_
  clear H; intro s H
  refine x_cons (st := .Assign [.Name _ _] _ _) (wpAny_Assign_Name ?_)
  k_fold
  show WP prog w _ (getAttr (.ref rg.x) _ _) _ _
  refine at_prop H T.X (H.inst (kvs := gdict rg) (by tb_start) (by tb_start)) T.q_succ fun s H => ?_
  refine c_succ ((R1.less (by decide : 2 ≤ 5)).in1) T H (by tb_start) (by tb_start) fun s H => ⟨rfl, ?_⟩
  refine st_cel F H (c := cR) (by tb_start) (by kernel_rfl) (by tb_rel) ?_
  clear H; intro s H
  refine x_cons (st := .Assign [.Name _ _] _ _) (wpAny_Assign_Name ?_)
  k_fold
  refine sub_dS H (kvs := gr) (by tb_start) hgr ?_
  clear H; intro s H
  refine st_cel F H (c := cI) (by tb_start) (by kernel_rfl) (by tb_rel) ?_
  clear H; intro s H
  -- def augment
  refine x_cons (st := .FunctionDef _ _ _ _ _ _ _ _ _ _) (x_def (by rfl) (by rfl) (by rfl) ?_)
  refine mk_new (P := 411) (c := 415) (ps := #[]) (lf := fun c' => (L, .ns (coF (some (.ref rg.x)) (some cv) (some (.ref rg.nd)) none none none none none none none none)) :: (cI, .cell (some (.int I tI))) :: (cR, .cell (some (.ref rg.ad))) :: (cP, .cell (some (.ref rg.pr))) :: (ct, .cell (some (.int (tN : Nat) tt))) :: (cs, .cell (some (.int (sN : Nat) ts))) :: (411, .raw (tabObj (augPs c'))) :: (gl rg (mkG N nR aR pR es) gr ++ l)) T H (clos := [("inf", cI), ("R_succ", cR)]) (by kernel_rfl) rfl rfl T.hd415 trivial (by kernel_rfl) (fun c' => .tail (.tail (.tail (.tail (.tail (.tail .head)))))) ?_
  clear H; intro fa ca s H
  rw [show qualnameIn (coEnv L cI cR cP ct cs) (Str.ofString "augment") (Str.ofString "augment") = augQ from by kernel_rfl] at H
  k_upd
  refine x_cons (st := .FunctionDef _ _ _ _ _ _ _ _ _ _) (x_def (by rfl) (by rfl) (by rfl) ?_)
  refine mk_new (P := 411) (c := 415) (ps := augPs ca) (lf := fun c' => (fa, soAug cR cI ca) :: (ca, soCode augQ) :: (L, .ns (coF (some (.ref rg.x)) (some cv) (some (.ref rg.nd)) (some (.ref fa)) none none none none none none none)) :: (cI, .cell (some (.int I tI))) :: (cR, .cell (some (.ref rg.ad))) :: (cP, .cell (some (.ref rg.pr))) :: (ct, .cell (some (.int (tN : Nat) tt))) :: (cs, .cell (some (.int (sN : Nat) ts))) :: (411, .raw (tabObj (corePs ca c'))) :: (gl rg (mkG N nR aR pR es) gr ++ l)) T H (clos := [("t", ct), ("s", cs), ("R_succ", cR), ("R_pred", cP)]) (by kernel_rfl) rfl rfl T.hd415 trivial (by kernel_rfl) (fun c' => .tail (.tail (.tail (.tail (.tail (.tail (.tail (.tail .head)))))))) ?_
  clear H; intro fb cb s H
  rw [show qualnameIn (coEnv L cI cR cP ct cs) (Str.ofString "bidirectional_bfs") (Str.ofString "bidirectional_bfs") = bfsQ from by kernel_rfl] at H
  k_upd
  show WP prog w _ (execs ((bodyS dCore).drop 6) (coEnv L cI cR cP ct cs)) _ s
  have H2 : St prog w B ((fb, soBfs cs ct cR cP cb) :: (cb, soCode bfsQ) :: (fa, soAug cR cI ca) :: (ca, soCode augQ) :: (L, .ns (coF (some (.ref rg.x)) (some cv) (some (.ref rg.nd)) (some (.ref fa)) (some (.ref fb)) none none none none none none)) :: (cI, .cell (some (.int I tI))) :: (cR, .cell (some (.ref rg.ad))) :: (cP, .cell (some (.ref rg.pr))) :: (ct, .cell (some (.int (tN : Nat) tt))) :: (cs, .cell (some (.int (sN : Nat) ts))) :: (411, .raw (tabObj (corePs ca cb))) :: (gl rg (mkG N nR aR pR es) gr ++ l)) s := H
  clear H
  have H : St prog w B (gl rg (mkG N nR aR pR es) gr ++ ((L, .ns (coF (some (.ref rg.x)) (some cv) (some (.ref rg.nd)) (some (.ref fa)) (some (.ref fb)) none none none none none none)) :: ((fb, soBfs cs ct cR cP cb) :: (cb, soCode bfsQ) :: (fa, soAug cR cI ca) :: (ca, soCode augQ) :: (cI, .cell (some (.int I tI))) :: (cR, .cell (some (.ref rg.ad))) :: (cP, .cell (some (.ref rg.pr))) :: (ct, .cell (some (.int (tN : Nat) tt))) :: (cs, .cell (some (.int (sN : Nat) ts))) :: (411, .raw (tabObj (corePs ca cb))) :: l))) s := H2.sel (by k_sub)
  clear H2
  refine b_core (N := N) (sN := sN) (tN := tN) (D := D) (es := es) (c := c) (f0 := f0) (I := I) (lt := lt) (tI := tI) (ts := ts) (tt := tt) (fa := fa) (ca := ca) (fb := fb) (cb := cb) (gr := gr) (R1.less (by decide)) T hN nd hlt hsym hs ht hst CL hcv hi0 hEd (by tb_start) (by tb_start) (by tb_start) (by tb_start) (by tb_start) (by tb_start) (by tb_start) (by tb_start) (by tb_start) H ?_
  clear H
  intro k f es' t fr s h1 h2 h3 h4 H
  exact h k f es' ca cb t s h1 h2 h3 h4 (H.sel (by k_sub))

theorem c_core_hit {N sN tN D : Nat} {nR aR pR : Nat → Addr} {es : List Ed} {c f0 : Nat → Nat → Int} {I : Int} {lt : Nat → Bool} {tI ts tt : Tok} {cv : Value} {gr : List (Str × Value)} {Inv : Nat → (Nat → Nat → Int) → Prop} {Q : Value → Shared → Prop} {ca cb : Addr} (R : Room A 6) (T : KP mg mb K B.h) (hN : N ≤ 100)
    (nd : (es.map fun e => (e.u, e.v)).Nodup) (hlt : ∀ e ∈ es, e.u < N ∧ e.v < N) (hsym : ∀ a b, HasE es a b → HasE es b a ∧ a ≠ b) (hs : sN < N) (ht : tN < N) (hst : sN ≠ tN) (CL : CoreLaw es c I sN tN D Inv) (hcv : Below cv lt) (hi0 : Inv 0 f0) (hEd : EdF c f0 es) (hgr : valueAt gr (Str.ofString "inf") = some (.int I tI))
    (H : St prog w B ((411, .raw (tabObj (corePs ca cb))) :: (ca, soCode augQ) :: (cb, soCode bfsQ) :: (gl rg (mkG N nR aR pR es) gr ++ l)) s)
    (h : ∀ k f es' t s', Inv k f → EdF c f es' → Skel es es' → Stop lt es c f sN tN k → St prog w B ((411, .raw (tabObj (corePs ca cb))) :: (ca, soCode augQ) :: (cb, soCode bfsQ) :: (gl rg (mkG N nR aR pR es') gr ++ l)) s' → Q (.int (k : Nat) t) s') :
    WC prog w A (.ref 416) [.ref rg.x, .int (sN : Nat) ts, .int (tN : Nat) tt, cv] [] Q s := by
  refine call_cells ["R", "cutoff"] ["s", "t"] ["R_nodes", "augment", "bidirectional_bfs", "flow_value", "v", "pred", "succ", "path", "u"] ["inf", "R_succ", "R_pred", "t", "s"] R T.nolimit (T.p_core.keeps H.keep) (by kernel_rfl) fun name doc pm an ct' => ?_
  refine wpAny_of_eq (a := ([("R", .ref rg.x), ("s", .int (sN : Nat) ts), ("t", .int (tN : Nat) tt), ("cutoff", cv)] : List (Str × Value))) (by kernel_rfl) ?_
  refine ⟨_, [("R", .ref rg.x), ("cutoff", cv)], [("s", .int (sN : Nat) ts), ("t", .int (tN : Nat) tt)], [none, none, none, some (.int (tN : Nat) tt), some (.int (sN : Nat) ts)], H, by kernel_rfl, by kernel_rfl, rfl, rfl, by kernel_rfl, fun L cs s hcs H => ?_⟩
  obtain ⟨cI, cR, cP, ct, cs, rfl⟩ := cs5 hcs
  have F := fm_co L cI cR cP ct cs
  have R1 := Room.deeper (env := coEnv L cI cR cP ct cs) (n := 5) R
  unfold cellsOf cellsOf cellsOf cellsOf cellsOf cellsOf at H
  k_flat
  show WP prog w (A.deeper (coEnv L cI cR cP ct cs)) (execs (bodyS dCore) (coEnv L cI cR cP ct cs)) _ s
  -- R_nodes = R.nodes; R_pred = R.pred; R_succ = R.succ; inf = R.graph["inf"]
  refine x_cons (st := .Assign [.Name _ _] _ _) (wpAny_Assign_Name ?_)
  k_fold
  show WP prog w _ (getAttr (.ref rg.x) _ _) _ _
  refine at_prop H T.X (H.inst (kvs := gdict rg) (by tb_start) (by tb_start)) T.q_nodes fun s H => ?_
  refine c_nodes ((R1.less (by decide : 2 ≤ 5)).in1) T H (by tb_start) (by tb_start) fun s H => ⟨rfl, ?_⟩
  k_upd
  refine x_cons (st := .Assign [.Name _ _] _ _) (wpAny_Assign_Name ?_)
  k_fold
  show WP prog w _ (getAttr (.ref rg.x) _ _) _ _
  refine at_prop H T.X (H.inst (kvs := gdict rg) (by tb_start) (by tb_start)) T.q_pred fun s H => ?_
  refine c_pred ((R1.less (by decide : 2 ≤ 5)).in1) T H (by tb_start) (by tb_start) fun s H => ⟨rfl, ?_⟩
  refine st_cel F H (c := cP) (by tb_start) (by kernel_rfl) (by tb_rel) ?_
  clear H; intro s H
  refine x_cons (st := .Assign [.Name _ _] _ _) (wpAny_Assign_Name ?_)
  k_fold
  show WP prog w _ (getAttr (.ref rg.x) _ _) _ _
  refine at_prop H T.X (H.inst (kvs := gdict rg) (by tb_start) (by tb_start)) T.q_succ fun s H => ?_
  refine c_succ ((R1.less (by decide : 2 ≤ 5)).in1) T H (by tb_start) (by tb_start) fun s H => ⟨rfl, ?_⟩
  refine st_cel F H (c := cR) (by tb_start) (by kernel_rfl) (by tb_rel) ?_
  clear H; intro s H
  refine x_cons (st := .Assign [.Name _ _] _ _) (wpAny_Assign_Name ?_)
  k_fold
  refine sub_dS H (kvs := gr) (by tb_start) hgr ?_
  clear H; intro s H
  refine st_cel F H (c := cI) (by tb_start) (by kernel_rfl) (by tb_rel) ?_
  clear H; intro s H
  -- def augment
  refine x_cons (st := .FunctionDef _ _ _ _ _ _ _ _ _ _) (x_def (by rfl) (by rfl) (by rfl) ?_)
  refine mk_hit (P := 411) (c := 415) (ps := corePs ca cb) (c' := ca) T H (clos := [("inf", cI), ("R_succ", cR)]) (by kernel_rfl) rfl rfl T.hd415 trivial (by kernel_rfl) (by tb_start) ?_
  clear H; intro fa s H
  rw [show qualnameIn (coEnv L cI cR cP ct cs) (Str.ofString "augment") (Str.ofString "augment") = augQ from by kernel_rfl] at H
  k_upd
  refine x_cons (st := .FunctionDef _ _ _ _ _ _ _ _ _ _) (x_def (by rfl) (by rfl) (by rfl) ?_)
  refine mk_hit (P := 411) (c := 415) (ps := corePs ca cb) (c' := cb) T H (clos := [("t", ct), ("s", cs), ("R_succ", cR), ("R_pred", cP)]) (by kernel_rfl) rfl rfl T.hd415 trivial (by kernel_rfl) (by tb_start) ?_
  clear H; intro fb s H
  rw [show qualnameIn (coEnv L cI cR cP ct cs) (Str.ofString "bidirectional_bfs") (Str.ofString "bidirectional_bfs") = bfsQ from by kernel_rfl] at H
  k_upd
  show WP prog w _ (execs ((bodyS dCore).drop 6) (coEnv L cI cR cP ct cs)) _ s
  have H2 : St prog w B ((fb, soBfs cs ct cR cP cb) :: (fa, soAug cR cI ca) :: (L, .ns (coF (some (.ref rg.x)) (some cv) (some (.ref rg.nd)) (some (.ref fa)) (some (.ref fb)) none none none none none none)) :: (cI, .cell (some (.int I tI))) :: (cR, .cell (some (.ref rg.ad))) :: (cP, .cell (some (.ref rg.pr))) :: (ct, .cell (some (.int (tN : Nat) tt))) :: (cs, .cell (some (.int (sN : Nat) ts))) :: (411, .raw (tabObj (corePs ca cb))) :: (ca, soCode augQ) :: (cb, soCode bfsQ) :: (gl rg (mkG N nR aR pR es) gr ++ l)) s := H
  clear H
  have H : St prog w B (gl rg (mkG N nR aR pR es) gr ++ ((L, .ns (coF (some (.ref rg.x)) (some cv) (some (.ref rg.nd)) (some (.ref fa)) (some (.ref fb)) none none none none none none)) :: ((fb, soBfs cs ct cR cP cb) :: (cb, soCode bfsQ) :: (fa, soAug cR cI ca) :: (ca, soCode augQ) :: (cI, .cell (some (.int I tI))) :: (cR, .cell (some (.ref rg.ad))) :: (cP, .cell (some (.ref rg.pr))) :: (ct, .cell (some (.int (tN : Nat) tt))) :: (cs, .cell (some (.int (sN : Nat) ts))) :: (411, .raw (tabObj (corePs ca cb))) :: l))) s := H2.sel (by k_sub)
  clear H2
  refine b_core (N := N) (sN := sN) (tN := tN) (D := D) (es := es) (c := c) (f0 := f0) (I := I) (lt := lt) (tI := tI) (ts := ts) (tt := tt) (fa := fa) (ca := ca) (fb := fb) (cb := cb) (gr := gr) (R1.less (by decide)) T hN nd hlt hsym hs ht hst CL hcv hi0 hEd (by tb_start) (by tb_start) (by tb_start) (by tb_start) (by tb_start) (by tb_start) (by tb_start) (by tb_start) (by tb_start) H ?_
  clear H
  intro k f es' t fr s h1 h2 h3 h4 H
  exact h k f es' t s h1 h2 h3 h4 (H.sel (by k_sub))

end
end Mine

-- MD8
namespace Mine
open PySem PySem.W PySem.Calls PyProof.Rows Builtin Builtin.ObjectAttr

local macro_rules | `(tactic| tb_start) => `(tactic| first | with_reducible exact List.mem_cons_self | with_reducible assumption | (with_reducible apply List.mem_cons_of_mem; tb_start) | (with_reducible apply List.mem_append_left; tb_start) | (with_reducible apply List.mem_append_right; tb_start) | with_reducible exact g_x | with_reducible exact g_dx | with_reducible exact g_gr | with_reducible exact g_nd | with_reducible exact g_ad | with_reducible exact g_pr)
local macro_rules | `(tactic| tb_rel) => `(tactic| first | with_reducible exact Upd1.head | with_reducible exact Put.head | (with_reducible apply Upd1.tail; tb_rel) | (with_reducible apply Put.tail; tb_rel) | (with_reducible apply Upd1.right; tb_rel) | (with_reducible apply Upd1.append; tb_rel))
local macro_rules | `(tactic| k_ne) => `(tactic| first | (with_reducible apply Apart.head; tb_start) | (with_reducible apply Apart.head'; tb_start) | (with_reducible apply Apart.tail; k_ne))
local macro_rules | `(tactic| k_same) => `(tactic| first | with_reducible exact Split.head | (with_reducible apply Split.tail; k_same) | (with_reducible apply Split.skip; k_same))
local macro_rules | `(tactic| k_same2) => `(tactic| first | with_reducible exact SplitL.head | with_reducible exact SplitL.last | (with_reducible apply SplitL.tail; k_same2) | (with_reducible apply SplitL.skip; k_same2))
local macro_rules | `(tactic| k_sub) => `(tactic| first | with_reducible exact Sel.nil | with_reducible exact Sel.all | (with_reducible refine Sel.cons (by k_same) ?_; k_sub) | (with_reducible refine Sel.app (by k_same2) ?_; k_sub) | (with_reducible exact Sel.one (by k_same2)))
set_option hygiene false in
local macro_rules | `(tactic| k_flat) => `(tactic| simp only [frameOf, List.map_cons, List.map_nil, List.cons_append, List.nil_append, List.append_nil] at H)
set_option hygiene false in
local macro_rules | `(tactic| tb_lt) => `(tactic| first
  | (with_reducible refine ev_loc F H (by tb_start) (by tb_start) (by tb_start) ?_)
  | (with_reducible refine ev_int H ?_; clear H; intro _ s H)
  | (with_reducible refine ev_str H ?_; clear H; intro _ s H)
  | (with_reducible refine ev_none ?_)
  | (with_reducible refine ev_bool ?_)
  | (with_reducible refine ev_cel F H (by tb_start) (by tb_start) ?_)
  | (with_reducible refine Attribute_any_ ?_)
  | (with_reducible refine Subscript_ ?_)
  | (with_reducible refine wpAny_BinOp ?_)
  | (with_reducible refine wpAny_Compare1 ?_)
  | ((with_reducible show wpAny _ _ (getAttr _ _ _) _ _ _); refine at_own H T.X (H.inst (by tb_start) (by tb_start)) T.o__adj_395 (by rfl) (by rfl) ?_; clear H; intro s H)
  | ((with_reducible show wpAny _ _ (getAttr _ _ _) _ _ _); refine at_own H T.X (H.inst (by tb_start) (by tb_start)) T.o__node_395 (by rfl) (by rfl) ?_; clear H; intro s H)
  | ((with_reducible show wpAny _ _ (getAttr _ _ _) _ _ _); refine at_own H T.X (H.inst (by tb_start) (by tb_start)) T.o__pred_395 (by rfl) (by rfl) ?_; clear H; intro s H)
  | ((with_reducible show wpAny _ _ (getAttr _ _ _) _ _ _); refine at_own H T.X (H.inst (by tb_start) (by tb_start)) T.o_graph_395 (by rfl) (by rfl) ?_; clear H; intro s H))
set_option hygiene false in
local macro_rules | `(tactic| k_upd) => `(tactic| (refine st_loc2 F H (by tb_start) (by tb_start) (by tb_rel) (by tb_rel) ?_; clear H; intro s H))
set_option hygiene false in
local macro_rules | `(tactic| k_fold) => `(tactic| (repeat tb_lt))

abbrev uv3 (T3 : List (Nat × Nat × Option Int)) : List (Nat × Nat) := T3.map fun x => (x.1, x.2.1)
abbrev uvE (es : List Ed) : List (Nat × Nat) := es.map fun e => (e.u, e.v)
/-- what the walks ask of the residual network -/
structure RLaw (N : Nat) (T3 : List (Nat × Nat × Option Int)) (c : Nat → Nat → Int) (I : Int) (sN tN D : Nat) (Inv : Nat → (Nat → Nat → Int) → Prop) : Prop where
  n : N ≤ 100
  len : T3.length ≤ 200
  nd : (uv3 T3).Nodup
  lt : ∀ x ∈ T3, x.1 < N ∧ x.2.1 < N
  sym : ∀ a b, (a, b) ∈ uv3 T3 → (b, a) ∈ uv3 T3 ∧ a ≠ b
  cap : ∀ x ∈ T3, x.2.2 = some (c x.1 x.2.1)
  s : sN < N
  t : tN < N
  st : sN ≠ tN
  law : ∀ es, uvE es = uv3 T3 → CoreLaw es c I sN tN D Inv
  zero : Inv 0 fun _ _ => 0
section
variable {N : Nat} {T3 : List (Nat × Nat × Option Int)} {c : Nat → Nat → Int} {I : Int} {sN tN D : Nat} {Inv : Nat → (Nat → Nat → Int) → Prop} {es : List Ed}
theorem RLaw.nd' (h : RLaw N T3 c I sN tN D Inv) (e : uvE es = uv3 T3) : (es.map fun e => (e.u, e.v)).Nodup := by rw [show (es.map fun e => (e.u, e.v)) = _ from e]; exact h.nd
theorem RLaw.lt' (h : RLaw N T3 c I sN tN D Inv) (e : uvE es = uv3 T3) : ∀ x ∈ es, x.u < N ∧ x.v < N := by
  intro x hx
  have : (x.u, x.v) ∈ uvE es := List.mem_map_of_mem hx
  rw [e] at this
  obtain ⟨y, hy, q⟩ := List.mem_map.mp this
  have := h.lt y hy
  have q1 : y.1 = x.u := congrArg (·.1) q
  have q2 : y.2.1 = x.v := congrArg (·.2) q
  omega
theorem RLaw.sym' (h : RLaw N T3 c I sN tN D Inv) (e : uvE es = uv3 T3) : ∀ a b, HasE es a b → HasE es b a ∧ a ≠ b := by
  intro a b hab
  have e' : (es.map fun e => (e.u, e.v)) = uv3 T3 := e
  unfold HasE at hab ⊢
  rw [e'] at hab ⊢
  exact h.sym a b hab
theorem RLaw.len' (h : RLaw N T3 c I sN tN D Inv) (e : uvE es = uv3 T3) : es.length ≤ 200 := by
  have := congrArg List.length e
  rw [List.length_map, List.length_map] at this
  rw [this]; exact h.len
theorem k3_uv {es : List Ed} {T3 : List (Nat × Nat × Option Int)} (h : es.map k3 = T3) : uvE es = uv3 T3 := by
  rw [← h]; unfold uvE uv3; rw [List.map_map]; rfl
theorem RLaw.edC (h : RLaw N T3 c I sN tN D Inv) (e : es.map k3 = T3) (hk : ∀ e ∈ es, KvC e) : ∀ e ∈ es, EdC c e := by
  intro x hx
  have hm : k3 x ∈ T3 := by rw [← e]; exact List.mem_map_of_mem hx
  have hc := h.cap _ hm
  obtain ⟨y, t, hkv⟩ := hk x hx
  refine .inl ⟨t, ?_⟩
  have : capO x = some y := by unfold capO; rw [hkv]
  have hc' : capO x = some (c x.u x.v) := hc
  rw [this] at hc'
  rw [hkv, Option.some.inj hc']
end
theorem EdF.edC {c f : Nat → Nat → Int} {es : List Ed} (h : EdF c f es) : ∀ e ∈ es, EdC c e := fun e he => by
  obtain ⟨t, t', hk⟩ := h e he
  exact .inr ⟨t, _, hk⟩
theorem below_inf (t : Tok) : Below (.float infBits t) fun _ => true := fun _ _ _ _ _ _ h => lt_inf h
theorem below_int (M : Int) (u : Tok) : Below (.int M u) fun k => decide ((k : Int) < M) := fun _ _ _ _ _ _ h => lt_int h
section
variable {w : World} {A : Around} {B : Bs} {l l' : Ledger} {s : Shared} {mg mb : Str → Option Value} {K : Frag} {v : Value} {g rg : GA}

theorem c_impl_new {N sN tN D : Nat} {nA aA pA : Nat → Addr} {es : List Ed} {c : Nat → Nat → Int} {ts tt tc : Tok} {Inv : Nat → (Nat → Nat → Int) → Prop} {Q : Value → Shared → Prop} (R : Room A 25) (T : KP mg mb K B.h)
    (E : EsOk N es) (RL : RLaw N (res3 (infOf (capE es N)) (capE es N)) c (infOf (capE es N)) sN tN D Inv)
    (H : St prog w B ((411, .raw (tabObj #[])) :: (404, .raw (tabObj #[])) :: (399, .raw (tabObj #[])) :: (gl g (mkG N nA aA pA es) [] ++ l)) s)
    (h : ∀ rg nR aR pR es' ca cb c1 c2 tI k f t s', Inv k f → EdF c f es' → uvE es' = uv3 (res3 (infOf (capE es N)) (capE es N)) → Shut es' c f sN tN → St prog w B ((411, .raw (tabObj (corePs ca cb))) :: (ca, soCode augQ) :: (cb, soCode bfsQ) :: (404, .raw (tabObj (capPs c1))) :: (399, .raw (tabObj (genPs c2))) :: (gl rg (mkG N nR aR pR es') [(Str.ofString "inf", .int (infOf (capE es N)) tI), (Str.ofString "flow_value", .int (k : Nat) t)] ++ (gl g (mkG N nA aA pA es) [] ++ l))) s' → Q (.ref rg.x) s') :
    WC prog w A (.ref 423) [.ref g.x, .int (sN : Nat) ts, .int (tN : Nat) tt, .str "capacity" tc, .none, .none] [] Q s := by
  refine call_pure [("G", .ref g.x), ("s", .int (sN : Nat) ts), ("t", .int (tN : Nat) tt), ("capacity", .str "capacity" tc), ("residual", .none), ("cutoff", .none)] ["R", "nbrs", "e"] R T T.p_impl (by kernel_rfl) (fun _ _ _ _ _ => by kernel_rfl) H fun L s H => ?_
  have F := fm_im L
  have R1 := Room.deeper (env := imEnv L) (n := 24) R
  k_flat
  show WP prog w (A.deeper (imEnv L)) (execs (bodyS dImpl) (imEnv L)) _ s
  have gx : ∀ {l'}, (g.x, .raw (instObj 395 g.dx)) ∈ gl g (mkG N nA aA pA es) [] ++ l' := fun {l'} => List.mem_append_left _ g_x
  have gd : ∀ {l'}, (g.dx, .dS (gdict g)) ∈ gl g (mkG N nA aA pA es) [] ++ l' := fun {l'} => List.mem_append_left _ g_dx
  have gn : (g.nd, .dI (rows nA N)) ∈ gl g (mkG N nA aA pA es) [] := g_nd (S := mkG N nA aA pA es)
  -- s not in G; t not in G; s == t
  refine x_cons (st := .If _ _ _ _) (wpAny_If ?_)
  refine wpAny_isTrue_Compare1 ?_
  k_fold
  refine notIn_inst (T.X.keeps H.keep) (H.inst (kvs := gdict g) (by tb_start) (by tb_start)) T.sp_contains T.fn178 ?_
  refine call_of ?_
  refine c_contains (a := g) (kvs := rows nA N) (R1.less (by decide)) T H (by tb_start) (by tb_start) (by tb_start) (H.lo (x := .dI (rows nA N)) (by tb_start)) ?_
  clear H; intro s H
  rw [rows_at RL.s]
  refine wpAny_truthy_bool ?_
  refine wpAny_truthy_bool ?_
  rw [if_neg (by simp)]
  refine x_nil ?_
  refine x_cons (st := .If _ _ _ _) (wpAny_If ?_)
  refine wpAny_isTrue_Compare1 ?_
  k_fold
  refine notIn_inst (T.X.keeps H.keep) (H.inst (kvs := gdict g) (by tb_start) (by tb_start)) T.sp_contains T.fn178 ?_
  refine call_of ?_
  refine c_contains (a := g) (kvs := rows nA N) (R1.less (by decide)) T H (by tb_start) (by tb_start) (by tb_start) (H.lo (x := .dI (rows nA N)) (by tb_start)) ?_
  clear H; intro s H
  rw [rows_at RL.t]
  refine wpAny_truthy_bool ?_
  refine wpAny_truthy_bool ?_
  rw [if_neg (by simp)]
  refine x_nil ?_
  refine x_cons (st := .If _ _ _ _) (wpAny_If ?_)
  refine wpAny_isTrue_Compare1 ?_
  k_fold
  refine eq_int ?_
  refine wpAny_truthy_bool ?_
  have hst := RL.st
  rw [if_neg (by simp only [beq_iff_eq]; omega)]
  refine x_nil ?_
  -- R
  refine x_cons (st := .If _ _ _ _) (wpAny_If ?_)
  refine wpAny_isTrue_Compare1 ?_
  k_fold
  refine is_none ?_
  refine wpAny_truthy_bool ?_
  rw [if_pos (by rfl)]
  refine x_one (st := .Assign [.Name _ _] _ _) (wpAny_Assign_Name ?_)
  refine ev_call_name ?_
  refine ev_glo F H T.toTp (by tb_start) T.gl_build_residual_network ?_
  refine call_pos ?_
  refine sp_cons ?_
  k_fold
  refine sp_cons ?_
  k_fold
  refine sp_nil ⟨(T.p_build.keeps H.keep).keeper, call_of ?_⟩
  refine c_build (g := g) (N := N) (nA := nA) (aA := aA) (pA := pA) (es := es) (l := (L, .ns (imF (some (.ref g.x)) (some (.int (sN : Nat) ts)) (some (.int (tN : Nat) tt)) (some (.str "capacity" tc)) (some .none) (some .none) none none none)) :: (411, .raw (tabObj #[])) :: l) (R1.less (by decide)) T E (H.sel (by k_sub)) ?_
  clear H; intro rg nR aR pR res c1 c2 tI s hres H
  k_upd
  have H2 : St prog w B ((L, .ns (imF (some (.ref g.x)) (some (.int (sN : Nat) ts)) (some (.int (tN : Nat) tt)) (some (.str "capacity" tc)) (some .none) (some .none) (some (.ref rg.x)) none none)) :: (gl rg (mkG N nR aR pR res) [(Str.ofString "inf", .int (infOf (capE es N)) tI)] ++ ((404, .raw (tabObj (capPs c1))) :: (399, .raw (tabObj (genPs c2))) :: (411, .raw (tabObj #[])) :: (gl g (mkG N nA aA pA es) [] ++ l)))) s := H.sel (by k_sub)
  clear H
  have huv := k3_uv hres.1
  refine x_cons ?_
  refine b_zero (N := N) (c := c) (R1.less (by decide)) T RL.n (RL.len' huv) (RL.nd' huv) (fun e he => (RL.lt' huv e he).1) (RL.edC hres.1 hres.2) H2 ?_
  clear H2; intro es1 nb e1 s hsk hE1 H
  have huv1 : uvE es1 = uv3 (res3 (infOf (capE es N)) (capE es N)) := (hsk.uv).trans huv
  refine x_cons (st := .If _ _ _ _) (wpAny_If ?_)
  refine wpAny_isTrue_Compare1 ?_
  k_fold
  refine is_none ?_
  refine wpAny_truthy_bool ?_
  rw [if_pos (by rfl)]
  refine x_one (st := .Assign [.Name _ _] _ _) (wpAny_Assign_Name ?_)
  refine ev_call_name ?_
  refine ev_blt F H T.toTp (by tb_start) T.gb_float rfl (by decide) ?_
  refine call_pos ?_
  refine sp_cons ?_
  k_fold
  refine sp_nil ⟨keeps_type, ?_⟩
  refine float_inf H ?_
  clear H; intro tj s H
  k_upd
  refine x_cons (st := .Assign [.Subscript _ _ _] _ _) (wpAny_Assign_Subscript ?_)
  refine ev_call_name ?_
  refine ev_glo F H T.toTp (by tb_start) T.gl_edmonds_karp_core ?_
  refine call_pos ?_
  refine sp_cons ?_
  k_fold
  refine sp_cons ?_
  k_fold
  refine sp_cons ?_
  k_fold
  refine sp_cons ?_
  k_fold
  refine sp_nil ⟨(T.p_core.keeps H.keep).keeper, call_of ?_⟩
  have H2 : St prog w B ((411, .raw (tabObj #[])) :: (gl rg (mkG N nR aR pR es1) [(Str.ofString "inf", .int (infOf (capE es N)) tI)] ++ ((L, .ns (imF (some (.ref g.x)) (some (.int (sN : Nat) ts)) (some (.int (tN : Nat) tt)) (some (.str "capacity" tc)) (some .none) (some (.float infBits tj)) (some (.ref rg.x)) nb e1)) :: (404, .raw (tabObj (capPs c1))) :: (399, .raw (tabObj (genPs c2))) :: (gl g (mkG N nA aA pA es) [] ++ l)))) s := H.sel (by k_sub)
  clear H
  refine c_core_new (N := N) (sN := sN) (tN := tN) (D := D) (Inv := Inv) (R1.less (by decide)) T RL.n (RL.nd' huv1) (RL.lt' huv1) (RL.sym' huv1) RL.s RL.t RL.st (RL.law _ huv1) (below_inf tj) RL.zero hE1 (by rfl) H2 ?_
  clear H2; intro k f es2 ca cb tk s hk hE2 hsk2 hstop H
  k_fold
  refine set_dS (kvs := [(Str.ofString "inf", .int (infOf (capE es N)) tI)]) H (by show 1 ≤ sizeLine; decide) (.tail (.tail (.tail (u_gr.append _)))) ?_
  clear H; intro s H
  refine x_one (st := .Return _ _) (wpAny_Return_some ?_)
  k_fold
  refine h rg nR aR pR es2 ca cb c1 c2 tI k f tk s hk hE2 (hsk2.uv.trans huv1) ?_ ?_
  · rcases hstop.2 with h1 | h1
    · cases h1
    · have : HasE es2 = HasE es1 := hsk2.hasE
      unfold Shut at h1 ⊢
      rw [this]; exact h1
  · have H2 : St prog w B ((411, .raw (tabObj (corePs ca cb))) :: (ca, soCode augQ) :: (cb, soCode bfsQ) :: (gl rg (mkG N nR aR pR es2) [(Str.ofString "inf", .int (infOf (capE es N)) tI), (Str.ofString "flow_value", .int (k : Nat) tk)] ++ ((L, .ns (imF (some (.ref g.x)) (some (.int (sN : Nat) ts)) (some (.int (tN : Nat) tt)) (some (.str "capacity" tc)) (some .none) (some (.float infBits tj)) (some (.ref rg.x)) nb e1)) :: (404, .raw (tabObj (capPs c1))) :: (399, .raw (tabObj (genPs c2))) :: (gl g (mkG N nA aA pA es) [] ++ l)))) s := H
    exact H2.sel (by k_sub)

theorem c_impl_old {N sN tN D : Nat} {nA aA pA nR aR pR : Nat → Addr} {es es0 : List Ed} {c : Nat → Nat → Int} {ts tt tc : Tok} {Inv : Nat → (Nat → Nat → Int) → Prop} {Q : Value → Shared → Prop} {T3 : List (Nat × Nat × Option Int)} {I M : Int} {tI tM : Tok} {ca cb : Addr} {f0 : Nat → Nat → Int} {fv0 al0 : Value} (R : Room A 25) (T : KP mg mb K B.h)
    (RL : RLaw N T3 c I sN tN D Inv) (huv : uvE es0 = uv3 T3) (hE0 : EdF c f0 es0)
    (H : St prog w B ((411, .raw (tabObj (corePs ca cb))) :: (ca, soCode augQ) :: (cb, soCode bfsQ) :: (gl rg (mkG N nR aR pR es0) [(Str.ofString "inf", .int I tI), (Str.ofString "flow_value", fv0), (Str.ofString "algorithm", al0)] ++ (gl g (mkG N nA aA pA es) [] ++ l))) s)
    (h : ∀ es' k f t s', Inv k f → EdF c f es' → uvE es' = uv3 T3 → Stop (fun k => decide ((k : Int) < M)) es' c f sN tN k → St prog w B ((411, .raw (tabObj (corePs ca cb))) :: (ca, soCode augQ) :: (cb, soCode bfsQ) :: (gl rg (mkG N nR aR pR es') [(Str.ofString "inf", .int I tI), (Str.ofString "flow_value", .int (k : Nat) t), (Str.ofString "algorithm", al0)] ++ (gl g (mkG N nA aA pA es) [] ++ l))) s' → Q (.ref rg.x) s') :
    WC prog w A (.ref 423) [.ref g.x, .int (sN : Nat) ts, .int (tN : Nat) tt, .str "capacity" tc, .ref rg.x, .int M tM] [] Q s := by
  refine call_pure [("G", .ref g.x), ("s", .int (sN : Nat) ts), ("t", .int (tN : Nat) tt), ("capacity", .str "capacity" tc), ("residual", .ref rg.x), ("cutoff", .int M tM)] ["R", "nbrs", "e"] R T T.p_impl (by kernel_rfl) (fun _ _ _ _ _ => by kernel_rfl) H fun L s H => ?_
  have F := fm_im L
  have R1 := Room.deeper (env := imEnv L) (n := 24) R
  k_flat
  show WP prog w (A.deeper (imEnv L)) (execs (bodyS dImpl) (imEnv L)) _ s
  have gx : ∀ {l'}, (g.x, .raw (instObj 395 g.dx)) ∈ gl g (mkG N nA aA pA es) [] ++ l' := fun {l'} => List.mem_append_left _ g_x
  have gd : ∀ {l'}, (g.dx, .dS (gdict g)) ∈ gl g (mkG N nA aA pA es) [] ++ l' := fun {l'} => List.mem_append_left _ g_dx
  have gn : (g.nd, .dI (rows nA N)) ∈ gl g (mkG N nA aA pA es) [] := g_nd (S := mkG N nA aA pA es)
  -- s not in G; t not in G; s == t
  refine x_cons (st := .If _ _ _ _) (wpAny_If ?_)
  refine wpAny_isTrue_Compare1 ?_
  k_fold
  refine notIn_inst (T.X.keeps H.keep) (H.inst (kvs := gdict g) (by tb_start) (by tb_start)) T.sp_contains T.fn178 ?_
  refine call_of ?_
  refine c_contains (a := g) (kvs := rows nA N) (R1.less (by decide)) T H (by tb_start) (by tb_start) (by tb_start) (H.lo (x := .dI (rows nA N)) (by tb_start)) ?_
  clear H; intro s H
  rw [rows_at RL.s]
  refine wpAny_truthy_bool ?_
  refine wpAny_truthy_bool ?_
  rw [if_neg (by simp)]
  refine x_nil ?_
  refine x_cons (st := .If _ _ _ _) (wpAny_If ?_)
  refine wpAny_isTrue_Compare1 ?_
  k_fold
  refine notIn_inst (T.X.keeps H.keep) (H.inst (kvs := gdict g) (by tb_start) (by tb_start)) T.sp_contains T.fn178 ?_
  refine call_of ?_
  refine c_contains (a := g) (kvs := rows nA N) (R1.less (by decide)) T H (by tb_start) (by tb_start) (by tb_start) (H.lo (x := .dI (rows nA N)) (by tb_start)) ?_
  clear H; intro s H
  rw [rows_at RL.t]
  refine wpAny_truthy_bool ?_
  refine wpAny_truthy_bool ?_
  rw [if_neg (by simp)]
  refine x_nil ?_
  refine x_cons (st := .If _ _ _ _) (wpAny_If ?_)
  refine wpAny_isTrue_Compare1 ?_
  k_fold
  refine eq_int ?_
  refine wpAny_truthy_bool ?_
  have hst := RL.st
  rw [if_neg (by simp only [beq_iff_eq]; omega)]
  refine x_nil ?_
  -- R
  refine x_cons (st := .If _ _ _ _) (wpAny_If ?_)
  refine wpAny_isTrue_Compare1 ?_
  k_fold
  refine is_none_ne (by simp) ?_
  refine wpAny_truthy_bool ?_
  rw [if_neg (by decide)]
  refine x_one (st := .Assign [.Name _ _] _ _) (wpAny_Assign_Name ?_)
  k_fold
  k_upd
  have H2 : St prog w B ((L, .ns (imF (some (.ref g.x)) (some (.int (sN : Nat) ts)) (some (.int (tN : Nat) tt)) (some (.str "capacity" tc)) (some (.ref rg.x)) (some (.int M tM)) (some (.ref rg.x)) none none)) :: (gl rg (mkG N nR aR pR es0) [(Str.ofString "inf", .int I tI), (Str.ofString "flow_value", fv0), (Str.ofString "algorithm", al0)] ++ ((411, .raw (tabObj (corePs ca cb))) :: (ca, soCode augQ) :: (cb, soCode bfsQ) :: (gl g (mkG N nA aA pA es) [] ++ l)))) s := H.sel (by k_sub)
  clear H
  refine x_cons ?_
  refine b_zero (N := N) (c := c) (R1.less (by decide)) T RL.n (RL.len' huv) (RL.nd' huv) (fun e he => (RL.lt' huv e he).1) hE0.edC H2 ?_
  clear H2; intro es1 nb e1 s hsk hE1 H
  have huv1 : uvE es1 = uv3 T3 := (hsk.uv).trans huv
  refine x_cons (st := .If _ _ _ _) (wpAny_If ?_)
  refine wpAny_isTrue_Compare1 ?_
  k_fold
  refine is_none_ne (by simp) ?_
  refine wpAny_truthy_bool ?_
  rw [if_neg (by decide)]
  refine x_nil ?_
  refine x_cons (st := .Assign [.Subscript _ _ _] _ _) (wpAny_Assign_Subscript ?_)
  refine ev_call_name ?_
  refine ev_glo F H T.toTp (by tb_start) T.gl_edmonds_karp_core ?_
  refine call_pos ?_
  refine sp_cons ?_
  k_fold
  refine sp_cons ?_
  k_fold
  refine sp_cons ?_
  k_fold
  refine sp_cons ?_
  k_fold
  refine sp_nil ⟨(T.p_core.keeps H.keep).keeper, call_of ?_⟩
  have H2 : St prog w B ((411, .raw (tabObj (corePs ca cb))) :: (ca, soCode augQ) :: (cb, soCode bfsQ) :: (gl rg (mkG N nR aR pR es1) [(Str.ofString "inf", .int I tI), (Str.ofString "flow_value", fv0), (Str.ofString "algorithm", al0)] ++ ((L, .ns (imF (some (.ref g.x)) (some (.int (sN : Nat) ts)) (some (.int (tN : Nat) tt)) (some (.str "capacity" tc)) (some (.ref rg.x)) (some (.int M tM)) (some (.ref rg.x)) nb e1)) :: (gl g (mkG N nA aA pA es) [] ++ l)))) s := H.sel (by k_sub)
  clear H
  refine c_core_hit (N := N) (sN := sN) (tN := tN) (D := D) (Inv := Inv) (R1.less (by decide)) T RL.n (RL.nd' huv1) (RL.lt' huv1) (RL.sym' huv1) RL.s RL.t RL.st (RL.law _ huv1) (below_int M tM) RL.zero hE1 (by rfl) H2 ?_
  clear H2; intro k f es2 tk s hk hE2 hsk2 hstop H
  k_fold
  refine set_dS (kvs := [(Str.ofString "inf", .int I tI), (Str.ofString "flow_value", fv0), (Str.ofString "algorithm", al0)]) H (by show 3 ≤ sizeLine; decide) (.tail (.tail (.tail (u_gr.append _)))) ?_
  clear H; intro s H
  refine x_one (st := .Return _ _) (wpAny_Return_some ?_)
  k_fold
  refine h es2 k f tk s hk hE2 (hsk2.uv.trans huv1) ?_ ?_
  · refine ⟨hstop.1, ?_⟩
    rcases hstop.2 with h1 | h1
    · exact .inl h1
    · have : HasE es2 = HasE es1 := hsk2.hasE
      unfold Shut at h1 ⊢
      rw [this]; exact .inr h1
  · have H2 : St prog w B ((411, .raw (tabObj (corePs ca cb))) :: (ca, soCode augQ) :: (cb, soCode bfsQ) :: (gl rg (mkG N nR aR pR es2) [(Str.ofString "inf", .int I tI), (Str.ofString "flow_value", .int (k : Nat) tk), (Str.ofString "algorithm", al0)] ++ ((L, .ns (imF (some (.ref g.x)) (some (.int (sN : Nat) ts)) (some (.int (tN : Nat) tt)) (some (.str "capacity" tc)) (some (.ref rg.x)) (some (.int M tM)) (some (.ref rg.x)) nb e1)) :: (gl g (mkG N nA aA pA es) [] ++ l)))) s := H
    exact H2.sel (by k_sub)

end
end Mine

-- MD9
namespace Mine
open PySem PySem.W PySem.Calls PyProof.Rows Builtin Builtin.ObjectAttr

local macro_rules | `(tactic| tb_start) => `(tactic| first | with_reducible exact List.mem_cons_self | with_reducible assumption | (with_reducible apply List.mem_cons_of_mem; tb_start) | (with_reducible apply List.mem_append_left; tb_start) | (with_reducible apply List.mem_append_right; tb_start) | with_reducible exact g_x | with_reducible exact g_dx | with_reducible exact g_gr | with_reducible exact g_nd | with_reducible exact g_ad | with_reducible exact g_pr)
local macro_rules | `(tactic| tb_rel) => `(tactic| first | with_reducible exact Upd1.head | with_reducible exact Put.head | (with_reducible apply Upd1.tail; tb_rel) | (with_reducible apply Put.tail; tb_rel) | (with_reducible apply Upd1.right; tb_rel) | (with_reducible apply Upd1.append; tb_rel))
local macro_rules | `(tactic| k_ne) => `(tactic| first | (with_reducible apply Apart.head; tb_start) | (with_reducible apply Apart.head'; tb_start) | (with_reducible apply Apart.tail; k_ne))
local macro_rules | `(tactic| k_same) => `(tactic| first | with_reducible exact Split.head | (with_reducible apply Split.tail; k_same) | (with_reducible apply Split.skip; k_same))
local macro_rules | `(tactic| k_same2) => `(tactic| first | with_reducible exact SplitL.head | with_reducible exact SplitL.last | (with_reducible apply SplitL.tail; k_same2) | (with_reducible apply SplitL.skip; k_same2))
local macro_rules | `(tactic| k_sub) => `(tactic| first | with_reducible exact Sel.nil | with_reducible exact Sel.all | (with_reducible refine Sel.cons (by k_same) ?_; k_sub) | (with_reducible refine Sel.app (by k_same2) ?_; k_sub) | (with_reducible exact Sel.one (by k_same2)))
set_option hygiene false in
local macro_rules | `(tactic| k_flat) => `(tactic| simp only [frameOf, List.map_cons, List.map_nil, List.cons_append, List.nil_append, List.append_nil] at H)
set_option hygiene false in
local macro_rules | `(tactic| tb_lt) => `(tactic| first
  | (with_reducible refine ev_loc F H (by tb_start) (by tb_start) (by tb_start) ?_)
  | (with_reducible refine ev_int H ?_; clear H; intro _ s H)
  | (with_reducible refine ev_str H ?_; clear H; intro _ s H)
  | (with_reducible refine ev_none ?_)
  | (with_reducible refine ev_bool ?_)
  | (with_reducible refine ev_cel F H (by tb_start) (by tb_start) ?_)
  | (with_reducible refine Attribute_any_ ?_)
  | (with_reducible refine Subscript_ ?_)
  | (with_reducible refine wpAny_BinOp ?_)
  | (with_reducible refine wpAny_Compare1 ?_)
  | ((with_reducible show wpAny _ _ (getAttr _ _ _) _ _ _); refine at_own H T.X (H.inst (by tb_start) (by tb_start)) T.o__adj_395 (by rfl) (by rfl) ?_; clear H; intro s H)
  | ((with_reducible show wpAny _ _ (getAttr _ _ _) _ _ _); refine at_own H T.X (H.inst (by tb_start) (by tb_start)) T.o__node_395 (by rfl) (by rfl) ?_; clear H; intro s H)
  | ((with_reducible show wpAny _ _ (getAttr _ _ _) _ _ _); refine at_own H T.X (H.inst (by tb_start) (by tb_start)) T.o__pred_395 (by rfl) (by rfl) ?_; clear H; intro s H)
  | ((with_reducible show wpAny _ _ (getAttr _ _ _) _ _ _); refine at_own H T.X (H.inst (by tb_start) (by tb_start)) T.o_graph_395 (by rfl) (by rfl) ?_; clear H; intro s H))
set_option hygiene false in
local macro_rules | `(tactic| k_upd) => `(tactic| (refine st_loc2 F H (by tb_start) (by tb_start) (by tb_rel) (by tb_rel) ?_; clear H; intro s H))
set_option hygiene false in
local macro_rules | `(tactic| k_fold) => `(tactic| (repeat tb_lt))

abbrev ekEnv (L : Addr) : Env := envX "edmonds_karp" (scopeS dEk) L 431 (.ref 430) []
theorem fm_ek (L : Addr) : Fm (ekEnv L) L ["G", "s", "t", "capacity", "residual", "value_only", "cutoff", "R"] [] ["edmonds_karp_impl"] := fm_of (by kernel_rfl) rfl
section
variable {w : World} {A : Around} {B : Bs} {l l' : Ledger} {s : Shared} {mg mb : Str → Option Value} {K : Frag} {v : Value} {g rg : GA}

theorem c_ek_new {N sN tN D : Nat} {nA aA pA : Nat → Addr} {es : List Ed} {c : Nat → Nat → Int} {ts tt : Tok} {Inv : Nat → (Nat → Nat → Int) → Prop} {Q : Value → Shared → Prop} (R : Room A 26) (T : KP mg mb K B.h)
    (E : EsOk N es) (RL : RLaw N (res3 (infOf (capE es N)) (capE es N)) c (infOf (capE es N)) sN tN D Inv)
    (H : St prog w B ((411, .raw (tabObj #[])) :: (404, .raw (tabObj #[])) :: (399, .raw (tabObj #[])) :: (gl g (mkG N nA aA pA es) [] ++ l)) s)
    (h : ∀ rg nR aR pR es' ca cb c1 c2 tI k f t t2 s', Inv k f → EdF c f es' → uvE es' = uv3 (res3 (infOf (capE es N)) (capE es N)) → Shut es' c f sN tN → St prog w B ((411, .raw (tabObj (corePs ca cb))) :: (ca, soCode augQ) :: (cb, soCode bfsQ) :: (404, .raw (tabObj (capPs c1))) :: (399, .raw (tabObj (genPs c2))) :: (gl rg (mkG N nR aR pR es') [(Str.ofString "inf", .int (infOf (capE es N)) tI), (Str.ofString "flow_value", .int (k : Nat) t), (Str.ofString "algorithm", .str (Str.ofString "edmonds_karp") t2)] ++ (gl g (mkG N nA aA pA es) [] ++ l))) s' → Q (.ref rg.x) s') :
    WC prog w A (.ref 431) [.ref g.x, .int (sN : Nat) ts, .int (tN : Nat) tt] [] Q s := by
  refine call_def ["G", "s", "t", "capacity", "residual", "value_only", "cutoff"] ["R"] R T.nolimit (T.p_ek.keeps H.keep) (by kernel_rfl) fun name doc pm an ct => ?_
  obtain ⟨o, n, tc, ho, hd⟩ := T.t424
  show wpAny _ _ (seqItems? (.ref 424) >>= _) _ _ _
  refine wpAny_bind (wpAny_seqItems (H.keep _ _ ho) hd ?_)
  refine wpAny_of_eq (a := ([("G", .ref g.x), ("s", .int (sN : Nat) ts), ("t", .int (tN : Nat) tt), ("capacity", .str "capacity" tc), ("residual", .none), ("value_only", .bool false), ("cutoff", .none)] : List (Str × Value))) (by kernel_rfl) ?_
  refine ⟨_, H, rfl, fun L s H => ?_⟩
  have F := fm_ek L
  have R1 := Room.deeper (env := ekEnv L) (n := 25) R
  k_flat
  show WP prog w (A.deeper (ekEnv L)) (execs (bodyS dEk) (ekEnv L)) _ s
  refine x_cons (st := .Assign [.Name _ _] _ _) (wpAny_Assign_Name ?_)
  refine ev_call_name ?_
  refine ev_glo F H T.toTp (by tb_start) T.gl_edmonds_karp_impl ?_
  refine call_pos ?_
  refine sp_cons ?_
  k_fold
  refine sp_cons ?_
  k_fold
  refine sp_cons ?_
  k_fold
  refine sp_cons ?_
  k_fold
  refine sp_cons ?_
  k_fold
  refine sp_cons ?_
  k_fold
  refine sp_nil ⟨(T.p_impl.keeps H.keep).keeper, call_of ?_⟩
  have H2 : St prog w B ((411, .raw (tabObj #[])) :: (404, .raw (tabObj #[])) :: (399, .raw (tabObj #[])) :: (gl g (mkG N nA aA pA es) [] ++ ((L, .ns [("G", some (.ref g.x)), ("s", some (.int (sN : Nat) ts)), ("t", some (.int (tN : Nat) tt)), ("capacity", some (.str "capacity" tc)), ("residual", some (.none)), ("value_only", some (.bool false)), ("cutoff", some (.none)), ("R", none)]) :: l))) s := H.sel (by k_sub)
  clear H
  refine c_impl_new (N := N) (sN := sN) (tN := tN) (D := D) (g := g) (es := es) (c := c) (Inv := Inv) R1 T E RL H2 ?_
  clear H2; intro rg nR aR pR es' ca cb c1 c2 tI k f tk s h1 h2 h3 h4 H
  k_upd
  refine x_cons (st := .Assign [.Subscript _ _ _] _ _) (wpAny_Assign_Subscript ?_)
  refine ev_str H ?_
  clear H; intro ta s H
  k_fold
  refine set_dS (kvs := [(Str.ofString "inf", .int (infOf (capE es N)) tI), (Str.ofString "flow_value", .int (k : Nat) tk)]) H (by show 2 ≤ sizeLine; decide) (.tail (.tail (.tail (.tail (.tail (u_gr.append _)))))) ?_
  clear H; intro s H
  refine x_one (st := .Return _ _) (wpAny_Return_some ?_)
  k_fold
  refine h rg nR aR pR es' ca cb c1 c2 tI k f tk ta s h1 h2 h3 h4 ?_
  have H2 : St prog w B ((411, .raw (tabObj (corePs ca cb))) :: (ca, soCode augQ) :: (cb, soCode bfsQ) :: (404, .raw (tabObj (capPs c1))) :: (399, .raw (tabObj (genPs c2))) :: (gl rg (mkG N nR aR pR es') [(Str.ofString "inf", .int (infOf (capE es N)) tI), (Str.ofString "flow_value", .int (k : Nat) tk), (Str.ofString "algorithm", .str (Str.ofString "edmonds_karp") ta)] ++ (gl g (mkG N nA aA pA es) [] ++ ((L, .ns [("G", some (.ref g.x)), ("s", some (.int (sN : Nat) ts)), ("t", some (.int (tN : Nat) tt)), ("capacity", some (.str "capacity" tc)), ("residual", some (.none)), ("value_only", some (.bool false)), ("cutoff", some (.none)), ("R", some (.ref rg.x))]) :: l)))) s := H
  exact H2.sel (by k_sub)

theorem c_ek_old {N sN tN D : Nat} {nA aA pA nR aR pR : Nat → Addr} {es es0 : List Ed} {c : Nat → Nat → Int} {ts tt : Tok} {Inv : Nat → (Nat → Nat → Int) → Prop} {Q : Value → Shared → Prop} {T3 : List (Nat × Nat × Option Int)} {I M : Int} {tI tM : Tok} {ca cb : Addr} {f0 : Nat → Nat → Int} {fv0 al0 : Value} (R : Room A 26) (T : KP mg mb K B.h)
    (RL : RLaw N T3 c I sN tN D Inv) (huv : uvE es0 = uv3 T3) (hE0 : EdF c f0 es0)
    (H : St prog w B ((411, .raw (tabObj (corePs ca cb))) :: (ca, soCode augQ) :: (cb, soCode bfsQ) :: (gl rg (mkG N nR aR pR es0) [(Str.ofString "inf", .int I tI), (Str.ofString "flow_value", fv0), (Str.ofString "algorithm", al0)] ++ (gl g (mkG N nA aA pA es) [] ++ l))) s)
    (h : ∀ es' k f t t2 s', Inv k f → EdF c f es' → uvE es' = uv3 T3 → Stop (fun k => decide ((k : Int) < M)) es' c f sN tN k → St prog w B ((411, .raw (tabObj (corePs ca cb))) :: (ca, soCode augQ) :: (cb, soCode bfsQ) :: (gl rg (mkG N nR aR pR es') [(Str.ofString "inf", .int I tI), (Str.ofString "flow_value", .int (k : Nat) t), (Str.ofString "algorithm", .str (Str.ofString "edmonds_karp") t2)] ++ (gl g (mkG N nA aA pA es) [] ++ l))) s' → Q (.ref rg.x) s') :
    WC prog w A (.ref 431) [.ref g.x, .int (sN : Nat) ts, .int (tN : Nat) tt] [("residual", .ref rg.x), ("cutoff", .int M tM)] Q s := by
  refine call_def ["G", "s", "t", "capacity", "residual", "value_only", "cutoff"] ["R"] R T.nolimit (T.p_ek.keeps H.keep) (by kernel_rfl) fun name doc pm an ct => ?_
  obtain ⟨o, n, tc, ho, hd⟩ := T.t424
  show wpAny _ _ (seqItems? (.ref 424) >>= _) _ _ _
  refine wpAny_bind (wpAny_seqItems (H.keep _ _ ho) hd ?_)
  refine wpAny_of_eq (a := ([("G", .ref g.x), ("s", .int (sN : Nat) ts), ("t", .int (tN : Nat) tt), ("capacity", .str "capacity" tc), ("residual", .ref rg.x), ("value_only", .bool false), ("cutoff", .int M tM)] : List (Str × Value))) (by kernel_rfl) ?_
  refine ⟨_, H, rfl, fun L s H => ?_⟩
  have F := fm_ek L
  have R1 := Room.deeper (env := ekEnv L) (n := 25) R
  k_flat
  show WP prog w (A.deeper (ekEnv L)) (execs (bodyS dEk) (ekEnv L)) _ s
  refine x_cons (st := .Assign [.Name _ _] _ _) (wpAny_Assign_Name ?_)
  refine ev_call_name ?_
  refine ev_glo F H T.toTp (by tb_start) T.gl_edmonds_karp_impl ?_
  refine call_pos ?_
  refine sp_cons ?_
  k_fold
  refine sp_cons ?_
  k_fold
  refine sp_cons ?_
  k_fold
  refine sp_cons ?_
  k_fold
  refine sp_cons ?_
  k_fold
  refine sp_cons ?_
  k_fold
  refine sp_nil ⟨(T.p_impl.keeps H.keep).keeper, call_of ?_⟩
  have H2 : St prog w B ((411, .raw (tabObj (corePs ca cb))) :: (ca, soCode augQ) :: (cb, soCode bfsQ) :: (gl rg (mkG N nR aR pR es0) [(Str.ofString "inf", .int I tI), (Str.ofString "flow_value", fv0), (Str.ofString "algorithm", al0)] ++ (gl g (mkG N nA aA pA es) [] ++ ((L, .ns [("G", some (.ref g.x)), ("s", some (.int (sN : Nat) ts)), ("t", some (.int (tN : Nat) tt)), ("capacity", some (.str "capacity" tc)), ("residual", some (.ref rg.x)), ("value_only", some (.bool false)), ("cutoff", some (.int M tM)), ("R", none)]) :: l)))) s := H.sel (by k_sub)
  clear H
  refine c_impl_old (N := N) (sN := sN) (tN := tN) (D := D) (g := g) (es := es) (c := c) (Inv := Inv) R1 T RL huv hE0 H2 ?_
  clear H2; intro es' k f tk s h1 h2 h3 h4 H
  k_upd
  refine x_cons (st := .Assign [.Subscript _ _ _] _ _) (wpAny_Assign_Subscript ?_)
  refine ev_str H ?_
  clear H; intro ta s H
  k_fold
  refine set_dS (kvs := [(Str.ofString "inf", .int I tI), (Str.ofString "flow_value", .int (k : Nat) tk), (Str.ofString "algorithm", al0)]) H (by show 3 ≤ sizeLine; decide) (.tail (.tail (.tail (u_gr.append _)))) ?_
  clear H; intro s H
  refine x_one (st := .Return _ _) (wpAny_Return_some ?_)
  k_fold
  refine h es' k f tk ta s h1 h2 h3 h4 ?_
  have H2 : St prog w B ((411, .raw (tabObj (corePs ca cb))) :: (ca, soCode augQ) :: (cb, soCode bfsQ) :: (gl rg (mkG N nR aR pR es') [(Str.ofString "inf", .int I tI), (Str.ofString "flow_value", .int (k : Nat) tk), (Str.ofString "algorithm", .str (Str.ofString "edmonds_karp") ta)] ++ (gl g (mkG N nA aA pA es) [] ++ ((L, .ns [("G", some (.ref g.x)), ("s", some (.int (sN : Nat) ts)), ("t", some (.int (tN : Nat) tt)), ("capacity", some (.str "capacity" tc)), ("residual", some (.ref rg.x)), ("value_only", some (.bool false)), ("cutoff", some (.int M tM)), ("R", some (.ref rg.x))]) :: l)))) s := H
  exact H2.sel (by k_sub)

end
end Mine

-- MP1
namespace Mine

/-! sums over the numbers below N -/
def sumN : Nat → (Nat → Int) → Int
  | 0, _ => 0
  | n + 1, g => sumN n g + g n
theorem sumN_succ (N : Nat) (g : Nat → Int) : sumN (N + 1) g = sumN N g + g N := rfl
theorem sumN_congr {g h : Nat → Int} : ∀ {N : Nat}, (∀ x, x < N → g x = h x) → sumN N g = sumN N h
  | 0, _ => rfl
  | N + 1, e => by unfold sumN; rw [sumN_congr fun x hx => e x (by omega), e N (by omega)]
theorem sumN_add (g h : Nat → Int) : ∀ N, sumN N (fun x => g x + h x) = sumN N g + sumN N h
  | 0 => rfl
  | N + 1 => by simp only [sumN_succ]; rw [sumN_add g h N]; omega
theorem sumN_neg (g : Nat → Int) : ∀ N, sumN N (fun x => - g x) = - sumN N g
  | 0 => rfl
  | N + 1 => by simp only [sumN_succ]; rw [sumN_neg g N]; omega
theorem sumN_mul (a : Int) (g : Nat → Int) : ∀ N, sumN N (fun x => a * g x) = a * sumN N g
  | 0 => by simp [sumN]
  | N + 1 => by unfold sumN; rw [sumN_mul a g N, Int.mul_add]
theorem sumN_zero : ∀ N, sumN N (fun _ => 0) = 0
  | 0 => rfl
  | N + 1 => by unfold sumN; rw [sumN_zero N]; rfl
theorem sumN_zero' {g : Nat → Int} {N : Nat} (h : ∀ x, x < N → g x = 0) : sumN N g = 0 := (sumN_congr h).trans (sumN_zero N)
theorem sumN_le {g h : Nat → Int} : ∀ {N : Nat}, (∀ x, x < N → g x ≤ h x) → sumN N g ≤ sumN N h
  | 0, _ => Int.le_refl _
  | N + 1, e => by
    unfold sumN
    have h1 := sumN_le (N := N) fun x hx => e x (by omega)
    have h2 := e N (by omega)
    omega
theorem sumN_swap (g : Nat → Nat → Int) (M : Nat) : ∀ N, sumN N (fun x => sumN M fun y => g x y) = sumN M fun y => sumN N fun x => g x y
  | 0 => (sumN_zero M).symm
  | N + 1 => by simp only [sumN_succ]; rw [sumN_add, sumN_swap g M N]
theorem sumN_one {g : Nat → Int} {i : Nat} : ∀ {N : Nat}, i < N → (∀ x, x < N → x ≠ i → g x = 0) → sumN N g = g i
  | 0, h, _ => absurd h (Nat.not_lt_zero _)
  | N + 1, h, hz => by
    unfold sumN
    by_cases e : i = N
    · subst e
      rw [sumN_zero' fun x hx => hz x (by omega) (by omega), Int.zero_add]
    · rw [sumN_one (i := i) (N := N) (by omega) fun x hx hne => hz x (by omega) hne, hz N (by omega) (Ne.symm e), Int.add_zero]
theorem sumN_app (g : Nat → Int) (a : Nat) : ∀ b, sumN (a + b) g = sumN a g + sumN b fun x => g (a + x)
  | 0 => by simp [sumN]
  | b + 1 => by
    show sumN (a + b) g + g (a + b) = _
    rw [sumN_app g a b, sumN_succ]
    omega
theorem sumN_list (g : Nat → Int) : ∀ N, ((List.range N).map g).sum = sumN N g
  | 0 => rfl
  | N + 1 => by rw [List.range_succ, List.map_append, List.sum_append, sumN_list g N]; simp [sumN]

/-! flows -/
def div (N : Nat) (f : Nat → Nat → Int) (x : Nat) : Int := sumN N (f x)
def ind (b : Prop) [Decidable b] : Int := if b then 1 else 0
theorem div_bump {N u v : Nat} {f : Nat → Nat → Int} {d : Int} (hu : u < N) (hv : v < N) (huv : u ≠ v) (x : Nat) : div N (bump f u v d) x = div N f x + (if x = u then d else 0) - (if x = v then d else 0) := by
  unfold div
  have e : bump f u v d x = fun y => f x y + ((if x = u ∧ y = v then d else 0) + (if x = v ∧ y = u then - d else 0)) := by
    funext y
    unfold bump
    by_cases h1 : x = u ∧ y = v
    · have : ¬(x = v ∧ y = u) := fun h => huv (h1.1.symm.trans h.1)
      simp only [h1, this, if_true, if_false, and_self]; simp [huv]
    · by_cases h2 : x = v ∧ y = u
      · rw [if_neg h1, if_pos h2, if_neg h1, if_pos h2]; omega
      · rw [if_neg h1, if_neg h2, if_neg h1, if_neg h2]; omega
  rw [e, sumN_add, sumN_add]
  by_cases hxu : x = u
  · have hxv : x ≠ v := fun h => huv (hxu.symm.trans h)
    rw [sumN_one (i := v) hv (fun y _ hy => if_neg fun h => hy h.2), if_pos ⟨hxu, rfl⟩, sumN_zero' (fun y _ => if_neg fun h => hxv h.1), if_pos hxu, if_neg hxv]
    omega
  · rw [sumN_zero' (g := fun y => if x = u ∧ y = v then d else 0) (fun y _ => if_neg fun h => hxu h.1), if_neg hxu]
    by_cases hxv : x = v
    · rw [sumN_one (i := u) hu (fun y _ hy => if_neg fun h => hy h.2), if_pos ⟨hxv, rfl⟩, if_pos hxv]
      omega
    · rw [sumN_zero' (fun y _ => if_neg fun h => hxv h.1), if_neg hxv]
      omega
theorem div_aug {N : Nat} {d : Int} : ∀ {p : List Nat} {f : Nat → Nat → Int} {a b : Nat}, p.head? = some a → p.getLast? = some b → (∀ x ∈ p, x < N) → p.Nodup → ∀ x, div N (augF d f p) x = div N f x + (if x = a then d else 0) - (if x = b then d else 0)
  | [], f, a, b, h, _, _, _, _ => by simp at h
  | [u], f, a, b, h, h', _, _, x => by
    simp at h h'
    subst h h'
    show div N f x = _
    omega
  | u :: v :: t, f, a, b, h, h', hl, nd, x => by
    simp at h
    subst h
    rw [List.getLast?_cons_cons] at h'
    have huv : u ≠ v := fun e => (List.nodup_cons.mp nd).1 (by rw [e]; exact .head _)
    show div N (augF d (bump f u v d) (v :: t)) x = _
    rw [div_aug (p := v :: t) (a := v) (b := b) rfl h' (fun y hy => hl y (.tail _ hy)) (List.nodup_cons.mp nd).2 x, div_bump (hl u (.head _)) (hl v (.tail _ (.head _))) huv]
    omega
/-- a flow under c -/
def Anti (f : Nat → Nat → Int) : Prop := ∀ a b, f b a = - f a b
def Under (c f : Nat → Nat → Int) : Prop := ∀ a b, f a b ≤ c a b
theorem anti_bump {f : Nat → Nat → Int} {u v : Nat} {d : Int} (huv : u ≠ v) (h : Anti f) : Anti (bump f u v d) := by
  intro a b
  unfold bump
  have hab := h a b
  by_cases h1 : a = u ∧ b = v
  · have h2 : ¬(b = u ∧ a = v) := fun h => huv (h1.1.symm.trans h.2)
    have h3 : b = v ∧ a = u := ⟨h1.2, h1.1⟩
    rw [if_pos h1, if_neg h2, if_pos h3]; omega
  · by_cases h2 : a = v ∧ b = u
    · have h3 : b = u ∧ a = v := ⟨h2.2, h2.1⟩
      rw [if_neg h1, if_pos h2, if_pos h3]; omega
    · have h3 : ¬(b = u ∧ a = v) := fun h => h2 ⟨h.2, h.1⟩
      have h4 : ¬(b = v ∧ a = u) := fun h => h1 ⟨h.2, h.1⟩
      rw [if_neg h1, if_neg h2, if_neg h3, if_neg h4]; exact hab
theorem aug_keep {c : Nat → Nat → Int} : ∀ {p : List Nat} {f : Nat → Nat → Int}, p.Nodup → Chn (fun a b => f a b < c a b) p → Anti f → Under c f → Anti (augF 1 f p) ∧ Under c (augF 1 f p)
  | [], f, _, _, h1, h2 => ⟨h1, h2⟩
  | [_], f, _, _, h1, h2 => ⟨h1, h2⟩
  | u :: v :: t, f, nd, hc, h1, h2 => by
    obtain ⟨hn, nd'⟩ := List.nodup_cons.mp nd
    have huv : u ≠ v := fun e => hn (by rw [e]; exact .head _)
    have key : ∀ p : List Nat, u ∉ p → Chn (fun a b => f a b < c a b) p → Chn (fun a b => bump f u v 1 a b < c a b) p := by
      intro p
      induction p with
      | nil => intro _ _; trivial
      | cons a t ih =>
        intro hu h
        cases t with
        | nil => trivial
        | cons b t =>
          refine ⟨?_, ih (fun h => hu (.tail _ h)) h.2⟩
          have ha : a ≠ u := fun e => hu (by rw [e]; exact .head _)
          have hb : b ≠ u := fun e => hu (by rw [e]; exact .tail _ (.head _))
          show bump f u v 1 a b < c a b
          unfold bump
          rw [if_neg (fun h => ha h.1), if_neg (fun h => hb h.2)]
          exact h.1
    refine aug_keep (p := v :: t) nd' (key _ hn hc.2) (anti_bump huv h1) fun a b => ?_
    unfold bump
    by_cases h3 : a = u ∧ b = v
    · rw [if_pos h3, h3.1, h3.2]; have := hc.1; omega
    · rw [if_neg h3]
      have := h2 a b
      split <;> omega
theorem mnA_low {c f : Nat → Nat → Int} : ∀ {p : List Nat} {x : Int}, 1 ≤ x → Chn (fun a b => f a b < c a b) p → 1 ≤ mnA c f x p ∧ mnA c f x p ≤ x
  | [], x, h, _ => ⟨h, Int.le_refl _⟩
  | [_], x, h, _ => ⟨h, Int.le_refl _⟩
  | a :: b :: t, x, h, hc => by
    have hab := hc.1
    have := mnA_low (p := b :: t) (x := min x (c a b - f a b)) (by omega) hc.2
    unfold mnA
    omega
/-- the flow through a cut -/
theorem cut_flow {N s t : Nat} {f : Nat → Nat → Int} {X : Nat → Bool} (ha : Anti f) (hs : s < N) (hst : s ≠ t) (hXs : X s = true) (hXt : X t = false) (hz : ∀ x, x < N → x ≠ s → x ≠ t → div N f x = 0) :
    div N f s = sumN N fun x => sumN N fun y => ind (X x = true) * (1 - ind (X y = true)) * f x y := by
  have h1 : div N f s = sumN N fun x => ind (X x = true) * div N f x := by
    rw [sumN_one (i := s) hs (fun x hx hne => ?_)]
    · simp only [hXs, ind, if_true]; omega
    · by_cases hxt : x = t
      · subst hxt; simp [hXt, ind]
      · rw [hz x hx hne hxt, Int.mul_zero]
  have h2 : (sumN N fun x => sumN N fun y => ind (X x = true) * ind (X y = true) * f x y) = 0 := by
    have e : (sumN N fun x => sumN N fun y => ind (X x = true) * ind (X y = true) * f x y) = - (sumN N fun x => sumN N fun y => ind (X x = true) * ind (X y = true) * f x y) := by
      conv => lhs; rw [sumN_swap]
      rw [← sumN_neg]
      refine sumN_congr fun x _ => ?_
      rw [← sumN_neg]
      refine sumN_congr fun y _ => ?_
      rw [ha x y, Int.mul_neg, Int.mul_comm (ind (X y = true))]
    omega
  rw [h1, ← Int.add_zero (sumN N fun x => sumN N fun y => ind (X x = true) * (1 - ind (X y = true)) * f x y), ← h2, ← sumN_add]
  refine sumN_congr fun x _ => ?_
  rw [← sumN_add]
  unfold div
  rw [← sumN_mul]
  refine sumN_congr fun y _ => ?_
  rw [Int.mul_sub, Int.mul_one, Int.sub_mul]
  omega
end Mine

-- MP2
namespace Mine

/-- the tournament: n players, g games, who plays, what each is to win -/
structure Tn where
  n : Nat
  g : Nat
  a : Nat → Nat
  b : Nat → Nat
  sc : Nat → Int
structure Tn.Ok (t : Tn) : Prop where
  ab : ∀ j, j < t.g → t.a j < t.n ∧ t.b j < t.n ∧ t.a j ≠ t.b j
  sc : ∀ k, k < t.n → 0 ≤ t.sc k
namespace Tn
variable (t : Tn) (I : Int)
def src : Nat := t.n + t.g
def snk : Nat := t.n + t.g + 1
def N : Nat := t.n + t.g + 2
/-- what an edge of the residual bears -/
def c (u v : Nat) : Int :=
  if u < t.n then (if v = t.snk then t.sc u else 0)
  else if u < t.n + t.g then (if v = t.a (u - t.n) ∨ v = t.b (u - t.n) then I else 0)
  else if u = t.src then (if t.n ≤ v ∧ v < t.n + t.g then 1 else 0) else 0
def inside (H : Nat → Int) : Int := sumN t.g fun j => H (t.a j) * H (t.b j)
def weigh (H : Nat → Int) : Int := sumN t.n fun k => H k * t.sc k
def lack (H : Nat → Int) : Int := t.inside H - t.weigh H
def Inv (k : Nat) (f : Nat → Nat → Int) : Prop := Anti f ∧ Under (t.c I) f ∧ (∀ x, x < t.N → x ≠ t.src → x ≠ t.snk → div t.N f x = 0) ∧ div t.N f t.src = k
variable {t I}
theorem c_nonneg (h : t.Ok) (hI : 0 ≤ I) (u v : Nat) : 0 ≤ t.c I u v := by
  unfold c
  split
  · rename_i hu
    have := h.sc u hu
    split <;> omega
  · split
    · split <;> omega
    · split
      · split <;> omega
      · omega
theorem c_src (v : Nat) : t.c I v t.src = 0 ∨ v < t.n + t.g ∧ t.n ≤ v := by
  unfold c src snk
  by_cases hu : v < t.n
  · rw [if_pos hu, if_neg (by omega)]; exact .inl rfl
  · by_cases h2 : v < t.n + t.g
    · exact .inr ⟨h2, by omega⟩
    · rw [if_neg hu, if_neg h2]
      split
      · rw [if_neg (by omega)]; exact .inl rfl
      · exact .inl rfl
/-- nothing flows into the source -/
theorem into_src (h : t.Ok) (v : Nat) : t.c I v t.src = 0 := by
  rcases c_src (t := t) (I := I) v with h1 | ⟨h1, h2⟩
  · exact h1
  · unfold c
    rw [if_neg (by omega), if_pos h1, if_neg]
    have := h.ab (v - t.n) (by omega)
    unfold src
    omega
theorem out_src (v : Nat) : t.c I t.src v = if t.n ≤ v ∧ v < t.n + t.g then 1 else 0 := by
  unfold c
  rw [if_neg (by unfold src; omega), if_neg (by unfold src; omega), if_pos rfl]
/-- the sum over a cut -/
def cutT (t : Tn) (I : Int) (X : Nat → Bool) : Int := sumN t.N fun x => sumN t.N fun y => ind (X x = true) * (1 - ind (X y = true)) * t.c I x y
theorem cut_eq (h : t.Ok) (X : Nat → Bool) (hs : X t.src = true) (ht : X t.snk = false) :
    cutT t I X = (sumN t.n fun x => ind (X x = true) * t.sc x) + ((sumN t.g fun j => ind (X (t.n + j) = true) * ((1 - ind (X (t.a j) = true)) + (1 - ind (X (t.b j) = true))) * I) + sumN t.g fun j => 1 - ind (X (t.n + j) = true)) := by
  unfold cutT
  have eN : t.N = t.n + (t.g + (1 + 1)) := by unfold N; omega
  have one : ∀ g : Nat → Int, sumN (1 + 1) g = g 0 + g 1 := fun g => by simp [sumN]
  rw [show (sumN t.N fun x => sumN t.N fun y => ind (X x = true) * (1 - ind (X y = true)) * t.c I x y) = sumN (t.n + (t.g + (1 + 1))) (fun x => sumN t.N fun y => ind (X x = true) * (1 - ind (X y = true)) * t.c I x y) from by rw [eN]]
  rw [sumN_app, sumN_app, one]
  congr 1
  · refine sumN_congr fun x hx => ?_
    rw [sumN_one (i := t.snk) (by unfold N snk; omega) (fun y hy hne => ?_)]
    · unfold c
      rw [if_pos hx, if_pos rfl, ht]
      simp [ind]
    · unfold c
      rw [if_pos hx, if_neg hne, Int.mul_zero]
  · congr 1
    · refine sumN_congr fun j hj => ?_
      obtain ⟨h1, h2, h3⟩ := h.ab j hj
      have hc : ∀ y, t.c I (t.n + j) y = (if y = t.a j then I else 0) + (if y = t.b j then I else 0) := by
        intro y
        unfold c
        rw [if_neg (by omega), if_pos (by omega), show t.n + j - t.n = j from by omega]
        by_cases e1 : y = t.a j
        · have e2 : y ≠ t.b j := fun e => h3 (e1.symm.trans e)
          simp [e1, h3]
        · by_cases e2 : y = t.b j
          · simp [e2, Ne.symm h3]
          · simp [e1, e2]
      rw [show (fun y => ind (X (t.n + j) = true) * (1 - ind (X y = true)) * t.c I (t.n + j) y) = fun y => (if y = t.a j then ind (X (t.n + j) = true) * (1 - ind (X y = true)) * I else 0) + (if y = t.b j then ind (X (t.n + j) = true) * (1 - ind (X y = true)) * I else 0) from by
        funext y
        rw [hc y, Int.mul_add]
        congr 1 <;> split <;> simp]
      rw [sumN_add, sumN_one (i := t.a j) (by unfold N; omega) (fun y _ hne => if_neg hne), sumN_one (i := t.b j) (by unfold N; omega) (fun y _ hne => if_neg hne), if_pos rfl, if_pos rfl]
      rw [Int.mul_add, Int.add_mul]
    · have e0 : t.n + (t.g + 0) = t.src := by unfold src; omega
      have e1 : t.n + (t.g + 1) = t.snk := by unfold snk; omega
      rw [e0, e1]
      have z : (sumN t.N fun y => ind (X t.snk = true) * (1 - ind (X y = true)) * t.c I t.snk y) = 0 := sumN_zero' fun y _ => by rw [ht]; simp [ind]
      rw [z, Int.add_zero]
      rw [show (sumN t.N fun y => ind (X t.src = true) * (1 - ind (X y = true)) * t.c I t.src y) = sumN (t.n + (t.g + (1 + 1))) (fun y => ind (X t.src = true) * (1 - ind (X y = true)) * t.c I t.src y) from by rw [eN]]
      rw [sumN_app, sumN_app, one]
      rw [sumN_zero' (N := t.n) (fun y hy => by rw [out_src, if_neg (by omega), Int.mul_zero])]
      rw [out_src, if_neg (by omega), out_src, if_neg (by omega)]
      simp only [Int.mul_zero, Int.add_zero, Int.zero_add]
      refine sumN_congr fun j hj => ?_
      rw [out_src, if_pos (by omega), hs]
      simp [ind]
def ofH (t : Tn) (H : Nat → Bool) (x : Nat) : Bool := if x < t.n then H x else if x < t.n + t.g then H (t.a (x - t.n)) && H (t.b (x - t.n)) else x == t.src
/-- the cut that some players make -/
theorem cut_of (h : t.Ok) (H : Nat → Bool) : cutT t I (ofH t H) = t.g - t.lack (fun k => ind (H k = true)) := by
  rw [cut_eq h _ (by unfold ofH src; rw [if_neg (by omega), if_neg (by omega)]; simp) (by unfold ofH snk src; rw [if_neg (by omega), if_neg (by omega)]; simp)]
  have hp : ∀ x, x < t.n → ofH t H x = H x := fun x hx => by unfold ofH; rw [if_pos hx]
  have hg : ∀ j, j < t.g → ofH t H (t.n + j) = (H (t.a j) && H (t.b j)) := fun j hj => by
    unfold ofH; rw [if_neg (by omega), if_pos (by omega), show t.n + j - t.n = j from by omega]
  unfold lack inside weigh
  rw [sumN_congr (g := fun x => ind (ofH t H x = true) * t.sc x) (h := fun k => ind (H k = true) * t.sc k) fun x hx => by rw [hp x hx]]
  rw [sumN_zero' (g := fun j => ind (ofH t H (t.n + j) = true) * ((1 - ind (ofH t H (t.a j) = true)) + (1 - ind (ofH t H (t.b j) = true))) * I) fun j hj => ?_]
  · rw [sumN_congr (g := fun j => 1 - ind (ofH t H (t.n + j) = true)) (h := fun j => 1 + - (ind (H (t.a j) = true) * ind (H (t.b j) = true))) fun j hj => ?_]
    · rw [sumN_add, sumN_neg]
      have : sumN t.g (fun _ => 1) = t.g := by
        have : ∀ g, sumN g (fun _ => 1) = (g : Int) := fun g => by
          induction g with
          | zero => rfl
          | succ g ih => rw [sumN_succ, ih]; omega
        exact this _
      rw [this]
      show _ = (t.g : Int) - ((sumN t.g fun j => ind (H (t.a j) = true) * ind (H (t.b j) = true)) - sumN t.n fun k => ind (H k = true) * t.sc k)
      omega
    · rw [hg j hj]
      cases H (t.a j) <;> cases H (t.b j) <;> simp [ind]
  · obtain ⟨h1, h2, h3⟩ := h.ab j hj
    rw [hg j hj, hp _ h1, hp _ h2]
    cases H (t.a j) <;> cases H (t.b j) <;> simp [ind]
/-- every cut is at least that of its players -/
theorem cut_low (h : t.Ok) (hI : 1 ≤ I) (X : Nat → Bool) (hs : X t.src = true) (ht : X t.snk = false) : t.g - t.lack (fun k => ind (X k = true)) ≤ cutT t I X := by
  rw [← cut_of (I := I) h X, cut_eq h X hs ht, cut_eq h (ofH t X) (by unfold ofH src; rw [if_neg (by omega), if_neg (by omega)]; simp) (by unfold ofH snk src; rw [if_neg (by omega), if_neg (by omega)]; simp)]
  have hp : ∀ x, x < t.n → ofH t X x = X x := fun x hx => by unfold ofH; rw [if_pos hx]
  have hg : ∀ j, j < t.g → ofH t X (t.n + j) = (X (t.a j) && X (t.b j)) := fun j hj => by
    unfold ofH; rw [if_neg (by omega), if_pos (by omega), show t.n + j - t.n = j from by omega]
  rw [sumN_congr (g := fun x => ind (ofH t X x = true) * t.sc x) (h := fun k => ind (X k = true) * t.sc k) fun x hx => by rw [hp x hx]]
  refine Int.add_le_add_left ?_ _
  rw [← sumN_add, ← sumN_add]
  refine sumN_le fun j hj => ?_
  obtain ⟨h1, h2, h3⟩ := h.ab j hj
  rw [hg j hj, hp _ h1, hp _ h2]
  cases X (t.a j) <;> cases X (t.b j) <;> cases X (t.n + j) <;> simp [ind] <;> omega
end Tn
end Mine

-- MP3
namespace Mine
open PySem
namespace Tn
variable {t : Tn} {I : Int}
theorem flow_le (h : t.Ok) {k : Nat} {f : Nat → Nat → Int} (hi : t.Inv I k f) (X : Nat → Bool) (hs : X t.src = true) (ht : X t.snk = false) : (k : Int) ≤ cutT t I X := by
  obtain ⟨h1, h2, h3, h4⟩ := hi
  rw [← h4, cut_flow (s := t.src) (t := t.snk) h1 (by unfold src N; omega) (by unfold src snk; omega) hs ht h3]
  refine sumN_le fun x _ => sumN_le fun y _ => ?_
  refine Int.mul_le_mul_of_nonneg_left (h2 x y) ?_
  cases X x <;> cases X y <;> simp [ind]
theorem flow_eq (h : t.Ok) {k : Nat} {f : Nat → Nat → Int} (hi : t.Inv I k f) (X : Nat → Bool) (hs : X t.src = true) (ht : X t.snk = false) (hX : ∀ u v, X u = true → X v = false → t.c I u v ≤ f u v) : (k : Int) = cutT t I X := by
  obtain ⟨h1, h2, h3, h4⟩ := hi
  rw [← h4, cut_flow (s := t.src) (t := t.snk) h1 (by unfold src N; omega) (by unfold src snk; omega) hs ht h3]
  refine sumN_congr fun x _ => sumN_congr fun y _ => ?_
  cases hx : X x with
  | false => simp [ind]
  | true =>
    cases hy : X y with
    | true => simp [ind]
    | false => rw [Int.le_antisymm (h2 x y) (hX x y hx hy)]
/-- a flow's value is no more than any players leave -/
theorem val_le (h : t.Ok) {k : Nat} {f : Nat → Nat → Int} (hi : t.Inv I k f) (H : Nat → Bool) : (k : Int) ≤ t.g - t.lack fun k => ind (H k = true) := by
  rw [← cut_of (I := I) h H]
  exact flow_le h hi _ (by unfold ofH src; rw [if_neg (by omega), if_neg (by omega)]; simp) (by unfold ofH snk src; rw [if_neg (by omega), if_neg (by omega)]; simp)
theorem val_eq (h : t.Ok) (hI : 1 ≤ I) {k : Nat} {f : Nat → Nat → Int} (hi : t.Inv I k f) (X : Nat → Bool) (hs : X t.src = true) (ht : X t.snk = false) (hX : ∀ u v, X u = true → X v = false → t.c I u v ≤ f u v) : (k : Int) = t.g - t.lack fun k => ind (X k = true) := by
  have h1 := flow_eq h hi X hs ht hX
  have h2 := cut_low h hI X hs ht
  have h3 := val_le h hi X
  omega
theorem le_g (h : t.Ok) {k : Nat} {f : Nat → Nat → Int} (hi : t.Inv I k f) : k ≤ t.g := by
  have := val_le h hi fun _ => false
  unfold lack inside weigh at this
  rw [sumN_zero' fun j _ => by simp [ind], sumN_zero' fun j _ => by simp [ind]] at this
  omega
theorem inv_zero (h : t.Ok) (hI : 0 ≤ I) : t.Inv I 0 fun _ _ => 0 := by
  refine ⟨fun a b => by simp, fun a b => c_nonneg h hI a b, fun x _ _ _ => sumN_zero _, sumN_zero _⟩
theorem step (h : t.Ok) (hI : 2 ≤ I) {k : Nat} {f : Nat → Nat → Int} {p : List Nat} (hi : t.Inv I k f) (nd : p.Nodup) (h1 : p.head? = some t.src) (h2 : p.getLast? = some t.snk) (hc : Chn (fun a b => f a b < t.c I a b) p) (hl : ∀ x ∈ p, x < t.N) :
    mnA (t.c I) f I p = 1 ∧ t.Inv I (k + 1) (augF 1 f p) := by
  obtain ⟨i1, i2, i3, i4⟩ := hi
  have hne : t.src ≠ t.snk := by unfold src snk; omega
  refine ⟨?_, ?_, ?_, ?_, ?_⟩
  · match p, h1, h2, hc with
    | [x], h1, h2, _ => simp at h1 h2; exact absurd (h1.symm.trans h2) hne
    | x :: y :: q, h1, h2, hc =>
      simp at h1
      subst h1
      have h3 := hc.1
      have h4 := i2 y t.src
      rw [into_src h] at h4
      have h5 := i1 y t.src
      have h6 := out_src (t := t) (I := I) y
      have hr : t.c I t.src y - f t.src y = 1 := by split at h6 <;> omega
      have := mnA_low (c := t.c I) (f := f) (p := y :: q) (x := min I (t.c I t.src y - f t.src y)) (by omega) hc.2
      unfold mnA
      omega
  · exact (aug_keep nd hc i1 i2).1
  · exact (aug_keep nd hc i1 i2).2
  · intro x hx hxs hxt
    rw [div_aug h1 h2 hl nd, if_neg hxs, if_neg hxt, i3 x hx hxs hxt]
    omega
  · rw [div_aug h1 h2 hl nd, if_pos rfl, if_neg hne, i4]
    omega
/-- the edges of the given graph -/
def E3 (t : Tn) : List (Nat × Nat × Option Int) := (List.range t.n).map (fun k => (k, t.snk, some (t.sc k))) ++ (List.range t.g).flatMap fun j => [(t.src, t.n + j, some 1), (t.n + j, t.a j, none), (t.n + j, t.b j, none)]
theorem mem_E3 {x : Nat × Nat × Option Int} : x ∈ E3 t ↔ (∃ k, k < t.n ∧ x = (k, t.snk, some (t.sc k))) ∨ ∃ j, j < t.g ∧ (x = (t.src, t.n + j, some 1) ∨ x = (t.n + j, t.a j, none) ∨ x = (t.n + j, t.b j, none)) := by
  unfold E3
  simp only [List.mem_append, List.mem_map, List.mem_range, List.mem_flatMap, List.mem_cons, List.not_mem_nil, or_false]
  constructor
  · rintro (⟨k, hk, rfl⟩ | ⟨j, hj, hx⟩)
    · exact .inl ⟨k, hk, rfl⟩
    · exact .inr ⟨j, hj, hx⟩
  · rintro (⟨k, hk, rfl⟩ | ⟨j, hj, hx⟩)
    · exact .inl ⟨k, hk, rfl⟩
    · exact .inr ⟨j, hj, hx⟩
theorem E3_nd (h : t.Ok) : (uv3 (E3 t)).Nodup := by
  unfold uv3 E3
  rw [List.map_append, List.nodup_append]
  refine ⟨?_, ?_, ?_⟩
  · rw [List.map_map]
    exact List.Pairwise.map _ (fun a b hab q => hab (congrArg (·.1) q)) List.nodup_range
  · rw [List.map_flatMap, List.Nodup, List.pairwise_flatMap]
    refine ⟨fun j hj => ?_, ?_⟩
    · have hj := List.mem_range.mp hj
      obtain ⟨h1, h2, h3⟩ := h.ab j hj
      simp only [List.map_cons, List.map_nil, List.pairwise_cons, List.mem_cons, List.not_mem_nil, or_false, forall_eq_or_imp, forall_eq, ne_eq, Prod.mk.injEq, not_and, List.Pairwise.nil, and_true, false_implies, implies_true]
      unfold src
      omega
    · refine List.Pairwise.imp_of_mem (fun {i j} hi hj hij => ?_) List.nodup_range
      have hi := List.mem_range.mp hi
      have hj := List.mem_range.mp hj
      intro x hx y hy e
      simp only [List.map_cons, List.map_nil, List.mem_cons, List.not_mem_nil, or_false] at hx hy
      subst e
      unfold src at hx hy
      rcases hx with rfl | rfl | rfl <;> rcases hy with q | q | q <;> simp only [Prod.mk.injEq] at q <;> omega
  · intro x hx y hy e
    subst e
    rw [List.map_map] at hx
    obtain ⟨k, hk, rfl⟩ := List.mem_map.mp hx
    have hk := List.mem_range.mp hk
    rw [List.map_flatMap] at hy
    obtain ⟨j, hj, hy⟩ := List.mem_flatMap.mp hy
    have hj := List.mem_range.mp hj
    simp only [List.map_cons, List.map_nil, List.mem_cons, List.not_mem_nil, or_false, Function.comp, Prod.mk.injEq] at hy
    unfold src snk at hy
    have := h.ab j hj
    omega
theorem E3_len : (E3 t).length = t.n + 3 * t.g := by
  unfold E3
  rw [List.length_append, List.length_map, List.length_range]
  congr 1
  have : ∀ (g : Nat) (F : Nat → List (Nat × Nat × Option Int)), (∀ j, (F j).length = 3) → ((List.range g).flatMap F).length = 3 * g := by
    intro g F hF
    induction g with
    | zero => rfl
    | succ g ih => rw [List.range_succ, List.flatMap_append, List.length_append, ih]; simp [hF]; omega
  exact this _ _ fun _ => rfl
end Tn
end Mine

-- MP4
namespace Mine
open PySem
namespace Tn
variable {t : Tn}
theorem sum_pos : ∀ {l : List Int}, (∀ x ∈ l, 0 < x) → 0 ≤ l.sum ∧ ∀ x ∈ l, x ≤ l.sum
  | [], _ => ⟨Int.le_refl _, fun x hx => by cases hx⟩
  | a :: l, h => by
    obtain ⟨h1, h2⟩ := sum_pos (l := l) fun x hx => h x (.tail _ hx)
    have ha := h a (.head _)
    rw [List.sum_cons]
    refine ⟨by omega, fun x hx => ?_⟩
    cases hx with
    | head => omega
    | tail _ hx => have := h2 x hx; omega
theorem mem_flat {es : List Ed} {N : Nat} {e : Ed} (he : e ∈ es) (hu : e.u < N) : e ∈ flat es N := by
  unfold flat
  exact List.mem_flatMap.mpr ⟨e.u, List.mem_range.mpr hu, by unfold outs; rw [List.mem_filter]; exact ⟨he, by simp⟩⟩
section
variable {es : List Ed}
/-- the given graph as it stands -/
structure GOk (t : Tn) (es : List Ed) : Prop where
  ok : t.Ok
  n : t.N ≤ 40
  g : t.g ≤ 20
  sc : ∀ k, k < t.n → t.sc k ≤ 1000
  k3 : es.map Mine.k3 = E3 t
  kv : ∀ e ∈ es, KvOk e
theorem GOk.mem (G : GOk t es) {e : Ed} (he : e ∈ es) : (∃ k, k < t.n ∧ e.u = k ∧ e.v = t.snk ∧ capO e = some (t.sc k)) ∨ ∃ j, j < t.g ∧ ((e.u = t.src ∧ e.v = t.n + j ∧ capO e = some 1) ∨ (e.u = t.n + j ∧ (e.v = t.a j ∨ e.v = t.b j) ∧ capO e = none)) := by
  have hm : Mine.k3 e ∈ E3 t := by rw [← G.k3]; exact List.mem_map_of_mem he
  rcases mem_E3.mp hm with ⟨k, hk, q⟩ | ⟨j, hj, q | q | q⟩
  · exact .inl ⟨k, hk, congrArg (·.1) q, congrArg (·.2.1) q, congrArg (·.2.2) q⟩
  · exact .inr ⟨j, hj, .inl ⟨congrArg (·.1) q, congrArg (·.2.1) q, congrArg (·.2.2) q⟩⟩
  · exact .inr ⟨j, hj, .inr ⟨congrArg (·.1) q, .inl (congrArg (·.2.1) q), congrArg (·.2.2) q⟩⟩
  · exact .inr ⟨j, hj, .inr ⟨congrArg (·.1) q, .inr (congrArg (·.2.1) q), congrArg (·.2.2) q⟩⟩
theorem GOk.get (G : GOk t es) {u v : Nat} {o : Option Int} (h : (u, v, o) ∈ E3 t) : ∃ e ∈ es, e.u = u ∧ e.v = v ∧ capO e = o := by
  rw [← G.k3] at h
  obtain ⟨e, he, q⟩ := List.mem_map.mp h
  exact ⟨e, he, congrArg (·.1) q, congrArg (·.2.1) q, congrArg (·.2.2) q⟩
theorem GOk.esOk (G : GOk t es) : EsOk t.N es where
  n := G.n
  len := by
    have := congrArg List.length G.k3
    rw [List.length_map, E3_len] at this
    have := G.n; have := G.g; unfold N at *; omega
  kv := G.kv
  uv := fun e he => by
    rcases G.mem he with ⟨k, hk, h1, h2, _⟩ | ⟨j, hj, ⟨h1, h2, _⟩ | ⟨h1, h2, _⟩⟩
    · unfold snk at h2; omega
    · unfold src at h1; omega
    · have := G.ok.ab j hj; omega
  lt := fun e he => by
    unfold N
    rcases G.mem he with ⟨k, hk, h1, h2, _⟩ | ⟨j, hj, ⟨h1, h2, _⟩ | ⟨h1, h2, _⟩⟩
    · unfold snk at h2; omega
    · unfold src at h1; omega
    · have := G.ok.ab j hj; omega
  nd := by
    have : es.map (fun e => (e.u, e.v)) = uv3 (E3 t) := k3_uv G.k3
    rw [this]; exact E3_nd G.ok
  anti := fun e he e' he' hh => by
    have hsnk : t.snk = t.n + t.g + 1 := rfl
    have hsrc : t.src = t.n + t.g := rfl
    rcases G.mem he with ⟨k, hk, h1, h2, _⟩ | ⟨j, hj, ⟨h1, h2, _⟩ | ⟨h1, h2, _⟩⟩ <;> rcases G.mem he' with ⟨k', hk', h1', h2', _⟩ | ⟨j', hj', ⟨h1', h2', _⟩ | ⟨h1', h2', _⟩⟩ <;>
      (try have := G.ok.ab j hj) <;> (try have := G.ok.ab j' hj') <;> omega
theorem posC_of {e : Ed} : posC e = true ↔ ∀ x, capO e = some x → 0 < x := by
  unfold posC
  cases h : capO e with
  | none => simp
  | some x => simp
theorem GOk.caps (G : GOk t es) : 0 ≤ finS (capE es t.N) ∧ ∀ e ∈ es, ∀ x, capO e = some x → 0 < x → x ≤ finS (capE es t.N) := by
  have hp : ∀ x ∈ (capE es t.N).filterMap capO, 0 < x := by
    intro x hx
    obtain ⟨e, he, hc⟩ := List.mem_filterMap.mp hx
    have := (List.mem_filter.mp he).2
    exact posC_of.mp this x hc
  obtain ⟨h1, h2⟩ := sum_pos hp
  refine ⟨h1, fun e he x hc hx => h2 x ?_⟩
  refine List.mem_filterMap.mpr ⟨e, ?_, hc⟩
  refine List.mem_filter.mpr ⟨mem_flat he (G.esOk.lt e he).1, posC_of.mpr fun y hy => ?_⟩
  rw [hc] at hy
  cases hy
  exact hx
theorem infOf_le {fl : List Ed} (h : 0 ≤ finS fl) : 1 ≤ infOf fl ∧ finS fl ≤ infOf fl ∧ (1 ≤ finS fl → 2 ≤ infOf fl) := by
  unfold infOf
  split <;> omega
theorem GOk.one (G : GOk t es) : 1 ≤ infOf (capE es t.N) := (infOf_le G.caps.1).1
theorem GOk.two (G : GOk t es) (hg : 0 < t.g) : 2 ≤ infOf (capE es t.N) := by
  obtain ⟨e, he, _, _, hc⟩ := G.get (mem_E3.mpr (.inr ⟨0, hg, .inl rfl⟩))
  have := G.caps.2 e he 1 hc (by decide)
  exact (infOf_le G.caps.1).2.2 this
theorem GOk.rcap (G : GOk t es) {e : Ed} (he : e ∈ es) (hp : posC e = true) : rOf (infOf (capE es t.N)) e = t.c (infOf (capE es t.N)) e.u e.v := by
  have hI := infOf_le G.caps.1
  unfold rOf c
  rcases G.mem he with ⟨k, hk, h1, h2, h3⟩ | ⟨j, hj, ⟨h1, h2, h3⟩ | ⟨h1, h2, h3⟩⟩
  · have hx := posC_of.mp hp _ h3
    have := G.caps.2 e he _ h3 hx
    rw [h3, if_pos (by omega), if_pos h2, h1]
    show min (t.sc k) _ = _
    omega
  · have := G.caps.2 e he _ h3 (by decide)
    rw [h3, if_neg (by unfold src at h1; omega), if_neg (by unfold src at h1; omega), if_pos h1, if_pos (by omega)]
    show min 1 _ = _
    omega
  · rw [h3, if_neg (by omega), if_pos (by omega), if_pos]
    rw [show e.u - t.n = j from by omega]
    exact h2
theorem GOk.rzero (G : GOk t es) {e : Ed} (he : e ∈ es) : t.c (infOf (capE es t.N)) e.v e.u = 0 := by
  unfold c
  rcases G.mem he with ⟨k, hk, h1, h2, h3⟩ | ⟨j, hj, ⟨h1, h2, h3⟩ | ⟨h1, h2, h3⟩⟩
  · rw [if_neg (by unfold snk at h2; omega), if_neg (by unfold snk at h2; omega), if_neg (by unfold snk at h2; unfold src; omega)]
  · have := G.ok.ab j hj
    rw [if_neg (by omega), if_pos (by omega), if_neg]
    rw [show e.v - t.n = j from by omega]
    unfold src at h1; omega
  · have := G.ok.ab j hj
    rw [if_pos (by omega), if_neg (by unfold snk; omega)]
theorem mem_res3 {J : Int} {fl : List Ed} {x : Nat × Nat × Option Int} : x ∈ res3 J fl ↔ ∃ e ∈ fl, x = (e.u, e.v, some (rOf J e)) ∨ x = (e.v, e.u, some 0) := by
  unfold res3
  simp only [List.mem_flatMap, List.mem_cons, List.not_mem_nil, or_false]
theorem res3_nd {J : Int} {fl : List Ed} (nd : (fl.map fun e => (e.u, e.v)).Nodup) (uv : ∀ e ∈ fl, e.u ≠ e.v) (anti : ∀ e ∈ fl, ∀ e' ∈ fl, ¬(e.u = e'.v ∧ e.v = e'.u)) : (uv3 (res3 J fl)).Nodup := by
  unfold uv3 res3
  rw [List.map_flatMap, List.Nodup, List.pairwise_flatMap]
  refine ⟨fun e he => ?_, ?_⟩
  · have := uv e he
    simp only [List.map_cons, List.map_nil, List.pairwise_cons, List.mem_cons, List.not_mem_nil, or_false, forall_eq, ne_eq, Prod.mk.injEq, not_and, List.Pairwise.nil, and_true, false_implies, implies_true]
    intro h; exact absurd h this
  · rw [List.Nodup, List.pairwise_map] at nd
    refine List.Pairwise.imp_of_mem (fun {a b} ha hb hab => ?_) nd
    intro x hx y hy e
    simp only [List.map_cons, List.map_nil, List.mem_cons, List.not_mem_nil, or_false] at hx hy
    subst e
    have h1 := anti a ha b hb
    rcases hx with rfl | rfl <;> rcases hy with q | q <;> simp only [Prod.mk.injEq] at q
    · exact hab (by rw [q.1, q.2])
    · exact h1 q
    · exact h1 ⟨q.2, q.1⟩
    · exact hab (by rw [q.1, q.2])
abbrev GOk.T3 (_ : GOk t es) : List (Nat × Nat × Option Int) := res3 (infOf (capE es t.N)) (capE es t.N)
theorem capE_mem {N : Nat} {e : Ed} (h : e ∈ capE es N) : e ∈ es ∧ posC e = true := by
  obtain ⟨h1, h2⟩ := List.mem_filter.mp h
  exact ⟨(flat_mem h1).1, h2⟩
/-- nothing is borne off the edges -/
theorem GOk.off (G : GOk t es) {u v : Nat} (h : (u, v) ∉ uv3 G.T3) : t.c (infOf (capE es t.N)) u v = 0 := by
  have key : ∀ e ∈ es, posC e = true → e.u = u → e.v = v → False := by
    intro e he hp h1 h2
    refine h (List.mem_map.mpr ⟨(e.u, e.v, some (rOf (infOf (capE es t.N)) e)), ?_, by rw [h1, h2]⟩)
    exact mem_res3.mpr ⟨e, List.mem_filter.mpr ⟨mem_flat he (G.esOk.lt e he).1, hp⟩, .inl rfl⟩
  unfold c
  split
  · rename_i hu
    split
    · rename_i hv
      have h0 := G.ok.sc u hu
      by_cases hz : t.sc u = 0
      · exact hz
      · obtain ⟨e, he, h1, h2, h3⟩ := G.get (mem_E3.mpr (.inl ⟨u, hu, rfl⟩))
        exact (key e he (posC_of.mpr fun x hx => by rw [h3] at hx; cases hx; omega) h1 (h2.trans hv.symm)).elim
    · rfl
  · split
    · rename_i hu1 hu2
      split
      · rename_i hv
        have hj : u - t.n < t.g := by omega
        rcases hv with hv | hv
        · obtain ⟨e, he, h1, h2, h3⟩ := G.get (mem_E3.mpr (.inr ⟨u - t.n, hj, .inr (.inl rfl)⟩))
          exact (key e he (posC_of.mpr fun x hx => by rw [h3] at hx; cases hx) (by omega) (by omega)).elim
        · obtain ⟨e, he, h1, h2, h3⟩ := G.get (mem_E3.mpr (.inr ⟨u - t.n, hj, .inr (.inr rfl)⟩))
          exact (key e he (posC_of.mpr fun x hx => by rw [h3] at hx; cases hx) (by omega) (by omega)).elim
      · rfl
    · split
      · rename_i hu
        split
        · rename_i hv
          obtain ⟨e, he, h1, h2, h3⟩ := G.get (mem_E3.mpr (.inr ⟨v - t.n, by omega, .inl rfl⟩))
          exact (key e he (posC_of.mpr fun x hx => by rw [h3] at hx; cases hx; decide) (by omega) (by omega)).elim
        · rfl
      · rfl
theorem GOk.rlaw (G : GOk t es) : RLaw t.N G.T3 (t.c (infOf (capE es t.N))) (infOf (capE es t.N)) t.src t.snk t.g (t.Inv (infOf (capE es t.N))) := by
  have E := G.esOk
  have hlen : (capE es t.N).length ≤ 80 := Nat.le_trans (List.length_filter_le _ _) (Nat.le_trans (flat_len (N := t.N) t.N) E.len)
  have hlt : ∀ x ∈ G.T3, x.1 < t.N ∧ x.2.1 < t.N := by
    intro x hx
    obtain ⟨e, he, rfl | rfl⟩ := mem_res3.mp hx
    · exact E.lt e (capE_mem he).1
    · exact (E.lt e (capE_mem he).1).symm
  have hsym : ∀ a b, (a, b) ∈ uv3 G.T3 → (b, a) ∈ uv3 G.T3 ∧ a ≠ b := by
    intro a b hab
    obtain ⟨x, hx, q⟩ := List.mem_map.mp hab
    obtain ⟨e, he, rfl | rfl⟩ := mem_res3.mp hx
    · cases q
      exact ⟨List.mem_map.mpr ⟨_, mem_res3.mpr ⟨e, he, .inr rfl⟩, rfl⟩, E.uv e (capE_mem he).1⟩
    · cases q
      exact ⟨List.mem_map.mpr ⟨_, mem_res3.mpr ⟨e, he, .inl rfl⟩, rfl⟩, (E.uv e (capE_mem he).1).symm⟩
  refine ⟨Nat.le_trans G.n (by decide), by rw [res3_len]; omega, ?_, hlt, hsym, ?_, by unfold src N; omega, by unfold snk N; omega, by unfold src snk; omega, fun es' hu => ⟨fun k f hi => le_g G.ok hi, fun k f p hi nd h1 h2 hc => ?_⟩, inv_zero G.ok (by have := G.one; omega)⟩
  · refine res3_nd ?_ (fun e he => E.uv e (capE_mem he).1) fun e he e' he' => E.anti e (capE_mem he).1 e' (capE_mem he').1
    exact (List.Sublist.map _ List.filter_sublist).nodup (flat_nodup E.nd t.N)
  · intro x hx
    obtain ⟨e, he, rfl | rfl⟩ := mem_res3.mp hx
    · exact congrArg some (G.rcap (capE_mem he).1 (capE_mem he).2)
    · exact congrArg some (G.rzero (capE_mem he).1).symm
  · have hl : ∀ q : List Nat, Chn (rF es' (t.c (infOf (capE es t.N))) f) q → 2 ≤ q.length → ∀ x ∈ q, x < t.N := by
      intro q
      induction q with
      | nil => intro _ _ x hx; cases hx
      | cons a q ih =>
        intro hq hl x hx
        match q, ih, hq, hx with
        | [], _, _, _ => simp at hl
        | b :: q, ih, hq, hx =>
          have hE : (a, b) ∈ uvE es' := hq.1.1
          rw [hu] at hE
          obtain ⟨y, hy, e⟩ := List.mem_map.mp hE
          have := hlt y hy
          have e1 : y.1 = a := congrArg (·.1) e
          have e2 : y.2.1 = b := congrArg (·.2) e
          cases hx with
          | head => omega
          | tail _ hx =>
            cases q with
            | nil => replace hx : x ∈ [b] := hx; rw [List.mem_singleton] at hx; omega
            | cons d q => exact ih hq.2 (by simp) x hx
    have hp2 : 2 ≤ p.length := by
      match p, h1, h2 with
      | [x], h1, h2 => simp at h1 h2; unfold src snk at *; omega
      | _ :: _ :: _, _, _ => simp
    have hg : 0 < t.g := by
      match p, h1, hc with
      | x :: y :: q, h1, hc =>
        simp at h1
        subst h1
        have h3 := hc.1.2
        have h4 := out_src (t := t) (I := infOf (capE es t.N)) y
        have h5 := hi.2.1 y t.src
        rw [into_src G.ok] at h5
        have h6 := hi.1 y t.src
        split at h4
        · omega
        · omega
      | [_], _, _ => simp at hp2
    have hI := G.two hg
    obtain ⟨a1, a2⟩ := step G.ok hI hi nd h1 h2 (Chn.imp (fun a b h => h.2) hc) (hl p hc hp2)
    exact ⟨a1, hI, a2⟩
/-- at the end: the value -/
theorem GOk.fin (G : GOk t es) {es' : List Ed} {k : Nat} {f : Nat → Nat → Int} (hu : uvE es' = uv3 G.T3) (hi : t.Inv (infOf (capE es t.N)) k f) (hs : Shut es' (t.c (infOf (capE es t.N))) f t.src t.snk) : ∃ H : Nat → Bool, (k : Int) = t.g - t.lack fun k => ind (H k = true) := by
  obtain ⟨X, h1, h2, h3⟩ := hs
  have : ∀ x, Decidable (X x) := fun x => Classical.propDecidable _
  refine ⟨fun x => decide (X x), ?_⟩
  refine val_eq G.ok G.one hi (fun x => decide (X x)) (by simpa using h1) (by simpa using h2) fun u v hu' hv' => ?_
  by_cases hE : (u, v) ∈ uv3 G.T3
  · exact h3 u v (by simpa using hu') (by simpa using hv') (show (u, v) ∈ uvE es' by rw [hu]; exact hE)
  · rw [G.off hE]
    have hE' : (v, u) ∉ uv3 G.T3 := fun h => hE (G.rlaw.sym _ _ h).1
    have h5 := hi.2.1 v u
    rw [G.off hE'] at h5
    have h6 := hi.1 u v
    omega
end
end Tn
end Mine

-- MP5
namespace Mine
open PySem
namespace Tn
variable {t : Tn}
theorem bits : ∀ (n : Nat) (H : Nat → Bool), ∃ code, code < 2 ^ n ∧ ∀ k, k < n → code / 2 ^ k % 2 = if H k = true then 1 else 0
  | 0, H => ⟨0, by decide, fun k hk => absurd hk (Nat.not_lt_zero _)⟩
  | n + 1, H => by
    obtain ⟨c, h1, h2⟩ := bits n fun k => H (k + 1)
    refine ⟨(if H 0 = true then 1 else 0) + 2 * c, ?_, fun k hk => ?_⟩
    · rw [Nat.pow_succ]; split <;> omega
    · cases k with
      | zero => rw [Nat.pow_zero, Nat.div_one]; split <;> omega
      | succ k =>
        rw [Nat.pow_succ', ← Nat.div_div_eq_div_mul]
        have : ((if H 0 = true then 1 else 0) + 2 * c) / 2 = c := by split <;> omega
        rw [this]
        exact h2 k (by omega)
/-- how the players of a code lack -/
def lackC (t : Tn) (code : Nat) : Int := t.lack fun k => ((code / 2 ^ k % 2 : Nat) : Int)
theorem lack_congr {H H' : Nat → Int} (h : t.Ok) (e : ∀ k, k < t.n → H k = H' k) : t.lack H = t.lack H' := by
  unfold lack inside weigh
  rw [sumN_congr (N := t.g) fun j hj => by rw [e _ (h.ab j hj).1, e _ (h.ab j hj).2.1], sumN_congr (N := t.n) fun k hk => by rw [e k hk]]
section
variable {es : List Ed}
theorem GOk.best (G : GOk t es) {es' : List Ed} {k : Nat} {f : Nat → Nat → Int} (hu : uvE es' = uv3 G.T3) (hi : t.Inv (infOf (capE es t.N)) k f) (hs : Shut es' (t.c (infOf (capE es t.N))) f t.src t.snk) {M : Int}
    (h1 : ∀ code, code < 2 ^ t.n → lackC t code ≤ M) (h2 : ∃ code, code < 2 ^ t.n ∧ lackC t code = M) : (k : Int) = t.g - M := by
  obtain ⟨H, hk⟩ := G.fin hu hi hs
  obtain ⟨c, hc, hb⟩ := bits t.n H
  have e1 : lackC t c = t.lack fun k => ind (H k = true) := lack_congr G.ok fun k hk => by rw [hb k hk]; unfold ind; split <;> rfl
  have h3 := h1 c hc
  rw [e1] at h3
  obtain ⟨c', hc', e2⟩ := h2
  have h4 := val_le G.ok hi fun k => decide (c' / 2 ^ k % 2 = 1)
  have e3 : lackC t c' = t.lack fun k => ind (decide (c' / 2 ^ k % 2 = 1) = true) := lack_congr G.ok fun k hk => by
    unfold ind
    rcases Nat.mod_two_eq_zero_or_one (c' / 2 ^ k) with e | e <;> rw [e] <;> rfl
  rw [← e3, e2] at h4
  omega
theorem GOk.second (G : GOk t es) {es1 es2 : List Ed} {k k2 : Nat} {f f2 : Nat → Nat → Int} {M : Int} (hM : 0 ≤ M) (hu1 : uvE es1 = uv3 G.T3) (hi1 : t.Inv (infOf (capE es t.N)) k f) (hs1 : Shut es1 (t.c (infOf (capE es t.N))) f t.src t.snk)
    (hu2 : uvE es2 = uv3 G.T3) (hi2 : t.Inv (infOf (capE es t.N)) k2 f2) (hs2 : Stop (fun k => decide ((k : Int) < M)) es2 (t.c (infOf (capE es t.N))) f2 t.src t.snk k2) : (k2 : Int) = min M k := by
  obtain ⟨H1, e1⟩ := G.fin hu1 hi1 hs1
  have h1 := val_le G.ok hi2 H1
  have h2 : (k2 : Int) ≤ M := by
    cases k2 with
    | zero => exact hM
    | succ j => have := hs2.1 j (by omega); simp only [decide_eq_true_eq] at this; omega
  rcases hs2.2 with h3 | h3
  · simp only [decide_eq_false_iff_not] at h3
    omega
  · obtain ⟨H2, e2⟩ := G.fin hu2 hi2 h3
    have h4 := val_le G.ok hi1 H2
    omega
theorem sum_tight {g h : Nat → Int} : ∀ {N : Nat}, (∀ x, x < N → g x ≤ h x) → sumN N g = sumN N h → ∀ x, x < N → g x = h x
  | 0, _, _, x, hx => absurd hx (Nat.not_lt_zero _)
  | N + 1, hle, e, x, hx => by
    rw [sumN_succ, sumN_succ] at e
    have h1 := sumN_le (N := N) fun x hx => hle x (by omega)
    have h2 := hle N (by omega)
    by_cases hxN : x = N
    · subst hxN; omega
    · exact sum_tight (N := N) (fun x hx => hle x (by omega)) (by omega) x (by omega)
theorem sumN_const (d : Int) : ∀ N, sumN N (fun _ => d) = N * d
  | 0 => by simp [sumN]
  | N + 1 => by rw [sumN_succ, sumN_const d N]; rw [show ((N + 1 : Nat) : Int) = (N : Int) + 1 from by omega, Int.add_mul]; omega
theorem GOk.won (G : GOk t es) {f : Nat → Nat → Int} (hi : t.Inv (infOf (capE es t.N)) t.g f) (hsum : sumN t.n t.sc = t.g) :
    (∀ j, j < t.g → (f (t.n + j) (t.a j) = 1 ∧ f (t.n + j) (t.b j) = 0) ∨ (f (t.n + j) (t.a j) = 0 ∧ f (t.n + j) (t.b j) = 1)) ∧ (∀ p, p < t.n → sumN t.g (fun j => f (t.n + j) p) = t.sc p) ∧ (∀ j p, j < t.g → p < t.n → p ≠ t.a j → p ≠ t.b j → f (t.n + j) p = 0) := by
  obtain ⟨i1, i2, i3, i4⟩ := hi
  generalize infOf (capE es t.N) = I at *
  have hsnk : t.snk = t.n + t.g + 1 := rfl
  have hsrc : t.src = t.n + t.g := rfl
  have hN : t.N = t.n + t.g + 2 := rfl
  -- no flow where nothing is borne either way
  have z : ∀ u v, t.c I u v = 0 → t.c I v u = 0 → f u v = 0 := fun u v h1 h2 => by
    have a1 := i2 u v; have a2 := i2 v u; have a3 := i1 u v; omega
  have cpl : ∀ p, p < t.n → ∀ v, v ≠ t.snk → t.c I p v = 0 := fun p hp v hv => by unfold c; rw [if_pos hp, if_neg hv]
  have cgm : ∀ j, j < t.g → ∀ v, v ≠ t.a j → v ≠ t.b j → t.c I (t.n + j) v = 0 := fun j hj v h1 h2 => by
    unfold c; rw [if_neg (by omega), if_pos (by omega), if_neg]
    rw [show t.n + j - t.n = j from by omega]; omega
  have csn : ∀ v, t.c I t.snk v = 0 := fun v => by unfold c; rw [if_neg (by omega), if_neg (by omega), if_neg (by omega)]
  have eN : t.N = t.n + (t.g + (1 + 1)) := by omega
  have one : ∀ g : Nat → Int, sumN (1 + 1) g = g 0 + g 1 := fun g => by simp [sumN]
  have split : ∀ g : Nat → Int, sumN t.N g = sumN t.n g + (sumN t.g (fun j => g (t.n + j)) + (g t.src + g t.snk)) := fun g => by
    rw [eN, sumN_app, sumN_app, one, show t.n + (t.g + 0) = t.src from by omega, show t.n + (t.g + 1) = t.snk from by omega]
  -- the source's edges are full
  have hs1 : ∀ j, j < t.g → f t.src (t.n + j) = 1 := by
    have e := i4
    unfold div at e
    rw [split] at e
    rw [sumN_zero' (N := t.n) fun y hy => z _ _ (by rw [out_src, if_neg (by omega)]) (into_src G.ok _)] at e
    rw [z t.src t.src (into_src G.ok _) (into_src G.ok _), z t.src t.snk (by rw [out_src, if_neg (by omega)]) (into_src G.ok _)] at e
    refine sum_tight (g := fun j => f t.src (t.n + j)) (h := fun _ => 1) (fun j hj => ?_) (by rw [sumN_const]; omega)
    have := i2 t.src (t.n + j)
    rw [out_src, if_pos (by omega)] at this
    exact this
  have hgz : ∀ j p, j < t.g → p < t.n → p ≠ t.a j → p ≠ t.b j → f (t.n + j) p = 0 := fun j p hj hp h1 h2 => z _ _ (cgm j hj p h1 h2) (cpl p hp _ (by omega))
  have hsum2 : ∀ (j : Nat), j < t.g → ∀ (g : Nat → Int), (∀ p, p < t.n → p ≠ t.a j → p ≠ t.b j → g p = 0) → sumN t.n g = g (t.a j) + g (t.b j) := by
    intro j hj g hz
    obtain ⟨h1, h2, h3⟩ := G.ok.ab j hj
    rw [sumN_congr (g := g) (h := fun p => (if p = t.a j then g p else 0) + (if p = t.b j then g p else 0)) fun p hp => ?_]
    · rw [sumN_add, sumN_one h1 (fun p _ hne => if_neg hne), sumN_one h2 (fun p _ hne => if_neg hne), if_pos rfl, if_pos rfl]
    · by_cases e1 : p = t.a j
      · rw [if_pos e1, if_neg (fun e => h3 (e1.symm.trans e))]; omega
      · by_cases e2 : p = t.b j
        · rw [if_neg e1, if_pos e2]; omega
        · rw [if_neg e1, if_neg e2, hz p hp e1 e2]; rfl
  have hab : ∀ j, j < t.g → f (t.n + j) (t.a j) + f (t.n + j) (t.b j) = 1 := by
    intro j hj
    obtain ⟨h1, h2, h3⟩ := G.ok.ab j hj
    have e := i3 (t.n + j) (by omega) (by omega) (by omega)
    unfold div at e
    rw [split, hsum2 j hj _ fun p hp => hgz j p hj hp] at e
    rw [sumN_zero' (N := t.g) fun y hy => z _ _ (cgm j hj _ (by omega) (by omega)) (cgm y hy _ (by have := G.ok.ab y hy; omega) (by have := G.ok.ab y hy; omega))] at e
    rw [z (t.n + j) t.snk (cgm j hj _ (by omega) (by omega)) (csn _)] at e
    have := hs1 j hj
    have := i1 t.src (t.n + j)
    omega
  have hpos : ∀ j, j < t.g → ∀ p, p < t.n → 0 ≤ f (t.n + j) p := fun j hj p hp => by
    have a1 := i2 p (t.n + j)
    rw [cpl p hp _ (by omega)] at a1
    have := i1 p (t.n + j)
    omega
  have hout : ∀ p, p < t.n → f p t.snk = sumN t.g fun j => f (t.n + j) p := by
    intro p hp
    have e := i3 p (by omega) (by omega) (by omega)
    unfold div at e
    rw [split, sumN_zero' (N := t.n) fun y hy => z _ _ (cpl p hp _ (by omega)) (cpl y hy _ (by omega)), z p t.src (cpl p hp _ (by omega)) (by rw [out_src, if_neg (by omega)])] at e
    rw [sumN_congr (N := t.g) (h := fun j => - f (t.n + j) p) fun j hj => i1 (t.n + j) p, sumN_neg] at e
    omega
  refine ⟨fun j hj => ?_, fun p hp => ?_, hgz⟩
  · obtain ⟨h1, h2, h3⟩ := G.ok.ab j hj
    have := hab j hj
    have := hpos j hj _ h1
    have := hpos j hj _ h2
    omega
  · rw [← hout p hp]
    refine sum_tight (g := fun p => f p t.snk) (h := t.sc) (fun p hp => ?_) ?_ p hp
    · have := i2 p t.snk
      unfold c at this
      rw [if_pos hp, if_pos rfl] at this
      exact this
    · rw [hsum, sumN_congr hout, sumN_swap (fun p j => f (t.n + j) p)]
      rw [sumN_congr (h := fun _ => 1) fun j hj => ?_, sumN_const]
      · omega
      · rw [hsum2 j hj _ fun p hp => hgz j p hj hp]; exact hab j hj
theorem GOk.edge (G : GOk t es) {es' : List Ed} (hu : uvE es' = uv3 G.T3) {j : Nat} (hj : j < t.g) : HasE es' (t.n + j) (t.a j) ∧ HasE es' (t.n + j) (t.b j) := by
  have hu' : (es'.map fun e => (e.u, e.v)) = uv3 G.T3 := hu
  unfold HasE
  rw [hu']
  constructor
  · obtain ⟨e, he, h1, h2, h3⟩ := G.get (mem_E3.mpr (.inr ⟨j, hj, .inr (.inl rfl)⟩))
    exact List.mem_map.mpr ⟨_, mem_res3.mpr ⟨e, List.mem_filter.mpr ⟨mem_flat he (G.esOk.lt e he).1, posC_of.mpr fun x hx => by rw [h3] at hx; cases hx⟩, .inl rfl⟩, by rw [← h1, ← h2]⟩
  · obtain ⟨e, he, h1, h2, h3⟩ := G.get (mem_E3.mpr (.inr ⟨j, hj, .inr (.inr rfl)⟩))
    exact List.mem_map.mpr ⟨_, mem_res3.mpr ⟨e, List.mem_filter.mpr ⟨mem_flat he (G.esOk.lt e he).1, posC_of.mpr fun x hx => by rw [h3] at hx; cases hx⟩, .inl rfl⟩, by rw [← h1, ← h2]⟩
end
end Tn
end Mine

-- MT1
namespace Mine
open PySem PySem.W PySem.Calls PyProof.Rows

local macro_rules | `(tactic| tb_start) => `(tactic| first | with_reducible exact List.mem_cons_self | (with_reducible refine List.mem_cons_of_mem _ ?_; tb_start))
local macro_rules | `(tactic| tb_rel) => `(tactic| first | with_reducible exact Upd1.head | (with_reducible refine Upd1.tail ?_; tb_rel))

section
variable {w : World} {A : Around} {B : Bs} {l : Ledger} {s : Shared} {mg mb : Str → Option Value} {K : Frag} {f : Addr} {cdv : Value}

theorem fm_law_next {L f : Addr} {cdv : Value} {qual : Str} : Fm (envX qual (scopeS dLawNext) L f cdv []) L ["state", "limit"] [] ["len"] := fm_of (by decide +kernel) rfl

theorem law_next_body {st sl : Addr} {k lim : Int} {t tl : Tok} {vs : List Value} {ns : List Int} {L : Addr} {qual : Str} {Q : Value → Shared → Prop} {lf : SO → Ledger}
    (R : Room A 2) (T : Tp mg mb K B.h) (hg : mg "len" = none)
    (hsl : ∀ so, (sl, .ls vs) ∈ lf so) (hi : IntsAre vs ns) (hlen : vs.length ≤ 63) (hk : 0 ≤ k) (hl : 0 < lim)
    (u : ∀ so, Upd1 st (.lw [.ref sl, .int k t]) so l (lf so))
    (H : St prog w B ((L, .ns [("state", some (.ref st)), ("limit", some (.int lim tl))]) :: l) s)
    (h : ∀ r tr t' s', 0 ≤ r → r < lim → St prog w B (lf (.lw [.ref sl, .int (k + 1) t'])) s' → Q (.int r tr) s') :
    WP prog w A (execs (bodyS dLawNext) (envX qual (scopeS dLawNext) L f cdv [])) (fun fl s' => Q (retv fl) s') s := by
  have F := fm_law_next (L := L) (f := f) (cdv := cdv) (qual := qual)
  refine x_cons (st := .AugAssign (.Subscript _ _ _) _ _ _) ?_
  refine wpAny_AugAssign_SubscriptAny ?_
  refine ev_loc F H (.head _) (by tb_start) (by tb_start) ?_
  refine ev_int H ?_
  clear H; intro t1 s H
  have hm := (u (.raw default)).mem
  refine get_list (H.islw (.tail _ hm)) (by decide) (v := .int k t) rfl (by simp) ?_
  refine ev_int H ?_
  clear H; intro t2 s H
  refine op_iadd H ?_
  clear H; intro t3 s H
  refine set_lw H (by decide) (by simp) (by simp) (.tail (u _)) ?_
  clear H; intro s H
  have hm2 := hsl (.lw [.ref sl, .int (k + 1) t3])
  have hm3 : (st, .lw [.ref sl, .int (k + 1) t3]) ∈ lf (.lw [.ref sl, .int (k + 1) t3]) := (u _).mem'
  refine x_cons (st := .If _ _ _ _) ?_
  refine wpAny_If ?_
  refine wpAny_isTrue_Compare1 ?_
  -- state[1]
  refine Subscript_ ?_
  refine ev_loc F H (.head _) (by tb_start) (by tb_start) ?_
  refine ev_int H ?_
  clear H; intro t4 s H
  refine sub_list (H.islw (.tail _ hm3)) (by decide) (v := .int (k + 1) t3) rfl (by simp) ?_
  -- len(state[0])
  refine ev_call_name ?_
  refine ev_blt F H T (by tb_start) hg rfl (by decide) ?_
  refine call_pos ?_
  refine sp_cons ?_
  refine Subscript_ ?_
  refine ev_loc F H (.head _) (by tb_start) (by tb_start) ?_
  refine ev_int H ?_
  clear H; intro t5 s H
  refine sub_list (H.islw (.tail _ hm3)) (by decide) (v := .ref sl) rfl (by simp) ?_
  refine sp_nil ?_
  refine ⟨keeps_blt, ?_⟩
  refine len_ H (H.isl (.tail _ hm2)) (by omega) ?_
  clear H; intro t6 s H
  refine PyProof.Rows.gt_int ?_
  refine wpAny_truthy_bool ?_
  by_cases hgt : (vs.length : Int) < k + 1
  · rw [decide_eq_true hgt]
    show WP _ _ _ _ _ _
    refine x_one (st := .Return _ _) (wpAny_Return_some ?_)
    refine ev_int H ?_
    clear H; intro t7 s H
    exact h 0 t7 t3 s (by omega) hl H.drop
  · rw [decide_eq_false hgt]
    show WP _ _ _ _ _ _
    refine x_nil ?_
    show WP _ _ _ _ _ _
    refine x_one (st := .Return _ _) (wpAny_Return_some ?_)
    refine wpAny_BinOp ?_
    refine Subscript_ ?_
    refine Subscript_ ?_
    refine ev_loc F H (.head _) (by tb_start) (by tb_start) ?_
    refine ev_int H ?_
    clear H; intro t7 s H
    refine sub_list (H.islw (.tail _ hm3)) (by decide) (v := .ref sl) rfl (by simp) ?_
    refine wpAny_BinOp ?_
    refine Subscript_ ?_
    refine ev_loc F H (.head _) (by tb_start) (by tb_start) ?_
    refine ev_int H ?_
    clear H; intro t8 s H
    refine sub_list (H.islw (.tail _ hm3)) (by decide) (v := .int (k + 1) t3) rfl (by simp) ?_
    refine ev_int H ?_
    clear H; intro t9 s H
    refine op_sub H ?_
    clear H; intro t10 s H
    have hlt : k.toNat < ns.length := by have := hi.length; omega
    obtain ⟨tx, hx⟩ := hi.get k.toNat ns[k.toNat] (by simp [hlt])
    refine sub_list (H.isl (.tail _ hm2)) (by omega) (v := .int ns[k.toNat] tx) (by rw [show (k + 1 - 1).toNat = k.toNat by omega]; exact hx) (by omega) ?_
    refine ev_loc F H (.head _) (by tb_start) (by tb_start) ?_
    refine op_mod H (by omega) ?_
    clear H; intro t11 s H
    exact h _ t11 t3 s (Int.fmod_nonneg_of_pos _ hl) (Int.fmod_lt_of_pos _ hl) H.drop
end
end Mine

-- ML1
namespace Mine
open PySem PySem.W PySem.Calls PyProof.Rows Builtin Builtin.ObjectAttr

local macro_rules | `(tactic| tb_start) => `(tactic| first | with_reducible exact List.mem_cons_self | with_reducible assumption | (with_reducible apply List.mem_cons_of_mem; tb_start) | (with_reducible apply List.mem_append_left; tb_start) | (with_reducible apply List.mem_append_right; tb_start) | with_reducible exact g_x | with_reducible exact g_dx | with_reducible exact g_gr | with_reducible exact g_nd | with_reducible exact g_ad | with_reducible exact g_pr)
local macro_rules | `(tactic| tb_rel) => `(tactic| first | with_reducible exact Upd1.head | with_reducible exact Put.head | (with_reducible apply Upd1.tail; tb_rel) | (with_reducible apply Put.tail; tb_rel) | (with_reducible apply Upd1.right; tb_rel) | (with_reducible apply Upd1.append; tb_rel))
local macro_rules | `(tactic| k_ne) => `(tactic| first | (with_reducible apply Apart.head; tb_start) | (with_reducible apply Apart.head'; tb_start) | (with_reducible apply Apart.tail; k_ne))
local macro_rules | `(tactic| k_same) => `(tactic| first | with_reducible exact Split.head | (with_reducible apply Split.tail; k_same) | (with_reducible apply Split.skip; k_same))
local macro_rules | `(tactic| k_same2) => `(tactic| first | with_reducible exact SplitL.head | with_reducible exact SplitL.last | (with_reducible apply SplitL.tail; k_same2) | (with_reducible apply SplitL.skip; k_same2))
local macro_rules | `(tactic| k_sub) => `(tactic| first | with_reducible exact Sel.nil | with_reducible exact Sel.all | (with_reducible refine Sel.cons (by k_same) ?_; k_sub) | (with_reducible refine Sel.app (by k_same2) ?_; k_sub) | (with_reducible exact Sel.one (by k_same2)))
set_option hygiene false in
local macro_rules | `(tactic| k_flat) => `(tactic| simp only [frameOf, List.map_cons, List.map_nil, List.cons_append, List.nil_append, List.append_nil] at H)
set_option hygiene false in
local macro_rules | `(tactic| tb_lt) => `(tactic| first
  | (with_reducible refine ev_loc F H (by tb_start) (by tb_start) (by tb_start) ?_)
  | (with_reducible refine ev_int H ?_; clear H; intro _ s H)
  | (with_reducible refine ev_str H ?_; clear H; intro _ s H)
  | (with_reducible refine ev_none ?_)
  | (with_reducible refine ev_bool ?_)
  | (with_reducible refine ev_cel F H (by tb_start) (by tb_start) ?_)
  | (with_reducible refine Attribute_any_ ?_)
  | (with_reducible refine Subscript_ ?_)
  | (with_reducible refine wpAny_BinOp ?_)
  | (with_reducible refine wpAny_Compare1 ?_)
  | ((with_reducible show wpAny _ _ (getAttr _ _ _) _ _ _); refine at_own H T.X (H.inst (by tb_start) (by tb_start)) T.o__adj_395 (by rfl) (by rfl) ?_; clear H; intro s H)
  | ((with_reducible show wpAny _ _ (getAttr _ _ _) _ _ _); refine at_own H T.X (H.inst (by tb_start) (by tb_start)) T.o__node_395 (by rfl) (by rfl) ?_; clear H; intro s H)
  | ((with_reducible show wpAny _ _ (getAttr _ _ _) _ _ _); refine at_own H T.X (H.inst (by tb_start) (by tb_start)) T.o__pred_395 (by rfl) (by rfl) ?_; clear H; intro s H)
  | ((with_reducible show wpAny _ _ (getAttr _ _ _) _ _ _); refine at_own H T.X (H.inst (by tb_start) (by tb_start)) T.o_graph_395 (by rfl) (by rfl) ?_; clear H; intro s H))
set_option hygiene false in
local macro_rules | `(tactic| k_upd) => `(tactic| (refine st_loc2 F H (by tb_start) (by tb_start) (by tb_rel) (by tb_rel) ?_; clear H; intro s H))
set_option hygiene false in
local macro_rules | `(tactic| k_fold) => `(tactic| (repeat tb_lt))

section
variable {w : World} {A : Around} {B : Bs} {l l' : Ledger} {s : Shared} {mg mb : Str → Option Value} {K : Frag} {v : Value} {env : Env} {a : Addr} {vs : List Value}
theorem c_next {st sl : Addr} {k lim : Int} {t tl : Tok} {ns : List Int} {Q : Value → Shared → Prop} {lf : SO → Ledger} (R : Room A 3) (T : KP mg mb K B.h) (hsl : ∀ so, (sl, .ls vs) ∈ lf so) (hi : IntsAre vs ns) (hlen : vs.length ≤ 63) (hk : 0 ≤ k) (hl : 0 < lim)
    (u : ∀ so, Upd1 st (.lw [.ref sl, .int k t]) so l (lf so)) (H : St prog w B l s)
    (h : ∀ r tr t' s', 0 ≤ r → r < lim → St prog w B (lf (.lw [.ref sl, .int (k + 1) t'])) s' → Q (.int r tr) s') : WC prog w A (.ref 438) [.ref st, .int lim tl] [] Q s := by
  refine call_pure [("state", .ref st), ("limit", .int lim tl)] [] R T T.p_next (by kernel_rfl) (fun _ _ _ _ _ => by kernel_rfl) H fun L s H => ?_
  k_flat
  exact law_next_body (Room.deeper R) T.toTp T.gb_len hsl hi hlen hk hl u H h
/-- a list of one thing, many times -/
theorem op_lmul {x : Value} {n : Nat} {t : Tok} {Q : Value → Shared → Prop} (H : St prog w B l s) (hm : (a, .ls [x]) ∈ l) (hn : n ≤ 1000) (h : ∀ D s', St prog w B ((D, .ls (List.replicate n x)) :: l) s' → Q (.ref D) s') : WP prog w A (binaryOp .Mult (.ref a) (.int n t)) Q s := by
  obtain ⟨k, hl⟩ := H.lsx hm
  have e : List.foldl (fun x1 x2 => x1 ++ x2) #[] (List.replicate (if (#[x] : Array Value).isEmpty = true then 0 else (n : Int).toNat) (#[x] : Array Value)) = (List.replicate n x).toArray := by
    have key : ∀ (m : Nat) (acc : Array Value), List.foldl (fun x1 x2 => x1 ++ x2) acc (List.replicate m (#[x] : Array Value)) = acc ++ (List.replicate m x).toArray := by
      intro m
      induction m with
      | zero => intro acc; simp
      | succ m ih => intro acc; rw [List.replicate_succ, List.foldl_cons, ih, List.replicate_succ]; apply Array.toList_inj.mp; simp
    have := key n #[]
    simpa using this
  have hl' : s.heap.get? a = some { cls := .type "list", dict := none, data := .seq #[x] k, slots := #[] } := hl
  have hlo : -(2 ^ 63 : Int) ≤ (n : Int) := by omega
  have hhi : (n : Int) < 2 ^ 63 := by omega
  have hsz : (#[x] : Array Value).size * (n : Int).toNat ≤ 2 ^ 24 := by simp; omega
  generalize (n : Int) = z at *
  generalize hit : (#[x] : Array Value) = items at *
  refine PySem.wpAny_binaryOp_repeat_ref (T := "list") (U := "int") (by decide) ⟨_, hl', rfl⟩ (fun s' => typeIs_int s' z t) noFill_list_mul F.fills_int_mul F.slot_int_rmul repeat_list F.slot_int_index.lookup
    (call_meets F.slot_int_rmul (typeIs_int s z t) F.entry_int_rmul (F.args_int_rmul_2 _ _) (int___rmul___int_list z t a items k)
      ⟨hl', rfl, ⟨_, hl', rfl⟩, call_meets F.slot_list_mul ⟨_, hl', rfl⟩ F.entry_list_mul (F.args_list_mul_2 _ _)
        (AutoListH.list___mul___list_int_3 a items k z t (by simp [Builtin.List.listFitsIndex]; omega) (by omega) (by simp [Builtin.List.listTooLong, sizeLine]; omega))
        ⟨hl', ?_⟩⟩)
  rw [e]
  exact h _ _ (H.push (t := s.toks) rfl ⟨0, rfl⟩)
theorem ints_of : ∀ {vs : List Value}, (∀ v ∈ vs, ∃ i t, v = .int i t) → ∃ ns, IntsAre vs ns
  | [], _ => ⟨[], .nil⟩
  | v :: vs, h => by
    obtain ⟨ns, hns⟩ := ints_of (vs := vs) fun v hv => h v (.tail _ hv)
    obtain ⟨i, t, rfl⟩ := h v (.head _)
    exact ⟨i :: ns, .cons i t hns⟩
theorem ints_mem {vs : List Value} {ns : List Int} (h : IntsAre vs ns) : ∀ v ∈ vs, ∃ i t, v = .int i t := by
  induction h with
  | nil => intro v hv; cases hv
  | cons n t _ ih => intro v hv; cases hv with
    | head => exact ⟨_, _, rfl⟩
    | tail _ hv => exact ih v hv
/-- a list's first part -/
theorem slice_upto {value : Expr} {u : Expr} {p pos : Pos} {ns : List Int} {n : Int} {Q : Value → Shared → Prop}
    (hv : WP prog w A (eval value env) (fun ov s₁ => ov = .ref a ∧ WP prog w A (eval u env) (fun uv s₂ => ∃ t l, uv = .int n t ∧ St prog w B l s₂ ∧ s₂.heap.IsList a vs.toArray ∧ IntsAre vs ns ∧ vs.length ≤ 63 ∧
      ∀ D vs' ns' s', IntsAre vs' ns' → vs'.length ≤ 63 → St prog w B ((D, .ls vs') :: l) s' → Q (.ref D) s') s₁) s)
    (ht : ∀ o r, letTemporaryGo value o r = pure () := by intro _ _; rfl) :
    WP prog w A (eval (.Subscript value (.Slice none (some u) none p) pos) env) Q s := by
  refine wpAny_Subscript_Slice (T := "list") list_getitem_lookup (wpAny_mono hv (fun ov s₁ h₁ => ?_) fun _ _ e => e) ht
  obtain ⟨rfl, h₁⟩ := h₁
  refine wpAny_Slice ?_
  rw [evalPart_none]
  refine wpAny_pure ?_
  rw [evalPart_some]
  refine wpAny_mono h₁ (fun uv s₂ h₂ => ?_) fun _ _ e => e
  refine wpAny_pure ?_
  obtain ⟨t, l, rfl, H, hl, hi, hlen, hq⟩ := h₂
  refine ⟨Heap.IsList.typeIs (s := { s₂ with heap := s₂.heap.push { cls := .type "slice", data := .fields #[.none, .int n t, .none] } }) (hl.push _), ?_⟩
  refine wpAny_getItem_list_slice (hl.push _) (Heap.IsSliceOf.new ..) .none (.int _ _) .none (by simp) ?_ (by simp only [List.size_toArray]; rw [sizeLine_eq]; omega)
  obtain ⟨ns', hns'⟩ : ∃ ns', IntsAre (slicePick vs.toArray none (some n) none).toList ns' := ints_of fun v hv => by
    unfold slicePick at hv
    obtain ⟨i, _, hi'⟩ := List.mem_filterMap.mp (show v ∈ List.filterMap _ _ by simpa using hv)
    refine ints_mem hi v ?_
    have hi2 : vs[i]? = some v := by simpa using hi'
    exact List.mem_of_getElem? hi2
  refine hq _ (slicePick vs.toArray none (some n) none).toList ns' _ hns' ?_ ?_
  · have := slicePick_size_le vs.toArray none (some n) none
    simp only [List.size_toArray] at this
    rw [Array.length_toList]; omega
  · have H1 := H.grow (h' := s₂.heap.push { cls := .type "slice", data := .fields #[.none, .int n t, .none] }) (t := s₂.toks) fun _ _ e => Heap.get?_push_of_some _ e
    exact H1.push (t := s₂.toks) rfl ⟨0, by simp⟩
end
end Mine

-- MB20
namespace Mine
open PySem PySem.W PySem.Calls PyProof.Rows Builtin Builtin.ObjectAttr

section
variable {prog : Program} {w : World} {A : Around} {B : Bs} {l l' : Ledger} {s : Shared} {env : Env} {a it : Addr} {v : Value} {vs : List Value} {i : Nat}
/-- the inner clause of two -/
abbrev nestB (e : Expr) (iter : Expr) (acc : Value) (env : Env) : Sem Unit := eval iter env >>= fun x => standAt iter.pos >>= fun _ => foldedSetIterable iter env x >>= fun x => holding [x] (pyIter x) >>= fun itv => runOwn (.compStart e 1 itv acc env) env >>= fun _ => pure ()
theorem turn_outer {elt t1 i1 t2 i2 : Expr} {scope : Scope} {pos : Pos} {it acc : Value} {env : Env} :
    compTurn (.ListComp elt [⟨t1, i1, [], 0⟩, ⟨t2, i2, [], 0⟩] scope pos) 0 it acc env = turnOf (.ListComp elt [⟨t1, i1, [], 0⟩, ⟨t2, i2, [], 0⟩] scope pos) 0 t1 i1.pos (nestB (.ListComp elt [⟨t1, i1, [], 0⟩, ⟨t2, i2, [], 0⟩] scope pos) i2 acc env) it acc env := by
  unfold compTurn
  simp only [List.getElem?_cons_zero, List.getElem?_cons_succ]
  simp [nestB, turnOf]
  rfl
theorem turn_inner {elt t1 i1 t2 i2 : Expr} {scope : Scope} {pos : Pos} {it acc : Value} {env : Env} :
    compTurn (.ListComp elt [⟨t1, i1, [], 0⟩, ⟨t2, i2, [], 0⟩] scope pos) 1 it acc env = turnOf (.ListComp elt [⟨t1, i1, [], 0⟩, ⟨t2, i2, [], 0⟩] scope pos) 1 t2 i2.pos (emitL elt acc env) it acc env := by rfl
theorem nest_body {e iter : Expr} {acc : Value} {Q : Unit → Shared → Prop}
    (h : WP prog w A (eval iter env) (fun x s₁ => WP prog w A (pyIter x) (fun itv s₂ => codeAny (model prog w) A (.compStart e 1 itv acc env) (fun r s' => match r with | .ok _ => Q () s' | .error _ => False) s₂) s₁) s)
    (hs : ∀ x, foldedSetIterable iter env x = pure x := by intro _; rfl) : WP prog w A (nestB e iter acc env) Q s := by
  unfold nestB
  refine wpAny_bind (wpAny_mono h (fun x s₁ h₁ => wpAny_bind (wpAny_standAt (wpAny_bind (wpAny_of_eq (hs x) (wpAny_bind (wpAny_holding (wpAny_mono h₁ (fun itv s₂ h₂ => ?_) fun _ _ e => e))))))) fun _ _ e => e)
  have h₃ : codeAny (model prog w) (A.mark none) (.compStart e 1 itv acc env) (fun r s' => match r with | .ok _ => Q () s' | .error _ => False) s₂ := by rw [Around.mark_none]; exact h₂
  refine wpAny_bind (wpAny_runOwn (codeAny_mono h₃ fun r s' hr => ?_))
  cases r with
  | ok f => exact wpAny_pure hr
  | error x => exact hr.elim
end
end Mine

-- ML2
namespace Mine
open PySem PySem.W PySem.Calls PyProof.Rows Builtin Builtin.ObjectAttr

local macro_rules | `(tactic| tb_start) => `(tactic| first | with_reducible exact List.mem_cons_self | with_reducible assumption | (with_reducible apply List.mem_cons_of_mem; tb_start) | (with_reducible apply List.mem_append_left; tb_start) | (with_reducible apply List.mem_append_right; tb_start) | with_reducible exact g_x | with_reducible exact g_dx | with_reducible exact g_gr | with_reducible exact g_nd | with_reducible exact g_ad | with_reducible exact g_pr)
local macro_rules | `(tactic| tb_rel) => `(tactic| first | with_reducible exact Upd1.head | with_reducible exact Put.head | (with_reducible apply Upd1.tail; tb_rel) | (with_reducible apply Put.tail; tb_rel) | (with_reducible apply Upd1.right; tb_rel) | (with_reducible apply Upd1.append; tb_rel))
local macro_rules | `(tactic| k_ne) => `(tactic| first | (with_reducible apply Apart.head; tb_start) | (with_reducible apply Apart.head'; tb_start) | (with_reducible apply Apart.tail; k_ne))
local macro_rules | `(tactic| k_same) => `(tactic| first | with_reducible exact Split.head | (with_reducible apply Split.tail; k_same) | (with_reducible apply Split.skip; k_same))
local macro_rules | `(tactic| k_same2) => `(tactic| first | with_reducible exact SplitL.head | with_reducible exact SplitL.last | (with_reducible apply SplitL.tail; k_same2) | (with_reducible apply SplitL.skip; k_same2))
local macro_rules | `(tactic| k_sub) => `(tactic| first | with_reducible exact Sel.nil | with_reducible exact Sel.all | (with_reducible refine Sel.cons (by k_same) ?_; k_sub) | (with_reducible refine Sel.app (by k_same2) ?_; k_sub) | (with_reducible exact Sel.one (by k_same2)))
set_option hygiene false in
local macro_rules | `(tactic| k_flat) => `(tactic| simp only [frameOf, List.map_cons, List.map_nil, List.cons_append, List.nil_append, List.append_nil] at H)
set_option hygiene false in
local macro_rules | `(tactic| tb_lt) => `(tactic| first
  | (with_reducible refine ev_loc F H (by tb_start) (by tb_start) (by tb_start) ?_)
  | (with_reducible refine ev_int H ?_; clear H; intro _ s H)
  | (with_reducible refine ev_str H ?_; clear H; intro _ s H)
  | (with_reducible refine ev_none ?_)
  | (with_reducible refine ev_bool ?_)
  | (with_reducible refine ev_cel F H (by tb_start) (by tb_start) ?_)
  | (with_reducible refine Attribute_any_ ?_)
  | (with_reducible refine Subscript_ ?_)
  | (with_reducible refine wpAny_BinOp ?_)
  | (with_reducible refine wpAny_Compare1 ?_)
  | ((with_reducible show wpAny _ _ (getAttr _ _ _) _ _ _); refine at_own H T.X (H.inst (by tb_start) (by tb_start)) T.o__adj_395 (by rfl) (by rfl) ?_; clear H; intro s H)
  | ((with_reducible show wpAny _ _ (getAttr _ _ _) _ _ _); refine at_own H T.X (H.inst (by tb_start) (by tb_start)) T.o__node_395 (by rfl) (by rfl) ?_; clear H; intro s H)
  | ((with_reducible show wpAny _ _ (getAttr _ _ _) _ _ _); refine at_own H T.X (H.inst (by tb_start) (by tb_start)) T.o__pred_395 (by rfl) (by rfl) ?_; clear H; intro s H)
  | ((with_reducible show wpAny _ _ (getAttr _ _ _) _ _ _); refine at_own H T.X (H.inst (by tb_start) (by tb_start)) T.o_graph_395 (by rfl) (by rfl) ?_; clear H; intro s H))
set_option hygiene false in
local macro_rules | `(tactic| k_upd) => `(tactic| (refine st_loc2 F H (by tb_start) (by tb_start) (by tb_rel) (by tb_rel) ?_; clear H; intro s H))
set_option hygiene false in
local macro_rules | `(tactic| k_fold) => `(tactic| (repeat tb_lt))

theorem cs6 {cs : List (Str × Addr)} {x y z p q r : Str} (h : cs.map (·.1) = [x, y, z, p, q, r]) : ∃ c d e f g i, cs = [(x, c), (y, d), (z, e), (p, f), (q, g), (r, i)] := by
  match cs, h with
  | [(x', c), (y', d), (z', e), (p', f), (q', g), (r', i)], h =>
    simp only [List.map_cons, List.map_nil, List.cons.injEq, and_true] at h
    exact ⟨c, d, e, f, g, i, by rw [h.1, h.2.1, h.2.2.1, h.2.2.2.1, h.2.2.2.2.1, h.2.2.2.2.2]⟩
abbrev lwEnv (L fa : Addr) (cd : Value) (cR chd cco ck csc cn : Addr) : Env := envX "law" (scopeS dLaw) L fa cd [("R", cR), ("held", chd), ("code", cco), ("k", ck), ("scores", csc), ("n", cn)]
abbrev lwF (sc st b a gm ot so G la va wo ga mo : Option Value) : List (Str × Option Value) := [("script", sc), ("state", st), ("b", b), ("a", a), ("games", gm), ("other", ot), ("source", so), ("G", G), ("lacks", la), ("value", va), ("won", wo), ("gave", ga), ("most", mo)]
theorem fm_lw (L fa : Addr) (cd : Value) (cR chd cco ck csc cn : Addr) : Fm (lwEnv L fa cd cR chd cco ck csc cn) L ["script", "state", "b", "a", "games", "other", "source", "G", "lacks", "value", "won", "gave", "most"] [("R", cR), ("held", chd), ("code", cco), ("k", ck), ("scores", csc), ("n", cn)] ["_law_next", "range", "min", "len", "DiGraph", "sum", "edmonds_karp", "max", "sorted"] := fm_of (by kernel_rfl) rfl
/-- a game, as laid -/
structure Gm where
  q : Addr
  a : Nat
  b : Nat
  ta : Tok
  tb : Tok
def gmT (gs : List Gm) : Ledger := gs.map fun r => (r.q, .tp [.int (r.a : Nat) r.ta, .int (r.b : Nat) r.tb])
def gmV (gs : List Gm) : List Value := gs.map fun r => .ref r.q
def prs (n : Nat) : List (Nat × Nat) := (List.range n).flatMap fun b => (List.range b).map fun a => (a, b)
theorem prs_succ (n : Nat) : prs (n + 1) = prs n ++ (List.range n).map fun a => (a, n) := by unfold prs; rw [List.range_succ, List.flatMap_append]; simp
def lComp : Expr := match nthS (bodyS dLaw) 2 with | .Assign _ e _ => e | _ => .Constant .none 0 ⟨0, 0, 0, 0⟩
section
variable {w : World} {A : Around} {B : Bs} {l l' : Ledger} {s : Shared} {mg mb : Str → Option Value} {K : Frag} {v : Value}
theorem b_games {n : Nat} {tn : Tok} {L fa cR chd cco ck csc cn : Addr} {cd : Value} {sc st b0 a0 : Option Value} {Q : Flow → Shared → Prop} (R : Room A 3) (T : KP mg mb K B.h) (hn : n ≤ 5) (hcn : (cn, .cell (some (.int (n : Nat) tn))) ∈ l)
    (H : St prog w B ((L, .ns (lwF sc st b0 a0 none none none none none none none none none)) :: l) s)
    (h : ∀ D gs s', gs.map (fun r => (r.a, r.b)) = prs n → St prog w B ((D, .ls (gmV gs)) :: (L, .ns (lwF sc st b0 a0 (some (.ref D)) none none none none none none none none)) :: (gmT gs ++ l)) s' → Q .next s') :
    WP prog w A (exec (nthS (bodyS dLaw) 2) (lwEnv L fa cd cR chd cco ck csc cn)) Q s := by
  have F := fm_lw L fa cd cR chd cco ck csc cn
  refine x_assign_comp (B := B) [".0", "b", "a"] (by kernel_rfl) (by kernel_rfl) (cl := []) (by kernel_rfl) ?_
  refine ev_call_name ?_
  refine ev_blt F H T.toTp (by tb_start) T.gb_range rfl (by decide) ?_
  refine call_pos ?_
  refine sp_cons ?_
  k_fold
  refine sp_nil ⟨keeps_type, ?_⟩
  refine range1 H ?_
  clear H; intro r s H
  refine iter_range (n := n) H (by tb_start) (by omega) ?_
  clear H; intro it s H
  refine ⟨_, H, fun D C s H => ?_⟩
  show codeAny (model prog w) A (.compStart _ 0 _ _ (compEnvC (scE lComp) [] C (lwEnv L fa cd cR chd cco ck csc cn))) _ _
  refine comp_start (g := ⟨_, _, _, _⟩) rfl rfl (fun Q hq => iter_self_range R.none H (n := n) (i := 0) (by tb_start) hq) ?_
  have FC := fm_comp (scope := scE lComp) (osc := scopeS dLaw) (qual := "law") (L := L) (f := fa) (C := C) (cdv := cd) (cl := []) (cl0 := [("R", cR), ("held", chd), ("code", cco), ("k", ck), ("scores", csc), ("n", cn)]) (ns := [".0", "b", "a"]) (csn := []) (gs := ["range"]) (by kernel_rfl) rfl
  k_flat
  have H1 : St prog w B ((it, soRange n 0) :: (C, .ns [(".0", none), ("b", none), ("a", none)]) :: (D, .ls []) :: (L, .ns (lwF sc st b0 a0 none none none none none none none none none)) :: l) s := H.sel (by k_sub)
  clear H
  refine comp_loop (n := n) turn_outer (it_range R.none) (fun i l' => ∃ gs x0 x1 x2, gs.map (fun r => (r.a, r.b)) = prs i ∧ l' = (C, .ns [(".0", x0), ("b", x1), ("a", x2)]) :: (D, .ls (gmV gs)) :: (L, .ns (lwF sc st b0 a0 none none none none none none none none none)) :: (gmT gs ++ l)) (fun _ _ _ => trivial) H1 ⟨[], _, _, _, rfl, rfl⟩ ?_ ?_
  · rintro i v ex l' s hi ⟨⟨t, rfl⟩, rfl⟩ ⟨gs, x0, x1, x2, hgs, rfl⟩ H
    simp only [List.nil_append] at H
    clear F
    have F := FC
    refine wpAny_assign_Name ?_
    k_upd
    refine nest_body ?_
    refine ev_call_name ?_
    refine ev_blt F H T.toTp (by tb_start) T.gb_range rfl (by decide) ?_
    refine call_pos ?_
    refine sp_cons ?_
    k_fold
    refine sp_nil ⟨keeps_type, ?_⟩
    refine range1 H ?_
    clear H; intro r2 s H
    refine iter_range (n := i) H (by tb_start) (by omega) ?_
    clear H; intro it2 s H
    refine comp_start (g := ⟨_, _, _, _⟩) rfl rfl (fun Q hq => iter_self_range R.none H (n := i) (i := 0) (by tb_start) hq) ?_
    replace H : St prog w B ((it2, soRange i 0) :: ((it, soRange n (i + 1)) :: (C, .ns [(".0", x0), ("b", some (.int (i : Nat) t)), ("a", x2)]) :: (D, .ls (gmV gs)) :: (L, .ns (lwF sc st b0 a0 none none none none none none none none none)) :: (gmT gs ++ l))) s := H.sel (by k_sub)
    refine comp_loop (n := i) turn_inner (it_range R.none) (fun j l' => ∃ gs x0 x2, gs.map (fun r => (r.a, r.b)) = prs i ++ (List.range j).map (fun a => (a, i)) ∧ l' = (it, soRange n (i + 1)) :: (C, .ns [(".0", x0), ("b", some (.int (i : Nat) t)), ("a", x2)]) :: (D, .ls (gmV gs)) :: (L, .ns (lwF sc st b0 a0 none none none none none none none none none)) :: (gmT gs ++ l)) (fun _ _ _ => trivial) H ⟨gs, _, _, by simpa using hgs, rfl⟩ ?_ ?_
    · clear H
      rintro j v ex l' s hj ⟨⟨ta, rfl⟩, rfl⟩ ⟨gs, x0, x2, hgs, rfl⟩ H
      simp only [List.nil_append] at H
      refine wpAny_assign_Name ?_
      k_upd
      refine wpAny_bind ?_
      refine ev_Tuple ?_
      refine sp_cons ?_
      k_fold
      refine sp_cons ?_
      k_fold
      refine sp_nil ?_
      refine new_tuple H (by show 2 ≤ sizeLine; decide) ?_
      clear H; intro q s H
      have hgl : gs.length ≤ 100 := by
        have := congrArg List.length hgs
        rw [List.length_map, List.length_append, List.length_map, List.length_range] at this
        have h2 : (prs i).length ≤ 25 := by
          have : i = 0 ∨ i = 1 ∨ i = 2 ∨ i = 3 ∨ i = 4 := by omega
          rcases this with rfl | rfl | rfl | rfl | rfl <;> decide
        omega
      refine wpAny_bind (call_append (vs := gmV gs) H (by unfold gmV; rw [List.length_map, sizeLine_eq]; omega) (by tb_rel) ?_)
      clear H; intro s H
      refine wpAny_pure ?_
      refine ⟨_, ⟨gs ++ [⟨q, j, i, ta, t⟩], x0, some (.int (j : Nat) ta), ?_, rfl⟩, ?_⟩
      · rw [List.map_append, hgs, List.range_succ, List.map_append, List.append_assoc]; rfl
      · have e1 : gmV (gs ++ [⟨q, j, i, ta, t⟩]) = gmV gs ++ [.ref q] := by simp [gmV]
        have e2 : gmT (gs ++ [⟨q, j, i, ta, t⟩]) = gmT gs ++ [(q, .tp [.int (j : Nat) ta, .int (i : Nat) t])] := by simp [gmT]
        rw [e1, e2]
        refine H.sel ?_
        simp only [List.append_assoc, List.cons_append, List.nil_append]
        k_sub
    · clear H
      rintro l' s ⟨gs, x0, x2, hgs, rfl⟩ H
      exact ⟨_, ⟨gs, x0, _, x2, by rw [prs_succ]; exact hgs, rfl⟩, H⟩
  · clear H1
    rintro l' s ⟨gs, x0, x1, x2, hgs, rfl⟩ H
    refine st_loc2 F H (by tb_start) (.tail _ (.tail _ (.head _))) (by tb_rel) (.tail (.tail .head)) ?_
    clear H; intro s H
    refine ⟨_, _, H, fun s' H' => h D gs s' hgs (H'.sel (by k_sub))⟩
end
end Mine

-- ML3
namespace Mine
open PySem PySem.W PySem.Calls PyProof.Rows Builtin Builtin.ObjectAttr

local macro_rules | `(tactic| tb_start) => `(tactic| first | with_reducible exact List.mem_cons_self | with_reducible assumption | (with_reducible apply List.mem_cons_of_mem; tb_start) | (with_reducible apply List.mem_append_left; tb_start) | (with_reducible apply List.mem_append_right; tb_start) | with_reducible exact g_x | with_reducible exact g_dx | with_reducible exact g_gr | with_reducible exact g_nd | with_reducible exact g_ad | with_reducible exact g_pr)
local macro_rules | `(tactic| tb_rel) => `(tactic| first | with_reducible exact Upd1.head | with_reducible exact Put.head | (with_reducible apply Upd1.tail; tb_rel) | (with_reducible apply Put.tail; tb_rel) | (with_reducible apply Upd1.right; tb_rel) | (with_reducible apply Upd1.append; tb_rel))
local macro_rules | `(tactic| k_ne) => `(tactic| first | (with_reducible apply Apart.head; tb_start) | (with_reducible apply Apart.head'; tb_start) | (with_reducible apply Apart.tail; k_ne))
local macro_rules | `(tactic| k_same) => `(tactic| first | with_reducible exact Split.head | (with_reducible apply Split.tail; k_same) | (with_reducible apply Split.skip; k_same))
local macro_rules | `(tactic| k_same2) => `(tactic| first | with_reducible exact SplitL.head | with_reducible exact SplitL.last | (with_reducible apply SplitL.tail; k_same2) | (with_reducible apply SplitL.skip; k_same2))
local macro_rules | `(tactic| k_sub) => `(tactic| first | with_reducible exact Sel.nil | with_reducible exact Sel.all | (with_reducible refine Sel.cons (by k_same) ?_; k_sub) | (with_reducible refine Sel.app (by k_same2) ?_; k_sub) | (with_reducible exact Sel.one (by k_same2)))
set_option hygiene false in
local macro_rules | `(tactic| k_flat) => `(tactic| simp only [frameOf, List.map_cons, List.map_nil, List.cons_append, List.nil_append, List.append_nil] at H)
set_option hygiene false in
local macro_rules | `(tactic| tb_lt) => `(tactic| first
  | (with_reducible refine ev_loc F H (by tb_start) (by tb_start) (by tb_start) ?_)
  | (with_reducible refine ev_int H ?_; clear H; intro _ s H)
  | (with_reducible refine ev_str H ?_; clear H; intro _ s H)
  | (with_reducible refine ev_none ?_)
  | (with_reducible refine ev_bool ?_)
  | (with_reducible refine ev_cel F H (by tb_start) (by tb_start) ?_)
  | (with_reducible refine Attribute_any_ ?_)
  | (with_reducible refine Subscript_ ?_)
  | (with_reducible refine wpAny_BinOp ?_)
  | (with_reducible refine wpAny_Compare1 ?_)
  | ((with_reducible show wpAny _ _ (getAttr _ _ _) _ _ _); refine at_own H T.X (H.inst (by tb_start) (by tb_start)) T.o__adj_395 (by rfl) (by rfl) ?_; clear H; intro s H)
  | ((with_reducible show wpAny _ _ (getAttr _ _ _) _ _ _); refine at_own H T.X (H.inst (by tb_start) (by tb_start)) T.o__node_395 (by rfl) (by rfl) ?_; clear H; intro s H)
  | ((with_reducible show wpAny _ _ (getAttr _ _ _) _ _ _); refine at_own H T.X (H.inst (by tb_start) (by tb_start)) T.o__pred_395 (by rfl) (by rfl) ?_; clear H; intro s H)
  | ((with_reducible show wpAny _ _ (getAttr _ _ _) _ _ _); refine at_own H T.X (H.inst (by tb_start) (by tb_start)) T.o_graph_395 (by rfl) (by rfl) ?_; clear H; intro s H))
set_option hygiene false in
local macro_rules | `(tactic| k_upd) => `(tactic| (refine st_loc2 F H (by tb_start) (by tb_start) (by tb_rel) (by tb_rel) ?_; clear H; intro s H))
set_option hygiene false in
local macro_rules | `(tactic| k_fold) => `(tactic| (repeat tb_lt))

set_option hygiene false in
local macro_rules | `(tactic| one_item) => `(tactic| (refine ev_call_name ?_; refine ev_glo F H T.toTp (by tb_start) T.gl__law_next ?_; refine call_pos ?_; refine sp_cons ?_; k_fold; refine sp_cons ?_; k_fold; refine sp_nil ⟨(T.p_next.keeps H.keep).keeper, call_of ?_⟩))

/-- ints in a list, changed in place -/
def iv (zs : List (Int × Tok)) : List Value := zs.map fun q => Value.int q.1 q.2
theorem iv_at {zs : List (Int × Tok)} {k : Nat} (h : k < zs.length) : (iv zs)[k]? = some (.int zs[k].1 zs[k].2) := by unfold iv; rw [List.getElem?_map, List.getElem?_eq_getElem h]; rfl
theorem iv_set (zs : List (Int × Tok)) (k : Nat) (x : Int) (t : Tok) : (iv zs).set k (.int x t) = iv (zs.set k (x, t)) := by unfold iv; rw [List.map_set]
theorem iv_len (zs : List (Int × Tok)) : (iv zs).length = zs.length := by unfold iv; rw [List.length_map]
theorem iv_ints (zs : List (Int × Tok)) : IntsAre (iv zs) (zs.map (·.1)) := by
  induction zs with
  | nil => exact .nil
  | cons z zs ih => exact .cons z.1 z.2 ih
def Bd (m : Int) (zs : List (Int × Tok)) : Prop := ∀ z ∈ zs, 0 ≤ z.1 ∧ z.1 ≤ m
theorem Bd.set {m : Int} {zs : List (Int × Tok)} (h : Bd m zs) {k : Nat} {x : Int} {t : Tok} {m' : Int} (hm : m ≤ m') (h0 : 0 ≤ x) (h1 : x ≤ m') : Bd m' (zs.set k (x, t)) := by
  intro z hz
  rcases List.mem_or_eq_of_mem_set hz with hz | rfl
  · have := h z hz; omega
  · exact ⟨h0, h1⟩
section
variable {w : World} {A : Around} {B : Bs} {l l' : Ledger} {s : Shared} {mg mb : Str → Option Value} {K : Frag} {v : Value} {env : Env} {a : Addr}
end
end Mine

-- ML4
namespace Mine
open PySem PySem.W PySem.Calls PyProof.Rows Builtin Builtin.ObjectAttr

local macro_rules | `(tactic| tb_start) => `(tactic| first | with_reducible exact List.mem_cons_self | with_reducible assumption | (with_reducible apply List.mem_cons_of_mem; tb_start) | (with_reducible apply List.mem_append_left; tb_start) | (with_reducible apply List.mem_append_right; tb_start) | with_reducible exact g_x | with_reducible exact g_dx | with_reducible exact g_gr | with_reducible exact g_nd | with_reducible exact g_ad | with_reducible exact g_pr)
local macro_rules | `(tactic| tb_rel) => `(tactic| first | with_reducible exact Upd1.head | with_reducible exact Put.head | (with_reducible apply Upd1.tail; tb_rel) | (with_reducible apply Put.tail; tb_rel) | (with_reducible apply Upd1.right; tb_rel) | (with_reducible apply Upd1.append; tb_rel))
local macro_rules | `(tactic| k_ne) => `(tactic| first | (with_reducible apply Apart.head; tb_start) | (with_reducible apply Apart.head'; tb_start) | (with_reducible apply Apart.tail; k_ne))
local macro_rules | `(tactic| k_same) => `(tactic| first | with_reducible exact Split.head | (with_reducible apply Split.tail; k_same) | (with_reducible apply Split.skip; k_same))
local macro_rules | `(tactic| k_same2) => `(tactic| first | with_reducible exact SplitL.head | with_reducible exact SplitL.last | (with_reducible apply SplitL.tail; k_same2) | (with_reducible apply SplitL.skip; k_same2))
local macro_rules | `(tactic| k_sub) => `(tactic| first | with_reducible exact Sel.nil | with_reducible exact Sel.all | (with_reducible refine Sel.cons (by k_same) ?_; k_sub) | (with_reducible refine Sel.app (by k_same2) ?_; k_sub) | (with_reducible exact Sel.one (by k_same2)))
set_option hygiene false in
local macro_rules | `(tactic| k_flat) => `(tactic| simp only [frameOf, List.map_cons, List.map_nil, List.cons_append, List.nil_append, List.append_nil] at H)
set_option hygiene false in
local macro_rules | `(tactic| tb_lt) => `(tactic| first
  | (with_reducible refine ev_loc F H (by tb_start) (by tb_start) (by tb_start) ?_)
  | (with_reducible refine ev_int H ?_; clear H; intro _ s H)
  | (with_reducible refine ev_str H ?_; clear H; intro _ s H)
  | (with_reducible refine ev_none ?_)
  | (with_reducible refine ev_bool ?_)
  | (with_reducible refine ev_cel F H (by tb_start) (by tb_start) ?_)
  | (with_reducible refine Attribute_any_ ?_)
  | (with_reducible refine Subscript_ ?_)
  | (with_reducible refine wpAny_BinOp ?_)
  | (with_reducible refine wpAny_Compare1 ?_)
  | ((with_reducible show wpAny _ _ (getAttr _ _ _) _ _ _); refine at_own H T.X (H.inst (by tb_start) (by tb_start)) T.o__adj_395 (by rfl) (by rfl) ?_; clear H; intro s H)
  | ((with_reducible show wpAny _ _ (getAttr _ _ _) _ _ _); refine at_own H T.X (H.inst (by tb_start) (by tb_start)) T.o__node_395 (by rfl) (by rfl) ?_; clear H; intro s H)
  | ((with_reducible show wpAny _ _ (getAttr _ _ _) _ _ _); refine at_own H T.X (H.inst (by tb_start) (by tb_start)) T.o__pred_395 (by rfl) (by rfl) ?_; clear H; intro s H)
  | ((with_reducible show wpAny _ _ (getAttr _ _ _) _ _ _); refine at_own H T.X (H.inst (by tb_start) (by tb_start)) T.o_graph_395 (by rfl) (by rfl) ?_; clear H; intro s H))
set_option hygiene false in
local macro_rules | `(tactic| k_upd) => `(tactic| (refine st_loc2 F H (by tb_start) (by tb_start) (by tb_rel) (by tb_rel) ?_; clear H; intro s H))
set_option hygiene false in
local macro_rules | `(tactic| k_fold) => `(tactic| (repeat tb_lt))

set_option hygiene false in
local macro_rules | `(tactic| one_item) => `(tactic| (refine ev_call_name ?_; refine ev_glo F H T.toTp (by tb_start) T.gl__law_next ?_; refine call_pos ?_; refine sp_cons ?_; k_fold; refine sp_cons ?_; k_fold; refine sp_nil ⟨(T.p_next.keeps H.keep).keeper, call_of ?_⟩))

section
variable {w : World} {A : Around} {B : Bs} {l l' : Ledger} {s : Shared} {mg mb : Str → Option Value} {K : Frag} {v : Value} {env : Env} {a : Addr}
theorem prs_mem {n a b : Nat} (h : (a, b) ∈ prs n) : a < b ∧ b < n := by
  unfold prs at h
  obtain ⟨y, hy, h⟩ := List.mem_flatMap.mp h
  obtain ⟨x, hx, e⟩ := List.mem_map.mp h
  have := List.mem_range.mp hy
  have := List.mem_range.mp hx
  cases e; omega
theorem b_deal {n : Nat} {L fa cR chd cco ck csc cn S st sl D : Addr} {cd : Value} {sc b0 a0 gm ot so G la va wo ga mo : Option Value} {zs : List (Int × Tok)} {gs : List Gm} {vs : List Value} {ns : List Int} {k : Int} {t : Tok} {Q : Flow → Shared → Prop} (R : Room A 4) (T : KP mg mb K B.h) (hn : n ≤ 5) (hgs : gs.map (fun r => (r.a, r.b)) = prs n) (hz : zs.length = n) (hb : Bd 0 zs)
    (hi : IntsAre vs ns) (hlen : vs.length ≤ 63) (hk : 0 ≤ k) (hsl : (sl, .ls vs) ∈ l) (hcs : (csc, .cell (some (.ref S))) ∈ l) (hD : (D, .ls (gmV gs)) ∈ l) (hgT : ∀ p ∈ gmT gs, p ∈ l)
    (H : St prog w B ((S, .lw (iv zs)) :: (st, .lw [.ref sl, .int k t]) :: (L, .ns (lwF sc (some (.ref st)) b0 a0 (some (.ref D)) ot so G la va wo ga mo)) :: l) s)
    (h : ∀ zs' k' t' b1 a1 s', zs'.length = n → Bd gs.length zs' → 0 ≤ k' → St prog w B ((S, .lw (iv zs')) :: (st, .lw [.ref sl, .int k' t']) :: (L, .ns (lwF sc (some (.ref st)) b1 a1 (some (.ref D)) ot so G la va wo ga mo)) :: l) s' → Q .next s') :
    WP prog w A (exec (nthS (bodyS dLaw) 4) (lwEnv L fa cd cR chd cco ck csc cn)) Q s := by
  have F := fm_lw L fa cd cR chd cco ck csc cn
  show WP prog w A (exec (.For (.Tuple _ _ _) (.Name _ _) _ _ _) _) Q s
  refine x_for ?_
  k_fold
  refine iter_list H (H.isl (vs := gmV gs) (by tb_start)) ?_
  clear H; intro it s hne H
  have hgl : (gmV gs).length = gs.length := by simp [gmV]
  refine for_it (it_list (vs := gmV gs) R.none hne (fun l' => (D, .ls (gmV gs)) ∈ l') fun l' s hm H => H.isl hm) (fun i l' => ∃ zs' k' t' b1 a1, zs'.length = n ∧ Bd i zs' ∧ 0 ≤ k' ∧ l' = (S, .lw (iv zs')) :: (st, .lw [.ref sl, .int k' t']) :: (L, .ns (lwF sc (some (.ref st)) b1 a1 (some (.ref D)) ot so G la va wo ga mo)) :: l) ?_ H ⟨zs, k, t, _, _, hz, hb, hk, rfl⟩ ?_ ?_
  · rintro i l' ⟨zs', k', t', b1, a1, _, _, _, rfl⟩; tb_start
  · rintro i v ex l' s hi' ⟨hv, rfl⟩ ⟨zs', k', t', b1, a1, hz', hb', hk', rfl⟩ H
    simp only [List.nil_append] at H
    obtain ⟨r, hr, rfl⟩ : ∃ r, gs[i]? = some r ∧ v = .ref r.q := by
      unfold gmV at hv
      rw [List.getElem?_map, Option.map_eq_some_iff] at hv
      obtain ⟨r, hr, e⟩ := hv
      exact ⟨r, hr, e.symm⟩
    have hrm := List.mem_of_getElem? hr
    have hab : r.a < r.b ∧ r.b < n := by
      have : (r.a, r.b) ∈ gs.map (fun r => (r.a, r.b)) := List.mem_map_of_mem hrm
      rw [hgs] at this
      exact prs_mem this
    have hq : (r.q, SO.tp [.int (r.a : Nat) r.ta, .int (r.b : Nat) r.tb]) ∈ l := hgT _ (List.mem_map.mpr ⟨r, hrm, rfl⟩)
    refine assign_tup R.none H (t := r.q) (by tb_start) ?_
    clear H; intro s H
    refine ao_cons (wpAny_assign_Name ?_)
    k_upd
    refine ao_cons (wpAny_assign_Name ?_)
    k_upd
    refine ao_nil ?_
    refine x_one (st := .AugAssign (.Subscript _ _ _) _ _ _) (wpAny_AugAssign_SubscriptAny ?_)
    k_fold
    refine ev_List ?_
    refine sp_cons ?_
    k_fold
    refine sp_cons ?_
    k_fold
    refine sp_nil ?_
    refine new_list H (by show 2 ≤ sizeLine; decide) ?_
    clear H; intro p s H
    one_item
    refine c_next (ns := ns) (vs := vs) (k := k') (t := t') (sl := sl) (lf := fun so' => (p, .ls [.int (r.a : Nat) r.ta, .int (r.b : Nat) r.tb]) :: (it, soList D (i + 1)) :: (S, .lw (iv zs')) :: (st, so') :: (L, .ns (lwF sc (some (.ref st)) (some (.int (r.b : Nat) r.tb)) (some (.int (r.a : Nat) r.ta)) (some (.ref D)) ot so G la va wo ga mo)) :: l) (R.less (by decide)) T (fun so' => by tb_start) hi hlen hk' (by decide) (fun so' => .tail (.tail (.tail .head))) H ?_
    clear H; intro x tx t2 s h0 h2 H
    obtain ⟨c, tc, hc, hcn⟩ : ∃ (c : Nat) (tc : Tok), [Value.int (r.a : Nat) r.ta, .int (r.b : Nat) r.tb][x.toNat]? = some (.int (c : Nat) tc) ∧ c < n := by
      have : x = 0 ∨ x = 1 := by omega
      rcases this with rfl | rfl
      · exact ⟨r.a, r.ta, rfl, by omega⟩
      · exact ⟨r.b, r.tb, rfl, by omega⟩
    refine sub_list (H.isl (vs := [.int (r.a : Nat) r.ta, .int (r.b : Nat) r.tb]) (by tb_start)) h0 hc (by simp) ?_
    have hcl : c < zs'.length := by omega
    refine get_list (vs := iv zs') (H.islw (by tb_start)) (by omega) (iv_at hcl) (by rw [iv_len]; omega) ?_
    k_fold
    refine op_iadd H ?_
    clear H; intro t3 s H
    refine set_lw (vs := iv zs') H (by omega) (by rw [iv_len]; omega) (by rw [iv_len]; omega) (.tail (.tail .head)) ?_
    clear H; intro s H
    have e1 : (iv zs').set ((c : Int).toNat) (.int (zs'[c].1 + 1) t3) = iv (zs'.set c (zs'[c].1 + 1, t3)) := iv_set _ _ _ _
    rw [e1] at H
    have hzc := hb' zs'[c] (List.getElem_mem hcl)
    have hlz : (zs'.set c (zs'[c].1 + 1, t3)).length = n := by rw [List.length_set]; exact hz'
    exact ⟨_, ⟨zs'.set c (zs'[c].1 + 1, t3), k' + 1, t2, some (.int (r.b : Nat) r.tb), some (.int (r.a : Nat) r.ta), hlz, hb'.set (m' := ((i + 1 : Nat) : Int)) (by omega) (by omega) (by omega), by omega, rfl⟩, H.sel (by k_sub)⟩
  · rintro l' s ⟨zs', k', t', b1, a1, hz', hb', hk', rfl⟩ H
    refine x_nil ?_
    rw [hgl] at hb'
    exact h zs' k' t' b1 a1 s hz' hb' hk' H
end
end Mine

-- ML5
namespace Mine
open PySem PySem.W PySem.Calls PyProof.Rows Builtin Builtin.ObjectAttr

local macro_rules | `(tactic| tb_start) => `(tactic| first | with_reducible exact List.mem_cons_self | with_reducible assumption | (with_reducible apply List.mem_cons_of_mem; tb_start) | (with_reducible apply List.mem_append_left; tb_start) | (with_reducible apply List.mem_append_right; tb_start) | with_reducible exact g_x | with_reducible exact g_dx | with_reducible exact g_gr | with_reducible exact g_nd | with_reducible exact g_ad | with_reducible exact g_pr)
local macro_rules | `(tactic| tb_rel) => `(tactic| first | with_reducible exact Upd1.head | with_reducible exact Put.head | (with_reducible apply Upd1.tail; tb_rel) | (with_reducible apply Put.tail; tb_rel) | (with_reducible apply Upd1.right; tb_rel) | (with_reducible apply Upd1.append; tb_rel))
local macro_rules | `(tactic| k_ne) => `(tactic| first | (with_reducible apply Apart.head; tb_start) | (with_reducible apply Apart.head'; tb_start) | (with_reducible apply Apart.tail; k_ne))
local macro_rules | `(tactic| k_same) => `(tactic| first | with_reducible exact Split.head | (with_reducible apply Split.tail; k_same) | (with_reducible apply Split.skip; k_same))
local macro_rules | `(tactic| k_same2) => `(tactic| first | with_reducible exact SplitL.head | with_reducible exact SplitL.last | (with_reducible apply SplitL.tail; k_same2) | (with_reducible apply SplitL.skip; k_same2))
local macro_rules | `(tactic| k_sub) => `(tactic| first | with_reducible exact Sel.nil | with_reducible exact Sel.all | (with_reducible refine Sel.cons (by k_same) ?_; k_sub) | (with_reducible refine Sel.app (by k_same2) ?_; k_sub) | (with_reducible exact Sel.one (by k_same2)))
set_option hygiene false in
local macro_rules | `(tactic| k_flat) => `(tactic| simp only [frameOf, List.map_cons, List.map_nil, List.cons_append, List.nil_append, List.append_nil] at H)
set_option hygiene false in
local macro_rules | `(tactic| tb_lt) => `(tactic| first
  | (with_reducible refine ev_loc F H (by tb_start) (by tb_start) (by tb_start) ?_)
  | (with_reducible refine ev_int H ?_; clear H; intro _ s H)
  | (with_reducible refine ev_str H ?_; clear H; intro _ s H)
  | (with_reducible refine ev_none ?_)
  | (with_reducible refine ev_bool ?_)
  | (with_reducible refine ev_cel F H (by tb_start) (by tb_start) ?_)
  | (with_reducible refine Attribute_any_ ?_)
  | (with_reducible refine Subscript_ ?_)
  | (with_reducible refine wpAny_BinOp ?_)
  | (with_reducible refine wpAny_Compare1 ?_)
  | ((with_reducible show wpAny _ _ (getAttr _ _ _) _ _ _); refine at_own H T.X (H.inst (by tb_start) (by tb_start)) T.o__adj_395 (by rfl) (by rfl) ?_; clear H; intro s H)
  | ((with_reducible show wpAny _ _ (getAttr _ _ _) _ _ _); refine at_own H T.X (H.inst (by tb_start) (by tb_start)) T.o__node_395 (by rfl) (by rfl) ?_; clear H; intro s H)
  | ((with_reducible show wpAny _ _ (getAttr _ _ _) _ _ _); refine at_own H T.X (H.inst (by tb_start) (by tb_start)) T.o__pred_395 (by rfl) (by rfl) ?_; clear H; intro s H)
  | ((with_reducible show wpAny _ _ (getAttr _ _ _) _ _ _); refine at_own H T.X (H.inst (by tb_start) (by tb_start)) T.o_graph_395 (by rfl) (by rfl) ?_; clear H; intro s H))
set_option hygiene false in
local macro_rules | `(tactic| k_upd) => `(tactic| (refine st_loc2 F H (by tb_start) (by tb_start) (by tb_rel) (by tb_rel) ?_; clear H; intro s H))
set_option hygiene false in
local macro_rules | `(tactic| k_fold) => `(tactic| (repeat tb_lt))

set_option hygiene false in
local macro_rules | `(tactic| one_item) => `(tactic| (refine ev_call_name ?_; refine ev_glo F H T.toTp (by tb_start) T.gl__law_next ?_; refine call_pos ?_; refine sp_cons ?_; k_fold; refine sp_cons ?_; k_fold; refine sp_nil ⟨(T.p_next.keeps H.keep).keeper, call_of ?_⟩))

section
variable {w : World} {A : Around} {B : Bs} {l l' : Ledger} {s : Shared} {mg mb : Str → Option Value} {K : Frag} {v : Value} {env : Env} {a : Addr}
theorem b_shuffle {n : Nat} {tn : Tok} {m : Nat} {L fa cR chd cco ck csc cn S st sl : Addr} {cd : Value} {kv sc b0 a0 gm ot so G la va wo ga mo : Option Value} {zs : List (Int × Tok)} {vs : List Value} {ns : List Int} {k : Int} {t : Tok} {Q : Flow → Shared → Prop} (R : Room A 4) (T : KP mg mb K B.h) (hn : n ≤ 5) (hn1 : 1 ≤ n) (hz : zs.length = n) (hb : Bd m zs) (hm : m ≤ 20)
    (hi : IntsAre vs ns) (hlen : vs.length ≤ 63) (hk : 0 ≤ k) (hsl : (sl, .ls vs) ∈ l) (hcs : (csc, .cell (some (.ref S))) ∈ l) (hcn : (cn, .cell (some (.int (n : Nat) tn))) ∈ l)
    (H : St prog w B ((S, .lw (iv zs)) :: (st, .lw [.ref sl, .int k t]) :: (ck, .cell kv) :: (L, .ns (lwF sc (some (.ref st)) b0 a0 gm ot so G la va wo ga mo)) :: l) s)
    (h : ∀ zs' k' t' kv' ot' s', zs'.length = n → Bd ((m + 3 : Nat) : Int) zs' → 0 ≤ k' → St prog w B ((S, .lw (iv zs')) :: (st, .lw [.ref sl, .int k' t']) :: (ck, .cell kv') :: (L, .ns (lwF sc (some (.ref st)) b0 a0 gm ot' so G la va wo ga mo)) :: l) s' → Q .next s') :
    WP prog w A (exec (nthS (bodyS dLaw) 5) (lwEnv L fa cd cR chd cco ck csc cn)) Q s := by
  have F := fm_lw L fa cd cR chd cco ck csc cn
  show WP prog w A (exec (.For (.Name _ _) _ _ _ _) _) Q s
  refine x_for ?_
  refine ev_call_name ?_
  refine ev_blt F H T.toTp (by tb_start) T.gb_range rfl (by decide) ?_
  refine call_pos ?_
  refine sp_cons ?_
  one_item
  refine c_next (ns := ns) (vs := vs) (k := k) (t := t) (sl := sl) (lf := fun so' => (S, .lw (iv zs)) :: (st, so') :: (ck, .cell kv) :: (L, .ns (lwF sc (some (.ref st)) b0 a0 gm ot so G la va wo ga mo)) :: l) (R.less (by decide)) T (fun so' => by tb_start) hi hlen hk (by decide) (fun so' => .tail .head) H ?_
  clear H; intro x tx t2 s h0 h4 H
  obtain ⟨x, rfl⟩ : ∃ y : Nat, x = (y : Int) := ⟨x.toNat, by omega⟩
  refine sp_nil ⟨keeps_type, ?_⟩
  refine range1 H ?_
  clear H; intro rg s H
  refine iter_range (n := x) H (by tb_start) (by omega) ?_
  clear H; intro it s H
  replace H : St prog w B ((it, soRange x 0) :: ((S, .lw (iv zs)) :: (st, .lw [.ref sl, .int (k + 1) t2]) :: (ck, .cell kv) :: (L, .ns (lwF sc (some (.ref st)) b0 a0 gm ot so G la va wo ga mo)) :: l)) s := H.sel (by k_sub)
  refine for_it (n := x) (it_range R.none) (fun i l' => ∃ zs' k' t' kv' ot', zs'.length = n ∧ Bd ((m + i : Nat) : Int) zs' ∧ 0 ≤ k' ∧ l' = (S, .lw (iv zs')) :: (st, .lw [.ref sl, .int k' t']) :: (ck, .cell kv') :: (L, .ns (lwF sc (some (.ref st)) b0 a0 gm ot' so G la va wo ga mo)) :: l) (fun _ _ _ => trivial) H ⟨zs, k + 1, t2, _, _, hz, hb, by omega, rfl⟩ ?_ ?_
  · rintro i v ex l' s hi' ⟨⟨ti, rfl⟩, rfl⟩ ⟨zs', k', t', kv', ot', hz', hb', hk', rfl⟩ H
    simp only [List.nil_append] at H
    refine wpAny_assign_Name ?_
    refine st_cel F H (c := ck) (by tb_start) (by kernel_rfl) (by tb_rel) ?_
    clear H; intro s H
    -- scores[_law_next(state, n)] += 1
    refine x_cons (st := .AugAssign (.Subscript _ _ _) _ _ _) (wpAny_AugAssign_SubscriptAny ?_)
    k_fold
    one_item
    refine c_next (ns := ns) (vs := vs) (k := k') (t := t') (sl := sl) (lf := fun so' => (it, soRange x (i + 1)) :: (S, .lw (iv zs')) :: (st, so') :: (ck, .cell (some (.int (i : Nat) ti))) :: (L, .ns (lwF sc (some (.ref st)) b0 a0 gm ot' so G la va wo ga mo)) :: l) (R.less (by decide)) T (fun so' => by tb_start) hi hlen hk' (by omega) (fun so' => .tail (.tail .head)) H ?_
    clear H; intro c tc t3 s hc0 hcn' H
    obtain ⟨c, rfl⟩ : ∃ y : Nat, c = (y : Int) := ⟨c.toNat, by omega⟩
    have hcl : c < zs'.length := by omega
    refine get_list (vs := iv zs') (H.islw (by tb_start)) (by omega) (iv_at hcl) (by rw [iv_len]; omega) ?_
    k_fold
    refine op_iadd H ?_
    clear H; intro t4 s H
    refine set_lw (vs := iv zs') H (by omega) (by rw [iv_len]; omega) (by rw [iv_len]; omega) (.tail .head) ?_
    clear H; intro s H
    have hzc := hb' zs'[c] (List.getElem_mem hcl)
    have e1 : (iv zs').set ((c : Int).toNat) (.int (zs'[c].1 + 1) t4) = iv (zs'.set c (zs'[c].1 + 1, t4)) := iv_set _ _ _ _
    rw [e1] at H
    have hb2 : Bd ((m + (i + 1) : Nat) : Int) (zs'.set c (zs'[c].1 + 1, t4)) := hb'.set (by omega) (by omega) (by omega)
    have hz2 : (zs'.set c (zs'[c].1 + 1, t4)).length = n := by rw [List.length_set]; exact hz'
    generalize zs'.set c (zs'[c].1 + 1, t4) = z2 at *
    -- other = _law_next(state, n)
    refine x_cons (st := .Assign [.Name _ _] _ _) (wpAny_Assign_Name ?_)
    one_item
    refine c_next (ns := ns) (vs := vs) (k := k' + 1) (t := t3) (sl := sl) (lf := fun so' => (it, soRange x (i + 1)) :: (S, .lw (iv z2)) :: (st, so') :: (ck, .cell (some (.int (i : Nat) ti))) :: (L, .ns (lwF sc (some (.ref st)) b0 a0 gm ot' so G la va wo ga mo)) :: l) (R.less (by decide)) T (fun so' => by tb_start) hi hlen (by omega) (by omega) (fun so' => .tail (.tail .head)) H ?_
    clear H; intro d td t5 s hd0 hdn H
    obtain ⟨d, rfl⟩ : ∃ y : Nat, d = (y : Int) := ⟨d.toNat, by omega⟩
    have hdl : d < z2.length := by omega
    k_upd
    -- scores[other] -= min(1, scores[other])
    refine x_one (st := .AugAssign (.Subscript _ _ _) _ _ _) (wpAny_AugAssign_SubscriptAny ?_)
    k_fold
    refine get_list (vs := iv z2) (H.islw (by tb_start)) (by omega) (iv_at hdl) (by rw [iv_len]; omega) ?_
    refine ev_call_name ?_
    refine ev_blt F H T.toTp (by tb_start) T.gb_min rfl (by decide) ?_
    refine call_pos ?_
    refine sp_cons ?_
    k_fold
    refine sp_cons ?_
    k_fold
    refine sub_list (vs := iv z2) (H.islw (by tb_start)) (by omega) (iv_at hdl) (by rw [iv_len]; omega) ?_
    refine sp_nil ⟨keeps_blt, ?_⟩
    refine min2 R.none H ?_
    clear H; intro t6 s H
    refine op_isub H ?_
    clear H; intro t7 s H
    refine set_lw (vs := iv z2) H (by omega) (by rw [iv_len]; omega) (by rw [iv_len]; omega) (.tail .head) ?_
    clear H; intro s H
    have hzd := hb2 z2[d] (List.getElem_mem hdl)
    have e2 : (iv z2).set ((d : Int).toNat) (.int (z2[d].1 - min 1 z2[d].1) t7) = iv (z2.set d (z2[d].1 - min 1 z2[d].1, t7)) := iv_set _ _ _ _
    rw [e2] at H
    have hb3 : Bd ((m + (i + 1) : Nat) : Int) (z2.set d (z2[d].1 - min 1 z2[d].1, t7)) := hb2.set (by omega) (by omega) (by omega)
    have hz3 : (z2.set d (z2[d].1 - min 1 z2[d].1, t7)).length = n := by rw [List.length_set]; exact hz2
    exact ⟨_, ⟨_, k' + 1 + 1, t5, _, _, hz3, hb3, by omega, rfl⟩, H⟩
  · rintro l' s ⟨zs', k', t', kv', ot', hz', hb', hk', rfl⟩ H
    refine x_nil ?_
    exact h zs' k' t' kv' ot' s hz' (fun z hz => by have := hb' z hz; omega) hk' H
end
end Mine

-- ML6
namespace Mine
open PySem PySem.W PySem.Calls PyProof.Rows Builtin Builtin.ObjectAttr

local macro_rules | `(tactic| tb_start) => `(tactic| first | with_reducible exact List.mem_cons_self | with_reducible assumption | (with_reducible apply List.mem_cons_of_mem; tb_start) | (with_reducible apply List.mem_append_left; tb_start) | (with_reducible apply List.mem_append_right; tb_start) | with_reducible exact g_x | with_reducible exact g_dx | with_reducible exact g_gr | with_reducible exact g_nd | with_reducible exact g_ad | with_reducible exact g_pr)
local macro_rules | `(tactic| tb_rel) => `(tactic| first | with_reducible exact Upd1.head | with_reducible exact Put.head | (with_reducible apply Upd1.tail; tb_rel) | (with_reducible apply Put.tail; tb_rel) | (with_reducible apply Upd1.right; tb_rel) | (with_reducible apply Upd1.append; tb_rel))
local macro_rules | `(tactic| k_ne) => `(tactic| first | (with_reducible apply Apart.head; tb_start) | (with_reducible apply Apart.head'; tb_start) | (with_reducible apply Apart.tail; k_ne))
local macro_rules | `(tactic| k_same) => `(tactic| first | with_reducible exact Split.head | (with_reducible apply Split.tail; k_same) | (with_reducible apply Split.skip; k_same))
local macro_rules | `(tactic| k_same2) => `(tactic| first | with_reducible exact SplitL.head | with_reducible exact SplitL.last | (with_reducible apply SplitL.tail; k_same2) | (with_reducible apply SplitL.skip; k_same2))
local macro_rules | `(tactic| k_sub) => `(tactic| first | with_reducible exact Sel.nil | with_reducible exact Sel.all | (with_reducible refine Sel.cons (by k_same) ?_; k_sub) | (with_reducible refine Sel.app (by k_same2) ?_; k_sub) | (with_reducible exact Sel.one (by k_same2)))
set_option hygiene false in
local macro_rules | `(tactic| k_flat) => `(tactic| simp only [frameOf, List.map_cons, List.map_nil, List.cons_append, List.nil_append, List.append_nil] at H)
set_option hygiene false in
local macro_rules | `(tactic| tb_lt) => `(tactic| first
  | (with_reducible refine ev_loc F H (by tb_start) (by tb_start) (by tb_start) ?_)
  | (with_reducible refine ev_int H ?_; clear H; intro _ s H)
  | (with_reducible refine ev_str H ?_; clear H; intro _ s H)
  | (with_reducible refine ev_none ?_)
  | (with_reducible refine ev_bool ?_)
  | (with_reducible refine ev_cel F H (by tb_start) (by tb_start) ?_)
  | (with_reducible refine Attribute_any_ ?_)
  | (with_reducible refine Subscript_ ?_)
  | (with_reducible refine wpAny_BinOp ?_)
  | (with_reducible refine wpAny_Compare1 ?_)
  | ((with_reducible show wpAny _ _ (getAttr _ _ _) _ _ _); refine at_own H T.X (H.inst (by tb_start) (by tb_start)) T.o__adj_395 (by rfl) (by rfl) ?_; clear H; intro s H)
  | ((with_reducible show wpAny _ _ (getAttr _ _ _) _ _ _); refine at_own H T.X (H.inst (by tb_start) (by tb_start)) T.o__node_395 (by rfl) (by rfl) ?_; clear H; intro s H)
  | ((with_reducible show wpAny _ _ (getAttr _ _ _) _ _ _); refine at_own H T.X (H.inst (by tb_start) (by tb_start)) T.o__pred_395 (by rfl) (by rfl) ?_; clear H; intro s H)
  | ((with_reducible show wpAny _ _ (getAttr _ _ _) _ _ _); refine at_own H T.X (H.inst (by tb_start) (by tb_start)) T.o_graph_395 (by rfl) (by rfl) ?_; clear H; intro s H))
set_option hygiene false in
local macro_rules | `(tactic| k_upd) => `(tactic| (refine st_loc2 F H (by tb_start) (by tb_start) (by tb_rel) (by tb_rel) ?_; clear H; intro s H))
set_option hygiene false in
local macro_rules | `(tactic| k_fold) => `(tactic| (repeat tb_lt))

set_option hygiene false in
local macro_rules | `(tactic| one_item) => `(tactic| (refine ev_call_name ?_; refine ev_glo F H T.toTp (by tb_start) T.gl__law_next ?_; refine call_pos ?_; refine sp_cons ?_; k_fold; refine sp_cons ?_; k_fold; refine sp_nil ⟨(T.p_next.keeps H.keep).keeper, call_of ?_⟩))

def scF (zs : List (Int × Tok)) (k : Nat) : Int := ((zs[k]?).map (·.1)).getD 0
theorem scF_at {zs : List (Int × Tok)} {k : Nat} (h : k < zs.length) : scF zs k = zs[k].1 := by unfold scF; rw [List.getElem?_eq_getElem h]; rfl
def tnOf (n : Nat) (gs : List Gm) (zs : List (Int × Tok)) : Tn := ⟨n, gs.length, fun j => ((gs[j]?).map (·.a)).getD 0, fun j => ((gs[j]?).map (·.b)).getD 0, scF zs⟩
/-- the edges laid so far -/
def preE (t : Tn) (i j : Nat) : List (Nat × Nat × Option Int) := (List.range i).map (fun k => (k, t.snk, some (t.sc k))) ++ (List.range j).flatMap fun j => [(t.src, t.n + j, some 1), (t.n + j, t.a j, none), (t.n + j, t.b j, none)]
theorem preE_succ (t : Tn) (i : Nat) : preE t (i + 1) 0 = preE t i 0 ++ [(i, t.snk, some (t.sc i))] := by unfold preE; rw [List.range_succ, List.map_append]; simp
theorem preE_game (t : Tn) (i j : Nat) : preE t i (j + 1) = ((preE t i j ++ [(t.src, t.n + j, some 1)]) ++ [(t.n + j, t.a j, none)]) ++ [(t.n + j, t.b j, none)] := by
  unfold preE; rw [List.range_succ, List.flatMap_append]; simp [List.append_assoc]
theorem mem_preE {t : Tn} {i j : Nat} {x : Nat × Nat × Option Int} : x ∈ preE t i j ↔ (∃ k, k < i ∧ x = (k, t.snk, some (t.sc k))) ∨ ∃ k, k < j ∧ (x = (t.src, t.n + k, some 1) ∨ x = (t.n + k, t.a k, none) ∨ x = (t.n + k, t.b k, none)) := by
  unfold preE
  simp only [List.mem_append, List.mem_map, List.mem_range, List.mem_flatMap, List.mem_cons, List.not_mem_nil, or_false]
  constructor
  · rintro (⟨k, hk, rfl⟩ | ⟨j, hj, hx⟩)
    · exact .inl ⟨k, hk, rfl⟩
    · exact .inr ⟨j, hj, hx⟩
  · rintro (⟨k, hk, rfl⟩ | ⟨j, hj, hx⟩)
    · exact .inl ⟨k, hk, rfl⟩
    · exact .inr ⟨j, hj, hx⟩
theorem preE_len (t : Tn) (i j : Nat) : (preE t i j).length = i + 3 * j := by
  unfold preE
  rw [List.length_append, List.length_map, List.length_range]
  congr 1
  induction j with
  | zero => rfl
  | succ j ih => rw [List.range_succ, List.flatMap_append, List.length_append, ih]; simp; omega
theorem k3_len {es : List Ed} {T : List (Nat × Nat × Option Int)} (h : es.map k3 = T) : es.length = T.length := by rw [← h, List.length_map]
section
variable {w : World} {A : Around} {B : Bs} {l l' : Ledger} {s : Shared} {mg mb : Str → Option Value} {K : Frag} {v : Value} {env : Env} {a : Addr} {g : GA}
theorem b_sinks {n : Nat} {tn ts : Tok} {N : Nat} {nA aA pA : Nat → Addr} {L fa cR chd cco ck csc cn S : Addr} {cd : Value} {kv sc st b0 a0 gm ot la va wo ga mo : Option Value} {zs : List (Int × Tok)} {gs : List Gm} {Q : Flow → Shared → Prop} (R : Room A 11) (T : KP mg mb K B.h) (hn : n ≤ 5) (hg : gs.length ≤ 20) (hz : zs.length = n) (hb : Bd 1000 zs) (hN : N = n + gs.length + 2)
    (hcs : (csc, .cell (some (.ref S))) ∈ l) (hcn : (cn, .cell (some (.int (n : Nat) tn))) ∈ l) (hS : (S, .lw (iv zs)) ∈ l)
    (H : St prog w B ((ck, .cell kv) :: (L, .ns (lwF sc st b0 a0 gm ot (some (.int ((n + gs.length : Nat) : Int) ts)) (some (.ref g.x)) la va wo ga mo)) :: (gl g (mkG N nA aA pA []) [] ++ l)) s)
    (h : ∀ es kv' s', es.map k3 = preE (tnOf n gs zs) n 0 → (∀ e ∈ es, KvOk e) → St prog w B ((ck, .cell kv') :: (L, .ns (lwF sc st b0 a0 gm ot (some (.int ((n + gs.length : Nat) : Int) ts)) (some (.ref g.x)) la va wo ga mo)) :: (gl g (mkG N nA aA pA es) [] ++ l)) s' → Q .next s') :
    WP prog w A (exec (nthS (bodyS dLaw) 9) (lwEnv L fa cd cR chd cco ck csc cn)) Q s := by
  have F := fm_lw L fa cd cR chd cco ck csc cn
  show WP prog w A (exec (.For (.Name _ _) _ _ _ _) _) Q s
  refine x_for ?_
  refine ev_call_name ?_
  refine ev_blt F H T.toTp (by tb_start) T.gb_range rfl (by decide) ?_
  refine call_pos ?_
  refine sp_cons ?_
  k_fold
  refine sp_nil ⟨keeps_type, ?_⟩
  refine range1 H ?_
  clear H; intro rg s H
  refine iter_range (n := n) H (by tb_start) (by omega) ?_
  clear H; intro it s H
  replace H : St prog w B ((it, soRange n 0) :: ((ck, .cell kv) :: (L, .ns (lwF sc st b0 a0 gm ot (some (.int ((n + gs.length : Nat) : Int) ts)) (some (.ref g.x)) la va wo ga mo)) :: (gl g (mkG N nA aA pA []) [] ++ l))) s := H.sel (by k_sub)
  refine for_it (n := n) (it_range R.none) (fun i l' => ∃ es kv', es.map k3 = preE (tnOf n gs zs) i 0 ∧ (∀ e ∈ es, KvOk e) ∧ l' = (ck, .cell kv') :: (L, .ns (lwF sc st b0 a0 gm ot (some (.int ((n + gs.length : Nat) : Int) ts)) (some (.ref g.x)) la va wo ga mo)) :: (gl g (mkG N nA aA pA es) [] ++ l)) (fun _ _ _ => trivial) H ⟨[], _, rfl, (fun e he => by cases he), rfl⟩ ?_ ?_
  · clear H
    rintro i v ex l' s hi' ⟨⟨ti, rfl⟩, rfl⟩ ⟨es, kv', hes, hkv, rfl⟩ H
    simp only [List.nil_append] at H
    refine wpAny_assign_Name ?_
    refine st_cel F H (c := ck) (by tb_start) (by kernel_rfl) (by tb_rel) ?_
    clear H; intro s H
    refine x_one (st := .Expr _ _) (wpAny_Expr_any ?_)
    refine ev_meth ?_
    k_fold
    intro pl
    refine gm_inst (T.X.keeps H.keep) (H.inst (kvs := gdict g) (by tb_start) (by tb_start)) T.m_add_edge (by rfl) ?_
    refine call_kwP ?_
    refine sp_cons ?_
    k_fold
    refine sp_cons ?_
    k_fold
    refine op_add H ?_
    clear H; intro t1 s H
    refine sp_nil ?_
    refine kw_cons ?_
    k_fold
    have hil : i < zs.length := by omega
    refine sub_list (vs := iv zs) (H.islw (by tb_start)) (by omega) (iv_at hil) (by rw [iv_len]; omega) ?_
    refine kw_nil ⟨(T.f_add_edge.keeps H.keep).keeper, call_of ?_⟩
    have e1 : ((n + gs.length : Nat) : Int) + 1 = ((n + gs.length + 1 : Nat) : Int) := by omega
    rw [e1]
    have H2 : St prog w B (gl g (mkG N nA aA pA es) [] ++ ((it, soRange n (i + 1)) :: (ck, .cell (some (.int (i : Nat) ti))) :: (L, .ns (lwF sc st b0 a0 gm ot (some (.int ((n + gs.length : Nat) : Int) ts)) (some (.ref g.x)) la va wo ga mo)) :: l)) s := H.sel (by k_sub)
    clear H
    have hlen := k3_len hes
    rw [preE_len] at hlen
    refine c_add_edge1 (a := g) (N := N) (es := es) (u := i) (v := n + gs.length + 1) (R.less (by decide)) T (by omega) (by omega) (by omega) (by omega) ?_ H2 ?_
    · rintro e he ⟨h1, h2⟩
      have hm : k3 e ∈ preE (tnOf n gs zs) i 0 := by rw [← hes]; exact List.mem_map_of_mem he
      rcases mem_preE.mp hm with ⟨k, hk, q⟩ | ⟨j, hj, _⟩
      · have : e.u = k := congrArg (·.1) q
        omega
      · exact absurd hj (Nat.not_lt_zero _)
    · clear H2; intro d s H
      refine ⟨_, ⟨_, some (.int (i : Nat) ti), ?_, ?_, rfl⟩, H.sel (by k_sub)⟩
      · rw [preE_succ, List.map_append, hes]
        congr 1
        show [(i, n + gs.length + 1, some zs[i].1)] = [(i, n + gs.length + 1, some (scF zs i))]
        rw [scF_at hil]
      · intro e he
        rcases List.mem_append.mp he with he | he
        · exact hkv e he
        · rw [List.mem_singleton] at he; subst he
          have := hb zs[i] (List.getElem_mem hil)
          exact .inr ⟨_, _, rfl, this.1, this.2⟩
  · clear H
    rintro l' s ⟨es, kv', hes, hkv, rfl⟩ H
    refine x_nil ?_
    exact h es kv' s hes hkv H
end
end Mine

-- ML7
namespace Mine
open PySem PySem.W PySem.Calls PyProof.Rows Builtin Builtin.ObjectAttr

local macro_rules | `(tactic| tb_start) => `(tactic| first | with_reducible exact List.mem_cons_self | with_reducible assumption | (with_reducible apply List.mem_cons_of_mem; tb_start) | (with_reducible apply List.mem_append_left; tb_start) | (with_reducible apply List.mem_append_right; tb_start) | with_reducible exact g_x | with_reducible exact g_dx | with_reducible exact g_gr | with_reducible exact g_nd | with_reducible exact g_ad | with_reducible exact g_pr)
local macro_rules | `(tactic| tb_rel) => `(tactic| first | with_reducible exact Upd1.head | with_reducible exact Put.head | (with_reducible apply Upd1.tail; tb_rel) | (with_reducible apply Put.tail; tb_rel) | (with_reducible apply Upd1.right; tb_rel) | (with_reducible apply Upd1.append; tb_rel))
local macro_rules | `(tactic| k_ne) => `(tactic| first | (with_reducible apply Apart.head; tb_start) | (with_reducible apply Apart.head'; tb_start) | (with_reducible apply Apart.tail; k_ne))
local macro_rules | `(tactic| k_same) => `(tactic| first | with_reducible exact Split.head | (with_reducible apply Split.tail; k_same) | (with_reducible apply Split.skip; k_same))
local macro_rules | `(tactic| k_same2) => `(tactic| first | with_reducible exact SplitL.head | with_reducible exact SplitL.last | (with_reducible apply SplitL.tail; k_same2) | (with_reducible apply SplitL.skip; k_same2))
local macro_rules | `(tactic| k_sub) => `(tactic| first | with_reducible exact Sel.nil | with_reducible exact Sel.all | (with_reducible refine Sel.cons (by k_same) ?_; k_sub) | (with_reducible refine Sel.app (by k_same2) ?_; k_sub) | (with_reducible exact Sel.one (by k_same2)))
set_option hygiene false in
local macro_rules | `(tactic| k_flat) => `(tactic| simp only [frameOf, List.map_cons, List.map_nil, List.cons_append, List.nil_append, List.append_nil] at H)
set_option hygiene false in
local macro_rules | `(tactic| tb_lt) => `(tactic| first
  | (with_reducible refine ev_loc F H (by tb_start) (by tb_start) (by tb_start) ?_)
  | (with_reducible refine ev_int H ?_; clear H; intro _ s H)
  | (with_reducible refine ev_str H ?_; clear H; intro _ s H)
  | (with_reducible refine ev_none ?_)
  | (with_reducible refine ev_bool ?_)
  | (with_reducible refine ev_cel F H (by tb_start) (by tb_start) ?_)
  | (with_reducible refine Attribute_any_ ?_)
  | (with_reducible refine Subscript_ ?_)
  | (with_reducible refine wpAny_BinOp ?_)
  | (with_reducible refine wpAny_Compare1 ?_)
  | ((with_reducible show wpAny _ _ (getAttr _ _ _) _ _ _); refine at_own H T.X (H.inst (by tb_start) (by tb_start)) T.o__adj_395 (by rfl) (by rfl) ?_; clear H; intro s H)
  | ((with_reducible show wpAny _ _ (getAttr _ _ _) _ _ _); refine at_own H T.X (H.inst (by tb_start) (by tb_start)) T.o__node_395 (by rfl) (by rfl) ?_; clear H; intro s H)
  | ((with_reducible show wpAny _ _ (getAttr _ _ _) _ _ _); refine at_own H T.X (H.inst (by tb_start) (by tb_start)) T.o__pred_395 (by rfl) (by rfl) ?_; clear H; intro s H)
  | ((with_reducible show wpAny _ _ (getAttr _ _ _) _ _ _); refine at_own H T.X (H.inst (by tb_start) (by tb_start)) T.o_graph_395 (by rfl) (by rfl) ?_; clear H; intro s H))
set_option hygiene false in
local macro_rules | `(tactic| k_upd) => `(tactic| (refine st_loc2 F H (by tb_start) (by tb_start) (by tb_rel) (by tb_rel) ?_; clear H; intro s H))
set_option hygiene false in
local macro_rules | `(tactic| k_fold) => `(tactic| (repeat tb_lt))
set_option hygiene false in
local macro_rules | `(tactic| one_item) => `(tactic| (refine ev_call_name ?_; refine ev_glo F H T.toTp (by tb_start) T.gl__law_next ?_; refine call_pos ?_; refine sp_cons ?_; k_fold; refine sp_cons ?_; k_fold; refine sp_nil ⟨(T.p_next.keeps H.keep).keeper, call_of ?_⟩))


section
variable {w : World} {A : Around} {B : Bs} {l l' : Ledger} {s : Shared} {mg mb : Str → Option Value} {K : Frag} {v : Value} {env : Env} {a : Addr} {g : GA} {vs : List Value}
theorem sub_tup {value slice : Expr} {k : Int} {t : Tok} {Q : Value → Shared → Prop} (H : St prog w B l s) (hm : (a, .tp vs) ∈ l) (h0 : 0 ≤ k) (hx : vs[k.toNat]? = some v) (hn : vs.length < 2 ^ 62) (h : Q v s)
    (hs : subscripted slice false (.ref a) (.int k t) = operate [.ref a, .int k t] (getItem (.ref a) (.int k t)) := by with_unfolding_all rfl) : WP prog w A (subscriptTail value slice (.ref a) (.int k t)) Q s := by
  have hlt : k.toNat < vs.length := (List.getElem?_eq_some_iff.mp hx).1
  have hlt2 : k < 2 ^ 63 := by omega
  refine item_tupleT (j := k.toNat) (H.tp hm) (by omega) hlt2 ?_ hx h hs
  have e : (if k < 0 then k + (vs.length : Int) else k) = k := if_neg (by omega)
  have c : (decide (0 ≤ k) && decide (k < (vs.length : Int))) = true := by simp; omega
  unfold seqIndex?
  simp only [e, c, if_true]
theorem b_gedges {n : Nat} {tn ts : Tok} {N : Nat} {nA aA pA : Nat → Addr} {L fa cR chd cco ck csc cn D : Addr} {cd : Value} {kv sc st b0 a0 ot la va wo ga mo : Option Value} {zs : List (Int × Tok)} {gs : List Gm} {es : List Ed} {Q : Flow → Shared → Prop} (R : Room A 11) (T : KP mg mb K B.h) (hn : n ≤ 5) (hg : gs.length ≤ 20) (hgs : ∀ r ∈ gs, r.a < r.b ∧ r.b < n) (hN : N = n + gs.length + 2)
    (hcn : (cn, .cell (some (.int (n : Nat) tn))) ∈ l) (hD : (D, .ls (gmV gs)) ∈ l) (hgT : ∀ p ∈ gmT gs, p ∈ l) (hes : es.map k3 = preE (tnOf n gs zs) n 0) (hkv : ∀ e ∈ es, KvOk e)
    (H : St prog w B ((ck, .cell kv) :: (L, .ns (lwF sc st b0 a0 (some (.ref D)) ot (some (.int ((n + gs.length : Nat) : Int) ts)) (some (.ref g.x)) la va wo ga mo)) :: (gl g (mkG N nA aA pA es) [] ++ l)) s)
    (h : ∀ es kv' s', es.map k3 = preE (tnOf n gs zs) n gs.length → (∀ e ∈ es, KvOk e) → St prog w B ((ck, .cell kv') :: (L, .ns (lwF sc st b0 a0 (some (.ref D)) ot (some (.int ((n + gs.length : Nat) : Int) ts)) (some (.ref g.x)) la va wo ga mo)) :: (gl g (mkG N nA aA pA es) [] ++ l)) s' → Q .next s') :
    WP prog w A (exec (nthS (bodyS dLaw) 10) (lwEnv L fa cd cR chd cco ck csc cn)) Q s := by
  have F := fm_lw L fa cd cR chd cco ck csc cn
  have hgl : (gmV gs).length = gs.length := by simp [gmV]
  show WP prog w A (exec (.For (.Name _ _) _ _ _ _) _) Q s
  refine x_for ?_
  refine ev_call_name ?_
  refine ev_blt F H T.toTp (by tb_start) T.gb_range rfl (by decide) ?_
  refine call_pos ?_
  refine sp_cons ?_
  refine ev_call_name ?_
  refine ev_blt F H T.toTp (by tb_start) T.gb_len rfl (by decide) ?_
  refine call_pos ?_
  refine sp_cons ?_
  k_fold
  refine sp_nil ⟨keeps_blt, ?_⟩
  refine len_ (vs := gmV gs) H (H.isl (by tb_start)) (by omega) ?_
  clear H; intro tl s H
  refine sp_nil ⟨keeps_type, ?_⟩
  refine range1 H ?_
  clear H; intro rg s H
  rw [hgl] at H
  refine iter_range (n := gs.length) H (by tb_start) (by omega) ?_
  clear H; intro it s H
  replace H : St prog w B ((it, soRange gs.length 0) :: ((ck, .cell kv) :: (L, .ns (lwF sc st b0 a0 (some (.ref D)) ot (some (.int ((n + gs.length : Nat) : Int) ts)) (some (.ref g.x)) la va wo ga mo)) :: (gl g (mkG N nA aA pA es) [] ++ l))) s := H.sel (by k_sub)
  refine for_it (n := gs.length) (it_range R.none) (fun i l' => ∃ es kv', es.map k3 = preE (tnOf n gs zs) n i ∧ (∀ e ∈ es, KvOk e) ∧ l' = (ck, .cell kv') :: (L, .ns (lwF sc st b0 a0 (some (.ref D)) ot (some (.int ((n + gs.length : Nat) : Int) ts)) (some (.ref g.x)) la va wo ga mo)) :: (gl g (mkG N nA aA pA es) [] ++ l)) (fun _ _ _ => trivial) H ⟨es, _, hes, hkv, rfl⟩ ?_ ?_
  · clear H hes hkv es
    rintro i v ex l' s hi' ⟨⟨ti, rfl⟩, rfl⟩ ⟨es, kv', hes, hkv, rfl⟩ H
    simp only [List.nil_append] at H
    have hrm : gs[i] ∈ gs := List.getElem_mem hi'
    obtain ⟨hab, hbn⟩ := hgs _ hrm
    have ea : (tnOf n gs zs).a i = gs[i].a := by show ((gs[i]?).map (·.a)).getD 0 = _; rw [List.getElem?_eq_getElem hi']; rfl
    have eb : (tnOf n gs zs).b i = gs[i].b := by show ((gs[i]?).map (·.b)).getD 0 = _; rw [List.getElem?_eq_getElem hi']; rfl
    have hvk : (gmV gs)[i]? = some (.ref gs[i].q) := by unfold gmV; rw [List.getElem?_map, List.getElem?_eq_getElem hi']; rfl
    have hq : (gs[i].q, SO.tp [.int (gs[i].a : Nat) gs[i].ta, .int (gs[i].b : Nat) gs[i].tb]) ∈ l := hgT _ (List.mem_map.mpr ⟨gs[i], hrm, rfl⟩)
    generalize hr : gs[i] = r at *
    have hlen := k3_len hes
    rw [preE_len] at hlen
    refine wpAny_assign_Name ?_
    refine st_cel F H (c := ck) (by tb_start) (by kernel_rfl) (by tb_rel) ?_
    clear H; intro s H
    -- G.add_edge(source, n + k, capacity=1)
    refine x_cons (st := .Expr _ _) (wpAny_Expr_any ?_)
    refine ev_meth ?_
    k_fold
    intro pl
    refine gm_inst (T.X.keeps H.keep) (H.inst (kvs := gdict g) (by tb_start) (by tb_start)) T.m_add_edge (by rfl) ?_
    refine call_kwP ?_
    refine sp_cons ?_
    k_fold
    refine sp_cons ?_
    k_fold
    refine op_add H ?_
    clear H; intro t1 s H
    refine sp_nil ?_
    refine kw_cons ?_
    k_fold
    refine kw_nil ⟨(T.f_add_edge.keeps H.keep).keeper, call_of ?_⟩
    have e1 : ((n : Nat) : Int) + (i : Nat) = ((n + i : Nat) : Int) := by omega
    rw [e1]
    have H2 : St prog w B (gl g (mkG N nA aA pA es) [] ++ ((it, soRange gs.length (i + 1)) :: (ck, .cell (some (.int (i : Nat) ti))) :: (L, .ns (lwF sc st b0 a0 (some (.ref D)) ot (some (.int ((n + gs.length : Nat) : Int) ts)) (some (.ref g.x)) la va wo ga mo)) :: l)) s := H.sel (by k_sub)
    clear H
    have low : ∀ e ∈ es, e.u < n + i ∨ (e.u = n + gs.length ∧ e.v < n + i) := by
      intro e he
      have hm : k3 e ∈ preE (tnOf n gs zs) n i := by rw [← hes]; exact List.mem_map_of_mem he
      rcases mem_preE.mp hm with ⟨k, hk, q⟩ | ⟨k, hk, q | q | q⟩
      · have : e.u = k := congrArg (·.1) q
        omega
      · have e3 : e.u = n + gs.length := congrArg (·.1) q
        have e4 : e.v = n + k := congrArg (·.2.1) q
        omega
      · have e3 : e.u = n + k := congrArg (·.1) q
        omega
      · have e3 : e.u = n + k := congrArg (·.1) q
        omega
    refine c_add_edge1 (a := g) (N := N) (es := es) (u := n + gs.length) (v := n + i) (R.less (by decide)) T (by omega) (by omega) (by omega) (by omega) (fun e he h12 => by have := low e he; omega) H2 ?_
    clear H2; intro d1 s H
    -- G.add_edge(n + k, games[k][0])
    refine x_cons (st := .Expr _ _) (wpAny_Expr_any ?_)
    refine ev_meth ?_
    k_fold
    intro pl
    refine gm_inst (T.X.keeps H.keep) (H.inst (kvs := gdict g) (by tb_start) (by tb_start)) T.m_add_edge (by rfl) ?_
    refine call_pos ?_
    refine sp_cons ?_
    k_fold
    refine op_add H ?_
    clear H; intro t2 s H
    refine sp_cons ?_
    k_fold
    refine sub_list (vs := gmV gs) (H.isl (by tb_start)) (by omega) hvk (by omega) ?_
    k_fold
    refine sub_tup H (vs := [.int (r.a : Nat) r.ta, .int (r.b : Nat) r.tb]) (by tb_start) (by decide) rfl (by simp) ?_
    refine sp_nil ⟨(T.f_add_edge.keeps H.keep).keeper, call_of ?_⟩
    rw [e1]
    refine c_add_edge0 (a := g) (N := N) (u := n + i) (v := r.a) (R.less (by decide)) T (by omega) (by omega) (by omega) (by simp; omega) (fun e he h12 => ?_) H ?_
    · rcases List.mem_append.mp he with he | he
      · have := low e he; omega
      · rw [List.mem_singleton] at he; subst he; simp only at h12; omega
    clear H; intro d2 s H
    -- G.add_edge(n + k, games[k][1])
    refine x_one (st := .Expr _ _) (wpAny_Expr_any ?_)
    refine ev_meth ?_
    k_fold
    intro pl
    refine gm_inst (T.X.keeps H.keep) (H.inst (kvs := gdict g) (by tb_start) (by tb_start)) T.m_add_edge (by rfl) ?_
    refine call_pos ?_
    refine sp_cons ?_
    k_fold
    refine op_add H ?_
    clear H; intro t3 s H
    refine sp_cons ?_
    k_fold
    refine sub_list (vs := gmV gs) (H.isl (by tb_start)) (by omega) hvk (by omega) ?_
    k_fold
    refine sub_tup H (vs := [.int (r.a : Nat) r.ta, .int (r.b : Nat) r.tb]) (by tb_start) (by decide) rfl (by simp) ?_
    refine sp_nil ⟨(T.f_add_edge.keeps H.keep).keeper, call_of ?_⟩
    rw [e1]
    refine c_add_edge0 (a := g) (N := N) (u := n + i) (v := r.b) (R.less (by decide)) T (by omega) (by omega) (by omega) (by simp; omega) (fun e he h12 => ?_) H ?_
    · rcases List.mem_append.mp he with he | he
      · rcases List.mem_append.mp he with he | he
        · have := low e he; omega
        · rw [List.mem_singleton] at he; subst he; simp only at h12; omega
      · rw [List.mem_singleton] at he; subst he; simp only at h12; omega
    clear H; intro d3 s H
    refine ⟨_, ⟨_, some (.int (i : Nat) ti), ?_, ?_, rfl⟩, H.sel (by k_sub)⟩
    · rw [preE_game, List.map_append, List.map_append, List.map_append, hes, ea, eb]
      rfl
    · intro e he
      rcases List.mem_append.mp he with he | he
      · rcases List.mem_append.mp he with he | he
        · rcases List.mem_append.mp he with he | he
          · exact hkv e he
          · rw [List.mem_singleton] at he; subst he
            exact .inr ⟨_, _, rfl, by decide, by decide⟩
        · rw [List.mem_singleton] at he; subst he; exact .inl rfl
      · rw [List.mem_singleton] at he; subst he; exact .inl rfl
  · clear H
    rintro l' s ⟨es, kv', hes, hkv, rfl⟩ H
    refine x_nil ?_
    exact h es kv' s hes hkv H
end
end Mine

-- ML8
namespace Mine
open PySem PySem.W PySem.Calls PyProof.Rows Builtin Builtin.ObjectAttr

local macro_rules | `(tactic| tb_start) => `(tactic| first | with_reducible exact List.mem_cons_self | with_reducible assumption | (with_reducible apply List.mem_cons_of_mem; tb_start) | (with_reducible apply List.mem_append_left; tb_start) | (with_reducible apply List.mem_append_right; tb_start) | with_reducible exact g_x | with_reducible exact g_dx | with_reducible exact g_gr | with_reducible exact g_nd | with_reducible exact g_ad | with_reducible exact g_pr)
local macro_rules | `(tactic| tb_rel) => `(tactic| first | with_reducible exact Upd1.head | with_reducible exact Put.head | (with_reducible apply Upd1.tail; tb_rel) | (with_reducible apply Put.tail; tb_rel) | (with_reducible apply Upd1.right; tb_rel) | (with_reducible apply Upd1.append; tb_rel))
local macro_rules | `(tactic| k_ne) => `(tactic| first | (with_reducible apply Apart.head; tb_start) | (with_reducible apply Apart.head'; tb_start) | (with_reducible apply Apart.tail; k_ne))
local macro_rules | `(tactic| k_same) => `(tactic| first | with_reducible exact Split.head | (with_reducible apply Split.tail; k_same) | (with_reducible apply Split.skip; k_same))
local macro_rules | `(tactic| k_same2) => `(tactic| first | with_reducible exact SplitL.head | with_reducible exact SplitL.last | (with_reducible apply SplitL.tail; k_same2) | (with_reducible apply SplitL.skip; k_same2))
local macro_rules | `(tactic| k_sub) => `(tactic| first | with_reducible exact Sel.nil | with_reducible exact Sel.all | (with_reducible refine Sel.cons (by k_same) ?_; k_sub) | (with_reducible refine Sel.app (by k_same2) ?_; k_sub) | (with_reducible exact Sel.one (by k_same2)))
set_option hygiene false in
local macro_rules | `(tactic| k_flat) => `(tactic| simp only [frameOf, List.map_cons, List.map_nil, List.cons_append, List.nil_append, List.append_nil] at H)
set_option hygiene false in
local macro_rules | `(tactic| tb_lt) => `(tactic| first
  | (with_reducible refine ev_loc F H (by tb_start) (by tb_start) (by tb_start) ?_)
  | (with_reducible refine ev_int H ?_; clear H; intro _ s H)
  | (with_reducible refine ev_str H ?_; clear H; intro _ s H)
  | (with_reducible refine ev_none ?_)
  | (with_reducible refine ev_bool ?_)
  | (with_reducible refine ev_cel F H (by tb_start) (by tb_start) ?_)
  | (with_reducible refine Attribute_any_ ?_)
  | (with_reducible refine Subscript_ ?_)
  | (with_reducible refine wpAny_BinOp ?_)
  | (with_reducible refine wpAny_Compare1 ?_)
  | ((with_reducible show wpAny _ _ (getAttr _ _ _) _ _ _); refine at_own H T.X (H.inst (by tb_start) (by tb_start)) T.o__adj_395 (by rfl) (by rfl) ?_; clear H; intro s H)
  | ((with_reducible show wpAny _ _ (getAttr _ _ _) _ _ _); refine at_own H T.X (H.inst (by tb_start) (by tb_start)) T.o__node_395 (by rfl) (by rfl) ?_; clear H; intro s H)
  | ((with_reducible show wpAny _ _ (getAttr _ _ _) _ _ _); refine at_own H T.X (H.inst (by tb_start) (by tb_start)) T.o__pred_395 (by rfl) (by rfl) ?_; clear H; intro s H)
  | ((with_reducible show wpAny _ _ (getAttr _ _ _) _ _ _); refine at_own H T.X (H.inst (by tb_start) (by tb_start)) T.o_graph_395 (by rfl) (by rfl) ?_; clear H; intro s H))
set_option hygiene false in
local macro_rules | `(tactic| k_upd) => `(tactic| (refine st_loc2 F H (by tb_start) (by tb_start) (by tb_rel) (by tb_rel) ?_; clear H; intro s H))
set_option hygiene false in
local macro_rules | `(tactic| k_fold) => `(tactic| (repeat tb_lt))
set_option hygiene false in
local macro_rules | `(tactic| one_item) => `(tactic| (refine ev_call_name ?_; refine ev_glo F H T.toTp (by tb_start) T.gl__law_next ?_; refine call_pos ?_; refine sp_cons ?_; k_fold; refine sp_cons ?_; k_fold; refine sp_nil ⟨(T.p_next.keeps H.keep).keeper, call_of ?_⟩))


def dLacks : Stmt := nthS (bodyS dLaw) 12
def lHeld : Expr := match nthS (bodyS dLacks) 0 with | .Assign _ e _ => e | _ => .Constant .none 0 ⟨0, 0, 0, 0⟩
/-- the two sums' comprehensions -/
def lIns : Expr := match nthS (bodyS dLacks) 1 with | .Expr (.Call _ [.BinOp (.Call _ [e] _ _) _ _ _] _ _) _ => e | _ => .Constant .none 0 ⟨0, 0, 0, 0⟩
def lWei : Expr := match nthS (bodyS dLacks) 1 with | .Expr (.Call _ [.BinOp _ _ (.Call _ [e] _ _) _] _ _) _ => e | _ => .Constant .none 0 ⟨0, 0, 0, 0⟩
section
variable {w : World} {A : Around} {B : Bs} {l l' : Ledger} {s : Shared} {mg mb : Str → Option Value} {K : Frag} {v : Value} {env : Env} {a : Addr} {vs : List Value} {Q : Value → Shared → Prop}
theorem op_pow2 {k : Nat} {t u : Tok} (hk : k ≤ 100) (H : St prog w B l s) (h : ∀ t s', St prog w B l s' → Q (.int ((2 ^ k : Nat) : Int) t) s') : WP prog w A (binaryOp .Pow (.int 2 t) (.int (k : Nat) u)) Q s := by
  have e : (2 : Int) ^ ((k : Int).toNat) = ((2 ^ k : Nat) : Int) := by rw [Int.toNat_natCast, Int.natCast_pow]; rfl
  refine PyProof.Rows.pow_int_small (by omega) (by omega) (by decide) ?_
  rw [e]
  exact h _ _ (H.tok _)
theorem op_fdiv {i j : Nat} {t u : Tok} (hi : i ≤ 1000) (hj : 0 < j) (hj2 : j ≤ 1000) (H : St prog w B l s) (h : ∀ t s', St prog w B l s' → Q (.int ((i / j : Nat) : Int) t) s') : WP prog w A (binaryOp .FloorDiv (.int (i : Nat) t) (.int (j : Nat) u)) Q s := by
  refine PyProof.Rows.floordiv_int (by omega) ?_ (Or.inl (PyProof.noPylong_small (by omega)))
  rw [show (i : Int).fdiv j = ((i / j : Nat) : Int) from by rw [Int.fdiv_eq_ediv_of_nonneg _ (by omega)]; rfl]
  exact h _ _ (H.tok _)
theorem op_mod2 {i : Nat} {t u : Tok} (H : St prog w B l s) (h : ∀ t s', St prog w B l s' → Q (.int ((i % 2 : Nat) : Int) t) s') : WP prog w A (binaryOp .Mod (.int (i : Nat) t) (.int 2 u)) Q s := by
  refine op_mod H (by decide) fun t s' H' => ?_
  rw [show (i : Int).fmod 2 = ((i % 2 : Nat) : Int) from by rw [Int.fmod_eq_emod_of_nonneg _ (by omega)]; rfl]
  exact h _ _ H'
/-- the bits of a code -/
def bitsT (n code : Nat) : List Int := (List.range n).map fun k => ((code / 2 ^ k % 2 : Nat) : Int)
theorem bitsT_succ (n code : Nat) : bitsT (n + 1) code = bitsT n code ++ [((code / 2 ^ n % 2 : Nat) : Int)] := by unfold bitsT; rw [List.range_succ, List.map_append]; rfl
theorem iv_app (zs : List (Int × Tok)) (x : Int) (t : Tok) : iv (zs ++ [(x, t)]) = iv zs ++ [.int x t] := by unfold iv; rw [List.map_append]; rfl
theorem pow_small {k : Nat} (h : k ≤ 5) : 0 < 2 ^ k ∧ 2 ^ k ≤ 32 := by
  have : k = 0 ∨ k = 1 ∨ k = 2 ∨ k = 3 ∨ k = 4 ∨ k = 5 := by omega
  rcases this with rfl | rfl | rfl | rfl | rfl | rfl <;> decide
theorem ev_held {n code : Nat} {tn tc : Tok} {L fa cR chd cco ck csc cn : Addr} {cd : Value} (R : Room A 3) (T : KP mg mb K B.h) (hn : n ≤ 5) (hc : code ≤ 100) (hcn : (cn, .cell (some (.int (n : Nat) tn))) ∈ l) (hcc : (cco, .cell (some (.int (code : Nat) tc))) ∈ l)
    (H : St prog w B l s) (h : ∀ D hs s', hs.map (·.1) = bitsT n code → St prog w B ((D, .ls (iv hs)) :: l) s' → Q (.ref D) s') :
    WP prog w A (eval lHeld (lwEnv L fa cd cR chd cco ck csc cn)) Q s := by
  have F := fm_lw L fa cd cR chd cco ck csc cn
  refine ev_comp (B := B) [".0", "k"] (by kernel_rfl) (cl := [("code", cco)]) (by kernel_rfl) ?_
  refine ev_call_name ?_
  refine ev_blt F H T.toTp (by tb_start) T.gb_range rfl (by decide) ?_
  refine call_pos ?_
  refine sp_cons ?_
  k_fold
  refine sp_nil ⟨keeps_type, ?_⟩
  refine range1 H ?_
  clear H; intro r s H
  refine iter_range (n := n) H (by tb_start) (by omega) ?_
  clear H; intro it s H
  refine ⟨_, H, fun D C s H => ?_⟩
  show codeAny (model prog w) A (.compStart _ 0 _ _ (compEnvC (scE lHeld) [("code", cco)] C (lwEnv L fa cd cR chd cco ck csc cn))) _ _
  refine comp_start (g := ⟨_, _, _, _⟩) rfl rfl (fun Q hq => iter_self_range R.none H (n := n) (i := 0) (by tb_start) hq) ?_
  have FC := fm_comp (scope := scE lHeld) (osc := scopeS dLaw) (qual := "law") (L := L) (f := fa) (C := C) (cdv := cd) (cl := [("code", cco)]) (cl0 := [("R", cR), ("held", chd), ("code", cco), ("k", ck), ("scores", csc), ("n", cn)]) (ns := [".0", "k"]) (csn := ["code"]) (gs := []) (by kernel_rfl) rfl
  k_flat
  have H1 : St prog w B ((it, soRange n 0) :: (C, .ns [(".0", none), ("k", none)]) :: (D, .ls []) :: l) s := H.sel (by k_sub)
  clear H
  refine comp_loop (n := n) (by rfl) (it_range R.none) (fun i l' => ∃ hs x0 x1, hs.map (·.1) = bitsT i code ∧ l' = (C, .ns [(".0", x0), ("k", x1)]) :: (D, .ls (iv hs)) :: l) (fun _ _ _ => trivial) H1 ⟨[], _, _, rfl, rfl⟩ ?_ ?_
  · clear H1
    rintro i v ex l' s hi ⟨⟨t, rfl⟩, rfl⟩ ⟨hs, x0, x1, hhs, rfl⟩ H
    simp only [List.nil_append] at H
    clear F
    have F := FC
    refine wpAny_assign_Name ?_
    k_upd
    refine wpAny_bind ?_
    obtain ⟨p1, p2⟩ := pow_small (k := i) (by omega)
    k_fold
    refine op_pow2 (by omega) H ?_
    clear H; intro t1 s H
    refine op_fdiv (by omega) p1 (by omega) H ?_
    clear H; intro t2 s H
    k_fold
    refine op_mod2 H ?_
    clear H; intro t3 s H
    have hl : (iv hs).length = i := by rw [iv_len]; have := congrArg List.length hhs; rw [List.length_map] at this; rw [this]; simp [bitsT]
    refine wpAny_bind (call_append (vs := iv hs) H (by rw [hl, sizeLine_eq]; omega) (by tb_rel) ?_)
    clear H; intro s H
    refine wpAny_pure ?_
    refine ⟨_, ⟨hs ++ [(((code / 2 ^ i % 2 : Nat) : Int), t3)], x0, some (.int (i : Nat) t), ?_, rfl⟩, ?_⟩
    · rw [List.map_append, hhs, bitsT_succ]; rfl
    · rw [iv_app]; exact H
  · clear H1
    rintro l' s ⟨hs, x0, x1, hhs, rfl⟩ H
    exact ⟨_, _, H, fun s' H' => h D hs s' hhs H'⟩
end
end Mine

-- ML9
namespace Mine
open PySem PySem.W PySem.Calls PyProof.Rows Builtin Builtin.ObjectAttr

local macro_rules | `(tactic| tb_start) => `(tactic| first | with_reducible exact List.mem_cons_self | with_reducible assumption | (with_reducible apply List.mem_cons_of_mem; tb_start) | (with_reducible apply List.mem_append_left; tb_start) | (with_reducible apply List.mem_append_right; tb_start) | with_reducible exact g_x | with_reducible exact g_dx | with_reducible exact g_gr | with_reducible exact g_nd | with_reducible exact g_ad | with_reducible exact g_pr)
local macro_rules | `(tactic| tb_rel) => `(tactic| first | with_reducible exact Upd1.head | with_reducible exact Put.head | (with_reducible apply Upd1.tail; tb_rel) | (with_reducible apply Put.tail; tb_rel) | (with_reducible apply Upd1.right; tb_rel) | (with_reducible apply Upd1.append; tb_rel))
local macro_rules | `(tactic| k_ne) => `(tactic| first | (with_reducible apply Apart.head; tb_start) | (with_reducible apply Apart.head'; tb_start) | (with_reducible apply Apart.tail; k_ne))
local macro_rules | `(tactic| k_same) => `(tactic| first | with_reducible exact Split.head | (with_reducible apply Split.tail; k_same) | (with_reducible apply Split.skip; k_same))
local macro_rules | `(tactic| k_same2) => `(tactic| first | with_reducible exact SplitL.head | with_reducible exact SplitL.last | (with_reducible apply SplitL.tail; k_same2) | (with_reducible apply SplitL.skip; k_same2))
local macro_rules | `(tactic| k_sub) => `(tactic| first | with_reducible exact Sel.nil | with_reducible exact Sel.all | (with_reducible refine Sel.cons (by k_same) ?_; k_sub) | (with_reducible refine Sel.app (by k_same2) ?_; k_sub) | (with_reducible exact Sel.one (by k_same2)))
set_option hygiene false in
local macro_rules | `(tactic| k_flat) => `(tactic| simp only [frameOf, List.map_cons, List.map_nil, List.cons_append, List.nil_append, List.append_nil] at H)
set_option hygiene false in
local macro_rules | `(tactic| tb_lt) => `(tactic| first
  | (with_reducible refine ev_loc F H (by tb_start) (by tb_start) (by tb_start) ?_)
  | (with_reducible refine ev_int H ?_; clear H; intro _ s H)
  | (with_reducible refine ev_str H ?_; clear H; intro _ s H)
  | (with_reducible refine ev_none ?_)
  | (with_reducible refine ev_bool ?_)
  | (with_reducible refine ev_cel F H (by tb_start) (by tb_start) ?_)
  | (with_reducible refine Attribute_any_ ?_)
  | (with_reducible refine Subscript_ ?_)
  | (with_reducible refine wpAny_BinOp ?_)
  | (with_reducible refine wpAny_Compare1 ?_)
  | ((with_reducible show wpAny _ _ (getAttr _ _ _) _ _ _); refine at_own H T.X (H.inst (by tb_start) (by tb_start)) T.o__adj_395 (by rfl) (by rfl) ?_; clear H; intro s H)
  | ((with_reducible show wpAny _ _ (getAttr _ _ _) _ _ _); refine at_own H T.X (H.inst (by tb_start) (by tb_start)) T.o__node_395 (by rfl) (by rfl) ?_; clear H; intro s H)
  | ((with_reducible show wpAny _ _ (getAttr _ _ _) _ _ _); refine at_own H T.X (H.inst (by tb_start) (by tb_start)) T.o__pred_395 (by rfl) (by rfl) ?_; clear H; intro s H)
  | ((with_reducible show wpAny _ _ (getAttr _ _ _) _ _ _); refine at_own H T.X (H.inst (by tb_start) (by tb_start)) T.o_graph_395 (by rfl) (by rfl) ?_; clear H; intro s H))
set_option hygiene false in
local macro_rules | `(tactic| k_upd) => `(tactic| (refine st_loc2 F H (by tb_start) (by tb_start) (by tb_rel) (by tb_rel) ?_; clear H; intro s H))
set_option hygiene false in
local macro_rules | `(tactic| k_fold) => `(tactic| (repeat tb_lt))
set_option hygiene false in
local macro_rules | `(tactic| one_item) => `(tactic| (refine ev_call_name ?_; refine ev_glo F H T.toTp (by tb_start) T.gl__law_next ?_; refine call_pos ?_; refine sp_cons ?_; k_fold; refine sp_cons ?_; k_fold; refine sp_nil ⟨(T.p_next.keeps H.keep).keeper, call_of ?_⟩))


def bitZ (code k : Nat) : Int := ((code / 2 ^ k % 2 : Nat) : Int)
theorem bitZ_01 (code k : Nat) : 0 ≤ bitZ code k ∧ bitZ code k ≤ 1 := by unfold bitZ; omega
theorem bits_at {n code : Nat} {hs : List (Int × Tok)} (h : hs.map (·.1) = bitsT n code) {k : Nat} (hk : k < n) : ∃ t, (iv hs)[k]? = some (.int (bitZ code k) t) := by
  have e : (hs.map (·.1))[k]? = some (bitZ code k) := by rw [h]; unfold bitsT; rw [List.getElem?_map, List.getElem?_range hk]; rfl
  rw [List.getElem?_map, Option.map_eq_some_iff] at e
  obtain ⟨⟨x, t⟩, h1, h2⟩ := e
  refine ⟨t, ?_⟩
  unfold iv
  rw [List.getElem?_map, h1]
  exact congrArg (fun x => some (Value.int x t)) h2
theorem bits_len {n code : Nat} {hs : List (Int × Tok)} (h : hs.map (·.1) = bitsT n code) : (iv hs).length = n := by
  rw [iv_len]; have := congrArg List.length h; rw [List.length_map] at this; rw [this]; simp [bitsT]
def insT (code : Nat) (gs : List Gm) : List Int := gs.map fun r => bitZ code r.a * bitZ code r.b
def weiT (n code : Nat) (zs : List (Int × Tok)) : List Int := (List.range n).map fun k => bitZ code k * scF zs k
theorem weiT_succ (n code : Nat) (zs : List (Int × Tok)) : weiT (n + 1) code zs = weiT n code zs ++ [bitZ code n * scF zs n] := by unfold weiT; rw [List.range_succ, List.map_append]; rfl
section
variable {w : World} {A : Around} {B : Bs} {l l' : Ledger} {s : Shared} {mg mb : Str → Option Value} {K : Frag} {v : Value} {env : Env} {a : Addr} {vs : List Value} {Q : Value → Shared → Prop}
theorem ev_ins {n code : Nat} {L fa cR chd cco ck csc cn Hd D : Addr} {cd : Value} {fr : List (Str × Option Value)} {hs : List (Int × Tok)} {gs : List Gm} (R : Room A 3) (T : KP mg mb K B.h) (hn : n ≤ 5) (hg : gs.length ≤ 20) (hgs : ∀ r ∈ gs, r.a < r.b ∧ r.b < n) (hbits : hs.map (·.1) = bitsT n code)
    (hL : (L, .ns fr) ∈ l) (hfr : ((Str.ofString "games"), some (Value.ref D)) ∈ fr) (hc : (chd, .cell (some (.ref Hd))) ∈ l) (hHd : (Hd, .ls (iv hs)) ∈ l) (hD : (D, .ls (gmV gs)) ∈ l) (hgT : ∀ p ∈ gmT gs, p ∈ l)
    (H : St prog w B l s) (h : ∀ E ps s', ps.map (·.1) = insT code gs → St prog w B ((E, .ls (iv ps)) :: l) s' → Q (.ref E) s') :
    WP prog w A (eval lIns (lwEnv L fa cd cR chd cco ck csc cn)) Q s := by
  have F := fm_lw L fa cd cR chd cco ck csc cn
  refine ev_comp (B := B) [".0", "a", "b"] (by kernel_rfl) (cl := [("held", chd)]) (by kernel_rfl) ?_
  k_fold
  refine iter_list H (H.isl hD) ?_
  clear H; intro it s hne H
  refine ⟨_, H, fun E C s H => ?_⟩
  show codeAny (model prog w) A (.compStart _ 0 _ _ (compEnvC (scE lIns) [("held", chd)] C (lwEnv L fa cd cR chd cco ck csc cn))) _ _
  refine comp_start (g := ⟨_, _, _, _⟩) rfl rfl (fun Q hq => iter_self_list H (i := 0) (a := D) (by tb_start) hq) ?_
  have FC := fm_comp (scope := scE lIns) (osc := scopeS dLaw) (qual := "law") (L := L) (f := fa) (C := C) (cdv := cd) (cl := [("held", chd)]) (cl0 := [("R", cR), ("held", chd), ("code", cco), ("k", ck), ("scores", csc), ("n", cn)]) (ns := [".0", "a", "b"]) (csn := ["held"]) (gs := []) (by kernel_rfl) rfl
  k_flat
  have H1 : St prog w B ((it, soList D 0) :: (C, .ns [(".0", none), ("a", none), ("b", none)]) :: (E, .ls []) :: l) s := H.sel (by k_sub)
  clear H
  have hgl : (gmV gs).length = gs.length := by simp [gmV]
  refine comp_loop (n := (gmV gs).length) (by rfl) (it_list (vs := gmV gs) R.none hne (fun l' => (D, .ls (gmV gs)) ∈ l') fun l' s hm H => H.isl hm) (fun i l' => ∃ ps x0 x1 x2, ps.map (·.1) = insT code (gs.take i) ∧ l' = (C, .ns [(".0", x0), ("a", x1), ("b", x2)]) :: (E, .ls (iv ps)) :: l) ?_ H1 ⟨[], _, _, _, by simp [insT], rfl⟩ ?_ ?_
  · rintro i l' ⟨ps, x0, x1, x2, _, rfl⟩; tb_start
  · clear H1
    rintro i v ex l' s hi ⟨hv, rfl⟩ ⟨ps, x0, x1, x2, hps, rfl⟩ H
    simp only [List.nil_append] at H
    obtain ⟨r, hr, rfl⟩ : ∃ r, gs[i]? = some r ∧ v = .ref r.q := by
      unfold gmV at hv
      rw [List.getElem?_map, Option.map_eq_some_iff] at hv
      obtain ⟨r, hr, e⟩ := hv
      exact ⟨r, hr, e.symm⟩
    have hrm := List.mem_of_getElem? hr
    obtain ⟨hab, hbn⟩ := hgs _ hrm
    have hq : (r.q, SO.tp [.int (r.a : Nat) r.ta, .int (r.b : Nat) r.tb]) ∈ l := hgT _ (List.mem_map.mpr ⟨r, hrm, rfl⟩)
    clear F
    have F := FC
    refine assign_tup R.none H (t := r.q) (by tb_start) ?_
    clear H; intro s H
    refine ao_cons (wpAny_assign_Name ?_)
    k_upd
    refine ao_cons (wpAny_assign_Name ?_)
    k_upd
    refine ao_nil ?_
    refine wpAny_bind ?_
    obtain ⟨t1, e1⟩ := bits_at hbits (k := r.a) (by omega)
    obtain ⟨t2, e2⟩ := bits_at hbits (k := r.b) (by omega)
    have hbl := bits_len hbits
    have z1 := bitZ_01 code r.a
    have z2 := bitZ_01 code r.b
    have b1 : 0 ≤ bitZ code r.a * bitZ code r.b := Int.mul_nonneg z1.1 z2.1
    k_fold
    refine sub_list (vs := iv hs) (H.isl (by tb_start)) (by omega) e1 (by omega) ?_
    k_fold
    refine sub_list (vs := iv hs) (H.isl (by tb_start)) (by omega) e2 (by omega) ?_
    refine op_mul H ?_ (PySem.IntMulOk.of_left (PySem.intBits_le_64 (by omega) (by omega)))
    clear H; intro t3 s H
    have hlp : ps.length = (gs.take i).length := by have := congrArg List.length hps; rw [List.length_map] at this; rw [this]; simp [insT]
    have hl : (iv ps).length ≤ 20 := by rw [iv_len, hlp, List.length_take]; omega
    refine wpAny_bind (call_append (vs := iv ps) H (by rw [sizeLine_eq]; omega) (by tb_rel) ?_)
    clear H; intro s H
    refine wpAny_pure ?_
    refine ⟨_, ⟨ps ++ [(bitZ code r.a * bitZ code r.b, t3)], x0, some (.int (r.a : Nat) r.ta), some (.int (r.b : Nat) r.tb), ?_, rfl⟩, ?_⟩
    · rw [List.map_append, hps, List.take_add_one, hr]
      simp [insT]
    · rw [iv_app]; exact H
  · clear H1
    rintro l' s ⟨ps, x0, x1, x2, hps, rfl⟩ H
    rw [hgl, List.take_length] at hps
    exact ⟨_, _, H, fun s' H' => h E ps s' hps H'⟩
theorem ev_wei {n code : Nat} {tn : Tok} {L fa cR chd cco ck csc cn Hd S : Addr} {cd : Value} {hs zs : List (Int × Tok)} (R : Room A 3) (T : KP mg mb K B.h) (hn : n ≤ 5) (hz : zs.length = n) (hb : Bd 1000 zs) (hbits : hs.map (·.1) = bitsT n code)
    (hcn : (cn, .cell (some (.int (n : Nat) tn))) ∈ l) (hc : (chd, .cell (some (.ref Hd))) ∈ l) (hHd : (Hd, .ls (iv hs)) ∈ l) (hcs : (csc, .cell (some (.ref S))) ∈ l) (hS : (S, .lw (iv zs)) ∈ l)
    (H : St prog w B l s) (h : ∀ E ps s', ps.map (·.1) = weiT n code zs → St prog w B ((E, .ls (iv ps)) :: l) s' → Q (.ref E) s') :
    WP prog w A (eval lWei (lwEnv L fa cd cR chd cco ck csc cn)) Q s := by
  have F := fm_lw L fa cd cR chd cco ck csc cn
  refine ev_comp (B := B) [".0", "k"] (by kernel_rfl) (cl := [("scores", csc), ("held", chd)]) (by kernel_rfl) ?_
  refine ev_call_name ?_
  refine ev_blt F H T.toTp (by tb_start) T.gb_range rfl (by decide) ?_
  refine call_pos ?_
  refine sp_cons ?_
  k_fold
  refine sp_nil ⟨keeps_type, ?_⟩
  refine range1 H ?_
  clear H; intro r s H
  refine iter_range (n := n) H (by tb_start) (by omega) ?_
  clear H; intro it s H
  refine ⟨_, H, fun E C s H => ?_⟩
  show codeAny (model prog w) A (.compStart _ 0 _ _ (compEnvC (scE lWei) [("scores", csc), ("held", chd)] C (lwEnv L fa cd cR chd cco ck csc cn))) _ _
  refine comp_start (g := ⟨_, _, _, _⟩) rfl rfl (fun Q hq => iter_self_range R.none H (n := n) (i := 0) (by tb_start) hq) ?_
  have FC := fm_comp (scope := scE lWei) (osc := scopeS dLaw) (qual := "law") (L := L) (f := fa) (C := C) (cdv := cd) (cl := [("scores", csc), ("held", chd)]) (cl0 := [("R", cR), ("held", chd), ("code", cco), ("k", ck), ("scores", csc), ("n", cn)]) (ns := [".0", "k"]) (csn := ["scores", "held"]) (gs := []) (by kernel_rfl) rfl
  k_flat
  have H1 : St prog w B ((it, soRange n 0) :: (C, .ns [(".0", none), ("k", none)]) :: (E, .ls []) :: l) s := H.sel (by k_sub)
  clear H
  refine comp_loop (n := n) (by rfl) (it_range R.none) (fun i l' => ∃ ps x0 x1, ps.map (·.1) = weiT i code zs ∧ l' = (C, .ns [(".0", x0), ("k", x1)]) :: (E, .ls (iv ps)) :: l) (fun _ _ _ => trivial) H1 ⟨[], _, _, rfl, rfl⟩ ?_ ?_
  · clear H1
    rintro i v ex l' s hi ⟨⟨t, rfl⟩, rfl⟩ ⟨ps, x0, x1, hps, rfl⟩ H
    simp only [List.nil_append] at H
    clear F
    have F := FC
    refine wpAny_assign_Name ?_
    k_upd
    refine wpAny_bind ?_
    obtain ⟨t1, e1⟩ := bits_at hbits hi
    have hbl := bits_len hbits
    have z1 := bitZ_01 code i
    have hil : i < zs.length := by omega
    have z2 := hb _ (List.getElem_mem hil)
    k_fold
    refine sub_list (vs := iv hs) (H.isl (by tb_start)) (by omega) e1 (by omega) ?_
    k_fold
    refine sub_list (vs := iv zs) (H.islw (by tb_start)) (by omega) (iv_at hil) (by rw [iv_len]; omega) ?_
    refine op_mul H ?_ (PySem.IntMulOk.of_left (PySem.intBits_le_64 (by omega) (by omega)))
    clear H; intro t3 s H
    have hl : (iv ps).length = i := by rw [iv_len]; have := congrArg List.length hps; rw [List.length_map] at this; rw [this]; simp [weiT]
    refine wpAny_bind (call_append (vs := iv ps) H (by rw [sizeLine_eq]; omega) (by tb_rel) ?_)
    clear H; intro s H
    refine wpAny_pure ?_
    refine ⟨_, ⟨ps ++ [(bitZ code i * zs[i].1, t3)], x0, some (.int (i : Nat) t), ?_, rfl⟩, ?_⟩
    · rw [List.map_append, hps, weiT_succ, scF_at hil]; rfl
    · rw [iv_app]; exact H
  · clear H1
    rintro l' s ⟨ps, x0, x1, hps, rfl⟩ H
    exact ⟨_, _, H, fun s' H' => h E ps s' hps H'⟩
end
end Mine

-- ML10
namespace Mine
open PySem PySem.W PySem.Calls PyProof.Rows Builtin Builtin.ObjectAttr

local macro_rules | `(tactic| tb_start) => `(tactic| first | with_reducible exact List.mem_cons_self | with_reducible assumption | (with_reducible apply List.mem_cons_of_mem; tb_start) | (with_reducible apply List.mem_append_left; tb_start) | (with_reducible apply List.mem_append_right; tb_start) | with_reducible exact g_x | with_reducible exact g_dx | with_reducible exact g_gr | with_reducible exact g_nd | with_reducible exact g_ad | with_reducible exact g_pr)
local macro_rules | `(tactic| tb_rel) => `(tactic| first | with_reducible exact Upd1.head | with_reducible exact Put.head | (with_reducible apply Upd1.tail; tb_rel) | (with_reducible apply Put.tail; tb_rel) | (with_reducible apply Upd1.right; tb_rel) | (with_reducible apply Upd1.append; tb_rel))
local macro_rules | `(tactic| k_ne) => `(tactic| first | (with_reducible apply Apart.head; tb_start) | (with_reducible apply Apart.head'; tb_start) | (with_reducible apply Apart.tail; k_ne))
local macro_rules | `(tactic| k_same) => `(tactic| first | with_reducible exact Split.head | (with_reducible apply Split.tail; k_same) | (with_reducible apply Split.skip; k_same))
local macro_rules | `(tactic| k_same2) => `(tactic| first | with_reducible exact SplitL.head | with_reducible exact SplitL.last | (with_reducible apply SplitL.tail; k_same2) | (with_reducible apply SplitL.skip; k_same2))
local macro_rules | `(tactic| k_sub) => `(tactic| first | with_reducible exact Sel.nil | with_reducible exact Sel.all | (with_reducible refine Sel.cons (by k_same) ?_; k_sub) | (with_reducible refine Sel.app (by k_same2) ?_; k_sub) | (with_reducible exact Sel.one (by k_same2)))
set_option hygiene false in
local macro_rules | `(tactic| k_flat) => `(tactic| simp only [frameOf, List.map_cons, List.map_nil, List.cons_append, List.nil_append, List.append_nil] at H)
set_option hygiene false in
local macro_rules | `(tactic| tb_lt) => `(tactic| first
  | (with_reducible refine ev_loc F H (by tb_start) (by tb_start) (by tb_start) ?_)
  | (with_reducible refine ev_int H ?_; clear H; intro _ s H)
  | (with_reducible refine ev_str H ?_; clear H; intro _ s H)
  | (with_reducible refine ev_none ?_)
  | (with_reducible refine ev_bool ?_)
  | (with_reducible refine ev_cel F H (by tb_start) (by tb_start) ?_)
  | (with_reducible refine Attribute_any_ ?_)
  | (with_reducible refine Subscript_ ?_)
  | (with_reducible refine wpAny_BinOp ?_)
  | (with_reducible refine wpAny_Compare1 ?_)
  | ((with_reducible show wpAny _ _ (getAttr _ _ _) _ _ _); refine at_own H T.X (H.inst (by tb_start) (by tb_start)) T.o__adj_395 (by rfl) (by rfl) ?_; clear H; intro s H)
  | ((with_reducible show wpAny _ _ (getAttr _ _ _) _ _ _); refine at_own H T.X (H.inst (by tb_start) (by tb_start)) T.o__node_395 (by rfl) (by rfl) ?_; clear H; intro s H)
  | ((with_reducible show wpAny _ _ (getAttr _ _ _) _ _ _); refine at_own H T.X (H.inst (by tb_start) (by tb_start)) T.o__pred_395 (by rfl) (by rfl) ?_; clear H; intro s H)
  | ((with_reducible show wpAny _ _ (getAttr _ _ _) _ _ _); refine at_own H T.X (H.inst (by tb_start) (by tb_start)) T.o_graph_395 (by rfl) (by rfl) ?_; clear H; intro s H))
set_option hygiene false in
local macro_rules | `(tactic| k_upd) => `(tactic| (refine st_loc2 F H (by tb_start) (by tb_start) (by tb_rel) (by tb_rel) ?_; clear H; intro s H))
set_option hygiene false in
local macro_rules | `(tactic| k_fold) => `(tactic| (repeat tb_lt))
set_option hygiene false in
local macro_rules | `(tactic| one_item) => `(tactic| (refine ev_call_name ?_; refine ev_glo F H T.toTp (by tb_start) T.gl__law_next ?_; refine call_pos ?_; refine sp_cons ?_; k_fold; refine sp_cons ?_; k_fold; refine sp_nil ⟨(T.p_next.keeps H.keep).keeper, call_of ?_⟩))


theorem lackC_eq (n code : Nat) (gs : List Gm) (zs : List (Int × Tok)) : Tn.lackC (tnOf n gs zs) code = (insT code gs).sum - (weiT n code zs).sum := by
  unfold Tn.lackC Tn.lack Tn.inside Tn.weigh
  rw [← sumN_list, ← sumN_list]
  congr 1
  congr 1
  unfold insT
  refine List.ext_getElem (by simp [tnOf]) fun i h1 h2 => ?_
  have hi : i < gs.length := by simpa using h2
  simp only [List.getElem_map, List.getElem_range]
  show bitZ code (((gs[i]?).map (·.a)).getD 0) * bitZ code (((gs[i]?).map (·.b)).getD 0) = _
  rw [List.getElem?_eq_getElem hi]
  rfl
theorem insT_bd (code : Nat) (gs : List Gm) : ∀ x ∈ insT code gs, 0 ≤ x ∧ x ≤ 1 := by
  intro x hx
  obtain ⟨r, _, rfl⟩ := List.mem_map.mp hx
  have z1 := bitZ_01 code r.a
  have z2 := bitZ_01 code r.b
  refine ⟨Int.mul_nonneg z1.1 z2.1, ?_⟩
  have := Int.mul_le_mul z1.2 z2.2 z2.1 (by decide : (0 : Int) ≤ 1)
  simpa using this
theorem weiT_bd {n code : Nat} {zs : List (Int × Tok)} (hz : zs.length = n) (hb : Bd 1000 zs) : ∀ x ∈ weiT n code zs, 0 ≤ x ∧ x ≤ 1000 := by
  intro x hx
  obtain ⟨k, hk, rfl⟩ := List.mem_map.mp hx
  have hk' := List.mem_range.mp hk
  have z1 := bitZ_01 code k
  have hkl : k < zs.length := by omega
  rw [scF_at hkl]
  have z2 := hb _ (List.getElem_mem hkl)
  refine ⟨Int.mul_nonneg z1.1 z2.1, ?_⟩
  have := Int.mul_le_mul z1.2 z2.2 z2.1 (by decide : (0 : Int) ≤ 1)
  simpa using this
section
variable {w : World} {A : Around} {B : Bs} {l l' : Ledger} {s : Shared} {mg mb : Str → Option Value} {K : Frag} {v : Value} {env : Env} {a : Addr} {vs : List Value} {Q : Flow → Shared → Prop}
theorem b_lacks {n : Nat} {tn : Tok} {L fa cR chd cco ck csc cn S D La : Addr} {cd : Value} {c0 h0 sc st b0 a0 ot so G va wo ga mo : Option Value} {zs : List (Int × Tok)} {gs : List Gm} (R : Room A 4) (T : KP mg mb K B.h) (hn : n ≤ 5) (hg : gs.length ≤ 20) (hgs : ∀ r ∈ gs, r.a < r.b ∧ r.b < n) (hz : zs.length = n) (hb : Bd 1000 zs)
    (hcn : (cn, .cell (some (.int (n : Nat) tn))) ∈ l) (hcs : (csc, .cell (some (.ref S))) ∈ l) (hS : (S, .lw (iv zs)) ∈ l) (hD : (D, .ls (gmV gs)) ∈ l) (hgT : ∀ p ∈ gmT gs, p ∈ l)
    (H : St prog w B ((cco, .cell c0) :: (chd, .cell h0) :: (La, .ls []) :: (L, .ns (lwF sc st b0 a0 (some (.ref D)) ot so G (some (.ref La)) va wo ga mo)) :: l) s)
    (h : ∀ ls c1 h1 s', ls.map (·.1) = (List.range (2 ^ n)).map (Tn.lackC (tnOf n gs zs)) → St prog w B ((cco, .cell c1) :: (chd, .cell h1) :: (La, .ls (iv ls)) :: (L, .ns (lwF sc st b0 a0 (some (.ref D)) ot so G (some (.ref La)) va wo ga mo)) :: l) s' → Q .next s') :
    WP prog w A (exec (nthS (bodyS dLaw) 12) (lwEnv L fa cd cR chd cco ck csc cn)) Q s := by
  have F := fm_lw L fa cd cR chd cco ck csc cn
  obtain ⟨p1, p2⟩ := pow_small hn
  show WP prog w A (exec (.For (.Name _ _) _ _ _ _) _) Q s
  refine x_for ?_
  refine ev_call_name ?_
  refine ev_blt F H T.toTp (by tb_start) T.gb_range rfl (by decide) ?_
  refine call_pos ?_
  refine sp_cons ?_
  k_fold
  refine op_pow2 (by omega) H ?_
  clear H; intro tp s H
  refine sp_nil ⟨keeps_type, ?_⟩
  refine range1 H ?_
  clear H; intro rg s H
  refine iter_range (n := 2 ^ n) H (by tb_start) (by omega) ?_
  clear H; intro it s H
  replace H : St prog w B ((it, soRange (2 ^ n) 0) :: ((cco, .cell c0) :: (chd, .cell h0) :: (La, .ls []) :: (L, .ns (lwF sc st b0 a0 (some (.ref D)) ot so G (some (.ref La)) va wo ga mo)) :: l)) s := H.sel (by k_sub)
  refine for_it (n := 2 ^ n) (it_range R.none) (fun i l' => ∃ ls c1 h1, ls.map (·.1) = (List.range i).map (Tn.lackC (tnOf n gs zs)) ∧ l' = (cco, .cell c1) :: (chd, .cell h1) :: (La, .ls (iv ls)) :: (L, .ns (lwF sc st b0 a0 (some (.ref D)) ot so G (some (.ref La)) va wo ga mo)) :: l) (fun _ _ _ => trivial) H ⟨[], _, _, rfl, rfl⟩ ?_ ?_
  · clear H
    rintro i v ex l' s hi' ⟨⟨ti, rfl⟩, rfl⟩ ⟨ls, c1, h1, hls, rfl⟩ H
    simp only [List.nil_append] at H
    refine wpAny_assign_Name ?_
    refine st_cel F H (c := cco) (by tb_start) (by kernel_rfl) (by tb_rel) ?_
    clear H; intro s H
    -- held = [..]
    refine x_cons (st := .Assign [.Name _ _] _ _) (wpAny_Assign_Name (hs := by kernel_rfl) ?_)
    refine ev_held (n := n) (code := i) (tn := tn) (R.less (by decide)) T hn (by omega) (by tb_start) (by tb_start) H ?_
    clear H; intro Hd hs s hbits H
    refine st_cel F H (c := chd) (by tb_start) (by kernel_rfl) (by tb_rel) ?_
    clear H; intro s H
    -- lacks.append(..)
    refine x_one (st := .Expr _ _) (wpAny_Expr_any ?_)
    refine ev_meth ?_
    k_fold
    intro pl
    refine gm_append H (vs := iv ls) (by tb_start) ?_
    refine call_pos ?_
    refine sp_cons ?_
    refine wpAny_BinOp ?_
    refine ev_call_name ?_
    refine ev_blt F H T.toTp (by tb_start) T.gb_sum rfl (by decide) ?_
    refine call_pos ?_
    refine sp_cons ?_
    refine ev_ins (n := n) (code := i) (gs := gs) (D := D) (R.less (by decide)) T hn hg hgs hbits (.tail _ (.tail _ (.tail _ (.tail _ (.tail _ (.head _)))))) (by tb_start) (by tb_start) (by tb_start) (by tb_start) (fun p hp => by have := hgT p hp; tb_start) H ?_
    clear H; intro E1 ps s hps H
    refine sp_nil ⟨keeps_blt, ?_⟩
    refine sum_ls R.none H (H.isl (vs := iv ps) (by tb_start)) (iv_ints ps) (by rw [hps]; intro x hx; have := insT_bd _ _ x hx; omega) (by rw [hps]; simp [insT]; omega) ?_
    clear H; intro t1 s H
    refine ev_call_name ?_
    refine ev_blt F H T.toTp (by tb_start) T.gb_sum rfl (by decide) ?_
    refine call_pos ?_
    refine sp_cons ?_
    refine ev_wei (n := n) (code := i) (zs := zs) (tn := tn) (S := S) (R.less (by decide)) T hn hz hb hbits (by tb_start) (by tb_start) (by tb_start) (by tb_start) (by tb_start) H ?_
    clear H; intro E2 qs s hqs H
    refine sp_nil ⟨keeps_blt, ?_⟩
    refine sum_ls R.none H (H.isl (vs := iv qs) (by tb_start)) (iv_ints qs) (by rw [hqs]; intro x hx; have := weiT_bd hz hb x hx; omega) (by rw [hqs]; simp [weiT]; omega) ?_
    clear H; intro t2 s H
    refine op_sub H ?_
    clear H; intro t3 s H
    have hl : (iv ls).length = i := by rw [iv_len]; have := congrArg List.length hls; rw [List.length_map] at this; rw [this]; simp
    refine sp_nil ⟨keeps_blt, call_append (vs := iv ls) H (by rw [sizeLine_eq]; omega) (by tb_rel) ?_⟩
    clear H; intro s H
    refine ⟨_, ⟨ls ++ [((ps.map (·.1)).sum - (qs.map (·.1)).sum, t3)], some (.int (i : Nat) ti), some (.ref Hd), ?_, rfl⟩, ?_⟩
    · rw [List.map_append, hls, List.range_succ, List.map_append]
      congr 1
      show [(ps.map (·.1)).sum - (qs.map (·.1)).sum] = [Tn.lackC (tnOf n gs zs) i]
      rw [lackC_eq, hps, hqs]
    · rw [iv_app]
      exact H.sel (by k_sub)
  · clear H
    rintro l' s ⟨ls, c1, h1, hls, rfl⟩ H
    refine x_nil ?_
    exact h ls c1 h1 s hls H
end
end Mine

-- ML11
namespace Mine
open PySem PySem.W PySem.Calls PyProof.Rows Builtin Builtin.ObjectAttr

local macro_rules | `(tactic| tb_start) => `(tactic| first | with_reducible exact List.mem_cons_self | with_reducible assumption | (with_reducible apply List.mem_cons_of_mem; tb_start) | (with_reducible apply List.mem_append_left; tb_start) | (with_reducible apply List.mem_append_right; tb_start) | with_reducible exact g_x | with_reducible exact g_dx | with_reducible exact g_gr | with_reducible exact g_nd | with_reducible exact g_ad | with_reducible exact g_pr)
local macro_rules | `(tactic| tb_rel) => `(tactic| first | with_reducible exact Upd1.head | with_reducible exact Put.head | (with_reducible apply Upd1.tail; tb_rel) | (with_reducible apply Put.tail; tb_rel) | (with_reducible apply Upd1.right; tb_rel) | (with_reducible apply Upd1.append; tb_rel))
local macro_rules | `(tactic| k_ne) => `(tactic| first | (with_reducible apply Apart.head; tb_start) | (with_reducible apply Apart.head'; tb_start) | (with_reducible apply Apart.tail; k_ne))
local macro_rules | `(tactic| k_same) => `(tactic| first | with_reducible exact Split.head | (with_reducible apply Split.tail; k_same) | (with_reducible apply Split.skip; k_same))
local macro_rules | `(tactic| k_same2) => `(tactic| first | with_reducible exact SplitL.head | with_reducible exact SplitL.last | (with_reducible apply SplitL.tail; k_same2) | (with_reducible apply SplitL.skip; k_same2))
local macro_rules | `(tactic| k_sub) => `(tactic| first | with_reducible exact Sel.nil | with_reducible exact Sel.all | (with_reducible refine Sel.cons (by k_same) ?_; k_sub) | (with_reducible refine Sel.app (by k_same2) ?_; k_sub) | (with_reducible exact Sel.one (by k_same2)))
set_option hygiene false in
local macro_rules | `(tactic| k_flat) => `(tactic| simp only [frameOf, List.map_cons, List.map_nil, List.cons_append, List.nil_append, List.append_nil] at H)
set_option hygiene false in
local macro_rules | `(tactic| tb_lt) => `(tactic| first
  | (with_reducible refine ev_loc F H (by tb_start) (by tb_start) (by tb_start) ?_)
  | (with_reducible refine ev_int H ?_; clear H; intro _ s H)
  | (with_reducible refine ev_str H ?_; clear H; intro _ s H)
  | (with_reducible refine ev_none ?_)
  | (with_reducible refine ev_bool ?_)
  | (with_reducible refine ev_cel F H (by tb_start) (by tb_start) ?_)
  | (with_reducible refine Attribute_any_ ?_)
  | (with_reducible refine Subscript_ ?_)
  | (with_reducible refine wpAny_BinOp ?_)
  | (with_reducible refine wpAny_Compare1 ?_)
  | ((with_reducible show wpAny _ _ (getAttr _ _ _) _ _ _); refine at_own H T.X (H.inst (by tb_start) (by tb_start)) T.o__adj_395 (by rfl) (by rfl) ?_; clear H; intro s H)
  | ((with_reducible show wpAny _ _ (getAttr _ _ _) _ _ _); refine at_own H T.X (H.inst (by tb_start) (by tb_start)) T.o__node_395 (by rfl) (by rfl) ?_; clear H; intro s H)
  | ((with_reducible show wpAny _ _ (getAttr _ _ _) _ _ _); refine at_own H T.X (H.inst (by tb_start) (by tb_start)) T.o__pred_395 (by rfl) (by rfl) ?_; clear H; intro s H)
  | ((with_reducible show wpAny _ _ (getAttr _ _ _) _ _ _); refine at_own H T.X (H.inst (by tb_start) (by tb_start)) T.o_graph_395 (by rfl) (by rfl) ?_; clear H; intro s H))
set_option hygiene false in
local macro_rules | `(tactic| k_upd) => `(tactic| (refine st_loc2 F H (by tb_start) (by tb_start) (by tb_rel) (by tb_rel) ?_; clear H; intro s H))
set_option hygiene false in
local macro_rules | `(tactic| k_fold) => `(tactic| (repeat tb_lt))
set_option hygiene false in
local macro_rules | `(tactic| one_item) => `(tactic| (refine ev_call_name ?_; refine ev_glo F H T.toTp (by tb_start) T.gl__law_next ?_; refine call_pos ?_; refine sp_cons ?_; k_fold; refine sp_cons ?_; k_fold; refine sp_nil ⟨(T.p_next.keeps H.keep).keeper, call_of ?_⟩))


section
variable {w : World} {A : Around} {B : Bs} {l l' : Ledger} {s : Shared} {mg mb : Str → Option Value} {K : Frag} {v : Value} {env : Env} {a : Addr} {g : GA} {vs : List Value} {ns : List Int} {Q : Flow → Shared → Prop} {L fa cR chd cco ck csc cn S D st sl : Addr} {cd : Value} {k : Int} {t : Tok}
/-- state = [script[:60], 0] -/
theorem b_0 {b0 a0 gm ot so G la va wo ga mo : Option Value} (T : KP mg mb K B.h) (hscr : B.h.IsList a vs.toArray) (hi : IntsAre vs ns) (hlen : vs.length ≤ 63)
    (H : St prog w B ((L, .ns (lwF (some (.ref a)) none b0 a0 gm ot so G la va wo ga mo)) :: l) s)
    (h : ∀ st sl vs' ns' t s', IntsAre vs' ns' → vs'.length ≤ 63 → St prog w B ((st, .lw [.ref sl, .int 0 t]) :: (L, .ns (lwF (some (.ref a)) (some (.ref st)) b0 a0 gm ot so G la va wo ga mo)) :: (sl, .ls vs') :: l) s' → Q .next s') :
    WP prog w A (exec (nthS (bodyS dLaw) 0) (lwEnv L fa cd cR chd cco ck csc cn)) Q s := by
  have F := fm_lw L fa cd cR chd cco ck csc cn
  show WP prog w A (exec (.Assign [.Name _ _] _ _) _) Q s
  refine wpAny_Assign_Name ?_
  refine ev_List ?_
  refine sp_cons ?_
  refine slice_upto (B := B) (a := a) (vs := vs) (ns := ns) (n := 60) ?_
  k_fold
  refine ⟨rfl, ?_⟩
  k_fold
  refine ⟨_, _, rfl, H, (let ⟨o, ho, hr⟩ := hscr; ⟨o, H.keep _ _ ho, hr⟩), hi, hlen, ?_⟩
  clear H; intro sl vs' ns' s hi' hlen' H
  refine sp_cons ?_
  k_fold
  refine sp_nil ?_
  refine new_list H (by show 2 ≤ sizeLine; decide) ?_
  clear H; intro st s H
  replace H := H.weak .head
  k_upd
  exact h st sl vs' ns' _ s hi' hlen' (H.sel (by k_sub))
/-- n = 1 + _law_next(state, 5) -/
theorem b_1 {c0 : Option Value} {sc b0 a0 gm ot so G la va wo ga mo : Option Value} (R : Room A 3) (T : KP mg mb K B.h) (hi : IntsAre vs ns) (hlen : vs.length ≤ 63) (hk : 0 ≤ k) (hsl : (sl, .ls vs) ∈ l)
    (H : St prog w B ((cn, .cell c0) :: (st, .lw [.ref sl, .int k t]) :: (L, .ns (lwF sc (some (.ref st)) b0 a0 gm ot so G la va wo ga mo)) :: l) s)
    (h : ∀ (n : Nat) k' t' tn s', 1 ≤ n → n ≤ 5 → 0 ≤ k' → St prog w B ((cn, .cell (some (.int (n : Nat) tn))) :: (st, .lw [.ref sl, .int k' t']) :: (L, .ns (lwF sc (some (.ref st)) b0 a0 gm ot so G la va wo ga mo)) :: l) s' → Q .next s') :
    WP prog w A (exec (nthS (bodyS dLaw) 1) (lwEnv L fa cd cR chd cco ck csc cn)) Q s := by
  have F := fm_lw L fa cd cR chd cco ck csc cn
  show WP prog w A (exec (.Assign [.Name _ _] _ _) _) Q s
  refine wpAny_Assign_Name ?_
  k_fold
  one_item
  refine c_next (ns := ns) (vs := vs) (k := k) (t := t) (sl := sl) (lf := fun so' => (cn, .cell c0) :: (st, so') :: (L, .ns (lwF sc (some (.ref st)) b0 a0 gm ot so G la va wo ga mo)) :: l) R T (fun so' => by tb_start) hi hlen hk (by decide) (fun so' => .tail .head) H ?_
  clear H; intro x tx t2 s h0 h5 H
  refine op_add H ?_
  clear H; intro tn s H
  refine st_cel F H (c := cn) (by tb_start) (by kernel_rfl) (by tb_rel) ?_
  clear H; intro s H
  obtain ⟨n, hn⟩ : ∃ n : Nat, 1 + x = (n : Int) := ⟨(1 + x).toNat, by omega⟩
  rw [hn] at H
  exact h n (k + 1) t2 tn s (by omega) (by omega) (by omega) H
/-- scores = [0] * n -/
theorem b_3 {n : Nat} {tn : Tok} {c0 : Option Value} {fr : List (Str × Option Value)} (T : KP mg mb K B.h) (hn : n ≤ 5) (hcn : (cn, .cell (some (.int (n : Nat) tn))) ∈ l)
    (H : St prog w B ((csc, .cell c0) :: l) s)
    (h : ∀ S zs s', zs.length = n → Bd 0 zs → St prog w B ((S, .lw (iv zs)) :: (csc, .cell (some (.ref S))) :: l) s' → Q .next s') :
    WP prog w A (exec (nthS (bodyS dLaw) 3) (lwEnv L fa cd cR chd cco ck csc cn)) Q s := by
  have F := fm_lw L fa cd cR chd cco ck csc cn
  show WP prog w A (exec (.Assign [.Name _ _] _ _) _) Q s
  refine wpAny_Assign_Name ?_
  k_fold
  refine ev_List ?_
  refine sp_cons ?_
  k_fold
  refine sp_nil ?_
  refine new_list H (by show 1 ≤ sizeLine; decide) ?_
  clear H; intro z s H
  k_fold
  refine op_lmul H (by tb_start) (by omega) ?_
  clear H; intro S s H
  replace H := H.weak .head
  refine st_cel F H (c := csc) (by tb_start) (by kernel_rfl) (by tb_rel) ?_
  clear H; intro s H
  have e : ∀ t, List.replicate n (Value.int 0 t) = iv (List.replicate n (0, t)) := fun t => by unfold iv; rw [List.map_replicate]
  rw [e] at H
  refine h S _ s List.length_replicate ?_ (H.sel (by k_sub))
  intro z hz
  rw [List.mem_replicate] at hz
  rw [hz.2]
  exact ⟨Int.le_refl 0, Int.le_refl 0⟩
/-- source = n + len(games) -/
theorem b_6 {n : Nat} {tn : Tok} {gs : List Gm} {sc sta b0 a0 ot so G la va wo ga mo : Option Value} (T : KP mg mb K B.h) (hg : gs.length ≤ 20) (hcn : (cn, .cell (some (.int (n : Nat) tn))) ∈ l) (hD : (D, .ls (gmV gs)) ∈ l)
    (H : St prog w B ((L, .ns (lwF sc sta b0 a0 (some (.ref D)) ot so G la va wo ga mo)) :: l) s)
    (h : ∀ ts s', St prog w B ((L, .ns (lwF sc sta b0 a0 (some (.ref D)) ot (some (.int ((n + gs.length : Nat) : Int) ts)) G la va wo ga mo)) :: l) s' → Q .next s') :
    WP prog w A (exec (nthS (bodyS dLaw) 6) (lwEnv L fa cd cR chd cco ck csc cn)) Q s := by
  have F := fm_lw L fa cd cR chd cco ck csc cn
  have hgl : (gmV gs).length = gs.length := by simp [gmV]
  show WP prog w A (exec (.Assign [.Name _ _] _ _) _) Q s
  refine wpAny_Assign_Name ?_
  k_fold
  refine ev_call_name ?_
  refine ev_blt F H T.toTp (by tb_start) T.gb_len rfl (by decide) ?_
  refine call_pos ?_
  refine sp_cons ?_
  k_fold
  refine sp_nil ⟨keeps_blt, ?_⟩
  refine len_ (vs := gmV gs) H (H.isl (by tb_start)) (by omega) ?_
  clear H; intro tl s H
  refine op_add H ?_
  clear H; intro ts s H
  rw [hgl]
  have e : ((n : Nat) : Int) + (gs.length : Nat) = ((n + gs.length : Nat) : Int) := by omega
  rw [e]
  k_upd
  exact h ts s H
/-- G = DiGraph() -/
theorem b_7 {sc sta b0 a0 gm ot so G la va wo ga mo : Option Value} (R : Room A 8) (T : KP mg mb K B.h) (H : St prog w B ((L, .ns (lwF sc sta b0 a0 gm ot so G la va wo ga mo)) :: l) s)
    (h : ∀ g s', St prog w B ((L, .ns (lwF sc sta b0 a0 gm ot so (some (.ref g.x)) la va wo ga mo)) :: (gl g (mkG 0 (fun _ => 0) (fun _ => 0) (fun _ => 0) []) [] ++ l)) s' → Q .next s') :
    WP prog w A (exec (nthS (bodyS dLaw) 7) (lwEnv L fa cd cR chd cco ck csc cn)) Q s := by
  have F := fm_lw L fa cd cR chd cco ck csc cn
  show WP prog w A (exec (.Assign [.Name _ _] _ _) _) Q s
  refine wpAny_Assign_Name ?_
  refine ev_call_name ?_
  refine ev_glo F H T.toTp (by tb_start) T.gl_DiGraph ?_
  refine call_pos0 (keeps_cls (T.X.keeps H.keep) T.clsD395 T.clsC395) (call_of ?_)
  refine c_digraph (R.less (by decide)) T H ?_
  clear H; intro g s H
  k_upd
  exact h g s (H.sel (by k_sub))
/-- G.add_nodes_from(range(source + 2)) -/
theorem b_8 {N : Nat} {ts : Tok} {sc sta b0 a0 gm ot la va wo ga mo : Option Value} (R : Room A 11) (T : KP mg mb K B.h) (hN : N ≤ 90) (H : St prog w B ((L, .ns (lwF sc sta b0 a0 gm ot (some (.int (N : Nat) ts)) (some (.ref g.x)) la va wo ga mo)) :: (gl g (mkG 0 (fun _ => 0) (fun _ => 0) (fun _ => 0) []) [] ++ l)) s)
    (h : ∀ nA aA pA s', St prog w B ((L, .ns (lwF sc sta b0 a0 gm ot (some (.int (N : Nat) ts)) (some (.ref g.x)) la va wo ga mo)) :: (gl g (mkG (N + 2) nA aA pA []) [] ++ l)) s' → Q .next s') :
    WP prog w A (exec (nthS (bodyS dLaw) 8) (lwEnv L fa cd cR chd cco ck csc cn)) Q s := by
  have F := fm_lw L fa cd cR chd cco ck csc cn
  show WP prog w A (exec (.Expr _ _) _) Q s
  refine wpAny_Expr_any ?_
  refine ev_meth ?_
  k_fold
  intro pl
  refine gm_inst (T.X.keeps H.keep) (H.inst (kvs := gdict g) (by tb_start) (by tb_start)) T.m_add_nodes_from (by rfl) ?_
  refine call_pos ?_
  refine sp_cons ?_
  refine ev_call_name ?_
  refine ev_blt F H T.toTp (by tb_start) T.gb_range rfl (by decide) ?_
  refine call_pos ?_
  refine sp_cons ?_
  k_fold
  refine op_add H ?_
  clear H; intro tp s H
  refine sp_nil ⟨keeps_type, ?_⟩
  refine range1 H ?_
  clear H; intro rg s H
  have e : ((N : Nat) : Int) + 2 = ((N + 2 : Nat) : Int) := by omega
  rw [e] at H
  refine sp_nil ⟨(T.g_add_nodes_from.keeps H.keep).keeper, call_of ?_⟩
  have H1 : St prog w B (gl g (mkG 0 (fun _ => 0) (fun _ => 0) (fun _ => 0) []) [] ++ ((rg, soRg ((N + 2 : Nat) : Int)) :: (L, .ns (lwF sc sta b0 a0 gm ot (some (.int (N : Nat) ts)) (some (.ref g.x)) la va wo ga mo)) :: l)) s := H.sel (by k_sub)
  clear H
  refine c_add_nodes (a := g) (ga := []) (N := N + 2) (so := soRange (N + 2)) (ok := fun _ => True) (P := fun i v ex => (∃ t, v = .int i t) ∧ ex = []) (R.less (by decide)) T (by omega) H1 ?_ ?_ ?_ ?_
  · intro A' l1 s1 Q1 R' H1 hQ
    refine iter_range (n := N + 2) H1 (by tb_start) (by omega) ?_
    intro it s2 H2
    exact hQ it s2 (fun t => it_range R'.none) H2
  · intro _; trivial
  · rintro i v ex ⟨⟨t, rfl⟩, rfl⟩
    exact ⟨t, rfl, rfl⟩
  clear H1; intro nA aA pA s H
  exact h nA aA pA s (H.sel (by k_sub))
/-- lacks = [] -/
theorem b_11 {sc sta b0 a0 gm ot so G la va wo ga mo : Option Value} (H : St prog w B ((L, .ns (lwF sc sta b0 a0 gm ot so G la va wo ga mo)) :: l) s)
    (h : ∀ La s', St prog w B ((La, .ls []) :: (L, .ns (lwF sc sta b0 a0 gm ot so G (some (.ref La)) va wo ga mo)) :: l) s' → Q .next s') :
    WP prog w A (exec (nthS (bodyS dLaw) 11) (lwEnv L fa cd cR chd cco ck csc cn)) Q s := by
  have F := fm_lw L fa cd cR chd cco ck csc cn
  show WP prog w A (exec (.Assign [.Name _ _] _ _) _) Q s
  refine wpAny_Assign_Name ?_
  refine ev_List ?_
  refine sp_nil ?_
  refine new_list H (by show 0 ≤ sizeLine; decide) ?_
  clear H; intro La s H
  k_upd
  exact h La s H
end
end Mine

-- ML12
namespace Mine
open PySem PySem.W PySem.Calls PyProof.Rows Builtin Builtin.ObjectAttr

local macro_rules | `(tactic| tb_start) => `(tactic| first | with_reducible exact List.mem_cons_self | with_reducible assumption | (with_reducible apply List.mem_cons_of_mem; tb_start) | (with_reducible apply List.mem_append_left; tb_start) | (with_reducible apply List.mem_append_right; tb_start) | with_reducible exact g_x | with_reducible exact g_dx | with_reducible exact g_gr | with_reducible exact g_nd | with_reducible exact g_ad | with_reducible exact g_pr)
local macro_rules | `(tactic| tb_rel) => `(tactic| first | with_reducible exact Upd1.head | with_reducible exact Put.head | (with_reducible apply Upd1.tail; tb_rel) | (with_reducible apply Put.tail; tb_rel) | (with_reducible apply Upd1.right; tb_rel) | (with_reducible apply Upd1.append; tb_rel))
local macro_rules | `(tactic| k_ne) => `(tactic| first | (with_reducible apply Apart.head; tb_start) | (with_reducible apply Apart.head'; tb_start) | (with_reducible apply Apart.tail; k_ne))
local macro_rules | `(tactic| k_same) => `(tactic| first | with_reducible exact Split.head | (with_reducible apply Split.tail; k_same) | (with_reducible apply Split.skip; k_same))
local macro_rules | `(tactic| k_same2) => `(tactic| first | with_reducible exact SplitL.head | with_reducible exact SplitL.last | (with_reducible apply SplitL.tail; k_same2) | (with_reducible apply SplitL.skip; k_same2))
local macro_rules | `(tactic| k_sub) => `(tactic| first | with_reducible exact Sel.nil | with_reducible exact Sel.all | (with_reducible refine Sel.cons (by k_same) ?_; k_sub) | (with_reducible refine Sel.app (by k_same2) ?_; k_sub) | (with_reducible exact Sel.one (by k_same2)))
set_option hygiene false in
local macro_rules | `(tactic| k_flat) => `(tactic| simp only [frameOf, List.map_cons, List.map_nil, List.cons_append, List.nil_append, List.append_nil] at H)
set_option hygiene false in
local macro_rules | `(tactic| tb_lt) => `(tactic| first
  | (with_reducible refine ev_loc F H (by tb_start) (by tb_start) (by tb_start) ?_)
  | (with_reducible refine ev_int H ?_; clear H; intro _ s H)
  | (with_reducible refine ev_str H ?_; clear H; intro _ s H)
  | (with_reducible refine ev_none ?_)
  | (with_reducible refine ev_bool ?_)
  | (with_reducible refine ev_cel F H (by tb_start) (by tb_start) ?_)
  | (with_reducible refine Attribute_any_ ?_)
  | (with_reducible refine Subscript_ ?_)
  | (with_reducible refine wpAny_BinOp ?_)
  | (with_reducible refine wpAny_Compare1 ?_)
  | ((with_reducible show wpAny _ _ (getAttr _ _ _) _ _ _); refine at_own H T.X (H.inst (by tb_start) (by tb_start)) T.o__adj_395 (by rfl) (by rfl) ?_; clear H; intro s H)
  | ((with_reducible show wpAny _ _ (getAttr _ _ _) _ _ _); refine at_own H T.X (H.inst (by tb_start) (by tb_start)) T.o__node_395 (by rfl) (by rfl) ?_; clear H; intro s H)
  | ((with_reducible show wpAny _ _ (getAttr _ _ _) _ _ _); refine at_own H T.X (H.inst (by tb_start) (by tb_start)) T.o__pred_395 (by rfl) (by rfl) ?_; clear H; intro s H)
  | ((with_reducible show wpAny _ _ (getAttr _ _ _) _ _ _); refine at_own H T.X (H.inst (by tb_start) (by tb_start)) T.o_graph_395 (by rfl) (by rfl) ?_; clear H; intro s H))
set_option hygiene false in
local macro_rules | `(tactic| k_upd) => `(tactic| (refine st_loc2 F H (by tb_start) (by tb_start) (by tb_rel) (by tb_rel) ?_; clear H; intro s H))
set_option hygiene false in
local macro_rules | `(tactic| k_fold) => `(tactic| (repeat tb_lt))
set_option hygiene false in
local macro_rules | `(tactic| one_item) => `(tactic| (refine ev_call_name ?_; refine ev_glo F H T.toTp (by tb_start) T.gl__law_next ?_; refine call_pos ?_; refine sp_cons ?_; k_fold; refine sp_cons ?_; k_fold; refine sp_nil ⟨(T.p_next.keeps H.keep).keeper, call_of ?_⟩))


def dWin : Stmt := nthS (bodyS dLaw) 16
def dWinFor : Stmt := nthS (bodyS dWin) 1
def lGave : Expr := match nthS (bodyS dWinFor) 0 with | .Assign _ e _ => e | _ => .Constant .none 0 ⟨0, 0, 0, 0⟩
/-- the residual graph as the law reads it -/
structure RSeen (l : Ledger) (rg : GA) (N : Nat) (aR : Nat → Addr) (es : List Ed) (c f : Nat → Nat → Int) : Prop where
  x : (rg.x, .raw (instObj 395 rg.dx)) ∈ l
  dx : (rg.dx, .dS (gdict rg)) ∈ l
  ad : (rg.ad, .dI (rows aR N)) ∈ l
  row : ∀ i, i < N → (aR i, .dI (scOf es i)) ∈ l
  at_ : ∀ e ∈ es, (e.at_, .dS e.kv) ∈ l
  nd : (es.map fun e => (e.u, e.v)).Nodup
  ed : EdF c f es
theorem RSeen.more {l l' : Ledger} {rg : GA} {N : Nat} {aR : Nat → Addr} {es : List Ed} {c f : Nat → Nat → Int} (h : RSeen l rg N aR es c f) (hs : ∀ p ∈ l, p ∈ l') : RSeen l' rg N aR es c f :=
  ⟨hs _ h.x, hs _ h.dx, hs _ h.ad, fun i hi => hs _ (h.row i hi), fun e he => hs _ (h.at_ e he), h.nd, h.ed⟩
section
variable {w : World} {A : Around} {B : Bs} {l l' : Ledger} {s : Shared} {mg mb : Str → Option Value} {K : Frag} {v : Value} {env : Env} {a : Addr} {g rg : GA} {vs : List Value}
theorem ev_flow {n i x N : Nat} {tn ti t1 : Tok} {L fa cR chd cco ck csc cn C : Addr} {cd : Value} {x0 : Option Value} {aR : Nat → Addr} {es : List Ed} {c f : Nat → Nat → Int} {Q : Value → Shared → Prop} (R : Room A 3) (T : KP mg mb K B.h) (V : RSeen l rg N aR es c f) (hN : n + i < N) (hE : HasE es (n + i) x)
    (hck : (ck, .cell (some (.int (i : Nat) ti))) ∈ l) (hcn : (cn, .cell (some (.int (n : Nat) tn))) ∈ l) (hcR : (cR, .cell (some (.ref rg.x))) ∈ l) (hC : (C, .ns [(".0", x0), ("one", some (.int (x : Nat) t1))]) ∈ l)
    (H : St prog w B l s) (h : ∀ t s', St prog w B l s' → Q (.int (f (n + i) x) t) s') :
    WP prog w A (eval (match lGave with | .ListComp e _ _ _ => e | _ => .Constant .none 0 ⟨0, 0, 0, 0⟩) (compEnvC (scE lGave) [("n", cn), ("k", ck), ("R", cR)] C (lwEnv L fa cd cR chd cco ck csc cn))) Q s := by
  have FC := fm_comp (scope := scE lGave) (osc := scopeS dLaw) (qual := "law") (L := L) (f := fa) (C := C) (cdv := cd) (cl := [("n", cn), ("k", ck), ("R", cR)]) (cl0 := [("R", cR), ("held", chd), ("code", cco), ("k", ck), ("scores", csc), ("n", cn)]) (ns := [".0", "one"]) (csn := ["n", "k", "R"]) (gs := []) (by kernel_rfl) rfl
  have F := FC
  show WP prog w A (eval (.Subscript _ _ _) _) Q s
  k_fold
  refine op_add H ?_
  clear H; intro t2 s H
  have e1 : ((n : Nat) : Int) + (i : Nat) = ((n + i : Nat) : Int) := by omega
  rw [e1]
  refine sub_inst (T.X.keeps H.keep) (H.inst (kvs := gdict rg) V.x V.dx) T.sp_getitem T.fi192 T.fn192 (call_of ?_)
  refine c_getitem (a := rg) (kvs := rows aR N) ((R.less (by decide : 2 ≤ 3)).in1) T H V.x V.dx V.ad (rows_at hN) ?_
  clear H; intro s H
  obtain ⟨e, he, hu, hv⟩ := hE.get
  have hsc := sc_val V.nd he
  rw [hu, hv] at hsc
  k_fold
  refine sub_dI H (H.dI (V.row _ hN)) hsc ?_
  clear H; intro s H
  k_fold
  obtain ⟨t3, t4, hkv⟩ := V.ed e he
  refine sub_dS H (kvs := e.kv) (V.at_ e he) (v := .int (f (n + i) x) t4) (by rw [hkv, hu, hv]; rfl) ?_
  clear H; intro s H
  exact h _ s H
theorem b_gave {n i N : Nat} {r : Gm} {tn ti : Tok} {L fa cR chd cco ck csc cn D : Addr} {cd : Value} {sc st b0 a0 ot so G la va wo ga mo : Option Value} {gs : List Gm} {aR : Nat → Addr} {es : List Ed} {c f : Nat → Nat → Int} {Q : Flow → Shared → Prop} (R : Room A 4) (T : KP mg mb K B.h) (V : RSeen l rg N aR es c f) (hg : gs.length ≤ 20) (hr : gs[i]? = some r) (hN : n + i < N) (hE1 : HasE es (n + i) r.a) (hE2 : HasE es (n + i) r.b)
    (hck : (ck, .cell (some (.int (i : Nat) ti))) ∈ l) (hcn : (cn, .cell (some (.int (n : Nat) tn))) ∈ l) (hcR : (cR, .cell (some (.ref rg.x))) ∈ l) (hD : (D, .ls (gmV gs)) ∈ l) (hgT : ∀ p ∈ gmT gs, p ∈ l)
    (H : St prog w B ((L, .ns (lwF sc st b0 a0 (some (.ref D)) ot so G la va wo ga mo)) :: l) s)
    (h : ∀ E gv s', gv.map (·.1) = [f (n + i) r.a, f (n + i) r.b] → St prog w B ((E, .ls (iv gv)) :: (L, .ns (lwF sc st b0 a0 (some (.ref D)) ot so G la va wo (some (.ref E)) mo)) :: l) s' → Q .next s') :
    WP prog w A (exec (nthS (bodyS dWinFor) 0) (lwEnv L fa cd cR chd cco ck csc cn)) Q s := by
  have F := fm_lw L fa cd cR chd cco ck csc cn
  have hrm := List.mem_of_getElem? hr
  have hil := (List.getElem?_eq_some_iff.mp hr).1
  have hgl : (gmV gs).length = gs.length := by simp [gmV]
  have hq : (r.q, SO.tp [.int (r.a : Nat) r.ta, .int (r.b : Nat) r.tb]) ∈ l := hgT _ (List.mem_map.mpr ⟨r, hrm, rfl⟩)
  have hvk : (gmV gs)[i]? = some (.ref r.q) := by unfold gmV; rw [List.getElem?_map, hr]; rfl
  refine x_assign_comp (B := B) [".0", "one"] (by kernel_rfl) (by kernel_rfl) (cl := [("n", cn), ("k", ck), ("R", cR)]) (by kernel_rfl) ?_
  k_fold
  refine sub_list (vs := gmV gs) (H.isl (by tb_start)) (by omega) hvk (by omega) ?_
  refine iter_tup H (H.tpI (vs := [.int (r.a : Nat) r.ta, .int (r.b : Nat) r.tb]) (.tail _ hq)) ?_
  clear H; intro it s hne H
  refine ⟨_, H, fun E C s H => ?_⟩
  show codeAny (model prog w) A (.compStart _ 0 _ _ (compEnvC (scE lGave) [("n", cn), ("k", ck), ("R", cR)] C (lwEnv L fa cd cR chd cco ck csc cn))) _ _
  refine comp_start (g := ⟨_, _, _, _⟩) rfl rfl (fun Q hq' => iter_self_tup R.none (vs := [.int (r.a : Nat) r.ta, .int (r.b : Nat) r.tb]) (i := 0) hne (H.tpI (by tb_start)) H (by tb_start) hq') ?_
  have FC := fm_comp (scope := scE lGave) (osc := scopeS dLaw) (qual := "law") (L := L) (f := fa) (C := C) (cdv := cd) (cl := [("n", cn), ("k", ck), ("R", cR)]) (cl0 := [("R", cR), ("held", chd), ("code", cco), ("k", ck), ("scores", csc), ("n", cn)]) (ns := [".0", "one"]) (csn := ["n", "k", "R"]) (gs := []) (by kernel_rfl) rfl
  k_flat
  have H1 : St prog w B ((it, soTup r.q 0) :: (C, .ns [(".0", none), ("one", none)]) :: (E, .ls []) :: (L, .ns (lwF sc st b0 a0 (some (.ref D)) ot so G la va wo ga mo)) :: l) s := H.sel (by k_sub)
  clear H
  refine comp_loop (n := [Value.int (r.a : Nat) r.ta, .int (r.b : Nat) r.tb].length) (by rfl) (it_tup (vs := [Value.int (r.a : Nat) r.ta, .int (r.b : Nat) r.tb]) R.none hne (fun l' => (r.q, .tp [.int (r.a : Nat) r.ta, .int (r.b : Nat) r.tb]) ∈ l') fun l' s hm H => H.tpI hm) (fun j l' => ∃ gv x0 x1, gv.map (·.1) = [f (n + i) r.a, f (n + i) r.b].take j ∧ l' = (C, .ns [(".0", x0), ("one", x1)]) :: (E, .ls (iv gv)) :: (L, .ns (lwF sc st b0 a0 (some (.ref D)) ot so G la va wo ga mo)) :: l) ?_ H1 ⟨[], _, _, rfl, rfl⟩ ?_ ?_
  · rintro j l' ⟨gv, x0, x1, _, rfl⟩; tb_start
  · clear H1
    rintro j v ex l' s hj ⟨hv, rfl⟩ ⟨gv, x0, x1, hgv, rfl⟩ H
    simp only [List.nil_append] at H
    clear F
    have F := FC
    obtain ⟨x, tx, rfl, hx, htk⟩ : ∃ (x : Nat) (tx : Tok), v = .int (x : Nat) tx ∧ HasE es (n + i) x ∧ [f (n + i) r.a, f (n + i) r.b].take (j + 1) = [f (n + i) r.a, f (n + i) r.b].take j ++ [f (n + i) x] := by
      have hj2 : j = 0 ∨ j = 1 := by simp only [List.length_cons, List.length_nil] at hj; omega
      rcases hj2 with rfl | rfl
      · cases hv; exact ⟨_, _, rfl, hE1, rfl⟩
      · cases hv; exact ⟨_, _, rfl, hE2, rfl⟩
    refine wpAny_assign_Name ?_
    k_upd
    refine wpAny_bind ?_
    refine ev_flow (n := n) (i := i) (x := x) (N := N) (tn := tn) (ti := ti) (t1 := tx) (rg := rg) (es := es) (c := c) (f := f) (R.less (by decide)) T (V.more fun p hp => .tail _ (.tail _ (.tail _ (.tail _ hp)))) hN hx (by tb_start) (by tb_start) (by tb_start) (by tb_start) H ?_
    clear H; intro t3 s H
    have hl : (iv gv).length ≤ 2 := by rw [iv_len]; have := congrArg List.length hgv; rw [List.length_map] at this; rw [this, List.length_take]; simp only [List.length_cons, List.length_nil]; omega
    refine wpAny_bind (call_append (vs := iv gv) H (by rw [sizeLine_eq]; omega) (by tb_rel) ?_)
    clear H; intro s H
    refine wpAny_pure ?_
    refine ⟨_, ⟨gv ++ [(f (n + i) x, t3)], x0, some (.int (x : Nat) tx), ?_, rfl⟩, ?_⟩
    · rw [List.map_append, hgv, htk]; rfl
    · rw [iv_app]; exact H
  · clear H1
    rintro l' s ⟨gv, x0, x1, hgv, rfl⟩ H
    refine st_loc2 F H (by tb_start) (.tail _ (.tail _ (.head _))) (by tb_rel) (.tail (.tail .head)) ?_
    clear H; intro s H
    refine ⟨_, _, H, fun s' H' => h E gv s' hgv H'⟩
end
end Mine

-- ML13
namespace Mine
open PySem PySem.W PySem.Calls PyProof.Rows Builtin Builtin.ObjectAttr

local macro_rules | `(tactic| tb_start) => `(tactic| first | with_reducible exact List.mem_cons_self | with_reducible assumption | (with_reducible apply List.mem_cons_of_mem; tb_start) | (with_reducible apply List.mem_append_left; tb_start) | (with_reducible apply List.mem_append_right; tb_start) | with_reducible exact g_x | with_reducible exact g_dx | with_reducible exact g_gr | with_reducible exact g_nd | with_reducible exact g_ad | with_reducible exact g_pr)
local macro_rules | `(tactic| tb_rel) => `(tactic| first | with_reducible exact Upd1.head | with_reducible exact Put.head | (with_reducible apply Upd1.tail; tb_rel) | (with_reducible apply Put.tail; tb_rel) | (with_reducible apply Upd1.right; tb_rel) | (with_reducible apply Upd1.append; tb_rel))
local macro_rules | `(tactic| k_ne) => `(tactic| first | (with_reducible apply Apart.head; tb_start) | (with_reducible apply Apart.head'; tb_start) | (with_reducible apply Apart.tail; k_ne))
local macro_rules | `(tactic| k_same) => `(tactic| first | with_reducible exact Split.head | (with_reducible apply Split.tail; k_same) | (with_reducible apply Split.skip; k_same))
local macro_rules | `(tactic| k_same2) => `(tactic| first | with_reducible exact SplitL.head | with_reducible exact SplitL.last | (with_reducible apply SplitL.tail; k_same2) | (with_reducible apply SplitL.skip; k_same2))
local macro_rules | `(tactic| k_sub) => `(tactic| first | with_reducible exact Sel.nil | with_reducible exact Sel.all | (with_reducible refine Sel.cons (by k_same) ?_; k_sub) | (with_reducible refine Sel.app (by k_same2) ?_; k_sub) | (with_reducible exact Sel.one (by k_same2)))
set_option hygiene false in
local macro_rules | `(tactic| k_flat) => `(tactic| simp only [frameOf, List.map_cons, List.map_nil, List.cons_append, List.nil_append, List.append_nil] at H)
set_option hygiene false in
local macro_rules | `(tactic| tb_lt) => `(tactic| first
  | (with_reducible refine ev_loc F H (by tb_start) (by tb_start) (by tb_start) ?_)
  | (with_reducible refine ev_int H ?_; clear H; intro _ s H)
  | (with_reducible refine ev_str H ?_; clear H; intro _ s H)
  | (with_reducible refine ev_none ?_)
  | (with_reducible refine ev_bool ?_)
  | (with_reducible refine ev_cel F H (by tb_start) (by tb_start) ?_)
  | (with_reducible refine Attribute_any_ ?_)
  | (with_reducible refine Subscript_ ?_)
  | (with_reducible refine wpAny_BinOp ?_)
  | (with_reducible refine wpAny_Compare1 ?_)
  | ((with_reducible show wpAny _ _ (getAttr _ _ _) _ _ _); refine at_own H T.X (H.inst (by tb_start) (by tb_start)) T.o__adj_395 (by rfl) (by rfl) ?_; clear H; intro s H)
  | ((with_reducible show wpAny _ _ (getAttr _ _ _) _ _ _); refine at_own H T.X (H.inst (by tb_start) (by tb_start)) T.o__node_395 (by rfl) (by rfl) ?_; clear H; intro s H)
  | ((with_reducible show wpAny _ _ (getAttr _ _ _) _ _ _); refine at_own H T.X (H.inst (by tb_start) (by tb_start)) T.o__pred_395 (by rfl) (by rfl) ?_; clear H; intro s H)
  | ((with_reducible show wpAny _ _ (getAttr _ _ _) _ _ _); refine at_own H T.X (H.inst (by tb_start) (by tb_start)) T.o_graph_395 (by rfl) (by rfl) ?_; clear H; intro s H))
set_option hygiene false in
local macro_rules | `(tactic| k_upd) => `(tactic| (refine st_loc2 F H (by tb_start) (by tb_start) (by tb_rel) (by tb_rel) ?_; clear H; intro s H))
set_option hygiene false in
local macro_rules | `(tactic| k_fold) => `(tactic| (repeat tb_lt))
set_option hygiene false in
local macro_rules | `(tactic| one_item) => `(tactic| (refine ev_call_name ?_; refine ev_glo F H T.toTp (by tb_start) T.gl__law_next ?_; refine call_pos ?_; refine sp_cons ?_; k_fold; refine sp_cons ?_; k_fold; refine sp_nil ⟨(T.p_next.keeps H.keep).keeper, call_of ?_⟩))


/-- what each player has won in the first games -/
def wonT (n : Nat) (f : Nat → Nat → Int) (i : Nat) : List Int := (List.range n).map fun p => sumN i fun j => f (n + j) p
theorem won_step {n i p : Nat} {f : Nat → Nat → Int} {ws : List (Int × Tok)} {t : Tok} (hw : ws.map (·.1) = wonT n f i) (hp : p < n) (h1 : f (n + i) p = 1) (h0 : ∀ q, q < n → q ≠ p → f (n + i) q = 0) (hl : p < ws.length) :
    (ws.set p (ws[p].1 + 1, t)).map (·.1) = wonT n f (i + 1) := by
  have hlen : ws.length = n := by have := congrArg List.length hw; rw [List.length_map] at this; rw [this]; simp [wonT]
  have hwp : ∀ q (hq : q < n), (ws[q]'(by omega)).1 = sumN i fun j => f (n + j) q := fun q hq => by
    have : (ws.map (·.1))[q]? = (wonT n f i)[q]? := by rw [hw]
    rw [List.getElem?_map, List.getElem?_eq_getElem (by omega)] at this
    unfold wonT at this
    rw [List.getElem?_map, List.getElem?_range hq] at this
    exact Option.some.inj this
  have hw1 : ∀ q (hq : q < (wonT n f (i + 1)).length), (wonT n f (i + 1))[q] = sumN (i + 1) fun j => f (n + j) q := fun q hq => by
    unfold wonT at hq ⊢
    rw [List.getElem_map, List.getElem_range]
  rw [List.map_set]
  refine List.ext_getElem (by simp [wonT, hlen]) fun q hq1 hq2 => ?_
  have hq : q < n := by simpa [wonT] using hq2
  rw [hw1 q hq2, List.getElem_set, sumN_succ]
  by_cases e : p = q
  · subst e
    rw [if_pos rfl, h1]
    show ws[p].1 + 1 = _
    rw [hwp p hp]
  · rw [if_neg e, h0 q hq (Ne.symm e), List.getElem_map, hwp q hq, Int.add_zero]
theorem zero_one {ns : List Int} {x y : Int} (hp : ns.Perm [x, y]) (hs : ns.Pairwise (· ≤ ·)) (h : (x = 1 ∧ y = 0) ∨ (x = 0 ∧ y = 1)) : ns = [0, 1] := by
  have hl := hp.length_eq
  match ns, hl with
  | [u, v], _ =>
    have m0 : (0 : Int) ∈ [u, v] := hp.mem_iff.mpr (by rcases h with ⟨rfl, rfl⟩ | ⟨rfl, rfl⟩ <;> simp)
    have m1 : (1 : Int) ∈ [u, v] := hp.mem_iff.mpr (by rcases h with ⟨rfl, rfl⟩ | ⟨rfl, rfl⟩ <;> simp)
    have huv : u ≤ v := by simpa using hs
    simp only [List.mem_cons, List.not_mem_nil, or_false] at m0 m1
    have : u = 0 ∧ v = 1 := by omega
    rw [this.1, this.2]
section
variable {w : World} {A : Around} {B : Bs} {l l' : Ledger} {s : Shared} {mg mb : Str → Option Value} {K : Frag} {v : Value} {env : Env} {a : Addr} {g rg : GA} {vs : List Value}
theorem b_winfor {n N : Nat} {tn : Tok} {L fa cR chd cco ck csc cn D W : Addr} {cd : Value} {kv sc st b0 a0 ot so G la va ga mo : Option Value} {gs : List Gm} {ws : List (Int × Tok)} {aR : Nat → Addr} {es : List Ed} {c f : Nat → Nat → Int} {Q : Flow → Shared → Prop} (R : Room A 10) (T : KP mg mb K B.h) (V : RSeen l rg N aR es c f) (hn : n ≤ 5) (hg : gs.length ≤ 20) (hgs : ∀ r ∈ gs, r.a < r.b ∧ r.b < n) (hN : N = n + gs.length + 2)
    (hE : ∀ j r, gs[j]? = some r → HasE es (n + j) r.a ∧ HasE es (n + j) r.b)
    (hW : ∀ j r, gs[j]? = some r → ((f (n + j) r.a = 1 ∧ f (n + j) r.b = 0) ∨ (f (n + j) r.a = 0 ∧ f (n + j) r.b = 1)) ∧ ∀ p, p < n → p ≠ r.a → p ≠ r.b → f (n + j) p = 0)
    (hcn : (cn, .cell (some (.int (n : Nat) tn))) ∈ l) (hcR : (cR, .cell (some (.ref rg.x))) ∈ l) (hD : (D, .ls (gmV gs)) ∈ l) (hgT : ∀ p ∈ gmT gs, p ∈ l) (hw : ws.map (·.1) = wonT n f 0)
    (H : St prog w B ((W, .lw (iv ws)) :: (ck, .cell kv) :: (L, .ns (lwF sc st b0 a0 (some (.ref D)) ot so G la va (some (.ref W)) ga mo)) :: l) s)
    (h : ∀ ws kv' ga' s', ws.map (·.1) = wonT n f gs.length → St prog w B ((W, .lw (iv ws)) :: (ck, .cell kv') :: (L, .ns (lwF sc st b0 a0 (some (.ref D)) ot so G la va (some (.ref W)) ga' mo)) :: l) s' → Q .next s') :
    WP prog w A (exec dWinFor (lwEnv L fa cd cR chd cco ck csc cn)) Q s := by
  have F := fm_lw L fa cd cR chd cco ck csc cn
  have hgl : (gmV gs).length = gs.length := by simp [gmV]
  show WP prog w A (exec (.For (.Name _ _) _ _ _ _) _) Q s
  refine x_for ?_
  refine ev_call_name ?_
  refine ev_blt F H T.toTp (by tb_start) T.gb_range rfl (by decide) ?_
  refine call_pos ?_
  refine sp_cons ?_
  refine ev_call_name ?_
  refine ev_blt F H T.toTp (by tb_start) T.gb_len rfl (by decide) ?_
  refine call_pos ?_
  refine sp_cons ?_
  k_fold
  refine sp_nil ⟨keeps_blt, ?_⟩
  refine len_ (vs := gmV gs) H (H.isl (by tb_start)) (by omega) ?_
  clear H; intro tl s H
  refine sp_nil ⟨keeps_type, ?_⟩
  refine range1 H ?_
  clear H; intro rr s H
  rw [hgl] at H
  refine iter_range (n := gs.length) H (by tb_start) (by omega) ?_
  clear H; intro it s H
  replace H : St prog w B ((it, soRange gs.length 0) :: ((W, .lw (iv ws)) :: (ck, .cell kv) :: (L, .ns (lwF sc st b0 a0 (some (.ref D)) ot so G la va (some (.ref W)) ga mo)) :: l)) s := H.sel (by k_sub)
  refine for_it (n := gs.length) (it_range R.none) (fun i l' => ∃ ws kv' ga', ws.map (·.1) = wonT n f i ∧ l' = (W, .lw (iv ws)) :: (ck, .cell kv') :: (L, .ns (lwF sc st b0 a0 (some (.ref D)) ot so G la va (some (.ref W)) ga' mo)) :: l) (fun _ _ _ => trivial) H ⟨ws, _, _, hw, rfl⟩ ?_ ?_
  · clear H hw ws
    rintro i v ex l' s hi' ⟨⟨ti, rfl⟩, rfl⟩ ⟨ws, kv', ga', hw, rfl⟩ H
    simp only [List.nil_append] at H
    have hr : gs[i]? = some gs[i] := List.getElem?_eq_getElem hi'
    generalize gs[i] = r at hr
    have hrm := List.mem_of_getElem? hr
    obtain ⟨hab, hbn⟩ := hgs _ hrm
    obtain ⟨hE1, hE2⟩ := hE _ _ hr
    obtain ⟨hW1, hW2⟩ := hW _ _ hr
    have hq : (r.q, SO.tp [.int (r.a : Nat) r.ta, .int (r.b : Nat) r.tb]) ∈ l := hgT _ (List.mem_map.mpr ⟨r, hrm, rfl⟩)
    have hvk : (gmV gs)[i]? = some (.ref r.q) := by unfold gmV; rw [List.getElem?_map, hr]; rfl
    have hlen : ws.length = n := by have := congrArg List.length hw; rw [List.length_map] at this; rw [this]; simp [wonT]
    refine wpAny_assign_Name ?_
    refine st_cel F H (c := ck) (by tb_start) (by kernel_rfl) (by tb_rel) ?_
    clear H; intro s H
    -- gave = [..]
    refine x_cons ?_
    have H1 : St prog w B ((L, .ns (lwF sc st b0 a0 (some (.ref D)) ot so G la va (some (.ref W)) ga' mo)) :: ((it, soRange gs.length (i + 1)) :: (W, .lw (iv ws)) :: (ck, .cell (some (.int (i : Nat) ti))) :: l)) s := H.sel (by k_sub)
    clear H
    refine b_gave (n := n) (i := i) (r := r) (N := N) (tn := tn) (ti := ti) (rg := rg) (gs := gs) (es := es) (c := c) (f := f) (aR := aR) (R.less (by decide)) T (V.more fun p hp => .tail _ (.tail _ (.tail _ hp))) hg hr (by omega) hE1 hE2 (by tb_start) (by tb_start) (by tb_start) (by tb_start) (fun p hp => by have := hgT p hp; tb_start) H1 ?_
    clear H1; intro E gv s hgv H
    show WP _ _ _ (execs ((bodyS dWinFor).drop 1) (lwEnv L fa cd cR chd cco ck csc cn)) _ _
    -- if sorted(gave) != [0, 1]
    refine x_cons (st := .If _ _ _ _) (wpAny_If ?_)
    refine wpAny_isTrue_Compare1 ?_
    refine ev_call_name ?_
    refine ev_blt F H T.toTp (by tb_start) T.gb_sorted rfl (by decide) ?_
    refine call_pos ?_
    refine sp_cons ?_
    k_fold
    refine sp_nil ⟨keeps_blt, ?_⟩
    have hgvl : (iv gv).length = 2 := by rw [iv_len]; have := congrArg List.length hgv; rw [List.length_map] at this; exact this
    refine sorted_ls H (H.isl (vs := iv gv) (by tb_start)) (iv_ints gv) (by omega) ?_
    clear H; intro so1 vs1 ns1 s hi1 hp1 hs1 H
    rw [hgv] at hp1
    have e01 := zero_one hp1 hs1 hW1
    subst e01
    refine ev_List ?_
    refine sp_cons ?_
    k_fold
    refine sp_cons ?_
    k_fold
    refine sp_nil ?_
    refine new_list H (by show 2 ≤ sizeLine; decide) ?_
    clear H; intro li s H
    refine ne_intsK (ns := [0, 1]) (ms := [0, 1]) (H.isl (vs := vs1) (by tb_start)) hi1 (H.isl (by tb_start)) (.cons _ _ (.cons _ _ .nil)) (by have := R.un; omega) ?_
    rw [decide_eq_true (rfl : ([0, 1] : List Int) = [0, 1])]
    refine wpAny_truthy_bool ?_
    rw [if_neg (by decide)]
    refine x_nil ?_
    -- won[games[k][gave.index(1)]] += 1
    refine x_one (st := .AugAssign (.Subscript _ _ _) _ _ _) (wpAny_AugAssign_SubscriptAny ?_)
    k_fold
    refine sub_list (vs := gmV gs) (H.isl (by tb_start)) (by omega) hvk (by omega) ?_
    refine ev_meth ?_
    k_fold
    intro pl
    refine gm_index H (vs := iv gv) (by tb_start) ?_
    refine call_pos ?_
    refine sp_cons ?_
    k_fold
    refine sp_nil ⟨keeps_blt, ?_⟩
    have hin : (1 : Int) ∈ gv.map (·.1) := by rw [hgv]; rcases hW1 with ⟨e1, _⟩ | ⟨_, e1⟩ <;> simp [e1]
    refine index_list_ints (H.isl (vs := iv gv) (by tb_start)) (iv_ints gv) (by rw [hgv]; rcases hW1 with ⟨e1, e2⟩ | ⟨e1, e2⟩ <;> rw [e1, e2] <;> decide +kernel) hin ?_
    replace H := H.tok (s.toks + 1)
    rw [hgv]
    obtain ⟨p, tp, hpx, hpn, hf1, hf0⟩ : ∃ (p : Nat) (tp : Tok), [Value.int (r.a : Nat) r.ta, .int (r.b : Nat) r.tb][(((List.idxOf 1 [f (n + i) r.a, f (n + i) r.b] : Nat) : Int)).toNat]? = some (.int (p : Nat) tp) ∧ p < n ∧ f (n + i) p = 1 ∧ ∀ q, q < n → q ≠ p → f (n + i) q = 0 := by
      rcases hW1 with ⟨e1, e2⟩ | ⟨e1, e2⟩
      · rw [e1, e2]
        refine ⟨r.a, r.ta, rfl, by omega, e1, fun q hq hne => ?_⟩
        by_cases hqb : q = r.b
        · rw [hqb]; exact e2
        · exact hW2 q hq hne hqb
      · rw [e1, e2]
        refine ⟨r.b, r.tb, rfl, by omega, e2, fun q hq hne => ?_⟩
        by_cases hqa : q = r.a
        · rw [hqa]; exact e1
        · exact hW2 q hq hqa hne
    refine sub_tup H (vs := [.int (r.a : Nat) r.ta, .int (r.b : Nat) r.tb]) (by tb_start) (by omega) hpx (by simp) ?_
    have hpl : p < ws.length := by omega
    refine get_list (vs := iv ws) (H.islw (by tb_start)) (by omega) (iv_at hpl) (by rw [iv_len]; omega) ?_
    k_fold
    refine op_iadd H ?_
    clear H; intro t4 s H
    have H1 : St prog w B ((it, soRange gs.length (i + 1)) :: (W, .lw (iv ws)) :: (ck, .cell (some (.int (i : Nat) ti))) :: (L, .ns (lwF sc st b0 a0 (some (.ref D)) ot so G la va (some (.ref W)) (some (.ref E)) mo)) :: l) s := H.sel (by k_sub)
    clear H
    refine set_lw (vs := iv ws) H1 (by omega) (by rw [iv_len]; omega) (by rw [iv_len]; omega) (.tail .head) ?_
    clear H1; intro s H
    have e1 : (iv ws).set ((p : Int).toNat) (.int (ws[p].1 + 1) t4) = iv (ws.set p (ws[p].1 + 1, t4)) := iv_set _ _ _ _
    rw [e1] at H
    exact ⟨_, ⟨ws.set p (ws[p].1 + 1, t4), _, _, won_step hw hpn hf1 hf0 hpl, rfl⟩, H⟩
  · clear H
    rintro l' s ⟨ws, kv', ga', hw, rfl⟩ H
    refine x_nil ?_
    exact h ws kv' ga' s hw H
end
end Mine

-- ML14
namespace Mine
open PySem PySem.W PySem.Calls PyProof.Rows Builtin Builtin.ObjectAttr

local macro_rules | `(tactic| tb_start) => `(tactic| first | with_reducible exact List.mem_cons_self | with_reducible assumption | (with_reducible apply List.mem_cons_of_mem; tb_start) | (with_reducible apply List.mem_append_left; tb_start) | (with_reducible apply List.mem_append_right; tb_start) | with_reducible exact g_x | with_reducible exact g_dx | with_reducible exact g_gr | with_reducible exact g_nd | with_reducible exact g_ad | with_reducible exact g_pr)
local macro_rules | `(tactic| tb_rel) => `(tactic| first | with_reducible exact Upd1.head | with_reducible exact Put.head | (with_reducible apply Upd1.tail; tb_rel) | (with_reducible apply Put.tail; tb_rel) | (with_reducible apply Upd1.right; tb_rel) | (with_reducible apply Upd1.append; tb_rel))
local macro_rules | `(tactic| k_ne) => `(tactic| first | (with_reducible apply Apart.head; tb_start) | (with_reducible apply Apart.head'; tb_start) | (with_reducible apply Apart.tail; k_ne))
local macro_rules | `(tactic| k_same) => `(tactic| first | with_reducible exact Split.head | (with_reducible apply Split.tail; k_same) | (with_reducible apply Split.skip; k_same))
local macro_rules | `(tactic| k_same2) => `(tactic| first | with_reducible exact SplitL.head | with_reducible exact SplitL.last | (with_reducible apply SplitL.tail; k_same2) | (with_reducible apply SplitL.skip; k_same2))
local macro_rules | `(tactic| k_sub) => `(tactic| first | with_reducible exact Sel.nil | with_reducible exact Sel.all | (with_reducible refine Sel.cons (by k_same) ?_; k_sub) | (with_reducible refine Sel.app (by k_same2) ?_; k_sub) | (with_reducible exact Sel.one (by k_same2)))
set_option hygiene false in
local macro_rules | `(tactic| k_flat) => `(tactic| simp only [frameOf, List.map_cons, List.map_nil, List.cons_append, List.nil_append, List.append_nil] at H)
set_option hygiene false in
local macro_rules | `(tactic| tb_lt) => `(tactic| first
  | (with_reducible refine ev_loc F H (by tb_start) (by tb_start) (by tb_start) ?_)
  | (with_reducible refine ev_int H ?_; clear H; intro _ s H)
  | (with_reducible refine ev_str H ?_; clear H; intro _ s H)
  | (with_reducible refine ev_none ?_)
  | (with_reducible refine ev_bool ?_)
  | (with_reducible refine ev_cel F H (by tb_start) (by tb_start) ?_)
  | (with_reducible refine Attribute_any_ ?_)
  | (with_reducible refine Subscript_ ?_)
  | (with_reducible refine wpAny_BinOp ?_)
  | (with_reducible refine wpAny_Compare1 ?_)
  | ((with_reducible show wpAny _ _ (getAttr _ _ _) _ _ _); refine at_own H T.X (H.inst (by tb_start) (by tb_start)) T.o__adj_395 (by rfl) (by rfl) ?_; clear H; intro s H)
  | ((with_reducible show wpAny _ _ (getAttr _ _ _) _ _ _); refine at_own H T.X (H.inst (by tb_start) (by tb_start)) T.o__node_395 (by rfl) (by rfl) ?_; clear H; intro s H)
  | ((with_reducible show wpAny _ _ (getAttr _ _ _) _ _ _); refine at_own H T.X (H.inst (by tb_start) (by tb_start)) T.o__pred_395 (by rfl) (by rfl) ?_; clear H; intro s H)
  | ((with_reducible show wpAny _ _ (getAttr _ _ _) _ _ _); refine at_own H T.X (H.inst (by tb_start) (by tb_start)) T.o_graph_395 (by rfl) (by rfl) ?_; clear H; intro s H))
set_option hygiene false in
local macro_rules | `(tactic| k_upd) => `(tactic| (refine st_loc2 F H (by tb_start) (by tb_start) (by tb_rel) (by tb_rel) ?_; clear H; intro s H))
set_option hygiene false in
local macro_rules | `(tactic| k_fold) => `(tactic| (repeat tb_lt))
set_option hygiene false in
local macro_rules | `(tactic| one_item) => `(tactic| (refine ev_call_name ?_; refine ev_glo F H T.toTp (by tb_start) T.gl__law_next ?_; refine call_pos ?_; refine sp_cons ?_; k_fold; refine sp_cons ?_; k_fold; refine sp_nil ⟨(T.p_next.keeps H.keep).keeper, call_of ?_⟩))


section
variable {w : World} {A : Around} {B : Bs} {l l' : Ledger} {s : Shared} {mg mb : Str → Option Value} {K : Frag} {v : Value} {env : Env} {a : Addr} {g rg : GA} {vs : List Value}
theorem b_win {n N : Nat} {V : Int} {tn tv : Tok} {L fa cR chd cco ck csc cn D S : Addr} {cd : Value} {kv sc st b0 a0 ot so G la wo ga mo : Option Value} {gs : List Gm} {zs : List (Int × Tok)} {aR : Nat → Addr} {es : List Ed} {c f : Nat → Nat → Int} {Q : Flow → Shared → Prop} (R : Room A 11) (T : KP mg mb K B.h) (U : RSeen l rg N aR es c f) (hn : n ≤ 5) (hg : gs.length ≤ 20) (hgs : ∀ r ∈ gs, r.a < r.b ∧ r.b < n) (hN : N = n + gs.length + 2) (hz : zs.length = n) (hb : Bd 1000 zs)
    (hE : ∀ j r, gs[j]? = some r → HasE es (n + j) r.a ∧ HasE es (n + j) r.b)
    (hW : V = gs.length → (zs.map (·.1)).sum = gs.length → (∀ j r, gs[j]? = some r → ((f (n + j) r.a = 1 ∧ f (n + j) r.b = 0) ∨ (f (n + j) r.a = 0 ∧ f (n + j) r.b = 1)) ∧ ∀ p, p < n → p ≠ r.a → p ≠ r.b → f (n + j) p = 0) ∧ ∀ p, p < n → sumN gs.length (fun j => f (n + j) p) = scF zs p)
    (hcn : (cn, .cell (some (.int (n : Nat) tn))) ∈ l) (hcR : (cR, .cell (some (.ref rg.x))) ∈ l) (hcs : (csc, .cell (some (.ref S))) ∈ l) (hS : (S, .lw (iv zs)) ∈ l) (hD : (D, .ls (gmV gs)) ∈ l) (hgT : ∀ p ∈ gmT gs, p ∈ l)
    (H : St prog w B ((ck, .cell kv) :: (L, .ns (lwF sc st b0 a0 (some (.ref D)) ot so G la (some (.int V tv)) wo ga mo)) :: l) s)
    (h : ∀ kv' wo' ga' s', St prog w B ((ck, .cell kv') :: (L, .ns (lwF sc st b0 a0 (some (.ref D)) ot so G la (some (.int V tv)) wo' ga' mo)) :: l) s' → Q .next s') :
    WP prog w A (exec (nthS (bodyS dLaw) 16) (lwEnv L fa cd cR chd cco ck csc cn)) Q s := by
  have F := fm_lw L fa cd cR chd cco ck csc cn
  have hgl : (gmV gs).length = gs.length := by simp [gmV]
  show WP prog w A (exec (.If _ _ _ _) _) Q s
  refine wpAny_If ?_
  refine wpAny_isTrue_BoolOp ?_
  refine wpAny_allTrue_And_cons ?_
  refine wpAny_isTrue_Compare1 ?_
  k_fold
  refine ev_call_name ?_
  refine ev_blt F H T.toTp (by tb_start) T.gb_len rfl (by decide) ?_
  refine call_pos ?_
  refine sp_cons ?_
  k_fold
  refine sp_nil ⟨keeps_blt, ?_⟩
  refine len_ (vs := gmV gs) H (H.isl (by tb_start)) (by omega) ?_
  clear H; intro tl s H
  rw [hgl]
  refine PyProof.Rows.eq_int ?_
  refine wpAny_truthy_bool ?_
  by_cases e1 : V = (gs.length : Int)
  case neg =>
    rw [show (V == (gs.length : Int)) = false from beq_eq_false_iff_ne.mpr e1, if_neg (by decide), if_neg (by decide)]
    exact x_nil (h _ _ _ _ H)
  rw [show (V == (gs.length : Int)) = true from beq_iff_eq.mpr e1, if_pos (by rfl)]
  refine wpAny_allTrue_And_cons ?_
  refine wpAny_isTrue_Compare1 ?_
  refine ev_call_name ?_
  refine ev_blt F H T.toTp (by tb_start) T.gb_sum rfl (by decide) ?_
  refine call_pos ?_
  refine sp_cons ?_
  k_fold
  refine sp_nil ⟨keeps_blt, ?_⟩
  refine sum_ls R.none H (H.islw (vs := iv zs) (by tb_start)) (iv_ints zs) (fun x hx => by obtain ⟨z, hz', rfl⟩ := List.mem_map.mp hx; have := hb z hz'; omega) (by rw [List.length_map]; omega) ?_
  clear H; intro ts s H
  refine ev_call_name ?_
  refine ev_blt F H T.toTp (by tb_start) T.gb_len rfl (by decide) ?_
  refine call_pos ?_
  refine sp_cons ?_
  k_fold
  refine sp_nil ⟨keeps_blt, ?_⟩
  refine len_ (vs := gmV gs) H (H.isl (by tb_start)) (by omega) ?_
  clear H; intro tl2 s H
  rw [hgl]
  refine PyProof.Rows.eq_int ?_
  refine wpAny_truthy_bool ?_
  by_cases e2 : (zs.map (·.1)).sum = (gs.length : Int)
  case neg =>
    rw [show ((zs.map (·.1)).sum == (gs.length : Int)) = false from beq_eq_false_iff_ne.mpr e2, if_neg (by decide), if_neg (by decide)]
    exact x_nil (h _ _ _ _ H)
  rw [show ((zs.map (·.1)).sum == (gs.length : Int)) = true from beq_iff_eq.mpr e2, if_pos (by rfl)]
  refine wpAny_allTrue_And_nil ?_
  rw [if_pos (by rfl)]
  obtain ⟨hW1, hW2⟩ := hW e1 e2
  -- won = [0] * n
  refine x_cons (st := .Assign [.Name _ _] _ _) (wpAny_Assign_Name ?_)
  k_fold
  refine ev_List ?_
  refine sp_cons ?_
  k_fold
  refine sp_nil ?_
  refine new_list H (by show 1 ≤ sizeLine; decide) ?_
  clear H; intro z s H
  k_fold
  refine op_lmul H (by tb_start) (by omega) ?_
  clear H; intro W s H
  replace H := H.weak .head
  k_upd
  have e : ∀ t, List.replicate n (Value.int 0 t) = iv (List.replicate n (0, t)) := fun t => by unfold iv; rw [List.map_replicate]
  rw [e] at H
  refine x_cons ?_
  show WP _ _ _ (exec dWinFor (lwEnv L fa cd cR chd cco ck csc cn)) _ _
  have H1 : St prog w B ((W, .lw (iv (List.replicate n (0, _)))) :: (ck, .cell kv) :: (L, .ns (lwF sc st b0 a0 (some (.ref D)) ot so G la (some (.int V tv)) (some (.ref W)) ga mo)) :: l) s := H.sel (by k_sub)
  clear H
  refine b_winfor (n := n) (N := N) (tn := tn) (gs := gs) (rg := rg) (es := es) (c := c) (f := f) (aR := aR) (R.less (by decide)) T U hn hg hgs hN hE hW1 (by tb_start) (by tb_start) (by tb_start) hgT ?_ H1 ?_
  · unfold wonT
    rw [List.map_replicate]
    refine List.ext_getElem (by simp) fun q h1 h2 => ?_
    simp [sumN]
  clear H1; intro ws kv' ga' s hw H
  show WP _ _ _ (execs ((bodyS dWin).drop 2) (lwEnv L fa cd cR chd cco ck csc cn)) _ _
  refine x_one (st := .If _ _ _ _) (wpAny_If ?_)
  refine wpAny_isTrue_Compare1 ?_
  k_fold
  have e3 : ws.map (·.1) = zs.map (·.1) := by
    rw [hw]
    unfold wonT
    refine List.ext_getElem (by simp [hz]) fun q h1 h2 => ?_
    have hq : q < n := by simpa using h1
    rw [List.getElem_map, List.getElem_range, hW2 q hq, scF_at (by omega), List.getElem_map]
  refine ne_intsK (H.islw (vs := iv ws) (by tb_start)) (iv_ints ws) (H.islw (vs := iv zs) (by tb_start)) (iv_ints zs) (by have := R.un; omega) ?_
  rw [decide_eq_true e3]
  refine wpAny_truthy_bool ?_
  rw [if_neg (by decide)]
  exact x_nil (h _ _ _ _ (H.sel (by k_sub)))
/-- most = _law_next(state, 12) -/
theorem b_17 {L fa cR chd cco ck csc cn st sl : Addr} {cd : Value} {sc b0 a0 gm ot so G la va wo ga mo : Option Value} {ns : List Int} {k : Int} {t : Tok} {Q : Flow → Shared → Prop} (R : Room A 3) (T : KP mg mb K B.h) (hi : IntsAre vs ns) (hlen : vs.length ≤ 63) (hk : 0 ≤ k) (hsl : (sl, .ls vs) ∈ l)
    (H : St prog w B ((st, .lw [.ref sl, .int k t]) :: (L, .ns (lwF sc (some (.ref st)) b0 a0 gm ot so G la va wo ga mo)) :: l) s)
    (h : ∀ M tM k' t' s', 0 ≤ M → St prog w B ((st, .lw [.ref sl, .int k' t']) :: (L, .ns (lwF sc (some (.ref st)) b0 a0 gm ot so G la va wo ga (some (.int M tM)))) :: l) s' → Q .next s') :
    WP prog w A (exec (nthS (bodyS dLaw) 17) (lwEnv L fa cd cR chd cco ck csc cn)) Q s := by
  have F := fm_lw L fa cd cR chd cco ck csc cn
  show WP prog w A (exec (.Assign [.Name _ _] _ _) _) Q s
  refine wpAny_Assign_Name ?_
  one_item
  refine c_next (ns := ns) (vs := vs) (k := k) (t := t) (sl := sl) (lf := fun so' => (st, so') :: (L, .ns (lwF sc (some (.ref st)) b0 a0 gm ot so G la va wo ga mo)) :: l) R T (fun so' => by tb_start) hi hlen hk (by decide) (fun so' => .head) H ?_
  clear H; intro x tx t2 s h0 h5 H
  k_upd
  exact h x tx (k + 1) t2 s h0 H
end
end Mine

-- ML15
namespace Mine
open PySem PySem.W PySem.Calls PyProof.Rows Builtin Builtin.ObjectAttr

local macro_rules | `(tactic| tb_start) => `(tactic| first | with_reducible exact List.mem_cons_self | with_reducible assumption | (with_reducible apply List.mem_cons_of_mem; tb_start) | (with_reducible apply List.mem_append_left; tb_start) | (with_reducible apply List.mem_append_right; tb_start) | with_reducible exact g_x | with_reducible exact g_dx | with_reducible exact g_gr | with_reducible exact g_nd | with_reducible exact g_ad | with_reducible exact g_pr)
local macro_rules | `(tactic| tb_rel) => `(tactic| first | with_reducible exact Upd1.head | with_reducible exact Put.head | (with_reducible apply Upd1.tail; tb_rel) | (with_reducible apply Put.tail; tb_rel) | (with_reducible apply Upd1.right; tb_rel) | (with_reducible apply Upd1.append; tb_rel))
local macro_rules | `(tactic| k_ne) => `(tactic| first | (with_reducible apply Apart.head; tb_start) | (with_reducible apply Apart.head'; tb_start) | (with_reducible apply Apart.tail; k_ne))
local macro_rules | `(tactic| k_same) => `(tactic| first | with_reducible exact Split.head | (with_reducible apply Split.tail; k_same) | (with_reducible apply Split.skip; k_same))
local macro_rules | `(tactic| k_same2) => `(tactic| first | with_reducible exact SplitL.head | with_reducible exact SplitL.last | (with_reducible apply SplitL.tail; k_same2) | (with_reducible apply SplitL.skip; k_same2))
local macro_rules | `(tactic| k_sub) => `(tactic| first | with_reducible exact Sel.nil | with_reducible exact Sel.all | (with_reducible refine Sel.cons (by k_same) ?_; k_sub) | (with_reducible refine Sel.app (by k_same2) ?_; k_sub) | (with_reducible exact Sel.one (by k_same2)))
set_option hygiene false in
local macro_rules | `(tactic| k_flat) => `(tactic| simp only [frameOf, List.map_cons, List.map_nil, List.cons_append, List.nil_append, List.append_nil] at H)
set_option hygiene false in
local macro_rules | `(tactic| tb_lt) => `(tactic| first
  | (with_reducible refine ev_loc F H (by tb_start) (by tb_start) (by tb_start) ?_)
  | (with_reducible refine ev_int H ?_; clear H; intro _ s H)
  | (with_reducible refine ev_str H ?_; clear H; intro _ s H)
  | (with_reducible refine ev_none ?_)
  | (with_reducible refine ev_bool ?_)
  | (with_reducible refine ev_cel F H (by tb_start) (by tb_start) ?_)
  | (with_reducible refine Attribute_any_ ?_)
  | (with_reducible refine Subscript_ ?_)
  | (with_reducible refine wpAny_BinOp ?_)
  | (with_reducible refine wpAny_Compare1 ?_)
  | ((with_reducible show wpAny _ _ (getAttr _ _ _) _ _ _); refine at_own H T.X (H.inst (by tb_start) (by tb_start)) T.o__adj_395 (by rfl) (by rfl) ?_; clear H; intro s H)
  | ((with_reducible show wpAny _ _ (getAttr _ _ _) _ _ _); refine at_own H T.X (H.inst (by tb_start) (by tb_start)) T.o__node_395 (by rfl) (by rfl) ?_; clear H; intro s H)
  | ((with_reducible show wpAny _ _ (getAttr _ _ _) _ _ _); refine at_own H T.X (H.inst (by tb_start) (by tb_start)) T.o__pred_395 (by rfl) (by rfl) ?_; clear H; intro s H)
  | ((with_reducible show wpAny _ _ (getAttr _ _ _) _ _ _); refine at_own H T.X (H.inst (by tb_start) (by tb_start)) T.o_graph_395 (by rfl) (by rfl) ?_; clear H; intro s H))
set_option hygiene false in
local macro_rules | `(tactic| k_upd) => `(tactic| (refine st_loc2 F H (by tb_start) (by tb_start) (by tb_rel) (by tb_rel) ?_; clear H; intro s H))
set_option hygiene false in
local macro_rules | `(tactic| k_fold) => `(tactic| (repeat tb_lt))
set_option hygiene false in
local macro_rules | `(tactic| one_item) => `(tactic| (refine ev_call_name ?_; refine ev_glo F H T.toTp (by tb_start) T.gl__law_next ?_; refine call_pos ?_; refine sp_cons ?_; k_fold; refine sp_cons ?_; k_fold; refine sp_nil ⟨(T.p_next.keeps H.keep).keeper, call_of ?_⟩))


section
variable {w : World} {A : Around} {B : Bs} {l l' : Ledger} {s : Shared} {mg mb : Str → Option Value} {K : Frag} {v : Value} {env : Env} {a : Addr} {g rg : GA} {vs : List Value}
theorem seen_gl {N : Nat} {nR aR pR : Nat → Addr} {es : List Ed} {c f : Nat → Nat → Int} {ga : List (Str × Value)} (nd : (es.map fun e => (e.u, e.v)).Nodup) (ed : EdF c f es) : RSeen (gl rg (mkG N nR aR pR es) ga) rg N aR es c f :=
  ⟨g_x, g_dx, g_ad, fun _ hi => g_aA (S := mkG N nR aR pR es) hi, fun e he => g_at (S := mkG N nR aR pR es) (p := (e.at_, e.kv)) (List.mem_map.mpr ⟨e, he, rfl⟩), nd, ed⟩
/-- the tables of made code, at the end -/
def Tabs3 (l : Ledger) : Prop := (∃ ps, (411, SO.raw (tabObj ps)) ∈ l) ∧ (∃ ps, (404, SO.raw (tabObj ps)) ∈ l) ∧ (∃ ps, (399, SO.raw (tabObj ps)) ∈ l)
theorem tn_a {n : Nat} {gs : List Gm} {zs : List (Int × Tok)} {j : Nat} {r : Gm} (hr : gs[j]? = some r) : (tnOf n gs zs).a j = r.a ∧ (tnOf n gs zs).b j = r.b := by
  constructor
  · show ((gs[j]?).map (·.a)).getD 0 = _; rw [hr]; rfl
  · show ((gs[j]?).map (·.b)).getD 0 = _; rw [hr]; rfl
theorem sc_sum {zs : List (Int × Tok)} {n : Nat} (hz : zs.length = n) : sumN n (scF zs) = (zs.map (·.1)).sum := by
  rw [← sumN_list]
  congr 1
  refine List.ext_getElem (by simp [hz]) fun q h1 h2 => ?_
  have hq : q < zs.length := by simpa using h2
  rw [List.getElem_map, List.getElem_range, List.getElem_map, scF_at hq]
theorem b_end {n : Nat} {tn ts : Tok} {nA aA pA : Nat → Addr} {L fa cR chd cco ck csc cn S st sl D La : Addr} {cd : Value} {c0 kv sc b0 a0 ot wo ga mo : Option Value} {zs : List (Int × Tok)} {gs : List Gm} {es : List Ed} {ls : List (Int × Tok)} {ns : List Int} {k : Int} {t : Tok} {Q : Flow → Shared → Prop} (R : Room A 27) (T : KP mg mb K B.h) (GK : Tn.GOk (tnOf n gs zs) es) (hn : n ≤ 5) (hg : gs.length ≤ 20) (hgs : ∀ r ∈ gs, r.a < r.b ∧ r.b < n) (hz : zs.length = n) (hb : Bd 1000 zs)
    (hls : ls.map (·.1) = (List.range (2 ^ n)).map (Tn.lackC (tnOf n gs zs))) (hi : IntsAre vs ns) (hlen : vs.length ≤ 63) (hk : 0 ≤ k)
    (hcn : (cn, .cell (some (.int (n : Nat) tn))) ∈ l) (hcs : (csc, .cell (some (.ref S))) ∈ l) (hS : (S, .lw (iv zs)) ∈ l) (hD : (D, .ls (gmV gs)) ∈ l) (hgT : ∀ p ∈ gmT gs, p ∈ l) (hsl : (sl, .ls vs) ∈ l) (hLa : (La, .ls (iv ls)) ∈ l)
    (H : St prog w B ((411, .raw (tabObj #[])) :: (404, .raw (tabObj #[])) :: (399, .raw (tabObj #[])) :: (gl g (mkG (n + gs.length + 2) nA aA pA es) [] ++ ((cR, .cell c0) :: (ck, .cell kv) :: (st, .lw [.ref sl, .int k t]) :: (L, .ns (lwF sc (some (.ref st)) b0 a0 (some (.ref D)) ot (some (.int ((n + gs.length : Nat) : Int) ts)) (some (.ref g.x)) (some (.ref La)) none wo ga mo)) :: l))) s)
    (h : ∀ l' s', Tabs3 l' → St prog w B l' s' → Q (.ret (.bool true)) s') :
    WP prog w A (execs ((bodyS dLaw).drop 13) (lwEnv L fa cd cR chd cco ck csc cn)) Q s := by
  have F := fm_lw L fa cd cR chd cco ck csc cn
  have hgl : (gmV gs).length = gs.length := by simp [gmV]
  -- R = edmonds_karp(G, source, source + 1)
  refine x_cons (st := .Assign [.Name _ _] _ _) (wpAny_Assign_Name ?_)
  refine ev_call_name ?_
  refine ev_glo F H T.toTp (by tb_start) T.gl_edmonds_karp ?_
  refine call_pos ?_
  refine sp_cons ?_
  k_fold
  refine sp_cons ?_
  k_fold
  refine sp_cons ?_
  k_fold
  refine op_add H ?_
  clear H; intro t1 s H
  have e1 : ((n + gs.length : Nat) : Int) + 1 = ((n + gs.length + 1 : Nat) : Int) := by omega
  rw [e1]
  refine sp_nil ⟨(T.p_ek.keeps H.keep).keeper, call_of ?_⟩
  refine c_ek_new (N := (tnOf n gs zs).N) (sN := (tnOf n gs zs).src) (tN := (tnOf n gs zs).snk) (g := g) (es := es) (R.less (by decide)) T GK.esOk GK.rlaw H ?_
  clear H; intro rg nR aR pR es1 ca cb c1 c2 tI k1 f tk tal s hi1 hed1 huv1 hsh1 H
  refine st_cel F H (c := cR) (by tb_start) (by kernel_rfl) (by tb_rel) ?_
  clear H; intro s H
  -- value = R.graph['flow_value']
  refine x_cons (st := .Assign [.Name _ _] _ _) (wpAny_Assign_Name ?_)
  k_fold
  refine sub_dS H (kvs := [(Str.ofString "inf", .int (infOf (capE es (tnOf n gs zs).N)) tI), (Str.ofString "flow_value", .int (k1 : Nat) tk), (Str.ofString "algorithm", .str (Str.ofString "edmonds_karp") tal)]) (by tb_start) (v := .int (k1 : Nat) tk) (by rfl) ?_
  clear H; intro s H
  k_upd
  -- if value != len(games) - max(lacks)
  refine x_cons (st := .If _ _ _ _) (wpAny_If ?_)
  refine wpAny_isTrue_Compare1 ?_
  k_fold
  refine ev_call_name ?_
  refine ev_blt F H T.toTp (by tb_start) T.gb_len rfl (by decide) ?_
  refine call_pos ?_
  refine sp_cons ?_
  k_fold
  refine sp_nil ⟨keeps_blt, ?_⟩
  refine len_ (vs := gmV gs) H (H.isl (by tb_start)) (by omega) ?_
  clear H; intro tl s H
  rw [hgl]
  refine ev_call_name ?_
  refine ev_blt F H T.toTp (by tb_start) T.gb_max rfl (by decide) ?_
  refine call_pos ?_
  refine sp_cons ?_
  k_fold
  refine sp_nil ⟨keeps_blt, ?_⟩
  have hne : ls.map (·.1) ≠ [] := by
    rw [hls]
    have := (pow_small hn).1
    intro e
    have := congrArg List.length e
    simp at this
  refine max_ls R.none H (H.isl (vs := iv ls) (by tb_start)) (iv_ints ls) hne ?_
  clear H; intro m tm s hm1 hm2 H
  refine op_sub H ?_
  clear H; intro td s H
  rw [hls] at hm1 hm2
  have hbest : (k1 : Int) = (tnOf n gs zs).g - m := by
    refine GK.best huv1 hi1 hsh1 (fun code hc => hm2 _ (List.mem_map_of_mem (List.mem_range.mpr hc))) ?_
    obtain ⟨code, hc, e⟩ := List.mem_map.mp hm1
    exact ⟨code, List.mem_range.mp hc, e⟩
  refine PyProof.Rows.ne_int ?_
  have e2 : ((k1 : Int) != (gs.length : Int) - m) = false := by
    have : (k1 : Int) = (gs.length : Int) - m := hbest
    simp [this]
  rw [e2]
  refine wpAny_truthy_bool ?_
  rw [if_neg (by decide)]
  refine x_nil ?_
  -- the winners
  refine x_cons ?_
  show WP _ _ _ (exec (nthS (bodyS dLaw) 16) (lwEnv L fa cd cR chd cco ck csc cn)) _ _
  have H1 : St prog w B ((ck, .cell kv) :: (L, .ns (lwF sc (some (.ref st)) b0 a0 (some (.ref D)) ot (some (.int ((n + gs.length : Nat) : Int) ts)) (some (.ref g.x)) (some (.ref La)) (some (.int (k1 : Nat) tk)) wo ga mo)) :: ((411, .raw (tabObj (corePs ca cb))) :: (ca, soCode augQ) :: (cb, soCode bfsQ) :: (gl rg (mkG (tnOf n gs zs).N nR aR pR es1) [(Str.ofString "inf", .int (infOf (capE es (tnOf n gs zs).N)) tI), (Str.ofString "flow_value", .int (k1 : Nat) tk), (Str.ofString "algorithm", .str (Str.ofString "edmonds_karp") tal)] ++ (gl g (mkG (tnOf n gs zs).N nA aA pA es) [] ++ ((404, .raw (tabObj (capPs c1))) :: (399, .raw (tabObj (genPs c2))) :: (cR, .cell (some (.ref rg.x))) :: (st, .lw [.ref sl, .int k t]) :: l))))) s := H.sel (by k_sub)
  clear H
  refine b_win (n := n) (N := (tnOf n gs zs).N) (V := (k1 : Nat)) (tn := tn) (rg := rg) (gs := gs) (zs := zs) (aR := aR) (es := es1) (f := f) (R.less (by decide)) T ((seen_gl (N := (tnOf n gs zs).N) (nR := nR) (pR := pR) (ga := [(Str.ofString "inf", .int (infOf (capE es (tnOf n gs zs).N)) tI), (Str.ofString "flow_value", .int (k1 : Nat) tk), (Str.ofString "algorithm", .str (Str.ofString "edmonds_karp") tal)]) (GK.rlaw.nd' huv1) hed1).more fun p hp => .tail _ (.tail _ (.tail _ (List.mem_append_left _ hp)))) hn hg hgs rfl hz hb ?_ ?_ (by tb_start) (by tb_start) (by tb_start) (by tb_start) (by tb_start) (fun p hp => by have := hgT p hp; tb_start) H1 ?_
  · intro j r hr
    have hj := (List.getElem?_eq_some_iff.mp hr).1
    have := GK.edge huv1 (j := j) hj
    rw [(tn_a hr).1, (tn_a hr).2] at this
    exact this
  · intro hV hsum
    have hk1 : k1 = (tnOf n gs zs).g := Int.ofNat_inj.mp hV
    rw [hk1] at hi1
    obtain ⟨w1, w2, w3⟩ := GK.won hi1 (by rw [show sumN (tnOf n gs zs).n (tnOf n gs zs).sc = (zs.map (·.1)).sum from sc_sum hz]; exact hsum)
    refine ⟨fun j r hr => ?_, w2⟩
    have hj := (List.getElem?_eq_some_iff.mp hr).1
    have h1 := w1 j hj
    have h3 := fun p hp => w3 j p hj hp
    rw [(tn_a hr).1, (tn_a hr).2] at h1
    rw [(tn_a hr).1, (tn_a hr).2] at h3
    exact ⟨h1, h3⟩
  clear H1; intro kv' wo' ga' s H
  -- most
  refine x_cons ?_
  show WP _ _ _ (exec (nthS (bodyS dLaw) 17) (lwEnv L fa cd cR chd cco ck csc cn)) _ _
  have H1 : St prog w B ((st, .lw [.ref sl, .int k t]) :: (L, .ns (lwF sc (some (.ref st)) b0 a0 (some (.ref D)) ot (some (.int ((n + gs.length : Nat) : Int) ts)) (some (.ref g.x)) (some (.ref La)) (some (.int (k1 : Nat) tk)) wo' ga' mo)) :: ((411, .raw (tabObj (corePs ca cb))) :: (ca, soCode augQ) :: (cb, soCode bfsQ) :: (gl rg (mkG (tnOf n gs zs).N nR aR pR es1) [(Str.ofString "inf", .int (infOf (capE es (tnOf n gs zs).N)) tI), (Str.ofString "flow_value", .int (k1 : Nat) tk), (Str.ofString "algorithm", .str (Str.ofString "edmonds_karp") tal)] ++ (gl g (mkG (tnOf n gs zs).N nA aA pA es) [] ++ ((404, .raw (tabObj (capPs c1))) :: (399, .raw (tabObj (genPs c2))) :: (cR, .cell (some (.ref rg.x))) :: l))))) s := H.sel (by k_sub)
  clear H
  refine b_17 (ns := ns) (vs := vs) (R.less (by decide)) T hi hlen hk (by tb_start) H1 ?_
  clear H1; intro M tM k' t' s hM H
  -- the second call
  refine x_one (st := .Return _ _) (wpAny_Return_some ?_)
  refine wpAny_Compare1 ?_
  k_fold
  refine ev_call_name ?_
  refine ev_glo F H T.toTp (by tb_start) T.gl_edmonds_karp ?_
  refine call_kwP ?_
  refine sp_cons ?_
  k_fold
  refine sp_cons ?_
  k_fold
  refine sp_cons ?_
  k_fold
  refine op_add H ?_
  clear H; intro t3 s H
  rw [e1]
  refine sp_nil ?_
  refine kw_cons ?_
  k_fold
  refine kw_cons ?_
  k_fold
  refine kw_nil ⟨(T.p_ek.keeps H.keep).keeper, call_of ?_⟩
  have H1 : St prog w B ((411, .raw (tabObj (corePs ca cb))) :: (ca, soCode augQ) :: (cb, soCode bfsQ) :: (gl rg (mkG (tnOf n gs zs).N nR aR pR es1) [(Str.ofString "inf", .int (infOf (capE es (tnOf n gs zs).N)) tI), (Str.ofString "flow_value", .int (k1 : Nat) tk), (Str.ofString "algorithm", .str (Str.ofString "edmonds_karp") tal)] ++ (gl g (mkG (tnOf n gs zs).N nA aA pA es) [] ++ ((404, .raw (tabObj (capPs c1))) :: (399, .raw (tabObj (genPs c2))) :: (cR, .cell (some (.ref rg.x))) :: (L, .ns (lwF sc (some (.ref st)) b0 a0 (some (.ref D)) ot (some (.int ((n + gs.length : Nat) : Int) ts)) (some (.ref g.x)) (some (.ref La)) (some (.int (k1 : Nat) tk)) wo' ga' (some (.int M tM)))) :: l)))) s := H.sel (by k_sub)
  clear H
  refine c_ek_old (N := (tnOf n gs zs).N) (sN := (tnOf n gs zs).src) (tN := (tnOf n gs zs).snk) (g := g) (rg := rg) (es := es) (es0 := es1) (M := M) (tM := tM) (R.less (by decide)) T GK.rlaw huv1 hed1 H1 ?_
  clear H1; intro es2 k2 f2 tk2 tal2 s hi2 hed2 huv2 hst2 H
  k_fold
  refine sub_dS H (kvs := [(Str.ofString "inf", .int (infOf (capE es (tnOf n gs zs).N)) tI), (Str.ofString "flow_value", .int (k2 : Nat) tk2), (Str.ofString "algorithm", .str (Str.ofString "edmonds_karp") tal2)]) (by tb_start) (v := .int (k2 : Nat) tk2) (by rfl) ?_
  clear H; intro s H
  refine ev_call_name ?_
  refine ev_blt F H T.toTp (by tb_start) T.gb_min rfl (by decide) ?_
  refine call_pos ?_
  refine sp_cons ?_
  k_fold
  refine sp_cons ?_
  k_fold
  refine sp_nil ⟨keeps_blt, ?_⟩
  refine min2 R.none H ?_
  clear H; intro t6 s H
  have hsec := GK.second hM huv1 hi1 hsh1 huv2 hi2 hst2
  refine PyProof.Rows.eq_int ?_
  rw [show ((k2 : Int) == min M (k1 : Int)) = true from beq_iff_eq.mpr hsec]
  exact h _ _ ⟨⟨_, by tb_start⟩, ⟨_, by tb_start⟩, ⟨_, by tb_start⟩⟩ H
end
end Mine

-- ML16
namespace Mine
open PySem PySem.W PySem.Calls PyProof.Rows Builtin Builtin.ObjectAttr

local macro_rules | `(tactic| tb_start) => `(tactic| first | with_reducible exact List.mem_cons_self | with_reducible assumption | (with_reducible apply List.mem_cons_of_mem; tb_start) | (with_reducible apply List.mem_append_left; tb_start) | (with_reducible apply List.mem_append_right; tb_start) | with_reducible exact g_x | with_reducible exact g_dx | with_reducible exact g_gr | with_reducible exact g_nd | with_reducible exact g_ad | with_reducible exact g_pr)
local macro_rules | `(tactic| tb_rel) => `(tactic| first | with_reducible exact Upd1.head | with_reducible exact Put.head | (with_reducible apply Upd1.tail; tb_rel) | (with_reducible apply Put.tail; tb_rel) | (with_reducible apply Upd1.right; tb_rel) | (with_reducible apply Upd1.append; tb_rel))
local macro_rules | `(tactic| k_ne) => `(tactic| first | (with_reducible apply Apart.head; tb_start) | (with_reducible apply Apart.head'; tb_start) | (with_reducible apply Apart.tail; k_ne))
local macro_rules | `(tactic| k_same) => `(tactic| first | with_reducible exact Split.head | (with_reducible apply Split.tail; k_same) | (with_reducible apply Split.skip; k_same))
local macro_rules | `(tactic| k_same2) => `(tactic| first | with_reducible exact SplitL.head | with_reducible exact SplitL.last | (with_reducible apply SplitL.tail; k_same2) | (with_reducible apply SplitL.skip; k_same2))
local macro_rules | `(tactic| k_sub) => `(tactic| first | with_reducible exact Sel.nil | with_reducible exact Sel.all | (with_reducible refine Sel.cons (by k_same) ?_; k_sub) | (with_reducible refine Sel.app (by k_same2) ?_; k_sub) | (with_reducible exact Sel.one (by k_same2)))
set_option hygiene false in
local macro_rules | `(tactic| k_flat) => `(tactic| simp only [frameOf, List.map_cons, List.map_nil, List.cons_append, List.nil_append, List.append_nil] at H)
set_option hygiene false in
local macro_rules | `(tactic| tb_lt) => `(tactic| first
  | (with_reducible refine ev_loc F H (by tb_start) (by tb_start) (by tb_start) ?_)
  | (with_reducible refine ev_int H ?_; clear H; intro _ s H)
  | (with_reducible refine ev_str H ?_; clear H; intro _ s H)
  | (with_reducible refine ev_none ?_)
  | (with_reducible refine ev_bool ?_)
  | (with_reducible refine ev_cel F H (by tb_start) (by tb_start) ?_)
  | (with_reducible refine Attribute_any_ ?_)
  | (with_reducible refine Subscript_ ?_)
  | (with_reducible refine wpAny_BinOp ?_)
  | (with_reducible refine wpAny_Compare1 ?_)
  | ((with_reducible show wpAny _ _ (getAttr _ _ _) _ _ _); refine at_own H T.X (H.inst (by tb_start) (by tb_start)) T.o__adj_395 (by rfl) (by rfl) ?_; clear H; intro s H)
  | ((with_reducible show wpAny _ _ (getAttr _ _ _) _ _ _); refine at_own H T.X (H.inst (by tb_start) (by tb_start)) T.o__node_395 (by rfl) (by rfl) ?_; clear H; intro s H)
  | ((with_reducible show wpAny _ _ (getAttr _ _ _) _ _ _); refine at_own H T.X (H.inst (by tb_start) (by tb_start)) T.o__pred_395 (by rfl) (by rfl) ?_; clear H; intro s H)
  | ((with_reducible show wpAny _ _ (getAttr _ _ _) _ _ _); refine at_own H T.X (H.inst (by tb_start) (by tb_start)) T.o_graph_395 (by rfl) (by rfl) ?_; clear H; intro s H))
set_option hygiene false in
local macro_rules | `(tactic| k_upd) => `(tactic| (refine st_loc2 F H (by tb_start) (by tb_start) (by tb_rel) (by tb_rel) ?_; clear H; intro s H))
set_option hygiene false in
local macro_rules | `(tactic| k_fold) => `(tactic| (repeat tb_lt))
set_option hygiene false in
local macro_rules | `(tactic| one_item) => `(tactic| (refine ev_call_name ?_; refine ev_glo F H T.toTp (by tb_start) T.gl__law_next ?_; refine call_pos ?_; refine sp_cons ?_; k_fold; refine sp_cons ?_; k_fold; refine sp_nil ⟨(T.p_next.keeps H.keep).keeper, call_of ?_⟩))


section
variable {w : World} {A : Around} {B : Bs} {l l' : Ledger} {s : Shared} {mg mb : Str → Option Value} {K : Frag} {v : Value} {env : Env} {a : Addr} {g rg : GA} {vs : List Value} {ns : List Int}
theorem prs_len {n : Nat} (h : n ≤ 5) : (prs n).length ≤ 20 := by
  have : n = 0 ∨ n = 1 ∨ n = 2 ∨ n = 3 ∨ n = 4 ∨ n = 5 := by omega
  rcases this with rfl | rfl | rfl | rfl | rfl | rfl <;> decide
theorem b_law {L fa cR chd cco ck csc cn : Addr} {cd : Value} {Q : Flow → Shared → Prop} (R : Room A 27) (T : KP mg mb K B.h) (hscr : B.h.IsList a vs.toArray) (hi : IntsAre vs ns) (hlen : vs.length ≤ 63)
    (H : St prog w B ((L, .ns (lwF (some (.ref a)) none none none none none none none none none none none none)) :: (cR, .cell none) :: (chd, .cell none) :: (cco, .cell none) :: (ck, .cell none) :: (csc, .cell none) :: (cn, .cell none) :: (411, .raw (tabObj #[])) :: (404, .raw (tabObj #[])) :: (399, .raw (tabObj #[])) :: l) s)
    (h : ∀ l' s', Tabs3 l' → St prog w B l' s' → Q (.ret (.bool true)) s') :
    WP prog w A (execs (bodyS dLaw) (lwEnv L fa cd cR chd cco ck csc cn)) Q s := by
  refine x_cons ?_
  refine b_0 T hscr hi hlen H ?_
  clear H; intro st sl vs' ns' t s hi' hlen' H
  have H1 : St prog w B ((cn, .cell none) :: (st, .lw [.ref sl, .int 0 t]) :: (L, .ns (lwF (some (.ref a)) (some (.ref st)) none none none none none none none none none none none)) :: ((sl, .ls vs') :: (cR, .cell none) :: (chd, .cell none) :: (cco, .cell none) :: (ck, .cell none) :: (csc, .cell none) :: (411, .raw (tabObj #[])) :: (404, .raw (tabObj #[])) :: (399, .raw (tabObj #[])) :: l)) s := H.sel (by k_sub)
  clear H
  refine x_cons ?_
  refine b_1 (R.less (by decide)) T hi' hlen' (by decide) (by tb_start) H1 ?_
  clear H1; intro n k1 t1 tn s hn1 hn hk1 H
  have H1 : St prog w B ((L, .ns (lwF (some (.ref a)) (some (.ref st)) none none none none none none none none none none none)) :: ((cn, .cell (some (.int (n : Nat) tn))) :: (st, .lw [.ref sl, .int k1 t1]) :: (sl, .ls vs') :: (cR, .cell none) :: (chd, .cell none) :: (cco, .cell none) :: (ck, .cell none) :: (csc, .cell none) :: (411, .raw (tabObj #[])) :: (404, .raw (tabObj #[])) :: (399, .raw (tabObj #[])) :: l)) s := H.sel (by k_sub)
  clear H
  refine x_cons ?_
  refine b_games (n := n) (tn := tn) (R.less (by decide)) T hn (by tb_start) H1 ?_
  clear H1; intro D gs s hgp H
  have hg : gs.length ≤ 20 := by have := congrArg List.length hgp; rw [List.length_map] at this; rw [this]; exact prs_len hn
  have hgs : ∀ r ∈ gs, r.a < r.b ∧ r.b < n := fun r hr => by
    have : (r.a, r.b) ∈ gs.map (fun r => (r.a, r.b)) := List.mem_map_of_mem hr
    rw [hgp] at this
    exact prs_mem this
  have H1 : St prog w B ((csc, .cell none) :: ((D, .ls (gmV gs)) :: (L, .ns (lwF (some (.ref a)) (some (.ref st)) none none (some (.ref D)) none none none none none none none none)) :: (cn, .cell (some (.int (n : Nat) tn))) :: (st, .lw [.ref sl, .int k1 t1]) :: (sl, .ls vs') :: (cR, .cell none) :: (chd, .cell none) :: (cco, .cell none) :: (ck, .cell none) :: (gmT gs ++ (411, .raw (tabObj #[])) :: (404, .raw (tabObj #[])) :: (399, .raw (tabObj #[])) :: l))) s := H.sel (by k_sub)
  clear H
  refine x_cons ?_
  refine b_3 (n := n) (tn := tn) (fr := []) T hn (by tb_start) H1 ?_
  clear H1; intro S zs s hz hb H
  have H1 : St prog w B ((S, .lw (iv zs)) :: (st, .lw [.ref sl, .int k1 t1]) :: (L, .ns (lwF (some (.ref a)) (some (.ref st)) none none (some (.ref D)) none none none none none none none none)) :: ((D, .ls (gmV gs)) :: (csc, .cell (some (.ref S))) :: (cn, .cell (some (.int (n : Nat) tn))) :: (sl, .ls vs') :: (cR, .cell none) :: (chd, .cell none) :: (cco, .cell none) :: (ck, .cell none) :: (gmT gs ++ (411, .raw (tabObj #[])) :: (404, .raw (tabObj #[])) :: (399, .raw (tabObj #[])) :: l))) s := H.sel (by k_sub)
  clear H
  refine x_cons ?_
  refine b_deal (gm := none) (n := n) (gs := gs) (ns := ns') (R.less (by decide)) T hn hgp hz hb hi' hlen' hk1 (by tb_start) (by tb_start) (by tb_start) (fun p hp => by tb_start) H1 ?_
  clear H1 hb hz zs; intro zs k2 t2 b1 a1 s hz hb hk2 H
  have H1 : St prog w B ((S, .lw (iv zs)) :: (st, .lw [.ref sl, .int k2 t2]) :: (ck, .cell none) :: (L, .ns (lwF (some (.ref a)) (some (.ref st)) b1 a1 (some (.ref D)) none none none none none none none none)) :: ((D, .ls (gmV gs)) :: (csc, .cell (some (.ref S))) :: (cn, .cell (some (.int (n : Nat) tn))) :: (sl, .ls vs') :: (cR, .cell none) :: (chd, .cell none) :: (cco, .cell none) :: (gmT gs ++ (411, .raw (tabObj #[])) :: (404, .raw (tabObj #[])) :: (399, .raw (tabObj #[])) :: l))) s := H.sel (by k_sub)
  clear H
  refine x_cons ?_
  refine b_shuffle (n := n) (tn := tn) (m := gs.length) (ns := ns') (R.less (by decide)) T hn hn1 hz hb hg hi' hlen' hk2 (by tb_start) (by tb_start) (by tb_start) H1 ?_
  clear H1 hb hz zs; intro zs k3 t3 kv ot s hz hb hk3 H
  replace hb : Bd 1000 zs := fun z hz => by have := hb z hz; omega
  have H1 : St prog w B ((L, .ns (lwF (some (.ref a)) (some (.ref st)) b1 a1 (some (.ref D)) ot none none none none none none none)) :: ((S, .lw (iv zs)) :: (st, .lw [.ref sl, .int k3 t3]) :: (ck, .cell kv) :: (D, .ls (gmV gs)) :: (csc, .cell (some (.ref S))) :: (cn, .cell (some (.int (n : Nat) tn))) :: (sl, .ls vs') :: (cR, .cell none) :: (chd, .cell none) :: (cco, .cell none) :: (gmT gs ++ (411, .raw (tabObj #[])) :: (404, .raw (tabObj #[])) :: (399, .raw (tabObj #[])) :: l))) s := H.sel (by k_sub)
  clear H
  refine x_cons ?_
  refine b_6 (n := n) (tn := tn) T hg (by tb_start) (by tb_start) H1 ?_
  clear H1; intro ts s H
  refine x_cons ?_
  refine b_7 (R.less (by decide)) T H ?_
  clear H; intro g s H
  refine x_cons ?_
  refine b_8 (N := n + gs.length) (R.less (by decide)) T (by omega) H ?_
  clear H; intro nA aA pA s H
  have H1 : St prog w B ((ck, .cell kv) :: (L, .ns (lwF (some (.ref a)) (some (.ref st)) b1 a1 (some (.ref D)) ot (some (.int ((n + gs.length : Nat) : Int) ts)) (some (.ref g.x)) none none none none none)) :: (gl g (mkG (n + gs.length + 2) nA aA pA []) [] ++ ((S, .lw (iv zs)) :: (st, .lw [.ref sl, .int k3 t3]) :: (D, .ls (gmV gs)) :: (csc, .cell (some (.ref S))) :: (cn, .cell (some (.int (n : Nat) tn))) :: (sl, .ls vs') :: (cR, .cell none) :: (chd, .cell none) :: (cco, .cell none) :: (gmT gs ++ (411, .raw (tabObj #[])) :: (404, .raw (tabObj #[])) :: (399, .raw (tabObj #[])) :: l)))) s := H.sel (by k_sub)
  clear H
  refine x_cons ?_
  refine b_sinks (n := n) (tn := tn) (zs := zs) (gs := gs) (R.less (by decide)) T hn hg hz hb rfl (by tb_start) (by tb_start) (by tb_start) H1 ?_
  clear H1; intro es kv2 s hes hkv H
  refine x_cons ?_
  refine b_gedges (n := n) (tn := tn) (zs := zs) (gs := gs) (es := es) (R.less (by decide)) T hn hg hgs rfl (by tb_start) (by tb_start) (fun p hp => by tb_start) hes hkv H ?_
  clear H hes hkv es; intro es kv3 s hes hkv H
  have H1 : St prog w B ((L, .ns (lwF (some (.ref a)) (some (.ref st)) b1 a1 (some (.ref D)) ot (some (.int ((n + gs.length : Nat) : Int) ts)) (some (.ref g.x)) none none none none none)) :: (gl g (mkG (n + gs.length + 2) nA aA pA es) [] ++ ((ck, .cell kv3) :: (S, .lw (iv zs)) :: (st, .lw [.ref sl, .int k3 t3]) :: (D, .ls (gmV gs)) :: (csc, .cell (some (.ref S))) :: (cn, .cell (some (.int (n : Nat) tn))) :: (sl, .ls vs') :: (cR, .cell none) :: (chd, .cell none) :: (cco, .cell none) :: (gmT gs ++ (411, .raw (tabObj #[])) :: (404, .raw (tabObj #[])) :: (399, .raw (tabObj #[])) :: l)))) s := H.sel (by k_sub)
  clear H
  refine x_cons ?_
  refine b_11 H1 ?_
  clear H1; intro La s H
  have H1 : St prog w B ((cco, .cell none) :: (chd, .cell none) :: (La, .ls []) :: (L, .ns (lwF (some (.ref a)) (some (.ref st)) b1 a1 (some (.ref D)) ot (some (.int ((n + gs.length : Nat) : Int) ts)) (some (.ref g.x)) (some (.ref La)) none none none none)) :: ((gl g (mkG (n + gs.length + 2) nA aA pA es) [] ++ ((ck, .cell kv3) :: (S, .lw (iv zs)) :: (st, .lw [.ref sl, .int k3 t3]) :: (D, .ls (gmV gs)) :: (csc, .cell (some (.ref S))) :: (cn, .cell (some (.int (n : Nat) tn))) :: (sl, .ls vs') :: (cR, .cell none) :: (gmT gs ++ (411, .raw (tabObj #[])) :: (404, .raw (tabObj #[])) :: (399, .raw (tabObj #[])) :: l))))) s := H.sel (by k_sub)
  clear H
  refine x_cons ?_
  refine b_lacks (n := n) (tn := tn) (zs := zs) (gs := gs) (R.less (by decide)) T hn hg hgs hz hb (by tb_start) (by tb_start) (by tb_start) (by tb_start) (fun p hp => by tb_start) H1 ?_
  clear H1; intro ls c1 h1 s hls H
  have H1 : St prog w B ((411, .raw (tabObj #[])) :: (404, .raw (tabObj #[])) :: (399, .raw (tabObj #[])) :: (gl g (mkG (n + gs.length + 2) nA aA pA es) [] ++ ((cR, .cell none) :: (ck, .cell kv3) :: (st, .lw [.ref sl, .int k3 t3]) :: (L, .ns (lwF (some (.ref a)) (some (.ref st)) b1 a1 (some (.ref D)) ot (some (.int ((n + gs.length : Nat) : Int) ts)) (some (.ref g.x)) (some (.ref La)) none none none none)) :: ((S, .lw (iv zs)) :: (D, .ls (gmV gs)) :: (csc, .cell (some (.ref S))) :: (cn, .cell (some (.int (n : Nat) tn))) :: (sl, .ls vs') :: (La, .ls (iv ls)) :: gmT gs)))) s := H.sel (by k_sub)
  clear H
  have GK : Tn.GOk (tnOf n gs zs) es := by
    refine ⟨⟨fun j hj => ?_, fun k hk => ?_⟩, ?_, hg, fun k hk => ?_, hes, hkv⟩
    · have hj' : j < gs.length := hj
      have hr : gs[j]? = some gs[j] := List.getElem?_eq_getElem hj'
      rw [(tn_a hr).1, (tn_a hr).2]
      have := hgs _ (List.getElem_mem hj')
      show gs[j].a < n ∧ gs[j].b < n ∧ gs[j].a ≠ gs[j].b
      omega
    · have hk' : k < n := hk
      have hkl : k < zs.length := by omega
      show 0 ≤ scF zs k
      rw [scF_at hkl]
      exact (hb _ (List.getElem_mem hkl)).1
    · show n + gs.length + 2 ≤ 40
      omega
    · have hk' : k < n := hk
      have hkl : k < zs.length := by omega
      show scF zs k ≤ 1000
      rw [scF_at hkl]
      exact (hb _ (List.getElem_mem hkl)).2
  exact b_end (n := n) (tn := tn) (zs := zs) (gs := gs) (es := es) (ls := ls) (ns := ns') R T GK hn hg hgs hz hb hls hi' hlen' hk3 (by tb_start) (by tb_start) (by tb_start) (by tb_start) (fun p hp => by tb_start) (by tb_start) (by tb_start) H1 h
theorem c_law {fa : Addr} {cdv : Value} {Q : Value → Shared → Prop} (R : Room A 28) (T : KP mg mb K B.h) (hF : FnAt s.heap fa "law" (argsS dLaw) (bodyS dLaw) (scopeS dLaw) [] .none .none cdv) (hscr : B.h.IsList a vs.toArray) (hi : IntsAre vs ns) (hlen : vs.length ≤ 63)
    (H : St prog w B ((411, .raw (tabObj #[])) :: (404, .raw (tabObj #[])) :: (399, .raw (tabObj #[])) :: l) s) (h : ∀ l' s', Tabs3 l' → St prog w B l' s' → Q (.bool true) s') : WC prog w A (.ref fa) [.ref a] [] Q s := by
  refine call_cells ["script"] [] ["state", "b", "a", "games", "other", "source", "G", "lacks", "value", "won", "gave", "most"] ["R", "held", "code", "k", "scores", "n"] R T.nolimit hF (by kernel_rfl) fun name doc pm an ct => ?_
  refine wpAny_of_eq (a := ([("script", .ref a)] : List (Str × Value))) (by kernel_rfl) ?_
  refine ⟨_, [("script", .ref a)], [], [none, none, none, none, none, none], H, by kernel_rfl, by kernel_rfl, rfl, rfl, by kernel_rfl, fun L cs s hcs H => ?_⟩
  obtain ⟨cR, chd, cco, ck, csc, cn, rfl⟩ := cs6 hcs
  have R1 := Room.deeper (env := lwEnv L fa cdv cR chd cco ck csc cn) (n := 27) R
  unfold cellsOf cellsOf cellsOf cellsOf cellsOf cellsOf cellsOf at H
  k_flat
  show WP prog w (A.deeper (lwEnv L fa cdv cR chd cco ck csc cn)) (execs (bodyS dLaw) (lwEnv L fa cdv cR chd cco ck csc cn)) _ s
  exact b_law R1 T hscr hi hlen H fun l' s' h3 H' => h l' s' h3 H'
end
end Mine

-- J3
namespace Mine
open PySem PySem.W PySem.Calls PyProof.Rows
section
variable {w : World} {l : Ledger} {s₁ s' : Shared} {mg mb : Str → Option Value}
abbrev tabs3 : List (Addr × Addr) := [(415, 411), (408, 404), (401, 399)]
theorem room0 : Room callerA 28 := ⟨rfl, by decide, by decide⟩
theorem st_first {B : Bs} (hT : TabsAt tabs3 s₁.heap) (hB : B.h = ghostOf s₁.heap tabs3) (hos : B.os = s₁.os) (hg : s₁.gens = #[]) : St prog w B [(411, .raw (tabObj #[])), (404, .raw (tabObj #[])), (399, .raw (tabObj #[]))] s₁ := by
  refine ⟨fun b o e => ?_, fun p hp => ?_, by decide, hos.symm, ?_⟩
  · rw [hB] at e; exact of_hideAll _ e
  · have key : ∀ q ∈ tabs3, (∃ o, s₁.heap.get? q.2 = some o ∧ (SO.raw (tabObj #[])).on prog w o) ∧ B.h.get? q.2 = none := fun q hq => by
      refine ⟨⟨_, (hT q hq).2, rfl, rfl⟩, ?_⟩
      rw [hB]
      exact hideAll_none _ (List.mem_map_of_mem hq)
    simp only [List.mem_cons, List.not_mem_nil, or_false] at hp
    rcases hp with rfl | rfl | rfl
    · exact ⟨(key (415, 411) (by simp)).1, (key (415, 411) (by simp)).2, by decide⟩
    · exact ⟨(key (408, 404) (by simp)).1, (key (408, 404) (by simp)).2, by decide⟩
    · exact ⟨(key (401, 399) (by simp)).1, (key (401, 399) (by simp)).2, by decide⟩
  · rw [hg]; exact AllBare.of_eq rfl
theorem st_last {B : Bs} {cw : ClaimW} {cl : Str → Option Addr} {mean : ExcName → Option Value} {args : List WData} (hT : TabsAt tabs3 s₁.heap) (hB : B.h = ghostOf s₁.heap tabs3) (hos : B.os = s₁.os) (hr : ∀ x, cw.raises args x = false) (hp : cw.post args (.bool true) args = true)
    (h3 : Tabs3 l) (H : St prog w B l s') : GoodWG cw cl mean args s₁ (.ok (.ret (.bool true))) s' := by
  have tab : ∀ q ∈ tabs3, ∃ ps, s'.heap.get? q.2 = some (tabObj ps) := by
    obtain ⟨⟨p1, h1⟩, ⟨p2, h2⟩, ⟨p3, h3⟩⟩ := h3
    intro q hq
    simp only [List.mem_cons, List.not_mem_nil, or_false] at hq
    rcases hq with rfl | rfl | rfl
    · exact ⟨_, H.raw h1⟩
    · exact ⟨_, H.raw h2⟩
    · exact ⟨_, H.raw h3⟩
  have keep : ∀ b o, b ∉ tabs3.map (·.2) → s₁.heap.get? b = some o → s'.heap.get? b = some o := fun b o hb e => H.keep b o (by rw [hB]; exact ghost_ne e hb)
  have grown : ∀ b o, b ∈ tabs3.map (·.2) → s₁.heap.get? b = some o → isCodeTable s₁.heap b ∧ o = tabObj #[] ∧ ∃ ps, s'.heap.get? b = some (tabObj ps) := fun b o hb e => by
    obtain ⟨q, hq, rfl⟩ := List.mem_map.mp hb
    have e2 := (hT q hq).2
    rw [e] at e2
    exact ⟨((hT q hq).1.tab (hT q hq).2).isCodeTable, Option.some.inj e2, tab q hq⟩
  refine ⟨.inl ⟨_, .bool true, [], rfl, hr, .bool true, hp, unshared_nil⟩, ⟨fun b o e => ?_, fun b o e => ?_⟩, H.os.trans hos, H.gens⟩
  · by_cases hb : b ∈ tabs3.map (·.2)
    · obtain ⟨ht, rfl, ps, hP⟩ := grown b o hb e
      exact .inr (.inl ⟨ht, rfl, #[], ps, rfl, by rw [Array.empty_append]; exact hP⟩)
    · exact .inl (keep b o hb e)
  · by_cases hb : b ∈ tabs3.map (·.2)
    · obtain ⟨_, _, ps, hP⟩ := grown b o hb e
      exact ⟨_, hP⟩
    · exact ⟨o, keep b o hb e⟩
end
end Mine

-- J4
open PySem PySem.W PySem.Calls PyProof.Rows
set_option maxHeartbeats 8000000 in
theorem PySem.Challenge.cw_bs0018_01_holds : PySem.Challenge.rw_bs0018_01.Holds := by
  exact Mine.topHd (by
    k_fill
    intro w s₀ s₁ mg mb G Y fa o pm cd doc dV kV ho hdd hcd hD hmg hg args vals as hpre hlay hrd hwl hlo
    have KX := km_in_of Y
    km_tabs Y
    refine Ground.open G ?_
    intro T B D TE TW
    have edV := Dflts.none hD rfl
    subst edV
    have ekV := Dflts.kw_none hD (by first | rfl | kernel_rfl)
    subst ekV
    clear hmg
    have hF : Mine.FnAt s₁.heap fa "law" (Mine.argsS Mine.dLaw) (Mine.bodyS Mine.dLaw) (Mine.scopeS Mine.dLaw) [] .none .none cd := ⟨⟨o, _, _, _, _, _, ho, hdd⟩, hcd⟩
    clear hD hdd hcd ho
    have hT9 : TabsAt Mine.tabs3 s₁.heap := by
      intro q hq
      simp only [List.mem_cons, List.not_mem_nil, or_false] at hq
      rcases hq with rfl | rfl | rfl
      · exact ⟨codeHd_of_K (c := 415) (P := 411) KX (by kernel_rfl), hT8 411 (by simp)⟩
      · exact ⟨codeHd_of_K (c := 408) (P := 404) KX (by kernel_rfl), hT8 404 (by simp)⟩
      · exact tab_of (x := "build_residual_network") T KX (by rfl) (by kernel_rfl)
    have GT := ghost_top hT9 T
    obtain ⟨hc1, hc2, hc3, _⟩ := ghost_code hT9
    have TP : Mine.Tp mg mb (Mine.topHd.heap_39 w.params) (ghostOf s₁.heap Mine.tabs3) := ⟨GT.g, GT.b, GT.nolimit, GT.builtins, ghost_K hT9 KX (by kernel_rfl)⟩
    have KP := Mine.kp_inst w.params mg mb (ghostOf s₁.heap Mine.tabs3) TP
      (mg_of KX T.g (by kernel_rfl)) (mg_of KX T.g (by kernel_rfl)) (mg_of KX T.g (by kernel_rfl)) (mg_of KX T.g (by kernel_rfl)) (mg_of KX T.g (by kernel_rfl)) (mg_of KX T.g (by kernel_rfl)) (mg_of KX T.g (by kernel_rfl)) (mg_of KX T.g (by kernel_rfl)) (mg_of KX T.g (by kernel_rfl))
      (mg_none_of KX T.g (by kernel_rfl)) (mg_none_of KX T.g (by kernel_rfl)) (mg_none_of KX T.g (by kernel_rfl)) (mg_none_of KX T.g (by kernel_rfl)) (mg_none_of KX T.g (by kernel_rfl)) (mg_none_of KX T.g (by kernel_rfl)) (mg_none_of KX T.g (by kernel_rfl))
      (mg_none_of KX T.g (by kernel_rfl)) (mg_none_of KX T.g (by kernel_rfl)) (mg_none_of KX T.g (by kernel_rfl)) (mg_none_of KX T.g (by kernel_rfl)) (mg_none_of KX T.g (by kernel_rfl)) (mg_none_of KX T.g (by kernel_rfl)) (mg_none_of KX T.g (by kernel_rfl))
      GT.bmain hc1 hc2 hc3
    wrow_args hpre hlay hrd hwl hlo
    rename_i ns _ _ _ _ _ _ _ a vs _ hL _ _ _ hI _ hle _
    have hlen : vs.length ≤ 63 := by have := hI.length; omega
    have big : ∃ b o, 1 < b ∧ (ghostOf s₁.heap Mine.tabs3).get? b = some o := by
      obtain ⟨o, _, _, _, _, _, ho, _⟩ := KP.f_init.ex
      exact ⟨_, o, by decide, ho⟩
    let BB : Mine.Bs := ⟨ghostOf s₁.heap Mine.tabs3, s₁.os, big⟩
    have H0 := Mine.st_first (w := w) (B := BB) hT9 rfl rfl hg
    show wpAny _ _ (call (Value.ref fa) [Value.ref a]) _ _ _
    refine wpAny_mono (E := Mine.NoE) (Mine.call_of (Mine.c_law (B := BB) (ns := ns) (l := []) Mine.room0 KP hF (ghost_list hT9 hL) hI hlen H0 (Q := fun v s' => v = .bool true ∧ ∃ l, Mine.Tabs3 l ∧ Mine.St Mine.prog w BB l s') (fun l' s' h3 H' => ⟨rfl, l', h3, H'⟩))) (fun v s' hv => ?_) (fun _ _ e => e.elim)
    obtain ⟨rfl, l', h3, H'⟩ := hv
    exact Mine.st_last (B := BB) hT9 rfl rfl (fun _ => rfl) (by wrow_post) h3 H')
